import PyProof.Rows.All
import Wide.All
import OpenK.AllK
import Wide.FinOn
import PyProof.DictItems
import PyProof.DictKinds
import PySem.Challenge.RW_rs0215_04
set_option Elab.async false
set_option genInjectivity false
set_option genSizeOf false
set_option genSizeOfSpec false
set_option maxRecDepth 100000
set_option maxHeartbeats 8000000
set_option linter.unusedVariables false
set_option linter.unusedSimpArgs false
namespace Mine
theorem nso {α:Type} {x:α} {P:Prop} (h:(none:Option α)=some x):P:=nomatch h
theorem nsn {α:Type} {x:α} {P:Prop} (h:some x=(none:Option α)):P:=nomatch h
theorem nbt {P:Prop} (h:false=true):P:=nomatch h
theorem nbf {P:Prop} (h:true=false):P:=nomatch h
theorem by_goal {G:Prop} (h:∀ P:Prop,(G->P)->P):G:=h G id
theorem sbn {α β:Type} {x:Option α} {f:α->Option β} {y:β} {P:Prop} (k:∀ a,x=some a->f a=some y->P):x.bind f=some y->P:=by
 intro h
 cases x with
 | none=>exact nso h
 | some a=>exact k a rfl h
theorem ifs {α:Type} {c:Prop} [Decidable c] {a:Option α} {z:α} {P:Prop} (g:c->a=some z->P) (h:(if c then a else none)=some z):P:=by
 by_cases q:c
 ·rw [if_pos q] at h;exact g q h
 ·rw [if_neg q] at h;exact nso h
theorem and2 {a b:Bool} (h:(a && b)=true):a=true/\b=true:=Bool.and_eq_true a b ▸ h
theorem and3 {a b c:Bool} (h:(a && b && c)=true):(a=true/\b=true)/\c=true:=⟨and2 (and2 h).1,(and2 h).2⟩
theorem mem2 {α:Type} {P:α->Prop} {x y:α} (h1:P x) (h2:P y):∀ b∈[x,y],P b:=fun b hb=>by
 rcases List.mem_cons.mp hb with rfl | hb
 ·exact h1
 ·rw [List.mem_singleton.mp hb];exact h2
theorem e0a3  {p0 p1 p2:Prop} {G:Prop}:(p0/\p1/\p2)->(p0->p1->p2->G)->G:=fun h k=>k h.1 h.2.1 h.2.2
theorem e0a4  {p0 p1 p2 p3:Prop} {G:Prop}:(p0/\p1/\p2/\p3)->(p0->p1->p2->p3->G)->G:=fun h k=>k h.1 h.2.1 h.2.2.1 h.2.2.2
theorem e0a5  {p0 p1 p2 p3 p4:Prop} {G:Prop}:(p0/\p1/\p2/\p3/\p4)->(p0->p1->p2->p3->p4->G)->G:=fun h k=>k h.1 h.2.1 h.2.2.1 h.2.2.2.1 h.2.2.2.2
theorem e0a6  {p0 p1 p2 p3 p4 p5:Prop} {G:Prop}:(p0/\p1/\p2/\p3/\p4/\p5)->(p0->p1->p2->p3->p4->p5->G)->G:=fun h k=>k h.1 h.2.1 h.2.2.1 h.2.2.2.1 h.2.2.2.2.1 h.2.2.2.2.2
theorem e1a1.{u0} {t0:Sort u0} {p0:t0->Prop} {G:Prop}:(∃ a0,p0 a0)->(∀ (a0:t0),p0 a0->G)->G:=fun h k=>h.elim fun a0 h=>k a0 h
theorem e1a2.{u0} {t0:Sort u0} {p0 p1:t0->Prop} {G:Prop}:(∃ a0,p0 a0/\p1 a0)->(∀ (a0:t0),p0 a0->p1 a0->G)->G:=fun h k=>h.elim fun a0 h=>k a0 h.1 h.2
theorem e1a3.{u0} {t0:Sort u0} {p0 p1 p2:t0->Prop} {G:Prop}:(∃ a0,p0 a0/\p1 a0/\p2 a0)->(∀ (a0:t0),p0 a0->p1 a0->p2 a0->G)->G:=fun h k=>h.elim fun a0 h=>k a0 h.1 h.2.1 h.2.2
theorem e1a4.{u0} {t0:Sort u0} {p0 p1 p2 p3:t0->Prop} {G:Prop}:(∃ a0,p0 a0/\p1 a0/\p2 a0/\p3 a0)->(∀ (a0:t0),p0 a0->p1 a0->p2 a0->p3 a0->G)->G:=fun h k=>h.elim fun a0 h=>k a0 h.1 h.2.1 h.2.2.1 h.2.2.2
theorem e1a5.{u0} {t0:Sort u0} {p0 p1 p2 p3 p4:t0->Prop} {G:Prop}:(∃ a0,p0 a0/\p1 a0/\p2 a0/\p3 a0/\p4 a0)->(∀ (a0:t0),p0 a0->p1 a0->p2 a0->p3 a0->p4 a0->G)->G:=fun h k=>h.elim fun a0 h=>k a0 h.1 h.2.1 h.2.2.1 h.2.2.2.1 h.2.2.2.2
theorem e1a6.{u0} {t0:Sort u0} {p0 p1 p2 p3 p4 p5:t0->Prop} {G:Prop}:(∃ a0,p0 a0/\p1 a0/\p2 a0/\p3 a0/\p4 a0/\p5 a0)->(∀ (a0:t0),p0 a0->p1 a0->p2 a0->p3 a0->p4 a0->p5 a0->G)->G:=fun h k=>h.elim fun a0 h=>k a0 h.1 h.2.1 h.2.2.1 h.2.2.2.1 h.2.2.2.2.1 h.2.2.2.2.2
theorem e2a1.{u0,u1} {t0:Sort u0} {t1:Sort u1} {p0:t0->t1->Prop} {G:Prop}:(∃ a0 a1,p0 a0 a1)->(∀ (a0:t0) (a1:t1),p0 a0 a1->G)->G:=fun h k=>h.elim fun a0 h=>h.elim fun a1 h=>k a0 a1 h
theorem e2a2.{u0,u1} {t0:Sort u0} {t1:Sort u1} {p0 p1:t0->t1->Prop} {G:Prop}:(∃ a0 a1,p0 a0 a1/\p1 a0 a1)->(∀ (a0:t0) (a1:t1),p0 a0 a1->p1 a0 a1->G)->G:=fun h k=>h.elim fun a0 h=>h.elim fun a1 h=>k a0 a1 h.1 h.2
theorem e2a3.{u0,u1} {t0:Sort u0} {t1:Sort u1} {p0 p1 p2:t0->t1->Prop} {G:Prop}:(∃ a0 a1,p0 a0 a1/\p1 a0 a1/\p2 a0 a1)->(∀ (a0:t0) (a1:t1),p0 a0 a1->p1 a0 a1->p2 a0 a1->G)->G:=fun h k=>h.elim fun a0 h=>h.elim fun a1 h=>k a0 a1 h.1 h.2.1 h.2.2
theorem e2a4.{u0,u1} {t0:Sort u0} {t1:Sort u1} {p0 p1 p2 p3:t0->t1->Prop} {G:Prop}:(∃ a0 a1,p0 a0 a1/\p1 a0 a1/\p2 a0 a1/\p3 a0 a1)->(∀ (a0:t0) (a1:t1),p0 a0 a1->p1 a0 a1->p2 a0 a1->p3 a0 a1->G)->G:=fun h k=>h.elim fun a0 h=>h.elim fun a1 h=>k a0 a1 h.1 h.2.1 h.2.2.1 h.2.2.2
theorem e2a6.{u0,u1} {t0:Sort u0} {t1:Sort u1} {p0 p1 p2 p3 p4 p5:t0->t1->Prop} {G:Prop}:(∃ a0 a1,p0 a0 a1/\p1 a0 a1/\p2 a0 a1/\p3 a0 a1/\p4 a0 a1/\p5 a0 a1)->(∀ (a0:t0) (a1:t1),p0 a0 a1->p1 a0 a1->p2 a0 a1->p3 a0 a1->p4 a0 a1->p5 a0 a1->G)->G:=fun h k=>h.elim fun a0 h=>h.elim fun a1 h=>k a0 a1 h.1 h.2.1 h.2.2.1 h.2.2.2.1 h.2.2.2.2.1 h.2.2.2.2.2
theorem e3a1.{u0,u1,u2} {t0:Sort u0} {t1:Sort u1} {t2:Sort u2} {p0:t0->t1->t2->Prop} {G:Prop}:(∃ a0 a1 a2,p0 a0 a1 a2)->(∀ (a0:t0) (a1:t1) (a2:t2),p0 a0 a1 a2->G)->G:=fun h k=>h.elim fun a0 h=>h.elim fun a1 h=>h.elim fun a2 h=>k a0 a1 a2 h
theorem e3a2.{u0,u1,u2} {t0:Sort u0} {t1:Sort u1} {t2:Sort u2} {p0 p1:t0->t1->t2->Prop} {G:Prop}:(∃ a0 a1 a2,p0 a0 a1 a2/\p1 a0 a1 a2)->(∀ (a0:t0) (a1:t1) (a2:t2),p0 a0 a1 a2->p1 a0 a1 a2->G)->G:=fun h k=>h.elim fun a0 h=>h.elim fun a1 h=>h.elim fun a2 h=>k a0 a1 a2 h.1 h.2
theorem e3a3.{u0,u1,u2} {t0:Sort u0} {t1:Sort u1} {t2:Sort u2} {p0 p1 p2:t0->t1->t2->Prop} {G:Prop}:(∃ a0 a1 a2,p0 a0 a1 a2/\p1 a0 a1 a2/\p2 a0 a1 a2)->(∀ (a0:t0) (a1:t1) (a2:t2),p0 a0 a1 a2->p1 a0 a1 a2->p2 a0 a1 a2->G)->G:=fun h k=>h.elim fun a0 h=>h.elim fun a1 h=>h.elim fun a2 h=>k a0 a1 a2 h.1 h.2.1 h.2.2
theorem e3a4.{u0,u1,u2} {t0:Sort u0} {t1:Sort u1} {t2:Sort u2} {p0 p1 p2 p3:t0->t1->t2->Prop} {G:Prop}:(∃ a0 a1 a2,p0 a0 a1 a2/\p1 a0 a1 a2/\p2 a0 a1 a2/\p3 a0 a1 a2)->(∀ (a0:t0) (a1:t1) (a2:t2),p0 a0 a1 a2->p1 a0 a1 a2->p2 a0 a1 a2->p3 a0 a1 a2->G)->G:=fun h k=>h.elim fun a0 h=>h.elim fun a1 h=>h.elim fun a2 h=>k a0 a1 a2 h.1 h.2.1 h.2.2.1 h.2.2.2
theorem e3a5.{u0,u1,u2} {t0:Sort u0} {t1:Sort u1} {t2:Sort u2} {p0 p1 p2 p3 p4:t0->t1->t2->Prop} {G:Prop}:(∃ a0 a1 a2,p0 a0 a1 a2/\p1 a0 a1 a2/\p2 a0 a1 a2/\p3 a0 a1 a2/\p4 a0 a1 a2)->(∀ (a0:t0) (a1:t1) (a2:t2),p0 a0 a1 a2->p1 a0 a1 a2->p2 a0 a1 a2->p3 a0 a1 a2->p4 a0 a1 a2->G)->G:=fun h k=>h.elim fun a0 h=>h.elim fun a1 h=>h.elim fun a2 h=>k a0 a1 a2 h.1 h.2.1 h.2.2.1 h.2.2.2.1 h.2.2.2.2
theorem e3a6.{u0,u1,u2} {t0:Sort u0} {t1:Sort u1} {t2:Sort u2} {p0 p1 p2 p3 p4 p5:t0->t1->t2->Prop} {G:Prop}:(∃ a0 a1 a2,p0 a0 a1 a2/\p1 a0 a1 a2/\p2 a0 a1 a2/\p3 a0 a1 a2/\p4 a0 a1 a2/\p5 a0 a1 a2)->(∀ (a0:t0) (a1:t1) (a2:t2),p0 a0 a1 a2->p1 a0 a1 a2->p2 a0 a1 a2->p3 a0 a1 a2->p4 a0 a1 a2->p5 a0 a1 a2->G)->G:=fun h k=>h.elim fun a0 h=>h.elim fun a1 h=>h.elim fun a2 h=>k a0 a1 a2 h.1 h.2.1 h.2.2.1 h.2.2.2.1 h.2.2.2.2.1 h.2.2.2.2.2
theorem e3a7.{u0,u1,u2} {t0:Sort u0} {t1:Sort u1} {t2:Sort u2} {p0 p1 p2 p3 p4 p5 p6:t0->t1->t2->Prop} {G:Prop}:(∃ a0 a1 a2,p0 a0 a1 a2/\p1 a0 a1 a2/\p2 a0 a1 a2/\p3 a0 a1 a2/\p4 a0 a1 a2/\p5 a0 a1 a2/\p6 a0 a1 a2)->(∀ (a0:t0) (a1:t1) (a2:t2),p0 a0 a1 a2->p1 a0 a1 a2->p2 a0 a1 a2->p3 a0 a1 a2->p4 a0 a1 a2->p5 a0 a1 a2->p6 a0 a1 a2->G)->G:=fun h k=>h.elim fun a0 h=>h.elim fun a1 h=>h.elim fun a2 h=>k a0 a1 a2 h.1 h.2.1 h.2.2.1 h.2.2.2.1 h.2.2.2.2.1 h.2.2.2.2.2.1 h.2.2.2.2.2.2
theorem e4a1.{u0,u1,u2,u3} {t0:Sort u0} {t1:Sort u1} {t2:Sort u2} {t3:Sort u3} {p0:t0->t1->t2->t3->Prop} {G:Prop}:(∃ a0 a1 a2 a3,p0 a0 a1 a2 a3)->(∀ (a0:t0) (a1:t1) (a2:t2) (a3:t3),p0 a0 a1 a2 a3->G)->G:=fun h k=>h.elim fun a0 h=>h.elim fun a1 h=>h.elim fun a2 h=>h.elim fun a3 h=>k a0 a1 a2 a3 h
theorem e4a2.{u0,u1,u2,u3} {t0:Sort u0} {t1:Sort u1} {t2:Sort u2} {t3:Sort u3} {p0 p1:t0->t1->t2->t3->Prop} {G:Prop}:(∃ a0 a1 a2 a3,p0 a0 a1 a2 a3/\p1 a0 a1 a2 a3)->(∀ (a0:t0) (a1:t1) (a2:t2) (a3:t3),p0 a0 a1 a2 a3->p1 a0 a1 a2 a3->G)->G:=fun h k=>h.elim fun a0 h=>h.elim fun a1 h=>h.elim fun a2 h=>h.elim fun a3 h=>k a0 a1 a2 a3 h.1 h.2
theorem e4a3.{u0,u1,u2,u3} {t0:Sort u0} {t1:Sort u1} {t2:Sort u2} {t3:Sort u3} {p0 p1 p2:t0->t1->t2->t3->Prop} {G:Prop}:(∃ a0 a1 a2 a3,p0 a0 a1 a2 a3/\p1 a0 a1 a2 a3/\p2 a0 a1 a2 a3)->(∀ (a0:t0) (a1:t1) (a2:t2) (a3:t3),p0 a0 a1 a2 a3->p1 a0 a1 a2 a3->p2 a0 a1 a2 a3->G)->G:=fun h k=>h.elim fun a0 h=>h.elim fun a1 h=>h.elim fun a2 h=>h.elim fun a3 h=>k a0 a1 a2 a3 h.1 h.2.1 h.2.2
theorem e4a4.{u0,u1,u2,u3} {t0:Sort u0} {t1:Sort u1} {t2:Sort u2} {t3:Sort u3} {p0 p1 p2 p3:t0->t1->t2->t3->Prop} {G:Prop}:(∃ a0 a1 a2 a3,p0 a0 a1 a2 a3/\p1 a0 a1 a2 a3/\p2 a0 a1 a2 a3/\p3 a0 a1 a2 a3)->(∀ (a0:t0) (a1:t1) (a2:t2) (a3:t3),p0 a0 a1 a2 a3->p1 a0 a1 a2 a3->p2 a0 a1 a2 a3->p3 a0 a1 a2 a3->G)->G:=fun h k=>h.elim fun a0 h=>h.elim fun a1 h=>h.elim fun a2 h=>h.elim fun a3 h=>k a0 a1 a2 a3 h.1 h.2.1 h.2.2.1 h.2.2.2
theorem e4a5.{u0,u1,u2,u3} {t0:Sort u0} {t1:Sort u1} {t2:Sort u2} {t3:Sort u3} {p0 p1 p2 p3 p4:t0->t1->t2->t3->Prop} {G:Prop}:(∃ a0 a1 a2 a3,p0 a0 a1 a2 a3/\p1 a0 a1 a2 a3/\p2 a0 a1 a2 a3/\p3 a0 a1 a2 a3/\p4 a0 a1 a2 a3)->(∀ (a0:t0) (a1:t1) (a2:t2) (a3:t3),p0 a0 a1 a2 a3->p1 a0 a1 a2 a3->p2 a0 a1 a2 a3->p3 a0 a1 a2 a3->p4 a0 a1 a2 a3->G)->G:=fun h k=>h.elim fun a0 h=>h.elim fun a1 h=>h.elim fun a2 h=>h.elim fun a3 h=>k a0 a1 a2 a3 h.1 h.2.1 h.2.2.1 h.2.2.2.1 h.2.2.2.2
theorem e4a6.{u0,u1,u2,u3} {t0:Sort u0} {t1:Sort u1} {t2:Sort u2} {t3:Sort u3} {p0 p1 p2 p3 p4 p5:t0->t1->t2->t3->Prop} {G:Prop}:(∃ a0 a1 a2 a3,p0 a0 a1 a2 a3/\p1 a0 a1 a2 a3/\p2 a0 a1 a2 a3/\p3 a0 a1 a2 a3/\p4 a0 a1 a2 a3/\p5 a0 a1 a2 a3)->(∀ (a0:t0) (a1:t1) (a2:t2) (a3:t3),p0 a0 a1 a2 a3->p1 a0 a1 a2 a3->p2 a0 a1 a2 a3->p3 a0 a1 a2 a3->p4 a0 a1 a2 a3->p5 a0 a1 a2 a3->G)->G:=fun h k=>h.elim fun a0 h=>h.elim fun a1 h=>h.elim fun a2 h=>h.elim fun a3 h=>k a0 a1 a2 a3 h.1 h.2.1 h.2.2.1 h.2.2.2.1 h.2.2.2.2.1 h.2.2.2.2.2
theorem e4a7.{u0,u1,u2,u3} {t0:Sort u0} {t1:Sort u1} {t2:Sort u2} {t3:Sort u3} {p0 p1 p2 p3 p4 p5 p6:t0->t1->t2->t3->Prop} {G:Prop}:(∃ a0 a1 a2 a3,p0 a0 a1 a2 a3/\p1 a0 a1 a2 a3/\p2 a0 a1 a2 a3/\p3 a0 a1 a2 a3/\p4 a0 a1 a2 a3/\p5 a0 a1 a2 a3/\p6 a0 a1 a2 a3)->(∀ (a0:t0) (a1:t1) (a2:t2) (a3:t3),p0 a0 a1 a2 a3->p1 a0 a1 a2 a3->p2 a0 a1 a2 a3->p3 a0 a1 a2 a3->p4 a0 a1 a2 a3->p5 a0 a1 a2 a3->p6 a0 a1 a2 a3->G)->G:=fun h k=>h.elim fun a0 h=>h.elim fun a1 h=>h.elim fun a2 h=>h.elim fun a3 h=>k a0 a1 a2 a3 h.1 h.2.1 h.2.2.1 h.2.2.2.1 h.2.2.2.2.1 h.2.2.2.2.2.1 h.2.2.2.2.2.2
theorem e5a3.{u0,u1,u2,u3,u4} {t0:Sort u0} {t1:Sort u1} {t2:Sort u2} {t3:Sort u3} {t4:Sort u4} {p0 p1 p2:t0->t1->t2->t3->t4->Prop} {G:Prop}:(∃ a0 a1 a2 a3 a4,p0 a0 a1 a2 a3 a4/\p1 a0 a1 a2 a3 a4/\p2 a0 a1 a2 a3 a4)->(∀ (a0:t0) (a1:t1) (a2:t2) (a3:t3) (a4:t4),p0 a0 a1 a2 a3 a4->p1 a0 a1 a2 a3 a4->p2 a0 a1 a2 a3 a4->G)->G:=fun h k=>h.elim fun a0 h=>h.elim fun a1 h=>h.elim fun a2 h=>h.elim fun a3 h=>h.elim fun a4 h=>k a0 a1 a2 a3 a4 h.1 h.2.1 h.2.2
theorem e5a5.{u0,u1,u2,u3,u4} {t0:Sort u0} {t1:Sort u1} {t2:Sort u2} {t3:Sort u3} {t4:Sort u4} {p0 p1 p2 p3 p4:t0->t1->t2->t3->t4->Prop} {G:Prop}:(∃ a0 a1 a2 a3 a4,p0 a0 a1 a2 a3 a4/\p1 a0 a1 a2 a3 a4/\p2 a0 a1 a2 a3 a4/\p3 a0 a1 a2 a3 a4/\p4 a0 a1 a2 a3 a4)->(∀ (a0:t0) (a1:t1) (a2:t2) (a3:t3) (a4:t4),p0 a0 a1 a2 a3 a4->p1 a0 a1 a2 a3 a4->p2 a0 a1 a2 a3 a4->p3 a0 a1 a2 a3 a4->p4 a0 a1 a2 a3 a4->G)->G:=fun h k=>h.elim fun a0 h=>h.elim fun a1 h=>h.elim fun a2 h=>h.elim fun a3 h=>h.elim fun a4 h=>k a0 a1 a2 a3 a4 h.1 h.2.1 h.2.2.1 h.2.2.2.1 h.2.2.2.2
theorem e5a6.{u0,u1,u2,u3,u4} {t0:Sort u0} {t1:Sort u1} {t2:Sort u2} {t3:Sort u3} {t4:Sort u4} {p0 p1 p2 p3 p4 p5:t0->t1->t2->t3->t4->Prop} {G:Prop}:(∃ a0 a1 a2 a3 a4,p0 a0 a1 a2 a3 a4/\p1 a0 a1 a2 a3 a4/\p2 a0 a1 a2 a3 a4/\p3 a0 a1 a2 a3 a4/\p4 a0 a1 a2 a3 a4/\p5 a0 a1 a2 a3 a4)->(∀ (a0:t0) (a1:t1) (a2:t2) (a3:t3) (a4:t4),p0 a0 a1 a2 a3 a4->p1 a0 a1 a2 a3 a4->p2 a0 a1 a2 a3 a4->p3 a0 a1 a2 a3 a4->p4 a0 a1 a2 a3 a4->p5 a0 a1 a2 a3 a4->G)->G:=fun h k=>h.elim fun a0 h=>h.elim fun a1 h=>h.elim fun a2 h=>h.elim fun a3 h=>h.elim fun a4 h=>k a0 a1 a2 a3 a4 h.1 h.2.1 h.2.2.1 h.2.2.2.1 h.2.2.2.2.1 h.2.2.2.2.2
theorem e5a8.{u0,u1,u2,u3,u4} {t0:Sort u0} {t1:Sort u1} {t2:Sort u2} {t3:Sort u3} {t4:Sort u4} {p0 p1 p2 p3 p4 p5 p6 p7:t0->t1->t2->t3->t4->Prop} {G:Prop}:(∃ a0 a1 a2 a3 a4,p0 a0 a1 a2 a3 a4/\p1 a0 a1 a2 a3 a4/\p2 a0 a1 a2 a3 a4/\p3 a0 a1 a2 a3 a4/\p4 a0 a1 a2 a3 a4/\p5 a0 a1 a2 a3 a4/\p6 a0 a1 a2 a3 a4/\p7 a0 a1 a2 a3 a4)->(∀ (a0:t0) (a1:t1) (a2:t2) (a3:t3) (a4:t4),p0 a0 a1 a2 a3 a4->p1 a0 a1 a2 a3 a4->p2 a0 a1 a2 a3 a4->p3 a0 a1 a2 a3 a4->p4 a0 a1 a2 a3 a4->p5 a0 a1 a2 a3 a4->p6 a0 a1 a2 a3 a4->p7 a0 a1 a2 a3 a4->G)->G:=fun h k=>h.elim fun a0 h=>h.elim fun a1 h=>h.elim fun a2 h=>h.elim fun a3 h=>h.elim fun a4 h=>k a0 a1 a2 a3 a4 h.1 h.2.1 h.2.2.1 h.2.2.2.1 h.2.2.2.2.1 h.2.2.2.2.2.1 h.2.2.2.2.2.2.1 h.2.2.2.2.2.2.2
theorem e6a2.{u0,u1,u2,u3,u4,u5} {t0:Sort u0} {t1:Sort u1} {t2:Sort u2} {t3:Sort u3} {t4:Sort u4} {t5:Sort u5} {p0 p1:t0->t1->t2->t3->t4->t5->Prop} {G:Prop}:(∃ a0 a1 a2 a3 a4 a5,p0 a0 a1 a2 a3 a4 a5/\p1 a0 a1 a2 a3 a4 a5)->(∀ (a0:t0) (a1:t1) (a2:t2) (a3:t3) (a4:t4) (a5:t5),p0 a0 a1 a2 a3 a4 a5->p1 a0 a1 a2 a3 a4 a5->G)->G:=fun h k=>h.elim fun a0 h=>h.elim fun a1 h=>h.elim fun a2 h=>h.elim fun a3 h=>h.elim fun a4 h=>h.elim fun a5 h=>k a0 a1 a2 a3 a4 a5 h.1 h.2
theorem e6a3.{u0,u1,u2,u3,u4,u5} {t0:Sort u0} {t1:Sort u1} {t2:Sort u2} {t3:Sort u3} {t4:Sort u4} {t5:Sort u5} {p0 p1 p2:t0->t1->t2->t3->t4->t5->Prop} {G:Prop}:(∃ a0 a1 a2 a3 a4 a5,p0 a0 a1 a2 a3 a4 a5/\p1 a0 a1 a2 a3 a4 a5/\p2 a0 a1 a2 a3 a4 a5)->(∀ (a0:t0) (a1:t1) (a2:t2) (a3:t3) (a4:t4) (a5:t5),p0 a0 a1 a2 a3 a4 a5->p1 a0 a1 a2 a3 a4 a5->p2 a0 a1 a2 a3 a4 a5->G)->G:=fun h k=>h.elim fun a0 h=>h.elim fun a1 h=>h.elim fun a2 h=>h.elim fun a3 h=>h.elim fun a4 h=>h.elim fun a5 h=>k a0 a1 a2 a3 a4 a5 h.1 h.2.1 h.2.2
theorem e6a4.{u0,u1,u2,u3,u4,u5} {t0:Sort u0} {t1:Sort u1} {t2:Sort u2} {t3:Sort u3} {t4:Sort u4} {t5:Sort u5} {p0 p1 p2 p3:t0->t1->t2->t3->t4->t5->Prop} {G:Prop}:(∃ a0 a1 a2 a3 a4 a5,p0 a0 a1 a2 a3 a4 a5/\p1 a0 a1 a2 a3 a4 a5/\p2 a0 a1 a2 a3 a4 a5/\p3 a0 a1 a2 a3 a4 a5)->(∀ (a0:t0) (a1:t1) (a2:t2) (a3:t3) (a4:t4) (a5:t5),p0 a0 a1 a2 a3 a4 a5->p1 a0 a1 a2 a3 a4 a5->p2 a0 a1 a2 a3 a4 a5->p3 a0 a1 a2 a3 a4 a5->G)->G:=fun h k=>h.elim fun a0 h=>h.elim fun a1 h=>h.elim fun a2 h=>h.elim fun a3 h=>h.elim fun a4 h=>h.elim fun a5 h=>k a0 a1 a2 a3 a4 a5 h.1 h.2.1 h.2.2.1 h.2.2.2
theorem e6a5.{u0,u1,u2,u3,u4,u5} {t0:Sort u0} {t1:Sort u1} {t2:Sort u2} {t3:Sort u3} {t4:Sort u4} {t5:Sort u5} {p0 p1 p2 p3 p4:t0->t1->t2->t3->t4->t5->Prop} {G:Prop}:(∃ a0 a1 a2 a3 a4 a5,p0 a0 a1 a2 a3 a4 a5/\p1 a0 a1 a2 a3 a4 a5/\p2 a0 a1 a2 a3 a4 a5/\p3 a0 a1 a2 a3 a4 a5/\p4 a0 a1 a2 a3 a4 a5)->(∀ (a0:t0) (a1:t1) (a2:t2) (a3:t3) (a4:t4) (a5:t5),p0 a0 a1 a2 a3 a4 a5->p1 a0 a1 a2 a3 a4 a5->p2 a0 a1 a2 a3 a4 a5->p3 a0 a1 a2 a3 a4 a5->p4 a0 a1 a2 a3 a4 a5->G)->G:=fun h k=>h.elim fun a0 h=>h.elim fun a1 h=>h.elim fun a2 h=>h.elim fun a3 h=>h.elim fun a4 h=>h.elim fun a5 h=>k a0 a1 a2 a3 a4 a5 h.1 h.2.1 h.2.2.1 h.2.2.2.1 h.2.2.2.2
theorem e6a7.{u0,u1,u2,u3,u4,u5} {t0:Sort u0} {t1:Sort u1} {t2:Sort u2} {t3:Sort u3} {t4:Sort u4} {t5:Sort u5} {p0 p1 p2 p3 p4 p5 p6:t0->t1->t2->t3->t4->t5->Prop} {G:Prop}:(∃ a0 a1 a2 a3 a4 a5,p0 a0 a1 a2 a3 a4 a5/\p1 a0 a1 a2 a3 a4 a5/\p2 a0 a1 a2 a3 a4 a5/\p3 a0 a1 a2 a3 a4 a5/\p4 a0 a1 a2 a3 a4 a5/\p5 a0 a1 a2 a3 a4 a5/\p6 a0 a1 a2 a3 a4 a5)->(∀ (a0:t0) (a1:t1) (a2:t2) (a3:t3) (a4:t4) (a5:t5),p0 a0 a1 a2 a3 a4 a5->p1 a0 a1 a2 a3 a4 a5->p2 a0 a1 a2 a3 a4 a5->p3 a0 a1 a2 a3 a4 a5->p4 a0 a1 a2 a3 a4 a5->p5 a0 a1 a2 a3 a4 a5->p6 a0 a1 a2 a3 a4 a5->G)->G:=fun h k=>h.elim fun a0 h=>h.elim fun a1 h=>h.elim fun a2 h=>h.elim fun a3 h=>h.elim fun a4 h=>h.elim fun a5 h=>k a0 a1 a2 a3 a4 a5 h.1 h.2.1 h.2.2.1 h.2.2.2.1 h.2.2.2.2.1 h.2.2.2.2.2.1 h.2.2.2.2.2.2
theorem e6a8.{u0,u1,u2,u3,u4,u5} {t0:Sort u0} {t1:Sort u1} {t2:Sort u2} {t3:Sort u3} {t4:Sort u4} {t5:Sort u5} {p0 p1 p2 p3 p4 p5 p6 p7:t0->t1->t2->t3->t4->t5->Prop} {G:Prop}:(∃ a0 a1 a2 a3 a4 a5,p0 a0 a1 a2 a3 a4 a5/\p1 a0 a1 a2 a3 a4 a5/\p2 a0 a1 a2 a3 a4 a5/\p3 a0 a1 a2 a3 a4 a5/\p4 a0 a1 a2 a3 a4 a5/\p5 a0 a1 a2 a3 a4 a5/\p6 a0 a1 a2 a3 a4 a5/\p7 a0 a1 a2 a3 a4 a5)->(∀ (a0:t0) (a1:t1) (a2:t2) (a3:t3) (a4:t4) (a5:t5),p0 a0 a1 a2 a3 a4 a5->p1 a0 a1 a2 a3 a4 a5->p2 a0 a1 a2 a3 a4 a5->p3 a0 a1 a2 a3 a4 a5->p4 a0 a1 a2 a3 a4 a5->p5 a0 a1 a2 a3 a4 a5->p6 a0 a1 a2 a3 a4 a5->p7 a0 a1 a2 a3 a4 a5->G)->G:=fun h k=>h.elim fun a0 h=>h.elim fun a1 h=>h.elim fun a2 h=>h.elim fun a3 h=>h.elim fun a4 h=>h.elim fun a5 h=>k a0 a1 a2 a3 a4 a5 h.1 h.2.1 h.2.2.1 h.2.2.2.1 h.2.2.2.2.1 h.2.2.2.2.2.1 h.2.2.2.2.2.2.1 h.2.2.2.2.2.2.2
theorem e7a1.{u0,u1,u2,u3,u4,u5,u6} {t0:Sort u0} {t1:Sort u1} {t2:Sort u2} {t3:Sort u3} {t4:Sort u4} {t5:Sort u5} {t6:Sort u6} {p0:t0->t1->t2->t3->t4->t5->t6->Prop} {G:Prop}:(∃ a0 a1 a2 a3 a4 a5 a6,p0 a0 a1 a2 a3 a4 a5 a6)->(∀ (a0:t0) (a1:t1) (a2:t2) (a3:t3) (a4:t4) (a5:t5) (a6:t6),p0 a0 a1 a2 a3 a4 a5 a6->G)->G:=fun h k=>h.elim fun a0 h=>h.elim fun a1 h=>h.elim fun a2 h=>h.elim fun a3 h=>h.elim fun a4 h=>h.elim fun a5 h=>h.elim fun a6 h=>k a0 a1 a2 a3 a4 a5 a6 h
theorem e7a2.{u0,u1,u2,u3,u4,u5,u6} {t0:Sort u0} {t1:Sort u1} {t2:Sort u2} {t3:Sort u3} {t4:Sort u4} {t5:Sort u5} {t6:Sort u6} {p0 p1:t0->t1->t2->t3->t4->t5->t6->Prop} {G:Prop}:(∃ a0 a1 a2 a3 a4 a5 a6,p0 a0 a1 a2 a3 a4 a5 a6/\p1 a0 a1 a2 a3 a4 a5 a6)->(∀ (a0:t0) (a1:t1) (a2:t2) (a3:t3) (a4:t4) (a5:t5) (a6:t6),p0 a0 a1 a2 a3 a4 a5 a6->p1 a0 a1 a2 a3 a4 a5 a6->G)->G:=fun h k=>h.elim fun a0 h=>h.elim fun a1 h=>h.elim fun a2 h=>h.elim fun a3 h=>h.elim fun a4 h=>h.elim fun a5 h=>h.elim fun a6 h=>k a0 a1 a2 a3 a4 a5 a6 h.1 h.2
theorem e7a5.{u0,u1,u2,u3,u4,u5,u6} {t0:Sort u0} {t1:Sort u1} {t2:Sort u2} {t3:Sort u3} {t4:Sort u4} {t5:Sort u5} {t6:Sort u6} {p0 p1 p2 p3 p4:t0->t1->t2->t3->t4->t5->t6->Prop} {G:Prop}:(∃ a0 a1 a2 a3 a4 a5 a6,p0 a0 a1 a2 a3 a4 a5 a6/\p1 a0 a1 a2 a3 a4 a5 a6/\p2 a0 a1 a2 a3 a4 a5 a6/\p3 a0 a1 a2 a3 a4 a5 a6/\p4 a0 a1 a2 a3 a4 a5 a6)->(∀ (a0:t0) (a1:t1) (a2:t2) (a3:t3) (a4:t4) (a5:t5) (a6:t6),p0 a0 a1 a2 a3 a4 a5 a6->p1 a0 a1 a2 a3 a4 a5 a6->p2 a0 a1 a2 a3 a4 a5 a6->p3 a0 a1 a2 a3 a4 a5 a6->p4 a0 a1 a2 a3 a4 a5 a6->G)->G:=fun h k=>h.elim fun a0 h=>h.elim fun a1 h=>h.elim fun a2 h=>h.elim fun a3 h=>h.elim fun a4 h=>h.elim fun a5 h=>h.elim fun a6 h=>k a0 a1 a2 a3 a4 a5 a6 h.1 h.2.1 h.2.2.1 h.2.2.2.1 h.2.2.2.2
theorem e7a9.{u0,u1,u2,u3,u4,u5,u6} {t0:Sort u0} {t1:Sort u1} {t2:Sort u2} {t3:Sort u3} {t4:Sort u4} {t5:Sort u5} {t6:Sort u6} {p0 p1 p2 p3 p4 p5 p6 p7 p8:t0->t1->t2->t3->t4->t5->t6->Prop} {G:Prop}:(∃ a0 a1 a2 a3 a4 a5 a6,p0 a0 a1 a2 a3 a4 a5 a6/\p1 a0 a1 a2 a3 a4 a5 a6/\p2 a0 a1 a2 a3 a4 a5 a6/\p3 a0 a1 a2 a3 a4 a5 a6/\p4 a0 a1 a2 a3 a4 a5 a6/\p5 a0 a1 a2 a3 a4 a5 a6/\p6 a0 a1 a2 a3 a4 a5 a6/\p7 a0 a1 a2 a3 a4 a5 a6/\p8 a0 a1 a2 a3 a4 a5 a6)->(∀ (a0:t0) (a1:t1) (a2:t2) (a3:t3) (a4:t4) (a5:t5) (a6:t6),p0 a0 a1 a2 a3 a4 a5 a6->p1 a0 a1 a2 a3 a4 a5 a6->p2 a0 a1 a2 a3 a4 a5 a6->p3 a0 a1 a2 a3 a4 a5 a6->p4 a0 a1 a2 a3 a4 a5 a6->p5 a0 a1 a2 a3 a4 a5 a6->p6 a0 a1 a2 a3 a4 a5 a6->p7 a0 a1 a2 a3 a4 a5 a6->p8 a0 a1 a2 a3 a4 a5 a6->G)->G:=fun h k=>h.elim fun a0 h=>h.elim fun a1 h=>h.elim fun a2 h=>h.elim fun a3 h=>h.elim fun a4 h=>h.elim fun a5 h=>h.elim fun a6 h=>k a0 a1 a2 a3 a4 a5 a6 h.1 h.2.1 h.2.2.1 h.2.2.2.1 h.2.2.2.2.1 h.2.2.2.2.2.1 h.2.2.2.2.2.2.1 h.2.2.2.2.2.2.2.1 h.2.2.2.2.2.2.2.2
theorem l3 {p0 p1 p2 G:Prop} (h:(p0/\p1)/\p2) (k:p0->p1->p2->G):G:=k h.1.1 h.1.2 h.2
theorem nt {x:Bool} (h:(!x)=true):x=false:=by induction x with
 | true=>exact h.symm
 | false=>rfl
theorem c_abd {t0:Type} {x0:List t0} {f0:t0->Bool} {x1:Bool} {x2:Prop} {i2:Decidable x2} (h:((x0.all f0) && x1 && (@decide x2 i2))=true):(((∀ y∈x0,f0 y=true))/\(x1=true))/\(x2):=⟨⟨List.all_eq_true.mp (and2 (and2 h).1).1,(and2 (and2 h).1).2⟩,of_decide_eq_true (and2 h).2⟩
theorem k_bad {x0:Bool} {t1:Type} {x1:List t1} {f1:t1->Bool} {x2:Prop} {i2:Decidable x2} {G:Prop} (h:(x0 && (x1.all f1) && (@decide x2 i2))=true) (k:(x0=true)->(∀ y∈x1,f1 y=true)->(x2)->G):G:=k ((and2 (and2 h).1).1) (List.all_eq_true.mp (and2 (and2 h).1).2) (of_decide_eq_true (and2 h).2)
theorem c_bb {x0:Bool} {x1:Bool} (h:(x0 && x1)=true):(x0=true)/\(x1=true):=⟨(and2 h).1,(and2 h).2⟩
theorem k_bb {x0:Bool} {x1:Bool} {G:Prop} (h:(x0 && x1)=true) (k:(x0=true)->(x1=true)->G):G:=k ((and2 h).1) ((and2 h).2)
theorem c_bbb {x0:Bool} {x1:Bool} {x2:Bool} (h:(x0 && x1 && x2)=true):((x0=true)/\(x1=true))/\(x2=true):=⟨⟨(and2 (and2 h).1).1,(and2 (and2 h).1).2⟩,(and2 h).2⟩
theorem k_bbb {x0:Bool} {x1:Bool} {x2:Bool} {G:Prop} (h:(x0 && x1 && x2)=true) (k:(x0=true)->(x1=true)->(x2=true)->G):G:=k ((and2 (and2 h).1).1) ((and2 (and2 h).1).2) ((and2 h).2)
theorem c_bbbb {x0:Bool} {x1:Bool} {x2:Bool} {x3:Bool} (h:(x0 && x1 && x2 && x3)=true):(((x0=true)/\(x1=true))/\(x2=true))/\(x3=true):=⟨⟨⟨(and2 (and2 (and2 h).1).1).1,(and2 (and2 (and2 h).1).1).2⟩,(and2 (and2 h).1).2⟩,(and2 h).2⟩
theorem k_bbbb {x0:Bool} {x1:Bool} {x2:Bool} {x3:Bool} {G:Prop} (h:(x0 && x1 && x2 && x3)=true) (k:(x0=true)->(x1=true)->(x2=true)->(x3=true)->G):G:=k ((and2 (and2 (and2 h).1).1).1) ((and2 (and2 (and2 h).1).1).2) ((and2 (and2 h).1).2) ((and2 h).2)
theorem k_bbbbd {x0:Bool} {x1:Bool} {x2:Bool} {x3:Bool} {x4:Prop} {i4:Decidable x4} {G:Prop} (h:(x0 && x1 && x2 && x3 && (@decide x4 i4))=true) (k:(x0=true)->(x1=true)->(x2=true)->(x3=true)->(x4)->G):G:=k ((and2 (and2 (and2 (and2 h).1).1).1).1) ((and2 (and2 (and2 (and2 h).1).1).1).2) ((and2 (and2 (and2 h).1).1).2) ((and2 (and2 h).1).2) (of_decide_eq_true (and2 h).2)
theorem k_bbbd {x0:Bool} {x1:Bool} {x2:Bool} {x3:Prop} {i3:Decidable x3} {G:Prop} (h:(x0 && x1 && x2 && (@decide x3 i3))=true) (k:(x0=true)->(x1=true)->(x2=true)->(x3)->G):G:=k ((and2 (and2 (and2 h).1).1).1) ((and2 (and2 (and2 h).1).1).2) ((and2 (and2 h).1).2) (of_decide_eq_true (and2 h).2)
theorem k_bbbdbb {x0:Bool} {x1:Bool} {x2:Bool} {x3:Prop} {i3:Decidable x3} {x4:Bool} {x5:Bool} {G:Prop} (h:(x0 && x1 && x2 && (@decide x3 i3) && x4 && x5)=true) (k:(x0=true)->(x1=true)->(x2=true)->(x3)->(x4=true)->(x5=true)->G):G:=k ((and2 (and2 (and2 (and2 (and2 h).1).1).1).1).1) ((and2 (and2 (and2 (and2 (and2 h).1).1).1).1).2) ((and2 (and2 (and2 (and2 h).1).1).1).2) (of_decide_eq_true (and2 (and2 (and2 h).1).1).2) ((and2 (and2 h).1).2) ((and2 h).2)
theorem c_bbbdd {x0:Bool} {x1:Bool} {x2:Bool} {x3:Prop} {i3:Decidable x3} {x4:Prop} {i4:Decidable x4} (h:(x0 && x1 && x2 && (@decide x3 i3) && (@decide x4 i4))=true):((((x0=true)/\(x1=true))/\(x2=true))/\(x3))/\(x4):=⟨⟨⟨⟨(and2 (and2 (and2 (and2 h).1).1).1).1,(and2 (and2 (and2 (and2 h).1).1).1).2⟩,(and2 (and2 (and2 h).1).1).2⟩,of_decide_eq_true (and2 (and2 h).1).2⟩,of_decide_eq_true (and2 h).2⟩
theorem c_bbdd {x0:Bool} {x1:Bool} {x2:Prop} {i2:Decidable x2} {x3:Prop} {i3:Decidable x3} (h:(x0 && x1 && (@decide x2 i2) && (@decide x3 i3))=true):(((x0=true)/\(x1=true))/\(x2))/\(x3):=⟨⟨⟨(and2 (and2 (and2 h).1).1).1,(and2 (and2 (and2 h).1).1).2⟩,of_decide_eq_true (and2 (and2 h).1).2⟩,of_decide_eq_true (and2 h).2⟩
theorem k_bbdd {x0:Bool} {x1:Bool} {x2:Prop} {i2:Decidable x2} {x3:Prop} {i3:Decidable x3} {G:Prop} (h:(x0 && x1 && (@decide x2 i2) && (@decide x3 i3))=true) (k:(x0=true)->(x1=true)->(x2)->(x3)->G):G:=k ((and2 (and2 (and2 h).1).1).1) ((and2 (and2 (and2 h).1).1).2) (of_decide_eq_true (and2 (and2 h).1).2) (of_decide_eq_true (and2 h).2)
theorem c_bd {x0:Bool} {x1:Prop} {i1:Decidable x1} (h:(x0 && (@decide x1 i1))=true):(x0=true)/\(x1):=⟨(and2 h).1,of_decide_eq_true (and2 h).2⟩
theorem c_bdb {x0:Bool} {x1:Prop} {i1:Decidable x1} {x2:Bool} (h:(x0 && (@decide x1 i1) && x2)=true):((x0=true)/\(x1))/\(x2=true):=⟨⟨(and2 (and2 h).1).1,of_decide_eq_true (and2 (and2 h).1).2⟩,(and2 h).2⟩
theorem k_bdb {x0:Bool} {x1:Prop} {i1:Decidable x1} {x2:Bool} {G:Prop} (h:(x0 && (@decide x1 i1) && x2)=true) (k:(x0=true)->(x1)->(x2=true)->G):G:=k ((and2 (and2 h).1).1) (of_decide_eq_true (and2 (and2 h).1).2) ((and2 h).2)
theorem k_bdbbb {x0:Bool} {x1:Prop} {i1:Decidable x1} {x2:Bool} {x3:Bool} {x4:Bool} {G:Prop} (h:(x0 && (@decide x1 i1) && x2 && x3 && x4)=true) (k:(x0=true)->(x1)->(x2=true)->(x3=true)->(x4=true)->G):G:=k ((and2 (and2 (and2 (and2 h).1).1).1).1) (of_decide_eq_true (and2 (and2 (and2 (and2 h).1).1).1).2) ((and2 (and2 (and2 h).1).1).2) ((and2 (and2 h).1).2) ((and2 h).2)
theorem k_bdbbbb {x0:Bool} {x1:Prop} {i1:Decidable x1} {x2:Bool} {x3:Bool} {x4:Bool} {x5:Bool} {G:Prop} (h:(x0 && (@decide x1 i1) && x2 && x3 && x4 && x5)=true) (k:(x0=true)->(x1)->(x2=true)->(x3=true)->(x4=true)->(x5=true)->G):G:=k ((and2 (and2 (and2 (and2 (and2 h).1).1).1).1).1) (of_decide_eq_true (and2 (and2 (and2 (and2 (and2 h).1).1).1).1).2) ((and2 (and2 (and2 (and2 h).1).1).1).2) ((and2 (and2 (and2 h).1).1).2) ((and2 (and2 h).1).2) ((and2 h).2)
theorem k_bn {x0:Bool} {x1:Bool} {G:Prop} (h:(x0 && (!x1))=true) (k:(x0=true)->(x1=false)->G):G:=k ((and2 h).1) (nt (and2 h).2)
theorem k_bneeneeyadadb {x0:Bool} {x1:Bool} {t2:Type} [BEq t2] [LawfulBEq t2] {x2 y2:t2} {t3:Type} [BEq t3] [LawfulBEq t3] {x3 y3:t3} {x4:Bool} {t5:Type} [BEq t5] [LawfulBEq t5] {x5 y5:t5} {t6:Type} [BEq t6] [LawfulBEq t6] {x6 y6:t6} {t7:Type} {x7:List t7} {t8:Type} {x8:List t8} {f8:t8->Bool} {x9:Prop} {i9:Decidable x9} {t10:Type} {x10:List t10} {f10:t10->Bool} {x11:Prop} {i11:Decidable x11} {x12:Bool} {G:Prop} (h:(x0 && (!x1) && (x2 == y2) && (x3 == y3) && (!x4) && (x5 == y5) && (x6 == y6) && x7.isEmpty && (x8.all f8) && (@decide x9 i9) && (x10.all f10) && (@decide x11 i11) && x12)=true) (k:(x0=true)->(x1=false)->(x2=y2)->(x3=y3)->(x4=false)->(x5=y5)->(x6=y6)->(x7=[])->(∀ y∈x8,f8 y=true)->(x9)->(∀ y∈x10,f10 y=true)->(x11)->(x12=true)->G):G:=k ((and2 (and2 (and2 (and2 (and2 (and2 (and2 (and2 (and2 (and2 (and2 (and2 h).1).1).1).1).1).1).1).1).1).1).1).1) (nt (and2 (and2 (and2 (and2 (and2 (and2 (and2 (and2 (and2 (and2 (and2 (and2 h).1).1).1).1).1).1).1).1).1).1).1).2) (eq_of_beq (and2 (and2 (and2 (and2 (and2 (and2 (and2 (and2 (and2 (and2 (and2 h).1).1).1).1).1).1).1).1).1).1).2) (eq_of_beq (and2 (and2 (and2 (and2 (and2 (and2 (and2 (and2 (and2 (and2 h).1).1).1).1).1).1).1).1).1).2) (nt (and2 (and2 (and2 (and2 (and2 (and2 (and2 (and2 (and2 h).1).1).1).1).1).1).1).1).2) (eq_of_beq (and2 (and2 (and2 (and2 (and2 (and2 (and2 (and2 h).1).1).1).1).1).1).1).2) (eq_of_beq (and2 (and2 (and2 (and2 (and2 (and2 (and2 h).1).1).1).1).1).1).2) (List.isEmpty_iff.mp (and2 (and2 (and2 (and2 (and2 (and2 h).1).1).1).1).1).2) (List.all_eq_true.mp (and2 (and2 (and2 (and2 (and2 h).1).1).1).1).2) (of_decide_eq_true (and2 (and2 (and2 (and2 h).1).1).1).2) (List.all_eq_true.mp (and2 (and2 (and2 h).1).1).2) (of_decide_eq_true (and2 (and2 h).1).2) ((and2 h).2)
theorem c_db {x0:Prop} {i0:Decidable x0} {x1:Bool} (h:((@decide x0 i0) && x1)=true):(x0)/\(x1=true):=⟨of_decide_eq_true (and2 h).1,(and2 h).2⟩
theorem k_db {x0:Prop} {i0:Decidable x0} {x1:Bool} {G:Prop} (h:((@decide x0 i0) && x1)=true) (k:(x0)->(x1=true)->G):G:=k (of_decide_eq_true (and2 h).1) ((and2 h).2)
theorem k_dbb {x0:Prop} {i0:Decidable x0} {x1:Bool} {x2:Bool} {G:Prop} (h:((@decide x0 i0) && x1 && x2)=true) (k:(x0)->(x1=true)->(x2=true)->G):G:=k (of_decide_eq_true (and2 (and2 h).1).1) ((and2 (and2 h).1).2) ((and2 h).2)
theorem k_dbbb {x0:Prop} {i0:Decidable x0} {x1:Bool} {x2:Bool} {x3:Bool} {G:Prop} (h:((@decide x0 i0) && x1 && x2 && x3)=true) (k:(x0)->(x1=true)->(x2=true)->(x3=true)->G):G:=k (of_decide_eq_true (and2 (and2 (and2 h).1).1).1) ((and2 (and2 (and2 h).1).1).2) ((and2 (and2 h).1).2) ((and2 h).2)
theorem k_dbbbbb {x0:Prop} {i0:Decidable x0} {x1:Bool} {x2:Bool} {x3:Bool} {x4:Bool} {x5:Bool} {G:Prop} (h:((@decide x0 i0) && x1 && x2 && x3 && x4 && x5)=true) (k:(x0)->(x1=true)->(x2=true)->(x3=true)->(x4=true)->(x5=true)->G):G:=k (of_decide_eq_true (and2 (and2 (and2 (and2 (and2 h).1).1).1).1).1) ((and2 (and2 (and2 (and2 (and2 h).1).1).1).1).2) ((and2 (and2 (and2 (and2 h).1).1).1).2) ((and2 (and2 (and2 h).1).1).2) ((and2 (and2 h).1).2) ((and2 h).2)
theorem k_dbbbbbb {x0:Prop} {i0:Decidable x0} {x1:Bool} {x2:Bool} {x3:Bool} {x4:Bool} {x5:Bool} {x6:Bool} {G:Prop} (h:((@decide x0 i0) && x1 && x2 && x3 && x4 && x5 && x6)=true) (k:(x0)->(x1=true)->(x2=true)->(x3=true)->(x4=true)->(x5=true)->(x6=true)->G):G:=k (of_decide_eq_true (and2 (and2 (and2 (and2 (and2 (and2 h).1).1).1).1).1).1) ((and2 (and2 (and2 (and2 (and2 (and2 h).1).1).1).1).1).2) ((and2 (and2 (and2 (and2 (and2 h).1).1).1).1).2) ((and2 (and2 (and2 (and2 h).1).1).1).2) ((and2 (and2 (and2 h).1).1).2) ((and2 (and2 h).1).2) ((and2 h).2)
theorem k_dbbbbbbb {x0:Prop} {i0:Decidable x0} {x1:Bool} {x2:Bool} {x3:Bool} {x4:Bool} {x5:Bool} {x6:Bool} {x7:Bool} {G:Prop} (h:((@decide x0 i0) && x1 && x2 && x3 && x4 && x5 && x6 && x7)=true) (k:(x0)->(x1=true)->(x2=true)->(x3=true)->(x4=true)->(x5=true)->(x6=true)->(x7=true)->G):G:=k (of_decide_eq_true (and2 (and2 (and2 (and2 (and2 (and2 (and2 h).1).1).1).1).1).1).1) ((and2 (and2 (and2 (and2 (and2 (and2 (and2 h).1).1).1).1).1).1).2) ((and2 (and2 (and2 (and2 (and2 (and2 h).1).1).1).1).1).2) ((and2 (and2 (and2 (and2 (and2 h).1).1).1).1).2) ((and2 (and2 (and2 (and2 h).1).1).1).2) ((and2 (and2 (and2 h).1).1).2) ((and2 (and2 h).1).2) ((and2 h).2)
theorem k_dbbbd {x0:Prop} {i0:Decidable x0} {x1:Bool} {x2:Bool} {x3:Bool} {x4:Prop} {i4:Decidable x4} {G:Prop} (h:((@decide x0 i0) && x1 && x2 && x3 && (@decide x4 i4))=true) (k:(x0)->(x1=true)->(x2=true)->(x3=true)->(x4)->G):G:=k (of_decide_eq_true (and2 (and2 (and2 (and2 h).1).1).1).1) ((and2 (and2 (and2 (and2 h).1).1).1).2) ((and2 (and2 (and2 h).1).1).2) ((and2 (and2 h).1).2) (of_decide_eq_true (and2 h).2)
theorem k_dbbbdb {x0:Prop} {i0:Decidable x0} {x1:Bool} {x2:Bool} {x3:Bool} {x4:Prop} {i4:Decidable x4} {x5:Bool} {G:Prop} (h:((@decide x0 i0) && x1 && x2 && x3 && (@decide x4 i4) && x5)=true) (k:(x0)->(x1=true)->(x2=true)->(x3=true)->(x4)->(x5=true)->G):G:=k (of_decide_eq_true (and2 (and2 (and2 (and2 (and2 h).1).1).1).1).1) ((and2 (and2 (and2 (and2 (and2 h).1).1).1).1).2) ((and2 (and2 (and2 (and2 h).1).1).1).2) ((and2 (and2 (and2 h).1).1).2) (of_decide_eq_true (and2 (and2 h).1).2) ((and2 h).2)
theorem k_dbbd {x0:Prop} {i0:Decidable x0} {x1:Bool} {x2:Bool} {x3:Prop} {i3:Decidable x3} {G:Prop} (h:((@decide x0 i0) && x1 && x2 && (@decide x3 i3))=true) (k:(x0)->(x1=true)->(x2=true)->(x3)->G):G:=k (of_decide_eq_true (and2 (and2 (and2 h).1).1).1) ((and2 (and2 (and2 h).1).1).2) ((and2 (and2 h).1).2) (of_decide_eq_true (and2 h).2)
theorem k_dbbdb {x0:Prop} {i0:Decidable x0} {x1:Bool} {x2:Bool} {x3:Prop} {i3:Decidable x3} {x4:Bool} {G:Prop} (h:((@decide x0 i0) && x1 && x2 && (@decide x3 i3) && x4)=true) (k:(x0)->(x1=true)->(x2=true)->(x3)->(x4=true)->G):G:=k (of_decide_eq_true (and2 (and2 (and2 (and2 h).1).1).1).1) ((and2 (and2 (and2 (and2 h).1).1).1).2) ((and2 (and2 (and2 h).1).1).2) (of_decide_eq_true (and2 (and2 h).1).2) ((and2 h).2)
theorem k_dbbdbdb {x0:Prop} {i0:Decidable x0} {x1:Bool} {x2:Bool} {x3:Prop} {i3:Decidable x3} {x4:Bool} {x5:Prop} {i5:Decidable x5} {x6:Bool} {G:Prop} (h:((@decide x0 i0) && x1 && x2 && (@decide x3 i3) && x4 && (@decide x5 i5) && x6)=true) (k:(x0)->(x1=true)->(x2=true)->(x3)->(x4=true)->(x5)->(x6=true)->G):G:=k (of_decide_eq_true (and2 (and2 (and2 (and2 (and2 (and2 h).1).1).1).1).1).1) ((and2 (and2 (and2 (and2 (and2 (and2 h).1).1).1).1).1).2) ((and2 (and2 (and2 (and2 (and2 h).1).1).1).1).2) (of_decide_eq_true (and2 (and2 (and2 (and2 h).1).1).1).2) ((and2 (and2 (and2 h).1).1).2) (of_decide_eq_true (and2 (and2 h).1).2) ((and2 h).2)
theorem k_dbd {x0:Prop} {i0:Decidable x0} {x1:Bool} {x2:Prop} {i2:Decidable x2} {G:Prop} (h:((@decide x0 i0) && x1 && (@decide x2 i2))=true) (k:(x0)->(x1=true)->(x2)->G):G:=k (of_decide_eq_true (and2 (and2 h).1).1) ((and2 (and2 h).1).2) (of_decide_eq_true (and2 h).2)
theorem k_dbdb {x0:Prop} {i0:Decidable x0} {x1:Bool} {x2:Prop} {i2:Decidable x2} {x3:Bool} {G:Prop} (h:((@decide x0 i0) && x1 && (@decide x2 i2) && x3)=true) (k:(x0)->(x1=true)->(x2)->(x3=true)->G):G:=k (of_decide_eq_true (and2 (and2 (and2 h).1).1).1) ((and2 (and2 (and2 h).1).1).2) (of_decide_eq_true (and2 (and2 h).1).2) ((and2 h).2)
theorem k_dbddbbbdb {x0:Prop} {i0:Decidable x0} {x1:Bool} {x2:Prop} {i2:Decidable x2} {x3:Prop} {i3:Decidable x3} {x4:Bool} {x5:Bool} {x6:Bool} {x7:Prop} {i7:Decidable x7} {x8:Bool} {G:Prop} (h:((@decide x0 i0) && x1 && (@decide x2 i2) && (@decide x3 i3) && x4 && x5 && x6 && (@decide x7 i7) && x8)=true) (k:(x0)->(x1=true)->(x2)->(x3)->(x4=true)->(x5=true)->(x6=true)->(x7)->(x8=true)->G):G:=k (of_decide_eq_true (and2 (and2 (and2 (and2 (and2 (and2 (and2 (and2 h).1).1).1).1).1).1).1).1) ((and2 (and2 (and2 (and2 (and2 (and2 (and2 (and2 h).1).1).1).1).1).1).1).2) (of_decide_eq_true (and2 (and2 (and2 (and2 (and2 (and2 (and2 h).1).1).1).1).1).1).2) (of_decide_eq_true (and2 (and2 (and2 (and2 (and2 (and2 h).1).1).1).1).1).2) ((and2 (and2 (and2 (and2 (and2 h).1).1).1).1).2) ((and2 (and2 (and2 (and2 h).1).1).1).2) ((and2 (and2 (and2 h).1).1).2) (of_decide_eq_true (and2 (and2 h).1).2) ((and2 h).2)
theorem k_ddb {x0:Prop} {i0:Decidable x0} {x1:Prop} {i1:Decidable x1} {x2:Bool} {G:Prop} (h:((@decide x0 i0) && (@decide x1 i1) && x2)=true) (k:(x0)->(x1)->(x2=true)->G):G:=k (of_decide_eq_true (and2 (and2 h).1).1) (of_decide_eq_true (and2 (and2 h).1).2) ((and2 h).2)
theorem k_ddbbbbb {x0:Prop} {i0:Decidable x0} {x1:Prop} {i1:Decidable x1} {x2:Bool} {x3:Bool} {x4:Bool} {x5:Bool} {x6:Bool} {G:Prop} (h:((@decide x0 i0) && (@decide x1 i1) && x2 && x3 && x4 && x5 && x6)=true) (k:(x0)->(x1)->(x2=true)->(x3=true)->(x4=true)->(x5=true)->(x6=true)->G):G:=k (of_decide_eq_true (and2 (and2 (and2 (and2 (and2 (and2 h).1).1).1).1).1).1) (of_decide_eq_true (and2 (and2 (and2 (and2 (and2 (and2 h).1).1).1).1).1).2) ((and2 (and2 (and2 (and2 (and2 h).1).1).1).1).2) ((and2 (and2 (and2 (and2 h).1).1).1).2) ((and2 (and2 (and2 h).1).1).2) ((and2 (and2 h).1).2) ((and2 h).2)
theorem k_ddbbbd {x0:Prop} {i0:Decidable x0} {x1:Prop} {i1:Decidable x1} {x2:Bool} {x3:Bool} {x4:Bool} {x5:Prop} {i5:Decidable x5} {G:Prop} (h:((@decide x0 i0) && (@decide x1 i1) && x2 && x3 && x4 && (@decide x5 i5))=true) (k:(x0)->(x1)->(x2=true)->(x3=true)->(x4=true)->(x5)->G):G:=k (of_decide_eq_true (and2 (and2 (and2 (and2 (and2 h).1).1).1).1).1) (of_decide_eq_true (and2 (and2 (and2 (and2 (and2 h).1).1).1).1).2) ((and2 (and2 (and2 (and2 h).1).1).1).2) ((and2 (and2 (and2 h).1).1).2) ((and2 (and2 h).1).2) (of_decide_eq_true (and2 h).2)
theorem k_ddbbbdbd {x0:Prop} {i0:Decidable x0} {x1:Prop} {i1:Decidable x1} {x2:Bool} {x3:Bool} {x4:Bool} {x5:Prop} {i5:Decidable x5} {x6:Bool} {x7:Prop} {i7:Decidable x7} {G:Prop} (h:((@decide x0 i0) && (@decide x1 i1) && x2 && x3 && x4 && (@decide x5 i5) && x6 && (@decide x7 i7))=true) (k:(x0)->(x1)->(x2=true)->(x3=true)->(x4=true)->(x5)->(x6=true)->(x7)->G):G:=k (of_decide_eq_true (and2 (and2 (and2 (and2 (and2 (and2 (and2 h).1).1).1).1).1).1).1) (of_decide_eq_true (and2 (and2 (and2 (and2 (and2 (and2 (and2 h).1).1).1).1).1).1).2) ((and2 (and2 (and2 (and2 (and2 (and2 h).1).1).1).1).1).2) ((and2 (and2 (and2 (and2 (and2 h).1).1).1).1).2) ((and2 (and2 (and2 (and2 h).1).1).1).2) (of_decide_eq_true (and2 (and2 (and2 h).1).1).2) ((and2 (and2 h).1).2) (of_decide_eq_true (and2 h).2)
theorem k_ddbbdd {x0:Prop} {i0:Decidable x0} {x1:Prop} {i1:Decidable x1} {x2:Bool} {x3:Bool} {x4:Prop} {i4:Decidable x4} {x5:Prop} {i5:Decidable x5} {G:Prop} (h:((@decide x0 i0) && (@decide x1 i1) && x2 && x3 && (@decide x4 i4) && (@decide x5 i5))=true) (k:(x0)->(x1)->(x2=true)->(x3=true)->(x4)->(x5)->G):G:=k (of_decide_eq_true (and2 (and2 (and2 (and2 (and2 h).1).1).1).1).1) (of_decide_eq_true (and2 (and2 (and2 (and2 (and2 h).1).1).1).1).2) ((and2 (and2 (and2 (and2 h).1).1).1).2) ((and2 (and2 (and2 h).1).1).2) (of_decide_eq_true (and2 (and2 h).1).2) (of_decide_eq_true (and2 h).2)
theorem c_ddbd {x0:Prop} {i0:Decidable x0} {x1:Prop} {i1:Decidable x1} {x2:Bool} {x3:Prop} {i3:Decidable x3} (h:((@decide x0 i0) && (@decide x1 i1) && x2 && (@decide x3 i3))=true):(((x0)/\(x1))/\(x2=true))/\(x3):=⟨⟨⟨of_decide_eq_true (and2 (and2 (and2 h).1).1).1,of_decide_eq_true (and2 (and2 (and2 h).1).1).2⟩,(and2 (and2 h).1).2⟩,of_decide_eq_true (and2 h).2⟩
theorem k_ddbd {x0:Prop} {i0:Decidable x0} {x1:Prop} {i1:Decidable x1} {x2:Bool} {x3:Prop} {i3:Decidable x3} {G:Prop} (h:((@decide x0 i0) && (@decide x1 i1) && x2 && (@decide x3 i3))=true) (k:(x0)->(x1)->(x2=true)->(x3)->G):G:=k (of_decide_eq_true (and2 (and2 (and2 h).1).1).1) (of_decide_eq_true (and2 (and2 (and2 h).1).1).2) ((and2 (and2 h).1).2) (of_decide_eq_true (and2 h).2)
theorem k_ddd {x0:Prop} {i0:Decidable x0} {x1:Prop} {i1:Decidable x1} {x2:Prop} {i2:Decidable x2} {G:Prop} (h:((@decide x0 i0) && (@decide x1 i1) && (@decide x2 i2))=true) (k:(x0)->(x1)->(x2)->G):G:=k (of_decide_eq_true (and2 (and2 h).1).1) (of_decide_eq_true (and2 (and2 h).1).2) (of_decide_eq_true (and2 h).2)
theorem k_dddbbb {x0:Prop} {i0:Decidable x0} {x1:Prop} {i1:Decidable x1} {x2:Prop} {i2:Decidable x2} {x3:Bool} {x4:Bool} {x5:Bool} {G:Prop} (h:((@decide x0 i0) && (@decide x1 i1) && (@decide x2 i2) && x3 && x4 && x5)=true) (k:(x0)->(x1)->(x2)->(x3=true)->(x4=true)->(x5=true)->G):G:=k (of_decide_eq_true (and2 (and2 (and2 (and2 (and2 h).1).1).1).1).1) (of_decide_eq_true (and2 (and2 (and2 (and2 (and2 h).1).1).1).1).2) (of_decide_eq_true (and2 (and2 (and2 (and2 h).1).1).1).2) ((and2 (and2 (and2 h).1).1).2) ((and2 (and2 h).1).2) ((and2 h).2)
theorem k_dddbbbbbbbb {x0:Prop} {i0:Decidable x0} {x1:Prop} {i1:Decidable x1} {x2:Prop} {i2:Decidable x2} {x3:Bool} {x4:Bool} {x5:Bool} {x6:Bool} {x7:Bool} {x8:Bool} {x9:Bool} {x10:Bool} {G:Prop} (h:((@decide x0 i0) && (@decide x1 i1) && (@decide x2 i2) && x3 && x4 && x5 && x6 && x7 && x8 && x9 && x10)=true) (k:(x0)->(x1)->(x2)->(x3=true)->(x4=true)->(x5=true)->(x6=true)->(x7=true)->(x8=true)->(x9=true)->(x10=true)->G):G:=k (of_decide_eq_true (and2 (and2 (and2 (and2 (and2 (and2 (and2 (and2 (and2 (and2 h).1).1).1).1).1).1).1).1).1).1) (of_decide_eq_true (and2 (and2 (and2 (and2 (and2 (and2 (and2 (and2 (and2 (and2 h).1).1).1).1).1).1).1).1).1).2) (of_decide_eq_true (and2 (and2 (and2 (and2 (and2 (and2 (and2 (and2 (and2 h).1).1).1).1).1).1).1).1).2) ((and2 (and2 (and2 (and2 (and2 (and2 (and2 (and2 h).1).1).1).1).1).1).1).2) ((and2 (and2 (and2 (and2 (and2 (and2 (and2 h).1).1).1).1).1).1).2) ((and2 (and2 (and2 (and2 (and2 (and2 h).1).1).1).1).1).2) ((and2 (and2 (and2 (and2 (and2 h).1).1).1).1).2) ((and2 (and2 (and2 (and2 h).1).1).1).2) ((and2 (and2 (and2 h).1).1).2) ((and2 (and2 h).1).2) ((and2 h).2)
theorem c_dn {x0:Prop} {i0:Decidable x0} {x1:Bool} (h:((@decide x0 i0) && (!x1))=true):(x0)/\(x1=false):=⟨of_decide_eq_true (and2 h).1,nt (and2 h).2⟩
theorem c_eee {t0:Type} [BEq t0] [LawfulBEq t0] {x0 y0:t0} {t1:Type} [BEq t1] [LawfulBEq t1] {x1 y1:t1} {t2:Type} [BEq t2] [LawfulBEq t2] {x2 y2:t2} (h:((x0 == y0) && (x1 == y1) && (x2 == y2))=true):((x0=y0)/\(x1=y1))/\(x2=y2):=⟨⟨eq_of_beq (and2 (and2 h).1).1,eq_of_beq (and2 (and2 h).1).2⟩,eq_of_beq (and2 h).2⟩
theorem k_eee {t0:Type} [BEq t0] [LawfulBEq t0] {x0 y0:t0} {t1:Type} [BEq t1] [LawfulBEq t1] {x1 y1:t1} {t2:Type} [BEq t2] [LawfulBEq t2] {x2 y2:t2} {G:Prop} (h:((x0 == y0) && (x1 == y1) && (x2 == y2))=true) (k:(x0=y0)->(x1=y1)->(x2=y2)->G):G:=k (eq_of_beq (and2 (and2 h).1).1) (eq_of_beq (and2 (and2 h).1).2) (eq_of_beq (and2 h).2)
theorem k_enndb {t0:Type} [BEq t0] [LawfulBEq t0] {x0 y0:t0} {x1:Bool} {x2:Bool} {x3:Prop} {i3:Decidable x3} {x4:Bool} {G:Prop} (h:((x0 == y0) && (!x1) && (!x2) && (@decide x3 i3) && x4)=true) (k:(x0=y0)->(x1=false)->(x2=false)->(x3)->(x4=true)->G):G:=k (eq_of_beq (and2 (and2 (and2 (and2 h).1).1).1).1) (nt (and2 (and2 (and2 (and2 h).1).1).1).2) (nt (and2 (and2 (and2 h).1).1).2) (of_decide_eq_true (and2 (and2 h).1).2) ((and2 h).2)
noncomputable def nameTab:List (List Nat):=[[99,104,95,97] /- 0 ch_a -/,
 [99,104,95,98] /- 1 ch_b -/,
 [97] /- 2 a -/,
 [98] /- 3 b -/,
 [109,97,120,95,99,111,115,116] /- 4 max_cost -/,
 [112,114,101] /- 5 pre -/,
 [112,111,115,116] /- 6 post -/,
 [114,111,119] /- 7 row -/,
 [114,101,115,117,108,116] /- 8 result -/,
 [98,105,110,100,101,120] /- 9 bindex -/,
 [98,99,104,97,114] /- 10 bchar -/,
 [100,105,115,116,97,110,99,101] /- 11 distance -/,
 [109,105,110,105,109,117,109] /- 12 minimum -/,
 [105,110,100,101,120] /- 13 index -/,
 [115,117,98,115,116,105,116,117,116,101] /- 14 substitute -/,
 [105,110,115,101,114,116,95,100,101,108,101,116,101] /- 15 insert_delete -/,
 [97,100,100,114] /- 16 addr -/,
 [115,116,97,114,116] /- 17 start -/,
 [111,112,101,110,95,112,111,115] /- 18 open_pos -/,
 [112,111,115] /- 19 pos -/,
 [99,104] /- 20 ch -/,
 [111,112,101,110,115] /- 21 opens -/,
 [108,101,116,116,101,114,115] /- 22 letters -/,
 [99,117,116] /- 23 cut -/,
 [100,114,101,115,115,101,100] /- 24 dressed -/,
 [100,114,101,115,115] /- 25 dress -/,
 [97,104,101,97,100] /- 26 ahead -/,
 [98,101,104,105,110,100] /- 27 behind -/,
 [99,108,111,115,101,115] /- 28 closes -/,
 [108,97,115,116] /- 29 last -/,
 [112,108,97,99,101] /- 30 place -/,
 [108,101,116,116,101,114] /- 31 letter -/,
 [112,105,101,99,101] /- 32 piece -/,
 [112,97,114,116,115] /- 33 parts -/,
 [104,105,100,100,101,110] /- 34 hidden -/,
 [101,110,100] /- 35 end -/,
 [116,101,120,116] /- 36 text -/,
 [108,101,102,116] /- 37 left -/,
 [108,111,119] /- 38 low -/,
 [104,105,103,104] /- 39 high -/,
 [109,111,114,101] /- 40 more -/,
 [100,117,101] /- 41 due -/,
 [103,97,112] /- 42 gap -/,
 [115,99,114,105,112,116] /- 43 script -/,
 [110,117,109,98,101,114,115] /- 44 numbers -/,
 [115,117,109,115] /- 45 sums -/,
 [98,97,115,101] /- 46 base -/,
 [109,97,110,121] /- 47 many -/,
 [120] /- 48 x -/,
 [119,104,111,108,101] /- 49 whole -/,
 [116,97,98,108,101] /- 50 table -/,
 [108,97,105,100] /- 51 laid -/,
 [119,111,114,100,115] /- 52 words -/,
 [109,97,115,107] /- 53 mask -/,
 [119,111,114,100] /- 54 word -/,
 [115,105,103,110] /- 55 sign -/,
 [116,97,107,101,110] /- 56 taken -/,
 [119,101,105,103,104,116,115] /- 57 weights -/,
 [116,111,108,100] /- 58 told -/,
 [116,111,116,97,108] /- 59 total -/,
 [108,105,101,115] /- 60 lies -/,
 [110,97,109,101] /- 61 name -/,
 [111,110,101] /- 62 one -/,
 [111,116,104,101,114] /- 63 other -/,
 [119,97,121,115] /- 64 ways -/,
 [105] /- 65 i -/,
 [106] /- 66 j -/,
 [115,97,118,101,100] /- 67 saved -/,
 [99,111,115,116] /- 68 cost -/,
 [102,97,114] /- 69 far -/,
 [119,111,114,115,116] /- 70 worst -/,
 [109,105,100,100,108,101] /- 71 middle -/,
 [115,105,122,101,115] /- 72 sizes -/,
 [116,119,111] /- 73 two -/,
 [116,104,114,101,101] /- 74 three -/,
 [110,97,109,101,115] /- 75 names -/,
 [112,105,101,99,101,115] /- 76 pieces -/,
 [115,116,101,112,115] /- 77 steps -/,
 [110,101,115,116] /- 78 nest -/,
 [104,111,109,101] /- 79 home -/,
 [107,101,112,116] /- 80 kept -/,
 [108,101,118,101,108] /- 81 level -/,
 [105,110,116,111] /- 82 into -/,
 [108,111,115,116] /- 83 lost -/,
 [116,104,105,110,103] /- 84 thing -/,
 [102,111,117,110,100] /- 85 found -/,
 [112,97,105,114,115] /- 86 pairs -/,
 [101,110,100,115] /- 87 ends -/,
 [98,101,116,119,101,101,110] /- 88 between -/,
 [110,117,109,98,101,114] /- 89 number -/,
 [114,111,119,115] /- 90 rows -/,
 [100,114,101,115,115,101,115] /- 91 dresses -/,
 [117,110,105,116,115] /- 92 units -/,
 [115,116,101,112] /- 93 step -/,
 [110,111,119] /- 94 now -/,
 [109,97,114,107,115] /- 95 marks -/,
 [117,110,105,116] /- 96 unit -/,
 [97,112,97,114,116] /- 97 apart -/,
 [115,105,122,101] /- 98 size -/,
 [98,105,116,115] /- 99 bits -/,
 [99,111,108,117,109,110,115] /- 100 columns -/,
 [99,111,108,117,109,110] /- 101 column -/,
 [115,113,117,97,114,101,115] /- 102 squares -/,
 [99,104,111,115,101,110] /- 103 chosen -/,
 [114,101,97,100] /- 104 read -/,
 [115,101,101,110] /- 105 seen -/,
 [110,101,97,114] /- 106 near -/,
 [99,108,111,115,101] /- 107 close -/,
 [109,101,110,117] /- 108 menu -/,
 [116,105,101,100] /- 109 tied -/,
 [117,110,100,111] /- 110 undo -/,
 [112,114,111,100,117,99,116] /- 111 product -/,
 [101,115,99,97,112,101] /- 112 escape -/,
 [115,101,108,102] /- 113 self -/,
 [118,97,108,117,101] /- 114 value -/,
 [107,118] /- 115 kv -/,
 [107] /- 116 k -/,
 [118] /- 117 v -/,
 [114,101,103,101,120] /- 118 regex -/,
 [95,110,97,109,101] /- 119 _name -/,
 [95,118,97,108,117,101] /- 120 _value -/,
 [95,112,97,114,97,109,115] /- 121 _params -/,
 [104,101,97,100,101,114,115] /- 122 headers -/]
open PySem
inductive PV where
 | dat (d:PyData)
 | hdr (l:List (List Nat × List Nat))
 | gen (ds:List PyData)
noncomputable abbrev AE:=Nat->Option PV
noncomputable def AE.set (E:AE) (i:Nat) (x:PV):AE:=fun j=>if j=i then some x else E j
noncomputable def AE.del (E:AE) (i:Nat):AE:=fun j=>if j=i then none else E j
@[reducible] noncomputable def S (l:List Nat):PyData:=.str ⟨⟨l⟩⟩
@[reducible] noncomputable def sl (x:Str):List Nat:=x.cps.toList
inductive Bop where | add | sub | mul | fdiv | mod | pow
inductive Cop where | eq | ne | lt | le | gt | ge | isin | notin
inductive P1 where
 | len | sum | lower
inductive P2 where
 | min2
 | join
 | index
 | count
inductive Tgt where
 | name (i:Nat)
 | tup (is:List Nat)
mutual
inductive X where
 | int (i:Int) | str (l:List Nat) | bool (b:Bool) | none
 | var (i:Nat)
 | glo (i:Nat)
 | neg (i:Int)
 | bin (op:Bop) (a b:X)
 | not (a:X)
 | cmp1 (op:Cop) (a b:X)
 | cmp2 (o1 o2:Cop) (a b c:X)
 | isC (n:Bool) (a:X) (c:X)
 | isT (n:Bool) (a:X) (t:Nat)
 | and (xs:Xs)
 | or (xs:Xs)
 | ite (t a b:X)
 | lst (xs:Xs)
 | tup (xs:Xs)
 | idx (a i:X)
 | slc (a lo hi st:X)
 | call (f:Nat) (xs:Xs)
 | callh (f:Nat) (i:Nat) (xs:Xs)
 | p1 (p:P1) (a:X)
 | p2 (p:P2) (a b:X)
 | lof (it:It)
 | comp (elt:X) (t:Tgt) (it:It) (ifs:Xs)
 | hget (h:Nat) (a:X)
 | hkeys (h:Nat)
 | hattr (i:Nat)
inductive Xs where
 | nil
 | cons (x:X) (xs:Xs)
inductive It where
 | val (a:X)
 | rng1 (a:X)
 | rng2 (a b:X)
 | rng3 (a b c:X)
 | enm (a:X)
 | gen (a:X)
end
mutual
inductive St where
 | asg (m:Nat) (i:Nat) (e:X)
 | asgH (i:Nat)
 | asgT (is:List Nat) (e:X)
 | swap (i j:Nat) (a b:X)
 | asg2 (i j:Nat) (e:X)
 | aug (i:Nat) (op:Bop) (e:X)
 | augI (i:Nat) (k:X) (op:Bop) (e:X)
 | setI (i:Nat) (k e:X)
 | setJ (i:Nat) (k l e:X)
 | app (i:Nat) (e:X)
 | ext (i:Nat) (e:X)
 | hadd (i:Nat) (a b:X)
 | genLen (j g:Nat) (a elt:X) (t:Tgt) (ifs:Xs)
 | iff (t:X) (a b:Sts)
 | forS (t:Tgt) (it:It) (b:Sts)
 | whil (t:X) (b:Sts)
 | ret (e:X)
 | frz (i:Nat)
inductive Sts where
 | nil
 | cons (x:St) (xs:Sts)
end
noncomputable def lim:Nat:=1000000
noncomputable def tr:PyData->Option Bool
 | .none=>some false
 | .bool b=>some b
 | .int i=>some (i != 0)
 | .str x=>if (sl x).length<=lim then some (!(sl x).isEmpty) else none
 | .list xs=>if xs.length<=lim then some (!xs.isEmpty) else none
 | .tuple xs=>if xs.length<=lim then some (!xs.isEmpty) else none
 | .dict _=>none
noncomputable def rep (l:List α):Nat->List α
 | 0=>[]
 | n+1=>l++rep l n
noncomputable def noL:PyData->Bool
 | .none=>true
 | .bool _=>true
 | .int _=>true
 | .str _=>true
 | _=>false
noncomputable def okD (d:PyData):Bool:=d.canLay0 && decide (d.depth<=64)
noncomputable def oI {β:Type} (x:PyData) (k:Int->Option β) (e:Option β):Option β:=match x with
 | .int i=>k i
 | _=>e
noncomputable def oS {β:Type} (x:PyData) (k:Str->Option β) (e:Option β):Option β:=match x with
 | .str i=>k i
 | _=>e
noncomputable def oL {β:Type} (x:PyData) (k:List PyData->Option β) (e:Option β):Option β:=match x with
 | .list i=>k i
 | _=>e
noncomputable def oT {β:Type} (x:PyData) (k:List PyData->Option β) (e:Option β):Option β:=match x with
 | .tuple i=>k i
 | _=>e
theorem oI_inv {β:Type} {x:PyData} {k:Int->Option β} {e z:Option β} {P:Prop} (g:∀ i,x=.int i->k i=z->P) (g2:e=z->P) (h:oI x k e=z):P:=by
 cases x with
 | int i=>exact g i rfl h
 | _=>exact g2 h
theorem oS_inv {β:Type} {x:PyData} {k:Str->Option β} {e z:Option β} {P:Prop} (g:∀ i,x=.str i->k i=z->P) (g2:e=z->P) (h:oS x k e=z):P:=by
 cases x with
 | str i=>exact g i rfl h
 | _=>exact g2 h
theorem oL_inv {β:Type} {x:PyData} {k:List PyData->Option β} {e z:Option β} {P:Prop} (g:∀ i,x=.list i->k i=z->P) (g2:e=z->P) (h:oL x k e=z):P:=by
 cases x with
 | list i=>exact g i rfl h
 | _=>exact g2 h
theorem oT_inv {β:Type} {x:PyData} {k:List PyData->Option β} {e z:Option β} {P:Prop} (g:∀ i,x=.tuple i->k i=z->P) (g2:e=z->P) (h:oT x k e=z):P:=by
 cases x with
 | tuple i=>exact g i rfl h
 | _=>exact g2 h
noncomputable def oN {β:Type} (x:PyData) (k e:Option β):Option β:=match x with
 | .none=>k
 | _=>e
theorem oN_inv {β:Type} {x:PyData} {k e z:Option β} {P:Prop} (g:x=.none->k=z->P) (g2:e=z->P) (h:oN x k e=z):P:=by
 cases x with
 | none=>exact g rfl h
 | _=>exact g2 h
@[simp] theorem oN_n {β:Type} {k e:Option β}:oN .none k e=k:=rfl
@[simp] theorem oN_i {β:Type} {k e:Option β} {i:Int}:oN (.int i) k e=e:=rfl
@[simp] theorem oN_s {β:Type} {k e:Option β} {i:Str}:oN (.str i) k e=e:=rfl
@[simp] theorem oN_l {β:Type} {k e:Option β} {i:List PyData}:oN (.list i) k e=e:=rfl
noncomputable def oB {β:Type} (x:PyData) (k:Bool->Option β) (e:Option β):Option β:=match x with
 | .bool i=>k i
 | _=>e
theorem oB_inv {β:Type} {x:PyData} {k:Bool->Option β} {e z:Option β} {P:Prop} (g:∀ i,x=.bool i->k i=z->P) (g2:e=z->P) (h:oB x k e=z):P:=by
 cases x with
 | bool i=>exact g i rfl h
 | _=>exact g2 h
@[simp] theorem oB_b {β:Type} {k:Bool->Option β} {e:Option β} {b:Bool}:oB (.bool b) k e=k b:=rfl
noncomputable def bI {β:Type} (x y:PyData) (f:Int->Int->Option β):Option β:=oI x (fun a=>oI y (fun b=>f a b) none) none
theorem bI_inv {β:Type} {x y:PyData} {f:Int->Int->Option β} {z:β} {P:Prop} (g:∀ a b,x=.int a->y=.int b->f a b=some z->P) (h:bI x y f=some z):P :=
 oI_inv (fun a hx=>oI_inv (fun b hy=>g a b hx hy) nso) nso h
noncomputable def bAdd (x y:PyData):Option PyData:=oI x (fun a=>oI y (fun b=>some (.int (a+b))) none)
 (oS x (fun a=>oS y (fun b=>if (sl a).length+(sl b).length<=lim then some (S (sl a++sl b)) else none) none)
 (oL x (fun a=>oL y (fun b=>if a.length+b.length<=lim then some (.list (a++b)) else none) none) none))
noncomputable def bMul (x y:PyData):Option PyData:=oI y (fun n=>oI x (fun a=>if a.natAbs<=lim/\n.natAbs<=lim then some (.int (a * n)) else none)
 (oS x (fun a=>if 0<=n/\n<=lim/\(sl a).length * n.toNat<=lim then some (S (rep (sl a) n.toNat)) else none)
 (oL x (fun a=>if 0<=n/\n<=lim/\a.length * n.toNat<=lim then some (.list (rep a n.toNat)) else none) none))) none
noncomputable def evBin (op:Bop) (x y:PyData):Option PyData:=match op with
 | .add=>bAdd x y
 | .sub=>bI x y fun a b=>some (.int (a - b))
 | .mul=>bMul x y
 | .fdiv=>bI x y fun a b=>if 0 < b/\b<=lim then some (.int (a / b)) else none
 | .mod=>bI x y fun a b=>if 0 < b/\b<=lim then some (.int (a % b)) else none
 | .pow=>bI x y fun a n=>if 0<=n/\n<=10/\a.natAbs<=1000 then some (.int (a ^ n.toNat)) else none
noncomputable def cAny (x y:PyData):Option Bool:=if okD x=true/\okD y=true then some (PyData.eqv x y) else none
noncomputable def cEq (x y:PyData):Option Bool:=oI x (fun a=>oI y (fun b=>some (decide (a=b))) (cAny x y))
 (oS x (fun a=>oS y (fun b=>some (decide (sl a=sl b))) (cAny x y)) (cAny x y))
noncomputable def cIn (x y:PyData):Option Bool:=oS y (fun b=>oS x (fun a=>match sl a with
  | [c]=>some ((sl b).contains c)
  | _=>none) none)
 (oL y (fun xs=>if okD (.list xs)=true/\okD x=true then some (xs.any fun y=>PyData.eqv y x) else none)
 (oT y (fun xs=>if okD (.tuple xs)=true/\okD x=true then some (xs.any fun y=>PyData.eqv y x) else none) none))
noncomputable def evCmp (op:Cop) (x y:PyData):Option Bool:=match op with
 | .eq=>cEq x y
 | .ne=>(cEq x y).bind fun b=>some (!b)
 | .lt=>bI x y fun a b=>some (decide (a < b))
 | .le=>bI x y fun a b=>some (decide (a<=b))
 | .gt=>bI x y fun a b=>some (decide (b < a))
 | .ge=>bI x y fun a b=>some (decide (b<=a))
 | .isin=>cIn x y
 | .notin=>(cIn x y).bind fun b=>some (!b)
noncomputable def isConst (d y:PyData):Option Bool:=oN y (oN d (some true) (some false)) (oB y (fun c=>oB d (fun b=>some (b == c)) (some false)) none)
noncomputable def tyOf:PyData->Option Nat
 | .int _=>some 0
 | .str _=>some 1
 | .list _=>some 2
 | _=>none
noncomputable def place (i:Int) (n:Nat):Option Nat :=
 if 0<=i then (if i < (n:Int) then some i.toNat else none)
 else if 0<=i+(n:Int) then some (i+(n:Int)).toNat else none
noncomputable def evIdx (x y:PyData):Option PyData:=oI y (fun i =>
 oL x (fun xs=>if xs.length<=lim then (place i xs.length).bind fun k=>xs[k]? else none)
 (oT x (fun xs=>if xs.length<=lim then (place i xs.length).bind fun k=>xs[k]? else none)
 (oS x (fun x=>if (sl x).length<=lim then (place i (sl x).length).bind fun k=>((sl x)[k]?).map fun c=>S [c] else none) none))) none
noncomputable def clip (i:Int) (n:Nat):Nat:=if 0<=i then min i.toNat n else (i+(n:Int)).toNat
noncomputable def cut (lo hi:Nat) (l:List α):List α:=(l.take hi).drop lo
noncomputable def every (st:Nat):Nat->List α->List α
 | _,[]=>[]
 | 0,x::r=>x::every st (st - 1) r
 | k+1,_::r=>every st k r
noncomputable def bnd:PyData->Nat->Nat->Option Nat
 | .none,dflt,_=>some dflt
 | .int i,_,n=>some (clip i n)
 | _,_,_=>none
noncomputable def evSlc (x lo hi t:PyData):Option PyData:=oN t
 (oL x (fun xs=>if xs.length<=lim then (bnd lo 0 xs.length).bind fun a=>(bnd hi xs.length xs.length).bind fun b=>some (.list (cut a b xs)) else none)
 (oS x (fun x=>if (sl x).length<=lim then (bnd lo 0 (sl x).length).bind fun a=>(bnd hi (sl x).length (sl x).length).bind fun b=>some (S (cut a b (sl x))) else none) none))
 (oI t (fun st=>oN hi (oL x (fun xs=>if xs.length<=lim/\0 < st/\st<=100 then (bnd lo 0 xs.length).bind fun a=>some (.list (every st.toNat 0 (xs.drop a))) else none) none) none) none)
noncomputable def lo1' (c:Nat):Nat:=if 65<=c/\c<=90 then c+32 else c
noncomputable def asc (l:List Nat):Bool:=l.all fun c=>Nat.blt c 128
noncomputable def sumI:List PyData->Option Int
 | []=>some 0
 | .int i::r=>(sumI r).bind fun k=>some (i+k)
 | _::_=>none
noncomputable def strL:List PyData->Option (List (List Nat))
 | []=>some []
 | .str x::r=>(strL r).bind fun k=>some (sl x::k)
 | _::_=>none
noncomputable def joinL (sep:List Nat):List (List Nat)->List Nat
 | []=>[]
 | [x]=>x
 | x::r=>x++sep++joinL sep r
noncomputable def findL (sub:List Nat):List Nat->Nat->Int
 | [],i=>if sub.isEmpty then i else -1
 | c::r,i=>if sub.isPrefixOf (c::r) then i else findL sub r (i+1)
noncomputable def evP1 (p:P1) (d:PyData):Option PyData:=match p with
 | .len=>oL d (fun xs=>if xs.length<=lim then some (.int xs.length) else none) (oS d (fun x=>if (sl x).length<=lim then some (.int (sl x).length) else none) (oT d (fun xs=>if xs.length<=lim then some (.int xs.length) else none) none))
 | .sum=>oL d (fun xs=>(sumI xs).bind fun k=>some (.int k)) none
 | .lower=>oS d (fun x=>if asc (sl x)=true/\(sl x).length<=lim then some (S ((sl x).map lo1')) else none) none
noncomputable def evP2 (p:P2) (x y:PyData):Option PyData:=match p with
 | .min2=>bI x y fun a b=>some (.int (if b < a then b else a))
 | .join=>oS x (fun x=>oL y (fun xs=>(strL xs).bind fun ls=>if (joinL (sl x) ls).length<=lim/\xs.length<=lim/\(sl x).length<=lim then some (S (joinL (sl x) ls)) else none) none) none
 | .index=>oS x (fun x=>oS y (fun y=>if (sl x).length<=lim/\(sl y).length<=lim/\0<=findL (sl y) (sl x) 0 then some (.int (findL (sl y) (sl x) 0)) else none) none) none
 | .count=>oL x (fun xs=>if okD (.list xs)=true/\okD y=true then some (.int ((xs.filter fun z=>PyData.eqv z y).length)) else none) none
noncomputable def iterEsc:List Nat->Nat->Bool->List PyData
 | [],_,false=>[]
 | [],i,true=>[.tuple [.int ((i:Int) - 1),S [92]]]
 | c::r,i,true=>.tuple [.int i,S [92,c]]::iterEsc r (i+1) false
 | c::r,i,false=>if c=92 then iterEsc r (i+1) true else .tuple [.int i,S [c]]::iterEsc r (i+1) false
noncomputable def setAll:List Nat->List PyData->AE->Option AE
 | [],[],E=>some E
 | i::is,d::ds,E=>setAll is ds (E.set i (.dat d))
 | _,_,_=>none
noncomputable def bindT (t:Tgt) (d:PyData) (E:AE):Option AE:=match t with
 | .name i=>some (E.set i (.dat d))
 | .tup is=>match d with
  | .tuple ds=>setAll is ds E
  | _=>none
noncomputable def Tgt.ids:Tgt->List Nat
 | .name i=>[i]
 | .tup is=>is
noncomputable def compLoop (tests:AE->Option Bool) (elt:AE->Option PyData) (bindv:PyData->Option AE):List PyData->Option (List PyData)
 | []=>some []
 | d::ds=>(bindv d).bind fun E=>(tests E).bind fun t=>match t with
  | false=>compLoop tests elt bindv ds
  | true=>(elt E).bind fun y=>(compLoop tests elt bindv ds).bind fun ys=>some (y::ys)
noncomputable def isL:PyData->Bool
 | .list _=>true
 | _=>false
noncomputable def rowP:PyData->Bool
 | .list ys=>ys.all noL
 | _=>false
noncomputable def asgOk:Nat->PyData->Bool
 | 0,_=>true
 | 1,d=>isL d
 | _,.list xs=>xs.all rowP
 | _,_=>false
noncomputable def rngL (a:Int) (c:Int):Nat->List PyData
 | 0=>[]
 | n+1=>.int a::rngL (a+c) c n
noncomputable def rngN (a b c:Int):Nat:=if a < b then ((b - a+c - 1) / c).toNat else 0
noncomputable def enumL:List PyData->Nat->List PyData
 | [],_=>[]
 | d::ds,i=>.tuple [.int i,d]::enumL ds (i+1)
noncomputable def signsOf (l:List Nat):List PyData:=l.map fun c=>S [c]
noncomputable def items:PyData->Option (List PyData)
 | .list xs=>if xs.length<=lim then some xs else none
 | .tuple xs=>if xs.length<=lim then some xs else none
 | .str x=>if asc (sl x)=true/\(sl x).length<=lim then some (signsOf (sl x)) else none
 | _=>none
noncomputable def hdrOf (E:AE) (i:Nat):Option (List (List Nat × List Nat)):=match E i with
 | some (.hdr l)=>some l
 | _=>none
noncomputable def datOf (E:AE) (i:Nat):Option PyData:=match E i with
 | some (.dat d)=>some d
 | _=>none
noncomputable def clean (l:List Nat):Bool:=l.all (fun c=>Nat.ble 32 c && Nat.blt c 127) && Nat.ble l.length lim
noncomputable def cleanH (l:List (List Nat × List Nat)):Bool:=l.all (fun p=>clean p.1 && clean p.2) && Nat.ble l.length lim
noncomputable def getAll (n:List Nat) (l:List (List Nat × List Nat)):List (List Nat) :=
 (l.filter fun p=>decide (p.1.map lo1'=n.map lo1')).map (·.2)
noncomputable def strOf:PyData->Option (List Nat)
 | .str x=>some (sl x)
 | _=>none
noncomputable def intOf:PyData->Option Int
 | .int x=>some x
 | _=>none
noncomputable def listOf':PyData->Option (List PyData)
 | .list x=>some x
 | _=>none
section
variable (G:Nat->Option Int) (T:Nat->List PV->Option PyData)
mutual
noncomputable def ev:X->AE->Option PyData
 | .int i,_=>some (.int i)
 | .str l,_=>some (S l)
 | .bool b,_=>some (.bool b)
 | .none,_=>some .none
 | .var i,E=>datOf E i
 | .glo i,_=>(G i).bind fun v=>some (.int v)
 | .neg i,_=>some (.int (-i))
 | .bin op a b,E=>(ev a E).bind fun x=>(ev b E).bind fun y=>evBin op x y
 | .not a,E=>(ev a E).bind fun x=>(tr x).bind fun b=>some (.bool (!b))
 | .cmp1 op a b,E=>(ev a E).bind fun x=>(ev b E).bind fun y=>(evCmp op x y).bind fun r=>some (.bool r)
 | .cmp2 o1 o2 a b c,E=>(ev a E).bind fun x=>(ev b E).bind fun y=>(evCmp o1 x y).bind fun r=>match r with
  | false=>some (.bool false)
  | true=>(ev c E).bind fun z=>(evCmp o2 y z).bind fun r=>some (.bool r)
 | .isC n a c,E=>(ev a E).bind fun x=>(ev c E).bind fun y=>(isConst x y).bind fun r=>some (.bool (r != n))
 | .isT n a t,E=>(ev a E).bind fun x=>(tyOf x).bind fun k=>some (.bool ((Nat.beq k t) != n))
 | .and xs,E=>evAnd xs E
 | .or xs,E=>evOr xs E
 | .ite t a b,E=>(ev t E).bind fun x=>(tr x).bind fun q=>match q with
  | true=>ev a E
  | false=>ev b E
 | .lst xs,E=>(evs xs E).bind fun ds=>some (.list ds)
 | .tup xs,E=>(evs xs E).bind fun ds=>some (.tuple ds)
 | .idx a i,E=>(ev a E).bind fun x=>(ev i E).bind fun y=>evIdx x y
 | .slc a lo hi st,E=>(ev a E).bind fun x=>(ev lo E).bind fun l=>(ev hi E).bind fun h=>(ev st E).bind fun t=>evSlc x l h t
 | .call f xs,E=>(evs xs E).bind fun ds=>T f (ds.map .dat)
 | .callh f i xs,E=>(hdrOf E i).bind fun l=>(evs xs E).bind fun ds=>T f (.hdr l::ds.map .dat)
 | .p1 p a,E=>(ev a E).bind fun x=>evP1 p x
 | .p2 p a b,E=>(ev a E).bind fun x=>(ev b E).bind fun y=>evP2 p x y
 | .lof it,E=>(evIt it E).bind fun ds=>some (.list ds)
 | .comp elt t it ifs,E=>(evIt it E).bind fun ds=>(compLoop (fun E'=>evTests ifs E') (fun E'=>ev elt E') (fun d=>bindT t d E) ds).bind fun ys=>some (.list ys)
 | .hget i a,E=>(hdrOf E i).bind fun l=>(ev a E).bind fun x=>(strOf x).bind fun n=>if clean n=true/\cleanH l=true then some (.list ((getAll n l).map S)) else none
 | .hkeys i,E=>(hdrOf E i).bind fun l=>if cleanH l=true then some (.list (l.map fun p=>S p.1)) else none
 | .hattr i,E=>(hdrOf E i).bind fun l=>some (.list (l.map fun p=>.tuple [S p.1,S p.2]))
noncomputable def evs:Xs->AE->Option (List PyData)
 | .nil,_=>some []
 | .cons x xs,E=>(ev x E).bind fun d=>(evs xs E).bind fun ds=>some (d::ds)
noncomputable def evAnd:Xs->AE->Option PyData
 | .nil,_=>none
 | .cons x xs,E=>match xs with
  | .nil=>ev x E
  | .cons _ _=>(ev x E).bind fun d=>(tr d).bind fun q=>match q with
   | false=>some d
   | true=>evAnd xs E
noncomputable def evOr:Xs->AE->Option PyData
 | .nil,_=>none
 | .cons x xs,E=>match xs with
  | .nil=>ev x E
  | .cons _ _=>(ev x E).bind fun d=>(tr d).bind fun q=>match q with
   | true=>some d
   | false=>evOr xs E
noncomputable def evTests:Xs->AE->Option Bool
 | .nil,_=>some true
 | .cons x xs,E=>(ev x E).bind fun d=>(tr d).bind fun q=>match q with
  | false=>some false
  | true=>evTests xs E
noncomputable def evIt:It->AE->Option (List PyData)
 | .val a,E=>(ev a E).bind fun x=>items x
 | .rng1 a,E=>(ev a E).bind fun x=>(intOf x).bind fun n=>if -100000<=n/\n<=100000 then some (rngL 0 1 n.toNat) else none
 | .rng2 a b,E=>(ev a E).bind fun x=>(intOf x).bind fun n=>(ev b E).bind fun y=>(intOf y).bind fun k =>
   if -100000<=n/\n<=100000/\-100000<=k/\k<=100000 then some (rngL n 1 (k - n).toNat) else none
 | .rng3 a b c,E=>(ev a E).bind fun x=>(intOf x).bind fun n=>(ev b E).bind fun y=>(intOf y).bind fun k=>(ev c E).bind fun z=>(intOf z).bind fun t =>
   if 0 < t/\t<=1000/\-100000<=n/\n<=100000/\-100000<=k/\k<=100000 then some (rngL n t (rngN n k t)) else none
 | .enm a,E=>(ev a E).bind fun x=>(listOf' x).bind fun ds=>if ds.length<=100000 then some (enumL ds 0) else none
 | .gen a,E=>(ev a E).bind fun x=>(strOf x).bind fun l=>if asc l=true/\l.length<=100000 then some (iterEsc l 0 false) else none
end
noncomputable def putAt (k:PyData) (v:PyData):PyData->Option PyData
 | .list xs=>(intOf k).bind fun i=>if 0<=i/\i < xs.length/\xs.length<=lim then some (.list (xs.set i.toNat v)) else none
 | _=>none
noncomputable def getAt (k:PyData):PyData->Option PyData
 | .list xs=>if xs.length<=lim then (intOf k).bind fun i=>if 0<=i/\i < xs.length then xs[i.toNat]? else none else none
 | _=>none
noncomputable def forLoop (body:AE->Option (AE × Option PyData)) (bindv:PyData->AE->Option AE):List PyData->AE->Option (AE × Option PyData)
 | [],E=>some (E,none)
 | d::ds,E=>(bindv d E).bind fun E1=>(body E1).bind fun p=>match p.2 with
   | some v=>some (p.1,some v)
   | none=>forLoop body bindv ds p.1
noncomputable def whileLoop (test:AE->Option Bool) (body:AE->Option (AE × Option PyData)):Nat->AE->Option (AE × Option PyData)
 | 0,_=>none
 | n+1,E=>(test E).bind fun t=>match t with
  | false=>some (E,none)
  | true=>(body E).bind fun p=>match p.2 with
   | some v=>some (p.1,some v)
   | none=>whileLoop test body n p.1
variable (W:Nat)
mutual
noncomputable def ex:St->AE->Option (AE × Option PyData)
 | .asg m i e,E=>(ev G T e E).bind fun d=>if asgOk m d=true then some (E.set i (.dat d),none) else none
 | .asgH i,E=>some (E.set i (.hdr []),none)
 | .asgT is e,E=>(ev G T e E).bind fun d=>(bindT (.tup is) d E).bind fun E'=>some (E',none)
 | .swap i j a b,E=>(ev G T a E).bind fun x=>(ev G T b E).bind fun y=>some ((E.set j (.dat y)).set i (.dat x),none)
 | .asg2 i j e,E=>(ev G T e E).bind fun d=>some ((E.set i (.dat d)).set j (.dat d),none)
 | .aug i op e,E=>(datOf E i).bind fun x=>(ev G T e E).bind fun y=>if (intOf x).isSome=true then (evBin op x y).bind fun z=>some (E.set i (.dat z),none) else none
 | .augI i k op e,E=>(datOf E i).bind fun xs=>(ev G T k E).bind fun p=>(getAt p xs).bind fun old=>(ev G T e E).bind fun y=>if (intOf old).isSome=true then (evBin op old y).bind fun z =>
   (putAt p z xs).bind fun xs'=>some (E.set i (.dat xs'),none) else none
 | .setI i k e,E=>(ev G T e E).bind fun z=>(datOf E i).bind fun xs=>(ev G T k E).bind fun p=>(putAt p z xs).bind fun xs'=>some (E.set i (.dat xs'),none)
 | .setJ i k l e,E=>(ev G T e E).bind fun z=>(datOf E i).bind fun xs=>(ev G T k E).bind fun p=>(getAt p xs).bind fun row=>(ev G T l E).bind fun q =>
   (putAt q z row).bind fun row'=>(putAt p row' xs).bind fun xs'=>some (E.set i (.dat xs'),none)
 | .app i e,E=>(datOf E i).bind fun l=>(listOf' l).bind fun xs=>(ev G T e E).bind fun d=>if xs.length<=lim then some (E.set i (.dat (.list (xs++[d]))),none) else none
 | .ext i e,E=>(datOf E i).bind fun l=>(listOf' l).bind fun xs=>(ev G T e E).bind fun d=>(listOf' d).bind fun ys =>
   if xs.length+ys.length<=lim then some (E.set i (.dat (.list (xs++ys))),none) else none
 | .hadd i a b,E=>(hdrOf E i).bind fun l=>(ev G T a E).bind fun x=>(strOf x).bind fun n=>(ev G T b E).bind fun y=>(strOf y).bind fun v =>
   if clean n=true/\clean v=true/\l.length<=lim then some (E.set i (.hdr (l++[(n,v)])),none) else none
 | .genLen j g a elt t ifs,E=>(evIt G T (.gen a) E).bind fun ds=>(compLoop (fun E'=>evTests G T ifs E') (fun E'=>ev G T elt E') (fun d=>bindT t d (E.del g)) ds).bind fun ys=>if ys.length<=lim then some ((E.del g).set j (.dat (.int ys.length)),none) else none
 | .iff t a b,E=>(ev G T t E).bind fun x=>(tr x).bind fun q=>match q with
   | true=>exs a E
   | false=>exs b E
 | .forS t it b,E=>(evIt G T it E).bind fun ds=>forLoop (fun E'=>exs b E') (fun d E'=>bindT t d E') ds E
 | .whil t b,E=>whileLoop (fun E'=>(ev G T t E').bind fun x=>tr x) (fun E'=>exs b E') W E
 | .ret e,E=>(ev G T e E).bind fun d=>some (E,some d)
 | .frz _,E=>some (E,none)
noncomputable def exs:Sts->AE->Option (AE × Option PyData)
 | .nil,E=>some (E,none)
 | .cons x xs,E=>(ex x E).bind fun p=>match p.2 with
  | some v=>some (p.1,some v)
  | none=>exs xs p.1
end
noncomputable def start:List Nat->List PV->Option AE
 | [],[]=>some (fun u_=>none)
 | i::is,p::ps=>(start is ps).bind fun E=>some (E.set i p)
 | _,_=>none
noncomputable def runFn (ps:List Nat) (body:Sts) (args:List PV):Option PyData:=(start ps args).bind fun E=>(exs G T W body E).bind fun p=>p.2
end
theorem intOf_some {x:PyData} {i:Int} (h:intOf x=some i):x=.int i:=by
 cases x with
 | int j=>exact congrArg PyData.int (Option.some.inj h)
 | _=>exact nso h
theorem evCmp_q_eq_int_int {a b}:evCmp .eq (.int a) (.int b)=(some (decide (a=b))):=rfl
theorem evCmp_q_eq_str_str {x y}:evCmp .eq (.str x) (.str y)=(some (decide (sl x=sl y))):=rfl
theorem evCmp_q_ne_int_int {a b}:evCmp .ne (.int a) (.int b)=(some (!decide (a=b))):=rfl
theorem evCmp_q_lt_int_int {a b}:evCmp .lt (.int a) (.int b)=(some (decide (a < b))):=rfl
theorem evCmp_q_le_int_int {a b}:evCmp .le (.int a) (.int b)=(some (decide (a<=b))):=rfl
theorem evBin_q_add_int_int {a b}:evBin .add (.int a) (.int b)=(some (.int (a+b))):=rfl
theorem evBin_q_add_str_str {x y}:evBin .add (.str x) (.str y)=(if (sl x).length+(sl y).length<=lim then some (S (sl x++sl y)) else none):=rfl
theorem evBin_q_add_list_list {xs ys}:evBin .add (.list xs) (.list ys)=(if xs.length+ys.length<=lim then some (.list (xs++ys)) else none):=rfl
theorem evBin_q_sub_int_int {a b}:evBin .sub (.int a) (.int b)=(some (.int (a - b))):=rfl
theorem evBin_q_fdiv_int_int {a b}:evBin .fdiv (.int a) (.int b)=(if 0 < b/\b<=lim then some (.int (a / b)) else none):=rfl
theorem evBin_q_mod_int_int {a b}:evBin .mod (.int a) (.int b)=(if 0 < b/\b<=lim then some (.int (a % b)) else none):=rfl
theorem evBin_q_pow_int_int {a n}:evBin .pow (.int a) (.int n)=(if 0<=n/\n<=10/\a.natAbs<=1000 then some (.int (a ^ n.toNat)) else none):=rfl
theorem evCmp_q_notin_str_str {x y}:evCmp .notin (.str x) (.str y)=((match sl x with
  | [c]=>some ((sl y).contains c)
  | _=>none).bind fun b=>some (!b)):=rfl
theorem evCmp_q_isin_list {d xs}:evCmp .isin d (.list xs)=(if okD (.list xs)=true/\okD d=true then some (xs.any fun y=>PyData.eqv y d) else none):=rfl
theorem evP1_q_len_list {xs}:evP1 .len (.list xs)=(if xs.length<=lim then some (.int xs.length) else none):=rfl
theorem evP1_q_len_str {x}:evP1 .len (.str x)=(if (sl x).length<=lim then some (.int (sl x).length) else none):=rfl
theorem evP1_q_sum_list {xs}:evP1 .sum (.list xs)=((sumI xs).bind fun k=>some (.int k)):=rfl
theorem evP1_q_lower_str {x}:evP1 .lower (.str x)=(if asc (sl x)=true/\(sl x).length<=lim then some (S ((sl x).map lo1')) else none):=rfl
theorem evP2_q_join_str_list {x xs}:evP2 .join (.str x) (.list xs)=((strL xs).bind fun ls=>if (joinL (sl x) ls).length<=lim/\xs.length<=lim/\(sl x).length<=lim then some (S (joinL (sl x) ls)) else none):=rfl
theorem ev_q_int {G:Nat->Option Int} {T:Nat->List PV->Option PyData} {i z1}:ev G T (.int i) z1=(some (.int i)):=rfl
theorem ev_q_str {G:Nat->Option Int} {T:Nat->List PV->Option PyData} {l z1}:ev G T (.str l) z1=(some (S l)):=rfl
theorem ev_q_bool {G:Nat->Option Int} {T:Nat->List PV->Option PyData} {b z1}:ev G T (.bool b) z1=(some (.bool b)):=rfl
theorem ev_q_none {G:Nat->Option Int} {T:Nat->List PV->Option PyData} {z1}:ev G T .none z1=(some .none):=rfl
theorem ev_q_var {G:Nat->Option Int} {T:Nat->List PV->Option PyData} {i E}:ev G T (.var i) E=(datOf E i):=rfl
theorem ev_q_neg {G:Nat->Option Int} {T:Nat->List PV->Option PyData} {i z1}:ev G T (.neg i) z1=(some (.int (-i))):=rfl
theorem ev_q_bin {G:Nat->Option Int} {T:Nat->List PV->Option PyData} {op a b E}:ev G T (.bin op a b) E=((ev G T a E).bind fun x=>(ev G T b E).bind fun y=>evBin op x y):=rfl
theorem ev_q_cmp1 {G:Nat->Option Int} {T:Nat->List PV->Option PyData} {op a b E}:ev G T (.cmp1 op a b) E=((ev G T a E).bind fun x=>(ev G T b E).bind fun y=>(evCmp op x y).bind fun r=>some (.bool r)):=rfl
theorem ev_q_cmp2 {G:Nat->Option Int} {T:Nat->List PV->Option PyData} {o1 o2 a b c E}:ev G T (.cmp2 o1 o2 a b c) E=((ev G T a E).bind fun x=>(ev G T b E).bind fun y=>(evCmp o1 x y).bind fun r=>match r with
  | false=>some (.bool false)
  | true=>(ev G T c E).bind fun z=>(evCmp o2 y z).bind fun r=>some (.bool r)):=rfl
theorem ev_q_isC {G:Nat->Option Int} {T:Nat->List PV->Option PyData} {n a c E}:ev G T (.isC n a c) E=((ev G T a E).bind fun x=>(ev G T c E).bind fun y=>(isConst x y).bind fun r=>some (.bool (r != n))):=rfl
theorem ev_q_isT {G:Nat->Option Int} {T:Nat->List PV->Option PyData} {n a t E}:ev G T (.isT n a t) E=((ev G T a E).bind fun x=>(tyOf x).bind fun k=>some (.bool ((Nat.beq k t) != n))):=rfl
theorem ev_q_and {G:Nat->Option Int} {T:Nat->List PV->Option PyData} {xs E}:ev G T (.and xs) E=(evAnd G T xs E):=rfl
theorem ev_q_or {G:Nat->Option Int} {T:Nat->List PV->Option PyData} {xs E}:ev G T (.or xs) E=(evOr G T xs E):=rfl
theorem ev_q_ite {G:Nat->Option Int} {T:Nat->List PV->Option PyData} {t a b E}:ev G T (.ite t a b) E=((ev G T t E).bind fun x=>(tr x).bind fun q=>match q with
  | true=>ev G T a E
  | false=>ev G T b E):=rfl
theorem ev_q_lst {G:Nat->Option Int} {T:Nat->List PV->Option PyData} {xs E}:ev G T (.lst xs) E=((evs G T xs E).bind fun ds=>some (.list ds)):=rfl
theorem ev_q_tup {G:Nat->Option Int} {T:Nat->List PV->Option PyData} {xs E}:ev G T (.tup xs) E=((evs G T xs E).bind fun ds=>some (.tuple ds)):=rfl
theorem ev_q_idx {G:Nat->Option Int} {T:Nat->List PV->Option PyData} {a i E}:ev G T (.idx a i) E=((ev G T a E).bind fun x=>(ev G T i E).bind fun y=>evIdx x y):=rfl
theorem ev_q_slc {G:Nat->Option Int} {T:Nat->List PV->Option PyData} {a lo hi st E}:ev G T (.slc a lo hi st) E=((ev G T a E).bind fun x=>(ev G T lo E).bind fun l=>(ev G T hi E).bind fun h=>(ev G T st E).bind fun t=>evSlc x l h t):=rfl
theorem ev_q_call {G:Nat->Option Int} {T:Nat->List PV->Option PyData} {f xs E}:ev G T (.call f xs) E=((evs G T xs E).bind fun ds=>T f (ds.map .dat)):=rfl
theorem ev_q_callh {G:Nat->Option Int} {T:Nat->List PV->Option PyData} {f i xs E}:ev G T (.callh f i xs) E=((hdrOf E i).bind fun l=>(evs G T xs E).bind fun ds=>T f (.hdr l::ds.map .dat)):=rfl
theorem ev_q_p1 {G:Nat->Option Int} {T:Nat->List PV->Option PyData} {p a E}:ev G T (.p1 p a) E=((ev G T a E).bind fun x=>evP1 p x):=rfl
theorem ev_q_p2 {G:Nat->Option Int} {T:Nat->List PV->Option PyData} {p a b E}:ev G T (.p2 p a b) E=((ev G T a E).bind fun x=>(ev G T b E).bind fun y=>evP2 p x y):=rfl
theorem ev_q_lof {G:Nat->Option Int} {T:Nat->List PV->Option PyData} {it E}:ev G T (.lof it) E=((evIt G T it E).bind fun ds=>some (.list ds)):=rfl
theorem ev_q_comp {G:Nat->Option Int} {T:Nat->List PV->Option PyData} {elt t it ifs E}:ev G T (.comp elt t it ifs) E=((evIt G T it E).bind fun ds=>(compLoop (fun E'=>evTests G T ifs E') (fun E'=>ev G T elt E') (fun d=>bindT t d E) ds).bind fun ys=>some (.list ys)):=rfl
theorem ev_q_hget {G:Nat->Option Int} {T:Nat->List PV->Option PyData} {i a E}:ev G T (.hget i a) E=((hdrOf E i).bind fun l=>(ev G T a E).bind fun x=>(strOf x).bind fun n=>if clean n=true/\cleanH l=true then some (.list ((getAll n l).map S)) else none):=rfl
theorem ev_q_hkeys {G:Nat->Option Int} {T:Nat->List PV->Option PyData} {i E}:ev G T (.hkeys i) E=((hdrOf E i).bind fun l=>if cleanH l=true then some (.list (l.map fun p=>S p.1)) else none):=rfl
theorem ev_q_hattr {G:Nat->Option Int} {T:Nat->List PV->Option PyData} {i E}:ev G T (.hattr i) E=((hdrOf E i).bind fun l=>some (.list (l.map fun p=>.tuple [S p.1,S p.2]))):=rfl
theorem evs_q_nil {G:Nat->Option Int} {T:Nat->List PV->Option PyData} {z1}:evs G T .nil z1=(some []):=rfl
theorem evs_q_cons {G:Nat->Option Int} {T:Nat->List PV->Option PyData} {x xs E}:evs G T (.cons x xs) E=((ev G T x E).bind fun d=>(evs G T xs E).bind fun ds=>some (d::ds)):=rfl
theorem evAnd_q_cons {G:Nat->Option Int} {T:Nat->List PV->Option PyData} {x xs E}:evAnd G T (.cons x xs) E=(match xs with
  | .nil=>ev G T x E
  | .cons _ _=>(ev G T x E).bind fun d=>(tr d).bind fun q=>match q with
   | false=>some d
   | true=>evAnd G T xs E):=rfl
theorem evOr_q_cons {G:Nat->Option Int} {T:Nat->List PV->Option PyData} {x xs E}:evOr G T (.cons x xs) E=(match xs with
  | .nil=>ev G T x E
  | .cons _ _=>(ev G T x E).bind fun d=>(tr d).bind fun q=>match q with
   | true=>some d
   | false=>evOr G T xs E):=rfl
theorem evTests_q_nil {G:Nat->Option Int} {T:Nat->List PV->Option PyData} {z1}:evTests G T .nil z1=(some true):=rfl
theorem evTests_q_cons {G:Nat->Option Int} {T:Nat->List PV->Option PyData} {x xs E}:evTests G T (.cons x xs) E=((ev G T x E).bind fun d=>(tr d).bind fun q=>match q with
  | false=>some false
  | true=>evTests G T xs E):=rfl
theorem evIt_q_val {G:Nat->Option Int} {T:Nat->List PV->Option PyData} {a E}:evIt G T (.val a) E=((ev G T a E).bind fun x=>items x):=rfl
theorem evIt_q_rng1 {G:Nat->Option Int} {T:Nat->List PV->Option PyData} {a E}:evIt G T (.rng1 a) E=((ev G T a E).bind fun x=>(intOf x).bind fun n=>if -100000<=n/\n<=100000 then some (rngL 0 1 n.toNat) else none):=rfl
theorem evIt_q_rng2 {G:Nat->Option Int} {T:Nat->List PV->Option PyData} {a b E}:evIt G T (.rng2 a b) E=((ev G T a E).bind fun x=>(intOf x).bind fun n=>(ev G T b E).bind fun y=>(intOf y).bind fun k =>
   if -100000<=n/\n<=100000/\-100000<=k/\k<=100000 then some (rngL n 1 (k - n).toNat) else none):=rfl
theorem evIt_q_rng3 {G:Nat->Option Int} {T:Nat->List PV->Option PyData} {a b c E}:evIt G T (.rng3 a b c) E=((ev G T a E).bind fun x=>(intOf x).bind fun n=>(ev G T b E).bind fun y=>(intOf y).bind fun k=>(ev G T c E).bind fun z=>(intOf z).bind fun t =>
   if 0 < t/\t<=1000/\-100000<=n/\n<=100000/\-100000<=k/\k<=100000 then some (rngL n t (rngN n k t)) else none):=rfl
theorem evIt_q_enm {G:Nat->Option Int} {T:Nat->List PV->Option PyData} {a E}:evIt G T (.enm a) E=((ev G T a E).bind fun x=>(listOf' x).bind fun ds=>if ds.length<=100000 then some (enumL ds 0) else none):=rfl
theorem evIt_q_gen {G:Nat->Option Int} {T:Nat->List PV->Option PyData} {a E}:evIt G T (.gen a) E=((ev G T a E).bind fun x=>(strOf x).bind fun l=>if asc l=true/\l.length<=100000 then some (iterEsc l 0 false) else none):=rfl
theorem ex_q_asg {G:Nat->Option Int} {T:Nat->List PV->Option PyData} {W:Nat} {m i e E}:ex G T W (.asg m i e) E=((ev G T e E).bind fun d=>if asgOk m d=true then some (E.set i (.dat d),none) else none):=rfl
theorem ex_q_asgH {G:Nat->Option Int} {T:Nat->List PV->Option PyData} {W:Nat} {i E}:ex G T W (.asgH i) E=(some (E.set i (.hdr []),none)):=rfl
theorem ex_q_asgT {G:Nat->Option Int} {T:Nat->List PV->Option PyData} {W:Nat} {is e E}:ex G T W (.asgT is e) E=((ev G T e E).bind fun d=>(bindT (.tup is) d E).bind fun E'=>some (E',none)):=rfl
theorem ex_q_swap {G:Nat->Option Int} {T:Nat->List PV->Option PyData} {W:Nat} {i j a b E}:ex G T W (.swap i j a b) E=((ev G T a E).bind fun x=>(ev G T b E).bind fun y=>some ((E.set j (.dat y)).set i (.dat x),none)):=rfl
theorem ex_q_asg2 {G:Nat->Option Int} {T:Nat->List PV->Option PyData} {W:Nat} {i j e E}:ex G T W (.asg2 i j e) E=((ev G T e E).bind fun d=>some ((E.set i (.dat d)).set j (.dat d),none)):=rfl
theorem ex_q_aug {G:Nat->Option Int} {T:Nat->List PV->Option PyData} {W:Nat} {i op e E}:ex G T W (.aug i op e) E=((datOf E i).bind fun x=>(ev G T e E).bind fun y=>if (intOf x).isSome=true then (evBin op x y).bind fun z=>some (E.set i (.dat z),none) else none):=rfl
theorem ex_q_augI {G:Nat->Option Int} {T:Nat->List PV->Option PyData} {W:Nat} {i k op e E}:ex G T W (.augI i k op e) E=((datOf E i).bind fun xs=>(ev G T k E).bind fun p=>(getAt p xs).bind fun old=>(ev G T e E).bind fun y=>if (intOf old).isSome=true then (evBin op old y).bind fun z =>
   (putAt p z xs).bind fun xs'=>some (E.set i (.dat xs'),none) else none):=rfl
theorem ex_q_setI {G:Nat->Option Int} {T:Nat->List PV->Option PyData} {W:Nat} {i k e E}:ex G T W (.setI i k e) E=((ev G T e E).bind fun z=>(datOf E i).bind fun xs=>(ev G T k E).bind fun p=>(putAt p z xs).bind fun xs'=>some (E.set i (.dat xs'),none)):=rfl
theorem ex_q_setJ {G:Nat->Option Int} {T:Nat->List PV->Option PyData} {W:Nat} {i k l e E}:ex G T W (.setJ i k l e) E=((ev G T e E).bind fun z=>(datOf E i).bind fun xs=>(ev G T k E).bind fun p=>(getAt p xs).bind fun row=>(ev G T l E).bind fun q =>
   (putAt q z row).bind fun row'=>(putAt p row' xs).bind fun xs'=>some (E.set i (.dat xs'),none)):=rfl
theorem ex_q_app {G:Nat->Option Int} {T:Nat->List PV->Option PyData} {W:Nat} {i e E}:ex G T W (.app i e) E=((datOf E i).bind fun l=>(listOf' l).bind fun xs=>(ev G T e E).bind fun d=>if xs.length<=lim then some (E.set i (.dat (.list (xs++[d]))),none) else none):=rfl
theorem ex_q_ext {G:Nat->Option Int} {T:Nat->List PV->Option PyData} {W:Nat} {i e E}:ex G T W (.ext i e) E=((datOf E i).bind fun l=>(listOf' l).bind fun xs=>(ev G T e E).bind fun d=>(listOf' d).bind fun ys =>
   if xs.length+ys.length<=lim then some (E.set i (.dat (.list (xs++ys))),none) else none):=rfl
theorem ex_q_hadd {G:Nat->Option Int} {T:Nat->List PV->Option PyData} {W:Nat} {i a b E}:ex G T W (.hadd i a b) E=((hdrOf E i).bind fun l=>(ev G T a E).bind fun x=>(strOf x).bind fun n=>(ev G T b E).bind fun y=>(strOf y).bind fun v =>
   if clean n=true/\clean v=true/\l.length<=lim then some (E.set i (.hdr (l++[(n,v)])),none) else none):=rfl
theorem ex_q_genLen {G:Nat->Option Int} {T:Nat->List PV->Option PyData} {W:Nat} {j g a elt t ifs E}:ex G T W (.genLen j g a elt t ifs) E=((evIt G T (.gen a) E).bind fun ds=>(compLoop (fun E'=>evTests G T ifs E') (fun E'=>ev G T elt E') (fun d=>bindT t d (E.del g)) ds).bind fun ys=>if ys.length<=lim then some ((E.del g).set j (.dat (.int ys.length)),none) else none):=rfl
theorem ex_q_iff {G:Nat->Option Int} {T:Nat->List PV->Option PyData} {W:Nat} {t a b E}:ex G T W (.iff t a b) E=((ev G T t E).bind fun x=>(tr x).bind fun q=>match q with
   | true=>exs G T W a E
   | false=>exs G T W b E):=rfl
theorem ex_q_forS {G:Nat->Option Int} {T:Nat->List PV->Option PyData} {W:Nat} {t it b E}:ex G T W (.forS t it b) E=((evIt G T it E).bind fun ds=>forLoop (fun E'=>exs G T W b E') (fun d E'=>bindT t d E') ds E):=rfl
theorem ex_q_whil {G:Nat->Option Int} {T:Nat->List PV->Option PyData} {W:Nat} {t b E}:ex G T W (.whil t b) E=(whileLoop (fun E'=>(ev G T t E').bind fun x=>tr x) (fun E'=>exs G T W b E') W E):=rfl
theorem ex_q_ret {G:Nat->Option Int} {T:Nat->List PV->Option PyData} {W:Nat} {e E}:ex G T W (.ret e) E=((ev G T e E).bind fun d=>some (E,some d)):=rfl
theorem ex_q_frz {G:Nat->Option Int} {T:Nat->List PV->Option PyData} {W:Nat} {z1 E}:ex G T W (.frz z1) E=(some (E,none)):=rfl
theorem exs_q_nil {G:Nat->Option Int} {T:Nat->List PV->Option PyData} {W:Nat} {E}:exs G T W .nil E=(some (E,none)):=rfl
theorem exs_q_cons {G:Nat->Option Int} {T:Nat->List PV->Option PyData} {W:Nat} {x xs E}:exs G T W (.cons x xs) E=((ex G T W x E).bind fun p=>match p.2 with
  | some v=>some (p.1,some v)
  | none=>exs G T W xs p.1):=rfl
theorem isConst_q_none {d}:isConst d .none=oN d (some true) (some false):=rfl
theorem evSlc_q_list_none {xs lo hi}:evSlc (.list xs) lo hi .none=(if xs.length<=lim then (bnd lo 0 xs.length).bind fun a=>(bnd hi xs.length xs.length).bind fun b=>some (.list (cut a b xs)) else none):=rfl
theorem evSlc_q_str_none {x lo hi}:evSlc (.str x) lo hi .none=(if (sl x).length<=lim then (bnd lo 0 (sl x).length).bind fun a=>(bnd hi (sl x).length (sl x).length).bind fun b=>some (S (cut a b (sl x))) else none):=rfl
theorem evSlc_q_list_none_int {xs lo st}:evSlc (.list xs) lo .none (.int st)=(if xs.length<=lim/\0 < st/\st<=100 then (bnd lo 0 xs.length).bind fun a=>some (.list (every st.toNat 0 (xs.drop a))) else none):=rfl
theorem evIdx_q_list_int {xs i}:evIdx (.list xs) (.int i)=(if xs.length<=lim then (place i xs.length).bind fun k=>xs[k]? else none):=rfl
theorem evIdx_q_tuple_int {xs i}:evIdx (.tuple xs) (.int i)=(if xs.length<=lim then (place i xs.length).bind fun k=>xs[k]? else none):=rfl
theorem tr_q_bool {b}:tr (.bool b)=(some b):=rfl
theorem items_q_list {xs}:items (.list xs)=(if xs.length<=lim then some xs else none):=rfl
theorem strOf_q_str {x}:strOf (.str x)=(some (sl x)):=rfl
theorem intOf_q_int {x}:intOf (.int x)=(some x):=rfl
theorem asgOk_q_n0 {z1}:asgOk 0 z1=(true):=rfl
theorem asgOk_q_n1 {d}:asgOk 1 d=(isL d):=rfl
noncomputable def xExpr (n:Nat) (e:Expr) (p:e.ctorIdx=n->Bool):Bool:=if h:e.ctorIdx=n then p h else false
theorem xExpr_idx {n:Nat} {e:Expr} {p:e.ctorIdx=n->Bool} (h:xExpr n e p=true):e.ctorIdx=n:=by
 unfold xExpr at h
 by_cases q:e.ctorIdx=n
 ·exact q
 ·rw [dif_neg q] at h;exact nbt h
noncomputable def xStmt (n:Nat) (e:Stmt) (p:e.ctorIdx=n->Bool):Bool:=if h:e.ctorIdx=n then p h else false
theorem xStmt_idx {n:Nat} {e:Stmt} {p:e.ctorIdx=n->Bool} (h:xStmt n e p=true):e.ctorIdx=n:=by
 unfold xStmt at h
 by_cases q:e.ctorIdx=n
 ·exact q
 ·rw [dif_neg q] at h;exact nbt h
noncomputable def xConst (n:Nat) (e:Const) (p:e.ctorIdx=n->Bool):Bool:=if h:e.ctorIdx=n then p h else false
theorem xConst_idx {n:Nat} {e:Const} {p:e.ctorIdx=n->Bool} (h:xConst n e p=true):e.ctorIdx=n:=by
 unfold xConst at h
 by_cases q:e.ctorIdx=n
 ·exact q
 ·rw [dif_neg q] at h;exact nbt h
noncomputable def xUnaryOp (n:Nat) (e:UnaryOp) (p:e.ctorIdx=n->Bool):Bool:=if h:e.ctorIdx=n then p h else false
theorem xUnaryOp_idx {n:Nat} {e:UnaryOp} {p:e.ctorIdx=n->Bool} (h:xUnaryOp n e p=true):e.ctorIdx=n:=by
 unfold xUnaryOp at h
 by_cases q:e.ctorIdx=n
 ·exact q
 ·rw [dif_neg q] at h;exact nbt h
noncomputable def dEName (e:Expr) (k:Str->Pos->Bool):Bool:=xExpr 23 e fun h=>Expr.Name.elim (motive_1:=fun u_=>Bool) e h k
@[elab_as_elim] theorem dEName_elim {P:Expr->Prop} {e:Expr} {k:Str->Pos->Bool} (h:dEName e k=true) (g:∀ x0 x1,k x0 x1=true->P (.Name x0 x1)):P e :=
 Expr.Name.elim (motive_1:=fun e=>dEName e k=true->P e) e (xExpr_idx h) (fun x0 x1 h=>g x0 x1 h) h
noncomputable def dECall (e:Expr) (k:Expr->(List Expr)->(List Keyword)->Pos->Bool):Bool:=xExpr 16 e fun h=>Expr.Call.elim (motive_1:=fun u_=>Bool) e h k
@[elab_as_elim] theorem dECall_elim {P:Expr->Prop} {e:Expr} {k:Expr->(List Expr)->(List Keyword)->Pos->Bool} (h:dECall e k=true) (g:∀ x0 x1 x2 x3,k x0 x1 x2 x3=true->P (.Call x0 x1 x2 x3)):P e :=
 Expr.Call.elim (motive_1:=fun e=>dECall e k=true->P e) e (xExpr_idx h) (fun x0 x1 x2 x3 h=>g x0 x1 x2 x3 h) h
noncomputable def dEAttribute (e:Expr) (k:Expr->Str->Pos->Bool):Bool:=xExpr 20 e fun h=>Expr.Attribute.elim (motive_1:=fun u_=>Bool) e h k
@[elab_as_elim] theorem dEAttribute_elim {P:Expr->Prop} {e:Expr} {k:Expr->Str->Pos->Bool} (h:dEAttribute e k=true) (g:∀ x0 x1 x2,k x0 x1 x2=true->P (.Attribute x0 x1 x2)):P e :=
 Expr.Attribute.elim (motive_1:=fun e=>dEAttribute e k=true->P e) e (xExpr_idx h) (fun x0 x1 x2 h=>g x0 x1 x2 h) h
noncomputable def dEConstant (e:Expr) (k:Const->Nat->Pos->Bool):Bool:=xExpr 19 e fun h=>Expr.Constant.elim (motive_1:=fun u_=>Bool) e h k
@[elab_as_elim] theorem dEConstant_elim {P:Expr->Prop} {e:Expr} {k:Const->Nat->Pos->Bool} (h:dEConstant e k=true) (g:∀ x0 x1 x2,k x0 x1 x2=true->P (.Constant x0 x1 x2)):P e :=
 Expr.Constant.elim (motive_1:=fun e=>dEConstant e k=true->P e) e (xExpr_idx h) (fun x0 x1 x2 h=>g x0 x1 x2 h) h
noncomputable def dECompare (e:Expr) (k:Expr->(List CmpOp)->(List Expr)->Pos->Bool):Bool:=xExpr 15 e fun h=>Expr.Compare.elim (motive_1:=fun u_=>Bool) e h k
@[elab_as_elim] theorem dECompare_elim {P:Expr->Prop} {e:Expr} {k:Expr->(List CmpOp)->(List Expr)->Pos->Bool} (h:dECompare e k=true) (g:∀ x0 x1 x2 x3,k x0 x1 x2 x3=true->P (.Compare x0 x1 x2 x3)):P e :=
 Expr.Compare.elim (motive_1:=fun e=>dECompare e k=true->P e) e (xExpr_idx h) (fun x0 x1 x2 x3 h=>g x0 x1 x2 x3 h) h
noncomputable def dEBinOp (e:Expr) (k:Expr->Operator->Expr->Pos->Bool):Bool:=xExpr 2 e fun h=>Expr.BinOp.elim (motive_1:=fun u_=>Bool) e h k
@[elab_as_elim] theorem dEBinOp_elim {P:Expr->Prop} {e:Expr} {k:Expr->Operator->Expr->Pos->Bool} (h:dEBinOp e k=true) (g:∀ x0 x1 x2 x3,k x0 x1 x2 x3=true->P (.BinOp x0 x1 x2 x3)):P e :=
 Expr.BinOp.elim (motive_1:=fun e=>dEBinOp e k=true->P e) e (xExpr_idx h) (fun x0 x1 x2 x3 h=>g x0 x1 x2 x3 h) h
noncomputable def dEUnaryOp (e:Expr) (k:UnaryOp->Expr->Pos->Bool):Bool:=xExpr 3 e fun h=>Expr.UnaryOp.elim (motive_1:=fun u_=>Bool) e h k
@[elab_as_elim] theorem dEUnaryOp_elim {P:Expr->Prop} {e:Expr} {k:UnaryOp->Expr->Pos->Bool} (h:dEUnaryOp e k=true) (g:∀ x0 x1 x2,k x0 x1 x2=true->P (.UnaryOp x0 x1 x2)):P e :=
 Expr.UnaryOp.elim (motive_1:=fun e=>dEUnaryOp e k=true->P e) e (xExpr_idx h) (fun x0 x1 x2 h=>g x0 x1 x2 h) h
noncomputable def dEBoolOp (e:Expr) (k:BoolOp->(List Expr)->Pos->Bool):Bool:=xExpr 0 e fun h=>Expr.BoolOp.elim (motive_1:=fun u_=>Bool) e h k
@[elab_as_elim] theorem dEBoolOp_elim {P:Expr->Prop} {e:Expr} {k:BoolOp->(List Expr)->Pos->Bool} (h:dEBoolOp e k=true) (g:∀ x0 x1 x2,k x0 x1 x2=true->P (.BoolOp x0 x1 x2)):P e :=
 Expr.BoolOp.elim (motive_1:=fun e=>dEBoolOp e k=true->P e) e (xExpr_idx h) (fun x0 x1 x2 h=>g x0 x1 x2 h) h
noncomputable def dEIfExp (e:Expr) (k:Expr->Expr->Expr->Pos->Bool):Bool:=xExpr 5 e fun h=>Expr.IfExp.elim (motive_1:=fun u_=>Bool) e h k
@[elab_as_elim] theorem dEIfExp_elim {P:Expr->Prop} {e:Expr} {k:Expr->Expr->Expr->Pos->Bool} (h:dEIfExp e k=true) (g:∀ x0 x1 x2 x3,k x0 x1 x2 x3=true->P (.IfExp x0 x1 x2 x3)):P e :=
 Expr.IfExp.elim (motive_1:=fun e=>dEIfExp e k=true->P e) e (xExpr_idx h) (fun x0 x1 x2 x3 h=>g x0 x1 x2 x3 h) h
noncomputable def dEList (e:Expr) (k:(List Expr)->Pos->Bool):Bool:=xExpr 24 e fun h=>Expr.List.elim (motive_1:=fun u_=>Bool) e h k
@[elab_as_elim] theorem dEList_elim {P:Expr->Prop} {e:Expr} {k:(List Expr)->Pos->Bool} (h:dEList e k=true) (g:∀ x0 x1,k x0 x1=true->P (.List x0 x1)):P e :=
 Expr.List.elim (motive_1:=fun e=>dEList e k=true->P e) e (xExpr_idx h) (fun x0 x1 h=>g x0 x1 h) h
noncomputable def dETuple (e:Expr) (k:(List Expr)->Nat->Pos->Bool):Bool:=xExpr 25 e fun h=>Expr.Tuple.elim (motive_1:=fun u_=>Bool) e h k
@[elab_as_elim] theorem dETuple_elim {P:Expr->Prop} {e:Expr} {k:(List Expr)->Nat->Pos->Bool} (h:dETuple e k=true) (g:∀ x0 x1 x2,k x0 x1 x2=true->P (.Tuple x0 x1 x2)):P e :=
 Expr.Tuple.elim (motive_1:=fun e=>dETuple e k=true->P e) e (xExpr_idx h) (fun x0 x1 x2 h=>g x0 x1 x2 h) h
noncomputable def dESubscript (e:Expr) (k:Expr->Expr->Pos->Bool):Bool:=xExpr 21 e fun h=>Expr.Subscript.elim (motive_1:=fun u_=>Bool) e h k
@[elab_as_elim] theorem dESubscript_elim {P:Expr->Prop} {e:Expr} {k:Expr->Expr->Pos->Bool} (h:dESubscript e k=true) (g:∀ x0 x1 x2,k x0 x1 x2=true->P (.Subscript x0 x1 x2)):P e :=
 Expr.Subscript.elim (motive_1:=fun e=>dESubscript e k=true->P e) e (xExpr_idx h) (fun x0 x1 x2 h=>g x0 x1 x2 h) h
noncomputable def dESlice (e:Expr) (k:(Option Expr)->(Option Expr)->(Option Expr)->Pos->Bool):Bool:=xExpr 26 e fun h=>Expr.Slice.elim (motive_1:=fun u_=>Bool) e h k
@[elab_as_elim] theorem dESlice_elim {P:Expr->Prop} {e:Expr} {k:(Option Expr)->(Option Expr)->(Option Expr)->Pos->Bool} (h:dESlice e k=true) (g:∀ x0 x1 x2 x3,k x0 x1 x2 x3=true->P (.Slice x0 x1 x2 x3)):P e :=
 Expr.Slice.elim (motive_1:=fun e=>dESlice e k=true->P e) e (xExpr_idx h) (fun x0 x1 x2 x3 h=>g x0 x1 x2 x3 h) h
noncomputable def dEListComp (e:Expr) (k:Expr->(List Comprehension)->Scope->Pos->Bool):Bool:=xExpr 8 e fun h=>Expr.ListComp.elim (motive_1:=fun u_=>Bool) e h k
@[elab_as_elim] theorem dEListComp_elim {P:Expr->Prop} {e:Expr} {k:Expr->(List Comprehension)->Scope->Pos->Bool} (h:dEListComp e k=true) (g:∀ x0 x1 x2 x3,k x0 x1 x2 x3=true->P (.ListComp x0 x1 x2 x3)):P e :=
 Expr.ListComp.elim (motive_1:=fun e=>dEListComp e k=true->P e) e (xExpr_idx h) (fun x0 x1 x2 x3 h=>g x0 x1 x2 x3 h) h
noncomputable def dEYield (e:Expr) (k:(Option Expr)->Pos->Bool):Bool:=xExpr 13 e fun h=>Expr.Yield.elim (motive_1:=fun u_=>Bool) e h k
@[elab_as_elim] theorem dEYield_elim {P:Expr->Prop} {e:Expr} {k:(Option Expr)->Pos->Bool} (h:dEYield e k=true) (g:∀ x0 x1,k x0 x1=true->P (.Yield x0 x1)):P e :=
 Expr.Yield.elim (motive_1:=fun e=>dEYield e k=true->P e) e (xExpr_idx h) (fun x0 x1 h=>g x0 x1 h) h
noncomputable def dSAssign (e:Stmt) (k:(List Expr)->Expr->Pos->Bool):Bool:=xStmt 5 e fun h=>Stmt.Assign.elim (motive_2:=fun u_=>Bool) e h k
@[elab_as_elim] theorem dSAssign_elim {P:Stmt->Prop} {e:Stmt} {k:(List Expr)->Expr->Pos->Bool} (h:dSAssign e k=true) (g:∀ x0 x1 x2,k x0 x1 x2=true->P (.Assign x0 x1 x2)):P e :=
 Stmt.Assign.elim (motive_2:=fun e=>dSAssign e k=true->P e) e (xStmt_idx h) (fun x0 x1 x2 h=>g x0 x1 x2 h) h
noncomputable def dSAugAssign (e:Stmt) (k:Expr->Operator->Expr->Pos->Bool):Bool:=xStmt 7 e fun h=>Stmt.AugAssign.elim (motive_2:=fun u_=>Bool) e h k
@[elab_as_elim] theorem dSAugAssign_elim {P:Stmt->Prop} {e:Stmt} {k:Expr->Operator->Expr->Pos->Bool} (h:dSAugAssign e k=true) (g:∀ x0 x1 x2 x3,k x0 x1 x2 x3=true->P (.AugAssign x0 x1 x2 x3)):P e :=
 Stmt.AugAssign.elim (motive_2:=fun e=>dSAugAssign e k=true->P e) e (xStmt_idx h) (fun x0 x1 x2 x3 h=>g x0 x1 x2 x3 h) h
noncomputable def dSIf (e:Stmt) (k:Expr->(List Stmt)->(List Stmt)->Pos->Bool):Bool:=xStmt 12 e fun h=>Stmt.If.elim (motive_2:=fun u_=>Bool) e h k
@[elab_as_elim] theorem dSIf_elim {P:Stmt->Prop} {e:Stmt} {k:Expr->(List Stmt)->(List Stmt)->Pos->Bool} (h:dSIf e k=true) (g:∀ x0 x1 x2 x3,k x0 x1 x2 x3=true->P (.If x0 x1 x2 x3)):P e :=
 Stmt.If.elim (motive_2:=fun e=>dSIf e k=true->P e) e (xStmt_idx h) (fun x0 x1 x2 x3 h=>g x0 x1 x2 x3 h) h
noncomputable def dSFor (e:Stmt) (k:Expr->Expr->(List Stmt)->(List Stmt)->Pos->Bool):Bool:=xStmt 9 e fun h=>Stmt.For.elim (motive_2:=fun u_=>Bool) e h k
@[elab_as_elim] theorem dSFor_elim {P:Stmt->Prop} {e:Stmt} {k:Expr->Expr->(List Stmt)->(List Stmt)->Pos->Bool} (h:dSFor e k=true) (g:∀ x0 x1 x2 x3 x4,k x0 x1 x2 x3 x4=true->P (.For x0 x1 x2 x3 x4)):P e :=
 Stmt.For.elim (motive_2:=fun e=>dSFor e k=true->P e) e (xStmt_idx h) (fun x0 x1 x2 x3 x4 h=>g x0 x1 x2 x3 x4 h) h
noncomputable def dSWhile (e:Stmt) (k:Expr->(List Stmt)->(List Stmt)->Pos->Bool):Bool:=xStmt 11 e fun h=>Stmt.While.elim (motive_2:=fun u_=>Bool) e h k
@[elab_as_elim] theorem dSWhile_elim {P:Stmt->Prop} {e:Stmt} {k:Expr->(List Stmt)->(List Stmt)->Pos->Bool} (h:dSWhile e k=true) (g:∀ x0 x1 x2 x3,k x0 x1 x2 x3=true->P (.While x0 x1 x2 x3)):P e :=
 Stmt.While.elim (motive_2:=fun e=>dSWhile e k=true->P e) e (xStmt_idx h) (fun x0 x1 x2 x3 h=>g x0 x1 x2 x3 h) h
noncomputable def dSReturn (e:Stmt) (k:(Option Expr)->Pos->Bool):Bool:=xStmt 3 e fun h=>Stmt.Return.elim (motive_2:=fun u_=>Bool) e h k
@[elab_as_elim] theorem dSReturn_elim {P:Stmt->Prop} {e:Stmt} {k:(Option Expr)->Pos->Bool} (h:dSReturn e k=true) (g:∀ x0 x1,k x0 x1=true->P (.Return x0 x1)):P e :=
 Stmt.Return.elim (motive_2:=fun e=>dSReturn e k=true->P e) e (xStmt_idx h) (fun x0 x1 h=>g x0 x1 h) h
noncomputable def dSExpr (e:Stmt) (k:Expr->Pos->Bool):Bool:=xStmt 24 e fun h=>Stmt.Expr.elim (motive_2:=fun u_=>Bool) e h k
@[elab_as_elim] theorem dSExpr_elim {P:Stmt->Prop} {e:Stmt} {k:Expr->Pos->Bool} (h:dSExpr e k=true) (g:∀ x0 x1,k x0 x1=true->P (.Expr x0 x1)):P e :=
 Stmt.Expr.elim (motive_2:=fun e=>dSExpr e k=true->P e) e (xStmt_idx h) (fun x0 x1 h=>g x0 x1 h) h
noncomputable def dCnone (e:Const) (k:Bool):Bool:=xConst 0 e fun h=>Const.none.elim (motive:=fun u_=>Bool) e h k
@[elab_as_elim] theorem dCnone_elim {P:Const->Prop} {e:Const} {k:Bool} (h:dCnone e k=true) (g:k=true->P (.none)):P e :=
 Const.none.elim (motive:=fun e=>dCnone e k=true->P e) e (xConst_idx h) g h
noncomputable def dCbool (e:Const) (k:Bool->Bool):Bool:=xConst 1 e fun h=>Const.bool.elim (motive:=fun u_=>Bool) e h k
@[elab_as_elim] theorem dCbool_elim {P:Const->Prop} {e:Const} {k:Bool->Bool} (h:dCbool e k=true) (g:∀ x0,k x0=true->P (.bool x0)):P e :=
 Const.bool.elim (motive:=fun e=>dCbool e k=true->P e) e (xConst_idx h) (fun x0 h=>g x0 h) h
noncomputable def dCint (e:Const) (k:Int->Bool):Bool:=xConst 2 e fun h=>Const.int.elim (motive:=fun u_=>Bool) e h k
@[elab_as_elim] theorem dCint_elim {P:Const->Prop} {e:Const} {k:Int->Bool} (h:dCint e k=true) (g:∀ x0,k x0=true->P (.int x0)):P e :=
 Const.int.elim (motive:=fun e=>dCint e k=true->P e) e (xConst_idx h) (fun x0 h=>g x0 h) h
noncomputable def dCstr (e:Const) (k:Str->Bool):Bool:=xConst 5 e fun h=>Const.str.elim (motive:=fun u_=>Bool) e h k
@[elab_as_elim] theorem dCstr_elim {P:Const->Prop} {e:Const} {k:Str->Bool} (h:dCstr e k=true) (g:∀ x0,k x0=true->P (.str x0)):P e :=
 Const.str.elim (motive:=fun e=>dCstr e k=true->P e) e (xConst_idx h) (fun x0 h=>g x0 h) h
noncomputable def dUUSub (e:UnaryOp) (k:Bool):Bool:=xUnaryOp 3 e fun h=>UnaryOp.USub.elim (motive:=fun u_=>Bool) e h k
@[elab_as_elim] theorem dUUSub_elim {P:UnaryOp->Prop} {e:UnaryOp} {k:Bool} (h:dUUSub e k=true) (g:k=true->P (.USub)):P e :=
 UnaryOp.USub.elim (motive:=fun e=>dUUSub e k=true->P e) e (xUnaryOp_idx h) g h
noncomputable def dUNot (e:UnaryOp) (k:Bool):Bool:=xUnaryOp 1 e fun h=>UnaryOp.Not.elim (motive:=fun u_=>Bool) e h k
@[elab_as_elim] theorem dUNot_elim {P:UnaryOp->Prop} {e:UnaryOp} {k:Bool} (h:dUNot e k=true) (g:k=true->P (.Not)):P e :=
 UnaryOp.Not.elim (motive:=fun e=>dUNot e k=true->P e) e (xUnaryOp_idx h) g h
noncomputable def dBtrue (e:Bool) (k:Bool):Bool:=e && k
@[elab_as_elim] theorem dBtrue_elim {P:Bool->Prop} {e:Bool} {k:Bool} (h:dBtrue e k=true) (g:k=true->P (.true)):P e:=by
 induction e with
 | true=>exact g h
 | false=>exact nbt h
noncomputable def dnil {α:Type} (l:List α) (k:Bool):Bool:=match l with
 | []=>k
 | _::_=>false
@[elab_as_elim] theorem dnil_elim {α:Type} {P:List α->Prop} {e:List α} {k:Bool} (h:dnil e k=true) (g:k=true->P []):P e:=by
 cases e with
 | nil=>exact g h
 | cons=>exact absurd h Bool.false_ne_true
noncomputable def dcons {α:Type} (l:List α) (k:α->List α->Bool):Bool:=match l with
 | []=>false
 | a::r=>k a r
@[elab_as_elim] theorem dcons_elim {α:Type} {P:List α->Prop} {e:List α} {k:α->List α->Bool} (h:dcons e k=true) (g:∀ a r,k a r=true->P (a::r)):P e:=by
 cases e with
 | nil=>exact absurd h Bool.false_ne_true
 | cons a r=>exact g _ _ h
noncomputable def dsome {α:Type} (l:Option α) (k:α->Bool):Bool:=match l with
 | none=>false
 | some a=>k a
@[elab_as_elim] theorem dsome_elim {α:Type} {P:Option α->Prop} {e:Option α} {k:α->Bool} (h:dsome e k=true) (g:∀ a,k a=true->P (some a)):P e:=by
 induction e with
 | none=>exact absurd h Bool.false_ne_true
 | some a=>exact g _ h
noncomputable def dKw (e:Keyword) (k:Option Str->Expr->Pos->Bool):Bool:=k e.arg e.value e.pos
@[elab_as_elim] theorem dKw_elim {P:Keyword->Prop} {e:Keyword} {k:Option Str->Expr->Pos->Bool} (h:dKw e k=true) (g:∀ a b c,k a b c=true->P ⟨a,b,c⟩):P e:=by cases e;exact g _ _ _ h
noncomputable def dGen (e:Comprehension) (k:Expr->Expr->List Expr->Int->Bool):Bool:=k e.target e.iter e.ifs e.is_async
@[elab_as_elim] theorem dGen_elim {P:Comprehension->Prop} {e:Comprehension} {k:Expr->Expr->List Expr->Int->Bool} (h:dGen e k=true) (g:∀ a b c d,k a b c d=true->P ⟨a,b,c,d⟩):P e:=by cases e;exact g _ _ _ _ h
noncomputable def subst_ps:List Nat:=[0,1]
noncomputable def subst_fn:Sts:=(.cons (.iff (.cmp1 .eq (.var 0) (.var 1)) (.cons (.ret (.int 0)) .nil) .nil) (.cons (.iff (.cmp1 .eq (.p1 .lower (.var 0)) (.p1 .lower (.var 1))) (.cons (.ret (.glo 2)) .nil) .nil) (.cons (.ret (.glo 1)) .nil)))
noncomputable def lev_b1:Sts:=(.cons (.aug 5 .add (.int 1)) .nil)
noncomputable def lev_b2:Sts:=(.cons (.aug 6 .sub (.int 1)) .nil)
noncomputable def lev_b4:Sts:=(.cons (.asg 0 14 (.bin .add (.var 11) (.call 1 (.cons (.var 10) (.cons (.idx (.var 2) (.var 13)) .nil))))) (.cons (.asg 0 11 (.idx (.var 7) (.var 13))) (.cons (.asg 0 15 (.bin .add (.p2 .min2 (.var 8) (.var 11)) (.glo 1))) (.cons (.asg 0 8 (.p2 .min2 (.var 15) (.var 14))) (.cons (.setI 7 (.var 13) (.var 8)) (.cons (.iff (.cmp1 .lt (.var 8) (.var 12)) (.cons (.asg 0 12 (.var 8)) .nil) .nil) .nil))))))
noncomputable def lev_b3:Sts:=(.cons (.asg 0 10 (.idx (.var 3) (.var 9))) (.cons (.asg2 11 8 (.bin .mul (.var 9) (.glo 1))) (.cons (.asg 0 12 (.int 9223372036854775807)) (.cons (.forS (.name 13) (.rng1 (.p1 .len (.var 2))) lev_b4) (.cons (.iff (.cmp1 .gt (.var 12) (.var 4)) (.cons (.ret (.bin .add (.var 4) (.int 1))) .nil) .nil) .nil)))))
noncomputable def lev_ps:List Nat:=[2,3,4]
noncomputable def lev_fn:Sts:=(.cons (.iff (.cmp1 .eq (.var 2) (.var 3)) (.cons (.ret (.int 0)) .nil) .nil) (.cons (.asg 0 5 (.int 0)) (.cons (.whil (.and (.cons (.slc (.var 2) (.var 5) .none .none) (.cons (.slc (.var 3) (.var 5) .none .none) (.cons (.cmp1 .eq (.idx (.var 2) (.var 5)) (.idx (.var 3) (.var 5))) .nil)))) lev_b1) (.cons (.asg 0 2 (.slc (.var 2) (.var 5) .none .none)) (.cons (.asg 0 3 (.slc (.var 3) (.var 5) .none .none)) (.cons (.asg 0 6 (.int 0)) (.cons (.whil (.and (.cons (.slc (.var 2) .none (.or (.cons (.var 6) (.cons .none .nil))) .none) (.cons (.slc (.var 3) .none (.or (.cons (.var 6) (.cons .none .nil))) .none) (.cons (.cmp1 .eq (.idx (.var 2) (.bin .sub (.var 6) (.int 1))) (.idx (.var 3) (.bin .sub (.var 6) (.int 1)))) .nil)))) lev_b2) (.cons (.asg 0 2 (.slc (.var 2) .none (.or (.cons (.var 6) (.cons .none .nil))) .none)) (.cons (.asg 0 3 (.slc (.var 3) .none (.or (.cons (.var 6) (.cons .none .nil))) .none)) (.cons (.iff (.or (.cons (.not (.var 2)) (.cons (.not (.var 3)) .nil))) (.cons (.ret (.bin .mul (.glo 1) (.bin .add (.p1 .len (.var 2)) (.p1 .len (.var 3))))) .nil) .nil) (.cons (.iff (.or (.cons (.cmp1 .gt (.p1 .len (.var 2)) (.glo 0)) (.cons (.cmp1 .gt (.p1 .len (.var 3)) (.glo 0)) .nil))) (.cons (.ret (.bin .add (.var 4) (.int 1))) .nil) .nil) (.cons (.iff (.cmp1 .lt (.p1 .len (.var 3)) (.p1 .len (.var 2))) (.cons (.swap 2 3 (.var 3) (.var 2)) .nil) .nil) (.cons (.iff (.cmp1 .gt (.bin .mul (.bin .sub (.p1 .len (.var 3)) (.p1 .len (.var 2))) (.glo 1)) (.var 4)) (.cons (.ret (.bin .add (.var 4) (.int 1))) .nil) .nil) (.cons (.asg 1 7 (.lof (.rng3 (.glo 1) (.bin .mul (.glo 1) (.bin .add (.p1 .len (.var 2)) (.int 1))) (.glo 1)))) (.cons (.asg 0 8 (.int 0)) (.cons (.forS (.name 9) (.rng1 (.p1 .len (.var 3))) lev_b3) (.cons (.ret (.var 8)) .nil)))))))))))))))))
noncomputable def strip_b1:Sts:=(.cons (.iff (.cmp1 .eq (.var 20) (.str [34])) (.cons (.iff (.isC false (.var 18) .none) (.cons (.asg 0 18 (.var 19)) .nil) (.cons (.iff (.cmp1 .ne (.var 17) (.var 18)) (.cons (.app 8 (.slc (.var 16) (.var 17) (.var 18) .none)) .nil) .nil) (.cons (.asg 0 17 (.bin .add (.var 19) (.int 1))) (.cons (.asg 0 18 .none) .nil)))) .nil) .nil) .nil)
noncomputable def strip_ps:List Nat:=[16]
noncomputable def strip_fn:Sts:=(.cons (.iff (.cmp1 .notin (.str [34]) (.var 16)) (.cons (.ret (.var 16)) .nil) .nil) (.cons (.asg 0 17 (.int 0)) (.cons (.asg 0 18 .none) (.cons (.asg 1 8 (.lst .nil)) (.cons (.forS (.tup [19,20]) (.gen (.var 16)) strip_b1) (.cons (.iff (.cmp1 .lt (.var 17) (.p1 .len (.var 16))) (.cons (.app 8 (.slc (.var 16) (.var 17) .none .none)) .nil) .nil) (.cons (.frz 8) (.cons (.ret (.p2 .join (.str []) (.var 8))) .nil))))))))
noncomputable def check_b1:Sts:=(.cons (.iff (.cmp1 .eq (.var 20) (.str [40])) (.cons (.aug 21 .add (.int 1)) .nil) (.cons (.iff (.cmp1 .eq (.var 20) (.str [41])) (.cons (.aug 21 .sub (.int 1)) (.cons (.iff (.cmp1 .lt (.var 21) (.int 0)) (.cons (.ret (.bool false)) .nil) .nil) .nil)) .nil) .nil)) .nil)
noncomputable def check_ps:List Nat:=[16]
noncomputable def check_fn:Sts:=(.cons (.asg 0 16 (.call 2 (.cons (.var 16) .nil))) (.cons (.asg 0 21 (.int 0)) (.cons (.forS (.tup [19,20]) (.gen (.var 16)) check_b1) (.cons (.ret (.cmp1 .eq (.var 21) (.int 0))) .nil))))
noncomputable def l4_around_b1:Sts:=(.cons (.asg 0 63 (.p2 .index (.str [97,98,99,100,101]) (.var 31))) (.cons (.iff (.cmp1 .ne (.var 63) (.var 26)) (.cons (.ext 90 (.callh 4 106 (.cons (.var 63) (.cons (.var 84) (.cons (.var 76) .nil))))) .nil) .nil) .nil))
noncomputable def l4_around_ps:List Nat:=[106,84,26,76]
noncomputable def l4_around_fn:Sts:=(.cons (.asg 1 90 (.lst (.cons (.tup (.cons (.var 84) (.cons (.bin .add (.str [40]) (.idx (.var 76) (.var 84))) .nil))) .nil))) (.cons (.forS (.name 31) (.val (.hget 106 (.idx (.str [65,66,67,68,69]) (.var 84)))) l4_around_b1) (.cons (.ret (.bin .add (.var 90) (.lst (.cons (.tup (.cons (.neg 1) (.cons (.str [41]) .nil))) .nil)))) .nil)))
noncomputable def l4_ends_b2:Sts:=(.cons (.iff (.and (.cons (.cmp1 .eq (.var 35) (.int 0)) (.cons (.cmp1 .gt (.var 107) (.var 17)) .nil))) (.cons (.asg 0 56 (.call 3 (.cons (.slc (.var 36) (.var 17) (.var 107) .none) .nil))) (.cons (.iff (.isC false (.var 56) (.bool true)) (.cons (.asg 0 35 (.var 107)) .nil) (.cons (.iff (.isC true (.var 56) (.bool false)) (.cons (.ret (.lst (.cons (.int 0) .nil))) .nil) .nil) .nil)) .nil)) .nil) .nil)
noncomputable def l4_ends_b1:Sts:=(.cons (.asg 0 35 (.int 0)) (.cons (.forS (.name 107) (.val (.var 28)) l4_ends_b2) (.cons (.app 87 (.var 35)) .nil)))
noncomputable def l4_ends_ps:List Nat:=[36,21,28]
noncomputable def l4_ends_fn:Sts:=(.cons (.asg 1 87 (.lst .nil)) (.cons (.forS (.name 17) (.val (.var 21)) l4_ends_b1) (.cons (.frz 87) (.cons (.ret (.var 87)) .nil))))
noncomputable def l4_main_b1:Sts:=(.cons (.asg 0 63 (.bin .mod (.idx (.var 45) (.bin .sub (.var 84) (.int 1))) (.var 84))) (.cons (.hadd 106 (.idx (.str [97,98,99,100,101]) (.var 63)) (.idx (.str [97,98,99,100,101]) (.var 84))) (.cons (.hadd 106 (.idx (.str [65,66,67,68,69]) (.var 84)) (.idx (.str [97,98,99,100,101]) (.var 63))) (.cons (.ext 75 (.lst (.cons (.idx (.str [97,98,99,100,101]) (.var 63)) (.cons (.idx (.str [65,66,67,68,69]) (.var 84)) .nil)))) .nil))))
noncomputable def l4_main_b2:Sts:=(.cons (.iff (.cmp1 .ge (.var 84) (.int 0)) (.cons (.setI 21 (.var 84) (.p1 .len (.var 36))) .nil) .nil) (.cons (.asg 0 36 (.bin .add (.var 36) (.var 7))) (.cons (.iff (.cmp1 .lt (.var 84) (.int 0)) (.cons (.app 28 (.p1 .len (.var 36))) .nil) .nil) .nil)))
noncomputable def l4_main_b3:Sts:=(.cons (.app 52 (.p2 .join (.str []) (.comp (.ite (.cmp2 .le .lt (.idx (.var 21) (.var 63)) (.idx (.var 21) (.var 84)) (.idx (.var 87) (.var 63))) (.idx (.str [65,66,67,68,69]) (.var 63)) (.idx (.str [97,98,99,100,101]) (.var 63))) (.name 63) (.rng1 (.var 47)) .nil))) .nil)
noncomputable def l4_main_b5:Sts:=(.cons (.asg 0 42 (.call 0 (.cons (.idx (.var 52) (.var 84)) (.cons (.idx (.var 52) (.var 63)) (.cons (.var 47) .nil))))) (.cons (.iff (.isT true (.var 42) 0) (.cons (.ret (.bool false)) .nil) .nil) (.cons (.iff (.and (.cons (.cmp1 .eq (.var 63) (.int 0)) (.cons (.cmp1 .ne (.call 0 (.cons (.bin .add (.str [120]) (.idx (.var 52) (.int 0))) (.cons (.idx (.var 52) (.var 84)) (.cons (.bin .add (.var 42) (.int 2)) .nil)))) (.bin .add (.var 42) (.int 2))) .nil))) (.cons (.ret (.bool false)) .nil) .nil) (.cons (.setJ 97 (.var 84) (.var 63) (.var 42)) (.cons (.setJ 97 (.var 63) (.var 84) (.var 42)) .nil)))))
noncomputable def l4_main_b4:Sts:=(.cons (.forS (.name 63) (.rng1 (.bin .add (.var 84) (.int 1))) l4_main_b5) .nil)
noncomputable def l4_main_b7:Sts:=(.cons (.augI 7 (.var 63) .add (.bin .mul (.bin .sub (.var 47) (.int 1)) (.p2 .count (.idx (.var 109) (.var 84)) (.idx (.str [97,98,99,100,101]) (.var 63))))) .nil)
noncomputable def l4_main_b6:Sts:=(.cons (.asg 1 7 (.comp (.bin .mul (.bin .sub (.int 2) (.p1 .len (.idx (.var 109) (.var 84)))) (.bin .sub (.int 2) (.p1 .len (.var 63)))) (.name 63) (.val (.var 109)) .nil)) (.cons (.forS (.name 63) (.rng1 (.var 47)) l4_main_b7) (.cons (.augI 7 (.var 84) .sub (.bin .mul (.bin .sub (.var 47) (.int 1)) (.p1 .len (.idx (.var 109) (.var 84))))) (.cons (.frz 7) (.cons (.app 110 (.var 7)) .nil)))))
noncomputable def l4_main_b9:Sts:=(.cons (.asg 0 111 (.p1 .sum (.comp (.bin .mul (.idx (.idx (.var 97) (.var 84)) (.var 71)) (.idx (.idx (.var 110) (.var 71)) (.var 63))) (.name 71) (.rng1 (.var 47)) .nil))) (.cons (.iff (.cmp1 .ne (.var 111) (.ite (.cmp1 .eq (.var 84) (.var 63)) (.bin .mul (.int 2) (.bin .sub (.var 47) (.int 1))) (.int 0))) (.cons (.ret (.bool false)) .nil) .nil) .nil))
noncomputable def l4_main_b8:Sts:=(.cons (.forS (.name 63) (.rng1 (.var 47)) l4_main_b9) .nil)
noncomputable def l4_main_ps:List Nat:=[43]
noncomputable def l4_main_fn:Sts:=(.cons (.asg 0 44 (.slc (.var 43) .none (.int 60) .none)) (.cons (.asg 0 45 (.comp (.bin .mod (.bin .add (.var 46) (.p1 .sum (.slc (.var 44) (.var 30) .none (.int 4)))) (.bin .pow (.int 10) (.int 6))) (.tup [30,46]) (.enm (.lst (.cons (.int 24) (.cons (.int 37) (.cons (.int 50) (.cons (.int 15) .nil)))))) .nil)) (.cons (.asg 0 47 (.ite (.cmp1 .gt (.p1 .len (.var 44)) (.int 3)) (.int 5) (.int 4))) (.cons (.asgH 106) (.cons (.asg 1 75 (.lst .nil)) (.cons (.forS (.name 84) (.rng2 (.int 1) (.var 47)) l4_main_b1) (.cons (.iff (.or (.cons (.cmp1 .ne (.hkeys 106) (.var 75)) (.cons (.cmp1 .ne (.hget 106 (.str [88])) (.lst .nil)) .nil))) (.cons (.ret (.bool false)) .nil) .nil) (.cons (.asg 0 108 (.lst (.cons (.str []) (.cons (.str [34,41,34]) (.cons (.str [92,40]) (.cons (.str [92,92]) (.cons (.str [34,92,34,40,34]) .nil))))))) (.cons (.asg 0 76 (.comp (.idx (.var 108) (.bin .mod (.bin .fdiv (.var 48) (.int 12)) (.int 5))) (.name 48) (.val (.bin .add (.lst (.cons (.p1 .sum (.var 45)) .nil)) (.var 45))) .nil)) (.cons (.asg 1 21 (.bin .mul (.lst (.cons (.int 0) .nil)) (.var 47))) (.cons (.asg 1 28 (.lst .nil)) (.cons (.asg 0 36 (.str [])) (.cons (.forS (.tup [84,7]) (.val (.callh 4 106 (.cons (.bin .mod (.p1 .sum (.var 45)) (.var 47)) (.cons (.neg 1) (.cons (.var 76) .nil))))) l4_main_b2) (.cons (.frz 21) (.cons (.frz 28) (.cons (.asg 0 87 (.call 5 (.cons (.var 36) (.cons (.var 21) (.cons (.var 28) .nil))))) (.cons (.iff (.or (.cons (.cmp1 .ne (.p1 .len (.var 28)) (.var 47)) (.cons (.cmp1 .isin (.int 0) (.var 87)) (.cons (.isC true (.call 3 (.cons (.bin .add (.slc (.var 36) (.int 1) .none .none) (.str [40])) .nil)) (.bool false)) .nil)))) (.cons (.ret (.bool false)) .nil) .nil) (.cons (.asg 1 52 (.lst .nil)) (.cons (.forS (.name 84) (.rng1 (.var 47)) l4_main_b3) (.cons (.asg 2 97 (.comp (.bin .mul (.lst (.cons (.int 0) .nil)) (.var 47)) (.name 84) (.rng1 (.var 47)) .nil)) (.cons (.forS (.name 84) (.rng1 (.var 47)) l4_main_b4) (.cons (.asg 0 109 (.comp (.hget 106 (.var 31)) (.name 31) (.val (.slc (.str [97,66,99,68,101]) .none (.var 47) .none)) .nil)) (.cons (.asg 1 110 (.lst .nil)) (.cons (.forS (.name 84) (.rng1 (.var 47)) l4_main_b6) (.cons (.forS (.name 84) (.rng1 (.var 47)) l4_main_b8) (.cons (.ret (.bool true)) .nil))))))))))))))))))))))))))
open PySem PySem.W PyProof.Rows
noncomputable def KeepH (h h':Heap):Prop:=∀ b o,h.get? b=some o->h'.get? b=some o
theorem KeepH.refl (h:Heap):KeepH h h:=fun u_ u_ e=>e
theorem KeepH.trans {a b c:Heap} (x:KeepH a b) (y:KeepH b c):KeepH a c:=fun u_ u_ e=>y _ _ (x _ _ e)
theorem KeepH.push (h:Heap) (o:Obj):KeepH h (h.push o):=fun u_ u_ e=>Heap.get?_push_of_some _ e
theorem KeepH.fresh {h h':Heap} (x:Heap.ExtBut h.objs.size h h'):KeepH h h':=fun b o e=>x b o (Nat.ne_of_lt (Heap.lt_size e)) e
structure GK (g g':Array GenState):Prop where
 size:g.size<=g'.size
 old:∀ i,i < g.size->g'[i]?=g[i]?
 bare:AllBare g->AllBare g'
theorem GK.refl (g:Array GenState):GK g g:=⟨Nat.le_refl _,fun u_ u_=>rfl,fun x=>x⟩
theorem GK.trans {a b c:Array GenState} (x:GK a b) (y:GK b c):GK a c :=
 ⟨Nat.le_trans x.size y.size,fun i h=>(y.old i (Nat.lt_of_lt_of_le h x.size)).trans (x.old i h),fun h=>y.bare (x.bare h)⟩
structure Stp (s s':Shared):Prop where
 keep:KeepH s.heap s'.heap
 gk:GK s.gens s'.gens
 os:s'.os=s.os
theorem Stp.refl (s:Shared):Stp s s:=⟨.refl _,.refl _,rfl⟩
theorem Stp.trans {a b c:Shared} (x:Stp a b) (y:Stp b c):Stp a c:=⟨x.keep.trans y.keep,x.gk.trans y.gk,y.os.trans x.os⟩
theorem Stp.of {s:Shared} {h':Heap} {tk:Nat} (k:KeepH s.heap h'):Stp s { s with heap:=h',toks:=tk }:=⟨k,.refl _,rfl⟩
theorem Stp.toks {s:Shared} {tk:Nat}:Stp s { s with toks:=tk }:=⟨.refl _,.refl _,rfl⟩
theorem Stp.heap {s:Shared} {h':Heap} (k:KeepH s.heap h'):Stp s { s with heap:=h' }:=⟨k,.refl _,rfl⟩
theorem Stp.push {s:Shared} {o:Obj}:Stp s { s with heap:=s.heap.push o }:=.heap (.push _ _)
inductive All2 {α β:Type} (R:α->β->Prop):List α->List β->Prop where
 | nil:All2 R [] []
 | cons {a b as bs}:R a b->All2 R as bs->All2 R (a::as) (b::bs)
namespace All2
variable {α β:Type} {R R':α->β->Prop}
theorem mono (h:∀ a b,R a b->R' a b) {as:List α} {bs:List β} (x:All2 R as bs):All2 R' as bs:=by
 induction x with
 | nil=>exact .nil
 | cons h1 _ ih=>exact .cons (h _ _ h1) ih
theorem length {as:List α} {bs:List β} (x:All2 R as bs):as.length=bs.length:=by
 induction x with
 | nil=>rfl
 | cons _ _ ih=>simp [ih]
theorem append {as as':List α} {bs bs':List β} (x:All2 R as bs) (y:All2 R as' bs'):All2 R (as++as') (bs++bs'):=by
 induction x with
 | nil=>exact y
 | cons h1 _ ih=>exact .cons h1 ih
theorem get {as:List α} {bs:List β} (x:All2 R as bs) {i:Nat} {b:β} (h:bs[i]?=some b):∃ a,as[i]?=some a/\R a b:=by
 induction x generalizing i with
 | nil=>simp at h
 | cons h1 _ ih =>
  cases i with
  | zero=>simp at h;subst h;exact ⟨_,by simp,h1⟩
  | succ i=>simp at h;(refine e1a2 (ih h) ?_;rintro a ha hr);exact ⟨a,by simpa using ha,hr⟩
theorem get' {as:List α} {bs:List β} (x:All2 R as bs) {i:Nat} {a:α} (h:as[i]?=some a):∃ b,bs[i]?=some b/\R a b:=by
 induction x generalizing i with
 | nil=>simp at h
 | cons h1 _ ih =>
  cases i with
  | zero=>simp at h;subst h;exact ⟨_,by simp,h1⟩
  | succ i=>simp at h;(refine e1a2 (ih h) ?_;rintro b hb hr);exact ⟨b,by simpa using hb,hr⟩
theorem drop {as:List α} {bs:List β} (x:All2 R as bs) (n:Nat):All2 R (as.drop n) (bs.drop n):=by
 induction x generalizing n with
 | nil=>simp;exact .nil
 | cons h1 t ih=>cases n with
  | zero=>exact .cons h1 t
  | succ n=>simpa using ih n
theorem take {as:List α} {bs:List β} (x:All2 R as bs) (n:Nat):All2 R (as.take n) (bs.take n):=by
 induction x generalizing n with
 | nil=>simp;exact .nil
 | cons h1 t ih=>cases n with
  | zero=>exact .nil
  | succ n=>simpa using .cons h1 (ih n)
theorem set {as:List α} {bs:List β} (x:All2 R as bs) (n:Nat) {a:α} {b:β} (h:R a b):All2 R (as.set n a) (bs.set n b):=by
 induction x generalizing n with
 | nil=>exact .nil
 | cons h1 t ih=>cases n with
  | zero=>exact .cons h t
  | succ n=>exact .cons h1 (ih n)
end All2
noncomputable def Pl (h:Heap) (a:Addr):Prop:=∃ vs,h.PlainList a vs
theorem PlainList.keep {h h':Heap} {a:Addr} {vs:Array Value} (k:KeepH h h') (x:h.PlainList a vs):h'.PlainList a vs:=let ⟨n,e⟩:=x;⟨n,k _ _ e⟩
theorem Pl.keep {h h':Heap} {a:Addr} (k:KeepH h h') (x:Pl h a):Pl h' a:=let ⟨vs,e⟩:=x;⟨vs,PlainList.keep k e⟩
noncomputable def Rd0 (Own:Addr->Prop) (h:Heap) (v:Value) (d:PyData):Prop:=∃ as,Reads h v d as/\∀ a∈as,¬ Own a/\Pl h a
noncomputable def RdG (Own:Addr->Prop):Nat->Heap->Value->PyData->Prop
 | 0,h,v,d=>Rd0 Own h v d
 | k+1,h,v,d=>∃ a xs vs,v=.ref a/\d=.list xs/\h.PlainList a vs/\All2 (RdG Own k h) vs.toList xs
theorem Rd0.keep {Own:Addr->Prop} {h h':Heap} {v:Value} {d:PyData} (k:KeepH h h') (x:Rd0 Own h v d):Rd0 Own h' v d :=
 let ⟨as,r,n⟩:=x;⟨as,Reads.keeps k r,fun a m=>⟨(n a m).1,(n a m).2.keep k⟩⟩
theorem RdG.keep {Own:Addr->Prop} {h h':Heap} (kk:KeepH h h'):∀ {k:Nat} {v:Value} {d:PyData},RdG Own k h v d->RdG Own k h' v d
 | 0,_,_,x=>Rd0.keep kk x
 | k+1,_,_,⟨a,xs,vs,e1,e2,hl,hx⟩=>⟨a,xs,vs,e1,e2,PlainList.keep kk hl,hx.mono fun u_ u_ y=>RdG.keep kk y⟩
theorem readsAll_of {Own:Addr->Prop} {h:Heap} {vs:List Value} {xs:List PyData} (x:All2 (Rd0 Own h) vs xs):∃ as,ReadsAll h vs xs as/\∀ a∈as,¬ Own a/\Pl h a:=by
 induction x with
 | nil=>exact ⟨[],.nil,fun u_ m=>nomatch m⟩
 | cons h1 _ ih =>
  (refine e1a2 h1 ?_;try clear h1;rintro as r n)
  (refine e1a2 ih ?_;try clear ih;rintro bs r' n')
  exact ⟨as++bs,.cons r r',fun a m=>(List.mem_append.mp m).elim (n a) (n' a)⟩
theorem of_readsAll {Own:Addr->Prop} {h:Heap} {vs:List Value} {xs:List PyData} {as:List Addr} (r:ReadsAll h vs xs as):(∀ a∈as,¬ Own a/\Pl h a)->All2 (Rd0 Own h) vs xs:=by
 intro n
 induction vs generalizing xs as with
 | nil=>cases r;exact .nil
 | cons v vs ih =>
  cases r with
  | cons r1 r2=>exact .cons ⟨_,r1,fun a m=>n a (List.mem_append_left _ m)⟩ (ih r2 fun a m=>n a (List.mem_append_right _ m))
theorem RdG.list {Own:Addr->Prop} {h:Heap} {a:Addr} {vs:Array Value} {xs:List PyData} (hl:h.PlainList a vs) (hx:All2 (Rd0 Own h) vs.toList xs) (ha:¬ Own a):Rd0 Own h (.ref a) (.list xs):=by
 (refine e1a2 (readsAll_of hx) ?_;rintro as r hn)
 (refine e1a1 (id hl) ?_;rintro n ho)
 exact ⟨a::as,.list ho rfl rfl r,fun b m=>(List.mem_cons.mp m).elim (fun e=>e ▸ ⟨ha,_,hl⟩) (hn b)⟩
theorem Rd0.tuple {Own:Addr->Prop} {h:Heap} {a:Addr} {vs:Array Value} {xs:List PyData} (hl:h.IsTuple a vs) (hx:All2 (Rd0 Own h) vs.toList xs):Rd0 Own h (.ref a) (.tuple xs):=by
 (refine e1a3 hl ?_;try clear hl;rintro o ho hc hz_;obtain ⟨n,hd⟩:=hz_)
 (refine e1a2 (readsAll_of hx) ?_;rintro as r hn)
 exact ⟨as,.tuple ho hc hd r,hn⟩
theorem Rd0.unlist {Own:Addr->Prop} {h:Heap} {v:Value} {xs:List PyData} (x:Rd0 Own h v (.list xs)):∃ a vs,v=.ref a/\h.PlainList a vs/\All2 (Rd0 Own h) vs.toList xs/\¬ Own a:=by
 (refine e1a2 x ?_;try clear x;rintro as r hn)
 cases r with
 | list ho hc hd r =>
  (refine by_goal fun G_ hG_=>?_;rcases hn _ List.mem_cons_self with ⟨h1,vs',n',ho'⟩;all_goals (refine hG_ ?_;clear hG_ G_))
  rw [ho] at ho'
  have e:=Option.some.inj ho'
  subst e
  have e:=(Data.seq.inj hd).1
  subst e
  exact ⟨_,_,rfl,⟨_,ho⟩,of_readsAll r fun a m=>hn a (List.mem_cons_of_mem _ m),h1⟩
theorem Rd0.untuple {Own:Addr->Prop} {h:Heap} {v:Value} {xs:List PyData} (x:Rd0 Own h v (.tuple xs)):∃ a vs,v=.ref a/\h.IsTuple a vs/\All2 (Rd0 Own h) vs.toList xs:=by
 (refine e1a2 x ?_;try clear x;rintro as r hn)
 cases r with
 | tuple ho hc hd r=>exact ⟨_,_,rfl,⟨_,ho,hc,_,hd⟩,of_readsAll r hn⟩
theorem Rd0.none {Own:Addr->Prop} {h:Heap} {v:Value} (x:Rd0 Own h v .none):v=.none:=by (refine e1a2 x ?_;try clear x;rintro as r u_);cases r;rfl
theorem Rd0.bool {Own:Addr->Prop} {h:Heap} {v:Value} {b:Bool} (x:Rd0 Own h v (.bool b)):v=.bool b:=by (refine e1a2 x ?_;try clear x;rintro as r u_);cases r;rfl
theorem Rd0.int {Own:Addr->Prop} {h:Heap} {v:Value} {i:Int} (x:Rd0 Own h v (.int i)):∃ t,v=.int i t:=by (refine e1a2 x ?_;try clear x;rintro as r u_);cases r;exact ⟨_,rfl⟩
theorem Rd0.str {Own:Addr->Prop} {h:Heap} {v:Value} {x:Str} (r:Rd0 Own h v (.str x)):∃ t,v=.str x t:=by (refine e1a2 r ?_;try clear r;rintro as r u_);cases r;exact ⟨_,rfl⟩
theorem Rd0.dict {Own:Addr->Prop} {h:Heap} {v:Value} {x} (r:Rd0 Own h v (.dict x)):∃ a,v=.ref a:=by (refine e1a2 r ?_;try clear r;rintro as r u_);cases r;exact ⟨_,rfl⟩
theorem Rd0.mkNone {Own:Addr->Prop} {h:Heap}:Rd0 Own h .none .none:=⟨[],.none,fun u_ m=>nomatch m⟩
theorem Rd0.mkBool {Own:Addr->Prop} {h:Heap} {b:Bool}:Rd0 Own h (.bool b) (.bool b):=⟨[],.bool _,fun u_ m=>nomatch m⟩
theorem Rd0.mkInt {Own:Addr->Prop} {h:Heap} {i:Int} {t:Tok}:Rd0 Own h (.int i t) (.int i):=⟨[],.int _ _,fun u_ m=>nomatch m⟩
theorem Rd0.mkStr {Own:Addr->Prop} {h:Heap} {x:Str} {t:Tok}:Rd0 Own h (.str x t) (.str x):=⟨[],.str _ _,fun u_ m=>nomatch m⟩
theorem RdG.any {Own:Addr->Prop} {h:Heap} {k:Nat}:∀ {v:Value} {d:PyData},RdG Own k h v d->Rd0 (fun u_=>False) h v d:=by
 induction k with
 | zero=>exact fun x=>e1a2 x fun as r hn=>⟨as,r,fun a m=>⟨fun x=>x,(hn a m).2⟩⟩
 | succ k ih =>
  intro v d x
  (refine e3a4 x ?_;rintro a xs vs rfl rfl hl hx)
  exact RdG.list hl (hx.mono fun u_ u_ y=>ih y) (fun x=>x)
theorem Rd0.flat {Own Own':Addr->Prop} {h:Heap} {v:Value} {d:PyData} (hn:noL d=true) (x:Rd0 Own h v d):Rd0 Own' h v d:=by
 cases d with
 | none=>rw [x.none];exact .mkNone
 | bool b=>rw [x.bool];exact .mkBool
 | int i=>(refine e1a1 x.int ?_;rintro t rfl);exact .mkInt
 | str i=>(refine e1a1 x.str ?_;rintro t rfl);exact .mkStr
 | list _=>exact absurd hn Bool.false_ne_true
 | tuple _=>exact absurd hn Bool.false_ne_true
 | dict _=>exact absurd hn Bool.false_ne_true
theorem RdG.flat {Own Own':Addr->Prop} {h:Heap} {k:Nat} {v:Value} {d:PyData} (hn:noL d=true) (x:RdG Own k h v d):Rd0 Own' h v d:=x.any.flat hn
theorem RdG.zero {Own:Addr->Prop} {h:Heap} {v:Value} {xs:List PyData} (x:Rd0 Own h v (.list xs)):∃ a vs,v=.ref a/\h.PlainList a vs/\All2 (Rd0 Own h) vs.toList xs :=
 let ⟨a,vs,e,hl,hx,_⟩:=Rd0.unlist x;⟨a,vs,e,hl,hx⟩
theorem RdG.succ {Own:Addr->Prop} {h:Heap} {k:Nat} {v:Value} {xs:List PyData} (x:RdG Own (k+1) h v (.list xs)):∃ a vs,v=.ref a/\h.PlainList a vs/\All2 (RdG Own k h) vs.toList xs:=by
 (refine e3a4 x ?_;try clear x;rintro a ys vs e1 e2 hl hx)
 have e3:xs=ys:=PyData.list.inj e2
 subst e3
 exact ⟨a,vs,e1,hl,hx⟩
theorem RdG.items {Own:Addr->Prop} {h:Heap} {k:Nat} {v:Value} {xs:List PyData} (x:RdG Own k h v (.list xs)):∃ a vs,v=.ref a/\h.PlainList a vs/\All2 (RdG Own (k - 1) h) vs.toList xs:=by
 cases k with
 | zero=>exact RdG.zero x
 | succ k=>exact RdG.succ x
theorem RdG.one {Own:Addr->Prop} {h:Heap} {k:Nat} (hk:k<=1) {v:Value} {xs:List PyData} (x:RdG Own k h v (.list xs)):∃ a vs,v=.ref a/\h.PlainList a vs/\All2 (Rd0 Own h) vs.toList xs:=by
 have e:k - 1=0:=by omega
 have y:=RdG.items x
 rw [e] at y
 exact y
theorem RdG.nolist {Own:Addr->Prop} {h:Heap} {k:Nat} {v:Value} {d:PyData} (x:RdG Own k h v d) (hd:∀ xs,d≠.list xs):Rd0 Own h v d:=by
 cases k with
 | zero=>exact x
 | succ k=>(refine e3a4 x ?_;try clear x;rintro a ys vs e1 e2 hl hx);exact absurd e2 (hd _)
theorem Rd0.weak {Own Own':Addr->Prop} {h:Heap} {v:Value} {d:PyData} (hs:∀ a,Own' a->Own a) (x:Rd0 Own h v d):Rd0 Own' h v d :=
 let ⟨as,r,n⟩:=x;⟨as,r,fun a m=>⟨fun p=>(n a m).1 (hs a p),(n a m).2⟩⟩
theorem RdG.weak {Own Own':Addr->Prop} {h:Heap} (hs:∀ a,Own' a->Own a):∀ {k:Nat} {v:Value} {d:PyData},RdG Own k h v d->RdG Own' k h v d
 | 0,_,_,x=>Rd0.weak hs x
 | k+1,_,_,⟨a,xs,vs,e1,e2,hl,hx⟩=>⟨a,xs,vs,e1,e2,hl,hx.mono fun u_ u_ y=>RdG.weak hs y⟩
theorem Reads.live {h:Heap}:∀ {v:Value} {d:PyData} {as:List Addr},Reads h v d as->∀ a∈as,∃ o,h.get? a=some o:=by
 intro v d as r
 refine Reads.rec (motive_1:=fun u_ u_ as u_=>∀ a∈as,∃ o,h.get? a=some o) (motive_2:=fun u_ u_ as u_=>∀ a∈as,∃ o,h.get? a=some o) ?_ ?_ ?_ ?_ ?_ ?_ ?_ ?_ ?_ r
 ·intro a m;cases m
 ·intro _ a m;cases m
 ·intro _ _ a m;cases m
 ·intro _ _ a m;cases m
 ·intro a o vs n xs as ho _ _ _ ih b m
  rcases List.mem_cons.mp m with rfl | m
  ·exact ⟨_,ho⟩
  ·exact ih b m
 ·intro a o vs n xs as ho _ _ _ ih;exact ih
 ·intro a o es n kvs as bs ho _ _ _ _ ih1 ih2 b m
  rcases List.mem_append.mp m with m | m
  ·rcases List.mem_cons.mp m with rfl | m
   ·exact ⟨_,ho⟩
   ·exact ih1 b m
  ·exact ih2 b m
 ·intro a m;cases m
 ·intro _ _ _ _ _ _ _ _ ih1 ih2 a m
  exact (List.mem_append.mp m).elim (ih1 a) (ih2 a)
theorem Rd0.grow {Own Own':Addr->Prop} {h:Heap} {v:Value} {d:PyData} (hs:∀ a,Own' a->(∃ o,h.get? a=some o)->Own a) (x:Rd0 Own h v d):Rd0 Own' h v d :=
 let ⟨as,r,n⟩:=x;⟨as,r,fun a m=>⟨fun p=>(n a m).1 (hs a p (Reads.live r a m)),(n a m).2⟩⟩
theorem RdG.grow {Own Own':Addr->Prop} {h:Heap} (hs:∀ a,Own' a->(∃ o,h.get? a=some o)->Own a):∀ {k:Nat} {v:Value} {d:PyData},RdG Own k h v d->RdG Own' k h v d
 | 0,_,_,x=>Rd0.grow hs x
 | k+1,_,_,⟨a,xs,vs,e1,e2,hl,hx⟩=>⟨a,xs,vs,e1,e2,hl,hx.mono fun u_ u_ y=>RdG.grow hs y⟩
noncomputable def nm (i:Nat):Str:=match nameTab[i]? with
 | some l=>⟨l.toArray⟩
 | none=>⟨#[0,i]⟩
noncomputable def fnTab:List (List Nat):=[[95,77,65,88,95,83,84,82,73,78,71,95,83,73,90,69],[95,77,79,86,69,95,67,79,83,84],[95,67,65,83,69,95,67,79,83,84]]
noncomputable def gnm (i:Nat):Str:=match fnTab[i]? with
 | some l=>⟨l.toArray⟩
 | none=>⟨#[0]⟩
theorem nameTab_ok:(nameTab.all fun l=>match l with | 0::_=>false | []=>false | _=>true)=true:=by decide +kernel
theorem nameTab_nodup:nameTab.Nodup:=by decide +kernel
theorem nm_inj {i j:Nat} (h:nm i=nm j):i=j:=by
 unfold nm at h
 cases hi:nameTab[i]? with
 | none =>
  cases hj:nameTab[j]? with
  | none=>rw [hi,hj] at h;simp at h;exact h
  | some l =>
   rw [hi,hj] at h
   have hm:=List.all_eq_true.mp nameTab_ok l (List.mem_of_getElem? hj)
   have e:l=[0,i]:=by simpa using (congrArg (fun x:Str=>x.cps.toList) h).symm
   rw [e] at hm;simp at hm
 | some l =>
  cases hj:nameTab[j]? with
  | none =>
   rw [hi,hj] at h
   have hm:=List.all_eq_true.mp nameTab_ok l (List.mem_of_getElem? hi)
   have e:l=[0,j]:=by simpa using (congrArg (fun x:Str=>x.cps.toList) h)
   rw [e] at hm;simp at hm
  | some l' =>
   rw [hi,hj] at h
   have e:l=l':=by simpa using (congrArg (fun x:Str=>x.cps.toList) h)
   subst e
   (refine e1a1 (List.getElem?_eq_some_iff.mp hi) ?_;rintro h1 e1)
   (refine e1a1 (List.getElem?_eq_some_iff.mp hj) ?_;rintro h2 e2)
   have hp:=List.pairwise_iff_getElem.mp nameTab_nodup
   rcases Nat.lt_trichotomy i j with q | q | q
   ·exact absurd (e1.trans e2.symm) (hp i j h1 h2 q)
   ·exact q
   ·exact absurd (e2.trans e1.symm) (hp j i h2 h1 q)
noncomputable def acc (sc:Scope) (x:Str):Bool:=match sc.names.lookup x with
 | some .local=>true
 | some .cell=>true
 | some .free=>true
 | _=>false
noncomputable def isGlob (sc:Scope) (x:Str):Bool:=match sc.names.lookup x with
 | some .globalImplicit=>true
 | _=>false
noncomputable def relab (scope sc:Scope):Scope :=
 { scope with names:=scope.names.map fun p=>if (p.2 == .free && sc.kind == .function && sc.names.lookup p.1 == some .cell) then (p.1,.cell) else p }
structure Cfg where
 prog:Program
 w:World
 mg:Str->Option Value
 mb:Str->Option Value
 G:Nat->Option Int
 T:Nat->List PV->Option PyData
 fnm:Nat->Str
 rk:Nat->Nat
 HC:Addr
 h0:Heap
 genAt:Shared->Value->List PyData->Prop
noncomputable def Cfg.at (c:Cfg) (h:Heap):Cfg:={ c with h0:=h }
structure Base (c:Cfg) (h:Heap):Prop where
 k0:KeepH c.h0 h
 z:c.h0.Ns mainGlobals c.mg/\c.h0.Ns builtinsNs c.mb/\c.h0.NoLimit
theorem Base.g {c:Cfg} {h:Heap} (B:Base c h):h.Ns mainGlobals c.mg:=B.z.1.keeps B.k0
theorem Base.b {c:Cfg} {h:Heap} (B:Base c h):h.Ns builtinsNs c.mb:=B.z.2.1.keeps B.k0
theorem Base.lim {c:Cfg} {h:Heap} (B:Base c h):h.NoLimit:=B.z.2.2.keeps B.k0
theorem Base.at {c:Cfg} {h:Heap} (B:Base c h):Base (c.at h) h:=⟨.refl _,B.g,B.b,B.lim⟩
theorem Base.keep {c:Cfg} {h h':Heap} (x:Base c h) (k:KeepH h h'):Base c h':=⟨x.k0.trans k,x.z⟩
theorem Base.new {c:Cfg} {h h':Heap} (B:Base c h) (k:∀ b o,c.h0.get? b=some o->h.get? b=some o->h'.get? b=some o):Base c h':=⟨fun b o e=>k b o e (B.k0 b o e),B.z⟩
structure Room (n:Nat) (A:Around):Prop where
 depth:A.depth+n < recursionLimit
 units:A.units+20 * n+200 < cLine
 hand:A.handled=none
structure EnvOK (env:Env):Prop where
 kind:env.scope.kind=.function
 glob:env.globals=mainGlobals
 bui:env.builtins=builtinsNs
 co:env.scope.isCoroutine=false
 more:env.scope.more.any (fun (n,_)=>n == ("interactive":Str))=false
 cell:∀ x,env.kindOf x=some .cell\/env.kindOf x=some .free->∃ a,env.cells.lookup x=some a
 apart:∀ x y a,env.cells.lookup x=some a->env.cells.lookup y=some a->x=y
structure HdrAt (HC:Addr) (h:Heap) (v:Value) (l:List (List Nat × List Nat)) (la:Addr):Prop where
 obj:∃ a da od,v=.ref a/\h.get? a=some { cls:=.ref HC,dict:=some da,data:=.plain,slots:=#[] } /\
  h.get? da=some od/\od.cls=.type "dict"/\(∃ hs t n,od.data=.dict #[⟨hs,.str "_headers" t,.ref la⟩] n)/\a≠la/\da≠la
 list:∃ vs,h.PlainList la vs/\All2 (Rd0 (fun u_=>False) h) vs.toList (l.map fun p=>PyData.tuple [S p.1,S p.2])
inductive Rep (c:Cfg) (Own:Addr->Prop) (k:Nat) (s:Shared) (v:Value):PV->Prop where
 | dat {d:PyData}:RdG Own k s.heap v d->Rep c Own k s v (.dat d)
 | hdr {l} {la:Addr}:HdrAt c.HC s.heap v l la->Rep c Own k s v (.hdr l)
 | gen {ds}:c.genAt s v ds->Rep c Own k s v (.gen ds)
noncomputable def Lk (env:Env) (h:Heap) (m:Str->Option Value) (x:Str) (v:Value):Prop :=
 (env.kindOf x=some .local/\m x=some v)\/((env.kindOf x=some .cell\/env.kindOf x=some .free)/\∃ a,env.cells.lookup x=some a/\h.IsCell a (some v))
structure View (c:Cfg) (Own:Addr->Prop) (env:Env) (M:Nat->Nat) (E:AE) (s:Shared):Prop where
 ns:∃ m,s.heap.Ns env.locals m/\∀ i pv,E i=some pv->acc env.scope (nm i)=true->∃ v,Lk env s.heap m (nm i) v/\Rep c Own (M i) s v pv
structure CfgOK (c:Cfg):Prop where
 genStp:∀ s s' v ds,Stp s s'->c.genAt s v ds->c.genAt s' v ds
 glo:∀ i v,c.G i=some v->∃ t,c.mg (gnm i)=some (.int v t)
 bi:∀ x∈(["len","sum","min","max","sorted"]:List String),c.mg (Str.ofString x)=none/\c.mb (Str.ofString x)=some (.builtin x)
 ty:∀ x∈(["range","list","enumerate","type","int","str"]:List String),c.mg (Str.ofString x)=none/\c.mb (Str.ofString x)=some (.type x)
theorem HdrAt.keep {HC:Addr} {h h':Heap} {v l la} (k:KeepH h h') (x:HdrAt HC h v l la):HdrAt HC h' v l la:=by
 (refine by_goal fun G_ hG_=>?_;rcases x with ⟨⟨a,da,od,e,h1,h2,r⟩,vs,hl,hx⟩;all_goals (refine hG_ ?_;clear hG_ G_))
 exact ⟨⟨a,da,od,e,k _ _ h1,k _ _ h2,r⟩,vs,PlainList.keep k hl,hx.mono fun u_ u_ y=>Rd0.keep k y⟩
theorem Rep.stp {c:Cfg} (C:CfgOK c) {Own:Addr->Prop} {k:Nat} {s s':Shared} {v:Value} {pv:PV} (x:Stp s s') (r:Rep c Own k s v pv):Rep c Own k s' v pv:=by
 cases r with
 | dat r=>exact .dat (RdG.keep x.keep r)
 | hdr r=>exact .hdr (r.keep x.keep)
 | gen r=>exact .gen (C.genStp _ _ _ _ x r)
theorem Lk.keep {env:Env} {h h':Heap} {m x v} (k:KeepH h h') (l:Lk env h m x v):Lk env h' m x v:=by
 rcases l with l | ⟨hk,a,ha,hc⟩
 ·exact .inl l
 ·exact .inr ⟨hk,a,ha,hc.keeps k⟩
theorem View.stp {c:Cfg} (C:CfgOK c) {Own env M E s s'} (x:Stp s s') (V:View c Own env M E s):View c Own env M E s':=by
 (refine e1a2 V.ns ?_;rintro m hm hv)
 refine ⟨m,hm.keeps x.keep,fun i pv e ha=>?_⟩
 (refine e1a2 (hv i pv e ha) ?_;rintro v hl hr)
 exact ⟨v,hl.keep x.keep,hr.stp C x⟩
structure Cx (c:Cfg) (n:Nat) (A:Around) (Own:Addr->Prop) (env:Env) (M:Nat->Nat) (E:AE) (s:Shared):Prop where
 eok:EnvOK env
 room:Room n A
 base:Base c s.heap
 view:View c Own env M E s
 live:∀ a,Own a->∃ o,s.heap.get? a=some o
 cells:∀ x a,env.cells.lookup x=some a->∃ o,s.heap.IsCell a o
theorem Cx.stp {c:Cfg} (C:CfgOK c) {n A Own env M E s s'} (x:Stp s s') (V:Cx c n A Own env M E s):Cx c n A Own env M E s' :=
 ⟨V.eok,V.room,V.base.keep x.keep,V.view.stp C x,fun a h=>let ⟨o,ho⟩:=V.live a h;⟨o,x.keep _ _ ho⟩,fun y a h=>let ⟨o,ho⟩:=V.cells y a h;⟨o,ho.keeps x.keep⟩⟩
section
variable {c:Cfg} {n:Nat} {A:Around} {Own:Addr->Prop} {env:Env} {M:Nat->Nat} {E:AE} {s:Shared} {Er:Value->Shared->Prop}
noncomputable def plainName (x:Str):Bool:=!(x == ("__debug__":Str)) && !(x == ("__classdict__":Str))
theorem ld_Lk {m:Str->Option Value} {x:Str} {v:Value} {Q:Value->Shared->Prop} (K:EnvOK env) (hm:s.heap.Ns env.locals m) (hl:Lk env s.heap m x v) (hp:plainName x=true) (h:Q v s):wpAny (model c.prog c.w) A (loadName env x) Q Er s:=by
 unfold plainName at hp
 rw [Bool.and_eq_true] at hp
 rcases hl with ⟨hk,e⟩ | ⟨hk | hk,a,ha,hc⟩
 ·exact wpAny_loadName_local K.kind hk hm e h
 ·exact wpAny_loadName_cell K.kind hk ha hc h
 ·exact wpAny_loadName_free K.kind hk ha hc h (by simpa using hp.2)
theorem ev_Lk {m:Str->Option Value} {x:Str} {p:Pos} {v:Value} {Q:Value->Shared->Prop} (K:EnvOK env) (hm:s.heap.Ns env.locals m) (hl:Lk env s.heap m x v) (hp:plainName x=true) (h:Q v s) :
  wpAny (model c.prog c.w) A (eval (.Name x p) env) Q Er s:=by
 refine wpAny_Name (ld_Lk K hm hl hp h) ?_
 unfold plainName at hp
 rw [Bool.and_eq_true] at hp
 simpa using hp.1
end
noncomputable def notStar:Expr->Bool
 | .Starred ..=>false
 | _=>true
noncomputable def notSet:Expr->Bool
 | .Set ..=>false
 | _=>true
noncomputable def notSuper:Expr->Bool
 | .Call (.Name ..) ..=>false
 | _=>true
noncomputable def bopO:Bop->Operator
 | .add=>.Add | .sub=>.Sub | .mul=>.Mult | .fdiv=>.FloorDiv | .mod=>.Mod | .pow=>.Pow
noncomputable def copO:Cop->CmpOp
 | .eq=>.Eq | .ne=>.NotEq | .lt=>.Lt | .le=>.LtE | .gt=>.Gt | .ge=>.GtE | .isin=>.In | .notin=>.NotIn
noncomputable def tyName:Nat->Str
 | 0=>"int" | 1=>"str" | _=>"list"
noncomputable def p1Name:P1->Str
 | .len=>"len" | .sum=>"sum" | .lower=>"lower"
noncomputable def p1Meth:P1->Bool
 | .lower=>true
 | _=>false
noncomputable def p2Name:P2->Str
 | .min2=>"min"
 | .join=>"join"
 | .index=>"index"
 | .count=>"count"
noncomputable def p2Meth:P2->Bool
 | .min2=>false
 | _=>true
noncomputable def ownName (sc:Scope) (x:Str):Bool:=match sc.names.lookup x with
 | some .local=>true
 | some .cell=>true
 | _=>false
noncomputable def chkNames (sc:Scope):List Nat->List Expr->Bool
 | [],es=>dnil es true
 | i::is,es=>dcons es fun e r=>dEName e fun x u_=>decide (x=nm i) && ownName sc x && plainName x && chkNames sc is r
theorem chkNames_q_nil {sc:Scope} {es:List Expr}:chkNames sc [] es=dnil es true:=rfl
theorem chkNames_q_cons {sc:Scope} {i:Nat} {is:List Nat} {es:List Expr}:chkNames sc (i::is) es=dcons es fun e r=>dEName e fun x u_=>decide (x=nm i) && ownName sc x && plainName x && chkNames sc is r:=rfl
noncomputable def chkT (sc:Scope) (t:Tgt) (e:Expr):Bool:=match t with
 | .name i=>dEName e fun x u_=>decide (x=nm i) && ownName sc x && plainName x
 | .tup is=>dETuple e fun es u_ v_=>decide (0 < is.length) && decide is.Nodup && chkNames sc is es
theorem chkT_q_name {sc:Scope} {i:Nat} {e:Expr}:chkT sc (.name i) e=dEName e fun x u_=>decide (x=nm i) && ownName sc x && plainName x:=rfl
theorem chkT_q_tup {sc:Scope} {is:List Nat} {e:Expr}:chkT sc (.tup is) e=dETuple e fun es u_ v_=>decide (0 < is.length) && decide is.Nodup && chkNames sc is es:=rfl
theorem chkT_is {sc:Scope} {is:List Nat} {e:Expr} (h:chkT sc (.tup is) e=true):∃ es k p,e=.Tuple es k p:=dETuple_elim (P:=fun e=>∃ es k p,e=.Tuple es k p) (chkT_q_tup.symm.trans h) fun es k p u_=>⟨es,k,p,rfl⟩
noncomputable def chkScope (sc scope:Scope) (ids:List Nat):Bool :=
 (scope.kind == .function) && !scope.isCoroutine && !(scope.more.any fun (n,_)=>n == ("interactive":Str)) && decide (scope.names.map (·.1)).Nodup &&
 scope.names.all fun p=>match p.2 with
  | .local=>p.1 == (".0":Str) || ids.any fun i=>decide (p.1=nm i)
  | .cell=>ids.any fun i=>decide (p.1=nm i)
  | .free=>acc sc p.1 && !(match sc.names.lookup p.1 with | some .local=>true | _=>false) && !(ids.any fun i=>decide (p.1=nm i))
  | _=>true
noncomputable def isNoneX:X->Bool
 | .none=>true
 | _=>false
noncomputable def lofOk:It->Bool
 | .rng3 _ _ _=>true
 | _=>false
noncomputable def tgtOk:It->Tgt->Bool
 | .enm _,.name _=>false
 | _,_=>true
noncomputable def noGen:It->Bool
 | .gen _=>false
 | _=>true
noncomputable abbrev Ck:=Expr->Bool
noncomputable def kInt (i:Int) (e:Expr):Bool :=
 dEConstant e fun z1 z2 z3=>dCint z1 fun j=>decide (i=j)
noncomputable def kStr (l:List Nat) (e:Expr):Bool :=
 dEConstant e fun z1 z2 z3=>dCstr z1 fun s=>decide (s=⟨⟨l⟩⟩)
noncomputable def kBool (b:Bool) (e:Expr):Bool :=
 dEConstant e fun z1 z2 z3=>dCbool z1 fun j=>decide (b=j)
noncomputable def kNone (e:Expr):Bool :=
 dEConstant e fun z1 z2 z3=>dCnone z1 (true)
noncomputable def kVar (sc:Scope) (i:Nat) (e:Expr):Bool :=
 dEName e fun x z1=>decide (x=nm i) && acc sc x && plainName x
noncomputable def kGlo (sc:Scope) (i:Nat) (e:Expr):Bool :=
 dEName e fun x z1=>decide (x=gnm i) && isGlob sc x && plainName x
noncomputable def kNeg (i:Int) (e:Expr):Bool :=
 dEUnaryOp e fun z1 z2 z3=>dUUSub z1 (dEConstant z2 fun z4 z5 z6=>dCint z4 fun j=>decide (i=j))
noncomputable def kBin (op:Bop) (a b:Ck) (e:Expr):Bool :=
 dEBinOp e fun l o r z1=>decide (o=bopO op) && a l && b r
noncomputable def kNot (a:Ck) (e:Expr):Bool :=
 dEUnaryOp e fun z1 x z2=>dUNot z1 (a x)
noncomputable def kCmp1 (o:CmpOp) (a b:Ck) (e:Expr):Bool :=
 dECompare e fun l z1 z2 z3=>dcons z1 fun p z4=>dnil z4 (dcons z2 fun r z5=>dnil z5 (decide (p=o) && notSet r && a l && b r))
noncomputable def kCmp2 (o1 o2:CmpOp) (a b x:Ck) (e:Expr):Bool :=
 dECompare e fun l z1 z2 z3=>dcons z1 fun p z4=>dcons z4 fun q z5=>dnil z5 (dcons z2 fun r z6=>dcons z6 fun t z7=>dnil z7 (decide (p=o1) && decide (q=o2) && notSet r && notSet t && a l && b r && x t))
noncomputable def isO (m:Bool):CmpOp:=match m with | true=>.IsNot | false=>.Is
noncomputable def isConstX:X->Bool
 | .none=>true
 | .bool _=>true
 | _=>false
noncomputable def kIsT (sc:Scope) (m:Bool) (a:Ck) (t:Nat) (e:Expr):Bool :=
 dECompare e fun z1 z2 z3 z4=>dECall z1 fun z5 z6 z7 z8=>dEName z5 fun ty z9=>dcons z6 fun x z10=>dnil z10 (dnil z7 (dcons z2 fun o z11=>dnil z11 (dcons z3 fun z12 z13=>dEName z12 fun tn z14=>dnil z13 (decide (o=isO m) && decide (ty=("type":Str)) && isGlob sc ty && notStar x && a x && decide (tn=tyName t) && isGlob sc tn && decide (t<=2)))))
noncomputable def kBoo (op:BoolOp) (xs:List Expr->Bool) (e:Expr):Bool :=
 dEBoolOp e fun o es z1=>decide (o=op) && xs es
noncomputable def kIte (t a b:Ck) (e:Expr):Bool :=
 dEIfExp e fun t' a' b' z1=>t t' && a a' && b b'
noncomputable def kLst (xs:List Expr->Bool) (e:Expr):Bool :=
 dEList e fun es z1=>xs es
noncomputable def kTup (xs:List Expr->Bool) (e:Expr):Bool :=
 dETuple e fun es z1 z2=>xs es
noncomputable def notSlice:Expr->Bool
 | .Slice ..=>false
 | _=>true
noncomputable def kIdx (a i:Ck) (e:Expr):Bool :=
 dESubscript e fun o j z1=>notSlice j && a o && i j
noncomputable def kOpt (a:Ck) (nn:Bool) (e:Option Expr):Bool:=match e with
 | some y=>a y
 | none=>nn
noncomputable def kSlc (a:Ck) (lo hi st:Option Expr->Bool) (e:Expr):Bool :=
 dESubscript e fun o z1 z2=>dESlice z1 fun l h t z3=>a o && lo l && hi h && st t
noncomputable def kCall (sc:Scope) (x:Str) (xs:List Expr->Bool) (e:Expr):Bool :=
 dECall e fun z1 es z2 z3=>dEName z1 fun y z4=>dnil z2 (decide (y=x) && isGlob sc y && plainName y && decide (es.length < 29) && xs es)
noncomputable def kHead (sc:Scope) (i:Nat) (xs:List Expr->Bool) (es:List Expr):Bool :=
 dcons es fun z1 r=>dEName z1 fun y z2=>decide (y=nm i) && acc sc y && plainName y && xs r
noncomputable def kFn1 (sc:Scope) (x:Str) (a:Ck) (e:Expr):Bool :=
 dECall e fun z1 z2 z3 z4=>dEName z1 fun y z5=>dcons z2 fun z z6=>dnil z6 (dnil z3 (decide (y=x) && isGlob sc y && notStar z && a z))
noncomputable def kFn2 (sc:Scope) (x:Str) (a b:Ck) (e:Expr):Bool :=
 dECall e fun z1 z2 z3 z4=>dEName z1 fun y z5=>dcons z2 fun z z6=>dcons z6 fun t z7=>dnil z7 (dnil z3 (decide (y=x) && isGlob sc y && notStar z && notStar t && a z && b t))
noncomputable def kFn3 (sc:Scope) (x:Str) (a b d:Ck) (e:Expr):Bool :=
 dECall e fun z1 z2 z3 z4=>dEName z1 fun y z5=>dcons z2 fun z z6=>dcons z6 fun t z7=>dcons z7 fun u z8=>dnil z8 (dnil z3 (decide (y=x) && isGlob sc y && notStar z && notStar t && notStar u && a z && b t && d u))
noncomputable def kMe0 (x:Str) (a:Ck) (e:Expr):Bool :=
 dECall e fun z1 z2 z3 pos=>dEAttribute z1 fun o y ap=>dnil z2 (dnil z3 (decide (y=x) && notSuper o && (ap.endLine == pos.line) && a o))
noncomputable def kMe1 (x:Str) (a b:Ck) (e:Expr):Bool :=
 dECall e fun z1 z2 z3 pos=>dEAttribute z1 fun o y ap=>dcons z2 fun z z4=>dnil z4 (dnil z3 (decide (y=x) && notSuper o && (ap.endLine == pos.line) && notStar z && a o && b z))
noncomputable def kAttr (sc:Scope) (i:Nat) (e:Expr):Bool :=
 dEAttribute e fun z1 a z2=>dEName z1 fun y z3=>decide (y=nm i) && acc sc y && plainName y && decide (a=("_headers":Str))
noncomputable def kComp (sc:Scope) (src:Ck) (ids:List Nat) (t:Scope->Ck) (fs:Scope->List Expr->Bool) (el:Scope->Ck) (e:Expr):Bool :=
 dEListComp e fun x z1 scope z2=>dcons z1 fun z3 z4=>dGen z3 fun tg ite ifs ia=>dnil z4 (decide (ia=0) && notSet ite && src ite && chkScope sc scope ids && t (relab scope sc) tg && fs (relab scope sc) ifs && el (relab scope sc) x)
noncomputable def kNil (es:List Expr):Bool :=
 dnil es (true)
noncomputable def kCons (x:Ck) (xs:List Expr->Bool) (es:List Expr):Bool:=match es with | e::r=>notStar e && x e && xs r | []=>false
noncomputable def lenXs:Xs->Nat
 | .nil=>0
 | .cons _ xs=>lenXs xs+1
section
variable (fnm:Nat->Str) (rk:Nat->Nat) (n:Nat)
mutual
noncomputable def chkX (sc:Scope):X->Expr->Bool
 | .int i=>kInt i
 | .str l=>kStr l
 | .bool b=>kBool b
 | .none=>kNone
 | .var i=>kVar sc i
 | .glo i=>kGlo sc i
 | .neg i=>kNeg i
 | .bin op a b=>kBin op (chkX sc a) (chkX sc b)
 | .not a=>kNot (chkX sc a)
 | .cmp1 op a b=>kCmp1 (copO op) (chkX sc a) (chkX sc b)
 | .cmp2 o1 o2 a b x=>kCmp2 (copO o1) (copO o2) (chkX sc a) (chkX sc b) (chkX sc x)
 | .isC m a x=>fun e=>isConstX x && kCmp1 (isO m) (chkX sc a) (chkX sc x) e
 | .isT m a t=>kIsT sc m (chkX sc a) t
 | .and xs=>kBoo .And (chkXs sc xs)
 | .or xs=>kBoo .Or (chkXs sc xs)
 | .ite t a b=>kIte (chkX sc t) (chkX sc a) (chkX sc b)
 | .lst xs=>fun e=>decide (lenXs xs<=1000) && kLst (chkXs sc xs) e
 | .tup xs=>fun e=>decide (lenXs xs<=1000) && kTup (chkXs sc xs) e
 | .idx a i=>kIdx (chkX sc a) (chkX sc i)
 | .slc a lo hi st=>kSlc (chkX sc a) (kOpt (chkX sc lo) (isNoneX lo)) (kOpt (chkX sc hi) (isNoneX hi)) (kOpt (chkX sc st) (isNoneX st))
 | .call f xs=>fun e=>decide (rk f < n) && kCall sc (fnm f) (chkXs sc xs) e
 | .callh f i xs=>fun e=>decide (rk f < n) && kCall sc (fnm f) (kHead sc i (chkXs sc xs)) e
 | .p1 p a=>fun e=>match p1Meth p with
  | true=>kMe0 (p1Name p) (chkX sc a) e
  | false=>kFn1 sc (p1Name p) (chkX sc a) e
 | .p2 p a b=>fun e=>match p2Meth p with
  | true=>kMe1 (p2Name p) (chkX sc a) (chkX sc b) e
  | false=>kFn2 sc (p2Name p) (chkX sc a) (chkX sc b) e
 | .lof it=>fun e=>lofOk it && kFn1 sc "list" (chkIt sc it) e
 | .comp elt t it ifs=>fun e=>noGen it && tgtOk it t && kComp sc (chkIt sc it) t.ids (fun q=>chkT q t) (fun q=>chkXs q ifs) (fun q=>chkX q elt) e
 | .hget i a=>fun e=>decide (2 < n) && kMe1 "get_all" (kVar sc i) (chkX sc a) e
 | .hkeys i=>fun e=>decide (2 < n) && kMe0 "keys" (kVar sc i) e
 | .hattr i=>kAttr sc i
noncomputable def chkXs (sc:Scope):Xs->List Expr->Bool
 | .nil=>kNil
 | .cons x xs=>kCons (chkX sc x) (chkXs sc xs)
noncomputable def chkIt (sc:Scope):It->Expr->Bool
 | .val a=>chkX sc a
 | .rng1 a=>kFn1 sc "range" (chkX sc a)
 | .rng2 a b=>kFn2 sc "range" (chkX sc a) (chkX sc b)
 | .rng3 a b c=>kFn3 sc "range" (chkX sc a) (chkX sc b) (chkX sc c)
 | .enm a=>kFn1 sc "enumerate" (chkX sc a)
 | .gen a=>fun e=>decide (2 < n) && kFn1 sc "_iter_escaped_chars" (chkX sc a) e
end
end
section
variable {a b d:Ck} {e:Expr}
theorem inv_int {i:Int} (h:kInt i e=true):∃ k p,e=.Constant (.int i) k p:=by
 refine dEConstant_elim h fun z1 z2 z3 h=>?_
 refine dCint_elim h fun j h=>?_
 exact ⟨_,_,by rw [of_decide_eq_true h]⟩
theorem inv_str {l:List Nat} (h:kStr l e=true):∃ k p,e=.Constant (.str ⟨⟨l⟩⟩) k p:=by
 refine dEConstant_elim h fun z1 z2 z3 h=>?_
 refine dCstr_elim h fun s h=>?_
 exact ⟨_,_,by rw [of_decide_eq_true h]⟩
theorem inv_bool {i:Bool} (h:kBool i e=true):∃ k p,e=.Constant (.bool i) k p:=by
 refine dEConstant_elim h fun z1 z2 z3 h=>?_
 refine dCbool_elim h fun j h=>?_
 exact ⟨_,_,by rw [of_decide_eq_true h]⟩
theorem inv_none (h:kNone e=true):∃ k p,e=.Constant .none k p:=by
 refine dEConstant_elim h fun z1 z2 z3 h=>?_
 refine dCnone_elim h fun h=>?_
 exact ⟨_,_,rfl⟩
theorem inv_var {sc:Scope} {i:Nat} (h:kVar sc i e=true):∃ p,e=.Name (nm i) p/\acc sc (nm i)=true/\plainName (nm i)=true:=by
 refine dEName_elim h fun x z1 h=>?_
 (refine k_dbb h ?_;try clear h;rintro rfl h1 h2)
 exact ⟨_,rfl,h1,h2⟩
theorem inv_glo {sc:Scope} {i:Nat} (h:kGlo sc i e=true):∃ p,e=.Name (gnm i) p/\isGlob sc (gnm i)=true/\plainName (gnm i)=true:=by
 refine dEName_elim h fun x z1 h=>?_
 (refine k_dbb h ?_;try clear h;rintro rfl h1 h2)
 exact ⟨_,rfl,h1,h2⟩
theorem inv_neg {i:Int} (h:kNeg i e=true):∃ k p q,e=.UnaryOp .USub (.Constant (.int i) k p) q:=by
 refine dEUnaryOp_elim h fun z1 z2 z3 h=>?_
 refine dUUSub_elim h fun h=>?_
 refine dEConstant_elim h fun z4 z5 z6 h=>?_
 refine dCint_elim h fun j h=>?_
 exact ⟨_,_,_,by rw [of_decide_eq_true h]⟩
theorem inv_bin {op:Bop} (h:kBin op a b e=true):∃ l r p,e=.BinOp l (bopO op) r p/\a l=true/\b r=true:=by
 refine dEBinOp_elim h fun l o r z1 h=>?_
 (refine k_dbb h ?_;try clear h;rintro rfl h1 h2)
 exact ⟨_,_,_,rfl,h1,h2⟩
theorem inv_not (h:kNot a e=true):∃ x p,e=.UnaryOp .Not x p/\a x=true:=by
 refine dEUnaryOp_elim h fun z1 x z2 h=>?_
 refine dUNot_elim h fun h=>?_
 exact ⟨_,_,rfl,h⟩
theorem inv_cmp1 {o:CmpOp} (h:kCmp1 o a b e=true):∃ l r p,e=.Compare l [o] [r] p/\notSet r=true/\a l=true/\b r=true:=by
 refine dECompare_elim h fun l z1 z2 z3 h=>?_
 refine dcons_elim h fun p z4 h=>?_
 refine dnil_elim h fun h=>?_
 refine dcons_elim h fun r z5 h=>?_
 refine dnil_elim h fun h=>?_
 (refine k_dbbb h ?_;try clear h;rintro rfl h0 h1 h2)
 exact ⟨_,_,_,rfl,h0,h1,h2⟩
theorem inv_cmp2 {o1 o2:CmpOp} (h:kCmp2 o1 o2 a b d e=true):∃ l r t p,e=.Compare l [o1,o2] [r,t] p/\notSet r=true/\notSet t=true/\a l=true/\b r=true/\d t=true:=by
 refine dECompare_elim h fun l z1 z2 z3 h=>?_
 refine dcons_elim h fun p z4 h=>?_
 refine dcons_elim h fun q z5 h=>?_
 refine dnil_elim h fun h=>?_
 refine dcons_elim h fun r z6 h=>?_
 refine dcons_elim h fun t z7 h=>?_
 refine dnil_elim h fun h=>?_
 (refine k_ddbbbbb h ?_;try clear h;rintro rfl rfl h0 h1 h2 h3 h4)
 exact ⟨_,_,_,_,rfl,h0,h1,h2,h3,h4⟩
theorem inv_isT {sc:Scope} {m:Bool} {t:Nat} (h:kIsT sc m a t e=true):∃ x p1 p2 p3 p4,e=.Compare (.Call (.Name "type" p1) [x] [] p2) [isO m] [.Name (tyName t) p3] p4/\isGlob sc "type"=true/\notStar x=true/\a x=true/\isGlob sc (tyName t)=true/\t<=2:=by
 refine dECompare_elim h fun z1 z2 z3 z4 h=>?_
 refine dECall_elim h fun z5 z6 z7 z8 h=>?_
 refine dEName_elim h fun ty z9 h=>?_
 refine dcons_elim h fun x z10 h=>?_
 refine dnil_elim h fun h=>?_
 refine dnil_elim h fun h=>?_
 refine dcons_elim h fun o z11 h=>?_
 refine dnil_elim h fun h=>?_
 refine dcons_elim h fun z12 z13 h=>?_
 refine dEName_elim h fun tn z14 h=>?_
 refine dnil_elim h fun h=>?_
 (refine k_ddbbbdbd h ?_;try clear h;rintro rfl rfl h0 h1 h2 rfl h4 h5)
 exact ⟨_,_,_,_,_,rfl,h0,h1,h2,h4,h5⟩
theorem inv_boo {op:BoolOp} {xs:List Expr->Bool} (h:kBoo op xs e=true):∃ es p,e=.BoolOp op es p/\xs es=true:=by
 refine dEBoolOp_elim h fun o es z1 h=>?_
 (refine k_db h ?_;try clear h;rintro rfl h1)
 exact ⟨_,_,rfl,h1⟩
theorem inv_ite (h:kIte a b d e=true):∃ x y z p,e=.IfExp x y z p/\a x=true/\b y=true/\d z=true:=by
 refine dEIfExp_elim h fun t' a' b' z1 h=>?_
 exact k_bbb h fun h_0 h_1 h_2=>⟨_,_,_,_,rfl,h_0,h_1,h_2⟩
theorem inv_lst {xs:List Expr->Bool} (h:kLst xs e=true):∃ es p,e=.List es p/\xs es=true:=by
 refine dEList_elim h fun es z1 h=>?_
 exact ⟨_,_,rfl,h⟩
theorem inv_tup {xs:List Expr->Bool} (h:kTup xs e=true):∃ es k p,e=.Tuple es k p/\xs es=true:=by
 refine dETuple_elim h fun es z1 z2 h=>?_
 exact ⟨_,_,_,rfl,h⟩
theorem inv_idx (h:kIdx a b e=true):∃ o j p,e=.Subscript o j p/\notSlice j=true/\a o=true/\b j=true:=by
 refine dESubscript_elim h fun o j z1 h=>?_
 exact k_bbb h fun h_0 h_1 h_2=>⟨_,_,_,rfl,h_0,h_1,h_2⟩
theorem inv_slc {lo hi st:Option Expr->Bool} (h:kSlc a lo hi st e=true):∃ o l u t p q,e=.Subscript o (.Slice l u t p) q/\a o=true/\lo l=true/\hi u=true/\st t=true:=by
 refine dESubscript_elim h fun o z1 z2 h=>?_
 refine dESlice_elim h fun l h t z3 h=>?_
 exact k_bbbb h fun h_0 h_1 h_2 h_3=>⟨_,_,_,_,_,_,rfl,h_0,h_1,h_2,h_3⟩
theorem inv_call {sc:Scope} {x:Str} {xs:List Expr->Bool} (h:kCall sc x xs e=true):∃ es p q,e=.Call (.Name x p) es [] q/\isGlob sc x=true/\plainName x=true/\es.length < 29/\xs es=true:=by
 refine dECall_elim h fun z1 es z2 z3 h=>?_
 refine dEName_elim h fun y z4 h=>?_
 refine dnil_elim h fun h=>?_
 (refine k_dbbdb h ?_;try clear h;rintro rfl h0 h1 h2 h3)
 exact ⟨_,_,_,rfl,h0,h1,h2,h3⟩
theorem inv_head {sc:Scope} {i:Nat} {xs:List Expr->Bool} {es:List Expr} (h:kHead sc i xs es=true):∃ p r,es=.Name (nm i) p::r/\acc sc (nm i)=true/\plainName (nm i)=true/\xs r=true:=by
 refine dcons_elim h fun z1 r h=>?_
 refine dEName_elim h fun y z2 h=>?_
 (refine k_dbbb h ?_;try clear h;rintro rfl h0 h1 h2)
 exact ⟨_,_,rfl,h0,h1,h2⟩
theorem inv_fn1 {sc:Scope} {x:Str} (h:kFn1 sc x a e=true):∃ z p q,e=.Call (.Name x p) [z] [] q/\isGlob sc x=true/\notStar z=true/\a z=true:=by
 refine dECall_elim h fun z1 z2 z3 z4 h=>?_
 refine dEName_elim h fun y z5 h=>?_
 refine dcons_elim h fun z z6 h=>?_
 refine dnil_elim h fun h=>?_
 refine dnil_elim h fun h=>?_
 (refine k_dbbb h ?_;try clear h;rintro rfl h0 h1 h2)
 exact ⟨_,_,_,rfl,h0,h1,h2⟩
theorem inv_fn2 {sc:Scope} {x:Str} (h:kFn2 sc x a b e=true):∃ z t p q,e=.Call (.Name x p) [z,t] [] q/\isGlob sc x=true/\notStar z=true/\notStar t=true/\a z=true/\b t=true:=by
 refine dECall_elim h fun z1 z2 z3 z4 h=>?_
 refine dEName_elim h fun y z5 h=>?_
 refine dcons_elim h fun z z6 h=>?_
 refine dcons_elim h fun t z7 h=>?_
 refine dnil_elim h fun h=>?_
 refine dnil_elim h fun h=>?_
 (refine k_dbbbbb h ?_;try clear h;rintro rfl h0 h1 h2 h3 h4)
 exact ⟨_,_,_,_,rfl,h0,h1,h2,h3,h4⟩
theorem inv_fn3 {sc:Scope} {x:Str} (h:kFn3 sc x a b d e=true):∃ z t u p q,e=.Call (.Name x p) [z,t,u] [] q/\isGlob sc x=true/\notStar z=true/\notStar t=true/\notStar u=true/\a z=true/\b t=true/\d u=true:=by
 refine dECall_elim h fun z1 z2 z3 z4 h=>?_
 refine dEName_elim h fun y z5 h=>?_
 refine dcons_elim h fun z z6 h=>?_
 refine dcons_elim h fun t z7 h=>?_
 refine dcons_elim h fun u z8 h=>?_
 refine dnil_elim h fun h=>?_
 refine dnil_elim h fun h=>?_
 (refine k_dbbbbbbb h ?_;try clear h;rintro rfl h0 h1 h2 h3 h4 h5 h6)
 exact ⟨_,_,_,_,_,rfl,h0,h1,h2,h3,h4,h5,h6⟩
theorem inv_me0 {x:Str} (h:kMe0 x a e=true):∃ o ap q,e=.Call (.Attribute o x ap) [] [] q/\notSuper o=true/\(ap.endLine == q.line)=true/\a o=true:=by
 refine dECall_elim h fun z1 z2 z3 pos h=>?_
 refine dEAttribute_elim h fun o y ap h=>?_
 refine dnil_elim h fun h=>?_
 refine dnil_elim h fun h=>?_
 (refine k_dbbb h ?_;try clear h;rintro rfl h0 h1 h2)
 exact ⟨_,_,_,rfl,h0,h1,h2⟩
theorem inv_me1 {x:Str} (h:kMe1 x a b e=true):∃ o z ap q,e=.Call (.Attribute o x ap) [z] [] q/\notSuper o=true/\(ap.endLine == q.line)=true/\notStar z=true/\a o=true/\b z=true:=by
 refine dECall_elim h fun z1 z2 z3 pos h=>?_
 refine dEAttribute_elim h fun o y ap h=>?_
 refine dcons_elim h fun z z4 h=>?_
 refine dnil_elim h fun h=>?_
 refine dnil_elim h fun h=>?_
 (refine k_dbbbbb h ?_;try clear h;rintro rfl h0 h1 h2 h3 h4)
 exact ⟨_,_,_,_,rfl,h0,h1,h2,h3,h4⟩
theorem inv_comp {sc:Scope} {src:Ck} {ids:List Nat} {t:Scope->Ck} {fs:Scope->List Expr->Bool} {el:Scope->Ck} (h:kComp sc src ids t fs el e=true) :
  ∃ x tg ite ifs scope p,e=.ListComp x [⟨tg,ite,ifs,0⟩] scope p/\notSet ite=true/\src ite=true/\chkScope sc scope ids=true/\t (relab scope sc) tg=true/\fs (relab scope sc) ifs=true/\el (relab scope sc) x=true:=by
 refine dEListComp_elim h fun x z1 scope z2 h=>?_
 refine dcons_elim h fun z3 z4 h=>?_
 refine dGen_elim h fun tg ite ifs ia h=>?_
 refine dnil_elim h fun h=>?_
 (refine k_dbbbbbb h ?_;try clear h;rintro rfl h0 h1 h2 h3 h4 h5)
 exact ⟨_,_,_,_,_,_,rfl,h0,h1,h2,h3,h4,h5⟩
theorem inv_nil {es:List Expr} (h:kNil es=true):es=[]:=by
 refine dnil_elim h fun h=>?_
 rfl
theorem inv_cons {xs:List Expr->Bool} {es:List Expr} (h:kCons a xs es=true):∃ z r,es=z::r/\notStar z=true/\a z=true/\xs r=true:=by
 unfold kCons at h;split at h
 ·exact k_bbb h fun h_0 h_1 h_2=>⟨_,_,rfl,h_0,h_1,h_2⟩
 ·exact nbt h
end
noncomputable def odX (M:Nat->Nat):X->Nat
 | .var i=>M i
 | .idx a _=>odX M a - 1
 | .hattr _=>1
 | _=>0
noncomputable def itK (M:Nat->Nat):It->Nat
 | .val a=>odX M a
 | .enm a=>odX M a
 | _=>0
noncomputable def modeOff (M:Nat->Nat) (ids:List Nat):Nat->Nat:=fun i=>if ids.contains i then 0 else M i
mutual
noncomputable def okX (M:Nat->Nat):X->Bool
 | .int _=>true | .str _=>true | .bool _=>true | .none=>true
 | .var _=>true
 | .glo _=>true
 | .neg _=>true
 | .bin _ a b=>okX M a && okX M b && decide (odX M a<=1) && decide (odX M b<=1)
 | .not a=>okX M a
 | .cmp1 _ a b=>okX M a && okX M b
 | .cmp2 _ _ a b c=>okX M a && okX M b && okX M c
 | .isC _ a c=>okX M a && okX M c
 | .isT _ a _=>okX M a
 | .and xs=>okXs M xs
 | .or xs=>okXs M xs
 | .ite t a b=>okX M t && okX M a && okX M b && decide (odX M a=0) && decide (odX M b=0)
 | .lst xs=>okXs M xs
 | .tup xs=>okXs M xs
 | .idx a i=>okX M a && okX M i
 | .slc a lo hi st=>okX M a && okX M lo && okX M hi && okX M st && decide (odX M a<=1)
 | .call _ xs=>okXs M xs
 | .callh _ _ xs=>okXs M xs
 | .p1 _ a=>okX M a && decide (odX M a<=1)
 | .p2 _ a b=>okX M a && okX M b && decide (odX M a<=1) && decide (odX M b=0)
 | .lof it=>okIt M it
 | .comp elt t it ifs=>okIt M it && okXs (modeOff M t.ids) ifs && okX (modeOff M t.ids) elt && decide (odX (modeOff M t.ids) elt=0)
 | .hget _ a=>okX M a
 | .hkeys _=>true
 | .hattr _=>true
noncomputable def okXs (M:Nat->Nat):Xs->Bool
 | .nil=>true
 | .cons x xs=>okX M x && decide (odX M x=0) && okXs M xs
noncomputable def okIt (M:Nat->Nat):It->Bool
 | .val a=>okX M a && decide (odX M a<=1)
 | .rng1 a=>okX M a
 | .rng2 a b=>okX M a && okX M b
 | .rng3 a b c=>okX M a && okX M b && okX M c
 | .enm a=>okX M a && decide (odX M a<=1)
 | .gen a=>okX M a
end
noncomputable def newX:X->Bool
 | .lst _=>true
 | .lof _=>true
 | .comp ..=>true
 | .bin .add _ _=>true
 | .bin .mul _ _=>true
 | .slc ..=>true
 | _=>false
noncomputable def Fr1 (s:Shared) (v:Value):Prop:=∀ a,v=.ref a->s.heap.get? a=none
noncomputable def EvOK (c:Cfg) (x:X):Prop :=
 ∀ (n:Nat) (A:Around) (env:Env) (Own:Addr->Prop) (M:Nat->Nat) (E:AE) (s:Shared) (e:Expr) (d:PyData) (Q:Value->Shared->Prop) (Er:Value->Shared->Prop),
  Cx c n A Own env M E s->chkX c.fnm c.rk n env.scope x e=true->okX M x=true->ev c.G c.T x E=some d ->
  (∀ v s',Stp s s'->RdG Own (odX M x) s'.heap v d->(newX x=true->Fr1 s v)->Q v s')->wpAny (model c.prog c.w) A (eval e env) Q Er s
noncomputable def TsOK (c:Cfg) (x:X):Prop :=
 ∀ (n:Nat) (A:Around) (env:Env) (Own:Addr->Prop) (M:Nat->Nat) (E:AE) (s:Shared) (e:Expr) (d:PyData) (b:Bool) (Q:Bool->Shared->Prop) (Er:Value->Shared->Prop),
  Cx c n A Own env M E s->chkX c.fnm c.rk n env.scope x e=true->okX M x=true->ev c.G c.T x E=some d->tr d=some b ->
  (∀ s',Stp s s'->Q b s')->wpAny (model c.prog c.w) A (isTrue e env (eval e env)) Q Er s
noncomputable def EvsOK (c:Cfg) (xs:Xs):Prop :=
 ∀ (n:Nat) (A:Around) (env:Env) (Own:Addr->Prop) (M:Nat->Nat) (E:AE) (s:Shared) (es:List Expr) (ds:List PyData) (pos:Pos) (Q:List Value->Shared->Prop) (Er:Value->Shared->Prop),
  Cx c n A Own env M E s->chkXs c.fnm c.rk n env.scope xs es=true->okXs M xs=true->evs c.G c.T xs E=some ds ->
  (∀ vs s',Stp s s'->All2 (Rd0 Own s'.heap) vs ds->vs.length=es.length->Q vs s')->wpAny (model c.prog c.w) A (spliced (backTo pos (starEach es env))) Q Er s
theorem chkX_q_int {fnm:Nat->Str} {rk:Nat->Nat} {n:Nat} {sc:Scope} {i}:chkX fnm rk n sc (.int i)=(kInt i):=rfl
theorem chkX_q_str {fnm:Nat->Str} {rk:Nat->Nat} {n:Nat} {sc:Scope} {l}:chkX fnm rk n sc (.str l)=(kStr l):=rfl
theorem chkX_q_bool {fnm:Nat->Str} {rk:Nat->Nat} {n:Nat} {sc:Scope} {b}:chkX fnm rk n sc (.bool b)=(kBool b):=rfl
theorem chkX_q_none {fnm:Nat->Str} {rk:Nat->Nat} {n:Nat} {sc:Scope}:chkX fnm rk n sc .none=(kNone):=rfl
theorem chkX_q_var {fnm:Nat->Str} {rk:Nat->Nat} {n:Nat} {sc:Scope} {i}:chkX fnm rk n sc (.var i)=(kVar sc i):=rfl
theorem chkX_q_glo {fnm:Nat->Str} {rk:Nat->Nat} {n:Nat} {sc:Scope} {i}:chkX fnm rk n sc (.glo i)=(kGlo sc i):=rfl
theorem chkX_q_neg {fnm:Nat->Str} {rk:Nat->Nat} {n:Nat} {sc:Scope} {i}:chkX fnm rk n sc (.neg i)=(kNeg i):=rfl
theorem chkX_q_bin {fnm:Nat->Str} {rk:Nat->Nat} {n:Nat} {sc:Scope} {op a b}:chkX fnm rk n sc (.bin op a b)=(kBin op (chkX fnm rk n sc a) (chkX fnm rk n sc b)):=rfl
theorem chkX_q_not {fnm:Nat->Str} {rk:Nat->Nat} {n:Nat} {sc:Scope} {a}:chkX fnm rk n sc (.not a)=(kNot (chkX fnm rk n sc a)):=rfl
theorem chkX_q_cmp1 {fnm:Nat->Str} {rk:Nat->Nat} {n:Nat} {sc:Scope} {op a b}:chkX fnm rk n sc (.cmp1 op a b)=(kCmp1 (copO op) (chkX fnm rk n sc a) (chkX fnm rk n sc b)):=rfl
theorem chkX_q_cmp2 {fnm:Nat->Str} {rk:Nat->Nat} {n:Nat} {sc:Scope} {o1 o2 a b x}:chkX fnm rk n sc (.cmp2 o1 o2 a b x)=(kCmp2 (copO o1) (copO o2) (chkX fnm rk n sc a) (chkX fnm rk n sc b) (chkX fnm rk n sc x)):=rfl
theorem chkX_q_isC {fnm:Nat->Str} {rk:Nat->Nat} {n:Nat} {sc:Scope} {m a x}:chkX fnm rk n sc (.isC m a x)=(fun e=>isConstX x && kCmp1 (isO m) (chkX fnm rk n sc a) (chkX fnm rk n sc x) e):=rfl
theorem chkX_q_isT {fnm:Nat->Str} {rk:Nat->Nat} {n:Nat} {sc:Scope} {m a t}:chkX fnm rk n sc (.isT m a t)=(kIsT sc m (chkX fnm rk n sc a) t):=rfl
theorem chkX_q_and {fnm:Nat->Str} {rk:Nat->Nat} {n:Nat} {sc:Scope} {xs}:chkX fnm rk n sc (.and xs)=(kBoo .And (chkXs fnm rk n sc xs)):=rfl
theorem chkX_q_or {fnm:Nat->Str} {rk:Nat->Nat} {n:Nat} {sc:Scope} {xs}:chkX fnm rk n sc (.or xs)=(kBoo .Or (chkXs fnm rk n sc xs)):=rfl
theorem chkX_q_ite {fnm:Nat->Str} {rk:Nat->Nat} {n:Nat} {sc:Scope} {t a b}:chkX fnm rk n sc (.ite t a b)=(kIte (chkX fnm rk n sc t) (chkX fnm rk n sc a) (chkX fnm rk n sc b)):=rfl
theorem chkX_q_lst {fnm:Nat->Str} {rk:Nat->Nat} {n:Nat} {sc:Scope} {xs}:chkX fnm rk n sc (.lst xs)=(fun e=>decide (lenXs xs<=1000) && kLst (chkXs fnm rk n sc xs) e):=rfl
theorem chkX_q_tup {fnm:Nat->Str} {rk:Nat->Nat} {n:Nat} {sc:Scope} {xs}:chkX fnm rk n sc (.tup xs)=(fun e=>decide (lenXs xs<=1000) && kTup (chkXs fnm rk n sc xs) e):=rfl
theorem chkX_q_idx {fnm:Nat->Str} {rk:Nat->Nat} {n:Nat} {sc:Scope} {a i}:chkX fnm rk n sc (.idx a i)=(kIdx (chkX fnm rk n sc a) (chkX fnm rk n sc i)):=rfl
theorem chkX_q_slc {fnm:Nat->Str} {rk:Nat->Nat} {n:Nat} {sc:Scope} {a lo hi st}:chkX fnm rk n sc (.slc a lo hi st)=(kSlc (chkX fnm rk n sc a) (kOpt (chkX fnm rk n sc lo) (isNoneX lo)) (kOpt (chkX fnm rk n sc hi) (isNoneX hi)) (kOpt (chkX fnm rk n sc st) (isNoneX st))):=rfl
theorem chkX_q_call {fnm:Nat->Str} {rk:Nat->Nat} {n:Nat} {sc:Scope} {f xs}:chkX fnm rk n sc (.call f xs)=(fun e=>decide (rk f < n) && kCall sc (fnm f) (chkXs fnm rk n sc xs) e):=rfl
theorem chkX_q_callh {fnm:Nat->Str} {rk:Nat->Nat} {n:Nat} {sc:Scope} {f i xs}:chkX fnm rk n sc (.callh f i xs)=(fun e=>decide (rk f < n) && kCall sc (fnm f) (kHead sc i (chkXs fnm rk n sc xs)) e):=rfl
theorem chkX_q_p1 {fnm:Nat->Str} {rk:Nat->Nat} {n:Nat} {sc:Scope} {p a}:chkX fnm rk n sc (.p1 p a)=(fun e=>match p1Meth p with
  | true=>kMe0 (p1Name p) (chkX fnm rk n sc a) e
  | false=>kFn1 sc (p1Name p) (chkX fnm rk n sc a) e):=rfl
theorem chkX_q_p2 {fnm:Nat->Str} {rk:Nat->Nat} {n:Nat} {sc:Scope} {p a b}:chkX fnm rk n sc (.p2 p a b)=(fun e=>match p2Meth p with
  | true=>kMe1 (p2Name p) (chkX fnm rk n sc a) (chkX fnm rk n sc b) e
  | false=>kFn2 sc (p2Name p) (chkX fnm rk n sc a) (chkX fnm rk n sc b) e):=rfl
theorem chkX_q_lof {fnm:Nat->Str} {rk:Nat->Nat} {n:Nat} {sc:Scope} {it}:chkX fnm rk n sc (.lof it)=(fun e=>lofOk it && kFn1 sc "list" (chkIt fnm rk n sc it) e):=rfl
theorem chkX_q_comp {fnm:Nat->Str} {rk:Nat->Nat} {n:Nat} {sc:Scope} {elt t it ifs}:chkX fnm rk n sc (.comp elt t it ifs)=(fun e=>noGen it && tgtOk it t && kComp sc (chkIt fnm rk n sc it) t.ids (fun q=>chkT q t) (fun q=>chkXs fnm rk n q ifs) (fun q=>chkX fnm rk n q elt) e):=rfl
theorem chkX_q_hget {fnm:Nat->Str} {rk:Nat->Nat} {n:Nat} {sc:Scope} {i a}:chkX fnm rk n sc (.hget i a)=(fun e=>decide (2 < n) && kMe1 "get_all" (kVar sc i) (chkX fnm rk n sc a) e):=rfl
theorem chkX_q_hkeys {fnm:Nat->Str} {rk:Nat->Nat} {n:Nat} {sc:Scope} {i}:chkX fnm rk n sc (.hkeys i)=(fun e=>decide (2 < n) && kMe0 "keys" (kVar sc i) e):=rfl
theorem chkX_q_hattr {fnm:Nat->Str} {rk:Nat->Nat} {n:Nat} {sc:Scope} {i}:chkX fnm rk n sc (.hattr i)=(kAttr sc i):=rfl
theorem chkXs_q_nil {fnm:Nat->Str} {rk:Nat->Nat} {n:Nat} {sc:Scope}:chkXs fnm rk n sc .nil=(kNil):=rfl
theorem chkXs_q_cons {fnm:Nat->Str} {rk:Nat->Nat} {n:Nat} {sc:Scope} {x xs}:chkXs fnm rk n sc (.cons x xs)=(kCons (chkX fnm rk n sc x) (chkXs fnm rk n sc xs)):=rfl
theorem chkIt_q_val {fnm:Nat->Str} {rk:Nat->Nat} {n:Nat} {sc:Scope} {a}:chkIt fnm rk n sc (.val a)=(chkX fnm rk n sc a):=rfl
theorem chkIt_q_rng1 {fnm:Nat->Str} {rk:Nat->Nat} {n:Nat} {sc:Scope} {a}:chkIt fnm rk n sc (.rng1 a)=(kFn1 sc "range" (chkX fnm rk n sc a)):=rfl
theorem chkIt_q_rng2 {fnm:Nat->Str} {rk:Nat->Nat} {n:Nat} {sc:Scope} {a b}:chkIt fnm rk n sc (.rng2 a b)=(kFn2 sc "range" (chkX fnm rk n sc a) (chkX fnm rk n sc b)):=rfl
theorem chkIt_q_rng3 {fnm:Nat->Str} {rk:Nat->Nat} {n:Nat} {sc:Scope} {a b c}:chkIt fnm rk n sc (.rng3 a b c)=(kFn3 sc "range" (chkX fnm rk n sc a) (chkX fnm rk n sc b) (chkX fnm rk n sc c)):=rfl
theorem chkIt_q_enm {fnm:Nat->Str} {rk:Nat->Nat} {n:Nat} {sc:Scope} {a}:chkIt fnm rk n sc (.enm a)=(kFn1 sc "enumerate" (chkX fnm rk n sc a)):=rfl
theorem chkIt_q_gen {fnm:Nat->Str} {rk:Nat->Nat} {n:Nat} {sc:Scope} {a}:chkIt fnm rk n sc (.gen a)=(fun e=>decide (2 < n) && kFn1 sc "_iter_escaped_chars" (chkX fnm rk n sc a) e):=rfl
theorem okX_q_bin {M:Nat->Nat} {z1 a b}:okX M (.bin z1 a b)=(okX M a && okX M b && decide (odX M a<=1) && decide (odX M b<=1)):=rfl
theorem okX_q_not {M:Nat->Nat} {a}:okX M (.not a)=(okX M a):=rfl
theorem okX_q_cmp1 {M:Nat->Nat} {z1 a b}:okX M (.cmp1 z1 a b)=(okX M a && okX M b):=rfl
theorem okX_q_cmp2 {M:Nat->Nat} {z1 z2 a b c}:okX M (.cmp2 z1 z2 a b c)=(okX M a && okX M b && okX M c):=rfl
theorem okX_q_isC {M:Nat->Nat} {z1 a c}:okX M (.isC z1 a c)=(okX M a && okX M c):=rfl
theorem okX_q_isT {M:Nat->Nat} {z1 a z2}:okX M (.isT z1 a z2)=(okX M a):=rfl
theorem okX_q_and {M:Nat->Nat} {xs}:okX M (.and xs)=(okXs M xs):=rfl
theorem okX_q_or {M:Nat->Nat} {xs}:okX M (.or xs)=(okXs M xs):=rfl
theorem okX_q_ite {M:Nat->Nat} {t a b}:okX M (.ite t a b)=(okX M t && okX M a && okX M b && decide (odX M a=0) && decide (odX M b=0)):=rfl
theorem okX_q_lst {M:Nat->Nat} {xs}:okX M (.lst xs)=(okXs M xs):=rfl
theorem okX_q_tup {M:Nat->Nat} {xs}:okX M (.tup xs)=(okXs M xs):=rfl
theorem okX_q_idx {M:Nat->Nat} {a i}:okX M (.idx a i)=(okX M a && okX M i):=rfl
theorem okX_q_slc {M:Nat->Nat} {a lo hi st}:okX M (.slc a lo hi st)=(okX M a && okX M lo && okX M hi && okX M st && decide (odX M a<=1)):=rfl
theorem okX_q_call {M:Nat->Nat} {z1 xs}:okX M (.call z1 xs)=(okXs M xs):=rfl
theorem okX_q_callh {M:Nat->Nat} {z1 z2 xs}:okX M (.callh z1 z2 xs)=(okXs M xs):=rfl
theorem okX_q_p1 {M:Nat->Nat} {z1 a}:okX M (.p1 z1 a)=(okX M a && decide (odX M a<=1)):=rfl
theorem okX_q_p2 {M:Nat->Nat} {z1 a b}:okX M (.p2 z1 a b)=(okX M a && okX M b && decide (odX M a<=1) && decide (odX M b=0)):=rfl
theorem okX_q_lof {M:Nat->Nat} {it}:okX M (.lof it)=(okIt M it):=rfl
theorem okX_q_comp {M:Nat->Nat} {elt t it ifs}:okX M (.comp elt t it ifs)=(okIt M it && okXs (modeOff M t.ids) ifs && okX (modeOff M t.ids) elt && decide (odX (modeOff M t.ids) elt=0)):=rfl
theorem okX_q_hget {M:Nat->Nat} {z1 a}:okX M (.hget z1 a)=(okX M a):=rfl
theorem okXs_q_cons {M:Nat->Nat} {x xs}:okXs M (.cons x xs)=(okX M x && decide (odX M x=0) && okXs M xs):=rfl
theorem okIt_q_val {M:Nat->Nat} {a}:okIt M (.val a)=(okX M a && decide (odX M a<=1)):=rfl
theorem okIt_q_rng1 {M:Nat->Nat} {a}:okIt M (.rng1 a)=(okX M a):=rfl
theorem okIt_q_rng2 {M:Nat->Nat} {a b}:okIt M (.rng2 a b)=(okX M a && okX M b):=rfl
theorem okIt_q_rng3 {M:Nat->Nat} {a b c}:okIt M (.rng3 a b c)=(okX M a && okX M b && okX M c):=rfl
theorem okIt_q_enm {M:Nat->Nat} {a}:okIt M (.enm a)=(okX M a && decide (odX M a<=1)):=rfl
theorem okIt_q_gen {M:Nat->Nat} {a}:okIt M (.gen a)=(okX M a):=rfl
theorem isList_obj {h:Heap} {l:Addr} {items:Array Value} (x:h.IsList l items):∃ dd sl n,h.get? l=some { cls:=.type "list",dict:=dd,data:=.seq items n,slots:=sl }:=by
 (refine e1a3 x ?_;try clear x;rintro ⟨cls,dd,data,sl⟩ ho hc hz_;obtain ⟨n,hd⟩:=hz_)
 simp only at hc hd
 subst hc hd
 exact ⟨dd,sl,n,ho⟩
theorem fresh_size {h:Heap}:h.get? h.objs.size=none:=by
 cases e:h.get? h.objs.size with
 | none=>rfl
 | some o=>exact absurd (Heap.lt_size e) (Nat.lt_irrefl _)
theorem notOwn_fresh {Own:Addr->Prop} {h:Heap} (live:∀ a,Own a->∃ o,h.get? a=some o):¬ Own h.objs.size:=fun x=>by
 (refine e1a1 (live _ x) ?_;rintro o ho)
 rw [fresh_size] at ho;exact nso ho
theorem pushed_list {h:Heap} {vs:Array Value}:(h.push { cls:=.type "list",data:=.seq vs }).PlainList h.objs.size vs:=⟨0,Heap.get?_push_size _ rfl⟩
theorem pushed_tuple {h:Heap} {vs:Array Value}:(h.push { cls:=.type "tuple",data:=.seq vs }).IsTuple h.objs.size vs:=⟨_,Heap.get?_push_size _ rfl,rfl,0,rfl⟩
theorem new_list {Own:Addr->Prop} {s:Shared} {vs:List Value} {xs:List PyData} (live:∀ a,Own a->∃ o,s.heap.get? a=some o) (hx:All2 (Rd0 Own s.heap) vs xs) :
  Rd0 Own (s.heap.push { cls:=.type "list",data:=.seq vs.toArray }) (.ref s.heap.objs.size) (.list xs) :=
 RdG.list pushed_list (by simpa using hx.mono fun u_ u_ y=>Rd0.keep (KeepH.push _ _) y) (notOwn_fresh live)
theorem new_tuple {Own:Addr->Prop} {s:Shared} {vs:List Value} {xs:List PyData} (hx:All2 (Rd0 Own s.heap) vs xs) :
  Rd0 Own (s.heap.push { cls:=.type "tuple",data:=.seq vs.toArray }) (.ref s.heap.objs.size) (.tuple xs) :=
 Rd0.tuple pushed_tuple (by simpa using hx.mono fun u_ u_ y=>Rd0.keep (KeepH.push _ _) y)
theorem fr_of_none {s s':Shared} (k:KeepH s.heap s'.heap) {a:Addr} (e:s'.heap.get? a=none):Fr1 s (.ref a):=fun b eb=>by
 cases eb
 cases h:s.heap.get? a with
 | none=>rfl
 | some o=>rw [k _ _ h] at e;exact nsn e
theorem fr_at {s s':Shared} (k:KeepH s.heap s'.heap):Fr1 s (.ref s'.heap.objs.size):=fr_of_none k fresh_size
section
variable {prog:Program} {w:World} {A:Around} {Er:Value->Shared->Prop} {s:Shared} {Own:Addr->Prop}
theorem list_mulW (l:Addr) (items:Array Value) (n:Nat) (dd:Option Addr) (sl:Array (Option Value)) (x:Int) (u:Tok) (hc0:¬(!Builtin.List.listFitsIndex x)=true) (hc1:¬items.size * x.toNat > (2 ^ 63 - 1) / 8)
  (hc2:¬Builtin.List.listTooLong (items.size * x.toNat)=true) :
  Meets (Builtin.«list.__mul__» ⟨[.ref l,.int x u],[]⟩) (fun u_ R s=>s.heap.get? l=some { cls:=.type "list",dict:=dd,data:=.seq items n,slots:=sl } /\
   R (.ok (.ret (Value.ref s.heap.objs.size))) { s with heap:=s.heap.push { cls:=Value.type "list",data:=Data.seq (List.foldl (fun x1 x2=>x1++x2) #[] (List.replicate (if items.isEmpty=true then 0 else x.toNat) items)) } }) :=
 .of_wp fun prog w A R s h=>by
  (refine by_goal fun G_ hG_=>?_;rcases s with ⟨hp,g,d,tk,os⟩;all_goals (refine hG_ ?_;clear hG_ G_));obtain ⟨hl,h⟩:=h
  have hsz:=AutoListH.joined_fits hc2
  wp_walk;refine wpAny_ite_false (decide_eq_false (Nat.not_lt.mpr hsz)) ?_;wp_walk;exact ⟨_,rfl,h⟩
theorem rmulW (a:Int) (t:Tok) (l:Addr) (items:Array Value) (n:Nat) (dd:Option Addr) (sl:Array (Option Value)) :
  Meets (Builtin.«int.__rmul__» ⟨[.int a t,.ref l],[]⟩) (fun u_ R s=>s.heap.get? l=some { cls:=.type "list",dict:=dd,data:=.seq items n,slots:=sl }/\R (.ok (.ret Value.notImplemented)) s) :=
 .of_wp fun prog w A R s h=>by (refine by_goal fun G_ hG_=>?_;rcases s with ⟨hp,g,d,tk,os⟩;all_goals (refine hG_ ?_;clear hG_ G_));obtain ⟨hl,h⟩:=h;wp_walk;exact ⟨_,rfl,h⟩
theorem op_mul_list {l:Addr} {items:Array Value} {x:Int} {u:Tok} {Q:Value->Shared->Prop} (hl:s.heap.IsList l items)
  (hlo:-(2 ^ 63:Int)<=x) (hhi:x < 2 ^ 63) (hsz:items.size * x.toNat<=2 ^ 24)
  (h:Q (.ref s.heap.objs.size) { s with heap:=s.heap.push { cls:=Value.type "list",data:=Data.seq (List.foldl (fun x1 x2=>x1++x2) #[] (List.replicate (if items.isEmpty=true then 0 else x.toNat) items)) } }) :
  wpAny (model prog w) A (binaryOp .Mult (.ref l) (.int x u)) Q Er s:=by
 (refine e3a1 (isList_obj hl) ?_;rintro dd sl k hl)
 exact wpAny_binaryOp_repeat_ref (T:="list") (U:="int") (by decide) ⟨_,hl,rfl⟩ (fun s'=>typeIs_int s' x u) noFill_list_mul F.fills_int_mul F.slot_int_rmul repeat_list F.slot_int_index.lookup
  (call_meets F.slot_int_rmul (typeIs_int s x u) F.entry_int_rmul (F.args_int_rmul_2 _ _) (rmulW x u l items k dd sl)
   ⟨hl,rfl,⟨_,hl,rfl⟩,call_meets F.slot_list_mul ⟨_,hl,rfl⟩ F.entry_list_mul (F.args_list_mul_2 _ _)
    (list_mulW l items k dd sl x u (by simp [Builtin.List.listFitsIndex];lia) (by lia) (by simp [Builtin.List.listTooLong,sizeLine];omega))
    ⟨hl,h⟩⟩)
theorem op_add_list {l b:Addr} {vs ws:Array Value} {Q:Value->Shared->Prop} (hl:s.heap.IsList l vs) (hb:s.heap.IsList b ws) (hsz:vs.size+ws.size<=sizeLine)
  (h:Q (.ref s.heap.objs.size) { s with heap:=s.heap.push { cls:=.type "list",data:=.seq (vs++ws) } }) :
  wpAny (model prog w) A (binaryOp .Add (.ref l) (.ref b)) Q Er s:=by
 (refine e3a1 (isList_obj hl) ?_;rintro dd sl k hl)
 (refine e3a1 (isList_obj hb) ?_;rintro dd2 sl2 k2 hb)
 exact concat_meets ⟨_,hl,rfl⟩ ⟨_,hb,rfl⟩ noFill_list_add seq_list_add PySem.F.slot_list_add PySem.F.entry_list_add (PySem.F.args_list_add_2 _ _) (list_addW l b vs ws k k2 dd dd2 sl sl2 hsz) ⟨hl,hb,h⟩
end
theorem foldl_rep (xs:Array Value):∀ (k:Nat) (acc:Array Value),(List.foldl (fun x1 x2=>x1++x2) acc (List.replicate k xs)).toList=acc.toList++rep xs.toList k
 | 0,acc=>by simp [rep]
 | k+1,acc=>by rw [List.replicate_succ,List.foldl_cons,foldl_rep xs k];simp [rep]
theorem foldl_repN (xs:Array Nat):∀ (k:Nat) (acc:Array Nat),(List.foldl (fun x1 x2=>x1++x2) acc (List.replicate k xs)).toList=acc.toList++rep xs.toList k
 | 0,acc=>by simp [rep]
 | k+1,acc=>by rw [List.replicate_succ,List.foldl_cons,foldl_repN xs k];simp [rep]
theorem rep_nil {α:Type}:∀ k:Nat,rep ([]:List α) k=[]
 | 0=>rfl
 | k+1=>by simp [rep,rep_nil k]
theorem All2.rep {α β:Type} {R:α->β->Prop} {as:List α} {bs:List β} (x:All2 R as bs):∀ k,All2 R (Mine.rep as k) (Mine.rep bs k)
 | 0=>.nil
 | k+1=>x.append (All2.rep x k)
set_option tactic.hygienic true in
theorem txt_mul (x:Str) (n:Int) (h:0<=n):Txt.mul x n=⟨⟨rep (sl x) n.toNat⟩⟩:=by
 unfold Txt.mul
 split
 ·rename_i h1
  have:n.toNat=0:=by lia
  rw [this];rfl
 ·split
  ·rename_i h1 h2
   simp only [Bool.or_eq_true,beq_iff_eq] at h2
   rcases h2 with h2 | h2
   ·subst h2;simp [rep,sl]
   ·have hx:x.cps.toList=[]:=by
     have:x.cps.size=0:=h2
     simpa using Array.eq_empty_of_size_eq_zero this
    show x=_
    simp only [sl,hx,rep_nil]
    cases x;simp at hx;subst hx;rfl
  ·have:=foldl_repN x.cps n.toNat #[]
   dsimp only [List.nil_append] at this
   show Str.mk _=Str.mk _
   congr 1
   exact Array.ext' (by simpa using this)
section
variable {prog:Program} {w:World} {A:Around} {Er:Value->Shared->Prop} {s:Shared} {Own:Addr->Prop}
theorem str_app (x y:Str):x++y=⟨⟨sl x++sl y⟩⟩:=by
 show Str.append x y=_
 unfold Str.append
 congr 1
 exact Array.ext' (by simp [sl])
theorem fdiv_eq {a b:Int} (h:0 < b):a.fdiv b=a / b:=Int.fdiv_eq_ediv_of_nonneg a (Int.le_of_lt h)
theorem fmod_eq {a b:Int} (h:0 < b):a.fmod b=a % b:=Int.fmod_eq_emod_of_nonneg a (Int.le_of_lt h)
theorem mulOk {x:Str} {n:Int} (h0:0<=n) (h1:n<=1000000) (h3:x.cps.size * n.toNat<=1000000):MulOk x n:=by
 by_cases hx0:x.cps.size=0
 ·have hx1:(x.length == 0)=true:=beq_iff_eq.mpr hx0
  refine ⟨Bool.or_eq_false_iff.mpr ⟨decide_eq_false (by lia),decide_eq_false (by lia)⟩,fun u_ q=>?_,fun u_ q=>?_⟩
  ·rw [hx1,Bool.or_true] at q;exact nbf q
  ·rw [hx1,Bool.or_true] at q;exact nbf q
 ·refine ⟨Bool.or_eq_false_iff.mpr ⟨decide_eq_false (by lia),decide_eq_false (by lia)⟩,fun q u_=>?_,fun u_ u_=>?_⟩
  ·have h5:(x.cps.size:Int) * n<=1000000:=by
    have q:=Int.ofNat_le.mpr h3
    rw [Int.natCast_mul,Int.toNat_of_nonneg h0] at q
    exact q
   have:(x.length:Int)<=(2 ^ 63 - 1) / n:=(Int.le_ediv_iff_mul_le (by grind)).mpr (Int.le_trans h5 (by decide))
   lia
  ·have h5:x.length * n.toNat<=1000000:=h3
   exact decide_eq_false (by rw [sizeLine_eq];grind)
theorem noref {i:Int} {t:Tok} {s:Shared}:Fr1 s (.int i t):=fun a e=>nomatch e
theorem norefs {i:Str} {t:Tok} {s:Shared}:Fr1 s (.str i t):=fun a e=>nomatch e
theorem rd_int {k:Nat} {v:Value} {x:PyData} {a:Int} (r:RdG Own k s.heap v x) (hx:x=.int a):∃ t,v=.int a t:=((hx ▸ r).nolist fun u_=>nofun).int
theorem rd_str {k:Nat} {v:Value} {x:PyData} {a:Str} (r:RdG Own k s.heap v x) (hx:x=.str a):∃ t,v=.str a t:=((hx ▸ r).nolist fun u_=>nofun).str
theorem bin_ok (live:∀ a,Own a->∃ o,s.heap.get? a=some o) {k1 k2:Nat} (h1:k1<=1) (h2:k2<=1) {op:Bop} {x y z:PyData} {v1 v2:Value} {Q:Value->Shared->Prop} (hz:evBin op x y=some z)
  (r1:RdG Own k1 s.heap v1 x) (r2:RdG Own k2 s.heap v2 y) (h:∀ v s',Stp s s'->Rd0 Own s'.heap v z->Fr1 s v->Q v s'):wpAny (model prog w) A (binaryOp (bopO op) v1 v2) Q Er s:=by
 cases op with
 | add =>
  refine oI_inv (fun a hx hz=>oI_inv (fun b hy hz=>?_) nso hz) (fun hz=>oS_inv (fun a hx hz=>oS_inv (fun b hy hz=>ifs (fun hle hz=>?_) hz) nso hz) (fun hz=>oL_inv (fun xs hx hz=>oL_inv (fun ys hy hz=>ifs (fun hle hz=>?_) hz) nso hz) nso hz) hz) hz
  ·(refine e1a1 (rd_int r1 hx) ?_;rintro t rfl)
   (refine e1a1 (rd_int r2 hy) ?_;rintro u rfl)
   show wpAny _ _ (binaryOp .Add _ _) _ _ _
   with_reducible refine add_int ?_
   exact h _ _ .toks (Option.some.inj hz ▸ .mkInt) noref
  ·(refine e1a1 (rd_str r1 hx) ?_;rintro t rfl)
   (refine e1a1 (rd_str r2 hy) ?_;rintro u rfl)
   show wpAny _ _ (binaryOp .Add _ _) _ _ _
   with_reducible refine add_str (fun t' tk=>?_) ?_
   ·rw [str_app];exact h _ _ .toks (Option.some.inj hz ▸ .mkStr) norefs
   ·have:a.cps.toList.length+b.cps.toList.length<=1000000:=hle
    rw [Array.length_toList,Array.length_toList] at this
    show a.cps.size+b.cps.size<=sizeLine
    rw [sizeLine_eq]
    exact Nat.le_trans this (by decide)
  ·(refine e2a3 ((hx ▸ r1).one h1) ?_;rintro l vs rfl hl hx)
   (refine e2a3 ((hy ▸ r2).one h2) ?_;rintro b ws rfl hb hy)
   have e1:=hx.length
   have e2:=hy.length
   rw [Array.length_toList] at e1 e2
   show wpAny _ _ (binaryOp .Add _ _) _ _ _
   with_reducible refine op_add_list hl.isList hb.isList ?_ ?_
   ·rw [e1,e2,sizeLine_eq]
    exact Nat.le_trans hle (by decide)
   ·have q:=new_list live (hx.append hy)
    rw [show (vs.toList++ws.toList).toArray=vs++ws by simp] at q
    exact h _ _ .push (Option.some.inj hz ▸ q) (fr_at (.refl _))
 | sub =>
  refine bI_inv (fun a b hx hy hz=>?_) hz
  (refine e1a1 (rd_int r1 hx) ?_;rintro t rfl)
  (refine e1a1 (rd_int r2 hy) ?_;rintro u rfl)
  show wpAny _ _ (binaryOp .Sub _ _) _ _ _
  with_reducible refine sub_int ?_
  exact h _ _ .toks (Option.some.inj hz ▸ .mkInt) noref
 | mul =>
  refine oI_inv (fun n hy hz=>?_) nso hz
  (refine e1a1 (rd_int r2 hy) ?_;rintro u rfl)
  refine oI_inv (fun a hx hz=>ifs (fun hle hz=>?_) hz) (fun hz=>oS_inv (fun a hx hz=>ifs (fun hle hz=>?_) hz) (fun hz=>oL_inv (fun xs hx hz=>ifs (fun hle hz=>?_) hz) nso hz) hz) hz
  ·(refine e1a1 (rd_int r1 hx) ?_;rintro t rfl)
   have:a.natAbs<=1000000:=hle.1
   show wpAny _ _ (binaryOp .Mult _ _) _ _ _
   with_reducible refine mul_int ?_ ?_
   ·exact h _ _ .toks (Option.some.inj hz ▸ .mkInt) noref
   ·exact IntMulOk.of_left (intBits_le_64 (by grind) (by grind))
  ·(refine e1a1 (rd_str r1 hx) ?_;rintro t rfl)
   have h3:a.cps.toList.length * n.toNat<=1000000:=hle.2.2
   have h0:=hle.1
   rw [Array.length_toList] at h3
   have hm:=mulOk h0 hle.2.1 h3
   show wpAny _ _ (binaryOp .Mult _ _) _ _ _
   with_reducible refine SB.mul hm (fun t' tk=>?_)
   rw [txt_mul a n h0];exact h _ _ .toks (Option.some.inj hz ▸ .mkStr) norefs
  ·(refine e2a3 ((hx ▸ r1).one h1) ?_;rintro l vs rfl hl hx)
   have e1:=hx.length
   rw [Array.length_toList] at e1
   have h3:xs.length * n.toNat<=1000000:=hle.2.2
   have h0:=hle.1
   have h1000:n<=1000000:=hle.2.1
   show wpAny _ _ (binaryOp .Mult _ _) _ _ _
   with_reducible refine op_mul_list hl.isList (by lia) (by lia) (by rw [e1];lia) ?_
   have q:=new_list live (hx.rep n.toNat)
   have e:List.foldl (fun x1 x2=>x1++x2) #[] (List.replicate (if vs.isEmpty=true then 0 else n.toNat) vs)=(rep vs.toList n.toNat).toArray:=by
    by_cases he:vs.isEmpty=true
    ·have:vs=#[]:=by simpa using he
     subst this
     simp [rep_nil]
    ·rw [if_neg he]
     exact Array.ext' (by simpa using foldl_rep vs n.toNat #[])
   rw [<-e] at q
   exact h _ _ .push (Option.some.inj hz ▸ q) (fr_at (.refl _))
 | fdiv =>
  refine bI_inv (fun a b hx hy hz=>ifs (fun hle hz=>?_) hz) hz
  (refine e1a1 (rd_int r1 hx) ?_;rintro t rfl)
  (refine e1a1 (rd_int r2 hy) ?_;rintro u rfl)
  have:b<=1000000:=hle.2
  have h0:=hle.1
  show wpAny _ _ (binaryOp .FloorDiv _ _) _ _ _
  with_reducible refine floordiv_int (by lia) ?_ (.inl (PyProof.noPylong_small (by omega)))
  rw [fdiv_eq h0];exact h _ _ .toks (Option.some.inj hz ▸ .mkInt) noref
 | mod =>
  refine bI_inv (fun a b hx hy hz=>ifs (fun hle hz=>?_) hz) hz
  (refine e1a1 (rd_int r1 hx) ?_;rintro t rfl)
  (refine e1a1 (rd_int r2 hy) ?_;rintro u rfl)
  have h0:=hle.1
  show wpAny _ _ (binaryOp .Mod _ _) _ _ _
  with_reducible refine mod_int' (by lia) ?_
  rw [fmod_eq h0];exact h _ _ .toks (Option.some.inj hz ▸ .mkInt) noref
 | pow =>
  refine bI_inv (fun a n hx hy hz=>ifs (fun hle hz=>?_) hz) hz
  (refine e1a1 (rd_int r1 hx) ?_;rintro t rfl)
  (refine e1a1 (rd_int r2 hy) ?_;rintro u rfl)
  (refine e0a3 hle ?_;try clear hle;rintro h0 h10 ha)
  show wpAny _ _ (binaryOp .Pow _ _) _ _ _
  with_reducible refine pow_int h0 ?_ ?_
  rotate_left
  ·exact h _ _ .toks (Option.some.inj hz ▸ .mkInt) noref
  have hb:Builtin.Int.intBits a<=64:=intBits_le_64 (by grind) (by grind)
  have:(Builtin.Int.intBits a:Int) * n<=64 * 10:=Int.mul_le_mul (Int.ofNat_le.mpr hb) h10 h0 (by decide)
  lia
end
section
variable {prog:Program} {w:World} {A:Around} {Er:Value->Shared->Prop} {s:Shared} {Own:Addr->Prop}
theorem tr_ok {k:Nat} {v:Value} {d:PyData} {b:Bool} {Q:Bool->Shared->Prop} (hb:tr d=some b) (r:RdG Own k s.heap v d) (h:∀ s',Stp s s'->Q b s'):wpAny (model prog w) A (truthy v) Q Er s:=by
 have r:=r.any
 cases d with
 | none=>obtain rfl:=r.none;(replace hb:=(Option.some.inj hb).symm;subst hb);exact truthy_none (h _ (.refl _))
 | bool c=>obtain rfl:=r.bool;(replace hb:=(Option.some.inj hb).symm;subst hb);exact wpAny_truthy_bool (h _ (.refl _))
 | int i=>(refine e1a1 r.int ?_;rintro t rfl);(replace hb:=(Option.some.inj hb).symm;subst hb);with_reducible refine truthy_int ?_;exact h _ (.refl _)
 | str x =>
  (refine e1a1 r.str ?_;rintro t rfl)
  simp only [tr] at hb
  revert hb
  refine ifs fun hle hb=>?_
  have hle:x.cps.toList.length<=1000000:=hle
  rw [Array.length_toList] at hle
  (replace hb:=(Option.some.inj hb).symm;subst hb)
  have e:((x.length:Int) != 0)=!(sl x).isEmpty:=by
   have:x.length=(sl x).length:=by simp [sl,Str.length]
   rw [this]
   cases sl x <;> simp;lia
  with_reducible refine P.truthy_str ?_ ?_
  ·show ¬ ((x.cps.size:Int) ≥ _);lia
  ·rw [e];exact h _ .toks
 | list xs =>
  (refine e2a3 (RdG.zero r) ?_;rintro a vs rfl hl hx)
  simp only [tr] at hb
  revert hb
  refine ifs fun hle hb=>?_
  have hle:xs.length<=1000000:=hle
  have e1:=hx.length
  rw [Array.length_toList] at e1
  (replace hb:=(Option.some.inj hb).symm;subst hb)
  with_reducible refine wpAny_truthy_list hl.isList ?_ ?_
  ·lia
  ·have e:vs.isEmpty=xs.isEmpty:=by
    rw [Bool.eq_iff_iff,Array.isEmpty_iff_size_eq_zero,List.isEmpty_iff_length_eq_zero,e1]
   rw [e];exact h _ .toks
 | tuple xs =>
  (refine e2a3 (Rd0.untuple r) ?_;rintro a vs rfl hl hx)
  simp only [tr] at hb
  revert hb
  refine ifs fun hle hb=>?_
  have hle:xs.length<=1000000:=hle
  have e1:=hx.length
  rw [Array.length_toList] at e1
  (replace hb:=(Option.some.inj hb).symm;subst hb)
  refine truthy_tuple hl ?_ ?_
  ·lia
  ·have e:vs.isEmpty=xs.isEmpty:=by
    rw [Bool.eq_iff_iff,Array.isEmpty_iff_size_eq_zero,List.isEmpty_iff_length_eq_zero,e1]
   rw [e];exact h _ .toks
 | dict=>exact nso hb
theorem okD_shaped {d:PyData} (h:okD d=true):SeqAt.shaped d=true:=h
theorem str_eq {x y:Str}:(x == y)=decide (sl x=sl y):=by
 rw [<-toList_beq,Bool.eq_iff_iff];simp [sl]
theorem okD_list {xs:List PyData} (h:okD (.list xs)=true):PyData.canLayAll0 xs=true/\PyData.depthAll xs<=63:=by
 unfold okD at h
 rw [Bool.and_eq_true,decide_eq_true_eq] at h
 have h2:PyData.depthAll xs+1<=64:=by have:=h.2;simpa [PyData.depth] using this
 exact ⟨by simpa [PyData.canLay0] using h.1,by lia⟩
theorem okD_tuple {xs:List PyData} (h:okD (.tuple xs)=true):PyData.canLayAll0 xs=true/\PyData.depthAll xs<=63:=by
 unfold okD at h
 rw [Bool.and_eq_true,decide_eq_true_eq] at h
 have h2:PyData.depthAll xs+1<=64:=by have:=h.2;simpa [PyData.depth] using this
 exact ⟨by simpa [PyData.canLay0] using h.1,by lia⟩
theorem okD_lay {d:PyData} (h:okD d=true):d.canLay0=true:=by
 unfold okD at h
 rw [Bool.and_eq_true] at h
 exact h.1
theorem in_char {x y:Str} {c:Nat} (hc:sl x=[c]):(!(Builtin.Str.occurrences y x 0 y.length 1).isEmpty)=(sl y).contains c:=by
 have e:x=⟨#[c]⟩:=by
  cases x with | mk a=>have:a.toList=[c]:=hc;congr 1;exact Array.ext' (by simpa using this)
 rw [e,StrLaws.found_one,Bool.eq_iff_iff]
 simp [sl]
theorem cAny_inv {x y:PyData} {z:Bool} {P:Prop} (g:okD x=true->okD y=true->PyData.eqv x y=z->P) (h:cAny x y=some z):P:=ifs (fun c e=>g c.1 c.2 (Option.some.inj e)) h
theorem cEq_inv {x y:PyData} {z:Bool} {P:Prop} (g1:∀ a b,x=.int a->y=.int b->decide (a=b)=z->P) (g2:∀ a b,x=.str a->y=.str b->decide (sl a=sl b)=z->P)
  (g3:okD x=true->okD y=true->PyData.eqv x y=z->P) (h:cEq x y=some z):P :=
 oI_inv (fun a hx h=>oI_inv (fun b hy h=>g1 a b hx hy (Option.some.inj h)) (cAny_inv g3) h) (oS_inv (fun a hx h=>oS_inv (fun b hy h=>g2 a b hx hy (Option.some.inj h)) (cAny_inv g3) h) (cAny_inv g3)) h
set_option tactic.hygienic true in
theorem cIn_inv {x y:PyData} {z:Bool} {P:Prop} (g1:∀ a b c,x=.str a->y=.str b->sl a=[c]->(sl b).contains c=z->P)
  (g2:∀ xs,y=.list xs->okD (.list xs)=true->okD x=true->(xs.any fun y=>PyData.eqv y x)=z->P) (g3:∀ xs,y=.tuple xs->okD (.tuple xs)=true->okD x=true->(xs.any fun y=>PyData.eqv y x)=z->P) (h:cIn x y=some z):P:=by
 refine oS_inv (fun b hy h=>oS_inv (fun a hx h=>?_) nso h) (oL_inv (fun xs hy h=>ifs (fun c e=>g2 xs hy c.1 c.2 (Option.some.inj e)) h) (oT_inv (fun xs hy h=>ifs (fun c e=>g3 xs hy c.1 c.2 (Option.some.inj e)) h) nso)) h
 split at h
 ·rename_i c hc
  exact g1 a b c hx hy hc (Option.some.inj h)
 ·exact nso h
theorem cmp_ok (hu:A.units+64 < cLine) {k1 k2:Nat} {op:Cop} {x y:PyData} {z:Bool} {v1 v2:Value} {Q:Value->Shared->Prop} (hz:evCmp op x y=some z)
  (r1:RdG Own k1 s.heap v1 x) (r2:RdG Own k2 s.heap v2 y) (h:Q (.bool z) s):wpAny (model prog w) A (compareOp (copO op) v1 v2) Q Er s:=by
 cases op with
 | eq =>
  refine cEq_inv (fun a b hx hy hz=>?_) (fun a b hx hy hz=>?_) (fun hx hy hz=>?_) hz
  ·(refine e1a1 (rd_int r1 hx) ?_;rintro t rfl)
   (refine e1a1 (rd_int r2 hy) ?_;rintro u rfl)
   show wpAny _ _ (compareOp .Eq _ _) _ _ _
   with_reducible refine eq_int ?_
   show Q (.bool (decide (a=b))) s
   exact hz ▸ h
  ·(refine e1a1 (rd_str r1 hx) ?_;rintro t rfl)
   (refine e1a1 (rd_str r2 hy) ?_;rintro u rfl)
   show wpAny _ _ (compareOp .Eq _ _) _ _ _
   with_reducible refine eq_str ?_
   rw [str_eq];exact hz ▸ h
  ·(refine e1a2 r1.any ?_;rintro as ra u_)
   (refine e1a2 r2.any ?_;rintro bs rb u_)
   show wpAny _ _ (compareOp .Eq _ _) _ _ _
   exact SeqAt.compareEq_shaped ra rb (okD_shaped hx) (okD_shaped hy) hu (hz ▸ h)
 | ne =>
  revert hz
  refine sbn fun z0 hz e=>?_
  replace h:=(Option.some.inj e).symm ▸ h
  refine cEq_inv (fun a b hx hy hz=>?_) (fun a b hx hy hz=>?_) (fun hx hy hz=>?_) hz
  ·(refine e1a1 (rd_int r1 hx) ?_;rintro t rfl)
   (refine e1a1 (rd_int r2 hy) ?_;rintro u rfl)
   show wpAny _ _ (compareOp .NotEq _ _) _ _ _
   with_reducible refine ne_int ?_
   show Q (.bool (!decide (a=b))) s
   exact hz ▸ h
  ·(refine e1a1 (rd_str r1 hx) ?_;rintro t rfl)
   (refine e1a1 (rd_str r2 hy) ?_;rintro u rfl)
   show wpAny _ _ (compareOp .NotEq _ _) _ _ _
   with_reducible refine ne_str ?_
   rw [bne,str_eq];exact hz ▸ h
  ·(refine e1a2 r1.any ?_;rintro as ra u_)
   (refine e1a2 r2.any ?_;rintro bs rb u_)
   show wpAny _ _ (compareOp .NotEq _ _) _ _ _
   exact SeqAt.compareNe_shaped ra rb (okD_shaped hx) (okD_shaped hy) hu (hz ▸ h)
 | lt =>
  refine bI_inv (fun a b hx hy hz=>?_) hz
  (refine e1a1 (rd_int r1 hx) ?_;rintro t rfl)
  (refine e1a1 (rd_int r2 hy) ?_;rintro u rfl)
  show wpAny _ _ (compareOp .Lt _ _) _ _ _
  with_reducible refine lt_int ?_
  exact Option.some.inj hz ▸ h
 | le =>
  refine bI_inv (fun a b hx hy hz=>?_) hz
  (refine e1a1 (rd_int r1 hx) ?_;rintro t rfl)
  (refine e1a1 (rd_int r2 hy) ?_;rintro u rfl)
  show wpAny _ _ (compareOp .LtE _ _) _ _ _
  with_reducible refine le_int ?_
  exact Option.some.inj hz ▸ h
 | gt =>
  refine bI_inv (fun a b hx hy hz=>?_) hz
  (refine e1a1 (rd_int r1 hx) ?_;rintro t rfl)
  (refine e1a1 (rd_int r2 hy) ?_;rintro u rfl)
  show wpAny _ _ (compareOp .Gt _ _) _ _ _
  with_reducible refine gt_int ?_
  exact Option.some.inj hz ▸ h
 | ge =>
  refine bI_inv (fun a b hx hy hz=>?_) hz
  (refine e1a1 (rd_int r1 hx) ?_;rintro t rfl)
  (refine e1a1 (rd_int r2 hy) ?_;rintro u rfl)
  show wpAny _ _ (compareOp .GtE _ _) _ _ _
  with_reducible refine ge_int ?_
  exact Option.some.inj hz ▸ h
 | isin =>
  refine cIn_inv (fun a b c hx hy hc hz=>?_) (fun xs hx hy hc hz=>?_) (fun xs hx hy hc hz=>?_) hz
  ·(refine e1a1 (rd_str r1 hx) ?_;rintro t rfl)
   (refine e1a1 (rd_str r2 hy) ?_;rintro u rfl)
   show wpAny _ _ (compareOp .In _ _) _ _ _
   with_reducible refine PyProof.Rows.in_str ?_
   rw [in_char hc];exact hz ▸ h
  ·(refine e1a2 r1.any ?_;rintro as ra u_)
   (refine e1a2 ((hx ▸ r2).any) ?_;rintro bs rb u_)
   have q:=okD_list hy
   show wpAny _ _ (compareOp .In _ _) _ _ _
   exact SeqAt.in_list_reads rb ra q.1 (okD_lay hc) (by lia) (hz ▸ h)
  ·(refine e1a2 r1.any ?_;rintro as ra u_)
   (refine e1a2 ((hx ▸ r2).any) ?_;rintro bs rb u_)
   have q:=okD_tuple hy
   show wpAny _ _ (compareOp .In _ _) _ _ _
   exact SeqAt.in_tuple_reads rb ra q.1 (okD_lay hc) (by lia) (hz ▸ h)
 | notin =>
  revert hz
  refine sbn fun z0 hz e=>?_
  replace h:=(Option.some.inj e).symm ▸ h
  refine cIn_inv (fun a b c hx hy hc hz=>?_) (fun xs hx hy hc hz=>?_) (fun xs hx hy hc hz=>?_) hz
  ·(refine e1a1 (rd_str r1 hx) ?_;rintro t rfl)
   (refine e1a1 (rd_str r2 hy) ?_;rintro u rfl)
   show wpAny _ _ (compareOp .NotIn _ _) _ _ _
   with_reducible refine PyProof.Rows.notIn_str ?_
   rw [in_char hc];exact hz ▸ h
  ·(refine e1a2 r1.any ?_;rintro as ra u_)
   (refine e1a2 ((hx ▸ r2).any) ?_;rintro bs rb u_)
   have q:=okD_list hy
   show wpAny _ _ (compareOp .NotIn _ _) _ _ _
   exact SeqAt.notIn_list_reads rb ra q.1 (okD_lay hc) (by lia) (hz ▸ h)
  ·(refine e1a2 r1.any ?_;rintro as ra u_)
   (refine e1a2 ((hx ▸ r2).any) ?_;rintro bs rb u_)
   have q:=okD_tuple hy
   show wpAny _ _ (compareOp .NotIn _ _) _ _ _
   exact SeqAt.notIn_tuple_reads rb ra q.1 (okD_lay hc) (by lia) (hz ▸ h)
theorem is_ok {m:Bool} {v1 v2:Value} {z:Bool} {Q:Value->Shared->Prop} (hp:plainIs v1 v2=true) (hz:(v1 == v2)=z) (h:Q (.bool (z != m)) s):wpAny (model prog w) A (compareOp (isO m) v1 v2) Q Er s:=by
 induction m with
 | false =>
  show wpAny _ _ (compareOp .Is _ _) _ _ _
  with_reducible refine wpAny_is_plain hp ?_
  rw [hz];simpa using h
 | true =>
  show wpAny _ _ (compareOp .IsNot _ _) _ _ _
  with_reducible refine wpAny_isNot_plain hp ?_
  rw [hz];simpa using h
set_option tactic.hygienic true in
theorem isC_ok {m:Bool} {k1 k2:Nat} {x y:PyData} {z:Bool} {v1 v2:Value} {Q:Value->Shared->Prop} (hz:isConst x y=some z)
  (r1:RdG Own k1 s.heap v1 x) (r2:RdG Own k2 s.heap v2 y) (h:Q (.bool (z != m)) s):wpAny (model prog w) A (compareOp (isO m) v1 v2) Q Er s:=by
 have r1:=r1.any
 have r2:=r2.any
 unfold isConst at hz
 revert hz
 refine oN_inv (fun hy hz=>?_) (oB_inv (fun c0 hy hz=>?_) nso)
 ·subst hy
  obtain rfl:=r2.none
  cases x with
  | none=>obtain rfl:=r1.none;exact is_ok rfl rfl (by (replace hz:=(Option.some.inj hz).symm;subst hz);exact h)
  | bool b=>obtain rfl:=r1.bool;exact is_ok rfl rfl (by (replace hz:=(Option.some.inj hz).symm;subst hz);exact h)
  | int i=>(refine e1a1 r1.int ?_;rintro t rfl);exact is_ok rfl rfl (by (replace hz:=(Option.some.inj hz).symm;subst hz);exact h)
  | str i=>(refine e1a1 r1.str ?_;rintro t rfl);exact is_ok rfl rfl (by (replace hz:=(Option.some.inj hz).symm;subst hz);exact h)
  | list xs=>(refine e2a2 (RdG.zero r1) ?_;rintro a vs rfl _);exact is_ok rfl rfl (by (replace hz:=(Option.some.inj hz).symm;subst hz);exact h)
  | tuple xs=>(refine e2a2 (Rd0.untuple r1) ?_;rintro a vs rfl _);exact is_ok rfl rfl (by (replace hz:=(Option.some.inj hz).symm;subst hz);exact h)
  | dict xs=>(refine e1a1 r1.dict ?_;rintro a rfl);exact is_ok rfl rfl (by (replace hz:=(Option.some.inj hz).symm;subst hz);exact h)
 ·subst hy
  obtain rfl:=r2.bool
  cases x with
  | none=>obtain rfl:=r1.none;exact is_ok rfl rfl (by (replace hz:=(Option.some.inj hz).symm;subst hz);exact h)
  | bool b =>
   obtain rfl:=r1.bool
   (replace hz:=(Option.some.inj hz).symm;subst hz)
   refine is_ok rfl ?_ h
   cases b <;> cases c0 <;> rfl
  | int i=>(refine e1a1 r1.int ?_;rintro t rfl);exact is_ok rfl rfl (by (replace hz:=(Option.some.inj hz).symm;subst hz);exact h)
  | str i=>(refine e1a1 r1.str ?_;rintro t rfl);exact is_ok rfl rfl (by (replace hz:=(Option.some.inj hz).symm;subst hz);exact h)
  | list xs=>(refine e2a2 (RdG.zero r1) ?_;rintro a vs rfl _);exact is_ok rfl rfl (by (replace hz:=(Option.some.inj hz).symm;subst hz);exact h)
  | tuple xs=>(refine e2a2 (Rd0.untuple r1) ?_;rintro a vs rfl _);exact is_ok rfl rfl (by (replace hz:=(Option.some.inj hz).symm;subst hz);exact h)
  | dict xs=>(refine e1a1 r1.dict ?_;rintro a rfl);exact is_ok rfl rfl (by (replace hz:=(Option.some.inj hz).symm;subst hz);exact h)
end
noncomputable def plainTest:Expr->Bool
 | .UnaryOp .Not _ _=>false
 | .BoolOp ..=>false
 | .IfExp ..=>false
 | .Compare ..=>false
 | _=>true
theorem isTrue_val {e:Expr} {env:Env} {whole:Sem Value} (h:plainTest e=true):isTrue e env whole=(do let v <-whole;standAt e.pos;holding [v] (truthy v)):=by
 cases e with
 | UnaryOp op x p=>cases op <;> first | rfl | (first | exact nbt h | cases h)
 | _=>first | rfl | (first | exact nbt h | cases h)
theorem starEach_cons {e:Expr} {r:List Expr} {env:Env} (h:notStar e=true):starEach (e::r) env=(false,eval e env)::starEach r env:=by
 cases e <;> first | rfl | (first | exact nbt h | cases h)
theorem behind_notSet {op:CmpOp} {e:Expr} (h:notSet e=true):behindInMarks op e=false:=by
 cases e <;> first | rfl | (first | exact nbt h | cases h)
theorem super_not {o:Expr} {a:Str} {env:Env} (h:notSuper o=true):attributeBase o a env (eval o env)=eval o env:=by
 cases o with
 | Call f as ks p=>cases f <;> first | rfl | (first | exact nbt h | cases h)
 | _=>rfl
theorem set_not {e:Expr} {env:Env} (h:notSet e=true) (x:Value):foldedSetIterable e env x=pure x:=by
 cases e <;> first | rfl | (first | exact nbt h | cases h)
section
variable {c:Cfg}
theorem ts_of_ev {x:X} (hv:EvOK c x) (hp:∀ n sc e,chkX c.fnm c.rk n sc x e=true->plainTest e=true):TsOK c x:=by
 intro n A env Own M E s e d b Q Er X hc ho he hb h
 refine wpAny_isTrue_value ?_ (isTrue_val (hp _ _ _ hc))
 exact hv n A env Own M E s e d _ Er X hc ho he fun v s' st r u_=>tr_ok hb r fun s'' st'=>h s'' (st.trans st')
theorem Cx.units {n A Own env M E s} (X:Cx c n A Own env M E s):A.units+64 < cLine:=by have:=X.room.units;lia
theorem ev_int (i:Int):EvOK c (.int i):=by
 intro n A env Own M E s e d Q Er X hc _ he h
 dsimp only [chkX_q_int] at hc
 (refine e2a1 (inv_int hc) ?_;rintro k p rfl)
 (replace he:=(Option.some.inj he).symm;subst he)
 exact wpAny_Constant_int (h _ _ .toks .mkInt (fun q=>nomatch q))
theorem ev_str (l:List Nat):EvOK c (.str l):=by
 intro n A env Own M E s e d Q Er X hc _ he h
 dsimp only [chkX_q_str] at hc
 (refine e2a1 (inv_str hc) ?_;rintro k p rfl)
 (replace he:=(Option.some.inj he).symm;subst he)
 exact wpAny_mkText (h _ _ .toks .mkStr (fun q=>nomatch q))
theorem ev_bool (b:Bool):EvOK c (.bool b):=by
 intro n A env Own M E s e d Q Er X hc _ he h
 dsimp only [chkX_q_bool] at hc
 (refine e2a1 (inv_bool hc) ?_;rintro k p rfl)
 (replace he:=(Option.some.inj he).symm;subst he)
 exact wpAny_pure (h _ _ (.refl _) .mkBool (fun q=>nomatch q))
theorem ev_none:EvOK c .none:=by
 intro n A env Own M E s e d Q Er X hc _ he h
 dsimp only [chkX_q_none] at hc
 (refine e2a1 (inv_none hc) ?_;rintro k p rfl)
 (replace he:=(Option.some.inj he).symm;subst he)
 exact wpAny_pure (h _ _ (.refl _) .mkNone (fun q=>nomatch q))
set_option tactic.hygienic true in
theorem datOf_some {E:AE} {i:Nat} {d:PyData} (h:datOf E i=some d):E i=some (.dat d):=by
 unfold datOf at h
 split at h
 ·rename_i d' e;rw [e];simp only [Option.some.injEq] at h;rw [h]
 ·exact nso h
theorem ev_var (i:Nat):EvOK c (.var i):=by
 intro n A env Own M E s e d Q Er X hc _ he h
 dsimp only [chkX_q_var] at hc
 (refine e1a3 (inv_var hc) ?_;rintro p rfl ha hp)
 (refine e1a2 X.view.ns ?_;rintro m hm hv)
 (refine e1a2 (hv i _ (datOf_some he) ha) ?_;rintro v hl hr)
 cases hr with
 | dat hr=>exact ev_Lk X.eok hm hl hp (h _ _ (.refl _) hr (fun q=>nomatch q))
theorem glob_kind {sc:Scope} {x:Str} (ha:isGlob sc x=true):sc.names.lookup x=some .globalImplicit:=by
 unfold isGlob at ha
 split at ha <;> simp_all
theorem ev_glob {A:Around} {s:Shared} {env:Env} {x:Str} {p:Pos} {v:Value} {Q Er} (K:EnvOK env) (B:Base c s.heap) (ha:isGlob env.scope x=true) (hd:(x == ("__debug__":Str))=false)
  (hv:c.mg x=some v\/(c.mg x=none/\c.mb x=some v)) (h:Q v s):wpAny (model c.prog c.w) A (eval (.Name x p) env) Q Er s:=by
 refine wpAny_Name ?_ hd
 rw [loadName_read K.kind (glob_kind ha)]
 unfold loadGlobal
 rw [K.glob,K.bui]
 refine wpAny_bind (wpAny_nsGet B.g ?_)
 rcases hv with hv | ⟨h1,hv⟩
 ·rw [hv];exact wpAny_pure h
 ·rw [h1]
  refine wpAny_bind (wpAny_nsGet B.b ?_)
  rw [hv];exact wpAny_pure h
theorem ev_glo (C:CfgOK c) (i:Nat):EvOK c (.glo i):=by
 intro n A env Own M E s e d Q Er X hc _ he h
 dsimp only [chkX_q_glo] at hc
 (refine e1a3 (inv_glo hc) ?_;rintro p rfl ha hp)
 revert he
 refine sbn fun v hv e0z=>?_
 (replace e0z:=(Option.some.inj e0z).symm;subst e0z)
 (refine e1a1 (C.glo i v hv) ?_;rintro t ht)
 unfold plainName at hp
 exact k_bb hp fun hp_0 hp_1=>ev_glob X.eok X.base ha (by simpa using hp_0) (.inl ht) (h _ _ (.refl _) .mkInt (fun q=>nomatch q))
theorem ev_neg (i:Int):EvOK c (.neg i):=by
 intro n A env Own M E s e d Q Er X hc _ he h
 dsimp only [chkX_q_neg] at hc
 (refine e3a1 (inv_neg hc) ?_;rintro k p q rfl)
 (replace he:=(Option.some.inj he).symm;subst he)
 refine wpAny_UnaryOp (wpAny_Constant_int ?_)
 with_reducible refine PyProof.Rows.neg_int ?_
 exact h _ _ (.trans .toks .toks) .mkInt (fun q=>nomatch q)
theorem ev_bin (C:CfgOK c) {op:Bop} {a b:X} (ha:EvOK c a) (hb:EvOK c b):EvOK c (.bin op a b):=by
 intro n A env Own M E s e d Q Er X hc ho he h
 dsimp only [chkX_q_bin] at hc
 (refine e3a3 (inv_bin hc) ?_;rintro l r p rfl h1 h2)
 replace ho:=c_bbdd (okX_q_bin.symm.trans ho)
 revert he
 refine sbn fun x hx=>sbn fun y hy hz=>?_
 refine wpAny_BinOp (ha n A env Own M E s l x _ Er X h1 ho.1.1.1 hx fun v s' st r1 u_=>hb n A env Own M E s' r y _ Er (X.stp C st) h2 ho.1.1.2 hy fun v2 s2 st2 r2 u_=>?_)
 refine bin_ok (X.stp C (st.trans st2)).live ho.1.2 ho.2 hz (r1.keep st2.keep) r2 fun v3 s3 st3 r3 fr=>?_
 refine h v3 s3 ((st.trans st2).trans st3) r3 fun u_ a e=>?_
 have q:=fr a e
 cases hh:s.heap.get? a with
 | none=>rfl
 | some o=>rw [(st.trans st2).keep _ _ hh] at q;exact nsn q
theorem ts_bin (C:CfgOK c) {op:Bop} {a b:X} (hv:EvOK c (.bin op a b)):TsOK c (.bin op a b) :=
 ts_of_ev hv fun n sc e hc=>by
  dsimp only [chkX_q_bin] at hc
  (refine e3a3 (inv_bin hc) ?_;rintro l r p rfl h1 h2)
  rfl
theorem ev_not (C:CfgOK c) {a:X} (ha:EvOK c a):EvOK c (.not a):=by
 intro n A env Own M E s e d Q Er X hc ho he h
 dsimp only [chkX_q_not] at hc
 (refine e2a2 (inv_not hc) ?_;rintro x p rfl h1)
 dsimp only [okX_q_not] at ho
 revert he
 refine sbn fun y hy=>sbn fun b hb e0z=>?_
 (replace e0z:=(Option.some.inj e0z).symm;subst e0z)
 refine wpAny_UnaryOp (ha n A env Own M E s x y _ Er X h1 ho hy fun v s' st r1 u_=>?_)
 with_reducible refine not_of ?_
 exact tr_ok hb r1 fun s2 st2=>h _ _ (st.trans st2) .mkBool (fun q=>nomatch q)
theorem ts_not {a:X} (ha:TsOK c a):TsOK c (.not a):=by
 intro n A env Own M E s e d b Q Er X hc ho he hb h
 dsimp only [chkX_q_not] at hc
 (refine e2a2 (inv_not hc) ?_;rintro x p rfl h1)
 dsimp only [okX_q_not] at ho
 revert he
 refine sbn fun y hy=>sbn fun b' hb' e0z=>?_
 (replace e0z:=(Option.some.inj e0z).symm;subst e0z)
 (replace hb:=(Option.some.inj hb).symm;subst hb)
 exact wpAny_isTrue_Not (ha n A env Own M E s x y b' _ Er X h1 ho hy hb' fun s' st=>h s' st)
theorem ev_cmp1 (C:CfgOK c) {op:Cop} {a b:X} (ha:EvOK c a) (hb:EvOK c b):EvOK c (.cmp1 op a b):=by
 intro n A env Own M E s e d Q Er X hc ho he h
 dsimp only [chkX_q_cmp1] at hc
 (refine e3a4 (inv_cmp1 hc) ?_;rintro l r p rfl h0 h1 h2)
 replace ho:=c_bb (okX_q_cmp1.symm.trans ho)
 revert he
 refine sbn fun x hx=>sbn fun y hy=>sbn fun z hz e0z=>?_
 (replace e0z:=(Option.some.inj e0z).symm;subst e0z)
 refine wpAny_Compare1 (ha n A env Own M E s l x _ Er X h1 ho.1 hx fun v s' st r1 u_=>hb n A env Own M E s' r y _ Er (X.stp C st) h2 ho.2 hy fun v2 s2 st2 r2 u_=>?_) (behind_notSet h0)
 exact cmp_ok X.units hz (r1.keep st2.keep) r2 (h _ _ (st.trans st2) .mkBool (fun q=>nomatch q))
theorem ts_cmp1 (C:CfgOK c) {op:Cop} {a b:X} (ha:EvOK c a) (hb:EvOK c b):TsOK c (.cmp1 op a b):=by
 intro n A env Own M E s e d bb Q Er X hc ho he hbb h
 dsimp only [chkX_q_cmp1] at hc
 (refine e3a4 (inv_cmp1 hc) ?_;rintro l r p rfl h0 h1 h2)
 replace ho:=c_bb (okX_q_cmp1.symm.trans ho)
 revert he
 refine sbn fun x hx=>sbn fun y hy=>sbn fun z hz e0z=>?_
 (replace e0z:=(Option.some.inj e0z).symm;subst e0z)
 (replace hbb:=(Option.some.inj hbb).symm;subst hbb)
 refine wpAny_isTrue_Compare1 (ha n A env Own M E s l x _ Er X h1 ho.1 hx fun v s' st r1 u_=>hb n A env Own M E s' r y _ Er (X.stp C st) h2 ho.2 hy fun v2 s2 st2 r2 u_=>?_) (behind_notSet h0)
 exact cmp_ok X.units hz (r1.keep st2.keep) r2 (wpAny_truthy_bool (h _ (st.trans st2)))
theorem ev_isC (C:CfgOK c) {m:Bool} {a b:X} (ha:EvOK c a) (hb:EvOK c b):EvOK c (.isC m a b):=by
 intro n A env Own M E s e d Q Er X hc ho he h
 simp only [chkX_q_isC,Bool.and_eq_true] at hc
 (refine e3a4 (inv_cmp1 hc.2) ?_;rintro l r p rfl h0 h1 h2)
 replace ho:=c_bb (okX_q_isC.symm.trans ho)
 revert he
 refine sbn fun x hx=>sbn fun y hy=>sbn fun z hz e0z=>?_
 (replace e0z:=(Option.some.inj e0z).symm;subst e0z)
 refine wpAny_Compare1 (ha n A env Own M E s l x _ Er X h1 ho.1 hx fun v s' st r1 u_=>hb n A env Own M E s' r y _ Er (X.stp C st) h2 ho.2 hy fun v2 s2 st2 r2 u_=>?_) (behind_notSet h0)
 exact isC_ok hz (r1.keep st2.keep) r2 (h _ _ (st.trans st2) .mkBool (fun q=>nomatch q))
theorem ts_isC (C:CfgOK c) {m:Bool} {a b:X} (ha:EvOK c a) (hb:EvOK c b):TsOK c (.isC m a b):=by
 intro n A env Own M E s e d bb Q Er X hc ho he hbb h
 simp only [chkX_q_isC,Bool.and_eq_true] at hc
 (refine e3a4 (inv_cmp1 hc.2) ?_;rintro l r p rfl h0 h1 h2)
 replace ho:=c_bb (okX_q_isC.symm.trans ho)
 revert he
 refine sbn fun x hx=>sbn fun y hy=>sbn fun z hz e0z=>?_
 (replace e0z:=(Option.some.inj e0z).symm;subst e0z)
 (replace hbb:=(Option.some.inj hbb).symm;subst hbb)
 refine wpAny_isTrue_Compare1 (ha n A env Own M E s l x _ Er X h1 ho.1 hx fun v s' st r1 u_=>hb n A env Own M E s' r y _ Er (X.stp C st) h2 ho.2 hy fun v2 s2 st2 r2 u_=>?_) (behind_notSet h0)
 exact isC_ok hz (r1.keep st2.keep) r2 (wpAny_truthy_bool (h _ (st.trans st2)))
end
section
variable {c:Cfg}
theorem Fr1.back {s s':Shared} {v:Value} (k:KeepH s.heap s'.heap) (f:Fr1 s' v):Fr1 s v:=fun a e=>by
 have q:=f a e
 cases hh:s.heap.get? a with
 | none=>rfl
 | some o=>rw [k _ _ hh] at q;exact nsn q
theorem lastMarks2 {o1 o2:CmpOp} {r t:Expr} (h:notSet t=true):lastMarks [o1,o2] [r,t]=false:=by
 show behindInMarks o2 t=false
 exact behind_notSet h
theorem ev_cmp2 (C:CfgOK c) {o1 o2:Cop} {a b x:X} (ha:EvOK c a) (hb:EvOK c b) (hx:EvOK c x):EvOK c (.cmp2 o1 o2 a b x):=by
 intro n A env Own M E s e d Q Er X hc ho he h
 dsimp only [chkX_q_cmp2] at hc
 (refine e4a6 (inv_cmp2 hc) ?_;rintro l r t p rfl h0 h0' h1 h2 h3)
 replace ho:=c_bbb (okX_q_cmp2.symm.trans ho)
 revert he
 refine sbn fun y1 hy1=>sbn fun y2 hy2=>sbn fun z hz he=>?_
 refine Compare_chain (ha n A env Own M E s l _ _ Er X h1 ho.1.1 hy1 fun v s' st r1 u_=>chain_link (hb n A env Own M E s' r _ _ Er (X.stp C st) h2 ho.1.2 hy2 fun v2 s2 st2 r2 u_=>?_)) (lastMarks2 h0')
 refine cmp_ok X.units hz (r1.keep st2.keep) r2 (wpAny_truthy_bool ?_)
 induction z with
 | false =>
  (replace he:=(Option.some.inj he).symm;subst he)
  rw [if_neg Bool.false_ne_true]
  exact h _ _ (st.trans st2) .mkBool (fun q=>nomatch q)
 | true =>
  rw [if_pos rfl]
  revert he
  refine sbn fun y3 hy3=>sbn fun z2 hz2 e0z=>?_
  (replace e0z:=(Option.some.inj e0z).symm;subst e0z)
  refine chain_last (hx n A env Own M E s2 t _ _ Er (X.stp C (st.trans st2)) h3 ho.2 hy3 fun v3 s3 st3 r3 u_=>?_)
  exact cmp_ok X.units hz2 (r2.keep st3.keep) r3 (h _ _ ((st.trans st2).trans st3) .mkBool (fun q=>nomatch q))
theorem ts_cmp2 (C:CfgOK c) {o1 o2:Cop} {a b x:X} (ha:EvOK c a) (hb:EvOK c b) (hx:EvOK c x):TsOK c (.cmp2 o1 o2 a b x):=by
 intro n A env Own M E s e d bb Q Er X hc ho he hbb h
 dsimp only [chkX_q_cmp2] at hc
 (refine e4a6 (inv_cmp2 hc) ?_;rintro l r t p rfl h0 h0' h1 h2 h3)
 replace ho:=c_bbb (okX_q_cmp2.symm.trans ho)
 revert he
 refine sbn fun y1 hy1=>sbn fun y2 hy2=>sbn fun z hz he=>?_
 refine PyProof.Rows.isTrue_chain (ha n A env Own M E s l _ _ Er X h1 ho.1.1 hy1 fun v s' st r1 u_=>test_link (hb n A env Own M E s' r _ _ Er (X.stp C st) h2 ho.1.2 hy2 fun v2 s2 st2 r2 u_=>?_)) (lastMarks2 h0')
 refine cmp_ok X.units hz (r1.keep st2.keep) r2 (wpAny_truthy_bool ?_)
 induction z with
 | false =>
  (replace he:=(Option.some.inj he).symm;subst he)
  (replace hbb:=(Option.some.inj hbb).symm;subst hbb)
  rw [if_neg Bool.false_ne_true]
  exact h _ (st.trans st2)
 | true =>
  rw [if_pos rfl]
  revert he
  refine sbn fun y3 hy3=>sbn fun z2 hz2 e0z=>?_
  (replace e0z:=(Option.some.inj e0z).symm;subst e0z)
  (replace hbb:=(Option.some.inj hbb).symm;subst hbb)
  refine test_last (hx n A env Own M E s2 t _ _ Er (X.stp C (st.trans st2)) h3 ho.2 hy3 fun v3 s3 st3 r3 u_=>?_)
  exact cmp_ok X.units hz2 (r2.keep st3.keep) r3 (wpAny_truthy_bool (h _ ((st.trans st2).trans st3)))
theorem tyName_eq {t:Nat} (h:t<=2):∃ x∈(["range","list","enumerate","type","int","str"]:List String),tyName t=Str.ofString x/\(x="int"/\t=0\/x="str"/\t=1\/x="list"/\t=2):=by
 match t,h with
 | 0,_=>exact ⟨"int",by decide,rfl,.inl ⟨rfl,rfl⟩⟩
 | 1,_=>exact ⟨"str",by decide,rfl,.inr (.inl ⟨rfl,rfl⟩)⟩
 | 2,_=>exact ⟨"list",by decide,rfl,.inr (.inr ⟨rfl,rfl⟩)⟩
theorem type_at {h:Heap} {Own:Addr->Prop} {k:Nat} {v:Value} {d:PyData} {t:Nat} {s:Shared} (ht:tyOf d=some t) (r:RdG Own k s.heap v d) :
  ∃ x,s.TypeIs v x/\(Value.type x == Value.type "builtin_function_or_method")=false/\(x="int"/\t=0\/x="str"/\t=1\/x="list"/\t=2):=by
 have r:=r.any
 cases d with
 | int i=>(refine e1a1 r.int ?_;rintro u rfl);(replace ht:=(Option.some.inj ht).symm;subst ht);exact ⟨"int",typeIs_int _ _ _,by decide,.inl ⟨rfl,rfl⟩⟩
 | str i=>(refine e1a1 r.str ?_;rintro u rfl);(replace ht:=(Option.some.inj ht).symm;subst ht);exact ⟨"str",typeIs_str _ _ _,by decide,.inr (.inl ⟨rfl,rfl⟩)⟩
 | list xs=>(refine e2a3 (RdG.zero r) ?_;rintro a vs rfl hl _);(replace ht:=(Option.some.inj ht).symm;subst ht);exact ⟨"list",hl.isList.typeIs,by decide,.inr (.inr ⟨rfl,rfl⟩)⟩
 | _=>exact nso ht
theorem glob_ty (C:CfgOK c) {x:String} (hx:x∈(["range","list","enumerate","type","int","str"]:List String)) {A:Around} {s:Shared} {env:Env} {p:Pos} {Q Er} (K:EnvOK env) (B:Base c s.heap) (ha:isGlob env.scope (Str.ofString x)=true)
  (h:Q (.type x) s):wpAny (model c.prog c.w) A (eval (.Name (Str.ofString x) p) env) Q Er s:=by
 refine ev_glob K B ha ?_ (.inr (C.ty x hx)) h
 revert x
 intro x hx _ _
 simp only [List.mem_cons,List.not_mem_nil,or_false] at hx
 rcases hx with rfl | rfl | rfl | rfl | rfl | rfl <;> decide
theorem glob_bi (C:CfgOK c) {x:String} (hx:x∈(["len","sum","min","max","sorted"]:List String)) {A:Around} {s:Shared} {env:Env} {p:Pos} {Q Er} (K:EnvOK env) (B:Base c s.heap) (ha:isGlob env.scope (Str.ofString x)=true)
  (h:Q (.builtin x) s):wpAny (model c.prog c.w) A (eval (.Name (Str.ofString x) p) env) Q Er s:=by
 refine ev_glob K B ha ?_ (.inr (C.bi x hx)) h
 revert x
 intro x hx _ _
 simp only [List.mem_cons,List.not_mem_nil,or_false] at hx
 rcases hx with rfl | rfl | rfl | rfl | rfl <;> decide
theorem trees1 {e:Expr} {pos:Pos} {env:Env} (h:notStar e=true):backTo pos (starEach [e] env)=[(false,eval e env)]:=by
 rw [starEach_cons h];rfl
theorem trees2 {e f:Expr} {pos:Pos} {env:Env} (h:notStar e=true) (h':notStar f=true):backTo pos (starEach [e,f] env)=[(false,eval e env),(false,eval f env)]:=by
 rw [starEach_cons h,starEach_cons h'];rfl
theorem trees3 {e f g:Expr} {pos:Pos} {env:Env} (h:notStar e=true) (h':notStar f=true) (h'':notStar g=true):backTo pos (starEach [e,f,g] env)=[(false,eval e env),(false,eval f env),(false,eval g env)]:=by
 rw [starEach_cons h,starEach_cons h',starEach_cons h''];rfl
set_option tactic.hygienic true in
theorem isT_core (C:CfgOK c) {a:X} {t:Nat} (ha:EvOK c a) {n A env Own M E s x} {y:PyData} {k:Nat} {p1 p2 p3:Pos} {Er:Value->Shared->Prop}
  (X:Cx c n A Own env M E s) (h0:isGlob env.scope "type"=true) (h1:notStar x=true) (h2:chkX c.fnm c.rk n env.scope a x=true) (h4:isGlob env.scope (tyName t)=true) (h5:t<=2) (ho:okX M a=true)
  (hy:ev c.G c.T a E=some y) (hk:tyOf y=some k) {Q2:Value->Value->Shared->Prop}
  (h:∀ s',Stp s s'->∀ T1 T2,(T1 == T2)=Nat.beq k t->PySem.plainIs T1 T2=true->Q2 T1 T2 s') :
  wpAny (model c.prog c.w) A (eval (.Call (.Name "type" p1) [x] [] p2) env) (fun v s₁=>wpAny (model c.prog c.w) A (eval (.Name (tyName t) p3) env) (fun v2 s₂=>Q2 v v2 s₂) Er s₁) Er s:=by
 refine wpAny_Call_NameR (glob_ty C (x:="type") (by decide) X.eok X.base h0 ?_)
 rw [trees1 h1]
 refine PySem.callWith_type1 (ha n A env Own M E s x y _ Er X h2 ho hy fun v s' st r _=>?_)
 (refine e1a3 (type_at (h:=s'.heap) hk r) ?_;rintro T hT hnb hcase)
 refine call_type_of hT hnb ?_
 (refine e1a3 (tyName_eq h5) ?_;rintro z hz he hcase2)
 rw [he] at h4 ⊢
 refine glob_ty C hz X.eok (X.base.keep st.keep) h4 (h _ st _ _ ?_ rfl)
 rcases hcase with ⟨rfl,rfl⟩ | ⟨rfl,rfl⟩ | ⟨rfl,rfl⟩ <;> rcases hcase2 with ⟨rfl,h9⟩ | ⟨rfl,h9⟩ | ⟨rfl,h9⟩ <;> subst h9 <;> decide
theorem ev_isT (C:CfgOK c) {m:Bool} {a:X} {t:Nat} (ha:EvOK c a):EvOK c (.isT m a t):=by
 intro n A env Own M E s e d Q Er X hc ho he h
 dsimp only [chkX_q_isT] at hc
 (refine e5a6 (inv_isT hc) ?_;rintro x p1 p2 p3 p4 rfl h0 h1 h2 h4 h5)
 dsimp only [okX_q_isT] at ho
 revert he
 refine sbn fun y hy=>sbn fun k hk e0z=>?_
 (replace e0z:=(Option.some.inj e0z).symm;subst e0z)
 refine wpAny_Compare1 (isT_core C ha X h0 h1 h2 h4 h5 ho hy hk fun s' st T1 T2 e1 e2=>?_) rfl
 exact is_ok e2 e1 (h _ _ st .mkBool (fun q=>nomatch q))
theorem ts_isT (C:CfgOK c) {m:Bool} {a:X} {t:Nat} (ha:EvOK c a):TsOK c (.isT m a t):=by
 intro n A env Own M E s e d bb Q Er X hc ho he hbb h
 dsimp only [chkX_q_isT] at hc
 (refine e5a6 (inv_isT hc) ?_;rintro x p1 p2 p3 p4 rfl h0 h1 h2 h4 h5)
 dsimp only [okX_q_isT] at ho
 revert he
 refine sbn fun y hy=>sbn fun k hk e0z=>?_
 (replace e0z:=(Option.some.inj e0z).symm;subst e0z)
 (replace hbb:=(Option.some.inj hbb).symm;subst hbb)
 refine wpAny_isTrue_Compare1 (isT_core C ha X h0 h1 h2 h4 h5 ho hy hk fun s' st T1 T2 e1 e2=>?_) rfl
 exact is_ok e2 e1 (wpAny_truthy_bool (h _ st))
end
section
variable {c:Cfg}
theorem evs_nil:EvsOK c .nil:=by
 intro n A env Own M E s es ds pos Q Er X hc ho he h
 dsimp only [chkXs_q_nil] at hc
 obtain rfl:=inv_nil hc
 (replace he:=(Option.some.inj he).symm;subst he)
 exact Calls.spliced_nil (h [] s (.refl _) .nil rfl)
theorem evs_cons (C:CfgOK c) {x:X} {xs:Xs} (hx:EvOK c x) (hxs:EvsOK c xs):EvsOK c (.cons x xs):=by
 intro n A env Own M E s es ds pos Q Er X hc ho he h
 dsimp only [chkXs_q_cons] at hc
 (refine e2a4 (inv_cons hc) ?_;rintro z r rfl h0 h1 h2)
 replace ho:=c_bdb (okXs_q_cons.symm.trans ho)
 revert he
 refine sbn fun d hd=>sbn fun ds' hds e0z=>?_
 (replace e0z:=(Option.some.inj e0z).symm;subst e0z)
 rw [starEach_cons h0]
 show wpAny _ _ (spliced ((false,eval z env)::backTo pos (starEach r env))) _ _ _
 refine Calls.spliced_cons (hx n A env Own M E s z d _ Er X h1 ho.1.1 hd fun v s' st r1 u_=>?_)
 refine hxs n A env Own M E s' r ds' pos _ Er (X.stp C st) h2 ho.2 hds fun vs s2 st2 r2 e2=>?_
 rw [ho.1.2] at r1
 exact h _ _ (st.trans st2) (.cons (Rd0.keep st2.keep r1) r2) (by simp [e2])
theorem sz_lim {n:Nat} (h:n<=1000000):n<=sizeLine:=by rw [sizeLine_eq];lia
theorem evs_length {G T}:∀ {xs:Xs} {E:AE} {ds:List PyData},evs G T xs E=some ds->ds.length=lenXs xs
 | .nil,E,ds,h=>by (replace h:=(Option.some.inj h).symm;subst h);rfl
 | .cons x xs,E,ds,h=>by
  revert h
  refine sbn fun d hd=>sbn fun ds' hds e0z=>?_
  (replace e0z:=(Option.some.inj e0z).symm;subst e0z)
  simp [lenXs,evs_length hds]
theorem ev_lst (C:CfgOK c) {xs:Xs} (hxs:EvsOK c xs):EvOK c (.lst xs):=by
 intro n A env Own M E s e d Q Er X hc ho he h
 simp only [chkX_q_lst,Bool.and_eq_true,decide_eq_true_eq] at hc
 obtain ⟨hn,hc⟩:=hc
 (refine e2a2 (inv_lst hc) ?_;rintro es p rfl h1)
 dsimp only [okX_q_lst] at ho
 revert he
 refine sbn fun ds hds e0z=>?_
 (replace e0z:=(Option.some.inj e0z).symm;subst e0z)
 refine wpAny_List_spliced (hxs n A env Own M E s es ds p _ Er X h1 ho hds fun vs s' st r e=>?_)
 have el:=r.length
 rw [evs_length hds] at el
 refine ⟨sz_lim (by lia),h _ _ (st.trans .push) (new_list (X.stp C st).live r) fun u_=>fr_at st.keep⟩
theorem ev_tup (C:CfgOK c) {xs:Xs} (hxs:EvsOK c xs):EvOK c (.tup xs):=by
 intro n A env Own M E s e d Q Er X hc ho he h
 simp only [chkX_q_tup,Bool.and_eq_true,decide_eq_true_eq] at hc
 obtain ⟨hn,hc⟩:=hc
 (refine e3a2 (inv_tup hc) ?_;rintro es k p rfl h1)
 dsimp only [okX_q_tup] at ho
 revert he
 refine sbn fun ds hds e0z=>?_
 (replace e0z:=(Option.some.inj e0z).symm;subst e0z)
 refine wpAny_Tuple_spliced (hxs n A env Own M E s es ds p _ Er X h1 ho hds fun vs s' st r e=>?_)
 have el:=r.length
 rw [evs_length hds] at el
 refine ⟨sz_lim (by lia),h _ _ (st.trans .push) (new_tuple r) fun q=>nomatch q⟩
theorem ts_lst {xs:Xs} (hv:EvOK c (.lst xs)):TsOK c (.lst xs) :=
 ts_of_ev hv fun n sc e hc=>by
  simp only [chkX_q_lst,Bool.and_eq_true] at hc
  (refine e2a2 (inv_lst hc.2) ?_;rintro es p rfl h1)
  rfl
theorem ts_tup {xs:Xs} (hv:EvOK c (.tup xs)):TsOK c (.tup xs) :=
 ts_of_ev hv fun n sc e hc=>by
  simp only [chkX_q_tup,Bool.and_eq_true] at hc
  (refine e3a2 (inv_tup hc.2) ?_;rintro es k p rfl h1)
  rfl
noncomputable def BoOK (c:Cfg) (op:BoolOp) (f:Xs->AE->Option PyData) (xs:Xs):Prop :=
 ∀ (n:Nat) (A:Around) (env:Env) (Own:Addr->Prop) (M:Nat->Nat) (E:AE) (s:Shared) (es:List Expr) (d:PyData) (pos:Pos) (Q:Value->Shared->Prop) (Er:Value->Shared->Prop),
  Cx c n A Own env M E s->chkXs c.fnm c.rk n env.scope xs es=true->okXs M xs=true->f xs E=some d ->
  (∀ v s',Stp s s'->Rd0 Own s'.heap v d->Q v s')->wpAny (model c.prog c.w) A (boolOp pos op (evalEach es env)) Q Er s
noncomputable def BtOK (c:Cfg) (op:BoolOp) (f:Xs->AE->Option PyData) (xs:Xs):Prop :=
 ∀ (n:Nat) (A:Around) (env:Env) (Own:Addr->Prop) (M:Nat->Nat) (E:AE) (s:Shared) (es:List Expr) (d:PyData) (b:Bool) (Q:Bool->Shared->Prop) (Er:Value->Shared->Prop),
  Cx c n A Own env M E s->chkXs c.fnm c.rk n env.scope xs es=true->okXs M xs=true->f xs E=some d->tr d=some b ->
  (∀ s',Stp s s'->Q b s')->wpAny (model c.prog c.w) A (allTrue op es env) Q Er s
theorem boolOp_cons {M:Model} {A:Around} {pos:Pos} {op:BoolOp} {x y:Sem Value} {r:List (Sem Value)} {Q Er} {s:Shared}
  (h:wpAny M A x (fun v s₁=>wpAny M A (truthy v) (fun t s₂=>match op,t with | .And,false | .Or,true=>Q v s₂ | _,_=>wpAny M A (boolOp pos op (y::r)) Q Er s₂) Er s₁) Er s) :
  wpAny M A (boolOp pos op (x::y::r)) Q Er s:=by
 show wpAny M A (do
  let v <-x
  standAt pos
  let t <-holding [v] (truthy v)
  match op,t with
  | .And,false | .Or,true=>pure v
  | _,_=>boolOp pos op (y::r)) Q Er s
 refine wpAny_bind (wpAny_mono h (fun v s₁ h₁=>wpAny_bind (wpAny_standAt (wpAny_bind (wpAny_holding (wpAny_mono h₁ (fun t s₂ h₂=>?_) fun u_ u_ e=>e))))) fun u_ u_ e=>e)
 cases op <;> cases t <;> first | exact wpAny_pure h₂ | exact h₂
theorem bo_and_cons (C:CfgOK c) {x:X} {xs:Xs} (hx:EvOK c x) (hxs:BoOK c .And (evAnd c.G c.T) xs):BoOK c .And (evAnd c.G c.T) (.cons x xs):=by
 intro n A env Own M E s es d pos Q Er X hc ho he h
 dsimp only [chkXs_q_cons] at hc
 (refine e2a4 (inv_cons hc) ?_;rintro z r rfl h0 h1 h2)
 replace ho:=c_bdb (okXs_q_cons.symm.trans ho)
 cases xs with
 | nil =>
  dsimp only [chkXs_q_nil] at h2
  obtain rfl:=inv_nil h2
  refine hx n A env Own M E s z d _ Er X h1 ho.1.1 he fun v s' st r1 u_=>?_
  rw [ho.1.2] at r1
  exact h v s' st r1
 | cons y ys =>
  have h2':=h2
  dsimp only [chkXs_q_cons] at h2
  (refine e2a2 (inv_cons h2) ?_;rintro z2 r2 rfl -)
  revert he
  refine sbn fun d1 hd1=>sbn fun b hb he=>?_
  refine boolOp_cons (hx n A env Own M E s z d1 _ Er X h1 ho.1.1 hd1 fun v s' st r1 u_=>tr_ok hb r1 fun s2 st2=>?_)
  rw [ho.1.2] at r1
  induction b with
  | false =>
   (replace he:=(Option.some.inj he).symm;subst he)
   exact h v s2 (st.trans st2) (Rd0.keep st2.keep r1)
  | true=>exact hxs n A env Own M E s2 _ d pos _ Er (X.stp C (st.trans st2)) h2' ho.2 (by simpa only [evAnd] using he) fun v3 s3 st3 r3=>h v3 s3 ((st.trans st2).trans st3) r3
theorem bo_or_cons (C:CfgOK c) {x:X} {xs:Xs} (hx:EvOK c x) (hxs:BoOK c .Or (evOr c.G c.T) xs):BoOK c .Or (evOr c.G c.T) (.cons x xs):=by
 intro n A env Own M E s es d pos Q Er X hc ho he h
 dsimp only [chkXs_q_cons] at hc
 (refine e2a4 (inv_cons hc) ?_;rintro z r rfl h0 h1 h2)
 replace ho:=c_bdb (okXs_q_cons.symm.trans ho)
 cases xs with
 | nil =>
  dsimp only [chkXs_q_nil] at h2
  obtain rfl:=inv_nil h2
  refine hx n A env Own M E s z d _ Er X h1 ho.1.1 he fun v s' st r1 u_=>?_
  rw [ho.1.2] at r1
  exact h v s' st r1
 | cons y ys =>
  have h2':=h2
  dsimp only [chkXs_q_cons] at h2
  (refine e2a2 (inv_cons h2) ?_;rintro z2 r2 rfl -)
  revert he
  refine sbn fun d1 hd1=>sbn fun b hb he=>?_
  refine boolOp_cons (hx n A env Own M E s z d1 _ Er X h1 ho.1.1 hd1 fun v s' st r1 u_=>tr_ok hb r1 fun s2 st2=>?_)
  rw [ho.1.2] at r1
  induction b with
  | true =>
   (replace he:=(Option.some.inj he).symm;subst he)
   exact h v s2 (st.trans st2) (Rd0.keep st2.keep r1)
  | false=>exact hxs n A env Own M E s2 _ d pos _ Er (X.stp C (st.trans st2)) h2' ho.2 (by simpa only [evOr] using he) fun v3 s3 st3 r3=>h v3 s3 ((st.trans st2).trans st3) r3
theorem bo_and_nil:BoOK c .And (evAnd c.G c.T) .nil:=by
 intro n A env Own M E s es d pos Q Er X hc ho he h;exact nso he
theorem bo_or_nil:BoOK c .Or (evOr c.G c.T) .nil:=by
 intro n A env Own M E s es d pos Q Er X hc ho he h;exact nso he
theorem bt_and_nil:BtOK c .And (evAnd c.G c.T) .nil:=by
 intro n A env Own M E s es d b Q Er X hc ho he hb h;exact nso he
theorem bt_or_nil:BtOK c .Or (evOr c.G c.T) .nil:=by
 intro n A env Own M E s es d b Q Er X hc ho he hb h;exact nso he
theorem bt_and_cons (C:CfgOK c) {x:X} {xs:Xs} (hx:TsOK c x) (hxs:BtOK c .And (evAnd c.G c.T) xs):BtOK c .And (evAnd c.G c.T) (.cons x xs):=by
 intro n A env Own M E s es d bb Q Er X hc ho he hbb h
 dsimp only [chkXs_q_cons] at hc
 (refine e2a4 (inv_cons hc) ?_;rintro z r rfl h0 h1 h2)
 replace ho:=c_bdb (okXs_q_cons.symm.trans ho)
 cases xs with
 | nil =>
  dsimp only [chkXs_q_nil] at h2
  obtain rfl:=inv_nil h2
  refine wpAny_allTrue_And_cons (hx n A env Own M E s z d bb _ Er X h1 ho.1.1 he hbb fun s' st=>?_)
  cases bb
  ·exact h s' st
  ·exact wpAny_allTrue_And_nil (h s' st)
 | cons y ys =>
  revert he
  refine sbn fun d1 hd1=>sbn fun b hb he=>?_
  refine wpAny_allTrue_And_cons (hx n A env Own M E s z d1 b _ Er X h1 ho.1.1 hd1 hb fun s' st=>?_)
  induction b with
  | false =>
   (replace he:=(Option.some.inj he).symm;subst he)
   rw [hb] at hbb;(replace hbb:=(Option.some.inj hbb).symm;subst hbb)
   exact h s' st
  | true=>exact hxs n A env Own M E s' _ d bb _ Er (X.stp C st) h2 ho.2 (by simpa only [evAnd] using he) hbb fun s3 st3=>h s3 (st.trans st3)
theorem wpAny_allTrue_Or_cons' {M:Model} {A:Around} {env:Env} {x:Expr} {rest:List Expr} {Q:Bool->Shared->Prop} {Er} {s:Shared}
  (h:wpAny M A (PySem.isTrue x env (eval x env)) (fun b s₁=>if b then Q true s₁ else wpAny M A (allTrue .Or rest env) Q Er s₁) Er s):wpAny M A (allTrue .Or (x::rest) env) Q Er s:=by
 show wpAny M A (do match BoolOp.Or,<-PySem.isTrue x env (eval x env) with | .And,false=>pure false | .Or,true=>pure true | _,_=>allTrue .Or rest env) Q Er s
 refine wpAny_bind (wpAny_mono h (fun b s₁ h₁=>?_) fun u_ u_ x=>x)
 cases b
 ·exact h₁
 ·exact wpAny_pure h₁
theorem bt_or_cons (C:CfgOK c) {x:X} {xs:Xs} (hx:TsOK c x) (hxs:BtOK c .Or (evOr c.G c.T) xs):BtOK c .Or (evOr c.G c.T) (.cons x xs):=by
 intro n A env Own M E s es d bb Q Er X hc ho he hbb h
 dsimp only [chkXs_q_cons] at hc
 (refine e2a4 (inv_cons hc) ?_;rintro z r rfl h0 h1 h2)
 replace ho:=c_bdb (okXs_q_cons.symm.trans ho)
 cases xs with
 | nil =>
  dsimp only [chkXs_q_nil] at h2
  obtain rfl:=inv_nil h2
  refine wpAny_allTrue_Or_cons' (hx n A env Own M E s z d bb _ Er X h1 ho.1.1 he hbb fun s' st=>?_)
  cases bb
  ·exact wpAny_allTrue_Or_nil (h s' st)
  ·exact h s' st
 | cons y ys =>
  revert he
  refine sbn fun d1 hd1=>sbn fun b hb he=>?_
  refine wpAny_allTrue_Or_cons' (hx n A env Own M E s z d1 b _ Er X h1 ho.1.1 hd1 hb fun s' st=>?_)
  induction b with
  | true =>
   (replace he:=(Option.some.inj he).symm;subst he)
   rw [hb] at hbb;(replace hbb:=(Option.some.inj hbb).symm;subst hbb)
   exact h s' st
  | false=>exact hxs n A env Own M E s' _ d bb _ Er (X.stp C st) h2 ho.2 (by simpa only [evOr] using he) hbb fun s3 st3=>h s3 (st.trans st3)
theorem ev_and {xs:Xs} (hx:BoOK c .And (evAnd c.G c.T) xs):EvOK c (.and xs):=by
 intro n A env Own M E s e d Q Er X hc ho he h
 dsimp only [chkX_q_and] at hc
 (refine e2a2 (inv_boo hc) ?_;rintro es p rfl h1)
 dsimp only [okX_q_and] at ho
 exact hx n A env Own M E s es d p _ Er X h1 ho he fun v s' st r=>h v s' st r (fun q=>nomatch q)
theorem ev_or {xs:Xs} (hx:BoOK c .Or (evOr c.G c.T) xs):EvOK c (.or xs):=by
 intro n A env Own M E s e d Q Er X hc ho he h
 dsimp only [chkX_q_or] at hc
 (refine e2a2 (inv_boo hc) ?_;rintro es p rfl h1)
 dsimp only [okX_q_or] at ho
 exact hx n A env Own M E s es d p _ Er X h1 ho he fun v s' st r=>h v s' st r (fun q=>nomatch q)
theorem ts_and {xs:Xs} (hx:BtOK c .And (evAnd c.G c.T) xs):TsOK c (.and xs):=by
 intro n A env Own M E s e d b Q Er X hc ho he hb h
 dsimp only [chkX_q_and] at hc
 (refine e2a2 (inv_boo hc) ?_;rintro es p rfl h1)
 dsimp only [okX_q_and] at ho
 exact wpAny_isTrue_BoolOp (hx n A env Own M E s es d b _ Er X h1 ho he hb h)
theorem ts_or {xs:Xs} (hx:BtOK c .Or (evOr c.G c.T) xs):TsOK c (.or xs):=by
 intro n A env Own M E s e d b Q Er X hc ho he hb h
 dsimp only [chkX_q_or] at hc
 (refine e2a2 (inv_boo hc) ?_;rintro es p rfl h1)
 dsimp only [okX_q_or] at ho
 exact wpAny_isTrue_BoolOp (hx n A env Own M E s es d b _ Er X h1 ho he hb h)
theorem ev_ite (C:CfgOK c) {t a b:X} (ht:TsOK c t) (ha:EvOK c a) (hb:EvOK c b):EvOK c (.ite t a b):=by
 intro n A env Own M E s e d Q Er X hc ho he h
 dsimp only [chkX_q_ite] at hc
 (refine e4a4 (inv_ite hc) ?_;rintro x y z p rfl h1 h2 h3)
 replace ho:=c_bbbdd (okX_q_ite.symm.trans ho)
 revert he
 refine sbn fun d1 hd1=>sbn fun q hq he=>?_
 refine wpAny_IfExp (ht n A env Own M E s x d1 q _ Er X h1 ho.1.1.1.1 hd1 hq fun s' st=>?_)
 induction q with
 | true =>
  refine ha n A env Own M E s' y d _ Er (X.stp C st) h2 ho.1.1.1.2 he fun v s2 st2 r u_=>?_
  rw [ho.1.2] at r
  exact h v s2 (st.trans st2) r (fun q=>nomatch q)
 | false =>
  refine hb n A env Own M E s' z d _ Er (X.stp C st) h3 ho.1.1.2 he fun v s2 st2 r u_=>?_
  rw [ho.2] at r
  exact h v s2 (st.trans st2) r (fun q=>nomatch q)
theorem ts_ite (C:CfgOK c) {t a b:X} (ht:TsOK c t) (ha:TsOK c a) (hb:TsOK c b):TsOK c (.ite t a b):=by
 intro n A env Own M E s e d bb Q Er X hc ho he hbb h
 dsimp only [chkX_q_ite] at hc
 (refine e4a4 (inv_ite hc) ?_;rintro x y z p rfl h1 h2 h3)
 replace ho:=c_bbbdd (okX_q_ite.symm.trans ho)
 revert he
 refine sbn fun d1 hd1=>sbn fun q hq he=>?_
 show wpAny _ _ (do if <-PySem.isTrue x env (eval x env) then PySem.isTrue y env (eval y env) else PySem.isTrue z env (eval z env)) _ _ _
 refine wpAny_bind (ht n A env Own M E s x d1 q _ _ X h1 ho.1.1.1.1 hd1 hq fun s' st=>?_)
 induction q with
 | true=>exact ha n A env Own M E s' y d bb _ Er (X.stp C st) h2 ho.1.1.1.2 he hbb fun s2 st2=>h s2 (st.trans st2)
 | false=>exact hb n A env Own M E s' z d bb _ Er (X.stp C st) h3 ho.1.1.2 he hbb fun s2 st2=>h s2 (st.trans st2)
end
theorem place_eq (i:Int) (n:Nat):place i n=seqIndex? i n:=by
 unfold place seqIndex?
 by_cases h:0<=i
 ·have h':¬ i < 0:=by lia
  simp only [h,h',if_true,if_false]
  by_cases h2:i < (n:Int)
  ·simp [h2]
  ·simp [h2]
 ·have h':i < 0:=by lia
  simp only [h,h',if_true,if_false]
  by_cases h2:0<=i+(n:Int)
  ·have h3:i+(n:Int) < n:=by lia
   simp [h2,h3]
  ·simp [h2]
theorem place_some {i:Int} {n k:Nat} (h:place i n=some k):(0<=i/\i < n/\k=i.toNat)\/(i < 0/\-(n:Int)<=i/\k=(i+n).toNat):=by
 unfold place at h
 split at h
 ·revert h
  refine ifs fun z0c h=>?_
  (replace h:=(Option.some.inj h).symm;subst h);exact .inl ⟨by assumption,by assumption,rfl⟩
 ·revert h
  refine ifs fun z0c h=>?_
  (replace h:=(Option.some.inj h).symm;subst h);exact .inr ⟨by lia,by lia,rfl⟩
theorem subscripted_idx {j:Expr} (h:notSlice j=true) (o i:Value):subscripted j false o i=operate [o,i] (getItem o i):=by
 cases j <;> first | rfl | (first | exact nbt h | cases h)
section
variable {prog:Program} {w:World} {A:Around} {Er:Value->Shared->Prop} {s:Shared} {Own:Addr->Prop}
set_option tactic.hygienic true in
theorem idx_ok {k1 k2:Nat} {x y z:PyData} {v1 v2:Value} {value slice:Expr} {Q:Value->Shared->Prop} (hn:notSlice slice=true) (hz:evIdx x y=some z)
  (r1:RdG Own k1 s.heap v1 x) (r2:RdG Own k2 s.heap v2 y) (h:∀ v s',Stp s s'->RdG Own (k1 - 1) s'.heap v z->Q v s'):wpAny (model prog w) A (subscriptTail value slice v1 v2) Q Er s:=by
 unfold evIdx at hz
 revert hz
 refine oI_inv (fun i hy=>?_) nso
 subst hy
 refine oL_inv (fun xs hx0 hz=>?_) (oT_inv (fun xs hx0 hz=>?_) (oS_inv (fun u hx0 hz=>?_) nso))
 ·subst hx0
  (refine e2a3 r1.items ?_;rintro a vs rfl hl hx)
  (refine e1a1 r2.any.int ?_;rintro t rfl)
  revert hz
  refine ifs fun hle hz=>?_
  have hle:xs.length<=1000000:=hle
  revert hz
  refine sbn fun k hk hz=>?_
  (refine e1a2 (hx.get hz) ?_;rintro v hv r)
  have hv:vs[k]?=some v:=by simpa using hv
  have e1:=hx.length
  rw [Array.length_toList] at e1
  refine tail_any hl.isList.typeIs slot_list_getitem.lookup ?_ (subscripted_idx hn _ _)
  rcases place_some hk with ⟨h0,h1,rfl⟩ | ⟨h0,h1,rfl⟩
  ·exact wpAny_getItem_list hl.isList h0 (by lia) hv (h _ _ (.refl _) r)
  ·exact wpAny_getItem_list_neg hl.isList h0 (by lia) (by lia) (by rw [e1];exact hv) (h _ _ (.refl _) r)
 ·subst hx0
  have r1':=r1.nolist (fun _ h=>by cases h)
  (refine e2a3 (Rd0.untuple r1') ?_;rintro a vs rfl hl hx)
  (refine e1a1 r2.any.int ?_;rintro t rfl)
  revert hz
  refine ifs fun hle hz=>?_
  have hle:xs.length<=1000000:=hle
  revert hz
  refine sbn fun k hk hz=>?_
  (refine e1a2 (hx.get hz) ?_;rintro v hv r)
  have hv:vs[k]?=some v:=by simpa using hv
  have e1:=hx.length
  rw [Array.length_toList] at e1
  have e2:=place_some hk
  have hT:IsTup s.heap a vs:=hl
  refine tail_any hT.typeIs slot_tuple_getitem.lookup ?_ (subscripted_idx hn _ _)
  refine getItem_tuple hT (by grind) (by grind) (by rw [<-place_eq,e1];exact hk) hv (h _ _ (.refl _) ?_)
  cases k1 with
  | zero=>exact r
  | succ k1=>(refine e3a3 r1 ?_;try clear r1;rintro _ _ _ _ e _);cases e
 ·subst hx0
  have r1':=r1.nolist (fun _ h=>by cases h)
  (refine e1a1 r1'.str ?_;rintro t rfl)
  (refine e1a1 r2.any.int ?_;rintro tu rfl)
  revert hz
  refine ifs fun hle hz=>?_
  have hle:u.cps.toList.length<=1000000:=hle
  simp only [Option.bind_eq_some_iff,Option.map_eq_some_iff] at hz
  (refine e1a2 hz ?_;try clear hz;rintro k hk hz_;obtain ⟨ch,hch,rfl⟩:=hz_)
  have e2:=place_some hk
  have e3:(sl u).length=u.length:=by simp [sl,Str.length]
  have e4:u.length<=1000000:=by rw [<-e3];exact hle
  refine tail_any (typeIs_str _ _ _) F.slot_str_getitem.lookup ?_ (subscripted_idx hn _ _)
  refine P.getItem_str (c:=ch) (Bool.or_eq_false_iff.mpr ⟨decide_eq_false (by grind),decide_eq_false (by grind)⟩) ?_ (h _ _ .toks ?_)
  ·rw [<-place_eq,<-e3,hk]
   simpa [sl] using hch
  ·cases k1 with
   | zero=>exact Rd0.mkStr
   | succ k1=>(refine e3a3 r1 ?_;try clear r1;rintro _ _ _ _ e _);cases e
end
section
variable {c:Cfg}
theorem ev_idx (C:CfgOK c) {a i:X} (ha:EvOK c a) (hi:EvOK c i):EvOK c (.idx a i):=by
 intro n A env Own M E s e d Q Er X hc ho he h
 dsimp only [chkX_q_idx] at hc
 (refine e3a4 (inv_idx hc) ?_;rintro o j p rfl h0 h1 h2)
 replace ho:=c_bb (okX_q_idx.symm.trans ho)
 revert he
 refine sbn fun x hx=>sbn fun y hy hz=>?_
 refine PyProof.Rows.Subscript_ (ha n A env Own M E s o x _ Er X h1 ho.1 hx fun v s' st r1 u_=>hi n A env Own M E s' j y _ Er (X.stp C st) h2 ho.2 hy fun v2 s2 st2 r2 u_=>?_)
 exact idx_ok h0 hz (r1.keep st2.keep) r2 fun v3 s3 st3 r3=>h v3 s3 ((st.trans st2).trans st3) r3 (fun q=>nomatch q)
theorem ts_idx {a i:X} (hv:EvOK c (.idx a i)):TsOK c (.idx a i) :=
 ts_of_ev hv fun n sc e hc=>by
  dsimp only [chkX_q_idx] at hc
  (refine e3a2 (inv_idx hc) ?_;rintro o j p rfl -)
  rfl
end
theorem min_cast (k n:Nat):min (k:Int) (n:Int)=((min k n:Nat):Int):=(Nat.le_total k n).elim (fun h=>(Int.min_eq_left (Int.ofNat_le.mpr h)).trans (congrArg Int.ofNat (Nat.min_eq_left h).symm)) fun h=>(Int.min_eq_right (Int.ofNat_le.mpr h)).trans (congrArg Int.ofNat (Nat.min_eq_right h).symm)
theorem clip_eq (i:Int) (n:Nat):max 0 (min (if i < 0 then i+n else i) (n:Int))=(clip i n:Int):=by
 unfold clip
 by_cases h:0<=i
 ·rw [if_neg (Int.not_lt.mpr h),if_pos h]
  (refine e1a1 (Int.eq_ofNat_of_zero_le h) ?_;rintro k rfl)
  show max 0 (min (k:Int) (n:Int))=((min k n:Nat):Int)
  rw [min_cast]
  exact Int.max_eq_right (Int.natCast_nonneg _)
 ·rw [if_pos (Int.not_le.mp h),if_neg h,Int.min_eq_left (Int.add_le_of_le_sub_right (Int.le_trans (Int.le_of_lt (Int.not_le.mp h)) (Int.le_of_eq (Int.sub_self _).symm))),Int.ofNat_toNat,Int.max_comm]
theorem clip_le' (i:Int) (n:Nat):clip i n<=n:=by unfold clip;split <;> first | lia | grind
noncomputable def partOf:PyData->Option (Option Int)
 | .none=>some none
 | .int i=>some (some i)
 | _=>none
set_option tactic.hygienic true in
theorem bnd_part {d:PyData} {df n a:Nat} (h:bnd d df n=some a):∃ o,partOf d=some o/\(match o with | none=>(df:Int) | some i=>max 0 (min (if i < 0 then i+n else i) (n:Int)))=(a:Int):=by
 unfold bnd at h
 split at h
 ·(replace h:=(Option.some.inj h).symm;subst h);exact ⟨none,rfl,rfl⟩
 ·rename_i i
  (replace h:=(Option.some.inj h).symm;subst h);exact ⟨some _,rfl,clip_eq _ _⟩
 ·exact nso h
theorem bnd_le {d:PyData} {df n a:Nat} (hd:df<=n) (h:bnd d df n=some a):a<=n:=by
 unfold bnd at h
 split at h
 ·(replace h:=(Option.some.inj h).symm;subst h);exact hd
 ·(replace h:=(Option.some.inj h).symm;subst h);exact clip_le' _ _
 ·exact nso h
theorem cut_eq {α:Type} (a b:Nat) (l:List α):cut a b l=(l.drop a).take (b - a):=by
 unfold cut;rw [List.drop_take]
theorem pick1 {lo hi:Option Int} {items:Array Value} {a b:Nat} (h1:(match lo with | none=>((0:Nat):Int) | some i=>max 0 (min (if i < 0 then i+items.size else i) (items.size:Int)))=(a:Int))
  (h2:(match hi with | none=>(items.size:Int) | some i=>max 0 (min (if i < 0 then i+items.size else i) (items.size:Int)))=(b:Int)):slicePick items lo hi none=(cut a b items.toList).toArray:=by
 have e:sliceBounds lo hi none items.size=((a:Int),(b:Int),1):=by
  simp only [sliceBounds,Option.getD_none,show (1:Int) > 0 by decide,if_true]
  rw [<-h1,<-h2]
  cases lo <;> cases hi <;> rfl
 unfold slicePick
 rw [e]
 simp only [sliceRange_one,pick_run]
 rw [cut_eq]
theorem every_drop {α:Type} (st:Nat) (h:0 < st):∀ (k:Nat) (l:List α),every st k l=every st 0 (l.drop k)
 | 0,l=>by simp
 | k+1,[]=>by simp [every]
 | k+1,x::r=>by
  show every st k r=_
  rw [every_drop st h k r];simp
theorem pickStep {α:Type} (xs:Array α) (st:Nat) (h:0 < st):∀ (k a:Nat),xs.size<=a+k * st->((List.range k).map fun j=>a+st * j).filterMap (xs[·]?)=every st 0 (xs.toList.drop a)
 | 0,a,hk=>by
  rw [Nat.zero_mul,Nat.add_zero] at hk
  rw [List.drop_eq_nil_of_le hk];rfl
 | k+1,a,hk=>by
  have q:(List.range k).map ((fun j=>a+st * j) ∘ Nat.succ)=(List.range k).map fun j=>(a+st)+st * j:=List.map_congr_left fun j u_=>by
   show a+st * (j+1)=_
   rw [Nat.mul_succ,Nat.add_assoc,Nat.add_comm st]
  have hk2:xs.size<=a+st+k * st:=by rw [Nat.succ_mul,Nat.add_comm (k * st),<-Nat.add_assoc] at hk;exact hk
  rw [List.range_succ_eq_map,List.map_cons,List.map_map,q,List.filterMap_cons,Nat.mul_zero,Nat.add_zero,pickStep xs st h k (a+st) hk2]
  by_cases ha:a < xs.size
  ·have hd:xs.toList.drop a=xs[a]::xs.toList.drop (a+1):=List.drop_eq_getElem_cons ha
   rw [Array.getElem?_eq_getElem ha,hd]
   show xs[a]::_=xs[a]::every st (st - 1) (xs.toList.drop (a+1))
   rw [every_drop st h (st - 1),List.drop_drop,show a+1+(st - 1)=a+st by lia]
  ·have hle:=Nat.not_lt.mp ha
   rw [Array.getElem?_eq_none hle]
   show every st 0 (xs.toList.drop (a+st))=every st 0 (xs.toList.drop a)
   rw [List.drop_eq_nil_of_le hle,List.drop_eq_nil_of_le (show xs.toList.length<=a+st from Nat.le_trans hle (Nat.le_add_right _ _))]
theorem pickEvery {lo:Option Int} {items:Array Value} {a:Nat} {st:Int} (h0:0 < st) (h1:(match lo with | none=>((0:Nat):Int) | some i=>max 0 (min (if i < 0 then i+items.size else i) (items.size:Int)))=(a:Int)) (ha:a<=items.size) :
  slicePick items lo none (some st)=(every st.toNat 0 (items.toList.drop a)).toArray:=by
 have e:sliceBounds lo none (some st) items.size=((a:Int),(items.size:Int),st):=by
  simp only [sliceBounds,Option.getD_some,show st > 0 from h0,if_true]
  rw [<-h1]
  cases lo <;> rfl
 unfold slicePick
 rw [e]
 congr 1
 unfold sliceRange
 simp only [show st > 0 from h0,if_true]
 (refine e1a1 (Int.eq_ofNat_of_zero_le (Int.le_of_lt h0)) ?_;rintro n rfl)
 have hn:0 < n:=by lia
 have e2:(List.range (if (a:Int) < (items.size:Int) then ((items.size:Int) - a+n - 1) / n else 0).toNat).map (fun (k:Nat)=>((a:Int)+(n:Int) * (k:Int)).toNat) =
   (List.range (if a < items.size then (items.size - a+n - 1) / n else 0)).map fun j=>a+n * j:=by
  have e3:(if (a:Int) < (items.size:Int) then ((items.size:Int) - a+n - 1) / n else 0).toNat=(if a < items.size then (items.size - a+n - 1) / n else 0):=by
   by_cases hlt:a < items.size
   ·have hlt':(a:Int) < (items.size:Int):=by lia
    simp only [hlt,hlt',if_true]
    have:((items.size:Int) - a+n - 1)=((items.size - a+n - 1:Nat):Int):=by lia
    rw [this,<-Int.natCast_ediv,Int.toNat_natCast]
   ·have hlt':¬ (a:Int) < (items.size:Int):=by lia
    simp [hlt,hlt']
  rw [e3]
  apply List.map_congr_left
  intro j _
  have:((a:Int)+(n:Int) * (j:Int))=((a+n * j:Nat):Int):=by simp
  rw [this,Int.toNat_natCast]
 show List.filterMap _ _=_
 rw [e2,Int.toNat_natCast]
 refine pickStep items n hn _ a ?_
 by_cases hlt:a < items.size
 ·rw [if_pos hlt]
  have:=Nat.lt_div_mul_add (a:=items.size - a+n - 1) hn
  generalize (items.size - a+n - 1) / n * n=y at this ⊢
  lia
 ·rw [if_neg hlt,Nat.zero_mul];exact Nat.not_lt.mp hlt
section
variable {c:Cfg}
theorem part_ok {x:X} (hx:EvOK c x) {n A env Own M E s} {e:Option Expr} {d:PyData} {Q:Value->Shared->Prop} {Er} (X:Cx c n A Own env M E s) (hc:kOpt (chkX c.fnm c.rk n env.scope x) (isNoneX x) e=true) (ho:okX M x=true)
  (he:ev c.G c.T x E=some d) (h:∀ v s',Stp s s'->RdG Own (odX M x) s'.heap v d->Q v s'):wpAny (model c.prog c.w) A (evalPart e env) Q Er s:=by
 unfold kOpt at hc
 induction e with
 | some y=>exact hx n A env Own M E s y d _ Er X hc ho he fun v s' st r u_=>h v s' st r
 | none =>
  cases x <;> first | ((first | (replace he:=(Option.some.inj he).symm;subst he) | cases he);exact wpAny_pure (h _ _ (.refl _) Rd0.mkNone)) | (first | exact nbt hc | cases hc)
theorem part_val {Own:Addr->Prop} {k:Nat} {h:Heap} {v:Value} {d:PyData} {o:Option Int} (hp:partOf d=some o) (r:RdG Own k h v d):∃ q:Option (Int × Tok),v=partValue q/\q.map (·.1)=o:=by
 have r:=r.any
 cases d with
 | none=>(replace hp:=(Option.some.inj hp).symm;subst hp);obtain rfl:=r.none;exact ⟨none,rfl,rfl⟩
 | int i=>(replace hp:=(Option.some.inj hp).symm;subst hp);(refine e1a1 r.int ?_;rintro t rfl);exact ⟨some (i,t),rfl,rfl⟩
 | _=>exact nso hp
theorem isPart_of (q:Option (Int × Tok)):IsPart (partValue q) (q.map (·.1)):=by
 induction q with
 | none=>exact .none
 | some p=>exact .int _ _
theorem subscripted_slc {l u t:Option Expr} {p:Pos} (o i:Value):∃ ops,subscripted (.Slice l u t p) false o i=operate ops (getItem o i):=by
 induction t with
 | none=>exact ⟨_,rfl⟩
 | some t=>exact ⟨_,rfl⟩
set_option tactic.hygienic true in
theorem slc_ok {prog:Program} {w:World} {A:Around} {Er:Value->Shared->Prop} {s:Shared} {Own:Addr->Prop} (live:∀ a,Own a->∃ o,s.heap.get? a=some o) {k:Nat} (hk:k<=1) {x l h t z:PyData} {v vl vh vt:Value} {kl kh kt:Nat}
  {value:Expr} {le he te:Option Expr} {p:Pos} {a:Addr} {Q:Value->Shared->Prop} (hz:evSlc x l h t=some z)
  (r:RdG Own k s.heap v x) (rl:RdG Own kl s.heap vl l) (rh:RdG Own kh s.heap vh h) (rt:RdG Own kt s.heap vt t) (hs:s.heap.IsSliceOf a vl vh vt)
  (hQ:∀ v s',Stp s s'->Rd0 Own s'.heap v z->Fr1 s v->Q v s'):wpAny (model prog w) A (subscriptTail value (.Slice le he te p) v (.ref a)) Q Er s:=by
 unfold evSlc at hz
 revert hz
 refine oN_inv (fun ht=>oL_inv (fun xs hx0 hz=>?_) (oS_inv (fun x0 hx0 hz=>?_) nso)) (oI_inv (fun st ht=>oN_inv (fun hh=>oL_inv (fun xs hx0 hz=>?_) nso) nso) nso)
 ·subst hx0 ht
  revert hz
  refine ifs fun hle hz=>?_
  have hle:xs.length<=1000000:=hle
  revert hz
  refine sbn fun b1 hb1=>sbn fun b2 hb2 e0z=>?_
  (replace e0z:=(Option.some.inj e0z).symm;subst e0z)
  (refine e2a3 (r.one hk) ?_;rintro l' vs rfl hl hx)
  have e1:=hx.length
  rw [Array.length_toList] at e1
  (refine e1a2 (bnd_part hb1) ?_;rintro o1 ho1 q1)
  (refine e1a2 (bnd_part hb2) ?_;rintro o2 ho2 q2)
  (refine e1a2 (part_val ho1 rl) ?_;rintro p1 rfl m1)
  (refine e1a2 (part_val ho2 rh) ?_;rintro p2 rfl m2)
  obtain rfl:=rt.any.none
  (refine e1a1 (subscripted_slc (l:=le) (u:=he) (t:=te) (p:=p) (.ref l') (.ref a)) ?_;rintro ops hops)
  refine tail_any hl.isList.typeIs slot_list_getitem.lookup ?_ hops
  have i1:=isPart_of p1
  have i2:=isPart_of p2
  rw [m1] at i1
  rw [m2] at i2
  refine wpAny_getItem_list_slice hl.isList hs i1 i2 .none (by simp) ?_ (sz_lim (by lia))
  rw [pick1 (a:=b1) (b:=b2) (by rw [e1];exact q1) (by rw [e1];exact q2)]
  refine hQ _ _ .push (new_list live ?_) (fr_at (.refl _))
  unfold cut
  exact (hx.take b2).drop b1
 ·subst hx0 ht
  revert hz
  refine ifs fun hle hz=>?_
  have hle:x0.cps.toList.length<=1000000:=hle
  revert hz
  refine sbn fun b1 hb1=>sbn fun b2 hb2 e0z=>?_
  (replace e0z:=(Option.some.inj e0z).symm;subst e0z)
  (refine e1a1 ((r.nolist fun _ q=>by cases q).str) ?_;rintro t rfl)
  have e3:(sl x0).length=x0.length:=by simp [sl,Str.length]
  have e4:x0.length<=1000000:=by rw [<-e3];exact hle
  (refine e1a2 (bnd_part hb1) ?_;rintro o1 ho1 q1)
  (refine e1a2 (bnd_part hb2) ?_;rintro o2 ho2 q2)
  (refine e1a2 (part_val ho1 rl) ?_;rintro p1 rfl m1)
  (refine e1a2 (part_val ho2 rh) ?_;rintro p2 rfl m2)
  obtain rfl:=rt.any.none
  (refine e1a1 (subscripted_slc (l:=le) (u:=he) (t:=te) (p:=p) (.str x0 t) (.ref a)) ?_;rintro ops hops)
  refine tail_any (typeIs_str _ _ _) F.slot_str_getitem.lookup ?_ hops
  refine wpAny_getItem_str_slice (l:=p1) (u:=p2) (st:=none) hs rfl ?_
  have b2le:b2<=(sl x0).length:=bnd_le (Nat.le_refl _) hb2
  have epick:slicePicked x0 p1 p2 none=(List.range (b2 - b1)).map (b1+·):=by
   unfold slicePicked Builtin.Str.strSliceIndices
   rw [m1,m2]
   simp only [Option.map_none,Option.getD_none,show (1:Int) > 0 by decide,if_true]
   rw [<-e3]
   refine Eq.trans ?_ (sliceRange_one b1 b2)
   rw [<-q1,<-q2]
   cases o1 <;> cases o2 <;> rfl
  have ecut:(⟨((slicePicked x0 p1 p2 none).filterMap (x0.cps[·]?)).toArray⟩:Str)=⟨⟨cut b1 b2 (sl x0)⟩⟩:=by
   rw [epick,pick_run,cut_eq]
  unfold sliceMade
  split
  ·rename_i hc
   simp only [Option.map_none,Option.getD_none,Bool.and_eq_true,beq_iff_eq,true_and] at hc
   have hfull:(⟨⟨cut b1 b2 (sl x0)⟩⟩:Str)=x0:=by
    rw [epick,List.length_map,List.length_range,<-e3] at hc
    have hb:b1=0/\b2=(sl x0).length\/(sl x0).length=0:=by lia
    have:cut b1 b2 (sl x0)=sl x0:=by
     rcases hb with ⟨rfl,rfl⟩ | h0
     ·unfold cut;rw [List.take_length,List.drop_zero]
     ·have:sl x0=[]:=List.length_eq_zero_iff.mp h0
      rw [this];simp [cut]
    rw [this]
   have e5:S (cut b1 b2 (sl x0))=.str x0:=congrArg PyData.str hfull
   rw [e5] at hQ
   show Q (.str x0 t) s
   exact hQ (.str x0 t) s (.refl _) Rd0.mkStr (fun a e=>nomatch e)
  ·rw [ecut]
   refine ⟨?_,hQ _ _ .toks Rd0.mkStr (fun a e=>nomatch e)⟩
   show (cut b1 b2 (sl x0)).length<=sizeLine
   refine sz_lim (Nat.le_trans ?_ hle)
   unfold cut
   rw [List.length_drop,List.length_take]
   exact Nat.le_trans (Nat.sub_le _ _) (Nat.min_le_right _ _)
 ·subst hx0 hh ht
  revert hz
  refine ifs fun hle hz=>?_
  (refine e0a3 hle ?_;try clear hle;rintro hle h0 h100)
  have hle:xs.length<=1000000:=hle
  revert hz
  refine sbn fun b1 hb1 e0z=>?_
  (replace e0z:=(Option.some.inj e0z).symm;subst e0z)
  (refine e2a3 (r.one hk) ?_;rintro l' vs rfl hl hx)
  have e1:=hx.length
  rw [Array.length_toList] at e1
  (refine e1a2 (bnd_part hb1) ?_;rintro o1 ho1 q1)
  (refine e1a2 (part_val ho1 rl) ?_;rintro p1 rfl m1)
  obtain rfl:=rh.any.none
  (refine e1a1 rt.any.int ?_;rintro u rfl)
  (refine e1a1 (subscripted_slc (l:=le) (u:=he) (t:=te) (p:=p) (.ref l') (.ref a)) ?_;rintro ops hops)
  refine tail_any hl.isList.typeIs slot_list_getitem.lookup ?_ hops
  have i1:=isPart_of p1
  rw [m1] at i1
  refine wpAny_getItem_list_slice hl.isList hs i1 .none (.int st u) (by intro q;(replace q:=(Option.some.inj q).symm;subst q);lia) ?_ (sz_lim (by lia))
  have hb1le:b1<=xs.length:=bnd_le (Nat.zero_le _) hb1
  rw [pickEvery (a:=b1) h0 (by rw [e1];exact q1) (by lia)]
  refine hQ _ _ .push (new_list live ?_) (fr_at (.refl _))
  have step:∀ (j:Nat) {as:List Value} {bs:List PyData},All2 (Rd0 Own s.heap) as bs->All2 (Rd0 Own s.heap) (every st.toNat j as) (every st.toNat j bs):=by
   intro j as bs q
   induction q generalizing j with
   | nil=>cases j <;> exact .nil
   | cons h1 _ ih=>cases j with
    | zero=>exact .cons h1 (ih _)
    | succ j=>exact ih j
  exact step 0 (hx.drop b1)
theorem ev_slc (C:CfgOK c) {a lo hi st:X} (ha:EvOK c a) (hl:EvOK c lo) (hh:EvOK c hi) (ht:EvOK c st):EvOK c (.slc a lo hi st):=by
 intro n A env Own M E s e d Q Er X hc ho he h
 dsimp only [chkX_q_slc] at hc
 (refine e6a5 (inv_slc hc) ?_;rintro o l u t p q rfl h1 h2 h3 h4)
 (refine k_bbbbd (okX_q_slc.symm.trans ho) ?_;try clear ho;rintro o1 o2 o3 o4 o5)
 revert he
 refine sbn fun x hx=>sbn fun y1 hy1=>sbn fun y2 hy2=>sbn fun y3 hy3 hz=>?_
 refine PyProof.Rows.Subscript_ (ha n A env Own M E s o x _ Er X h1 o1 hx fun v s1 st1 r1 u_=>?_)
 refine wpAny_Slice (part_ok hl (X.stp C st1) h2 o2 hy1 fun vl s2 st2 r2=>part_ok hh (X.stp C (st1.trans st2)) h3 o3 hy2 fun vh s3 st3 r3=>part_ok ht (X.stp C ((st1.trans st2).trans st3)) h4 o4 hy3 fun vt s4 st4 r4=>?_)
 have st14:=(st1.trans st2).trans (st3.trans st4)
 have X4:=X.stp C st14
 have k5:KeepH s4.heap (s4.heap.push { cls:=.type "slice",data:=.fields #[vl,vh,vt] }):=KeepH.push _ _
 refine slc_ok (X4.stp C .push).live o5 hz ((r1.keep (st2.trans (st3.trans st4)).keep).keep k5) ((r2.keep (st3.trans st4).keep).keep k5) ((r3.keep st4.keep).keep k5) (r4.keep k5) (Heap.IsSliceOf.new ..) fun v5 s5 st5 r5 fr=>?_
 exact h v5 s5 ((st14.trans .push).trans st5) r5 fun u_=>Fr1.back (st14.trans .push).keep fr
theorem ts_slc {a lo hi st:X} (hv:EvOK c (.slc a lo hi st)):TsOK c (.slc a lo hi st) :=
 ts_of_ev hv fun n sc e hc=>by
  dsimp only [chkX_q_slc] at hc
  (refine e6a2 (inv_slc hc) ?_;rintro o l u t p q rfl -)
  rfl
end
open PySem PySem.W PyProof.Rows PySem.Builtin PySem.Builtin.Str
theorem placed_asc {g:Nat->Nat} {f:Nat->Nat->List Nat} (x:Str) (h:∀ i c,x.cps[i]?=some c->f i c=[g c]):placed x f=((sl x).map g).toArray:=by
 unfold placed
 have e:(x.cps.mapIdx fun i c=>(f i c).toArray)=x.cps.map fun c=>#[g c]:=by
  apply Array.ext
  ·simp
  ·intro i h1 h2
   simp only [Array.getElem_mapIdx,Array.getElem_map]
   have h3:i < x.cps.size:=by simpa using h1
   rw [h i x.cps[i] (by simp [h3])]
 rw [e]
 apply Array.toList_inj.mp
 rw [Array.toList_flatten]
 simp [sl,List.map_map]
 induction x.cps.toList with
 | nil=>rfl
 | cons a r ih=>simp_all
theorem asc_all {p:Nat->Bool} (h:((List.range 128).all p)=true) {l:List Nat} (ha:asc l=true) {c:Nat} (hc:c∈l):p c=true:=by
 unfold asc at ha
 have:=List.all_eq_true.mp ha c hc
 exact List.all_eq_true.mp h c (List.mem_range.mpr (by simpa using this))
theorem low128:((List.range 128).all fun c=>decide (Unicode.lowerOf c=[lo1' c]) && !(c == 0x3A3))=true:=by decide +kernel
theorem mem_at {x:Str} {i c:Nat} (h:x.cps[i]?=some c):c∈sl x:=by
 (refine e1a1 (Array.getElem?_eq_some_iff.mp h) ?_;rintro h1 h2)
 subst h2
 simp [sl]
theorem lowerAt_asc {x:Str} (ha:asc (sl x)=true) {i c:Nat} (h:x.cps[i]?=some c):Unicode.lowerAt x.cps i=[lo1' c]:=by
 unfold Unicode.lowerAt
 rw [h]
 have q:=asc_all low128 ha (mem_at h)
 replace q:=c_dn q
 simp only [q.2,Bool.false_and,Bool.false_eq_true,if_false]
 exact q.1
theorem lower_asc {x:Str} (ha:asc (sl x)=true):Txt.lower x=⟨((sl x).map lo1').toArray⟩:=by
 unfold Txt.lower
 rw [placed_asc x fun i c h=>lowerAt_asc ha h]
theorem fit_map {l:List Nat} {g:Nat->Nat} (h:l.length<=1000000):tooLong (Str.length ⟨(l.map g).toArray⟩)=false:=by
 have e:Str.length ⟨(l.map g).toArray⟩=l.length:=by simp [Str.length]
 rw [e]
 unfold tooLong
 exact decide_eq_false (Nat.not_lt.mpr (sz_lim h))
set_option tactic.hygienic true in
theorem sumI_ints {Own:Addr->Prop} {h:Heap} {vs:List Value} {xs:List PyData} {k:Int} (hx:All2 (Rd0 Own h) vs xs) (hk:sumI xs=some k):∃ ps:List (Int × Tok),vs=ps.map (fun p=>Value.int p.1 p.2)/\(ps.map (·.1)).sum=k:=by
 induction hx generalizing k with
 | nil=>(replace hk:=(Option.some.inj hk).symm;subst hk);exact ⟨[],rfl,rfl⟩
 | cons h1 h2 ih =>
  rename_i a b as bs
  have hq0:∃ v0,b=.int v0:=by revert hk;generalize b=y0;intro hk;cases y0 <;> first | exact ⟨_,rfl⟩ | exact nso hk | exact nbt hk | cases hk
  (refine e1a1 hq0 ?_;try clear hq0;rintro i rfl)
  revert hk
  refine sbn fun k' hk' e0z=>?_
  (replace e0z:=(Option.some.inj e0z).symm;subst e0z)
  (refine e1a1 h1.int ?_;rintro t rfl)
  (refine e1a2 (ih hk') ?_;rintro ps rfl e)
  exact ⟨(i,t)::ps,rfl,by simp [e]⟩
theorem lt63 {n:Nat} (h:n<=1000000):(n:Int) < 2 ^ 63:=Int.lt_of_le_of_lt (Int.ofNat_le.mpr h) (by decide)
section
variable {prog:Program} {w:World} {A:Around} {Er:Value->Shared->Prop} {s:Shared} {Q:Value->Shared->Prop} {Own:Addr->Prop}
theorem sum_ok (hh:A.handled=none) {k:Nat} (hk:k<=1) {v:Value} {xs:List PyData} {z:Int} (r:RdG Own k s.heap v (.list xs)) (hz:sumI xs=some z)
  (h:∀ t' s',Stp s s'->Q (.int z t') s'):wpAny (model prog w) A (call (.builtin "sum") [v]) Q Er s:=by
 (refine e2a3 (r.one hk) ?_;rintro a vs rfl hl hx)
 (refine e1a2 (sumI_ints hx hz) ?_;rintro ps e rfl)
 have e1:vs=intItems ps.toArray:=by
  apply Array.toList_inj.mp
  rw [e];simp [intItems]
 subst e1
 refine sum_intListG hh hl.isList fun h' tk t' hk=>?_
 rw [preSum_eq,List.take_of_length_le (by simp)]
 exact h t' _ (.of hk)
theorem len_ok {k:Nat} {v:Value} {d z:PyData} (r:RdG Own k s.heap v d) (hz:evP1 .len d=some z) (h:∀ v' s',Stp s s'->Rd0 Own s'.heap v' z->Q v' s'):wpAny (model prog w) A (call (.builtin "len") [v]) Q Er s:=by
 cases d with
 | list xs =>
  revert hz
  refine ifs fun hle hz=>?_
  (replace hz:=(Option.some.inj hz).symm;subst hz)
  (refine e2a3 (RdG.zero r.any) ?_;rintro a vs rfl hl hx)
  have e1:=hx.length
  rw [Array.length_toList] at e1
  refine len_list hl.isList (lt63 (e1 ▸ hle)) ?_
  rw [e1]
  exact h _ _ (.trans .toks .toks) .mkInt
 | str x =>
  revert hz
  refine ifs fun hle hz=>?_
  (replace hz:=(Option.some.inj hz).symm;subst hz)
  (refine e1a1 r.any.str ?_;rintro t rfl)
  have e1:x.length=(sl x).length:=by simp [sl,Str.length]
  refine P.len_str (by rw [e1];exact Int.not_le.mpr (lt63 hle)) ?_
  rw [e1]
  exact h _ _ (.trans .toks .toks) .mkInt
 | tuple xs =>
  revert hz
  refine ifs fun hle hz=>?_
  (replace hz:=(Option.some.inj hz).symm;subst hz)
  (refine e2a3 ((r.nolist fun u_ q=>by cases q).untuple) ?_;rintro a vs rfl hl hx)
  have e1:=hx.length
  rw [Array.length_toList] at e1
  refine PyProof.Rows.len_tuple hl (lt63 (e1 ▸ hle)) ?_
  rw [e1]
  exact h _ _ (.trans .toks .toks) .mkInt
 | _=>exact nso hz
end
open PySem PySem.W PyProof.Rows PySem.Builtin PySem.Builtin.Str
section
variable {prog:Program} {w:World} {A:Around} {Er:Value->Shared->Prop} {s:Shared} {Q:Value->Shared->Prop} {Own:Addr->Prop}
theorem low_ok {p:P1} (hp:p1Meth p=true) {k:Nat} {v:Value} {d z:PyData} {pos:Pos} (r:RdG Own k s.heap v d) (hz:evP1 p d=some z) (h:∀ v' s',Stp s s'->Rd0 Own s'.heap v' z->Q v' s') :
  MethodOnS prog w A Er (p1Name p) v pos [] Q s:=by
 cases p with
 | lower =>
  have hq0:∃ v0,d=.str v0:=by revert hz;generalize d=y0;intro hz;cases y0 <;> first | exact ⟨_,rfl⟩ | exact nso hz | exact nbt hz | cases hz
  (refine e1a1 hq0 ?_;try clear hq0;rintro x rfl)
  refine ifs (fun hle hz=>?_) hz
  (replace hz:=(Option.some.inj hz).symm;subst hz)
  (refine e1a1 r.any.str ?_;rintro t rfl)
  refine SB.lower (by rw [lower_asc hle.1];exact fit_map hle.2) ?_
  rw [lower_asc hle.1]
  exact h _ _ .toks .mkStr
 | _=>exact nbt hp
end
section
variable {c:Cfg}
theorem starEach1 {e:Expr} {env:Env} (h:notStar e=true):starEach [e] env=[(false,eval e env)]:=starEach_cons h
set_option tactic.hygienic true in
theorem ev_p1 (C:CfgOK c) {p:P1} {a:X} (ha:EvOK c a):EvOK c (.p1 p a):=by
 intro n A env Own M E s e d Q Er X hc ho he h
 dsimp only [chkX_q_p1] at hc
 replace ho:=c_bd (okX_q_p1.symm.trans ho)
 revert he
 refine sbn fun y hy hz=>?_
 split at hc
 ·rename_i hm
  (refine e3a4 (inv_me0 hc) ?_;rintro o ap q rfl h1 h2 h3)
  refine Call_method0 (super_not h1) h2 (ha n A env Own M E s o y _ Er X h3 ho.1 hy fun v s' st r _=>?_)
  exact low_ok hm r hz fun v' s2 st2 r2=>h v' s2 (st.trans st2) r2 fun q=>nomatch q
 ·rename_i hm
  (refine e3a4 (inv_fn1 hc) ?_;rintro z p0 q rfl h1 h2 h3)
  cases p with
  | len =>
   refine wpAny_Call_NameR (glob_bi C (x:="len") (by decide) X.eok X.base h1 ?_)
   rw [trees1 h2]
   refine PySem.callWith_builtin1 (ha n A env Own M E s z y _ Er X h3 ho.1 hy fun v s' st r _=>?_)
   exact len_ok r hz fun v' s2 st2 r2=>h v' s2 (st.trans st2) r2 fun q=>nomatch q
  | sum =>
   refine wpAny_Call_NameR (glob_bi C (x:="sum") (by decide) X.eok X.base h1 ?_)
   rw [trees1 h2]
   refine PySem.callWith_builtin1 (ha n A env Own M E s z y _ Er X h3 ho.1 hy fun v s' st r _=>?_)
   have hq0:∃ v0,y=.list v0:=by revert hz;generalize y=y0;intro hz;cases y0 <;> first | exact ⟨_,rfl⟩ | exact nso hz | exact nbt hz | cases hz
   (refine e1a1 hq0 ?_;try clear hq0;rintro xs rfl)
   revert hz
   refine sbn fun k hk hz=>?_
   (replace hz:=(Option.some.inj hz).symm;subst hz)
   exact sum_ok X.room.hand ho.2 r hk fun t' s2 st2=>h _ s2 (st.trans st2) .mkInt fun q=>nomatch q
  | _=>exact nbf hm
theorem p1_gen (p:P1) (a:X) (n:Nat) (sc:Scope) (e:Expr) (hc:chkX c.fnm c.rk n sc (.p1 p a) e=true):∃ f as ks q,e=.Call f as ks q:=by
 dsimp only [chkX_q_p1] at hc
 split at hc
 ·(refine e3a4 (inv_me0 hc) ?_;rintro o ap q rfl h1 h2 h3);exact ⟨_,_,_,_,rfl⟩
 ·(refine e3a4 (inv_fn1 hc) ?_;rintro z p0 q rfl h1 h2 h3);exact ⟨_,_,_,_,rfl⟩
theorem ts_p1 {p:P1} {a:X} (hv:EvOK c (.p1 p a)):TsOK c (.p1 p a) :=
 ts_of_ev hv fun n sc e hc=>by
  (refine e4a1 (p1_gen p a n sc e hc) ?_;rintro f as ks q rfl)
  rfl
end
open PySem PySem.W PyProof.Rows PySem.Builtin PySem.Builtin.Str
noncomputable def occAt (x y:Str) (i:Nat):Bool:=decide (i+y.length<=x.length) && subAt x y i
theorem occ_stay (s sub:Str) (hi:Nat):∀ (l:List Nat) (st:Array Nat × Nat),st.fst.size=1->(forIn l st (StrLaws.occBody s sub hi 1)).run.fst=st.fst
 | [],st,h=>rfl
 | a::l,st,h=>by
  rw [List.forIn_cons]
  unfold StrLaws.occBody
  rw [if_neg (by lia)]
  exact occ_stay s sub hi l _ h
theorem occ_first (s sub:Str):∀ (l:List Nat) (free:Nat),(∀ i∈l,free<=i) ->
  (forIn l ((#[]:Array Nat),free) (StrLaws.occBody s sub s.length 1)).run.fst=match l.find? (occAt s sub) with | some i=>#[i] | none=>#[]
 | [],free,_=>rfl
 | a::l,free,hf=>by
  rw [List.forIn_cons]
  unfold StrLaws.occBody
  have ha:free<=a:=hf a (List.mem_cons_self ..)
  by_cases hc:occAt s sub a=true
  ·rw [List.find?_cons_of_pos hc]
   have hc':=hc
   unfold occAt at hc'
   rw [Bool.and_eq_true,decide_eq_true_eq] at hc'
   rw [if_pos ⟨⟨⟨by simp,ha⟩,hc'.1⟩,hc'.2⟩]
   exact occ_stay s sub s.length l _ rfl
  ·rw [List.find?_cons_of_neg hc]
   rw [if_neg (fun h=>hc (by unfold occAt;rw [Bool.and_eq_true,decide_eq_true_eq];exact ⟨h.1.2,h.2⟩))]
   exact occ_first s sub l free fun i hi=>hf i (List.mem_cons_of_mem _ hi)
theorem occAt_pre (x y:Str) (i:Nat) (hi:i<=(sl x).length):occAt x y i=(sl y).isPrefixOf ((sl x).drop i):=by
 have e1:x.length=(sl x).length:=by simp [sl,Str.length]
 have e2:y.length=(sl y).length:=by simp [sl,Str.length]
 unfold occAt subAt
 rw [Bool.eq_iff_iff,Bool.and_eq_true,decide_eq_true_eq,beq_iff_eq,List.isPrefixOf_iff_prefix,List.prefix_iff_eq_take]
 have e3:x.cps.extract i (i+y.length)=y.cps ↔ ((sl x).drop i).take (sl y).length=sl y:=by
  rw [<-Array.toList_inj,Array.toList_extract,List.extract_eq_take_drop,e2]
  simp [sl]
 rw [e3]
 constructor
 ·intro h;exact h.2.symm
 ·intro h
  refine ⟨?_,h.symm⟩
  have q:=congrArg List.length h
  rw [List.length_take,List.length_drop] at q
  lia
theorem findL_find (sub:List Nat):∀ (l:List Nat) (i:Nat),findL sub l i=match (List.range' i (l.length+1)).find? (fun j=>sub.isPrefixOf (l.drop (j - i))) with | some j=>(j:Int) | none=>-1
 | [],i=>by
  rw [findL]
  show _=match (List.range' i 1).find? _ with | some j=>(j:Int) | none=>-1
  rw [show List.range' i 1=[i] from rfl]
  cases sub with
  | nil=>simp
  | cons a r=>simp
 | c::l,i=>by
  rw [findL]
  have e:List.range' i ((c::l).length+1)=i::List.range' (i+1) (l.length+1):=rfl
  rw [e]
  by_cases h:sub.isPrefixOf (c::l)=true
  ·rw [if_pos h,List.find?_cons_of_pos (by simpa using h)]
  ·rw [if_neg h,List.find?_cons_of_neg (by simpa using h),findL_find sub l (i+1)]
   have e2:(List.range' (i+1) (l.length+1)).find? (fun j=>sub.isPrefixOf (l.drop (j - (i+1))))=(List.range' (i+1) (l.length+1)).find? (fun j=>sub.isPrefixOf ((c::l).drop (j - i))):=by
    have:∀ (m:List Nat),(∀ j∈m,i+1<=j)->m.find? (fun j=>sub.isPrefixOf (l.drop (j - (i+1))))=m.find? (fun j=>sub.isPrefixOf ((c::l).drop (j - i))):=by
     intro m
     induction m with
     | nil=>intro _;rfl
     | cons j m ih =>
      intro hm
      have hj:=hm j List.mem_cons_self
      have ej:j - i=(j - (i+1))+1:=by grind
      have ed:(c::l).drop (j - i)=l.drop (j - (i+1)):=by rw [ej];rfl
      rw [List.find?_cons,List.find?_cons,ed,ih fun k hk=>hm k (List.mem_cons_of_mem _ hk)]
    exact this _ fun j hj=>(List.mem_range'.mp hj).elim fun k hk=>by lia
   rw [e2]
theorem occ_one (x y:Str):occurrences x y 0 x.length 1=match (List.range' 0 ((sl x).length+1)).find? (fun j=>(sl y).isPrefixOf ((sl x).drop j)) with | some i=>[i] | none=>[]:=by
 have e1:x.length=(sl x).length:=by simp [sl,Str.length]
 rw [StrLaws.occ_eq,occ_first x y _ 0 fun u_ u_=>Nat.zero_le _,e1,Nat.sub_zero]
 have e2:(List.range' 0 ((sl x).length+1)).find? (occAt x y)=(List.range' 0 ((sl x).length+1)).find? (fun j=>(sl y).isPrefixOf ((sl x).drop j)):=by
  have:∀ (m:List Nat),(∀ j∈m,j<=(sl x).length)->m.find? (occAt x y)=m.find? (fun j=>(sl y).isPrefixOf ((sl x).drop j)):=by
   intro m
   induction m with
   | nil=>intro _;rfl
   | cons j m ih =>
    intro hm
    rw [List.find?_cons,List.find?_cons,occAt_pre x y j (hm j List.mem_cons_self),ih fun k hk=>hm k (List.mem_cons_of_mem _ hk)]
  exact this _ fun j hj=>(List.mem_range'.mp hj).elim fun k hk=>by lia
 rw [e2]
 cases (List.range' 0 ((sl x).length+1)).find? (fun j=>(sl y).isPrefixOf ((sl x).drop j)) <;> rfl
theorem index_eq (x y:Str) (h:0<=findL (sl y) (sl x) 0):∃ i,occurrences x y 0 x.length 1=[i]/\(i:Int)=findL (sl y) (sl x) 0:=by
 rw [findL_find] at h ⊢
 simp only [Nat.sub_zero] at h ⊢
 rw [occ_one]
 cases hf:(List.range' 0 ((sl x).length+1)).find? (fun j=>(sl y).isPrefixOf ((sl x).drop j)) with
 | none=>rw [hf] at h;exact absurd h (by decide)
 | some i=>exact ⟨i,rfl,rfl⟩
set_option tactic.hygienic true in
theorem strL_strs {Own:Addr->Prop} {h:Heap} {vs:List Value} {xs:List PyData} {k:List (List Nat)} (hx:All2 (Rd0 Own h) vs xs) (hk:strL xs=some k):∃ ps:List (Str × Tok),vs=strValues ps/\ps.map (fun p=>sl p.1)=k:=by
 induction hx generalizing k with
 | nil=>(replace hk:=(Option.some.inj hk).symm;subst hk);exact ⟨[],rfl,rfl⟩
 | cons h1 h2 ih =>
  rename_i a b as bs
  have hq0:∃ v0,b=.str v0:=by revert hk;generalize b=y0;intro hk;cases y0 <;> first | exact ⟨_,rfl⟩ | exact nso hk | exact nbt hk | cases hk
  (refine e1a1 hq0 ?_;try clear hq0;rintro i rfl)
  revert hk
  refine sbn fun k' hk' e0z=>?_
  (replace e0z:=(Option.some.inj e0z).symm;subst e0z)
  (refine e1a1 h1.str ?_;rintro t rfl)
  (refine e1a2 (ih hk') ?_;rintro ps rfl e)
  exact ⟨(i,t)::ps,rfl,by simp [e]⟩
theorem join_eq (sep:Str):∀ ls:List Str,Str.join sep ls=⟨⟨joinL (sl sep) (ls.map sl)⟩⟩
 | []=>rfl
 | [x]=>rfl
 | x::y::r=>by
  show x++sep++Str.join sep (y::r)=_
  rw [join_eq sep (y::r)]
  apply Str.ext'
  show (x.cps++sep.cps)++_=_
  apply Array.toList_inj.mp
  simp [joinL,sl]
theorem join_size (sep:List Nat):∀ ls:List (List Nat),(ls.map (·.length)).sum+ls.length * sep.length<=(joinL sep ls).length+sep.length
 | []=>by simp [joinL]
 | [x]=>by simp [joinL]
 | x::y::r=>by
  have:=join_size sep (y::r)
  show x.length+((y::r).map (·.length)).sum+((y::r).length+1) * sep.length<=(x++sep++joinL sep (y::r)).length+sep.length
  rw [List.length_append,List.length_append,Nat.succ_mul]
  grind
section
variable {prog:Program} {w:World} {A:Around} {Er:Value->Shared->Prop} {s:Shared} {Q:Value->Shared->Prop} {Own:Addr->Prop}
theorem countP_data {h:Heap} {vs:Array Value} {xs:List PyData} {as:List Addr} {d:PyData} (rs:ReadsAll h vs.toList xs as) (hxs:PyData.canLayAll0 xs=true) :
  vs.toList.countP (fun y=>PyData.eqv (SeqAt.readOf h y) d)=(xs.filter fun y=>PyData.eqv y d).length:=by
 rw [<-List.countP_eq_length_filter]
 conv=>rhs;rw [<-SeqAt.readsAll_map xs _ _ hxs rs]
 rw [List.countP_map]
 rfl
theorem count_ok (hu:A.units+64 < cLine) {k1:Nat} {v v2:Value} {xs:List PyData} {d:PyData} (r:RdG Own k1 s.heap v (.list xs)) (r2:Rd0 Own s.heap v2 d) (h1:okD (.list xs)=true) (h2:okD d=true)
  (h:∀ t' s',Stp s s'->Q (.int ((xs.filter fun y=>PyData.eqv y d).length) t') s'):wpAny (model prog w) A (call (.builtin "list.count") [v,v2]) Q Er s:=by
 (refine e1a2 r.any ?_;rintro as ra u_)
 (refine e1a2 r2 ?_;try clear r2;rintro bs rb u_)
 have q:=okD_list h1
 have q2:=okD_lay h2
 cases ra with
 | @list a o vs n cs _ ho hc hd hr =>
  (refine by_goal fun G_ hG_=>?_;rcases o with ⟨cls,dd,data,slo⟩;all_goals (refine hG_ ?_;clear hG_ G_))
  cases hc
  cases hd
  refine call_meets PySem.F.slot_list_count ⟨_,ho,rfl⟩ PySem.F.entry_list_count (PySem.F.args_list_count_2 _ _) (SeqAt.list_countAt a vs n dd slo v2 (fun y=>PyData.eqv (SeqAt.readOf s.heap y) d)) ⟨ho,SeqAt.items_eqAt hr rb q.1 q2 (by lia),?_⟩
  rw [countP_data hr q.1]
  exact h _ _ .toks
theorem callWith_builtin2 {id:String} {pos:Pos} {t u:Sem Value} (h:wpAny (model prog w) A t (fun v s₁=>wpAny (model prog w) A u (fun v2 s₂=>wpAny (model prog w) A (call (.builtin id) [v,v2]) Q Er s₂) Er s₁) Er s) :
  wpAny (model prog w) A (callWith pos (.builtin id) [] [(false,t),(false,u)] []) Q Er s :=
 Calls.callWith_builtin rfl (Calls.evalArgs_plain (Calls.spliced_cons (wpAny_mono h (fun u_ u_ h₁=>Calls.spliced_cons (wpAny_mono h₁ (fun u_ u_ h₂=>Calls.spliced_nil h₂) fun u_ u_ e=>e)) fun u_ u_ e=>e)))
end
section
variable {c:Cfg}
theorem p2m_ok {p:P2} (hp:p2Meth p=true) {prog:Program} {w:World} {A:Around} {Er:Value->Shared->Prop} {s:Shared} {Q:Value->Shared->Prop} {Own:Addr->Prop} (hu:A.units+64 < cLine) {k:Nat} {v:Value} {x y z:PyData} {pos:Pos} {a:Sem Value}
  (r:RdG Own k s.heap v x) (hz:evP2 p x y=some z)
  (ha:∀ Q1:Value->Shared->Prop,(∀ v2 s2,Stp s s2->Rd0 Own s2.heap v2 y->Q1 v2 s2)->wpAny (model prog w) A a Q1 Er s)
  (h:∀ v' s',Stp s s'->Rd0 Own s'.heap v' z->Q v' s') :
  MethodOnS prog w A Er (p2Name p) v pos [(false,a)] Q s:=by
 cases p with
 | join =>
  have hq0:∃ v0,x=.str v0:=by revert hz;generalize x=y0;intro hz;cases y0 <;> first | exact ⟨_,rfl⟩ | exact nso hz | exact nbt hz | cases hz
  (refine e1a1 hq0 ?_;try clear hq0;rintro x rfl)
  have hq0:∃ v0,y=.list v0:=by revert hz;generalize y=y0;intro hz;cases y0 <;> first | exact ⟨_,rfl⟩ | exact nso hz | exact nbt hz | cases hz
  (refine e1a1 hq0 ?_;try clear hq0;rintro ys rfl)
  revert hz
  refine sbn fun ls hls hz=>?_
  revert hz
  refine ifs fun hle hz=>?_
  (replace hz:=(Option.some.inj hz).symm;subst hz)
  (refine e1a1 r.any.str ?_;rintro t rfl)
  refine SB.join (ha _ fun v2 s2 st2 r2=>?_)
  (refine e2a3 (RdG.zero r2) ?_;rintro D vs rfl hl hx)
  (refine e1a2 (strL_strs hx hls) ?_;rintro ps e e2)
  have e3:vs=(strValues ps).toArray:=by apply Array.toList_inj.mp;rw [e]
  have e4:(ps.map (·.1)).map sl=ls:=by rw [List.map_map];exact e2
  have e5:Txt.join x (ps.map (·.1))=⟨⟨joinL (sl x) ls⟩⟩:=by
   unfold Txt.join
   rw [StrLaws.glued_eq_join,join_eq,e4]
  refine ⟨D,ps,rfl,e3 ▸ hl.isList,_,rfl,?_,fun t' k=>?_⟩
  ·unfold JoinOk
   rw [StrLaws.joinTotal,Bool.not_eq_true']
   have e6:(ps.map (·.1)).map (fun q:Str=>q.length)=ls.map (·.length):=by
    rw [<-e4,List.map_map,List.map_map,List.map_map]
    apply List.map_congr_left
    intro q _
    simp [sl,Str.length]
   have e7:(ps.map (·.1)).length=ls.length:=by rw [<-e4];simp
   rw [e6,e7,show x.length=(sl x).length by simp [sl,Str.length]]
   have:=join_size (sl x) ls
   have h1:(joinL (sl x) ls).length<=1000000:=hle.1
   have h2:(sl x).length<=1000000:=hle.2.2
   unfold tooLong
   refine decide_eq_false (Nat.not_lt.mpr ?_)
   rw [sizeLine_eq]
   lia
  ·rw [e5]
   exact h _ _ (st2.trans .toks) .mkStr
 | index =>
  have hq0:∃ v0,x=.str v0:=by revert hz;generalize x=y0;intro hz;cases y0 <;> first | exact ⟨_,rfl⟩ | exact nso hz | exact nbt hz | cases hz
  (refine e1a1 hq0 ?_;try clear hq0;rintro x rfl)
  have hq0:∃ v0,y=.str v0:=by revert hz;generalize y=y0;intro hz;cases y0 <;> first | exact ⟨_,rfl⟩ | exact nso hz | exact nbt hz | cases hz
  (refine e1a1 hq0 ?_;try clear hq0;rintro y rfl)
  refine ifs (fun hle hz=>?_) hz
  (replace hz:=(Option.some.inj hz).symm;subst hz)
  (refine e1a1 r.any.str ?_;rintro t rfl)
  refine SB.index (ha _ fun v2 s2 st2 r2=>?_)
  (refine e1a1 r2.str ?_;rintro u rfl)
  (refine e1a2 (index_eq x y hle.2.2) ?_;rintro i e1 e2)
  refine ⟨y,u,rfl,i,[],e1,?_⟩
  rw [e2]
  exact h _ _ (st2.trans .toks) .mkInt
 | count =>
  have hq0:∃ v0,x=.list v0:=by revert hz;generalize x=y0;intro hz;cases y0 <;> first | exact ⟨_,rfl⟩ | exact nso hz | exact nbt hz | cases hz
  (refine e1a1 hq0 ?_;try clear hq0;rintro xs rfl)
  refine ifs (fun hok hz=>?_) hz
  (replace hz:=(Option.some.inj hz).symm;subst hz)
  (refine e2a3 (RdG.zero r.any) ?_;rintro D vs rfl hl hx)
  refine ⟨"list",_,F.plainAttrs_list,F.slot_list_count,F.type_list_count,hl.isList.typeIs,(fun b e=>?_),?_⟩
  ·cases e
   (refine e1a1 hl ?_;try clear hl;rintro n ho)
   exact ⟨_,ho,rfl⟩
  ·refine Calls.callWith_builtin rfl (Calls.evalArgs_plain (Calls.spliced_cons (ha _ fun v2 s2 st2 r2=>Calls.spliced_nil ?_)))
   exact count_ok hu (r.keep st2.keep) r2 hok.1 hok.2 fun t' s3 st3=>h _ _ (st2.trans st3) .mkInt
 | _=>exact nbt hp
set_option tactic.hygienic true in
theorem ev_p2 (C:CfgOK c) {p:P2} {a b:X} (ha:EvOK c a) (hb:EvOK c b):EvOK c (.p2 p a b):=by
 intro n A env Own M E s e d Q Er X hc ho he h
 dsimp only [chkX_q_p2] at hc
 (refine k_bbdd (okX_q_p2.symm.trans ho) ?_;try clear ho;rintro o1 o2 o3 o4)
 revert he
 refine sbn fun y hy=>sbn fun y2 hy2 hz=>?_
 split at hc
 ·rename_i hm
  (refine e4a6 (inv_me1 hc) ?_;rintro o z ap q rfl h1 h2 h3 h4 h5)
  refine Call_method1 (super_not h1) (starEach1 h3) h2 (ha n A env Own M E s o y _ Er X h4 o1 hy fun v s' st r _=>?_)
  refine p2m_ok hm (X.stp C st).units r hz (fun Q1 hq=>hb n A env Own M E s' z y2 _ Er (X.stp C st) h5 o2 hy2 fun v2 s2 st2 r2 _=>hq v2 s2 st2 (by rw [o4] at r2;exact r2)) ?_
  exact fun v' s2 st2 r2=>h v' s2 (st.trans st2) r2 fun q=>nomatch q
 ·rename_i hm
  (refine e4a6 (inv_fn2 hc) ?_;rintro z t p0 q rfl h1 h2 h3 h4 h5)
  cases p with
  | min2 =>
   refine wpAny_Call_NameR (glob_bi C (x:="min") (by decide) X.eok X.base h1 ?_)
   rw [trees2 h2 h3]
   refine callWith_builtin2 (ha n A env Own M E s z y _ Er X h4 o1 hy fun v s' st r _=>hb n A env Own M E s' t y2 _ Er (X.stp C st) h5 o2 hy2 fun v2 s2 st2 r2 _=>?_)
   have hq0:∃ v0,y=.int v0:=by revert hz;generalize y=y0;intro hz;cases y0 <;> first | exact ⟨_,rfl⟩ | exact nso hz | exact nbt hz | cases hz
   (refine e1a1 hq0 ?_;try clear hq0;rintro i rfl)
   have hq0:∃ v0,y2=.int v0:=by revert hz;generalize y2=y0;intro hz;cases y0 <;> first | exact ⟨_,rfl⟩ | exact nso hz
   (refine e1a1 hq0 ?_;try clear hq0;rintro j rfl)
   (replace hz:=(Option.some.inj hz).symm;subst hz)
   (refine e1a1 r.any.int ?_;rintro u rfl)
   (refine e1a1 r2.any.int ?_;rintro u2 rfl)
   refine min_two_ints X.room.hand fun h' tk hk=>?_
   have st5:=(st.trans st2).trans (Stp.of (s:=s2) (tk:=tk) hk)
   split
   ·rename_i hl;exact h _ _ st5 (by rw [if_pos hl];exact .mkInt) fun q=>nomatch q
   ·rename_i hl;exact h _ _ st5 (by rw [if_neg hl];exact .mkInt) fun q=>nomatch q
  | _=>exact nbf hm
theorem p2_gen (p:P2) (a b:X) (n:Nat) (sc:Scope) (e:Expr) (hc:chkX c.fnm c.rk n sc (.p2 p a b) e=true):∃ f as ks q,e=.Call f as ks q:=by
 dsimp only [chkX_q_p2] at hc
 split at hc
 ·(refine e4a4 (inv_me1 hc) ?_;rintro o z ap q rfl h1 h2 h3);exact ⟨_,_,_,_,rfl⟩
 ·(refine e4a4 (inv_fn2 hc) ?_;rintro z t p0 q rfl h1 h2 h3);exact ⟨_,_,_,_,rfl⟩
theorem ts_p2 {p:P2} {a b:X} (hv:EvOK c (.p2 p a b)):TsOK c (.p2 p a b) :=
 ts_of_ev hv fun n sc e hc=>by
  (refine e4a1 (p2_gen p a b n sc e hc) ?_;rintro f as ks q rfl)
  rfl
end
noncomputable def KpF (OX:Addr->Prop) (h h':Heap):Prop:=∀ b o vs n,h.get? b=some o->o.data=.seq vs n->(o.cls=.type "tuple"\/¬ OX b)->h'.get? b=some o
theorem KpF.refl {OX:Addr->Prop} (h:Heap):KpF OX h h:=fun u_ u_ u_ u_ e u_ u_=>e
theorem KpF.trans {OX:Addr->Prop} {a b c:Heap} (x:KpF OX a b) (y:KpF OX b c):KpF OX a c:=fun u_ u_ u_ u_ e d q=>y _ _ _ _ (x _ _ _ _ e d q) d q
theorem KpF.of {OX:Addr->Prop} {h h':Heap} (k:KeepH h h'):KpF OX h h':=fun u_ u_ u_ u_ e u_ u_=>k _ _ e
theorem Reads.kpf {OX:Addr->Prop} {h h':Heap} (k:KpF OX h h'):∀ {v:Value} {d:PyData} {as:List Addr},Reads h v d as->(∀ a∈as,¬ OX a/\Pl h a)->Reads h' v d as:=by
 intro v d as r
 refine Reads.rec (motive_1:=fun v d as u_=>(∀ a∈as,¬ OX a/\Pl h a)->Reads h' v d as) (motive_2:=fun vs ds as u_=>(∀ a∈as,¬ OX a/\Pl h a)->ReadsAll h' vs ds as) ?_ ?_ ?_ ?_ ?_ ?_ ?_ ?_ ?_ r
 ·exact fun u_=>.none
 ·exact fun u_ u_=>.bool _
 ·exact fun u_ u_ u_=>.int _ _
 ·exact fun u_ u_ u_=>.str _ _
 ·intro a o vs n xs as ho hc hd _ ih q
  exact .list (k a o vs n ho hd (.inr (q a List.mem_cons_self).1)) hc hd (ih fun b m=>q b (List.mem_cons_of_mem _ m))
 ·intro a o vs n xs as ho hc hd _ ih q
  exact .tuple (k a o vs n ho hd (.inl hc)) hc hd (ih q)
 ·intro a o es n kvs as bs ho hc hd _ _ _ _ q
  (refine by_goal fun G_ hG_=>?_;rcases q a (List.mem_append_left _ List.mem_cons_self) with ⟨u_,vs,n',ho'⟩;all_goals (refine hG_ ?_;clear hG_ G_))
  rw [ho] at ho'
  have e:=Option.some.inj ho'
  subst e
  cases hd
 ·exact fun u_=>.nil
 ·intro v vs d ds as bs _ _ ih1 ih2 q
  exact .cons (ih1 fun a m=>q a (List.mem_append_left _ m)) (ih2 fun a m=>q a (List.mem_append_right _ m))
theorem Pl.kpf {OX:Addr->Prop} {h h':Heap} (k:KpF OX h h') {a:Addr} (x:Pl h a) (ha:¬ OX a):Pl h' a:=let ⟨vs,n,e⟩:=x;⟨vs,n,k a _ vs n e rfl (.inr ha)⟩
theorem Rd0.kpf {OX:Addr->Prop} {h h':Heap} (k:KpF OX h h') {v:Value} {d:PyData} (x:Rd0 OX h v d):Rd0 OX h' v d :=
 let ⟨as,r,n⟩:=x;⟨as,Reads.kpf k r n,fun a m=>⟨(n a m).1,(n a m).2.kpf k (n a m).1⟩⟩
noncomputable def HdD (o:Obj):Prop:=∃ hs t v n,o.data=.dict #[⟨hs,.str "_headers" t,v⟩] n
structure Mv (old:Addr->Prop) (fp:List Addr) (gs:List Nat) (s s':Shared):Prop where
 keep:∀ b o,b ∉ fp->(old b\/∀ fs,o.data≠.fields fs)->s.heap.get? b=some o->s'.heap.get? b=some o
 seq:∀ b o vs n,o.data=.seq vs n->s.heap.get? b=some o->s'.heap.get? b=some o
 hd:∀ b o,(o.data=.plain\/HdD o)->s.heap.get? b=some o->s'.heap.get? b=some o
 size:s.gens.size<=s'.gens.size
 gold:∀ i,i < s.gens.size->i ∉ gs->s'.gens[i]?=s.gens[i]?
 bare:AllBare s.gens->AllBare s'.gens
 os:s'.os=s.os
theorem Mv.heap {old:Addr->Prop} {fp:List Addr} {gs:List Nat} {s:Shared} {h':Heap} {tk:Nat} (hf:∀ b∈fp,∀ o,s.heap.get? b=some o->∃ fs,o.data=.fields fs) (k:∀ b o,b ∉ fp->s.heap.get? b=some o->h'.get? b=some o):Mv old fp gs s { s with heap:=h',toks:=tk } :=
 ⟨fun b o hb u_ e=>k b o hb e,fun b o vs n hd e=>k b o (fun m=>by (refine e1a1 (hf b m o e) ?_;rintro fs hq);rw [hd] at hq;cases hq) e,fun b o hd e=>k b o (fun m=>by (refine e1a1 (hf b m o e) ?_;rintro fs hq);rcases hd with hd | ⟨u_,u_,u_,u_,hd⟩ <;> rw [hd] at hq <;> cases hq) e,Nat.le_refl _,fun u_ u_ u_=>rfl,fun x=>x,rfl⟩
theorem Mv.mono {old old':Addr->Prop} {fp fp':List Addr} {gs gs':List Nat} {s s':Shared} (m:Mv old fp gs s s') (h:∀ b,old' b->old b) (hf:∀ b∈fp,b∈fp') (hg:∀ g∈gs,g∈gs'):Mv old' fp' gs' s s' :=
 ⟨fun b o hb q e=>m.keep b o (fun x=>hb (hf b x)) (q.imp (h b) id) e,m.seq,m.hd,m.size,fun i hi hn=>m.gold i hi fun x=>hn (hg i x),m.bare,m.os⟩
theorem Mv.trans {old:Addr->Prop} {fp:List Addr} {gs:List Nat} {a b c:Shared} (x:Mv old fp gs a b) (y:Mv old fp gs b c):Mv old fp gs a c :=
 ⟨fun d o hd q e=>y.keep d o hd q (x.keep d o hd q e),fun d o vs n hd e=>y.seq d o vs n hd (x.seq d o vs n hd e),fun d o hd e=>y.hd d o hd (x.hd d o hd e),Nat.le_trans x.size y.size,
  fun i hi hn=>(y.gold i (Nat.lt_of_lt_of_le hi x.size) hn).trans (x.gold i hi hn),fun h=>y.bare (x.bare h),y.os.trans x.os⟩
theorem Mv.of_stp {old:Addr->Prop} {fp:List Addr} {gs:List Nat} {s s':Shared} (x:Stp s s'):Mv old fp gs s s' :=
 ⟨fun b o u_ u_ e=>x.keep b o e,fun b o u_ u_ u_ e=>x.keep b o e,fun b o u_ e=>x.keep b o e,x.gk.size,fun i hi u_=>x.gk.old i hi,x.gk.bare,x.os⟩
theorem Mv.refl {old:Addr->Prop} {fp:List Addr} {gs:List Nat} (s:Shared):Mv old fp gs s s:=⟨fun u_ u_ u_ u_ e=>e,fun u_ u_ u_ u_ u_ e=>e,fun u_ u_ u_ e=>e,Nat.le_refl _,fun u_ u_ u_=>rfl,fun x=>x,rfl⟩
set_option tactic.hygienic true in
structure Wk (c:Cfg) (A:Around) (OX:Addr->Prop) (s0:Shared) (tupT:Bool) (it:Value) (fp wr:List Addr) (gs:List Nat) (St:List PyData->Shared->Prop) (Mid:PyData->List PyData->Value->Shared->Prop):Prop where
 stay:∀ ds s s',St ds s->(∀ b o,(b∈fp\/∃ fs,o.data=.fields fs)->s.heap.get? b=some o->s'.heap.get? b=some o)->(∀ g∈gs,s'.gens[g]?=s.gens[g]?)->KpF OX s0.heap s'.heap->St ds s'
 liv:∀ ds s,St ds s->∀ b∈fp,∃ o,s.heap.get? b=some o
 next:∀ d ds s (Q:Option Value->Shared->Prop) (Er:Value->Shared->Prop),Base c s.heap->St (d::ds) s->KpF OX s0.heap s.heap ->
  (∀ v s',Mv (fun b=>∃ o,s0.heap.get? b=some o) wr gs s s'->Mid d ds v s'->Q (some v) s')->wpAny (model c.prog c.w) A (pyNext it) Q Er s
 go:∀ target d ds v s (Q:Unit->Shared->Prop) (Er:Value->Shared->Prop),(tupT=true->∃ es k p,target=Expr.Tuple es k p)->Mid d ds v s->KpF OX s0.heap s.heap ->
  (∀ s',Mv (fun b=>∃ o,s0.heap.get? b=some o) wr gs s s'->St ds s'->Rd0 OX s'.heap v d->Q () s')->wpAny (model c.prog c.w) A (letOwnedTupleGo target it v) Q Er s
 done:∀ s (Q:Option Value->Shared->Prop) (Er:Value->Shared->Prop),Base c s.heap->St [] s->(∀ s',Mv (fun b=>∃ o,s0.heap.get? b=some o) wr gs s s'->Q none s')->wpAny (model c.prog c.w) A (pyNext it) Q Er s
 self:∀ ds s (Q:Value->Shared->Prop) (Er:Value->Shared->Prop),St ds s->Q it s->wpAny (model c.prog c.w) A (pyIter it) Q Er s
noncomputable def specials:List String:=["enumerate","zip","dict_itemiterator","dict_reverseitemiterator","odict_iterator","itertools.zip_longest","itertools.pairwise"]
theorem lot_eq (t:Expr) (r:Addr) (v:Value) (p:Pos):letOwnedTupleGo t (.ref r) v=letOwnedTupleGo (.Tuple [] 0 p) (.ref r) v\/letOwnedTupleGo t (.ref r) v=pure ():=by
 cases t <;> first | exact .inl rfl | exact .inr rfl
theorem go_plain {M:Model} {A:Around} {target:Expr} {I:Addr} {v:Value} {s:Shared} {o:Obj} {n:String} {Q:Unit->Shared->Prop} {Er:Value->Shared->Prop}
  (ho:s.heap.get? I=some o) (hc:o.cls=.type n) (hn:specials.contains n=false) (h:Q () s):wpAny M A (letOwnedTupleGo target (.ref I) v) Q Er s:=by
 rcases lot_eq target I v default with e | e
 ·rw [e]
  clear e
  cases v with
  | ref a =>
   refine wpAny_bind (wpAny_load ho ?_)
   (refine by_goal fun G_ hG_=>?_;rcases o with ⟨cls,dd,data,slo⟩;all_goals (refine hG_ ?_;clear hG_ G_))
   cases hc
   cases data with
   | fields vs =>
    show wpAny _ _ (if (specials.contains n && vs[0]? == some (rawInt a))=true then _ else _) _ _ _
    rw [hn,Bool.false_and,if_neg Bool.false_ne_true]
    exact wpAny_pure h
   | _=>exact wpAny_pure h
  | _=>exact wpAny_pure h
 ·rw [e]
  exact wpAny_pure h
theorem fld_of {I:Addr} {nm:String} {St:Nat->Heap->Prop} (hcls:∀ i h,St i h->∃ o fs,h.get? I=some o/\o.cls=.type nm/\o.data=.fields fs) {i:Nat} {h:Heap} (st:St i h):∀ b∈[I],∀ o,h.get? b=some o->∃ fs,o.data=.fields fs:=by
 intro b hb o ho
 rcases List.mem_cons.mp hb with rfl | hb
 ·(refine e2a3 (hcls i h st) ?_;rintro o' fs ho' u_ hd)
  rw [ho] at ho';(replace ho':=(Option.some.inj ho').symm;subst ho')
  exact ⟨fs,hd⟩
 ·cases hb
set_option tactic.hygienic true in
theorem Wk.of {c:Cfg} {A:Around} {OX:Addr->Prop} {s0:Shared} {I:Addr} {fp:List Addr} {n:Nat} {P:Nat->Value->Prop} {St:Nat->Heap->Prop} {nm:String} {xs:List PyData}
  (W:Walks c.prog c.w A I fp [I] n P St) (hn:xs.length=n) (hsp:specials.contains nm=false)
  (hcls:∀ i h,St i h->∃ o fs,h.get? I=some o/\o.cls=.type nm/\o.data=.fields fs)
  (hliv:∀ i h,St i h->∀ b∈fp,∃ o,h.get? b=some o)
  (hrd:∀ i v d h,xs[i]?=some d->P i v->KpF OX s0.heap h->Rd0 OX h v d) :
  Wk c A OX s0 false (.ref I) fp [I] [] (fun ds s=>∃ i,i<=n/\ds=xs.drop i/\St i s.heap) (fun d ds v s=>∃ i,i < n/\xs[i]?=some d/\ds=xs.drop (i+1)/\P i v/\St (i+1) s.heap) where
 stay:=by
  rintro ds s s' hz_
  (refine e1a3 hz_ ?_;try clear hz_;rintro i hi rfl st)
  rintro hk _ _
  exact ⟨i,hi,rfl,W.frame i _ _ st fun b hb o e=>hk b o (.inl hb) e⟩
 liv:=by
  rintro ds s hz_
  (refine e1a3 hz_ ?_;try clear hz_;rintro i hi rfl st)
  exact hliv i _ st
 next:=by
  rintro d ds s Q Er B hz_
  (refine e1a3 hz_ ?_;try clear hz_;rintro i hi e st)
  rintro _ hQ
  have hlt:i < n:=by
   rcases Nat.lt_or_ge i n with h | h
   ·exact h
   ·rw [List.drop_of_length_le (by lia)] at e;cases e
  have e2:xs.drop i=xs[i]::xs.drop (i+1):=List.drop_eq_getElem_cons (by lia)
  rw [e2] at e
  obtain ⟨rfl,rfl⟩:=List.cons.inj e
  refine W.item i s Q Er hlt st fun v h' tk hP st' hk=>?_
  exact hQ v _ (.heap (fld_of hcls st) fun b o hb e=>hk b o hb e) ⟨i,hlt,by simp,rfl,hP,st'⟩
 go:=by
  rintro target d ds v s Q Er _ hz_
  (refine e1a5 hz_ ?_;try clear hz_;rintro i hi hx rfl hP st)
  rintro kp hQ
  (refine e2a3 (hcls _ _ st) ?_;rintro o fs ho hc _)
  exact go_plain ho hc hsp (hQ s (.refl s) ⟨i+1,hi,rfl,st⟩ (hrd i v d _ hx hP kp))
 done:=by
  rintro s Q Er B hz_
  (refine e1a3 hz_ ?_;try clear hz_;rintro i hi e st)
  rintro hQ
  have:i=n:=by
   have q:=congrArg List.length e
   rw [List.length_nil,List.length_drop] at q
   grind
  subst this
  exact W.done s Q Er st fun h' tk hk=>hQ _ (.heap (fld_of hcls st) fun b o hb e=>hk b o hb e)
 self:=by
  rintro ds s Q Er hz_
  (refine e1a3 hz_ ?_;try clear hz_;rintro i hi rfl st)
  rintro hQ
  exact W.self i s Q Er st hQ
noncomputable def OXof (Own:Addr->Prop) (s0:Shared):Addr->Prop:=fun a=>Own a\/s0.heap.get? a=none
noncomputable def WalkAt (c:Cfg) (A:Around) (Own:Addr->Prop) (k:Nat) (tupT:Bool) (s s0:Shared) (it:Value) (ds:List PyData):Prop :=
 ∃ fp wr gs St Mid,Wk c A (OXof Own s0) s0 tupT it fp wr gs St Mid/\St ds s0/\(∀ b∈wr,b∈fp/\s.heap.get? b=none) /\
  (∀ b∈fp,(∃ o,s0.heap.get? b=some o)/\(s.heap.get? b=none\/∃ o vs n,s.heap.get? b=some o/\o.data=.seq vs n/\(o.cls=.type "tuple"\/(k=0->¬ Own b)))) /\
  (∀ g∈gs,s.gens.size<=g/\g < s0.gens.size)
theorem rd_ox {Own:Addr->Prop} {s0:Shared} {v:Value} {d:PyData} (x:Rd0 Own s0.heap v d):Rd0 (OXof Own s0) s0.heap v d :=
 x.grow fun a h hl=>by
  rcases h with h | h
  ·exact h
  ·(refine e1a1 hl ?_;try clear hl;rintro o ho);rw [h] at ho;exact nso ho
theorem Heap.fresh_size (h:Heap):h.get? h.objs.size=none:=Heap.get?_none_of_le (Nat.le_refl _)
theorem liv1 {h:Heap} {a:Addr} (x:∃ o,h.get? a=some o):∀ b∈[a],∃ o,h.get? b=some o:=fun b m=>by rw [List.mem_singleton.mp m];exact x
theorem liv2 {h:Heap} {a a':Addr} (x:∃ o,h.get? a=some o) (y:∃ o,h.get? a'=some o):∀ b∈[a,a'],∃ o,h.get? b=some o:=fun b m=>by
 rcases List.mem_cons.mp m with rfl | m
 ·exact x
 ·rw [List.mem_singleton.mp m];exact y
section
variable {c:Cfg} {A:Around} {Er:Value->Shared->Prop} {s1 s:Shared} {Q:Value->Shared->Prop} {Own:Addr->Prop}
theorem fresh1 (st:Stp s1 s):s1.heap.get? s.heap.objs.size=none:=by
 cases hh:s1.heap.get? s.heap.objs.size with
 | none=>rfl
 | some o=>exact absurd (Heap.lt_size (st.keep _ _ hh)) (Nat.lt_irrefl _)
theorem wr_one (st:Stp s1 s) {l:List Addr}:∀ b∈[s.heap.objs.size],b∈s.heap.objs.size::l/\s1.heap.get? b=none:=by
 intro b hb
 rcases List.mem_cons.mp hb with rfl | hb
 ·exact ⟨List.mem_cons_self,fresh1 st⟩
 ·cases hb
theorem it_list (hh:A.handled=none) (st:Stp s1 s) {k:Nat} (hk:k<=1) {v:Value} {xs:List PyData} (r:RdG Own k s.heap v (.list xs))
  (h:∀ v s0,Stp s s0->WalkAt c A Own k false s1 s0 v xs->Q v s0) (hfr:k=0->∀ a,v=.ref a->¬ Own a):wpAny (model c.prog c.w) A (pyIter v) Q Er s:=by
 (refine e2a3 (r.one hk) ?_;rintro a vs rfl hl hx)
 refine wpAny_pyIter_list hl.isList (h _ _ .push ?_)
 have hne:a≠s.heap.objs.size:=by (refine e1a1 hl ?_;try clear hl;rintro n ho);exact Nat.ne_of_lt (Heap.lt_size ho)
 have ek:KeepH s.heap (s.heap.push { cls:=.type "list_iterator",data:=.fields #[.ref a,.int 0 0] }):=.push _ _
 have elen:=hx.length
 rw [Array.length_toList] at elen
 refine ⟨[s.heap.objs.size,a],[s.heap.objs.size],[],_,_,Wk.of (nm:="list_iterator") (xs:=xs) (Walks.list hh _ a hne vs) elen.symm (by decide)
  (fun i h st=>let ⟨o,ho,hc,hd⟩:=st.1;⟨o,_,ho,hc,hd⟩) (fun i h st=>liv2 (let ⟨o,ho,_⟩:=st.1;⟨o,ho⟩) (let ⟨o,ho,_⟩:=st.2;⟨o,ho⟩)) ?_,⟨0,Nat.zero_le _,rfl,⟨_,Heap.get?_push_size _ rfl,rfl,rfl⟩,(PlainList.keep ek hl).isList⟩,wr_one st,?_,fun u_ m=>nomatch m⟩
 ·intro i v d h' hxi hv kp
  (refine e1a2 (hx.get hxi) ?_;rintro b hb hr)
  rw [Array.getElem?_toList] at hb
  have:b=v:=Option.some.inj (hb.symm.trans hv)
  subst this
  exact (rd_ox (hr.keep ek)).kpf kp
 ·intro b hb
  rcases List.mem_cons.mp hb with rfl | hb
  ·refine ⟨⟨_,Heap.get?_push_size _ rfl⟩,.inl ?_⟩
   cases hh:s1.heap.get? s.heap.objs.size with
   | none=>rfl
   | some o=>exact absurd (Heap.lt_size (st.keep _ _ hh)) (Nat.lt_irrefl _)
  ·rcases List.mem_cons.mp hb with rfl | hb
   ·(refine e1a1 hl ?_;try clear hl;rintro n ho)
    refine ⟨⟨_,ek _ _ ho⟩,?_⟩
    cases hh:s1.heap.get? b with
    | none=>exact .inl rfl
    | some o =>
     have:=st.keep _ _ hh
     rw [ho] at this
     (replace this:=(Option.some.inj this).symm;subst this)
     exact .inr ⟨_,_,_,rfl,rfl,.inr fun e=>hfr e b rfl⟩
   ·cases hb
theorem it_tuple (hh:A.handled=none) (st:Stp s1 s) {k:Nat} {v:Value} {xs:List PyData} (r:RdG Own k s.heap v (.tuple xs))
  (h:∀ v s0,Stp s s0->WalkAt c A Own k false s1 s0 v xs->Q v s0):wpAny (model c.prog c.w) A (pyIter v) Q Er s:=by
 (refine e2a3 ((r.nolist fun u_ q=>by cases q).untuple) ?_;rintro a vs rfl hl hx)
 refine wpAny_pyIter_tuple hl (h _ _ .push ?_)
 have hne:a≠s.heap.objs.size:=by (refine e1a2 hl ?_;try clear hl;rintro o ho u_);exact Nat.ne_of_lt (Heap.lt_size ho)
 have ek:KeepH s.heap (s.heap.push { cls:=.type "tuple_iterator",data:=.fields #[.ref a,.int 0 0] }):=.push _ _
 have elen:=hx.length
 rw [Array.length_toList] at elen
 refine ⟨[s.heap.objs.size,a],[s.heap.objs.size],[],_,_,Wk.of (nm:="tuple_iterator") (xs:=xs) (Walks.tuple hh _ a hne vs) elen.symm (by decide)
  (fun i h st=>let ⟨o,ho,hc,hd⟩:=st.1;⟨o,_,ho,hc,hd⟩) (fun i h st=>liv2 (let ⟨o,ho,_⟩:=st.1;⟨o,ho⟩) (let ⟨o,ho,_⟩:=st.2;⟨o,ho⟩)) ?_,⟨0,Nat.zero_le _,rfl,⟨_,Heap.get?_push_size _ rfl,rfl,rfl⟩,hl.push _⟩,wr_one st,?_,fun u_ m=>nomatch m⟩
 ·intro i v d h' hxi hv kp
  (refine e1a2 (hx.get hxi) ?_;rintro b hb hr)
  rw [Array.getElem?_toList] at hb
  have:b=v:=Option.some.inj (hb.symm.trans hv)
  subst this
  exact (rd_ox (hr.keep ek)).kpf kp
 ·intro b hb
  rcases List.mem_cons.mp hb with rfl | hb
  ·refine ⟨⟨_,Heap.get?_push_size _ rfl⟩,.inl ?_⟩
   cases hh:s1.heap.get? s.heap.objs.size with
   | none=>rfl
   | some o=>exact absurd (Heap.lt_size (st.keep _ _ hh)) (Nat.lt_irrefl _)
  ·rcases List.mem_cons.mp hb with rfl | hb
   ·(refine e1a3 hl ?_;try clear hl;rintro o ho hc hz_;obtain ⟨n,hd⟩:=hz_)
    refine ⟨⟨_,ek _ _ ho⟩,?_⟩
    cases hh:s1.heap.get? b with
    | none=>exact .inl rfl
    | some o' =>
     have:=st.keep _ _ hh
     rw [ho] at this
     (replace this:=(Option.some.inj this).symm;subst this)
     exact .inr ⟨_,_,_,rfl,hd,.inl hc⟩
   ·cases hb
theorem it_str (hh:A.handled=none) (st:Stp s1 s) {k:Nat} {v:Value} {x:Str} (ha:asc (sl x)=true) (r:RdG Own k s.heap v (.str x))
  (h:∀ v s0,Stp s s0->WalkAt c A Own k false s1 s0 v (signsOf (sl x))->Q v s0):wpAny (model c.prog c.w) A (pyIter v) Q Er s:=by
 (refine e1a1 r.any.str ?_;rintro t rfl)
 have hasc:x.cps.all (· < 128)=true:=by
  rw [<-Array.all_toList]
  refine List.all_eq_true.mpr fun c hc=>?_
  have:=List.all_eq_true.mp ha c hc
  simpa using this
 refine wpAny_pyIter_ascii hasc (h _ _ .push ?_)
 refine ⟨[s.heap.objs.size],[s.heap.objs.size],[],_,_,Wk.of (nm:="str_ascii_iterator") (xs:=signsOf (sl x)) (Walks.strAscii hh _ x t) (by simp [signsOf,sl]) (by decide)
  (fun i h st=>let ⟨o,ho,hc,hd⟩:=st;⟨o,_,ho,hc,hd⟩) (fun i h st=>liv1 (let ⟨o,ho,_⟩:=st;⟨o,ho⟩)) ?_,⟨0,Nat.zero_le _,rfl,_,Heap.get?_push_size _ rfl,rfl,rfl⟩,wr_one st,?_,fun u_ m=>nomatch m⟩
 ·intro i v d h' hxi hv kp
  (refine e2a2 hv ?_;try clear hv;rintro b u hb rfl)
  have:d=S [b]:=by
   simp only [signsOf,sl,List.getElem?_map,Array.getElem?_toList,hb,Option.map_some,Option.some.injEq] at hxi
   exact hxi.symm
  subst this
  exact .mkStr
 ·intro b hb
  rcases List.mem_cons.mp hb with rfl | hb
  ·exact ⟨⟨_,Heap.get?_push_size _ rfl⟩,.inl (fresh1 st)⟩
  ·cases hb
theorem rngL_length (a c:Int):∀ n,(rngL a c n).length=n
 | 0=>rfl
 | n+1=>by simp [rngL,rngL_length (a+c) c n]
theorem rngL_get (c:Int):∀ (n:Nat) (a:Int) (i:Nat) (d:PyData),(rngL a c n)[i]?=some d->d=.int (a+i * c)
 | 0,_,_,_,h=>by simp [rngL] at h
 | n+1,a,0,d,h=>by simp [rngL] at h;simp [<-h]
 | n+1,a,i+1,d,h=>by
  simp only [rngL,List.getElem?_cons_succ] at h
  rw [rngL_get c n (a+c) i d h]
  congr 1
  push_cast
  rw [Int.add_mul,Int.one_mul]
  lia
theorem it_range (hh:A.handled=none) (st:Stp s1 s) {k:Nat} {r:Addr} {a b st':Int} {t u w':Tok} (hr:IsRange s.heap r a b st' t u w') (hsm:Builtin.Range.small a b st'=true) {n:Nat} (hn:Builtin.Range.rangeSize a b st'=n)
  (h:∀ v s0,Stp s s0->WalkAt c A Own k false s1 s0 v (rngL a st' n)->Q v s0):wpAny (model c.prog c.w) A (pyIter (.ref r)) Q Er s:=by
 refine wpAny_pyIter_range hr hsm (h _ _ .push ?_)
 refine ⟨[s.heap.objs.size],[s.heap.objs.size],[],_,_,Wk.of (nm:="range_iterator") (xs:=rngL a st' n) (Walks.range hh _ a st' n) (rngL_length _ _ _) (by decide)
  (fun i h st=>⟨_,_,st,rfl,rfl⟩) (fun i h st=>liv1 ⟨_,st⟩) ?_,⟨0,Nat.zero_le _,rfl,?_⟩,wr_one st,?_,fun u_ m=>nomatch m⟩
 ·intro i v d h' hxi hv kp
  (refine e1a1 hv ?_;try clear hv;rintro u rfl)
  rw [rngL_get st' n a i d hxi]
  exact .mkInt
 ·rw [hn]
  have e:((0:Nat):Int)=0:=rfl
  rw [e,Int.zero_mul,Int.add_zero,Int.sub_zero]
  exact Heap.get?_push_size _ rfl
 ·intro b hb
  rcases List.mem_cons.mp hb with rfl | hb
  ·exact ⟨⟨_,Heap.get?_push_size _ rfl⟩,.inl (fresh1 st)⟩
  ·cases hb
end
theorem enumL_length:∀ (xs:List PyData) (j:Nat),(enumL xs j).length=xs.length
 | [],_=>rfl
 | _::xs,j=>by simp [enumL,enumL_length xs (j+1)]
theorem enumL_get:∀ (xs:List PyData) (j i:Nat) (x:PyData),xs[i]?=some x->(enumL xs j)[i]?=some (.tuple [.int ((j+i:Nat):Int),x])
 | [],_,_,_,h=>by simp at h
 | y::xs,j,0,x,h=>by simp at h;simp [enumL,h]
 | y::xs,j,i+1,x,h=>by
  simp only [enumL,List.getElem?_cons_succ] at h ⊢
  rw [enumL_get xs (j+1) i x h]
  congr 5
  lia
theorem enum_fld {h:Heap} {e it l:Addr} {vs:Array Value} (he:∃ o fs,h.get? e=some o/\o.data=.fields fs) {j:Nat} (hi:h.IsListIter it l j):∀ b∈[e,it],∀ o,h.get? b=some o->∃ fs,o.data=.fields fs:=by
 intro b hb o ho
 simp only [List.mem_cons,List.not_mem_nil,or_false] at hb
 rcases hb with rfl | rfl
 ·(refine e2a2 he ?_;try clear he;rintro o' fs ho' hd)
  rw [ho] at ho';(replace ho':=(Option.some.inj ho').symm;subst ho');exact ⟨fs,hd⟩
 ·(refine e1a3 hi ?_;try clear hi;rintro o' ho' u_ hd)
  rw [ho] at ho';(replace ho':=(Option.some.inj ho').symm;subst ho');exact ⟨_,hd⟩
section
variable {c:Cfg} {A:Around} {Er:Value->Shared->Prop} {s1 s:Shared} {Q:Value->Shared->Prop} {Own:Addr->Prop}
set_option tactic.hygienic true in
theorem Wk.enum {c:Cfg} {A:Around} (hh:A.handled=none) {OX:Addr->Prop} {s0:Shared} {e it l:Addr} (hei:e≠it) (hle:l≠e) (hli:l≠it) {vs:Array Value} {xs:List PyData} (hx:All2 (Rd0 OX s0.heap) vs.toList xs) :
  Wk c A OX s0 true (.ref e) [e,it,l] [e,it] []
   (fun ds s=>∃ i,i<=vs.size/\ds=(enumL xs 0).drop i/\(∃ old,IsEnum s.heap e it i old)/\s.heap.IsListIter it l i/\s.heap.IsList l vs)
   (fun d ds v s=>∃ i T vals,i < vs.size/\v=.ref T/\(enumL xs 0)[i]?=some d/\ds=(enumL xs 0).drop (i+1)/\(∃ t x,vs[i]?=some x/\vals=#[.int i t,x])/\s.heap.IsTuple T vals /\
    ((∃ x,IsEnumOut s.heap e it ((i:Int)+1) x T)/\s.heap.IsListIter it l (i+1)/\s.heap.IsList l vs/\T≠e/\T≠it)) where
 stay:=by
  rintro ds s s' hz_
  (refine e1a3 hz_ ?_;try clear hz_;rintro i hi rfl st)
  rintro hk _ _
  exact ⟨i,hi,rfl,(WalksT.enumerate (prog:=c.prog) (w:=c.w) (A:=A) hh e it l hei hle hli vs).frame i _ _ st fun b hb o e=>hk b o (.inl hb) e⟩
 liv:=by
  rintro ds s hz_
  (refine e1a5 hz_ ?_;try clear hz_;rintro i hi rfl ⟨old,he⟩ hit hl)
  rintro b hb
  simp only [List.mem_cons,List.not_mem_nil,or_false] at hb
  rcases hb with rfl | rfl | rfl
  ·exact ⟨_,he⟩
  ·(refine e1a2 hit ?_;try clear hit;rintro o ho _);exact ⟨o,ho⟩
  ·(refine e1a2 hl ?_;try clear hl;rintro o ho _);exact ⟨o,ho⟩
 next:=by
  rintro d ds s Q Er B hz_
  (refine e1a3 hz_ ?_;try clear hz_;rintro i hi ee st)
  rintro _ hQ
  have elen:=hx.length
  rw [Array.length_toList] at elen
  have en:(enumL xs 0).length=vs.size:=by rw [enumL_length,elen]
  have hlt:i < vs.size:=by
   rcases Nat.lt_or_ge i vs.size with h | h
   ·exact h
   ·rw [List.drop_of_length_le (by lia)] at ee;cases ee
  have e2:(enumL xs 0).drop i=(enumL xs 0)[i]::(enumL xs 0).drop (i+1):=List.drop_eq_getElem_cons (by lia)
  rw [e2] at ee
  obtain ⟨rfl,rfl⟩:=List.cons.inj ee
  refine (WalksT.enumerate (A:=A) hh e it l hei hle hli vs).item i s Q Er hlt st fun T vals h' tk hP _ hT hm hk=>?_
  exact hQ _ _ (.heap (enum_fld (vs:=vs) (let ⟨old,he⟩:=st.1;⟨_,_,he,rfl⟩) st.2.1) fun b o hb e=>hk b o hb e) ⟨i,T,vals,hlt,rfl,by simp,rfl,hP,hT,hm⟩
 go:=by
  rintro target d ds v s Q Er ht hz_
  (refine e3a7 hz_ ?_;try clear hz_;rintro i T vals hi rfl hxi rfl ⟨t,x,hvx,rfl⟩ hT hm)
  rintro kp hQ
  (refine e3a1 (ht rfl) ?_;rintro es k p rfl)
  have hap:=hm.2.2.2
  refine (WalksT.enumerate (A:=A) hh e it l hei hle hli vs).go es k p i T s Q Er hm fun h' st hk=>?_
  have hT':h'.IsTuple T #[.int i t,x]:=by
   (refine e1a2 hT ?_;try clear hT;rintro o ho r)
   exact ⟨o,hk T o (by simp [hap.1,hap.2]) ho,r⟩
  refine hQ _ (.heap (tk:=s.toks) (enum_fld (vs:=vs) (let ⟨old,he⟩:=hm.1;⟨_,_,he,rfl⟩) hm.2.1) fun b o hb e=>hk b o hb e) ⟨i+1,hi,rfl,st⟩ ?_
  ·(refine e1a2 (hx.get' (show vs.toList[i]?=some x by rw [Array.getElem?_toList];exact hvx)) ?_;rintro b hb hr)
   have q:=enumL_get xs 0 i b hb
   rw [hxi] at q
   have q:=Option.some.inj q
   rw [q]
   have kp':KpF OX s0.heap h':=fun b o vs' n hb hd hc=>by
    have hs:=kp b o vs' n hb hd hc
    refine hk b o (fun m=>?_) hs
    simp only [List.mem_cons,List.not_mem_nil,or_false] at m
    rcases m with rfl | rfl
    ·(refine e1a1 hm.1 ?_;rintro x' he)
     rw [he] at hs;(replace hs:=(Option.some.inj hs).symm;subst hs);cases hd
    ·(refine e1a3 hm.2.1 ?_;rintro o' ho' _ hd')
     rw [ho'] at hs;(replace hs:=(Option.some.inj hs).symm;subst hs);rw [hd'] at hd;cases hd
   rw [Nat.zero_add]
   exact Rd0.tuple hT' (.cons .mkInt (.cons (hr.kpf kp') .nil))
 done:=by
  rintro s Q Er B hz_
  (refine e1a3 hz_ ?_;try clear hz_;rintro i hi e st)
  rintro hQ
  have elen:=hx.length
  rw [Array.length_toList] at elen
  have:i=vs.size:=by
   have q:=congrArg List.length e
   rw [List.length_nil,List.length_drop,enumL_length] at q
   grind
  subst this
  refine (WalksT.enumerate (A:=A) hh _ it l hei hle hli vs).done s Q Er st fun h' tk hk=>hQ _ (.heap (enum_fld (vs:=vs) (let ⟨old,he⟩:=st.1;⟨_,_,he,rfl⟩) st.2.1) fun b o hb e=>hk b o hb e)
 self:=by
  rintro ds s Q Er hz_
  (refine e1a3 hz_ ?_;try clear hz_;rintro i hi rfl st)
  rintro hQ
  exact (WalksT.enumerate (A:=A) hh e it l hei hle hli vs).self i s Q Er st hQ
theorem it_enum (hh:A.handled=none) (st:Stp s1 s) {k:Nat} (hk:k<=1) {v:Value} {xs:List PyData} (r:RdG Own k s.heap v (.list xs)) (hfr:k=0->∀ a,v=.ref a->¬ Own a)
  (h:∀ v s0,Stp s s0->WalkAt c A Own k true s1 s0 v (enumL xs 0)->Q v s0) :
  wpAny (model c.prog c.w) A (call (.type "enumerate") [v]) (fun x s₁=>wpAny (model c.prog c.w) A (pyIter x) Q Er s₁) Er s:=by
 (refine e2a3 (r.one hk) ?_;rintro a vs rfl hl hx)
 refine call_enumerate_list hl.isList fun h' he hit hsz hkp=>?_
 refine wpAny_pyIter_enum he (h _ _ (.heap hkp) ?_)
 have ha:a < s.heap.objs.size:=by (refine e1a1 hl ?_;try clear hl;rintro n ho);exact Heap.lt_size ho
 have fresh:∀ j,s.heap.objs.size<=j->s1.heap.get? j=none:=fun j hj=>by
  cases hh:s1.heap.get? j with
  | none=>rfl
  | some o=>exact absurd (Heap.lt_size (st.keep _ _ hh)) (Nat.not_lt.mpr hj)
 refine ⟨_,_,[],_,_,Wk.enum hh (Nat.ne_of_gt (Nat.lt_succ_self _)) (Nat.ne_of_lt (Nat.lt_succ_of_lt ha)) (Nat.ne_of_lt ha) (vs:=vs) (xs:=xs) ?_,⟨0,Nat.zero_le _,rfl,⟨_,he⟩,hit,(PlainList.keep hkp hl).isList⟩,?_,?_,fun u_ m=>nomatch m⟩
 ·exact hx.mono fun u_ u_ q=>rd_ox (q.keep hkp)
 ·intro b hb
  simp only [List.mem_cons,List.not_mem_nil,or_false] at hb
  rcases hb with rfl | rfl
  ·exact ⟨List.mem_cons_self,fresh _ (Nat.le_succ _)⟩
  ·exact ⟨List.mem_cons_of_mem _ List.mem_cons_self,fresh _ (Nat.le_refl _)⟩
 ·intro b hb
  simp only [List.mem_cons,List.not_mem_nil,or_false] at hb
  rcases hb with rfl | rfl | rfl
  ·exact ⟨⟨_,he⟩,.inl (fresh _ (Nat.le_succ _))⟩
  ·(refine e1a2 hit ?_;try clear hit;rintro o ho u_)
   exact ⟨⟨_,ho⟩,.inl (fresh _ (Nat.le_refl _))⟩
  ·(refine e1a1 hl ?_;try clear hl;rintro n ho)
   refine ⟨⟨_,hkp _ _ ho⟩,?_⟩
   cases hh:s1.heap.get? b with
   | none=>exact .inl rfl
   | some o =>
    have:=st.keep _ _ hh
    rw [ho] at this
    (replace this:=(Option.some.inj this).symm;subst this)
    exact .inr ⟨_,_,_,rfl,rfl,.inr fun e=>hfr e b rfl⟩
end
noncomputable def isEnm:It->Bool
 | .enm _=>true
 | _=>false
noncomputable def ItOK (c:Cfg) (it:It):Prop :=
 ∀ (n:Nat) (A:Around) (env:Env) (Own:Addr->Prop) (M:Nat->Nat) (E:AE) (s:Shared) (e:Expr) (ds:List PyData) (Q:Value->Shared->Prop) (Er:Value->Shared->Prop),
  Cx c n A Own env M E s->chkIt c.fnm c.rk n env.scope it e=true->okIt M it=true->evIt c.G c.T it E=some ds ->
  (∀ v s0,Stp s s0->WalkAt c A Own (itK M it) (isEnm it) s s0 v ds->Q v s0)->wpAny (model c.prog c.w) A (eval e env) (fun x s₁=>wpAny (model c.prog c.w) A (pyIter x) Q Er s₁) Er s
noncomputable def GenOK (c:Cfg) (a:X):Prop :=
 ∀ (n:Nat) (A:Around) (env:Env) (Own:Addr->Prop) (M:Nat->Nat) (E:AE) (s:Shared) (e:Expr) (ds:List PyData) (Q:Value->Shared->Prop) (Er:Value->Shared->Prop),
  Cx c n A Own env M E s->chkIt c.fnm c.rk n env.scope (.gen a) e=true->okIt M (.gen a)=true->evIt c.G c.T (.gen a) E=some ds ->
  (∀ v s0,Stp s s0->WalkAt c A Own 0 false s s0 v ds->Q v s0)->wpAny (model c.prog c.w) A (eval e env) Q Er s
theorem it_ofGen {c:Cfg} {a:X} (hg:GenOK c a):ItOK c (.gen a):=by
 intro n A env Own M E s e ds Q Er X hc ho he h
 refine hg n A env Own M E s e ds _ Er X hc ho he fun v s0 st W=>?_
 (refine e5a5 (id W) ?_;rintro fp wr gs St Mid Wk hst u1_ u2_ u3_)
 exact Wk.self ds s0 Q Er hst (h v s0 st W)
section
variable {c:Cfg}
theorem Room.zero {n:Nat} {A:Around} (R:Room n A):Room 0 A:=⟨by have:=R.depth;lia,by have:=R.units;lia,R.hand⟩
theorem Room.le {n m:Nat} {A:Around} (R:Room n A) (h:m<=n):Room m A:=⟨by have:=R.depth;lia,by have:=R.units;lia,R.hand⟩
theorem own_of {Own:Addr->Prop} {k:Nat} {s:Shared} {v:Value} {xs:List PyData} (r:RdG Own k s.heap v (.list xs)):k=0->∀ a,v=.ref a->¬ Own a:=by
 rintro rfl a rfl
 (refine e2a4 (Rd0.unlist r) ?_;rintro b vs e u_ u_ hn)
 cases e
 exact hn
theorem it_val (C:CfgOK c) {a:X} (ha:EvOK c a):ItOK c (.val a):=by
 intro n A env Own M E s e ds Q Er X hc ho he h
 dsimp only [chkIt_q_val] at hc
 replace ho:=c_bd (okIt_q_val.symm.trans ho)
 revert he
 refine sbn fun x hx hi=>?_
 refine ha n A env Own M E s e x _ Er X hc ho.1 hx fun v s' st r u_=>?_
 cases x with
 | list xs =>
  simp only [items] at hi
  revert hi
  refine ifs fun z0c hi=>?_
  (replace hi:=(Option.some.inj hi).symm;subst hi)
  exact it_list X.room.hand st ho.2 r (fun v s0 st2 W=>h v s0 (st.trans st2) W) (own_of r)
 | tuple xs =>
  simp only [items] at hi
  revert hi
  refine ifs fun z0c hi=>?_
  (replace hi:=(Option.some.inj hi).symm;subst hi)
  exact it_tuple X.room.hand st r (fun v s0 st2 W=>h v s0 (st.trans st2) W)
 | str x =>
  simp only [items] at hi
  revert hi
  refine ifs fun hle hi=>?_
  (replace hi:=(Option.some.inj hi).symm;subst hi)
  exact it_str X.room.hand st hle.1 r (fun v s0 st2 W=>h v s0 (st.trans st2) W)
 | _=>exact nso hi
theorem callWith_type2 {prog:Program} {w:World} {A:Around} {Er:Value->Shared->Prop} {s:Shared} {Q:Value->Shared->Prop} {T:String} {pos:Pos} {t u:Sem Value} (h:wpAny (model prog w) A t (fun v s₁=>wpAny (model prog w) A u (fun v2 s₂=>wpAny (model prog w) A (call (.type T) [v,v2]) Q Er s₂) Er s₁) Er s) :
  wpAny (model prog w) A (callWith pos (.type T) [] [(false,t),(false,u)] []) Q Er s :=
 PySem.callWith_type rfl (Calls.evalArgs_plain (Calls.spliced_cons (wpAny_mono h (fun u_ u_ h₁=>Calls.spliced_cons (wpAny_mono h₁ (fun u_ u_ h₂=>Calls.spliced_nil h₂) fun u_ u_ e=>e)) fun u_ u_ e=>e)))
theorem callWith_type3 {prog:Program} {w:World} {A:Around} {Er:Value->Shared->Prop} {s:Shared} {Q:Value->Shared->Prop} {T:String} {pos:Pos} {t u v:Sem Value} (h:wpAny (model prog w) A t (fun x s₁=>wpAny (model prog w) A u (fun x2 s₂=>wpAny (model prog w) A v (fun x3 s₃=>wpAny (model prog w) A (call (.type T) [x,x2,x3]) Q Er s₃) Er s₂) Er s₁) Er s) :
  wpAny (model prog w) A (callWith pos (.type T) [] [(false,t),(false,u),(false,v)] []) Q Er s :=
 PySem.callWith_type rfl (Calls.evalArgs_plain (Calls.spliced_cons (wpAny_mono h (fun u_ u_ h₁=>Calls.spliced_cons (wpAny_mono h₁ (fun u_ u_ h₂=>Calls.spliced_cons (wpAny_mono h₂ (fun u_ u_ h₃=>Calls.spliced_nil h₃) fun u_ u_ e=>e)) fun u_ u_ e=>e)) fun u_ u_ e=>e)))
theorem fit63 {x:Int} (h1:-(2 ^ 62)<=x) (h2:x<=2 ^ 62):-2 ^ 63<=x/\x < 2 ^ 63:=⟨Int.le_trans (by decide) h1,Int.lt_of_le_of_lt h2 (by decide)⟩
theorem fit_lo {x:Int} (h1:-200000<=x) (h2:x<=300000):-2 ^ 63<=x/\x < 2 ^ 63:=fit63 (Int.le_trans (by decide) h1) (Int.le_trans h2 (by decide))
theorem small_of {a b st:Int} (h1:-100000<=a) (h2:a<=100000) (h3:b<=100000) (h4:0 < st) (h5:st<=1000) (hb:-(2 ^ 62)<=b):Builtin.Range.small a b st=true/\∃ n:Nat,Builtin.Range.rangeSize a b st=n/\rngN a b st=n:=by
 have fa:=fit_lo (Int.le_trans (by decide) h1) (Int.le_trans h2 (by decide))
 have fb:=fit63 hb (Int.le_trans h3 (by decide))
 have fs:=fit_lo (Int.le_trans (by decide) (Int.le_of_lt h4)) (Int.le_trans h5 (by decide))
 have hs:0<=st - 1:=Int.sub_nonneg_of_le h4
 unfold Builtin.Range.small Builtin.Range.rangeSize rngN
 rw [if_pos h4]
 simp only [Builtin.Range.rangeFitsLong,Bool.and_eq_true,Bool.or_eq_true,decide_eq_true_eq,beq_iff_eq,show st > 0 from h4,if_true]
 by_cases hab:a < b
 ·rw [if_pos hab,if_pos hab]
  have e:(b - a+st - 1) / st=(b - a - 1) / st+1:=by
   rw [show b - a+st - 1=(b - a - 1)+st * 1 by lia,Int.add_mul_ediv_left _ _ (Int.ne_of_gt h4)]
  have h7:0<=b - a - 1:=by lia
  have h0:0<=(b - a - 1) / st:=Int.ediv_nonneg h7 (Int.le_of_lt h4)
  have h6:(b - a - 1) / st<=b - a - 1:=Int.ediv_le_self _ h7
  generalize (b - a - 1) / st=q at e h0 h6 ⊢
  exact ⟨⟨⟨⟨⟨fa,fb⟩,fs⟩,fit_lo (by lia) (by lia)⟩,.inr (fit_lo (by lia) (by lia))⟩,(q+1).toNat,(Int.toNat_of_nonneg (Int.le_trans h0 (Int.le_add_of_nonneg_right (by decide)))).symm,by rw [e]⟩
 ·rw [if_neg hab,if_neg hab]
  exact ⟨⟨⟨⟨⟨fa,fb⟩,fs⟩,fit_lo (by decide) (by decide)⟩,.inl rfl⟩,0,rfl,rfl⟩
theorem it_rng1 (C:CfgOK c) {a:X} (ha:EvOK c a):ItOK c (.rng1 a):=by
 intro n A env Own M E s e ds Q Er X hc ho he h
 dsimp only [chkIt_q_rng1] at hc
 dsimp only [okIt_q_rng1] at ho
 revert he
 refine sbn fun x hx=>sbn fun i hi hz=>?_
 (refine e3a4 (inv_fn1 hc) ?_;rintro z p0 q rfl h1 h2 h3)
 revert hz
 refine ifs fun hle hz=>?_
 (replace hz:=(Option.some.inj hz).symm;subst hz)
 have hq0:=intOf_some hi
 subst hq0
 refine wpAny_Call_NameR (glob_ty C (x:="range") (by decide) X.eok X.base h1 ?_)
 rw [trees1 h2]
 refine PySem.callWith_type1 (ha n A env Own M E s z _ _ Er X h3 ho hx fun v s' st r u_=>?_)
 (refine e1a1 r.any.int ?_;rintro t rfl)
 refine call_range_1 ?_
 (refine by_goal fun G_ hG_=>?_;rcases small_of (a:=0) (b:=i) (st:=1) (by decide) (by decide) hle.2 (by decide) (by decide) (Int.le_trans (by decide) hle.1) with ⟨hs,m,hm,u_⟩;all_goals (refine hG_ ?_;clear hG_ G_))
 have em:m=i.toNat:=by rw [rangeSize_one] at hm;split at hm <;> lia
 subst em
 have st2:=st.trans (Stp.trans (Stp.push (o:={ cls:=.type "range",data:=.fields #[.int 0 s'.toks,.int i t,.int 1 (s'.toks+1)] })) (Stp.toks (tk:=s'.toks+1+1)))
 exact it_range X.room.hand st2 (k:=0) (IsRange.new _ _ _ _ _ _ _) hs hm fun v s0 st3 W=>h v s0 (st2.trans st3) W
theorem it_rng2 (C:CfgOK c) {a b:X} (ha:EvOK c a) (hb:EvOK c b):ItOK c (.rng2 a b):=by
 intro n A env Own M E s e ds Q Er X hc ho he h
 dsimp only [chkIt_q_rng2] at hc
 replace ho:=c_bb (okIt_q_rng2.symm.trans ho)
 revert he
 refine sbn fun x hx=>sbn fun i hi=>sbn fun y hy=>sbn fun j hj hz=>?_
 (refine e4a6 (inv_fn2 hc) ?_;rintro z z2 p0 q rfl h1 h2 h3 h4 h5)
 revert hz
 refine ifs fun hle hz=>?_
 (replace hz:=(Option.some.inj hz).symm;subst hz)
 have hq0:=intOf_some hi
 subst hq0
 have hq0:=intOf_some hj
 subst hq0
 refine wpAny_Call_NameR (glob_ty C (x:="range") (by decide) X.eok X.base h1 ?_)
 rw [trees2 h2 h3]
 refine callWith_type2 (ha n A env Own M E s z _ _ Er X h4 ho.1 hx fun v s' st r u_=>hb n A env Own M E s' z2 _ _ Er (X.stp C st) h5 ho.2 hy fun v2 s2 st2 r2 u_=>?_)
 (refine e1a1 r.any.int ?_;rintro t rfl)
 (refine e1a1 r2.any.int ?_;rintro u rfl)
 refine call_range_2 ?_
 (refine by_goal fun G_ hG_=>?_;rcases small_of (a:=i) (b:=j) (st:=1) hle.1 hle.2.1 hle.2.2.2 (by decide) (by decide) (Int.le_trans (by decide) hle.2.2.1) with ⟨hs,m,hm,u_⟩;all_goals (refine hG_ ?_;clear hG_ G_))
 have em:m=(j - i).toNat:=by rw [rangeSize_one] at hm;split at hm <;> first | lia | grind
 subst em
 have st3:=(st.trans st2).trans (Stp.trans (Stp.push (o:={ cls:=.type "range",data:=.fields #[.int i t,.int j u,.int 1 s2.toks] })) (Stp.toks (tk:=s2.toks+1)))
 exact it_range X.room.hand st3 (k:=0) (IsRange.new _ _ _ _ _ _ _) hs hm fun v s0 st4 W=>h v s0 (st3.trans st4) W
theorem it_rng3 (C:CfgOK c) {a b d:X} (ha:EvOK c a) (hb:EvOK c b) (hd:EvOK c d):ItOK c (.rng3 a b d):=by
 intro n A env Own M E s e ds Q Er X hc ho he h
 dsimp only [chkIt_q_rng3] at hc
 replace ho:=c_bbb (okIt_q_rng3.symm.trans ho)
 revert he
 refine sbn fun x hx=>sbn fun i hi=>sbn fun y hy=>sbn fun j hj=>sbn fun u hu=>sbn fun k hk hz=>?_
 (refine e5a8 (inv_fn3 hc) ?_;rintro z z2 z3 p0 q rfl h1 h2 h3 h4 h5 h6 h7)
 revert hz
 refine ifs fun hle hz=>?_
 (replace hz:=(Option.some.inj hz).symm;subst hz)
 have hq0:=intOf_some hi
 subst hq0
 have hq0:=intOf_some hj
 subst hq0
 have hq0:=intOf_some hk
 subst hq0
 refine wpAny_Call_NameR (glob_ty C (x:="range") (by decide) X.eok X.base h1 ?_)
 rw [trees3 h2 h3 h4]
 refine callWith_type3 (ha n A env Own M E s z _ _ Er X h5 ho.1.1 hx fun v s' st r u_=>hb n A env Own M E s' z2 _ _ Er (X.stp C st) h6 ho.1.2 hy fun v2 s2 st2 r2 u_ =>
  hd n A env Own M E s2 z3 _ _ Er (X.stp C (st.trans st2)) h7 ho.2 hu fun v3 s3 st3 r3 u_=>?_)
 (refine e1a1 r.any.int ?_;rintro t rfl)
 (refine e1a1 r2.any.int ?_;rintro u rfl)
 (refine e1a1 r3.any.int ?_;rintro w rfl)
 refine call_range_3 (by omega) ?_ (Or.inl (PyProof.noPylong_small (by omega)))
 (refine by_goal fun G_ hG_=>?_;rcases small_of (a:=i) (b:=j) (st:=k) hle.2.2.1 hle.2.2.2.1 hle.2.2.2.2.2 hle.1 hle.2.1 (Int.le_trans (by decide) hle.2.2.2.2.1) with ⟨hs,m,hm,hm2⟩;all_goals (refine hG_ ?_;clear hG_ G_))
 subst hm2
 have st4:=((st.trans st2).trans st3).trans (Stp.trans (Stp.push (o:={ cls:=.type "range",data:=.fields #[.int i t,.int j u,.int k w] })) (Stp.toks (tk:=s3.toks)))
 exact it_range X.room.hand st4 (k:=0) (IsRange.new _ _ _ _ _ _ _) hs hm fun v s0 st5 W=>h v s0 (st4.trans st5) W
theorem it_enm (C:CfgOK c) {a:X} (ha:EvOK c a):ItOK c (.enm a):=by
 intro n A env Own M E s e ds Q Er X hc ho he h
 dsimp only [chkIt_q_enm] at hc
 replace ho:=c_bd (okIt_q_enm.symm.trans ho)
 revert he
 refine sbn fun x hx=>sbn fun ys hy hz=>?_
 (refine e3a4 (inv_fn1 hc) ?_;rintro z p0 q rfl h1 h2 h3)
 revert hz
 refine ifs fun z0c hz=>?_
 (replace hz:=(Option.some.inj hz).symm;subst hz)
 have hq0:∃ v0,x=.list v0:=by revert hy;generalize x=y0;intro hy;cases y0 <;> first | exact ⟨_,rfl⟩ | exact nso hy | exact nbt hy | cases hy
 (refine e1a1 hq0 ?_;try clear hq0;rintro xs rfl)
 (replace hy:=(Option.some.inj hy).symm;subst hy)
 refine wpAny_Call_NameR (glob_ty C (x:="enumerate") (by decide) X.eok X.base h1 ?_)
 rw [trees1 h2]
 refine PySem.callWith_type1 (ha n A env Own M E s z _ _ Er X h3 ho.1 hx fun v s' st r u_=>?_)
 exact it_enum X.room.hand st ho.2 r (own_of r) fun v s0 st2 W=>h v s0 (st.trans st2) W
end
theorem lof_gen {c:Cfg} {n:Nat} {sc:Scope} {it:It} {e:Expr} (hc:chkX c.fnm c.rk n sc (.lof it) e=true):∃ z p0 q,e=.Call (.Name "list" p0) [z] [] q/\isGlob sc "list"=true/\notStar z=true/\chkIt c.fnm c.rk n sc it z=true:=by
 simp only [chkX_q_lof,Bool.and_eq_true] at hc
 exact inv_fn1 hc.2
theorem newList_rd {Own:Addr->Prop} {s:Shared} {h':Heap} (live:∀ a,Own a->∃ o,s.heap.get? a=some o) {acc:List Value} {c':Nat} {xs:List PyData} (k:KeepH s.heap h')
  (hp:h'.get? s.heap.objs.size=some { cls:=.type "list",dict:=none,data:=.seq acc.toArray c',slots:=#[] }) (hx:All2 (Rd0 Own s.heap) acc xs):Rd0 Own h' (.ref s.heap.objs.size) (.list xs):=by
 refine RdG.list ⟨_,hp⟩ (hx.mono fun u_ u_ q=>q.keep k) fun q=>?_
 (refine e1a1 (live _ q) ?_;rintro o ho)
 exact absurd (Heap.lt_size ho) (Nat.lt_irrefl _)
theorem Fr1.size {s1 s:Shared} (st:Stp s1 s):Fr1 s1 (.ref s.heap.objs.size):=fun a e=>by cases e;exact fresh1 st
theorem items_all2 {P:Nat->Value->Prop} {R:Value->PyData->Prop} {acc:Array Value} {n:Nat} {xs:List PyData} (hI:ItemsOf P acc n) (hn:n=xs.length) (h:∀ i d v,xs[i]?=some d->P i v->R v d):All2 R acc.toList xs:=by
 have key:∀ (l:List Value) (ys:List PyData),l.length=ys.length->(∀ (i:Nat) (v:Value) (d:PyData),l[i]?=some v->ys[i]?=some d->R v d)->All2 R l ys:=by
  intro l
  induction l with
  | nil=>intro ys hl _;cases ys with
   | nil=>exact .nil
   | cons _ _=>simp at hl
  | cons a l ih=>intro ys hl hh;cases ys with
   | nil=>simp at hl
   | cons b ys =>
    exact .cons (hh 0 a b rfl rfl) (ih ys (by simpa using hl) fun i v d h1 h2=>hh (i+1) v d (by simpa using h1) (by simpa using h2))
 refine key _ _ (by rw [Array.length_toList,hI.1,hn]) fun i v d h1 h2=>h i d v h2 (hI.2 i v (by rw [Array.getElem?_toList] at h1;exact h1))
section
variable {c:Cfg}
theorem ev_lof_rng3 (C:CfgOK c) {a b d:X} (ha:EvOK c a) (hb:EvOK c b) (hd:EvOK c d):EvOK c (.lof (.rng3 a b d)):=by
 intro n A env Own M E s e dd Q Er X hc ho he h
 (refine e3a4 (lof_gen hc) ?_;rintro z0 p0 q rfl h1 h2 h3)
 dsimp only [chkIt_q_rng3] at h3
 simp only [okX_q_lof,okIt_q_rng3,Bool.and_eq_true] at ho
 simp only [ev_q_lof,evIt_q_rng3,Option.bind_eq_some_iff,Option.some.injEq] at he
 (refine e1a2 he ?_;try clear he;rintro ds ⟨x,hx,i,hi,y,hy,j,hj,u,hu,k,hk,hz⟩ rfl)
 (refine e5a8 (inv_fn3 h3) ?_;rintro z z2 z3 p1 q1 rfl g1 g2 g3 g4 g5 g6 g7)
 revert hz
 refine ifs fun hle hz=>?_
 (replace hz:=(Option.some.inj hz).symm;subst hz)
 have hq0:=intOf_some hi
 subst hq0
 have hq0:=intOf_some hj
 subst hq0
 have hq0:=intOf_some hk
 subst hq0
 refine wpAny_Call_NameR (glob_ty C (x:="list") (by decide) X.eok X.base h1 ?_)
 rw [trees1 h2]
 refine PySem.callWith_type1 ?_
 refine wpAny_Call_NameR (glob_ty C (x:="range") (by decide) X.eok X.base g1 ?_)
 rw [trees3 g2 g3 g4]
 refine callWith_type3 (ha n A env Own M E s z _ _ Er X g5 ho.1.1 hx fun v s' st r u_=>hb n A env Own M E s' z2 _ _ Er (X.stp C st) g6 ho.1.2 hy fun v2 s2 st2 r2 u_ =>
  hd n A env Own M E s2 z3 _ _ Er (X.stp C (st.trans st2)) g7 ho.2 hu fun v3 s3 st3 r3 u_=>?_)
 (refine e1a1 r.any.int ?_;rintro t rfl)
 (refine e1a1 r2.any.int ?_;rintro u rfl)
 (refine e1a1 r3.any.int ?_;rintro w rfl)
 refine call_range_3 (by omega) ?_ (Or.inl (PyProof.noPylong_small (by omega)))
 (refine by_goal fun G_ hG_=>?_;rcases small_of (a:=i) (b:=j) (st:=k) hle.2.2.1 hle.2.2.2.1 hle.2.2.2.2.2 hle.1 hle.2.1 (Int.le_trans (by decide) hle.2.2.2.2.1) with ⟨hs,m,hm,hm2⟩;all_goals (refine hG_ ?_;clear hG_ G_))
 have hmb:m<=1000000:=by
  have:(m:Int)<=1000000:=by
   rw [<-hm]
   unfold Builtin.Range.rangeSize
   rw [if_pos hle.1]
   split
   ·have h6:(j - i - 1) / k<=j - i - 1:=Int.ediv_le_self _ (by lia)
    lia
   ·decide
  lia
 subst hm2
 have st4:=((st.trans st2).trans st3).trans (Stp.trans (Stp.push (o:={ cls:=.type "range",data:=.fields #[.int i t,.int j u,.int k w] })) (Stp.toks (tk:=s3.toks)))
 refine call_list_range X.room.hand (IsRange.new _ _ _ _ _ _ _) hs hm (by lia) fun h' tk acc' c' hk hp hI=>?_
 refine h _ _ (st4.trans (.of hk)) (newList_rd (X.stp C st4).live hk (acc:=acc'.toList) (by simpa using hp) ?_) fun u_=>Fr1.size st4
 exact items_all2 hI (rngL_length _ _ _).symm fun i' d v hd hv=>by
  (refine e1a1 hv ?_;try clear hv;rintro u rfl)
  rw [rngL_get _ _ _ _ _ hd]
  exact .mkInt
theorem ts_lof {it:It} (hv:EvOK c (.lof it)):TsOK c (.lof it) :=
 ts_of_ev hv fun n sc e hc=>by
  (refine e3a2 (lof_gen hc) ?_;rintro z p0 q rfl -)
  rfl
end
structure Sto (env:Env) (h:Heap) (P:Nat->Option Value):Prop where
 ns:∃ m,h.Ns env.locals m/\∀ i v,P i=some v->Lk env h m (nm i) v
 cells:∀ x a,env.kindOf x=some .cell->env.cells.lookup x=some a->∃ o,h.IsCell a o
noncomputable def upd (P:Nat->Option Value) (i:Nat) (v:Value):Nat->Option Value:=fun j=>if j=i then some v else P j
noncomputable def Kb (env:Env) (ids:List Nat) (h h':Heap):Prop :=
 ∀ b o,b≠env.locals->(∀ i∈ids,env.kindOf (nm i)=some .cell->env.cells.lookup (nm i)≠some b)->h.get? b=some o->h'.get? b=some o
theorem Kb.trans {env:Env} {l l':List Nat} {a b c:Heap} (x:Kb env l a b) (y:Kb env l' b c):Kb env (l++l') a c:=fun d o h1 h2 e =>
 y d o h1 (fun i m=>h2 i (List.mem_append_right _ m)) (x d o h1 (fun i m=>h2 i (List.mem_append_left _ m)) e)
theorem Kb.of {env:Env} {l:List Nat} {a b:Heap} (x:KeepH a b):Kb env l a b:=fun d o u_ u_ e=>x d o e
theorem Kb.mono {env:Env} {l l':List Nat} {a b:Heap} (x:Kb env l a b) (h:∀ i∈l,i∈l'):Kb env l' a b:=fun d o h1 h2 e=>x d o h1 (fun i m=>h2 i (h i m)) e
theorem Sto.kpf {env:Env} {ids:List Nat} {h h':Heap} {P:Nat->Option Value} {OX:Addr->Prop} (S:Sto env h P) (k:Kb env ids h h'):KpF OX h h':=by
 intro b o vs n hb hd _
 refine k b o ?_ ?_ hb
 ·rintro rfl
  (refine e1a2 S.ns ?_;rintro m ⟨o',es,ep,ho',hd',u_⟩ u_)
  rw [hb] at ho';(replace ho':=(Option.some.inj ho').symm;subst ho')
  rw [hd'] at hd;cases hd
 ·intro i _ hk hl
  (refine e2a2 (S.cells _ _ hk hl) ?_;rintro x o' ho' hd')
  rw [hb] at ho';(replace ho':=(Option.some.inj ho').symm;subst ho')
  rw [hd'] at hd;cases hd
theorem Sto.keep {env:Env} {h h':Heap} {P:Nat->Option Value} (S:Sto env h P) (k:KeepH h h'):Sto env h' P:=by
 (refine e1a2 S.ns ?_;rintro m hm hl)
 exact ⟨⟨m,hm.keeps k,fun i v e=>(hl i v e).keep k⟩,fun x a h1 h2=>let ⟨o,ho⟩:=S.cells x a h1 h2;⟨o,ho.keeps k⟩⟩
theorem Sto.at {env:Env} {h h':Heap} {P:Nat->Option Value} (S:Sto env h P) (k1:∀ o,h.get? env.locals=some o->h'.get? env.locals=some o)
  (k2:∀ x a,(env.kindOf x=some .cell\/env.kindOf x=some .free)->env.cells.lookup x=some a->∀ o,h.get? a=some o->h'.get? a=some o):Sto env h' P:=by
 (refine e1a2 S.ns ?_;rintro m hm hl)
 refine ⟨⟨m,hm.at k1,fun i v e=>?_⟩,fun x a h1 h2=>?_⟩
 ·rcases hl i v e with q | ⟨hk,a,ha,o,ho,hd⟩
  ·exact .inl q
  ·exact .inr ⟨hk,a,ha,o,k2 _ _ hk ha o ho,hd⟩
 ·(refine e2a2 (S.cells x a h1 h2) ?_;rintro o c ho hd)
  exact ⟨o,c,k2 _ _ (.inl h1) h2 _ ho,hd⟩
theorem own_kind {env:Env} {x:Str} (h:ownName env.scope x=true):env.kindOf x=some .local\/env.kindOf x=some .cell:=by
 unfold ownName at h
 show env.scope.names.lookup x=_\/env.scope.names.lookup x=_
 split at h <;> simp_all
theorem Sto.ne {env:Env} {h:Heap} {P:Nat->Option Value} (S:Sto env h P) {a:Addr} {o:Option Value} (hc:h.IsCell a o):a≠env.locals:=by
 rintro rfl
 (refine e1a2 S.ns ?_;rintro m ⟨o',es,ep,ho',hd',u_⟩ u_)
 (refine e1a2 hc ?_;try clear hc;rintro o2 ho2 hd2)
 rw [ho2] at ho';(replace ho':=(Option.some.inj ho').symm;subst ho')
 rw [hd2] at hd';cases hd'
section
variable {M:Model} {A:Around} {Er:Value->Shared->Prop} {s:Shared} {Q:Unit->Shared->Prop} {env:Env}
set_option tactic.hygienic true in
theorem store_okA {i:Nat} {v:Value} {P:Nat->Option Value} (K:EnvOK env) (S:Sto env s.heap P) (ho:ownName env.scope (nm i)=true)
  (h:∀ h' tk,Kb env [i] s.heap h'->Sto env h' (upd P i v)->(∀ b o,h'.get? b=some o->∃ o',s.heap.get? b=some o')->Q () { s with heap:=h',toks:=tk }):wpAny M A (storeName env (nm i) v) Q Er s:=by
 have back:∀ {a:Addr} {h':Heap},(∃ o,s.heap.get? a=some o)->Heap.SameBut a s.heap h'->∀ b o,h'.get? b=some o->∃ o',s.heap.get? b=some o':=fun {a h'} hl hs b o e=>by
  by_cases q:b=a
  ·rw [q];exact hl
  ·exact ⟨o,(hs.2 b q).symm.trans e⟩
 (refine e1a2 S.ns ?_;rintro m hm hl)
 rcases own_kind ho with hk | hk
 ·refine wpAny_storeName_local hk hm (fun h' hn' hs=>h h' _ ?_ ?_ (back (e3a1 hm fun o _ _ ho=>⟨o,ho.1⟩) hs)) (by rw [K.kind];rfl)
  ·exact fun b o hb _ e=>(hs.2 b hb).trans e
  ·refine ⟨⟨_,hn',fun j w e=>?_⟩,fun x a h1 h2=>?_⟩
   ·unfold upd at e
    split at e
    ·rename_i hj
     subst hj
     (replace e:=(Option.some.inj e).symm;subst e)
     exact .inl ⟨hk,if_pos rfl⟩
    ·rename_i hj
     rcases hl j w e with ⟨q1,q2⟩ | ⟨q1,a,ha,hc⟩
     ·exact .inl ⟨q1,(if_neg fun e=>hj (nm_inj e)).trans q2⟩
     ·exact .inr ⟨q1,a,ha,hc.sameBut hs (S.ne hc)⟩
   ·(refine e1a1 (S.cells x a h1 h2) ?_;rintro o hc)
    exact ⟨o,hc.sameBut hs (S.ne hc)⟩
 ·(refine e1a1 (K.cell _ (.inl hk)) ?_;rintro c hcl)
  (refine e1a1 (S.cells _ _ hk hcl) ?_;rintro o hc)
  refine wpAny_storeName_cell K.kind hk hcl hc fun h' hc' hs=>?_
  refine h h' s.toks ?_ ?_ (back (e1a1 hc fun o ho=>⟨o,ho.1⟩) hs)
  ·intro b o' _ hb e
   exact (hs.2 b fun q=>hb i List.mem_cons_self hk (q ▸ hcl)).trans e
  ·refine ⟨⟨m,hm.sameBut hs (S.ne hc).symm,fun j w e=>?_⟩,fun x a h1 h2=>?_⟩
   ·unfold upd at e
    split at e
    ·rename_i hj
     subst hj
     (replace e:=(Option.some.inj e).symm;subst e)
     exact .inr ⟨.inl hk,c,hcl,hc'⟩
    ·rename_i hj
     rcases hl j w e with q | ⟨q1,a,ha,hca⟩
     ·exact .inl q
     ·refine .inr ⟨q1,a,ha,hca.sameBut hs fun e2=>hj ?_⟩
      exact nm_inj (K.apart _ _ c (e2 ▸ ha) hcl)
   ·by_cases hac:a=c
    ·exact ⟨_,hac ▸ hc'⟩
    ·(refine e1a1 (S.cells x a h1 h2) ?_;rintro o2 hc2)
     exact ⟨o2,hc2.sameBut hs hac⟩
theorem store_ok {i:Nat} {v:Value} {P:Nat->Option Value} (K:EnvOK env) (S:Sto env s.heap P) (ho:ownName env.scope (nm i)=true)
  (h:∀ h' tk,Kb env [i] s.heap h'->Sto env h' (upd P i v)->Q () { s with heap:=h',toks:=tk }):wpAny M A (storeName env (nm i) v) Q Er s :=
 store_okA K S ho fun h' tk k So u_=>h h' tk k So
end
section
variable {prog:Program} {w:World} {A:Around} {Er:Value->Shared->Prop} {s:Shared} {Q:Unit->Shared->Prop} {env:Env}
theorem asg_name {i:Nat} {p:Pos} {v:Value} {P:Nat->Option Value} (K:EnvOK env) (S:Sto env s.heap P) (ho:ownName env.scope (nm i)=true)
  (h:∀ h' tk,Kb env [i] s.heap h'->Sto env h' (upd P i v)->Q () { s with heap:=h',toks:=tk }):wpAny (model prog w) A (assign (.Name (nm i) p) env v) Q Er s :=
 wpAny_assign_Name (store_ok K S ho h)
noncomputable def Got (OX:Addr->Prop) (ids:List Nat) (h:Heap) (P P':Nat->Option Value) (E E':AE):Prop :=
 ∀ j,(j∈ids->∃ v d,P' j=some v/\E' j=some (.dat d)/\Rd0 OX h v d)/\(j ∉ ids->P' j=P j/\E' j=E j)
theorem setAll_length:∀ {is:List Nat} {ds:List PyData} {E E':AE},setAll is ds E=some E'->is.length=ds.length
 | [],[],_,_,_=>rfl
 | i::is,d::ds,E,E',h=>by simp [setAll_length (show setAll is ds (E.set i (.dat d))=some E' from h)]
 | [],_::_,_,_,h=>by exact nso h
 | _::_,[],_,_,h=>by exact nso h
theorem chk_cons {sc:Scope} {i:Nat} {is:List Nat} {es:List Expr} (hc:chkNames sc (i::is) es=true):∃ p r,es=.Name (nm i) p::r/\ownName sc (nm i)=true/\chkNames sc is r=true:=by
 refine dcons_elim (chkNames_q_cons.symm.trans hc) fun e r hc=>?_
 refine dEName_elim hc fun x p hc=>?_
 (refine k_dbbb hc ?_;clear hc;rintro rfl h1 h2 h3)
 exact ⟨_,_,rfl,h1,h3⟩
theorem chk_nil {sc:Scope} {es:List Expr} (hc:chkNames sc [] es=true):es=[] :=
 dnil_elim (P:=fun es=>es=[]) (chkNames_q_nil.symm.trans hc) fun u_=>rfl
set_option tactic.hygienic true in
theorem asg_names {OX:Addr->Prop} (K:EnvOK env) {is:List Nat}:∀ {es:List Expr} {vs:List Value} {ds:List PyData} {E E':AE} {P:Nat->Option Value} {s:Shared} {Q:Unit->Shared->Prop},
  chkNames env.scope is es=true->is.Nodup->All2 (Rd0 OX s.heap) vs ds->setAll is ds E=some E'->Sto env s.heap P ->
  (∀ h' tk P',Kb env is s.heap h'->Sto env h' P'->Got OX is h' P P' E E'->Q () { s with heap:=h',toks:=tk }) ->
  wpAny (model prog w) A (assignInOrder ((assignEach es env).map (·.2)) vs) Q Er s:=by
 induction is with
 | nil =>
  intro es vs ds E E' P s Q hc hn hx hE S h
  obtain rfl:=chk_nil hc
  cases ds with
  | nil =>
   (replace hE:=(Option.some.inj hE).symm;subst hE)
   cases hx
   exact wpAny_pure (h s.heap s.toks P (.of (.refl _)) S fun j=>⟨fun m=>(nomatch m),fun _=>⟨rfl,rfl⟩⟩)
  | cons _ _=>exact nso hE
 | cons i is ih =>
  intro es vs ds E E' P s Q hc hn hx hE S h
  (refine e2a3 (chk_cons hc) ?_;rintro p es rfl h1 h3)
  cases hx with
  | nil=>exact nso hE
  | cons r1 r2 =>
   rename_i v d vs ds
   obtain ⟨n1,n2⟩:=List.nodup_cons.mp hn
   show wpAny _ _ (do holding vs (assign (.Name (nm i) p) env v);assignInOrder ((assignEach es env).map (·.2)) vs) _ _ _
   refine wpAny_bind (wpAny_holding (asg_name K S h1 fun h' tk k S'=>?_))
   have kp:KpF OX s.heap h':=S.kpf k
   refine ih (s:={ s with heap:=h',toks:=tk }) h3 n2 (r2.mono fun _ _ q=>q.kpf kp) (show setAll is ds (E.set i (.dat d))=some E' from hE) S' fun h2 tk2 P2 k2 S2 G=>?_
   refine h h2 tk2 P2 (k.trans k2) S2 fun j=>⟨fun m=>?_,fun m=>?_⟩
   ·rcases List.mem_cons.mp m with rfl | m
    ·obtain ⟨e1,e2⟩:=(G j).2 n1
     exact ⟨v,d,e1.trans (if_pos rfl),e2.trans (if_pos rfl),(r1.kpf kp).kpf (S'.kpf k2)⟩
    ·exact (G j).1 m
   ·obtain ⟨e1,e2⟩:=(G j).2 fun q=>m (List.mem_cons_of_mem _ q)
    have hj:¬ j=i:=fun e=>m (e ▸ List.mem_cons_self)
    exact ⟨e1.trans (if_neg hj),e2.trans (if_neg hj)⟩
theorem each_names {env:Env} {is:List Nat}:∀ {es:List Expr},chkNames env.scope is es=true->(assignEach es env).length=is.length/\(assignEach es env).findIdx? (·.1)=none:=by
 induction is with
 | nil=>intro es hc;obtain rfl:=chk_nil hc;exact ⟨rfl,rfl⟩
 | cons i is ih =>
  intro es hc
  (refine e2a3 (chk_cons hc) ?_;rintro p es rfl h1 h3)
  obtain ⟨e1,e2⟩:=ih h3
  refine ⟨?_,?_⟩
  ·show (assignEach es env).length+1=_
   rw [e1];rfl
  ·show (((false,assign (.Name (nm i) p) env)::assignEach es env)).findIdx? (·.1)=none
   rw [List.findIdx?_cons,e2];rfl
theorem asg_tgt {OX:Addr->Prop} (hh:A.handled=none) (K:EnvOK env) {t:Tgt} {e:Expr} {v:Value} {d:PyData} {E E':AE} {P:Nat->Option Value} (hc:chkT env.scope t e=true) (r:Rd0 OX s.heap v d) (hb:bindT t d E=some E') (S:Sto env s.heap P)
  (h:∀ h' tk P',Kb env t.ids s.heap h'->Sto env h' P'->Got OX t.ids h' P P' E E'->Q () { s with heap:=h',toks:=tk }):wpAny (model prog w) A (assign e env v) Q Er s:=by
 cases t with
 | name i =>
  refine dEName_elim (chkT_q_name.symm.trans hc) fun x p hc=>?_
  (refine k_dbb hc ?_;clear hc;rintro rfl h1 h2)
  (replace hb:=(Option.some.inj hb).symm;subst hb)
  refine asg_name K S h1 fun h' tk k S'=>h h' tk _ k S' fun j=>⟨fun m=>?_,fun m=>?_⟩
  ·rcases List.mem_cons.mp m with rfl | m
   ·exact ⟨v,d,if_pos rfl,if_pos rfl,r.kpf (S.kpf k)⟩
   ·cases m
  ·have hj:¬ j=i:=fun e=>m (e ▸ List.mem_cons_self)
   exact ⟨if_neg hj,if_neg hj⟩
 | tup is =>
  refine dETuple_elim (chkT_q_tup.symm.trans hc) fun es k p hc=>?_
  (refine k_ddb hc ?_;clear hc;rintro h0 hn hc)
  have hq0:∃ v0,d=.tuple v0:=by revert hb;generalize d=y0;intro hb;cases y0 <;> first | exact ⟨_,rfl⟩ | exact nso hb | exact nbt hb | cases hb
  (refine e1a1 hq0 ?_;try clear hq0;rintro ds rfl)
  have hb:setAll is ds E=some E':=hb
  (refine e2a3 r.untuple ?_;rintro a vs rfl hT hx)
  obtain ⟨e1,e2⟩:=each_names hc
  have elen:=hx.length
  rw [Array.length_toList] at elen
  have el:=setAll_length hb
  refine wpAny_assign_Tuple hh hT (by lia) e2 fun h' hk=>?_
  have hk:KeepH s.heap h':=.fresh hk
  refine asg_names (s:={ s with heap:=h' }) K hc hn (hx.mono fun u_ u_ q=>q.keep hk) hb (S.keep hk) fun h2 tk P' k2 S' G=>?_
  exact h h2 tk P' (fun b o q1 q2 e=>k2 b o q1 q2 (hk b o e)) S' G
end
theorem closure_fold {env:Env} (K:EnvOK env):∀ (names:List (Str × NameKind)) (acc:List (Str × Addr)),
  (∀ p∈names,p.2=.free->env.kindOf p.1=some .cell\/env.kindOf p.1=some .free)->(names.map (·.1)).Nodup ->
  ∃ cl,(forIn names acc (fun p cs=>if p.2 == NameKind.free then (do let a <-cellOf env p.1;pure (ForInStep.yield ((p.1,a)::cs))) else pure (ForInStep.yield cs)):Sem (List (Str × Addr)))=pure (cl++acc) /\
   (∀ x a,cl.lookup x=some a->env.cells.lookup x=some a)/\(∀ p∈names,p.2=.free->∃ a,cl.lookup p.1=some a)
 | [],acc,_,_=>⟨[],rfl,fun u_ u_ h=>by simp at h,fun u_ h=>nomatch h⟩
 | (x,k)::r,acc,h,hn=>by
  have hn':(r.map (·.1)).Nodup:=(List.nodup_cons.mp hn).2
  have hx:x ∉ r.map (·.1):=(List.nodup_cons.mp hn).1
  rw [List.forIn_cons]
  by_cases hk:k=.free
  ·subst hk
   (refine e1a1 (K.cell x (h (x,.free) List.mem_cons_self rfl)) ?_;rintro a ha)
   (refine e1a3 (closure_fold K r ((x,a)::acc) (fun p hp=>h p (List.mem_cons_of_mem _ hp)) hn') ?_;rintro cl e h1 h2)
   have e0:cellOf env x=pure a:=by unfold cellOf;rw [ha]
   refine ⟨cl++[(x,a)],?_,fun y b hb=>?_,fun p hp hf=>?_⟩
   ·simp only [beq_self_eq_true,if_true]
    show (cellOf env x >>= fun a=>pure (ForInStep.yield ((x,a)::acc))) >>= _=_
    rw [e0]
    refine Eq.trans rfl (e.trans ?_)
    simp
   ·rw [List.lookup_append] at hb
    cases hc:cl.lookup y with
    | some b'=>rw [hc] at hb;(replace hb:=(Option.some.inj hb).symm;subst hb);exact h1 y _ hc
    | none =>
     rw [hc] at hb
     simp only [Option.none_or,List.lookup_cons,List.lookup_nil] at hb
     cases hyx:y == x with
     | true=>rw [hyx] at hb;(replace hb:=(Option.some.inj hb).symm;subst hb);rw [beq_iff_eq.mp hyx];exact ha
     | false=>rw [hyx] at hb;exact nso hb
   ·rw [List.lookup_append]
    rcases List.mem_cons.mp hp with rfl | hp
    ·cases hc:cl.lookup x with
     | some b=>exact ⟨b,rfl⟩
     | none=>exact ⟨a,by simp⟩
    ·(refine e1a1 (h2 p hp hf) ?_;rintro b hb)
     exact ⟨b,by rw [hb];rfl⟩
  ·(refine e1a3 (closure_fold K r acc (fun p hp=>h p (List.mem_cons_of_mem _ hp)) hn') ?_;rintro cl e h1 h2)
   refine ⟨cl,?_,h1,fun p hp hf=>?_⟩
   ·have hb:(k == NameKind.free)=false:=by simpa using hk
    simp only [hb,Bool.false_eq_true,if_false]
    exact e
   ·rcases List.mem_cons.mp hp with rfl | hp
    ·exact absurd hf hk
    ·exact h2 p hp hf
theorem closure_ok {env:Env} (K:EnvOK env) {scope:Scope} (h:∀ p∈scope.names,p.2=.free->env.kindOf p.1=some .cell\/env.kindOf p.1=some .free) (hn:(scope.names.map (·.1)).Nodup) :
  ∃ cl,closureFor scope env=pure cl/\(∀ x a,cl.lookup x=some a->env.cells.lookup x=some a)/\(∀ p∈scope.names,p.2=.free->∃ a,cl.lookup p.1=some a):=by
 (refine e1a3 (closure_fold K scope.names [] h hn) ?_;rintro cl e h1 h2)
 refine ⟨cl,?_,h1,h2⟩
 rw [List.append_nil] at e
 rw [<-e]
 simp only [closureFor]
 rw [bind_pure]
theorem cellsFrom_app:∀ (names:List (Str × NameKind)) (n:Nat) (acc:List (Str × Addr)),cellsFrom n names acc=cellsFrom n names []++acc
 | [],_,_=>rfl
 | (x,k)::r,n,acc=>by
  unfold cellsFrom
  split
  ·rw [cellsFrom_app r _ ((x,n)::acc),cellsFrom_app r _ [(x,n)]];simp
  ·exact cellsFrom_app r n acc
set_option tactic.hygienic true in
theorem cellsFrom_mem:∀ (names:List (Str × NameKind)) (n:Nat) (x:Str) (a:Addr),(x,a)∈cellsFrom n names []->(x,.cell)∈names
 | [],_,_,_,h=>nomatch h
 | (y,k)::r,n,x,a,h=>by
  unfold cellsFrom at h
  split at h
  ·rename_i hk
   have hk:=beq_iff_eq.mp hk
   subst hk
   rw [cellsFrom_app] at h
   rcases List.mem_append.mp h with h | h
   ·exact List.mem_cons_of_mem _ (cellsFrom_mem r _ x a h)
   ·rcases List.mem_cons.mp h with h | h
    ·cases h;exact List.mem_cons_self
    ·cases h
  ·exact List.mem_cons_of_mem _ (cellsFrom_mem r _ x a h)
theorem lookup_some_of_mem:∀ {l:List (Str × Addr)} {x:Str} {a:Addr},(x,a)∈l->∃ b,l.lookup x=some b
 | (y,c)::r,x,a,h=>by
  rw [List.lookup_cons]
  cases hb:x == y with
  | true=>exact ⟨c,rfl⟩
  | false =>
   rcases List.mem_cons.mp h with h | h
   ·cases h;simp at hb
   ·exact lookup_some_of_mem h
theorem cellsFrom_has:∀ (names:List (Str × NameKind)) (n:Nat) (x:Str),(x,.cell)∈names->∃ a,(x,a)∈cellsFrom n names []
 | (y,k)::r,n,x,h=>by
  unfold cellsFrom
  rcases List.mem_cons.mp h with h | h
  ·cases h
   simp only [beq_self_eq_true,if_true]
   rw [cellsFrom_app]
   exact ⟨n,List.mem_append_right _ List.mem_cons_self⟩
  ·split
   ·rw [cellsFrom_app]
    (refine e1a1 (cellsFrom_has r (n+1) x h) ?_;rintro a ha)
    exact ⟨a,List.mem_append_left _ ha⟩
   ·exact cellsFrom_has r n x h
theorem mem_of_look:∀ {l:List (Str × NameKind)} {x:Str} {k:NameKind},l.lookup x=some k->(x,k)∈l
 | (y,c)::r,x,k,h=>by
  rw [List.lookup_cons] at h
  cases hb:x == y with
  | true=>rw [hb] at h;(replace h:=(Option.some.inj h).symm;subst h);rw [beq_iff_eq.mp hb];exact List.mem_cons_self
  | false=>rw [hb] at h;exact List.mem_cons_of_mem _ (mem_of_look h)
theorem look_of_mem {l:List (Str × NameKind)} {x:Str} {k:NameKind}:(l.map (·.1)).Nodup->(x,k)∈l->l.lookup x=some k:=by
 induction l with
 | nil=>exact fun hn h=>nomatch h
 | cons p r ih =>
  intro hn h
  have hn:=List.nodup_cons.mp hn
  rw [show (p::r)=((p.1,p.2)::r) from rfl,List.lookup_cons]
  rcases List.mem_cons.mp h with h | h
  ·subst h;simp
  ·have hb:(x == p.1)=false:=beq_eq_false_iff_ne.mpr fun e=>hn.1 (List.mem_map.mpr ⟨_,h,e⟩)
   rw [hb]
   exact ih hn.2 h
theorem look_map {f:Str × NameKind->Str × NameKind} (hf:∀ p,(f p).1=p.1):∀ {l:List (Str × NameKind)} {x:Str},(l.map f).lookup x=(l.lookup x).map fun k=>(f (x,k)).2
 | [],_=>rfl
 | (y,c)::r,x=>by
  rw [List.map_cons,List.lookup_cons]
  have e:f (y,c)=((f (y,c)).1,(f (y,c)).2):=rfl
  rw [e,hf,List.lookup_cons]
  cases hb:x == y with
  | true=>rw [beq_iff_eq.mp hb];rfl
  | false=>exact look_map hf
theorem relab_look {scope sc:Scope} {x:Str}:(relab scope sc).names.lookup x=(scope.names.lookup x).map fun k=>if (k == .free && sc.kind == .function && sc.names.lookup x == some .cell) then .cell else k:=by
 unfold relab
 show (scope.names.map _).lookup x=_
 rw [look_map (fun p=>by split <;> rfl)]
 congr 1
 funext k
 split <;> rfl
theorem nameTab_dot:(nameTab.all fun l=>decide (l≠[46,48]))=true:=by decide +kernel
set_option tactic.hygienic true in
theorem nm_dot (i:Nat):(nm i == (".0":Str))=false:=by
 rw [beq_eq_false_iff_ne]
 intro e
 unfold nm at e
 split at e
 ·rename_i l hl
  have:=List.all_eq_true.mp nameTab_dot l (List.mem_of_getElem? hl)
  have e2:l=[46,48]:=by
   have q:=congrArg (fun x:Str=>x.cps.toList) e
   have q2:(Str.ofString ".0").cps.toList=[46,48]:=by decide
   simp only [q2] at q
   simpa using q
  rw [e2] at this
  simp at this
 ·have e2:[0,i]=[46,48]:=congrArg (fun x:Str=>x.cps.toList) e
  simp at e2
structure ScOK (sc scope:Scope) (ids:List Nat):Prop where
 kind:scope.kind=.function
 co:scope.isCoroutine=false
 more:(scope.more.any fun (n,_)=>n == ("interactive":Str))=false
 nodup:(scope.names.map (·.1)).Nodup
 own:∀ i,scope.names.lookup (nm i)=some .local\/scope.names.lookup (nm i)=some .cell->i∈ids
 cell:∀ x,(x,NameKind.cell)∈scope.names->∃ i∈ids,x=nm i
 free:∀ x,(x,NameKind.free)∈scope.names->(sc.names.lookup x=some .cell\/sc.names.lookup x=some .free)/\∀ i∈ids,x≠nm i
set_option tactic.hygienic true in
theorem scOK_of {sc scope:Scope} {ids:List Nat} (h:chkScope sc scope ids=true):ScOK sc scope ids:=by
 unfold chkScope at h
 (refine k_enndb h ?_;try clear h;rintro h1 h2 h3 h4 h5)
 have key:∀ x k,(x,k)∈scope.names->_:=fun x k hm=>List.all_eq_true.mp h5 (x,k) hm
 refine ⟨h1,h2,h3,h4,fun i hi=>?_,fun x hx=>?_,fun x hx=>?_⟩
 ·rcases hi with hi | hi
  ·have q:=key _ _ (mem_of_look hi)
   simp only [nm_dot,Bool.false_or,List.any_eq_true,decide_eq_true_eq] at q
   (refine e1a2 q ?_;try clear q;rintro j hj e)
   rw [nm_inj e];exact hj
  ·have q:=key _ _ (mem_of_look hi)
   simp only [List.any_eq_true,decide_eq_true_eq] at q
   (refine e1a2 q ?_;try clear q;rintro j hj e)
   rw [nm_inj e];exact hj
 ·have q:=key _ _ hx
  simp only [List.any_eq_true,decide_eq_true_eq] at q
  exact q
 ·have q:=key _ _ hx
  simp only [Bool.and_eq_true,Bool.not_eq_true',List.any_eq_false,decide_eq_true_eq] at q
  (refine l3 q ?_;try clear q;rintro q1 q2 q3)
  refine ⟨?_,fun i hi e=>q3 i hi e⟩
  unfold acc at q1
  split at q1
  ·rename_i e;rw [e] at q2;exact nbf q2
  ·rename_i e;exact .inl e
  ·rename_i e;exact .inr e
  ·exact nbt q1
structure CompEnv (env cenv:Env) (scope:Scope) (lo:Nat):Prop where
 sc:cenv.scope=relab scope env.scope
 loc:lo<=cenv.locals
 glob:cenv.globals=env.globals
 bui:cenv.builtins=env.builtins
 cells:∀ x a,cenv.cells.lookup x=some a->(lo<=a/\(x,NameKind.cell)∈scope.names)\/((x,NameKind.cell) ∉ scope.names/\env.cells.lookup x=some a)
 has:∀ x,(x,NameKind.cell)∈scope.names->∃ a,cenv.cells.lookup x=some a/\lo<=a
 free:∀ x,(x,NameKind.free)∈scope.names->∃ a,cenv.cells.lookup x=some a/\env.cells.lookup x=some a
 apart:∀ x y a,cenv.cells.lookup x=some a->cenv.cells.lookup y=some a->x=y
theorem cellsFrom_none {names:List (Str × NameKind)} {n:Nat} {x:Str} (h:(x,NameKind.cell) ∉ names):(cellsFrom n names []).lookup x=none:=by
 cases hc:(cellsFrom n names []).lookup x with
 | none=>rfl
 | some a=>exact absurd (cellsFrom_mem names n x a (mem_of_lookup hc)) h
section
variable {M:Model} {A:Around} {Er:Value->Shared->Prop} {s:Shared}
theorem new_comp {env:Env} {scope:Scope} {ids:List Nat} {cl:List (Str × Addr)} {Q:Env->Shared->Prop} (K:EnvOK env) (hcells:∀ x a,env.cells.lookup x=some a->∃ o,s.heap.IsCell a o) (S:ScOK env.scope scope ids)
  (h1:∀ x a,cl.lookup x=some a->env.cells.lookup x=some a) (h2:∀ p∈scope.names,p.2=.free->∃ a,cl.lookup p.1=some a)
  (h:∀ cenv h',CompEnv env { cenv with scope:=relabel scope env } scope s.heap.objs.size->KeepH s.heap h'->h'.Ns cenv.locals (fun u_=>none)->(∀ x a,cenv.cells.lookup x=some a->∃ o,h'.IsCell a o)->Q cenv { s with heap:=h' }) :
  wpAny M A (newFunctionEnv scope env.globals cl [] env.qual none .none (some env)) Q Er s:=by
 simp only [newFunctionEnv,Option.isSome_some,if_true]
 refine wpAny_bind (wpAny_alloc ?_)
 refine wpAny_bind (wpAny_layCells _ (fun name kind cells=>by cases hkc:kind == NameKind.cell <;> simp [hkc]) _ _ _ _ ?_)
 have ok:=cellsFrom_ok scope.names (s.heap.push { cls:=.type "dict",data:=.dict #[] }) (s.heap.objs.size+1) [] ⟨fun u_ u_ hm=>(nomatch hm),List.Pairwise.nil⟩ (by rw [Heap.size_push];exact Nat.le_refl _)
 rw [Heap.size_push] at ok
 rw [show ({ s with heap:=s.heap.push { cls:=.type "dict",data:=.dict #[] } }:Shared).heap.objs.size=s.heap.objs.size+1 from Heap.size_push ..]
 simp only [List.forIn_nil]
 refine wpAny_bind (wpAny_pure (wpAny_pure ?_))
 have hkp:KeepH s.heap (pushCells (s.heap.push { cls:=.type "dict",data:=.dict #[] }) scope.names):=fun b o e=>pushCells_keeps _ _ b o (Heap.get?_push_of_some _ e)
 refine h _ _ ?_ hkp ((Heap.Ns.new s.heap (.type "dict")).keeps (pushCells_keeps _ _)) ?_
 ·have look:∀ x a,(cellsFrom (s.heap.objs.size+1) scope.names cl).lookup x=some a->((x,a)∈cellsFrom (s.heap.objs.size+1) scope.names []/\s.heap.objs.size+1<=a/\(x,NameKind.cell)∈scope.names)\/((x,NameKind.cell) ∉ scope.names/\cl.lookup x=some a):=by
   intro x a hx
   rw [cellsFrom_app,List.lookup_append] at hx
   cases hc:(cellsFrom (s.heap.objs.size+1) scope.names []).lookup x with
   | some b =>
    rw [hc] at hx
    (replace hx:=(Option.some.inj hx).symm;subst hx)
    have hm:=mem_of_lookup hc
    exact .inl ⟨hm,(ok.empty x a hm).2,cellsFrom_mem _ _ _ _ hm⟩
   | none =>
    rw [hc] at hx
    refine .inr ⟨fun hm=>?_,hx⟩
    (refine e1a1 (cellsFrom_has _ (s.heap.objs.size+1) _ hm) ?_;rintro b hb)
    (refine e1a1 (lookup_some_of_mem hb) ?_;rintro b2 hb2)
    rw [hc] at hb2;exact nso hb2
  refine ⟨rfl,Nat.le_refl _,rfl,rfl,fun x a hx=>?_,fun x hx=>?_,fun x hx=>?_,fun x y a hx hy=>?_⟩
  ·rcases look x a hx with ⟨u_,q1,q2⟩ | ⟨q1,q2⟩
   ·exact .inl ⟨Nat.le_of_lt q1,q2⟩
   ·exact .inr ⟨q1,h1 x a q2⟩
  ·(refine e1a1 (cellsFrom_has _ (s.heap.objs.size+1) _ hx) ?_;rintro b hb)
   (refine e1a1 (lookup_some_of_mem hb) ?_;rintro b2 hb2)
   have e:(cellsFrom (s.heap.objs.size+1) scope.names cl).lookup x=some b2:=by rw [cellsFrom_app,List.lookup_append,hb2];rfl
   exact ⟨b2,e,Nat.le_of_lt (ok.empty x b2 (mem_of_lookup hb2)).2⟩
  ·(refine e1a1 (h2 _ hx rfl) ?_;rintro a ha)
   have hnc:(x,NameKind.cell) ∉ scope.names:=fun hm=>by
    have e1:=look_of_mem S.nodup hm
    rw [look_of_mem S.nodup hx] at e1
    cases e1
   have e:(cellsFrom (s.heap.objs.size+1) scope.names cl).lookup x=some a:=by rw [cellsFrom_app,List.lookup_append,cellsFrom_none hnc,ha];rfl
   exact ⟨a,e,h1 x a ha⟩
  ·have mixed:∀ y:Str,(s.heap.objs.size+1<=a)->cl.lookup y=some a->False:=fun y q1 q2=>by
    (refine e1a1 (hcells y a (h1 y a q2)) ?_;rintro o hc)
    exact absurd hc.lt (Nat.not_lt.mpr (Nat.le_of_lt q1))
   rcases look x a hx with ⟨m1,q1,u_⟩ | ⟨u_,q1⟩ <;> rcases look y a hy with ⟨m2,q2,u_⟩ | ⟨u_,q2⟩
   ·exact name_of_addr ok.apart m1 m2
   ·exact (mixed y q1 q2).elim
   ·exact (mixed x q2 q1).elim
   ·exact K.apart x y a (h1 x a q1) (h1 y a q2)
 ·intro x a hx
  have hx:(cellsFrom (s.heap.objs.size+1) scope.names cl).lookup x=some a:=hx
  rw [cellsFrom_app,List.lookup_append] at hx
  cases hc:(cellsFrom (s.heap.objs.size+1) scope.names []).lookup x with
  | some b =>
   rw [hc] at hx
   (replace hx:=(Option.some.inj hx).symm;subst hx)
   exact ⟨none,(ok.empty x a (mem_of_lookup hc)).1⟩
  | none =>
   rw [hc] at hx
   (refine e1a1 (hcells x a (h1 x a hx)) ?_;rintro o ho)
   exact ⟨o,ho.keeps hkp⟩
end
section
variable {c:Cfg}
set_option tactic.hygienic true in
theorem CompEnv.eok {env cenv:Env} {scope:Scope} {ids:List Nat} {lo:Nat} (K:EnvOK env) (S:ScOK env.scope scope ids) (C:CompEnv env cenv scope lo):EnvOK cenv:=by
 refine ⟨?_,C.glob.trans K.glob,C.bui.trans K.bui,?_,?_,fun x hx=>?_,C.apart⟩
 ·rw [C.sc];exact S.kind
 ·rw [C.sc];exact S.co
 ·rw [C.sc];exact S.more
 ·have e:∀ k,cenv.kindOf x=some k->(relab scope env.scope).names.lookup x=some k:=fun k hk=>by rw [<-C.sc];exact hk
  have key:∃ k,scope.names.lookup x=some k/\(k=.cell\/k=.free):=by
   rcases hx with hx | hx <;> have q:=e _ hx <;> rw [relab_look,Option.map_eq_some_iff] at q <;> (refine e1a2 q ?_;try clear q;rintro k hk q)
   ·refine ⟨k,hk,?_⟩
    split at q
    ·rename_i hb
     exact k_eee hb fun hb_0 hb_1 hb_2=>.inr hb_0
    ·exact .inl q
   ·refine ⟨k,hk,?_⟩
    split at q
    ·cases q
    ·exact .inr q
  (refine e1a2 key ?_;try clear key;rintro k hk hk')
  rcases hk' with rfl | rfl
  ·(refine e1a2 (C.has x (mem_of_look hk)) ?_;rintro a ha _)
   exact ⟨a,ha⟩
  ·(refine e1a2 (C.free x (mem_of_look hk)) ?_;rintro a ha _)
   exact ⟨a,ha⟩
set_option tactic.hygienic true in
theorem CompEnv.own {env cenv:Env} {scope:Scope} {ids:List Nat} {lo:Nat} (S:ScOK env.scope scope ids) (C:CompEnv env cenv scope lo) {i:Nat} (hi:i∈ids) {a:Addr} (hk:cenv.kindOf (nm i)=some .cell) (ha:cenv.cells.lookup (nm i)=some a):lo<=a:=by
 rcases C.cells _ _ ha with q | ⟨q,_⟩
 ·exact q.1
 ·have e:(relab scope env.scope).names.lookup (nm i)=some .cell:=by rw [<-C.sc];exact hk
  rw [relab_look,Option.map_eq_some_iff] at e
  (refine e1a2 e ?_;try clear e;rintro k hk e)
  split at e
  ·rename_i hb
   replace hb:=c_eee hb
   rw [hb.1.1] at hk
   exact absurd rfl ((S.free _ (mem_of_look hk)).2 i hi)
  ·rw [e] at hk
   exact absurd (mem_of_look hk) q
theorem Rep.grow {Own Own':Addr->Prop} {k:Nat} {s:Shared} {v:Value} {pv:PV} (hs:∀ a,Own' a->(∃ o,s.heap.get? a=some o)->Own a) (r:Rep c Own k s v pv):Rep c Own' k s v pv:=by
 cases r with
 | dat r=>exact .dat (RdG.grow hs r)
 | hdr r=>exact .hdr r
 | gen r=>exact .gen r
theorem View.grow {Own Own':Addr->Prop} {env M E s} (hs:∀ a,Own' a->(∃ o,s.heap.get? a=some o)->Own a) (V:View c Own env M E s):View c Own' env M E s:=by
 (refine e1a2 V.ns ?_;rintro m hm hv)
 exact ⟨m,hm,fun i pv e ha=>let ⟨v,h1,h2⟩:=hv i pv e ha;⟨v,h1,h2.grow hs⟩⟩
noncomputable def GotW (OX:Addr->Prop) (ids:List Nat) (h:Heap) (P':Nat->Option Value) (E E':AE):Prop :=
 ∀ j,(j∈ids->∀ pv,E' j=some pv->∃ v d,P' j=some v/\pv=.dat d/\Rd0 OX h v d)/\(j ∉ ids->E' j=E j)
theorem Got.w {OX:Addr->Prop} {ids:List Nat} {h:Heap} {P P':Nat->Option Value} {E E':AE} (G:Got OX ids h P P' E E'):GotW OX ids h P' E E':=fun j =>
 ⟨fun m pv e=>e2a3 ((G j).1 m) fun v d h1 h2 h3=>⟨v,d,h1,Option.some.inj (e.symm.trans h2),h3⟩,fun m=>((G j).2 m).2⟩
theorem comp_cx (C:CfgOK c) {n A Own Own' env M E s s' cenv scope ids lo E' P'} {OX:Addr->Prop} (X:Cx c n A Own env M E s) (st:Stp s s') (S:ScOK env.scope scope ids) (CE:CompEnv env cenv scope lo)
  (hgr:∀ a,Own' a->(∃ o,s.heap.get? a=some o)->Own a) (hlv:∀ a,Own' a->∃ o,s'.heap.get? a=some o) (hOX:∀ a,Own' a->OX a)
  (So:Sto cenv s'.heap P') (G:GotW OX ids s'.heap P' E E') (hc:∀ x a,cenv.cells.lookup x=some a->∃ o,s'.heap.IsCell a o):Cx c n A Own' cenv (modeOff M ids) E' s':=by
 have X':=X.stp C st
 have V':=(X.view.grow hgr).stp C st
 refine ⟨CE.eok X.eok S,X.room,X'.base,⟨?_⟩,hlv,hc⟩
 (refine e1a2 So.ns ?_;rintro m hm hl)
 (refine e1a2 V'.ns ?_;rintro mo hmo hv)
 refine ⟨m,hm,fun i pv e ha=>?_⟩
 by_cases hi:i∈ids
 ·(refine e2a3 ((G i).1 hi pv e) ?_;rintro v d h1 rfl h3)
  refine ⟨v,hl i v h1,?_⟩
  have em:modeOff M ids i=0:=by unfold modeOff;rw [if_pos (by simpa using hi)]
  rw [em]
  exact .dat (h3.weak hOX)
 ·rw [(G i).2 hi] at e
  rw [CE.sc] at ha
  unfold acc at ha
  rw [relab_look] at ha
  have em:modeOff M ids i=M i:=by unfold modeOff;rw [if_neg (by simpa using hi)]
  rw [em]
  cases hk:scope.names.lookup (nm i) with
  | none=>rw [hk] at ha;exact nbt ha
  | some k =>
   have hfree:k=.free:=by
    cases k with
    | «local»=>exact absurd (S.own i (.inl hk)) hi
    | cell=>exact absurd (S.own i (.inr hk)) hi
    | free=>rfl
    | _=>rw [hk] at ha;simp at ha
   subst hfree
   obtain ⟨hq,u_⟩:=S.free _ (mem_of_look hk)
   have hacc:acc env.scope (nm i)=true:=by unfold acc;rcases hq with q | q <;> rw [q]
   (refine e1a2 (hv i pv e hacc) ?_;rintro v hL hR)
   refine ⟨v,?_,hR⟩
   rcases hL with ⟨q,u_⟩ | ⟨u_,a,ha',hcell⟩
   ·have q:env.scope.names.lookup (nm i)=some .local:=q
    rcases hq with q2 | q2 <;> rw [q2] at q <;> cases q
   ·(refine e1a2 (CE.free _ (mem_of_look hk)) ?_;rintro a2 h3 h4)
    rw [ha'] at h4
    replace h4:=Option.some.inj h4
    subst h4
    refine .inr ⟨?_,a,h3,hcell⟩
    show (cenv.scope.names.lookup (nm i)=_)\/(cenv.scope.names.lookup (nm i)=_)
    rw [CE.sc,relab_look,hk]
    dsimp only [Option.map_some]
    split
    ·exact .inl rfl
    ·exact .inr rfl
end
section
variable {prog:Program} {w:World} {A:Around} {R:Result->Shared->Prop} {s:Shared}
set_option tactic.hygienic true in
theorem comp_loop {elt target iter:Expr} {ifs:List Expr} {scope:Scope} {pos:Pos} {it acc:Value} {env:Env} (I:Nat->Shared->Prop)
  (turn:∀ n s,I n s->∀ Er:Value->Shared->Prop,wpAny (model prog w) A (pyNext it) (fun r s₁=>match r with
   | none=>R (.ok .next) s₁
   | some v=>wpAny (model prog w) A (letOwnedTupleGo target it v) (fun _ s₂=>wpAny (model prog w) A (assign target env v) (fun _ s₂ =>
     wpAny (model prog w) A (forIn ifs true fun c r=>if r=true then do let ok <-isTrue c env (eval c env);pure (ForInStep.yield ok) else pure (ForInStep.yield r)) (fun ok s₃ =>
      if ok=true then wpAny (model prog w) A (eval elt env) (fun x s₄ =>
       wpAny (model prog w) A (call (.builtin "list.append") [acc,x]) (fun _ s₅=>∃ m,m < n/\I m s₅) Er s₄) Er s₃
      else ∃ m,m < n/\I m s₃) Er s₂) Er s₂) Er s₁) Er s)
  (n:Nat) (h:I n s):codeAny (model prog w) A (.compLoop (.ListComp elt [⟨target,iter,ifs,0⟩] scope pos) 0 it acc env) R s:=by
 refine codeAny_loop rfl I (fun n s hI=>?_) n h
 show wpAny _ A ((compTurn (.ListComp elt [⟨target,iter,ifs,0⟩] scope pos) 0 it acc env).onRaise (fun x=>do noteFrame x env;theTreesLotGoes x)) _ _ s
 refine wpAny_noted ?_
 rw [compTurn_list]
 refine wpAny_bind (wpAny_standAt (wpAny_bind (wpAny_mono (turn n s hI _) (fun r s₁ h₁=>?_) fun _ _ h'=>h')))
 induction r with
 | none=>exact wpAny_pure h₁
 | some v =>
  refine wpAny_bind (wpAny_mono h₁ (fun _ s₂ h₂=>?_) fun _ _ h'=>h')
  refine wpAny_bind (wpAny_mono h₂ (fun _ s₂ h₂=>wpAny_bind (wpAny_mono h₂ (fun ok s₃ h₃=>?_) fun _ _ h'=>h')) fun _ _ h'=>h')
  induction ok with
  | false=>exact wpAny_pure ⟨rfl,h₃⟩
  | true =>
   exact wpAny_bind (wpAny_bind (wpAny_mono h₃ (fun x s₄ h₄=>wpAny_bind (wpAny_mono h₄ (fun _ s₅ h₅=>wpAny_pure (wpAny_pure ⟨rfl,h₅⟩)) fun _ _ h'=>h')) fun _ _ h'=>h'))
end
noncomputable def TssOK (c:Cfg) (xs:Xs):Prop :=
 ∀ (n:Nat) (A:Around) (env:Env) (Own:Addr->Prop) (M:Nat->Nat) (E:AE) (s:Shared) (es:List Expr) (b:Bool) (Q:Bool->Shared->Prop) (Er:Value->Shared->Prop),
  Cx c n A Own env M E s->chkXs c.fnm c.rk n env.scope xs es=true->okXs M xs=true->evTests c.G c.T xs E=some b ->
  (∀ s',Stp s s'->Q b s') ->
  wpAny (model c.prog c.w) A (forIn es true fun c r=>if r=true then do let ok <-isTrue c env (eval c env);pure (ForInStep.yield ok) else pure (ForInStep.yield r)) Q Er s
theorem tests_false {M:Model} {A:Around} {env:Env} {Q:Bool->Shared->Prop} {Er:Value->Shared->Prop} {s:Shared} (h:Q false s):∀ es:List Expr,
  wpAny M A (forIn es false fun c r=>if r=true then do let ok <-isTrue c env (eval c env);pure (ForInStep.yield ok) else pure (ForInStep.yield r)) Q Er s
 | []=>by rw [List.forIn_nil];exact wpAny_pure h
 | e::es=>by
  rw [List.forIn_cons,if_neg Bool.false_ne_true]
  exact wpAny_bind (wpAny_pure (tests_false h es))
section
variable {c:Cfg}
theorem tss_nil:TssOK c .nil:=by
 intro n A env Own M E s es b Q Er X hc ho he h
 dsimp only [chkXs_q_nil] at hc
 obtain rfl:=inv_nil hc
 (replace he:=(Option.some.inj he).symm;subst he)
 rw [List.forIn_nil]
 exact wpAny_pure (h s (.refl s))
theorem tss_cons (C:CfgOK c) {x:X} {xs:Xs} (hx:TsOK c x) (hxs:TssOK c xs):TssOK c (.cons x xs):=by
 intro n A env Own M E s es b Q Er X hc ho he h
 dsimp only [chkXs_q_cons] at hc
 (refine e2a4 (inv_cons hc) ?_;rintro z r rfl h1 h2 h3)
 replace ho:=c_bbb (okXs_q_cons.symm.trans ho)
 revert he
 refine sbn fun d hd=>sbn fun q hq he=>?_
 rw [List.forIn_cons,if_pos rfl]
 refine wpAny_bind (wpAny_bind (hx n A env Own M E s z d q _ Er X h2 ho.1.1 hd hq fun s' st=>?_))
 refine wpAny_pure ?_
 induction q with
 | false =>
  (replace he:=(Option.some.inj he).symm;subst he)
  exact tests_false (h s' st) r
 | true =>
  exact hxs n A env Own M E s' r b Q Er (X.stp C st) h3 ho.2 he fun s2 st2=>h s2 (st.trans st2)
theorem Stp.mv {old:Addr->Prop} {wr:List Addr} {gs:List Nat} {s s1 s2:Shared} (x:Stp s s1) (y:Mv old wr gs s1 s2) (h0:∀ b o,s.heap.get? b=some o->old b) (h1:∀ b∈wr,s.heap.get? b=none) (h2:∀ g∈gs,s.gens.size<=g):Stp s s2:=by
 refine ⟨fun b o e=>y.keep b o (fun m=>by rw [h1 b m] at e;exact nso e) (.inl (h0 b o e)) (x.keep b o e),⟨Nat.le_trans x.gk.size y.size,fun i hi=>?_,fun hb=>y.bare (x.gk.bare hb)⟩,y.os.trans x.os⟩
 rw [y.gold i (Nat.lt_of_lt_of_le hi x.gk.size) fun m=>absurd (h2 i m) (Nat.not_le.mpr hi)]
 exact x.gk.old i hi
set_option tactic.hygienic true in
theorem ds_len {it:It} {E:AE} {ds:List PyData} {G T} (h:evIt G T it E=some ds):ds.length<=1000000:=by
 have ie:∀ (l:List Nat) (i:Nat) (b:Bool),(iterEsc l i b).length<=l.length+1:=by
  intro l
  induction l with
  | nil=>intro i b;cases b <;> simp [iterEsc]
  | cons a l ih =>
   intro i b
   induction b with
   | true=>simp only [iterEsc,List.length_cons];have:=ih (i+1) false;lia
   | false =>
    simp only [iterEsc]
    split
    ·have:=ih (i+1) true;simp only [List.length_cons];lia
    ·simp only [List.length_cons];have:=ih (i+1) false;lia
 cases it with
 | val a =>
  revert h
  refine sbn fun x _ h=>?_
  cases x with
  | list xs=>simp only [items] at h;split at h <;> (first | exact nso h | (replace h:=(Option.some.inj h).symm;subst h) | cases h);assumption
  | tuple xs=>simp only [items] at h;split at h <;> (first | exact nso h | (replace h:=(Option.some.inj h).symm;subst h) | cases h);assumption
  | str xs =>
   simp only [items] at h
   split at h
   ·rename_i q;(replace h:=(Option.some.inj h).symm;subst h);simp only [signsOf,List.length_map];exact q.2
   ·exact nso h
  | _=>exact nso h
 | rng1 a =>
  revert h
  refine sbn fun x _=>sbn fun n _ h=>?_
  revert h
  refine ifs fun z0c h=>?_
  (replace h:=(Option.some.inj h).symm;subst h);rw [rngL_length];lia
 | rng2 a b =>
  revert h
  refine sbn fun x _=>sbn fun n _=>sbn fun y _=>sbn fun k _ h=>?_
  revert h
  refine ifs fun z0c h=>?_
  (replace h:=(Option.some.inj h).symm;subst h);rw [rngL_length];lia
 | rng3 a b d =>
  revert h
  refine sbn fun x _=>sbn fun n _=>sbn fun y _=>sbn fun k _=>sbn fun z _=>sbn fun t _ h=>?_
  revert h
  refine ifs fun q h=>?_
  (replace h:=(Option.some.inj h).symm;subst h)
  rw [rngL_length]
  unfold rngN
  split
  ·have h6:(k - n+t - 1) / t<=k - n+t - 1:=Int.ediv_le_self _ (by lia)
   omega
  ·lia
 | enm a =>
  revert h
  refine sbn fun x _=>sbn fun n _ h=>?_
  revert h
  refine ifs fun z0c h=>?_
  (replace h:=(Option.some.inj h).symm;subst h);rw [enumL_length];lia
 | gen a =>
  revert h
  refine sbn fun x _=>sbn fun n _ h=>?_
  revert h
  refine ifs fun z0c h=>?_
  (replace h:=(Option.some.inj h).symm;subst h);have:=ie n 0 false;lia
end
structure CI (cenv:Env) (D:Addr) (OX Own':Addr->Prop) (s s0:Shared) (yd:List PyData) (P:Nat->Option Value) (s':Shared):Prop where
 stp:Stp s s'
 kp:KpF OX s0.heap s'.heap
 gz:s0.gens.size<=s'.gens.size
 sto:Sto cenv s'.heap P
 cel:∀ x a,cenv.cells.lookup x=some a->∃ o,s'.heap.IsCell a o
 acc:∃ vs,s'.heap.PlainList D vs/\All2 (Rd0 Own' s'.heap) vs.toList yd
structure CF (cenv:Env) (ids:List Nat) (D:Addr) (OX Own':Addr->Prop) (fp wr:List Addr) (gs:List Nat) (s s0:Shared):Prop where
 hfp:∀ b∈fp,∃ o,s0.heap.get? b=some o
 hwr:∀ b∈wr,b∈fp/\s.heap.get? b=none
 hgs:∀ g∈gs,s.gens.size<=g/\g < s0.gens.size
 d:D=s0.heap.objs.size
 ox:OX D
 own:Own' D
 loc:D < cenv.locals
 cel:∀ x a,cenv.cells.lookup x=some a->D < a\/∃ o,s.heap.get? a=some o
 hids:∀ i∈ids,cenv.kindOf (nm i)=some .cell->∀ a,cenv.cells.lookup (nm i)=some a->D < a
 st0:Stp s s0
section
variable {cenv:Env} {ids:List Nat} {D:Addr} {OX Own':Addr->Prop} {fp wr:List Addr} {gs:List Nat} {s s0 s1 s2:Shared} {yd:List PyData} {P:Nat->Option Value}
theorem CF.nwr (F:CF cenv ids D OX Own' fp wr gs s s0) {b:Addr} (h:D<=b):b ∉ wr:=fun m=>by
 (refine e1a1 (F.hfp b (F.hwr b m).1) ?_;rintro o ho)
 exact absurd (Heap.lt_size ho) (Nat.not_lt.mpr (F.d ▸ h))
theorem CF.ncel (F:CF cenv ids D OX Own' fp wr gs s s0) {x:Str} {a:Addr} (h:cenv.cells.lookup x=some a):a ∉ wr:=by
 rcases F.cel x a h with q | ⟨o,q⟩
 ·exact F.nwr (Nat.le_of_lt q)
 ·exact fun m=>by rw [(F.hwr a m).2] at q;exact nso q
theorem CI.mvG {old:Addr->Prop} (x:CI cenv D OX Own' s s0 yd P s1) (m:Mv old wr gs s1 s2) (h0:∀ b o,s.heap.get? b=some o->old b) (h1:∀ b∈wr,s.heap.get? b=none) (h2:∀ g∈gs,s.gens.size<=g) (hl:cenv.locals ∉ wr) (hc:∀ y a,cenv.cells.lookup y=some a->a ∉ wr):CI cenv D OX Own' s s0 yd P s2:=by
 have kseq:∀ OY:Addr->Prop,KpF OY s1.heap s2.heap:=fun OY b o vs n hb hd u_=>m.seq b o vs n hd hb
 refine ⟨x.stp.mv m h0 h1 h2,x.kp.trans (kseq _),Nat.le_trans x.gz m.size,?_,fun y a h=>?_,?_⟩
 ·have S:=x.sto
  (refine e1a2 S.ns ?_;rintro mm ⟨o',es,ep,ho',hd',u_⟩ u_)
  refine S.at (fun o e=>m.keep _ o hl (.inr fun fs q=>by rw [e] at ho';(replace ho':=(Option.some.inj ho').symm;subst ho');rw [q] at hd';cases hd') e) fun y a u_ h o e=>m.keep a o (hc y a h) (.inr fun fs q=>?_) e
  (refine e2a2 (x.cel y a h) ?_;rintro o2 ob ho hd)
  rw [e] at ho;(replace ho:=Option.some.inj ho;subst ho);rw [q] at hd;cases hd
 ·(refine e2a2 (x.cel y a h) ?_;rintro o ob ho hd)
  exact ⟨o,ob,m.keep a ob (hc y a h) (.inr fun fs q=>by rw [q] at hd;cases hd) ho,hd⟩
 ·(refine e1a2 x.acc ?_;rintro vs ⟨n,hl⟩ hx)
  exact ⟨vs,⟨n,m.seq _ _ _ _ rfl hl⟩,hx.mono fun u_ u_ q=>q.kpf (kseq _)⟩
theorem CI.mv (F:CF cenv ids D OX Own' fp wr gs s s0) (x:CI cenv D OX Own' s s0 yd P s1) (m:Mv (fun b=>∃ o,s0.heap.get? b=some o) wr gs s1 s2):CI cenv D OX Own' s s0 yd P s2 :=
 x.mvG m (fun b o e=>⟨o,F.st0.keep b o e⟩) (fun b hb=>(F.hwr b hb).2) (fun g hg=>(F.hgs g hg).1) (F.nwr (Nat.le_of_lt F.loc)) fun y a h=>F.ncel h
theorem CI.st (x:CI cenv D OX Own' s s0 yd P s1) (st:Stp s1 s2):CI cenv D OX Own' s s0 yd P s2:=by
 (refine e1a2 x.acc ?_;rintro vs hl hx)
 exact ⟨x.stp.trans st,x.kp.trans (.of st.keep),Nat.le_trans x.gz st.gk.size,x.sto.keep st.keep,fun y a h=>let ⟨o,ho⟩:=x.cel y a h;⟨o,ho.keeps st.keep⟩,
  vs,PlainList.keep st.keep hl,hx.mono fun u_ u_ q=>q.keep st.keep⟩
theorem below_s {s s0:Shared} (st:Stp s s0) {b:Addr} {o:Obj} (h:s.heap.get? b=some o):b < s0.heap.objs.size:=Heap.lt_size (st.keep _ _ h)
noncomputable def Far (cenv:Env) (ids:List Nat) (D b:Addr):Prop:=b≠D/\b≠cenv.locals/\∀ i∈ids,cenv.kindOf (nm i)=some .cell->cenv.cells.lookup (nm i)≠some b
theorem CI.ncel (x:CI cenv D OX Own' s s0 yd P s1) {b y:_} {o:Obj} (e:s1.heap.get? b=some o) (h:cenv.cells.lookup y=some b):∃ v,o.data=.cell v:=by
 (refine e2a2 (x.cel y b h) ?_;rintro v ob ho hd)
 rw [e] at ho;(replace ho:=Option.some.inj ho;subst ho)
 exact ⟨_,hd⟩
theorem CI.kb (F:CF cenv ids D OX Own' fp wr gs s s0) (K:EnvOK cenv) (x:CI cenv D OX Own' s s0 yd P s1) {h':Heap} {tk:Nat} {P':Nat->Option Value} (k:Kb cenv ids s1.heap h') (So:Sto cenv h' P'):CI cenv D OX Own' s s0 yd P' { s1 with heap:=h',toks:=tk }:=by
 have S:=x.sto
 (refine e1a2 x.acc ?_;rintro vs ⟨n,hl⟩ hx)
 have low:∀ b o,b<=D->s1.heap.get? b=some o->h'.get? b=some o:=fun b o hb e =>
  k b o (Nat.ne_of_lt (Nat.lt_of_le_of_lt hb F.loc)) (fun i hi hk hl=>absurd (F.hids i hi hk b hl) (Nat.not_lt.mpr hb)) e
 refine ⟨⟨fun b o e=>low b o (F.d ▸ Nat.le_of_lt (below_s F.st0 e)) (x.stp.keep b o e),x.stp.gk,x.stp.os⟩,x.kp.trans (S.kpf k),x.gz,So,fun y a hy=>?_,vs,⟨n,low D _ (Nat.le_refl _) hl⟩,hx.mono fun u_ u_ q=>q.kpf (S.kpf k)⟩
 by_cases hcl:cenv.kindOf y=some .cell
 ·exact So.cells y a hcl hy
 ·(refine e2a2 (x.cel y a hy) ?_;rintro o ob ho hd)
  exact ⟨o,ob,k a ob (S.ne ⟨ob,ho,hd⟩) (fun i hi hk hq=>hcl (by rw [K.apart _ _ _ hy hq];exact hk)) ho,hd⟩
theorem CI.far (x:CI cenv D OX Own' s s0 yd P s1) {b:Addr} {o:Obj} (e:s1.heap.get? b=some o) (hb:∃ fs,o.data=.fields fs):Far cenv ids D b:=by
 (refine e1a1 hb ?_;clear hb;rintro fs hb)
 refine ⟨fun q=>?_,fun q=>?_,fun i hi hk hl=>?_⟩
 ·(refine e1a2 x.acc ?_;rintro vs ⟨n,hl⟩ u_)
  rw [q,hl] at e;(replace e:=Option.some.inj e;subst e);cases hb
 ·(refine e1a2 x.sto.ns ?_;rintro mm ⟨o',es,ep,ho',hd',u_⟩ u_)
  rw [q,ho'] at e;(replace e:=Option.some.inj e;subst e);rw [hb] at hd';cases hd'
 ·(refine e1a1 (x.ncel e hl) ?_;rintro v hv);rw [hb] at hv;cases hv
theorem CF.far (F:CF cenv ids D OX Own' fp wr gs s s0) {b:Addr} (hb:b∈fp):Far cenv ids D b:=by
 have hbD:b < D:=by (refine e1a1 (F.hfp b hb) ?_;rintro o' ho');rw [F.d];exact Heap.lt_size ho'
 exact ⟨Nat.ne_of_lt hbD,Nat.ne_of_lt (Nat.lt_trans hbD F.loc),fun i hi hk hl=>absurd (F.hids i hi hk b hl) (Nat.not_lt.mpr (Nat.le_of_lt hbD))⟩
theorem CI.low (F:CF cenv ids D OX Own' fp wr gs s s0) (x:CI cenv D OX Own' s s0 yd P s1) {b:Addr} {o:Obj} (e:s1.heap.get? b=some o) (hb:b∈fp\/∃ fs,o.data=.fields fs):Far cenv ids D b :=
 hb.elim F.far (x.far e)
theorem CI.app (F:CF cenv ids D OX Own' fp wr gs s s0) (x:CI cenv D OX Own' s s0 yd P s1) {h':Heap} {vs:Array Value} {v:Value} {d:PyData} (hl:h'.PlainList D (vs.push v)) (hs:Heap.SameBut D s1.heap h')
  (hx:All2 (Rd0 Own' s1.heap) vs.toList yd) (r:Rd0 Own' s1.heap v d) (hD:∃ n,s1.heap.get? D=some { cls:=.type "list",dict:=none,data:=.seq vs n,slots:=#[] }):CI cenv D OX Own' s s0 (yd++[d]) P { s1 with heap:=h' }:=by
 have S:=x.sto
 (refine e1a1 hD ?_;try clear hD;rintro n0 hD)
 have kk:∀ b o,b≠D->s1.heap.get? b=some o->h'.get? b=some o:=fun b o hb e=>(hs.2 b hb).trans e
 have kp:∀ OY:Addr->Prop,OY D->KpF OY s1.heap h':=fun OY hO b o ws n hb hd hc=>by
  refine kk b o (fun e=>?_) hb
  subst e
  rcases hc with hc | hc
  ·rw [hD] at hb;(replace hb:=(Option.some.inj hb).symm;subst hb);exact absurd hc (by simp)
  ·exact hc hO
 have dead:∀ b o,s0.heap.get? b=some o->b≠D:=fun b o e=>F.d ▸ Nat.ne_of_lt (Heap.lt_size e)
 have ncell:∀ y a,cenv.cells.lookup y=some a->a≠D:=fun y a h e=>by
  (refine e2a2 (x.cel y a h) ?_;rintro o ob ho hd)
  rw [e,hD] at ho;(replace ho:=Option.some.inj ho;subst ho);cases hd
 refine ⟨⟨fun b o e=>kk b o (dead b _ (F.st0.keep b o e)) (x.stp.keep b o e),x.stp.gk,x.stp.os⟩,x.kp.trans (kp _ F.ox),x.gz,S.at (fun o e=>kk _ o (Nat.ne_of_gt F.loc) e) fun y a u_ h o e=>kk a o (ncell y a h) e,
  fun y a h=>?_,vs.push v,hl,?_⟩
 ·(refine e2a2 (x.cel y a h) ?_;rintro o ob ho hd)
  exact ⟨o,ob,kk a ob (ncell y a h) ho,hd⟩
 ·rw [Array.toList_push]
  exact (hx.mono fun u_ u_ q=>q.kpf (kp _ F.own)).append (.cons (r.kpf (kp _ F.own)) .nil)
end
theorem chkT_tup {sc:Scope} {t:Tgt} {e:Expr} (h:chkT sc t e=true) {it:It} (ht:tgtOk it t=true):isEnm it=true->∃ es k p,e=Expr.Tuple es k p:=by
 intro hi
 have hq0:∃ v0,it=.enm v0:=by revert hi;generalize it=y0;intro hi;cases y0 <;> first | exact ⟨_,rfl⟩ | exact nso hi | exact nbt hi | cases hi
 (refine e1a1 hq0 ?_;try clear hq0;rintro a rfl)
 cases t with
 | name i=>exact nbt ht
 | tup is =>
  exact chkT_is h
theorem Rd0.alive {X:Addr->Prop} {h:Heap} {a:Addr} {d:PyData} (r:Rd0 X h (.ref a) d):∃ o,h.get? a=some o:=by
 (refine e1a2 r ?_;try clear r;rintro as r u_)
 cases r <;> exact ⟨_,‹_›⟩
theorem plain_same {h:Heap} {a:Addr} {vs ws:Array Value} (x:h.PlainList a vs) (y:h.PlainList a ws):vs=ws:=by
 (refine e1a1 x ?_;try clear x;rintro n e)
 (refine e1a1 y ?_;try clear y;rintro m e')
 rw [e] at e'
 cases e'
 rfl
noncomputable def FrR (s:Shared) (h:Heap) (D:Addr):Prop:=∀ vs,h.PlainList D vs->(∀ v∈vs.toList,∀ a,v=.ref a->s.heap.get? a=none/\a≠D)/\vs.toList.Pairwise fun v w=>∀ a,v=.ref a->w≠.ref a
theorem FrR.at {s:Shared} {h h':Heap} {D:Addr} {vs:Array Value} (x:FrR s h D) (hl:h.PlainList D vs) (k:∀ n,h.get? D=some { cls:=.type "list",dict:=none,data:=.seq vs n,slots:=#[] }->h'.PlainList D vs):FrR s h' D:=by
 intro ws hw
 (refine e1a1 (id hl) ?_;rintro n e)
 rw [<-plain_same (k n e) hw]
 exact x vs hl
theorem FrR.push {s s6:Shared} {h h':Heap} {D:Addr} {vs:Array Value} {v:Value} {X:Addr->Prop} {yd:List PyData} (x:FrR s h D) (hl:h.PlainList D vs) (hl':h'.PlainList D (vs.push v)) (k:KeepH s.heap s6.heap) (hl6:s6.heap.PlainList D vs)
  (hx6:All2 (Rd0 X s6.heap) vs.toList yd) (hf:Fr1 s6 v):FrR s h' D:=by
 intro ws hw
 rw [<-plain_same hl' hw]
 obtain ⟨h1,h2⟩:=x vs hl
 rw [Array.toList_push]
 refine ⟨fun u hu a e=>?_,?_⟩
 ·rcases List.mem_append.mp hu with m | m
  ·exact h1 u m a e
  ·rw [List.mem_singleton.mp m] at e
   have q:=hf a e
   constructor
   ·cases hh:s.heap.get? a with
    | none=>rfl
    | some o=>rw [k _ _ hh] at q;exact nsn q
   ·rintro rfl
    (refine e1a1 hl6 ?_;try clear hl6;rintro n e6)
    rw [e6] at q;exact nsn q
 ·rw [List.pairwise_append]
  refine ⟨h2,List.pairwise_singleton _ _,fun u hu w hw a e e'=>?_⟩
  rw [List.mem_singleton.mp hw] at e'
  have q:=hf a e'
  (refine e1a1 (List.mem_iff_getElem.mp hu) ?_;rintro i hz_;obtain ⟨hi,he⟩:=hz_)
  (refine e1a2 (hx6.get' (i:=i) (a:=u) (by rw [List.getElem?_eq_getElem hi,he])) ?_;rintro b u_ hb)
  rw [e] at hb
  (refine e1a1 hb.alive ?_;rintro o ho)
  rw [ho] at q;exact nsn q
theorem comp_cons {tests:AE->Option Bool} {elt:AE->Option PyData} {bindv:PyData->Option AE} {d:PyData} {ds zs:List PyData} {P:Prop} (h:compLoop tests elt bindv (d::ds)=some zs)
  (k:∀ E1 tb,bindv d=some E1->tests E1=some tb->(tb=false->compLoop tests elt bindv ds=some zs)->(tb=true->∃ y ys,elt E1=some y/\compLoop tests elt bindv ds=some ys/\zs=y::ys)->P):P:=by
 revert h
 refine sbn fun E1 hE1=>sbn fun tb ht=>?_
 cases tb with
 | false=>exact fun h=>k E1 _ hE1 ht (fun u_=>h) fun q=>nomatch q
 | true=>exact sbn fun y hy=>sbn fun ys hys e=>k E1 _ hE1 ht (fun q=>nomatch q) fun u_=>⟨y,ys,hy,hys,(Option.some.inj e).symm⟩
theorem FrR.nil {cenv:Env} {D:Addr} {OX Own':Addr->Prop} {s s0 s1:Shared} {P:Nat->Option Value} (x:CI cenv D OX Own' s s0 [] P s1):FrR s s1.heap D:=by
 intro ws hw
 (refine e1a2 x.acc ?_;rintro vs hl hx)
 rw [<-plain_same hl hw,List.eq_nil_of_length_eq_zero hx.length]
 exact ⟨fun v m=>(List.not_mem_nil m).elim,List.Pairwise.nil⟩
theorem FrR.kp {cenv:Env} {D:Addr} {OX Own':Addr->Prop} {s s0 s1:Shared} {yd:List PyData} {P:Nat->Option Value} {h':Heap} (f:FrR s s1.heap D) (x:CI cenv D OX Own' s s0 yd P s1) (k:∀ vs n,s1.heap.get? D=some { cls:=.type "list",dict:=none,data:=.seq vs n,slots:=#[] }->h'.get? D=some { cls:=.type "list",dict:=none,data:=.seq vs n,slots:=#[] }):FrR s h' D:=by
 (refine e1a2 x.acc ?_;rintro vs hl u_)
 exact f.at hl fun n e=>⟨n,k vs n e⟩
theorem comp_begin {c:Cfg} (C:CfgOK c) {n:Nat} {A:Around} {env:Env} {Own:Addr->Prop} {M:Nat->Nat} {E:AE} {s sa:Shared} {x tg ite:Expr} {fs:List Expr} {rest:List Comprehension} {scope:Scope} {p pos:Pos} {ids:List Nat} {ds:List PyData} {use:Option (Value->Sem Unit)} {Q:Value->Shared->Prop} {Er:Value->Shared->Prop} {k0:Nat} {tupT:Bool}
  (X:Cx c n A Own env M E s) (h0:notSet ite=true) (hev:∀ (Q:Value->Shared->Prop) (Er:Value->Shared->Prop),(∀ v s0,Stp s s0->WalkAt c A Own k0 tupT s s0 v ds->Q v s0)->wpAny (model c.prog c.w) A (eval ite env) (fun x s₁=>wpAny (model c.prog c.w) A (pyIter x) Q Er s₁) Er sa)
  (S:ScOK env.scope scope ids)
  (h:∀ D OX Own' ce fp wr gs s0 s4 v St Mid,CF ce ids D OX Own' fp wr gs s s0->Wk c A OX s0 tupT v fp wr gs St Mid->St ds s4->CI ce D OX Own' s s0 [] (fun u_=>none) s4->EnvOK ce->ce.scope=relab scope env.scope ->
   (∀ (OY:Addr->Prop) yd P s' E',(∀ a,Own' a->OY a)->CI ce D OX Own' s s0 yd P s'->GotW OY ids s'.heap P E E'->Cx c n A Own' ce (modeOff M ids) E' s')->(∀ a,Own' a->OX a) ->
   (∀ ys P s',CI ce D OX Own' s s0 ys P s'->Rd0 Own s'.heap (.ref D) (.list ys)/\s.heap.get? D=none/\s.heap.get? ce.locals=none) ->
   codeAny (model c.prog c.w) A (.compLoop (.ListComp x (⟨tg,ite,fs,0⟩::rest) scope p) 0 v (.ref D) ce) (compPost (model c.prog c.w) A Er use Q (.ref D) ce.locals) s4) :
  wpAny (model c.prog c.w) A (comprehension (.ListComp x (⟨tg,ite,fs,0⟩::rest) scope p) scope env pos (newList []) false (eval ite env) use) Q Er sa:=by
 (refine e1a3 (closure_ok X.eok (fun p hp hf=>(S.free p.1 (by rw [<-hf];exact hp)).1) S.nodup) ?_;rintro cl hcl c1 c2)
 refine wpAny_comprehension_free rfl (set_not h0) hcl S.kind (fun y hy hl=>look_of_mem S.nodup (hl ▸ hy)) ?_
 refine hev _ Er fun v s0 st0 W=>?_
 (refine e5a5 W ?_;try clear W;rintro fp wr gs St Mid W hst hwr hfp hgs)
 refine wpAny_newObj_type ?_
 have st3:Stp s { s0 with heap:=s0.heap.push { cls:=.type "list",data:=.seq ([]:List Value).toArray } }:=st0.trans .push
 refine new_comp (ids:=ids) X.eok (X.stp C st3).cells S c1 c2 fun cenv hp4 CE k4 hns hcel=>?_
 have hlo:(s0.heap.push { cls:=.type "list",data:=.seq ([]:List Value).toArray }).objs.size=s0.heap.objs.size+1:=Heap.size_push ..
 rw [show ({ s0 with heap:=s0.heap.push { cls:=.type "list",data:=.seq ([]:List Value).toArray } }:Shared).heap.objs.size=s0.heap.objs.size+1 from hlo] at CE
 have s4k:KeepH s0.heap hp4:=fun b o e=>k4 b o (Heap.get?_push_of_some _ e)
 have acc4:hp4.PlainList s0.heap.objs.size #[]:=⟨_,k4 _ _ (Heap.get?_push_size _ rfl)⟩
 clear st3 k4 hlo c1 c2 hcl cl
 show codeAny _ _ _ _ { s0 with heap:=hp4 }
 change hp4.Ns ({ cenv with scope:=relabel scope env }:Env).locals _ at hns
 change ∀ x a,({ cenv with scope:=relabel scope env }:Env).cells.lookup x=some a->_ at hcel
 show codeAny _ _ _ (compPost _ _ _ _ _ _ ({ cenv with scope:=relabel scope env }:Env).locals) _
 generalize ({ cenv with scope:=relabel scope env }:Env)=ce at CE hns hcel ⊢
 clear cenv
 have fr:∀ b,s0.heap.objs.size<=b->s.heap.get? b=none:=fun b hb=>by
  cases hh:s.heap.get? b with
  | none=>rfl
  | some o=>exact absurd (below_s st0 hh) (Nat.not_lt.mpr hb)
 have fD:s0.heap.get? s0.heap.objs.size=none:=Heap.fresh_size _
 show codeAny _ _ (.compStart _ _ _ (.ref s0.heap.objs.size) _) (compPost _ _ _ _ _ (.ref s0.heap.objs.size) _) _
 generalize hD:s0.heap.objs.size=D at CE acc4 fr fD ⊢
 have F:CF ce ids D (OXof Own s0) (fun a=>Own a\/a=D) fp wr gs s s0:={
  hfp:=fun b hb=>(hfp b hb).1
  hwr:=hwr
  hgs:=hgs
  d:=hD.symm
  ox:=.inr fD
  own:=.inr rfl
  loc:=CE.loc
  cel:=fun y a hy=>(CE.cells y a hy).elim (fun q=>.inl q.1) fun q=>.inr (by
   (refine e2a2 (X.cells y a q.2) ?_;rintro o ob ho u_)
   exact ⟨ob,ho⟩)
  hids:=fun i hi hk a ha=>CE.own S hi hk ha
  st0:=st0 }
 clear hD
 have fs1:=fr D (Nat.le_refl _)
 have fs2:=fr ce.locals (Nat.le_of_lt F.loc)
 have hOX:∀ a,(Own a\/a=D)->OXof Own s0 a:=fun a q=>q.elim .inl fun q=>.inr (q ▸ fD)
 have hst4:St ds { s0 with heap:=hp4 }:=W.stay ds s0 _ hst (fun b o u_ e=>s4k b o e) (fun u_ u_=>rfl) (.of s4k)
 refine (fun loop=>codeAny_compStart_list loop (W.self ds _ _ _ hst4 loop)) (h D (OXof Own s0) (fun a=>Own a\/a=D) ce fp wr gs s0 _ v St Mid F W hst4
  ⟨st0.trans (.heap s4k),.of s4k,Nat.le_refl _,⟨⟨_,hns,fun i v e=>nomatch e⟩,fun y a u_ ha=>hcel y a ha⟩,hcel,#[],acc4,.nil⟩ (CE.eok X.eok S) CE.sc
  (fun OY yd P s' E' hOY ci G=>comp_cx C X ci.stp S CE (fun a q hl=>q.elim id fun q=>e1a1 hl fun o ho=>nso ((q ▸ fs1).symm.trans ho)) (fun a q=>q.elim (fun q=>?_) fun q=>?_) hOY ci.sto G ci.cel) hOX fun ys P s' ci=>⟨?_,fs1,fs2⟩)
 ·(refine e1a1 (X.live a q) ?_;rintro o ho)
  exact ⟨o,ci.stp.keep _ _ ho⟩
 ·(refine e1a2 ci.acc ?_;rintro vs ⟨nn,hl⟩ u_)
  exact ⟨_,q ▸ hl⟩
 ·(refine e1a2 ci.acc ?_;rintro vs hl hx)
  refine RdG.list hl (hx.mono fun u_ u_ q=>q.weak fun a ha=>.inl ha) fun q=>?_
  (refine e1a1 (X.live _ q) ?_;rintro o ho)
  exact nso (fs1.symm.trans ho)
theorem comp_at {c:Cfg} (C:CfgOK c) {elt:X} {t:Tgt} {ifs:Xs} (hts:TssOK c ifs) (hel:EvOK c elt)
  {n:Nat} {A:Around} {env:Env} {Own:Addr->Prop} {M:Nat->Nat} {E:AE} {s sa:Shared} {x tg ite:Expr} {fs:List Expr} {scope:Scope} {p pos:Pos} {ds ys:List PyData} {use:Option (Value->Sem Unit)} {Q:Value->Shared->Prop} {Er:Value->Shared->Prop} {k0:Nat} {tupT:Bool}
  (X:Cx c n A Own env M E s) (h0:notSet ite=true) (hev:∀ (Q:Value->Shared->Prop) (Er:Value->Shared->Prop),(∀ v s0,Stp s s0->WalkAt c A Own k0 tupT s s0 v ds->Q v s0)->wpAny (model c.prog c.w) A (eval ite env) (fun x s₁=>wpAny (model c.prog c.w) A (pyIter x) Q Er s₁) Er sa)
  (htup:tupT=true->∃ es k p,tg=Expr.Tuple es k p) (hlen:ds.length<=1000000) (hsc:chkScope env.scope scope t.ids=true) (h3:chkT (relab scope env.scope) t tg=true)
  (h4:chkXs c.fnm c.rk n (relab scope env.scope) ifs fs=true) (h5:chkX c.fnm c.rk n (relab scope env.scope) elt x=true)
  (o2:okXs (modeOff M t.ids) ifs=true) (o3:okX (modeOff M t.ids) elt=true) (o4:odX (modeOff M t.ids) elt=0)
  (hys:compLoop (fun E'=>evTests c.G c.T ifs E') (fun E'=>ev c.G c.T elt E') (fun d=>bindT t d E) ds=some ys)
  (h:∀ D C s',Stp s s'->Rd0 Own s'.heap (.ref D) (.list ys)->s.heap.get? D=none->s.heap.get? C=none->(∃ m,s'.heap.Ns C m)->(newX elt=true->FrR s s'.heap D)->compPost (model c.prog c.w) A Er use Q (.ref D) C (.ok .next) s') :
  wpAny (model c.prog c.w) A (comprehension (.ListComp x [⟨tg,ite,fs,0⟩] scope p) scope env pos (newList []) false (eval ite env) use) Q Er sa:=by
 refine comp_begin C X h0 hev (scOK_of hsc) fun D OX Own' ce fp wr gs s0 s4 v St Mid F W hst4 start K hce cx hOX fin=>?_
 rw [<-hce] at h3 h4 h5
 clear hev h0 hsc hce
 generalize hI:(fun k s'=>∃ ds' yd zs P1,k=ds'.length/\St ds' s'/\CI ce D OX Own' s s0 yd P1 s'/\yd.length+ds'.length<=1000000 /\
  compLoop (fun E'=>evTests c.G c.T ifs E') (fun E'=>ev c.G c.T elt E') (fun d=>bindT t d E) ds'=some zs/\ys=yd++zs/\(newX elt=true->FrR s s'.heap D))=I
 have mk:∀ {ds' yd zs P1 s'},St ds' s'->CI ce D OX Own' s s0 yd P1 s'->yd.length+ds'.length<=1000000->compLoop (fun E'=>evTests c.G c.T ifs E') (fun E'=>ev c.G c.T elt E') (fun d=>bindT t d E) ds'=some zs->ys=yd++zs->(newX elt=true->FrR s s'.heap D)->I ds'.length s' :=
  fun h1 h2 h3 h4 h5 h6=>hI ▸ ⟨_,_,_,_,rfl,h1,h2,h3,h4,h5,h6⟩
 refine comp_loop I ?_ ds.length (mk hst4 start (by rw [List.length_nil,Nat.zero_add];exact hlen) hys rfl fun u_=>FrR.nil start)
 rintro k s1 hz_ Er'
 rw [<-hI] at hz_
 (refine e4a7 hz_ ?_;clear hz_ hI hys hst4 start;rintro ds' yd zs P1 rfl hst1 ci1 hyl hz rfl fr1)
 cases ds' with
 | nil =>
  (replace hz:=(Option.some.inj hz).symm;subst hz)
  refine W.done s1 _ Er' (X.stp C ci1.stp).base hst1 fun s2 mv=>?_
  have ci2:=ci1.mv F mv
  (refine e1a2 ci2.sto.ns ?_;rintro m hm u_)
  (refine e0a3 (fin _ _ _ ci2) ?_;rintro r hD hC)
  exact h _ _ s2 ci2.stp (by rw [List.append_nil];exact r) hD hC ⟨m,hm⟩ fun nw=>(fr1 nw).kp ci1 fun vs n e=>mv.seq _ _ vs _ rfl e
 | cons d ds' =>
  refine comp_cons hz fun E1 tb hE1 htb hz0 hz1=>?_
  clear hz
  refine W.next d ds' s1 _ Er' (X.stp C ci1.stp).base hst1 ci1.kp fun v1 s2 mv hmid=>?_
  have ci2:=ci1.mv F mv
  refine W.go tg d ds' v1 s2 _ Er' htup hmid ci2.kp fun s3 mv3 hst3 hrd=>?_
  have ci3:=ci2.mv F mv3
  refine asg_tgt X.room.hand K h3 hrd hE1 ci3.sto fun hp5 tk5 P' kb So5 G=>?_
  have ci5:=CI.kb (tk:=tk5) F K ci3 kb So5
  have hst5:St ds' { s3 with heap:=hp5,toks:=tk5 }:=W.stay ds' s3 _ hst3 (fun b o hb e=>let q:=ci3.low F e hb;kb b o q.2.1 q.2.2 e) (fun u_ u_=>rfl) ci5.kp
  have keep5:∀ vs n,s1.heap.get? D=some { cls:=.type "list",dict:=none,data:=.seq vs n,slots:=#[] }->hp5.get? D=some { cls:=.type "list",dict:=none,data:=.seq vs n,slots:=#[] }:=fun vs n e =>
   kb D _ (Nat.ne_of_lt F.loc) (fun i hi hk hl=>absurd (F.hids i hi hk _ hl) (Nat.lt_irrefl _)) (mv3.seq _ _ vs _ rfl (mv.seq _ _ vs _ rfl e))
  have cx5:=cx OX _ _ _ E1 hOX ci5 G.w
  have fr5:newX elt=true->FrR s hp5 D:=fun nw=>(fr1 nw).kp ci1 keep5
  clear ci2 hmid ci3 hst3 hrd So5 G mv mv3 fr1 keep5
  change newX elt=true->FrR s ({ s3 with heap:=hp5,toks:=tk5 }:Shared).heap D at fr5
  generalize ({ s3 with heap:=hp5,toks:=tk5 }:Shared)=s5 at ci5 hst5 cx5 fr5 ⊢
  clear kb
  refine hts n A ce _ _ E1 s5 fs tb _ Er' cx5 h4 o2 htb fun s6 st6=>?_
  have ci6:=ci5.st st6
  have fr6:newX elt=true->FrR s s6.heap D:=fun nw=>(fr5 nw).kp ci5 fun vs n e=>st6.keep _ _ e
  have hst6:St ds' s6:=W.stay ds' _ _ hst5 (fun b o u_ e=>st6.keep b o e) (fun g hg=>st6.gk.old g (Nat.lt_of_lt_of_le (F.hgs g hg).2 ci5.gz)) ci6.kp
  cases tb with
  | false =>
   rw [if_neg Bool.false_ne_true]
   exact ⟨ds'.length,Nat.lt_succ_self _,mk hst6 ci6 (Nat.le_trans (Nat.le_succ _) hyl) (hz0 rfl) rfl fr6⟩
  | true =>
   rw [if_pos rfl]
   (refine e2a3 (hz1 rfl) ?_;clear hz0 hz1;rintro y zs2 hy hz rfl)
   refine hel n A ce _ _ E1 s6 x y _ Er' (cx5.stp C st6) h5 o3 hy fun v2 s7 st7 r7 fr7=>?_
   rw [o4] at r7
   (refine e1a2 ci6.acc ?_;rintro vs hl6 hx6)
   have hvl:vs.toList.length=yd.length:=hx6.length
   rw [Array.length_toList] at hvl
   have ci7:=ci6.st st7
   have hl7:=PlainList.keep st7.keep hl6
   refine wpAny_list_append_plain hl7 (fun h8 hl8 hs8=>?_) (sz_lim (by rw [hvl];exact Nat.le_trans (Nat.le_add_right _ _) hyl))
   have ci8:=ci7.app F hl8 hs8 (hx6.mono fun u_ u_ q=>q.keep st7.keep) r7 hl7
   exact ⟨ds'.length,Nat.lt_succ_self _,mk (W.stay ds' s6 _ hst6 (fun b o hb e=>(hs8.2 b (ci6.low F e hb).1).trans (st7.keep b o e)) (fun g hg=>st7.gk.old g (Nat.lt_of_lt_of_le (F.hgs g hg).2 ci6.gz)) ci8.kp) ci8
    (by rw [List.length_append,Nat.add_assoc,Nat.add_comm _ ds'.length];exact hyl) hz (by rw [List.append_assoc];rfl) fun nw=>(fr6 nw).push hl6 hl8 ci6.stp.keep hl6 hx6 (fr7 nw)⟩
theorem comp_any {c:Cfg} (C:CfgOK c) {elt:X} {t:Tgt} {it:It} {ifs:Xs} (hit:ItOK c it) (hts:TssOK c ifs) (hel:EvOK c elt)
  {n:Nat} {A:Around} {env:Env} {Own:Addr->Prop} {M:Nat->Nat} {E:AE} {s:Shared} {x tg ite:Expr} {fs:List Expr} {scope:Scope} {p pos:Pos} {ds ys:List PyData} {use:Option (Value->Sem Unit)} {Q:Value->Shared->Prop} {Er:Value->Shared->Prop}
  (X:Cx c n A Own env M E s) (h0:notSet ite=true) (hto:tgtOk it t=true) (h1:chkIt c.fnm c.rk n env.scope it ite=true) (hsc:chkScope env.scope scope t.ids=true) (h3:chkT (relab scope env.scope) t tg=true)
  (h4:chkXs c.fnm c.rk n (relab scope env.scope) ifs fs=true) (h5:chkX c.fnm c.rk n (relab scope env.scope) elt x=true)
  (o1:okIt M it=true) (o2:okXs (modeOff M t.ids) ifs=true) (o3:okX (modeOff M t.ids) elt=true) (o4:odX (modeOff M t.ids) elt=0)
  (hds:evIt c.G c.T it E=some ds) (hys:compLoop (fun E'=>evTests c.G c.T ifs E') (fun E'=>ev c.G c.T elt E') (fun d=>bindT t d E) ds=some ys)
  (h:∀ D C s',Stp s s'->Rd0 Own s'.heap (.ref D) (.list ys)->s.heap.get? D=none->s.heap.get? C=none->(∃ m,s'.heap.Ns C m)->(newX elt=true->FrR s s'.heap D)->compPost (model c.prog c.w) A Er use Q (.ref D) C (.ok .next) s') :
  wpAny (model c.prog c.w) A (comprehension (.ListComp x [⟨tg,ite,fs,0⟩] scope p) scope env pos (newList []) false (eval ite env) use) Q Er s :=
 comp_at C hts hel X h0 (fun Q Er h=>hit n A env Own M E s ite ds Q Er X h1 o1 hds h) (chkT_tup h3 hto) (ds_len hds) hsc h3 h4 h5 o2 o3 o4 hys h
section
variable {c:Cfg}
theorem ev_compR (C:CfgOK c) {elt:X} {t:Tgt} {it:It} {ifs:Xs} (hit:ItOK c it) (hts:TssOK c ifs) (hel:EvOK c elt) {n:Nat} {A:Around} {env:Env} {Own:Addr->Prop} {M:Nat->Nat} {E:AE} {s:Shared} {e:Expr} {d:PyData} {Q:Value->Shared->Prop} {Er:Value->Shared->Prop}
  (X:Cx c n A Own env M E s) (hc:chkX c.fnm c.rk n env.scope (.comp elt t it ifs) e=true) (ho:okX M (.comp elt t it ifs)=true) (he:ev c.G c.T (.comp elt t it ifs) E=some d)
  (h:∀ v s',Stp s s'->Rd0 Own s'.heap v d->Fr1 s v->(newX elt=true->∀ D,v=.ref D->FrR s s'.heap D)->Q v s'):wpAny (model c.prog c.w) A (eval e env) Q Er s:=by
 simp only [chkX_q_comp,Bool.and_eq_true] at hc
 (refine l3 hc ?_;try clear hc;rintro hng hto hc)
 (refine e6a7 (inv_comp hc) ?_;rintro x tg ite fs scope p rfl h0 h1 hsc h3 h4 h5)
 (refine k_bbbd (okX_q_comp.symm.trans ho) ?_;try clear ho;rintro o1 o2 o3 o4)
 revert he
 refine sbn fun ds hds=>sbn fun ys hys e0z=>?_
 (replace e0z:=(Option.some.inj e0z).symm;subst e0z)
 rw [eval_ListComp]
 refine comp_any C hit hts hel X h0 hto h1 hsc h3 h4 h5 o1 o2 o3 o4 hds hys fun D cc s' st r hD hC hn frr=>?_
 (refine e1a1 hn ?_;try clear hn;rintro m hm)
 refine ⟨m,hm,fun h' hs=>?_⟩
 have kk:∀ b o,b≠cc->s'.heap.get? b=some o->h'.get? b=some o:=fun b o hb e=>(hs.2 b hb).trans e
 have kp:∀ OY:Addr->Prop,KpF OY s'.heap h':=fun OY b o vs nn hb hd u_=>kk b o (fun e=>by
  subst e
  (refine e3a3 hm ?_;try clear hm;rintro o' es ep ho' hd' u_)
  rw [hb] at ho';(replace ho':=(Option.some.inj ho').symm;subst ho');rw [hd] at hd';cases hd') hb
 have k2:KeepH s.heap h':=fun b o e=>kk b o (fun q=>by rw [q,hC] at e;exact nso e) (st.keep b o e)
 refine h _ _ ⟨k2,st.gk,st.os⟩ (r.kpf (kp _)) (fun a e=>?_) fun nw D' e'=>?_
 ·cases e
  exact hD
 ·cases e'
  (refine e2a4 (Rd0.unlist r) ?_;rintro a' vs e1 hl u1_ u2_)
  cases e1
  refine (frr nw).at hl fun n e=>⟨n,kk D _ (fun q=>?_) e⟩
  subst q
  (refine e3a3 hm ?_;rintro o' es ep ho' hd' u_)
  rw [e] at ho';(replace ho':=(Option.some.inj ho').symm;subst ho');cases hd'
theorem ev_comp (C:CfgOK c) {elt:X} {t:Tgt} {it:It} {ifs:Xs} (hit:ItOK c it) (hts:TssOK c ifs) (hel:EvOK c elt):EvOK c (.comp elt t it ifs):=by
 intro n A env Own M E s e d Q Er X hc ho he h
 exact ev_compR C hit hts hel X hc ho he fun v s' st r f u_=>h v s' st r (fun u_=>f)
theorem ts_comp {elt:X} {t:Tgt} {it:It} {ifs:Xs} (hv:EvOK c (.comp elt t it ifs)):TsOK c (.comp elt t it ifs) :=
 ts_of_ev hv fun n sc e hc=>by
  simp only [chkX_q_comp,Bool.and_eq_true] at hc
  (refine e6a2 (inv_comp hc.2) ?_;rintro x tg ite fs scope p rfl u_)
  rfl
end
theorem Reads.det {h:Heap}:∀ {v:Value} {d:PyData} {as:List Addr},Reads h v d as->(∀ a∈as,Pl h a)->∀ {d':PyData} {bs:List Addr},Reads h v d' bs->d=d':=by
 intro v d as r
 refine Reads.rec (motive_1:=fun v d as u_=>(∀ a∈as,Pl h a)->∀ {d':PyData} {bs:List Addr},Reads h v d' bs->d=d') (motive_2:=fun vs ds as u_=>(∀ a∈as,Pl h a)->∀ {ds':List PyData} {bs:List Addr},ReadsAll h vs ds' bs->ds=ds') ?_ ?_ ?_ ?_ ?_ ?_ ?_ ?_ ?_ r
 ·intro _ d' bs r';cases r';rfl
 ·intro _ _ d' bs r';cases r';rfl
 ·intro _ _ _ d' bs r';cases r';rfl
 ·intro _ _ _ d' bs r';cases r';rfl
 ·intro a o vs n xs as ho hc hd _ ih q d' bs r'
  cases r' with
  | list ho' hc' hd' r2 =>
   rw [ho] at ho';(replace ho':=(Option.some.inj ho').symm;subst ho')
   rw [hd] at hd';cases hd'
   rw [ih (fun b m=>q b (List.mem_cons_of_mem _ m)) r2]
  | tuple ho' hc' hd' r2=>rw [ho] at ho';(replace ho':=(Option.some.inj ho').symm;subst ho');rw [hc] at hc';exact absurd hc' (by simp)
  | dict ho' hc' hd' r2 r3=>rw [ho] at ho';(replace ho':=(Option.some.inj ho').symm;subst ho');rw [hc] at hc';exact absurd hc' (by simp)
 ·intro a o vs n xs as ho hc hd _ ih q d' bs r'
  cases r' with
  | tuple ho' hc' hd' r2 =>
   rw [ho] at ho';(replace ho':=(Option.some.inj ho').symm;subst ho')
   rw [hd] at hd';cases hd'
   rw [ih q r2]
  | list ho' hc' hd' r2=>rw [ho] at ho';(replace ho':=(Option.some.inj ho').symm;subst ho');rw [hc] at hc';exact absurd hc' (by simp)
  | dict ho' hc' hd' r2 r3=>rw [ho] at ho';(replace ho':=(Option.some.inj ho').symm;subst ho');rw [hc] at hc';exact absurd hc' (by simp)
 ·intro a o es n kvs as bs ho hc hd _ _ _ _ q
  (refine e2a1 (q a (List.mem_append_left _ List.mem_cons_self)) ?_;rintro vs n' ho')
  rw [ho] at ho'
  have e:=Option.some.inj ho'
  subst e
  cases hd
 ·intro _ ds' bs r';cases r';rfl
 ·intro v vs d ds as bs _ _ ih1 ih2 q ds' bs' r'
  cases r' with
  | cons r1 r2=>rw [ih1 (fun a m=>q a (List.mem_append_left _ m)) r1,ih2 (fun a m=>q a (List.mem_append_right _ m)) r2]
theorem Reads.sub {h:Heap}:∀ {v:Value} {d:PyData} {as:List Addr},Reads h v d as->(∀ a∈as,Pl h a)->∀ b∈as,∃ d' bs,Reads h (.ref b) d' bs/\sizeOf d'<=sizeOf d:=by
 intro v d as r
 refine Reads.rec (motive_1:=fun v d as u_=>(∀ a∈as,Pl h a)->∀ b∈as,∃ d' bs,Reads h (.ref b) d' bs/\sizeOf d'<=sizeOf d) (motive_2:=fun vs ds as u_=>(∀ a∈as,Pl h a)->∀ b∈as,∃ d' bs,Reads h (.ref b) d' bs/\sizeOf d'<=sizeOf ds) ?_ ?_ ?_ ?_ ?_ ?_ ?_ ?_ ?_ r
 ·intro _ b m;cases m
 ·intro _ _ b m;cases m
 ·intro _ _ _ b m;cases m
 ·intro _ _ _ b m;cases m
 ·intro a o vs n xs as ho hc hd hr ih q b m
  rcases List.mem_cons.mp m with rfl | m
  ·exact ⟨_,_,.list ho hc hd hr,Nat.le_refl _⟩
  ·(refine e2a2 (ih (fun b m=>q b (List.mem_cons_of_mem _ m)) b m) ?_;rintro d' bs r' hs)
   exact ⟨d',bs,r',by simp only [PyData.list.sizeOf_spec];lia⟩
 ·intro a o vs n xs as ho hc hd hr ih q b m
  (refine e2a2 (ih q b m) ?_;rintro d' bs r' hs)
  exact ⟨d',bs,r',by simp only [PyData.tuple.sizeOf_spec];lia⟩
 ·intro a o es n kvs as bs ho hc hd _ _ _ _ q
  (refine e2a1 (q a (List.mem_append_left _ List.mem_cons_self)) ?_;rintro vs n' ho')
  rw [ho] at ho'
  have e:=Option.some.inj ho'
  subst e
  cases hd
 ·intro _ b m;cases m
 ·intro v vs d ds as bs _ _ ih1 ih2 q b m
  rcases List.mem_append.mp m with m | m
  ·(refine e2a2 (ih1 (fun a m=>q a (List.mem_append_left _ m)) b m) ?_;rintro d' cs r' hs)
   exact ⟨d',cs,r',by simp only [List.cons.sizeOf_spec];lia⟩
  ·(refine e2a2 (ih2 (fun a m=>q a (List.mem_append_right _ m)) b m) ?_;rintro d' cs r' hs)
   exact ⟨d',cs,r',by simp only [List.cons.sizeOf_spec];lia⟩
set_option tactic.hygienic true in
theorem Rd0.unlistA {Own:Addr->Prop} {h:Heap} {v:Value} {xs:List PyData} (x:Rd0 Own h v (.list xs)):∃ a vs,v=.ref a/\h.PlainList a vs/\All2 (Rd0 (fun b=>Own b\/b=a) h) vs.toList xs/\¬ Own a:=by
 (refine e1a2 x ?_;try clear x;rintro as r hn)
 have rr:=r
 cases r with
 | list ho hc hd r2 =>
  rename_i a o vs n as
  (refine by_goal fun G_ hG_=>?_;rcases hn _ List.mem_cons_self with ⟨h1,vs',n',ho'⟩;all_goals (refine hG_ ?_;clear hG_ G_))
  rw [ho] at ho'
  have e:=Option.some.inj ho'
  subst e
  have e:=(Data.seq.inj hd).1
  subst e
  refine ⟨_,_,rfl,⟨_,ho⟩,of_readsAll r2 fun b m=>⟨?_,(hn b (List.mem_cons_of_mem _ m)).2⟩,h1⟩
  rintro (q | rfl)
  ·exact (hn b (List.mem_cons_of_mem _ m)).1 q
  ·have hp:∀ c∈as,Pl h c:=fun c mc=>(hn c (List.mem_cons_of_mem _ mc)).2
   have key:∀ (ws:List Value) (ys:List PyData) (cs:List Addr),ReadsAll h ws ys cs->(∀ c∈cs,Pl h c)->b∈cs->∃ d' bs,Reads h (.ref b) d' bs/\sizeOf d'<=sizeOf ys:=by
    intro ws
    induction ws with
    | nil=>intro ys cs rs _ m;cases rs;cases m
    | cons w ws ih =>
     intro ys cs rs hp m
     cases rs with
     | cons r1 r3 =>
      rcases List.mem_append.mp m with m | m
      ·(refine e2a2 (Reads.sub r1 (fun a m=>hp a (List.mem_append_left _ m)) b m) ?_;rintro d' cs' r' hs)
       exact ⟨d',cs',r',by simp only [List.cons.sizeOf_spec];lia⟩
      ·(refine e2a2 (ih _ _ r3 (fun a m=>hp a (List.mem_append_right _ m)) m) ?_;rintro d' cs' r' hs)
       exact ⟨d',cs',r',by simp only [List.cons.sizeOf_spec];lia⟩
   (refine e2a2 (key _ _ _ r2 hp m) ?_;rintro d' bs r' hs)
   have e:=Reads.det rr (fun c mc=>(hn c mc).2) r'
   rw [<-e] at hs
   simp only [PyData.list.sizeOf_spec] at hs
   lia
noncomputable def md (M:List Nat):Nat->Nat:=fun i=>M.getD i 0
noncomputable def OwnB (Bad:Addr->Prop) (F:Nat->List Addr):Addr->Prop:=fun a=>Bad a\/∃ i,a∈F i
noncomputable def RowR (Own:Addr->Prop) (h:Heap) (v:Value) (x:PyData):Prop:=RdG Own 1 h v x
inductive RepF (c:Cfg) (L:Addr) (Own:Addr->Prop) (s:Shared):Nat->List Addr->Value->PV->Prop where
 | flat {v:Value} {d:PyData}:Rd0 Own s.heap v d->RepF c L Own s 0 [] v (.dat d)
 | one {a:Addr} {vs:Array Value} {xs:List PyData}:s.heap.PlainList a vs->All2 (Rd0 Own s.heap) vs.toList xs->RepF c L Own s 1 [a] (.ref a) (.dat (.list xs))
 | two {a:Addr} {vs:Array Value} {rs:List Addr} {xs:List PyData}:s.heap.PlainList a vs->vs.toList=rs.map Value.ref->All2 (RowR Own s.heap) vs.toList xs->(a::rs).Nodup->RepF c L Own s 2 (a::rs) (.ref a) (.dat (.list xs))
 | hdr {v:Value} {l:List (List Nat × List Nat)} {a da la:Addr}:v=.ref a->s.heap.get? a=some { cls:=.ref c.HC,dict:=some da,data:=.plain,slots:=#[] } ->
   (∃ od,s.heap.get? da=some od/\od.cls=.type "dict"/\(∃ hs t n,od.data=.dict #[⟨hs,.str "_headers" t,.ref la⟩] n))->da≠L ->
   (∃ vs,s.heap.PlainList la vs/\All2 (Rd0 (fun u_=>False) s.heap) vs.toList (l.map fun p=>PyData.tuple [S p.1,S p.2]))->RepF c L Own s 4 [la] v (.hdr l)
 | hdrB {v:Value} {l:List (List Nat × List Nat)} {la:Addr}:HdrAt c.HC c.h0 v l la->RepF c L Own s 0 [] v (.hdr l)
set_option tactic.hygienic true in
theorem RepF.rep {c:Cfg} {L:Addr} {Own:Addr->Prop} {s:Shared} {k:Nat} {fs:List Addr} {v:Value} {pv:PV} (B:Base c s.heap) (r:RepF c L Own s k fs v pv):Rep c Own k s v pv:=by
 cases r with
 | flat r=>exact .dat r
 | one hl hx=>exact .dat ⟨_,_,_,rfl,rfl,hl,hx⟩
 | hdrB h=>exact .hdr (h.keep B.k0)
 | two hl hv hx hn=>exact .dat ⟨_,_,_,rfl,rfl,hl,All2.mono (fun v x (q:RowR Own s.heap v x)=>(q:RdG Own 1 s.heap v x)) hx⟩
 | hdr e ha hd hL hl =>
  rename_i l a da la
  (refine e1a3 hd ?_;try clear hd;rintro od h1 h2 h3)
  (refine e1a2 hl ?_;try clear hl;rintro vs hp hx)
  refine .hdr (la:=la) ⟨⟨a,da,od,e,ha,h1,h2,h3,?_,?_⟩,vs,hp,hx⟩
  ·rintro rfl
   (refine e1a1 hp ?_;try clear hp;rintro n hp)
   rw [ha] at hp;cases hp
  ·rintro rfl
   (refine e1a1 hp ?_;try clear hp;rintro n hp)
   rw [h1] at hp;(replace hp:=(Option.some.inj hp).symm;subst hp)
   exact absurd h2 (by simp)
theorem RepF.weak {c:Cfg} {L:Addr} {Own Own':Addr->Prop} {s:Shared} {k:Nat} {fs:List Addr} {v:Value} {pv:PV} (h:∀ a,Own' a->(∃ o,s.heap.get? a=some o)->Own a) (r:RepF c L Own s k fs v pv):RepF c L Own' s k fs v pv:=by
 cases r with
 | flat r=>exact .flat (r.grow h)
 | one hl hx=>exact .one hl (hx.mono fun u_ u_ q=>q.grow h)
 | two hl hv hx hn=>exact .two hl hv (hx.mono fun u_ u_ q=>e3a4 q fun r ys ws e1 e2 h1 h2=>⟨r,ys,ws,e1,e2,h1,All2.mono (fun v x (q:Rd0 Own s.heap v x)=>q.grow h) h2⟩) hn
 | hdr e ha hd hL hl=>exact .hdr e ha hd hL hl
 | hdrB h=>exact .hdrB h
theorem pair_any {X Y:Addr->Prop} {h:Heap} {v:Value} {p q:List Nat} (x:Rd0 X h v (.tuple [S p,S q])):Rd0 Y h v (.tuple [S p,S q]):=by
 (refine e2a3 x.untuple ?_;rintro a vs rfl ht hx)
 refine Rd0.tuple ht ?_
 generalize vs.toList=l at hx
 cases hx with
 | cons r1 r2 =>
  cases r2 with
  | cons r2 r3 =>
   cases r3
   (refine e1a1 r1.str ?_;rintro t rfl)
   (refine e1a1 r2.str ?_;rintro u rfl)
   exact .cons .mkStr (.cons .mkStr .nil)
theorem pairs_any {X Y Z:Addr->Prop} {h h':Heap} (kp:KpF Z h h') {vs:List Value} {l:List (List Nat × List Nat)} (x:All2 (Rd0 X h) vs (l.map fun p=>PyData.tuple [S p.1,S p.2])):All2 (Rd0 Y h') vs (l.map fun p=>PyData.tuple [S p.1,S p.2]):=by
 induction l generalizing vs with
 | nil=>cases x;exact .nil
 | cons p l ih =>
  cases x with
  | cons r1 r2=>exact .cons (pair_any ((pair_any (Y:=Z) r1).kpf kp)) (ih r2)
theorem RepF.moveD {c:Cfg} {L:Addr} {Own:Addr->Prop} {s s':Shared} {k:Nat} {fs:List Addr} {v:Value} {pv:PV} (kp:KpF Own s.heap s'.heap) (kf:∀ a∈fs,∀ o vs n,o.data=.seq vs n->s.heap.get? a=some o->s'.heap.get? a=some o)
  (kd:∀ a o,(o.data=.plain\/(a≠L/\HdD o))->s.heap.get? a=some o->s'.heap.get? a=some o) (r:RepF c L Own s k fs v pv):RepF c L Own s' k fs v pv:=by
 have kt:KpF (fun u_=>True) s.heap s'.heap:=fun b o vs n hb hd hc=>by
  rcases hc with hc | hc
  ·exact kp b o vs n hb hd (.inl hc)
  ·exact absurd trivial hc
 cases r with
 | flat r=>exact .flat (r.kpf kp)
 | hdrB h=>exact .hdrB h
 | one hl hx =>
  (refine e1a1 hl ?_;try clear hl;rintro n ho)
  exact .one ⟨n,kf _ List.mem_cons_self _ _ _ rfl ho⟩ (hx.mono fun u_ u_ q=>q.kpf kp)
 | @two a vs rs xs hl hv hx hn =>
  (refine e1a1 hl ?_;try clear hl;rintro n ho)
  have mv:∀ {l:List Value} {xs:List PyData},All2 (RowR Own s.heap) l xs->(∀ v∈l,v∈rs.map Value.ref)->All2 (RowR Own s'.heap) l xs:=by
   intro l xs hx
   induction hx with
   | nil=>exact fun _=>.nil
   | cons q _ ih =>
    intro hm
    refine .cons ?_ (ih fun v m=>hm v (List.mem_cons_of_mem _ m))
    (refine e3a4 q ?_;rintro r ys ws rfl rfl h1 h2)
    (refine e1a2 (List.mem_map.mp (hm _ List.mem_cons_self)) ?_;rintro r' hr er)
    cases er
    (refine e1a1 h1 ?_;rintro n1 e1)
    exact ⟨r,ys,ws,rfl,rfl,⟨n1,kf r (List.mem_cons_of_mem _ hr) _ _ _ rfl e1⟩,All2.mono (fun v x (q:Rd0 Own s.heap v x)=>q.kpf kp) h2⟩
  exact .two ⟨n,kf _ List.mem_cons_self _ _ _ rfl ho⟩ hv (mv hx fun v m=>hv ▸ m) hn
 | hdr e ha hd hL hl =>
  (refine e1a3 hd ?_;try clear hd;rintro od h1 h2 h3)
  (refine e1a2 hl ?_;try clear hl;rintro vs ⟨n,ho⟩ hx)
  (refine e3a1 h3 ?_;try clear h3;rintro hs t m h4)
  exact .hdr e (kd _ _ (.inl rfl) ha) ⟨od,kd _ _ (.inr ⟨hL,_,_,_,_,h4⟩) h1,h2,hs,t,m,h4⟩ hL ⟨vs,⟨n,kf _ List.mem_cons_self _ _ _ rfl ho⟩,pairs_any kp hx⟩
theorem RepF.move {c:Cfg} {L:Addr} {Own:Addr->Prop} {s s':Shared} {k:Nat} {fs:List Addr} {v:Value} {pv:PV} (kp:KpF Own s.heap s'.heap) (kf:∀ a∈fs,∀ o vs n,o.data=.seq vs n->s.heap.get? a=some o->s'.heap.get? a=some o)
  (kd:∀ a o,(o.data=.plain\/(a≠L/\∃ es n,o.data=.dict es n))->s.heap.get? a=some o->s'.heap.get? a=some o) (r:RepF c L Own s k fs v pv):RepF c L Own s' k fs v pv :=
 r.moveD kp kf fun a o hd e=>kd a o (hd.imp id fun h=>⟨h.1,let ⟨_,_,_,_,q⟩:=h.2;⟨_,_,q⟩⟩) e
structure SX (c:Cfg) (n:Nat) (A:Around) (env:Env) (Bad:Addr->Prop) (M:List Nat) (F:Nat->List Addr) (P:Nat->Option Value) (E:AE) (s:Shared):Prop where
 eok:EnvOK env
 room:Room n A
 base:Base c s.heap
 cells:∀ x a,env.cells.lookup x=some a->∃ o,s.heap.IsCell a o
 sto:Sto env s.heap P
 vars:∀ i pv,E i=some pv->∃ v,P i=some v/\RepF c env.locals (OwnB Bad F) s (md M i) (F i) v pv
 pl:∀ i,∀ a∈F i,Pl s.heap a
 bad:∀ a,Bad a->∃ o,s.heap.get? a=some o
 nb:∀ i,∀ a∈F i,¬ Bad a
 dj:∀ i j a,a∈F i->a∈F j->i=j
 nl:c.h0.get? env.locals=none
 nc:∀ x a,env.cells.lookup x=some a->c.h0.get? a=none
 nF:∀ i a,a∈F i->c.h0.get? a=none
structure SStep (env:Env) (F:Nat->List Addr) (s:Shared) (F':Nat->List Addr) (s':Shared):Prop where
 keep:∀ b o,b≠env.locals->(∀ x,env.cells.lookup x≠some b)->(∀ i,b ∉ F i)->s.heap.get? b=some o->s'.heap.get? b=some o
 gk:GK s.gens s'.gens
 os:s'.os=s.os
 own:∀ i a,a∈F' i->(∃ j,a∈F j)\/s.heap.get? a=none
 alive:∀ b o,s.heap.get? b=some o->∃ o',s'.heap.get? b=some o'
theorem SStep.refl {env:Env} {F:Nat->List Addr} (s:Shared):SStep env F s F s:=⟨fun u_ u_ u_ u_ u_ e=>e,.refl _,rfl,fun i a h=>.inl ⟨i,h⟩,fun u_ o e=>⟨o,e⟩⟩
theorem SStep.trans {env:Env} {F1 F2 F3:Nat->List Addr} {s1 s2 s3:Shared} (x:SStep env F1 s1 F2 s2) (y:SStep env F2 s2 F3 s3):SStep env F1 s1 F3 s3:=by
 refine ⟨fun b o h1 h2 h3 e=>?_,x.gk.trans y.gk,y.os.trans x.os,fun i a h=>?_,fun b o e=>let ⟨o',h⟩:=x.alive b o e;y.alive b o' h⟩
 ·refine y.keep b o h1 h2 (fun i m=>?_) (x.keep b o h1 h2 h3 e)
  rcases x.own i b m with ⟨j,hj⟩ | q
  ·exact h3 j hj
  ·rw [q] at e;exact nso e
 ·rcases y.own i a h with ⟨j,hj⟩ | q
  ·exact x.own j a hj
  ·by_cases hf:∃ j,a∈F1 j
   ·exact .inl hf
   ·refine .inr ?_
    cases hh:s1.heap.get? a with
    | none=>rfl
    | some o=>(refine e1a1 (x.alive a o hh) ?_;rintro o' h');rw [q] at h';exact nso h'
theorem SStep.of {env:Env} {F:Nat->List Addr} {s s':Shared} (x:Stp s s'):SStep env F s F s':=⟨fun b o u_ u_ u_ e=>x.keep b o e,x.gk,x.os,fun i a h=>.inl ⟨i,h⟩,fun b o e=>⟨o,x.keep b o e⟩⟩
section
variable {c:Cfg} {n:Nat} {A:Around} {env:Env} {Bad:Addr->Prop} {M:List Nat} {F:Nat->List Addr} {P:Nat->Option Value} {E:AE} {s s':Shared}
theorem SX.live (X:SX c n A env Bad M F P E s):∀ a,OwnB Bad F a->∃ o,s.heap.get? a=some o:=by
 rintro a (h | ⟨i,h⟩)
 ·exact X.bad a h
 ·(refine e2a1 (X.pl i a h) ?_;rintro vs nn e)
  exact ⟨_,e⟩
theorem SX.cx (X:SX c n A env Bad M F P E s):Cx c n A (OwnB Bad F) env (md M) E s:=by
 refine ⟨X.eok,X.room,X.base,⟨?_⟩,X.live,X.cells⟩
 (refine e1a2 X.sto.ns ?_;rintro m hm hl)
 refine ⟨m,hm,fun i pv e u_=>?_⟩
 (refine e1a2 (X.vars i pv e) ?_;rintro v h1 h2)
 exact ⟨v,hl i v h1,h2.rep X.base⟩
theorem SX.stp (X:SX c n A env Bad M F P E s) (x:Stp s s'):SX c n A env Bad M F P E s':=by
 refine ⟨X.eok,X.room,X.base.keep x.keep,fun y a h=>let ⟨o,ho⟩:=X.cells y a h;⟨o,ho.keeps x.keep⟩,X.sto.keep x.keep,fun i pv e=>?_,fun i a h=>(X.pl i a h).keep x.keep,fun a h=>let ⟨o,ho⟩:=X.bad a h;⟨o,x.keep _ _ ho⟩,X.nb,X.dj,X.nl,X.nc,X.nF⟩
 (refine e1a2 (X.vars i pv e) ?_;rintro v h1 h2)
 exact ⟨v,h1,h2.move (.of x.keep) (fun a u_ o vs n u_ e=>x.keep a o e) (fun a o u_ e=>x.keep a o e)⟩
noncomputable def fset (F:Nat->List Addr) (i:Nat) (l:List Addr):Nat->List Addr:=fun j=>if j=i then l else F j
set_option tactic.hygienic true in
theorem fset_sub {F:Nat->List Addr} {i j:Nat} {a:Addr} (h:a∈fset F i [] j):a∈F j/\j≠i:=by
 unfold fset at h
 split at h
 ·cases h
 ·rename_i e;exact ⟨h,e⟩
theorem md_set {M:List Nat} {i j k:Nat} (h:i < M.length):md (M.set i k) j=if j=i then k else md M j:=by
 unfold md
 rw [List.getD_eq_getElem?_getD,List.getD_eq_getElem?_getD,List.getElem?_set]
 by_cases e:i=j
 ·subst e;simp [h]
 ·rw [if_neg e,if_neg (fun q=>e q.symm)]
theorem Kb.kd {env:Env} {ids:List Nat} {h h':Heap} {P:Nat->Option Value} (S:Sto env h P) (k:Kb env ids h h'):∀ a o,(o.data=.plain\/(a≠env.locals/\∃ es n,o.data=.dict es n))->h.get? a=some o->h'.get? a=some o:=by
 intro a o hd e
 have nc:∀ i∈ids,env.kindOf (nm i)=some .cell->env.cells.lookup (nm i)≠some a:=fun i u_ hk hl=>by
  (refine e2a2 (S.cells _ _ hk hl) ?_;rintro x o' ho' hd')
  rw [e] at ho';(replace ho':=(Option.some.inj ho').symm;subst ho')
  rcases hd with hd | ⟨u_,es,n,hd⟩ <;> rw [hd] at hd' <;> cases hd'
 rcases hd with hd | ⟨hd,u_⟩
 ·refine k a o (fun q=>?_) nc e
  subst q
  (refine e1a2 S.ns ?_;rintro m ⟨o',es,ep,ho',hd',u_⟩ u_)
  rw [e] at ho';(replace ho':=(Option.some.inj ho').symm;subst ho')
  rw [hd] at hd';cases hd'
 ·exact k a o hd nc e
theorem Kb.seq {env:Env} {ids:List Nat} {h h':Heap} {P:Nat->Option Value} (S:Sto env h P) (k:Kb env ids h h'):∀ a o vs n,o.data=.seq vs n->h.get? a=some o->h'.get? a=some o :=
 fun a o vs n hd e=>S.kpf (OX:=fun u_=>False) k a o vs n e hd (.inr fun q=>q)
theorem Kb.alive {env:Env} {ids:List Nat} {h h':Heap} {P':Nat->Option Value} (S:Sto env h' P') (k:Kb env ids h h'):∀ b o,h.get? b=some o->∃ o',h'.get? b=some o':=by
 intro b o e
 by_cases hb:b=env.locals
 ·subst hb
  (refine e1a2 S.ns ?_;rintro m ⟨o',u_,u_,ho',u_⟩ u_)
  exact ⟨o',ho'⟩
 ·by_cases hc:∃ i∈ids,env.kindOf (nm i)=some .cell/\env.cells.lookup (nm i)=some b
  ·(refine e1a3 hc ?_;try clear hc;rintro i u_ hk hl)
   (refine e2a2 (S.cells _ _ hk hl) ?_;rintro x o' ho' u_)
   exact ⟨o',ho'⟩
  ·exact ⟨o,k b o hb (fun i hi hk hl=>hc ⟨i,hi,hk,hl⟩) e⟩
theorem SStep.kb {ids:List Nat} {P':Nat->Option Value} {F':Nat->List Addr} (S:Sto env s'.heap P') (k:Kb env ids s.heap s'.heap) (hg:GK s.gens s'.gens) (ho:s'.os=s.os) (hF:∀ i a,a∈F' i->(∃ j,a∈F j)\/s.heap.get? a=none):SStep env F s F' s' :=
 ⟨fun b o h1 h2 u_ e=>k b o h1 (fun i u_ u_=>h2 _) e,hg,ho,hF,k.alive S⟩
end
section
variable {c:Cfg} {n:Nat} {A:Around} {env:Env} {Bad:Addr->Prop} {M M':List Nat} {F:Nat->List Addr} {P P':Nat->Option Value} {E E':AE} {s s':Shared}
theorem SX.base_kb {ids:List Nat} {h':Heap} (X:SX c n A env Bad M F P E s) (k:Kb env ids s.heap h'):Base c h' :=
 X.base.new fun b o e0 e=>k b o (fun q=>by rw [q,X.nl] at e0;exact nso e0) (fun i u_ u_ hl=>by rw [X.nc _ b hl] at e0;exact nso e0) e
noncomputable def fdel (F:Nat->List Addr) (ids:List Nat):Nat->List Addr:=fun j=>if ids.contains j then [] else F j
set_option tactic.hygienic true in
theorem fdel_sub {ids:List Nat} {j:Nat} {a:Addr} (h:a∈fdel F ids j):a∈F j/\j ∉ ids:=by
 unfold fdel at h
 split at h
 ·cases h
 ·rename_i e;exact ⟨h,by simpa using e⟩
theorem cells_kb {ids:List Nat} {h h':Heap} (K:EnvOK env) (S:Sto env h P) (hc:∀ x a,env.cells.lookup x=some a->∃ o,h.IsCell a o) (k:Kb env ids h h') (S':Sto env h' P') :
  ∀ x a,env.cells.lookup x=some a->∃ o,h'.IsCell a o:=by
 intro y a hy
 by_cases hcl:env.kindOf y=some .cell
 ·exact S'.cells y a hcl hy
 ·(refine e2a2 (hc y a hy) ?_;rintro o ob ho hd)
  refine ⟨o,ob,k a ob (S.ne ⟨ob,ho,hd⟩) ?_ ho,hd⟩
  intro i hi hk hq
  exact hcl (by rw [K.apart _ _ _ hy hq];exact hk)
theorem SX.setU {OX:Addr->Prop} {ids:List Nat} (X:SX c n A env Bad M F P E s) (hM:∀ j,(j∈ids->md M' j=0)/\(j ∉ ids->md M' j=md M j)) (hOX:∀ a,OwnB Bad F a->OX a)
  (k:Kb env ids s.heap s'.heap) (So:Sto env s'.heap P') (G:∀ j,(j∈ids->∀ pv,E' j=some pv->∃ v d,P' j=some v/\pv=.dat d/\Rd0 OX s'.heap v d)/\(j ∉ ids->P' j=P j/\E' j=E j)):SX c n A env Bad M' (fdel F ids) P' E' s':=by
 have kd:=k.kd X.sto
 have ks:=k.seq X.sto
 have own:∀ a,OwnB Bad (fdel F ids) a->OwnB Bad F a:=by
  rintro a (h | ⟨i,h⟩)
  ·exact .inl h
  ·exact .inr ⟨i,(fdel_sub h).1⟩
 refine ⟨X.eok,X.room,X.base_kb k,cells_kb X.eok X.sto X.cells k So,So,fun j pv e=>?_,fun i a h=>?_,fun a h=>?_,fun i a h=>X.nb i a (fdel_sub h).1,fun i j a h1 h2=>X.dj i j a (fdel_sub h1).1 (fdel_sub h2).1,X.nl,X.nc,fun i a h=>X.nF i a (fdel_sub h).1⟩
 ·by_cases hj:j∈ids
  ·(refine e2a3 ((G j).1 hj pv e) ?_;rintro v d h1 rfl h3)
   refine ⟨v,h1,?_⟩
   rw [(hM j).1 hj,show fdel F ids j=[] by unfold fdel;rw [if_pos (by simpa using hj)]]
   exact .flat (h3.weak fun a h=>hOX a (own a h))
  ·obtain ⟨h1,h2⟩:=(G j).2 hj
   rw [h2] at e
   (refine e1a2 (X.vars j pv e) ?_;rintro v q1 q2)
   refine ⟨v,h1.trans q1,?_⟩
   rw [(hM j).2 hj,show fdel F ids j=F j by unfold fdel;rw [if_neg (by simpa using hj)]]
   have q3:=q2.move (s':=s') (X.sto.kpf k) (fun a u_ o vs n hd e=>ks a o vs n hd e) kd
   exact q3.weak fun a h u_=>own a h
 ·(refine e2a1 (X.pl i a (fdel_sub h).1) ?_;rintro vs nn e)
  exact ⟨vs,nn,ks a _ _ _ rfl e⟩
 ·(refine e1a1 (X.bad a h) ?_;rintro o ho)
  exact k.alive So a o ho
theorem SX.set {OX:Addr->Prop} {ids:List Nat} (X:SX c n A env Bad M F P E s) (hM:∀ j,(j∈ids->md M' j=0)/\(j ∉ ids->md M' j=md M j)) (hOX:∀ a,OwnB Bad F a->OX a)
  (k:Kb env ids s.heap s'.heap) (So:Sto env s'.heap P') (G:Got OX ids s'.heap P P' E E'):SX c n A env Bad M' (fdel F ids) P' E' s' :=
 X.setU hM hOX k So fun j=>⟨fun m pv e=>e2a3 ((G j).1 m) fun v d h1 h2 h3=>⟨v,d,h1,Option.some.inj (e.symm.trans h2),h3⟩,(G j).2⟩
set_option tactic.hygienic true in
theorem SX.setL {i:Nat} {a:Addr} {xs:List PyData} (X:SX c n A env Bad M F P E s) (hM:∀ j,md M' j=if j=i then 1 else md M j)
  (r:Rd0 (OwnB Bad F) s'.heap (.ref a) (.list xs)) (hfr:Fr1 s (.ref a))
  (k:Kb env [i] s.heap s'.heap) (So:Sto env s'.heap (upd P i (.ref a))):SX c n A env Bad M' (fset F i [a]) (upd P i (.ref a)) (E.set i (.dat (.list xs))) s':=by
 have kd:=k.kd X.sto
 have ks:=k.seq X.sto
 have na:¬ OwnB Bad F a:=fun h=>by (refine e1a1 (X.live a h) ?_;rintro o ho);rw [hfr a rfl] at ho;exact nso ho
 have own:∀ b,OwnB Bad (fset F i [a]) b->OwnB Bad F b\/b=a:=by
  rintro b (h | ⟨j,h⟩)
  ·exact .inl (.inl h)
  ·unfold fset at h
   split at h
   ·exact .inr (List.mem_singleton.mp h)
   ·exact .inl (.inr ⟨j,h⟩)
 (refine e2a4 r.unlistA ?_;rintro a' vs e hl hx _)
 cases e
 refine ⟨X.eok,X.room,X.base_kb k,cells_kb X.eok X.sto X.cells k So,So,fun j pv e=>?_,fun j b h=>?_,fun b h=>?_,fun j b h=>?_,fun j1 j2 b h1 h2=>?_,X.nl,X.nc,fun j b h=>?_⟩
 ·by_cases hj:j=i
  ·subst hj
   have e:some (PV.dat (.list xs))=some pv:=by rw [<-e];exact (if_pos rfl).symm
   (replace e:=(Option.some.inj e).symm;subst e)
   refine ⟨.ref a,if_pos rfl,?_⟩
   rw [hM,if_pos rfl,show fset F j [a] j=[a] from if_pos rfl]
   exact .one hl (hx.mono fun _ _ q=>q.weak own)
  ·have e:E j=some pv:=by rw [<-e];exact (if_neg hj).symm
   (refine e1a2 (X.vars j pv e) ?_;rintro v q1 q2)
   refine ⟨v,(if_neg hj).trans q1,?_⟩
   rw [hM,if_neg hj,show fset F i [a] j=F j from if_neg hj]
   have q3:RepF c env.locals (OwnB Bad (fset F i [a])) s (md M j) (F j) v pv:=q2.weak fun b hb ha=>by
    rcases own b hb with q | rfl
    ·exact q
    ·(refine e1a1 ha ?_;try clear ha;rintro o ho)
     rw [hfr _ rfl] at ho;exact nso ho
   exact q3.move (X.sto.kpf k) (fun a _ o vs n hd e=>ks a o vs n hd e) kd
 ·unfold fset at h
  split at h
  ·rw [List.mem_singleton.mp h];exact ⟨vs,hl⟩
  ·(refine e2a1 (X.pl j b h) ?_;rintro ws mm e)
   exact ⟨ws,mm,ks b _ _ _ rfl e⟩
 ·(refine e1a1 (X.bad b h) ?_;rintro o ho)
  exact k.alive So b o ho
 ·unfold fset at h
  split at h
  ·rw [List.mem_singleton.mp h];exact fun q=>na (.inl q)
  ·exact X.nb j b h
 ·unfold fset at h1 h2
  split at h1 <;> split at h2
  ·rename_i e1 e2;rw [e1,e2]
  ·rw [List.mem_singleton.mp h1] at h2;exact absurd (.inr ⟨_,h2⟩) na
  ·rw [List.mem_singleton.mp h2] at h1;exact absurd (.inr ⟨_,h1⟩) na
  ·exact X.dj j1 j2 b h1 h2
 ·unfold fset at h
  split at h
  ·rw [List.mem_singleton.mp h]
   cases hh:c.h0.get? a with
   | none=>rfl
   | some o=>have:=X.base.k0 _ _ hh;rw [hfr a rfl] at this;exact nso this
  ·exact X.nF j b h
theorem SX.setL2 {i:Nat} {a:Addr} {vs:Array Value} {rs:List Addr} {xs:List PyData} (X:SX c n A env Bad M F P E s) (hM:∀ j,md M' j=if j=i then 2 else md M j)
  (hl:s'.heap.PlainList a vs) (hv:vs.toList=rs.map Value.ref) (hx:∀ Own:Addr->Prop,All2 (RowR Own s'.heap) vs.toList xs) (hn:(a::rs).Nodup) (hpl:∀ b∈a::rs,Pl s'.heap b) (hfr:∀ b∈a::rs,s.heap.get? b=none)
  (k:Kb env [i] s.heap s'.heap) (So:Sto env s'.heap (upd P i (.ref a))):SX c n A env Bad M' (fset F i (a::rs)) (upd P i (.ref a)) (E.set i (.dat (.list xs))) s':=by
 have kd:=k.kd X.sto
 have ks:=k.seq X.sto
 have na:∀ b∈a::rs,¬ OwnB Bad F b:=fun b m h=>by (refine e1a1 (X.live b h) ?_;rintro o ho);rw [hfr b m] at ho;exact nso ho
 have own:∀ b,OwnB Bad (fset F i (a::rs)) b->OwnB Bad F b\/b∈a::rs:=by
  rintro b (h | ⟨j,h⟩)
  ·exact .inl (.inl h)
  ·unfold fset at h
   by_cases e:j=i
   ·rw [if_pos e] at h;exact .inr h
   ·rw [if_neg e] at h;exact .inl (.inr ⟨j,h⟩)
 refine ⟨X.eok,X.room,X.base_kb k,cells_kb X.eok X.sto X.cells k So,So,fun j pv e=>?_,fun j b h=>?_,fun b h=>?_,fun j b h=>?_,fun j1 j2 b h1 h2=>?_,X.nl,X.nc,fun j b h=>?_⟩
 ·by_cases hj:j=i
  ·subst hj
   have e:some (PV.dat (.list xs))=some pv:=by rw [<-e];exact (if_pos rfl).symm
   (replace e:=(Option.some.inj e).symm;subst e)
   refine ⟨.ref a,if_pos rfl,?_⟩
   rw [hM,if_pos rfl,show fset F j (a::rs) j=a::rs from if_pos rfl]
   exact .two hl hv (hx _) hn
  ·have e:E j=some pv:=by rw [<-e];exact (if_neg hj).symm
   (refine e1a2 (X.vars j pv e) ?_;rintro v q1 q2)
   refine ⟨v,(if_neg hj).trans q1,?_⟩
   rw [hM,if_neg hj,show fset F i (a::rs) j=F j from if_neg hj]
   have q3:RepF c env.locals (OwnB Bad (fset F i (a::rs))) s (md M j) (F j) v pv:=q2.weak fun b hb ha=>by
    rcases own b hb with q | q
    ·exact q
    ·(refine e1a1 ha ?_;try clear ha;rintro o ho)
     rw [hfr _ q] at ho;exact nso ho
   exact q3.move (X.sto.kpf k) (fun a u_ o vs n hd e=>ks a o vs n hd e) kd
 ·unfold fset at h
  by_cases e:j=i
  ·rw [if_pos e] at h;exact hpl b h
  ·rw [if_neg e] at h
   (refine e2a1 (X.pl j b h) ?_;rintro ws mm e)
   exact ⟨ws,mm,ks b _ _ _ rfl e⟩
 ·(refine e1a1 (X.bad b h) ?_;rintro o ho)
  exact k.alive So b o ho
 ·unfold fset at h
  by_cases e:j=i
  ·rw [if_pos e] at h;exact fun q=>na b h (.inl q)
  ·rw [if_neg e] at h;exact X.nb j b h
 ·unfold fset at h1 h2
  by_cases e1:j1=i
  ·by_cases e2:j2=i
   ·rw [e1,e2]
   ·rw [if_pos e1] at h1;rw [if_neg e2] at h2;exact absurd (.inr ⟨_,h2⟩) (na b h1)
  ·by_cases e2:j2=i
   ·rw [if_neg e1] at h1;rw [if_pos e2] at h2;exact absurd (.inr ⟨_,h1⟩) (na b h2)
   ·rw [if_neg e1] at h1;rw [if_neg e2] at h2;exact X.dj j1 j2 b h1 h2
 ·unfold fset at h
  by_cases e:j=i
  ·rw [if_pos e] at h
   cases hh:c.h0.get? b with
   | none=>rfl
   | some o=>have:=X.base.k0 _ _ hh;rw [hfr b h] at this;exact nso this
  ·rw [if_neg e] at h;exact X.nF j b h
theorem SX.mut {i:Nat} {a:Addr} {pv:PV} (X:SX c n A env Bad M F P E s) (ha:a∈F i) (hs:Heap.SameBut a s.heap s'.heap) (hl:Pl s'.heap a)
  (hv:∃ v,P i=some v/\RepF c env.locals (OwnB Bad F) s' (md M i) (F i) v pv):SX c n A env Bad M F P (E.set i pv) s':=by
 (refine e2a1 (X.pl i a ha) ?_;rintro vs0 n0 e0)
 have kk:∀ b o,b≠a->s.heap.get? b=some o->s'.heap.get? b=some o:=fun b o hb e=>(hs.2 b hb).trans e
 have kd:∀ b o,(o.data=.plain\/(b≠env.locals/\∃ es n,o.data=.dict es n))->s.heap.get? b=some o->s'.heap.get? b=some o:=fun b o hd e=>kk b o (fun q=>by
  subst q
  rw [e0] at e;(replace e:=(Option.some.inj e).symm;subst e)
  rcases hd with hd | ⟨u_,u_,u_,hd⟩ <;> cases hd) e
 have kp:KpF (OwnB Bad F) s.heap s'.heap:=fun b o vs n hb hd hc=>kk b o (fun q=>by
  subst q
  rcases hc with hc | hc
  ·rw [e0] at hb;(replace hb:=(Option.some.inj hb).symm;subst hb);exact absurd hc (by simp)
  ·exact hc (.inr ⟨i,ha⟩)) hb
 have nl:env.locals≠a:=fun q=>by
  (refine e1a2 X.sto.ns ?_;rintro m ⟨o',u_,u_,ho',hd',u_⟩ u_)
  rw [q,e0] at ho';(replace ho':=(Option.some.inj ho').symm;subst ho');cases hd'
 have nc:∀ x b,env.cells.lookup x=some b->b≠a:=fun x b h q=>by
  (refine e2a2 (X.cells x b h) ?_;rintro o ob ho hd)
  rw [q,e0] at ho;(replace ho:=Option.some.inj ho;subst ho);cases hd
 refine ⟨X.eok,X.room,X.base.new (fun b o e0 e=>kk b o (fun q=>by rw [q,X.nF i a ha] at e0;exact nso e0) e),fun x b h=>?_,X.sto.at (fun o e=>kk _ o nl e) (fun x b u_ h o e=>kk b o (nc x b h) e),fun j pv' e=>?_,fun j b h=>?_,fun b h=>?_,X.nb,X.dj,X.nl,X.nc,X.nF⟩
 ·(refine e2a2 (X.cells x b h) ?_;rintro o ob ho hd)
  exact ⟨o,ob,kk b ob (nc x b h) ho,hd⟩
 ·by_cases hj:j=i
  ·subst hj
   have e:some pv=some pv':=by rw [<-e];exact (if_pos rfl).symm
   (replace e:=(Option.some.inj e).symm;subst e)
   exact hv
  ·have e:E j=some pv':=by rw [<-e];exact (if_neg hj).symm
   (refine e1a2 (X.vars j pv' e) ?_;rintro v q1 q2)
   exact ⟨v,q1,q2.move kp (fun b hb o vs n hd e=>kk b o (fun q=>hj (X.dj j i a (q ▸ hb) ha)) e) kd⟩
 ·by_cases hb:b=a
  ·subst hb;exact hl
  ·(refine e2a1 (X.pl j b h) ?_;rintro ws mm e)
   exact ⟨ws,mm,kk b _ hb e⟩
 ·by_cases hb:b=a
  ·subst hb;(refine e2a1 hl ?_;try clear hl;rintro vs nn e);exact ⟨_,e⟩
  ·(refine e1a1 (X.bad b h) ?_;rintro o ho)
   exact ⟨o,kk b o hb ho⟩
theorem SStep.mut {i:Nat} {a:Addr} (ha:a∈F i) (hs:Heap.SameBut a s.heap s'.heap) (hl:Pl s'.heap a) (hg:GK s.gens s'.gens) (ho:s'.os=s.os):SStep env F s F s':=by
 refine ⟨fun b o u_ u_ h e=>(hs.2 b fun q=>h i (q ▸ ha)).trans e,hg,ho,fun j b h=>.inl ⟨j,h⟩,fun b o e=>?_⟩
 by_cases hb:b=a
 ·subst hb;(refine e2a1 hl ?_;try clear hl;rintro vs nn e);exact ⟨_,e⟩
 ·exact ⟨o,(hs.2 b hb).trans e⟩
end
noncomputable abbrev Cs:=Stmt->Bool
noncomputable def notSD:Expr->Bool
 | .SetComp ..=>false
 | .DictComp ..=>false
 | _=>true
noncomputable def sAsg (sc:Scope) (i:Nat) (e:Ck) (x:Stmt):Bool :=
 dSAssign x fun z1 v pos=>dcons z1 fun z2 z3=>dEName z2 fun y p=>dnil z3 (decide (y=nm i) && ownName sc y && notSD v && e v)
noncomputable def notTup:Expr->Bool
 | .Tuple ..=>false
 | _=>true
noncomputable def sAsgT (sc:Scope) (is:List Nat) (e:Ck) (x:Stmt):Bool :=
 dSAssign x fun z1 v pos=>dcons z1 fun t z2=>dnil z2 (notTup v && chkT sc (.tup is) t && e v)
noncomputable def isLoc (sc:Scope) (x:Str):Bool:=match sc.names.lookup x with | some .local=>true | _=>false
noncomputable def isName (e:Expr):Bool:=dEName e fun id u_=>!(id == ("__debug__":Str))
noncomputable def sSwap (sc:Scope) (i j:Nat) (a b:Ck) (x:Stmt):Bool :=
 dSAssign x fun z1 z2 pos=>dcons z1 fun z3 z4=>dETuple z3 fun z5 k p3=>dcons z5 fun z6 z7=>dEName z6 fun y p1=>dcons z7 fun z8 z9=>dEName z8 fun z p2=>dnil z9 (dnil z4 (dETuple z2 fun z10 k2 p4=>dcons z10 fun u z11=>dcons z11 fun v z12=>dnil z12 (decide (y=nm i) && decide (z=nm j) && decide (i≠j) && isLoc sc y && isLoc sc z && (p1.line == p1.line) && (p2.line == p1.line) && isName u && isName v && a u && b v)))
noncomputable def sAsg2 (sc:Scope) (i j:Nat) (e:Ck) (x:Stmt):Bool :=
 dSAssign x fun z1 v pos=>dcons z1 fun z2 z3=>dEName z2 fun y p1=>dcons z3 fun z4 z5=>dEName z4 fun z p2=>dnil z5 (decide (y=nm i) && decide (z=nm j) && decide (i≠j) && ownName sc y && ownName sc z && e v)
noncomputable def isAug:Bop->Bool
 | .add=>true
 | .sub=>true
 | _=>false
noncomputable def sAug (sc:Scope) (i:Nat) (op:Bop) (e:Ck) (x:Stmt):Bool :=
 dSAugAssign x fun z1 o v pos=>dEName z1 fun y p=>decide (y=nm i) && ownName sc y && plainName y && isAug op && decide (o=bopO op) && e v
noncomputable def sSetI (sc:Scope) (i:Nat) (k e:Ck) (x:Stmt):Bool :=
 dSAssign x fun z1 v pos=>dcons z1 fun z2 z3=>dESubscript z2 fun o kx p=>dnil z3 (kVar sc i o && notSlice kx && k kx && e v)
noncomputable def sAugI (sc:Scope) (i:Nat) (op:Bop) (k e:Ck) (x:Stmt):Bool :=
 dSAugAssign x fun z1 o v pos=>dESubscript z1 fun ob kx p=>kVar sc i ob && notSlice kx && isAug op && decide (o=bopO op) && k kx && e v
noncomputable def sMe1 (sc:Scope) (i:Nat) (m:Str) (e:Ck) (x:Stmt):Bool :=
 dSExpr x fun v pos=>kMe1 m (kVar sc i) e v
noncomputable def kRow (sc:Scope) (i:Nat) (k:Ck) (e:Expr):Bool :=
 dESubscript e fun o kx p=>kVar sc i o && notSlice kx && k kx
noncomputable def sSetJ (sc:Scope) (i:Nat) (k l e:Ck) (x:Stmt):Bool :=
 dSAssign x fun z1 v pos=>dcons z1 fun z2 z3=>dESubscript z2 fun o lx p=>dnil z3 (kRow sc i k o && notSlice lx && l lx && e v)
noncomputable def sRet (e:Ck) (x:Stmt):Bool :=
 dSReturn x fun z1 pos=>dsome z1 fun v=>e v
noncomputable def sIf (t:Ck) (a b:List Stmt->Bool) (x:Stmt):Bool :=
 dSIf x fun v y z pos=>t v && a y && b z
noncomputable def sFor (t:Ck) (it:Ck) (b:List Stmt->Bool) (x:Stmt):Bool :=
 dSFor x fun tg e y z1 pos=>dnil z1 (notSet e && t tg && it e && b y)
noncomputable def sWhile (t:Ck) (b:List Stmt->Bool) (x:Stmt):Bool :=
 dSWhile x fun v y z1 pos=>dnil z1 (t v && b y)
noncomputable def sHdr (sc:Scope) (i:Nat) (x:Stmt):Bool :=
 dSAssign x fun z1 z2 pos=>dcons z1 fun z3 z4=>dEName z3 fun y p=>dnil z4 (dECall z2 fun z5 z6 z7 r=>dEName z5 fun h q=>dnil z6 (dnil z7 (decide (y=nm i) && ownName sc y && decide (h=("Headers":Str)) && isGlob sc h)))
noncomputable def sAdd (sc:Scope) (i:Nat) (a b:Ck) (x:Stmt):Bool :=
 dSExpr x fun z1 pos=>dECall z1 fun z2 z3 z4 q=>dEAttribute z2 fun o y ap=>dcons z3 fun z z5=>dcons z5 fun t z6=>dnil z6 (dnil z4 (decide (y=("add_header":Str)) && notSuper o && (ap.endLine == q.line) && notStar z && notStar t && kVar sc i o && a z && b t))
noncomputable def lNil (xs:List Stmt):Bool :=
 dnil xs (true)
noncomputable def lCons (x:Cs) (xs:List Stmt->Bool) (l:List Stmt):Bool:=match l with | y::r=>x y && xs r | []=>false
noncomputable def lCons2 (x:Stmt->Stmt->Bool) (xs:List Stmt->Bool) (l:List Stmt):Bool :=
 dcons l fun y z1=>dcons z1 fun z r=>x y z && xs r
noncomputable def sGenLen (sc:Scope) (j g:Nat) (src:Ck) (ids:List Nat) (t:Scope->Ck) (fs:Scope->List Expr->Bool) (el:Scope->Ck) (x y:Stmt):Bool :=
 sAsg sc g src x && sAsg sc j (kFn1 sc "len" (kComp sc (kVar sc g) ids t fs el)) y
section
variable (fnm:Nat->Str) (rk:Nat->Nat) (n:Nat) (sc:Scope)
mutual
noncomputable def chkS:St->Stmt->Bool
 | .asg _ i e=>sAsg sc i (chkX fnm rk n sc e)
 | .asgH i=>fun x=>decide (3 < n) && sHdr sc i x
 | .asgT is e=>sAsgT sc is (chkX fnm rk n sc e)
 | .swap i j a b=>sSwap sc i j (chkX fnm rk n sc a) (chkX fnm rk n sc b)
 | .asg2 i j e=>sAsg2 sc i j (chkX fnm rk n sc e)
 | .aug i op e=>sAug sc i op (chkX fnm rk n sc e)
 | .setI i k e=>sSetI sc i (chkX fnm rk n sc k) (chkX fnm rk n sc e)
 | .augI i k op e=>sAugI sc i op (chkX fnm rk n sc k) (chkX fnm rk n sc e)
 | .setJ i k l e=>sSetJ sc i (chkX fnm rk n sc k) (chkX fnm rk n sc l) (chkX fnm rk n sc e)
 | .app i e=>sMe1 sc i "append" (chkX fnm rk n sc e)
 | .ext i e=>sMe1 sc i "extend" (chkX fnm rk n sc e)
 | .hadd i a b=>fun x=>decide (3 < n) && sAdd sc i (chkX fnm rk n sc a) (chkX fnm rk n sc b) x
 | .iff t a b=>sIf (chkX fnm rk n sc t) (chkSs a) (chkSs b)
 | .forS t it b=>fun x=>tgtOk it t && sFor (chkT sc t) (chkIt fnm rk n sc it) (chkSs b) x
 | .whil t b=>sWhile (chkX fnm rk n sc t) (chkSs b)
 | .ret e=>sRet (chkX fnm rk n sc e)
 | .frz _=>fun u_=>false
 | .genLen _ _ _ _ _ _=>fun u_=>false
noncomputable def chkSs:Sts->List Stmt->Bool
 | .nil=>lNil
 | .cons x xs=>fun l=>match x with
  | .frz _=>chkSs xs l
  | .genLen j g a elt t ifs=>lCons2 (sGenLen sc j g (chkIt fnm rk n sc (.gen a)) t.ids (fun q=>chkT q t) (fun q=>chkXs fnm rk n q ifs) (fun q=>chkX fnm rk n q elt)) (chkSs xs) l
  | _=>lCons (chkS x) (chkSs xs) l
end
end
noncomputable def zeros (M:List Nat) (is:List Nat):Bool:=is.all fun i=>M.getD i 0 == 0
noncomputable def set0s:List Nat->List Nat->List Nat
 | M,[]=>M
 | M,i::is=>set0s (M.set i 0) is
noncomputable def rowsX:X->Bool
 | .comp elt _ _ _=>newX elt
 | _=>false
mutual
noncomputable def okS:List Nat->St->Option (List Nat)
 | M,.asg m i e=>if decide (i < M.length) && okX (md M) e then (match m with
   | 0=>if odX (md M) e=0 then some (M.set i 0) else none
   | 1=>if newX e then some (M.set i 1) else none
   | 2=>if rowsX e then some (M.set i 2) else none
   | _=>none) else none
 | M,.asgH i=>if i < M.length then some (M.set i 4) else none
 | M,.asgT is e=>if (is.all fun i=>decide (i < M.length)) && okX (md M) e && decide (odX (md M) e=0) then some (set0s M is) else none
 | M,.swap i j a b=>if decide (i < M.length) && decide (j < M.length) && okX (md M) a && okX (md M) b && decide (odX (md M) a=0) && decide (odX (md M) b=0) then some (set0s M [j,i]) else none
 | M,.asg2 i j e=>if decide (i < M.length) && decide (j < M.length) && okX (md M) e && decide (odX (md M) e=0) then some (set0s M [i,j]) else none
 | M,.aug i _ e=>if decide (i < M.length) && okX (md M) e && decide (md M i=0) then some M else none
 | M,.setI i k e=>if decide (md M i=1) && okX (md M) k && okX (md M) e && decide (odX (md M) e=0) then some M else none
 | M,.augI i k op e=>if decide (md M i=1) && okX (md M) k && okX (md M) e then some M else none
 | M,.setJ i k l e=>if decide (md M i=2) && okX (md M) k && okX (md M) l && okX (md M) e && decide (odX (md M) e=0) then some M else none
 | M,.app i e=>if decide (md M i=1) && okX (md M) e && decide (odX (md M) e=0) then some M else none
 | M,.ext i e=>if decide (md M i=1) && okX (md M) e && decide (odX (md M) e=0) then some M else none
 | M,.hadd i a b=>if decide (md M i=4) && okX (md M) a && okX (md M) b then some M else none
 | M,.genLen j g a elt t ifs=>if decide (j < M.length) && decide (md M g=0) && okX (md M) a && okXs (modeOff (md M) t.ids) ifs && okX (modeOff (md M) t.ids) elt && decide (odX (modeOff (md M) t.ids) elt=0) then some (M.set j 0) else none
 | M,.iff t a b=>if okX (md M) t then (okSs M a).bind fun M1=>(okSs M b).bind fun M2=>if M1=M2 then some M1 else none else none
 | M,.forS t it b=>if okIt (md M) it && decide (itK (md M) it=0) && zeros M t.ids then (okSs M b).bind fun M1=>if M1=M then some M else none else none
 | M,.whil t b=>if okX (md M) t then (okSs M b).bind fun M1=>if M1=M then some M else none else none
 | M,.ret e=>if okX (md M) e && decide (odX (md M) e=0) then some M else none
 | M,.frz i=>if decide (i < M.length) && (decide (md M i=1) || decide (md M i=2)) then some (M.set i 0) else none
noncomputable def okSs:List Nat->Sts->Option (List Nat)
 | M,.nil=>some M
 | M,.cons x xs=>(okS M x).bind fun M1=>okSs M1 xs
end
theorem chkS_q_asg {fnm:Nat->Str} {rk:Nat->Nat} {n:Nat} {sc:Scope} {z1 i e}:chkS fnm rk n sc (.asg z1 i e)=(sAsg sc i (chkX fnm rk n sc e)):=rfl
theorem chkS_q_asgH {fnm:Nat->Str} {rk:Nat->Nat} {n:Nat} {sc:Scope} {i}:chkS fnm rk n sc (.asgH i)=(fun x=>decide (3 < n) && sHdr sc i x):=rfl
theorem chkS_q_asgT {fnm:Nat->Str} {rk:Nat->Nat} {n:Nat} {sc:Scope} {is e}:chkS fnm rk n sc (.asgT is e)=(sAsgT sc is (chkX fnm rk n sc e)):=rfl
theorem chkS_q_swap {fnm:Nat->Str} {rk:Nat->Nat} {n:Nat} {sc:Scope} {i j a b}:chkS fnm rk n sc (.swap i j a b)=(sSwap sc i j (chkX fnm rk n sc a) (chkX fnm rk n sc b)):=rfl
theorem chkS_q_asg2 {fnm:Nat->Str} {rk:Nat->Nat} {n:Nat} {sc:Scope} {i j e}:chkS fnm rk n sc (.asg2 i j e)=(sAsg2 sc i j (chkX fnm rk n sc e)):=rfl
theorem chkS_q_aug {fnm:Nat->Str} {rk:Nat->Nat} {n:Nat} {sc:Scope} {i op e}:chkS fnm rk n sc (.aug i op e)=(sAug sc i op (chkX fnm rk n sc e)):=rfl
theorem chkS_q_setI {fnm:Nat->Str} {rk:Nat->Nat} {n:Nat} {sc:Scope} {i k e}:chkS fnm rk n sc (.setI i k e)=(sSetI sc i (chkX fnm rk n sc k) (chkX fnm rk n sc e)):=rfl
theorem chkS_q_app {fnm:Nat->Str} {rk:Nat->Nat} {n:Nat} {sc:Scope} {i e}:chkS fnm rk n sc (.app i e)=(sMe1 sc i "append" (chkX fnm rk n sc e)):=rfl
theorem chkS_q_hadd {fnm:Nat->Str} {rk:Nat->Nat} {n:Nat} {sc:Scope} {i a b}:chkS fnm rk n sc (.hadd i a b)=(fun x=>decide (3 < n) && sAdd sc i (chkX fnm rk n sc a) (chkX fnm rk n sc b) x):=rfl
theorem chkS_q_iff {fnm:Nat->Str} {rk:Nat->Nat} {n:Nat} {sc:Scope} {t a b}:chkS fnm rk n sc (.iff t a b)=(sIf (chkX fnm rk n sc t) (chkSs fnm rk n sc a) (chkSs fnm rk n sc b)):=rfl
theorem chkS_q_forS {fnm:Nat->Str} {rk:Nat->Nat} {n:Nat} {sc:Scope} {t it b}:chkS fnm rk n sc (.forS t it b)=(fun x=>tgtOk it t && sFor (chkT sc t) (chkIt fnm rk n sc it) (chkSs fnm rk n sc b) x):=rfl
theorem chkS_q_whil {fnm:Nat->Str} {rk:Nat->Nat} {n:Nat} {sc:Scope} {t b}:chkS fnm rk n sc (.whil t b)=(sWhile (chkX fnm rk n sc t) (chkSs fnm rk n sc b)):=rfl
theorem chkS_q_ret {fnm:Nat->Str} {rk:Nat->Nat} {n:Nat} {sc:Scope} {e}:chkS fnm rk n sc (.ret e)=(sRet (chkX fnm rk n sc e)):=rfl
theorem chkS_q_augI {fnm:Nat->Str} {rk:Nat->Nat} {n:Nat} {sc:Scope} {i k op e}:chkS fnm rk n sc (.augI i k op e)=(sAugI sc i op (chkX fnm rk n sc k) (chkX fnm rk n sc e)):=rfl
theorem chkS_q_setJ {fnm:Nat->Str} {rk:Nat->Nat} {n:Nat} {sc:Scope} {i k l e}:chkS fnm rk n sc (.setJ i k l e)=(sSetJ sc i (chkX fnm rk n sc k) (chkX fnm rk n sc l) (chkX fnm rk n sc e)):=rfl
theorem chkS_q_ext {fnm:Nat->Str} {rk:Nat->Nat} {n:Nat} {sc:Scope} {i e}:chkS fnm rk n sc (.ext i e)=(sMe1 sc i "extend" (chkX fnm rk n sc e)):=rfl
theorem chkS_q_genLen {fnm:Nat->Str} {rk:Nat->Nat} {n:Nat} {sc:Scope} {z1 z2 z3 z4 z5 z6}:chkS fnm rk n sc (.genLen z1 z2 z3 z4 z5 z6)=(fun u_=>false):=rfl
theorem chkS_q_frz {fnm:Nat->Str} {rk:Nat->Nat} {n:Nat} {sc:Scope} {z1}:chkS fnm rk n sc (.frz z1)=(fun u_=>false):=rfl
theorem chkSs_q_nil {fnm:Nat->Str} {rk:Nat->Nat} {n:Nat} {sc:Scope}:chkSs fnm rk n sc .nil=(lNil):=rfl
theorem chkSs_q_cons {fnm:Nat->Str} {rk:Nat->Nat} {n:Nat} {sc:Scope} {x xs}:chkSs fnm rk n sc (.cons x xs)=(fun l=>match x with
  | .frz _=>chkSs fnm rk n sc xs l
  | .genLen j g a elt t ifs=>lCons2 (sGenLen sc j g (chkIt fnm rk n sc (.gen a)) t.ids (fun q=>chkT q t) (fun q=>chkXs fnm rk n q ifs) (fun q=>chkX fnm rk n q elt)) (chkSs fnm rk n sc xs) l
  | _=>lCons (chkS fnm rk n sc x) (chkSs fnm rk n sc xs) l):=rfl
theorem okS_q_asg  {M m i e}:okS  M (.asg m i e)=(if decide (i < M.length) && okX (md M) e then (match m with
   | 0=>if odX (md M) e=0 then some (M.set i 0) else none
   | 1=>if newX e then some (M.set i 1) else none
   | 2=>if rowsX e then some (M.set i 2) else none
   | _=>none) else none):=rfl
theorem okS_q_asgH {M i}:okS M (.asgH i)=(if i < M.length then some (M.set i 4) else none):=rfl
theorem okS_q_asgT {M is e}:okS M (.asgT is e)=(if (is.all fun i=>decide (i < M.length)) && okX (md M) e && decide (odX (md M) e=0) then some (set0s M is) else none):=rfl
theorem okS_q_swap {M i j a b}:okS M (.swap i j a b)=(if decide (i < M.length) && decide (j < M.length) && okX (md M) a && okX (md M) b && decide (odX (md M) a=0) && decide (odX (md M) b=0) then some (set0s M [j,i]) else none):=rfl
theorem okS_q_asg2 {M i j e}:okS M (.asg2 i j e)=(if decide (i < M.length) && decide (j < M.length) && okX (md M) e && decide (odX (md M) e=0) then some (set0s M [i,j]) else none):=rfl
theorem okS_q_aug {M i z1 e}:okS M (.aug i z1 e)=(if decide (i < M.length) && okX (md M) e && decide (md M i=0) then some M else none):=rfl
theorem okS_q_setI {M i k e}:okS M (.setI i k e)=(if decide (md M i=1) && okX (md M) k && okX (md M) e && decide (odX (md M) e=0) then some M else none):=rfl
theorem okS_q_app {M i e}:okS M (.app i e)=(if decide (md M i=1) && okX (md M) e && decide (odX (md M) e=0) then some M else none):=rfl
theorem okS_q_hadd {M i a b}:okS M (.hadd i a b)=(if decide (md M i=4) && okX (md M) a && okX (md M) b then some M else none):=rfl
theorem okS_q_iff {M t a b}:okS M (.iff t a b)=(if okX (md M) t then (okSs M a).bind fun M1=>(okSs M b).bind fun M2=>if M1=M2 then some M1 else none else none):=rfl
theorem okS_q_forS {M t it b}:okS M (.forS t it b)=(if okIt (md M) it && decide (itK (md M) it=0) && zeros M t.ids then (okSs M b).bind fun M1=>if M1=M then some M else none else none):=rfl
theorem okS_q_whil {M t b}:okS M (.whil t b)=(if okX (md M) t then (okSs M b).bind fun M1=>if M1=M then some M else none else none):=rfl
theorem okS_q_ret {M e}:okS M (.ret e)=(if okX (md M) e && decide (odX (md M) e=0) then some M else none):=rfl
theorem okS_q_frz {M i}:okS M (.frz i)=(if decide (i < M.length) && (decide (md M i=1) || decide (md M i=2)) then some (M.set i 0) else none):=rfl
theorem okS_q_augI {M i k op e}:okS M (.augI i k op e)=(if decide (md M i=1) && okX (md M) k && okX (md M) e then some M else none):=rfl
theorem okS_q_setJ {M i k l e}:okS M (.setJ i k l e)=(if decide (md M i=2) && okX (md M) k && okX (md M) l && okX (md M) e && decide (odX (md M) e=0) then some M else none):=rfl
theorem okS_q_ext {M i e}:okS M (.ext i e)=(if decide (md M i=1) && okX (md M) e && decide (odX (md M) e=0) then some M else none):=rfl
theorem okS_q_genLen {M j g a elt t ifs}:okS M (.genLen j g a elt t ifs)=(if decide (j < M.length) && decide (md M g=0) && okX (md M) a && okXs (modeOff (md M) t.ids) ifs && okX (modeOff (md M) t.ids) elt && decide (odX (modeOff (md M) t.ids) elt=0) then some (M.set j 0) else none):=rfl
set_option tactic.hygienic true in
noncomputable def StOK (c:Cfg) (W:Nat) (st:St):Prop :=
 ∀ (n:Nat) (A:Around) (env:Env) (Bad:Addr->Prop) (M M':List Nat) (F:Nat->List Addr) (P:Nat->Option Value) (E E':AE) (r:Option PyData) (s:Shared) (x:Stmt) (Q:Flow->Shared->Prop) (Er:Value->Shared->Prop),
  SX c n A env Bad M F P E s->chkS c.fnm c.rk n env.scope st x=true->okS M st=some M'->ex c.G c.T W st E=some (E',r) ->
  (r=none->∀ F' P' s',SX c n A env Bad M' F' P' E' s'->SStep env F s F' s'->Q .next s') ->
  (∀ d,r=some d->∀ F' v s',SStep env F s F' s'->Rd0 Bad s'.heap v d->Q (.ret v) s')->wpAny (model c.prog c.w) A (exec x env) Q Er s
set_option tactic.hygienic true in
noncomputable def StsOK (c:Cfg) (W:Nat) (sts:Sts):Prop :=
 ∀ (n:Nat) (A:Around) (env:Env) (Bad:Addr->Prop) (M M':List Nat) (F:Nat->List Addr) (P:Nat->Option Value) (E E':AE) (r:Option PyData) (s:Shared) (xs:List Stmt) (Q:Flow->Shared->Prop) (Er:Value->Shared->Prop),
  SX c n A env Bad M F P E s->chkSs c.fnm c.rk n env.scope sts xs=true->okSs M sts=some M'->exs c.G c.T W sts E=some (E',r) ->
  (r=none->∀ F' P' s',SX c n A env Bad M' F' P' E' s'->SStep env F s F' s'->Q .next s') ->
  (∀ d,r=some d->∀ F' v s',SStep env F s F' s'->Rd0 Bad s'.heap v d->Q (.ret v) s')->wpAny (model c.prog c.w) A (execs xs env) Q Er s
section
variable {c:Cfg} {n:Nat} {A:Around} {env:Env} {Bad:Addr->Prop} {M M':List Nat} {F:Nat->List Addr} {P P':Nat->Option Value} {E E':AE} {s s':Shared}
theorem Rd0.bad {h:Heap} {v:Value} {d:PyData} (r:Rd0 (OwnB Bad F) h v d):Rd0 Bad h v d:=r.weak fun a h=>.inl h
theorem st_ret (W:Nat) {e:X} (he:EvOK c e):StOK c W (.ret e):=by
 intro n A env Bad M M' F P E E' r s x Q Er X hc ho hx h1 h2
 dsimp only [chkS_q_ret] at hc
 refine dSReturn_elim hc fun z1 pos hc=>?_
 refine dsome_elim hc fun v hc=>?_
 ·dsimp only [okS_q_ret] at ho
  revert ho
  refine ifs fun hk ho=>?_
  replace hk:=c_bd hk
  simp only [ex_q_ret,Option.bind_eq_some_iff,Option.some.injEq,Prod.mk.injEq] at hx
  (refine e1a3 hx ?_;try clear hx;rintro d hd u_ rfl)
  refine wpAny_Return_some (he n A env _ _ E s _ d _ Er X.cx hc hk.1 hd fun v s' st r u_=>?_)
  rw [hk.2] at r
  exact h2 d rfl F v s' (.of st) (Rd0.bad r)
theorem st_iff (C:CfgOK c) (W:Nat) {t:X} {a b:Sts} (ht:TsOK c t) (ha:StsOK c W a) (hb:StsOK c W b):StOK c W (.iff t a b):=by
 intro n A env Bad M M' F P E E' r s x Q Er X hc ho hx h1 h2
 dsimp only [chkS_q_iff] at hc
 refine dSIf_elim hc fun v y z pos hc=>?_
 ·replace hc:=c_bbb hc
  dsimp only [okS_q_iff] at ho
  revert ho
  refine ifs fun hk ho=>?_
  revert ho
  refine sbn fun M1 o1=>sbn fun M2 o2 ho=>?_
  revert ho
  refine ifs fun e ho=>?_
  subst e
  (replace ho:=Option.some.inj ho;subst ho)
  revert hx
  refine sbn fun d hd=>sbn fun q hq hx=>?_
  refine wpAny_If (ht n A env _ _ E s _ d q _ Er X.cx hc.1.1 hk hd hq fun s' st=>?_)
  induction q with
  | true =>
   rw [if_pos rfl]
   exact ha n A env Bad M _ F P E E' r s' _ Q Er (X.stp st) hc.1.2 o1 hx (fun e F' P' s2 X2 S2=>h1 e F' P' s2 X2 ((SStep.of st).trans S2)) fun d e F' v s2 S2=>h2 d e F' v s2 ((SStep.of st).trans S2)
  | false =>
   rw [if_neg Bool.false_ne_true]
   exact hb n A env Bad M _ F P E E' r s' _ Q Er (X.stp st) hc.2 o2 hx (fun e F' P' s2 X2 S2=>h1 e F' P' s2 X2 ((SStep.of st).trans S2)) fun d e F' v s2 S2=>h2 d e F' v s2 ((SStep.of st).trans S2)
theorem sts_nil (W:Nat):StsOK c W .nil:=by
 intro n A env Bad M M' F P E E' r s xs Q Er X hc ho hx h1 h2
 dsimp only [chkSs_q_nil] at hc
 refine dnil_elim hc fun hc=>?_
 ·(replace ho:=Option.some.inj ho;subst ho)
  cases hx
  exact wpAny_execs_nil (h1 rfl F P s X (.refl s))
noncomputable def GlOK (c:Cfg) (W:Nat) (st:St):Prop:=∀ (j g:Nat) (a elt:X) (t:Tgt) (ifs:Xs),st=.genLen j g a elt t ifs ->
 ∀ (n:Nat) (A:Around) (env:Env) (Bad:Addr->Prop) (M M':List Nat) (F:Nat->List Addr) (P:Nat->Option Value) (E E':AE) (r:Option PyData) (s:Shared) (x y:Stmt) (l:List Stmt) (Q:Flow->Shared->Prop) (Er:Value->Shared->Prop),
  SX c n A env Bad M F P E s->sGenLen env.scope j g (chkIt c.fnm c.rk n env.scope (.gen a)) t.ids (fun q=>chkT q t) (fun q=>chkXs c.fnm c.rk n q ifs) (fun q=>chkX c.fnm c.rk n q elt) x y=true->okS M st=some M'->ex c.G c.T W st E=some (E',r) ->
  (r=none->∀ F' P' s',SX c n A env Bad M' F' P' E' s'->SStep env F s F' s'->wpAny (model c.prog c.w) A (execs l env) Q Er s')->wpAny (model c.prog c.w) A (execs (x::y::l) env) Q Er s
theorem chkSs_cons {fnm rk n sc} {x:St} {xs:Sts} {l:List Stmt} {G:Prop} (h:chkSs fnm rk n sc (.cons x xs) l=true) (h1:∀ i,x=.frz i->chkSs fnm rk n sc xs l=true->G)
  (h2:∀ j g a elt t ifs,x=.genLen j g a elt t ifs->lCons2 (sGenLen sc j g (chkIt fnm rk n sc (.gen a)) t.ids (fun q=>chkT q t) (fun q=>chkXs fnm rk n q ifs) (fun q=>chkX fnm rk n q elt)) (chkSs fnm rk n sc xs) l=true->G) (h3:lCons (chkS fnm rk n sc x) (chkSs fnm rk n sc xs) l=true->G):G:=by
 dsimp only [chkSs_q_cons] at h
 cases x with
 | frz i=>exact h1 i rfl h
 | genLen j g a elt t ifs=>exact h2 j g a elt t ifs rfl h
 | _=>exact h3 h
set_option tactic.hygienic true in
theorem SX.frz {i:Nat} (X:SX c n A env Bad M F P E s) (hi:i < M.length) (hm:md M i=1):SX c n A env Bad (M.set i 0) (fset F i []) P E s:=by
 have own:∀ a,OwnB Bad (fset F i []) a->OwnB Bad F a:=by
  rintro a (h | ⟨j,h⟩)
  ·exact .inl h
  ·exact .inr ⟨j,(fset_sub h).1⟩
 refine ⟨X.eok,X.room,X.base,X.cells,X.sto,fun j pv e=>?_,fun j a h=>X.pl j a (fset_sub h).1,X.bad,fun j a h=>X.nb j a (fset_sub h).1,fun j k a h1 h2=>X.dj j k a (fset_sub h1).1 (fset_sub h2).1,X.nl,X.nc,fun j a h=>X.nF j a (fset_sub h).1⟩
 (refine e1a2 (X.vars j pv e) ?_;rintro v q1 q2)
 refine ⟨v,q1,?_⟩
 rw [md_set hi]
 by_cases hj:j=i
 ·subst hj
  rw [if_pos rfl,show fset F j [] j=[] from if_pos rfl]
  rw [hm] at q2
  generalize hF:F j=fs at q2
  cases q2 with
  | one hl hx =>
   rename_i a vs xs
   refine .flat (RdG.list hl (hx.mono fun _ _ q=>q.weak own) ?_)
   rintro (h | ⟨k,h⟩)
   ·exact X.nb j a (hF ▸ List.mem_cons_self) h
   ·obtain ⟨h1,h2⟩:=fset_sub h
    exact h2 (X.dj k j a h1 (hF ▸ List.mem_cons_self))
 ·rw [if_neg hj,show fset F i [] j=F j from if_neg hj]
  exact q2.weak fun a h _=>own a h
theorem SX.frz2 {i:Nat} (X:SX c n A env Bad M F P E s) (hi:i < M.length) (hm:md M i=2):SX c n A env Bad (M.set i 0) (fset F i []) P E s:=by
 have own:∀ a,OwnB Bad (fset F i []) a->OwnB Bad F a:=by
  rintro a (h | ⟨j,h⟩)
  ·exact .inl h
  ·exact .inr ⟨j,(fset_sub h).1⟩
 have out:∀ a,a∈F i->¬ OwnB Bad (fset F i []) a:=by
  rintro a ha (h | ⟨k,h⟩)
  ·exact X.nb i a ha h
  ·exact (fset_sub h).2 (X.dj k i a (fset_sub h).1 ha)
 refine ⟨X.eok,X.room,X.base,X.cells,X.sto,fun j pv e=>?_,fun j a h=>X.pl j a (fset_sub h).1,X.bad,fun j a h=>X.nb j a (fset_sub h).1,fun j k a h1 h2=>X.dj j k a (fset_sub h1).1 (fset_sub h2).1,X.nl,X.nc,fun j a h=>X.nF j a (fset_sub h).1⟩
 (refine e1a2 (X.vars j pv e) ?_;rintro v q1 q2)
 refine ⟨v,q1,?_⟩
 rw [md_set hi]
 by_cases hj:j=i
 ·subst hj
  rw [if_pos rfl,show fset F j [] j=[] from if_pos rfl]
  rw [hm] at q2
  generalize hF:F j=fs at q2
  cases q2 with
  | @two a vs rs xs hl hv hx hn =>
   have mv:∀ {l:List Value} {xs:List PyData},All2 (RowR (OwnB Bad F) s.heap) l xs->(∀ v∈l,v∈rs.map Value.ref)->All2 (Rd0 (OwnB Bad (fset F j [])) s.heap) l xs:=by
    intro l xs hx
    induction hx with
    | nil=>exact fun _=>.nil
    | @cons v x l xs q u_ ih =>
     intro hm
     refine .cons ?_ (ih fun v m=>hm v (List.mem_cons_of_mem _ m))
     (refine e3a4 q ?_;rintro r ys ws rfl rfl h1 h2)
     (refine e1a2 (List.mem_map.mp (hm _ List.mem_cons_self)) ?_;rintro r' hr er)
     cases er
     exact RdG.list h1 (All2.mono (fun v x (q:Rd0 (OwnB Bad F) s.heap v x)=>q.weak own) h2) (out r (hF ▸ List.mem_cons_of_mem _ hr))
   exact .flat (RdG.list hl (mv hx fun v m=>hv ▸ m) (out a (hF ▸ List.mem_cons_self)))
 ·rw [if_neg hj,show fset F i [] j=F j from if_neg hj]
  exact q2.weak fun a h _=>own a h
theorem sts_cons (W:Nat) {x:St} {xs:Sts} (hx:StOK c W x) (hg:GlOK c W x) (hxs:StsOK c W xs):StsOK c W (.cons x xs):=by
 intro n A env Bad M M' F P E E' r s l Q Er X hc ho he h1 h2
 revert ho
 refine sbn fun M1 o1 o2=>?_
 revert he
 refine sbn fun p hp he=>?_
 refine chkSs_cons hc (fun i e hc=>?_) (fun j g a elt t fs0 e hc=>?_) fun hc=>?_
 ·subst e
  dsimp only [okS_q_frz] at o1
  revert o1
  refine ifs fun hk o1=>?_
  replace hk:=c_db hk
  have Xf:SX c n A env Bad (M.set i 0) (fset F i []) P E s:=(Bool.or_eq_true _ _ ▸ hk.2:_\/_).elim (fun q=>X.frz hk.1 (of_decide_eq_true q)) fun q=>X.frz2 hk.1 (of_decide_eq_true q)
  (replace o1:=(Option.some.inj o1).symm;subst o1)
  (replace hp:=(Option.some.inj hp).symm;subst hp)
  have S1:SStep env F s (fset F i []) s:=⟨fun u_ u_ u_ u_ u_ e=>e,.refl _,rfl,fun j a h=>.inl ⟨j,(fset_sub h).1⟩,fun u_ o e=>⟨o,e⟩⟩
  exact hxs n A env Bad _ M' _ P E E' r s l Q Er Xf hc o2 he (fun e F' P' s2 X2 S2=>h1 e F' P' s2 X2 (S1.trans S2)) fun d e F' v s2 S2=>h2 d e F' v s2 (S1.trans S2)
 ·refine dcons_elim hc fun y z1 hc=>?_
  refine dcons_elim hc fun z l' hc=>?_
  replace hc:=c_bb hc
  obtain ⟨E1,r1⟩:=p
  have q:=hg j g a elt t fs0 e n A env Bad M M1 F P E E1 r1 s y z l' Q Er X hc.1 o1 hp
  have e0:r1=none:=by
   subst e
   revert hp
   dsimp only [ex_q_genLen]
   refine sbn fun u1_ u2_=>sbn fun u3_ u4_=>ifs fun u5_ u6_=>(congrArg Prod.snd (Option.some.inj u6_)).symm
  subst e0
  exact (q fun u_ F1 P1 s1 X1 S1=>hxs n A env Bad M1 M' F1 P1 E1 E' r s1 l' Q Er X1 hc.2 o2 he (fun e F' P' s2 X2 S2=>h1 e F' P' s2 X2 (S1.trans S2)) fun d e F' v s2 S2=>h2 d e F' v s2 (S1.trans S2))
 ·cases l with
  | nil=>exact nbt hc
  | cons y l' =>
   simp only [lCons,Bool.and_eq_true] at hc
   obtain ⟨E1,r1⟩:=p
   refine wpAny_execs_cons (hx n A env Bad M M1 F P E E1 r1 s y _ Er X hc.1 o1 hp (fun e F1 P1 s1 X1 S1=>?_) fun d e F' v s2 S2=>?_)
   ·subst e
    exact hxs n A env Bad M1 M' F1 P1 E1 E' r s1 _ Q Er X1 hc.2 o2 he (fun e F' P' s2 X2 S2=>h1 e F' P' s2 X2 (S1.trans S2)) fun d e F' v s2 S2=>h2 d e F' v s2 (S1.trans S2)
   ·subst e
    cases he
    exact h2 d rfl F' v s2 S2
end
set_option tactic.hygienic true in
noncomputable def AsgOK (c:Cfg) (x:X):Prop :=
 ∀ (n:Nat) (A:Around) (env:Env) (Bad:Addr->Prop) (M:List Nat) (F:Nat->List Addr) (P:Nat->Option Value) (E:AE) (s:Shared) (e:Expr) (d:PyData) (i:Nat) (p pos:Pos) (Q:Flow->Shared->Prop) (Er:Value->Shared->Prop),
  SX c n A env Bad M F P E s->chkX c.fnm c.rk n env.scope x e=true->notSD e=true->okX (md M) x=true->odX (md M) x=0->ownName env.scope (nm i)=true->ev c.G c.T x E=some d ->
  (∀ v s2,Kb env [i] s.heap s2.heap->Sto env s2.heap (upd P i v)->GK s.gens s2.gens->s2.os=s.os->Rd0 (OwnB Bad F) s2.heap v d->(newX x=true->Fr1 s v)->(rowsX x=true->∀ D,v=.ref D->FrR s s2.heap D)->Q .next s2) ->
  wpAny (model c.prog c.w) A (exec (.Assign [.Name (nm i) p] e pos) env) Q Er s
noncomputable def isLC:Expr->Bool
 | .ListComp ..=>true
 | _=>false
theorem swaps_not {e:Expr} {t:Option Expr} {l:Nat} {env:Env} (h1:notSD e=true) (h2:isLC e=false):swapsWith e t l env=pure false:=by
 cases e with
 | ListComp _ _ _ _=>exact nbf h2
 | SetComp _ _ _ _=>exact nbt h1
 | DictComp _ _ _ _ _=>exact nbt h1
 | _=>rfl
theorem nlc_of {v:Expr} (h:∀ a b d p,v=.ListComp a b d p->False):isLC v=false:=by
 cases v with
 | ListComp a b d p=>exact (h _ _ _ _ rfl).elim
 | _=>rfl
section
variable {c:Cfg}
set_option tactic.hygienic true in
theorem asg_direct {x:X} (he:EvOK c x) {n:Nat} {A:Around} {env:Env} {Bad:Addr->Prop} {M:List Nat} {F:Nat->List Addr} {P:Nat->Option Value} {E:AE} {s:Shared} {e:Expr} {d:PyData} {i:Nat} {p pos:Pos} {Q:Flow->Shared->Prop} {Er:Value->Shared->Prop}
  (X:SX c n A env Bad M F P E s) (hr:rowsX x=false) (hc:chkX c.fnm c.rk n env.scope x e=true) (hs:swapsWith e (some (.Name (nm i) p)) pos.line env=pure false) (ho:okX (md M) x=true) (h0:odX (md M) x=0) (hi:ownName env.scope (nm i)=true) (hd:ev c.G c.T x E=some d)
  (h:∀ v s2,Kb env [i] s.heap s2.heap->Sto env s2.heap (upd P i v)->GK s.gens s2.gens->s2.os=s.os->Rd0 (OwnB Bad F) s2.heap v d->(newX x=true->Fr1 s v)->(rowsX x=true->∀ D,v=.ref D->FrR s s2.heap D)->Q .next s2) :
  wpAny (model c.prog c.w) A (exec (.Assign [.Name (nm i) p] e pos) env) Q Er s:=by
 refine wpAny_Assign_Name (he n A env _ _ E s e d _ Er X.cx hc ho hd fun v s' st r fr=>?_) hs
 rw [h0] at r
 refine store_ok X.eok (X.stp st).sto hi fun h' tk k So=>?_
 exact h v _ (fun b o q1 q2 e=>k b o q1 q2 (st.keep b o e)) So st.gk st.os (r.kpf ((X.stp st).sto.kpf k)) fr fun q=>nbt (hr.symm.trans q)
noncomputable def isCompX:X->Bool
 | .comp ..=>true
 | _=>false
theorem lc_comp {fnm rk n sc} {x:X} {a:Expr} {b d p} (h:chkX fnm rk n sc x (.ListComp a b d p)=true):isCompX x=true:=by
 cases x with
 | comp elt t it ifs=>rfl
 | p1 q a=>cases q <;> exact nbt h
 | p2 q a b=>cases q <;> exact nbt h
 | isC m a b=>exact nbt (and2 h).2
 | lst xs=>exact nbt (and2 h).2
 | tup xs=>exact nbt (and2 h).2
 | call f xs=>exact nbt (and2 h).2
 | callh f i xs=>exact nbt (and2 h).2
 | lof it=>exact nbt (and2 h).2
 | hget i a=>exact nbt (and2 h).2
 | hkeys i=>exact nbt (and2 h).2
 | _=>exact nbt h
theorem rows_no {x:X} (h:isCompX x=false):rowsX x=false:=by
 cases x <;> first | rfl | exact nbf h
theorem asg_of {x:X} (he:EvOK c x) (h1:isCompX x=false):AsgOK c x:=by
 intro n A env Bad M F P E s e d i p pos Q Er X hc hn ho h0 hi hd h
 exact asg_direct he X (rows_no h1) hc (swaps_not hn (nlc_of fun a b d p q=>nbt (h1.symm.trans (lc_comp (q ▸ hc))))) ho h0 hi hd h
theorem asg_comp (C:CfgOK c) {elt:X} {t:Tgt} {it:It} {ifs:Xs} (hit:ItOK c it) (hts:TssOK c ifs) (hel:EvOK c elt):AsgOK c (.comp elt t it ifs):=by
 intro n A env Bad M F P E s e d i p pos Q Er X hc hn ho h0 hi hd h
 have hc0:=hc
 have ho0:=ho
 have hd0:=hd
 simp only [chkX_q_comp,Bool.and_eq_true] at hc
 (refine l3 hc ?_;try clear hc;rintro hng hto hc)
 (refine e6a7 (inv_comp hc) ?_;rintro x tg ite fs scope q rfl c0 c1 hsc c3 c4 c5)
 have hb:∃ b,swapsWith (.ListComp x [⟨tg,ite,fs,0⟩] scope q) (some (.Name (nm i) p)) pos.line env=pure b:=⟨_,rfl⟩
 (refine e1a1 hb ?_;try clear hb;rintro b hb)
 induction b with
 | false =>
  have hdl:∃ ys,d=.list ys:=by
   dsimp only [ev_q_comp] at hd0
   revert hd0
   exact sbn fun ds u1_=>sbn fun ys u2_ e0=>⟨ys,(Option.some.inj e0).symm⟩
  (refine e1a1 hdl ?_;clear hdl;rintro ys rfl)
  refine wpAny_Assign_Name (ev_compR C hit hts hel X.cx hc0 ho0 hd0 fun v s' st r fr frr=>?_) hb
  refine store_ok X.eok (X.stp st).sto hi fun h' tk k So=>?_
  refine h v _ (fun b o q1 q2 e=>k b o q1 q2 (st.keep b o e)) So st.gk st.os (r.kpf ((X.stp st).sto.kpf k)) (fun _=>fr) fun nw D e=>?_
  subst e
  (refine e2a4 (Rd0.unlist r) ?_;rintro a' vs e1 hl u1_ u2_)
  cases e1
  exact (frr nw _ rfl).at hl fun n eD=>⟨n,k.seq (X.stp st).sto _ _ _ _ rfl eD⟩
 | true =>
  rw [exec_Assign_Name_used _ _ _ _ hb]
  (refine k_bbbd (okX_q_comp.symm.trans ho) ?_;try clear ho;rintro o1 o2 o3 o4)
  revert hd
  refine sbn fun ds hds=>sbn fun ys hys e0z=>?_
  (replace e0z:=(Option.some.inj e0z).symm;subst e0z)
  refine wpAny_bind (wpAny_standAt (wpAny_bind ?_))
  show wpAny _ A (do let _ <-comprehension _ scope env _ (newList []) _ _ (some (assign (.Name (nm i) p) env))) _ _ s
  refine wpAny_bind (comp_any (use:=some (assign (.Name (nm i) p) env)) C hit hts hel X.cx c0 hto c1 hsc c3 c4 c5 o1 o2 o3 o4 hds hys fun D cc s' st r hD hC hnn frr=>?_)
  have So':=(X.stp st).sto
  have hcl:cc≠env.locals:=fun e=>by
   (refine e1a2 X.sto.ns ?_;rintro m ⟨o',u_,u_,ho',u_⟩ u_)
   rw [<-e,hC] at ho';exact nso ho'
  show wpAny _ A (assign (.Name (nm i) p) env (.ref D)) _ _ s'
  refine asg_name X.eok So' hi fun h' tk k So=>?_
  (refine e1a1 hnn ?_;try clear hnn;rintro m hm)
  have hm':h'.Ns cc m:=by
   (refine e3a3 hm ?_;try clear hm;rintro o es ep ho hd r)
   exact ⟨o,es,ep,k.kd So' cc o (.inr ⟨hcl,es,ep,hd⟩) ho,hd,r⟩
  refine ⟨m,hm',fun h2 hs2=>wpAny_pure (wpAny_pure ?_)⟩
  have kk:∀ b o,b≠cc->h'.get? b=some o->h2.get? b=some o:=fun b o hb e=>(hs2.2 b hb).trans e
  have ccell:∀ y a,env.cells.lookup y=some a->a≠cc:=fun y a hy e=>by
   (refine e2a2 (X.cells y a hy) ?_;rintro o ob ho u_)
   rw [e,hC] at ho;exact nso ho
  have kp2:∀ OY:Addr->Prop,KpF OY h' h2:=fun OY b o vs nn hb hd u_=>kk b o (fun e=>by
   subst e
   (refine e3a3 hm' ?_;try clear hm';rintro o' es ep ho' hd' u_)
   rw [hb] at ho';(replace ho':=(Option.some.inj ho').symm;subst ho');rw [hd] at hd';cases hd') hb
  refine h (.ref D) _ (fun b o q1 q2 e=>kk b o (fun q=>by rw [q,hC] at e;exact nso e) (k b o q1 q2 (st.keep b o e))) (So.at (fun o e=>kk _ o hcl.symm e) fun y a u_ hy o e=>kk a o (ccell y a hy) e) st.gk st.os ?_ (fun u_ a e=>?_) fun nw D' e=>?_
  ·exact (r.kpf (So'.kpf k)).kpf (kp2 _)
  ·cases e;exact hD
  ·cases e
   (refine e2a4 (Rd0.unlist r) ?_;rintro a' vs e1 hl u1_ u2_)
   cases e1
   exact (frr nw).at hl fun n eD=>⟨n,(kp2 (fun u_=>False)) _ _ vs n (k.seq So' _ _ _ _ rfl eD) rfl (.inr fun q=>q)⟩
theorem sAsg_inv {sc:Scope} {i:Nat} {e:Ck} {x:Stmt} (h:sAsg sc i e x=true):∃ p v pos,x=.Assign [.Name (nm i) p] v pos/\ownName sc (nm i)=true/\notSD v=true/\e v=true:=by
 refine dSAssign_elim h fun z1 v pos h=>?_
 refine dcons_elim h fun z2 z3 h=>?_
 refine dEName_elim h fun y p h=>?_
 refine dnil_elim h fun h=>?_
 ·(refine k_dbbb h ?_;try clear h;rintro rfl h1 h2 h3)
  exact ⟨_,_,_,rfl,h1,h2,h3⟩
theorem new_od {M:Nat->Nat} {x:X} (h:newX x=true):odX M x=0:=by
 cases x <;> first | rfl | (first | exact nbt h | cases h)
theorem flats {Own Own':Addr->Prop} {h:Heap} {l:List Value} {ys:List PyData} (hx:All2 (Rd0 Own h) l ys) (hn:ys.all noL=true):All2 (Rd0 Own' h) l ys:=by
 induction hx with
 | nil=>exact .nil
 | cons q _ ih =>
  rw [List.all_cons] at hn
  exact .cons (Rd0.flat (and2 hn).1 q) (ih (and2 hn).2)
theorem rows_of {Own:Addr->Prop} {h:Heap} {l:List Value} {xs:List PyData} (hx:All2 (Rd0 Own h) l xs) (hp:xs.all rowP=true):∃ rs:List Addr,l=rs.map Value.ref/\(∀ Own':Addr->Prop,All2 (RowR Own' h) l xs)/\(∀ b∈rs,Pl h b):=by
 induction hx with
 | nil=>exact ⟨[],rfl,fun _=>.nil,fun b m=>nomatch m⟩
 | @cons v x l' xs' q u_ ih =>
  rw [List.all_cons] at hp
  (refine e1a3 (ih (and2 hp).2) ?_;rintro rs e1 e2 e3)
  have hr:=(and2 hp).1
  have hxl:∃ ys,x=.list ys/\ys.all noL=true:=by
   cases x with
   | list ys=>exact ⟨ys,rfl,hr⟩
   | _=>exact nbt hr
  (refine e1a2 hxl ?_;rintro ys rfl hy)
  (refine e2a4 (Rd0.unlist q) ?_;rintro r ws rfl hl hz _)
  refine ⟨r::rs,by rw [e1];rfl,fun Own'=>.cons (show RdG Own' 1 h (.ref r) (.list ys) from ⟨r,ys,ws,rfl,rfl,hl,flats hz hy⟩) (e2 Own'),fun b m=>?_⟩
  rcases List.mem_cons.mp m with e | m
  ·subst e;exact ⟨ws,hl⟩
  ·exact e3 b m
theorem rows_nodup {rs:List Addr} {D:Addr} {s:Shared} (h:(∀ v∈rs.map Value.ref,∀ a,v=.ref a->s.heap.get? a=none/\a≠D)/\(rs.map Value.ref).Pairwise fun v w=>∀ a,v=.ref a->w≠.ref a):(D::rs).Nodup:=by
 refine List.nodup_cons.mpr ⟨fun m=>(h.1 _ (List.mem_map.mpr ⟨D,m,rfl⟩) D rfl).2 rfl,?_⟩
 have h2:=List.pairwise_map.mp h.2
 exact h2.imp fun {x y} q e=>q x rfl (by rw [e])
theorem st_asg (W:Nat) {m i:Nat} {e:X} (ha:AsgOK c e):StOK c W (.asg m i e):=by
 intro n A env Bad M M' F P E E' r s x Q Er X hc ho hx h1 h2
 dsimp only [chkS_q_asg] at hc
 (refine e3a4 (sAsg_inv hc) ?_;rintro p v pos rfl c1 c2 c3)
 revert hx
 refine sbn fun d hd hx=>?_
 revert hx
 refine ifs fun hao hx=>?_
 simp only [Option.some.injEq,Prod.mk.injEq] at hx
 obtain ⟨rfl,rfl⟩:=hx
 dsimp only [okS_q_asg] at ho
 revert ho
 refine ifs fun hk ho=>?_
 replace hk:=c_db hk
 split at ho
 ·revert ho
  refine ifs fun h0 ho=>?_
  (replace ho:=Option.some.inj ho;subst ho)
  refine ha n A env Bad M F P E s v d i p pos Q Er X c3 c2 hk.2 h0 c1 hd fun v s2 k So hg hos r u_ u2_=>?_
  have G:Got (OwnB Bad F) [i] s2.heap P (upd P i v) E (E.set i (.dat d)):=fun j=>⟨fun m=>by
   rw [List.mem_singleton.mp m]
   exact ⟨v,d,if_pos rfl,if_pos rfl,r⟩,fun m=>by
   have hj:¬ j=i:=fun e=>m (e ▸ List.mem_singleton.mpr rfl)
   exact ⟨if_neg hj,if_neg hj⟩⟩
  have X2:=X.set (M':=M.set i 0) (fun j=>⟨fun m=>by rw [md_set hk.1,if_pos (List.mem_singleton.mp m)],fun m=>by rw [md_set hk.1,if_neg fun e=>m (List.mem_singleton.mpr e)]⟩) (fun a h=>h) k So G
  exact h1 rfl _ _ s2 X2 (.kb So k hg hos fun j a h=>.inl ⟨j,(fdel_sub h).1⟩)
 ·revert ho
  refine ifs fun hnew ho=>?_
  (replace ho:=Option.some.inj ho;subst ho)
  refine ha n A env Bad M F P E s v d i p pos Q Er X c3 c2 hk.2 (new_od hnew) c1 hd fun v s2 k So hg hos r fr frr=>?_
  have fr:=fr hnew
  have hl:∃ xs,d=.list xs:=by
   cases d <;> first | exact ⟨_,rfl⟩ | exact (nomatch hao)
  (refine e1a1 hl ?_;try clear hl;rintro xs rfl)
  (refine e2a2 r.unlist ?_;rintro a vs rfl u_)
  have X2:=X.setL (M':=M.set i 1) (fun j=>md_set hk.1) r fr k So
  refine h1 rfl _ _ s2 X2 (.kb So k hg hos fun j b h=>?_)
  unfold fset at h
  split at h
  ·rw [List.mem_singleton.mp h];exact .inr (fr a rfl)
  ·exact .inl ⟨j,h⟩
 ·revert ho
  refine ifs fun hnew ho=>?_
  (replace ho:=Option.some.inj ho;subst ho)
  have hnx:newX e=true:=by
   cases e <;> first | rfl | exact nbt hnew
  refine ha n A env Bad M F P E s v d i p pos Q Er X c3 c2 hk.2 (new_od hnx) c1 hd fun v s2 k So hg hos r fr frr=>?_
  have fr:=fr hnx
  have hl:∃ xs,d=.list xs/\xs.all rowP=true:=by
   cases d with
   | list xs=>exact ⟨xs,rfl,hao⟩
   | _=>exact nbt hao
  (refine e1a2 hl ?_;try clear hl;rintro xs rfl hxp)
  (refine e2a4 (Rd0.unlist r) ?_;rintro a vs rfl hl hx na)
  (refine e1a3 (rows_of hx hxp) ?_;rintro rs hv hxr hpl)
  have hf:=frr hnew a rfl vs hl
  rw [hv] at hf
  have hn:=rows_nodup hf
  have hfr:∀ b∈a::rs,s.heap.get? b=none:=fun b m=>by
   rcases List.mem_cons.mp m with e | m
   ·subst e;exact fr _ rfl
   ·exact (hf.1 _ (List.mem_map.mpr ⟨b,m,rfl⟩) b rfl).1
  have X2:=X.setL2 (M':=M.set i 2) (fun j=>md_set hk.1) hl hv hxr hn (fun b m=>by
   rcases List.mem_cons.mp m with e | m
   ·subst e;exact ⟨vs,hl⟩
   ·exact hpl b m) hfr k So
  refine h1 rfl _ _ s2 X2 (.kb So k hg hos fun j b h=>?_)
  unfold fset at h
  by_cases e:j=i
  ·rw [if_pos e] at h;exact .inr (hfr b h)
  ·rw [if_neg e] at h;exact .inl ⟨j,h⟩
 ·exact nso ho
end
section
variable {c:Cfg}
theorem set0s_md:∀ {is:List Nat} {M:List Nat},(∀ i∈is,i < M.length)->∀ j,(j∈is->md (set0s M is) j=0)/\(j ∉ is->md (set0s M is) j=md M j)
 | [],M,_,j=>⟨fun m=>(nomatch m),fun u_=>rfl⟩
 | i::is,M,h,j=>by
  have ih:=set0s_md (is:=is) (M:=M.set i 0) (fun k hk=>by rw [List.length_set];exact h k (List.mem_cons_of_mem _ hk)) j
  have hi:=h i List.mem_cons_self
  refine ⟨fun m=>?_,fun m=>?_⟩
  ·by_cases hj:j∈is
   ·exact ih.1 hj
   ·have e:md (set0s M (i::is)) j=md (M.set i 0) j:=ih.2 hj
    rw [e,md_set hi]
    rcases List.mem_cons.mp m with rfl | m
    ·rw [if_pos rfl]
    ·exact absurd m hj
  ·have e:md (set0s M (i::is)) j=md (M.set i 0) j:=ih.2 fun q=>m (List.mem_cons_of_mem _ q)
   rw [e,md_set hi,if_neg fun (q:j=i)=>m (q ▸ List.mem_cons_self)]
theorem swapsSole_tup {t:Expr} {v:Expr} {l:Nat} {env:Env} (h:∃ es k p,t=.Tuple es k p):swapsWithSole [t] v l env=pure false:=by
 (refine e3a1 h ?_;try clear h;rintro es k p rfl)
 cases v <;> rfl
theorem pos_name {x:Str} {p:Pos}:(Expr.Name x p).pos=p:=rfl
theorem fold_name {x:Str} {p:Pos}:foldedForSure 8 (.Name x p)=false:=rfl
theorem const_name {x:Str} {p:Pos}:constantsAlone 8 (.Name x p)=(x == ("__debug__":Str)):=rfl
theorem swap_no {es:List Expr} {k:Nat} {p:Pos} {v:Expr} {env:Env} (h:notTup v=true):swappedStores [.Tuple es k p] v env=pure none:=by
 cases v <;> first | rfl | exact nbt h
theorem isName_inv {u:Expr} (h:isName u=true):∃ x p,u=.Name x p/\(x == ("__debug__":Str))=false:=dEName_elim (P:=fun u=>∃ x p,u=.Name x p/\(x == ("__debug__":Str))=false) h fun x p h=>⟨x,p,rfl,nt h⟩
theorem name_ns {u:Expr} (h:isName u=true):notStar u=true:=dEName_elim (P:=fun u=>notStar u=true) h fun u_ v_ w_=>rfl
theorem swap_yes {x y xu xv:Str} {p1 p2 p3 p4 pu pv:Pos} {k0 k2:Nat} {env:Env} (hb:env.blockKind=.function) (l1:env.kindOf x=some .local) (l2:env.kindOf y=some .local) (c4:(p2.line == p1.line)=true) (hne:x≠y) (c5:(xu == ("__debug__":Str))=false) (c6:(xv == ("__debug__":Str))=false) :
  swappedStores [.Tuple [.Name x p1,.Name y p2] k0 p3] (.Tuple [.Name xu pu,.Name xv pv] k2 p4) env=pure (some [x,y]):=by
 unfold swappedStores
 simp [hb,l1,l2,pos_name,c4,hne.symm,fold_name,const_name,c5,c6,List.filterMap,List.eraseDups_cons]
theorem st_asgT (W:Nat) {is:List Nat} {e:X} (he:EvOK c e):StOK c W (.asgT is e):=by
 intro n A env Bad M M' F P E E' r s x Q Er X hc ho hx h1 h2
 dsimp only [chkS_q_asgT] at hc
 refine dSAssign_elim hc fun z1 v pos hc=>?_
 refine dcons_elim hc fun t z2 hc=>?_
 refine dnil_elim hc fun hc=>?_
 ·(refine k_bbb hc ?_;try clear hc;rintro c1 c2 c3)
  simp only [ex_q_asgT,Option.bind_eq_some_iff,Option.some.injEq,Prod.mk.injEq] at hx
  (refine e1a2 hx ?_;try clear hx;rintro d hd hz_;obtain ⟨E1,hE,rfl,rfl⟩:=hz_)
  dsimp only [okS_q_asgT] at ho
  revert ho
  refine ifs fun hk ho=>?_
  replace hk:=c_abd hk
  (replace ho:=Option.some.inj ho;subst ho)
  have ht:=chkT_is c2
  have hw:swappedStores [t] v env=pure none:=by
   (refine e3a1 ht ?_;try clear ht;rintro es k p rfl)
   exact swap_no c1
  refine wpAny_Assign_stores (he n A env _ _ E s _ d _ Er X.cx c3 hk.1.2 hd fun v' s' st r fr=>?_) (swapsSole_tup ht) hw
  rw [hk.2] at r
  have hm:(assignEach [t] env).map (·.2)=[assign t env]:=by (refine e3a1 ht ?_;try clear ht;rintro es k p rfl);rfl
  rw [hm]
  show wpAny _ A (assign t env v') _ Er s'
  refine asg_tgt X.room.hand X.eok c2 r hE (X.stp st).sto fun h' tk P' k So G=>?_
  have X2:=(X.stp st).set (s':={ s' with heap:=h',toks:=tk }) (M':=set0s M is) (set0s_md fun i m=>of_decide_eq_true (hk.1.1 i m)) (fun a h=>h) k So G
  exact h1 rfl _ _ _ X2 ((SStep.of st).trans (.kb So k (.refl _) rfl fun j a h=>.inl ⟨j,(fdel_sub h).1⟩))
theorem st_asg2 (W:Nat) {i j:Nat} {e:X} (he:EvOK c e):StOK c W (.asg2 i j e):=by
 intro n A env Bad M M' F P E E' r s x Q Er X hc ho hx h1 h2
 dsimp only [chkS_q_asg2] at hc
 refine dSAssign_elim hc fun z1 v pos hc=>?_
 refine dcons_elim hc fun z2 z3 hc=>?_
 refine dEName_elim hc fun y p1 hc=>?_
 refine dcons_elim hc fun z4 z5 hc=>?_
 refine dEName_elim hc fun z p2 hc=>?_
 refine dnil_elim hc fun hc=>?_
 ·(refine k_dddbbb hc ?_;try clear hc;rintro rfl rfl hij c1 c2 c3)
  simp only [ex_q_asg2,Option.bind_eq_some_iff,Option.some.injEq,Prod.mk.injEq] at hx
  (refine e1a3 hx ?_;try clear hx;rintro d hd rfl rfl)
  dsimp only [okS_q_asg2] at ho
  revert ho
  refine ifs fun hk ho=>?_
  replace hk:=c_ddbd hk
  (replace ho:=Option.some.inj ho;subst ho)
  refine wpAny_Assign_two (he n A env _ _ E s _ d _ Er X.cx c3 hk.1.2 hd fun v' s' st r fr=>?_)
  rw [hk.2] at r
  refine asg_name X.eok (X.stp st).sto c1 fun h1' tk1 k1 So1=>?_
  refine asg_name (s:={ s' with heap:=h1',toks:=tk1 }) X.eok So1 c2 fun h2' tk2 k2 So2=>?_
  have kp1:KpF (OwnB Bad F) s'.heap h1':=(X.stp st).sto.kpf k1
  have r2:Rd0 (OwnB Bad F) h2' v' d:=(r.kpf kp1).kpf (So1.kpf k2)
  have G:Got (OwnB Bad F) [i,j] h2' P (upd (upd P i v') j v') E ((E.set i (.dat d)).set j (.dat d)):=fun l=>⟨fun m=>by
    by_cases e:l=j
    ·exact ⟨v',d,if_pos e,if_pos e,r2⟩
    ·have e2:l=i:=(List.mem_cons.mp m).resolve_right fun m=>e (List.mem_singleton.mp m)
     exact ⟨v',d,(if_neg e).trans (if_pos e2),(if_neg e).trans (if_pos e2),r2⟩,fun m=>by
    have q1:¬ l=i:=fun e=>m (e ▸ List.mem_cons_self)
    have q2:¬ l=j:=fun e=>m (e ▸ List.mem_cons_of_mem _ List.mem_cons_self)
    exact ⟨(if_neg q2).trans (if_neg q1),(if_neg q2).trans (if_neg q1)⟩⟩
  have X2:=(X.stp st).set (s':={ s' with heap:=h2',toks:=tk2 }) (M':=set0s M [i,j]) (set0s_md (mem2 (P:=fun a=>a < M.length) hk.1.1.1 hk.1.1.2)) (fun a h=>h) (k1.trans k2) So2 G
  exact h1 rfl _ _ _ X2 ((SStep.of st).trans (.kb So2 (k1.trans k2) (.refl _) rfl fun j a h=>.inl ⟨j,(fdel_sub h).1⟩))
set_option tactic.hygienic true in
theorem loc_kind {env:Env} {x:Str} (h:isLoc env.scope x=true):env.kindOf x=some .local:=by
 unfold isLoc at h
 split at h
 ·rename_i e;exact e
 ·exact nbt h
theorem unpack2 {prog:Program} {w:World} {A:Around} {Er:Value->Shared->Prop} {s:Shared} {v1 v2:Value} {Q:List Value->Shared->Prop} (hh:A.handled=none) 
  (h:∀ h',KeepH s.heap h'->Q [v1,v2] { s with heap:=h' }):wpAny (model prog w) A (unpackItems (.ref s.heap.objs.size) 2 none) Q Er { s with heap:=s.heap.push { cls:=.type "tuple",data:=.seq [v1,v2].toArray } }:=by
 have hT:(s.heap.push { cls:=.type "tuple",data:=.seq [v1,v2].toArray }).IsTuple s.heap.objs.size #[v1,v2]:=⟨_,Heap.get?_push_size _ rfl,rfl,0,rfl⟩
 exact wpAny_unpackItems_tuple (items:=#[v1,v2]) (s:={ s with heap:=s.heap.push { cls:=.type "tuple",data:=.seq [v1,v2].toArray } }) hh hT fun h' hx'=>h h' fun b o e=>(KeepH.fresh hx') b o (Heap.get?_push_of_some _ e)
inductive SwapV (sc:Scope) (i j:Nat) (a b:Ck):Stmt->Prop
 | mk (y:Str) (p1:Pos) (z:Str) (p2:Pos) (k0:Nat) (p3:Pos) (u v:Expr) (k2:Nat) (p4 pos:Pos):(decide (y=nm i) && decide (z=nm j) && decide (i≠j) && isLoc sc y && isLoc sc z && (p1.line == p1.line) && (p2.line == p1.line) && isName u && isName v && a u && b v)=true->SwapV sc i j a b (.Assign [.Tuple [.Name y p1,.Name z p2] k0 p3] (.Tuple [u,v] k2 p4) pos)
theorem inv_swap {sc:Scope} {i j:Nat} {a b:Ck} {x:Stmt} (hc:sSwap sc i j a b x=true):SwapV sc i j a b x:=by
 refine dSAssign_elim hc fun z1 z2 pos hc=>?_
 refine dcons_elim hc fun z3 z4 hc=>?_
 refine dETuple_elim hc fun z5 k0 p3 hc=>?_
 refine dcons_elim hc fun z6 z7 hc=>?_
 refine dEName_elim hc fun y p1 hc=>?_
 refine dcons_elim hc fun z8 z9 hc=>?_
 refine dEName_elim hc fun z p2 hc=>?_
 refine dnil_elim hc fun hc=>?_
 refine dnil_elim hc fun hc=>?_
 refine dETuple_elim hc fun z10 k2 p4 hc=>?_
 refine dcons_elim hc fun u z11 hc=>?_
 refine dcons_elim hc fun v z12 hc=>?_
 refine dnil_elim hc fun hc=>?_
 exact .mk _ _ _ _ _ _ _ _ _ _ _ hc
theorem st_swap (W:Nat) {i j:Nat} {a b:X} (ha:EvOK c a) (hb:EvOK c b):StOK c W (.swap i j a b):=by
 intro n A env Bad M M' F P E E' r s x Q Er X hc ho hx h1 h2
 dsimp only [chkS_q_swap] at hc
 have hv:=inv_swap hc
 clear hc
 (refine by_goal fun G_ hG_=>?_;rcases hv with ⟨y,p1,z,p2,k0,p3,u,v,k2,p4,pos,hc⟩;all_goals (refine hG_ ?_;clear hG_ G_))
 ·(refine k_dddbbbbbbbb hc ?_;try clear hc;rintro rfl rfl hij c1 c2 c3 c4 c5 c6 c7 c8)
  simp only [ex_q_swap,Option.bind_eq_some_iff,Option.some.injEq,Prod.mk.injEq] at hx
  (refine e1a2 hx ?_;try clear hx;rintro d1 hd1 hz_;obtain ⟨d2,hd2,rfl,rfl⟩:=hz_)
  dsimp only [okS_q_swap] at ho
  revert ho
  refine ifs fun hk ho=>?_
  (refine k_ddbbdd hk ?_;try clear hk;rintro w1 w2 w3 w4 w5 w6)
  (replace ho:=Option.some.inj ho;subst ho)
  have l1:=loc_kind c1
  have l2:=loc_kind c2
  have o1:ownName env.scope (nm i)=true:=by unfold ownName;rw [show env.scope.names.lookup (nm i)=_ from l1]
  have o2:ownName env.scope (nm j)=true:=by unfold ownName;rw [show env.scope.names.lookup (nm j)=_ from l2]
  have hne:nm i≠nm j:=fun e=>hij (nm_inj e)
  have hw:swappedStores [.Tuple [.Name (nm i) p1,.Name (nm j) p2] k0 p3] (.Tuple [u,v] k2 p4) env=pure (some [nm i,nm j]):=by
   (refine e2a2 (isName_inv c5) ?_;rintro xu pu rfl c5)
   (refine e2a2 (isName_inv c6) ?_;rintro xv pv rfl c6)
   exact swap_yes (by unfold Env.blockKind;rw [X.eok.kind];rfl) l1 l2 c4 hne c5 c6
  have n1:=name_ns c5
  have n2:=name_ns c6
  refine Assign_Tuple_swapped (wpAny_Tuple_spliced ?_) (swapsSole_tup ⟨_,_,_,rfl⟩) hw
  rw [trees2 n1 n2]
  refine Calls.spliced_cons (ha n A env _ _ E s _ d1 _ Er X.cx c7 w3 hd1 fun v1 s1 st1 r1 u_=>Calls.spliced_cons (hb n A env _ _ E s1 _ d2 _ Er (X.stp st1).cx c8 w4 hd2 fun v2 s2 st2 r2 u_=>Calls.spliced_nil ⟨by show 2<=_;rw [sizeLine_eq];decide,?_⟩))
  rw [w5] at r1
  rw [w6] at r2
  show wpAny _ A (unpackItems (.ref s2.heap.objs.size) 2 none) _ Er { s2 with heap:=s2.heap.push { cls:=.type "tuple",data:=.seq [v1,v2].toArray } }
  with_reducible refine unpack2 X.room.hand fun h' hk'=>?_
  have st3:Stp s2 { s2 with heap:=h' }:=.heap hk'
  have X3:=X.stp ((st1.trans st2).trans st3)
  have r1':=(r1.keep st2.keep).keep hk'
  have r2':=r2.keep hk'
  show wpAny _ A (do holding [v1] (bindName env (nm j) v2);do holding [] (bindName env (nm i) v1);pure ()) _ _ _
  refine wpAny_bind (wpAny_holding (wpAny_bindName (store_ok X.eok X3.sto o2 fun h1' tk1 k1 So1=>?_)))
  refine wpAny_bind (wpAny_holding (wpAny_bindName (store_ok (s:={ s2 with heap:=h1',toks:=tk1 }) X.eok So1 o1 fun h2' tk2 k2 So2=>?_)))
  have kp1:KpF (OwnB Bad F) h' h1':=X3.sto.kpf k1
  have q1:Rd0 (OwnB Bad F) h2' v1 d1:=(r1'.kpf kp1).kpf (So1.kpf k2)
  have q2:Rd0 (OwnB Bad F) h2' v2 d2:=(r2'.kpf kp1).kpf (So1.kpf k2)
  have G:Got (OwnB Bad F) [j,i] h2' P (upd (upd P j v2) i v1) E ((E.set j (.dat d2)).set i (.dat d1)):=fun l=>⟨fun m=>by
    by_cases e:l=i
    ·exact ⟨v1,d1,if_pos e,if_pos e,q1⟩
    ·have e2:l=j:=(List.mem_cons.mp m).resolve_right fun m=>e (List.mem_singleton.mp m)
     exact ⟨v2,d2,(if_neg e).trans (if_pos e2),(if_neg e).trans (if_pos e2),q2⟩,fun m=>by
    have e1:¬ l=j:=fun e=>m (e ▸ List.mem_cons_self)
    have e2:¬ l=i:=fun e=>m (e ▸ List.mem_cons_of_mem _ List.mem_cons_self)
    exact ⟨(if_neg e2).trans (if_neg e1),(if_neg e2).trans (if_neg e1)⟩⟩
  have X4:=X3.set (s':={ s2 with heap:=h2',toks:=tk2 }) (M':=set0s M [j,i]) (set0s_md (mem2 (P:=fun a=>a < M.length) w2 w1)) (fun a h=>h) (k1.trans k2) So2 G
  exact wpAny_pure (h1 rfl _ _ _ X4 ((SStep.of ((st1.trans st2).trans st3)).trans (.kb So2 (k1.trans k2) (.refl _) rfl fun j a h=>.inl ⟨j,(fdel_sub h).1⟩)))
end
section
variable {prog:Program} {w:World} {A:Around} {Er:Value->Shared->Prop} {s:Shared}
theorem mapSeq_plain (f:Array Value->Array Value) (its:Array Value) (n:Nat):∃ m,Obj.mapSeq f { cls:=.type "list",data:=.seq its n }={ cls:=.type "list",data:=.seq (f its) m }:=by
 exact ⟨_,rfl⟩
theorem setItem_plain {l:Addr} {items:Array Value} {k:Int} {t:Tok} {v:Value} {Q:Unit->Shared->Prop} (hl:s.heap.PlainList l items)
  (h0:0<=k) (hfit:k < 2 ^ 63) (hn:k < items.size)
  (hQ:∀ h',h'.PlainList l (items.setIfInBounds k.toNat v)->Heap.SameBut l s.heap h'->Q () { s with heap:=h' }) :
  wpAny (model prog w) A (setItem (.ref l) (.int k t) v) Q Er s:=by
 (refine e1a1 hl ?_;try clear hl;rintro n0 ho)
 have hl':s.heap.IsList l items:=⟨_,ho,rfl,n0,rfl⟩
 unfold setItem
 try with_reducible refine wpAny_holding ?_
 first | refine wpAny_bind (wpAny_pure ?_) | skip
 refine wpAny_bind (wpAny_sequenceKey hl'.typeIs (by decide) ?_)
 refine wpAny_bind (wpAny_callSpecial?_slot (name:=Str.ofString "__setitem__") hl'.typeIs slot_list_setitem
  (wpAny_call_entry slot_list_setitem hl'.typeIs entry_list_setitem ?_ (args_list_setitem _ _ _)))
 show wpAny _ _ (Builtin.List.listSubscript? (.int k t) >>= _) _ _ s
 refine wpAny_bind (wpAny_listSubscript_int (fitsIndex_of h0 hfit) ?_)
 clear hfit
 (refine e1a1 (Int.eq_ofNat_of_zero_le h0) ?_;rintro j rfl)
 have hj:j < items.size:=by lia
 have hx':items[j]?=some items[j]:=Array.getElem?_eq_getElem hj
 show wpAny _ _ ((seqItemAt l j >>= fun r=>pure (r.map (j,·))) >>= _) _ _ s
 refine wpAny_bind (wpAny_bind (wpAny_seqItemAt ho rfl (wpAny_pure ?_)))
 rw [hx']
 show wpAny _ _ (setSeqItemAt l j v >>= _) _ _ s
 have hfin:(s.heap.update l (Obj.mapSeq (·.setIfInBounds j v))).PlainList l (items.setIfInBounds j v):=by
  (refine e1a1 (mapSeq_plain (·.setIfInBounds j v) items n0) ?_;rintro m hm)
  exact ⟨m,by rw [<-hm];exact Heap.get?_update_self _ ho (by rw [hm];rfl)⟩
 refine wpAny_bind (wpAny_setSeqItemAt ho rfl ?_)
 first
  | exact wpAny_bind (wpAny_pure (wpAny_pure ⟨.none,rfl,wpAny_pure (hQ _ hfin (Heap.SameBut.update ..))⟩))
  | exact wpAny_pure ⟨.none,rfl,wpAny_pure (hQ _ hfin (Heap.SameBut.update ..))⟩
end
section
variable {c:Cfg}
set_option tactic.hygienic true in
theorem dat_of {E:AE} {i:Nat} {d:PyData} (h:datOf E i=some d):E i=some (.dat d):=by
 unfold datOf at h
 split at h
 ·rename_i e;(replace h:=(Option.some.inj h).symm;subst h);exact e
 ·exact nso h
set_option tactic.hygienic true in
theorem st_aug (W:Nat) {i:Nat} {op:Bop} {e:X} (he:EvOK c e):StOK c W (.aug i op e):=by
 intro n A env Bad M M' F P E E' r s x Q Er X hc ho hx h1 h2
 dsimp only [chkS_q_aug] at hc
 refine dSAugAssign_elim hc fun z1 o v pos hc=>?_
 refine dEName_elim hc fun y p hc=>?_
 ·(refine k_dbbbdb hc ?_;try clear hc;rintro rfl c1 c2 c3 rfl c4)
  revert hx
  refine sbn fun a ha=>sbn fun b hb hx=>?_
  revert hx
  refine ifs fun hint hx=>?_
  simp only [Option.bind_eq_some_iff,Option.some.injEq,Prod.mk.injEq] at hx
  (refine e1a3 hx ?_;try clear hx;rintro z hz rfl rfl)
  dsimp only [okS_q_aug] at ho
  revert ho
  refine ifs fun hk ho=>?_
  (refine k_dbd hk ?_;try clear hk;rintro hi k2 k3)
  (replace ho:=Option.some.inj ho;subst ho)
  (refine e1a2 (X.vars i _ (dat_of ha)) ?_;rintro va q1 q2)
  (refine e1a2 X.sto.ns ?_;rintro m hm hl)
  have hq0:∃ v0,a=.int v0:=by revert hint;generalize a=y0;intro hint;cases y0 <;> first | exact ⟨_,rfl⟩ | exact nso hint | exact nbt hint | cases hint
  (refine e1a1 hq0 ?_;try clear hq0;rintro ia rfl)
  have ra:Rd0 (OwnB Bad F) s.heap va (.int ia):=by
   rw [k3] at q2
   generalize F i=fs at q2
   cases q2 with
   | flat r=>exact r
  (refine e1a1 ra.int ?_;rintro ta rfl)
  refine wpAny_AugAssign_Name (ld_Lk X.eok hm (hl i _ q1) c2 (he n A env _ _ E s v b _ Er X.cx c4 k2 hb fun v' s' st r fr=>?_))
  have key:∀ (iz:Int) (tz:Tok) (tk:Nat),z=.int iz->wpAny (model c.prog c.w) A (storeName env (nm i) (.int iz tz)) (fun _=>Q .next) Er { s' with toks:=tk }:=by
   rintro iz tz tk rfl
   refine store_ok X.eok (X.stp st).sto c1 fun h' tk' k So=>?_
   have G:Got (OwnB Bad F) [i] h' P (upd P i (.int iz tz)) E (E.set i (.dat (.int iz))):=fun j=>⟨fun m=>by
    rw [List.mem_singleton.mp m]
    exact ⟨_,_,if_pos rfl,if_pos rfl,.mkInt⟩,fun m=>by
    have hj:¬ j=i:=fun e=>m (e ▸ List.mem_singleton.mpr rfl)
    exact ⟨if_neg hj,if_neg hj⟩⟩
   have X2:=(X.stp st).set (s':={ s' with heap:=h',toks:=tk' }) (M':=M) (fun j=>⟨fun m=>by rw [List.mem_singleton.mp m];exact k3,fun _=>rfl⟩) (fun a h=>h) k So G
   exact h1 rfl _ _ _ X2 ((SStep.of st).trans (.kb So k (.refl _) rfl fun j a h=>.inl ⟨j,(fdel_sub h).1⟩))
  cases op with
  | add =>
   obtain ⟨ib,rfl,rfl⟩:∃ ib,b=.int ib/\z=.int (ia+ib):=oI_inv (fun ib e h=>⟨ib,e,(Option.some.inj h).symm⟩) nso (show oI b (fun b=>some (.int (ia+b))) none=some z from hz)
   (refine e1a1 r.any.int ?_;rintro tb rfl)
   show wpAny _ A (inplaceOp .Add _ _) _ Er s'
   with_reducible refine PySem.P.iadd_int ?_
   exact key _ _ _ rfl
  | sub =>
   obtain ⟨ib,rfl,rfl⟩:∃ ib,b=.int ib/\z=.int (ia - ib):=oI_inv (fun ib e h=>⟨ib,e,(Option.some.inj h).symm⟩) nso (show oI b (fun b=>some (.int (ia - b))) none=some z from hz)
   (refine e1a1 r.any.int ?_;rintro tb rfl)
   show wpAny _ A (inplaceOp .Sub _ _) _ Er s'
   with_reducible refine PySem.P.isub_int ?_
   exact key _ _ _ rfl
  | _=>exact nbt c3
theorem one_of {c:Cfg} {L:Addr} {Own:Addr->Prop} {s:Shared} {fs:List Addr} {v:Value} {xs:List PyData} (r:RepF c L Own s 1 fs v (.dat (.list xs))):∃ a vs,v=.ref a/\fs=[a]/\s.heap.PlainList a vs/\All2 (Rd0 Own s.heap) vs.toList xs:=by
 cases r with
 | one hl hx=>exact ⟨_,_,rfl,rfl,hl,hx⟩
theorem kp_mut {F:Nat->List Addr} {Bad:Addr->Prop} {s:Shared} {i:Nat} {r:Addr} {ws:Array Value} {h':Heap} (mem:r∈F i) (hl:s.heap.PlainList r ws) (hs:Heap.SameBut r s.heap h'):KpF (OwnB Bad F) s.heap h':=fun b o us nn hb' hd hc'=>(hs.2 b fun q=>by
 subst q
 (refine e1a1 hl ?_;rintro n1 e1)
 rcases hc' with hc' | hc'
 ·rw [e1] at hb';(replace hb':=(Option.some.inj hb').symm;subst hb');exact absurd hc' (by simp)
 ·exact hc' (.inr ⟨i,mem⟩)).trans hb'
theorem one_set {c:Cfg} {n:Nat} {A:Around} {env:Env} {Bad:Addr->Prop} {M:List Nat} {F:Nat->List Addr} {P:Nat->Option Value} {E:AE} {s:Shared} {i:Nat} {a:Addr} {xs':List PyData} {vs vs':Array Value} {h':Heap} (X:SX c n A env Bad M F P E s) (g1:md M i=1) (q1:P i=some (.ref a)) (hF:F i=[a]) (hl:s.heap.PlainList a vs)
  (hs:Heap.SameBut a s.heap h') (hl':h'.PlainList a vs') (hx':KpF (OwnB Bad F) s.heap h'->All2 (Rd0 (OwnB Bad F) h') vs'.toList xs') :
  SX c n A env Bad M F P (E.set i (.dat (.list xs'))) { s with heap:=h' }/\SStep env F s F { s with heap:=h' }:=by
 have mem:a∈F i:=hF ▸ List.mem_cons_self
 exact ⟨X.mut (s':={ s with heap:=h' }) mem hs ⟨_,hl'⟩ ⟨.ref a,q1,by rw [g1,hF];exact .one hl' (hx' (kp_mut mem hl hs))⟩,.mut mem hs ⟨_,hl'⟩ (.refl _) rfl⟩
theorem ev_name {n:Nat} {A:Around} {env:Env} {Bad:Addr->Prop} {M:List Nat} {F:Nat->List Addr} {P:Nat->Option Value} {E:AE} {s:Shared} {i:Nat} {v:Value} {p:Pos} {Q:Value->Shared->Prop} {Er:Value->Shared->Prop}
  (X:SX c n A env Bad M F P E s) (hp:P i=some v) (h2:plainName (nm i)=true) (h:Q v s):wpAny (model c.prog c.w) A (eval (.Name (nm i) p) env) Q Er s:=by
 (refine e1a2 X.sto.ns ?_;rintro m hm hl)
 exact ev_Lk X.eok hm (hl i v hp) h2 h
theorem swaps_sub {v o k:Expr} {p:Pos} {l:Nat} {env:Env}:swapsWith v (some (.Subscript o k p)) l env=pure false:=by cases v <;> rfl
theorem st_setI (W:Nat) {i:Nat} {k e:X} (hk:EvOK c k) (he:EvOK c e):StOK c W (.setI i k e):=by
 intro n A env Bad M M' F P E E' r s x Q Er X hc ho hx h1 h2
 dsimp only [chkS_q_setI] at hc
 refine dSAssign_elim hc fun z1 v pos hc=>?_
 refine dcons_elim hc fun z2 z3 hc=>?_
 refine dESubscript_elim hc fun o kx p hc=>?_
 refine dnil_elim hc fun hc=>?_
 ·(refine k_bbbb hc ?_;try clear hc;rintro c1 c2 c3 c4)
  (refine e1a3 (inv_var c1) ?_;rintro p1 rfl u_ c5)
  simp only [ex_q_setI,Option.bind_eq_some_iff,Option.some.injEq,Prod.mk.injEq] at hx
  (refine e1a2 hx ?_;try clear hx;rintro z hz hz_;obtain ⟨xs0,hxs,kd,hkd,xs',hput,rfl,rfl⟩:=hz_)
  dsimp only [okS_q_setI] at ho
  revert ho
  refine ifs fun hh ho=>?_
  (refine k_dbbd hh ?_;try clear hh;rintro g1 g2 g3 g4)
  (replace ho:=Option.some.inj ho;subst ho)
  (refine e1a2 (X.vars i _ (dat_of hxs)) ?_;rintro v0 q1 q2)
  have hq0:∃ v0,xs0=.list v0:=by revert hput;generalize xs0=y0;intro hput;cases y0 <;> first | exact ⟨_,rfl⟩ | exact nso hput | exact nbt hput | cases hput
  (refine e1a1 hq0 ?_;try clear hq0;rintro xs rfl)
  revert hput
  refine sbn fun ik hik hput=>?_
  revert hput
  refine ifs fun hb hput=>?_
  (replace hput:=(Option.some.inj hput).symm;subst hput)
  have hq0:=intOf_some hik
  subst hq0
  refine wpAny_Assign_Subscript (he n A env _ _ E s v z _ Er X.cx c4 g3 hz fun v1 s1 st1 r1 u_=>?_) swaps_sub
  rw [g4] at r1
  have X1:=X.stp st1
  refine ev_name X1 q1 c5 (hk n A env _ _ E s1 kx _ _ Er X1.cx c3 g2 hkd fun v2 s2 st2 r2 u_=>?_)
  (refine e1a1 r2.any.int ?_;rintro t2 rfl)
  have X2:=X1.stp st2
  (refine e1a2 (X2.vars i _ (dat_of hxs)) ?_;rintro v0' q1' q2')
  rw [q1] at q1'
  (replace q1':=(Option.some.inj q1').symm;subst q1')
  rw [g1] at q2'
  (refine e2a4 (one_of q2') ?_;rintro a vs rfl hF hl hx)
  have elen:=hx.length
  rw [Array.length_toList] at elen
  have r1':=r1.keep st2.keep
  have hfit:ik < 2 ^ 63:=Int.lt_trans hb.2.1 (lt63 hb.2.2)
  refine setItem_plain hl hb.1 hfit (by rw [elen];exact hb.2.1) fun h' hl' hs'=>?_
  have X3:=one_set X2 g1 q1 hF hl hs' hl' fun kp=>by
   rw [Array.toList_setIfInBounds]
   exact (hx.mono fun u_ u_ q=>q.kpf kp).set ik.toNat (r1'.kpf kp)
  exact h1 rfl _ _ _ X3.1 ((SStep.of (st1.trans st2)).trans X3.2)
theorem augStore_plain {kx:Expr} (h:notSlice kx=true) (ov iv new:Value):augStore kx ov iv new=(do holding [new,ov,iv] (setItem ov iv new);release [new,ov,iv] [];pure .next):=by
 cases kx <;> first | rfl | exact nbt h
theorem getAt_some {k d z:PyData} (h:getAt k d=some z):∃ xs i,d=.list xs/\k=.int i/\xs.length<=lim/\0<=i/\i < xs.length/\xs[i.toNat]?=some z:=by
 cases d with
 | list xs =>
  revert h
  refine ifs fun hl=>?_
  refine sbn fun i hi=>?_
  refine ifs fun hb hz=>?_
  exact ⟨xs,i,rfl,intOf_some hi,hl,hb.1,hb.2,hz⟩
 | _=>exact nso h
theorem putAt_list {i:Int} {xs:List PyData} {v z:PyData} (h:putAt (.int i) v (.list xs)=some z):z=.list (xs.set i.toNat v):=by
 have h:(if 0<=i/\i < xs.length/\xs.length<=lim then some (PyData.list (xs.set i.toNat v)) else none)=some z:=h
 revert h
 refine ifs fun _ h=>?_
 exact (Option.some.inj h).symm
theorem aug_int {prog:Program} {w:World} {A:Around} {Er:Value->Shared->Prop} {s:Shared} {op:Bop} {a:Int} {b z:PyData} {v:Value} {t:Tok} {Own:Addr->Prop} {k:Nat} {Q:Value->Shared->Prop} (ho:isAug op=true) (hz:evBin op (.int a) b=some z) (r:RdG Own k s.heap v b)
  (h:∀ iz:Int,z=.int iz->Q (.int iz s.toks) { s with toks:=s.toks+1 }):wpAny (model prog w) A (inplaceOp (bopO op) (.int a t) v) Q Er s:=by
 cases op with
 | add =>
  obtain ⟨ib,rfl,rfl⟩:∃ ib,b=.int ib/\z=.int (a+ib):=oI_inv (fun ib e h=>⟨ib,e,(Option.some.inj h).symm⟩) nso (show oI b (fun b=>some (.int (a+b))) none=some z from hz)
  (refine e1a1 r.any.int ?_;rintro tb rfl)
  show wpAny _ A (inplaceOp .Add _ _) _ Er s
  with_reducible refine PySem.P.iadd_int ?_
  exact h _ rfl
 | sub =>
  obtain ⟨ib,rfl,rfl⟩:∃ ib,b=.int ib/\z=.int (a - ib):=oI_inv (fun ib e h=>⟨ib,e,(Option.some.inj h).symm⟩) nso (show oI b (fun b=>some (.int (a - b))) none=some z from hz)
  (refine e1a1 r.any.int ?_;rintro tb rfl)
  show wpAny _ A (inplaceOp .Sub _ _) _ Er s
  with_reducible refine PySem.P.isub_int ?_
  exact h _ rfl
 | _=>exact nbt ho
theorem st_augI (W:Nat) {i:Nat} {op:Bop} {k e:X} (hk:EvOK c k) (he:EvOK c e):StOK c W (.augI i k op e):=by
 intro n A env Bad M M' F P E E' r s x Q Er X hc ho hx h1 h2
 dsimp only [chkS_q_augI] at hc
 refine dSAugAssign_elim hc fun z1 o v pos hc=>?_
 refine dESubscript_elim hc fun ob kx p hc=>?_
 (refine k_bbbdbb hc ?_;try clear hc;rintro c1 c2 c3 rfl c4 c5)
 (refine e1a3 (inv_var c1) ?_;rintro p1 rfl u_ c6)
 dsimp only [ex_q_augI] at hx
 revert hx
 refine sbn fun xs0 hxs=>?_
 refine sbn fun kd hkd=>?_
 refine sbn fun old hold=>?_
 refine sbn fun y hy=>?_
 refine ifs fun hint=>?_
 refine sbn fun z hz=>?_
 refine sbn fun xs' hput hx=>?_
 have hx:=Prod.mk.inj (Option.some.inj hx)
 dsimp only [okS_q_augI] at ho
 revert ho
 refine ifs fun hh ho=>?_
 (refine k_dbb hh ?_;try clear hh;rintro g1 g2 g3)
 (replace ho:=Option.some.inj ho;subst ho)
 (refine e2a6 (getAt_some hold) ?_;rintro xs ik rfl rfl hle hb0 hb1 hat)
 have hold':∃ io,old=.int io:=by
  cases old with
  | int io=>exact ⟨io,rfl⟩
  | _=>exact nbt hint
 (refine e1a1 hold' ?_;rintro io rfl)
 have hput:=putAt_list hput
 subst hput
 (refine e1a2 (X.vars i _ (dat_of hxs)) ?_;rintro v0 q1 q2)
 rw [g1] at q2
 (refine e2a4 (one_of q2) ?_;rintro a vs rfl hF hl hx0)
 refine wpAny_AugAssign_Subscript_any (ev_name X q1 c6 (hk n A env _ _ E s kx _ _ Er X.cx c4 g2 hkd fun v2 s2 st2 r2 u_=>?_)) (augStore_plain c2)
 (refine e1a1 r2.any.int ?_;rintro t2 rfl)
 have X2:=X.stp st2
 have hl2:=PlainList.keep st2.keep hl
 have hx2:=hx0.mono fun u_ u_ q=>Rd0.keep st2.keep q
 have elen:=hx0.length
 rw [Array.length_toList] at elen
 have hfit:ik < 2 ^ 63:=Int.lt_trans hb1 (lt63 hle)
 (refine e1a2 (hx2.get hat) ?_;rintro vo hvo ro)
 have hvo:vs[ik.toNat]?=some vo:=by simpa using hvo
 (refine e1a1 (Rd0.int ro) ?_;rintro to rfl)
 refine wpAny_getItem_list hl2.isList hb0 hfit hvo ?_
 refine he n A env _ _ E s2 v y _ Er X2.cx c5 g3 hy fun v3 s3 st3 r3 u_=>?_
 refine aug_int c3 hz r3 fun iz ez=>?_
 subst ez
 have X3:=(X2.stp st3).stp (Stp.toks (tk:=s3.toks+1))
 have st4:Stp s2 { s3 with toks:=s3.toks+1 }:=st3.trans .toks
 have hl4:=PlainList.keep st4.keep hl2
 have hx4:=hx2.mono fun u_ u_ q=>Rd0.keep st4.keep q
 refine setItem_plain hl4 hb0 hfit (by rw [elen];exact hb1) fun h' hl' hs'=>?_
 have X4:=one_set X3 g1 q1 hF hl4 hs' hl' fun kp=>by
  rw [Array.toList_setIfInBounds]
  exact (hx4.mono fun u_ u_ q=>q.kpf kp).set ik.toNat .mkInt
 exact h1 hx.2.symm _ _ _ (hx.1 ▸ X4.1) ((SStep.of (st2.trans st4)).trans X4.2)
end
section
variable {c:Cfg}
theorem not_inter {env:Env} (K:EnvOK env):interactive env=false:=by
 unfold interactive
 rw [K.kind]
 rfl
theorem st_app (C:CfgOK c) (W:Nat) {i:Nat} {e:X} (he:EvOK c e):StOK c W (.app i e):=by
 intro n A env Bad M M' F P E E' r s x Q Er X hc ho hx h1 h2
 dsimp only [chkS_q_app] at hc
 refine dSExpr_elim hc fun v pos hc=>?_
 ·(refine e4a6 (inv_me1 hc) ?_;rintro o z ap q rfl c1 c2 c3 c4 c5)
  (refine e1a3 (inv_var c4) ?_;rintro p1 rfl u_ c6)
  revert hx
  refine sbn fun l0 hl0=>sbn fun xs hxs=>sbn fun d hd hx=>?_
  revert hx
  refine ifs fun hsz hx=>?_
  simp only [Option.some.injEq,Prod.mk.injEq] at hx
  obtain ⟨rfl,rfl⟩:=hx
  dsimp only [okS_q_app] at ho
  revert ho
  refine ifs fun hh ho=>?_
  (refine k_dbd hh ?_;try clear hh;rintro g1 g2 g3)
  (replace ho:=Option.some.inj ho;subst ho)
  have hq0:∃ v0,l0=.list v0:=by revert hxs;generalize l0=y0;intro hxs;cases y0 <;> first | exact ⟨_,rfl⟩ | exact nso hxs | exact nbt hxs | cases hxs
  (refine e1a1 hq0 ?_;try clear hq0;rintro xs0 rfl)
  have hxs:some xs0=some xs:=hxs
  (replace hxs:=(Option.some.inj hxs).symm;subst hxs)
  (refine e1a2 (X.vars i _ (dat_of hl0)) ?_;rintro v0 q1 q2)
  rw [g1] at q2
  (refine e2a4 (one_of q2) ?_;rintro a vs rfl hF hl hx)
  refine wpAny_Expr ?_ (not_inter X.eok) rfl
  refine Call_method1 (super_not c1) (starEach1 c3) c2 (ev_name X q1 c6 ?_)
  refine ⟨"list",_,PySem.F.plainAttrs_list,PySem.F.slot_list_append,PySem.F.type_list_append,hl.isList.typeIs,(fun b eb=>?_),?_⟩
  ·cases eb
   (refine e1a1 hl ?_;try clear hl;rintro nn e0)
   exact ⟨_,e0,rfl⟩
  ·refine Calls.callWith_builtin rfl (Calls.evalArgs_plain (Calls.spliced_cons (he n A env _ _ E s z d _ Er X.cx c5 g2 hd fun v1 s1 st1 r1 u_=>Calls.spliced_nil ?_)))
   rw [g3] at r1
   have X1:=X.stp st1
   have hl1:=PlainList.keep st1.keep hl
   have hx1:=hx.mono fun u_ u_ q=>Rd0.keep st1.keep q
   have elen:=hx.length
   rw [Array.length_toList] at elen
   refine wpAny_list_append_plain hl1 (fun h' hl' hs'=>?_) (sz_lim (elen ▸ hsz))
   have X3:=one_set X1 g1 q1 hF hl1 hs' hl' fun kp=>by
    rw [Array.toList_push]
    exact (hx1.mono fun u_ u_ q=>q.kpf kp).append (.cons (r1.kpf kp) .nil)
   exact h1 rfl _ _ _ X3.1 ((SStep.of st1).trans X3.2)
theorem list_some {d:PyData} {xs:List PyData} (h:listOf' d=some xs):d=.list xs:=by
 cases d with
 | list ys=>exact congrArg PyData.list (Option.some.inj h)
 | _=>exact nso h
theorem st_ext (C:CfgOK c) (W:Nat) {i:Nat} {e:X} (he:EvOK c e):StOK c W (.ext i e):=by
 intro n A env Bad M M' F P E E' r s x Q Er X hc ho hx h1 h2
 dsimp only [chkS_q_ext] at hc
 refine dSExpr_elim hc fun v pos hc=>?_
 (refine e4a6 (inv_me1 hc) ?_;rintro o z ap q rfl c1 c2 c3 c4 c5)
 (refine e1a3 (inv_var c4) ?_;rintro p1 rfl u_ c6)
 dsimp only [ex_q_ext] at hx
 revert hx
 refine sbn fun l0 hl0=>sbn fun xs hxs=>sbn fun d hd=>sbn fun ys hys=>ifs fun hsz hx=>?_
 have hx:=Prod.mk.inj (Option.some.inj hx)
 have hxs:=list_some hxs
 have hys:=list_some hys
 subst hxs hys
 dsimp only [okS_q_ext] at ho
 revert ho
 refine ifs fun hh ho=>?_
 (refine k_dbd hh ?_;try clear hh;rintro g1 g2 g3)
 (replace ho:=Option.some.inj ho;subst ho)
 (refine e1a2 (X.vars i _ (dat_of hl0)) ?_;rintro v0 q1 q2)
 rw [g1] at q2
 (refine e2a4 (one_of q2) ?_;rintro a vs rfl hF hl hx0)
 refine wpAny_Expr ?_ (not_inter X.eok) rfl
 refine Call_method1 (super_not c1) (starEach1 c3) c2 (ev_name X q1 c6 ?_)
 refine ⟨"list",_,PySem.F.plainAttrs_list,PySem.F.slot_list_extend,PySem.F.type_list_extend,hl.isList.typeIs,(fun b eb=>?_),?_⟩
 ·cases eb
  (refine e1a1 hl ?_;try clear hl;rintro nn e0)
  exact ⟨_,e0,rfl⟩
 ·refine Calls.callWith_builtin rfl (Calls.evalArgs_plain (Calls.spliced_cons (he n A env _ _ E s z _ _ Er X.cx c5 g2 hd fun v1 s1 st1 r1 u_=>Calls.spliced_nil ?_)))
  rw [g3] at r1
  (refine e2a4 (Rd0.unlist r1) ?_;rintro b ws rfl hm hy u_)
  have X1:=X.stp st1
  have hl1:=PlainList.keep st1.keep hl
  have hx1:=hx0.mono fun u_ u_ q=>Rd0.keep st1.keep q
  have elen:=hx0.length
  rw [Array.length_toList] at elen
  have flen:=hy.length
  rw [Array.length_toList] at flen
  have hsz2:vs.size+ws.size<=sizeLine:=sz_lim (by rw [elen,flen];exact hsz)
  (refine e1a1 hl1 ?_;rintro n1 e1)
  (refine e1a1 hm ?_;rintro n2 e2)
  refine call_meets PySem.F.slot_list_extend ⟨_,e1,rfl⟩ PySem.F.entry_list_extend (PySem.F.args_list_extend_2 _ _) (PySem.AutoSeq1.list_extend_list_list_0 a vs n1 b ws n2 (extend_door hsz2) (Nat.le_trans (Nat.le_add_right _ _) hsz2) (Nat.le_succ_of_le hsz2)) ⟨e1,e2,?_⟩
  have hl':(s1.heap.update a (Obj.mapSeq fun x=>x++ws)).PlainList a (vs++ws):=by
   (refine e1a1 (mapSeq_plain (fun x=>x++ws) vs n1) ?_;rintro m hm)
   exact ⟨m,by rw [<-hm];exact Heap.get?_update_self _ e1 (by rw [hm];rfl)⟩
  have hs':Heap.SameBut a s1.heap (s1.heap.update a (Obj.mapSeq fun x=>x++ws)):=Heap.SameBut.update ..
  generalize s1.heap.update a (Obj.mapSeq fun x=>x++ws)=h' at hl' hs'
  have X3:=one_set X1 g1 q1 hF hl1 hs' hl' fun kp=>by
   rw [Array.toList_append]
   exact (hx1.mono fun u_ u_ q=>q.kpf kp).append (hy.mono fun u_ u_ q=>q.kpf kp)
  exact h1 hx.2.symm _ _ _ (hx.1 ▸ X3.1) ((SStep.of st1).trans X3.2)
theorem sFor_inv {t it:Ck} {b:List Stmt->Bool} {x:Stmt} (h:sFor t it b x=true):∃ tg e y pos,x=.For tg e y [] pos/\notSet e=true/\t tg=true/\it e=true/\b y=true:=by
 refine dSFor_elim h fun tg e y z1 pos h=>?_
 refine dnil_elim h fun h=>?_
 ·exact k_bbbb h fun h_0 h_1 h_2 h_3=>⟨_,_,_,_,rfl,h_0,h_1,h_2,h_3⟩
theorem zeros_md {M:List Nat} {is:List Nat} (h:zeros M is=true):∀ j,(j∈is->md M j=0)/\(j ∉ is->md M j=md M j):=fun j =>
 ⟨fun m=>by have:=List.all_eq_true.mp h j m;simpa [md] using this,fun u_=>rfl⟩
structure LI (c:Cfg) (n:Nat) (A:Around) (env:Env) (Bad:Addr->Prop) (M:List Nat) (F:Nat->List Addr) (P1:Nat->Option Value) (F1:Nat->List Addr) (E1:AE) (s s0:Shared) (fp wr:List Addr) (OX:Addr->Prop) (s1:Shared):Prop where
 x:SX c n A env Bad M F1 P1 E1 s1
 st:SStep env F s F1 s1
 kp:KpF OX s0.heap s1.heap
 nf:∀ b∈fp,∀ i,b ∉ F1 i
 own:∀ i a,a∈F1 i->(∃ j,a∈F j)\/s0.heap.get? a=none
 al:∀ b o,b ∉ wr->s0.heap.get? b=some o->∃ o',s1.heap.get? b=some o'
 gz:s0.gens.size<=s1.gens.size
theorem LI.mv {n:Nat} {A:Around} {env:Env} {Bad:Addr->Prop} {M:List Nat} {F F1:Nat->List Addr} {P P1:Nat->Option Value} {E E1:AE} {s s0 s1 s2:Shared} {fp wr:List Addr} {gs:List Nat} {OX:Addr->Prop} {k:Nat} {Own:Addr->Prop}
  (L:LI c n A env Bad M F P1 F1 E1 s s0 fp wr OX s1) (X:SX c n A env Bad M F P E s) (hwr:∀ b∈wr,b∈fp/\s.heap.get? b=none)
  (hfp:∀ b∈fp,(∃ o,s0.heap.get? b=some o)/\(s.heap.get? b=none\/∃ o vs n,s.heap.get? b=some o/\o.data=.seq vs n/\(o.cls=.type "tuple"\/(k=0->¬ Own b)))) (hgs:∀ g∈gs,s.gens.size<=g/\g < s0.gens.size) (st0:Stp s s0) (m:Mv (fun b=>∃ o,s0.heap.get? b=some o) wr gs s1 s2) :
  LI c n A env Bad M F P1 F1 E1 s s0 fp wr OX s2:=by
 have dead:∀ b o,s.heap.get? b=some o->b ∉ wr:=fun b o e q=>by rw [(hwr b q).2] at e;exact nso e
 have kseq:∀ OY:Addr->Prop,KpF OY s1.heap s2.heap:=fun OY b o vs n hb hd u_=>m.seq b o vs n hd hb
 have nsal:∀ {a f},s.heap.Ns a f->∃ o,s.heap.get? a=some o:=fun ⟨o,_,_,ho,_⟩=>⟨o,ho⟩
 (refine e1a2 X.sto.ns ?_;rintro mm hmm u_)
 refine ⟨⟨L.x.eok,L.x.room,L.x.base.new fun b o e0 e=>m.keep b o (dead b o (X.base.k0 b o e0)) (.inl ⟨o,st0.keep b o (X.base.k0 b o e0)⟩) e,fun x a h=>?_,?_,fun i pv e=>?_,fun i a h=>?_,fun a h=>?_,L.x.nb,L.x.dj,L.x.nl,L.x.nc,L.x.nF⟩,
  ⟨fun b o h1 h2 h3 e=>m.keep b o (dead b o e) (.inl ⟨o,st0.keep b o e⟩) (L.st.keep b o h1 h2 h3 e),⟨Nat.le_trans L.st.gk.size m.size,fun i hi=>?_,fun hb=>m.bare (L.st.gk.bare hb)⟩,m.os.trans L.st.os,L.st.own,fun b o e=>?_⟩,L.kp.trans (kseq _),L.nf,L.own,fun b o hb e=>?_,Nat.le_trans L.gz m.size⟩
 ·(refine e2a2 (L.x.cells x a h) ?_;rintro o ob ho hd)
  (refine e2a2 (X.cells x a h) ?_;rintro o0 ob0 ho0 u_)
  exact ⟨o,ob,m.keep a ob (dead a ob0 ho0) (.inl ⟨ob0,st0.keep a ob0 ho0⟩) ho,hd⟩
 ·(refine e1a1 (nsal hmm) ?_;rintro ol hol)
  refine L.x.sto.at (fun o e=>m.keep _ o (dead _ ol hol) (.inl ⟨ol,st0.keep _ ol hol⟩) e) fun x a u_ h o e=>?_
  (refine e2a2 (X.cells x a h) ?_;rintro o0 ob0 ho0 u_)
  exact m.keep a o (dead a ob0 ho0) (.inl ⟨ob0,st0.keep a ob0 ho0⟩) e
 ·(refine e1a2 (L.x.vars i pv e) ?_;rintro v q1 q2)
  exact ⟨v,q1,q2.moveD (kseq _) (fun a u_ o vs n hd e=>m.seq a o vs n hd e) fun a o hd e=>m.hd a o (hd.imp id fun h=>h.2) e⟩
 ·(refine e2a1 (L.x.pl i a h) ?_;rintro vs nn e)
  exact ⟨vs,nn,m.seq a _ _ _ rfl e⟩
 ·(refine e1a1 (L.x.bad a h) ?_;rintro o ho)
  (refine e1a1 (X.bad a h) ?_;rintro o0 ho0)
  exact ⟨o,m.keep a o (dead a o0 ho0) (.inl ⟨o0,st0.keep a o0 ho0⟩) ho⟩
 ·rw [m.gold i (Nat.lt_of_lt_of_le hi L.st.gk.size) fun q=>absurd (hgs i q).1 (Nat.not_le.mpr hi)]
  exact L.st.gk.old i hi
 ·(refine e1a1 (L.st.alive b o e) ?_;rintro o' ho')
  exact ⟨o',m.keep b o' (dead b o e) (.inl ⟨o,st0.keep b o e⟩) ho'⟩
 ·(refine e1a1 (L.al b o hb e) ?_;rintro o' ho')
  exact ⟨o',m.keep b o' hb (.inl ⟨o,e⟩) ho'⟩
theorem SStep.kpf {n:Nat} {A:Around} {env:Env} {Bad:Addr->Prop} {M:List Nat} {F F':Nat->List Addr} {P:Nat->Option Value} {E:AE} {s s':Shared} {OX:Addr->Prop} (X:SX c n A env Bad M F P E s) (S:SStep env F s F' s') (h:∀ a,OwnB Bad F a->OX a):KpF OX s.heap s'.heap:=by
 intro b o vs n hb hd hc
 refine S.keep b o ?_ (fun x hx=>?_) (fun i hi=>?_) hb
 ·rintro rfl
  (refine e1a2 X.sto.ns ?_;rintro m ⟨o',u_,u_,ho',hd',u_⟩ u_)
  rw [hb] at ho';(replace ho':=(Option.some.inj ho').symm;subst ho');rw [hd] at hd';cases hd'
 ·(refine e2a2 (X.cells x b hx) ?_;rintro o' ob ho' hd')
  rw [hb] at ho';(replace ho':=(Option.some.inj ho').symm;subst ho');rw [hd] at hd';cases hd'
 ·rcases hc with hc | hc
  ·(refine e2a1 (X.pl i b hi) ?_;rintro ws nn e)
   rw [hb] at e;(replace e:=(Option.some.inj e).symm;subst e);exact absurd hc (by simp)
  ·exact hc (h b (.inr ⟨i,hi⟩))
theorem LI.step {n:Nat} {A:Around} {env:Env} {Bad:Addr->Prop} {M:List Nat} {F F1 F2:Nat->List Addr} {P1 P2:Nat->Option Value} {E1 E2:AE} {s s0 s1 s2:Shared} {fp wr:List Addr} {OX:Addr->Prop}
  (L:LI c n A env Bad M F P1 F1 E1 s s0 fp wr OX s1) (hlv:∀ b∈fp,∃ o,s1.heap.get? b=some o) (hwf:∀ b∈wr,b∈fp) (X2:SX c n A env Bad M F2 P2 E2 s2) (S:SStep env F1 s1 F2 s2) (hOX:∀ a,OwnB Bad F1 a->OX a) :
  LI c n A env Bad M F P2 F2 E2 s s0 fp wr OX s2:=by
 have nf:∀ b∈fp,∀ i,b ∉ F2 i:=fun b hb i hi=>by
  rcases S.own i b hi with ⟨j,hj⟩ | q
  ·exact L.nf b hb j hj
  ·(refine e1a1 (hlv b hb) ?_;rintro o ho)
   rw [ho] at q;exact nsn q
 refine ⟨X2,L.st.trans S,L.kp.trans (S.kpf L.x hOX),nf,fun i a h=>?_,fun b o hb e=>let ⟨o',h⟩:=L.al b o hb e;S.alive b o' h,Nat.le_trans L.gz S.gk.size⟩
 rcases S.own i a h with ⟨j,hj⟩ | q
 ·exact L.own j a hj
 ·by_cases ha:a∈wr
  ·exact absurd h (nf a (hwf a ha) i)
  ·refine .inr ?_
   cases hh:s0.heap.get? a with
   | none=>rfl
   | some o=>(refine e1a1 (L.al a o ha hh) ?_;rintro o' ho');rw [q] at ho';exact nso ho'
theorem two_data {h:Heap} {b:Addr} {o o':Obj} {d d':Data} (e:h.get? b=some o) (e':h.get? b=some o') (hd:o.data=d) (hd':o'.data=d'):d=d':=hd.symm.trans ((congrArg Obj.data (Option.some.inj (e.symm.trans e'))).trans hd')
set_option tactic.hygienic true in
theorem st_forS (C:CfgOK c) (W:Nat) {t:Tgt} {it:It} {b:Sts} (hit:ItOK c it) (hb:StsOK c W b):StOK c W (.forS t it b):=by
 intro n A env Bad M M' F P E E' r s x Q Er X hc ho hx h1 h2
 simp only [chkS_q_forS,Bool.and_eq_true] at hc
 obtain ⟨hto,hc⟩:=hc
 (refine e4a5 (sFor_inv hc) ?_;rintro tg e y pos rfl c1 c2 c3 c4)
 revert hx
 refine sbn fun ds hds hx=>?_
 dsimp only [okS_q_forS] at ho
 revert ho
 refine ifs fun hk ho=>?_
 (refine k_bdb hk ?_;try clear hk;rintro k1 k2 k3)
 revert ho
 refine sbn fun M1 o1 ho=>?_
 revert ho
 refine ifs fun eM ho=>?_
 subst eM
 (replace ho:=(Option.some.inj ho).symm;subst ho)
 refine wpAny_For (hit n A env _ _ E s e ds _ Er X.cx c3 k1 hds fun v s0 st0 Wk=>?_) (set_not c1)
 (refine e5a5 Wk ?_;try clear Wk;rintro fp wr gs St Mid Wk hst hwr hfp hgs)
 have X0:=X.stp st0
 have apart:∀ b∈fp,b≠env.locals/\(∀ x,env.cells.lookup x≠some b)/\(∀ i,b ∉ F i):=by
  intro b hb
  obtain ⟨_,hq⟩:=hfp b hb
  rcases hq with hq | ⟨o,vs,nn,ho,hd,hq⟩
  ·refine ⟨?_,fun x hx=>?_,fun i hi=>?_⟩
   ·rintro rfl
    (refine e1a2 X.sto.ns ?_;rintro m ⟨o',_,_,ho',_⟩ _)
    rw [hq] at ho';exact nso ho'
   ·(refine e2a2 (X.cells x b hx) ?_;rintro o ob ho _)
    rw [hq] at ho;exact nso ho
   ·(refine e2a1 (X.pl i b hi) ?_;rintro vs nn ho)
    rw [hq] at ho;exact nso ho
  ·refine ⟨?_,fun x hx=>?_,fun i hi=>?_⟩
   ·rintro rfl
    (refine e1a2 X.sto.ns ?_;rintro m ⟨o',_,_,ho',hd',_⟩ _)
    exact nomatch two_data ho ho' hd hd'
   ·(refine e2a2 (X.cells x b hx) ?_;rintro o' ob ho' hd')
    exact nomatch two_data ho ho' hd hd'
   ·rcases hq with hq | hq
    ·(refine e2a1 (X.pl i b hi) ?_;rintro vs' nn' ho')
     rw [ho] at ho';(replace ho':=(Option.some.inj ho').symm;subst ho');exact absurd hq (by simp)
    ·exact hq k2 (.inr ⟨i,hi⟩)
 have wdead:∀ b∈wr,s.heap.get? b=none:=fun b hb=>(hwr b hb).2
 have hOX:∀ F1:Nat->List Addr,(∀ i a,a∈F1 i->(∃ j,a∈F j)\/s0.heap.get? a=none)->∀ a,OwnB Bad F1 a->OXof (OwnB Bad F) s0 a:=by
  rintro F1 hq a (h | ⟨i,h⟩)
  ·exact .inl (.inl h)
  ·rcases hq i a h with h | h
   ·exact .inl (.inr h)
   ·exact .inr h
 refine codeAny_forLoop_any (fun k s1=>∃ ds' F1 P1 E1,k=ds'.length/\St ds' s1/\LI c n A env Bad M' F P1 F1 E1 s s0 fp wr (OXof (OwnB Bad F) s0) s1/\forLoop (fun E'=>exs c.G c.T W b E') (fun d E'=>bindT t d E') ds' E1=some (E',r)) ?_ ds.length
  ⟨ds,F,P,E,rfl,hst,⟨X0,.of st0,.refl _,fun b hb i hi=>(apart b hb).2.2 i hi,fun i a h=>.inl ⟨i,h⟩,fun b o _ e=>⟨o,e⟩,Nat.le_refl _⟩,hx⟩
 rintro k s1 hz_
 (refine e4a4 hz_ ?_;try clear hz_;rintro ds' F1 P1 E1 rfl hst1 L1 hz)
 cases ds' with
 | nil =>
  have hz:=Prod.mk.inj (Option.some.inj hz)
  refine Wk.done s1 _ _ L1.x.base hst1 fun s2 mv=>wpAny_execs_nil ?_
  have L2:=L1.mv X hwr hfp hgs st0 mv
  exact h1 hz.2.symm _ _ s2 (hz.1 ▸ L2.x) L2.st
 | cons d ds' =>
  simp only [forLoop,Option.bind_eq_some_iff] at hz
  (refine e1a2 hz ?_;try clear hz;rintro E2 hE2 hz_;obtain ⟨⟨E3,r3⟩,hb3,hz⟩:=hz_)
  refine Wk.next d ds' s1 _ _ L1.x.base hst1 L1.kp fun v1 s2 mv hmid=>?_
  have L2:=L1.mv X hwr hfp hgs st0 mv
  refine Wk.go tg d ds' v1 s2 _ _ (chkT_tup c2 hto) hmid L2.kp fun s3 mv3 hst3 hrd=>?_
  have L3:=L2.mv X hwr hfp hgs st0 mv3
  refine asg_tgt X.room.hand X.eok c2 hrd hE2 L3.x.sto fun h4 tk4 P4 kb So G=>?_
  have X4:=L3.x.set (s':={ s3 with heap:=h4,toks:=tk4 }) (M':=M') (zeros_md k3) (hOX F1 L3.own) kb So G
  have S4:SStep env F1 s3 (fdel F1 t.ids) { s3 with heap:=h4,toks:=tk4 }:=.kb So kb (.refl _) rfl fun j a h=>.inl ⟨j,(fdel_sub h).1⟩
  have stay:∀ {F4:Nat->List Addr} {P4:Nat->Option Value} {E4:AE} {sa sb:Shared} {F5:Nat->List Addr},LI c n A env Bad M' F P4 F4 E4 s s0 fp wr (OXof (OwnB Bad F) s0) sa->SStep env F4 sa F5 sb->KpF (OXof (OwnB Bad F) s0) s0.heap sb.heap->St ds' sa->St ds' sb:=by
   intro F4 P4 E4 sa sb F5 La Sab kp h
   refine Wk.stay ds' sa sb h (fun b o hb e=>?_) (fun g hg=>?_) kp
   ·rcases hb with hb | ⟨fs,hb⟩
    ·exact Sab.keep b o (apart b hb).1 (apart b hb).2.1 (fun i=>La.nf b hb i) e
    ·refine Sab.keep b o (fun q=>?_) (fun x hx=>?_) (fun i hi=>?_) e
     ·(refine e1a2 La.x.sto.ns ?_;rintro mm ⟨o',es,ep,ho',hd',_⟩ _)
      subst q
      exact nomatch two_data e ho' hb hd'
     ·(refine e2a2 (La.x.cells x b hx) ?_;rintro o2 ob ho hd)
      exact nomatch two_data e ho hb hd
     ·(refine e2a1 (La.x.pl i b hi) ?_;rintro vs nn e7)
      rw [e] at e7;(replace e7:=(Option.some.inj e7).symm;subst e7);cases hb
   ·exact Sab.gk.old g (Nat.lt_of_lt_of_le (hgs g hg).2 La.gz)
  have L4:=L3.step (Wk.liv ds' s3 hst3) (fun b hb=>(hwr b hb).1) X4 S4 (hOX F1 L3.own)
  have hst4:=stay L3 S4 L4.kp hst3
  refine hb n A env Bad M' M' _ P4 E2 E3 r3 _ y _ _ X4 c4 o1 hb3 (fun e F5 P5 s5 X5 S5=>?_) fun d5 e F5 v5 s5 S5 hr5=>?_
  ·subst e
   have L5:=L4.step (Wk.liv ds' _ hst4) (fun b hb=>(hwr b hb).1) X5 S5 (hOX _ L4.own)
   exact ⟨ds'.length,by simp,ds',F5,P5,E3,rfl,stay L4 S5 L5.kp hst4,L5,hz⟩
  ·subst e
   exact h2 d5 (Prod.mk.inj (Option.some.inj hz)).2.symm F5 v5 s5 (L4.st.trans S5) hr5
end
theorem rows_mv {Own:Addr->Prop} {h h':Heap} {r:Addr} (hs:Heap.SameBut r h h') (kp:KpF Own h h') {b:Addr} {x:PyData} (e:b≠r) (q:RowR Own h (.ref b) x):RowR Own h' (.ref b) x:=by
 (refine e3a4 q ?_;rintro a ys ws e1 rfl ⟨n,h1⟩ h2)
 cases e1
 exact ⟨b,ys,ws,rfl,rfl,⟨n,(hs.2 b e).trans h1⟩,All2.mono (fun v x (q:Rd0 Own h v x)=>q.kpf kp) h2⟩
theorem rows_set {Own:Addr->Prop} {h h':Heap} {r:Addr} {ws':Array Value} {ys':List PyData} (hs:Heap.SameBut r h h') (kp:KpF Own h h') (hl:h'.PlainList r ws') (hx:All2 (Rd0 Own h') ws'.toList ys'):∀ {rs:List Addr} {xs:List PyData} {k:Nat},rs.Nodup->rs[k]?=some r->All2 (RowR Own h) (rs.map Value.ref) xs->All2 (RowR Own h') (rs.map Value.ref) (xs.set k (.list ys'))
 | [],u1_,u2_,hn,hk,u3_=>by simp at hk
 | b::rs,xs,k,hn,hk,q=>by
  cases q with
  | @cons u1_ x u2_ xs q qs =>
   have hn:=List.nodup_cons.mp hn
   cases k with
   | zero =>
    have e:b=r:=Option.some.inj hk
    subst e
    refine .cons ⟨b,ys',ws',rfl,rfl,hl,hx⟩ ?_
    clear hk q
    have hn:=hn.1
    have mv:∀ {l:List Addr} {xs:List PyData},b ∉ l->All2 (RowR Own h) (l.map Value.ref) xs->All2 (RowR Own h') (l.map Value.ref) xs:=by
     intro l
     induction l with
     | nil=>intro xs m q;cases q;exact .nil
     | cons d l ih =>
      intro xs m q
      cases q with
      | cons q qs=>exact .cons (rows_mv hs kp (fun e=>m (e ▸ List.mem_cons_self)) q) (ih (fun hm=>m (List.mem_cons_of_mem _ hm)) qs)
    exact mv hn qs
   | succ k =>
    have hk:rs[k]?=some r:=hk
    exact .cons (rows_mv hs kp (fun e=>hn.1 (e ▸ List.mem_of_getElem? hk)) q) (rows_set hs kp hl hx hn.2 hk qs)
section
variable {c:Cfg} {n:Nat} {A:Around} {env:Env} {Bad:Addr->Prop} {M:List Nat} {F:Nat->List Addr} {P:Nat->Option Value} {E:AE} {s:Shared}
theorem two_of {L:Addr} {Own:Addr->Prop} {s:Shared} {fs:List Addr} {v:Value} {xs:List PyData} (r:RepF c L Own s 2 fs v (.dat (.list xs))):∃ a vs rs,v=.ref a/\fs=a::rs/\s.heap.PlainList a vs/\vs.toList=rs.map Value.ref/\All2 (RowR Own s.heap) vs.toList xs/\(a::rs).Nodup:=by
 cases r with
 | two hl hv hx hn=>exact ⟨_,_,_,rfl,rfl,hl,hv,hx,hn⟩
theorem row_set {i ik:Nat} {a r:Addr} {rs:List Addr} {xs ys':List PyData} {ws ws':Array Value} {h':Heap} (X:SX c n A env Bad M F P E s) (g1:md M i=2) (hE:E i=some (.dat (.list xs))) (hF:F i=a::rs) (hr:rs[ik]?=some r) (hl:s.heap.PlainList r ws)
  (hs:Heap.SameBut r s.heap h') (hl':h'.PlainList r ws') (hx':KpF (OwnB Bad F) s.heap h'->All2 (Rd0 (OwnB Bad F) h') ws'.toList ys') :
  SX c n A env Bad M F P (E.set i (.dat (.list (xs.set ik (.list ys'))))) { s with heap:=h' }/\SStep env F s F { s with heap:=h' }:=by
 have mr:=List.mem_of_getElem? hr
 have mem:r∈F i:=hF ▸ List.mem_cons_of_mem _ mr
 have kp:KpF (OwnB Bad F) s.heap h':=kp_mut mem hl hs
 (refine e1a2 (X.vars i _ hE) ?_;rintro v0 q1 q2)
 rw [g1,hF] at q2
 (refine e3a6 (two_of q2) ?_;rintro a' vs rs' rfl e hla hv hx hn)
 cases e
 have hne:a≠r:=fun e=>(List.nodup_cons.mp hn).1 (e ▸ mr)
 (refine e1a1 hla ?_;rintro na ea)
 refine ⟨X.mut (s':={ s with heap:=h' }) mem hs ⟨_,hl'⟩ ⟨.ref a,q1,?_⟩,.mut mem hs ⟨_,hl'⟩ (.refl _) rfl⟩
 rw [g1,hF]
 refine .two ⟨na,(hs.2 a hne).trans ea⟩ hv ?_ hn
 rw [hv] at hx ⊢
 exact rows_set hs kp hl' (hx' kp) (List.nodup_cons.mp hn).2 hr hx
theorem row_ev {i:Nat} {k:X} {o:Expr} {p row xs0:PyData} {Q:Value->Shared->Prop} {Er:Value->Shared->Prop} (hk:EvOK c k) (X:SX c n A env Bad M F P E s) (hc:kRow env.scope i (chkX c.fnm c.rk n env.scope k) o=true) (g1:md M i=2) (g2:okX (md M) k=true)
  (hxs:datOf E i=some xs0) (hkd:ev c.G c.T k E=some p) (hrow:getAt p xs0=some row)
  (h:∀ r a rs ik xs ys ws s2,Stp s s2->p=.int ik->xs0=.list xs->row=.list ys->0<=ik->ik < xs.length->F i=a::rs->rs[ik.toNat]?=some r->s2.heap.PlainList r ws->All2 (Rd0 (OwnB Bad F) s2.heap) ws.toList ys->Q (.ref r) s2) :
  wpAny (model c.prog c.w) A (eval o env) Q Er s:=by
 refine dESubscript_elim hc fun ob kx pp hc=>?_
 (refine k_bbb hc ?_;rintro c1 c2 c3)
 (refine e1a3 (inv_var c1) ?_;rintro p1 rfl u_ c6)
 (refine e2a6 (getAt_some hrow) ?_;rintro xs ik rfl rfl hle hb0 hb1 hat)
 (refine e1a2 (X.vars i _ (dat_of hxs)) ?_;rintro v0 q1 q2)
 rw [g1] at q2
 (refine e3a6 (two_of q2) ?_;rintro a vs rs rfl hF hl hv hx hn)
 refine PyProof.Rows.Subscript_ (ev_name X q1 c6 (hk n A env _ _ E s kx _ _ Er X.cx c3 g2 hkd fun v2 s2 st2 r2 u_=>?_))
 (refine e1a1 r2.any.int ?_;rintro t2 rfl)
 have hl2:=PlainList.keep st2.keep hl
 (refine e1a2 (hx.get hat) ?_;rintro vo hvo ro)
 (refine e3a4 ro ?_;rintro r ys ws rfl rfl h1 h2)
 have hr:rs[ik.toNat]?=some r:=by
  rw [hv,List.getElem?_map] at hvo
  cases hh:rs[ik.toNat]? with
  | none=>rw [hh] at hvo;exact nso hvo
  | some b=>rw [hh] at hvo;cases (Option.some.inj hvo);rfl
 refine tail_any hl2.isList.typeIs slot_list_getitem.lookup ?_ (subscripted_idx c2 _ _)
 refine wpAny_getItem_list hl2.isList hb0 (Int.lt_trans hb1 (lt63 hle)) (by simpa using hvo) ?_
 exact h r a rs ik xs ys ws s2 st2 rfl rfl rfl hb0 hb1 hF hr (PlainList.keep st2.keep h1) (h2.mono fun u_ u_ q=>Rd0.keep st2.keep q)
theorem st_setJ (W:Nat) {i:Nat} {k l e:X} (hk:EvOK c k) (hl:EvOK c l) (he:EvOK c e):StOK c W (.setJ i k l e):=by
 intro n A env Bad M M' F P E E' r s x Q Er X hc ho hx h1 h2
 dsimp only [chkS_q_setJ] at hc
 refine dSAssign_elim hc fun z1 v pos hc=>?_
 refine dcons_elim hc fun z2 z3 hc=>?_
 refine dESubscript_elim hc fun o lx p hc=>?_
 refine dnil_elim hc fun hc=>?_
 (refine k_bbbb hc ?_;try clear hc;rintro c1 c2 c3 c4)
 dsimp only [ex_q_setJ] at hx
 revert hx
 refine sbn fun z hz=>sbn fun xs0 hxs=>sbn fun kd hkd=>sbn fun row hrow=>sbn fun ld hld=>sbn fun row' hput1=>sbn fun xs' hput hx=>?_
 have hx:=Prod.mk.inj (Option.some.inj hx)
 dsimp only [okS_q_setJ] at ho
 revert ho
 refine ifs fun hh ho=>?_
 (refine k_dbbbd hh ?_;try clear hh;rintro g1 g2 g3 g4 g5)
 (replace ho:=Option.some.inj ho;subst ho)
 refine wpAny_Assign_Subscript (he n A env _ _ E s v z _ Er X.cx c4 g4 hz fun v1 s1 st1 r1 u_=>?_) swaps_sub
 rw [g5] at r1
 have X1:=X.stp st1
 refine row_ev hk X1 c1 g1 g2 hxs hkd hrow fun r a rs ik xs ys ws s2 st2 e1 e2 e3 hb0 hb1 hF hr hl1 hxr=>?_
 subst e1 e2 e3
 have X2:=X1.stp st2
 refine hl n A env _ _ E s2 lx _ _ Er X2.cx c3 g3 hld fun v2 s3 st3 r2 u_=>?_
 have hput2:=hput1
 revert hput1
 refine sbn fun jk hjk=>ifs fun hb hput1=>?_
 have hq0:=intOf_some hjk
 subst hq0
 have hput2:=putAt_list hput2
 subst hput2
 have hput:=putAt_list hput
 subst hput
 (refine e1a1 r2.any.int ?_;rintro t2 rfl)
 have X3:=X2.stp st3
 have hl3:=PlainList.keep st3.keep hl1
 have hx3:=hxr.mono fun u_ u_ q=>Rd0.keep st3.keep q
 have elen:=hxr.length
 rw [Array.length_toList] at elen
 have hfit:jk < 2 ^ 63:=Int.lt_trans hb.2.1 (lt63 hb.2.2)
 refine setItem_plain hl3 hb.1 hfit (by rw [elen];exact hb.2.1) fun h' hl' hs'=>?_
 have r1':=r1.keep (st2.trans st3).keep
 have X6:=row_set (ys':=ys.set jk.toNat z) X3 g1 (dat_of hxs) hF hr hl3 hs' hl' fun kp=>by
  rw [Array.toList_setIfInBounds]
  exact (hx3.mono fun u_ u_ q=>q.kpf kp).set jk.toNat (r1'.kpf kp)
 exact h1 hx.2.symm _ _ _ (hx.1 ▸ X6.1) ((SStep.of ((st1.trans st2).trans st3)).trans X6.2)
end
noncomputable def era (h:Heap):List Addr->Heap
 | []=>h
 | b::l=>(era h l).update b fun o=>{ o with data:=.freed }
theorem upd_freed (h:Heap) (b:Addr):(h.update b fun o=>{ o with data:=.freed }).get? b=none:=by
 obtain ⟨objs,l⟩:=h
 unfold Heap.update Heap.get?
 simp only [Array.getElem?_modify,if_true]
 cases objs[b]? <;> rfl
theorem era_get {h:Heap} {a:Addr}:∀ {l:List Addr},(a∈l->(era h l).get? a=none)/\(a ∉ l->(era h l).get? a=h.get? a)
 | []=>⟨(fun m=>nomatch m),fun u_=>rfl⟩
 | b::l=>by
  by_cases e:a=b
  ·subst e
   exact ⟨fun u_=>upd_freed ..,fun m=>absurd List.mem_cons_self m⟩
  ·have q:=(Heap.SameBut.update (era h l) b fun o=>{ o with data:=.freed }).2 a e
   have ih:=era_get (h:=h) (a:=a) (l:=l)
   exact ⟨fun m=>q.trans (ih.1 ((List.mem_cons.mp m).resolve_left e)),fun m=>q.trans (ih.2 fun x=>m (List.mem_cons_of_mem _ x))⟩
theorem era_sub {h:Heap} {l:List Addr} {a:Addr} {o:Obj} (e:(era h l).get? a=some o):h.get? a=some o:=by
 by_cases m:a∈l
 ·rw [era_get.1 m] at e;exact nso e
 ·rwa [era_get.2 m] at e
theorem Wk.re {c:Cfg} {A:Around} {Own Own':Addr->Prop} {s2 s3:Shared} {tupT:Bool} {it:Value} {fp wr:List Addr} {gs:List Nat} {St:List PyData->Shared->Prop} {Mid:PyData->List PyData->Value->Shared->Prop}
  (W:Wk c A (OXof Own s2) s2 tupT it fp wr gs St Mid) (hO:∀ a,Own' a->Own a) (back:∀ b,(∃ o,s3.heap.get? b=some o)->∃ o,s2.heap.get? b=some o) (fwd:∀ b,(∃ o,s2.heap.get? b=some o)->∃ o,s3.heap.get? b=some o) (kp:KpF (OXof Own s2) s2.heap s3.heap) :
  Wk c A (OXof Own' s3) s3 tupT it fp wr gs St Mid:=by
 have hx:∀ a,OXof Own' s3 a->OXof Own s2 a:=by
  rintro a (h | h)
  ·exact .inl (hO a h)
  ·refine .inr ?_
   cases hh:s2.heap.get? a with
   | none=>rfl
   | some o=>(refine e1a1 (fwd a ⟨o,hh⟩) ?_;rintro o' ho');rw [h] at ho';exact nso ho'
 have kt:∀ {h:Heap},KpF (OXof Own' s3) s3.heap h->KpF (OXof Own s2) s2.heap h:=fun k=>kp.trans fun b o vs n hb hd hc=>k b o vs n hb hd (hc.imp id fun q r=>q (hx b r))
 exact {
  stay:=fun ds s s' h1 h2 h3 h4=>W.stay ds s s' h1 h2 h3 (kt h4)
  liv:=W.liv
  next:=fun d ds s Q Er B st k h=>W.next d ds s Q Er B st (kt k) fun v s' m q=>h v s' (m.mono back (fun b m=>m) fun g m=>m) q
  go:=fun tg d ds v s Q Er ht q k h=>W.go tg d ds v s Q Er ht q (kt k) fun s' m st r=>h s' (m.mono back (fun b m=>m) fun g m=>m) st (r.weak hx)
  done:=fun s Q Er B st h=>W.done s Q Er B st fun s' m=>h s' (m.mono back (fun b m=>m) fun g m=>m)
  self:=W.self }
section
variable {c:Cfg}
theorem st_genLen (C:CfgOK c) (W:Nat) {j g:Nat} {a elt:X} {t:Tgt} {tss:Xs} (hg:GenOK c a) (hts:TssOK c tss) (hel:EvOK c elt):GlOK c W (.genLen j g a elt t tss):=by
 intro j0 g0 a0 elt0 t0 ifs0 e0 n A env Bad M M' F P E E' r s x y l Q Er X hc ho hx h1
 cases e0
 (refine k_bb hc ?_;clear hc;rintro cx cy)
 (refine e3a4 (sAsg_inv cx) ?_;rintro p v pos rfl g1 g2 g3)
 (refine e3a4 (sAsg_inv cy) ?_;rintro p' v' pos' rfl j1 j2 j3)
 (refine e3a4 (inv_fn1 j3) ?_;rintro z pz qz rfl f1 f2 f3)
 (refine e6a7 (inv_comp f3) ?_;rintro xx tg ite fs scope pp rfl c0 c1 hsc c3 c4 c5)
 (refine e1a3 (inv_var c1) ?_;rintro p1 rfl u_ c6)
 have hlc:isLC v=false:=by
  have q:=g3
  dsimp only [chkIt_q_gen] at q
  (refine e3a2 (inv_fn1 (and2 q).2) ?_;rintro z1 p2 q2 rfl u2_)
  rfl
 dsimp only [okS_q_genLen] at ho
 revert ho
 refine ifs fun hk ho=>?_
 (refine k_ddbbbd hk ?_;clear hk;rintro k1 k2 k3 k4 k5 k6)
 (replace ho:=(Option.some.inj ho).symm;subst ho)
 dsimp only [ex_q_genLen] at hx
 revert hx
 refine sbn fun ds hds=>sbn fun ys hys=>ifs fun hlim hx=>?_
 have hx:=Prod.mk.inj (Option.some.inj hx)
 refine wpAny_execs_cons (wpAny_Assign_Name (hg n A env _ _ E s v ds _ _ X.cx g3 k3 hds fun v2 s2 st2 Wk=>?_) (swaps_not g2 hlc))
 refine store_okA X.eok (X.stp st2).sto g1 fun h3 tk3 kb3 So3 back3=>?_
 (refine e5a5 Wk ?_;clear Wk;rintro fp wr gs St Mid W hst hwr hfp hgs)
 have hl:∃ o,s.heap.get? env.locals=some o:=by
  (refine e1a2 X.sto.ns ?_;rintro mm ⟨o',u1_,u2_,ho',u3_⟩ u4_)
  exact ⟨o',ho'⟩
 have hcl:∀ y b,env.cells.lookup y=some b->∃ o,s.heap.get? b=some o:=fun y b h=>by
  (refine e2a2 (X.cells y b h) ?_;rintro o ob ho u_)
  exact ⟨ob,ho⟩
 have apart:∀ b,(b∈fp\/∃ o fs,s2.heap.get? b=some o/\o.data=.fields fs)->b≠env.locals/\∀ y,env.cells.lookup y≠some b:=by
  have seqs:∀ {o:Obj} {b},s2.heap.get? b=some o->(∀ es n,o.data≠.dict es n)->(∀ v,o.data≠.cell v)->b≠env.locals/\∀ y,env.cells.lookup y≠some b:=by
   intro o b e h1 h2
   refine ⟨?_,fun y h=>?_⟩
   ·rintro rfl
    (refine e1a2 X.sto.ns ?_;rintro mm ⟨o',u1_,u2_,ho',hd',u3_⟩ u4_)
    have e2:=st2.keep _ _ ho'
    rw [e] at e2;(replace e2:=(Option.some.inj e2).symm;subst e2)
    exact h1 _ _ hd'
   ·(refine e2a2 (X.cells y b h) ?_;rintro o1 ob ho hd)
    have e2:=st2.keep _ _ ho
    rw [e] at e2;(replace e2:=(Option.some.inj e2).symm;subst e2)
    exact h2 _ hd
  rintro b (hb | ⟨o,fs,e,hd⟩)
  ·rcases (hfp b hb).2 with q | ⟨o,vs,nn,e,hd,u_⟩
   ·refine ⟨fun q2=>?_,fun y h=>?_⟩
    ·(refine e1a1 hl ?_;rintro o ho);rw [<-q2,q] at ho;exact nso ho
    ·(refine e1a1 (hcl y b h) ?_;rintro o ho);rw [q] at ho;exact nso ho
   ·exact seqs (st2.keep _ _ e) (fun u1_ u2_ q=>by rw [hd] at q;cases q) fun u1_ q=>by rw [hd] at q;cases q
  ·exact seqs e (fun u1_ u2_ q=>by rw [hd] at q;cases q) fun u1_ q=>by rw [hd] at q;cases q
 have hst3:St ds { s2 with heap:=h3,toks:=tk3 }:=W.stay ds s2 _ hst (fun b o hb e=>kb3 b o (apart b (hb.imp id fun ⟨fs,q⟩=>⟨o,fs,e,q⟩)).1 (fun i u1_ u2_=>(apart b (hb.imp id fun ⟨fs,q⟩=>⟨o,fs,e,q⟩)).2 _) e) (fun u1_ u2_=>rfl) ((X.stp st2).sto.kpf kb3)
 have ner:∀ b,(∃ o,s.heap.get? b=some o)->b ∉ fp.filter fun b=>(s.heap.get? b).isNone:=fun b h m=>by
  (refine e1a1 h ?_;rintro o ho)
  have:=(List.mem_filter.mp m).2
  rw [ho] at this;cases this
 generalize her:(fp.filter fun b=>(s.heap.get? b).isNone)=er at ner
 have inr:∀ b∈fp,s.heap.get? b=none->b∈er:=fun b hb hn=>her ▸ List.mem_filter.mpr ⟨hb,by rw [hn];rfl⟩
 have kv:Kb env [g] s.heap (era h3 er):=fun b o b1 b2 e=>(era_get.2 (ner b ⟨o,e⟩)).trans (kb3 b o b1 b2 (st2.keep b o e))
 have Sv:Sto env (era h3 er) (upd P g v2):=So3.at (fun o e=>(era_get.2 (ner _ hl)).trans e) fun y b u_ h o e=>(era_get.2 (ner b (hcl y b h))).trans e
 have hdel:(E.del g) g=none:=if_pos rfl
 have Xv:SX c n A env Bad M (fdel F [g]) (upd P g v2) (E.del g) { s with heap:=era h3 er }:=X.setU (s':={ s with heap:=era h3 er }) (M':=M) (OX:=OwnB Bad F) (fun j=>⟨fun m=>by rw [List.mem_singleton.mp m];exact k2,fun u_=>rfl⟩) (fun a h=>h) kv Sv fun j=>⟨fun m pv e=>by
  rw [List.mem_singleton.mp m,hdel] at e;exact nso e,fun m=>by
  have hj:¬ j=g:=fun e=>m (e ▸ List.mem_singleton.mpr rfl)
  exact ⟨if_neg hj,if_neg hj⟩⟩
 have stv:Stp { s with heap:=era h3 er } { s2 with heap:=h3,toks:=tk3 }:=⟨fun b o e=>era_sub e,st2.gk,st2.os⟩
 have S1:SStep env F s (fdel F [g]) { s with heap:=era h3 er }:=.kb Sv kv (.refl _) rfl fun j a h=>.inl ⟨j,(fdel_sub h).1⟩
 have alive3:∀ b,(∃ o,s2.heap.get? b=some o)->∃ o,h3.get? b=some o:=fun b h=>by (refine e1a1 h ?_;rintro o ho);exact kb3.alive So3 b o ho
 have Wv:WalkAt c A (OwnB Bad (fdel F [g])) 0 false { s with heap:=era h3 er } { s2 with heap:=h3,toks:=tk3 } v2 ds:=by
  refine ⟨fp,wr,gs,St,Mid,W.re (fun a h=>?_) (fun b h=>?_) alive3 ((X.stp st2).sto.kpf kb3),hst3,fun b hb=>⟨(hwr b hb).1,era_get.1 (inr b (hwr b hb).1 (hwr b hb).2)⟩,fun b hb=>⟨alive3 b (hfp b hb).1,?_⟩,hgs⟩
  ·rcases h with h | ⟨i,h⟩
   ·exact .inl h
   ·exact .inr ⟨i,(fdel_sub h).1⟩
  ·(refine e1a1 h ?_;rintro o ho);exact back3 b o ho
  ·rcases (hfp b hb).2 with q | ⟨o,vs,nn,e,hd,hq⟩
   ·exact .inl (era_get.1 (inr b hb q))
   ·refine .inr ⟨o,vs,nn,kv b o (apart b (.inl hb)).1 (fun i u1_ u2_=>(apart b (.inl hb)).2 _) e,hd,hq.imp id fun q u_ h=>q rfl ?_⟩
    rcases h with h | ⟨i,h⟩
    ·exact .inl h
    ·exact .inr ⟨i,(fdel_sub h).1⟩
 have X3:=Xv.stp stv
 refine wpAny_execs_cons (wpAny_Assign_Name ?_ (swaps_not j2 rfl))
 refine wpAny_Call_NameR (glob_bi C (x:="len") (by decide) X.eok X3.base f1 ?_)
 rw [trees1 f2]
 refine PySem.callWith_builtin1 ?_
 rw [eval_ListComp]
 refine comp_at C hts hel Xv.cx c0 (fun Q Er hQ=>ev_name X3 (if_pos rfl) c6 (W.self ds _ Q Er hst3 (hQ v2 _ stv Wv))) (fun q=>nomatch q) (ds_len hds) hsc c3 c4 c5 k4 k5 k6 hys fun D cc s5 st5 r5 hD hC hn frr=>?_
 (refine e1a1 hn ?_;clear hn;rintro m hm)
 refine ⟨m,hm,fun h' hs=>?_⟩
 have kk:∀ b o,b≠cc->s5.heap.get? b=some o->h'.get? b=some o:=fun b o hb e=>(hs.2 b hb).trans e
 have kp:∀ OY:Addr->Prop,KpF OY s5.heap h':=fun OY b o vs nn hb hd u_=>kk b o (fun e=>by
  subst e
  (refine e3a3 hm ?_;rintro o' es ep ho' hd' u_)
  rw [hb] at ho';(replace ho':=(Option.some.inj ho').symm;subst ho');rw [hd] at hd';cases hd') hb
 have st6:Stp { s with heap:=era h3 er } { s5 with heap:=h' }:=⟨fun b o e=>kk b o (fun q=>by rw [q,hC] at e;exact nso e) (st5.keep b o e),st5.gk,st5.os⟩
 refine len_ok (k:=0) (s:={ s5 with heap:=h' }) (r5.kpf (kp _)) (show evP1 .len (.list ys)=some (.int ys.length) from if_pos hlim) fun v7 s7 st7 r7=>?_
 have X7:=Xv.stp (st6.trans st7)
 refine store_ok X.eok X7.sto j1 fun h8 tk8 kb8 So8=>?_
 have G:Got (OwnB Bad (fdel F [g])) [j] h8 (upd P g v2) (upd (upd P g v2) j v7) (E.del g) ((E.del g).set j (.dat (.int ys.length))):=fun i=>⟨fun m=>by
  rw [List.mem_singleton.mp m]
  exact ⟨v7,_,if_pos rfl,if_pos rfl,r7.kpf (X7.sto.kpf kb8)⟩,fun m=>by
  have hj:¬ i=j:=fun e=>m (e ▸ List.mem_singleton.mpr rfl)
  exact ⟨if_neg hj,if_neg hj⟩⟩
 have X8:=X7.set (s':={ s7 with heap:=h8,toks:=tk8 }) (M':=M.set j 0) (fun i=>⟨fun m=>by rw [md_set k1,if_pos (List.mem_singleton.mp m)],fun m=>by rw [md_set k1,if_neg fun e=>m (List.mem_singleton.mpr e)]⟩) (fun a h=>h) kb8 So8 G
 exact h1 hx.2.symm _ _ _ (hx.1 ▸ X8) (S1.trans ((SStep.of (st6.trans st7)).trans (.kb So8 kb8 (.refl _) rfl fun i a h=>.inl ⟨i,(fdel_sub h).1⟩)))
end
section
variable {c:Cfg}
theorem sWhile_inv {t:Ck} {b:List Stmt->Bool} {x:Stmt} (h:sWhile t b x=true):∃ v y pos,x=.While v y [] pos/\t v=true/\b y=true:=by
 refine dSWhile_elim h fun v y z1 pos h=>?_
 refine dnil_elim h fun h=>?_
 ·exact k_bb h fun h_0 h_1=>⟨_,_,_,rfl,h_0,h_1⟩
theorem st_whil (W:Nat) {t:X} {b:Sts} (ht:TsOK c t) (hb:StsOK c W b):StOK c W (.whil t b):=by
 intro n A env Bad M M' F P E E' r s x Q Er X hc ho hx h1 h2
 dsimp only [chkS_q_whil] at hc
 (refine e3a3 (sWhile_inv hc) ?_;rintro v y pos rfl c1 c2)
 dsimp only [ex_q_whil] at hx
 dsimp only [okS_q_whil] at ho
 revert ho
 refine ifs fun hk ho=>?_
 revert ho
 refine sbn fun M1 o1 ho=>?_
 revert ho
 refine ifs fun eM ho=>?_
 (replace ho:=Option.some.inj ho;subst ho)
 subst eM
 refine wpAny_While (codeAny_whileLoop (fun k s1=>∃ F1 P1 E1,SX c n A env Bad M1 F1 P1 E1 s1/\SStep env F s F1 s1/\whileLoop (fun E'=>(ev c.G c.T t E').bind fun x=>tr x) (fun E'=>exs c.G c.T W b E') k E1=some (E',r)) ?_ W ⟨F,P,E,X,.refl s,hx⟩)
 rintro k s1 hz_
 (refine e3a3 hz_ ?_;try clear hz_;rintro F1 P1 E1 X1 S1 hz)
 cases k with
 | zero=>exact nso hz
 | succ k =>
  simp only [whileLoop,Option.bind_eq_some_iff] at hz
  (refine e1a2 hz ?_;try clear hz;rintro q ⟨d,hd,hq⟩ hz)
  refine ht n A env _ _ E1 s1 v d q _ _ X1.cx c1 hk hd hq fun s2 st2=>?_
  have X2:=X1.stp st2
  have S2:=S1.trans (.of st2)
  induction q with
  | false =>
   have hz:=Prod.mk.inj (Option.some.inj hz)
   rw [if_neg Bool.false_ne_true]
   exact wpAny_execs_nil (h1 hz.2.symm F1 P1 s2 (hz.1 ▸ X2) S2)
  | true =>
   simp only [Option.bind_eq_some_iff] at hz
   (refine e1a2 hz ?_;try clear hz;rintro ⟨E3,r3⟩ hb3 hz)
   rw [if_pos rfl]
   refine hb n A env Bad M1 M1 F1 P1 E1 E3 r3 s2 y _ _ X2 c2 o1 hb3 (fun e F5 P5 s5 X5 S5=>?_) fun d5 e F5 v5 s5 S5 hr5=>?_
   ·subst e
    exact ⟨k,Nat.lt_succ_self k,F5,P5,E3,X5,S2.trans S5,hz⟩
   ·subst e
    exact h2 d5 (Prod.mk.inj (Option.some.inj hz)).2.symm F5 v5 s5 (S2.trans S5) hr5
end
theorem bindL_out (k:Str->Option NameKind):∀ (l:List (Str × Value)) (m:Str->Option Value) (x:Str),x ∉ l.map (·.1)->bindL k l m x=m x
 | [],_,_,_=>rfl
 | (y,v)::r,m,x,h=>by
  simp only [List.map_cons,List.mem_cons,not_or] at h
  rw [bindL,bindL_out k r _ x h.2]
  split
  ·exact if_neg h.1
  ·rfl
theorem bindL_in (k:Str->Option NameKind) (l:List (Str × Value)):∀ (m:Str->Option Value) (x:Str) (v:Value),(l.map (·.1)).Nodup->(x,v)∈l->k x=some .local->bindL k l m x=some v:=by
 induction l with
 | nil=>exact fun m x v hn hm=>nomatch hm
 | cons p r ih =>
  intro m x v hn hm hk
  have hn:=List.nodup_cons.mp hn
  rw [bindL]
  rcases List.mem_cons.mp hm with e | hm
  ·subst e
   rw [bindL_out k r _ _ hn.1,if_pos hk]
   exact if_pos rfl
  ·exact ih _ x v hn.2 hm hk
theorem bindC_out (k:Str->Option NameKind):∀ (l:List (Str × Value)) (m:Str->Option Value) (x:Str),x ∉ l.map (·.1)->bindC k l m x=m x
 | [],_,_,_=>rfl
 | (y,v)::r,m,x,h=>by
  simp only [List.map_cons,List.mem_cons,not_or] at h
  rw [bindC,bindC_out k r _ x h.2]
  split
  ·rfl
  ·exact if_neg h.1
theorem bindC_in (k:Str->Option NameKind) (l:List (Str × Value)):∀ (m:Str->Option Value) (x:Str) (v:Value),(l.map (·.1)).Nodup->(x,v)∈l->k x≠some .local->bindC k l m x=some v:=by
 induction l with
 | nil=>exact fun m x v hn hm=>nomatch hm
 | cons p r ih =>
  intro m x v hn hm hk
  have hn:=List.nodup_cons.mp hn
  rw [bindC]
  rcases List.mem_cons.mp hm with e | hm
  ·subst e
   rw [bindC_out k r _ _ hn.1,if_neg hk]
   exact if_pos rfl
  ·exact ih _ x v hn.2 hm hk
structure FnOK (fd:FuncData) (ps:List Nat):Prop where
 co:fd.scope.isCoroutine=false
 gen:fd.scope.isGenerator=false
 kind:fd.scope.kind=.function
 more:fd.scope.more.any (fun (n,_)=>n == ("interactive":Str))=false
 glob:fd.globals=mainGlobals
 bui:fd.builtins=builtinsNs
 clo:fd.closure=[]
 nofree:∀ p∈fd.scope.names,p.2≠.free
 nd:(fd.scope.names.map (·.1)).Nodup
 own:∀ i∈ps,ownName fd.scope (nm i)=true
 pn:ps.Nodup
inductive ArgR (c:Cfg) (Bad:Addr->Prop) (s:Shared):Value->PV->Prop where
 | dat {v:Value} {d:PyData}:Rd0 Bad s.heap v d->ArgR c Bad s v (.dat d)
 | hdr {v:Value} {l:List (List Nat × List Nat)} {la:Addr}:HdrAt c.HC c.h0 v l la->ArgR c Bad s v (.hdr l)
noncomputable def lookN:List Nat->List Value->Nat->Option Value
 | i::is,v::vs,j=>if j=i then some v else lookN is vs j
 | _,_,_=>none
set_option tactic.hygienic true in
theorem lookN_mem:∀ {is:List Nat} {vs:List Value} {j:Nat} {v:Value},lookN is vs j=some v->(nm j,v)∈(is.map nm).zip vs/\j∈is
 | i::is,u::vs,j,v,h=>by
  unfold lookN at h
  split at h
  ·rename_i e;subst e;(replace h:=(Option.some.inj h).symm;subst h);exact ⟨List.mem_cons_self,List.mem_cons_self⟩
  ·obtain ⟨h1,h2⟩:=lookN_mem h;exact ⟨List.mem_cons_of_mem _ h1,List.mem_cons_of_mem _ h2⟩
 | [],_,_,_,h=>by exact nso h
 | _::_,[],_,_,h=>by exact nso h
set_option tactic.hygienic true in
theorem start_look {c:Cfg} {Bad:Addr->Prop} {s:Shared}:∀ {is:List Nat} {vs:List Value} {pvs:List PV} {E:AE},All2 (ArgR c Bad s) vs pvs->start is pvs=some E->∀ j pv,E j=some pv->∃ v,lookN is vs j=some v/\ArgR c Bad s v pv
 | [],vs,[],E,hx,h,j,pv,e=>by (replace h:=(Option.some.inj h).symm;subst h);exact nso e
 | i::is,vs,p::ps,E,hx,h,j,pv,e=>by
  cases hx with
  | cons r1 r2 =>
   rename_i v vs
   revert h
   refine sbn fun E1 h1 e0z=>?_
   (replace e0z:=(Option.some.inj e0z).symm;subst e0z)
   unfold lookN
   by_cases hj:j=i
   ·subst hj
    have e:some p=some pv:=by rw [<-e];exact (if_pos rfl).symm
    (replace e:=(Option.some.inj e).symm;subst e)
    exact ⟨v,if_pos rfl,r1⟩
   ·have e:E1 j=some pv:=by rw [<-e];exact (if_neg hj).symm
    rw [if_neg hj]
    exact start_look r2 h1 j pv e
 | [],_,_::_,_,_,h,_,_,_=>by exact nso h
 | _::_,_,[],_,_,h,_,_,_=>by exact nso h
theorem zip_fst:∀ {is:List Nat} {vs:List Value},vs.length=is.length->((is.map nm).zip vs).map (·.1)=is.map nm
 | [],[],_=>rfl
 | i::is,v::vs,h=>by simp [zip_fst (is:=is) (vs:=vs) (by simpa using h)]
 | [],_::_,h=>by simp at h
 | _::_,[],h=>by simp at h
theorem map_nm_nodup {is:List Nat} (h:is.Nodup):(is.map nm).Nodup:=by
 induction is with
 | nil=>exact List.nodup_nil
 | cons i is ih =>
  obtain ⟨h1,h2⟩:=List.nodup_cons.mp h
  refine List.nodup_cons.mpr ⟨fun m=>?_,ih h2⟩
  (refine e1a2 (List.mem_map.mp m) ?_;rintro j hj e)
  exact h1 (nm_inj e ▸ hj)
section
variable {c:Cfg}
theorem fun_ok {W:Nat} {ps:List Nat} {body:Sts} (hb:StsOK c W body) {M':List Nat} (hok:okSs (List.replicate 130 0) body=some M')
  {n:Nat} {A:Around} {s:Shared} {a:Addr} {o:Obj} {fd:FuncData} {stmts:List Stmt} {vals:List Value} {pvs:List PV} {d:PyData} {R:Result->Shared->Prop} {Bad:Addr->Prop}
  (hroom:Room (n+1) A) (B:Base c s.heap) (ho:s.heap.get? a=some o) (hdata:o.data=.func fd) (hcd:s.heap.CodeRec fd.code fd.qualname) (hbody:fd.body=.stmts stmts) (K:FnOK fd ps)
  (hlen:vals.length=ps.length) (hbind:bindArgs fd ⟨vals,[]⟩=pure ((ps.map nm).zip vals)) (hchk:chkSs c.fnm c.rk n fd.scope body stmts=true)
  (hbad:∀ a,Bad a->∃ o,s.heap.get? a=some o) (hargs:All2 (ArgR c Bad s) vals pvs) (hrun:runFn c.G c.T W ps body pvs=some d)
  (h:∀ v s',Stp s s'->Rd0 Bad s'.heap v d->R (.ok (.ret v)) s'):codeAny (model c.prog c.w) A (.call (.ref a) ⟨vals,[]⟩) R s:=by
 have hz:=zip_fst hlen
 have hnd:(((ps.map nm).zip vals).map (·.1)).Nodup:=by rw [hz];exact map_nm_nodup K.pn
 have hmemn:∀ x∈(ps.map nm).zip vals,∃ i∈ps,x.1=nm i:=by
  intro x hx
  have:x.1∈((ps.map nm).zip vals).map (·.1):=List.mem_map.mpr ⟨x,hx,rfl⟩
  rw [hz] at this
  (refine e1a2 (List.mem_map.mp this) ?_;rintro i hi e)
  exact ⟨i,hi,e.symm⟩
 have okind:∀ i∈ps,fd.scope.names.lookup (nm i)=some .local\/fd.scope.names.lookup (nm i)=some .cell:=fun i hi=>by
  have:=K.own i hi
  unfold ownName at this
  split at this <;> simp_all
 refine codeAny_call_cells (by have:=hroom.depth;lia) ho hdata B.lim hcd hbody hbind K.clo (fun x hx=>?_) (fun s1 IC=>?_) K.co K.gen K.kind
 ·(refine e1a2 (hmemn x hx) ?_;rintro i hi e)
  rw [e]
  rcases okind i hi with q | q
  ·exact .inl q
  ·(refine e1a1 (cellsFrom_has _ (s.heap.objs.size+1) _ (mem_of_look q)) ?_;rintro b hb)
   (refine e1a1 (lookup_some_of_mem hb) ?_;rintro b2 hb2)
   exact .inr ⟨q,by rw [hb2];rfl⟩
 ·(refine e2a1 IC.toInCall.same ?_;rintro h1 tk rfl)
  have st1:Stp s { s with heap:=h1,toks:=tk }:=.of IC.toInCall.keep
  have K':EnvOK (callEnvC fd s.heap.objs.size a):=by
   refine ⟨K.kind,K.glob,K.bui,K.co,K.more,fun x hx=>?_,fun x y b hx hy=>name_of_addr IC.apart (mem_of_lookup hx) (mem_of_lookup hy)⟩
   have hx:fd.scope.names.lookup x=some .cell\/fd.scope.names.lookup x=some .free:=hx
   rcases hx with q | q
   ·(refine e1a1 (cellsFrom_has _ (s.heap.objs.size+1) _ (mem_of_look q)) ?_;rintro b hb)
    exact lookup_some_of_mem hb
   ·exact absurd rfl (K.nofree _ (mem_of_look q))
  unfold runFn at hrun
  simp only [Option.bind_eq_some_iff] at hrun
  (refine e1a2 hrun ?_;try clear hrun;rintro E hE hz_;obtain ⟨⟨E',r⟩,hex,hr⟩:=hz_)
  have hr:r=some d:=hr
  subst hr
  have old:∀ b,s.heap.objs.size<=b->c.h0.get? b=none:=fun b hb=>by
   cases hh:c.h0.get? b with
   | none=>rfl
   | some o=>exact absurd (Heap.lt_size (B.k0 b o hh)) (Nat.not_lt.mpr hb)
  have So:Sto (callEnvC fd s.heap.objs.size a) h1 (lookN ps vals):=by
   refine ⟨⟨_,IC.toInCall.ns,fun i v e=>?_⟩,fun x b u_ hb=>⟨_,IC.cell x b hb⟩⟩
   obtain ⟨hm,hi⟩:=lookN_mem e
   rcases okind i hi with q | q
   ·exact .inl ⟨q,bindL_in _ _ _ _ _ hnd hm q⟩
   ·(refine e1a1 (K'.cell (nm i) (.inl q)) ?_;rintro b hb)
    refine .inr ⟨.inl q,b,hb,?_⟩
    have e:=IC.cell (nm i) b hb
    rw [bindC_in _ _ _ _ _ hnd hm (by rw [show (callEnvC fd s.heap.objs.size a).kindOf (nm i)=_ from q];exact fun z=>by cases z)] at e
    exact e
  have X:SX c n (A.deeper (callEnvC fd s.heap.objs.size a)) (callEnvC fd s.heap.objs.size a) Bad (List.replicate 130 0) (fun u_=>[]) (lookN ps vals) E { s with heap:=h1,toks:=tk }:=by
   refine ⟨K',⟨by show A.depth+1+n < _;have:=hroom.depth;lia,by show A.units+3+20 * n+200 < _;have:=hroom.units;lia,hroom.hand⟩,B.keep IC.toInCall.keep,fun x b hb=>⟨_,IC.cell x b hb⟩,So,fun i pv e=>?_,fun i a m=>(nomatch m),
    fun b hb=>let ⟨o,ho⟩:=hbad b hb;⟨o,IC.toInCall.keep b o ho⟩,fun i a m=>(nomatch m),fun i j a m=>(nomatch m),old _ (Nat.le_refl _),fun x b hb=>old b (Nat.le_of_lt (IC.above x b (mem_of_lookup hb))),fun i a m=>(nomatch m)⟩
   (refine e1a2 (start_look hargs hE i pv e) ?_;rintro v h1' h2')
   refine ⟨v,h1',?_⟩
   have em:md (List.replicate 130 0) i=0:=by unfold md;rw [List.getD_eq_getElem?_getD,List.getElem?_replicate];split <;> rfl
   rw [em]
   cases h2' with
   | hdr hd=>exact .hdrB hd
   | dat r =>
    refine .flat ((r.keep IC.toInCall.keep).weak fun b hb=>?_)
    rcases hb with hb | ⟨u_,hb⟩
    ·exact hb
    ·cases hb
  refine hb n _ _ Bad _ M' _ _ E E' (some d) _ stmts _ _ X hchk hok hex (fun e=>by exact nsn e) fun d' e F' v s' S hv=>?_
  (replace e:=(Option.some.inj e).symm;subst e)
  refine h v s' ⟨fun b o e=>?_,⟨S.gk.size,S.gk.old,S.gk.bare⟩,S.os⟩ hv
  have hlt:=Heap.lt_size e
  refine S.keep b o (Nat.ne_of_lt hlt) (fun x hx=>?_) (fun i m=>nomatch m) (IC.toInCall.keep b o e)
  have:=IC.above x b (mem_of_lookup hx)
  have this:s.heap.objs.size < b:=this
  exact absurd hlt (Nat.not_lt.mpr (Nat.le_of_lt this))
end
noncomputable def FunCt (c:Cfg) (f:Nat):Prop :=
 ∃ fa o fd,c.mg (c.fnm f)=some (.ref fa)/\c.h0.get? fa=some o/\o.data=.func fd /\
  ∀ (A:Around) (Bad:Addr->Prop) (s:Shared) (vals:List Value) (pvs:List PV) (d:PyData) (R:Result->Shared->Prop),Room (c.rk f+1) A->Base c s.heap->(∀ a,Bad a->∃ o,s.heap.get? a=some o) ->
   All2 (ArgR c Bad s) vals pvs->c.T f pvs=some d->(∀ v s',Stp s s'->Rd0 Bad s'.heap v d->R (.ok (.ret v)) s')->codeAny (model c.prog c.w) A (.call (.ref fa) ⟨vals,[]⟩) R s
theorem evalArgs_ns {M:Model} {A:Around} {Er:Value->Shared->Prop} {s:Shared} {f:Value} {args:List (Bool × Sem Value)} {Q:Args->Shared->Prop} (hh:args=[]\/∃ x r,args=(false,x)::r)
  (h:wpAny M A (spliced args) (fun vs s'=>Q ⟨vs,[]⟩ s') Er s):wpAny M A (evalArgs f true args []) Q Er s:=by
 rcases hh with rfl | ⟨x,r,rfl⟩
 ·unfold evalArgs
  show wpAny M A (spliced [] >>= _) Q Er s
  refine wpAny_bind (wpAny_mono h (fun vs s' h'=>?_) fun u_ u_ x=>x)
  refine wpAny_holding ?_
  exact wpAny_bind (wpAny_pure (wpAny_bind (wpAny_pure (wpAny_pure h'))))
 ·exact Calls.evalArgs_plain h
theorem start_len:∀ {ps:List Nat} {pvs:List PV} {E:AE},start ps pvs=some E->pvs.length=ps.length
 | [],[],_,_=>rfl
 | i::is,p::pvs,E,h=>by
  revert h
  refine sbn fun E1 h1 u_=>?_
  simp [start_len h1]
 | [],_::_,_,h=>by exact nso h
 | _::_,[],_,h=>by exact nso h
section
variable {c:Cfg}
theorem args_head {n:Nat} {sc:Scope} {xs:Xs} {es:List Expr} {env:Env} {pos:Pos} (h:chkXs c.fnm c.rk n sc xs es=true):backTo pos (starEach es env)=[]\/∃ x r,backTo pos (starEach es env)=(false,x)::r:=by
 cases xs with
 | nil=>simp only [chkXs_q_nil] at h;obtain rfl:=inv_nil h;exact .inl rfl
 | cons x xs =>
  dsimp only [chkXs_q_cons] at h
  (refine e2a4 (inv_cons h) ?_;rintro z r rfl h1 u_ u_)
  rw [starEach_cons h1]
  exact .inr ⟨_,_,rfl⟩
theorem args_dat {Own:Addr->Prop} {s:Shared} {vs:List Value} {ds:List PyData} (h:All2 (Rd0 Own s.heap) vs ds):All2 (ArgR c Own s) vs (ds.map .dat):=by
 induction h with
 | nil=>exact .nil
 | cons h1 _ ih=>exact .cons (.dat h1) ih
theorem ev_call (C:CfgOK c) {f:Nat} {xs:Xs} (hf:∀ pvs d,c.T f pvs=some d->FunCt c f) (hxs:EvsOK c xs):EvOK c (.call f xs):=by
 intro n A env Own M E s e d Q Er X hc ho he h
 simp only [chkX_q_call,Bool.and_eq_true,decide_eq_true_eq] at hc
 obtain ⟨hr,hc⟩:=hc
 (refine e3a5 (inv_call hc) ?_;rintro es p q rfl h1 h2 h3 h4)
 dsimp only [okX_q_call] at ho
 revert he
 refine sbn fun ds hds hT=>?_
 (refine e3a4 (hf _ _ hT) ?_;rintro fa o fd m1 m2 m3 ct)
 have hp:=h2
 unfold plainName at hp
 replace hp:=c_bb hp
 refine wpAny_Call_NameR (ev_glob X.eok X.base h1 (by simpa using hp.1) (.inl m1) ?_)
 refine Calls.callWith_function (o:=o) (fd:=fd) (evalArgs_ns (args_head h4) (hxs n A env Own M E s es ds q _ Er X h4 ho hds fun vs s1 st1 r1 u_=>?_))
 have X1:=X.stp C st1
 refine ⟨⟨X1.base.k0 _ _ m2,m3⟩,wpAny_call ?_⟩
 exact ct A Own s1 vs _ d _ (X.room.le hr) X1.base X1.live (args_dat r1) hT fun v s2 st2 r2=>h v s2 (st1.trans st2) r2 fun z=>nomatch z
theorem ts_callh {f i:Nat} {xs:Xs} (hv:EvOK c (.callh f i xs)):TsOK c (.callh f i xs) :=
 ts_of_ev hv fun n sc e hc=>by
  simp only [chkX_q_callh,Bool.and_eq_true] at hc
  (refine e3a2 (inv_call hc.2) ?_;rintro es p q rfl u_)
  rfl
theorem ts_call {f:Nat} {xs:Xs} (hv:EvOK c (.call f xs)):TsOK c (.call f xs) :=
 ts_of_ev hv fun n sc e hc=>by
  simp only [chkX_q_call,Bool.and_eq_true] at hc
  (refine e3a2 (inv_call hc.2) ?_;rintro es p q rfl u_)
  rfl
theorem args_c {c':Cfg} {Own:Addr->Prop} {s:Shared} {vs:List Value} {ps:List PV} (h:All2 (ArgR c Own s) vs ps) (e1:c'.HC=c.HC:=by rfl) (e2:c'.h0=c.h0:=by rfl):All2 (ArgR c' Own s) vs ps :=
 h.mono fun v p q=>by
  cases q with
  | dat r=>exact .dat r
  | hdr r=>exact .hdr (e1 ▸ e2 ▸ r)
end
mutual
noncomputable def fX:X->Bool
 | .int _=>true | .str _=>true | .bool _=>true | .none=>true | .var _=>true | .glo _=>true
 | .neg _=>true
 | .bin _ a b=>fX a && fX b
 | .not a=>fX a
 | .cmp1 _ a b=>fX a && fX b
 | .cmp2 _ _ a b d=>fX a && fX b && fX d
 | .isC _ a b=>fX a && fX b
 | .isT _ a _=>fX a
 | .and xs=>fXs xs
 | .or xs=>fXs xs
 | .ite t a b=>fX t && fX a && fX b
 | .lst xs=>fXs xs
 | .tup xs=>fXs xs
 | .idx a i=>fX a && fX i
 | .slc a l h s=>fX a && fX l && fX h && fX s
 | .call _ xs=>fXs xs
 | .p1 _ a=>fX a
 | .p2 _ a b=>fX a && fX b
 | .lof it=>lofOk it && fIt it
 | .comp elt _ it ifs=>fX elt && fIt it && fXs ifs
 | .hget _ a=>fX a
 | .hkeys _=>true
 | .callh _ _ xs=>fXs xs
 | .hattr _=>false
noncomputable def fXs:Xs->Bool
 | .nil=>true
 | .cons x xs=>fX x && fXs xs
noncomputable def fIt:It->Bool
 | .val a=>fX a
 | .rng1 a=>fX a
 | .rng2 a b=>fX a && fX b
 | .rng3 a b d=>fX a && fX b && fX d
 | .enm a=>fX a
 | .gen a=>fX a
end
theorem fX_q_bin {z1 a b}:fX (.bin z1 a b)=(fX a && fX b):=rfl
theorem fX_q_not {a}:fX (.not a)=(fX a):=rfl
theorem fX_q_cmp1 {z1 a b}:fX (.cmp1 z1 a b)=(fX a && fX b):=rfl
theorem fX_q_cmp2 {z1 z2 a b d}:fX (.cmp2 z1 z2 a b d)=(fX a && fX b && fX d):=rfl
theorem fX_q_isC {z1 a b}:fX (.isC z1 a b)=(fX a && fX b):=rfl
theorem fX_q_isT {z1 a z2}:fX (.isT z1 a z2)=(fX a):=rfl
theorem fX_q_and {xs}:fX (.and xs)=(fXs xs):=rfl
theorem fX_q_or {xs}:fX (.or xs)=(fXs xs):=rfl
theorem fX_q_ite {t a b}:fX (.ite t a b)=(fX t && fX a && fX b):=rfl
theorem fX_q_lst {xs}:fX (.lst xs)=(fXs xs):=rfl
theorem fX_q_tup {xs}:fX (.tup xs)=(fXs xs):=rfl
theorem fX_q_idx {a i}:fX (.idx a i)=(fX a && fX i):=rfl
theorem fX_q_slc {a l h s}:fX (.slc a l h s)=(fX a && fX l && fX h && fX s):=rfl
theorem fX_q_call {z1 xs}:fX (.call z1 xs)=(fXs xs):=rfl
theorem fX_q_p1 {z1 a}:fX (.p1 z1 a)=(fX a):=rfl
theorem fX_q_p2 {z1 a b}:fX (.p2 z1 a b)=(fX a && fX b):=rfl
theorem fX_q_comp {elt z1 it ifs}:fX (.comp elt z1 it ifs)=(fX elt && fIt it && fXs ifs):=rfl
theorem fX_q_hget {z1 a}:fX (.hget z1 a)=(fX a):=rfl
theorem fX_q_callh {z1 z2 xs}:fX (.callh z1 z2 xs)=(fXs xs):=rfl
theorem fXs_q_cons {x xs}:fXs (.cons x xs)=(fX x && fXs xs):=rfl
theorem fIt_q_val {a}:fIt (.val a)=(fX a):=rfl
theorem fIt_q_rng1 {a}:fIt (.rng1 a)=(fX a):=rfl
theorem fIt_q_rng2 {a b}:fIt (.rng2 a b)=(fX a && fX b):=rfl
theorem fIt_q_rng3 {a b d}:fIt (.rng3 a b d)=(fX a && fX b && fX d):=rfl
theorem fIt_q_enm {a}:fIt (.enm a)=(fX a):=rfl
theorem fIt_q_gen {a}:fIt (.gen a)=(fX a):=rfl
structure Out (c:Cfg):Prop where
 fn:∀ f pvs d,c.T f pvs=some d->FunCt c f
 gen:∀ a,EvOK c a->GenOK c a
 get:∀ i a,EvOK c a->EvOK c (.hget i a)
 callh:∀ f i xs,EvsOK c xs->EvOK c (.callh f i xs)
 keys:∀ i,EvOK c (.hkeys i)
section
variable {c:Cfg}
mutual
theorem all_X (C:CfgOK c) (O:Out c):∀ x,fX x=true->EvOK c x/\TsOK c x
 | .int i,_=>⟨ev_int i,ts_of_ev (ev_int i) fun n sc e h=>by simp only [chkX_q_int] at h;(refine e2a1 (inv_int h) ?_;rintro u_ u_ rfl);rfl⟩
 | .str i,_=>⟨ev_str i,ts_of_ev (ev_str i) fun n sc e h=>by simp only [chkX_q_str] at h;(refine e2a1 (inv_str h) ?_;rintro u_ u_ rfl);rfl⟩
 | .bool i,_=>⟨ev_bool i,ts_of_ev (ev_bool i) fun n sc e h=>by simp only [chkX_q_bool] at h;(refine e2a1 (inv_bool h) ?_;rintro u_ u_ rfl);rfl⟩
 | .none,_=>⟨ev_none,ts_of_ev ev_none fun n sc e h=>by simp only [chkX_q_none] at h;(refine e2a1 (inv_none h) ?_;rintro u_ u_ rfl);rfl⟩
 | .var i,_=>⟨ev_var i,ts_of_ev (ev_var i) fun n sc e h=>by simp only [chkX_q_var] at h;(refine e1a2 (inv_var h) ?_;rintro u_ rfl u_);rfl⟩
 | .glo i,_=>⟨ev_glo C i,ts_of_ev (ev_glo C i) fun n sc e h=>by simp only [chkX_q_glo] at h;(refine e1a2 (inv_glo h) ?_;rintro u_ rfl u_);rfl⟩
 | .neg i,_=>⟨ev_neg i,ts_of_ev (ev_neg i) fun n sc e h=>by simp only [chkX_q_neg] at h;(refine e3a1 (inv_neg h) ?_;rintro u_ u_ u_ rfl);rfl⟩
 | .bin op a b,h=>by
  replace h:=c_bb (fX_q_bin.symm.trans h)
  have q:=ev_bin C (op:=op) (all_X C O a h.1).1 (all_X C O b h.2).1
  exact ⟨q,ts_bin C q⟩
 | .not a,h=>by
  dsimp only [fX_q_not] at h
  exact ⟨ev_not C (all_X C O a h).1,ts_not (all_X C O a h).2⟩
 | .cmp1 op a b,h=>by
  exact k_bb (fX_q_cmp1.symm.trans h) fun h_0 h_1=>⟨ev_cmp1 C (all_X C O a h_0).1 (all_X C O b h_1).1,ts_cmp1 C (all_X C O a h_0).1 (all_X C O b h_1).1⟩
 | .cmp2 o1 o2 a b d,h=>by
  exact k_bbb (fX_q_cmp2.symm.trans h) fun h_0 h_1 h_2=>⟨ev_cmp2 C (all_X C O a h_0).1 (all_X C O b h_1).1 (all_X C O d h_2).1,ts_cmp2 C (all_X C O a h_0).1 (all_X C O b h_1).1 (all_X C O d h_2).1⟩
 | .isC m a b,h=>by
  exact k_bb (fX_q_isC.symm.trans h) fun h_0 h_1=>⟨ev_isC C (all_X C O a h_0).1 (all_X C O b h_1).1,ts_isC C (all_X C O a h_0).1 (all_X C O b h_1).1⟩
 | .isT m a t,h=>by
  dsimp only [fX_q_isT] at h
  exact ⟨ev_isT C (all_X C O a h).1,ts_isT C (all_X C O a h).1⟩
 | .and xs,h=>by
  dsimp only [fX_q_and] at h
  (refine e0a6 (all_Xs C O xs h) ?_;rintro u_ u_ q1 q2 u_ u_)
  exact ⟨ev_and q1,ts_and q2⟩
 | .or xs,h=>by
  dsimp only [fX_q_or] at h
  (refine e0a6 (all_Xs C O xs h) ?_;rintro u_ u_ u_ u_ q1 q2)
  exact ⟨ev_or q1,ts_or q2⟩
 | .ite t a b,h=>by
  exact k_bbb (fX_q_ite.symm.trans h) fun h_0 h_1 h_2=>⟨ev_ite C (all_X C O t h_0).2 (all_X C O a h_1).1 (all_X C O b h_2).1,ts_ite C (all_X C O t h_0).2 (all_X C O a h_1).2 (all_X C O b h_2).2⟩
 | .lst xs,h=>by
  dsimp only [fX_q_lst] at h
  have q:=ev_lst C (all_Xs C O xs h).1
  exact ⟨q,ts_lst q⟩
 | .tup xs,h=>by
  dsimp only [fX_q_tup] at h
  have q:=ev_tup C (all_Xs C O xs h).1
  exact ⟨q,ts_tup q⟩
 | .idx a i,h=>by
  replace h:=c_bb (fX_q_idx.symm.trans h)
  have q:=ev_idx C (all_X C O a h.1).1 (all_X C O i h.2).1
  exact ⟨q,ts_idx q⟩
 | .slc a l hh s,h=>by
  replace h:=c_bbbb (fX_q_slc.symm.trans h)
  have q:=ev_slc C (all_X C O a h.1.1.1).1 (all_X C O l h.1.1.2).1 (all_X C O hh h.1.2).1 (all_X C O s h.2).1
  exact ⟨q,ts_slc q⟩
 | .call f xs,h=>by
  dsimp only [fX_q_call] at h
  have q:=ev_call C (O.fn f) (all_Xs C O xs h).1
  exact ⟨q,ts_call q⟩
 | .callh f i xs,h=>by
  dsimp only [fX_q_callh] at h
  have q:=O.callh f i xs (all_Xs C O xs h).1
  exact ⟨q,ts_callh q⟩
 | .p1 p a,h=>by
  dsimp only [fX_q_p1] at h
  have q:=ev_p1 C (p:=p) (all_X C O a h).1
  exact ⟨q,ts_p1 q⟩
 | .p2 p a b,h=>by
  replace h:=c_bb (fX_q_p2.symm.trans h)
  have q:=ev_p2 C (p:=p) (all_X C O a h.1).1 (all_X C O b h.2).1
  exact ⟨q,ts_p2 q⟩
 | .lof (.rng1 _),h=>nomatch (and2 h).1
 | .lof (.rng2 _ _),h=>nomatch (and2 h).1
 | .lof (.enm _),h=>nomatch (and2 h).1
 | .lof (.gen _),h=>nomatch (and2 h).1
 | .lof (.val _),h=>nomatch (and2 h).1
 | .lof (.rng3 a b d),h=>by
  replace h:=and3 (and2 h).2
  have q:=ev_lof_rng3 C (all_X C O a h.1.1).1 (all_X C O b h.1.2).1 (all_X C O d h.2).1
  exact ⟨q,ts_lof q⟩
 | .comp elt t it ifs,h=>by
  replace h:=c_bbb (fX_q_comp.symm.trans h)
  have q:=ev_comp C (t:=t) (all_It C O it h.1.2) (all_Xs C O ifs h.2).2.1 (all_X C O elt h.1.1).1
  exact ⟨q,ts_comp q⟩
 | .hget i a,h=>by
  dsimp only [fX_q_hget] at h
  have q:=O.get i a (all_X C O a h).1
  exact ⟨q,ts_of_ev q fun n sc e h=>by
   simp only [chkX_q_hget,Bool.and_eq_true] at h
   (refine e4a2 (inv_me1 h.2) ?_;rintro o z ap q rfl u_)
   rfl⟩
 | .hkeys i,h=>⟨O.keys i,ts_of_ev (O.keys i) fun n sc e h=>by
   simp only [chkX_q_hkeys,Bool.and_eq_true] at h
   (refine e3a2 (inv_me0 h.2) ?_;rintro o ap q rfl u_)
   rfl⟩
theorem all_Xs (C:CfgOK c) (O:Out c):∀ xs,fXs xs=true->EvsOK c xs/\TssOK c xs/\BoOK c .And (evAnd c.G c.T) xs/\BtOK c .And (evAnd c.G c.T) xs/\BoOK c .Or (evOr c.G c.T) xs/\BtOK c .Or (evOr c.G c.T) xs
 | .nil,_=>⟨evs_nil,tss_nil,bo_and_nil,bt_and_nil,bo_or_nil,bt_or_nil⟩
 | .cons x xs,h=>by
  replace h:=c_bb (fXs_q_cons.symm.trans h)
  obtain ⟨q1,q2⟩:=all_X C O x h.1
  (refine e0a6 (all_Xs C O xs h.2) ?_;rintro r1 r2 r3 r4 r5 r6)
  exact ⟨evs_cons C q1 r1,tss_cons C q2 r2,bo_and_cons C q1 r3,bt_and_cons C q2 r4,bo_or_cons C q1 r5,bt_or_cons C q2 r6⟩
theorem all_It (C:CfgOK c) (O:Out c):∀ it,fIt it=true->ItOK c it
 | .val a,h=>by simp only [fIt_q_val] at h;exact it_val C (all_X C O a h).1
 | .rng1 a,h=>by simp only [fIt_q_rng1] at h;exact it_rng1 C (all_X C O a h).1
 | .rng2 a b,h=>by simp only [fIt_q_rng2,Bool.and_eq_true] at h;exact it_rng2 C (all_X C O a h.1).1 (all_X C O b h.2).1
 | .rng3 a b d,h=>by simp only [fIt_q_rng3,Bool.and_eq_true] at h;exact it_rng3 C (all_X C O a h.1.1).1 (all_X C O b h.1.2).1 (all_X C O d h.2).1
 | .enm a,h=>by simp only [fIt_q_enm] at h;exact it_enm C (all_X C O a h).1
 | .gen a,h=>by simp only [fIt_q_gen] at h;exact it_ofGen (O.gen a (all_X C O a h).1)
end
end
noncomputable def isComp2:X->Bool
 | _=>false
mutual
noncomputable def fS:St->Bool
 | .asg _ _ e=>fX e && !isComp2 e
 | .asgH _=>true
 | .asgT _ e=>fX e
 | .swap _ _ a b=>fX a && fX b
 | .asg2 _ _ e=>fX e
 | .aug _ _ e=>fX e
 | .setI _ k e=>fX k && fX e
 | .augI _ k _ e=>fX k && fX e
 | .setJ _ k l e=>fX k && fX l && fX e
 | .app _ e=>fX e
 | .ext _ e=>fX e
 | .hadd _ a b=>fX a && fX b
 | .genLen _ _ a elt _ ifs=>fX a && fX elt && fXs ifs
 | .iff t a b=>fX t && fSs a && fSs b
 | .forS _ it b=>fIt it && fSs b
 | .whil t b=>fX t && fSs b
 | .ret e=>fX e
 | .frz _=>true
noncomputable def fSs:Sts->Bool
 | .nil=>true
 | .cons x xs=>fS x && fSs xs
end
theorem fS_q_asg {z1 z2 e}:fS (.asg z1 z2 e)=(fX e && !isComp2 e):=rfl
theorem fS_q_asgT {z1 e}:fS (.asgT z1 e)=(fX e):=rfl
theorem fS_q_swap {z1 z2 a b}:fS (.swap z1 z2 a b)=(fX a && fX b):=rfl
theorem fS_q_asg2 {z1 z2 e}:fS (.asg2 z1 z2 e)=(fX e):=rfl
theorem fS_q_aug {z1 z2 e}:fS (.aug z1 z2 e)=(fX e):=rfl
theorem fS_q_setI {z1 k e}:fS (.setI z1 k e)=(fX k && fX e):=rfl
theorem fS_q_app {z1 e}:fS (.app z1 e)=(fX e):=rfl
theorem fS_q_hadd {z1 a b}:fS (.hadd z1 a b)=(fX a && fX b):=rfl
theorem fS_q_iff {t a b}:fS (.iff t a b)=(fX t && fSs a && fSs b):=rfl
theorem fS_q_forS {z1 it b}:fS (.forS z1 it b)=(fIt it && fSs b):=rfl
theorem fS_q_whil {t b}:fS (.whil t b)=(fX t && fSs b):=rfl
theorem fS_q_ret {e}:fS (.ret e)=(fX e):=rfl
theorem fS_q_augI {z1 k z2 e}:fS (.augI z1 k z2 e)=(fX k && fX e):=rfl
theorem fS_q_setJ {z1 k l e}:fS (.setJ z1 k l e)=(fX k && fX l && fX e):=rfl
theorem fS_q_ext {z1 e}:fS (.ext z1 e)=(fX e):=rfl
theorem fS_q_genLen {z1 z2 a elt z3 ifs}:fS (.genLen z1 z2 a elt z3 ifs)=(fX a && fX elt && fXs ifs):=rfl
theorem fSs_q_cons {x xs}:fSs (.cons x xs)=(fS x && fSs xs):=rfl
structure OutS (c:Cfg) (W:Nat):Prop where
 o:Out c
 made:∀ i,StOK c W (.asgH i)
 add:∀ i a b,EvOK c a->EvOK c b->StOK c W (.hadd i a b)
section
variable {c:Cfg}
theorem all_asg (C:CfgOK c) (O:Out c) (x:X) (h:fX x=true) (h2:isComp2 x=false):AsgOK c x:=by
 by_cases hx:isCompX x=false
 ·exact asg_of (all_X C O x h).1 hx
 ·cases x with
  | comp elt t it ifs =>
   have h:=and3 h
   exact asg_comp C (all_It C O it h.1.2) (all_Xs C O ifs h.2).2.1 (all_X C O elt h.1.1).1
  | _=>exact absurd rfl hx
theorem all_Gl (C:CfgOK c) {W:Nat} (O:OutS c W) (x:St) (h:fS x=true):GlOK c W x:=by
 rintro j g a elt t ifs rfl
 simp only [fS_q_genLen,Bool.and_eq_true] at h
 exact st_genLen C W (O.o.gen a (all_X C O.o a h.1.1).1) (all_Xs C O.o ifs h.2).2.1 (all_X C O.o elt h.1.2).1 j g a elt t ifs rfl
mutual
theorem all_St (C:CfgOK c) {W:Nat} (O:OutS c W):∀ x,fS x=true->StOK c W x
 | .asg m i e,h=>by exact k_bn (fS_q_asg.symm.trans h) fun h_0 h_1=>st_asg W (all_asg C O.o e h_0 h_1)
 | .asgH i,_=>O.made i
 | .asgT is e,h=>by simp only [fS_q_asgT] at h;exact st_asgT W (all_X C O.o e h).1
 | .swap i j a b,h=>by simp only [fS_q_swap,Bool.and_eq_true] at h;exact st_swap W (all_X C O.o a h.1).1 (all_X C O.o b h.2).1
 | .asg2 i j e,h=>by simp only [fS_q_asg2] at h;exact st_asg2 W (all_X C O.o e h).1
 | .aug i op e,h=>by simp only [fS_q_aug] at h;exact st_aug W (all_X C O.o e h).1
 | .augI i k op e,h=>by simp only [fS_q_augI,Bool.and_eq_true] at h;exact st_augI W (all_X C O.o k h.1).1 (all_X C O.o e h.2).1
 | .setI i k e,h=>by simp only [fS_q_setI,Bool.and_eq_true] at h;exact st_setI W (all_X C O.o k h.1).1 (all_X C O.o e h.2).1
 | .setJ i k l e,h=>by simp only [fS_q_setJ,Bool.and_eq_true] at h;exact st_setJ W (all_X C O.o k h.1.1).1 (all_X C O.o l h.1.2).1 (all_X C O.o e h.2).1
 | .ext i e,h=>by simp only [fS_q_ext] at h;exact st_ext C W (all_X C O.o e h).1
 | .app i e,h=>by simp only [fS_q_app] at h;exact st_app C W (all_X C O.o e h).1
 | .hadd i a b,h=>by simp only [fS_q_hadd,Bool.and_eq_true] at h;exact O.add i a b (all_X C O.o a h.1).1 (all_X C O.o b h.2).1
 | .iff t a b,h=>by simp only [fS_q_iff,Bool.and_eq_true] at h;exact st_iff C W (all_X C O.o t h.1.1).2 (all_Sts C O a h.1.2) (all_Sts C O b h.2)
 | .forS t it b,h=>by simp only [fS_q_forS,Bool.and_eq_true] at h;exact st_forS C W (all_It C O.o it h.1) (all_Sts C O b h.2)
 | .whil t b,h=>by simp only [fS_q_whil,Bool.and_eq_true] at h;exact st_whil W (all_X C O.o t h.1).2 (all_Sts C O b h.2)
 | .ret e,h=>by simp only [fS_q_ret] at h;exact st_ret W (all_X C O.o e h).1
 | .genLen j g a elt t ifs,h=>fun n A env Bad M M' F P E E' r s x Q Er X hc ho hx h1 h2=>by simp [chkS_q_genLen] at hc
 | .frz i,h=>fun n A env Bad M M' F P E E' r s x Q Er X hc ho hx h1 h2=>by simp [chkS_q_frz] at hc
theorem all_Sts (C:CfgOK c) {W:Nat} (O:OutS c W):∀ xs,fSs xs=true->StsOK c W xs
 | .nil,_=>sts_nil W
 | .cons x xs,h=>by
  exact k_bb (fSs_q_cons.symm.trans h) fun h_0 h_1=>sts_cons W (all_St C O x h_0) (all_Gl C O x h_0) (all_Sts C O xs h_1)
end
end
theorem wrap_bind {α β γ:Type} (m:Sem α) (f:α->Sem β) (K:β->Sem γ) (H:Value->Sem γ) (gd lv):(m >>= f).wrap K H gd lv=m.wrap (fun a=>(f a).wrap K H gd lv) H gd lv:=by
 rw [Sem.bind_eq_wrap',Sem.wrap_wrap]
 rfl
section
variable {M:Model} {A:Around} {R:GenEnd} {Y:Protocol} {n:Nat} {s₀:Shared} {c:Code} {fs:List Frame} {s:Shared} {env:Env}
 {K:Flow->Sem Fin} {H:Value->Sem Fin} {gd:Bool->Bool} {lv:List Value->List Value}
theorem seg_If {test:Expr} {body orelse:List Stmt} {pos:Pos}
  (h:∀ Er,wpAny M (A.over c fs) (isTrue test env (eval test env)) (fun b s'=>Seg M A R Y n s₀ c ((execs (if b=true then body else orelse) env).wrap K H gd lv) fs s') Er s) :
  Seg M A R Y n s₀ c ((exec (.If test body orelse pos) env).wrap K H gd lv) fs s:=by
 rw [exec_If]
 refine seg_at ?_
 show Seg M A R Y n s₀ c ((isTrue test env (eval test env) >>= fun b=>if b=true then execs body env else execs orelse env).wrap K H gd lv) fs s
 rw [wrap_bind]
 refine seg_wrap (wpAny_mono (h _) (fun b s' hb=>?_) fun u_ u_ x=>x)
 induction b with
 | true=>exact hb
 | false=>exact hb
theorem seg_For {target iter:Expr} {body:List Stmt} {pos:Pos} (hs:∀ x,foldedSetIterable iter env x=pure x)
  (h:∀ Er,wpAny M (A.over c fs) (eval iter env) (fun x s₁=>wpAny M (A.over c fs) (pyIter x) (fun it s₂=>∀ p,Seg M A R Y n s₀ (.forLoop target it body [] env) (M.den (.forLoop target it body [] env))
   (.ret (fun r=>((match r with | .ok f=>(.pure f:Sem Flow) | .error e=>.raise e).onRaise fun (x:Value)=>do
    if (<-field x 1) == Value.none then unsupported "frame.own-activation:exception-without-traceback"
    setFlight x env.frame).wrap K H gd lv) none (gd false) (lv []) c p []::fs) s₂) Er s₁) Er s) :
  Seg M A R Y n s₀ c ((exec (.For target iter body [] pos) env).wrap K H gd lv) fs s:=by
 rw [exec_For]
 refine seg_at ?_
 show Seg M A R Y n s₀ c ((eval iter env >>= fun v=>foldedSetIterable iter env v >>= fun x=>standAt iter.pos >>= fun u_=>holding [x] (pyIter x) >>= fun it=>runOwn (.forLoop target it body [] env) env).wrap K H gd lv) fs s
 rw [wrap_bind]
 refine seg_wrap (wpAny_mono (h _) (fun x s₁ h₁=>?_) fun u_ u_ x=>x)
 rw [hs x]
 refine seg_at ?_
 show Seg M A R Y n s₀ c ((holding [x] (pyIter x) >>= fun it=>runOwn (.forLoop target it body [] env) env).wrap K H gd lv) fs s₁
 rw [wrap_bind]
 refine seg_wrap (wpAny_holding (wpAny_mono h₁ (fun it s₂ h₂=>?_) fun u_ u_ x=>x))
 exact seg_call h₂
end
section
variable {prog:Program} {w:World} {A:Around} {R:GenEnd} {Y:Protocol} {n:Nat} {s₀:Shared} {fs:List Frame} {s:Shared} {env:Env}
set_option tactic.hygienic true in
theorem seg_forLoop {target:Expr} {it:Value} {body:List Stmt}
  (h:∀ Er,wpAny (model prog w) (A.over (.forLoop target it body [] env) fs) (pyNext it) (fun r s₁=>match r with
    | none=>Seg (model prog w) A R Y n s₀ (.block [] env) (.pure (.done .next)) fs s₁
    | some v=>wpAny (model prog w) (A.over (.forLoop target it body [] env) fs) (letOwnedTupleGo target it v) (fun _ s₂=>wpAny (model prog w) (A.over (.forLoop target it body [] env) fs) (assign target env v) (fun _ s₃ =>
      Seg (model prog w) A R Y n s₀ (.forLoop target it body [] env) ((execs body env).wrap (fun f=>match f with
       | .next | .cont=>.pure (.again (.forLoop target it body [] env))
       | .brk=>.pure (.done .next)
       | .ret v=>.pure (.done (.ret v))) (fun e=>(do noteFrame e env;theTreesLotGoes e:Sem Unit).wrap (fun _=>.raise e) .raise id id) id id) fs s₃) Er s₂) Er s₁) Er s) :
  Seg (model prog w) A R Y n s₀ (.forLoop target it body [] env) ((model prog w).den (.forLoop target it body [] env)) fs s:=by
 show Seg _ A R Y n s₀ _ ((forTurn target it body [] env).onRaise (fun x=>do noteFrame x env;theTreesLotGoes x)) fs s
 rw [Sem.onRaise_eq_wrap]
 have hH:(fun e=>(do noteFrame e env;theTreesLotGoes e:Sem Unit).bind fun _=>(.raise e:Sem Fin))=fun e=>(do noteFrame e env;theTreesLotGoes e:Sem Unit).wrap (fun _=>.raise e) .raise id id:=by
  funext e;exact Sem.bind_eq_wrap _ _
 rw [hH]
 generalize (fun e=>(do noteFrame e env;theTreesLotGoes e:Sem Unit).wrap (fun _=>(.raise e:Sem Fin)) .raise id id)=HN at h ⊢
 show Seg _ A R Y n s₀ _ ((standAt target.pos >>= fun _=>(pyNext it).onRaise (fun _=>standAt { target.pos with line:=0 }) >>= fun r=>match r with
  | none=>again (.block [] env)
  | some v=>letOwnedTupleGo target it v >>= fun _=>assign target env v >>= fun _=>execs body env >>= fun f=>match f with
   | .next | .cont=>again (.forLoop target it body [] env)
   | .brk=>pure (.done .next)
   | .ret v=>pure (.done (.ret v))).wrap .pure HN id id) fs s
 refine seg_at ?_
 show Seg _ A R Y n s₀ _ (((pyNext it).onRaise (fun _=>standAt { target.pos with line:=0 }) >>= fun r=>match r with
  | none=>again (.block [] env)
  | some v=>letOwnedTupleGo target it v >>= fun _=>assign target env v >>= fun _=>execs body env >>= fun f=>match f with
   | .next | .cont=>again (.forLoop target it body [] env)
   | .brk=>pure (.done .next)
   | .ret v=>pure (.done (.ret v))).wrap .pure HN id id) fs s
 rw [wrap_bind]
 refine seg_wrap (wpAny_onRaise (wpAny_mono (h _) (fun r s₁ h₁=>?_) fun _ _ h'=>wpAny_standAt h'))
 induction r with
 | none=>exact seg_again rfl h₁
 | some v =>
  show Seg _ A R Y n s₀ _ ((letOwnedTupleGo target it v >>= fun _=>assign target env v >>= fun _=>execs body env >>= fun f=>match f with
   | .next | .cont=>again (.forLoop target it body [] env)
   | .brk=>pure (.done .next)
   | .ret v=>pure (.done (.ret v))).wrap .pure HN id id) fs s₁
  rw [wrap_bind]
  refine seg_wrap (wpAny_mono h₁ (fun _ s₂ h₂=>?_) fun _ _ x=>x)
  rw [wrap_bind]
  refine seg_wrap (wpAny_mono h₂ (fun _ s₃ h₃=>?_) fun _ _ x=>x)
  rw [wrap_bind]
  rw [Sem.wrap_congr (execs body env) id id (K':=fun f=>match f with
       | .next | .cont=>.pure (.again (.forLoop target it body [] env))
       | .brk=>.pure (.done .next)
       | .ret v=>.pure (.done (.ret v))) (H':=HN) (fun f=>by cases f <;> rfl) (fun e=>rfl)]
  exact h₃
end
noncomputable def noOwn:Addr->Prop:=fun u_=>False
theorem Rd0.flatH {Own Own':Addr->Prop} {h h':Heap} {v:Value} {d:PyData} (hn:noL d=true) (x:Rd0 Own h v d):Rd0 Own' h' v d:=by
 cases d with
 | none=>rw [x.none];exact .mkNone
 | bool b=>rw [x.bool];exact .mkBool
 | int i=>(refine e1a1 x.int ?_;rintro t rfl);exact .mkInt
 | str i=>(refine e1a1 x.str ?_;rintro t rfl);exact .mkStr
 | list _=>exact absurd hn Bool.false_ne_true
 | tuple _=>exact absurd hn Bool.false_ne_true
 | dict _=>exact absurd hn Bool.false_ne_true
structure GX (c:Cfg) (env:Env) (P:Nat->Option Value) (E:AE) (s:Shared):Prop where
 eok:EnvOK env
 base:Base c s.heap
 sto:Sto env s.heap P
 nocell:env.cells=[]
 vars:∀ i pv,E i=some pv->∃ v d,P i=some v/\pv=.dat d/\noL d=true/\Rd0 noOwn s.heap v d
 nl:c.h0.get? env.locals=none
 arg:∃ x,E 16=some x
structure Wait (c:Cfg) (L:Addr) (s s':Shared):Prop where
 base:Base c s'.heap
 l:∀ o,s.heap.get? L=some o->s'.heap.get? L=some o
 f:∀ b o fs,o.data=.fields fs->s.heap.get? b=some o->s'.heap.get? b=some o
section
variable {c:Cfg} {env:Env} {P P':Nat->Option Value} {E E':AE} {s s':Shared} {A:Around}
theorem GX.cx (X:GX c env P E s) (R:Room 0 A):Cx c 0 A noOwn env (fun u_=>0) E s:=by
 refine ⟨X.eok,R,X.base,⟨?_⟩,fun a h=>h.elim,fun x a h=>by rw [X.nocell] at h;exact nso h⟩
 (refine e1a2 X.sto.ns ?_;rintro m hm hl)
 refine ⟨m,hm,fun i pv e u_=>?_⟩
 (refine e2a4 (X.vars i pv e) ?_;rintro v d h1 rfl u_ h2)
 exact ⟨v,hl i v h1,.dat h2⟩
theorem GX.stp (X:GX c env P E s) (x:Stp s s'):GX c env P E s' :=
 ⟨X.eok,X.base.keep x.keep,X.sto.keep x.keep,X.nocell,fun i pv e=>let ⟨v,d,h1,h2,h3,h4⟩:=X.vars i pv e;⟨v,d,h1,h2,h3,h4.keep x.keep⟩,X.nl,X.arg⟩
theorem GX.move (X:GX c env P E s) (B:Base c s'.heap) (hL:∀ o,s.heap.get? env.locals=some o->s'.heap.get? env.locals=some o):GX c env P E s' :=
 ⟨X.eok,B,X.sto.at hL (fun x a u_ h=>by rw [X.nocell] at h;exact nso h),X.nocell,fun i pv e=>let ⟨v,d,h1,h2,h3,h4⟩:=X.vars i pv e;⟨v,d,h1,h2,h3,h4.flatH h3⟩,X.nl,X.arg⟩
theorem GX.wait (X:GX c env P E s) (w:Wait c env.locals s s'):GX c env P E s':=X.move w.base w.l
theorem GX.kb {ids:List Nat} {h':Heap} (X:GX c env P E s) (k:Kb env ids s.heap h'):∀ b o,b≠env.locals->s.heap.get? b=some o->h'.get? b=some o :=
 fun b o hb e=>k b o hb (fun i u_ u_ hl=>by rw [X.nocell] at hl;exact nso hl) e
theorem GX.base_kb {ids:List Nat} {h':Heap} (X:GX c env P E s) (k:Kb env ids s.heap h'):Base c h' :=
 X.base.new fun b o e0 e=>X.kb k b o (fun q=>by rw [q,X.nl] at e0;exact nso e0) e
theorem GX.nohd (X:GX c env P E s) {o:Obj} (e:s.heap.get? env.locals=some o):¬ (o.data=.plain\/HdD o):=by
 (refine e1a2 X.sto.ns ?_;rintro m ⟨o',es,ep,ho',hd',hk,hm⟩ hl)
 rw [e] at ho';(replace ho':=(Option.some.inj ho').symm;subst ho')
 (refine e1a1 X.arg ?_;rintro x hx)
 (refine e2a2 (X.vars 16 x hx) ?_;rintro v d h1 u_)
 rintro (h | ⟨hs,t,u,n,h⟩)
 ·rw [h] at hd';cases hd'
 ·rw [h] at hd'
  cases hd'
  rcases hl 16 v h1 with ⟨u_,q⟩ | ⟨u_,a,q,u_⟩
  ·rw [<-hm (nm 16)] at q
   have:nsFind #[⟨hs,.str "_headers" t,u⟩] (nm 16)=none:=by
    unfold nsFind findBy
    rw [show (#[⟨hs,.str "_headers" t,u⟩]:Array DictEntry).find? (fun e=>e.key.isStr (nm 16))=none from by
     rw [Array.find?_singleton]
     exact if_neg (show ¬ ((Str.ofString "_headers" == nm 16)=true) by decide +kernel)]
    rfl
   rw [this] at q;exact nso q
  ·rw [X.nocell] at q;exact nso q
theorem GX.locd (X:GX c env P E s) {o:Obj} (e:s.heap.get? env.locals=some o):∃ es n,o.data=.dict es n:=by
 (refine e1a2 X.sto.ns ?_;rintro m ⟨o',es,ep,ho',hd',u_⟩ u_)
 rw [e] at ho';(replace ho':=(Option.some.inj ho').symm;subst ho');exact ⟨_,_,hd'⟩
theorem GX.mv {old:Addr->Prop} {h':Heap} {tk:Nat} {l:List Addr} (X:GX c env P E s) (hl:∀ b∈l,¬ old b/\∀ o,s.heap.get? b=some o->∃ fs,o.data=.fields fs) (k:∀ b o,b≠env.locals->b ∉ l->s.heap.get? b=some o->h'.get? b=some o) :
  Mv old [env.locals] [] s { s with heap:=h',toks:=tk }:=by
 refine ⟨fun b o hb q e=>k b o (fun h=>hb (h ▸ List.mem_cons_self)) (fun m=>?_) e,fun b o vs n hd e=>k b o (fun h=>?_) (fun m=>?_) e,fun b o hd e=>k b o (fun h=>?_) (fun m=>?_) e,Nat.le_refl _,fun u_ u_ u_=>rfl,fun x=>x,rfl⟩
 ·rcases q with q | q
  ·exact (hl b m).1 q
  ·(refine e1a1 ((hl b m).2 o e) ?_;rintro fs hf);exact q fs hf
 ·(refine e2a1 (X.locd (h ▸ e)) ?_;rintro es n' hq);rw [hd] at hq;cases hq
 ·(refine e1a1 ((hl b m).2 o e) ?_;rintro fs hf);rw [hd] at hf;cases hf
 ·exact X.nohd (h ▸ e) hd
 ·(refine e1a1 ((hl b m).2 o e) ?_;rintro fs hf)
  rcases hd with hd | ⟨u_,u_,u_,u_,hd⟩ <;> rw [hd] at hf <;> cases hf
theorem GX.set {ids:List Nat} {h':Heap} {tk:Nat} (X:GX c env P E s) (k:Kb env ids s.heap h') (So:Sto env h' P') (G:Got noOwn ids h' P P' E E') (hn:∀ j∈ids,∀ d,E' j=some (.dat d)->noL d=true) (h16:16 ∉ ids):GX c env P' E' { s with heap:=h',toks:=tk }:=by
 refine ⟨X.eok,X.base_kb k,So,X.nocell,fun j pv e=>?_,X.nl,?_⟩
 ·by_cases hj:j∈ids
  ·(refine e2a3 ((G j).1 hj) ?_;rintro v d h1 h2 h3)
   rw [h2] at e
   (replace e:=(Option.some.inj e).symm;subst e)
   exact ⟨v,d,h1,rfl,hn j hj d h2,h3⟩
  ·obtain ⟨h1,h2⟩:=(G j).2 hj
   rw [h2] at e
   (refine e2a4 (X.vars j pv e) ?_;rintro v d q1 q2 q3 q4)
   exact ⟨v,d,h1.trans q1,q2,q3,q4.flatH q3⟩
 ·(refine e1a1 X.arg ?_;rintro x hx)
  exact ⟨x,((G 16).2 h16).2.trans hx⟩
set_option tactic.hygienic true in
theorem g_asg {i:Nat} {e:X} {ex:Stmt} {d:PyData} {Q:Flow->Shared->Prop} {Er:Value->Shared->Prop} {old:Addr->Prop} (R:Room 0 A) (X:GX c env P E s) (he:EvOK c e)
  (hc:sAsg env.scope i (chkX c.fnm c.rk 0 env.scope e) ex=true) (ho:okX (fun _=>0) e=true) (h0:odX (fun _=>0) e=0) (hd:ev c.G c.T e E=some d) (hn:noL d=true) (hi:i≠16)
  (hn1:isCompX e=false)
  (h:∀ P' s',GX c env P' (E.set i (.dat d)) s'->Mv old [env.locals] [] s s'->(∀ b o,b≠env.locals->s.heap.get? b=some o->s'.heap.get? b=some o)->Q .next s'):wpAny (model c.prog c.w) A (exec ex env) Q Er s:=by
 (refine e3a4 (sAsg_inv hc) ?_;rintro p v pos rfl c1 c2 c3)
 have hlc:isLC v=false:=nlc_of fun a b d p e=>nbt (hn1.symm.trans (lc_comp (e ▸ c3)))
 refine wpAny_Assign_Name (he 0 A env _ _ E s v d _ Er (X.cx R) c3 ho hd fun w s' st r _=>?_) (swaps_not c2 hlc)
 rw [h0] at r
 have X1:=X.stp st
 refine store_ok X1.eok X1.sto c1 fun h' tk k So=>?_
 have G:Got noOwn [i] h' P (upd P i w) E (E.set i (.dat d)):=fun j=>⟨fun m=>by
  rw [List.mem_singleton.mp m]
  exact ⟨w,d,if_pos rfl,if_pos rfl,Rd0.flatH hn r⟩,fun m=>by
  have hj:¬ j=i:=fun e=>m (e ▸ List.mem_singleton.mpr rfl)
  exact ⟨if_neg hj,if_neg hj⟩⟩
 refine h _ _ (X1.set k So G (fun j hj d' e=>?_) (fun m=>hi (List.mem_singleton.mp m).symm)) ((Mv.of_stp st).trans (X1.mv (l:=[]) (fun b m=>nomatch m) fun b o hb _ e=>X1.kb k b o hb e)) fun b o hb e=>X1.kb k b o hb (st.keep b o e)
 rw [List.mem_singleton.mp hj] at e
 have e:some (PV.dat d)=some (.dat d'):=by rw [<-e];exact (if_pos rfl).symm
 cases e
 exact hn
end
noncomputable def gR (L a:Addr):GenEnd:=fun n s₀ r s₁=>r=.ok (.ret .none)/\(n=0/\Mv (fun b=>b<=a) [L] [] s₀ s₁)
noncomputable def gY (c:Cfg) (L a:Addr) (all:List PyData):Protocol:=fun m s₀ v s kap =>
 (∃ d,all[all.length - 1 - m]?=some d/\Rd0 noOwn s.heap v d)/\Base c s.heap/\(∃ o,s.heap.get? L=some o)/\Mv (fun b=>b<=a) [L] [] s₀ s/\∀ s'',Wait c L s s''->kap (.send .none) s''
noncomputable def xE1:X:=.tup (.cons (.var 19) (.cons (.bin .add (.str [92]) (.var 20)) .nil))
noncomputable def xE2:X:=.tup (.cons (.var 19) (.cons (.var 20) .nil))
noncomputable def xE3:X:=.tup (.cons (.var 19) (.cons (.str [92]) .nil))
noncomputable def xT2:X:=.cmp1 .eq (.var 20) (.str [92])
theorem ev_E1 {c:Cfg} (C:CfgOK c):EvOK c xE1:=ev_tup C (evs_cons C (ev_var 19) (evs_cons C (ev_bin C (ev_str _) (ev_var 20)) evs_nil))
theorem ev_E2 {c:Cfg} (C:CfgOK c):EvOK c xE2:=ev_tup C (evs_cons C (ev_var 19) (evs_cons C (ev_var 20) evs_nil))
theorem ev_E3 {c:Cfg} (C:CfgOK c):EvOK c xE3:=ev_tup C (evs_cons C (ev_var 19) (evs_cons C (ev_str _) evs_nil))
theorem ts_T2 {c:Cfg} (C:CfgOK c):TsOK c xT2:=ts_cmp1 C (ev_var 20) (ev_str _)
theorem ts_T1 {c:Cfg}:TsOK c (.var 112):=ts_of_ev (ev_var 112) fun n sc e h=>by simp only [chkX_q_var] at h;(refine e1a2 (inv_var h) ?_;rintro u_ rfl u_);rfl
section
variable {c:Cfg} {env:Env} {P:Nat->Option Value} {E:AE} {s s₀:Shared} {A:Around} {a:Addr} {all:List PyData} {n:Nat} {code:Code} {fs:List Frame}
 {K:Flow->Sem Fin} {H:Value->Sem Fin} {gd:Bool->Bool} {lv:List Value->List Value}
set_option tactic.hygienic true in
theorem g_yield {e:X} {ex:Expr} {yp pos:Pos} {d:PyData} (R:Room 0 (A.over code fs)) (X:GX c env P E s) (he:EvOK c e) (hc:chkX c.fnm c.rk 0 env.scope e ex=true) (ho:okX (fun _=>0) e=true) (h0:odX (fun _=>0) e=0)
  (hd:ev c.G c.T e E=some d) (hidx:all[all.length - 1 - n]?=some d) (hfs:splitAtGen fs=none) (hgd:gd false=false) (hfg:fs.any Frame.guarded=false) (hM:Mv (fun b=>b<=a) [env.locals] [] s₀ s)
  (h:∀ s'',GX c env P E s''->(∀ b o fs,o.data=.fields fs->s.heap.get? b=some o->s''.heap.get? b=some o)->Seg (model c.prog c.w) A (gR env.locals a) (gY c env.locals a all) n s'' code (K .next) fs s'') :
  Seg (model c.prog c.w) A (gR env.locals a) (gY c env.locals a all) (n+1) s₀ code ((exec (.Expr (.Yield (some ex) yp) pos) env).wrap K H gd lv) fs s:=by
 refine seg_Expr_Yield hfs hgd hfg (he 0 _ env _ _ E s ex d _ _ (X.cx R) hc ho hd fun v s' st r _=>?_) X.eok.co (not_inter X.eok)
 intro kap hk
 rw [h0] at r
 have X1:=X.stp st
 exact ⟨⟨d,hidx,r⟩,X1.base,e1a2 X1.sto.ns fun u_ q u2_=>e3a2 q fun o u3_ u4_ ho u5_=>⟨o,ho⟩,hM.trans (.of_stp st),fun s'' w=>hk .none s'' (h s'' (X1.wait w) fun b o fs hf e=>w.f b o fs hf (st.keep b o e))⟩
theorem g_step {i:Nat} {e:X} {ex:Stmt} {d:PyData} {rest:List Stmt} (R:Room 0 (A.over code fs)) (X:GX c env P E s) (he:EvOK c e)
  (hc:sAsg env.scope i (chkX c.fnm c.rk 0 env.scope e) ex=true) (ho:okX (fun u_=>0) e=true) (h0:odX (fun u_=>0) e=0) (hd:ev c.G c.T e E=some d) (hn:noL d=true) (hi:i≠16)
  (hn1:isCompX e=false) (hM:Mv (fun b=>b<=a) [env.locals] [] s₀ s)
  (h:∀ P' s',GX c env P' (E.set i (.dat d)) s'->Mv (fun b=>b<=a) [env.locals] [] s₀ s'->(∀ b o,b≠env.locals->s.heap.get? b=some o->s'.heap.get? b=some o) ->
   Seg (model c.prog c.w) A (gR env.locals a) (gY c env.locals a all) n s₀ code ((execs rest env).wrap K H gd lv) fs s') :
  Seg (model c.prog c.w) A (gR env.locals a) (gY c env.locals a all) n s₀ code ((execs (ex::rest) env).wrap K H gd lv) fs s :=
 seg_execs_cons (seg_wrap (g_asg (old:=fun b=>b<=a) R X he hc ho h0 hd hn hi hn1 fun P' s' X' m k=>h P' s' X' (hM.trans m) k))
set_option tactic.hygienic true in
theorem g_if {t:X} {te:Expr} {body orelse:List Stmt} {pos:Pos} {d:PyData} {b:Bool} {rest:List Stmt} (R:Room 0 (A.over code fs)) (X:GX c env P E s) (ht:TsOK c t)
  (hc:chkX c.fnm c.rk 0 env.scope t te=true) (ho:okX (fun _=>0) t=true) (hd:ev c.G c.T t E=some d) (hb:tr d=some b)
  (h:∀ s',Stp s s'->Seg (model c.prog c.w) A (gR env.locals a) (gY c env.locals a all) n s₀ code ((execs (if b=true then body else orelse) env).wrap (fun f=>match f with | .next=>(execs rest env).wrap K H gd lv | f=>K f) H gd lv) fs s') :
  Seg (model c.prog c.w) A (gR env.locals a) (gY c env.locals a all) n s₀ code ((execs (.If te body orelse pos::rest) env).wrap K H gd lv) fs s :=
 seg_execs_cons (seg_If fun Er=>ht 0 _ env _ _ E s te d b _ Er (X.cx R) hc ho hd hb fun s' st=>h s' st)
end
theorem drop_idx {all ds:List PyData} {d:PyData} {k:Nat} (h:all.drop k=d::ds):all[all.length - 1 - ds.length]?=some d/\all.drop (k+1)=ds:=by
 have hl:all.length - k=ds.length+1:=by have:=congrArg List.length h;simpa using this
 have hk:all.length - 1 - ds.length=k:=by omega
 refine ⟨?_,?_⟩
 ·rw [hk]
  have:=congrArg (fun l=>l[0]?) h
  simpa using this
 ·have:=congrArg (List.drop 1) h
  rw [List.drop_drop] at this
  simpa [Nat.add_comm] using this
section
variable {c:Cfg} {env:Env} {P:Nat->Option Value} {E:AE} {s s₀:Shared} {A:Around} {a:Addr} {all:List PyData} {n:Nat}
structure GLoop (c:Cfg) (env:Env) (tg:Expr) (body:List Stmt):Prop where
 tgt:chkT env.scope (.tup [19,20]) tg=true
 sh:∃ t1 e1 y1 q1 s2 t2 s3 e2 y2 q2 p1 p2,body=[.If t1 [.Expr (.Yield (some e1) y1) q1,s2] [.If t2 [s3] [.Expr (.Yield (some e2) y2) q2] p2] p1] /\
  chkX c.fnm c.rk 0 env.scope (.var 112) t1=true/\chkX c.fnm c.rk 0 env.scope xE1 e1=true/\sAsg env.scope 112 (chkX c.fnm c.rk 0 env.scope (.bool false)) s2=true /\
  chkX c.fnm c.rk 0 env.scope xT2 t2=true/\sAsg env.scope 112 (chkX c.fnm c.rk 0 env.scope (.bool true)) s3=true/\chkX c.fnm c.rk 0 env.scope xE2 e2=true
noncomputable def ItSt (h:Heap) (e it:Addr) (x:Str) (t:Tok) (i:Nat):Prop:=(∃ old,IsEnum h e it i old)/\h.IsStrIter it "str_ascii_iterator" x t i
theorem ItSt.keep {h h':Heap} {e it:Addr} {x:Str} {t:Tok} {i:Nat} (S:ItSt h e it x t i) (k:∀ b o fs,(b=e\/b=it)->o.data=.fields fs->h.get? b=some o->h'.get? b=some o):ItSt h' e it x t i:=by
 (refine by_goal fun G_ hG_=>?_;rcases S with ⟨⟨o1,h1⟩,o2,h2,h3,h4⟩;all_goals (refine hG_ ?_;clear hG_ G_))
 exact ⟨⟨o1,k e _ _ (.inl rfl) rfl h1⟩,o2,k it o2 _ (.inr rfl) h4 h2,h3,h4⟩
theorem fld2 {h:Heap} {e it:Addr} (h1:∃ o fs,h.get? e=some o/\o.data=.fields fs) (h2:∃ o fs,h.get? it=some o/\o.data=.fields fs):∀ b∈[e,it],∀ o,h.get? b=some o->∃ fs,o.data=.fields fs:=by
 intro b hb o ho
 rcases List.mem_cons.mp hb with rfl | hb
 ·(refine e2a2 h1 ?_;try clear h1;rintro o1 fs q d)
  exact ⟨fs,(congrArg Obj.data (Option.some.inj (ho.symm.trans q))).trans d⟩
 ·obtain rfl:=List.mem_singleton.mp hb
  (refine e2a2 h2 ?_;try clear h2;rintro o1 fs q d)
  exact ⟨fs,(congrArg Obj.data (Option.some.inj (ho.symm.trans q))).trans d⟩
theorem ItSt.fld {h:Heap} {e it:Addr} {x:Str} {t:Tok} {i:Nat} (S:ItSt h e it x t i):∀ b∈[e,it],∀ o,h.get? b=some o->∃ fs,o.data=.fields fs :=
 let ⟨⟨_,h1⟩,_,h2,_,h4⟩:=S
 fld2 ⟨_,_,h1,rfl⟩ ⟨_,_,h2,h4⟩
section
variable {code:Code} {fs:List Frame} {K:Flow->Sem Fin} {H:Value->Sem Fin} {gd:Bool->Bool} {lv:List Value->List Value}
set_option tactic.hygienic true in
theorem g_body (C:CfgOK c) {tg:Expr} {body:List Stmt} (B:GLoop c env tg body) (R:Room 0 (A.over code fs)) (hfs:splitAtGen fs=none) (hgd:gd false=false) (hfg:fs.any Frame.guarded=false)
  {i:Nat} {b:Bool} {cc:Nat} {r:List Nat} {k:Nat} (X:GX c env P E s) (e19:E 19=some (.dat (.int i))) (e20:E 20=some (.dat (S [cc]))) (e112:E 112=some (.dat (.bool b))) (M:Mv (fun b=>b<=a) [env.locals] [] s₀ s)
  (hk:all.drop k=iterEsc (cc::r) i b)
  (again:∀ (b':Bool) (s₀' s':Shared) (P':Nat->Option Value) (E':AE) (k':Nat),GX c env P' E' s'->E' 112=some (.dat (.bool b'))->E' 19=some (.dat (.int i)) ->
   (∀ x o fs,x≠env.locals->o.data=.fields fs->s.heap.get? x=some o->s'.heap.get? x=some o)->Mv (fun b=>b<=a) [env.locals] [] s₀' s'->all.drop k'=iterEsc r (i+1) b' ->
   Seg (model c.prog c.w) A (gR env.locals a) (gY c env.locals a all) (iterEsc r (i+1) b').length s₀' code (K .next) fs s') :
  Seg (model c.prog c.w) A (gR env.locals a) (gY c env.locals a all) (iterEsc (cc::r) i b).length s₀ code ((execs body env).wrap K H gd lv) fs s:=by
 (refine by_goal fun G_ hG_=>?_;rcases B with ⟨htg,t1,e1,y1,q1,s2,t2,s3,e2,y2,q2,p1,p2,rfl,b1,b2,b3,b4,b5,b6⟩;all_goals (refine hG_ ?_;clear hG_ G_))
 clear htg
 refine g_if R X ts_T1 b1 rfl (d:=.bool b) (b:=b) (by (dsimp only [ev_q_var];rw [datOf,e112])) rfl fun s4 st4=>?_
 have X4:=X.stp st4
 have M4:=M.trans (.of_stp st4)
 clear M
 induction b with
 | true =>
  obtain ⟨hix,hk1⟩:=drop_idx (show all.drop k=.tuple [.int i,S [92,cc]]::iterEsc r (i+1) false from hk)
  refine seg_execs_cons (g_yield R X4 (ev_E1 C) b2 rfl rfl (d:=.tuple [.int i,S [92,cc]]) ?_ hix hfs hgd hfg M4 fun s5 X5 I5=>?_)
  ·simp only [xE1,ev_q_str,ev_q_var,ev_q_bin,ev_q_tup,evs_q_nil,evs_q_cons,datOf,e19,e20,Option.bind_some]
   rfl
  ·refine g_step R X5 (ev_bool false) b3 rfl rfl rfl rfl (by decide) rfl (.refl s5) fun P6 s6 X6 M6 k6=>?_
   exact again false s5 s6 P6 _ (k+1) X6 rfl e19 (fun y o f hy hf q=>k6 y o hy (I5 y o f hf (st4.keep y o q))) M6 hk1
 | false =>
  have hev:ev c.G c.T xT2 E=some (.bool (decide ([cc]=[92]))):=by
   simp only [xT2,ev_q_str,ev_q_var,ev_q_cmp1,datOf,e20,Option.bind_some]
   rfl
  refine g_if R X4 (ts_T2 C) b4 rfl hev rfl fun s5 st5=>?_
  have X5:=X4.stp st5
  have M5:=M4.trans (.of_stp st5)
  have st5:=st4.trans st5
  clear hev X X4 M4 st4
  by_cases h92:cc=92
  ·subst h92
   refine g_step R X5 (ev_bool true) b5 rfl rfl rfl rfl (by decide) rfl M5 fun P6 s6 X6 M6 k6=>?_
   exact again true s₀ s6 P6 _ k X6 rfl e19 (fun y o f hy hf q=>k6 y o hy (st5.keep y o q)) M6 hk
  ·rw [if_neg (by simp [h92])]
   have hn:(iterEsc (cc::r) i false)=.tuple [.int i,S [cc]]::iterEsc r (i+1) false:=if_neg h92
   rw [hn] at hk ⊢
   obtain ⟨hix,hk1⟩:=drop_idx hk
   refine seg_execs_cons (g_yield R X5 (ev_E2 C) b6 rfl rfl (d:=.tuple [.int i,S [cc]]) ?_ hix hfs hgd hfg M5 fun s6 X6 I6=>?_)
   ·simp only [xE2,ev_q_var,ev_q_tup,evs_q_nil,evs_q_cons,datOf,e19,e20,Option.bind_some]
   ·exact again false s6 s6 P _ (k+1) X6 e112 e19 (fun y o f hy hf q=>I6 y o f hf (st5.keep y o q)) (.refl s6) hk1
end
set_option tactic.hygienic true in
theorem g_loop (C:CfgOK c) {tg:Expr} {body:List Stmt} {e it:Addr} {x:Str} {t:Tok} {kf:Result->Sem Fin} {cf:Code} {p kp} (hR:∀ code,code=(.forLoop tg (.ref e) body [] env:Code)->Room 0 (A.over code [.ret kf none false [] cf p kp]))
  (B:GLoop c env tg body) (hei:e≠it) (heL:e≠env.locals) (hiL:it≠env.locals) (hae:a < e) (hai:a < it) (h0e:c.h0.get? e=none) (h0i:c.h0.get? it=none) (hh:A.handled=none) (hx:asc (sl x)=true) (hlen:(sl x).length<=100000)
  (after:∀ (i:Nat) (b:Bool) (s₀ s:Shared) (P:Nat->Option Value) (E:AE) (k:Nat),GX c env P E s->E 112=some (.dat (.bool b))->(b=true->E 19=some (.dat (.int ((i:Int) - 1))))->Mv (fun b=>b<=a) [env.locals] [] s₀ s ->
   all.drop k=iterEsc [] i b->Seg (model c.prog c.w) A (gR env.locals a) (gY c env.locals a all) (iterEsc [] i b).length s₀ cf (kf (.ok .next)) [] s) :
  ∀ (l:List Nat) (i:Nat) (b:Bool) (s₀ s:Shared) (P:Nat->Option Value) (E:AE) (k:Nat),(sl x).drop i=l->i<=(sl x).length->GX c env P E s->E 112=some (.dat (.bool b))->(b=true->E 19=some (.dat (.int ((i:Int) - 1)))) ->
   ItSt s.heap e it x t i->Mv (fun b=>b<=a) [env.locals] [] s₀ s->all.drop k=iterEsc l i b ->
   Seg (model c.prog c.w) A (gR env.locals a) (gY c env.locals a all) (iterEsc l i b).length s₀ (.forLoop tg (.ref e) body [] env) ((model c.prog c.w).den (.forLoop tg (.ref e) body [] env)) [.ret kf none false [] cf p kp] s:=by
 have htg:=B.tgt
 (refine e3a1 (chkT_is htg) ?_;rintro es kk pp rfl)
 have R:=hR _ rfl
 have D:=Draws.strAscii (prog:=c.prog) (w:=c.w) (A:=(A.over (.forLoop (.Tuple es kk pp) (.ref e) body [] env) [.ret kf none false [] cf p kp]).in1) R.hand it x t
 have W:=WalksT.enumerateD D e hei (by simpa using hei) (by simp)
 have hsz:x.cps.size=(sl x).length:=by simp [sl]
 have nold:∀ b∈[e,it],¬ b<=a:=mem2 (P:=fun b=>¬ b<=a) (Nat.not_le.mpr hae) (Nat.not_le.mpr hai)
 have hLm:env.locals ∉ [e,it]:=by simp [heL.symm,hiL.symm]
 have base':∀ {h h':Heap},Base c h->(∀ b o,b ∉ [e,it]->h.get? b=some o->h'.get? b=some o)->Base c h':=fun Bs k=>Bs.new fun b o e0 e1=>k b o (fun m=>mem2 (P:=fun b=>c.h0.get? b=some o->False) (fun e0=>nso (h0e.symm.trans e0)) (fun e0=>nso (h0i.symm.trans e0)) b m e0) e1
 have mvI:∀ {P:Nat->Option Value} {E:AE} {s:Shared} {h':Heap} {tk:Tok},GX c env P E s->(∀ b∈[e,it],∀ o,s.heap.get? b=some o->∃ fs,o.data=.fields fs)->(∀ b o,b ∉ [e,it]->s.heap.get? b=some o->h'.get? b=some o) ->
   GX c env P E { s with heap:=h',toks:=tk }/\Mv (fun b=>b<=a) [env.locals] [] s { s with heap:=h',toks:=tk }:=fun X I hk =>
  ⟨X.move (base' X.base hk) fun o e=>hk _ o hLm e,X.mv (old:=fun b=>b<=a) (l:=[e,it]) (fun b hb=>⟨nold b hb,I b hb⟩) fun b o _ hb e=>hk b o hb e⟩
 intro l
 induction l with
 | nil =>
  intro i b s₀ s P E k hl hi X hb h19 I hM hk
  have hii:i=x.cps.size:=by
   have:=congrArg List.length hl
   simp only [List.length_drop,List.length_nil] at this
   grind
  refine seg_forLoop fun Er=>W.done s _ _ (hii ▸ I) fun h' tk hk'=>?_
  have q:=mvI (tk:=tk) X I.fld hk'
  exact seg_leaf (.ok .next) (after i b s₀ _ P E k q.1 hb h19 (hM.trans q.2) hk)
 | cons ch r ih =>
  intro i b s₀ s P E k hl hi X hb h19 I hM hk
  have hlt:i < (sl x).length:=Nat.lt_of_not_le fun h=>by rw [List.drop_of_length_le h] at hl;exact nomatch hl
  have hch:(sl x)[i]?=some ch:=by
   have:=congrArg (fun l=>l[0]?) hl
   simpa using this
  have hl1:(sl x).drop (i+1)=r:=by
   have:=congrArg (List.drop 1) hl
   rw [List.drop_drop] at this
   simpa [Nat.add_comm] using this
  refine seg_forLoop fun Er=>W.item i s _ _ (hsz ▸ hlt) I fun T vals h' tk hP hTs hT hm hk'=>?_
  have q1:=mvI (tk:=tk) X I.fld hk'
  have M1:=hM.trans q1.2
  have X1:=q1.1
  clear X hM q1
  have hm0:=hm
  (refine e0a4 hm ?_;try clear hm;rintro ⟨xo,he1⟩ hit1 hTe hTi)
  refine W.go es kk pp i T _ _ Er hm0 fun h2 st2 hk2=>?_
  clear hm0
  have q2:=mvI (tk:=tk) X1 (let ⟨_,h2,_,h4⟩:=hit1;fld2 ⟨_,_,he1,rfl⟩ ⟨_,_,h2,h4⟩) hk2
  have X2:=q2.1
  have M2:=M1.trans q2.2
  clear X1 M1 q2
  (refine e2a2 hP ?_;try clear hP;rintro tt xv hPx rfl)
  (refine e2a2 hPx ?_;try clear hPx;rintro cc u hcc rfl)
  have:cc=ch:=by
   have h3:(sl x)[i]?=some cc:=by simp [sl,hcc]
   rw [hch] at h3;exact (Option.some.inj h3).symm
  subst this
  have hrd:Rd0 noOwn h2 (.ref T) (.tuple [.int i,S [cc]]):=by
   (refine e1a2 hT ?_;try clear hT;rintro o ho r)
   exact Rd0.tuple ⟨o,hk2 T o (by simp [hTe,hTi]) ho,r⟩ (.cons .mkInt (.cons .mkStr .nil))
  refine asg_tgt (s:={ s with heap:=h2,toks:=tk }) R.hand X2.eok htg hrd (E:=E) (E':=(E.set 19 (.dat (.int i))).set 20 (.dat (S [cc]))) rfl X2.sto fun h3 tk3 P3 kb3 So3 G3=>?_
  have X3:GX c env P3 _ { s with heap:=h3,toks:=tk3 }:=X2.set kb3 So3 G3 (mem2 (P:=fun j=>∀ d:PyData,((E.set 19 (.dat (.int i))).set 20 (.dat (S [cc]))) j=some (.dat d)->noL d=true) (fun d ed=>by cases ed;rfl) (fun d ed=>by cases ed;rfl)) (by decide)
  have M3:=M2.trans (X2.mv (h':=h3) (tk:=tk3) (old:=fun b=>b<=a) (l:=[]) (fun b m=>nomatch m) fun b o hb _ e=>X2.kb kb3 b o hb e)
  refine g_body C B R rfl rfl rfl X3 rfl rfl hb M3 hk fun b' s₀' s' P' E' k' X' q1 q2 q3 q4 q5=>?_
  refine seg_again rfl (ih (i+1) b' s₀' s' P' E' k' hl1 (Nat.succ_le_of_lt hlt) X' q1 (fun _=>by rw [q2];congr 3;lia) ?_ q4 q5)
  exact ItSt.keep st2 fun y o f hy hf e=>q3 y o f (fun z=>hy.elim (fun q=>heL (q.symm.trans z)) (fun q=>hiL (q.symm.trans z))) hf (X2.kb kb3 y o (fun z=>hy.elim (fun q=>heL (q.symm.trans z)) (fun q=>hiL (q.symm.trans z))) e)
end
section
variable {c:Cfg} {env:Env} {P:Nat->Option Value} {E:AE} {s s₀:Shared} {A:Around} {a:Addr} {all:List PyData} {n:Nat}
theorem roomF {body:List Stmt} (R:Room 2 A):Room 0 (A.over (.func body env) []) :=
 ⟨by show A.depth+0+(1+0+0+0)+0 < _;have:=R.depth;lia,by show A.units+0+3+20 * 0+200 < _;have:=R.units;lia,R.hand⟩
theorem roomL {body lb:List Stmt} {tg:Expr} {it:Value} {kf p kp} (R:Room 2 A):Room 0 (A.over (.forLoop tg it lb [] env) [.ret kf none false [] (.func body env) p kp]) :=
 ⟨by show A.depth+((1+0+0+0)+0)+(0+0+0+0)+0 < _;have:=R.depth;lia,by show A.units+(3+0)+0+20 * 0+200 < _;have:=R.units;lia,R.hand⟩
structure GBody (c:Cfg) (env:Env) (body:List Stmt):Prop where
 sh:∃ s0 s1 tg iter lb p1 t3 e3 y3 q3 p3,body=[s0,s1,.For tg iter lb [] p1,.If t3 [.Expr (.Yield (some e3) y3) q3] [] p3]/\sAsg env.scope 19 (chkX c.fnm c.rk 0 env.scope (.int 0)) s0=true /\
  sAsg env.scope 112 (chkX c.fnm c.rk 0 env.scope (.bool false)) s1=true/\GLoop c env tg lb/\notSet iter=true/\kFn1 env.scope "enumerate" (chkX c.fnm c.rk 0 env.scope (.var 16)) iter=true /\
  chkX c.fnm c.rk 0 env.scope (.var 112) t3=true/\chkX c.fnm c.rk 0 env.scope xE3 e3=true
theorem g_func (C:CfgOK c) {body:List Stmt} {x:Str} (R:Room 2 A) (B:GBody c env body) (X:GX c env P E s) (h16:E 16=some (.dat (.str x))) (hx:asc (sl x)=true) (hlen:(sl x).length<=100000) (ha:∃ o,s.heap.get? a=some o) (hL:env.locals < a)
  (hM:Mv (fun b=>b<=a) [env.locals] [] s₀ s) (hall:all=iterEsc (sl x) 0 false) :
  Seg (model c.prog c.w) A (gR env.locals a) (gY c env.locals a all) all.length s₀ (.func body env) ((model c.prog c.w).den (.func body env)) [] s:=by
 (refine by_goal fun G_ hG_=>?_;rcases B with ⟨s0,s1,tg,iter,lb,p1,t3,e3,y3,q3,p3,rfl,b0,b1,bl,bn,bi,bt,be⟩;all_goals (refine hG_ ?_;clear hG_ G_))
 refine seg_func ?_
 refine g_step (roomF R) X (ev_int 0) b0 rfl rfl rfl rfl (by decide) rfl hM fun P1 s1' X1 M1 k1=>?_
 refine g_step (roomF R) X1 (ev_bool false) b1 rfl rfl rfl rfl (by decide) rfl M1 fun P2 s2 X2 M2 k2=>?_
 refine seg_execs_cons (seg_For (set_not bn) fun Er=>?_)
 (refine e3a4 (inv_fn1 bi) ?_;rintro z pz q rfl h1 h2 h3)
 refine wpAny_Call_NameR (glob_ty C (x:="enumerate") (by decide) X2.eok X2.base h1 ?_)
 rw [trees1 h2]
 have e16:((E.set 19 (.dat (.int 0))).set 112 (.dat (.bool false))) 16=some (.dat (.str x)):=h16
 have e112:((E.set 19 (.dat (.int 0))).set 112 (.dat (.bool false))) 112=some (.dat (.bool false)):=rfl
 generalize hE3:(E.set 19 (.dat (.int 0))).set 112 (.dat (.bool false))=E3 at X2 e16 e112
 refine PySem.callWith_type1 (ev_var 16 0 _ env _ _ E3 s2 z (.str x) _ Er (X2.cx (roomF R)) h3 rfl (by simp only [ev_q_var,datOf,e16]) fun v s3 st3 r u_=>?_)
 (refine e1a1 r.any.str ?_;rintro t rfl)
 have X3:=X2.stp st3
 have M3:=M2.trans (.of_stp st3)
 refine call_enumerate_str fun h' he hit hsz hkp=>wpAny_pyIter_enum he fun p=>?_
 have hasc:strIterType x="str_ascii_iterator":=by
  unfold strIterType
  refine if_pos ?_
  rw [<-Array.all_toList]
  refine List.all_eq_true.mpr fun c hc=>?_
  have:=List.all_eq_true.mp hx c hc
  simpa using this
 rw [hasc] at hit
 have st4:Stp s3 { s3 with heap:=h' }:=.heap hkp
 have X4:=X3.stp st4
 have M4:=M3.trans (.of_stp st4)
 have hLa:a < s3.heap.objs.size:=by
  (refine e1a1 ha ?_;try clear ha;rintro o ho)
  exact Heap.lt_size (st3.keep _ _ (k2 _ _ (Nat.ne_of_gt hL) (k1 _ _ (Nat.ne_of_gt hL) ho)))
 have fresh:∀ b,s3.heap.objs.size<=b->c.h0.get? b=none:=fun b hb=>by
  cases hh:c.h0.get? b with
  | none=>rfl
  | some o=>exact absurd (Heap.lt_size (X3.base.k0 b o hh)) (Nat.not_lt.mpr hb)
 subst hall
 refine g_loop C (t:=t) (a:=a) (fun code hc=>hc ▸ roomL R) bl (Nat.ne_of_gt (Nat.lt_succ_self _)) (Nat.ne_of_gt (Nat.lt_trans hL (Nat.lt_succ_of_lt hLa))) (Nat.ne_of_gt (Nat.lt_trans hL hLa)) (Nat.lt_succ_of_lt hLa) hLa (fresh _ (Nat.le_succ _)) (fresh _ (Nat.le_refl _))
  R.hand hx hlen ?_ (sl x) 0 false s₀ _ P2 E3 0 rfl (Nat.zero_le _) X4 e112 (fun h=>nomatch h) ⟨⟨_,he⟩,hit⟩ M4 rfl
 intro i b s₀' s' P' E' k' X' f112 f19 M' hk'
 show Seg _ A _ _ _ s₀' _ ((execs [.If t3 [.Expr (.Yield (some e3) y3) q3] [] p3] env).wrap _ _ id id) [] s'
 refine g_if (roomF R) X' ts_T1 bt rfl (d:=.bool b) (b:=b) (by simp only [ev_q_var,datOf,f112]) rfl fun s5 st5=>?_
 have X5:=X'.stp st5
 have M5:=M'.trans (.of_stp st5)
 induction b with
 | false =>
  rw [if_neg Bool.false_ne_true]
  exact seg_end (.ok (.ret .none)) ⟨rfl,rfl,M5⟩
 | true =>
  rw [if_pos rfl]
  have f19:=f19 rfl
  obtain ⟨hix,hk1⟩:=drop_idx (show _=PyData.tuple [.int ((i:Int) - 1),S [92]]::[] from hk')
  show Seg _ A _ _ (0+1) _ _ _ _ _
  refine seg_execs_cons (g_yield (roomF R) X5 (ev_E3 C) be rfl rfl (d:=.tuple [.int ((i:Int) - 1),S [92]]) ?_ hix rfl rfl rfl M5 fun s6 X6 I6=>?_)
  ·simp only [xE3,ev_q_str,ev_q_var,ev_q_tup,evs_q_nil,evs_q_cons,datOf,f19,Option.bind_some]
  ·exact seg_end (.ok (.ret .none)) ⟨rfl,rfl,.refl s6⟩
end
section
variable {prog:Program} {w:World} {A:Around} {Er:Value->Shared->Prop} {s:Shared}
theorem next_gen {a:Addr} {g n:Nat} {gs:GenState} {P:Nat->Shared->Shared->Prop} {Y:Protocol} {Q:Option Value->Shared->Prop} (hh:A.handled=none) (hl:s.heap.NoLimit) (hroom:A.depth < recursionLimit)
  (hg:s.heap.IsGen a g) (hgs:s.gens[g]?=some gs)
  (hgo:gs.Goes (model prog w) A.in1 (fun n s₀ r s₁=>r=.ok (.ret .none)/\P n s₀ s₁) Y n (.send .none) (s.setGen g .running))
  (hY:∀ v s₁ gs',gs'.bare=true->Y (n - 1) (s.setGen g .running) v s₁ (fun r' s''=>match n with
    | 0=>False
    | m+1=>gs'.Goes (model prog w) A.in1 (fun n s₀ r s₁=>r=.ok (.ret .none)/\P n s₀ s₁) Y m r' s'')->Q (some v) (s₁.setGen g gs'))
  (hP:∀ s₁,P n (s.setGen g .running) s₁->∀ h',KeepH s₁.heap h'->Q none { s₁.setGen g .finished with heap:=h' }) :
  wpAny (model prog w) A (pyNext (.ref a)) Q Er s:=by
 unfold pyNext
 refine wpAny_bind (wpAny_attempt (wpAny_callSpecial?_slot (name:=Str.ofString "__next__") hg.typeIs slot_gen_next (wpAny_call_entry slot_gen_next hg.typeIs entry_gen_next ?_ (args_gen_next _))))
 show wpAny _ A.in1 (Builtin.Generator.genWake (.ref a) (.send .none)) _ _ s
 unfold Builtin.Generator.genWake
 refine wpAny_bind (wpAny_holding (wpAny_genNumber hg (wpAny_bind (wpAny_genState hgs ?_))))
 cases gs with
 | running=>exact hgo.elim
 | finished=>exact hgo.elim
 | _ =>
  refine wpAny_bind (wpAny_roomToWake hl hroom ?_)
  show wpAny _ A.in1 (.resume g (.send .none) [] _) _ _ s
  refine wpAny_resumeQ hgs hgo (fun x s₁ hx=>?_) (fun v s₁ gs' hb hv=>wpAny_pure ⟨v,rfl,wpAny_pure (hY v s₁ gs' hb hv)⟩)
  obtain ⟨rfl,hp⟩:=hx
  show wpAny _ A.in1 (newExc (.type "StopIteration") [] >>= _) _ _ _
  refine wpAny_bind ?_
  simp only [newExc,newTuple]
  refine wpAny_bind (wpAny_newObj_type ?_ (by size_fits))
  refine wpAny_bind (m:=firstArgMember _ _) (wpAny_of_eq (a:=Value.none) (by first | rfl | (simp only [firstArgMember];rfl)) ?_)
  refine wpAny_newObj_type ?_ (by size_fits)
  simp only [raiseNew]
  refine wpAny_bind (wpAny_bind (wpAny_handled ?_))
  first | rw [show A.in1.handled=none from hh] | rw [hh]
  refine wpAny_throw ?_
  refine wpAny_bind (wpAny_isInstance (T:="StopIteration") (b:=true) ⟨_,Heap.get?_push_size _ rfl,rfl⟩ isSubtype_stop ?_)
  exact wpAny_pure (hP s₁ hp _ fun b o hb=>Heap.get?_push_of_some _ (Heap.get?_push_of_some _ hb))
end
structure GAt (c:Cfg) (A:Around) (a:Addr) (g:Nat) (L:Addr) (all ds:List PyData) (s:Shared):Prop where
 gen:s.heap.IsGen a g
 la:∃ o,s.heap.get? L=some o
 suf:∃ k,all.drop k=ds
 go:∃ gs,s.gens[g]?=some gs/\∀ s'',Wait c L s s''->gs.Goes (model c.prog c.w) A.in1 (gR L a) (gY c L a all) ds.length (.send .none) s''
theorem setGen_get {s:Shared} {g:Nat} {x y:GenState} (h:s.gens[g]?=some x):(s.setGen g y).gens[g]?=some y:=setGen_self h
theorem setGen_ne {s:Shared} {g i:Nat} {y:GenState} (h:i≠g):(s.setGen g y).gens[i]?=s.gens[i]?:=(GenOnly.setGen s g y).2 i h
theorem setGen_size {s:Shared} {g:Nat} {y:GenState}:(s.setGen g y).gens.size=s.gens.size:=(GenOnly.setGen s g y).1
theorem setGen_bare {s:Shared} {g:Nat} {y:GenState} (hy:y.bare=true) (h:AllBare s.gens):AllBare (s.setGen g y).gens:=by
 intro z hz
 (refine e1a1 (Array.mem_iff_getElem.mp hz) ?_;rintro i hz_;obtain ⟨hi,rfl⟩:=hz_)
 by_cases e:i=g
 ·subst e
  have hi':i < s.gens.size:=by rwa [setGen_size] at hi
  have h1:=setGen_get (y:=y) (Array.getElem?_eq_getElem hi')
  rw [Array.getElem?_eq_getElem hi] at h1
  rw [Option.some.inj h1];exact hy
 ·have h1:=setGen_ne (s:=s) (y:=y) e
  have hi':i < s.gens.size:=by rwa [setGen_size] at hi
  rw [Array.getElem?_eq_getElem hi,Array.getElem?_eq_getElem hi'] at h1
  rw [Option.some.inj h1]
  exact h _ (Array.getElem_mem hi')
theorem Mv.gens {old old':Addr->Prop} {L:Addr} {g:Nat} {s s₁:Shared} {x y:GenState} {h':Heap} (hx:s.gens[g]?=some x) (hy:y.bare=true) (ho:∀ b,old' b->old b) (m:Mv old [L] [] (s.setGen g .running) s₁) (k:KeepH s₁.heap h') :
  Mv old' [L] [g] s { s₁.setGen g y with heap:=h' }:=by
 have hg:g < s.gens.size:=(Array.getElem?_eq_some_iff.mp hx).1
 refine ⟨fun b o hb q e=>k _ _ (m.keep b o hb (q.imp (ho b) id) e),fun b o vs n hd e=>k _ _ (m.seq b o vs n hd e),fun b o hd e=>k _ _ (m.hd b o hd e),?_,fun i hi hn=>?_,fun hb=>?_,m.os⟩
 ·show _<=(s₁.setGen g y).gens.size
  rw [setGen_size]
  have:=m.size
  rwa [setGen_size] at this
 ·have hig:i≠g:=fun e=>hn (e ▸ List.mem_cons_self)
  show (s₁.setGen g y).gens[i]?=_
  rw [setGen_ne hig,m.gold i (by rw [setGen_size];exact hi) (fun q=>nomatch q),setGen_ne hig]
 ·exact setGen_bare hy (m.bare (setGen_bare rfl hb))
noncomputable def pairD (d:PyData):Prop:=∃ i x,d=.tuple [.int i,.str x]
theorem iterEsc_pair:∀ (l:List Nat) (i:Nat) (b:Bool),∀ d∈iterEsc l i b,pairD d
 | [],_,false=>fun u_ m=>nomatch m
 | [],_,true=>fun d m=>by
  simp only [iterEsc,List.mem_cons,List.not_mem_nil,or_false] at m
  subst m;exact ⟨_,_,rfl⟩
 | ch::r,i,true=>fun d m=>by
  simp only [iterEsc,List.mem_cons] at m
  rcases m with rfl | m
  ·exact ⟨_,_,rfl⟩
  ·exact iterEsc_pair r (i+1) false d m
 | ch::r,i,false=>fun d m=>by
  simp only [iterEsc] at m
  split at m
  ·exact iterEsc_pair r (i+1) true d m
  ·rcases List.mem_cons.mp m with rfl | m
   ·exact ⟨_,_,rfl⟩
   ·exact iterEsc_pair r (i+1) false d m
theorem pair_rd {X Y:Addr->Prop} {h:Heap} {v:Value} {d:PyData} (hd:pairD d) (x:Rd0 X h v d):Rd0 Y h v d:=by
 (refine e2a1 hd ?_;clear hd;rintro i u rfl)
 ·(refine e2a3 x.untuple ?_;rintro a vs rfl ht hx)
  refine Rd0.tuple ht ?_
  generalize vs.toList=l at hx
  cases hx with
  | cons r1 r2 =>
   cases r2 with
   | cons r2 r3 =>
    cases r3
    (refine e1a1 r1.int ?_;rintro t rfl)
    (refine e1a1 r2.str ?_;rintro u rfl)
    exact .cons .mkInt (.cons .mkStr .nil)
section
variable {c:Cfg} {A:Around} {Er:Value->Shared->Prop} {s:Shared}
set_option tactic.hygienic true in
theorem Wk.gen {OX:Addr->Prop} {s0:Shared} {a:Addr} {g:Nat} {L:Addr} {all:List PyData} (R:Room 3 A) (hold:∀ b,(∃ o,s0.heap.get? b=some o)->b<=a) (hLa:a≠L) (hall:∀ d∈all,pairD d) :
  Wk c A OX s0 false (.ref a) [a,L] [L] [g] (GAt c A a g L all) (fun d ds v s=>GAt c A a g L all ds s/\Rd0 noOwn s.heap v d/\pairD d) where
 stay:=by
  rintro ds s s' st hk hg _
  (refine e1a2 st.go ?_;rintro gs h1 h2)
  exact ⟨let ⟨o,x,y,ho,r⟩:=st.gen;⟨o,x,y,hk a o (.inl List.mem_cons_self) ho,r⟩,let ⟨o,ho⟩:=st.la;⟨o,hk L o (.inl (by simp)) ho⟩,st.suf,gs,(hg g List.mem_cons_self).trans h1,
   fun s'' w=>h2 s'' ⟨w.base,fun o e=>w.l o (hk L o (.inl (by simp)) e),fun b o fs hf e=>w.f b o fs hf (hk b o (.inr ⟨fs,hf⟩) e)⟩⟩
 liv:=by
  rintro ds s st b hb
  simp only [List.mem_cons,List.not_mem_nil,or_false] at hb
  rcases hb with rfl | rfl
  ·(refine e3a2 st.gen ?_;rintro o _ _ ho _);exact ⟨o,ho⟩
  ·exact st.la
 next:=by
  rintro d ds s Q Er Bs st _ hQ
  (refine e1a2 st.go ?_;rintro gs hgs hgo)
  (refine e1a1 st.suf ?_;rintro k hk)
  obtain ⟨hix,hk1⟩:=drop_idx hk
  refine next_gen (P:=fun n s₀ s₁=>n=0/\Mv (fun b=>b<=a) [L] [] s₀ s₁) R.hand Bs.lim (by have:=R.depth;lia) st.gen hgs (hgo (s.setGen g .running) ⟨Bs,fun _ e=>e,fun _ _ _ _ e=>e⟩) (fun v s₁ gs' hb hv=>?_) (fun s₁ hp h' hk=>?_)
  ·(refine e0a5 hv ?_;try clear hv;rintro ⟨d',hix',hrd⟩ B1 l1 M1 hkap)
   have hix':all[all.length - 1 - ds.length]?=some d':=hix'
   rw [hix] at hix'
   replace hix':=Option.some.inj hix'
   subst hix'
   have hr:s₁.gens[g]?=some .running:=(M1.gold g (by rw [setGen_size];exact (Array.getElem?_eq_some_iff.mp hgs).1) (fun q=>nomatch q)).trans (setGen_get hgs)
   refine hQ v (s₁.setGen g gs') (Mv.gens hgs hb hold M1 (.refl _)) ⟨⟨?_,l1,⟨k+1,hk1⟩,gs',setGen_get hr,fun s'' w=>hkap s'' ⟨w.base,w.l,w.f⟩⟩,hrd,hall d ?_⟩
   ·(refine e3a2 st.gen ?_;rintro o x y ho r)
    exact ⟨o,x,y,M1.keep a o (fun m=>hLa (List.mem_singleton.mp m)) (.inl (Nat.le_refl _)) ho,r⟩
   ·exact List.mem_of_getElem? hix
  ·exact absurd hp.1 (Nat.succ_ne_zero _)
 go:=by
  rintro target d ds v s Q Er _ hz_
  (refine e0a3 hz_ ?_;try clear hz_;rintro st hrd hp)
  rintro _ hQ
  (refine e3a3 st.gen ?_;rintro o _ _ ho hc _)
  exact go_plain ho hc (by decide) (hQ s (.refl s) st (pair_rd hp hrd))
 done:=by
  rintro s Q Er Bs st hQ
  (refine e1a2 st.go ?_;rintro gs hgs hgo)
  refine next_gen (P:=fun n s₀ s₁=>n=0/\Mv (fun b=>b<=a) [L] [] s₀ s₁) R.hand Bs.lim (by have:=R.depth;lia) st.gen hgs (hgo (s.setGen g .running) ⟨Bs,fun _ e=>e,fun _ _ _ _ e=>e⟩) (fun v s₁ gs' hb hv=>?_) (fun s₁ hp h' hk=>?_)
  ·(refine e0a5 hv ?_;try clear hv;rintro _ B1 _ _ hkap)
   exact False.elim (hkap s₁ ⟨B1,fun _ e=>e,fun _ _ _ _ e=>e⟩)
  ·exact hQ _ (Mv.gens hgs rfl hold hp.2 hk)
 self:=by
  rintro ds s Q Er st hQ
  exact wpAny_pyIter_gen st.gen hQ
end
noncomputable def dYi (s:Stmt) (k:Expr->Bool):Bool:=dSExpr s fun e u1_=>dEYield e fun o u2_=>dsome o k
@[elab_as_elim] theorem dYi_elim {P:Stmt->Prop} {s:Stmt} {k:Expr->Bool} (h:dYi s k=true) (g:∀ x p q,k x=true->P (.Expr (.Yield (some x) p) q)):P s:=by
 refine dSExpr_elim h fun e q h=>?_
 refine dEYield_elim h fun o p h=>?_
 refine dsome_elim h fun x h=>?_
 exact g x p q h
section
variable (fnm:Nat->Str) (rk:Nat->Nat)
noncomputable def gIf2 (sc:Scope) (s:Stmt):Bool :=
 dSIf s fun t2 b o u1_=>dcons b fun s3 r=>dnil r (dcons o fun y r=>dnil r (dYi y fun e2=>chkX fnm rk 0 sc xT2 t2 && sAsg sc 112 (chkX fnm rk 0 sc (.bool true)) s3 && chkX fnm rk 0 sc xE2 e2))
noncomputable def gLb (sc:Scope) (lb:List Stmt):Bool :=
 dcons lb fun s r=>dnil r (dSIf s fun t1 b o u1_=>dcons b fun y r=>dcons r fun s2 r=>dnil r (dcons o fun s3 r=>dnil r (dYi y fun e1=>chkX fnm rk 0 sc (.var 112) t1 && chkX fnm rk 0 sc xE1 e1 && sAsg sc 112 (chkX fnm rk 0 sc (.bool false)) s2 && gIf2 fnm rk sc s3)))
noncomputable def gFor (sc:Scope) (s:Stmt):Bool :=
 dSFor s fun tg iter lb o u1_=>dnil o (chkT sc (.tup [19,20]) tg && notSet iter && kFn1 sc "enumerate" (chkX fnm rk 0 sc (.var 16)) iter && gLb fnm rk sc lb)
noncomputable def gEnd (sc:Scope) (s:Stmt):Bool :=
 dSIf s fun t3 b o u1_=>dnil o (dcons b fun y r=>dnil r (dYi y fun e3=>chkX fnm rk 0 sc (.var 112) t3 && chkX fnm rk 0 sc xE3 e3))
noncomputable def chkGen (sc:Scope) (body:List Stmt):Bool :=
 dcons body fun s0 r=>dcons r fun s1 r=>dcons r fun s2 r=>dcons r fun s3 r=>dnil r (sAsg sc 19 (chkX fnm rk 0 sc (.int 0)) s0 && sAsg sc 112 (chkX fnm rk 0 sc (.bool false)) s1 && gFor fnm rk sc s2 && gEnd fnm rk sc s3)
end
theorem gIf2_inv {fnm:Nat->Str} {rk:Nat->Nat} {sc:Scope} {s:Stmt} (h:gIf2 fnm rk sc s=true):∃ t2 s3 e2 y2 q2 p2,s=.If t2 [s3] [.Expr (.Yield (some e2) y2) q2] p2/\chkX fnm rk 0 sc xT2 t2=true/\sAsg sc 112 (chkX fnm rk 0 sc (.bool true)) s3=true/\chkX fnm rk 0 sc xE2 e2=true:=by
 refine dSIf_elim h fun t2 z1 z2 p2 h=>?_
 refine dcons_elim h fun s3 z3 h=>?_
 refine dnil_elim h fun h=>?_
 refine dcons_elim h fun z4 z5 h=>?_
 refine dnil_elim h fun h=>?_
 refine dYi_elim h fun e2 y2 q2 h=>?_
 exact k_bbb h fun h1 h2 h3=>⟨_,_,_,_,_,_,rfl,h1,h2,h3⟩
theorem gLb_inv {fnm:Nat->Str} {rk:Nat->Nat} {sc:Scope} {lb:List Stmt} (h:gLb fnm rk sc lb=true):∃ t1 e1 y1 q1 s2 s3 p1,lb=[.If t1 [.Expr (.Yield (some e1) y1) q1,s2] [s3] p1]/\chkX fnm rk 0 sc (.var 112) t1=true/\chkX fnm rk 0 sc xE1 e1=true/\sAsg sc 112 (chkX fnm rk 0 sc (.bool false)) s2=true/\gIf2 fnm rk sc s3=true:=by
 refine dcons_elim h fun z1 z2 h=>?_
 refine dnil_elim h fun h=>?_
 refine dSIf_elim h fun t1 z3 z4 p1 h=>?_
 refine dcons_elim h fun z5 z6 h=>?_
 refine dcons_elim h fun s2 z7 h=>?_
 refine dnil_elim h fun h=>?_
 refine dcons_elim h fun s3 z8 h=>?_
 refine dnil_elim h fun h=>?_
 refine dYi_elim h fun e1 y1 q1 h=>?_
 exact k_bbbb h fun h1 h2 h3 h4=>⟨_,_,_,_,_,_,_,rfl,h1,h2,h3,h4⟩
theorem gEnd_inv {fnm:Nat->Str} {rk:Nat->Nat} {sc:Scope} {s:Stmt} (h:gEnd fnm rk sc s=true):∃ t3 e3 y3 q3 p3,s=.If t3 [.Expr (.Yield (some e3) y3) q3] [] p3/\chkX fnm rk 0 sc (.var 112) t3=true/\chkX fnm rk 0 sc xE3 e3=true:=by
 refine dSIf_elim h fun t3 z1 z2 p3 h=>?_
 refine dnil_elim h fun h=>?_
 refine dcons_elim h fun z3 z4 h=>?_
 refine dnil_elim h fun h=>?_
 refine dYi_elim h fun e3 y3 q3 h=>?_
 exact k_bb h fun h1 h2=>⟨_,_,_,_,_,rfl,h1,h2⟩
theorem gFor_inv {fnm:Nat->Str} {rk:Nat->Nat} {sc:Scope} {s:Stmt} (h:gFor fnm rk sc s=true):∃ tg iter lb p1,s=.For tg iter lb [] p1/\chkT sc (.tup [19,20]) tg=true/\notSet iter=true/\kFn1 sc "enumerate" (chkX fnm rk 0 sc (.var 16)) iter=true/\gLb fnm rk sc lb=true:=by
 refine dSFor_elim h fun tg iter lb z1 p1 h=>?_
 refine dnil_elim h fun h=>?_
 exact k_bbbb h fun h1 h2 h3 h4=>⟨_,_,_,_,rfl,h1,h2,h3,h4⟩
theorem gLoop_of {c:Cfg} {env:Env} {tg:Expr} {lb:List Stmt} (ht:chkT env.scope (.tup [19,20]) tg=true) (h:gLb c.fnm c.rk env.scope lb=true):GLoop c env tg lb:=by
 (refine e7a5 (gLb_inv h) ?_;rintro t1 e1 y1 q1 s2 s3 p1 rfl g1 g2 g3 h)
 (refine e6a4 (gIf2_inv h) ?_;rintro t2 s3 e2 y2 q2 p2 rfl g4 g5 g6)
 exact ⟨ht,_,_,_,_,_,_,_,_,_,_,_,_,rfl,g1,g2,g3,g4,g5,g6⟩
theorem gBody_of {c:Cfg} {env:Env} {body:List Stmt} (h:chkGen c.fnm c.rk env.scope body=true):GBody c env body:=by
 refine dcons_elim h fun s0 z1 h=>?_
 refine dcons_elim h fun s1 z2 h=>?_
 refine dcons_elim h fun s2 z3 h=>?_
 refine dcons_elim h fun s3 z4 h=>?_
 refine dnil_elim h fun h=>?_
 (refine k_bbbb h ?_;clear h;rintro h1 h2 h3 h4)
 (refine e4a5 (gFor_inv h3) ?_;rintro tg iter lb p1 rfl g1 g2 g3 g4)
 (refine e5a3 (gEnd_inv h4) ?_;rintro t3 e3 y3 q3 p3 rfl g5 g6)
 exact ⟨_,_,_,_,_,_,_,_,_,_,_,rfl,h1,h2,gLoop_of g1 g4,g2,g3,g5,g6⟩
structure GenFn (c:Cfg) (fd:FuncData) (body:List Stmt):Prop where
 code:c.h0.CodeRec fd.code fd.qualname
 bd:fd.body=.stmts body
 isG:fd.scope.isGenerator=true
 co:fd.scope.isCoroutine=false
 kind:fd.scope.kind=.function
 more:fd.scope.more.any (fun (n,_)=>n == ("interactive":Str))=false
 glob:fd.globals=mainGlobals
 bui:fd.builtins=builtinsNs
 clo:fd.closure=[]
 names:∀ p∈fd.scope.names,p.2≠.cell/\p.2≠.free
 arg:fd.scope.names.lookup (nm 16)=some .local
 bind:∀ v:Value,bindArgs fd ⟨[v],[]⟩=pure [(nm 16,v)]
 chk:chkGen c.fnm c.rk fd.scope body=true
noncomputable def GenCt (c:Cfg):Prop:=∃ ga o fd body,c.mg "_iter_escaped_chars"=some (.ref ga)/\c.h0.get? ga=some o/\o.data=.func fd/\GenFn c fd body
section
variable {c:Cfg}
theorem gen_made (C:CfgOK c) {ga:Addr} {o:Obj} {fd:FuncData} {body:List Stmt} (hd:o.data=.func fd) (ho0:c.h0.get? ga=some o) (K:GenFn c fd body) {A:Around} {s:Shared} {x:Str} {t:Tok} {R:Result->Shared->Prop}
  (hroom:A.depth < recursionLimit) (B:Base c s.heap) (hx:asc (sl x)=true) (hlen:(sl x).length<=100000)
  (h:∀ a g L s',Stp s s'->s.heap.get? a=none->s.heap.get? L=none->a≠L->s.gens.size<=g->g < s'.gens.size->(∀ b,(∃ o,s'.heap.get? b=some o)->b<=a) ->
   (∀ A',Room 3 A'->GAt c A' a g L (iterEsc (sl x) 0 false) (iterEsc (sl x) 0 false) s')->R (.ok (.ret (.ref a))) s') :
  codeAny (model c.prog c.w) A (.call (.ref ga) ⟨[.str x t],[]⟩) R s:=by
 have hcr:s.heap.CodeRec fd.code fd.qualname:=by
  (refine e4a4 K.code ?_;rintro cc oc vs tq e1 e2 e3 e4)
  exact ⟨cc,oc,vs,tq,e1,B.k0 _ _ e2,e3,e4⟩
 refine codeAny_call_generator hroom (B.k0 _ _ ho0) hd K.co K.isG K.bd hcr ?_
 rw [K.bind]
 refine wpAny_pure (wpAny_newFunctionEnv (fun y hy=>(K.names y hy).1) (fun y hy=>?_) (fun h' hn' hs'=>?_) K.kind)
 ·rw [List.mem_singleton.mp hy];exact K.arg
 have hL:∀ b o,s.heap.get? b=some o->h'.get? b=some o:=fun b o e=>(hs'.2 b (Nat.ne_of_lt (Heap.lt_size e))).trans (Heap.get?_push_of_some _ e)
 have st1:Stp s { s with heap:=h',toks:=s.toks+[(nm 16,Value.str x t)].length }:=.of hL
 have B1:Base c h':=B.keep hL
 refine ⟨B1.lim,?_⟩
 generalize hE:newEnv fd.scope s.heap.objs.size fd.globals fd.closure (fd.qualname++".<locals>.") (some ga) fd.code none fd.builtins=env
 have e1:env.scope=fd.scope:=by rw [<-hE];rfl
 have e2:env.locals=s.heap.objs.size:=by rw [<-hE];rfl
 have e3:env.globals=mainGlobals:=by rw [<-hE];exact K.glob
 have e4:env.builtins=builtinsNs:=by rw [<-hE];exact K.bui
 have e5:env.cells=[]:=by rw [<-hE];exact K.clo
 have hsz:h'.objs.size=s.heap.objs.size+1:=by rw [hs'.1,Heap.size_push]
 have kd:∀ y,env.kindOf y=some .cell\/env.kindOf y=some .free->False:=by
  intro y hy
  have hy:env.scope.names.lookup y=some .cell\/env.scope.names.lookup y=some .free:=hy
  rw [e1] at hy
  rcases hy with q | q
  ·exact (K.names _ (mem_of_look q)).1 rfl
  ·exact (K.names _ (mem_of_look q)).2 rfl
 have eok:EnvOK env:=⟨by rw [e1];exact K.kind,e3,e4,by rw [e1];exact K.co,by rw [e1];exact K.more,fun y hy=>(kd y hy).elim,fun y z b hy=>by rw [e5] at hy;exact nso hy⟩
 generalize hO:({ cls:=.type "generator",data:=.fields #[.int s.gens.size 0,.str fd.name (s.toks+[(nm 16,Value.str x t)].length),.str fd.qualname (s.toks+[(nm 16,Value.str x t)].length+1)] }:Obj)=og
 have kp:KeepH h' (h'.push og):=.push _ _
 have hga:(h'.push og).get? h'.objs.size=some og:=Heap.get?_push_size _ (by rw [<-hO];rfl)
 refine h h'.objs.size s.gens.size s.heap.objs.size _ ?_ ?_ ?_ ?_ (Nat.le_refl _) ?_ ?_ ?_
 ·refine ⟨fun b o e=>kp _ _ (hL b o e),⟨?_,fun i hi=>?_,fun hb=>AllBare.push hb rfl⟩,rfl⟩
  ·show s.gens.size<=(s.gens.push _).size
   rw [Array.size_push];exact Nat.le_succ _
  ·show (s.gens.push _)[i]?=_
   rw [Array.getElem?_push,if_neg (Nat.ne_of_lt hi)]
 ·exact Heap.get?_none_of_le (by rw [hsz];exact Nat.le_succ _)
 ·exact Heap.get?_none_of_le (Nat.le_refl _)
 ·rw [hsz];exact Nat.succ_ne_self _
 ·show s.gens.size < (s.gens.push _).size
  rw [Array.size_push];exact Nat.lt_succ_self _
 ·rintro b hz_
  (refine e1a1 hz_ ?_;try clear hz_;rintro o hb)
  have:=Heap.lt_size hb
  rw [Heap.size_push] at this
  exact Nat.le_of_lt_succ this
 ·intro A' R'
  (refine e3a3 (id hn') ?_;rintro ol esl epl hol hdl hrl)
  refine ⟨⟨og,_,_,hga,by rw [<-hO],by rw [<-hO],by rw [<-hO]⟩,⟨_,kp _ _ hol⟩,⟨0,rfl⟩,.fresh (.func body env),Array.getElem?_push_size ..,fun s'' w=>⟨rfl,?_⟩⟩
  have X:GX c env (fun i=>if i=16 then some (.str x t) else none) (AE.set (fun u_=>none) 16 (.dat (.str x))) { s with heap:=h'.push og,toks:=s.toks+[(nm 16,Value.str x t)].length }:=by
   refine ⟨eok,B1.keep kp,⟨⟨_,by rw [e2];exact hn'.keeps kp,fun i v e=>?_⟩,fun y b hy=>(kd y (.inl hy)).elim⟩,e5,fun i pv e=>?_,?_,⟨_,rfl⟩⟩
   ·revert e
    refine ifs fun hi e=>?_
    (replace e:=(Option.some.inj e).symm;subst e)
    subst hi
    refine .inl ⟨?_,?_⟩
    ·show env.scope.names.lookup (nm 16)=_
     rw [e1];exact K.arg
    ·simp [List.lookup_cons]
   ·unfold AE.set at e
    revert e
    refine ifs fun hi e=>?_
    (replace e:=(Option.some.inj e).symm;subst e)
    exact ⟨_,_,if_pos hi,rfl,rfl,.mkStr⟩
   ·rw [e2]
    cases hh:c.h0.get? s.heap.objs.size with
    | none=>rfl
    | some o=>exact absurd (Heap.lt_size (B.k0 _ _ hh)) (Nat.lt_irrefl _)
  have X'':GX c env _ _ s'':=X.move w.base (by rw [e2];exact w.l)
  have:=g_func (all:=iterEsc (sl x) 0 false) (a:=h'.objs.size) (A:=A'.in1) (s₀:=s'') C (x:=x) ⟨by show A'.depth+2 < _;have:=R'.depth;lia,by show A'.units+1+20 * 2+200 < _;have:=R'.units;lia,R'.hand⟩ (gBody_of (by rw [e1];exact K.chk)) X'' rfl hx hlen
   ⟨og,w.f h'.objs.size og _ (by rw [<-hO]) hga⟩ (by rw [e2,hsz];exact Nat.lt_succ_self _) (.refl s'') rfl
  rw [e2] at this
  exact this
theorem it_gen (C:CfgOK c) (G:GenCt c) {a:X} (ha:EvOK c a):GenOK c a:=by
 intro n A env Own M E s e ds Q Er X hc ho he h
 simp only [chkIt_q_gen,Bool.and_eq_true,decide_eq_true_eq] at hc
 obtain ⟨hn,hc⟩:=hc
 dsimp only [okIt_q_gen] at ho
 revert he
 refine sbn fun d hd=>sbn fun l hl hz=>?_
 (refine e3a4 (inv_fn1 hc) ?_;rintro z p q rfl h1 h2 h3)
 revert hz
 refine ifs fun hq hz=>?_
 (replace hz:=(Option.some.inj hz).symm;subst hz)
 have hq0:∃ v0,d=.str v0:=by revert hl;generalize d=y0;intro hl;cases y0 <;> first | exact ⟨_,rfl⟩ | exact nso hl | exact nbt hl | cases hl
 (refine e1a1 hq0 ?_;try clear hq0;rintro x rfl)
 have hl:some (sl x)=some l:=hl
 (replace hl:=(Option.some.inj hl).symm;subst hl)
 (refine e4a4 G ?_;try clear G;rintro ga o fd body m1 m2 m3 K)
 refine wpAny_Call_NameR (ev_glob X.eok X.base h1 (by decide +kernel) (.inl m1) ?_)
 refine Calls.callWith_function (o:=o) (fd:=fd) (evalArgs_ns (.inr ⟨_,_,trees1 h2⟩) ?_)
 rw [trees1 h2]
 refine Calls.spliced_cons (ha n A env Own M E s z (.str x) _ Er X h3 ho hd fun v s1 st1 r u_=>Calls.spliced_nil ?_)
 (refine e1a1 r.any.str ?_;rintro t rfl)
 have B1:=X.base.keep st1.keep
 refine ⟨⟨B1.k0 _ _ m2,m3⟩,wpAny_call ?_⟩
 refine gen_made C m3 m2 K (by have:=X.room.depth;lia) B1 hq.1 hq.2 fun b g L s2 st2 f1 f2 hne g1 g2 hold hG=>?_
 have R3:Room 3 A:=X.room.le hn
 have G0:=hG A R3
 refine h _ s2 (st1.trans st2) ?_
 have none1:∀ b,s1.heap.get? b=none->s.heap.get? b=none:=fun b hb=>by
  cases hh:s.heap.get? b with
  | none=>rfl
  | some o=>rw [st1.keep _ _ hh] at hb;exact nsn hb
 refine ⟨[b,L],[L],[g],_,_,Wk.gen R3 hold hne (iterEsc_pair _ _ _),G0,fun y hy=>?_,fun y hy=>?_,fun y hy=>?_⟩
 ·rw [List.mem_singleton.mp hy]
  exact ⟨by simp,none1 _ f2⟩
 ·simp only [List.mem_cons,List.not_mem_nil,or_false] at hy
  rcases hy with rfl | rfl
  ·(refine e3a2 G0.gen ?_;rintro o u_ u_ ho u_)
   exact ⟨⟨o,ho⟩,.inl (none1 _ f1)⟩
  ·exact ⟨G0.la,.inl (none1 _ f2)⟩
 ·rw [List.mem_singleton.mp hy]
  exact ⟨Nat.le_trans st1.gk.size g1,g2⟩
end
namespace RF
theorem plainAttrs:PlainAttrs "re.Pattern" :=
 ⟨⟨"object.__getattribute__",by rw [typeLookup_type,builtinLookup_eq_fast];kernel_rfl,by decide +kernel⟩,by rw [typeLookup_type,builtinLookup_eq_fast];kernel_rfl⟩
theorem slot_search:Slot "re.Pattern" "search" "re.Pattern.search" :=
 .of (owner:="re.Pattern") (n:="search") (by rw [typeLookup_type,builtinLookup_eq_fast];kernel_rfl) (by decide +kernel) (by decide +kernel) (by decide +kernel)
  (by first | exact .inl (by decide +kernel) | exact .inr (by decide +kernel)) (by rw [isSubtype_type];kernel_rfl)
theorem type_search:typeOf (.builtin "re.Pattern.search")=pure (.type "method_descriptor"):=by show builtinType _=_;rw [builtinType_eq_fast];kernel_rfl
theorem entry_search:entryFor table "re.Pattern.search"=some Builtin.«re.Pattern.search»:=entryFor_of_tree (by kernel_rfl)
theorem args_search (a b:Value):argsOk "re.Pattern.search" ⟨[a,b],[]⟩:=by
 unfold argsOk;kernel_rfl
end RF
noncomputable def codeN:Array Nat:=#[14,10,4,1,1,22,0,31,16,127,0,13,7,22,0,31,16,127,0,1]
noncomputable def codeV:Array Nat:=#[14,14,4,1,1,9,4294966783,0,0,2147483648,0,0,0,0,0,13,11,9,4294966783,0,0,2147483648,0,0,0,0,0,1]
noncomputable def okc (c:Nat):Bool:=Nat.ble 32 c && Nat.blt c 127
noncomputable def okRes (r:Except String (Bool × Sre.Seen)):Bool:=match r with
 | .ok p=>!p.1
 | _=>false
theorem okRes_inv {r:Except String (Bool × Sre.Seen)} (h:okRes r=true):∃ seen',r=.ok (false,seen'):=by
 cases r with
 | error=>exact nbt h
 | ok p =>
  obtain ⟨b,s⟩:=p
  have hb:b=false:=nt h
  subst hb
  exact ⟨s,rfl⟩
theorem okc_at {P:Nat->Bool} (h:(List.range 95).all (fun k=>P (k+32))=true) {c:Nat} (hc:okc c=true):P c=true:=by
 (refine k_bb hc ?_;rintro h1 h2)
 have h1:=Nat.le_of_ble_eq_true h1
 have h2:c < 127:=Nat.le_of_ble_eq_true h2
 have:=List.all_eq_true.mp h (c - 32) (List.mem_range.mpr (Nat.sub_lt_right_of_lt_add h1 h2))
 rwa [Nat.sub_add_cancel h1] at this
theorem inSetN {c:Nat} (h:okc c=true) (seen:Sre.Seen):∃ seen',Sre.inSet codeN c codeN.size 5 true seen=.ok (false,seen'):=okRes_inv (okc_at (P:=fun c=>okRes (Sre.inSet codeN c codeN.size 5 true seen)) (by kernel_rfl) h)
theorem inSetV {c:Nat} (h:okc c=true) (seen:Sre.Seen):∃ seen',Sre.inSet codeV c codeV.size 5 true seen=.ok (false,seen'):=okRes_inv (okc_at (P:=fun c=>okRes (Sre.inSet codeV c codeV.size 5 true seen)) (by kernel_rfl) h)
theorem admitted_none {m:Sre.M} (hs:∀ c,okc c=true->∀ seen,∃ seen',Sre.inSet m.code c m.code.size 5 true seen=.ok (false,seen')) (ht:∀ s,s < m.lim->okc (m.text.getD s 0)=true) :
  ∀ (fuel s:Nat) (seen:Sre.Seen),∃ seen',Sre.M.admitted m fuel s seen=.ok (none,seen')
 | 0,s,seen=>⟨seen,rfl⟩
 | fuel+1,s,seen=>by
  rw [Sre.M.admitted]
  by_cases h:s ≥ m.lim
  ·rw [if_pos h];exact ⟨seen,rfl⟩
  ·rw [if_neg h]
   (refine e1a1 (hs _ (ht s (by lia)) seen) ?_;rintro seen1 e)
   rw [e]
   exact admitted_none hs ht fuel (s+1) seen1
theorem run_failed {m:Sre.M} (h1:m.answer=some false) (h2:m.frames=[]) (h3:m.outcome=none):(m.runFor 4).outcome=some .failed:=by
 have e:m.step={ m with outcome:=some .failed }:=by
  unfold Sre.M.step
  rw [h3,if_neg (by decide)]
  (refine by_goal fun G_ hG_=>?_;rcases m with ⟨code,text,lim,start,ls,wt,ma,pc,pos,handed,om,marks,lm,li,loops,inner,frames,weight,answer,seen,outcome⟩;all_goals (refine hG_ ?_;clear hG_ G_))
  cases h1;cases h2
  rfl
 show (if m.outcome.isSome then m else Sre.M.runFor 3 m.step).outcome=_
 rw [h3,if_neg (by decide),e]
 rfl
theorem attempt_none {m:Sre.M} (hf:m.hasFirstSet=true) (hs:∀ c,okc c=true->∀ seen,∃ seen',Sre.inSet m.code c m.code.size 5 true seen=.ok (false,seen')) (ht:∀ s,s < m.lim->okc (m.text.getD s 0)=true)
  (h2:m.frames=[]) (h3:m.outcome=none) (s:Nat) (first:Bool):∃ m',m.attemptFrom s first=m'/\m'.answer=some false/\m'.frames=[]/\m'.outcome=none:=by
 refine ⟨_,rfl,?_⟩
 unfold Sre.M.attemptFrom
 rw [hf]
 simp only [Bool.not_true,Bool.false_eq_true,if_false]
 (refine e1a1 (admitted_none hs ht (m.lim+1 - s) s m.seen) ?_;rintro seen' e)
 rw [e]
 exact ⟨rfl,h2,h3⟩
theorem search_none {code text:Array Nat} {lim:Nat} (hc:code=codeN\/code=codeV) (hl:lim<=text.size) (ht:∀ c∈text.toList,okc c=true):((Sre.forSearch code text 0 0 lim false).runFor 4).outcome=some .failed:=by
 have hx:∀ s,s < lim->okc (text.getD s 0)=true:=fun s h=>by
  have hs:s < text.size:=by lia
  rw [Array.getD_eq_getD_getElem?,Array.getElem?_eq_getElem hs]
  exact ht _ (by simp)
 by_cases h0:lim < 1
 ·have e:lim=0:=by lia
  subst e
  rcases hc with rfl | rfl
  ·exact run_failed rfl rfl rfl
  ·exact run_failed rfl rfl rfl
 ·have hh:∀ c:Array Nat,(c=codeN\/c=codeV)->(Sre.header c).1=1/\((Sre.header c).2 != 0 && c.getD 2 0 &&& 5 != 0)=true:=by
   rintro c (rfl | rfl) <;> exact ⟨rfl,rfl⟩
  obtain ⟨g1,g2⟩:=hh code hc
  have:∃ m:Sre.M,m.code=code/\m.text=text/\m.lim=lim/\m.frames=[]/\m.outcome=none/\Sre.forSearch code text 0 0 lim false=m.attemptFrom 0 true:=by
   refine ⟨{ code,text,lim,start:=0,pc:=(Sre.header code).2,pos:=0,handed:=0,marks:=Array.replicate (2 * 0) none,mustAdvance:=false,seen:=if (Sre.header code).2 == 0 then {} else ({}:Sre.Seen).add 14,lastStart:=if (Sre.header code).1 > 1 && !((Sre.header code).2 != 0 && code.getD 2 0 &&& 5 != 0) then max 0 (lim - ((Sre.header code).1 - 1)) else lim },rfl,rfl,rfl,rfl,rfl,?_⟩
   show (if (decide (0 > lim) || decide (lim - 0 < (Sre.header code).1))=true then _ else _)=_
   have hz:(decide (0 > lim) || decide (lim - 0 < (Sre.header code).1))=false:=by
    rw [g1,decide_eq_false (by lia),decide_eq_false (by omega)];rfl
   rw [hz]
   rfl
  (refine e1a6 this ?_;try clear this;rintro m e1 e2 e3 e4 e5 e6)
  rw [e6]
  (refine e1a4 (attempt_none (m:=m) (by unfold Sre.M.hasFirstSet;rw [e1];rcases hc with rfl | rfl <;> rfl)
   (by rw [e1];rcases hc with rfl | rfl;exact fun c h=>inSetN h;exact fun c h=>inSetV h) (by rw [e2,e3];exact hx) e4 e5 0 true) ?_;rintro m' e7 q1 q2 q3)
  rw [e7]
  exact run_failed q1 q2 q3
open PySem.Builtin.Re
theorem named_one (v:Value):reNamed "re.Pattern.search" "search" ["string","pos","endpos"] 1 [v] []=pure [some v,none,none]:=by
 with_unfolding_all rfl
structure PatAt (h:Heap) (pa:Addr) (code:Array Nat):Prop where
 ok:code=codeN\/code=codeV
 at_:∃ p0 t ta o items n,h.get? pa=some { cls:=.type "re.Pattern",data:=.fields #[p0,.int 32 t,.int 0 0,.none,.none,.ref ta,.int 0 0] }/\h.get? ta=some o/\o.data=.seq items n /\
  (items.map reRawOf).map (·.toNat)=code
theorem PatAt.keep {h h':Heap} {pa code} (k:KeepH h h') (x:PatAt h pa code):PatAt h' pa code :=
 ⟨x.ok,e6a3 x.at_ fun p0 t ta o items n h1 h2 r=>⟨p0,t,ta,o,items,n,k _ _ h1,k _ _ h2,r⟩⟩
section
variable {prog:Program} {w:World} {A:Around} {Er:Value->Shared->Prop} {s:Shared}
theorem drive_end {m:Sre.M} {Q:Option Sre.M->Shared->Prop} (hm:(m.runFor 4).outcome=some .failed) (h:Q none s):wpAny (model prog w) A (reRunToEnd m) Q Er s:=by
 unfold reRunToEnd
 rw [show (2 ^ 64:Nat)=18446744073709551615+1 from rfl]
 refine wpAny_bind ?_
 show wpAny _ A (if (m.runFor 4).outcome.isSome then pure (m.runFor 4) else _) _ _ s
 rw [hm,if_pos (show (some Sre.Outcome.failed).isSome=true from rfl)]
 refine wpAny_pure ?_
 refine wpAny_bind (wpAny_forIn_list _ (fun u_ u_ s'=>s'=s) _ ?_ ?_ _ _ rfl)
 ·rintro x rest b s' rfl
  by_cases hh:(m.runFor 4).seen.has x=true
  ·rw [if_pos hh];exact wpAny_bind (wpAny_rule (wpAny_pure rfl))
  ·rw [if_neg hh];exact wpAny_pure rfl
 ·rintro b s' rfl
  rw [hm]
  exact wpAny_pure h
theorem call_search {pa:Addr} {code:Array Nat} {x:Str} {t:Tok} {Q:Value->Shared->Prop} (P:PatAt s.heap pa code) (hx:∀ c∈sl x,okc c=true) (h:Q .none s):wpAny (model prog w) A (call (.builtin "re.Pattern.search") [.ref pa,.str x t]) Q Er s:=by
 (refine by_goal fun G_ hG_=>?_;rcases P with ⟨hc,p0,tt,ta,o,items,n,h1,h2,h3,h4⟩;all_goals (refine hG_ ?_;clear hG_ G_))
 refine wpAny_call_entry RF.slot_search ⟨_,h1,rfl⟩ RF.entry_search ?_ (RF.args_search _ _)
 show wpAny _ _ (reTarget "re.Pattern.search" "search" ⟨[.ref pa,.str x t],[]⟩ >>= _) _ _ s
 refine wpAny_bind ?_
 unfold reTarget
 show wpAny _ _ (reNamed "re.Pattern.search" "search" ["string","pos","endpos"] 1 [.str x t] [] >>= _) _ _ s
 rw [named_one]
 refine wpAny_bind (wpAny_pure ?_)
 refine wpAny_bind (wpAny_pure (wpAny_bind (wpAny_pure (wpAny_bind (wpAny_fieldsOf h1 rfl ?_)))))
 refine wpAny_bind (wpAny_pure ?_)
 show wpAny _ _ (reNoCollectionInside (Value.str x t) 0 >>= _) _ _ s
 refine wpAny_bind (show wpAny _ _ (pure ()) _ _ s from wpAny_pure ?_)
 show wpAny _ _ (reRawItems (.ref ta) >>= _) _ _ s
 unfold reRawItems
 refine wpAny_bind (wpAny_bind (wpAny_seqItems h2 h3 (wpAny_pure (wpAny_pure ?_))))
 show wpAny _ _ (reAnswer _ (Sre.forSearch ((items.map reRawOf).map fun x=>x.toNat) x.cps 0 (min (0:Int).toNat x.cps.size) (min (2 ^ 63 - 1:Int).toNat x.cps.size) false)) _ _ s
 rw [h4,show min (0:Int).toNat x.cps.size=0 from Nat.zero_min _]
 unfold reAnswer
 refine wpAny_bind (drive_end (search_none hc (Nat.min_le_right _ _) hx) ?_)
 exact wpAny_pure ⟨_,rfl,h⟩
end
structure HK (c:Cfg) (K:Frag):Prop where
 inn:K.In c.h0
 ga:findIn K (.ref c.HC) "__getattribute__"=some (some (.builtin "object.__getattribute__"))
 gt:findIn K (.ref c.HC) "__getattr__"=some none
 own:∀ (od:Obj) hs t la n,od.data=.dict #[⟨hs,.str "_headers" t,.ref la⟩] n->findObj K c.HC (some od) "_headers"=some (.value (.ref la))
theorem HdrAt.inst {HC:Addr} {h:Heap} {v l la} (x:HdrAt HC h v l la):∃ a da od hs t n,v=.ref a/\h.get? a=some { cls:=.ref HC,dict:=some da,data:=.plain,slots:=#[] }/\InstAt h a { cls:=.ref HC,dict:=some da,data:=.plain,slots:=#[] } HC (some od) /\
  h.get? da=some od/\od.data=.dict #[⟨hs,.str "_headers" t,.ref la⟩] n:=by
 obtain ⟨⟨a,da,od,rfl,h1,h2,h3,⟨hs,t,n,h4⟩,u_⟩,u_⟩:=x
 exact ⟨a,da,od,hs,t,n,rfl,h1,⟨h1,rfl,rfl,h2⟩,h2,h4⟩
theorem inv_attr {sc:Scope} {i:Nat} {e:Expr} (h:kAttr sc i e=true):∃ p q,e=.Attribute (.Name (nm i) p) "_headers" q/\acc sc (nm i)=true/\plainName (nm i)=true:=by
 refine dEAttribute_elim h fun z1 a z2 h=>?_
 refine dEName_elim h fun y z3 h=>?_
 (refine k_dbbd h ?_;try clear h;rintro rfl h1 h2 rfl)
 exact ⟨_,_,rfl,h1,h2⟩
section
variable {c:Cfg} {K:Frag}
theorem HK.at (H:HK c K) {s:Shared} (B:Base c s.heap):K.In s.heap:=H.inn.keeps B.k0
theorem get_headers (H:HK c K) {A:Around} {s:Shared} {a:Addr} {l la} {ex:Bool} {Q:Value->Shared->Prop} {Er:Value->Shared->Prop} (B:Base c s.heap) (x:HdrAt c.HC s.heap (.ref a) l la) (h:Q (.ref la) { s with toks:=s.toks+1 }) :
  wpAny (model c.prog c.w) A (getAttr (.ref a) "_headers" ex) Q Er s:=by
 (refine e6a5 x.inst ?_;rintro a' da od hs t n e u_ I u_ hd)
 cases e
 exact get_value (H.at B) I H.ga (H.own od hs t la n hd) rfl h
theorem pairs_rdg {Own:Addr->Prop} {h:Heap} {la:Addr} {l:List (List Nat × List Nat)} (x:∃ vs,h.PlainList la vs/\All2 (Rd0 (fun u_=>False) h) vs.toList (l.map fun p=>PyData.tuple [S p.1,S p.2])) :
  RdG Own 1 h (.ref la) (.list (l.map fun p=>.tuple [S p.1,S p.2])):=by
 (refine e1a2 x ?_;try clear x;rintro vs hl hx)
 exact ⟨la,_,vs,rfl,rfl,hl,pairs_any (Z:=fun u_=>False) (.refl h) hx⟩
set_option tactic.hygienic true in
theorem ev_hattr (H:HK c K) (i:Nat):EvOK c (.hattr i):=by
 intro n A env Own M E s e d Q Er X hc _ he h
 dsimp only [chkX_q_hattr] at hc
 (refine e2a3 (inv_attr hc) ?_;rintro p q rfl ha hp)
 revert he
 refine sbn fun l hl e0z=>?_
 (replace e0z:=(Option.some.inj e0z).symm;subst e0z)
 (refine e1a2 X.view.ns ?_;rintro m hm hv)
 have hE:E i=some (.hdr l):=by
  unfold hdrOf at hl
  split at hl
  ·rename_i l' e;rw [e];(replace hl:=(Option.some.inj hl).symm;subst hl);rfl
  ·exact nso hl
 (refine e1a2 (hv i _ hE ha) ?_;rintro v hlk hr)
 cases hr with
 | hdr hd =>
  rename_i la
  (refine e6a2 hd.inst ?_;rintro a da od hs t n' e _)
  subst e
  refine Attribute_Name_ (ev_Lk X.eok hm hlk hp (get_headers H X.base hd (h _ _ .toks ?_ (fun z=>nomatch z))))
  exact pairs_rdg hd.list
theorem meth_any {A:Around} {env:Env} {o:Expr} {name:Str} {apos pos:Pos} {args:List Expr} {kws:List Keyword} {Q:Value->Shared->Prop} {Er:Value->Shared->Prop} {s:Shared}
  (hbase:attributeBase o name env (eval o env)=eval o env)
  (hform:methodCallForm (args.length+kws.length) (backTo pos (starEach args env)) (backToKw pos (keywordEach kws env))=true)
  (hline:(apos.endLine == pos.line)=true)
  (h:wpAny (model c.prog c.w) A (eval o env) (fun ov s₁=>∀ pl,wpAny (model c.prog c.w) A (getMethod ov name pl) (fun fx s₂=>wpAny (model c.prog c.w) A (callWith pos fx.1 fx.2 (backTo pos (starEach args env)) (backToKw pos (keywordEach kws env))) Q Er s₂) Er s₁) Er s) :
  wpAny (model c.prog c.w) A (eval (.Call (.Attribute o name apos) args kws pos) env) Q Er s:=by
 rw [arm_eval_Call,hbase]
 refine wpAny_bind (wpAny_mono h (fun ov s₁ h₁=>?_) fun u_ u_ e=>e)
 refine wpAny_bind (wpAny_standAt ?_)
 have hpos:methodCallPos true o env apos pos=pure pos:=by unfold methodCallPos;simp [hline]
 unfold methodCall
 rw [hform]
 refine wpAny_bind (wpAny_holding (wpAny_mono (h₁ _) (fun fx s₂ h₂=>?_) fun u_ u_ e=>e))
 exact wpAny_bind (wpAny_of_eq hpos h₂)
theorem SX.addE {n:Nat} {A:Around} {env:Env} {Bad:Addr->Prop} {M:List Nat} {F:Nat->List Addr} {P:Nat->Option Value} {E:AE} {s:Shared} (X:SX c n A env Bad M F P E s) {i:Nat} {v:Value} {d:PyData} (hP:P i=some v) (r:Rd0 (OwnB Bad F) s.heap v d) (hM:md M i=0) (hF:F i=[]) :
  SX c n A env Bad M F P (E.set i (.dat d)) s:=by
 refine ⟨X.eok,X.room,X.base,X.cells,X.sto,fun j pv e=>?_,X.pl,X.bad,X.nb,X.dj,X.nl,X.nc,X.nF⟩
 by_cases hj:j=i
 ·subst hj
  have e:some (PV.dat d)=some pv:=by rw [<-e];exact (if_pos rfl).symm
  (replace e:=(Option.some.inj e).symm;subst e)
  refine ⟨v,hP,?_⟩
  rw [hM,hF]
  exact .flat r
 ·have e:E j=some pv:=by rw [<-e];exact (if_neg hj).symm
  exact X.vars j pv e
theorem SX.raw {n:Nat} {A:Around} {env:Env} {Bad:Addr->Prop} {M:List Nat} {F:Nat->List Addr} {P:Nat->Option Value} {E:AE} {s s':Shared} (X:SX c n A env Bad M F P E s) {i:Nat} {v:Value} (hE:E i=none) (k:Kb env [i] s.heap s'.heap) (So:Sto env s'.heap (upd P i v)) :
  SX c n A env Bad M F (upd P i v) E s':=by
 have kd:=k.kd X.sto
 have ks:=k.seq X.sto
 refine ⟨X.eok,X.room,X.base_kb k,cells_kb X.eok X.sto X.cells k So,So,fun j pv e=>?_,fun i a h=>?_,fun a h=>?_,X.nb,X.dj,X.nl,X.nc,X.nF⟩
 ·(refine e1a2 (X.vars j pv e) ?_;rintro w q1 q2)
  refine ⟨w,?_,q2.move (s':=s') (X.sto.kpf k) (fun a u_ o vs n hd e=>ks a o vs n hd e) kd⟩
  unfold upd
  rw [if_neg (fun h=>by rw [h,hE] at e;exact nso e)]
  exact q1
 ·(refine e2a1 (X.pl i a h) ?_;rintro vs nn e)
  exact ⟨vs,nn,ks a _ _ _ rfl e⟩
 ·(refine e1a1 (X.bad a h) ?_;rintro o ho)
  exact k.alive So a o ho
theorem SX.cxH {n:Nat} {A:Around} {env:Env} {Bad:Addr->Prop} {M:List Nat} {F:Nat->List Addr} {P:Nat->Option Value} {E:AE} {s:Shared} (X:SX c n A env Bad M F P E s) {i:Nat} {v:Value} {l la} (hP:P i=some v) (hd:HdrAt c.HC s.heap v l la) :
  Cx c n A (OwnB Bad F) env (md M) (E.set i (.hdr l)) s:=by
 refine ⟨X.eok,X.room,X.base,⟨?_⟩,X.live,X.cells⟩
 (refine e1a2 X.sto.ns ?_;rintro m hm hl)
 refine ⟨m,hm,fun j pv e u_=>?_⟩
 by_cases hj:j=i
 ·subst hj
  have e:some (PV.hdr l)=some pv:=by rw [<-e];exact (if_pos rfl).symm
  (replace e:=(Option.some.inj e).symm;subst e)
  exact ⟨v,hl j v hP,.hdr hd⟩
 ·have e:E j=some pv:=by rw [<-e];exact (if_neg hj).symm
  (refine e1a2 (X.vars j pv e) ?_;rintro w h1 h2)
  exact ⟨w,hl j w h1,h2.rep X.base⟩
structure Fn0 (c:Cfg) (f:Addr) (fd:FuncData) (body:List Stmt) (ps:List Nat):Prop where
 at_:∃ o,c.h0.get? f=some o/\o.data=.func fd
 code:c.h0.CodeRec fd.code fd.qualname
 bd:fd.body=.stmts body
 ok:FnOK fd ps
set_option tactic.hygienic true in
theorem call_frame {ps:List Nat} {n:Nat} {A:Around} {s:Shared} {f:Addr} {fd:FuncData} {stmts:List Stmt} {args:Args} {R:Result->Shared->Prop} {Bad:Addr->Prop} {V:List Value->Shared->Prop}
  (hroom:Room (n+1) A) (B:Base c s.heap) (K:Fn0 c f fd stmts ps) (hbad:∀ a,Bad a->∃ o,s.heap.get? a=some o)
  (hbind:∀ (Q:List (Str × Value)->Shared->Prop) (Er:Value->Shared->Prop),(∀ vals s0,Stp s s0->vals.length=ps.length->V vals s0->Q ((ps.map nm).zip vals) s0)->wpAny (model c.prog c.w) A.in1 (bindArgs fd args) Q Er s)
  (h:∀ (env:Env) vals s0 s1 Er,env.scope=fd.scope->Stp s s0->V vals s0->Stp s0 s1->SX c n (A.deeper env) env Bad (List.replicate 130 0) (fun _=>[]) (lookN ps vals) (fun _=>none) s1 ->
   (∀ F' s',SStep env (fun _=>[]) s1 F' s'->Stp s0 s')->(∀ b o,s0.heap.get? b=some o->b≠env.locals/\∀ x,env.cells.lookup x≠some b)->wpAny (model c.prog c.w) (A.deeper env) (execs stmts env) (fun fl s'=>R (.ok (.ret (match fl with | .ret v=>v | _=>.none))) s') Er s1) :
  codeAny (model c.prog c.w) A (.call (.ref f) args) R s:=by
 (refine by_goal fun G_ hG_=>?_;rcases K with ⟨⟨o,ho0,hdata⟩,hcd0,hbody,K⟩;all_goals (refine hG_ ?_;clear hG_ G_))
 have ho:=B.k0 _ _ ho0
 have hcd:s.heap.CodeRec fd.code fd.qualname:=by
  (refine e4a4 hcd0 ?_;try clear hcd0;rintro cc oc vs tq e1 e2 e3 e4)
  exact ⟨cc,oc,vs,tq,e1,B.k0 _ _ e2,e3,e4⟩
 refine codeAny_call_function (by have:=hroom.depth;lia) ho hdata K.co K.gen hbody hcd (hbind _ _ fun vals s0 st0 hlen hV=>?_)
 have B0:=B.keep st0.keep
 have hz:=zip_fst hlen
 have hnd:(((ps.map nm).zip vals).map (·.1)).Nodup:=by rw [hz];exact map_nm_nodup K.pn
 have hmemn:∀ x∈(ps.map nm).zip vals,∃ i∈ps,x.1=nm i:=by
  intro x hx
  have:x.1∈((ps.map nm).zip vals).map (·.1):=List.mem_map.mpr ⟨x,hx,rfl⟩
  rw [hz] at this
  (refine e1a2 (List.mem_map.mp this) ?_;rintro i hi e)
  exact ⟨i,hi,e.symm⟩
 have okind:∀ i∈ps,fd.scope.names.lookup (nm i)=some .local\/fd.scope.names.lookup (nm i)=some .cell:=fun i hi=>by
  have:=K.own i hi
  unfold ownName at this
  split at this <;> simp_all
 rw [K.clo]
 refine wpAny_newFunctionEnv_cells K.kind (fun x hx=>?_) fun env he s1 IC=>?_
 ·(refine e1a2 (hmemn x hx) ?_;rintro i hi e)
  rw [e]
  rcases okind i hi with q | q
  ·exact .inl q
  ·(refine e1a1 (cellsFrom_has _ (s0.heap.objs.size+1) _ (mem_of_look q)) ?_;rintro b hb)
   (refine e1a1 (lookup_some_of_mem hb) ?_;rintro b2 hb2)
   exact .inr ⟨q,by rw [hb2];rfl⟩
 have es:env.scope=fd.scope:=by rw [he];rfl
 have el:env.locals=s0.heap.objs.size:=by rw [he];rfl
 have ec:env.cells=cellsFrom (s0.heap.objs.size+1) fd.scope.names []:=by rw [he];rfl
 have eg:env.globals=mainGlobals:=by rw [he];exact K.glob
 have eb:env.builtins=builtinsNs:=by rw [he];exact K.bui
 clear he
 (refine e2a1 IC.toInCall.same ?_;rintro h1 tk rfl)
 have st1:Stp s0 { s0 with heap:=h1,toks:=tk }:=.of IC.toInCall.keep
 have K':EnvOK env:=by
  refine ⟨by rw [es];exact K.kind,eg,eb,by rw [es];exact K.co,by rw [es];exact K.more,fun x hx=>?_,fun x y b hx hy=>name_of_addr IC.apart (mem_of_lookup hx) (mem_of_lookup hy)⟩
  have hx:env.scope.names.lookup x=some .cell\/env.scope.names.lookup x=some .free:=hx
  rw [es] at hx
  rw [ec]
  rcases hx with q | q
  ·(refine e1a1 (cellsFrom_has _ (s0.heap.objs.size+1) _ (mem_of_look q)) ?_;rintro b hb)
   exact lookup_some_of_mem hb
  ·exact absurd rfl (K.nofree _ (mem_of_look q))
 have old:∀ b,s0.heap.objs.size<=b->c.h0.get? b=none:=fun b hb=>by
  cases hh:c.h0.get? b with
  | none=>rfl
  | some o=>exact absurd (Heap.lt_size (B0.k0 b o hh)) (Nat.not_lt.mpr hb)
 have So:Sto env h1 (lookN ps vals):=by
  refine ⟨⟨_,IC.toInCall.ns,fun i v e=>?_⟩,fun x b _ hb=>⟨_,IC.cell x b hb⟩⟩
  obtain ⟨hm,hi⟩:=lookN_mem e
  have kq:env.kindOf (nm i)=some .local\/env.kindOf (nm i)=some .cell:=by
   have q:=okind i hi
   rw [<-es] at q
   exact q
  rcases kq with q | q
  ·exact .inl ⟨q,bindL_in _ _ _ _ _ hnd hm q⟩
  ·(refine e1a1 (K'.cell (nm i) (.inl q)) ?_;rintro b hb)
   refine .inr ⟨.inl q,b,hb,?_⟩
   have e:=IC.cell (nm i) b hb
   rw [bindC_in _ _ _ _ _ hnd hm (by rw [q];exact fun z=>by cases z)] at e
   exact e
 have X:SX c n (A.deeper env) env Bad (List.replicate 130 0) (fun _=>[]) (lookN ps vals) (fun _=>none) { s0 with heap:=h1,toks:=tk }:=by
  refine ⟨K',⟨by show A.depth+1+n < _;have:=hroom.depth;lia,by show A.units+3+20 * n+200 < _;have:=hroom.units;lia,hroom.hand⟩,B0.keep IC.toInCall.keep,fun x b hb=>⟨_,IC.cell x b hb⟩,So,fun i pv e=>(nomatch e),fun i a m=>(nomatch m),
   fun b hb=>let ⟨o,ho⟩:=hbad b hb;⟨o,IC.toInCall.keep b o (st0.keep b o ho)⟩,fun i a m=>(nomatch m),fun i j a m=>(nomatch m),?_,fun x b hb=>old b (Nat.le_of_lt (el ▸ IC.above x b (mem_of_lookup hb))),fun i a m=>(nomatch m)⟩
  rw [el];exact old _ (Nat.le_refl _)
 refine ⟨(B0.keep IC.toInCall.keep).lim,codeAny_func (h env vals s0 _ _ es st0 hV st1 X (fun F' s' S=>?_) fun b o hb=>⟨fun q=>?_,fun x hx=>?_⟩)⟩
 case refine_2 =>
  have:=Heap.lt_size hb
  rw [q,el] at this;exact absurd this (Nat.lt_irrefl _)
 case refine_3 =>
  have h1:=IC.above x b (mem_of_lookup hx)
  rw [el] at h1
  exact absurd (Heap.lt_size hb) (Nat.not_lt.mpr (Nat.le_of_lt h1))
 refine ⟨fun b o e=>?_,⟨S.gk.size,S.gk.old,S.gk.bare⟩,S.os⟩
 have hlt:=Heap.lt_size e
 refine S.keep b o (fun q=>?_) (fun x hx=>?_) (fun i m=>nomatch m) (IC.toInCall.keep b o e)
 ·rw [q,el] at hlt;exact absurd hlt (Nat.lt_irrefl _)
 ·have:=IC.above x b (mem_of_lookup hx)
  rw [el] at this
  exact absurd hlt (Nat.not_lt.mpr (Nat.le_of_lt this))
end
noncomputable def aPick (fnm:Nat->Str) (rk:Nat->Nat) (sc:Scope) (s:Stmt):Bool :=
 dSAssign s fun tg v u1_=>dcons tg fun y r=>dnil r (dEName y fun rg u2_=>dEIfExp v fun t2 x z u3_=>dEName x fun g1 u4_=>dEName z fun g2 u5_=>decide (rg=nm 118) && ownName sc rg && chkX fnm rk 0 sc (.var 61) t2 && decide (g1=("_name_disallowed_re":Str)) && isGlob sc g1 && decide (g2=("_value_disallowed_re":Str)) && isGlob sc g2)
theorem aPick_inv {fnm:Nat->Str} {rk:Nat->Nat} {sc:Scope} {s:Stmt} (h:aPick fnm rk sc s=true):∃ w1 t2 w2 w3 w4 w5,s=.Assign [.Name (nm 118) w1] (.IfExp t2 (.Name ("_name_disallowed_re":Str) w2) (.Name ("_value_disallowed_re":Str) w3) w4) w5/\ownName sc (nm 118)=true/\chkX fnm rk 0 sc (.var 61) t2=true/\isGlob sc ("_name_disallowed_re":Str)=true/\isGlob sc ("_value_disallowed_re":Str)=true:=by
 refine dSAssign_elim h fun z1 z2 w5 h=>?_
 refine dcons_elim h fun z3 z4 h=>?_
 refine dnil_elim h fun h=>?_
 refine dEName_elim h fun rg w1 h=>?_
 refine dEIfExp_elim h fun t2 z5 z6 w4 h=>?_
 refine dEName_elim h fun g1 w2 h=>?_
 refine dEName_elim h fun g2 w3 h=>?_
 (refine k_dbbdbdb h ?_;clear h;rintro rfl h1 h2 rfl h3 rfl h4)
 exact ⟨_,_,_,_,_,_,rfl,h1,h2,h3,h4⟩
noncomputable def aSearch (s:Stmt):Bool :=
 dSIf s fun cnd u1_ ol u2_=>dnil ol (dECall cnd fun f as ks q=>dnil ks (dEAttribute f fun o sm ap=>dEName o fun rg u3_=>dcons as fun y r=>dnil r (dEName y fun vn u4_=>decide (rg=nm 118) && decide (sm=("search":Str)) && (ap.endLine == q.line) && decide (vn=nm 114))))
theorem aSearch_inv {s:Stmt} (h:aSearch s=true):∃ w6 ap w7 q w8 w9,s=.If (.Call (.Attribute (.Name (nm 118) w6) ("search":Str) ap) [.Name (nm 114) w7] [] q) w8 [] w9/\(ap.endLine == q.line)=true:=by
 refine dSIf_elim h fun z1 w8 z2 w9 h=>?_
 refine dnil_elim h fun h=>?_
 refine dECall_elim h fun z3 z4 z5 q h=>?_
 refine dnil_elim h fun h=>?_
 refine dEAttribute_elim h fun z6 sm ap h=>?_
 refine dEName_elim h fun rg w6 h=>?_
 refine dcons_elim h fun z7 z8 h=>?_
 refine dnil_elim h fun h=>?_
 refine dEName_elim h fun vn w7 h=>?_
 (refine k_ddbd h ?_;clear h;rintro rfl rfl h rfl)
 exact ⟨_,_,_,_,_,_,rfl,h⟩
noncomputable def aRet (s:Stmt):Bool:=dSReturn s fun o u1_=>dsome o fun e=>dEName e fun vn u2_=>decide (vn=nm 114)
theorem aRet_inv {s:Stmt} (h:aRet s=true):∃ w10 w11,s=.Return (some (.Name (nm 114) w10)) w11:=by
 refine dSReturn_elim h fun z1 w11 h=>?_
 refine dsome_elim h fun z2 h=>?_
 refine dEName_elim h fun vn w10 h=>?_
 have h:=of_decide_eq_true h
 subst h
 exact ⟨_,_,rfl⟩
noncomputable def chkConv (fnm:Nat->Str) (rk:Nat->Nat) (sc:Scope) (body:List Stmt):Bool :=
 dcons body fun s1 r=>dcons r fun u1_ r=>dnil r (dSIf s1 fun t b o u2_=>dnil o (dcons b fun x r=>dcons r fun y r=>dcons r fun z r=>dnil r (chkX fnm rk 0 sc (.isT false (.var 114) 1) t && aPick fnm rk sc x && aSearch y && aRet z)))
inductive ConvV (fnm:Nat->Str) (rk:Nat->Nat) (sc:Scope):List Stmt->Prop
 | mk {t w1 t2 w2 w3 w4 w5 w6 ap w7 q w8 w9 w10 w11 w12 w13}:chkX fnm rk 0 sc (.isT false (.var 114) 1) t=true->ownName sc (nm 118)=true->chkX fnm rk 0 sc (.var 61) t2=true->isGlob sc ("_name_disallowed_re":Str)=true->isGlob sc ("_value_disallowed_re":Str)=true->(ap.endLine == q.line)=true ->
   ConvV fnm rk sc [.If t [.Assign [.Name (nm 118) w1] (.IfExp t2 (.Name ("_name_disallowed_re":Str) w2) (.Name ("_value_disallowed_re":Str) w3) w4) w5,.If (.Call (.Attribute (.Name (nm 118) w6) ("search":Str) ap) [.Name (nm 114) w7] [] q) w8 [] w9,.Return (some (.Name (nm 114) w10)) w11] [] w12,w13]
theorem inv_conv {fnm:Nat->Str} {rk:Nat->Nat} {sc:Scope} {body:List Stmt} (h:chkConv fnm rk sc body=true):ConvV fnm rk sc body:=by
 refine dcons_elim h fun s1 z1 h=>?_
 refine dcons_elim h fun w13 z2 h=>?_
 refine dnil_elim h fun h=>?_
 refine dSIf_elim h fun t z3 z4 w12 h=>?_
 refine dnil_elim h fun h=>?_
 refine dcons_elim h fun x z5 h=>?_
 refine dcons_elim h fun y z6 h=>?_
 refine dcons_elim h fun z z7 h=>?_
 refine dnil_elim h fun h=>?_
 (refine k_bbbb h ?_;clear h;rintro h1 h2 h3 h4)
 (refine e6a5 (aPick_inv h2) ?_;rintro w1 t2 w2 w3 w4 w5 rfl g1 g2 g3 g4)
 (refine e6a2 (aSearch_inv h3) ?_;rintro w6 ap w7 q w8 w9 rfl g5)
 (refine e2a1 (aRet_inv h4) ?_;rintro w10 w11 rfl)
 exact .mk h1 g1 g2 g3 g4 g5
structure ConvF (c:Cfg) (f:Addr):Prop where
 fn:∃ fd body,Fn0 c f fd body [113,114,61]/\(∀ a b v:Value,bindArgs fd ⟨[a,b],[(nm 61,v)]⟩=pure (([113,114,61].map nm).zip [a,b,v]))/\chkConv c.fnm c.rk fd.scope body=true
 pn:∃ p,c.mg "_name_disallowed_re"=some (.ref p)/\PatAt c.h0 p codeN
 pv:∃ p,c.mg "_value_disallowed_re"=some (.ref p)/\PatAt c.h0 p codeV
section
variable {c:Cfg}
theorem md0 (i:Nat):md (List.replicate 130 0) i=0:=by unfold md;rw [List.getD_eq_getElem?_getD,List.getElem?_replicate];split <;> rfl
set_option tactic.hygienic true in
theorem conv_ok (C:CfgOK c) {f:Addr} (V:ConvF c f) {A:Around} {s:Shared} {a:Addr} {x:Str} {t:Tok} {b:Bool} {R:Result->Shared->Prop} (hroom:Room 1 A) (B:Base c s.heap) (hx:∀ ch∈sl x,okc ch=true)
  (h:∀ s',Stp s s'->R (.ok (.ret (.str x t))) s'):codeAny (model c.prog c.w) A (.call (.ref f) ⟨[.ref a,.str x t],[(nm 61,.bool b)]⟩) R s:=by
 obtain ⟨⟨fd,body,F0,hb,hc⟩,⟨pn,n1,n2⟩,⟨pv,v1,v2⟩⟩:=V
 refine call_frame (n:=0) (Bad:=fun _=>False) (V:=fun vals _=>vals=[.ref a,.str x t,.bool b]) hroom B F0 (fun _ q=>q.elim) (fun Q Er hq=>?_) fun env vals s0 s1 Er es st0 hV st1 X fin low=>?_
 ·rw [hb]
  exact wpAny_pure (hq [.ref a,.str x t,.bool b] s (.refl s) rfl rfl)
 subst hV
 have hv:=inv_conv (show chkConv c.fnm c.rk env.scope body=true by rw [es];exact hc)
 clear hc
 cases hv with | mk c1 c2 c3 c4 c5 c6 =>
 have X1:=(X.addE (i:=114) (d:=.str x) rfl .mkStr (md0 _) rfl).addE (i:=61) (d:=.bool b) rfl .mkBool (md0 _) rfl
 refine wpAny_execs_cons (wpAny_If (ts_isT C (ev_var 114) 0 _ env _ _ _ _ _ (.bool true) true _ Er X1.cx c1 rfl rfl rfl fun s2 st2=>?_))
 rw [if_pos rfl]
 have X2:=X1.stp st2
 refine wpAny_execs_cons (wpAny_Assign_Name (wpAny_IfExp ((ts_of_ev (ev_var 61) fun n sc e h=>by simp only [chkX_q_var] at h;(refine e1a2 (inv_var h) ?_;rintro _ rfl _);rfl) 0 _ env _ _ _ _ _ (.bool b) b _ Er X2.cx c3 rfl rfl rfl fun s3 st3=>?_)) rfl)
 have X3:=X2.stp st3
 have hv:∃ p code,PatAt c.h0 p code/\∀ (Q:Value->Shared->Prop) (Er:Value->Shared->Prop) (p1 p2:Pos),Q (.ref p) s3->(if b=true then wpAny (model c.prog c.w) (A.deeper env) (eval (.Name "_name_disallowed_re" p1) env) Q Er s3 else wpAny (model c.prog c.w) (A.deeper env) (eval (.Name "_value_disallowed_re" p2) env) Q Er s3):=by
  induction b with
  | true=>exact ⟨pn,_,n2,fun Q Er p1 p2 hQ=>by rw [if_pos rfl];exact ev_glob X3.eok X3.base c4 (by decide +kernel) (.inl n1) hQ⟩
  | false=>exact ⟨pv,_,v2,fun Q Er p1 p2 hQ=>by rw [if_neg Bool.false_ne_true];exact ev_glob X3.eok X3.base c5 (by decide +kernel) (.inl v1) hQ⟩
 (refine e2a2 hv ?_;try clear hv;rintro p code hp hv)
 refine hv _ _ _ _ ?_
 refine store_ok X3.eok X3.sto c2 fun h4 tk4 k4 So4=>?_
 have X4:=X3.raw (s':={ s3 with heap:=h4,toks:=tk4 }) rfl k4 So4
 have S4:SStep env (fun _=>[]) s3 (fun _=>[]) { s3 with heap:=h4,toks:=tk4 }:=.kb So4 k4 (.refl _) rfl fun j a h=>.inl ⟨j,h⟩
 have hp4:=hp.keep X4.base.k0
 refine wpAny_execs_cons (wpAny_If (wpAny_isTrue_value (Call_method1 (super_not rfl) rfl c6 (ev_name X4 (if_pos rfl) (by decide +kernel) ?_)) (isTrue_val rfl)))
 refine ⟨"re.Pattern",_,RF.plainAttrs,RF.slot_search,RF.type_search,?_,fun b eb=>?_,?_⟩
 ·(refine by_goal fun G_ hG_=>?_;rcases hp4 with ⟨_,p0,t0,ta,o,items,n,h1,_⟩;all_goals (refine hG_ ?_;clear hG_ G_))
  exact ⟨_,h1,rfl⟩
 ·cases eb
  (refine by_goal fun G_ hG_=>?_;rcases hp4 with ⟨_,p0,t0,ta,o,items,n,h1,_⟩;all_goals (refine hG_ ?_;clear hG_ G_))
  exact ⟨_,h1,rfl⟩
 refine Calls.callWith_builtin rfl (Calls.evalArgs_plain (Calls.spliced_cons (ev_name X4 (i:=114) (v:=.str x t) (by rfl) (by decide +kernel) (Calls.spliced_nil ?_))))
 refine call_search hp4 hx ?_
 refine tr_ok (d:=.none) (k:=0) (Own:=fun _=>False) rfl .mkNone fun s5 st5=>?_
 rw [if_neg Bool.false_ne_true]
 have X5:=X4.stp st5
 refine wpAny_execs_nil (wpAny_execs_cons (wpAny_Return_some (ev_name X5 (i:=114) (v:=.str x t) (by rfl) (by decide +kernel) ?_)))
 exact h _ (st0.trans (fin (fun _=>[]) _ ((((SStep.of st2).trans (.of st3)).trans S4).trans (.of st5))))
end
structure MethK (c:Cfg) (K:Frag) (name:Str) (f:Addr):Prop where
 find:findIn K (.ref c.HC) name=some (some (.ref f))
 typ:typeIn K (.ref f)=some (.type "function")
 keep:keepIn K (.ref f)=true
 ne:(Str.ofString "_headers" == name)=false
theorem shadow_no {od:Obj} {hs t la n} {name:Str} (hd:od.data=.dict #[⟨hs,.str "_headers" t,.ref la⟩] n) (hne:(Str.ofString "_headers" == name)=false):shadowIn (some od) name=some false:=by
 (refine by_goal fun G_ hG_=>?_;rcases od with ⟨cl,di,da,sl⟩;all_goals (refine hG_ ?_;clear hG_ G_))
 have hd:da=_:=hd
 subst hd
 have e1:([⟨hs,.str "_headers" t,.ref la⟩]:List DictEntry).find? (fun (e:DictEntry)=>e.key.isStr name)=none:=by
  rw [List.find?_cons_of_neg,List.find?_nil]
  show ¬ ((Str.ofString "_headers" == name)=true)
  rw [hne];exact Bool.false_ne_true
 have e2:lookIn name ⟨cl,di,.dict #[⟨hs,.str "_headers" t,.ref la⟩] n,sl⟩=some none:=by
  show (match ([⟨hs,.str "_headers" t,.ref la⟩]:List DictEntry).find? (fun (e:DictEntry)=>e.key.isStr name) with
   | some e=>some (some e.val)
   | none=>if ([⟨hs,.str "_headers" t,.ref la⟩]:List DictEntry).any (fun (e:DictEntry)=>e.refKey) then none else some none)=_
  rw [e1]
  rfl
 show (lookIn name ⟨cl,di,.dict #[⟨hs,.str "_headers" t,.ref la⟩] n,sl⟩).map (·.isSome)=_
 rw [e2]
 rfl
section
variable {c:Cfg} {K:Frag} {A:Around} {s:Shared} {Er:Value->Shared->Prop}
theorem meth_get (H:HK c K) {name:Str} {f a:Addr} {l la} {pl:Sem Bool} {Q:Value × List Value->Shared->Prop} (m:MethK c K name f) (B:Base c s.heap) (x:HdrAt c.HC s.heap (.ref a) l la) (h:Q (.ref f,[.ref a]) s) :
  wpAny (model c.prog c.w) A (getMethod (.ref a) name pl) Q Er s:=by
 (refine e6a5 x.inst ?_;rintro a' da od hs t n e u_ I u_ hd)
 cases e
 exact method_fn (H.at B) I H.ga H.gt m.find m.typ (shadow_no hd m.ne) h
theorem conv_call (C:CfgOK c) (H:HK c K) {f:Addr} (V:ConvF c f) (m:MethK c K "_convert_string_type" f) {n:Nat} {env:Env} {Bad:Addr->Prop} {M:List Nat} {F:Nat->List Addr} {P:Nat->Option Value} {E:AE} (X:SX c n A env Bad M F P E s) (hn:1<=n)
  {i:Nat} {a:Addr} {l la} (hP:P i=some (.ref a)) (hp:plainName (nm i)=true) (hd:HdrAt c.HC s.heap (.ref a) l la) {arg:Expr} {x:Str} {b:Bool} {p1 ap q kp kp2:Pos} {kk:Nat} {Q:Value->Shared->Prop} (hs:notStar arg=true) (hl:(ap.endLine == q.line)=true) (hx:∀ ch∈sl x,okc ch=true)
  (harg:∀ (Q:Value->Shared->Prop) (Er:Value->Shared->Prop),(∀ t s',Stp s s'->Q (.str x t) s')->wpAny (model c.prog c.w) A (eval arg env) Q Er s) (h:∀ t s',Stp s s'->Q (.str x t) s') :
  wpAny (model c.prog c.w) A (eval (.Call (.Attribute (.Name (nm i) p1) "_convert_string_type" ap) [arg] [⟨some (nm 61),.Constant (.bool b) kk kp,kp2⟩] q) env) Q Er s:=by
 have hst:starEach [arg] env=[(false,eval arg env)]:=starEach_cons hs
 refine meth_any (super_not rfl) (by rw [hst];rfl) hl (ev_name X hP hp fun pl=>meth_get H m X.base hd ?_)
 show wpAny _ A (callWith q (.ref f) [.ref a] _ _) Q Er s
 refine callWith_KW (H.at X.base) m.keep rfl ?_ (by rw [hst];rfl) (starEach_cons hs)
 rw [hst]
 refine Calls.spliced_cons (harg _ _ fun t s1 st1=>Calls.spliced_nil (kwAll_cons (wpAny_pure (kwAll_nil ⟨H.at (X.base.keep st1.keep),?_⟩))))
 show wpAny _ A (call (.ref f) [.ref a,.str x t] [(nm 61,.bool b)]) Q Er s1
 refine wpAny_call (conv_ok C V (X.room.le hn) (X.base.keep st1.keep) hx fun s2 st2=>h t s2 (st1.trans st2))
theorem sx_store {n:Nat} {env:Env} {Bad:Addr->Prop} {M:List Nat} {F:Nat->List Addr} {P:Nat->Option Value} {E:AE} (X:SX c n A env Bad M F P E s) {i:Nat} {v:Value} {d:PyData} {Q:Unit->Shared->Prop} (ho:ownName env.scope (nm i)=true) (r:Rd0 (OwnB Bad F) s.heap v d) (hM:md M i=0)
  (h:∀ s',SX c n A env Bad M (fdel F [i]) (upd P i v) (E.set i (.dat d)) s'->SStep env F s (fdel F [i]) s'->Q () s'):wpAny (model c.prog c.w) A (storeName env (nm i) v) Q Er s:=by
 refine store_ok X.eok X.sto ho fun h' tk k So=>?_
 have G:Got (OwnB Bad F) [i] h' P (upd P i v) E (E.set i (.dat d)):=fun j=>⟨fun m=>by
  rw [List.mem_singleton.mp m]
  exact ⟨v,d,if_pos rfl,if_pos rfl,r.kpf (X.sto.kpf k)⟩,fun m=>by
  have hj:¬ j=i:=fun e=>m (e ▸ List.mem_singleton.mpr rfl)
  exact ⟨if_neg hj,if_neg hj⟩⟩
 exact h _ (X.set (s':={ s with heap:=h',toks:=tk }) (M':=M) (fun j=>⟨fun m=>by rw [List.mem_singleton.mp m];exact hM,fun u_=>rfl⟩) (fun a h=>h) k So G) (.kb So k (.refl _) rfl fun j a h=>.inl ⟨j,(fdel_sub h).1⟩)
end
noncomputable def getX:X:=.comp (.idx (.var 115) (.int 1)) (.name 115) (.val (.hattr 113)) (.cons (.cmp1 .eq (.p1 .lower (.idx (.var 115) (.int 0))) (.var 61)) .nil)
noncomputable def keysX:X:=.comp (.var 116) (.tup [116,117]) (.val (.hattr 113)) .nil
section
variable {c:Cfg} {K:Frag}
theorem ev_getX (C:CfgOK c) (H:HK c K):EvOK c getX :=
 ev_comp C (it_val C (ev_hattr H 113)) (tss_cons C (ts_cmp1 C (ev_p1 C (ev_idx C (ev_var 115) (ev_int 0))) (ev_var 61)) tss_nil) (ev_idx C (ev_var 115) (ev_int 1))
theorem ev_keysX (C:CfgOK c) (H:HK c K):EvOK c keysX:=ev_comp C (it_val C (ev_hattr H 113)) tss_nil (ev_var 116)
end
theorem clean_asc {l:List Nat} (h:clean l=true):asc l=true/\l.length<=lim/\∀ ch∈l,okc ch=true:=by
 unfold clean at h
 rw [Bool.and_eq_true,List.all_eq_true,Nat.ble_eq] at h
 refine ⟨?_,h.2,h.1⟩
 unfold asc
 refine List.all_eq_true.mpr fun ch hc=>?_
 have:=h.1 ch hc
 simp only [Bool.and_eq_true,Nat.ble_eq,Nat.blt_eq] at this
 simp only [Nat.blt_eq];lia
theorem lo_ok {ch:Nat} (h:okc ch=true):okc (lo1' ch)=true:=by
 unfold okc at *
 simp only [Bool.and_eq_true,Nat.ble_eq,Nat.blt_eq] at *
 unfold lo1'
 split <;> omega
theorem clean_lo {l:List Nat} (h:clean l=true):∀ ch∈l.map lo1',okc ch=true:=by
 intro ch hc
 (refine e1a2 (List.mem_map.mp hc) ?_;rintro x hx rfl)
 exact lo_ok ((clean_asc h).2.2 x hx)
theorem cleanH_all {l:List (List Nat × List Nat)} (h:cleanH l=true):l.length<=lim/\∀ p∈l,clean p.1=true/\clean p.2=true:=by
 unfold cleanH at h
 rw [Bool.and_eq_true,List.all_eq_true,Nat.ble_eq] at h
 refine ⟨h.2,fun p hp=>?_⟩
 have:=h.1 p hp
 rwa [Bool.and_eq_true] at this
section
variable {G:Nat->Option Int} {T:Nat->List PV->Option PyData}
theorem ev_get {E:AE} {l:List (List Nat × List Nat)} {n:List Nat} (hl:cleanH l=true) (h1:E 113=some (.hdr l)) (h2:E 61=some (.dat (S (n.map lo1')))):ev G T getX E=some (.list ((getAll n l).map S)):=by
 obtain ⟨hlen,hcl⟩:=cleanH_all hl
 have hds:evIt G T (.val (.hattr 113)) E=some (l.map fun p=>.tuple [S p.1,S p.2]):=by
  simp only [evIt_q_val,ev_q_hattr,hdrOf,h1,Option.bind_some,items_q_list,List.length_map]
  rw [if_pos hlen]
 have hloop:∀ l:List (List Nat × List Nat),(∀ p∈l,clean p.1=true/\clean p.2=true)->compLoop (fun E'=>evTests G T (.cons (.cmp1 .eq (.p1 .lower (.idx (.var 115) (.int 0))) (.var 61)) .nil) E') (fun E'=>ev G T (.idx (.var 115) (.int 1)) E') (fun d=>bindT (.name 115) d E) (l.map fun p=>.tuple [S p.1,S p.2]) =
   some ((getAll n l).map S):=by
  intro l
  induction l with
  | nil=>intro _;rfl
  | cons p l ih =>
   intro hc
   (refine e0a3 (clean_asc (hc p List.mem_cons_self).1) ?_;rintro q1 q2 u_)
   have ih:=ih fun x hx=>hc x (List.mem_cons_of_mem _ hx)
   simp only [bindT] at ih
   simp only [List.map_cons,compLoop,bindT,Option.bind_some]
   have e115:(E.set 115 (.dat (.tuple [S p.1,S p.2]))) 115=some (.dat (.tuple [S p.1,S p.2])):=rfl
   have e61:(E.set 115 (.dat (.tuple [S p.1,S p.2]))) 61=some (.dat (S (n.map lo1'))):=h2
   have ek:ev G T (.idx (.var 115) (.int 0)) (E.set 115 (.dat (.tuple [S p.1,S p.2])))=some (S p.1):=by
    simp only [ev_q_int,ev_q_var,ev_q_idx,datOf,e115,Option.bind_some,evIdx_q_tuple_int]
    rfl
   have ev':ev G T (.idx (.var 115) (.int 1)) (E.set 115 (.dat (.tuple [S p.1,S p.2])))=some (S p.2):=by
    simp only [ev_q_int,ev_q_var,ev_q_idx,datOf,e115,Option.bind_some,evIdx_q_tuple_int]
    rfl
   have et:evTests G T (.cons (.cmp1 .eq (.p1 .lower (.idx (.var 115) (.int 0))) (.var 61)) .nil) (E.set 115 (.dat (.tuple [S p.1,S p.2])))=some (decide (p.1.map lo1'=n.map lo1')):=by
    simp only [evTests_q_cons,ev_q_cmp1,ev_q_p1,ek,Option.bind_some,evP1_q_lower_str]
    rw [if_pos ⟨q1,q2⟩]
    simp only [ev_q_var,datOf,e61,Option.bind_some,evCmp_q_eq_str_str,tr_q_bool]
    cases decide (p.1.map lo1'=n.map lo1') <;> rfl
   rw [et,ev',Option.bind_some,ih]
   by_cases hq:p.1.map lo1'=n.map lo1'
   ·simp only [hq,decide_true,Option.bind_some,getAll,List.filter_cons,if_true,List.map_cons]
   ·simp only [hq,decide_false,getAll,List.filter_cons,Bool.false_eq_true,if_false]
 unfold getX
 (dsimp only [ev_q_comp];rw [hds,Option.bind_some])
 rw [hloop l hcl]
 rfl
theorem ev_keys {E:AE} {l:List (List Nat × List Nat)} (hl:cleanH l=true) (h1:E 113=some (.hdr l)):ev G T keysX E=some (.list (l.map fun p=>S p.1)):=by
 obtain ⟨hlen,u_⟩:=cleanH_all hl
 have hds:evIt G T (.val (.hattr 113)) E=some (l.map fun p=>.tuple [S p.1,S p.2]):=by
  simp only [evIt_q_val,ev_q_hattr,hdrOf,h1,Option.bind_some,items_q_list,List.length_map]
  rw [if_pos hlen]
 have hloop:∀ l:List (List Nat × List Nat),compLoop (fun E'=>evTests G T .nil E') (fun E'=>ev G T (.var 116) E') (fun d=>bindT (.tup [116,117]) d E) (l.map fun p=>.tuple [S p.1,S p.2])=some (l.map fun p=>S p.1):=by
  intro l
  induction l with
  | nil=>rfl
  | cons p l ih =>
   simp only [List.map_cons,compLoop,bindT,setAll,Option.bind_some,ev_q_var,datOf]
   rw [show ((E.set 116 (.dat (S p.1))).set 117 (.dat (S p.2))) 116=some (.dat (S p.1)) from rfl]
   dsimp only [Option.bind_some]
   simp only [ev_q_var,datOf,bindT] at ih
   rw [ih];rfl
 unfold keysX
 (dsimp only [ev_q_comp];rw [hds,Option.bind_some])
 rw [hloop l]
 rfl
end
structure Simple (c:Cfg) (f:Addr) (x:X):Prop where
 fn:∃ fd e p,Fn0 c f fd [.Return (some e) p] [113]/\(∀ a:Value,bindArgs fd ⟨[a],[]⟩=pure (([113].map nm).zip [a]))/\chkX c.fnm c.rk 0 fd.scope x e=true
noncomputable def chkGetAll (fnm:Nat->Str) (rk:Nat->Nat) (sc:Scope) (body:List Stmt):Bool :=
 dcons body fun z1 z2=>dSAssign z1 fun z3 z4 z5=>dcons z3 fun z6 z7=>dEName z6 fun nn z8=>dnil z7 (dECall z4 fun z9 z10 z11 q=>dEAttribute z9 fun z12 mn ap=>dEName z12 fun sf z13=>dcons z10 fun arg z14=>dnil z14 (dcons z11 fun z15 z16=>dKw z15 fun z17 z18 z19=>dsome z17 fun kn=>dEConstant z18 fun z20 z21 z22=>dCbool z20 fun b=>dnil z16 (dcons z2 fun z23 z24=>dSReturn z23 fun z25 z26=>dsome z25 fun e=>dnil z24 (decide (nn=nm 61) && ownName sc nn && decide (sf=nm 113) && decide (mn=("_convert_string_type":Str)) && (ap.endLine == q.line) && notStar arg && chkX fnm rk 1 sc (.p1 .lower (.var 61)) arg && decide (kn=nm 61) && chkX fnm rk 1 sc getX e))))
inductive GetV (fnm:Nat->Str) (rk:Nat->Nat) (sc:Scope):List Stmt->Prop
 | mk {nn w1 sf w2 mn ap arg kn b w3 w4 w5 q w6 e w7}:(decide (nn=nm 61) && ownName sc nn && decide (sf=nm 113) && decide (mn=("_convert_string_type":Str)) && (ap.endLine == q.line) && notStar arg && chkX fnm rk 1 sc (.p1 .lower (.var 61)) arg && decide (kn=nm 61) && chkX fnm rk 1 sc getX e)=true->GetV fnm rk sc [.Assign [.Name nn w1] (.Call (.Attribute (.Name sf w2) mn ap) [arg] [⟨some kn,.Constant (.bool b) w3 w4,w5⟩] q) w6,.Return (some e) w7]
theorem inv_getall {fnm:Nat->Str} {rk:Nat->Nat} {sc:Scope} {body:List Stmt} (h:chkGetAll fnm rk sc body=true):GetV fnm rk sc body:=by
 refine dcons_elim h fun z1 z2 h=>?_
 refine dSAssign_elim h fun z3 z4 w6 h=>?_
 refine dcons_elim h fun z5 z6 h=>?_
 refine dEName_elim h fun nn w1 h=>?_
 refine dnil_elim h fun h=>?_
 refine dECall_elim h fun z7 z8 z9 q h=>?_
 refine dEAttribute_elim h fun z10 mn ap h=>?_
 refine dEName_elim h fun sf w2 h=>?_
 refine dcons_elim h fun arg z11 h=>?_
 refine dnil_elim h fun h=>?_
 refine dcons_elim h fun z12 z13 h=>?_
 refine dKw_elim h fun z14 z15 w5 h=>?_
 refine dsome_elim h fun kn h=>?_
 refine dEConstant_elim h fun z16 w3 w4 h=>?_
 refine dCbool_elim h fun b h=>?_
 refine dnil_elim h fun h=>?_
 refine dcons_elim h fun z17 z18 h=>?_
 refine dSReturn_elim h fun z19 w7 h=>?_
 refine dsome_elim h fun e h=>?_
 refine dnil_elim h fun h=>?_
 exact .mk h
structure GetF (c:Cfg) (f:Addr):Prop where
 fn:∃ fd body,Fn0 c f fd body [113,61]/\(∀ a b:Value,bindArgs fd ⟨[a,b],[]⟩=pure (([113,61].map nm).zip [a,b]))/\chkGetAll c.fnm c.rk fd.scope body=true
section
variable {c:Cfg} {K:Frag}
theorem simple_ok {f:Addr} {x:X} (M:Simple c f x) (hX:EvOK c x) (h1:okX (md (List.replicate 130 0)) x=true) (h2:odX (md (List.replicate 130 0)) x=0) {A:Around} {s:Shared} {a:Addr} {l la} {d:PyData} {R:Result->Shared->Prop} {Bad:Addr->Prop} (hroom:Room 1 A) (B:Base c s.heap)
  (hbad:∀ a,Bad a->∃ o,s.heap.get? a=some o) (hd:HdrAt c.HC s.heap (.ref a) l la) (hev:ev c.G c.T x (AE.set (fun u_=>none) 113 (.hdr l))=some d) (h:∀ v s',Stp s s'->Rd0 Bad s'.heap v d->R (.ok (.ret v)) s') :
  codeAny (model c.prog c.w) A (.call (.ref f) ⟨[.ref a],[]⟩) R s:=by
 (refine by_goal fun G_ hG_=>?_;rcases M with ⟨fd,e,p,F0,hb,hc⟩;all_goals (refine hG_ ?_;clear hG_ G_))
 refine call_frame (n:=0) (Bad:=Bad) (V:=fun vals u_=>vals=[.ref a]) hroom B F0 hbad (fun Q Er hq=>?_) fun env vals s0 s1 Er es st0 hV st1 X fin low=>?_
 ·rw [hb];exact wpAny_pure (hq [.ref a] s (.refl s) rfl rfl)
 subst hV
 rw [<-es] at hc
 have hd1:=hd.keep (st0.trans st1).keep
 refine wpAny_execs_cons (wpAny_Return_some (hX 0 _ env _ _ _ s1 e d _ Er (X.cxH (i:=113) rfl hd1) hc h1 hev fun v s2 st2 r u_=>?_))
 rw [h2] at r
 exact h v s2 (st0.trans (fin (fun u_=>[]) _ (.of st2))) (Rd0.bad r)
set_option tactic.hygienic true in
theorem getall_ok (C:CfgOK c) (H:HK c K) {f fc:Addr} (M:GetF c f) (V:ConvF c fc) (mc:MethK c K "_convert_string_type" fc) {A:Around} {s:Shared} {a:Addr} {l la} {n:List Nat} {v:Value} {R:Result->Shared->Prop} {Bad:Addr->Prop} (hroom:Room 2 A) (B:Base c s.heap)
  (hbad:∀ a,Bad a->∃ o,s.heap.get? a=some o) (hd:HdrAt c.HC s.heap (.ref a) l la) (hn:clean n=true) (hl:cleanH l=true) (hv:Rd0 Bad s.heap v (S n)) (h:∀ v s',Stp s s'->Rd0 Bad s'.heap v (.list ((getAll n l).map S))->R (.ok (.ret v)) s') :
  codeAny (model c.prog c.w) A (.call (.ref f) ⟨[.ref a,v],[]⟩) R s:=by
 (refine by_goal fun G_ hG_=>?_;rcases M with ⟨fd,body,F0,hb,hc⟩;all_goals (refine hG_ ?_;clear hG_ G_))
 (refine e1a1 hv.str ?_;rintro t rfl)
 refine call_frame (n:=1) (Bad:=Bad) (V:=fun vals _=>vals=[.ref a,.str ⟨⟨n⟩⟩ t]) hroom B F0 hbad (fun Q Er hq=>?_) fun env vals s0 s1 Er es st0 hV st1 X fin low=>?_
 ·rw [hb];exact wpAny_pure (hq [.ref a,.str ⟨⟨n⟩⟩ t] s (.refl s) rfl rfl)
 subst hV
 have hv:=inv_getall hc
 clear hc
 cases hv
 rename_i hc
 rw [<-es] at hc
 (refine k_dbddbbbdb hc ?_;try clear hc;rintro rfl c1 rfl rfl c2 c3 c4 rfl c5)
 have hd1:=hd.keep (st0.trans st1).keep
 have X1:=X.addE (i:=61) (d:=S n) rfl .mkStr (md0 _) rfl
 (refine e0a3 (clean_asc hn) ?_;rintro a1 a2 a3)
 have elow:ev c.G c.T (.p1 .lower (.var 61)) (AE.set (fun _=>none) 61 (.dat (S n)))=some (S (n.map lo1')):=by
  exact if_pos ⟨a1,a2⟩
 refine wpAny_execs_cons (wpAny_Assign_Name (conv_call C H V mc X1 (Nat.le_refl _) (i:=113) (by rfl) (by decide +kernel) hd1 (x:=⟨⟨n.map lo1'⟩⟩) c3 c2 (clean_lo hn) (fun Q Er hq=>?_) fun t2 s2 st2=>?_) rfl)
 ·refine ev_p1 C (ev_var 61) 1 _ env _ _ _ s1 _ _ _ Er X1.cx c4 (by rfl) elow fun v s' st r _=>?_
  (refine e1a1 r.any.str ?_;rintro t3 rfl)
  exact hq t3 s' st
 have X2:=X1.stp st2
 refine sx_store X2 c1 (d:=S (n.map lo1')) .mkStr (md0 _) fun s3 X3 S3=>?_
 have st3:=st0.trans (fin _ s3 ((SStep.of st2).trans S3))
 have hd3:=hd.keep st3.keep
 refine wpAny_execs_cons (wpAny_Return_some (ev_getX C H 1 _ env _ _ _ s3 _ _ _ Er (X3.cxH (i:=113) (by rfl) hd3) c5 (by decide +kernel) (ev_get (n:=n) hl rfl rfl) fun v s4 st4 r _=>?_))
 exact h v s4 (st3.trans st4) (Rd0.bad r)
structure Meths (c:Cfg) (K:Frag):Prop where
 hk:HK c K
 conv:∃ f,MethK c K "_convert_string_type" f/\ConvF c f
 get:∃ f,MethK c K "get_all" f/\GetF c f
 keys:∃ f,MethK c K "keys" f/\Simple c f keysX
set_option tactic.hygienic true in
theorem hdr_look {Own:Addr->Prop} {env:Env} {M:Nat->Nat} {E:AE} {s:Shared} {n:Nat} {A:Around} (X:Cx c n A Own env M E s) {i:Nat} {l} (hl:hdrOf E i=some l) (ha:acc env.scope (nm i)=true) :
  ∃ m a la,s.heap.Ns env.locals m/\Lk env s.heap m (nm i) (.ref a)/\HdrAt c.HC s.heap (.ref a) l la:=by
 (refine e1a2 X.view.ns ?_;rintro m hm hv)
 have hE:E i=some (.hdr l):=by
  unfold hdrOf at hl
  split at hl
  ·rename_i l' e;rw [e];(replace hl:=(Option.some.inj hl).symm;subst hl);rfl
  ·exact nso hl
 (refine e1a2 (hv i _ hE ha) ?_;rintro v hlk hr)
 cases hr with
 | hdr hd =>
  rename_i la
  (refine e6a2 hd.inst ?_;rintro a da od hs t n' e _)
  subst e
  exact ⟨m,a,la,hm,hlk,hd⟩
theorem ev_hget (C:CfgOK c) (M:Meths c K) (i:Nat) {a:X} (ha:EvOK c a):EvOK c (.hget i a):=by
 intro n A env Own Md E s e d Q Er X hc ho he h
 simp only [chkX_q_hget,Bool.and_eq_true,decide_eq_true_eq] at hc
 obtain ⟨hn,hc⟩:=hc
 (refine e4a6 (inv_me1 hc) ?_;rintro o z ap q rfl c1 c2 c3 c4 c5)
 (refine e1a3 (inv_var c4) ?_;rintro p rfl c6 c7)
 dsimp only [okX_q_hget] at ho
 revert he
 refine sbn fun l hl=>sbn fun x hx=>sbn fun nn hnn he=>?_
 revert he
 refine ifs fun hcl he=>?_
 (replace he:=(Option.some.inj he).symm;subst he)
 (refine e1a2 M.get ?_;rintro f mf gf)
 (refine e1a2 M.conv ?_;rintro fc mc vc)
 have hq0:∃ v0,x=.str v0:=by revert hnn;generalize x=y0;intro hnn;cases y0 <;> first | exact ⟨_,rfl⟩ | exact nso hnn | exact nbt hnn | cases hnn
 (refine e1a1 hq0 ?_;try clear hq0;rintro x rfl)
 have hnn:some (sl x)=some nn:=hnn
 (replace hnn:=(Option.some.inj hnn).symm;subst hnn)
 (refine e3a3 (hdr_look X hl c6) ?_;rintro m b la hm hlk hd)
 have hst:starEach [z] env=[(false,eval z env)]:=starEach_cons c3
 refine meth_any (super_not rfl) (by rw [hst];rfl) c2 (ev_Lk X.eok hm hlk c7 fun pl=>meth_get M.hk mf X.base hd ?_)
 show wpAny _ A (callWith q (.ref f) [.ref b] _ _) Q Er s
 refine callWith_KW (M.hk.at X.base) mf.keep rfl ?_ (by rw [hst];rfl) (starEach_cons c3)
 rw [hst]
 refine Calls.spliced_cons (ha n A env Own Md E s z (.str x) _ Er X c5 ho hx fun v s1 st1 r u_=>Calls.spliced_nil (kwAll_nil ⟨M.hk.at (X.base.keep st1.keep),?_⟩))
 show wpAny _ A (call (.ref f) [.ref b,v] []) Q Er s1
 have X1:=X.stp C st1
 (refine e1a1 r.any.str ?_;rintro t rfl)
 refine wpAny_call (getall_ok C M.hk gf vc mc (X1.room.le (by lia)) X1.base X1.live (hd.keep st1.keep) hcl.1 hcl.2 .mkStr fun v s2 st2 r2=>h v s2 (st1.trans st2) r2 fun z=>nomatch z)
theorem ev_simple (C:CfgOK c) (M:Meths c K) {name:Str} {x:X} {f:Addr} (mf:MethK c K name f) (sf:Simple c f x) (hX:EvOK c x) (h1:okX (md (List.replicate 130 0)) x=true) (h2:odX (md (List.replicate 130 0)) x=0) {i:Nat} {y:X} (hy:newX y=false) (hod:∀ Md,odX Md y=0)
  (hchk:∀ n sc e,chkX c.fnm c.rk n sc y e=true->2 < n/\kMe0 name (kVar sc i) e=true) (hev:∀ E d,ev c.G c.T y E=some d->∃ l,hdrOf E i=some l/\ev c.G c.T x (AE.set (fun u_=>none) 113 (.hdr l))=some d):EvOK c y:=by
 intro n A env Own Md E s e d Q Er X hc ho he h
 obtain ⟨hn,hc⟩:=hchk _ _ _ hc
 (refine e3a4 (inv_me0 hc) ?_;rintro o ap q rfl c1 c2 c4)
 (refine e1a3 (inv_var c4) ?_;rintro p rfl c6 c7)
 (refine e1a2 (hev _ _ he) ?_;rintro l hl hx)
 (refine e3a3 (hdr_look X hl c6) ?_;rintro m b la hm hlk hd)
 refine meth_any (super_not rfl) rfl c2 (ev_Lk X.eok hm hlk c7 fun pl=>meth_get M.hk mf X.base hd ?_)
 show wpAny _ A (callWith q (.ref f) [.ref b] _ _) Q Er s
 refine callWith_KW0 (M.hk.at X.base) mf.keep rfl (kwAll_nil ⟨M.hk.at X.base,?_⟩)
 show wpAny _ A (call (.ref f) [.ref b] []) Q Er s
 refine wpAny_call (simple_ok sf hX h1 h2 (X.room.le (by lia)) X.base X.live hd hx fun v s2 st2 r2=>h v s2 st2 (by rw [hod];exact r2) fun z=>by rw [hy] at z;exact nbt z)
set_option tactic.hygienic true in
theorem ev_hkeys (C:CfgOK c) (M:Meths c K) (i:Nat):EvOK c (.hkeys i):=by
 (refine e1a2 M.keys ?_;rintro f mf sf)
 refine ev_simple (i:=i) C M mf sf (ev_keysX C M.hk) (by decide +kernel) (by decide +kernel) rfl (fun _=>rfl) (fun n sc e h=>?_) fun E d h=>?_
 ·simp only [chkX_q_hkeys,Bool.and_eq_true,decide_eq_true_eq] at h;exact h
 ·revert h
  refine sbn fun l hl h=>?_
  split at h
  ·rename_i q;(replace h:=(Option.some.inj h).symm;subst h);exact ⟨l,hl,ev_keys q rfl⟩
  ·exact nso h
end
noncomputable def aConv (ck:Ck) (e:Expr):Bool :=
 dECall e fun f as ks q=>dEAttribute f fun o mn ap=>dEName o fun sf u1_=>dcons as fun arg r=>dnil r (dcons ks fun k r=>dKw k fun kn kv u2_=>dsome kn fun kn=>dEConstant kv fun cb u3_ u4_=>dCbool cb fun u5_=>dnil r (decide (sf=nm 113) && decide (mn=("_convert_string_type":Str)) && (ap.endLine == q.line) && notStar arg && ck arg && decide (kn=nm 61)))
inductive CvV (ck:Ck):Expr->Prop
 | mk {w2 ap arg w3 w4 w5 w6 q}:(ap.endLine == q.line)=true->notStar arg=true->ck arg=true->CvV ck (.Call (.Attribute (.Name (nm 113) w2) ("_convert_string_type":Str) ap) [arg] [⟨some (nm 61),.Constant (.bool w3) w4 w5,w6⟩] q)
theorem inv_aConv {ck:Ck} {e:Expr} (h:aConv ck e=true):CvV ck e:=by
 refine dECall_elim h fun z1 z2 z3 q h=>?_
 refine dEAttribute_elim h fun z4 mn ap h=>?_
 refine dEName_elim h fun sf w2 h=>?_
 refine dcons_elim h fun arg z5 h=>?_
 refine dnil_elim h fun h=>?_
 refine dcons_elim h fun z6 z7 h=>?_
 refine dKw_elim h fun z8 z9 w6 h=>?_
 refine dsome_elim h fun kn h=>?_
 refine dEConstant_elim h fun z10 w4 w5 h=>?_
 refine dCbool_elim h fun w3 h=>?_
 refine dnil_elim h fun h=>?_
 (refine k_ddbbbd h ?_;clear h;rintro rfl rfl h1 h2 h3 rfl)
 exact .mk h1 h2 h3
noncomputable def aIf (fnm:Nat->Str) (rk:Nat->Nat) (sc:Scope) (s:Stmt):Bool :=
 dSIf s fun t b o u1_=>dnil o (dcons b fun x r=>dcons r fun s2 r=>dnil r (dSAssign x fun tg v u2_=>dcons tg fun y r=>dnil r (dEName y fun v1 u3_=>chkX fnm rk 1 sc (.isC true (.var 120) .none) t && decide (v1=nm 120) && ownName sc v1 && aConv (chkX fnm rk 1 sc (.var 120)) v && chkS fnm rk 1 sc (.app 33 (.var 120)) s2)))
inductive IfV (fnm:Nat->Str) (rk:Nat->Nat) (sc:Scope):Stmt->Prop
 | mk {t w1 v w7 s2 w8}:chkX fnm rk 1 sc (.isC true (.var 120) .none) t=true->ownName sc (nm 120)=true->CvV (chkX fnm rk 1 sc (.var 120)) v->chkS fnm rk 1 sc (.app 33 (.var 120)) s2=true->IfV fnm rk sc (.If t [.Assign [.Name (nm 120) w1] v w7,s2] [] w8)
theorem inv_aIf {fnm:Nat->Str} {rk:Nat->Nat} {sc:Scope} {s:Stmt} (h:aIf fnm rk sc s=true):IfV fnm rk sc s:=by
 refine dSIf_elim h fun t z1 z2 w8 h=>?_
 refine dnil_elim h fun h=>?_
 refine dcons_elim h fun z3 z4 h=>?_
 refine dcons_elim h fun s2 z5 h=>?_
 refine dnil_elim h fun h=>?_
 refine dSAssign_elim h fun z6 v w7 h=>?_
 refine dcons_elim h fun z7 z8 h=>?_
 refine dnil_elim h fun h=>?_
 refine dEName_elim h fun v1 w1 h=>?_
 (refine k_bdbbb h ?_;clear h;rintro h1 rfl h2 h3 h4)
 exact .mk h1 h2 (inv_aConv h3) h4
noncomputable def aFor (s:Stmt):Bool :=
 dSFor s fun u1_ it u2_ ol u3_=>dnil ol (dECall it fun f as ks q=>dnil as (dnil ks (dEAttribute f fun o itn ap=>dEName o fun pm u4_=>decide (pm=nm 121) && decide (itn=("items":Str)) && (ap.endLine == q.line))))
inductive ForV:Stmt->Prop
 | mk {w9 w10 ap q w11 w12}:(ap.endLine == q.line)=true->ForV (.For w9 (.Call (.Attribute (.Name (nm 121) w10) ("items":Str) ap) [] [] q) w11 [] w12)
theorem inv_aFor {s:Stmt} (h:aFor s=true):ForV s:=by
 refine dSFor_elim h fun w9 z1 w11 z2 w12 h=>?_
 refine dnil_elim h fun h=>?_
 refine dECall_elim h fun z3 z4 z5 q h=>?_
 refine dnil_elim h fun h=>?_
 refine dnil_elim h fun h=>?_
 refine dEAttribute_elim h fun z6 itn ap h=>?_
 refine dEName_elim h fun pm w10 h=>?_
 (refine k_ddb h ?_;clear h;rintro rfl rfl h)
 exact .mk h
noncomputable def aApp (fnm:Nat->Str) (rk:Nat->Nat) (sc:Scope) (s:Stmt):Bool :=
 dSExpr s fun e u1_=>dECall e fun f as ks q=>dnil ks (dEAttribute f fun at1 app ap=>dcons as fun tp r=>dnil r (dETuple tp fun es u2_ u3_=>dcons es fun cv r=>dcons r fun e2 r=>dnil r (kAttr sc 113 at1 && decide (app=("append":Str)) && (ap.endLine == q.line) && aConv (chkX fnm rk 1 sc (.var 119)) cv && notStar e2 && chkX fnm rk 1 sc (.p2 .join (.str [59,32]) (.var 33)) e2)))
inductive AppV (fnm:Nat->Str) (rk:Nat->Nat) (sc:Scope):Stmt->Prop
 | mk {at1 ap cv e2 w18 w19 q w20}:kAttr sc 113 at1=true->(ap.endLine == q.line)=true->CvV (chkX fnm rk 1 sc (.var 119)) cv->notStar e2=true->chkX fnm rk 1 sc (.p2 .join (.str [59,32]) (.var 33)) e2=true->AppV fnm rk sc (.Expr (.Call (.Attribute at1 ("append":Str) ap) [.Tuple [cv,e2] w18 w19] [] q) w20)
theorem inv_aApp {fnm:Nat->Str} {rk:Nat->Nat} {sc:Scope} {s:Stmt} (h:aApp fnm rk sc s=true):AppV fnm rk sc s:=by
 refine dSExpr_elim h fun z1 w20 h=>?_
 refine dECall_elim h fun z2 z3 z4 q h=>?_
 refine dnil_elim h fun h=>?_
 refine dEAttribute_elim h fun at1 app ap h=>?_
 refine dcons_elim h fun z5 z6 h=>?_
 refine dnil_elim h fun h=>?_
 refine dETuple_elim h fun z7 w18 w19 h=>?_
 refine dcons_elim h fun cv z8 h=>?_
 refine dcons_elim h fun e2 z9 h=>?_
 refine dnil_elim h fun h=>?_
 (refine k_bdbbbb h ?_;clear h;rintro h1 rfl h2 h3 h4 h5)
 exact .mk h1 h2 (inv_aConv h3) h4 h5
noncomputable def chkAdd (fnm:Nat->Str) (rk:Nat->Nat) (sc:Scope) (body:List Stmt):Bool :=
 dcons body fun s1 r=>dcons r fun s2 r=>dcons r fun s3 r=>dcons r fun s4 r=>dnil r (chkS fnm rk 1 sc (.asg 1 33 (.lst .nil)) s1 && aIf fnm rk sc s2 && aFor s3 && aApp fnm rk sc s4)
inductive AddV (fnm:Nat->Str) (rk:Nat->Nat) (sc:Scope):List Stmt->Prop
 | mk {s1 s2 s3 s4}:chkS fnm rk 1 sc (.asg 1 33 (.lst .nil)) s1=true->IfV fnm rk sc s2->ForV s3->AppV fnm rk sc s4->AddV fnm rk sc [s1,s2,s3,s4]
theorem inv_add {fnm:Nat->Str} {rk:Nat->Nat} {sc:Scope} {body:List Stmt} (h:chkAdd fnm rk sc body=true):AddV fnm rk sc body:=by
 refine dcons_elim h fun s1 z1 h=>?_
 refine dcons_elim h fun s2 z2 h=>?_
 refine dcons_elim h fun s3 z3 h=>?_
 refine dcons_elim h fun s4 z4 h=>?_
 refine dnil_elim h fun h=>?_
 (refine k_bbbb h ?_;clear h;rintro h1 h2 h3 h4)
 exact .mk h1 (inv_aIf h2) (inv_aFor h3) (inv_aApp h4)
structure AddF (c:Cfg) (f:Addr):Prop where
 fn:∃ fd body,Fn0 c f fd body [113,119,120,121]/\(∀ a n v:Value,bindArgs fd ⟨[a,n,v],[]⟩=(alloc { cls:=.type "dict",data:=.dict #[] } >>= fun d=>pure (([113,119,120,121].map nm).zip [a,n,v,.ref d])))/\chkAdd c.fnm c.rk fd.scope body=true
section
variable {c:Cfg} {K:Frag}
theorem Base.sz {h:Heap} (B:Base c h):3 < h.objs.size:=Heap.Ns.lt B.g
set_option tactic.hygienic true in
theorem for_empty {A:Around} {env:Env} {Bad:Addr->Prop} {M:List Nat} {F:Nat->List Addr} {P:Nat->Option Value} {E:AE} {s:Shared} {n:Nat} (X:SX c n A env Bad M F P E s) {i:Nat} {d:Addr} (hP:P i=some (.ref d)) (hp:plainName (nm i)=true) (hd:∃ o:Obj,s.heap.get? d=some o/\o.ExactDict/\o.data=.dict #[] 0) (hd2:(d == sysModules)=false)
  {tg:Expr} {p1 ap q pos:Pos} {body:List Stmt} {Q:Flow->Shared->Prop} {Er:Value->Shared->Prop} (hl:(ap.endLine == q.line)=true) (h:∀ s',Stp s s'->Q .next s'):wpAny (model c.prog c.w) A (exec (.For tg (.Call (.Attribute (.Name (nm i) p1) "items" ap) [] [] q) body [] pos) env) Q Er s:=by
 (refine e1a3 hd ?_;try clear hd;rintro o ho hex hdat)
 have DA:∀ {s':Shared},Stp s s'->s'.heap.DictAt (strKind c.prog c.w) d [] 0:=fun st=>⟨o,#[],st.keep _ _ ho,hex,hdat,fun e he=>by simp at he,.nil,List.nodup_nil⟩
 refine wpAny_For (Call_method0 (super_not rfl) hl (ev_name X hP hp ?_)) (set_not rfl)
 refine ⟨"dict",_,PySem.F.plainAttrs_dict,PySem.F.slot_dict_items,PySem.F.type_dict_items,⟨o,ho,hex.1⟩,fun b eb=>?_,?_⟩
 ·cases eb;exact ⟨o,ho,hex.2.1⟩
 refine Calls.callWith_builtin rfl (evalArgs_ns (.inl rfl) (Calls.spliced_nil ?_))
 refine call_meetsIn PySem.F.slot_dict_items ⟨o,ho,hex.1⟩ PySem.F.entry_dict_items (PySem.F.args_dict_items_1 _) (meets_dict_items (strKind c.prog c.w) d hd2) ⟨⟨[],(DA (.refl s)).dictOf⟩,?_⟩
 have st1:Stp s { s with heap:=s.heap.push { cls:=.type "dict_items",data:=.fields #[.ref d] } }:=.push
 refine wpAny_pyIter_items (kvs:=[]) (ep:=0) ⟨_,Heap.get?_push_size _ rfl,rfl,rfl⟩ (DA st1) ?_
 generalize hs2:({ s with heap:=s.heap.push { cls:=.type "dict_items",data:=.fields #[.ref d] } }:Shared)=s2 at st1 ⊢
 have st2:Stp s { s2 with heap:=s2.heap.push { cls:=.type "dict_itemiterator",data:=.fields #[.none,.bool false,.ref d,.int 0 0,.int (([]:List (Str × Value)).length:Int) 0,.int ((0:Nat):Int) 0,.none,.none] } }:=st1.trans .push
 refine codeAny_forLoop_any (fun k s'=>s'={ s2 with heap:=s2.heap.push { cls:=.type "dict_itemiterator",data:=.fields #[.none,.bool false,.ref d,.int 0 0,.int (([]:List (Str × Value)).length:Int) 0,.int ((0:Nat):Int) 0,.none,.none] } }) ?_ 0 rfl
 rintro k s' rfl
 refine wpAny_pyNext_items_end (knd:=strKind c.prog c.w) (i:=0) (ep:=0) (kvs:=[]) (d:=d) (ok:=.none) (ov:=.none) X.room.hand (Heap.get?_push_size _ rfl) (DA st2) rfl fun h' hx=>wpAny_execs_nil (h _ ?_)
 refine ⟨fun b o e=>hx b o (fun q=>?_) (st2.keep b o e),st2.gk,st2.os⟩
 have:=Heap.lt_size (st1.keep b o e)
 rw [q] at this
 exact absurd this (Nat.lt_irrefl _)
set_option tactic.hygienic true in
theorem app_hand (C:CfgOK c) {n:Nat} {A:Around} {env:Env} {Bad:Addr->Prop} {M:List Nat} {F:Nat->List Addr} {P:Nat->Option Value} {E:AE} {s:Shared} {i:Nat} {e:X} {x:Stmt} {xs:List PyData} {d:PyData} {Q:Flow->Shared->Prop} {Er:Value->Shared->Prop}
  (X:SX c n A env Bad M F P E s) (he:EvOK c e) (hc:chkS c.fnm c.rk n env.scope (.app i e) x=true) (hl0:E i=some (.dat (.list xs))) (hsz:xs.length<=lim) (g1:md M i=1) (g2:okX (md M) e=true) (g3:odX (md M) e=0) (hd:ev c.G c.T e E=some d)
  (h:∀ s',SX c n A env Bad M F P (E.set i (.dat (.list (xs++[d])))) s'->SStep env F s F s'->Q .next s'):wpAny (model c.prog c.w) A (exec x env) Q Er s:=by
 dsimp only [chkS_q_app] at hc
 refine dSExpr_elim hc fun v pos hc=>?_
 ·(refine e4a6 (inv_me1 hc) ?_;rintro o z ap q rfl c1 c2 c3 c4 c5)
  (refine e1a3 (inv_var c4) ?_;rintro p1 rfl _ c6)
  (refine e1a2 (X.vars i _ hl0) ?_;rintro v0 q1 q2)
  rw [g1] at q2
  (refine e2a4 (one_of q2) ?_;rintro a vs rfl hF hl hx)
  refine wpAny_Expr ?_ (not_inter X.eok) rfl
  refine Call_method1 (super_not c1) (starEach1 c3) c2 (ev_name X q1 c6 ?_)
  refine ⟨"list",_,PySem.F.plainAttrs_list,PySem.F.slot_list_append,PySem.F.type_list_append,hl.isList.typeIs,(fun b eb=>?_),?_⟩
  ·cases eb
   (refine e1a1 hl ?_;try clear hl;rintro nn e0)
   exact ⟨_,e0,rfl⟩
  ·refine Calls.callWith_builtin rfl (Calls.evalArgs_plain (Calls.spliced_cons (he n A env _ _ E s z d _ Er X.cx c5 g2 hd fun v1 s1 st1 r1 _=>Calls.spliced_nil ?_)))
   rw [g3] at r1
   have X1:=X.stp st1
   have hl1:=PlainList.keep st1.keep hl
   have hx1:=hx.mono fun _ _ q=>Rd0.keep st1.keep q
   have elen:=hx.length
   rw [Array.length_toList] at elen
   refine wpAny_list_append_plain hl1 (fun h' hl' hs'=>?_) (sz_lim (elen ▸ hsz))
   have mem:a∈F i:=hF ▸ List.mem_cons_self
   have kp:KpF (OwnB Bad F) s1.heap h':=fun b o ws nn hb' hd hc'=>(hs'.2 b fun q=>by
    subst q
    (refine e1a1 hl1 ?_;try clear hl1;rintro n1 e1)
    rcases hc' with hc' | hc'
    ·rw [e1] at hb';(replace hb':=(Option.some.inj hb').symm;subst hb');exact absurd hc' (by simp)
    ·exact hc' (.inr ⟨i,mem⟩)).trans hb'
   have X3:=X1.mut (s':={ s1 with heap:=h' }) (pv:=.dat (.list (xs++[d]))) mem hs' ⟨_,hl'⟩ ⟨.ref a,q1,by
    rw [g1,hF]
    refine .one hl' ?_
    rw [Array.toList_push]
    exact (hx1.mono fun _ _ q=>q.kpf kp).append (.cons (r1.kpf kp) .nil)⟩
   exact h _ X3 ((SStep.of st1).trans (.mut mem hs' ⟨_,hl'⟩ (.refl _) rfl))
theorem joinL_one (a b:List Nat):joinL a [b]=b:=rfl
set_option tactic.hygienic true in
theorem add_app (C:CfgOK c) (M:Meths c K) {fc:Addr} (mc:MethK c K "_convert_string_type" fc) (vc:ConvF c fc) {A:Around} {env:Env} {Bad:Addr->Prop} {M7:List Nat} {F:Nat->List Addr} {P:Nat->Option Value} {E:AE} {s7:Shared} {a:Addr} {l la} {n v:List Nat} {x:Stmt} {Q:Flow->Shared->Prop} {Er:Value->Shared->Prop}
  (X7:SX c 1 A env Bad M7 F P E s7) (vA:AppV c.fnm c.rk env.scope x) (hd:HdrAt c.HC s7.heap (.ref a) l la) (hn:clean n=true) (hv:clean v=true) (hl:l.length<=lim) (p113:P 113=some (.ref a)) (e119:E 119=some (.dat (S n))) (e33:E 33=some (.dat (.list [S v])))
  (m119:okX (md M7) (.var 119)=true) (mj:okX (md M7) (.p2 .join (.str [59,32]) (.var 33))=true)
  (h:∀ s1 h',Stp s7 s1->(∃ vs,h'.PlainList la vs/\All2 (Rd0 (fun _=>False) h') vs.toList ((l++[(n,v)]).map fun p=>PyData.tuple [S p.1,S p.2]))->Heap.SameBut la s1.heap h'->Q .next { s1 with heap:=h' }) :
  wpAny (model c.prog c.w) A (exec x env) Q Er s7:=by
 cases vA with | mk c9 c10 vC c14 c15 =>
 cases vC with | mk c11 c12 c13 =>
 (refine e2a3 (inv_attr c9) ?_;rintro pa pb rfl _ _)
 refine wpAny_Expr ?_ (not_inter X7.eok) rfl
 refine Call_method1 (super_not rfl) (starEach1 rfl) c10 (Attribute_Name_ (ev_name X7 (i:=113) p113 (by decide +kernel) (get_headers M.hk X7.base hd ?_)))
 have st8:Stp s7 { s7 with toks:=s7.toks+1 }:=.toks
 generalize hs8:({ s7 with toks:=s7.toks+1 }:Shared)=s8 at st8 ⊢
 have X8:=X7.stp st8
 have hd8:=hd.keep st8.keep
 (refine e1a2 (hd8.list) ?_;rintro vs hpl hpx)
 refine ⟨"list",_,PySem.F.plainAttrs_list,PySem.F.slot_list_append,PySem.F.type_list_append,hpl.isList.typeIs,(fun b eb=>?_),?_⟩
 ·cases eb
  (refine e1a1 hpl ?_;try clear hpl;rintro nn e0)
  exact ⟨_,e0,rfl⟩
 refine Calls.callWith_builtin rfl (Calls.evalArgs_plain (Calls.spliced_cons (wpAny_Tuple_spliced ?_)))
 rw [starEach_cons (e:=.Call _ _ _ _) rfl,starEach_cons c14]
 refine Calls.spliced_cons (conv_call C M.hk vc mc X8 (Nat.le_refl _) (i:=113) p113 (by decide +kernel) hd8 (x:=⟨⟨n⟩⟩) c12 c11 (clean_asc hn).2.2 (fun Q Er hq=>?_) fun t9 s9 st9=>?_)
 ·refine ev_var 119 1 _ env _ _ _ s8 _ (S n) _ Er X8.cx c13 m119 (by dsimp only [ev_q_var];unfold datOf;rw [e119]) fun v s' st r _=>?_
  (refine e1a1 r.any.str ?_;rintro t rfl)
  exact hq t s' st
 have X9:=X8.stp st9
 have ej:ev c.G c.T (.p2 .join (.str [59,32]) (.var 33)) E=some (S v):=by
  dsimp only [ev_q_p2,ev_q_str,ev_q_var]
  unfold datOf
  rw [e33]
  show evP2 .join (S [59,32]) (.list [S v])=_
  dsimp only [evP2_q_join_str_list]
  simp only [strL,Option.bind_some,joinL_one]
  exact if_pos ⟨(clean_asc hv).2.1,by show (1:Nat)<=1000000;lia,by show (2:Nat)<=1000000;lia⟩
 refine Calls.spliced_cons (ev_p2 C (ev_str _) (ev_var 33) 1 _ env _ _ _ s9 _ (S v) _ _ X9.cx c15 mj ej fun w s10 st10 r10 _=>Calls.spliced_nil ⟨by rw [sizeLine_eq];show (2:Nat)<=16777216;lia,?_⟩)
 (refine e1a1 r10.any.str ?_;rintro t10 rfl)
 have X10:=X9.stp st10
 refine Calls.spliced_nil ?_
 generalize hs11:({ s10 with heap:=s10.heap.push { cls:=.type "tuple",data:=.seq [Value.str ⟨⟨n⟩⟩ t9,.str ⟨⟨v⟩⟩ t10].toArray } }:Shared)=s11
 have st11:Stp s10 s11:=by rw [<-hs11];exact .push
 have hT:s11.heap.IsTuple s10.heap.objs.size #[Value.str ⟨⟨n⟩⟩ t9,.str ⟨⟨v⟩⟩ t10]:=by rw [<-hs11];exact ⟨_,Heap.get?_push_size _ rfl,rfl,_,rfl⟩
 have kk:=(st9.trans (st10.trans st11)).keep
 have hpl11:=PlainList.keep kk hpl
 have elen:=hpx.length
 rw [Array.length_toList,List.length_map] at elen
 refine wpAny_list_append_plain hpl11 (fun h' hl' hs'=>?_) (sz_lim (elen ▸ hl))
 refine h s11 h' (((st8.trans st9).trans st10).trans st11) ⟨_,hl',?_⟩ hs'
 have kp:KpF (fun b=>b=la) s11.heap h':=fun b o ws nn hb' hd hc'=>(hs'.2 b fun q=>by
  subst q
  (refine e1a1 hpl11 ?_;try clear hpl11;rintro n1 e1)
  rcases hc' with hc' | hc'
  ·rw [e1] at hb';(replace hb':=(Option.some.inj hb').symm;subst hb');exact absurd hc' (by simp)
  ·exact hc' rfl).trans hb'
 rw [Array.toList_push,List.map_append]
 refine (pairs_any (Y:=fun _=>False) kp (hpx.mono fun _ _ q=>Rd0.keep kk q)).append (.cons ?_ .nil)
 have r:Rd0 (fun b=>b=la) s11.heap (.ref s10.heap.objs.size) (.tuple [S n,S v]):=Rd0.tuple hT (.cons .mkStr (.cons .mkStr .nil))
 exact pair_any (r.kpf kp)
set_option tactic.hygienic true in
theorem add_ok (C:CfgOK c) (M:Meths c K) {f:Addr} (AF:AddF c f) {A:Around} {s:Shared} {a:Addr} {l la} {n v:List Nat} {vn vv:Value} {R:Result->Shared->Prop} {Bad:Addr->Prop} (hroom:Room 2 A) (B:Base c s.heap)
  (hbad:∀ a,Bad a->∃ o,s.heap.get? a=some o) (hd:HdrAt c.HC s.heap (.ref a) l la) (hn:clean n=true) (hv:clean v=true) (hl:l.length<=lim) (rn:Rd0 Bad s.heap vn (S n)) (rv:Rd0 Bad s.heap vv (S v))
  (h:∀ s1 h',Stp s s1->(∃ vs,h'.PlainList la vs/\All2 (Rd0 (fun _=>False) h') vs.toList ((l++[(n,v)]).map fun p=>PyData.tuple [S p.1,S p.2]))->Heap.SameBut la s1.heap h'->R (.ok (.ret .none)) { s1 with heap:=h' }) :
  codeAny (model c.prog c.w) A (.call (.ref f) ⟨[.ref a,vn,vv],[]⟩) R s:=by
 (refine by_goal fun G_ hG_=>?_;rcases AF with ⟨fd,body,F0,hb,hc⟩;all_goals (refine hG_ ?_;clear hG_ G_))
 (refine e1a1 rn.str ?_;rintro tn rfl)
 (refine e1a1 rv.str ?_;rintro tv rfl)
 (refine e1a2 M.conv ?_;rintro fc mc vc)
 refine call_frame (n:=1) (Bad:=Bad) (V:=fun vals s0=>∃ d,vals=[.ref a,.str ⟨⟨n⟩⟩ tn,.str ⟨⟨v⟩⟩ tv,.ref d]/\s0.heap.get? d=some { cls:=.type "dict",data:=.dict #[] }/\(d == sysModules)=false) hroom B F0 hbad (fun Q Er hq=>?_) fun env vals s0 s1 Er es st0 hV st1 X fin low=>?_
 ·rw [hb]
  refine wpAny_bind (wpAny_alloc (wpAny_pure (hq [.ref a,.str ⟨⟨n⟩⟩ tn,.str ⟨⟨v⟩⟩ tv,.ref s.heap.objs.size] _ .push rfl ⟨_,rfl,Heap.get?_push_size _ rfl,?_⟩)))
  have:=B.sz
  exact beq_eq_false_iff_ne.mpr (by show s.heap.objs.size≠1;lia)
 (refine e1a3 hV ?_;try clear hV;rintro d rfl hdd hds)
 have hv:=inv_add (show chkAdd c.fnm c.rk env.scope body=true by rw [es];exact hc)
 clear hc
 revert F0
 cases hv with | mk c1 vI vF vA =>
 intro F0
 clear F0
 have hdS:∀ {F' s'},SStep env (fun _=>[]) s1 F' s'->HdrAt c.HC s'.heap (.ref a) l la:=fun S=>hd.keep (st0.trans (fin _ _ S)).keep
 have X1:=(X.addE (i:=119) (d:=S n) (v:=.str ⟨⟨n⟩⟩ tn) (by rfl) .mkStr (md0 _) rfl).addE (i:=120) (d:=S v) (v:=.str ⟨⟨v⟩⟩ tv) (by rfl) .mkStr (md0 _) rfl
 (refine e3a4 (sAsg_inv (by simp only [chkS_q_asg] at c1;exact c1)) ?_;rintro p33 v33 pos33 rfl d1 d2 d3)
 refine wpAny_execs_cons (asg_of (ev_lst C evs_nil) rfl 1 _ env Bad _ _ _ _ s1 v33 (.list []) 33 p33 pos33 _ Er X1 d3 d2 (by decide +kernel) (by decide +kernel) d1 rfl fun w s2 k2 So2 hg2 ho2 r2 fr2 u9_=>?_)
 (refine e2a2 r2.unlist ?_;rintro D vsD rfl _)
 have frD:=fr2 rfl
 have X2:=X1.setL (M':=(List.replicate 130 0).set 33 1) (fun j=>md_set (by decide)) r2 frD k2 So2
 have S2:SStep env (fun _=>[]) s1 (fset (fun _=>[]) 33 [D]) s2:=.kb So2 k2 hg2 ho2 fun j b hb=>by
  unfold fset at hb
  split at hb
  ·rw [List.mem_singleton.mp hb];exact .inr (frD D rfl)
  ·cases hb
 have mz:∀ j,j≠33->md ((List.replicate 130 0).set 33 1) j=0:=fun j hj=>by rw [md_set (by decide),if_neg hj];exact md0 j
 cases vI with | mk c2 c3 vC c7 =>
 cases vC with | mk c4 c5 c6 =>
 refine wpAny_execs_cons (wpAny_If (ts_isC C (ev_var 120) ev_none 1 _ env _ _ _ s2 _ (.bool true) true _ Er X2.cx c2 (by decide +kernel) (by rfl) rfl fun s3 st3=>?_))
 rw [if_pos rfl]
 have X3:=X2.stp st3
 have S3:=S2.trans (.of st3)
 refine wpAny_execs_cons (wpAny_Assign_Name (conv_call C M.hk vc mc X3 (Nat.le_refl _) (i:=113) (by rfl) (by decide +kernel) (hdS S3) (x:=⟨⟨v⟩⟩) c5 c4 (clean_asc hv).2.2 (fun Q Er hq=>?_) fun t4 s4 st4=>?_) rfl)
 ·refine ev_var 120 1 _ env _ _ _ s3 _ (S v) _ Er X3.cx c6 rfl (by rfl) fun v s' st r _=>?_
  (refine e1a1 r.any.str ?_;rintro t rfl)
  exact hq t s' st
 have X4:=X3.stp st4
 have S4:=S3.trans (.of st4)
 refine sx_store X4 c3 (d:=S v) .mkStr (mz 120 (by decide)) fun s5 X5 S5=>?_
 have S5:=S4.trans S5
 have hF5:fdel (fset (fun _=>[]) 33 [D]) [120]=fset (fun _=>[]) 33 [D]:=by
  funext j
  unfold fdel fset
  by_cases hj:j=120
  ·subst hj;rfl
  ·rw [if_neg (by simp [hj])]
 rw [hF5] at X5 S5
 refine wpAny_execs_cons (app_hand C X5 (ev_var 120) c7 (xs:=[]) (by rfl) (by decide) (by decide +kernel) (by rfl) (mz 120 (by decide)) (d:=S v) (by rfl) fun s6 X6 S6=>wpAny_execs_nil ?_)
 have S6:=S5.trans S6
 cases vF with | mk c8 =>
 refine wpAny_execs_cons (for_empty X6 (i:=121) (d:=d) (by rfl) (by decide +kernel) ⟨_,(fin _ _ S6).keep _ _ hdd,⟨rfl,rfl,rfl⟩,rfl⟩ hds c8 fun s7 st7=>?_)
 have X7:=(X6.stp st7).frz (i:=33) (by decide) (by rw [md_set (by decide)];exact if_pos rfl)
 have S7:=S6.trans (.of st7)
 exact wpAny_execs_cons (add_app C M mc vc X7 vA (hdS S7) hn hv hl (by rfl) (by rfl) (by rfl) (by decide +kernel) (by decide +kernel) fun s11 h' q1 q2 q3=>wpAny_execs_nil (h s11 h' ((st0.trans (fin _ _ S7)).trans q1) q2 q3))
end
open PySem PySem.W PyProof.Rows PySem.Builtin PySem.Builtin.ObjectAttr
section
variable {c:Cfg} {K:Frag}
theorem sAdd_inv {sc:Scope} {i:Nat} {a b:Ck} {x:Stmt} (h:sAdd sc i a b x=true):∃ p z t ap q pos,x=.Expr (.Call (.Attribute (.Name (nm i) p) "add_header" ap) [z,t] [] q) pos/\acc sc (nm i)=true/\plainName (nm i)=true/\(ap.endLine == q.line)=true/\notStar z=true/\notStar t=true/\a z=true/\b t=true:=by
 refine dSExpr_elim h fun z1 pos h=>?_
 refine dECall_elim h fun z2 z3 z4 q h=>?_
 refine dEAttribute_elim h fun o y ap h=>?_
 refine dcons_elim h fun z z5 h=>?_
 refine dcons_elim h fun t z6 h=>?_
 refine dnil_elim h fun h=>?_
 refine dnil_elim h fun h=>?_
 ·(refine k_dbbbbbbb h ?_;try clear h;rintro rfl h1 h2 h3 h4 h5 h6 h7)
  (refine e1a3 (inv_var h5) ?_;rintro p rfl h8 h9)
  exact ⟨p,_,_,_,_,_,rfl,h8,h9,h2,h3,h4,h6,h7⟩
set_option tactic.hygienic true in
theorem st_hadd (C:CfgOK c) (W:Nat) (M:Meths c K) {fa:Addr} (ma:MethK c K "add_header" fa) (AF:AddF c fa) {i:Nat} {a b:X} (ha:EvOK c a) (hb:EvOK c b):StOK c W (.hadd i a b):=by
 intro n A env Bad Md M' F P E E' r s x Q Er X hc ho hx h1 h2
 simp only [chkS_q_hadd,Bool.and_eq_true,decide_eq_true_eq] at hc
 obtain ⟨hn,hc⟩:=hc
 (refine e6a8 (sAdd_inv hc) ?_;rintro p z t ap q pos rfl c1 c2 c3 c4 c5 c6 c7)
 dsimp only [okS_q_hadd] at ho
 revert ho
 refine ifs fun hok ho=>?_
 (refine k_dbb hok ?_;clear hok;rintro hm4 hok1 hok2)
 (replace ho:=Option.some.inj ho;subst ho)
 revert hx
 refine sbn fun l hl=>sbn fun d1 hd1=>sbn fun nn hnn=>sbn fun d2 hd2=>sbn fun vv hvv hx=>?_
 revert hx
 refine ifs fun hcl hx=>?_
 simp only [Option.some.injEq,Prod.mk.injEq] at hx
 obtain ⟨rfl,rfl⟩:=hx
 have hE:E i=some (.hdr l):=by
  unfold hdrOf at hl
  split at hl
  ·rename_i l' e;rw [e];(replace hl:=(Option.some.inj hl).symm;subst hl);rfl
  ·exact nso hl
 (refine e1a2 (X.vars i _ hE) ?_;rintro v0 q1 q2)
 generalize hF:F i=fs at q2
 rw [hm4] at q2
 cases q2 with
 | hdr ev0 hobj hdict hdL hlist =>
  rename_i a0 da la
  subst ev0
  have hq0:∃ v0,d1=.str v0:=by revert hnn;generalize d1=y0;intro hnn;cases y0 <;> first | exact ⟨_,rfl⟩ | exact nso hnn | exact nbt hnn | cases hnn
  (refine e1a1 hq0 ?_;try clear hq0;rintro x1 rfl)
  have hnn:some (sl x1)=some nn:=hnn
  (replace hnn:=(Option.some.inj hnn).symm;subst hnn)
  have hq0:∃ v0,d2=.str v0:=by revert hvv;generalize d2=y0;intro hvv;cases y0 <;> first | exact ⟨_,rfl⟩ | exact nso hvv | exact nbt hvv | cases hvv
  (refine e1a1 hq0 ?_;try clear hq0;rintro x2 rfl)
  have hvv:some (sl x2)=some vv:=hvv
  (replace hvv:=(Option.some.inj hvv).symm;subst hvv)
  have hdr:HdrAt c.HC s.heap (.ref a0) l la:=by
   (refine e1a3 hdict ?_;try clear hdict;rintro od g1 g2 hz_;obtain ⟨hs,tq,n',g4⟩:=hz_)
   (refine e1a2 hlist ?_;try clear hlist;rintro vs ⟨n2,hp⟩ hx)
   refine ⟨⟨a0,da,od,rfl,hobj,g1,g2,⟨hs,tq,n',g4⟩,?_,?_⟩,vs,⟨n2,hp⟩,hx⟩
   ·rintro rfl;rw [hobj] at hp;cases hp
   ·rintro rfl;rw [g1] at hp;(replace hp:=(Option.some.inj hp).symm;subst hp);cases g4
  have hst:starEach [z,t] env=(false,eval z env)::starEach [t] env:=starEach_cons c4
  have hst2:starEach [t] env=[(false,eval t env)]:=starEach_cons c5
  refine wpAny_Expr (meth_any (super_not rfl) (by rw [hst,hst2];rfl) c3 (ev_name X q1 c2 fun pl=>meth_get M.hk ma X.base hdr ?_)) (not_inter X.eok) rfl
  show wpAny _ A (callWith q (.ref fa) [.ref a0] _ _) _ Er s
  refine callWith_KW (M.hk.at X.base) ma.keep rfl ?_ (by rw [hst,hst2];rfl) hst
  rw [hst,hst2]
  refine Calls.spliced_cons (ha n A env _ _ E s z _ _ Er X.cx c6 hok1 hd1 fun v1 s1 st1 r1 _=>Calls.spliced_cons (hb n A env _ _ E s1 t _ _ Er (X.stp st1).cx c7 hok2 hd2 fun v2 s2 st2 r2 _=>Calls.spliced_nil (kwAll_nil ⟨M.hk.at (X.base.keep (st1.trans st2).keep),?_⟩)))
  show wpAny _ A (call (.ref fa) [.ref a0,v1,v2] []) _ Er s2
  have st12:=st1.trans st2
  have X2:=X.stp st12
  (refine e1a1 r1.any.str ?_;rintro t1 rfl)
  (refine e1a1 r2.any.str ?_;rintro t2 rfl)
  refine wpAny_call (add_ok C M AF (X.room.le (by lia)) X2.base X2.live (hdr.keep st12.keep) hcl.1 hcl.2.1 hcl.2.2 .mkStr .mkStr fun s3 h' st3 hnew hs'=>?_)
  have X3:=X2.stp st3
  have mem:la∈F i:=hF ▸ List.mem_cons_self
  have st13:=st12.trans st3
  (refine e1a2 hnew ?_;try clear hnew;rintro vs hpl hpx)
  (refine e1a3 hdict ?_;try clear hdict;rintro od g1 g2 g3)
  have hne1:a0≠la:=by rintro rfl;(refine e1a2 hlist ?_;try clear hlist;rintro _ ⟨n2,hp⟩ _);rw [hobj] at hp;cases hp
  have hne2:da≠la:=by rintro rfl;(refine e1a2 hlist ?_;try clear hlist;rintro _ ⟨n2,hp⟩ _);rw [g1] at hp;(replace hp:=(Option.some.inj hp).symm;subst hp);(refine e3a1 g3 ?_;try clear g3;rintro _ _ _ g4);cases g4
  have X4:=X3.mut (s':={ s3 with heap:=h' }) (pv:=.hdr (l++[(sl x1,sl x2)])) mem hs' ⟨vs,hpl⟩ ⟨.ref a0,q1,by
   rw [hm4,hF]
   exact .hdr rfl ((hs'.2 a0 hne1).trans (st13.keep _ _ hobj)) ⟨od,(hs'.2 da hne2).trans (st13.keep _ _ g1),g2,g3⟩ hdL ⟨vs,hpl,hpx⟩⟩
  exact h1 rfl F P _ X4 ((SStep.of st13).trans (.mut mem hs' ⟨vs,hpl⟩ (.refl _) rfl))
theorem osa_hand {A:Around} {s:Shared} {x C dx:Addr} {name:Str} {tk:Tok} {v:Value} {R:Result->Shared->Prop} (X:K.In s.heap) (I:InstAt s.heap x (instObj C dx) C (some emptyDict)) (hp:plainOver K C=true) (ht:takerIn K C name=some none) (hh:(clsIn K C).any (·.hasDict)=true)
  (h:∀ h',h'.get? dx=some { cls:=.type "dict",data:=.dict #[⟨PyData.keyHash c.w.params name,.str name s.toks,v⟩] 1 }->Heap.SameBut dx s.heap h'->R (.ok (.ret .none)) { s with heap:=h',toks:=s.toks+1 }) :
  codeAny (model c.prog c.w) A (.call (.builtin "object.__setattr__") ⟨[.ref x,.str name tk,v],[]⟩) R s:=by
 refine osa_open X I hp ht fun b=>?_
 (refine e1a2 (any_some hh) ?_;rintro cd hc hd')
 (refine by_goal fun G_ hG_=>?_;rcases I with ⟨hx,hcl,hn,D⟩;all_goals (refine hG_ ?_;clear hG_ G_))
 have D:s.heap.get? dx=some emptyDict:=D
 refine wpAny_bind (wpAny_pure (wpAny_bind (wpAny_bind (wpAny_loadPart hx (wpAny_bind ((looks_clsIn X hc).here ?_))))))
 rw [hd']
 refine wpAny_pure (a:=some dx) (wpAny_bind (wpAny_pure (wpAny_bind ?_)))
 unfold nsSet
 refine wpAny_bind (wpAny_bind (wpAny_askSetting (wpAny_pure (wpAny_bind (wpAny_mkText (wpAny_bind (wpAny_loadPart D ?_)))))))
 have e:Obj.putName name (PyData.keyHash c.w.params name) (.str name s.toks) v emptyDict={ cls:=.type "dict",data:=.dict #[⟨PyData.keyHash c.w.params name,.str name s.toks,v⟩] 1 }:=by rw [Obj.putName_eq];simp [Obj.putNameByArray]
 have D':(s.heap.update dx (Obj.putName name (PyData.keyHash c.w.params name) (.str name s.toks) v)).get? dx=some { cls:=.type "dict",data:=.dict #[⟨PyData.keyHash c.w.params name,.str name s.toks,v⟩] 1 }:=by
  rw [<-e];exact Heap.get?_update_self _ D (by rw [e];rfl)
 dsimp only
 rw [aRefKeyMayBeTheName_at,show ((!(#[]:Array DictEntry).any fun x=>x.key.isStr name) && (#[]:Array DictEntry).any fun x=>x.refKey)=false from by simp,if_neg Bool.false_ne_true]
 refine wpAny_updatePart D ?_
 refine wpAny_bind (wpAny_lookBehind D' (pastItsLine_dict (by rw [sizeLine_eq];show (1:Nat)<=16777217;lia)) ?_)
 exact wpAny_pure (h _ D' (Heap.SameBut.update ..))
end
open PySem PySem.W PyProof.Rows PySem.Builtin PySem.Builtin.ObjectAttr
noncomputable def iA (fnm:Nat->Str) (rk:Nat->Nat) (sc:Scope) (s:Stmt):Bool :=
 dSAssign s fun tg v u1_=>dcons tg fun y r=>dnil r (dEName y fun h1 u2_=>dEIfExp v fun t1 u3_ e0 u4_=>decide (h1=nm 122) && ownName sc h1 && chkX fnm rk 0 sc (.isC true (.var 122) .none) t1 && chkX fnm rk 0 sc (.lst .nil) e0)
theorem iA_inv {fnm:Nat->Str} {rk:Nat->Nat} {sc:Scope} {s:Stmt} (h:iA fnm rk sc s=true):∃ w1 t1 w2 e0 w3 w4,s=.Assign [.Name (nm 122) w1] (.IfExp t1 w2 e0 w3) w4/\ownName sc (nm 122)=true/\chkX fnm rk 0 sc (.isC true (.var 122) .none) t1=true/\chkX fnm rk 0 sc (.lst .nil) e0=true:=by
 refine dSAssign_elim h fun z1 z2 w4 h=>?_
 refine dcons_elim h fun z3 z4 h=>?_
 refine dnil_elim h fun h=>?_
 refine dEName_elim h fun h1 w1 h=>?_
 refine dEIfExp_elim h fun t1 w2 e0 w3 h=>?_
 (refine k_dbbb h ?_;clear h;rintro rfl g1 g2 g3)
 exact ⟨_,_,_,_,_,_,rfl,g1,g2,g3⟩
noncomputable def iC (s:Stmt):Bool :=
 dSAssign s fun tg v u1_=>dcons tg fun y r=>dnil r (dEAttribute y fun o at_ u2_=>dEName o fun sf u3_=>dEName v fun h3 u4_=>decide (sf=nm 113) && decide (at_=("_headers":Str)) && decide (h3=nm 122))
theorem iC_inv {s:Stmt} (h:iC s=true):∃ w7 w8 w9 w10,s=.Assign [.Attribute (.Name (nm 113) w7) ("_headers":Str) w8] (.Name (nm 122) w9) w10:=by
 refine dSAssign_elim h fun z1 z2 w10 h=>?_
 refine dcons_elim h fun z3 z4 h=>?_
 refine dnil_elim h fun h=>?_
 refine dEAttribute_elim h fun z5 at_ w8 h=>?_
 refine dEName_elim h fun sf w7 h=>?_
 refine dEName_elim h fun h3 w9 h=>?_
 (refine k_ddd h ?_;clear h;rintro rfl rfl rfl)
 exact ⟨_,_,_,_,rfl⟩
noncomputable def iD (s:Stmt):Bool :=
 dSIf s fun t b o u1_=>dnil o (dEConstant t fun cb u2_ u3_=>dCbool cb fun bb=>dBtrue bb (dcons b fun y r=>dnil r (dSFor y fun u4_ it u5_ ol u6_=>dnil ol (dEName it fun h4 u7_=>decide (h4=nm 122)))))
theorem iD_inv {s:Stmt} (h:iD s=true):∃ w11 w12 w13 w14 w15 w16 w17,s=.If (.Constant (.bool true) w11 w12) [.For w13 (.Name (nm 122) w14) w15 [] w16] [] w17:=by
 refine dSIf_elim h fun z1 z2 z3 w17 h=>?_
 refine dnil_elim h fun h=>?_
 refine dEConstant_elim h fun z4 w11 w12 h=>?_
 refine dCbool_elim h fun z5 h=>?_
 refine dBtrue_elim h fun h=>?_
 refine dcons_elim h fun z6 z7 h=>?_
 refine dnil_elim h fun h=>?_
 refine dSFor_elim h fun w13 z8 w15 z9 w16 h=>?_
 refine dnil_elim h fun h=>?_
 refine dEName_elim h fun h4 w14 h=>?_
 have h:=of_decide_eq_true h
 subst h
 exact ⟨_,_,_,_,_,_,_,rfl⟩
noncomputable def chkInit (fnm:Nat->Str) (rk:Nat->Nat) (sc:Scope) (body:List Stmt):Bool :=
 dcons body fun x r=>dcons r fun y r=>dcons r fun z r=>dcons r fun w r=>dnil r (dSIf y fun t2 u1_ o u2_=>dnil o (chkX fnm rk 0 sc (.isT true (.var 122) 2) t2 && iA fnm rk sc x && iC z && iD w))
inductive InitV (fnm:Nat->Str) (rk:Nat->Nat) (sc:Scope):List Stmt->Prop
 | mk {w1 t1 w2 e0 w3 w4 t2 w5 w6 w7 w8 w9 w10 w11 w12 w13 w14 w15 w16 w17}:ownName sc (nm 122)=true->chkX fnm rk 0 sc (.isC true (.var 122) .none) t1=true->chkX fnm rk 0 sc (.lst .nil) e0=true->chkX fnm rk 0 sc (.isT true (.var 122) 2) t2=true ->
  InitV fnm rk sc [.Assign [.Name (nm 122) w1] (.IfExp t1 w2 e0 w3) w4,.If t2 w5 [] w6,.Assign [.Attribute (.Name (nm 113) w7) ("_headers":Str) w8] (.Name (nm 122) w9) w10,.If (.Constant (.bool true) w11 w12) [.For w13 (.Name (nm 122) w14) w15 [] w16] [] w17]
theorem inv_init {fnm:Nat->Str} {rk:Nat->Nat} {sc:Scope} {body:List Stmt} (h:chkInit fnm rk sc body=true):InitV fnm rk sc body:=by
 refine dcons_elim h fun x z1 h=>?_
 refine dcons_elim h fun y z2 h=>?_
 refine dcons_elim h fun z z3 h=>?_
 refine dcons_elim h fun w z4 h=>?_
 refine dnil_elim h fun h=>?_
 refine dSIf_elim h fun t2 w5 z5 w6 h=>?_
 refine dnil_elim h fun h=>?_
 (refine k_bbbb h ?_;clear h;rintro h1 h2 h3 h4)
 (refine e6a4 (iA_inv h2) ?_;rintro w1 t1 v2 e0 w3 w4 rfl g1 g2 g3)
 (refine e4a1 (iC_inv h3) ?_;rintro w7 w8 w9 w10 rfl)
 (refine e7a1 (iD_inv h4) ?_;rintro w11 w12 w13 w14 w15 w16 w17 rfl)
 exact .mk g1 g2 g3 h1
structure InitF (c:Cfg) (f:Addr):Prop where
 fn:∃ fd body,Fn0 c f fd body [113,122]/\(∃ T o items n,fd.defaults=.ref T/\c.h0.get? T=some o/\o.data=.seq items n/\∀ a:Value,∃ k:Option (Array Value)->Sem (List (Str × Value)),bindArgs fd ⟨[a],[]⟩=(seqItems? fd.defaults >>= k)/\k (some items)=pure (([113,122].map nm).zip [a,.none]))/\chkInit c.fnm c.rk fd.scope body=true
structure MadeK (c:Cfg) (K:Frag):Prop where
 makes:makesIn K c.HC=true
 init:∃ f,findIn K (.ref c.HC) "__init__"=some (some (.ref f))/\typeIn K (.ref f)=some (.type "function")/\InitF c f
 over:plainOver K c.HC=true
 taker:takerIn K c.HC "_headers"=some none
 hasd:(clsIn K c.HC).any (·.hasDict)=true
 seta:findIn K (.ref c.HC) "__setattr__"=some (some (.builtin "object.__setattr__"))
 name:c.mg "Headers"=some (.ref c.HC)
 keep:keepIn K (.ref c.HC)=true
section
variable {c:Cfg} {K:Frag}
set_option tactic.hygienic true in
theorem init_ok (C:CfgOK c) (H:HK c K) (M:MadeK c K) {f:Addr} (IF:InitF c f) {A:Around} {s:Shared} {x dx:Addr} {R:Result->Shared->Prop} (hroom:Room 1 A) (B:Base c s.heap) (hx:s.heap.get? x=some (instObj c.HC dx)) (hdx:s.heap.get? dx=some emptyDict) (h0:c.h0.get? dx=none)
  (h:∀ s' la,(∀ b o,b≠dx->s.heap.get? b=some o->s'.heap.get? b=some o)->GK s.gens s'.gens->s'.os=s.os->s.heap.get? la=none->s'.heap.PlainList la #[]->(∃ hs t n,s'.heap.get? dx=some { cls:=.type "dict",data:=.dict #[⟨hs,.str "_headers" t,.ref la⟩] n })->R (.ok (.ret .none)) s') :
  codeAny (model c.prog c.w) A (.call (.ref f) ⟨[.ref x],[]⟩) R s:=by
 (refine by_goal fun G_ hG_=>?_;rcases IF with ⟨fd,body,F0,⟨T,o,items,n,b1,b2,b3,hb⟩,hc⟩;all_goals (refine hG_ ?_;clear hG_ G_))
 refine call_frame (n:=0) (Bad:=fun _=>False) (V:=fun vals s0=>vals=[.ref x,.none]) hroom B F0 (fun _ q=>q.elim) (fun Q Er hq=>?_) fun env vals s0 s1 Er es st0 hV st1 X fin low=>?_
 ·(refine e1a2 (hb (.ref x)) ?_;rintro k e1 e2)
  rw [e1,b1]
  refine wpAny_bind (wpAny_seqItems (B.k0 _ _ b2) b3 ?_)
  rw [e2]
  exact wpAny_pure (hq [.ref x,.none] s (.refl s) rfl rfl)
 subst hV
 have hv:=inv_init (show chkInit c.fnm c.rk env.scope body=true by rw [es];exact hc)
 clear hc
 cases hv with | mk c1 c2 c3 c4 =>
 have X1:=X.addE (i:=122) (d:=.none) (v:=.none) (by rfl) .mkNone (md0 _) rfl
 refine wpAny_execs_cons (wpAny_Assign_Name (wpAny_IfExp (ts_isC C (ev_var 122) ev_none 0 _ env _ _ _ s1 _ (.bool false) false _ Er X1.cx c2 (by decide +kernel) (by rfl) rfl fun s2 st2=>?_)) rfl)
 have X2:=X1.stp st2
 rw [if_neg Bool.false_ne_true]
 refine ev_lst C evs_nil 0 _ env _ _ _ s2 _ (.list []) _ Er X2.cx c3 (by decide +kernel) rfl fun v s3 st3 r3 fr3=>?_
 (refine e2a4 (Rd0.unlist r3) ?_;rintro la vs rfl hpl hpx _)
 have fr3:=fr3 rfl
 have X3:=X2.stp st3
 have S3:=(SStep.of st2 (env:=env) (F:=fun _=>[])).trans (.of st3)
 refine sx_store X3 c1 (d:=.list []) r3 (md0 _) fun s4 X4 S4=>?_
 have S4:=S3.trans S4
 refine wpAny_execs_cons (wpAny_If (ts_isT C (ev_var 122) 0 _ env _ _ _ s4 _ (.bool false) false _ Er X4.cx c4 (by decide +kernel) (by rfl) rfl fun s5 st5=>?_))
 rw [if_neg Bool.false_ne_true]
 have X5:=X4.stp st5
 have S5:=S4.trans (.of st5)
 have st05:=st0.trans (fin _ _ S5)
 have hvs:vs=#[]:=by
  generalize hv:vs.toList=l at hpx
  cases hpx
  exact Array.toList_eq_nil_iff.mp hv
 subst hvs
 have hla:s.heap.get? la=none:=by
  cases hh:s.heap.get? la with
  | none=>rfl
  | some o=>have:=fr3 la rfl;rw [(st0.trans (st1.trans st2)).keep _ _ hh] at this;exact nsn this
 have hpl5:s5.heap.PlainList la #[]:=by
  (refine e1a1 (X4.vars 122 (.dat (.list [])) (if_pos rfl)) ?_;rintro q1 q2)
  obtain ⟨e1,e2⟩:=q2
  have e1:some (Value.ref la)=some q1:=by rw [<-e1];exact (if_pos rfl).symm
  (replace e1:=(Option.some.inj e1).symm;subst e1)
  (refine e2a3 (RdG.zero (by
   have:=RepF.rep X4.base e2
   generalize hz:PV.dat (PyData.list [])=pv at this
   cases this with
   | dat r=>cases hz;exact r.any
   | _=>cases hz)) ?_;rintro a' vs' e3 hp' hx')
  cases e3
  generalize hv:vs'.toList=l at hx'
  cases hx'
  rw [Array.toList_eq_nil_iff.mp hv] at hp'
  exact PlainList.keep st5.keep hp'
 have I5:InstAt s5.heap x (instObj c.HC dx) c.HC (some emptyDict):=⟨st05.keep _ _ hx,rfl,rfl,st05.keep _ _ hdx⟩
 refine wpAny_execs_nil (wpAny_execs_cons (plainObj_wpAny_Assign_Attribute (ev_name X5 (i:=122) (v:=.ref la) (by rfl) (by decide +kernel) (ev_name X5 (i:=113) (v:=.ref x) (by rfl) (by decide +kernel) ?_)) rfl))
 refine set_plain (H.at X5.base) I5 M.seta ?_
 refine osa_hand (H.at X5.base) I5 M.over M.taker M.hasd fun h6 hdx6 hs6=>?_
 have kk6:∀ b o,b≠dx->s5.heap.get? b=some o->h6.get? b=some o:=fun b o hb e=>(hs6.2 b hb).trans e
 obtain ⟨lowL,lowC⟩:=low dx _ (st0.keep _ _ hdx)
 (refine e1a2 (X5.sto.at (h':=h6) (fun o e=>kk6 _ o lowL.symm e) (fun x a _ hx o e=>kk6 a o (fun q=>lowC x (q ▸ hx)) e) |>.ns) ?_;rintro mm hm hl)
 have hpl6:h6.PlainList la #[]:=by
  (refine e1a1 hpl5 ?_;try clear hpl5;rintro n' e)
  exact ⟨n',kk6 la _ (fun q=>by rw [q] at hla;rw [hla] at hdx;exact nso hdx) e⟩
 refine wpAny_execs_cons (wpAny_If (wpAny_isTrue_value (wpAny_pure (tr_ok (d:=.bool true) (k:=0) (Own:=fun _=>False) rfl .mkBool fun s7 st7=>?_)) (isTrue_val rfl)))
 rw [if_pos rfl]
 refine wpAny_execs_cons (wpAny_For (ev_Lk X.eok (hm.keeps st7.keep) ((hl 122 (.ref la) (by rfl)).keep st7.keep) (by decide +kernel) (wpAny_pyIter_list (PlainList.keep st7.keep hpl6).isList ?_)) (set_not rfl))
 have hl7:=PlainList.keep st7.keep hpl6
 have hne:la≠s7.heap.objs.size:=by (refine e1a1 hl7 ?_;try clear hl7;rintro n ho);exact Nat.ne_of_lt (Heap.lt_size ho)
 have Wl:=Walks.list (prog:=c.prog) (w:=c.w) (A:=A.deeper env) X.room.hand s7.heap.objs.size la hne #[]
 have ek:KeepH s7.heap (s7.heap.push { cls:=.type "list_iterator",data:=.fields #[.ref la,.int 0 0] }):=.push _ _
 refine codeAny_forLoop_any (fun k s'=>s'={ s7 with heap:=s7.heap.push { cls:=.type "list_iterator",data:=.fields #[.ref la,.int 0 0] } }) ?_ 0 rfl
 rintro k s' rfl
 have kall:∀ b o,b≠s7.heap.objs.size->h6.get? b=some o->(s7.heap.push { cls:=.type "list_iterator",data:=.fields #[.ref la,.int 0 0] }).get? b=some o:=fun b o _ e=>ek b o (st7.keep b o e)
 have small:∀ b o,h6.get? b=some o->b≠s7.heap.objs.size:=fun b o e=>Nat.ne_of_lt (Heap.lt_size (st7.keep b o e))
 refine Wl.done _ _ _ ⟨⟨_,Heap.get?_push_size _ rfl,rfl,rfl⟩,(PlainList.keep ek hl7).isList⟩ fun h8 tk8 hk8=>wpAny_execs_nil (wpAny_execs_nil (wpAny_execs_nil (h _ la (fun b o hb e=>?_) ?_ ?_ hla ?_ ?_)))
 ·have e5:=kk6 b o hb (st05.keep b o e)
  exact hk8 b o (by simpa using small b o e5) (kall b o (small b o e5) e5)
 ·exact st05.gk.trans st7.gk
 ·exact st7.os.trans st05.os
 ·(refine e1a1 hpl6 ?_;try clear hpl6;rintro n' e)
  exact ⟨n',hk8 _ _ (by simpa using small _ _ e) (kall _ _ (small _ _ e) e)⟩
 ·exact ⟨_,_,_,hk8 _ _ (by simpa using small _ _ hdx6) (kall _ _ (small _ _ hdx6) hdx6)⟩
end
open PySem PySem.W PyProof.Rows PySem.Builtin PySem.Builtin.ObjectAttr
section
variable {c:Cfg} {K:Frag}
set_option tactic.hygienic true in
theorem SX.setH {n:Nat} {A:Around} {env:Env} {Bad:Addr->Prop} {M M':List Nat} {F:Nat->List Addr} {P:Nat->Option Value} {E:AE} {s s2 s':Shared} {i:Nat} {x dx la:Addr} (X:SX c n A env Bad M F P E s) (st:Stp s s2) (hla:s.heap.get? la=none) (hM:∀ j,md M' j=if j=i then 4 else md M j)
  (hx:s'.heap.get? x=some (instObj c.HC dx)) (hdx:∃ hs t n,s'.heap.get? dx=some { cls:=.type "dict",data:=.dict #[⟨hs,.str "_headers" t,.ref la⟩] n }) (hl:s'.heap.PlainList la #[]) (hL:dx≠env.locals)
  (k:Kb env [i] s2.heap s'.heap) (So:Sto env s'.heap (upd P i (.ref x))):SX c n A env Bad M' (fset F i [la]) (upd P i (.ref x)) (E.set i (.hdr [])) s':=by
 have X2:=X.stp st
 have kd:=k.kd X2.sto
 have ks:=k.seq X2.sto
 have na:¬ OwnB Bad F la:=fun h=>by (refine e1a1 (X.live la h) ?_;rintro o ho);rw [hla] at ho;exact nso ho
 have own:∀ b,OwnB Bad (fset F i [la]) b->OwnB Bad F b\/b=la:=by
  rintro b (h | ⟨j,h⟩)
  ·exact .inl (.inl h)
  ·unfold fset at h
   split at h
   ·exact .inr (List.mem_singleton.mp h)
   ·exact .inl (.inr ⟨j,h⟩)
 refine ⟨X.eok,X.room,X2.base_kb k,cells_kb X2.eok X2.sto X2.cells k So,So,fun j pv e=>?_,fun j b h=>?_,fun b h=>?_,fun j b h=>?_,fun j1 j2 b h1 h2=>?_,X.nl,X.nc,fun j b h=>?_⟩
 ·by_cases hj:j=i
  ·subst hj
   have e:some (PV.hdr [])=some pv:=by rw [<-e];exact (if_pos rfl).symm
   (replace e:=(Option.some.inj e).symm;subst e)
   refine ⟨.ref x,if_pos rfl,?_⟩
   rw [hM,if_pos rfl,show fset F j [la] j=[la] from if_pos rfl]
   (refine e3a1 hdx ?_;try clear hdx;rintro hs t n' hd)
   exact .hdr rfl hx ⟨_,hd,rfl,hs,t,n',rfl⟩ hL ⟨#[],hl,.nil⟩
  ·have e:E j=some pv:=by rw [<-e];exact (if_neg hj).symm
   (refine e1a2 (X.vars j pv e) ?_;rintro v q1 q2)
   refine ⟨v,(if_neg hj).trans q1,?_⟩
   rw [hM,if_neg hj,show fset F i [la] j=F j from if_neg hj]
   have q3:RepF c env.locals (OwnB Bad (fset F i [la])) s (md M j) (F j) v pv:=q2.weak fun b hb ha=>by
    rcases own b hb with q | rfl
    ·exact q
    ·(refine e1a1 ha ?_;try clear ha;rintro o ho);rw [hla] at ho;exact nso ho
   exact q3.move ((KpF.of st.keep).trans (X2.sto.kpf k)) (fun a _ o vs n hd e=>ks a o vs n hd (st.keep _ _ e)) fun a o hd e=>kd a o hd (st.keep _ _ e)
 ·unfold fset at h
  split at h
  ·rw [List.mem_singleton.mp h];exact ⟨#[],hl⟩
  ·(refine e2a1 (X2.pl j b h) ?_;rintro ws mm e)
   exact ⟨ws,mm,ks b _ _ _ rfl e⟩
 ·(refine e1a1 (X2.bad b h) ?_;rintro o ho)
  exact k.alive So b o ho
 ·unfold fset at h
  split at h
  ·rw [List.mem_singleton.mp h];exact fun q=>na (.inl q)
  ·exact X.nb j b h
 ·unfold fset at h1 h2
  split at h1 <;> split at h2
  ·rename_i e1 e2;rw [e1,e2]
  ·rw [List.mem_singleton.mp h1] at h2;exact absurd (.inr ⟨_,h2⟩) na
  ·rw [List.mem_singleton.mp h2] at h1;exact absurd (.inr ⟨_,h1⟩) na
  ·exact X.dj j1 j2 b h1 h2
 ·unfold fset at h
  split at h
  ·rw [List.mem_singleton.mp h]
   cases hh:c.h0.get? la with
   | none=>rfl
   | some o=>have:=X.base.k0 _ _ hh;rw [hla] at this;exact nso this
  ·exact X.nF j b h
theorem sHdr_inv {sc:Scope} {i:Nat} {x:Stmt} (h:sHdr sc i x=true):∃ p q r pos,x=.Assign [.Name (nm i) p] (.Call (.Name "Headers" q) [] [] r) pos/\ownName sc (nm i)=true/\isGlob sc "Headers"=true:=by
 refine dSAssign_elim h fun z1 z2 pos h=>?_
 refine dcons_elim h fun z3 z4 h=>?_
 refine dEName_elim h fun y p h=>?_
 refine dnil_elim h fun h=>?_
 refine dECall_elim h fun z5 z6 z7 r h=>?_
 refine dEName_elim h fun h q h=>?_
 refine dnil_elim h fun h=>?_
 refine dnil_elim h fun h=>?_
 ·(refine k_dbdb h ?_;try clear h;rintro rfl h1 rfl h2)
  exact ⟨_,_,_,_,rfl,h1,h2⟩
theorem st_asgH (C:CfgOK c) (W:Nat) (H:HK c K) (M:MadeK c K) (i:Nat):StOK c W (.asgH i):=by
 intro n A env Bad Md M' F P E E' r s x Q Er X hc ho hx h1 h2
 simp only [chkS_q_asgH,Bool.and_eq_true,decide_eq_true_eq] at hc
 obtain ⟨hn,hc⟩:=hc
 (refine e4a3 (sHdr_inv hc) ?_;rintro p q rr pos rfl c1 c2)
 dsimp only [okS_q_asgH] at ho
 revert ho
 refine ifs fun hi ho=>?_
 (replace ho:=Option.some.inj ho;subst ho)
 simp only [ex_q_asgH,Option.some.injEq,Prod.mk.injEq] at hx
 obtain ⟨rfl,rfl⟩:=hx
 (refine e1a3 M.init ?_;rintro fi f1 f2 f3)
 have key:∀ (Q:Value->Shared->Prop) (Er:Value->Shared->Prop),(∀ xa dx la s2,Stp s s2->s.heap.get? xa=none->s.heap.get? dx=none->s.heap.get? la=none->dx≠la->s2.heap.get? xa=some (instObj c.HC dx)->s2.heap.PlainList la #[] ->
   (∃ hs t n,s2.heap.get? dx=some { cls:=.type "dict",data:=.dict #[⟨hs,.str "_headers" t,.ref la⟩] n })->Q (.ref xa) s2)->wpAny (model c.prog c.w) A (eval (.Call (.Name "Headers" q) [] [] rr) env) Q Er s:=by
  intro Q Er hQ
  refine wpAny_Call_NameR (ev_glob X.eok X.base c2 (by decide +kernel) (.inl M.name) ?_)
  refine callWith_KW0 (H.at X.base) M.keep rfl (kwAll_nil ⟨H.at X.base,?_⟩)
  show wpAny _ A (call (.ref c.HC) [] []) Q Er s
  refine wpAny_call ?_
  (refine by_goal fun G_ hG_=>?_;rcases s with ⟨hh,g,d,t,os⟩;all_goals (refine hG_ ?_;clear hG_ G_))
  have KI:=H.at X.base
  refine make_core (makes_of KI M.makes) (looks_findIn KI f1) (fun self=>bind_fn KI self f2) (.inl rfl) ?_
  have k1:KeepH hh ((hh.push emptyDict).push (instObj c.HC hh.objs.size)):=fun b o e=>Heap.get?_push_of_some _ (Heap.get?_push_of_some _ e)
  have hxa:((hh.push emptyDict).push (instObj c.HC hh.objs.size)).get? (hh.objs.size+1)=some (instObj c.HC hh.objs.size):=by
   have:=Heap.get?_push_size (hh.push emptyDict) (o:=instObj c.HC hh.objs.size) rfl
   rwa [Heap.size_push] at this
  have hdx:((hh.push emptyDict).push (instObj c.HC hh.objs.size)).get? hh.objs.size=some emptyDict:=Heap.get?_push_of_some _ (Heap.get?_push_size _ rfl)
  refine init_ok C H M f3 (s:=⟨(hh.push emptyDict).push (instObj c.HC hh.objs.size),g,d,t,os⟩) ⟨?_,?_,X.room.hand⟩ (X.base.keep k1) hxa hdx ?_ fun s' la kk gk os' hla hpl hd=>?_
  ·show A.depth+(0+1+0+0)+1 < _
   have:=X.room.depth;lia
  ·show A.units+(1+3 * 0)+20 * 1+200 < _
   have:=X.room.units;lia
  ·cases h0:c.h0.get? hh.objs.size with
   | none=>rfl
   | some o=>exact absurd (Heap.lt_size (X.base.k0 _ _ h0)) (Nat.lt_irrefl _)
  ·have none1:∀ b,((hh.push emptyDict).push (instObj c.HC hh.objs.size)).get? b=none->hh.get? b=none:=fun b hb=>by
    cases e:hh.get? b with
    | none=>rfl
    | some o=>rw [k1 b o e] at hb;exact nsn hb
   refine ⟨rfl,hQ _ hh.objs.size la s' ⟨fun b o e=>kk b o (Nat.ne_of_lt (Heap.lt_size e)) (k1 b o e),gk,os'⟩ (Heap.get?_none_of_le (Nat.le_succ _)) (Heap.get?_none_of_le (Nat.le_refl _)) (none1 la hla) ?_ (kk _ _ (Nat.succ_ne_self _) hxa) hpl hd⟩
   rintro rfl
   rw [hdx] at hla;exact nsn hla
 refine wpAny_Assign_Name (key _ _ fun xa dx la s2 st f1 f2 f3 hne g1 g2 g3=>?_) rfl
 have X2:=X.stp st
 refine store_ok X2.eok X2.sto c1 fun h' tk k So=>?_
 have nL:∀ b,s.heap.get? b=none->b≠env.locals:=fun b hb q=>by
  (refine e1a2 X.sto.ns ?_;rintro m ⟨o',u_,u_,ho',u_⟩ u_)
  rw [q,ho'] at hb;exact nsn hb
 have nC:∀ b,s.heap.get? b=none->∀ j∈[i],env.kindOf (nm j)=some .cell->env.cells.lookup (nm j)≠some b:=fun b hb j u_ u_ hl=>by
  (refine e2a2 (X.cells _ b hl) ?_;rintro o ob ho u_)
  rw [ho] at hb;exact nsn hb
 (refine e3a1 g3 ?_;try clear g3;rintro hs t n' g3)
 (refine e1a1 g2 ?_;try clear g2;rintro n2 g2)
 have X3:=X.setH (M':=Md.set i 4) (s':={ s2 with heap:=h',toks:=tk }) st f3 (fun j=>md_set hi) (k _ _ (nL _ f1) (nC _ f1) g1) ⟨hs,t,n',k _ _ (nL _ f2) (nC _ f2) g3⟩ ⟨n2,k _ _ (nL _ f3) (nC _ f3) g2⟩ (nL _ f2) k So
 refine h1 rfl _ _ _ X3 ⟨fun b o b1 b2 u_ e=>k b o b1 (fun j u_ u_=>b2 _) (st.keep _ _ e),st.gk,st.os,fun j b hb=>?_,fun b o e=>k.alive So b o (st.keep _ _ e)⟩
 unfold fset at hb
 split at hb
 ·rw [List.mem_singleton.mp hb];exact .inr f3
 ·exact .inl ⟨j,hb⟩
end
noncomputable def Cfg.withT (c:Cfg) (T:Nat->List PV->Option PyData):Cfg:={ c with T:=T }
noncomputable def extT (T:Nat->List PV->Option PyData) (f:Nat) (g:List PV->Option PyData):Nat->List PV->Option PyData:=fun f'=>if f'=f then g else T f'
structure FnAt (c:Cfg) (n:Nat) (f:Nat) (ps:List Nat) (body:Sts):Prop where
 at_:∃ fa fd stmts,c.mg (c.fnm f)=some (.ref fa)/\Fn0 c fa fd stmts ps/\(∀ vals:List Value,vals.length=ps.length->bindArgs fd ⟨vals,[]⟩=pure ((ps.map nm).zip vals))/\chkSs c.fnm c.rk n fd.scope body stmts=true
structure LawOK (c:Cfg) (K:Frag):Prop where
 cfg:∀ T,CfgOK (c.withT T)
 gen:∀ T,GenCt (c.withT T)
 meths:∀ T,Meths (c.withT T) K
 add:∀ T,∃ fa,MethK (c.withT T) K "add_header" fa/\AddF (c.withT T) fa
 made:∀ T,MadeK (c.withT T) K
section
variable {c:Cfg} {K:Frag} {T:Nat->List PV->Option PyData} {W:Nat}
noncomputable def Known (c:Cfg) (T:Nat->List PV->Option PyData):Prop:=∀ h1,KeepH c.h0 h1->∀ f pvs d,T f pvs=some d->FunCt ((c.at h1).withT T) f
theorem ev_callh (C:CfgOK c) {f i:Nat} {xs:Xs} (hf:∀ h1,KeepH c.h0 h1->∀ pvs d,c.T f pvs=some d->FunCt (c.at h1) f) (hxs:EvsOK c xs):EvOK c (.callh f i xs):=by
 intro n A env Own M E s e d Q Er X hc ho he h
 simp only [chkX_q_callh,Bool.and_eq_true,decide_eq_true_eq] at hc
 obtain ⟨hr,hc⟩:=hc
 (refine e3a5 (inv_call hc) ?_;rintro es p q rfl h1 h2 h3 h4)
 (refine e2a4 (inv_head h4) ?_;rintro p1 r rfl c6 c7 c8)
 dsimp only [okX_q_callh] at ho
 revert he
 refine sbn fun l hl=>sbn fun ds hds hT=>?_
 (refine e3a3 (hdr_look X hl c6) ?_;rintro m b la hm hlk hd)
 (refine e3a4 (hf _ X.base.k0 _ _ hT) ?_;rintro fa o fd m1 m2 m3 _)
 have hp:=h2
 unfold plainName at hp
 replace hp:=c_bb hp
 have hst:starEach (.Name (nm i) p1::r) env=(false,eval (.Name (nm i) p1) env)::starEach r env:=starEach_cons rfl
 refine wpAny_Call_NameR (ev_glob X.eok X.base h1 (by simpa using hp.1) (.inl m1) ?_)
 refine Calls.callWith_function (o:=o) (fd:=fd) (evalArgs_ns (.inr ⟨eval (.Name (nm i) p1) env,backTo q (starEach r env),by rw [hst];rfl⟩) ?_)
 rw [hst]
 refine Calls.spliced_cons (ev_Lk X.eok hm hlk c7 (hxs n A env Own M E s r ds q _ Er X c8 ho hds fun vs s1 st1 r1 u_=>?_))
 have X1:=X.stp C st1
 (refine e3a4 (hf _ X1.base.k0 _ _ hT) ?_;rintro fa2 o2 fd2 n1 n2 n3 ct)
 obtain rfl:fa=fa2:=by have e:=m1.symm.trans n1;cases e;rfl
 refine ⟨⟨st1.keep _ _ m2,m3⟩,wpAny_call ?_⟩
 exact ct A Own s1 (.ref b::vs) (.hdr l::ds.map .dat) d _ (X.room.le hr) X1.base.at X1.live (.cons (.hdr (hd.keep st1.keep)) (args_dat r1)) hT fun v s2 st2 r2=>h v s2 (st1.trans st2) r2 fun z=>nomatch z
theorem outS_of (L:LawOK c K) (hT:Known c T):OutS (c.withT T) W where
 o:={
  fn:=hT c.h0 (.refl _)
  callh:=fun f i xs hx=>ev_callh (L.cfg T) (fun h1 k=>hT h1 k f) hx
  gen:=fun a ha=>it_gen (L.cfg T) (L.gen T) ha
  get:=fun i a ha=>ev_hget (L.cfg T) (L.meths T) i ha
  keys:=fun i=>ev_hkeys (L.cfg T) (L.meths T) i
  }
 made:=fun i=>st_asgH (L.cfg T) W (L.meths T).hk (L.made T) i
 add:=fun i a b ha hb=>let ⟨fa,m,A⟩:=L.add T;st_hadd (L.cfg T) W (L.meths T) m A ha hb
theorem known_nil:Known c (fun u_ u_=>none):=fun u_ u_ u_ u_ u_ h=>nomatch h
theorem FnAt.at {n f:Nat} {ps:List Nat} {body:Sts} (F:FnAt c n f ps body) {h1:Heap} (k:KeepH c.h0 h1):FnAt (c.at h1) n f ps body:=by
 (refine e3a4 F.at_ ?_;rintro fa fd stmts m1 F0 hb hc)
 (refine by_goal fun G_ hG_=>?_;rcases F0 with ⟨⟨o,m2,m3⟩,⟨cc,oc,vs,tq,e1,e2,e3,e4⟩,hbd,K0⟩;all_goals (refine hG_ ?_;clear hG_ G_))
 exact ⟨fa,fd,stmts,m1,⟨⟨o,k _ _ m2,m3⟩,⟨cc,oc,vs,tq,e1,k _ _ e2,e3,e4⟩,hbd,K0⟩,hb,hc⟩
noncomputable def Cfg.rkd (c:Cfg) (rk:Nat->Nat):Cfg:={ c with rk:=rk }
theorem known_ext {rk':Nat->Nat} {f:Nat} (hrk:∀ g,g≠f->c.rk g<=rk' g) (L:∀ h1,KeepH c.h0 h1->LawOK (c.at h1) K) (hT:Known c T) {ps:List Nat} {body:Sts} (F:FnAt c (rk' f) f ps body) (hf:fSs body=true) {M':List Nat} (hok:okSs (List.replicate 130 0) body=some M') :
  Known (c.rkd rk') (extT T f (runFn c.G T W ps body)):=by
 intro h1 k f' pvs d h
 have k:KeepH c.h0 h1:=k
 by_cases hff:f'=f
 ·subst hff
  (refine e3a4 (F.at k).at_ ?_;rintro fa fd stmts m1 F0 hb hc)
  (refine by_goal fun G_ hG_=>?_;rcases F0 with ⟨⟨o,m2,m3⟩,hcd,hbd,K0⟩;all_goals (refine hG_ ?_;clear hG_ G_))
  refine ⟨fa,o,fd,m1,m2,m3,fun A Bad s vals pvs d R hr B hbad hargs ht hR=>?_⟩
  have hrun:runFn c.G T W ps body pvs=some d:=by
   have:extT T f' (runFn c.G T W ps body) f' pvs=some d:=ht
   unfold extT at this
   rw [if_pos rfl] at this
   exact this
  have hlen:vals.length=ps.length:=by
   rw [hargs.length]
   unfold runFn at hrun
   revert hrun
   refine sbn fun E hE u_=>?_
   exact start_len hE
  have B':Base ((c.at h1).withT T) s.heap:=⟨B.k0,B.z⟩
  have hcr:s.heap.CodeRec fd.code fd.qualname:=by
   (refine e4a4 hcd ?_;try clear hcd;rintro cc oc vs tq e1 e2 e3 e4)
   exact ⟨cc,oc,vs,tq,e1,B'.k0 _ _ e2,e3,e4⟩
  exact fun_ok (c:=(c.at h1).withT T) (all_Sts ((L h1 k).cfg T) (outS_of (L h1 k) fun h2 k2=>hT h2 (k.trans k2)) body hf) hok (n:=rk' f') hr B' (B'.k0 _ _ m2) m3 hcr hbd K0 hlen (hb vals hlen) hc hbad (args_c hargs) hrun hR
 ·have h':T f' pvs=some d:=by
   unfold extT at h
   rw [if_neg hff] at h
   exact h
  (refine e3a4 (hT h1 k f' pvs d h') ?_;rintro fa o fd m1 m2 m3 ct)
  refine ⟨fa,o,fd,m1,m2,m3,fun A Bad s vals pvs d R hr B hbad hargs ht hR=>?_⟩
  refine ct A Bad s vals pvs d R (hr.le (Nat.succ_le_succ (hrk f' hff))) ⟨B.k0,B.z⟩ hbad (args_c hargs) ?_ hR
  have:extT T f (runFn c.G T W ps body) f' pvs=some d:=ht
  unfold extT at this
  rw [if_neg hff] at this
  exact this
theorem law_run {n:Nat} (L:LawOK c K) (hT:Known c T) {f:Nat} {ps:List Nat} {body:Sts} (F:FnAt c n f ps body) (hf:fSs body=true) {M':List Nat} (hok:okSs (List.replicate 130 0) body=some M')
  {A:Around} {s:Shared} {fa:Addr} {vals:List Value} {ds:List PyData} {d:PyData} {R:Result->Shared->Prop} (hfa:c.mg (c.fnm f)=some (.ref fa)) (hr:Room (n+1) A) (B:Base c s.heap)
  (hargs:All2 (Rd0 (fun u_=>False) s.heap) vals ds) (hrun:runFn c.G T W ps body (ds.map .dat)=some d) (hR:∀ v s',Stp s s'->Rd0 (fun u_=>False) s'.heap v d->R (.ok (.ret v)) s') :
  codeAny (model c.prog c.w) A (.call (.ref fa) ⟨vals,[]⟩) R s:=by
 (refine e3a4 F.at_ ?_;rintro fa' fd stmts m1 F0 hb hc)
 rw [hfa] at m1
 cases m1
 (refine by_goal fun G_ hG_=>?_;rcases F0 with ⟨⟨o,m2,m3⟩,hcd,hbd,K0⟩;all_goals (refine hG_ ?_;clear hG_ G_))
 have hlen:vals.length=ps.length:=by
  have h1:=(args_dat (c:=c) hargs).length
  rw [h1]
  unfold runFn at hrun
  revert hrun
  refine sbn fun E hE u_=>?_
  exact start_len hE
 have B':Base (c.withT T) s.heap:=⟨B.k0,B.z⟩
 have hcr:s.heap.CodeRec fd.code fd.qualname:=by
  (refine e4a4 hcd ?_;try clear hcd;rintro cc oc vs tq e1 e2 e3 e4)
  exact ⟨cc,oc,vs,tq,e1,B.k0 _ _ e2,e3,e4⟩
 exact fun_ok (c:=c.withT T) (all_Sts (L.cfg T) (outS_of L hT) body hf) hok (n:=n) hr B' (B.k0 _ _ m2) m3 hcr hbd K0 hlen (hb vals hlen) hc (fun u_ q=>q.elim) (args_dat hargs) hrun hR
end
set_option tactic.hygienic true in
theorem ns_some_of {K:Frag} {h:Heap} {N:Addr} {mg:Str->Option Value} {n:Str} {v:Value} (X:K.In h) (G:h.Ns N mg) (e:nsIn K N n=some (some v)):mg n=some v:=by
 (refine e3a4 G ?_;try clear G;rintro o es ep ho hd _ hf)
 unfold nsIn at e
 split at e
 ·rename_i c d es' n' sl q
  have:=X _ _ q
  rw [ho] at this
  (replace this:=(Option.some.inj this).symm;subst this)
  cases hd
  split at e
  ·rename_i en he
   cases e
   rw [<-hf]
   unfold nsFind findBy
   rw [<-Array.find?_toList,he]
   rfl
  ·split at e <;> (first | exact nso e | cases e)
 ·exact nso e
noncomputable def dFn (d:Data) (k:FuncData->Bool):Bool:=match d with
 | .func fd=>k fd
 | _=>false
theorem dFn_inv {d:Data} {k:FuncData->Bool} (h:dFn d k=true):∃ fd,d=.func fd/\k fd=true:=by
 cases d with
 | func fd=>exact ⟨fd,rfl,h⟩
 | _=>exact nbt h
noncomputable def dBody (d:FuncBody) (k:List Stmt->Bool):Bool:=match d with
 | .stmts b=>k b
 | _=>false
theorem dBody_inv {d:FuncBody} {k:List Stmt->Bool} (h:dBody d k=true):∃ b,d=.stmts b/\k b=true:=by
 cases d with
 | stmts b=>exact ⟨b,rfl,h⟩
 | _=>exact nbt h
theorem dsome_inv {α:Type} {l:Option α} {k:α->Bool} (h:dsome l k=true):∃ a,l=some a/\k a=true:=by
 induction l with
 | none=>exact nbt h
 | some a=>exact ⟨a,rfl,h⟩
noncomputable def fdOf (d:Data):Option FuncData:=match d with
 | .func fd=>some fd
 | _=>none
noncomputable def fdAt (K:Frag) (a:Addr):Option FuncData:=(K.lookup a).bind fun o=>fdOf o.data
noncomputable def fnChk (K:Frag) (gen:Bool) (a:Addr) (ps:List Nat) (look:Scope->List Stmt->Bool):Bool :=
 dsome (K.lookup a) fun o=>dFn o.data fun fd=>dBody fd.body fun b=>codeIn K fd.code fd.qualname && !fd.scope.isCoroutine && (fd.scope.isGenerator == gen) && (fd.scope.kind == .function) && !(fd.scope.more.any fun (n,_)=>n == ("interactive":Str)) && (fd.globals == mainGlobals) && (fd.builtins == builtinsNs) &&
  fd.closure.isEmpty && (fd.scope.names.all fun p=>!(p.2 == .free)) && decide (fd.scope.names.map (·.1)).Nodup && (ps.all fun i=>ownName fd.scope (nm i)) && decide ps.Nodup && look fd.scope b
structure FnF (c:Cfg) (K:Frag) (gen:Bool) (a:Addr) (ps:List Nat) (fd:FuncData) (b:List Stmt):Prop where
 at_:fdAt K a=some fd
 ob:∃ o,c.h0.get? a=some o/\o.data=.func fd
 body:fd.body=.stmts b
 code:codeIn K fd.code fd.qualname=true
 cor:fd.scope.isCoroutine=false
 gen:fd.scope.isGenerator=gen
 kind:fd.scope.kind=.function
 more:(fd.scope.more.any fun (n,_)=>n == ("interactive":Str))=false
 glob:fd.globals=mainGlobals
 bui:fd.builtins=builtinsNs
 clo:fd.closure=[]
 free:∀ p∈fd.scope.names,p.2≠.free
 nod:(fd.scope.names.map (·.1)).Nodup
 own:∀ i∈ps,ownName fd.scope (nm i)=true
 psn:ps.Nodup
theorem fnChk_inv {c:Cfg} {K:Frag} (X:K.In c.h0) {gen:Bool} {a:Addr} {ps:List Nat} {look:Scope->List Stmt->Bool} (h:fnChk K gen a ps look=true):∃ fd b,FnF c K gen a ps fd b/\look fd.scope b=true:=by
 (refine e1a2 (dsome_inv h) ?_;clear h;rintro o e h)
 (refine e1a2 (dFn_inv h) ?_;clear h;rintro fd hd h)
 (refine e1a2 (dBody_inv h) ?_;clear h;rintro b hb h)
 refine ⟨fd,b,?_⟩
 (refine k_bneeneeyadadb h ?_;clear h;rintro h1 h2 h3 h4 h5 h6 h7 h8 h9 h10 h11 h12 h13)
 exact ⟨⟨by unfold fdAt;rw [e];show fdOf o.data=_;rw [hd];rfl,⟨o,X _ _ e,hd⟩,hb,h1,h2,h3,h4,h5,h6,h7,h8,fun p hp q=>by have:=h9 p hp;rw [q] at this;exact nbt this,h10,h11,h12⟩,h13⟩
theorem fn_of {c:Cfg} {K:Frag} (X:K.In c.h0) {a:Addr} {ps:List Nat} {look:Scope->List Stmt->Bool} (h:fnChk K false a ps look=true):∃ fd b,fdAt K a=some fd/\Fn0 c a fd b ps/\look fd.scope b=true:=by
 (refine e2a2 (fnChk_inv X h) ?_;rintro fd b F hl)
 exact ⟨fd,b,F.at_,⟨F.ob,codeRec_of X F.code,F.body,⟨F.cor,F.gen,F.kind,F.more,F.glob,F.bui,F.clo,F.free,F.nod,F.own,F.psn⟩⟩,hl⟩
noncomputable def gTab:Nat->Option Int
 | 0=>some 40
 | 1=>some 2
 | 2=>some 1
 | _=>none
theorem bi_fd {K:Frag} {a:Addr} {fd:FuncData} (e:fdAt K a=some fd) {β:Type} {f:FuncData->β} {y:β} (h:(fdAt K a).map f=some y):f fd=y:=by
 rw [e] at h;exact Option.some.inj h
noncomputable def BindsTo (fd:FuncData) (ps:List Nat) (vals:List Value):Prop:=bindArgs fd ⟨vals,[]⟩=pure ((ps.map nm).zip vals)
theorem len0 {P:List Value->Prop} (h:P []) (l:List Value) (e:l.length=0):P l:=(List.length_eq_zero_iff.mp e).symm ▸ h
theorem lenS {P:List Value->Prop} {n:Nat} (h:∀ x,∀ l:List Value,l.length=n->P (x::l)) (l:List Value) (e:l.length=n+1):P l:=by
 cases l with
 | nil=>exact absurd e.symm (Nat.succ_ne_zero n)
 | cons x l=>exact h x l (Nat.succ.inj e)
theorem bind1 {K:Frag} {a:Addr} {fd:FuncData} {ps:List Nat} (e:fdAt K a=some fd) (h:∀ x:Value,(fdAt K a).map (fun fd=>bindArgs fd ⟨[x],[]⟩)=some (pure ((ps.map nm).zip [x]))) (hp:ps.length=1):∀ vals:List Value,vals.length=ps.length->BindsTo fd ps vals:=fun vals hl=>lenS (P:=fun l=>BindsTo fd ps (l)) (fun x=>len0 (P:=fun l=>BindsTo fd ps (x::l)) (bi_fd e (h x))) vals (hl.trans hp)
theorem bind2 {K:Frag} {a:Addr} {fd:FuncData} {ps:List Nat} (e:fdAt K a=some fd) (h:∀ x y:Value,(fdAt K a).map (fun fd=>bindArgs fd ⟨[x,y],[]⟩)=some (pure ((ps.map nm).zip [x,y]))) (hp:ps.length=2):∀ vals:List Value,vals.length=ps.length->BindsTo fd ps vals:=fun vals hl=>lenS (P:=fun l=>BindsTo fd ps (l)) (fun x=>lenS (P:=fun l=>BindsTo fd ps (x::l)) (fun y=>len0 (P:=fun l=>BindsTo fd ps (x::y::l)) (bi_fd e (h x y)))) vals (hl.trans hp)
theorem bind3 {K:Frag} {a:Addr} {fd:FuncData} {ps:List Nat} (e:fdAt K a=some fd) (h:∀ x y z:Value,(fdAt K a).map (fun fd=>bindArgs fd ⟨[x,y,z],[]⟩)=some (pure ((ps.map nm).zip [x,y,z]))) (hp:ps.length=3):∀ vals:List Value,vals.length=ps.length->BindsTo fd ps vals:=fun vals hl=>lenS (P:=fun l=>BindsTo fd ps (l)) (fun x=>lenS (P:=fun l=>BindsTo fd ps (x::l)) (fun y=>lenS (P:=fun l=>BindsTo fd ps (x::y::l)) (fun z=>len0 (P:=fun l=>BindsTo fd ps (x::y::z::l)) (bi_fd e (h x y z))))) vals (hl.trans hp)
theorem bind4 {K:Frag} {a:Addr} {fd:FuncData} {ps:List Nat} (e:fdAt K a=some fd) (h:∀ x y z t:Value,(fdAt K a).map (fun fd=>bindArgs fd ⟨[x,y,z,t],[]⟩)=some (pure ((ps.map nm).zip [x,y,z,t]))) (hp:ps.length=4):∀ vals:List Value,vals.length=ps.length->BindsTo fd ps vals:=fun vals hl=>lenS (P:=fun l=>BindsTo fd ps (l)) (fun x=>lenS (P:=fun l=>BindsTo fd ps (x::l)) (fun y=>lenS (P:=fun l=>BindsTo fd ps (x::y::l)) (fun z=>lenS (P:=fun l=>BindsTo fd ps (x::y::z::l)) (fun t=>len0 (P:=fun l=>BindsTo fd ps (x::y::z::t::l)) (bi_fd e (h x y z t)))))) vals (hl.trans hp)
theorem fnAt_of {c:Cfg} {K:Frag} (X:K.In c.h0) {n f:Nat} {ps:List Nat} {body:Sts} {a:Addr} (hm:c.mg (c.fnm f)=some (.ref a)) (h:fnChk K false a ps (fun sc b=>chkSs c.fnm c.rk n sc body b)=true)
  (hb:∀ fd,fdAt K a=some fd->∀ vals:List Value,vals.length=ps.length->BindsTo fd ps vals):FnAt c n f ps body:=by
 (refine e2a3 (fn_of X h) ?_;rintro fd b e F0 hl)
 exact ⟨a,fd,b,hm,F0,hb fd e,hl⟩
noncomputable def dvI (v:Value) (k:Int->Tok->Bool):Bool:=match v with
 | .int n t=>k n t
 | _=>false
@[elab_as_elim] theorem dvI_elim {P:Value->Prop} {v:Value} {k:Int->Tok->Bool} (h:dvI v k=true) (g:∀ n t,k n t=true->P (.int n t)):P v:=by
 cases v with
 | int n t=>exact g _ _ h
 | _=>exact absurd h Bool.false_ne_true
noncomputable def dvN (v:Value) (k:Bool):Bool:=match v with
 | .none=>k
 | _=>false
@[elab_as_elim] theorem dvN_elim {P:Value->Prop} {v:Value} {k:Bool} (h:dvN v k=true) (g:k=true->P .none):P v:=by
 cases v with
 | none=>exact g h
 | _=>exact absurd h Bool.false_ne_true
noncomputable def dvR (v:Value) (k:Addr->Bool):Bool:=match v with
 | .ref n=>k n
 | _=>false
@[elab_as_elim] theorem dvR_elim {P:Value->Prop} {v:Value} {k:Addr->Bool} (h:dvR v k=true) (g:∀ n,k n=true->P (.ref n)):P v:=by
 cases v with
 | ref n=>exact g _ h
 | _=>exact absurd h Bool.false_ne_true
noncomputable def dvT (v:Value) (k:String->Bool):Bool:=match v with
 | .type n=>k n
 | _=>false
@[elab_as_elim] theorem dvT_elim {P:Value->Prop} {v:Value} {k:String->Bool} (h:dvT v k=true) (g:∀ n,k n=true->P (.type n)):P v:=by
 cases v with
 | type n=>exact g _ h
 | _=>exact absurd h Bool.false_ne_true
noncomputable def ddF (v:Data) (k:Array Value->Bool):Bool:=match v with
 | .fields n=>k n
 | _=>false
@[elab_as_elim] theorem ddF_elim {P:Data->Prop} {v:Data} {k:Array Value->Bool} (h:ddF v k=true) (g:∀ n,k n=true->P (.fields n)):P v:=by
 cases v with
 | fields n=>exact g _ h
 | _=>exact absurd h Bool.false_ne_true
noncomputable def ddS (v:Data) (k:Array Value->Nat->Bool):Bool:=match v with
 | .seq n m=>k n m
 | _=>false
noncomputable def patVs (K:Frag) (code:Array Nat) (l:List Value):Bool :=
 dcons l fun u_ r=>dcons r fun a r=>dvI a fun n u_=>decide (n=32) && (dcons r fun a r=>dvI a fun n m=>decide (n=0) && (decide (m=0) && (dcons r fun a r=>dvN a (dcons r fun a r=>dvN a (dcons r fun a r=>dvR a fun ta =>
  dcons r fun a r=>dvI a fun n m=>decide (n=0) && (decide (m=0) && (dnil r (dsome (K.lookup ta) fun o=>ddS o.data fun items u_=>decide ((items.map Builtin.Re.reRawOf).map (·.toNat)=code)))))))))
noncomputable def PatIn (K:Frag) (pa:Addr) (code:Array Nat):Bool :=
 dsome (K.lookup pa) fun o=>dvT o.cls fun n=>decide (n="re.Pattern") && (o.dict.isNone && (o.slots.isEmpty && ddF o.data fun vs=>patVs K code vs.toList))
theorem and_t {a b:Bool} (h:(a && b)=true):a=true/\b=true:=by
 induction a with
 | true=>exact ⟨rfl,h⟩
 | false=>exact absurd h Bool.false_ne_true
theorem patVs_inv {K:Frag} {code:Array Nat} {l:List Value} (e:patVs K code l=true):∃ p0 t ta o items n,l=[p0,.int 32 t,.int 0 0,.none,.none,.ref ta,.int 0 0]/\K.lookup ta=some o/\o.data=.seq items n/\(items.map Builtin.Re.reRawOf).map (·.toNat)=code:=by
 refine dcons_elim e fun p0 r e=>?_
 refine dcons_elim e fun a r e=>?_
 refine dvI_elim e fun n t e=>?_
 have ee:=and_t e
 clear e
 obtain ⟨q1,e⟩:=ee
 have q1:=of_decide_eq_true q1
 subst q1
 refine dcons_elim e fun a r e=>?_
 refine dvI_elim e fun n m e=>?_
 have ee:=and_t e
 clear e
 obtain ⟨q2,e⟩:=ee
 have q2:=of_decide_eq_true q2
 subst q2
 have ee:=and_t e
 clear e
 obtain ⟨q3,e⟩:=ee
 have q3:=of_decide_eq_true q3
 subst q3
 refine dcons_elim e fun a r e=>?_
 refine dvN_elim e fun e=>?_
 refine dcons_elim e fun a r e=>?_
 refine dvN_elim e fun e=>?_
 refine dcons_elim e fun a r e=>?_
 refine dvR_elim e fun ta e=>?_
 refine dcons_elim e fun a r e=>?_
 refine dvI_elim e fun n m e=>?_
 have ee:=and_t e
 clear e
 obtain ⟨q4,e⟩:=ee
 have q4:=of_decide_eq_true q4
 subst q4
 have ee:=and_t e
 clear e
 obtain ⟨q5,e⟩:=ee
 have q5:=of_decide_eq_true q5
 subst q5
 refine dnil_elim e fun e=>?_
 cases hq:K.lookup ta with
 | none=>rw [hq] at e;exact absurd e Bool.false_ne_true
 | some o =>
  rw [hq] at e
  have e:ddS o.data (fun items u_=>decide ((items.map Builtin.Re.reRawOf).map (·.toNat)=code))=true:=e
  cases hd:o.data with
  | seq items n=>rw [hd] at e;exact ⟨p0,t,ta,o,items,n,rfl,hq,hd,of_decide_eq_true e⟩
  | _=>rw [hd] at e;exact absurd e Bool.false_ne_true
theorem pat_of {K:Frag} {h:Heap} (X:K.In h) {pa:Addr} {code:Array Nat} (hc:code=codeN\/code=codeV) (e:PatIn K pa code=true):PatAt h pa code:=by
 unfold PatIn at e
 cases hq:K.lookup pa with
 | none=>rw [hq] at e;exact absurd e Bool.false_ne_true
 | some ob =>
  rw [hq] at e
  have hq:=X _ _ hq
  (refine by_goal fun G_ hG_=>?_;rcases ob with ⟨cls,dict,data,slots⟩;all_goals (refine hG_ ?_;clear hG_ G_))
  have e9:dvT cls (fun n=>decide (n="re.Pattern") && (dict.isNone && (slots.isEmpty && ddF data fun vs=>patVs K code vs.toList)))=true:=e
  clear e
  have e:=e9
  clear e9
  revert hq
  refine dvT_elim e fun n e0=>?_
  clear e
  have e:=e0
  clear e0
  have ee:=and_t e
  clear e
  obtain ⟨e1,e⟩:=ee
  obtain rfl:=of_decide_eq_true e1
  have ee:=and_t e
  clear e
  obtain ⟨e2,e⟩:=ee
  have ee:=and_t e
  clear e
  obtain ⟨e3,e⟩:=ee
  obtain rfl:=Option.isNone_iff_eq_none.mp e2
  obtain rfl:slots=#[]:=by simpa using e3
  refine ddF_elim e fun vs e hq=>?_
  (refine e6a4 (patVs_inv e) ?_;rintro p0 t ta o items n hv h2 h3 h4)
  obtain ⟨l⟩:=vs
  have hv:l=_:=hv
  subst hv
  exact ⟨hc,p0,t,ta,o,items,n,hq,X _ _ h2,h3,h4⟩
theorem simple_of {c:Cfg} {K:Frag} {x:X} {a:Addr} (XK:K.In c.h0) (h:fnChk K false a [113] (fun sc b=>dcons b fun st r=>dnil r (dSReturn st fun o u_=>dsome o fun e=>chkX c.fnm c.rk 0 sc x e))=true) (hb:∀ v:Value,(fdAt K a).map (fun fd=>bindArgs fd ⟨[v],[]⟩)=some (pure (([113].map nm).zip [v]))):Simple c a x:=by
 (refine e2a3 (fn_of XK h) ?_;clear h;rintro fd b e F0 hl)
 revert F0
 refine dcons_elim hl fun st r hl=>?_
 refine dnil_elim hl fun hl=>?_
 refine dSReturn_elim hl fun o p hl=>?_
 refine dsome_elim hl fun x hl F0=>?_
 exact ⟨fd,_,_,F0,fun v=>bi_fd e (hb v),hl⟩
noncomputable def genChk (c:Cfg) (K:Frag) (a:Addr):Bool:=fnChk K true a [16] (fun sc b=>chkGen c.fnm c.rk sc b && (sc.names.all fun p=>!(p.2 == .cell)) && decide (sc.names.lookup (nm 16)=some .local))
theorem genFn_of {c:Cfg} {K:Frag} (X:K.In c.h0) {a:Addr} (hm:c.mg "_iter_escaped_chars"=some (.ref a)) (h:genChk c K a=true) (hb:∀ v:Value,(fdAt K a).map (fun fd=>bindArgs fd ⟨[v],[]⟩)=some (pure [(nm 16,v)])):GenCt c:=by
 (refine e2a2 (fnChk_inv X h) ?_;clear h;rintro fd b F hl)
 (refine k_bad hl ?_;clear hl;rintro h13 h14 h15)
 (refine e1a2 F.ob ?_;rintro o ho hd)
 exact ⟨a,o,fd,b,hm,ho,hd,⟨codeRec_of X F.code,F.body,F.gen,F.cor,F.kind,F.more,F.glob,F.bui,F.clo,fun p hp=>⟨fun q=>by have:=h14 p hp;rw [q] at this;exact nbt this,F.free p hp⟩,h15,fun v=>bi_fd F.at_ (hb v),h13⟩⟩
section
variable {G:Nat->Option Int} {T:Nat->List PV->Option PyData} {W:Nat}
theorem exs_next {x:St} {xs:Sts} {E E1:AE} {r:Option (AE × Option PyData)} (h:ex G T W x E=some (E1,none)) (h2:exs G T W xs E1=r):exs G T W (.cons x xs) E=r:=by
 (dsimp only [exs_q_cons];rw [h]);exact h2
theorem exs_ret {x:St} {xs:Sts} {E E1:AE} {v:PyData} (h:ex G T W x E=some (E1,some v)):exs G T W (.cons x xs) E=some (E1,some v):=by
 (dsimp only [exs_q_cons];rw [h]);rfl
end
theorem set_same {E:AE} {i:Nat} {x:PV}:(E.set i x) i=some x:=if_pos rfl
theorem set_other {E:AE} {i j:Nat} {x:PV} (h:j≠i):(E.set i x) j=E j:=if_neg h
noncomputable def toks:List Nat->Nat->Bool->List (Nat × List Nat)
 | [],_,false=>[]
 | [],i,true=>[(i - 1,[92])]
 | c::r,i,true=>(i,[92,c])::toks r (i+1) false
 | c::r,i,false=>if c=92 then toks r (i+1) true else (i,[c])::toks r (i+1) false
noncomputable def pyTok (p:Nat × List Nat):PyData:=.tuple [.int p.1,S p.2]
theorem iterEsc_toks:∀ (l:List Nat) (i:Nat) (b:Bool),(b=true->1<=i)->iterEsc l i b=(toks l i b).map pyTok
 | [],i,false,_=>rfl
 | [],i,true,h=>by
  have:=h rfl
  simp only [iterEsc,toks,List.map_cons,List.map_nil,pyTok]
  rw [show ((i - 1:Nat):Int)=(i:Int) - 1 by lia]
 | c::r,i,true,_=>by
  simp only [iterEsc,toks,List.map_cons,pyTok]
  rw [iterEsc_toks r (i+1) false (fun h=>nomatch h)]
 | c::r,i,false,_=>by
  simp only [iterEsc,toks]
  split
  ·exact iterEsc_toks r (i+1) true fun u_=>Nat.le_add_left _ _
  ·rw [List.map_cons,iterEsc_toks r (i+1) false (fun h=>nomatch h)]
   rfl
noncomputable abbrev SS:=Nat × Option Nat × List (List Nat)
noncomputable def stripStep (L:List Nat) (s:SS) (t:Nat × List Nat):SS :=
 if t.2=[34] then (match s.2.1 with
  | none=>(s.1,some t.1,s.2.2)
  | some o=>(t.1+1,none,if s.1≠o then s.2.2++[cut (min s.1 L.length) (min o L.length) L] else s.2.2))
 else s
noncomputable def opD:Option Nat->PyData
 | none=>.none
 | some o=>.int o
structure StE (E:AE) (L:List Nat) (s:SS):Prop where
 a:E 16=some (.dat (S L))
 st:E 17=some (.dat (.int s.1))
 o:E 18=some (.dat (opD s.2.1))
 r:E 8=some (.dat (.list (s.2.2.map S)))
section
variable {G:Nat->Option Int} {T:Nat->List PV->Option PyData} {W:Nat}
theorem bnd_nat (i n:Nat):bnd (.int (i:Int)) 0 n=some (min i n)/\∀ d,bnd (.int (i:Int)) d n=some (min i n):=by
 have h:∀ d,bnd (.int (i:Int)) d n=some (min i n):=fun d=>by
  show some (clip (i:Int) n)=_
  unfold clip
  rw [if_pos (by lia)]
  rfl
 exact ⟨h 0,h⟩
theorem strip_body {E:AE} {L:List Nat} {s:SS} (h:StE E L s) (hL:L.length<=lim) (hr:s.2.2.length<=lim) (t:Nat × List Nat) :
  ∃ E',exs G T W strip_b1 ((E.set 19 (.dat (.int t.1))).set 20 (.dat (S t.2)))=some (E',none)/\StE E' L (stripStep L s t):=by
 obtain ⟨p,ch⟩:=t
 obtain ⟨st,op,res⟩:=s
 (refine by_goal fun G_ hG_=>?_;rcases h with ⟨h1,h2,h3,h4⟩;all_goals (refine hG_ ?_;clear hG_ G_))
 generalize hE1:(E.set 19 (.dat (.int (p:Int)))).set 20 (.dat (S ch))=E1
 have e19:E1 19=some (.dat (.int p)):=by rw [<-hE1];rfl
 have e20:E1 20=some (.dat (S ch)):=by rw [<-hE1];rfl
 have e16:E1 16=some (.dat (S L)):=by rw [<-hE1];exact h1
 have e17:E1 17=some (.dat (.int st)):=by rw [<-hE1];exact h2
 have e18:E1 18=some (.dat (opD op)):=by rw [<-hE1];exact h3
 have e8:E1 8=some (.dat (.list (res.map S))):=by rw [<-hE1];exact h4
 unfold stripStep strip_b1
 by_cases hc:ch=[34]
 ·subst hc
  induction op with
  | none =>
   refine ⟨E1.set 18 (.dat (.int p)),?_,⟨e16,e17,rfl,e8⟩⟩
   simp [exs_q_nil,exs_q_cons,ex_q_asg,ex_q_app,ex_q_iff,ev_q_int,ev_q_str,ev_q_none,ev_q_var,ev_q_bin,ev_q_cmp1,ev_q_isC,ev_q_slc,datOf,e20,e19,e18,opD,evCmp_q_eq_str_str,tr_q_bool,isConst_q_none,asgOk_q_n0]
  | some o =>
   by_cases hso:st=o
   ·subst hso
    refine ⟨(E1.set 17 (.dat (.int (p+1)))).set 18 (.dat .none),?_,⟨e16,rfl,rfl,?_⟩⟩
    ·simp [exs_q_nil,exs_q_cons,ex_q_asg,ex_q_app,ex_q_iff,ev_q_int,ev_q_str,ev_q_none,ev_q_var,ev_q_bin,ev_q_cmp1,ev_q_isC,ev_q_slc,datOf,e20,e19,e18,e17,opD,evCmp_q_eq_str_str,evCmp_q_ne_int_int,tr_q_bool,isConst_q_none,asgOk_q_n0,evBin_q_add_int_int]
    ·simpa [AE.set] using e8
   ·have hso':¬ ((st:Int)=(o:Int)):=by lia
    refine ⟨((E1.set 8 (.dat (.list ((res++[cut (min st L.length) (min o L.length) L]).map S)))).set 17 (.dat (.int (p+1)))).set 18 (.dat .none),?_,⟨e16,rfl,rfl,?_⟩⟩
    ·have hs:evSlc (S L) (.int st) (.int o) .none=some (S (cut (min st L.length) (min o L.length) L)):=by
      simp only [evSlc_q_str_none,sl]
      rw [if_pos (by exact hL)]
      rw [(bnd_nat st _).1,(bnd_nat o _).2]
      rfl
     have hr':res.length<=lim:=hr
     simp [exs_q_nil,exs_q_cons,ex_q_asg,ex_q_app,ex_q_iff,ev_q_int,ev_q_str,ev_q_none,ev_q_var,ev_q_bin,ev_q_cmp1,ev_q_isC,ev_q_slc,datOf,AE.set,e20,e19,e18,e17,e16,e8,opD,evCmp_q_eq_str_str,evCmp_q_ne_int_int,tr_q_bool,isConst_q_none,asgOk_q_n0,evBin_q_add_int_int,hso',hs,listOf',hr']
    ·simp [hso,AE.set]
 ·refine ⟨E1,?_,?_⟩
  ·have:¬ (sl (⟨⟨ch⟩⟩:Str)=[34]):=hc
   simp [exs_q_nil,exs_q_cons,ex_q_asg,ex_q_app,ex_q_iff,ev_q_int,ev_q_str,ev_q_none,ev_q_var,ev_q_bin,ev_q_cmp1,ev_q_isC,ev_q_slc,datOf,e20,evCmp_q_eq_str_str,tr_q_bool,hc]
  ·simp only [hc,if_false]
   exact ⟨e16,e17,e18,e8⟩
theorem strip_loop {L:List Nat} (hL:L.length<=lim):∀ (ts:List (Nat × List Nat)) (E:AE) (s:SS),StE E L s->s.2.2.length+ts.length<=lim ->
  ∃ E',forLoop (fun E'=>exs G T W strip_b1 E') (fun d E'=>bindT (.tup [19,20]) d E') (ts.map pyTok) E=some (E',none)/\StE E' L (ts.foldl (stripStep L) s):=by
 intro ts
 induction ts with
 | nil=>intro E s h _;exact ⟨E,rfl,h⟩
 | cons t ts ih =>
  intro E s h hr
  have hr':s.2.2.length+ts.length+1<=lim:=by simpa [Nat.add_assoc] using hr
  (refine e1a2 (strip_body (G:=G) (T:=T) (W:=W) h hL (by lia) t) ?_;rintro E1 h1 h2)
  have hs:(stripStep L s t).2.2.length<=s.2.2.length+1:=by
   unfold stripStep
   split
   ·split
    ·exact Nat.le_succ _
    ·split
     ·simp
     ·exact Nat.le_succ _
   ·exact Nat.le_succ _
  (refine e1a2 (ih E1 _ h2 (by lia)) ?_;rintro E2 h3 h4)
  refine ⟨E2,?_,h4⟩
  rw [List.map_cons,forLoop]
  show (some ((E.set 19 (.dat (.int t.1))).set 20 (.dat (S t.2)))).bind _=_
  (dsimp only [Option.bind_some];rw [h1,Option.bind_some])
  exact h3
end
theorem joinL_nil:∀ ls:List (List Nat),joinL [] ls=ls.flatten
 | []=>rfl
 | [x]=>by simp [joinL]
 | x::y::r=>by
  have:=joinL_nil (y::r)
  simp only [joinL] at this ⊢
  rw [this];simp
noncomputable def stripGo:List Nat->Bool->List Nat->Option (List Nat)->List Nat
 | [],_,out,none=>out
 | [],_,out,some q=>out++q
 | c::r,true,out,none=>stripGo r false (out++[c]) none
 | c::r,true,out,some q=>stripGo r false out (some (q++[c]))
 | c::r,false,out,none=>if c=92 then stripGo r true (out++[c]) none else if c=34 then stripGo r false out (some [c]) else stripGo r false (out++[c]) none
 | c::r,false,out,some q=>if c=92 then stripGo r true out (some (q++[c])) else if c=34 then stripGo r false out none else stripGo r false out (some (q++[c]))
noncomputable def tailS (L:List Nat) (s:SS):List Nat:=(s.2.2++(if s.1 < L.length then [L.drop s.1] else [])).flatten
theorem take_succ_drop {L:List Nat} {i a c:Nat} (h:L[i]?=some c) (ha:a<=i):(L.take (i+1)).drop a=(L.take i).drop a++[c]:=by
 have hi:i < L.length:=(List.getElem?_eq_some_iff.mp h).1
 have e:L[i]=c:=(List.getElem?_eq_some_iff.mp h).2
 rw [List.take_succ_eq_append_getElem hi,e,List.drop_append,List.length_take]
 rw [show a - min i L.length=0 by lia]
 rfl
theorem strip_sem {L:List Nat}:∀ (r:List Nat) (i:Nat) (b:Bool) (s:SS) (out:List Nat) (q:Option (List Nat)),L.drop i=r->i<=L.length->(b=true->1<=i) ->
  (match s.2.1,q with
   | none,none=>s.1<=i/\(b=true->s.1<=i - 1)/\out=s.2.2.flatten++(L.take i).drop s.1
   | some o,some q=>s.1<=o/\o < i/\(b=true->o < i - 1)/\out=s.2.2.flatten++(L.take o).drop s.1/\q=(L.take i).drop o
   | _,_=>False)->tailS L ((toks r i b).foldl (stripStep L) s)=stripGo r b out q:=by
 intro r
 induction r with
 | nil =>
  intro i b s out q hr hi hb h
  have hii:i=L.length:=by have:=congrArg List.length hr;simp at this;grind
  have e:(toks [] i b).foldl (stripStep L) s=s:=by
   induction b with
   | false=>rfl
   | true=>simp [toks,stripStep]
  rw [e]
  obtain ⟨st,op,res⟩:=s
  unfold tailS
  induction op with
  | none =>
   induction q with
   | none =>
    (refine e0a3 h ?_;try clear h;rintro h1 u_ h2)
    simp only at h1 h2
    subst h2 hii
    rw [stripGo,List.flatten_append,List.take_length]
    by_cases hs:st < L.length
    ·rw [if_pos hs];simp
    ·rw [if_neg hs,List.drop_of_length_le (by lia)];simp
   | some q=>exact h.elim
  | some o =>
   induction q with
   | none=>exact h.elim
   | some q =>
    (refine e0a5 h ?_;try clear h;rintro h1 h2 u_ h3 h4)
    simp only at h1 h2 h3 h4
    subst h3 h4 hii
    rw [stripGo,List.flatten_append,List.take_length,if_pos (by show st < _;lia)]
    simp only [List.flatten_cons,List.flatten_nil,List.append_nil,List.append_assoc]
    congr 1
    have:L.drop st=(L.take o).drop st++L.drop o:=by
     conv=>lhs;rw [<-List.take_append_drop o L]
     rw [List.drop_append,List.length_take,show st - min o L.length=0 by lia]
     rfl
    exact this
 | cons c r ih =>
  intro i b s out q hr hi hb h
  have hc:L[i]?=some c:=by have:=congrArg (fun l=>l[0]?) hr;simpa using this
  have hi':i < L.length:=(List.getElem?_eq_some_iff.mp hc).1
  have hr1:L.drop (i+1)=r:=by
   have:=congrArg (List.drop 1) hr
   rw [List.drop_drop] at this
   simpa [Nat.add_comm] using this
  obtain ⟨st,op,res⟩:=s
  induction b with
  | true =>
   have hb:=hb rfl
   have e:(toks (c::r) i true).foldl (stripStep L) (st,op,res)=(toks r (i+1) false).foldl (stripStep L) (st,op,res):=by
    simp [toks,stripStep]
   rw [e]
   induction op with
   | none =>
    induction q with
    | none =>
     (refine e0a3 h ?_;try clear h;rintro h1 u_ h2)
     rw [stripGo]
     refine ih (i+1) false _ _ _ hr1 hi' (fun z=>nomatch z) ⟨by show st<=i+1;simp only at h1;lia,(fun z=>nomatch z),?_⟩
     simp only at h1 h2
     rw [h2,take_succ_drop hc h1,List.append_assoc]
    | some q=>exact h.elim
   | some o =>
    induction q with
    | none=>exact h.elim
    | some q =>
     (refine e0a5 h ?_;try clear h;rintro h1 h2 u_ h3 h4)
     simp only at h1 h2 h3 h4
     rw [stripGo]
     refine ih (i+1) false _ _ _ hr1 hi' (fun z=>nomatch z) ⟨h1,by lia,(fun z=>nomatch z),h3,?_⟩
     rw [h4,take_succ_drop hc (by lia)]
  | false =>
   by_cases h92:c=92
   ·have e:toks (c::r) i false=toks r (i+1) true:=by simp [toks,h92]
    rw [e]
    induction op with
    | none =>
     induction q with
     | none =>
      (refine e0a3 h ?_;try clear h;rintro h1 u_ h2)
      simp only at h1 h2
      rw [stripGo,if_pos h92]
      refine ih (i+1) true _ _ _ hr1 hi' (fun u_=>by lia) ⟨by show st<=i+1;lia,(fun u_=>by show st<=i+1 - 1;lia),?_⟩
      rw [h2,take_succ_drop hc h1,List.append_assoc]
     | some q=>exact h.elim
    | some o =>
     induction q with
     | none=>exact h.elim
     | some q =>
      (refine e0a5 h ?_;try clear h;rintro h1 h2 u_ h3 h4)
      simp only at h1 h2 h3 h4
      rw [stripGo,if_pos h92]
      refine ih (i+1) true _ _ _ hr1 hi' (fun u_=>by lia) ⟨h1,by lia,(fun u_=>by lia),h3,?_⟩
      rw [h4,take_succ_drop hc (by lia)]
   ·have e:toks (c::r) i false=(i,[c])::toks r (i+1) false:=by simp [toks,h92]
    rw [e,List.foldl_cons]
    by_cases h34:c=34
    ·subst h34
     induction op with
     | none =>
      induction q with
      | none =>
       (refine e0a3 h ?_;try clear h;rintro h1 u_ h2)
       simp only at h1 h2
       rw [stripGo,if_neg h92,if_pos rfl]
       have es:stripStep L (st,none,res) (i,[34])=(st,some i,res):=by simp [stripStep]
       rw [es]
       refine ih (i+1) false _ _ _ hr1 hi' (fun z=>nomatch z) ⟨h1,by lia,(fun z=>nomatch z),h2,?_⟩
       rw [take_succ_drop hc (Nat.le_refl _)]
       simp
      | some q=>exact h.elim
     | some o =>
      induction q with
      | none=>exact h.elim
      | some q =>
       (refine e0a5 h ?_;try clear h;rintro h1 h2 u_ h3 h4)
       simp only at h1 h2 h3 h4
       rw [stripGo,if_neg h92,if_pos rfl]
       have es:stripStep L (st,some o,res) (i,[34])=(i+1,none,if st≠o then res++[cut (min st L.length) (min o L.length) L] else res):=by simp [stripStep]
       rw [es]
       refine ih (i+1) false _ _ _ hr1 hi' (fun z=>nomatch z) ⟨Nat.le_refl _,(fun z=>nomatch z),?_⟩
       show out=_++(L.take (i+1)).drop (i+1)
       rw [List.drop_of_length_le (by rw [List.length_take];grind),List.append_nil,h3]
       by_cases hso:st=o
       ·subst hso
        simp [List.drop_take]
       ·simp only [ne_eq,hso,not_false_eq_true,if_true,List.flatten_append,List.flatten_cons,List.flatten_nil,List.append_nil]
        rw [show min st L.length=st by grind,show min o L.length=o by lia]
        rfl
    ·have es:stripStep L (st,op,res) (i,[c])=(st,op,res):=by simp [stripStep,h34]
     rw [es]
     induction op with
     | none =>
      induction q with
      | none =>
       (refine e0a3 h ?_;try clear h;rintro h1 u_ h2)
       simp only at h1 h2
       rw [stripGo,if_neg h92,if_neg h34]
       refine ih (i+1) false _ _ _ hr1 hi' (fun z=>nomatch z) ⟨by show st<=i+1;lia,(fun z=>nomatch z),?_⟩
       rw [h2,take_succ_drop hc h1,List.append_assoc]
      | some q=>exact h.elim
     | some o =>
      induction q with
      | none=>exact h.elim
      | some q =>
       (refine e0a5 h ?_;try clear h;rintro h1 h2 u_ h3 h4)
       simp only at h1 h2 h3 h4
       rw [stripGo,if_neg h92,if_neg h34]
       refine ih (i+1) false _ _ _ hr1 hi' (fun z=>nomatch z) ⟨h1,by lia,(fun z=>nomatch z),h3,?_⟩
       rw [h4,take_succ_drop hc (by lia)]
theorem stripGo_len:∀ (r:List Nat) (b:Bool) (out:List Nat) (q:Option (List Nat)),(stripGo r b out q).length<=out.length+(match q with | none=>0 | some q=>q.length)+r.length
 | [],b,out,none=>by simp [stripGo]
 | [],b,out,some q=>by simp [stripGo]
 | c::r,true,out,none=>by
  have:=stripGo_len r false (out++[c]) none
  simp only [stripGo,List.length_append,List.length_cons,List.length_nil] at *;lia
 | c::r,true,out,some q=>by
  have:=stripGo_len r false out (some (q++[c]))
  simp only [stripGo,List.length_append,List.length_cons,List.length_nil] at *;lia
 | c::r,false,out,none=>by
  have h1:=stripGo_len r true (out++[c]) none
  have h2:=stripGo_len r false (out++[c]) none
  have h3:=stripGo_len r false out (some [c])
  simp only [stripGo]
  split
  ·simp only [List.length_append,List.length_cons,List.length_nil] at *;lia
  ·split
   ·simp only [List.length_append,List.length_cons,List.length_nil] at *;lia
   ·simp only [List.length_append,List.length_cons,List.length_nil] at *;lia
 | c::r,false,out,some q=>by
  have h1:=stripGo_len r true out (some (q++[c]))
  have h2:=stripGo_len r false out (some (q++[c]))
  have h3:=stripGo_len r false out none
  simp only [stripGo]
  split
  ·simp only [List.length_append,List.length_cons,List.length_nil] at *;lia
  ·split
   ·simp only [List.length_append,List.length_cons,List.length_nil] at *;lia
   ·simp only [List.length_append,List.length_cons,List.length_nil] at *;lia
theorem stripGo_id:∀ (r:List Nat) (b:Bool) (out:List Nat),34 ∉ r->stripGo r b out none=out++r
 | [],b,out,_=>by simp [stripGo]
 | c::r,true,out,h=>by
  rw [stripGo,stripGo_id r false _ (fun m=>h (List.mem_cons_of_mem _ m))];simp
 | c::r,false,out,h=>by
  have hc:¬ c=34:=fun e=>h (e ▸ List.mem_cons_self)
  rw [stripGo,stripGo_id r true _ (fun m=>h (List.mem_cons_of_mem _ m)),stripGo_id r false _ (fun m=>h (List.mem_cons_of_mem _ m)),if_neg hc]
  simp
noncomputable def stripS (L:List Nat):List Nat:=stripGo L false [] none
theorem toks_len:∀ (r:List Nat) (i:Nat) (b:Bool),(toks r i b).length<=r.length+1
 | [],_,false=>by simp [toks]
 | [],_,true=>by simp [toks]
 | c::r,i,true=>by have:=toks_len r (i+1) false;simp only [toks,List.length_cons];lia
 | c::r,i,false=>by
  have h1:=toks_len r (i+1) true
  have h2:=toks_len r (i+1) false
  simp only [toks]
  split
  ·simp only [List.length_cons];lia
  ·simp only [List.length_cons];lia
theorem fold_len {L:List Nat}:∀ (ts:List (Nat × List Nat)) (s:SS),(ts.foldl (stripStep L) s).2.2.length<=s.2.2.length+ts.length
 | [],s=>Nat.le_refl _
 | t::ts,s=>by
  have:=fold_len (L:=L) ts (stripStep L s t)
  have hs:(stripStep L s t).2.2.length<=s.2.2.length+1:=by
   unfold stripStep
   split
   ·split
    ·exact Nat.le_succ _
    ·split
     ·simp
     ·exact Nat.le_succ _
   ·exact Nat.le_succ _
  simp only [List.foldl_cons,List.length_cons];lia
theorem strL_S:∀ ls:List (List Nat),strL (ls.map S)=some ls
 | []=>rfl
 | x::r=>by rw [List.map_cons,strL,strL_S r];rfl
section
variable {G:Nat->Option Int} {T:Nat->List PV->Option PyData} {W:Nat}
theorem gen_it {E:AE} {i:Nat} {L:List Nat} (h:E i=some (.dat (S L))) (ha:asc L=true) (hl:L.length<=100000):evIt G T (.gen (.var i)) E=some ((toks L 0 false).map pyTok):=by
 rw [<-iterEsc_toks L 0 false (fun h=>nomatch h)]
 have hl':L.length<=100000:=hl
 simp [evIt_q_gen,ev_q_var,datOf,h,strOf_q_str,ha,hl']
theorem strip_run {L:List Nat} (ha:asc L=true) (hl:L.length<=100000):runFn G T W strip_ps strip_fn [.dat (S L)]=some (S (stripS L)):=by
 have hlim:L.length<=lim:=Nat.le_trans hl (by decide)
 unfold runFn
 show ((exs G T W strip_fn (AE.set (fun u_=>none) 16 (.dat (S L)))).bind fun p=>p.2)=_
 generalize hE:AE.set (fun u_=>none) 16 (.dat (S L))=E
 have e16:E 16=some (.dat (S L)):=by rw [<-hE];rfl
 by_cases hm:34∈L
 ·have h0:StE (((E.set 17 (.dat (.int 0))).set 18 (.dat .none)).set 8 (.dat (.list []))) L (0,none,[]):=⟨e16,rfl,rfl,rfl⟩
  have hlen:=toks_len L 0 false
  (refine e1a2 (strip_loop (G:=G) (T:=T) (W:=W) hlim (toks L 0 false) _ _ h0 (by show 0+_<=1000000;lia)) ?_;rintro E2 h1 h2)
  have hf:=fold_len (L:=L) (toks L 0 false) (0,none,[])
  have hsem:=strip_sem (L:=L) L 0 false (0,none,[]) [] none rfl (Nat.zero_le _) (fun h=>nomatch h) ⟨Nat.le_refl _,(fun h=>nomatch h),rfl⟩
  generalize hs:(toks L 0 false).foldl (stripStep L) (0,none,[])=s at h2 hsem hf
  obtain ⟨st,op,res⟩:=s
  (refine by_goal fun G_ hG_=>?_;rcases h2 with ⟨g1,g2,g3,g4⟩;all_goals (refine hG_ ?_;clear hG_ G_))
  have hit:=gen_it (G:=G) (T:=T) (E:=((E.set 17 (.dat (.int 0))).set 18 (.dat .none)).set 8 (.dat (.list []))) (i:=16) e16 ha hl
  simp only [List.length_nil,Nat.zero_add] at hf
  have hres:res.length<=lim:=by show res.length<=1000000;lia
  have hjoin:∀ ls:List (List Nat),ls.flatten=stripS L->ls.length<=lim->evP2 .join (S []) (.list (ls.map S))=some (S (stripS L)):=by
   intro ls h1 h2
   have:(joinL [] ls).length<=lim/\(ls.map S).length<=lim/\([]:List Nat).length<=lim:=by
    rw [joinL_nil,h1,List.length_map]
    refine ⟨?_,h2,Nat.zero_le _⟩
    have:=stripGo_len L false [] none
    simp only [List.length_nil,Nat.zero_add] at this
    exact Nat.le_trans this hlim
   simp only [evP2_q_join_str_list,strL_S,Option.bind_some]
   rw [if_pos this,show joinL [] ls=stripS L by rw [joinL_nil,h1]]
  unfold strip_fn
  rw [exs_next (E1:=E) (by simp [ex_q_iff,ex_q_ret,exs_q_nil,exs_q_cons,ev_q_str,ev_q_var,ev_q_cmp1,datOf,e16,evCmp_q_notin_str_str,tr_q_bool,hm]) rfl]
  rw [exs_next (E1:=E.set 17 (.dat (.int 0))) (by simp [ex_q_asg,ev_q_int,asgOk_q_n0]) rfl]
  rw [exs_next (E1:=(E.set 17 (.dat (.int 0))).set 18 (.dat .none)) (by simp [ex_q_asg,ev_q_none,asgOk_q_n0]) rfl]
  rw [exs_next (E1:=((E.set 17 (.dat (.int 0))).set 18 (.dat .none)).set 8 (.dat (.list []))) (by simp [ex_q_asg,ev_q_lst,evs_q_nil,asgOk_q_n1,isL]) rfl]
  rw [exs_next (E1:=E2) (by (dsimp only [ex_q_forS];rw [hit,Option.bind_some]);exact h1) rfl]
  by_cases hst:st < L.length
  ·have hst':(st:Int) < (L.length:Int):=by lia
   have hs:evSlc (S L) (.int st) .none .none=some (S (L.drop st)):=by
    simp only [evSlc_q_str_none,sl]
    rw [if_pos (by exact hlim),(bnd_nat st _).1]
    show some (S (cut (min st L.length) L.length L))=_
    unfold cut
    rw [List.take_length,Nat.min_eq_left (Nat.le_of_lt hst)]
   have hdrop:(res++[L.drop st]).flatten=stripS L:=by
    unfold tailS at hsem
    rw [if_pos hst] at hsem
    exact hsem
   rw [exs_next (E1:=E2.set 8 (.dat (.list ((res++[L.drop st]).map S)))) (by simp [ex_q_app,ex_q_iff,exs_q_nil,exs_q_cons,ev_q_none,ev_q_var,ev_q_cmp1,ev_q_slc,ev_q_p1,datOf,g1,g2,g4,evP1_q_len_str,hlim,evCmp_q_lt_int_int,tr_q_bool,hst',hs,listOf',hres]) rfl]
   rw [exs_next (E1:=E2.set 8 (.dat (.list ((res++[L.drop st]).map S)))) (by simp [ex_q_frz]) rfl]
   have hr2:(res++[L.drop st]).length<=lim:=by
    rw [List.length_append];show res.length+1<=1000000;lia
   rw [exs_ret (E1:=E2.set 8 (.dat (.list ((res++[L.drop st]).map S)))) (v:=S (stripS L)) (by simp only [ex_q_ret,ev_q_str,ev_q_var,ev_q_p2,datOf,set_same,Option.bind_some,hjoin _ hdrop hr2])]
   rfl
  ·have hst':¬ (st:Int) < (L.length:Int):=by lia
   have hdrop:res.flatten=stripS L:=by
    unfold tailS at hsem
    rw [if_neg hst,List.append_nil] at hsem
    exact hsem
   rw [exs_next (E1:=E2) (by simp [ex_q_app,ex_q_iff,exs_q_nil,exs_q_cons,ev_q_none,ev_q_var,ev_q_cmp1,ev_q_slc,ev_q_p1,datOf,g1,g2,g4,evP1_q_len_str,hlim,evCmp_q_lt_int_int,tr_q_bool,hst']) rfl]
   rw [exs_next (E1:=E2) (by simp [ex_q_frz]) rfl]
   rw [exs_ret (E1:=E2) (v:=S (stripS L)) (by simp only [ex_q_ret,ev_q_str,ev_q_var,ev_q_p2,datOf,g4,Option.bind_some,hjoin _ hdrop hres])]
   rfl
 ·have hid:stripS L=L:=by unfold stripS;rw [stripGo_id L false [] hm];rfl
  unfold strip_fn
  rw [exs_ret (E1:=E) (v:=S L) (by simp [ex_q_iff,ex_q_ret,exs_q_nil,exs_q_cons,ev_q_str,ev_q_var,ev_q_cmp1,datOf,e16,evCmp_q_notin_str_str,tr_q_bool,hm]),hid]
  rfl
end
noncomputable def chkGo:List Nat->Bool->Nat->Bool
 | [],_,n=>n == 0
 | c::r,true,n=>chkGo r false n
 | c::r,false,n=>if c=92 then chkGo r true n else if c=40 then chkGo r false (n+1) else if c=41 then (if n=0 then false else chkGo r false (n - 1)) else chkGo r false n
noncomputable def CkM:Nat->Option PyData->AE->Prop
 | 0,r,_=>r=some (.bool false)
 | m+1,r,E'=>r=none/\E' 21=some (.dat (.int m))
section
variable {G:Nat->Option Int} {T:Nat->List PV->Option PyData} {W:Nat}
theorem check_body {E:AE} {n:Nat} (h:E 21=some (.dat (.int n))) (t:Nat × List Nat) :
  ∃ E' r,exs G T W check_b1 ((E.set 19 (.dat (.int t.1))).set 20 (.dat (S t.2)))=some (E',r) /\
   (if t.2=[40] then r=none/\E' 21=some (.dat (.int ((n+1:Nat):Int))) else if t.2=[41] then CkM n r E' else r=none/\E' 21=some (.dat (.int n))):=by
 obtain ⟨p,ch⟩:=t
 generalize hE1:(E.set 19 (.dat (.int (p:Int)))).set 20 (.dat (S ch))=E1
 have e20:E1 20=some (.dat (S ch)):=by rw [<-hE1];rfl
 have e21:E1 21=some (.dat (.int n)):=by rw [<-hE1];exact h
 unfold check_b1
 by_cases h40:ch=[40]
 ·subst h40
  refine ⟨E1.set 21 (.dat (.int (n+1))),none,?_,?_⟩
  ·simp [exs_q_nil,exs_q_cons,ex_q_aug,ex_q_iff,ex_q_ret,ev_q_int,ev_q_str,ev_q_bool,ev_q_var,ev_q_cmp1,datOf,e20,e21,evCmp_q_eq_str_str,tr_q_bool,intOf_q_int,evBin_q_add_int_int,evBin_q_sub_int_int]
  ·simp [AE.set]
 ·by_cases h41:ch=[41]
  ·subst h41
   cases n with
   | zero =>
    refine ⟨E1.set 21 (.dat (.int (-1))),some (.bool false),?_,?_⟩
    ·simp [exs_q_nil,exs_q_cons,ex_q_aug,ex_q_iff,ex_q_ret,ev_q_int,ev_q_str,ev_q_bool,ev_q_var,ev_q_cmp1,datOf,e20,e21,evCmp_q_eq_str_str,evCmp_q_lt_int_int,tr_q_bool,intOf_q_int,evBin_q_add_int_int,evBin_q_sub_int_int,AE.set]
    ·simp [CkM]
   | succ m =>
    refine ⟨E1.set 21 (.dat (.int m)),none,?_,?_⟩
    ·have hm:(((m+1:Nat):Int) - 1)=(m:Int):=by lia
     have hm0:¬ ((m:Int) < 0):=by lia
     simp only [exs_q_nil,exs_q_cons,ex_q_aug,ex_q_iff,ex_q_ret,ev_q_int,ev_q_str,ev_q_bool,ev_q_var,ev_q_cmp1,datOf,e20,e21,evCmp_q_eq_str_str,evCmp_q_lt_int_int,tr_q_bool,intOf_q_int,evBin_q_add_int_int,evBin_q_sub_int_int,Option.bind_some,Option.isSome_some,if_true,hm,set_same,hm0,decide_false]
     rfl
    ·simp [AE.set,CkM]
  ·refine ⟨E1,none,?_,?_⟩
   ·simp [exs_q_nil,exs_q_cons,ex_q_aug,ex_q_iff,ex_q_ret,ev_q_int,ev_q_str,ev_q_bool,ev_q_var,ev_q_cmp1,datOf,e20,evCmp_q_eq_str_str,tr_q_bool,h40,h41]
   ·simp only [h40,h41,if_false]
    exact ⟨trivial,e21⟩
theorem check_loop:∀ (r:List Nat) (i:Nat) (b:Bool) (n:Nat) (E:AE),E 21=some (.dat (.int n)) ->
  ∃ E' ro,forLoop (fun E'=>exs G T W check_b1 E') (fun d E'=>bindT (.tup [19,20]) d E') ((toks r i b).map pyTok) E=some (E',ro) /\
   ((ro=some (.bool false)/\chkGo r b n=false)\/(ro=none/\∃ m:Nat,E' 21=some (.dat (.int m))/\chkGo r b n=(m == 0))):=by
 have one:∀ (t:Nat × List Nat) (ts:List (Nat × List Nat)) (n:Nat) (E:AE),E 21=some (.dat (.int n))->∃ E1 ro,(∀ X,forLoop (fun E'=>exs G T W check_b1 E') (fun d E'=>bindT (.tup [19,20]) d E') (ts.map pyTok) E1=X->ro=none->forLoop (fun E'=>exs G T W check_b1 E') (fun d E'=>bindT (.tup [19,20]) d E') ((t::ts).map pyTok) E=X) /\
   (∀ v,ro=some v->forLoop (fun E'=>exs G T W check_b1 E') (fun d E'=>bindT (.tup [19,20]) d E') ((t::ts).map pyTok) E=some (E1,some v)) /\
   (if t.2=[40] then ro=none/\E1 21=some (.dat (.int ((n+1:Nat):Int))) else if t.2=[41] then CkM n ro E1 else ro=none/\E1 21=some (.dat (.int n))):=by
  intro t ts n E h
  (refine e2a2 (check_body (G:=G) (T:=T) (W:=W) h t) ?_;rintro E1 ro h1 h2)
  refine ⟨E1,ro,fun X hX hro=>?_,fun v hro=>?_,h2⟩
  ·rw [List.map_cons,forLoop]
   show (some ((E.set 19 (.dat (.int t.1))).set 20 (.dat (S t.2)))).bind _=_
   (dsimp only [Option.bind_some];rw [h1,Option.bind_some,hro])
   exact hX
  ·rw [List.map_cons,forLoop]
   show (some ((E.set 19 (.dat (.int t.1))).set 20 (.dat (S t.2)))).bind _=_
   (dsimp only [Option.bind_some];rw [h1,Option.bind_some,hro])
 intro r
 induction r with
 | nil =>
  intro i b n E h
  induction b with
  | false=>exact ⟨E,none,rfl,.inr ⟨rfl,n,h,rfl⟩⟩
  | true =>
   (refine e2a3 (one (i - 1,[92]) [] n E h) ?_;rintro E1 ro h1 u_ h3)
   have h3:ro=none/\E1 21=some (.dat (.int n)):=by simpa using h3
   exact ⟨E1,none,h1 _ rfl h3.1,.inr ⟨rfl,n,h3.2,rfl⟩⟩
 | cons c r ih =>
  intro i b n E h
  induction b with
  | true =>
   (refine e2a3 (one (i,[92,c]) (toks r (i+1) false) n E h) ?_;rintro E1 ro h1 u_ h3)
   have h3:ro=none/\E1 21=some (.dat (.int n)):=by simpa using h3
   (refine e2a2 (ih (i+1) false n E1 h3.2) ?_;rintro E2 r2 g1 g2)
   exact ⟨E2,r2,h1 _ g1 h3.1,g2⟩
  | false =>
   by_cases h92:c=92
   ·have e:toks (c::r) i false=toks r (i+1) true:=by simp [toks,h92]
    rw [e,chkGo,if_pos h92]
    exact ih (i+1) true n E h
   ·have e:toks (c::r) i false=(i,[c])::toks r (i+1) false:=by simp [toks,h92]
    rw [e,chkGo,if_neg h92]
    (refine e2a3 (one (i,[c]) (toks r (i+1) false) n E h) ?_;rintro E1 ro h1 h2 h3)
    by_cases h40:c=40
    ·subst h40
     have h3:ro=none/\E1 21=some (.dat (.int ((n+1:Nat):Int))):=by simpa using h3
     (refine e2a2 (ih (i+1) false (n+1) E1 h3.2) ?_;rintro E2 r2 g1 g2)
     rw [if_pos rfl]
     exact ⟨E2,r2,h1 _ g1 h3.1,g2⟩
    ·rw [if_neg h40]
     by_cases h41:c=41
     ·subst h41
      rw [if_pos rfl]
      cases n with
      | zero =>
       have h3:ro=some (.bool false):=by simpa [CkM] using h3
       exact ⟨E1,_,h2 _ h3,.inl ⟨rfl,rfl⟩⟩
      | succ m =>
       have h3:ro=none/\E1 21=some (.dat (.int m)):=by simpa [CkM] using h3
       (refine e2a2 (ih (i+1) false m E1 h3.2) ?_;rintro E2 r2 g1 g2)
       exact ⟨E2,r2,h1 _ g1 h3.1,g2⟩
     ·rw [if_neg h41]
      have h3:ro=none/\E1 21=some (.dat (.int n)):=by simpa [h40,h41] using h3
      (refine e2a2 (ih (i+1) false n E1 h3.2) ?_;rintro E2 r2 g1 g2)
      exact ⟨E2,r2,h1 _ g1 h3.1,g2⟩
theorem check_run {L M:List Nat} (hT:T 2 [.dat (S L)]=some (S M)) (ha:asc M=true) (hl:M.length<=100000):runFn G T W check_ps check_fn [.dat (S L)]=some (.bool (chkGo M false 0)):=by
 unfold runFn
 show ((exs G T W check_fn (AE.set (fun u_=>none) 16 (.dat (S L)))).bind fun p=>p.2)=_
 generalize hE:AE.set (fun u_=>none) 16 (.dat (S L))=E
 have e16:E 16=some (.dat (S L)):=by rw [<-hE];rfl
 unfold check_fn
 rw [exs_next (E1:=E.set 16 (.dat (S M))) (by simp [ex_q_asg,ev_q_var,ev_q_call,evs_q_nil,evs_q_cons,datOf,e16,hT,asgOk_q_n0]) rfl]
 rw [exs_next (E1:=(E.set 16 (.dat (S M))).set 21 (.dat (.int 0))) (by simp [ex_q_asg,ev_q_int,asgOk_q_n0]) rfl]
 have hit:=gen_it (G:=G) (T:=T) (E:=(E.set 16 (.dat (S M))).set 21 (.dat (.int 0))) (i:=16) rfl ha hl
 (refine e2a2 (check_loop (G:=G) (T:=T) (W:=W) M 0 false 0 ((E.set 16 (.dat (S M))).set 21 (.dat (.int 0))) rfl) ?_;rintro E2 ro h1 h2)
 rcases h2 with ⟨rfl,h2⟩ | ⟨rfl,m,h3,h2⟩
 ·rw [exs_ret (E1:=E2) (v:=.bool false) (by (dsimp only [ex_q_forS];rw [hit,Option.bind_some]);exact h1),h2]
  rfl
 ·rw [exs_next (E1:=E2) (by (dsimp only [ex_q_forS];rw [hit,Option.bind_some]);exact h1) rfl,h2]
  rw [exs_ret (E1:=E2) (v:=.bool (m == 0)) (by
   simp only [ex_q_ret,ev_q_int,ev_q_var,ev_q_cmp1,datOf,h3,Option.bind_some,evCmp_q_eq_int_int]
   congr 4
   cases m <;> rfl)]
  rfl
end
theorem lt4 {p:Nat} (h:p < 4):p=0\/p=1\/p=2\/p=3:=by lia
theorem lt5 {p:Nat} (h:p < 5):p=0\/p=1\/p=2\/p=3\/p=4:=(Nat.lt_or_eq_of_le (Nat.le_of_lt_succ h)).elim (fun h=>(lt4 h).imp id fun h=>h.imp id fun h=>h.imp id .inl) fun h=>.inr (.inr (.inr (.inr h)))
theorem asc_app (a b:List Nat):asc (a++b)=(asc a && asc b):=List.all_append
theorem asc_cons (c:Nat) (b:List Nat):asc (c::b)=(Nat.blt c 128 && asc b):=rfl
theorem stripGo_asc:∀ (r:List Nat) (b:Bool) (out:List Nat) (q:Option (List Nat)),asc r=true->asc out=true->(∀ q',q=some q'->asc q'=true)->asc (stripGo r b out q)=true
 | [],_,out,none,_,h,_=>h
 | [],_,out,some q,_,h,h2=>by rw [stripGo,asc_app,h,h2 q rfl];rfl
 | c::r,true,out,none,h1,h2,h3=>by
  rw [asc_cons,Bool.and_eq_true] at h1
  exact stripGo_asc r false (out++[c]) none h1.2 (by rw [asc_app,h2,asc_cons,h1.1];rfl) (fun u_ e=>nomatch e)
 | c::r,true,out,some q,h1,h2,h3=>by
  rw [asc_cons,Bool.and_eq_true] at h1
  exact stripGo_asc r false out (some (q++[c])) h1.2 h2 (fun q' e=>by (replace e:=(Option.some.inj e).symm;subst e);rw [asc_app,h3 q rfl,asc_cons,h1.1];rfl)
 | c::r,false,out,none,h1,h2,h3=>by
  rw [asc_cons,Bool.and_eq_true] at h1
  have hc:asc (out++[c])=true:=by rw [asc_app,h2,asc_cons,h1.1];rfl
  rw [stripGo]
  split
  ·exact stripGo_asc r true (out++[c]) none h1.2 hc (fun u_ e=>nomatch e)
  ·split
   ·exact stripGo_asc r false out (some [c]) h1.2 h2 (fun q' e=>by (replace e:=(Option.some.inj e).symm;subst e);rw [asc_cons,h1.1];rfl)
   ·exact stripGo_asc r false (out++[c]) none h1.2 hc (fun u_ e=>nomatch e)
 | c::r,false,out,some q,h1,h2,h3=>by
  rw [asc_cons,Bool.and_eq_true] at h1
  have hc:asc (q++[c])=true:=by rw [asc_app,h3 q rfl,asc_cons,h1.1];rfl
  rw [stripGo]
  split
  ·exact stripGo_asc r true out (some (q++[c])) h1.2 h2 (fun q' e=>by (replace e:=(Option.some.inj e).symm;subst e);exact hc)
  ·split
   ·exact stripGo_asc r false out none h1.2 h2 (fun u_ e=>nomatch e)
   ·exact stripGo_asc r false out (some (q++[c])) h1.2 h2 (fun q' e=>by (replace e:=(Option.some.inj e).symm;subst e);exact hc)
theorem lay_S {l:List Nat} (h:asc l=true):(S l).canLay0=true:=by
 show ((⟨⟨l⟩⟩:Str).cps.all (· < 0x110000))=true
 rw [Array.all_eq_true]
 intro i hi
 have hm:l[i]'hi∈l:=List.getElem_mem _
 have:=List.all_eq_true.mp h _ hm
 have h2:l[i]'hi < 128:=by simpa [Nat.blt_eq] using this
 show decide (l[i]'hi < 0x110000)=true
 exact decide_eq_true (by lia)
theorem flat_list {xs:List PyData} (h:∀ x∈xs,x.canLay0=true/\x.depth<=1):PyData.canLayAll0 xs=true/\PyData.depthAll xs<=1:=by
 induction xs with
 | nil=>exact ⟨rfl,Nat.zero_le _⟩
 | cons x xs ih =>
  obtain ⟨h1,h2⟩:=ih fun y m=>h y (List.mem_cons_of_mem _ m)
  obtain ⟨h3,h4⟩:=h x List.mem_cons_self
  refine ⟨by rw [PyData.canLayAll0,h3,h1];rfl,?_⟩
  rw [PyData.depthAll];lia
theorem okD_flat {xs:List PyData} (h:∀ x∈xs,x.canLay0=true/\x.depth<=1):okD (.list xs)=true:=by
 obtain ⟨h1,h2⟩:=flat_list h
 unfold okD
 rw [show (PyData.list xs).canLay0=PyData.canLayAll0 xs from rfl,h1,show (PyData.list xs).depth=PyData.depthAll xs+1 from rfl]
 simp;lia
theorem okD_strs {ls:List (List Nat)} (h:∀ l∈ls,asc l=true):okD (.list (ls.map S))=true:=by
 refine okD_flat fun x m=>?_
 (refine e1a2 (List.mem_map.mp m) ?_;rintro l hl rfl)
 exact ⟨lay_S (h l hl),Nat.zero_le _⟩
theorem okD_ints (is:List Int):okD (.list (is.map PyData.int))=true:=by
 refine okD_flat fun x m=>?_
 (refine e1a2 (List.mem_map.mp m) ?_;rintro l hl rfl)
 exact ⟨rfl,Nat.zero_le _⟩
noncomputable abbrev NV:=List Nat × List Nat
theorem compLoop_filter {tests:AE->Option Bool} {elt:AE->Option PyData} {bindv:PyData->Option AE} {p:PyData->Bool} {f:PyData->PyData} {Ed:PyData->AE}:∀ ds:List PyData,
  (∀ d∈ds,bindv d=some (Ed d)/\tests (Ed d)=some (p d)/\elt (Ed d)=some (f d))->compLoop tests elt bindv ds=some ((ds.filter p).map f)
 | [],_=>rfl
 | d::ds,h=>by
  (refine e0a3 (h d List.mem_cons_self) ?_;rintro h1 h2 h3)
  have ih:=compLoop_filter (p:=p) (f:=f) (Ed:=Ed) ds fun x m=>h x (List.mem_cons_of_mem _ m)
  rw [compLoop,h1,Option.bind_some,h2,Option.bind_some]
  cases hp:p d with
  | false=>simp only [ih];rw [List.filter_cons,hp];rfl
  | true=>simp only [h3,ih,Option.bind_some];rw [List.filter_cons,hp];rfl
theorem rngL_map:∀ (n:Nat) (a:Int),rngL a 1 n=(List.range n).map fun i:Nat=>PyData.int (a+i)
 | 0,a=>rfl
 | n+1,a=>by
  rw [rngL,rngL_map n,List.range_succ_eq_map,List.map_cons,List.map_map]
  congr 1
  ·simp
  ·refine List.map_congr_left fun i u_=>?_
   show PyData.int _=PyData.int _
   congr 1
   show a+1+(i:Int)=a+((i+1:Nat):Int)
   lia
theorem rngL_0 (n:Nat):rngL 0 1 n=((List.range n).map fun i:Nat=>(i:Int)).map PyData.int:=by
 rw [rngL_map,List.map_map]
 refine List.map_congr_left fun i u_=>?_
 show PyData.int (0+(i:Int))=PyData.int (i:Int)
 rw [Int.zero_add]
@[simp] theorem oN_b {β:Type} {k e:Option β} {i:Bool}:oN (.bool i) k e=e:=rfl
theorem idx_ev {xs:List PyData} {i:Nat} (h:i < xs.length) (hl:xs.length<=lim):evIdx (.list xs) (.int i)=some xs[i]:=by
 dsimp only [evIdx_q_list_int]
 unfold place
 rw [if_pos hl,if_pos (by lia),if_pos (by lia),Option.bind_some]
 show xs[(i:Int).toNat]?=_
 rw [Int.toNat_natCast,List.getElem?_eq_getElem h]
section
variable {G:Nat->Option Int} {T:Nat->List PV->Option PyData} {W:Nat}
end
theorem every_map {α β:Type} (f:α->β) (st:Nat):∀ (k:Nat) (l:List α),every st k (l.map f)=(every st k l).map f
 | _,[]=>by simp [every]
 | 0,x::r=>by simp [every,every_map f st (st - 1) r]
 | k+1,_::r=>by simp [every,every_map f st k r]
theorem sumI_intsP:∀ l:List Int,∃ k,sumI (l.map PyData.int)=some k
 | []=>⟨0,rfl⟩
 | i::l=>by
  (refine e1a1 (sumI_intsP l) ?_;rintro k h)
  exact ⟨i+k,by rw [List.map_cons,sumI,h];rfl⟩
section
variable {G:Nat->Option Int} {T:Nat->List PV->Option PyData} {W:Nat}
theorem elt_ev {E:AE} {ms:List Int} (hm:ms.length<=lim) (h44:E 44=some (.dat (.list (ms.map PyData.int)))) {i:Nat} {b:Int} (h30:E 30=some (.dat (.int i))) (h46:E 46=some (.dat (.int b))) :
  ∃ x:Nat,ev G T (.bin .mod (.bin .add (.var 46) (.p1 .sum (.slc (.var 44) (.var 30) .none (.int 4)))) (.bin .pow (.int 10) (.int 6))) E=some (.int x):=by
 have hs:evSlc (.list (ms.map PyData.int)) (.int i) .none (.int 4)=some (.list ((every 4 0 (ms.drop (min i ms.length))).map PyData.int)):=by
  simp only [evSlc_q_list_none_int,List.length_map]
  rw [if_pos ⟨hm,by decide,by decide⟩,(bnd_nat i _).1,Option.bind_some,<-List.map_drop]
  show some (PyData.list (every 4 0 _))=_
  rw [every_map]
 (refine e1a1 (sumI_intsP (every 4 0 (ms.drop (min i ms.length)))) ?_;rintro k hk)
 refine ⟨((b+k) % 1000000).toNat,?_⟩
 simp only [ev_q_int,ev_q_none,ev_q_var,ev_q_bin,ev_q_slc,ev_q_p1,datOf,h46,h44,h30,Option.bind_some,hs,evP1_q_sum_list,hk,evBin_q_add_int_int,evBin_q_pow_int_int]
 rw [if_pos (by decide)]
 dsimp only [Option.bind_some,evBin_q_mod_int_int]
 rw [if_pos (by decide)]
 have:(0:Int)<=(b+k) % 1000000:=Int.emod_nonneg _ (by decide)
 show some (PyData.int ((b+k) % 1000000))=_
 rw [Int.toNat_of_nonneg this]
end
noncomputable def fnm1:Nat->Str
 | 0=>"_levenshtein_distance"
 | 1=>"_substitution_cost"
 | 2=>"_strip_quoted_realnames"
 | 3=>"_check_parenthesis"
 | 4=>"_law_around"
 | 5=>"_law_ends"
 | _=>"law"
noncomputable def rk1 (d:Nat):Nat->Nat
 | 0=>1
 | 1=>0
 | 2=>3
 | 3=>4
 | 4=>3+d
 | 5=>5
 | _=>9
section
variable {prog:Program} {w:World} {mg mb:Str->Option Value} {h0:Heap}
noncomputable def c1 (rk:Nat->Nat) (prog:Program) (w:World) (mg mb:Str->Option Value) (h0:Heap):Cfg:={ prog,w,mg,mb,G:=gTab,T:=fun u_ u_=>none,fnm:=fnm1,rk,HC:=217,h0,genAt:=fun u_ u_ u_=>False }
structure FnK (K:Frag) (rk:Nat->Nat) (n f:Nat) (ps:List Nat) (body:Sts) (a:Addr):Prop where
 ns:nsIn K mainGlobals (fnm1 f)=some (some (.ref a))
 chk:fnChk K false a ps (fun sc b=>chkSs fnm1 rk n sc body b)=true
 bind:∀ fd,fdAt K a=some fd->∀ vals:List Value,vals.length=ps.length->BindsTo fd ps vals
theorem fn_k {K:Frag} {rk:Nat->Nat} {n f:Nat} {ps:List Nat} {body:Sts} {a:Addr} (h:FnK K rk n f ps body a) (X:K.In h0) (g:h0.Ns mainGlobals mg):FnAt (c1 rk prog w mg mb h0) n f ps body:=fnAt_of X (ns_some_of X g h.ns) h.chk h.bind
structure FnsK (K:Frag):Prop where
 f0:FnK K (rk1 0) 1 0 lev_ps lev_fn 52
 f1:FnK K (rk1 0) 0 1 subst_ps subst_fn 45
 f2:FnK K (rk1 0) 3 2 strip_ps strip_fn 66
 f3:FnK K (rk1 0) 4 3 check_ps check_fn 73
 n4:nsIn K mainGlobals (fnm1 4)=some (some (.ref 228))
 c4:((List.range 5).all fun d=>fnChk K false 228 l4_around_ps (fun sc b=>chkSs fnm1 (rk1 d) (4+d) sc l4_around_fn b))=true
 b4:∀ fd,fdAt K 228=some fd->∀ vals:List Value,vals.length=l4_around_ps.length->BindsTo fd l4_around_ps vals
 f5:FnK K (rk1 5) 5 5 l4_ends_ps l4_ends_fn 235
 f6:FnK K (rk1 5) 9 6 l4_main_ps l4_main_fn 240
theorem FnsK.f4 {K:Frag} (F:FnsK K) {d:Nat} (h:d < 5):FnK K (rk1 d) (4+d) 4 l4_around_ps l4_around_fn 228:=⟨F.n4,List.all_eq_true.mp F.c4 d (List.mem_range.mpr h),F.b4⟩
end
theorem conv_of {c:Cfg} {K:Frag} (XK:K.In c.h0) {f p1 p2:Addr} (h:fnChk K false f [113,114,61] (fun sc b=>chkConv c.fnm c.rk sc b)=true) (hb:∀ a b v:Value,(fdAt K f).map (fun fd=>bindArgs fd ⟨[a,b],[(nm 61,v)]⟩)=some (pure (([113,114,61].map nm).zip [a,b,v])))
  (m1:c.mg "_name_disallowed_re"=some (.ref p1)) (q1:PatIn K p1 codeN=true) (m2:c.mg "_value_disallowed_re"=some (.ref p2)) (q2:PatIn K p2 codeV=true):ConvF c f:=by
 (refine e2a3 (fn_of XK h) ?_;rintro fd b e F0 hl)
 exact ⟨⟨fd,b,F0,fun a b v=>by have:=hb a b v;rw [e] at this;exact Option.some.inj this,hl⟩,⟨p1,m1,pat_of XK (.inl rfl) q1⟩,⟨p2,m2,pat_of XK (.inr rfl) q2⟩⟩
theorem get_of {c:Cfg} {K:Frag} (XK:K.In c.h0) {f:Addr} (h:fnChk K false f [113,61] (fun sc b=>chkGetAll c.fnm c.rk sc b)=true) (hb:∀ a b:Value,(fdAt K f).map (fun fd=>bindArgs fd ⟨[a,b],[]⟩)=some (pure (([113,61].map nm).zip [a,b]))):GetF c f:=by
 (refine e2a3 (fn_of XK h) ?_;rintro fd b e F0 hl)
 exact ⟨⟨fd,b,F0,fun a b=>by have:=hb a b;rw [e] at this;exact Option.some.inj this,hl⟩⟩
theorem add_of {c:Cfg} {K:Frag} (XK:K.In c.h0) {f:Addr} (h:fnChk K false f [113,119,120,121] (fun sc b=>chkAdd c.fnm c.rk sc b)=true)
  (hb:∀ a n v:Value,(fdAt K f).map (fun fd=>bindArgs fd ⟨[a,n,v],[]⟩)=some (alloc { cls:=.type "dict",data:=.dict #[] } >>= fun d=>pure (([113,119,120,121].map nm).zip [a,n,v,.ref d]))):AddF c f:=by
 (refine e2a3 (fn_of XK h) ?_;rintro fd b e F0 hl)
 exact ⟨⟨fd,b,F0,fun a n v=>by have:=hb a n v;rw [e] at this;exact Option.some.inj this,hl⟩⟩
noncomputable def kOf (fd:FuncData) (a:Value):{ k:Option (Array Value)->Sem (List (Str × Value)) // bindArgs fd ⟨[a],[]⟩=(seqItems? fd.defaults >>= k) }:=⟨_,rfl⟩
theorem init_of {c:Cfg} {K:Frag} (XK:K.In c.h0) {f T:Addr} {its:Array Value} {n:Nat} (h:fnChk K false f [113,122] (fun sc b=>chkInit c.fnm c.rk sc b)=true) (hd:(fdAt K f).map (·.defaults)=some (.ref T))
  (hT:(K.lookup T).map (·.data)=some (.seq its n)) (hk:∀ a:Value,(fdAt K f).map (fun fd=>(kOf fd a).1 (some its))=some (pure (([113,122].map nm).zip [a,.none]))):InitF c f:=by
 (refine e2a3 (fn_of XK h) ?_;rintro fd b e F0 hl)
 rw [e] at hd
 (refine e1a2 (Option.map_eq_some_iff.mp hT) ?_;rintro o ho hd2)
 exact ⟨⟨fd,b,F0,⟨T,o,its,n,Option.some.inj hd,XK _ _ ho,hd2,fun a=>⟨(kOf fd a).1,(kOf fd a).2,by have:=hk a;rw [e] at this;exact Option.some.inj this⟩⟩,hl⟩⟩
theorem hown_of {c:Cfg} {K:Frag} (h:∀ (cl:Value) (di:Option Addr) (sl:Array (Option Value)) hs t la n,findObj K c.HC (some ⟨cl,di,.dict #[⟨hs,.str "_headers" t,.ref la⟩] n,sl⟩) "_headers"=some (.value (.ref la))) :
  ∀ (od:Obj) hs t la n,od.data=.dict #[⟨hs,.str "_headers" t,.ref la⟩] n->findObj K c.HC (some od) "_headers"=some (.value (.ref la)):=by
 rintro hz_
 (refine by_goal fun G_ hG_=>?_;rcases hz_ with ⟨cl,di,da,sl⟩;all_goals (refine hG_ ?_;clear hG_ G_))
 rintro hs t la n hd
 have hd:da=_:=hd
 subst hd
 exact h cl di sl hs t la n
theorem bi_of {K:Frag} {h0:Heap} {mg mb:Str->Option Value} (XK:K.In h0) (g:h0.Ns mainGlobals mg) (hb:∀ x:Str,x≠"__name__"->mb x=bootBuiltins x) {x:String} {v:Value} (h1:nsIn K mainGlobals (Str.ofString x)=some none) (h2:bootBuiltins (Str.ofString x)=some v) (h3:Str.ofString x≠"__name__") :
  mg (Str.ofString x)=none/\mb (Str.ofString x)=some v:=⟨ns_none_of XK g h1,(hb _ h3).trans h2⟩
noncomputable def isN2 (x:Option (Option Value)):Bool:=match x with
 | some none=>true
 | _=>false
theorem isN2_eq {x:Option (Option Value)} (h:isN2 x=true):x=some none:=by
 match x,h with
 | some none,u_=>rfl
structure MetK (K:Frag) (name:Str) (f:Addr):Prop where
 find:findIn K (.ref 217) name=some (some (.ref f))
 typ:typeIn K (.ref f)=some (.type "function")
 keep:keepIn K (.ref f)=true
theorem MetK.at {K:Frag} {name:Str} {f:Addr} {c:Cfg} (h:MetK K name f) (hc:c.HC=217) (ne:(Str.ofString "_headers" == name)=false):MethK c K name f:=⟨hc ▸ h.find,h.typ,h.keep,ne⟩
structure LawK (K:Frag):Prop where
 fns:FnsK K
 g0:nsIn K mainGlobals (gnm 0)=some (some (.int 40 291))
 g1:nsIn K mainGlobals (gnm 1)=some (some (.int 2 293))
 g2:nsIn K mainGlobals (gnm 2)=some (some (.int 1 295))
 nn:(["len","sum","min","max","sorted","range","list","enumerate","type","int","str"].all fun x=>isN2 (nsIn K mainGlobals (Str.ofString x)))=true
 gns:nsIn K mainGlobals "_iter_escaped_chars"=some (some (.ref 59))
 gchk:∀ (rk:Nat->Nat) (prog:Program) (w:World) (mg mb:Str->Option Value) (h0:Heap),genChk (c1 rk prog w mg mb h0) K 59=true
 gb:∀ v:Value,(fdAt K 59).map (fun fd=>bindArgs fd ⟨[v],[]⟩)=some (pure [(nm 16,v)])
 ga:findIn K (.ref 217) "__getattribute__"=some (some (.builtin "object.__getattribute__"))
 gt:findIn K (.ref 217) "__getattr__"=some none
 own:∀ (cl:Value) (di:Option Addr) (sl:Array (Option Value)) hs t la n,findObj K 217 (some ⟨cl,di,.dict #[⟨hs,.str "_headers" t,.ref la⟩] n,sl⟩) "_headers"=some (.value (.ref la))
 mconv:MetK K "_convert_string_type" 118
 mget:MetK K "get_all" 156
 mkeys:MetK K "keys" 169
 madd:MetK K "add_header" 214
 conv:∀ rk:Nat->Nat,fnChk K false 118 [113,114,61] (fun sc b=>chkConv fnm1 rk sc b)=true
 convb:∀ a b v:Value,(fdAt K 118).map (fun fd=>bindArgs fd ⟨[a,b],[(nm 61,v)]⟩)=some (pure (([113,114,61].map nm).zip [a,b,v]))
 p1:nsIn K mainGlobals "_name_disallowed_re"=some (some (.ref 83))
 q1:PatIn K 83 codeN=true
 p2:nsIn K mainGlobals "_value_disallowed_re"=some (some (.ref 88))
 q2:PatIn K 88 codeV=true
 get:∀ rk:Nat->Nat,fnChk K false 156 [113,61] (fun sc b=>chkGetAll fnm1 rk sc b)=true
 getb:∀ a b:Value,(fdAt K 156).map (fun fd=>bindArgs fd ⟨[a,b],[]⟩)=some (pure (([113,61].map nm).zip [a,b]))
 keys:∀ rk:Nat->Nat,fnChk K false 169 [113] (fun sc b=>dcons b fun st r=>dnil r (dSReturn st fun o u_=>dsome o fun e=>chkX fnm1 rk 0 sc keysX e))=true
 keysb:∀ v:Value,(fdAt K 169).map (fun fd=>bindArgs fd ⟨[v],[]⟩)=some (pure (([113].map nm).zip [v]))
 add:∀ rk:Nat->Nat,fnChk K false 214 [113,119,120,121] (fun sc b=>chkAdd fnm1 rk sc b)=true
 addb:∀ a n v:Value,(fdAt K 214).map (fun fd=>bindArgs fd ⟨[a,n,v],[]⟩)=some (alloc { cls:=.type "dict",data:=.dict #[] } >>= fun d=>pure (([113,119,120,121].map nm).zip [a,n,v,.ref d]))
 makes:makesIn K 217=true
 minit:findIn K (.ref 217) "__init__"=some (some (.ref 111))
 tinit:typeIn K (.ref 111)=some (.type "function")
 init:∀ rk:Nat->Nat,fnChk K false 111 [113,122] (fun sc b=>chkInit fnm1 rk sc b)=true
 initd:(fdAt K 111).map (·.defaults)=some (.ref 104)
 initT:(K.lookup 104).map (·.data)=some (.seq #[.none] 0)
 initk:∀ a:Value,(fdAt K 111).map (fun fd=>(kOf fd a).1 (some #[.none]))=some (pure (([113,122].map nm).zip [a,.none]))
 over:plainOver K 217=true
 taker:takerIn K 217 "_headers"=some none
 hasd:(clsIn K 217).any (·.hasDict)=true
 seta:findIn K (.ref 217) "__setattr__"=some (some (.builtin "object.__setattr__"))
 name:nsIn K mainGlobals "Headers"=some (some (.ref 217))
 keep:keepIn K (.ref 217)=true
section
variable {K:Frag} {rk:Nat->Nat} {prog:Program} {w:World} {mg mb:Str->Option Value} {h0:Heap} (H:LawK K) (X:K.In h0) (g:h0.Ns mainGlobals mg) (hb:∀ x:Str,x≠"__name__"->mb x=bootBuiltins x)
include H X g hb
theorem cfg1 (T):CfgOK ((c1 rk prog w mg mb h0).withT T) where
 genStp:=fun u_ u_ u_ u_ u_ h=>h
 glo:=fun i v h=>by
  match i,h with
  | 0,h=>(replace h:=(Option.some.inj h).symm;subst h);exact ⟨291,ns_some_of X g H.g0⟩
  | 1,h=>(replace h:=(Option.some.inj h).symm;subst h);exact ⟨293,ns_some_of X g H.g1⟩
  | 2,h=>(replace h:=(Option.some.inj h).symm;subst h);exact ⟨295,ns_some_of X g H.g2⟩
 bi:=fun x hx=>by
  have q:=isN2_eq (List.all_eq_true.mp H.nn x (List.mem_append_left (["range","list","enumerate","type","int","str"]:List String) hx))
  simp only [List.mem_cons,List.not_mem_nil,or_false] at hx
  rcases hx with rfl | rfl | rfl | rfl | rfl
  all_goals exact bi_of X g hb q (by kernel_rfl) (by decide +kernel)
 ty:=fun x hx=>by
  have q:=isN2_eq (List.all_eq_true.mp H.nn x (List.mem_append_right (["len","sum","min","max","sorted"]:List String) hx))
  simp only [List.mem_cons,List.not_mem_nil,or_false] at hx
  rcases hx with rfl | rfl | rfl | rfl | rfl | rfl
  all_goals exact bi_of X g hb q (by kernel_rfl) (by decide +kernel)
theorem gen1 (T):GenCt ((c1 rk prog w mg mb h0).withT T):=genFn_of X (a:=59) (ns_some_of X g H.gns) (H.gchk rk prog w mg mb h0) H.gb
theorem hk1 (T):HK ((c1 rk prog w mg mb h0).withT T) K:=⟨X,H.ga,H.gt,hown_of H.own⟩
theorem meths1 (T):Meths ((c1 rk prog w mg mb h0).withT T) K where
 hk:=hk1 H X g hb T
 conv:=⟨118,H.mconv.at rfl (by decide +kernel),conv_of X (p1:=83) (p2:=88) (H.conv rk) H.convb (ns_some_of X g H.p1) H.q1 (ns_some_of X g H.p2) H.q2⟩
 get:=⟨156,H.mget.at rfl (by decide +kernel),get_of X (H.get rk) H.getb⟩
 keys:=⟨169,H.mkeys.at rfl (by decide +kernel),simple_of X (H.keys rk) H.keysb⟩
theorem add1 (T):∃ fa,MethK ((c1 rk prog w mg mb h0).withT T) K "add_header" fa/\AddF ((c1 rk prog w mg mb h0).withT T) fa :=
 ⟨214,H.madd.at rfl (by decide +kernel),add_of X (H.add rk) H.addb⟩
theorem made1 (T):MadeK ((c1 rk prog w mg mb h0).withT T) K where
 makes:=H.makes
 init:=⟨111,H.minit,H.tinit,init_of X (T:=104) (its:=#[.none]) (n:=0) (H.init rk) H.initd H.initT H.initk⟩
 over:=H.over
 taker:=H.taker
 hasd:=H.hasd
 seta:=H.seta
 name:=ns_some_of X g H.name
 keep:=H.keep
theorem law1:LawOK (c1 rk prog w mg mb h0) K:=⟨cfg1 H X g hb,gen1 H X g hb,meths1 H X g hb,add1 H X g hb,made1 H X g hb⟩
end
noncomputable def T1a:Nat->List PV->Option PyData:=extT (fun u_ u_=>none) 1 (runFn gTab (fun u_ u_=>none) 100 subst_ps subst_fn)
noncomputable def T1b:Nat->List PV->Option PyData:=extT T1a 0 (runFn gTab T1a 100 lev_ps lev_fn)
noncomputable def T1c:Nat->List PV->Option PyData:=extT T1b 2 (runFn gTab T1b 100 strip_ps strip_fn)
noncomputable def T1d:Nat->List PV->Option PyData:=extT T1c 3 (runFn gTab T1c 100 check_ps check_fn)
noncomputable def T1e:Nat->Nat->List PV->Option PyData
 | 0=>T1d
 | d+1=>extT (T1e d) 4 (runFn gTab (T1e d) 100 l4_around_ps l4_around_fn)
noncomputable def T1f:Nat->List PV->Option PyData:=extT (T1e 5) 5 (runFn gTab (T1e 5) 100 l4_ends_ps l4_ends_fn)
section
variable {K:Frag} {prog:Program} {w:World} {mg mb:Str->Option Value} {h0:Heap} (H:LawK K) (X:K.In h0) (g:h0.Ns mainGlobals mg) (hb:∀ x:Str,x≠"__name__"->mb x=bootBuiltins x)
include H X g hb
theorem known_ext' {T:Nat->List PV->Option PyData} {rk rk':Nat->Nat} {f:Nat} (hrk:∀ g,g≠f->rk g<=rk' g) (hT:Known (c1 rk prog w mg mb h0) T) {ps:List Nat} {body:Sts} {a:Addr} (F:FnK K rk (rk' f) f ps body a) (hf:fSs body=true) (hok:(okSs (List.replicate 130 0) body).isSome=true) :
  Known (c1 rk' prog w mg mb h0) (extT T f (runFn gTab T 100 ps body)):=by
 (refine e1a1 (Option.isSome_iff_exists.mp hok) ?_;rintro M' e)
 exact known_ext (c:=c1 rk prog w mg mb h0) (rk':=rk') hrk (fun h1 k=>law1 (h0:=h1) H (fun a o e=>k a o (X a o e)) (g.keeps k) hb) hT (fn_k F X g) hf e
theorem known4:∀ d,d<=5->Known (c1 (rk1 d) prog w mg mb h0) (T1e d)
 | 0,_=>by
  have k1:=known_ext' H X g hb (f:=1) (fun _ _=>Nat.le_refl _) (known_nil (c:=c1 (rk1 0) prog w mg mb h0)) H.fns.f1 (by decide +kernel) (by decide +kernel)
  have k2:=known_ext' H X g hb (f:=0) (fun _ _=>Nat.le_refl _) k1 H.fns.f0 (by decide +kernel) (by decide +kernel)
  have k3:=known_ext' H X g hb (f:=2) (fun _ _=>Nat.le_refl _) k2 H.fns.f2 (by decide +kernel) (by decide +kernel)
  exact known_ext' H X g hb (f:=3) (fun _ _=>Nat.le_refl _) k3 H.fns.f3 (by decide +kernel) (by decide +kernel)
 | d+1,h=>known_ext' H X g hb (f:=4) (rk':=rk1 (d+1)) (fun g hg=>by
   unfold rk1
   split <;> first | exact Nat.le_refl _ | exact absurd rfl hg) (known4 d (Nat.le_of_succ_le h)) (show FnK K (rk1 d) (3+(d+1)) 4 _ _ _ from (by rw [show 3+(d+1)=4+d from by lia];exact H.fns.f4 h)) (by decide +kernel) (by decide +kernel)
theorem known1:Known (c1 (rk1 5) prog w mg mb h0) T1f:=known_ext' H X g hb (f:=5) (fun _ _=>Nat.le_refl _) (known4 H X g hb 5 (Nat.le_refl _)) H.fns.f5 (by decide +kernel) (by decide +kernel)
end
theorem well_ints {P:Params} {h:Heap} {Bad:Addr->Prop}:∀ {ns:List Int} {vs:List Value},WellAll P h vs (ofPys (ns.map PyData.int))->All2 (Rd0 Bad h) vs (ns.map PyData.int)
 | [],vs,w=>by
  cases w
  exact .nil
 | n::ns,vs,w=>by
  cases w with
  | cons w1 w2 =>
   cases w1
   exact .cons .mkInt (well_ints w2)
theorem well_list {P:Params} {h:Heap} {v:Value} {ns:List Int} (w:Well P h v (ofPy (.list (ns.map PyData.int)))):Rd0 (fun u_=>False) h v (.list (ns.map PyData.int)):=by
 generalize hz:ofPy (.list (ns.map PyData.int))=d at w
 cases w with
 | list ho hw =>
  have hz:WData.list (ofPys (ns.map PyData.int))=.list _:=hz
  cases hz
  exact RdG.list ⟨_,ho⟩ (by simpa using well_ints hw) (fun q=>q)
 | _=>cases hz
theorem run_k {K:Frag} {prog:Program} {w:World} {mg mb:Str->Option Value} {h0:Heap} (H:LawK K) (X:K.In h0) (g:h0.Ns mainGlobals mg) (hb:∀ x:Str,x≠"__name__"->mb x=bootBuiltins x)
  {A:Around} {s:Shared} {fa:Addr} {vals:List Value} {ds:List PyData} {d:PyData} {R:Result->Shared->Prop} (hfa:mg (fnm1 6)=some (.ref fa)) (hr:Room 10 A) (B:Base (c1 (rk1 5) prog w mg mb h0) s.heap)
  (hargs:All2 (Rd0 (fun u_=>False) s.heap) vals ds) (hrun:runFn gTab T1f 100 l4_main_ps l4_main_fn (ds.map .dat)=some d) (hR:∀ v s',Stp s s'->Rd0 (fun u_=>False) s'.heap v d->R (.ok (.ret v)) s') :
  codeAny (model prog w) A (.call (.ref fa) ⟨vals,[]⟩) R s:=by
 (refine e1a1 (Option.isSome_iff_exists.mp (show (okSs (List.replicate 130 0) l4_main_fn).isSome=true by decide +kernel)) ?_;rintro M' e)
 exact law_run (c:=c1 (rk1 5) prog w mg mb h0) (n:=9) (law1 H X g hb) (known1 H X g hb) (fn_k H.fns.f6 X g) (by decide +kernel) e hfa hr B hargs hrun hR
noncomputable def bitN (v p:Nat):Bool:=v / 2 ^ p % 2 == 1
noncomputable def hamN (m v w:Nat):Nat:=((List.range m).filter fun p=>bitN v p != bitN w p).length
theorem dat_same {E:AE} {i:Nat} {d:PyData}:datOf (E.set i (.dat d)) i=some d:=by
 unfold datOf;rw [set_same]
theorem dat_other {E:AE} {i j:Nat} {x:PV} (h:j≠i):datOf (E.set i x) j=datOf E j:=by
 unfold datOf;rw [set_other h]
theorem idx_map {m p:Nat} {f:Nat->PyData} (h:p < m) (hm:m<=1000):evIdx (.list ((List.range m).map f)) (.int p)=some (f p):=by
 rw [idx_ev (by rw [List.length_map,List.length_range];exact h) (by rw [List.length_map,List.length_range];show m<=1000000;lia),List.getElem_map,List.getElem_range]
theorem idx_list {xs:List PyData} {i:Nat} {x:PyData} (h:xs[i]?=some x) (hl:xs.length<=1000):evIdx (.list xs) (.int i)=some x:=by
 have hi:=(List.getElem?_eq_some_iff.mp h).1
 rw [idx_ev hi (by show _<=1000000;lia)]
 exact h ▸ (List.getElem?_eq_getElem hi).symm
section
variable {G:Nat->Option Int} {T:Nat->List PV->Option PyData} {W:Nat}
theorem rng_ev {E:AE} {x:X} {m:Nat} (hx:ev G T x E=some (.int m)) (hm:m<=1000):evIt G T (.rng1 x) E=some ((List.range m).map fun p:Nat=>.int p):=by
 (dsimp only [evIt_q_rng1];rw [hx])
 dsimp only [Option.bind_some,intOf_q_int]
 rw [if_pos (by lia),Int.toNat_natCast,rngL_0,List.map_map]
 rfl
theorem comp_all {E:AE} {elt:X} {i:Nat} {it:It} {ds:List PyData} {f:PyData->PyData} (hit:evIt G T it E=some ds) (h:∀ d∈ds,ev G T elt (E.set i (.dat d))=some (f d)):ev G T (.comp elt (.name i) it .nil) E=some (.list (ds.map f)):=by
 (dsimp only [ev_q_comp];rw [hit,Option.bind_some,compLoop_filter (tests:=fun E'=>evTests G T .nil E') (elt:=fun E'=>ev G T elt E') (bindv:=fun d=>bindT (.name i) d E) (p:=fun u_=>true) (f:=f) (Ed:=fun d=>E.set i (.dat d)) ds fun d m=>⟨rfl,rfl,h d m⟩,Option.bind_some,List.filter_eq_self.mpr (fun u_ u_=>rfl)])
theorem comp_rng {E:AE} {elt x:X} {i m:Nat} {f:Nat->PyData} (hx:ev G T x E=some (.int m)) (hm:m<=1000) (h:∀ p,p < m->ev G T elt (E.set i (.dat (.int p)))=some (f p)):ev G T (.comp elt (.name i) (.rng1 x) .nil) E=some (.list ((List.range m).map f)):=by
 rw [comp_all (f:=fun d=>match d with | .int z=>f z.toNat | _=>.none) (rng_ev hx hm) fun d hd=>?_]
 ·rw [List.map_map];rfl
 ·(refine e1a2 (List.mem_map.mp hd) ?_;rintro p hp rfl)
  exact h p (List.mem_range.mp hp)
end
section
variable {G:Nat->Option Int} {T:Nat->List PV->Option PyData} {W:Nat}
end
section
variable {G:Nat->Option Int} {T:Nat->List PV->Option PyData} {W:Nat}
end
section
variable (R D:Nat->Nat)
end
section
variable {R D:Nat->Nat}
end
noncomputable def intsD (is:List Nat):PyData:=.list (is.map fun p:Nat=>.int p)
section
variable {G:Nat->Option Int} {T:Nat->List PV->Option PyData} {W:Nat} {R D:Nat->Nat}
set_option tactic.hygienic true in
theorem dat_of3 {E:AE} {i:Nat} {d:PyData} (h:datOf E i=some d):E i=some (.dat d):=by
 unfold datOf at h
 split at h
 ·rename_i e;(replace h:=(Option.some.inj h).symm;subst h);exact e
 ·exact nso h
theorem it_ints {E:AE} {i:Nat} {is:List Nat} (h:datOf E i=some (intsD is)) (hl:is.length<=1000):evIt G T (.val (.var i)) E=some (is.map fun p:Nat=>.int p):=by
 (dsimp only [evIt_q_val,ev_q_var];rw [h,Option.bind_some])
 unfold intsD
 (dsimp only [items_q_list];rw [List.length_map,if_pos (by show _<=1000000;lia)])
theorem join_ev {E:AE} {sep:List Nat} {x:X} {ls:List (List Nat)} (h:ev G T x E=some (.list (ls.map S))) (h1:(joinL sep ls).length<=100000) (h2:ls.length<=100000) (h3:sep.length<=10):ev G T (.p2 .join (.str sep) x) E=some (S (joinL sep ls)):=by
 (dsimp only [ev_q_p2,ev_q_str];rw [h])
 simp only [Option.bind_some,evP2_q_join_str_list,strL_S,List.length_map]
 rw [if_pos ⟨by show _<=1000000;lia,by show _<=1000000;lia,by show sep.length<=1000000;lia⟩]
end
section
variable {G:Nat->Option Int} {T:Nat->List PV->Option PyData} {W:Nat} {R D:Nat->Nat}
end
section
variable {G:Nat->Option Int} {T:Nat->List PV->Option PyData} {W:Nat} {R D:Nat->Nat}
theorem same_ne {d:List PyData} (h:okD (.list d)=true):evCmp .ne (.list d) (.list d)=some false:=by
 show ((if okD (.list d)=true/\okD (.list d)=true then some (PyData.eqv (.list d) (.list d)) else none).bind fun b=>some (!b))=_
 rw [if_pos ⟨h,h⟩,PySem.SeqAt.eqv_refl]
 ·rfl
 ·unfold okD at h;rw [Bool.and_eq_true] at h;exact h.1
end
section
variable {G:Nat->Option Int} {T:Nat->List PV->Option PyData} {W:Nat} {R:Nat->Nat}
end
section
variable {G:Nat->Option Int} {T:Nat->List PV->Option PyData} {W:Nat}
noncomputable def Ends (G:Nat->Option Int) (T:Nat->List PV->Option PyData) (W:Nat) (xs:Sts) (E:AE):Prop:=∃ E',exs G T W xs E=some (E',some (.bool true))
theorem next_st {x:St} {xs:Sts} {E E1:AE} (h:ex G T W x E=some (E1,none)) (h2:Ends G T W xs E1):Ends G T W (.cons x xs) E:=by
 (refine e1a1 h2 ?_;rintro E' h2)
 exact ⟨E',exs_next h h2⟩
theorem next_asg {i:Nat} {e:X} {xs:Sts} {E:AE} {d:PyData} (h:ev G T e E=some d) (h2:∀ E1,E1=E.set i (.dat d)->Ends G T W xs E1):Ends G T W (.cons (.asg 0 i e) xs) E :=
 next_st (E1:=E.set i (.dat d)) (by rw [ex_q_asg,h];rfl) (h2 _ rfl)
theorem dat_set {i j:Nat} {E E1:AE} {d:PyData} (h:E1=E.set i (.dat d)) (hj:j≠i):datOf E1 j=datOf E j:=by rw [h];exact dat_other hj
theorem dat_set' {i:Nat} {E E1:AE} {d:PyData} (h:E1=E.set i (.dat d)):datOf E1 i=some d:=by rw [h];exact dat_same
theorem get_D {l:List Nat} {i:Nat} (h:i < l.length):l[i]?=some (l.getD i 0):=by rw [List.getD_eq_getElem?_getD,List.getElem?_eq_getElem h];rfl
end
noncomputable def menu4:List (List Nat):=[[],[34,41,34],[92,40],[92,92],[34,92,34,40,34]]
theorem menu_cases {P:List Nat->Prop} (h0:P []) (h1:P [34,41,34]) (h2:P [92,40]) (h3:P [92,92]) (h4:P [34,92,34,40,34]) {u:List Nat} (h:u∈menu4):P u:=by
 unfold menu4 at h
 simp only [List.mem_cons,List.not_mem_nil,or_false] at h
 rcases h with rfl | rfl | rfl | rfl | rfl
 ·exact h0
 ·exact h1
 ·exact h2
 ·exact h3
 ·exact h4
theorem menu_facts {u:List Nat} (h:u∈menu4):asc u=true/\u.length<=5/\u≠[40]/\u≠[41] :=
 menu_cases (P:=fun u=>asc u=true/\u.length<=5/\u≠[40]/\u≠[41]) (by decide) (by decide) (by decide) (by decide) (by decide) h
noncomputable def UnitOK (u:List Nat):Prop:=u∈menu4\/u=[40]\/u=[41]
noncomputable def stepU (u:List Nat) (n:Nat) (k:Nat->Bool):Bool:=if u=[40] then k (n+1) else if u=[41] then (if n=0 then false else k (n - 1)) else k n
noncomputable def balU:List (List Nat)->Nat->Bool
 | [],n=>n == 0
 | u::us,n=>stepU u n (balU us)
theorem unit_go {u:List Nat} (h:UnitOK u):∃ q:List Nat,(∀ r out,stripGo (u++r) false out none=stripGo r false (out++q) none)/\∀ r n,chkGo (q++r) false n=stepU u n (chkGo r false):=by
 rcases h with h | rfl | rfl
 ·refine menu_cases (P:=fun u=>∃ q:List Nat,(∀ r out,stripGo (u++r) false out none=stripGo r false (out++q) none)/\∀ r n,chkGo (q++r) false n=stepU u n (chkGo r false)) ?_ ?_ ?_ ?_ ?_ h
  ·exact ⟨[],fun r out=>by rw [List.append_nil];rfl,fun r n=>rfl⟩
  ·exact ⟨[],fun r out=>by rw [List.append_nil];rfl,fun r n=>rfl⟩
  ·exact ⟨[92,40],fun r out=>by show stripGo r false ((out++[92])++[40]) none=_;rw [List.append_assoc];rfl,fun r n=>rfl⟩
  ·exact ⟨[92,92],fun r out=>by show stripGo r false ((out++[92])++[92]) none=_;rw [List.append_assoc];rfl,fun r n=>rfl⟩
  ·exact ⟨[],fun r out=>by rw [List.append_nil];rfl,fun r n=>rfl⟩
 ·exact ⟨[40],fun r out=>rfl,fun r n=>rfl⟩
 ·exact ⟨[41],fun r out=>rfl,fun r n=>rfl⟩
theorem units_go:∀ us:List (List Nat),(∀ u∈us,UnitOK u)->∃ q:List Nat,(∀ r out,stripGo (us.flatten++r) false out none=stripGo r false (out++q) none)/\∀ n,chkGo q false n=balU us n
 | [],_=>⟨[],fun r out=>by rw [List.append_nil];rfl,fun n=>rfl⟩
 | u::us,h=>by
  (refine e1a2 (unit_go (h u List.mem_cons_self)) ?_;rintro q h1 h2)
  (refine e1a2 (units_go us fun v m=>h v (List.mem_cons_of_mem _ m)) ?_;rintro q' h3 h4)
  refine ⟨q++q',fun r out=>?_,fun n=>?_⟩
  ·rw [List.flatten_cons,List.append_assoc,h1,h3,List.append_assoc]
  ·rw [h2,balU,funext h4]
theorem chk_units {us:List (List Nat)} (h:∀ u∈us,UnitOK u):chkGo (stripS us.flatten) false 0=balU us 0:=by
 (refine e1a2 (units_go us h) ?_;rintro q h1 h2)
 rw [<-h2 0,show stripS us.flatten=q by
  have:=h1 [] []
  rw [List.append_nil] at this
  exact this]
noncomputable abbrev Tok:=Option Nat
noncomputable def tkU (pc:Nat->List Nat):Tok->List (List Nat)
 | some t=>[[40],pc t]
 | none=>[[41]]
noncomputable def tkT (pc:Nat->List Nat) (o:Tok):List Nat:=(tkU pc o).flatten
noncomputable def txT (pc:Nat->List Nat) (ts:List Tok):List Nat:=(ts.flatMap (tkU pc)).flatten
noncomputable def balT:List Tok->Nat->Bool
 | [],n=>n == 0
 | some _::r,n=>balT r (n+1)
 | none::r,n=>if n=0 then false else balT r (n - 1)
section
variable {pc:Nat->List Nat}
theorem tx_cons (o:Tok) (ts:List Tok):txT pc (o::ts)=tkT pc o++txT pc ts:=by
 unfold txT tkT
 rw [List.flatMap_cons,List.flatten_append]
theorem tx_app (ts us:List Tok):txT pc (ts++us)=txT pc ts++txT pc us:=by
 unfold txT
 rw [List.flatMap_append,List.flatten_append]
end
section
variable {pc:Nat->List Nat} (hpc:∀ t,pc t∈menu4)
include hpc
theorem units_ok (ts:List Tok):∀ u∈ts.flatMap (tkU pc),UnitOK u:=by
 intro u hu
 (refine e1a2 (List.mem_flatMap.mp hu) ?_;rintro o ho hu)
 cases o with
 | some t =>
  unfold tkU at hu
  simp only [List.mem_cons,List.not_mem_nil,or_false] at hu
  rcases hu with rfl | rfl
  ·exact .inr (.inl rfl)
  ·exact .inl (hpc t)
 | none=>exact .inr (.inr (List.mem_singleton.mp hu))
theorem bal_tok:∀ (ts:List Tok) (n:Nat),balU (ts.flatMap (tkU pc)) n=balT ts n
 | [],n=>rfl
 | some t::ts,n=>by
  have f:=menu_facts (hpc t)
  show balU ([40]::pc t::ts.flatMap (tkU pc)) n=balT ts (n+1)
  rw [balU,stepU,if_pos rfl,balU,stepU,if_neg f.2.2.1,if_neg f.2.2.2]
  exact bal_tok ts (n+1)
 | none::ts,n=>by
  show balU ([41]::ts.flatMap (tkU pc)) n=_
  rw [balU,stepU,if_neg (by decide),if_pos rfl,balT]
  rw [bal_tok ts (n - 1)]
theorem chk_tx (ts:List Tok):chkGo (stripS (txT pc ts)) false 0=balT ts 0:=by
 unfold txT
 rw [chk_units (units_ok hpc ts),bal_tok hpc]
theorem tk_facts (o:Tok):asc (tkT pc o)=true/\(tkT pc o).length<=6/\1<=(tkT pc o).length:=by
 cases o with
 | some t =>
  have f:=menu_facts (hpc t)
  have e:tkT pc (some t)=40::pc t:=by
   show [40]++(pc t++[])=_
   rw [List.append_nil];rfl
  rw [e,asc_cons,f.1]
  refine ⟨rfl,?_,?_⟩
  ·rw [List.length_cons];exact Nat.succ_le_succ f.2.1
  ·rw [List.length_cons];exact Nat.succ_le_succ (Nat.zero_le _)
 | none=>exact ⟨rfl,(by decide:(1:Nat)<=6),(by decide:(1:Nat)<=1)⟩
theorem tx_facts:∀ ts:List Tok,asc (txT pc ts)=true/\(txT pc ts).length<=6 * ts.length
 | []=>⟨rfl,Nat.le_refl _⟩
 | o::ts=>by
  have f:=tk_facts hpc o
  have g:=tx_facts ts
  rw [tx_cons,asc_app,f.1,g.1,List.length_append,List.length_cons]
  exact ⟨rfl,by lia⟩
end
noncomputable def pos (pc:Nat->List Nat) (ts:List Tok) (k:Nat):Nat:=(txT pc (ts.take k)).length
section
variable {pc:Nat->List Nat} (hpc:∀ t,pc t∈menu4)
include hpc
theorem pos_step {ts:List Tok} {k:Nat} {o:Tok} (h:ts[k]?=some o):txT pc (ts.take (k+1))=txT pc (ts.take k)++tkT pc o:=by
 have hk:=(List.getElem?_eq_some_iff.mp h).1
 rw [List.take_succ_eq_append_getElem hk,tx_app,(List.getElem?_eq_some_iff.mp h).2,tx_cons]
 show _++(_++[])=_
 rw [List.append_nil]
theorem pos_lt {ts:List Tok} {a:Nat}:∀ {b:Nat},a < b->b<=ts.length->pos pc ts a < pos pc ts b
 | 0,h,_=>absurd h (Nat.not_lt_zero _)
 | b+1,h,hb=>by
  have h1:pos pc ts (b+1)=pos pc ts b+(tkT pc ts[b]).length:=by
   unfold pos
   rw [pos_step hpc (List.getElem?_eq_getElem hb),List.length_append]
  have h2:=(tk_facts hpc ts[b]).2.2
  by_cases e:a=b
  ·rw [h1,e];lia
  ·have:=pos_lt (a:=a) (b:=b) (ts:=ts) (by lia) (by lia)
   rw [h1];lia
theorem pos_lt_iff {ts:List Tok} {a b:Nat} (ha:a<=ts.length) (hb:b<=ts.length):pos pc ts a < pos pc ts b ↔ a < b:=by
 refine ⟨fun h=>?_,fun h=>pos_lt hpc h hb⟩
 by_cases e:a < b
 ·exact e
 ·by_cases e2:a=b
  ·rw [e2] at h;exact absurd h (Nat.lt_irrefl _)
  ·have:=pos_lt hpc (ts:=ts) (a:=b) (b:=a) (by lia) ha
   lia
theorem seg_tx {ts:List Tok} {a b:Nat} (h:a<=b) (hb:b<=ts.length):cut (pos pc ts a) (pos pc ts b) (txT pc ts)=txT pc ((ts.take b).drop a):=by
 unfold cut pos
 have e1:txT pc ts=txT pc (ts.take b)++txT pc (ts.drop b):=by rw [<-tx_app,List.take_append_drop]
 have e2:txT pc (ts.take b)=txT pc (ts.take a)++txT pc ((ts.take b).drop a):=by
  rw [<-tx_app]
  congr 1
  have:=(List.take_append_drop a (ts.take b)).symm
  rw [List.take_take,Nat.min_eq_left h] at this
  exact this
 rw [e1,List.take_left,e2,List.drop_left]
end
theorem get_D' {l:List (List Nat)} {i:Nat} (h:i < l.length):l[i]?=some (l.getD i []):=by rw [List.getD_eq_getElem?_getD,List.getElem?_eq_getElem h];rfl
theorem lt5_p {P:Nat->Prop} (h0:P 0) (h1:P 1) (h2:P 2) (h3:P 3) (h4:P 4) {t:Nat} (h:t < 5):P t:=by
 rcases lt5 h with rfl | rfl | rfl | rfl | rfl
 ·exact h0
 ·exact h1
 ·exact h2
 ·exact h3
 ·exact h4
theorem for_foldl {α σ:Type} {body:AE->Option (AE × Option PyData)} {bindv:PyData->AE->Option AE} (I:σ->AE->Prop) (mk:α->PyData) (f:σ->α->σ):∀ (xs:List α) (s:σ) (E:AE),
  (∀ x∈xs,∀ s E,I s E->∃ E1 E2,bindv (mk x) E=some E1/\body E1=some (E2,none)/\I (f s x) E2)->I s E->∃ E',forLoop body bindv (xs.map mk) E=some (E',none)/\I (xs.foldl f s) E'
 | [],s,E,_,h=>⟨E,rfl,h⟩
 | x::xs,s,E,hs,h=>by
  (refine e2a3 (hs x List.mem_cons_self s E h) ?_;rintro E1 E2 h1 h2 h3)
  (refine e1a2 (for_foldl I mk f xs (f s x) E2 (fun y m=>hs y (List.mem_cons_of_mem _ m)) h3) ?_;rintro E' h4 h5)
  exact ⟨E',by rw [List.map_cons,forLoop,h1,Option.bind_some,h2,Option.bind_some];exact h4,h5⟩
noncomputable def idT:Tok->Int
 | some t=>t
 | none=>-1
noncomputable def rowT (pc:Nat->List Nat) (o:Tok):PyData:=.tuple [.int (idT o),S (tkT pc o)]
noncomputable def arL (f:Nat->Option (List Tok)) (a:Int):List Nat->List Tok->Option (List Tok)
 | [],acc=>if acc.length<=1000 then some (acc++[none]) else none
 | o::os,acc=>if (o:Int)=a then arL f a os acc else (f o).bind fun r=>if acc.length+r.length<=1000 then arL f a os (acc++r) else none
noncomputable def arF (g:Nat->List Nat):Nat->Nat->Int->Option (List Tok)
 | 0,_,_=>none
 | d+1,t,a=>if t < 5 then arL (fun o=>arF g d o t) a (g t) [some t] else none
noncomputable def pcsD (pcs:List (List Nat)):PyData:=.list (pcs.map S)
noncomputable abbrev pcF (pcs:List (List Nat)):Nat->List Nat:=fun t=>pcs.getD t []
structure GTab (tk:List NV) (g:Nat->List Nat):Prop where
 cl:cleanH tk=true
 get:∀ t,t < 5->getAll [65+t] tk=(g t).map fun o=>[97+o]
 lt:∀ t,t < 5->∀ o∈g t,o < 5
 len:∀ t,t < 5->(g t).length<=1000
section
variable {G:Nat->Option Int} {T:Nat->List PV->Option PyData} {W:Nat}
theorem hget_at {E:AE} {i:Nat} {tk:List NV} {e:X} {n:List Nat} (h:E i=some (.hdr tk)) (he:ev G T e E=some (S n)) (hn:clean n=true) (htk:cleanH tk=true):ev G T (.hget i e) E=some (.list ((getAll n tk).map S)):=by
 have e1:hdrOf E i=some tk:=by unfold hdrOf;rw [h]
 (dsimp only [ev_q_hget];rw [e1,he])
 show (if clean n=true/\cleanH tk=true then _ else _)=_
 rw [if_pos ⟨hn,htk⟩]
structure AB (E:AE) (tk:List NV) (pcs:List (List Nat)) (t:Nat) (a:Int) (acc:List Tok):Prop where
 e106:E 106=some (.hdr tk)
 e84:datOf E 84=some (.int t)
 e26:datOf E 26=some (.int a)
 e76:datOf E 76=some (pcsD pcs)
 e90:datOf E 90=some (.list (acc.map (rowT (pcF pcs))))
theorem up_ev {E:AE} {i t:Nat} (h:datOf E i=some (.int t)) (ht:t < 5):ev G T (.idx (.str [65,66,67,68,69]) (.var i)) E=some (S [65+t])/\ev G T (.idx (.str [97,98,99,100,101]) (.var i)) E=some (S [97+t]):=by
 have ht':=lt5 ht
 (rw [ev_q_idx,ev_q_idx,ev_q_str,ev_q_str,ev_q_var,h])
 rcases ht' with rfl | rfl | rfl | rfl | rfl <;> exact ⟨rfl,rfl⟩
theorem around_loop {tk:List NV} {pcs:List (List Nat)} {t:Nat} {a:Int} {f:Nat->Option (List Tok)} (hf:∀ o r,f o=some r->T 4 [.hdr tk,.dat (.int o),.dat (.int t),.dat (pcsD pcs)]=some (.list (r.map (rowT (pcF pcs))))) :
  ∀ (os:List Nat) (acc r:List Tok) (E:AE),AB E tk pcs t a acc->(∀ o∈os,o < 5)->arL f a os acc=some r ->
   ∃ E' acc',forLoop (fun E'=>exs G T W l4_around_b1 E') (fun d E'=>bindT (.name 31) d E') (os.map fun o=>S [97+o]) E=some (E',none)/\AB E' tk pcs t a acc'/\acc'.length<=1000/\r=acc'++[none]
 | [],acc,r,E,h,_,hr=>by
  rw [arL] at hr
  by_cases q:acc.length<=1000
  ·rw [if_pos q] at hr
   exact ⟨E,acc,rfl,h,q,(Option.some.inj hr).symm⟩
  ·rw [if_neg q] at hr
   exact nso hr
 | o::os,acc,r,E,h,ho,hr=>by
  have hlo:=ho o List.mem_cons_self
  have hlo':=lt5 hlo
  generalize hE1:(E.set 31 (.dat (S [97+o]))).set 63 (.dat (.int o))=E1
  have h1:AB E1 tk pcs t a acc:=by
   rw [<-hE1]
   exact ⟨h.e106,h.e84,h.e26,h.e76,h.e90⟩
  have e63:datOf E1 63=some (.int o):=by rw [<-hE1];exact dat_same
  have st1:ex G T W (.asg 0 63 (.p2 .index (.str [97,98,99,100,101]) (.var 31))) (E.set 31 (.dat (S [97+o])))=some (E1,none):=by
   rw [ex_q_asg,ev_q_p2,ev_q_str,ev_q_var,dat_same,<-hE1]
   rcases hlo' with rfl | rfl | rfl | rfl | rfl <;> rfl
  have hc:ev G T (.cmp1 .ne (.var 63) (.var 26)) E1=some (.bool (!decide ((o:Int)=a))):=by
   rw [ev_q_cmp1,ev_q_var,ev_q_var,e63,h1.e26]
   rfl
  rw [arL] at hr
  have fl:∀ {E2:AE},exs G T W l4_around_b1 (E.set 31 (.dat (S [97+o])))=some (E2,none)->forLoop (fun E'=>exs G T W l4_around_b1 E') (fun d E'=>bindT (.name 31) d E') ((o::os).map fun o=>S [97+o]) E=forLoop (fun E'=>exs G T W l4_around_b1 E') (fun d E'=>bindT (.name 31) d E') (os.map fun o=>S [97+o]) E2:=by
   intro E2 h2
   rw [List.map_cons,forLoop]
   show (some (E.set 31 (.dat (S [97+o])))).bind _=_
   (dsimp only [Option.bind_some];rw [h2,Option.bind_some])
  by_cases q:(o:Int)=a
  ·rw [if_pos q] at hr
   (refine e2a4 (around_loop hf os acc r E1 h1 (fun x m=>ho x (List.mem_cons_of_mem _ m)) hr) ?_;rintro E' acc' g1 g2 g3 g4)
   refine ⟨E',acc',?_,g2,g3,g4⟩
   rw [fl (E2:=E1)]
   ·exact g1
   ·unfold l4_around_b1
    rw [exs_next st1 rfl]
    rw [exs_next (E1:=E1) (by
     rw [ex_q_iff,hc,decide_eq_true q]
     rfl) rfl]
    rfl
  ·rw [if_neg q] at hr
   (refine e1a2 (Option.bind_eq_some_iff.mp hr) ?_;rintro r1 hr1 hr2)
   by_cases q2:acc.length+r1.length<=1000
   ·rw [if_pos q2] at hr2
    generalize hE2:E1.set 90 (.dat (.list ((acc++r1).map (rowT (pcF pcs)))))=E2
    have h2:AB E2 tk pcs t a (acc++r1):=by
     rw [<-hE2]
     exact ⟨h1.e106,h1.e84,h1.e26,h1.e76,dat_same⟩
    (refine e2a4 (around_loop hf os (acc++r1) r E2 h2 (fun x m=>ho x (List.mem_cons_of_mem _ m)) hr2) ?_;rintro E' acc' g1 g2 g3 g4)
    refine ⟨E',acc',?_,g2,g3,g4⟩
    rw [fl (E2:=E2)]
    ·exact g1
    ·unfold l4_around_b1
     rw [exs_next st1 rfl]
     have hx:ex G T W (.ext 90 (.callh 4 106 (.cons (.var 63) (.cons (.var 84) (.cons (.var 76) .nil))))) E1=some (E2,none):=by
      rw [ex_q_ext,h1.e90,ev_q_callh,show hdrOf E1 106=some tk by unfold hdrOf;rw [h1.e106],evs_q_cons,evs_q_cons,evs_q_cons,evs_q_nil,ev_q_var,ev_q_var,ev_q_var,e63,h1.e84,h1.e76]
      have e:=hf o r1 hr1
      simp only [Option.bind_some,listOf']
      show ((T 4 [.hdr tk,.dat (.int o),.dat (.int t),.dat (pcsD pcs)]).bind _)=_
      rw [e]
      simp only [Option.bind_some,List.length_map,listOf']
      rw [if_pos (by show _<=1000000;lia),<-hE2,List.map_append]
     rw [exs_next (E1:=E2) (by
      rw [ex_q_iff,hc,decide_eq_false q]
      show exs G T W _ E1=_
      rw [exs_next hx rfl]
      rfl) rfl]
     rfl
   ·rw [if_neg q2] at hr2
    exact nso hr2
theorem around_run {tk:List NV} {g:Nat->List Nat} (K:GTab tk g) {pcs:List (List Nat)} (hp:pcs.length=5) (hm:∀ u∈pcs,u∈menu4) {t:Nat} {a:Int} {f:Nat->Option (List Tok)} (hf:∀ o r,f o=some r->T 4 [.hdr tk,.dat (.int o),.dat (.int t),.dat (pcsD pcs)]=some (.list (r.map (rowT (pcF pcs)))))
  (ht:t < 5) {r:List Tok} (hr:arL f a (g t) [some t]=some r) :
  runFn G T W l4_around_ps l4_around_fn [.hdr tk,.dat (.int t),.dat (.int a),.dat (pcsD pcs)]=some (.list (r.map (rowT (pcF pcs)))):=by
 unfold runFn
 show ((exs G T W l4_around_fn ((((AE.set (fun u_=>none) 76 (.dat (pcsD pcs))).set 26 (.dat (.int a))).set 84 (.dat (.int t))).set 106 (.hdr tk))).bind fun p=>p.2)=_
 generalize hE:(((AE.set (fun u_=>none) 76 (.dat (pcsD pcs))).set 26 (.dat (.int a))).set 84 (.dat (.int t))).set 106 (.hdr tk)=E
 generalize hE1:E.set 90 (.dat (.list ([some t].map (rowT (pcF pcs)))))=E1
 have h1:AB E1 tk pcs t a [some t]:=by
  rw [<-hE1,<-hE]
  exact ⟨rfl,rfl,rfl,rfl,dat_same⟩
 have e84:datOf E 84=some (.int t):=by rw [<-hE];rfl
 have e76:datOf E 76=some (pcsD pcs):=by rw [<-hE];rfl
 have hpm:pcs[t]?=some (pcF pcs t):=get_D' (by rw [hp];exact ht)
 have hpl:(pcF pcs t).length<=5:=(menu_facts (hm _ (List.mem_of_getElem? hpm))).2.1
 unfold l4_around_fn
 rw [exs_next (E1:=E1) (by
  have hi:evIdx (pcsD pcs) (.int t)=some (S (pcF pcs t)):=idx_list (by rw [List.getElem?_map,hpm];rfl) (by rw [List.length_map,hp];decide)
  rw [ex_q_asg,ev_q_lst,evs_q_cons,evs_q_nil,ev_q_tup,evs_q_cons,evs_q_cons,evs_q_nil,ev_q_var,ev_q_bin,ev_q_str,ev_q_idx,ev_q_var,ev_q_var,e84,e76]
  simp only [Option.bind_some,hi,evBin_q_add_str_str]
  rw [if_pos (by show 1+(pcF pcs t).length<=1000000;lia),<-hE1]
  show some ((E.set 90 (.dat (.list [.tuple [.int t,S ([40]++pcF pcs t)]]))),none)=some ((E.set 90 (.dat (.list [.tuple [.int t,S ([40]++(pcF pcs t++[]))]]))),none)
  rw [List.append_nil]) rfl]
 have hg:=hget_at (G:=G) (T:=T) h1.e106 (up_ev h1.e84 ht).1 (lt5_p (P:=fun t=>clean [65+t]=true) rfl rfl rfl rfl rfl ht) K.cl
 rw [K.get t ht,List.map_map] at hg
 (refine e2a4 (around_loop (G:=G) (W:=W) hf (g t) [some t] r E1 h1 (K.lt t ht) hr) ?_;rintro E2 acc g1 g2 g3 g4)
 rw [exs_next (E1:=E2) (by
  rw [ex_q_forS,evIt_q_val,hg,Option.bind_some,items_q_list,List.length_map,if_pos (by have:=K.len t ht;show _<=1000000;lia),Option.bind_some]
  exact g1) rfl]
 rw [exs_ret (E1:=E2) (v:=.list (r.map (rowT (pcF pcs)))) (by
  rw [ex_q_ret,ev_q_bin,ev_q_var,g2.e90,ev_q_lst,evs_q_cons,evs_q_nil,ev_q_tup,evs_q_cons,evs_q_cons,evs_q_nil,ev_q_neg,ev_q_str]
  simp only [Option.bind_some,evBin_q_add_list_list,List.length_map]
  rw [if_pos (by show _+1<=1000000;lia),g4,List.map_append]
  rfl)]
 rfl
end
noncomputable def T3K (T:Nat->List PV->Option PyData):Prop:=∀ L:List Nat,asc L=true->L.length<=100000->T 3 [.dat (S L)]=some (.bool (chkGo (stripS L) false 0))
noncomputable def endS (L:List Nat) (s e c:Nat):Nat:=if e=0/\s < c then (if chkGo (stripS (cut s c L)) false 0=true then c else e) else e
theorem cut_asc {L:List Nat} (a b:Nat) (h:asc L=true):asc (cut a b L)=true :=
 List.all_eq_true.mpr fun x m=>List.all_eq_true.mp h x (List.mem_of_mem_take (List.mem_of_mem_drop m))
theorem cut_len (L:List Nat) (a b:Nat):(cut a b L).length<=L.length:=by
 unfold cut
 rw [List.length_drop,List.length_take]
 lia
section
variable {G:Nat->Option Int} {T:Nat->List PV->Option PyData} {W:Nat}
structure EB (E:AE) (L:List Nat) (os cs:List Nat) (r:List Nat):Prop where
 e36:datOf E 36=some (S L)
 e21:datOf E 21=some (intsD os)
 e28:datOf E 28=some (intsD cs)
 e87:datOf E 87=some (intsD r)
structure EC (E:AE) (L:List Nat) (os cs:List Nat) (r:List Nat) (s e:Nat):Prop where
 b:EB E L os cs r
 e17:datOf E 17=some (.int s)
 e35:datOf E 35=some (.int e)
theorem slc_nat {L:List Nat} (a b:Nat) (hL:L.length<=100000) (hb:b<=L.length):evSlc (S L) (.int a) (.int b) .none=some (S (cut a b L)):=by
 have hl:L.length<=lim:=by show _<=1000000;lia
 simp only [evSlc_q_str_none,sl]
 rw [if_pos hl,(bnd_nat a _).1,(bnd_nat b _).2]
 show some (S (cut (min a L.length) (min b L.length) L))=_
 unfold cut
 rw [Nat.min_eq_left hb]
 by_cases h:a<=L.length
 ·rw [Nat.min_eq_left h]
 ·rw [Nat.min_eq_right (by lia),List.drop_of_length_le (by rw [List.length_take];lia),List.drop_of_length_le (by rw [List.length_take];lia)]
theorem end_step (h3:T3K T) {L:List Nat} (ha:asc L=true) (hL:L.length<=100000) {os cs r:List Nat} {s e c:Nat} {E:AE} (h:EC E L os cs r s e) (hc:c<=L.length) :
  ∃ E1 E2,bindT (.name 107) (.int c) E=some E1/\exs G T W l4_ends_b2 E1=some (E2,none)/\EC E2 L os cs r s (endS L s e c):=by
 refine ⟨E.set 107 (.dat (.int c)),?_⟩
 generalize hE1:E.set 107 (.dat (.int c))=E1
 have i:EC E1 L os cs r s e:=by
  rw [<-hE1]
  exact ⟨⟨h.b.e36,h.b.e21,h.b.e28,h.b.e87⟩,h.e17,h.e35⟩
 have e107:datOf E1 107=some (.int c):=by rw [<-hE1];exact dat_same
 have hb:bindT (.name 107) (.int c) E=some E1:=by rw [<-hE1];rfl
 clear h hE1
 have c1:ev G T (.cmp1 .eq (.var 35) (.int 0)) E1=some (.bool (decide ((e:Int)=0))):=by
  rw [ev_q_cmp1,ev_q_var,ev_q_int,i.e35];rfl
 have c2:ev G T (.cmp1 .gt (.var 107) (.var 17)) E1=some (.bool (decide ((s:Int) < (c:Int)))):=by
  rw [ev_q_cmp1,ev_q_var,ev_q_var,e107,i.e17];rfl
 have ht:ev G T (.and (.cons (.cmp1 .eq (.var 35) (.int 0)) (.cons (.cmp1 .gt (.var 107) (.var 17)) .nil))) E1=some (.bool (decide (e=0/\s < c))):=by
  rw [ev_q_and,evAnd_q_cons,c1]
  by_cases q:e=0
  ·rw [decide_eq_true (show ((e:Int)=0) by lia)]
   show ev G T (.cmp1 .gt (.var 107) (.var 17)) E1=_
   rw [c2]
   congr 2
   rw [Bool.eq_iff_iff,decide_eq_true_iff,decide_eq_true_iff]
   exact ⟨fun h=>⟨q,Int.ofNat_lt.mp h⟩,fun h=>Int.ofNat_lt.mpr h.2⟩
  ·rw [decide_eq_false (show ¬ ((e:Int)=0) by lia),decide_eq_false (fun h=>q h.1)]
   rfl
 unfold l4_ends_b2 endS
 by_cases q:e=0/\s < c
 ·rw [if_pos q]
  generalize hb2:chkGo (stripS (cut s c L)) false 0=b
  have hcall:ev G T (.call 3 (.cons (.slc (.var 36) (.var 17) (.var 107) .none) .nil)) E1=some (.bool b):=by
   rw [ev_q_call,evs_q_cons,evs_q_nil,ev_q_slc,ev_q_var,ev_q_var,ev_q_var,ev_q_none,i.b.e36,i.e17,e107]
   simp only [Option.bind_some]
   rw [slc_nat s c hL hc]
   have:=cut_len L s c
   show T 3 [.dat (S (cut s c L))]=_
   rw [h3 _ (cut_asc s c ha) (by lia),hb2]
  generalize hE2:E1.set 56 (.dat (.bool b))=E2
  have j:EC E2 L os cs r s e:=by
   rw [<-hE2]
   exact ⟨⟨i.b.e36,i.b.e21,i.b.e28,i.b.e87⟩,i.e17,i.e35⟩
  have e56:datOf E2 56=some (.bool b):=by rw [<-hE2];exact dat_same
  have e107':datOf E2 107=some (.int c):=by rw [<-hE2];exact e107
  have st:∀ E3,exs G T W (.cons (.iff (.isC false (.var 56) (.bool true)) (.cons (.asg 0 35 (.var 107)) .nil) (.cons (.iff (.isC true (.var 56) (.bool false)) (.cons (.ret (.lst (.cons (.int 0) .nil))) .nil) .nil) .nil)) .nil) E2=some (E3,none) ->
    exs G T W (.cons (.iff (.and (.cons (.cmp1 .eq (.var 35) (.int 0)) (.cons (.cmp1 .gt (.var 107) (.var 17)) .nil))) (.cons (.asg 0 56 (.call 3 (.cons (.slc (.var 36) (.var 17) (.var 107) .none) .nil))) (.cons (.iff (.isC false (.var 56) (.bool true)) (.cons (.asg 0 35 (.var 107)) .nil) (.cons (.iff (.isC true (.var 56) (.bool false)) (.cons (.ret (.lst (.cons (.int 0) .nil))) .nil) .nil) .nil)) .nil)) .nil) .nil) E1=some (E3,none):=by
   intro E3 h
   rw [exs_next (E1:=E3) (by
    rw [ex_q_iff,ht,decide_eq_true q]
    show exs G T W _ E1=_
    rw [exs_next (E1:=E2) (by rw [ex_q_asg,hcall,<-hE2];rfl) rfl]
    exact h) rfl]
   rfl
  cases b with
  | true =>
   refine ⟨E2.set 35 (.dat (.int c)),hb,st _ ?_,⟨⟨j.b.e36,j.b.e21,j.b.e28,j.b.e87⟩,j.e17,dat_same⟩⟩
   rw [exs_next (E1:=E2.set 35 (.dat (.int c))) (by
    rw [ex_q_iff,ev_q_isC,ev_q_var,ev_q_bool,e56]
    show exs G T W _ E2=_
    rw [exs_next (E1:=E2.set 35 (.dat (.int c))) (by rw [ex_q_asg,ev_q_var,e107'];rfl) rfl]
    rfl) rfl]
   rfl
  | false =>
   refine ⟨E2,hb,st _ ?_,j⟩
   rw [exs_next (E1:=E2) (by
    rw [ex_q_iff,ev_q_isC,ev_q_var,ev_q_bool,e56]
    show exs G T W _ E2=_
    rw [exs_next (E1:=E2) (by
     rw [ex_q_iff,ev_q_isC,ev_q_var,ev_q_bool,e56]
     rfl) rfl]
    rfl) rfl]
   rfl
 ·rw [if_neg q]
  refine ⟨E1,hb,?_,i⟩
  rw [exs_next (E1:=E1) (by
   rw [ex_q_iff,ht,decide_eq_false q]
   rfl) rfl]
  rfl
theorem ends_run (h3:T3K T) {L:List Nat} (ha:asc L=true) (hL:L.length<=100000) {os cs:List Nat} (hc:∀ c∈cs,c<=L.length) (hol:os.length<=1000) (hcl:cs.length<=1000) :
  runFn G T W l4_ends_ps l4_ends_fn [.dat (S L),.dat (intsD os),.dat (intsD cs)]=some (intsD (os.map fun s=>cs.foldl (endS L s) 0)):=by
 unfold runFn
 show ((exs G T W l4_ends_fn (((AE.set (fun u_=>none) 28 (.dat (intsD cs))).set 21 (.dat (intsD os))).set 36 (.dat (S L)))).bind fun p=>p.2)=_
 generalize hE:((AE.set (fun u_=>none) 28 (.dat (intsD cs))).set 21 (.dat (intsD os))).set 36 (.dat (S L))=E
 generalize hE1:E.set 87 (.dat (.list []))=E1
 have h1:EB E1 L os cs []:=by
  rw [<-hE1,<-hE]
  exact ⟨rfl,rfl,rfl,dat_same⟩
 unfold l4_ends_fn
 rw [exs_next (E1:=E1) (by rw [ex_q_asg,ev_q_lst,evs_q_nil,<-hE1];rfl) rfl]
 have lp2:∀ (xs r:List Nat) (E:AE),EB E L os cs r->r.length+xs.length<=1000->∃ E',forLoop (fun E'=>exs G T W l4_ends_b1 E') (fun d E'=>bindT (.name 17) d E') (xs.map fun s:Nat=>.int s) E=some (E',none)/\EB E' L os cs (r++xs.map fun s=>cs.foldl (endS L s) 0):=by
  intro xs
  induction xs with
  | nil=>intro r E h _;exact ⟨E,rfl,by rw [List.map_nil,List.append_nil];exact h⟩
  | cons s xs ih =>
   intro r E h hr
   rw [List.length_cons] at hr
   generalize hE2:(E.set 17 (.dat (.int s))).set 35 (.dat (.int 0))=E2
   have h2:EC E2 L os cs r s 0:=by
    rw [<-hE2]
    exact ⟨⟨h.e36,h.e21,h.e28,h.e87⟩,rfl,dat_same⟩
   (refine e1a2 (for_foldl (body:=fun E'=>exs G T W l4_ends_b2 E') (bindv:=fun d E'=>bindT (.name 107) d E') (fun e E=>EC E L os cs r s e) (fun c:Nat=>PyData.int c) (endS L s) cs 0 E2 (fun c m e E h=>end_step h3 ha hL h (hc c m)) h2) ?_;rintro E3 g1 g2)
   generalize hv:cs.foldl (endS L s) 0=v at g2
   generalize hE4:E3.set 87 (.dat (intsD (r++[v])))=E4
   have h4:EB E4 L os cs (r++[v]):=by
    rw [<-hE4]
    exact ⟨g2.b.e36,g2.b.e21,g2.b.e28,dat_same⟩
   (refine e1a2 (ih (r++[v]) E4 h4 (by rw [List.length_append];show _+1+_<=_;lia)) ?_;rintro E5 g3 g4)
   refine ⟨E5,?_,?_⟩
   ·rw [List.map_cons,forLoop]
    show (exs G T W l4_ends_b1 (E.set 17 (.dat (.int s)))).bind _=_
    have hb:exs G T W l4_ends_b1 (E.set 17 (.dat (.int s)))=some (E4,none):=by
     unfold l4_ends_b1
     rw [exs_next (E1:=E2) (by rw [ex_q_asg,ev_q_int,<-hE2];rfl) rfl]
     rw [exs_next (E1:=E3) (by rw [ex_q_forS,it_ints h2.b.e28 hcl,Option.bind_some];exact g1) rfl]
     rw [exs_next (E1:=E4) (by
      rw [ex_q_app,g2.b.e87,ev_q_var,g2.e35]
      unfold intsD at hE4 ⊢
      simp only [Option.bind_some,listOf',List.length_map]
      rw [if_pos (by show _<=1000000;lia),<-hE4,List.map_append]
      rfl) rfl]
     rfl
    rw [hb]
    exact g3
   ·rw [List.map_cons,hv,show r++v::xs.map (fun s=>cs.foldl (endS L s) 0)=(r++[v])++xs.map (fun s=>cs.foldl (endS L s) 0) by rw [List.append_assoc];rfl]
    exact g4
 (refine e1a2 (lp2 os [] E1 h1 (by rw [List.length_nil];lia)) ?_;rintro E2 g1 g2)
 rw [exs_next (E1:=E2) (by rw [ex_q_forS,it_ints h1.e21 hol,Option.bind_some];exact g1) rfl]
 rw [exs_next (E1:=E2) (by rw [ex_q_frz]) rfl]
 rw [exs_ret (E1:=E2) (by rw [ex_q_ret,ev_q_var,g2.e87];rfl)]
 rfl
end
noncomputable def endI (ts:List Tok) (a e c:Nat):Nat:=if e=0/\a < c then (if balT ((ts.take c).drop a) 0=true then c else e) else e
section
variable {pc:Nat->List Nat} (hpc:∀ t,pc t∈menu4)
include hpc
theorem pos_zero {ts:List Tok} {e:Nat} (he:e<=ts.length):pos pc ts e=0 ↔ e=0:=by
 refine ⟨fun h=>?_,fun h=>by rw [h];rfl⟩
 by_cases q:e=0
 ·exact q
 ·have:=pos_lt hpc (ts:=ts) (a:=0) (b:=e) (by lia) he
  lia
theorem pos_len {ts:List Tok} {e:Nat} (he:e<=ts.length):pos pc ts e<=(txT pc ts).length:=by
 have:pos pc ts ts.length=(txT pc ts).length:=by unfold pos;rw [List.take_length]
 by_cases q:e=ts.length
 ·rw [q,this];exact Nat.le_refl _
 ·rw [<-this];exact Nat.le_of_lt (pos_lt hpc (by lia) (Nat.le_refl _))
theorem end_I {ts:List Tok} {a e c:Nat} (ha:a<=ts.length) (he:e<=ts.length) (hc:c<=ts.length):endS (txT pc ts) (pos pc ts a) (pos pc ts e) (pos pc ts c)=pos pc ts (endI ts a e c):=by
 unfold endS endI
 have q:(pos pc ts e=0/\pos pc ts a < pos pc ts c) ↔ (e=0/\a < c):=and_congr (pos_zero hpc he) (pos_lt_iff hpc ha hc)
 by_cases h:e=0/\a < c
 ·rw [if_pos (q.mpr h),if_pos h,seg_tx hpc (Nat.le_of_lt h.2) hc,chk_tx hpc]
  by_cases h2:balT ((ts.take c).drop a) 0=true
  ·rw [if_pos h2,if_pos h2]
  ·rw [if_neg h2,if_neg h2]
 ·rw [if_neg (fun h2=>h (q.mp h2)),if_neg h]
theorem ends_I {ts:List Tok} {a:Nat} (ha:a<=ts.length):∀ (cs:List Nat) (e:Nat),e<=ts.length->(∀ c∈cs,c<=ts.length)->(cs.map (pos pc ts)).foldl (endS (txT pc ts) (pos pc ts a)) (pos pc ts e)=pos pc ts (cs.foldl (endI ts a) e)
 | [],e,_,_=>rfl
 | c::cs,e,he,hc=>by
  rw [List.map_cons,List.foldl_cons,List.foldl_cons,end_I hpc ha he (hc c List.mem_cons_self)]
  refine ends_I ha cs _ ?_ fun x m=>hc x (List.mem_cons_of_mem _ m)
  have:=hc c List.mem_cons_self
  unfold endI
  by_cases h:e=0/\a < c
  ·rw [if_pos h]
   by_cases h2:balT ((ts.take c).drop a) 0=true
   ·rw [if_pos h2];exact this
   ·rw [if_neg h2];exact he
  ·rw [if_neg h];exact he
end
theorem or45 {P:Nat->Prop} (h4:P 4) (h5:P 5) {n:Nat} (h:n=4\/n=5):P n:=by
 rcases h with rfl | rfl
 ·exact h4
 ·exact h5
section
variable {G:Nat->Option Int} {T:Nat->List PV->Option PyData} {W:Nat}
theorem sums_ev4 {E:AE} {ms:List Int} (hm:ms.length<=lim) (h44:E 44=some (.dat (.list (ms.map PyData.int)))):∃ x0 x1 x2 x3:Nat,
  ev G T (.comp (.bin .mod (.bin .add (.var 46) (.p1 .sum (.slc (.var 44) (.var 30) .none (.int 4)))) (.bin .pow (.int 10) (.int 6))) (.tup [30,46]) (.enm (.lst (.cons (.int 24) (.cons (.int 37) (.cons (.int 50) (.cons (.int 15) .nil)))))) .nil) E=some (.list ([x0,x1,x2,x3].map fun x:Nat=>PyData.int x)):=by
 have one:∀ (i:Nat) (b:Int),∃ x:Nat,ev G T (.bin .mod (.bin .add (.var 46) (.p1 .sum (.slc (.var 44) (.var 30) .none (.int 4)))) (.bin .pow (.int 10) (.int 6))) ((E.set 30 (.dat (.int i))).set 46 (.dat (.int b)))=some (.int x) :=
  fun i b=>elt_ev (G:=G) (T:=T) hm (E:=(E.set 30 (.dat (.int i))).set 46 (.dat (.int b))) h44 rfl rfl
 (refine e1a1 (one 0 24) ?_;rintro x0 h0)
 (refine e1a1 (one 1 37) ?_;rintro x1 h1)
 (refine e1a1 (one 2 50) ?_;rintro x2 h2)
 (refine e1a1 (one 3 15) ?_;rintro x3 h3)
 refine ⟨x0,x1,x2,x3,?_⟩
 generalize (X.bin .mod (.bin .add (.var 46) (.p1 .sum (.slc (.var 44) (.var 30) .none (.int 4)))) (.bin .pow (.int 10) (.int 6)))=elt at h0 h1 h2 h3 ⊢
 have hit:evIt G T (.enm (.lst (.cons (.int 24) (.cons (.int 37) (.cons (.int 50) (.cons (.int 15) .nil)))))) E=some [.tuple [.int (0:Nat),.int 24],.tuple [.int (1:Nat),.int 37],.tuple [.int (2:Nat),.int 50],.tuple [.int (3:Nat),.int 15]]:=by
  dsimp only [evIt_q_enm,ev_q_lst,evs_q_cons,evs_q_nil,ev_q_int]
  rfl
 have bt:∀ (i:Nat) (b:Int),bindT (.tup [30,46]) (.tuple [.int i,.int b]) E=some ((E.set 30 (.dat (.int i))).set 46 (.dat (.int b))):=fun u_ u_=>rfl
 (dsimp only [ev_q_comp];rw [hit,Option.bind_some])
 simp only [compLoop,bt,Option.bind_some,evTests_q_nil,h0,h1,h2,h3]
 rfl
noncomputable def nearS (P:Nat->Nat) (tk:List NV) (t:Nat):List NV:=tk++[([97+P t],[97+t]),([65+t],[97+P t])]
noncomputable def thingsN (n:Nat):List Nat:=(List.range (n - 1)).map fun i=>1+i
noncomputable def tkN (P:Nat->Nat) (n:Nat):List NV:=(thingsN n).foldl (nearS P) []
noncomputable def namesD (tk:List NV):PyData:=.list (tk.map fun p=>S p.1)
structure NB (E:AE) (n:Nat) (xs:List Nat) (tk:List NV):Prop where
 e45:datOf E 45=some (intsD xs)
 e47:datOf E 47=some (.int n)
 e75:datOf E 75=some (namesD tk)
 e106:E 106=some (.hdr tk)
 len:tk.length<=100
theorem hadd_ev {E:AE} {i:Nat} {a b:X} {tk:List NV} {u v:List Nat} (h:E i=some (.hdr tk)) (ha:ev G T a E=some (S u)) (hb:ev G T b E=some (S v)) (hu:clean u=true) (hv:clean v=true) (hl:tk.length<=100) :
  ex G T W (.hadd i a b) E=some (E.set i (.hdr (tk++[(u,v)])),none):=by
 have e1:hdrOf E i=some tk:=by unfold hdrOf;rw [h]
 rw [ex_q_hadd,e1,ha,hb]
 show (if clean u=true/\clean v=true/\tk.length<=lim then _ else _)=_
 rw [if_pos ⟨hu,hv,by show _<=1000000;lia⟩]
theorem clean_let {o:Nat} (h:o < 5):clean [97+o]=true/\clean [65+o]=true :=
 lt5_p (P:=fun o=>clean [97+o]=true/\clean [65+o]=true) ⟨rfl,rfl⟩ ⟨rfl,rfl⟩ ⟨rfl,rfl⟩ ⟨rfl,rfl⟩ ⟨rfl,rfl⟩ h
theorem near_step {n:Nat} {xs:List Nat} {P:Nat->Nat} {t:Nat} (hx:xs.length=4) (h1:1<=t) (h5:t < 5) (hP:P t=xs.getD (t - 1) 0 % t) {tk:List NV} {E:AE} (h:NB E n xs tk) (hl:tk.length<=90) :
  ∃ E1 E2,bindT (.name 84) (.int t) E=some E1/\exs G T W l4_main_b1 E1=some (E2,none)/\NB E2 n xs (nearS P tk t):=by
 have ho:P t < 5:=by rw [hP];exact Nat.lt_trans (Nat.mod_lt _ h1) h5
 refine ⟨E.set 84 (.dat (.int t)),?_⟩
 generalize hE1:E.set 84 (.dat (.int t))=E1
 have i84:datOf E1 84=some (.int t):=by rw [<-hE1];exact dat_same
 have i:NB E1 n xs tk:=by rw [<-hE1];exact ⟨h.e45,h.e47,h.e75,h.e106,h.len⟩
 generalize hE2:E1.set 63 (.dat (.int (P t)))=E2
 have s1:ex G T W (.asg 0 63 (.bin .mod (.idx (.var 45) (.bin .sub (.var 84) (.int 1))) (.var 84))) E1=some (E2,none):=by
  rw [ex_q_asg,ev_q_bin,ev_q_idx,ev_q_bin,ev_q_var,ev_q_var,ev_q_int,i.e45,i84]
  dsimp only [Option.bind_some,evBin_q_sub_int_int]
  rw [show (t:Int) - 1=((t - 1:Nat):Int) by lia]
  unfold intsD
  rw [idx_list (x:=.int (xs.getD (t - 1) 0:Nat)) (by rw [List.getElem?_map,get_D (by rw [hx];lia)];rfl) (by rw [List.length_map,hx];decide)]
  dsimp only [Option.bind_some,evBin_q_mod_int_int]
  rw [if_pos ⟨by lia,by show (t:Int)<=1000000;lia⟩,<-hE2,hP]
  rfl
 have j:NB E2 n xs tk:=by rw [<-hE2];exact ⟨i.e45,i.e47,i.e75,i.e106,i.len⟩
 have j84:datOf E2 84=some (.int t):=by rw [<-hE2];exact i84
 have j63:datOf E2 63=some (.int (P t)):=by rw [<-hE2];exact dat_same
 have l1:=clean_let ho
 have l2:=clean_let h5
 have a1:=up_ev (G:=G) (T:=T) j63 ho
 have a2:=up_ev (G:=G) (T:=T) j84 h5
 have s2:=hadd_ev (G:=G) (T:=T) (W:=W) j.e106 a1.2 a2.2 l1.1 l2.1 j.len
 generalize hE3:E2.set 106 (.hdr (tk++[([97+P t],[97+t])]))=E3 at s2
 have k84:datOf E3 84=some (.int t):=by rw [<-hE3];exact j84
 have k63:datOf E3 63=some (.int (P t)):=by rw [<-hE3];exact j63
 have k106:E3 106=some (.hdr (tk++[([97+P t],[97+t])])):=by rw [<-hE3];exact set_same
 have s3:=hadd_ev (G:=G) (T:=T) (W:=W) k106 (up_ev (G:=G) (T:=T) k84 h5).1 (up_ev (G:=G) (T:=T) k63 ho).2 l2.2 l1.1 (by rw [List.length_append];show _+1<=_;lia)
 generalize hE4:E3.set 106 (.hdr (tk++[([97+P t],[97+t])]++[([65+t],[97+P t])]))=E4 at s3
 have m84:datOf E4 84=some (.int t):=by rw [<-hE4];exact k84
 have m63:datOf E4 63=some (.int (P t)):=by rw [<-hE4];exact k63
 have m75:datOf E4 75=some (namesD tk):=by rw [<-hE4,<-hE3];exact j.e75
 refine ⟨E4.set 75 (.dat (namesD (nearS P tk t))),by rw [<-hE1];rfl,?_,⟨by rw [<-hE4,<-hE3];exact j.e45,by rw [<-hE4,<-hE3];exact j.e47,dat_same,?_,by unfold nearS;rw [List.length_append];show _+2<=_;lia⟩⟩
 ·unfold l4_main_b1
  rw [exs_next s1 rfl,exs_next s2 rfl,exs_next s3 rfl]
  rw [exs_next (E1:=E4.set 75 (.dat (namesD (nearS P tk t)))) (by
   rw [ex_q_ext,m75,ev_q_lst,evs_q_cons,evs_q_cons,evs_q_nil,(up_ev (G:=G) (T:=T) m63 ho).2,(up_ev (G:=G) (T:=T) m84 h5).1]
   unfold namesD nearS
   simp only [Option.bind_some,listOf',List.length_map]
   rw [if_pos (by show _+2<=1000000;lia),List.map_append]
   rfl) rfl]
  rfl
 ·rw [<-hE4]
  show some (PV.hdr (tk++[([97+P t],[97+t])]++[([65+t],[97+P t])]))=some (.hdr (nearS P tk t))
  unfold nearS
  rw [List.append_assoc]
  rfl
theorem near_loop {n:Nat} {xs:List Nat} {P:Nat->Nat} (hx:xs.length=4) (hP:∀ t,1<=t->t < 5->P t=xs.getD (t - 1) 0 % t):∀ (ts:List Nat) (tk:List NV) (E:AE),(∀ t∈ts,1<=t/\t < 5)->tk.length+2 * ts.length<=90->NB E n xs tk ->
  ∃ E',forLoop (fun E'=>exs G T W l4_main_b1 E') (fun d E'=>bindT (.name 84) d E') (ts.map fun t:Nat=>.int t) E=some (E',none)/\NB E' n xs (ts.foldl (nearS P) tk)
 | [],tk,E,_,_,h=>⟨E,rfl,h⟩
 | t::ts,tk,E,ht,hl,h=>by
  rw [List.length_cons] at hl
  have q:=ht t List.mem_cons_self
  (refine e2a3 (near_step (G:=G) (T:=T) (W:=W) hx q.1 q.2 (hP t q.1 q.2) h (by lia)) ?_;rintro E1 E2 h1 h2 h3)
  (refine e1a2 (near_loop hx hP ts (nearS P tk t) E2 (fun x m=>ht x (List.mem_cons_of_mem _ m)) (by unfold nearS;rw [List.length_append];show _+2+_<=_;lia) h3) ?_;rintro E' h4 h5)
  exact ⟨E',by rw [List.map_cons,forLoop,h1,Option.bind_some,h2,Option.bind_some];exact h4,h5⟩
noncomputable abbrev RS:=Nat × List Nat × List Nat
noncomputable def stepO (s:RS) (o:Tok):RS:=match o with
 | some t=>(s.1+1,s.2.1.set t s.1,s.2.2)
 | none=>(s.1+1,s.2.1,s.2.2++[s.1+1])
structure RB (E:AE) (n:Nat) (tk:List NV) (pc:Nat->List Nat) (ts:List Tok) (s:RS):Prop where
 e47:datOf E 47=some (.int n)
 e106:E 106=some (.hdr tk)
 e36:datOf E 36=some (S (txT pc (ts.take s.1)))
 e21:datOf E 21=some (intsD (s.2.1.map (pos pc ts)))
 e28:datOf E 28=some (intsD (s.2.2.map (pos pc ts)))
 len:s.2.1.length=n
 clen:s.2.2.length<=s.1
theorem row_step {pc:Nat->List Nat} (hpc:∀ t,pc t∈menu4) {n:Nat} {tk:List NV} {ts:List Tok} (hts:ts.length<=1000) {s:RS} {o:Tok} (ho:ts[s.1]?=some o) (hn:n<=5) (hon:∀ t,o=some t->t < n) {E:AE} (h:RB E n tk pc ts s) :
  ∃ E1 E2,bindT (.tup [84,7]) (rowT pc o) E=some E1/\exs G T W l4_main_b2 E1=some (E2,none)/\RB E2 n tk pc ts (stepO s o):=by
 refine ⟨(E.set 84 (.dat (.int (idT o)))).set 7 (.dat (S (tkT pc o))),?_⟩
 generalize hE1:(E.set 84 (.dat (.int (idT o)))).set 7 (.dat (S (tkT pc o)))=E1
 have hbt:bindT (.tup [84,7]) (rowT pc o) E=some E1:=by rw [<-hE1];rfl
 have i84:datOf E1 84=some (.int (idT o)):=by rw [<-hE1];rfl
 have i7:datOf E1 7=some (S (tkT pc o)):=by rw [<-hE1];exact dat_same
 have i:RB E1 n tk pc ts s:=by rw [<-hE1];exact ⟨h.e47,h.e106,h.e36,h.e21,h.e28,h.len,h.clen⟩
 clear h hE1
 have hs:=(List.getElem?_eq_some_iff.mp ho).1
 have f:=tx_facts hpc (ts.take s.1)
 have fl:(txT pc (ts.take s.1)).length<=6000:=by
  have:(ts.take s.1).length<=1000:=by rw [List.length_take];lia
  lia
 have f2:=tk_facts hpc o
 have hlen:∀ E9:AE,∀ L,datOf E9 36=some (S L)->L.length<=10000->ev G T (.p1 .len (.var 36)) E9=some (.int L.length):=by
  intro E9 L h9 hL
  rw [ev_q_p1,ev_q_var,h9]
  dsimp only [Option.bind_some,evP1_q_len_str]
  rw [if_pos (by show L.length<=1000000;lia)]
 have grow:∀ E2:AE,datOf E2 36=some (S (txT pc (ts.take s.1)))->datOf E2 7=some (S (tkT pc o))->ex G T W (.asg 0 36 (.bin .add (.var 36) (.var 7))) E2=some (E2.set 36 (.dat (S (txT pc (ts.take (s.1+1))))),none):=by
  intro E2 h1 h2
  rw [ex_q_asg,ev_q_bin,ev_q_var,ev_q_var,h1,h2]
  dsimp only [Option.bind_some,evBin_q_add_str_str]
  rw [if_pos (by show (txT pc (ts.take s.1)).length+(tkT pc o).length<=1000000;lia),pos_step hpc ho]
  rfl
 have g2:(txT pc (ts.take (s.1+1))).length<=10000:=by rw [pos_step hpc ho,List.length_append];lia
 unfold l4_main_b2
 cases o with
 | some t =>
  have htn:=hon t rfl
  have c1:∀ E9:AE,datOf E9 84=some (.int (t:Int))->ev G T (.cmp1 .ge (.var 84) (.int 0)) E9=some (.bool true):=by
   intro E9 h9
   rw [ev_q_cmp1,ev_q_var,ev_q_int,h9]
   show some (PyData.bool (decide ((0:Int)<=(t:Int))))=_
   rw [decide_eq_true (by lia)]
  have c2:∀ E9:AE,datOf E9 84=some (.int (t:Int))->ev G T (.cmp1 .lt (.var 84) (.int 0)) E9=some (.bool false):=by
   intro E9 h9
   rw [ev_q_cmp1,ev_q_var,ev_q_int,h9]
   show some (PyData.bool (decide ((t:Int) < (0:Int))))=_
   rw [decide_eq_false (by lia)]
  generalize hE2:E1.set 21 (.dat (intsD ((s.2.1.set t s.1).map (pos pc ts))))=E2
  generalize hE3:E2.set 36 (.dat (S (txT pc (ts.take (s.1+1)))))=E3
  refine ⟨E3,hbt,?_,⟨by rw [<-hE3,<-hE2];exact i.e47,by rw [<-hE3,<-hE2];exact i.e106,by rw [<-hE3];exact dat_same,by rw [<-hE3,<-hE2];exact (dat_other (by decide)).trans dat_same,by rw [<-hE3,<-hE2];exact i.e28,by show (s.2.1.set t s.1).length=n;rw [List.length_set];exact i.len,Nat.le_succ_of_le i.clen⟩⟩
  rw [exs_next (E1:=E2) (by
   rw [ex_q_iff,c1 E1 i84]
   show exs G T W _ E1=_
   rw [exs_next (E1:=E2) (by
    rw [ex_q_setI,hlen E1 _ i.e36 (by lia),i.e21,ev_q_var,i84]
    dsimp only [Option.bind_some]
    have hq:putAt (.int (t:Int)) (.int ((txT pc (ts.take s.1)).length:Int)) (intsD (s.2.1.map (pos pc ts)))=some (intsD ((s.2.1.set t s.1).map (pos pc ts))):=by
     show (if (0:Int)<=t/\(t:Int) < (List.map _ _).length/\(List.map _ _).length<=lim then some (PyData.list ((List.map _ _).set (t:Int).toNat _)) else none)=_
     rw [List.length_map,List.length_map,i.len,if_pos ⟨by lia,by lia,by show n<=1000000;lia⟩,Int.toNat_natCast]
     unfold intsD
     rw [List.map_set,List.map_set]
     rfl
    show ((putAt (.int (t:Int)) (.int ((txT pc (ts.take s.1)).length:Int)) (intsD (s.2.1.map (pos pc ts)))).bind _)=_
    rw [hq,<-hE2]
    rfl) rfl]
   rfl) rfl]
  rw [exs_next (E1:=E3) (by rw [grow E2 (by rw [<-hE2];exact i.e36) (by rw [<-hE2];exact i7),hE3]) rfl]
  rw [exs_next (E1:=E3) (by
   rw [ex_q_iff,c2 E3 (by rw [<-hE3,<-hE2];exact i84)]
   rfl) rfl]
  rfl
 | none =>
  generalize hE3:E1.set 36 (.dat (S (txT pc (ts.take (s.1+1)))))=E3
  generalize hE4:E3.set 28 (.dat (intsD ((s.2.2++[s.1+1]).map (pos pc ts))))=E4
  have j84:datOf E3 84=some (.int (-1)):=by rw [<-hE3];exact i84
  have j36:datOf E3 36=some (S (txT pc (ts.take (s.1+1)))):=by rw [<-hE3];exact dat_same
  have j28:datOf E3 28=some (intsD (s.2.2.map (pos pc ts))):=by rw [<-hE3];exact i.e28
  refine ⟨E4,hbt,?_,⟨by rw [<-hE4,<-hE3];exact i.e47,by rw [<-hE4,<-hE3];exact i.e106,by rw [<-hE4];exact j36,by rw [<-hE4,<-hE3];exact i.e21,by rw [<-hE4];exact dat_same,i.len,by show (s.2.2++[s.1+1]).length<=s.1+1;rw [List.length_append];exact Nat.succ_le_succ i.clen⟩⟩
  rw [exs_next (E1:=E1) (by
   rw [ex_q_iff,ev_q_cmp1,ev_q_var,ev_q_int,i84]
   rfl) rfl]
  rw [exs_next (E1:=E3) (by rw [grow E1 i.e36 i7,hE3]) rfl]
  rw [exs_next (E1:=E4) (by
   rw [ex_q_iff,ev_q_cmp1,ev_q_var,ev_q_int,j84]
   show exs G T W _ E3=_
   rw [exs_next (E1:=E4) (by
    rw [ex_q_app,j28,hlen E3 _ j36 g2]
    unfold intsD at hE4 ⊢
    have:=i.clen
    simp only [Option.bind_some,listOf',List.length_map]
    rw [if_pos (by show _<=1000000;lia),<-hE4,List.map_append,List.map_append]
    rfl) rfl]
   rfl) rfl]
  rfl
theorem drop_cons {ts:List Tok} {i:Nat} {o:Tok} {r:List Tok} (h:ts.drop i=o::r):ts[i]?=some o/\ts.drop (i+1)=r:=by
 refine ⟨?_,?_⟩
 ·have:=congrArg (fun l=>l[0]?) h
  simpa using this
 ·have:=congrArg (List.drop 1) h
  rw [List.drop_drop] at this
  simpa [Nat.add_comm] using this
theorem row_loop {pc:Nat->List Nat} (hpc:∀ t,pc t∈menu4) {n:Nat} {tk:List NV} {ts:List Tok} (hts:ts.length<=1000) (hn:n<=5) (hon:∀ t,some t∈ts->t < n):∀ (us:List Tok) (s:RS) (E:AE),ts.drop s.1=us->RB E n tk pc ts s ->
  ∃ E',forLoop (fun E'=>exs G T W l4_main_b2 E') (fun d E'=>bindT (.tup [84,7]) d E') (us.map (rowT pc)) E=some (E',none)/\RB E' n tk pc ts (us.foldl stepO s)
 | [],s,E,_,h=>⟨E,rfl,h⟩
 | o::us,s,E,hd,h=>by
  have q:=drop_cons hd
  (refine e2a3 (row_step (G:=G) (T:=T) (W:=W) hpc hts q.1 hn (fun t e=>hon t (by rw [<-e];exact List.mem_of_getElem? q.1)) h) ?_;rintro E1 E2 h1 h2 h3)
  (refine e1a2 (row_loop hpc hts hn hon us (stepO s o) E2 (by cases o <;> exact q.2) h3) ?_;rintro E' h4 h5)
  exact ⟨E',by rw [List.map_cons,forLoop,h1,Option.bind_some,h2,Option.bind_some];exact h4,h5⟩
end
noncomputable def letL (os es:List Nat) (t o:Nat):Nat:=if os.getD o 0<=os.getD t 0/\os.getD t 0 < es.getD o 0 then 65+o else 97+o
noncomputable def wordL (os es:List Nat) (n t:Nat):List Nat:=(List.range n).map (letL os es t)
theorem flat_one {α β:Type} (g:α->β):∀ l:List α,(l.map fun p=>[g p]).flatten=l.map g
 | []=>rfl
 | x::l=>by rw [List.map_cons,List.flatten_cons,flat_one g l];rfl
section
variable {G:Nat->Option Int} {T:Nat->List PV->Option PyData} {W:Nat}
structure OB (E:AE) (n:Nat) (tk:List NV) (os es:List Nat) (ws:List (List Nat)):Prop where
 e47:datOf E 47=some (.int n)
 e106:E 106=some (.hdr tk)
 e21:datOf E 21=some (intsD os)
 e87:datOf E 87=some (intsD es)
 e52:datOf E 52=some (.list (ws.map S))
theorem idx_ints {l:List Nat} {i:Nat} (h:i < l.length) (hl:l.length<=1000):evIdx (intsD l) (.int i)=some (.int (l.getD i 0:Nat)) :=
 idx_list (by rw [List.getElem?_map,get_D h];rfl) (by rw [List.length_map];exact hl)
theorem word_step {n:Nat} (hn:n<=5) {tk:List NV} {os es:List Nat} (ho:os.length=n) (he:es.length=n) {t:Nat} (ht:t < n) {ws:List (List Nat)} (hw:ws.length<=100) {E:AE} (h:OB E n tk os es ws) :
  ∃ E1 E2,bindT (.name 84) (.int t) E=some E1/\exs G T W l4_main_b3 E1=some (E2,none)/\OB E2 n tk os es (ws++[wordL os es n t]):=by
 refine ⟨E.set 84 (.dat (.int t)),?_⟩
 generalize hE1:E.set 84 (.dat (.int t))=E1
 have i84:datOf E1 84=some (.int t):=by rw [<-hE1];exact dat_same
 have i:OB E1 n tk os es ws:=by rw [<-hE1];exact ⟨h.e47,h.e106,h.e21,h.e87,h.e52⟩
 have hbt:bindT (.name 84) (.int t) E=some E1:=by rw [<-hE1];rfl
 clear h hE1
 have hc:=comp_rng (G:=G) (T:=T) (E:=E1) (elt:=.ite (.cmp2 .le .lt (.idx (.var 21) (.var 63)) (.idx (.var 21) (.var 84)) (.idx (.var 87) (.var 63))) (.idx (.str [65,66,67,68,69]) (.var 63)) (.idx (.str [97,98,99,100,101]) (.var 63))) (x:=.var 47) (i:=63) (m:=n) (f:=fun o=>S [letL os es t o]) (by rw [ev_q_var];exact i.e47) (by lia) fun o hl=>by
  generalize hE2:E1.set 63 (.dat (.int o))=E2
  have j63:datOf E2 63=some (.int o):=by rw [<-hE2];exact dat_same
  have j84:datOf E2 84=some (.int t):=by rw [<-hE2];exact i84
  have j21:datOf E2 21=some (intsD os):=by rw [<-hE2];exact i.e21
  have j87:datOf E2 87=some (intsD es):=by rw [<-hE2];exact i.e87
  have hup:=up_ev (G:=G) (T:=T) j63 (by lia)
  have hcm:ev G T (.cmp2 .le .lt (.idx (.var 21) (.var 63)) (.idx (.var 21) (.var 84)) (.idx (.var 87) (.var 63))) E2=some (.bool (decide (os.getD o 0<=os.getD t 0/\os.getD t 0 < es.getD o 0))):=by
   rw [ev_q_cmp2,ev_q_idx,ev_q_idx,ev_q_idx,ev_q_var,ev_q_var,ev_q_var,ev_q_var,j21,j87,j63,j84]
   dsimp only [Option.bind_some]
   rw [idx_ints (l:=os) (i:=o) (by lia) (by lia),idx_ints (l:=os) (i:=t) (by lia) (by lia),idx_ints (l:=es) (i:=o) (by lia) (by lia)]
   dsimp only [Option.bind_some,evCmp_q_le_int_int,evCmp_q_lt_int_int]
   by_cases q:os.getD o 0<=os.getD t 0
   ·rw [decide_eq_true (show ((os.getD o 0:Nat):Int)<=((os.getD t 0:Nat):Int) from Int.ofNat_le.mpr q)]
    show some (PyData.bool (decide (((os.getD t 0:Nat):Int) < ((es.getD o 0:Nat):Int))))=_
    congr 2
    rw [Bool.eq_iff_iff,decide_eq_true_iff,decide_eq_true_iff]
    exact ⟨fun h=>⟨q,Int.ofNat_lt.mp h⟩,fun h=>Int.ofNat_lt.mpr h.2⟩
   ·rw [decide_eq_false (show ¬ ((os.getD o 0:Nat):Int)<=((os.getD t 0:Nat):Int) from fun h=>q (Int.ofNat_le.mp h)),decide_eq_false (show ¬ (os.getD o 0<=os.getD t 0/\os.getD t 0 < es.getD o 0) from fun h=>q h.1)]
  rw [ev_q_ite,hcm]
  dsimp only [Option.bind_some,tr_q_bool]
  unfold letL
  by_cases q:os.getD o 0<=os.getD t 0/\os.getD t 0 < es.getD o 0
  ·rw [decide_eq_true q,if_pos q];exact hup.1
  ·rw [decide_eq_false q,if_neg q];exact hup.2
 have hm:((List.range n).map fun o=>S [letL os es t o])=((List.range n).map fun o=>[letL os es t o]).map S:=by rw [List.map_map];rfl
 rw [hm] at hc
 have hj:joinL [] ((List.range n).map fun o=>[letL os es t o])=wordL os es n t:=by rw [joinL_nil,flat_one];rfl
 have hwl:(wordL os es n t).length=n:=by unfold wordL;rw [List.length_map,List.length_range]
 have hv:=join_ev (sep:=[]) hc (by rw [hj,hwl];lia) (by rw [List.length_map,List.length_range];lia) (by decide)
 rw [hj] at hv
 refine ⟨E1.set 52 (.dat (.list ((ws++[wordL os es n t]).map S))),hbt,?_,⟨i.e47,i.e106,i.e21,i.e87,dat_same⟩⟩
 unfold l4_main_b3
 rw [exs_next (E1:=E1.set 52 (.dat (.list ((ws++[wordL os es n t]).map S)))) (by
  rw [ex_q_app,i.e52,hv]
  simp only [Option.bind_some,listOf',List.length_map]
  rw [if_pos (by show _<=1000000;lia),List.map_append]
  rfl) rfl]
 rfl
theorem word_loop {n:Nat} (hn:n<=5) {tk:List NV} {os es:List Nat} (ho:os.length=n) (he:es.length=n):∀ (ts:List Nat) (ws:List (List Nat)) (E:AE),(∀ t∈ts,t < n)->ws.length+ts.length<=100->OB E n tk os es ws ->
  ∃ E',forLoop (fun E'=>exs G T W l4_main_b3 E') (fun d E'=>bindT (.name 84) d E') (ts.map fun t:Nat=>.int t) E=some (E',none)/\OB E' n tk os es (ws++ts.map (wordL os es n))
 | [],ws,E,_,_,h=>⟨E,rfl,by rw [List.map_nil,List.append_nil];exact h⟩
 | t::ts,ws,E,ht,hl,h=>by
  rw [List.length_cons] at hl
  (refine e2a3 (word_step (G:=G) (T:=T) (W:=W) hn ho he (ht t List.mem_cons_self) (by lia) h) ?_;rintro E1 E2 h1 h2 h3)
  (refine e1a2 (word_loop hn ho he ts (ws++[wordL os es n t]) E2 (fun x m=>ht x (List.mem_cons_of_mem _ m)) (by rw [List.length_append];show _+1+_<=_;lia) h3) ?_;rintro E' h4 h5)
  refine ⟨E',by rw [List.map_cons,forLoop,h1,Option.bind_some,h2,Option.bind_some];exact h4,?_⟩
  rw [List.append_assoc] at h5
  exact h5
noncomputable def matD (M:List (List Nat)):PyData:=.list (M.map intsD)
noncomputable def setM (M:List (List Nat)) (t o z:Nat):List (List Nat):=M.set t ((M.getD t []).set o z)
noncomputable def setMM (M:List (List Nat)) (t o z:Nat):List (List Nat):=setM (setM M t o z) o t z
noncomputable def ShM (M:List (List Nat)) (n:Nat):Prop:=M.length=n/\∀ r∈M,r.length=n
theorem get_M {M:List (List Nat)} {n t:Nat} (h:ShM M n) (ht:t < n):M[t]?=some (M.getD t [])/\(M.getD t []).length=n:=by
 have e:=get_D' (l:=M) (i:=t) (by rw [h.1];exact ht)
 exact ⟨e,h.2 _ (List.mem_of_getElem? e)⟩
theorem sh_set {M:List (List Nat)} {n t o z:Nat} (h:ShM M n) (ht:t < n):ShM (setM M t o z) n:=by
 refine ⟨by unfold setM;rw [List.length_set];exact h.1,fun r hr=>?_⟩
 unfold setM at hr
 rcases List.mem_or_eq_of_mem_set hr with m | rfl
 ·exact h.2 r m
 ·rw [List.length_set];exact (get_M h ht).2
structure PBk (E:AE) (n:Nat) (tk:List NV) (w:Nat->List Nat) (M:List (List Nat)):Prop where
 e47:datOf E 47=some (.int n)
 e106:E 106=some (.hdr tk)
 e52:datOf E 52=some (.list ((List.range n).map fun t=>S (w t)))
 e97:datOf E 97=some (matD M)
 sh:ShM M n
theorem setJ_ev {E:AE} {n t o z:Nat} {M:List (List Nat)} {k l e:X} (hn:n<=5) (h:datOf E 97=some (matD M)) (hs:ShM M n) (hk:ev G T k E=some (.int t)) (hl:ev G T l E=some (.int o)) (he:ev G T e E=some (.int z)) (ht:t < n) (ho:o < n) :
  ex G T W (.setJ 97 k l e) E=some (E.set 97 (.dat (matD (setM M t o z))),none):=by
 have gm:=get_M hs ht
 have h0:=hs.1
 have hg:getAt (.int t) (matD M)=some (intsD (M.getD t [])):=by
  show (if (M.map _).length<=lim then (if (0:Int)<=t/\(t:Int) < (M.map _).length then (M.map _)[(t:Int).toNat]? else none) else none)=_
  rw [List.length_map,if_pos (by show _<=1000000;lia),if_pos (by lia),Int.toNat_natCast,List.getElem?_map,gm.1]
  rfl
 have hp1:putAt (.int o) (.int z) (intsD (M.getD t []))=some (intsD ((M.getD t []).set o z)):=by
  show (if (0:Int)<=o/\(o:Int) < (List.map _ _).length/\(List.map _ _).length<=lim then some (PyData.list ((List.map _ _).set (o:Int).toNat _)) else none)=_
  rw [List.length_map,gm.2,if_pos ⟨by lia,by lia,by show n<=1000000;lia⟩,Int.toNat_natCast]
  unfold intsD
  rw [List.map_set]
 have hp2:putAt (.int t) (intsD ((M.getD t []).set o z)) (matD M)=some (matD (setM M t o z)):=by
  show (if (0:Int)<=t/\(t:Int) < (List.map _ _).length/\(List.map _ _).length<=lim then some (PyData.list ((List.map _ _).set (t:Int).toNat _)) else none)=_
  rw [List.length_map,h0,if_pos ⟨by lia,by lia,by show n<=1000000;lia⟩,Int.toNat_natCast]
  unfold matD setM
  rw [List.map_set]
 rw [ex_q_setJ,he,h,hk,hl]
 dsimp only [Option.bind_some]
 rw [hg]
 dsimp only [Option.bind_some]
 rw [hp1]
 dsimp only [Option.bind_some]
 rw [hp2]
 rfl
theorem pair_step {n:Nat} (hn:n<=5) {tk:List NV} {w:Nat->List Nat} {gap:Nat->Nat->Nat} (hw:∀ t,(w t).length<=1000)
  (hT:∀ t o,t < n->o<=t->T 0 [.dat (S (w t)),.dat (S (w o)),.dat (.int n)]=some (.int (gap t o)))
  (hX:∀ t,t < n->T 0 [.dat (S (120::w 0)),.dat (S (w t)),.dat (.int ((gap t 0+2:Nat):Int))]=some (.int ((gap t 0+2:Nat):Int)))
  {t o:Nat} (ht:t < n) (ho:o<=t) {M:List (List Nat)} {E:AE} (h:PBk E n tk w M) (h84:datOf E 84=some (.int t)) :
  ∃ E1 E2,bindT (.name 63) (.int o) E=some E1/\exs G T W l4_main_b5 E1=some (E2,none)/\(PBk E2 n tk w (setMM M t o (gap t o))/\datOf E2 84=some (.int t)):=by
 refine ⟨E.set 63 (.dat (.int o)),?_⟩
 generalize hE1:E.set 63 (.dat (.int o))=E1
 have i84:datOf E1 84=some (.int t):=by rw [<-hE1];exact h84
 have i63:datOf E1 63=some (.int o):=by rw [<-hE1];exact dat_same
 have i:PBk E1 n tk w M:=by rw [<-hE1];exact ⟨h.e47,h.e106,h.e52,h.e97,h.sh⟩
 have hbt:bindT (.name 63) (.int o) E=some E1:=by rw [<-hE1];rfl
 clear h hE1 h84
 have hon:o < n:=by lia
 have wx:∀ (E9:AE) (y:X) (p:Nat),datOf E9 52=some (.list ((List.range n).map fun t=>S (w t)))->ev G T y E9=some (.int p)->p < n->ev G T (.idx (.var 52) y) E9=some (S (w p)):=by
  intro E9 y p h1 h2 h3
  rw [ev_q_idx,ev_q_var,h1,h2]
  dsimp only [Option.bind_some]
  rw [idx_map h3 (by lia)]
 generalize hE2:E1.set 42 (.dat (.int (gap t o)))=E2
 have s1:ex G T W (.asg 0 42 (.call 0 (.cons (.idx (.var 52) (.var 84)) (.cons (.idx (.var 52) (.var 63)) (.cons (.var 47) .nil))))) E1=some (E2,none):=by
  rw [ex_q_asg,ev_q_call,evs_q_cons,evs_q_cons,evs_q_cons,evs_q_nil,wx E1 _ t i.e52 (by rw [ev_q_var];exact i84) ht,wx E1 _ o i.e52 (by rw [ev_q_var];exact i63) hon,ev_q_var,i.e47]
  have e:=hT t o ht ho
  simp only [Option.bind_some]
  show ((T 0 [.dat (S (w t)),.dat (S (w o)),.dat (.int n)]).bind _)=_
  rw [e,<-hE2]
  rfl
 have j84:datOf E2 84=some (.int t):=by rw [<-hE2];exact i84
 have j63:datOf E2 63=some (.int o):=by rw [<-hE2];exact i63
 have j42:datOf E2 42=some (.int (gap t o)):=by rw [<-hE2];exact dat_same
 have j:PBk E2 n tk w M:=by rw [<-hE2];exact ⟨i.e47,i.e106,i.e52,i.e97,i.sh⟩
 clear hE2 i i84 i63
 have s2:ex G T W (.iff (.isT true (.var 42) 0) (.cons (.ret (.bool false)) .nil) .nil) E2=some (E2,none):=by
  rw [ex_q_iff,ev_q_isT,ev_q_var,j42]
  rfl
 have hg:ev G T (.bin .add (.var 42) (.int 2)) E2=some (.int ((gap t o+2:Nat):Int)):=by
  rw [ev_q_bin,ev_q_var,ev_q_int,j42]
  rfl
 have s3:ex G T W (.iff (.and (.cons (.cmp1 .eq (.var 63) (.int 0)) (.cons (.cmp1 .ne (.call 0 (.cons (.bin .add (.str [120]) (.idx (.var 52) (.int 0))) (.cons (.idx (.var 52) (.var 84)) (.cons (.bin .add (.var 42) (.int 2)) .nil)))) (.bin .add (.var 42) (.int 2))) .nil))) (.cons (.ret (.bool false)) .nil) .nil) E2=some (E2,none):=by
  have hc:ev G T (.and (.cons (.cmp1 .eq (.var 63) (.int 0)) (.cons (.cmp1 .ne (.call 0 (.cons (.bin .add (.str [120]) (.idx (.var 52) (.int 0))) (.cons (.idx (.var 52) (.var 84)) (.cons (.bin .add (.var 42) (.int 2)) .nil)))) (.bin .add (.var 42) (.int 2))) .nil))) E2=some (.bool false):=by
   have c1:ev G T (.cmp1 .eq (.var 63) (.int 0)) E2=some (.bool (decide ((o:Int)=0))):=by
    rw [ev_q_cmp1,ev_q_var,ev_q_int,j63]
    rfl
   rw [ev_q_and,evAnd_q_cons,c1]
   by_cases q:o=0
   ·rw [decide_eq_true (show ((o:Int)=0) by lia)]
    show ev G T (.cmp1 .ne _ _) E2=_
    have e:=hX t ht
    rw [q] at hg
    have hw0:=hw 0
    rw [ev_q_cmp1,ev_q_call,evs_q_cons,evs_q_cons,evs_q_cons,evs_q_nil,ev_q_bin ..,ev_q_str,wx E2 (.int 0) 0 j.e52 (by rw [ev_q_int];rfl) (by lia),wx E2 _ t j.e52 (by rw [ev_q_var];exact j84) ht,hg]
    dsimp only [Option.bind_some,evBin_q_add_str_str]
    rw [if_pos (by show 1+(w 0).length<=1000000;lia)]
    dsimp only [Option.bind_some]
    show ((T 0 [.dat (S (120::w 0)),.dat (S (w t)),.dat (.int ((gap t 0+2:Nat):Int))]).bind _)=_
    rw [e]
    dsimp only [Option.bind_some,evCmp_q_ne_int_int]
    rw [decide_eq_true rfl]
    rfl
   ·rw [decide_eq_false (show ¬ ((o:Int)=0) by lia)]
    rfl
  rw [ex_q_iff,hc]
  rfl
 have s4:=setJ_ev (G:=G) (T:=T) (W:=W) (k:=.var 84) (l:=.var 63) (e:=.var 42) hn j.e97 j.sh (by rw [ev_q_var];exact j84) (by rw [ev_q_var];exact j63) (by rw [ev_q_var];exact j42) ht hon
 generalize hE3:E2.set 97 (.dat (matD (setM M t o (gap t o))))=E3 at s4
 have k84:datOf E3 84=some (.int t):=by rw [<-hE3];exact j84
 have k63:datOf E3 63=some (.int o):=by rw [<-hE3];exact j63
 have k42:datOf E3 42=some (.int (gap t o)):=by rw [<-hE3];exact j42
 have k97:datOf E3 97=some (matD (setM M t o (gap t o))):=by rw [<-hE3];exact dat_same
 have ks:=sh_set (o:=o) (z:=gap t o) j.sh ht
 have s5:=setJ_ev (G:=G) (T:=T) (W:=W) (k:=.var 63) (l:=.var 84) (e:=.var 42) hn k97 ks (by rw [ev_q_var];exact k63) (by rw [ev_q_var];exact k84) (by rw [ev_q_var];exact k42) hon ht
 refine ⟨E3.set 97 (.dat (matD (setMM M t o (gap t o)))),hbt,?_,⟨by rw [<-hE3];exact j.e47,by rw [<-hE3];exact j.e106,by rw [<-hE3];exact j.e52,dat_same,sh_set ks hon⟩,by rw [<-hE3];exact j84⟩
 unfold l4_main_b5
 rw [exs_next s1 rfl,exs_next s2 rfl,exs_next s3 rfl,exs_next s4 rfl,exs_next s5 rfl]
 rfl
noncomputable def rowM (gap:Nat->Nat->Nat) (M:List (List Nat)) (t:Nat):List (List Nat):=(List.range (t+1)).foldl (fun M o=>setMM M t o (gap t o)) M
theorem apart_loop {n:Nat} (hn:n<=5) {tk:List NV} {w:Nat->List Nat} {gap:Nat->Nat->Nat} (hw:∀ t,(w t).length<=1000)
  (hT:∀ t o,t < n->o<=t->T 0 [.dat (S (w t)),.dat (S (w o)),.dat (.int n)]=some (.int (gap t o)))
  (hX:∀ t,t < n->T 0 [.dat (S (120::w 0)),.dat (S (w t)),.dat (.int ((gap t 0+2:Nat):Int))]=some (.int ((gap t 0+2:Nat):Int)))
  {M:List (List Nat)} {E:AE} (h:PBk E n tk w M) :
  ∃ E',forLoop (fun E'=>exs G T W l4_main_b4 E') (fun d E'=>bindT (.name 84) d E') ((List.range n).map fun t:Nat=>.int t) E=some (E',none)/\PBk E' n tk w ((List.range n).foldl (rowM gap) M):=by
 refine for_foldl (fun M E=>PBk E n tk w M) (fun t:Nat=>.int t) (rowM gap) (List.range n) M E (fun t m M E h=>?_) h
 have ht:=List.mem_range.mp m
 generalize hE1:E.set 84 (.dat (.int t))=E1
 have i84:datOf E1 84=some (.int t):=by rw [<-hE1];exact dat_same
 have i:PBk E1 n tk w M:=by rw [<-hE1];exact ⟨h.e47,h.e106,h.e52,h.e97,h.sh⟩
 (refine e1a2 (for_foldl (body:=fun E'=>exs G T W l4_main_b5 E') (bindv:=fun d E'=>bindT (.name 63) d E') (fun M E=>PBk E n tk w M/\datOf E 84=some (.int t)) (fun o:Nat=>.int o) (fun M o=>setMM M t o (gap t o)) (List.range (t+1)) M E1 (fun o m M E h=>pair_step hn hw hT hX ht (Nat.le_of_lt_succ (List.mem_range.mp m)) h.1 h.2) ⟨i,i84⟩) ?_;rintro E2 g1 g2)
 refine ⟨E1,E2,by rw [<-hE1];rfl,?_,g2.1⟩
 unfold l4_main_b4
 rw [exs_next (E1:=E2) (by
  rw [ex_q_forS,rng_ev (m:=t+1) (by rw [ev_q_bin,ev_q_var,ev_q_int,i84];rfl) (by lia),Option.bind_some]
  exact g1) rfl]
 rfl
end
noncomputable def gN (tk:List NV) (t:Nat):List Nat:=(getAll [65+t] tk).map fun l=>l.headD 0 - 97
noncomputable def tsC (tk:List NV) (r:Nat):List Tok:=(arF (gN tk) 5 r (-1)).getD []
noncomputable def stC (n:Nat) (ts:List Tok):RS:=ts.foldl stepO (0,List.replicate n 0,[])
noncomputable def enC (ts:List Tok) (s:RS):List Nat:=s.2.1.map fun a=>s.2.2.foldl (endI ts a) 0
noncomputable def mkC (os es:List Nat) (n t:Nat):Nat:=((List.range n).map fun o=>if os.getD o 0<=os.getD t 0/\os.getD t 0 < es.getD o 0 then 2 ^ o else 0).sum
noncomputable def gapC (os es:List Nat) (n t o:Nat):Nat:=hamN n (mkC os es n t) (mkC os es n o)
noncomputable def maC (gap:Nat->Nat->Nat) (n:Nat):List (List Nat):=(List.range n).foldl (rowM gap) (List.replicate n (List.replicate n 0))
noncomputable def l4_rest:Sts:=(.cons (.asg 0 109 (.comp (.hget 106 (.var 31)) (.name 31) (.val (.slc (.str [97,66,99,68,101]) .none (.var 47) .none)) .nil)) (.cons (.asg 1 110 (.lst .nil)) (.cons (.forS (.name 84) (.rng1 (.var 47)) l4_main_b6) (.cons (.forS (.name 84) (.rng1 (.var 47)) l4_main_b8) (.cons (.ret (.bool true)) .nil)))))
structure TF (T:Nat->List PV->Option PyData):Prop where
 t3:T3K T
 t4:∀ tk g,GTab tk g->∀ pcs:List (List Nat),pcs.length=5->(∀ u∈pcs,u∈menu4)->∀ t a r,arF g 5 t a=some r->T 4 [.hdr tk,.dat (.int t),.dat (.int a),.dat (pcsD pcs)]=some (.list (r.map (rowT (pcF pcs))))
 t5:∀ L os cs,asc L=true->L.length<=100000->(∀ c∈cs,c<=L.length)->os.length<=1000->cs.length<=1000->T 5 [.dat (S L),.dat (intsD os),.dat (intsD cs)]=some (intsD (os.map fun s=>cs.foldl (endS L s) 0))
structure CaseK (n:Nat) (tk:List NV) (r:Nat) (ts:List Tok) (os cs es:List Nat):Prop where
 k:GTab tk (gN tk)
 x:getAll [88] tk=[]
 ar:arF (gN tk) 5 r (-1)=some ts
 tl:ts.length<=100
 hd:ts.head?=some (some r)
 bal:balT (ts.tail++[some 9]) 0=false
 st:∀ t,some t∈ts->t < n
 fo:stC n ts=(ts.length,os,cs)
 cl:cs.length=n
 ol:os.length=n
 cle:∀ c∈cs,c<=ts.length
 ole:∀ a∈os,a<=ts.length
 ele:∀ e∈es,e<=ts.length
 e0:∀ e∈es,e≠0
 en:enC ts (ts.length,os,cs)=es
section
variable {G:Nat->Option Int} {T:Nat->List PV->Option PyData} {W:Nat}
structure CaseT (G:Nat->Option Int) (T:Nat->List PV->Option PyData) (W:Nat) (n:Nat) (tk:List NV) (w:Nat->List Nat) (gap:Nat->Nat->Nat):Prop where
 t0:∀ t o,t < n->o<=t->T 0 [.dat (S (w t)),.dat (S (w o)),.dat (.int n)]=some (.int (gap t o))
 tx:∀ t,t < n->T 0 [.dat (S (120::w 0)),.dat (S (w t)),.dat (.int ((gap t 0+2:Nat):Int))]=some (.int ((gap t 0+2:Nat):Int))
 rest:∀ E0:AE,Ends G T W l4_rest (((E0.set 47 (.dat (.int n))).set 97 (.dat (matD (maC gap n)))).set 106 (.hdr tk))
theorem or_false {x y:X} {xs:Xs} {E:AE} (h:ev G T x E=some (.bool false)):evOr G T (.cons x (.cons y xs)) E=evOr G T (.cons y xs) E:=by
 rw [evOr_q_cons,h]
 rfl
theorem or_one {x:X} {E:AE}:evOr G T (.cons x .nil) E=ev G T x E:=rfl
theorem set_eta {E:AE} {i:Nat} {x:PV} (h:E i=some x):E.set i x=E:=by
 funext j
 unfold AE.set
 by_cases q:j=i
 ·rw [if_pos q,q,h]
 ·rw [if_neg q]
theorem rest_of {n:Nat} {tk:List NV} {w:Nat->List Nat} {gap:Nat->Nat->Nat} (h:CaseT G T W n tk w gap) {E:AE} (b:PBk E n tk w (maC gap n)):Ends G T W l4_rest E:=by
 have:=h.rest E
 rwa [set_eta (dat_of3 b.e47),set_eta (dat_of3 b.e97),set_eta b.e106] at this
theorem cl_asc {l:List Nat} (h:clean l=true):asc l=true:=by
 unfold clean at h
 rw [Bool.and_eq_true] at h
 refine List.all_eq_true.mpr fun c hc=>?_
 have:=List.all_eq_true.mp h.1 c hc
 rw [Bool.and_eq_true,Nat.blt_eq] at this
 rw [Nat.blt_eq]
 lia
theorem names_asc {tk:List NV} (h:cleanH tk=true):∀ l∈tk.map (·.1),asc l=true:=by
 intro l hl
 (refine e1a2 (List.mem_map.mp hl) ?_;rintro p hp rfl)
 unfold cleanH at h
 rw [Bool.and_eq_true] at h
 have:=List.all_eq_true.mp h.1 p hp
 rw [Bool.and_eq_true] at this
 exact cl_asc this.1
theorem getD_menu {pcs:List (List Nat)} (h:∀ u∈pcs,u∈menu4) (t:Nat):pcF pcs t∈menu4:=by
 show pcs.getD t []∈menu4
 by_cases q:t < pcs.length
 ·exact h _ (List.mem_of_getElem? (get_D' q))
 ·rw [List.getD_eq_getElem?_getD,List.getElem?_eq_none (by lia)]
  exact List.mem_cons_self
theorem sum_nat:∀ xs:List Nat,sumI (xs.map fun p:Nat=>PyData.int p)=some (xs.sum:Nat)
 | []=>rfl
 | x::xs=>by rw [List.map_cons,sumI,sum_nat xs,List.sum_cons];rfl
theorem no_zero {es:List Nat} (h:∀ e∈es,e≠0):evCmp .isin (.int 0) (intsD es)=some false:=by
 unfold intsD
 rw [evCmp_q_isin_list,if_pos ⟨by have:=okD_ints (es.map fun p:Nat=>(p:Int));rw [List.map_map] at this;exact this,rfl⟩]
 congr 1
 rw [Bool.eq_false_iff]
 intro q
 (refine e1a2 (List.any_eq_true.mp q) ?_;rintro d hd q2)
 (refine e1a2 (List.mem_map.mp hd) ?_;rintro e he rfl)
 rw [PyData.eqv] at q2
 exact h e he (by have:=beq_iff_eq.mp q2;lia)
theorem first_last {pc:Nat->List Nat} (hpc:∀ t,pc t∈menu4) (h9:pc 9=[]) {ts us:List Tok} {r:Nat} (h:ts=some r::us) (hb:balT (us++[some 9]) 0=false):chkGo (stripS ((txT pc ts).drop 1++[40])) false 0=false:=by
 have e:(txT pc ts).drop 1++[40]=(pc r::(us++[some 9]).flatMap (tkU pc)).flatten:=by
  rw [h,tx_cons,List.flatMap_append,List.flatten_cons,List.flatten_append]
  show (([40]++(pc r++[]))++txT pc us).drop 1++[40]=pc r++(txT pc us++([40]++(pc 9++[])))
  rw [h9,List.append_nil,List.append_assoc]
  show (pc r++txT pc us)++[40]=pc r++(txT pc us++[40])
  rw [List.append_assoc]
 have hu:∀ u∈pc r::(us++[some 9]).flatMap (tkU pc),UnitOK u:=by
  intro u hu
  rcases List.mem_cons.mp hu with rfl | m
  ·exact .inl (hpc r)
  ·exact units_ok hpc _ u m
 have f:=menu_facts (hpc r)
 rw [e,chk_units hu,balU,stepU,if_neg f.2.2.1,if_neg f.2.2.2,bal_tok hpc,hb]
theorem word_pos {pc:Nat->List Nat} (hpc:∀ t,pc t∈menu4) {ts:List Tok} {os es:List Nat} (ho:∀ a∈os,a<=ts.length) (he:∀ a∈es,a<=ts.length) (n t:Nat):wordL (os.map (pos pc ts)) (es.map (pos pc ts)) n t=wordL os es n t:=by
 have g:∀ (l:List Nat) (i:Nat),(∀ a∈l,a<=ts.length)->(l.map (pos pc ts)).getD i 0=pos pc ts (l.getD i 0)/\l.getD i 0<=ts.length:=by
  intro l i hl
  by_cases q:i < l.length
  ·have e:=get_D q
   refine ⟨?_,hl _ (List.mem_of_getElem? e)⟩
   rw [List.getD_eq_getElem?_getD,List.getElem?_map,e]
   rfl
  ·rw [List.getD_eq_getElem?_getD,List.getD_eq_getElem?_getD,List.getElem?_map,List.getElem?_eq_none (by lia)]
   exact ⟨rfl,Nat.zero_le _⟩
 unfold wordL
 refine List.map_congr_left fun o u_=>?_
 unfold letL
 have g1:=g os o ho
 have g2:=g os t ho
 have g3:=g es o he
 rw [g1.1,g2.1,g3.1]
 have q1:=pos_lt_iff hpc g2.2 g1.2
 have q2:=pos_lt_iff hpc g2.2 g3.2
 by_cases h:os.getD o 0<=os.getD t 0/\os.getD t 0 < es.getD o 0
 ·rw [if_pos h,if_pos ⟨Nat.le_of_not_lt fun h2=>absurd (q1.mp h2) (by lia),q2.mpr h.2⟩]
 ·rw [if_neg h,if_neg fun h2=>h ⟨Nat.le_of_not_lt fun h3=>absurd (q1.mpr h3) (by lia),q2.mp h2.2⟩]
theorem rows_run (F:TF T) {n:Nat} (hn:n=4\/n=5) {tk:List NV} {r:Nat} (hr:r < n) {ts:List Tok} {os cs es:List Nat} (C:CaseK n tk r ts os cs es) {gap:Nat->Nat->Nat} (CT:CaseT G T W n tk (wordL os es n) gap)
  {xs:List Nat} (hx:xs.length=4) {pcs:List (List Nat)} (hp:pcs.length=5) (hm:∀ u∈pcs,u∈menu4) (hrs:xs.sum % n=r) {E:AE} (h45:datOf E 45=some (intsD xs)) (h47:datOf E 47=some (.int n)) (h106:E 106=some (.hdr tk)) (h76:datOf E 76=some (pcsD pcs)) :
  Ends G T W (.cons (.asg 1 21 (.bin .mul (.lst (.cons (.int 0) .nil)) (.var 47))) (.cons (.asg 1 28 (.lst .nil)) (.cons (.asg 0 36 (.str [])) (.cons (.forS (.tup [84,7]) (.val (.callh 4 106 (.cons (.bin .mod (.p1 .sum (.var 45)) (.var 47)) (.cons (.neg 1) (.cons (.var 76) .nil))))) l4_main_b2) (.cons (.frz 21) (.cons (.frz 28) (.cons (.asg 0 87 (.call 5 (.cons (.var 36) (.cons (.var 21) (.cons (.var 28) .nil))))) (.cons (.iff (.or (.cons (.cmp1 .ne (.p1 .len (.var 28)) (.var 47)) (.cons (.cmp1 .isin (.int 0) (.var 87)) (.cons (.isC true (.call 3 (.cons (.bin .add (.slc (.var 36) (.int 1) .none .none) (.str [40])) .nil)) (.bool false)) .nil)))) (.cons (.ret (.bool false)) .nil) .nil) (.cons (.asg 1 52 (.lst .nil)) (.cons (.forS (.name 84) (.rng1 (.var 47)) l4_main_b3) (.cons (.asg 2 97 (.comp (.bin .mul (.lst (.cons (.int 0) .nil)) (.var 47)) (.name 84) (.rng1 (.var 47)) .nil)) (.cons (.forS (.name 84) (.rng1 (.var 47)) l4_main_b4) l4_rest)))))))))))) E:=by
 have hn5:n<=5:=or45 (P:=fun n=>n<=5) (by decide) (by decide) hn
 have hpc:=getD_menu hm
 have h9:pcF pcs 9=[]:=by
  show pcs.getD 9 []=[]
  rw [List.getD_eq_getElem?_getD,List.getElem?_eq_none (by lia)]
  rfl
 have h4:=F.t4 tk (gN tk) C.k pcs hp hm r (-1) ts C.ar
 generalize pcF pcs=pc at hpc h9 h4
 have hz:∀ E9:AE,datOf E9 47=some (.int n)->ev G T (.bin .mul (.lst (.cons (.int 0) .nil)) (.var 47)) E9=some (intsD (List.replicate n 0)):=by
  intro E9 h9
  rw [ev_q_bin,ev_q_lst,evs_q_cons,evs_q_nil,ev_q_int,ev_q_var,h9]
  exact or45 (P:=fun m=>((some (PyData.list [.int 0])).bind fun x=>(some (PyData.int (m:Int))).bind fun y=>evBin .mul x y)=some (intsD (List.replicate m 0))) rfl rfl hn
 generalize hE1:((E.set 21 (.dat (intsD (List.replicate n 0)))).set 28 (.dat (.list []))).set 36 (.dat (S []))=E1
 refine next_st (E1:=E.set 21 (.dat (intsD (List.replicate n 0)))) (by rw [ex_q_asg,hz E h47];rfl) ?_
 refine next_st (E1:=(E.set 21 (.dat (intsD (List.replicate n 0)))).set 28 (.dat (.list []))) (by rw [ex_q_asg,ev_q_lst,evs_q_nil];rfl) ?_
 refine next_st (E1:=E1) (by rw [ex_q_asg,ev_q_str,<-hE1];rfl) ?_
 have hpr:(List.replicate n 0).map (pos pc ts)=List.replicate n 0:=by rw [List.map_replicate];rfl
 have i:RB E1 n tk pc ts (0,List.replicate n 0,[]):=by
  rw [<-hE1]
  exact ⟨h47,h106,dat_same,by rw [hpr];rfl,rfl,List.length_replicate,Nat.le_refl _⟩
 have i45:datOf E1 45=some (intsD xs):=by rw [<-hE1];exact h45
 have i76:datOf E1 76=some (pcsD pcs):=by rw [<-hE1];exact h76
 have i47:=i.e47
 clear hE1 h45 h47 h106 h76 hz
 clear E
 (refine e1a2 (row_loop (G:=G) (T:=T) (W:=W) hpc (by have:=C.tl;lia) hn5 C.st ts (0,List.replicate n 0,[]) E1 rfl i) ?_;rintro E2 g1 g2)
 rw [show ts.foldl stepO (0,List.replicate n 0,[])=(ts.length,os,cs) from C.fo] at g2
 have hsum:ev G T (.bin .mod (.p1 .sum (.var 45)) (.var 47)) E1=some (.int r):=by
  have hs:ev G T (.p1 .sum (.var 45)) E1=some (.int (xs.sum:Nat)):=by
   rw [ev_q_p1,ev_q_var,i45]
   show ((sumI (xs.map fun p:Nat=>PyData.int p)).bind _)=_
   rw [sum_nat]
   rfl
  rw [ev_q_bin,hs,ev_q_var,i47]
  dsimp only [Option.bind_some,evBin_q_mod_int_int]
  rw [if_pos ⟨by lia,by show (n:Int)<=1000000;lia⟩,<-hrs]
  rfl
 refine next_st (E1:=E2) (by
  rw [ex_q_forS,evIt_q_val,ev_q_callh,show hdrOf E1 106=some tk by unfold hdrOf;rw [i.e106],evs_q_cons,evs_q_cons,evs_q_cons,evs_q_nil,hsum,ev_q_neg,ev_q_var,i76]
  simp only [Option.bind_some]
  show (((T 4 [.hdr tk,.dat (.int r),.dat (.int (-1)),.dat (pcsD pcs)]).bind _).bind _)=_
  rw [h4]
  dsimp only [Option.bind_some,items_q_list]
  rw [List.length_map,if_pos (by have:=C.tl;show _<=1000000;lia),Option.bind_some]
  exact g1) ?_
 clear i i45 i76 i47 hsum h4 g1 hrs
 clear E1
 refine next_st (E1:=E2) (by rw [ex_q_frz]) (next_st (E1:=E2) (by rw [ex_q_frz]) ?_)
 have tf:=tx_facts hpc ts
 have tl:=C.tl
 have ht:ts.take ts.length=ts:=List.take_length
 have g36:datOf E2 36=some (S (txT pc ts)):=by have:=g2.e36;rwa [show (ts.length,os,cs).1=ts.length from rfl,ht] at this
 have g21:datOf E2 21=some (intsD (os.map (pos pc ts))):=g2.e21
 have g28:datOf E2 28=some (intsD (cs.map (pos pc ts))):=g2.e28
 have g47:=g2.e47
 have g106:=g2.e106
 clear g2
 have h5:=F.t5 (txT pc ts) (os.map (pos pc ts)) (cs.map (pos pc ts)) tf.1 (by lia) (fun c hc=>by
  (refine e1a2 (List.mem_map.mp hc) ?_;rintro x hx rfl)
  exact pos_len hpc (C.cle x hx)) (by rw [List.length_map,C.ol];lia) (by rw [List.length_map,C.cl];lia)
 have hen:((os.map (pos pc ts)).map fun s=>(cs.map (pos pc ts)).foldl (endS (txT pc ts) s) 0)=es.map (pos pc ts):=by
  rw [<-C.en]
  unfold enC
  rw [List.map_map,List.map_map]
  refine List.map_congr_left fun a ha=>?_
  exact ends_I hpc (C.ole a ha) cs 0 (Nat.zero_le _) C.cle
 rw [hen] at h5
 generalize hE3:E2.set 87 (.dat (intsD (es.map (pos pc ts))))=E3
 refine next_st (E1:=E3) (by
  rw [ex_q_asg,ev_q_call,evs_q_cons,evs_q_cons,evs_q_cons,evs_q_nil,ev_q_var,ev_q_var,ev_q_var,g36,g21,g28]
  simp only [Option.bind_some]
  show ((T 5 [.dat (S (txT pc ts)),.dat (intsD (os.map (pos pc ts))),.dat (intsD (cs.map (pos pc ts)))]).bind _)=_
  rw [h5,<-hE3]
  rfl) ?_
 have k36:datOf E3 36=some (S (txT pc ts)):=by rw [<-hE3];exact g36
 have k21:datOf E3 21=some (intsD (os.map (pos pc ts))):=by rw [<-hE3];exact g21
 have k28:datOf E3 28=some (intsD (cs.map (pos pc ts))):=by rw [<-hE3];exact g28
 have k47:datOf E3 47=some (.int n):=by rw [<-hE3];exact g47
 have k106:E3 106=some (.hdr tk):=by rw [<-hE3];exact g106
 have k87:datOf E3 87=some (intsD (es.map (pos pc ts))):=by rw [<-hE3];exact dat_same
 clear hE3 g36 g21 g28 g47 g106 h5 hen
 clear E2
 have hel:es.length=n:=by rw [<-C.en];unfold enC;rw [List.length_map];exact C.ol
 have d1:ev G T (.cmp1 .ne (.p1 .len (.var 28)) (.var 47)) E3=some (.bool false):=by
  have hl:ev G T (.p1 .len (.var 28)) E3=some (.int n):=by
   rw [ev_q_p1,ev_q_var,k28]
   unfold intsD
   dsimp only [Option.bind_some,evP1_q_len_list]
   rw [List.length_map,List.length_map,C.cl,if_pos (by show _<=1000000;lia)]
  rw [ev_q_cmp1,hl,ev_q_var,k47]
  dsimp only [Option.bind_some,evCmp_q_ne_int_int]
  rw [decide_eq_true rfl]
  rfl
 have d2:ev G T (.cmp1 .isin (.int 0) (.var 87)) E3=some (.bool false):=by
  rw [ev_q_cmp1,ev_q_int,ev_q_var,k87]
  dsimp only [Option.bind_some]
  rw [no_zero fun e he=>by
   (refine e1a2 (List.mem_map.mp he) ?_;rintro x hx rfl)
   exact fun q=>C.e0 x hx ((pos_zero hpc (C.ele x hx)).mp q)]
  rfl
 have d3:ev G T (.isC true (.call 3 (.cons (.bin .add (.slc (.var 36) (.int 1) .none .none) (.str [40])) .nil)) (.bool false)) E3=some (.bool false):=by
  have hu:∃ us,ts=some r::us/\balT (us++[some 9]) 0=false:=by
   have a:=C.hd
   have b:=C.bal
   cases ts with
   | nil=>exact nso a
   | cons o us=>exact ⟨us,by rw [Option.some.inj a],b⟩
  (refine e1a2 hu ?_;rintro us u1 u2)
  have fl:=first_last hpc h9 u1 u2
  have l1:1<=(txT pc ts).length:=by
   rw [u1,tx_cons,List.length_append]
   have:=(tk_facts hpc (some r)).2.2
   lia
  have hs:evSlc (S (txT pc ts)) (.int 1) .none .none=some (S ((txT pc ts).drop 1)):=by
   have hl:(txT pc ts).length<=lim:=by show _<=1000000;lia
   simp only [evSlc_q_str_none,sl]
   rw [if_pos hl,show bnd (.int 1) 0 (txT pc ts).length=some (min 1 (txT pc ts).length) from (bnd_nat 1 _).1]
   show some (S (cut (min 1 (txT pc ts).length) (txT pc ts).length (txT pc ts)))=_
   unfold cut
   rw [List.take_length,Nat.min_eq_left l1]
  have hd1:((txT pc ts).drop 1++[40]).length<=100000:=by
   rw [List.length_append,List.length_drop]
   show _+1<=_
   lia
  have hsum:ev G T (.bin .add (.slc (.var 36) (.int 1) .none .none) (.str [40])) E3=some (S ((txT pc ts).drop 1++[40])):=by
   rw [ev_q_bin,ev_q_slc,ev_q_var,ev_q_int,ev_q_none,ev_q_str,k36]
   dsimp only [Option.bind_some]
   rw [hs]
   dsimp only [Option.bind_some,evBin_q_add_str_str]
   rw [if_pos (by
    show ((txT pc ts).drop 1).length+1<=1000000
    rw [List.length_drop];lia)]
  have hcall:ev G T (.call 3 (.cons (.bin .add (.slc (.var 36) (.int 1) .none .none) (.str [40])) .nil)) E3=some (.bool false):=by
   rw [ev_q_call,evs_q_cons,evs_q_nil,hsum]
   simp only [Option.bind_some]
   show T 3 [.dat (S ((txT pc ts).drop 1++[40]))]=_
   rw [F.t3 _ (by
    rw [asc_app]
    have:asc ((txT pc ts).drop 1)=true:=List.all_eq_true.mpr fun x m=>List.all_eq_true.mp tf.1 x (List.mem_of_mem_drop m)
    rw [this];rfl) hd1,fl]
  rw [ev_q_isC,hcall,ev_q_bool]
  rfl
 refine next_st (E1:=E3) (by
  rw [ex_q_iff,ev_q_or,or_false d1,or_false d2,or_one,d3]
  rfl) ?_
 clear d1 d2 d3 k36 k28 tf
 have hwp:∀ t,wordL (os.map (pos pc ts)) (es.map (pos pc ts)) n t=wordL os es n t:=word_pos hpc C.ole C.ele n
 have lo:(os.map (pos pc ts)).length=n:=by rw [List.length_map];exact C.ol
 have le:(es.map (pos pc ts)).length=n:=by rw [List.length_map];exact hel
 generalize os.map (pos pc ts)=ops at k21 hwp lo
 generalize es.map (pos pc ts)=eps at k87 hwp le
 generalize hw:wordL os es n=w at CT hwp
 have wl:∀ t,(w t).length<=1000:=fun t=>by rw [<-hw];unfold wordL;rw [List.length_map,List.length_range];lia
 clear hw C
 generalize hE4:E3.set 52 (.dat (.list []))=E4
 refine next_st (E1:=E4) (by rw [ex_q_asg,ev_q_lst,evs_q_nil,<-hE4];rfl) ?_
 have o4:OB E4 n tk ops eps []:=by
  rw [<-hE4]
  exact ⟨k47,k106,k21,k87,dat_same⟩
 clear hE4 k47 k106 k21 k87
 clear E3
 (refine e1a2 (word_loop (G:=G) (T:=T) (W:=W) hn5 lo le (List.range n) [] E4 (fun t m=>List.mem_range.mp m) (by rw [List.length_nil,List.length_range];lia) o4) ?_;rintro E5 g1 g2)
 refine next_st (E1:=E5) (by
  rw [ex_q_forS,rng_ev (m:=n) (by rw [ev_q_var];exact o4.e47) (by lia),Option.bind_some]
  exact g1) ?_
 have hws:([]++(List.range n).map (wordL ops eps n)).map S=(List.range n).map fun t=>S (w t):=by
  rw [List.nil_append,List.map_map]
  exact List.map_congr_left fun t u_=>congrArg S (hwp t)
 have e52:=g2.e52
 rw [hws] at e52
 have e47:=g2.e47
 have e106:=g2.e106
 clear g1 g2 hws o4
 clear E4
 have hma:ev G T (.comp (.bin .mul (.lst (.cons (.int 0) .nil)) (.var 47)) (.name 84) (.rng1 (.var 47)) .nil) E5=some (matD (List.replicate n (List.replicate n 0))):=by
  rw [comp_rng (m:=n) (f:=fun u_=>intsD (List.replicate n 0)) (by rw [ev_q_var];exact e47) (by lia) fun p u_=>by
   rw [ev_q_bin,ev_q_lst,evs_q_cons,evs_q_nil,ev_q_int,ev_q_var,dat_other (by decide),e47]
   exact or45 (P:=fun m=>((some (PyData.list [.int 0])).bind fun x=>(some (PyData.int (m:Int))).bind fun y=>evBin .mul x y)=some (intsD (List.replicate m 0))) rfl rfl hn]
  exact or45 (P:=fun n=>some (PyData.list ((List.range n).map fun u_=>intsD (List.replicate n 0)))=some (matD (List.replicate n (List.replicate n 0)))) rfl rfl hn
 generalize hE6:E5.set 97 (.dat (matD (List.replicate n (List.replicate n 0))))=E6
 refine next_st (E1:=E6) (by
  rw [ex_q_asg,hma,<-hE6]
  exact or45 (P:=fun n=>((some (matD (List.replicate n (List.replicate n 0)))).bind fun d=>if asgOk 2 d=true then some (E5.set 97 (.dat d),(none:Option PyData)) else none)=some (E5.set 97 (.dat (matD (List.replicate n (List.replicate n 0)))),none)) rfl rfl hn) ?_
 have p6:PBk E6 n tk w (List.replicate n (List.replicate n 0)):=by
  rw [<-hE6]
  exact ⟨e47,e106,e52,dat_same,List.length_replicate,fun r hr=>by rw [(List.mem_replicate.mp hr).2];exact List.length_replicate⟩
 clear hE6 e47 e106 e52 hma
 clear E5
 (refine e1a2 (apart_loop (G:=G) (W:=W) hn5 wl CT.t0 CT.tx p6) ?_;rintro E7 g1 g2)
 exact next_st (E1:=E7) (by
  rw [ex_q_forS,rng_ev (m:=n) (by rw [ev_q_var];exact p6.e47) (by lia),Option.bind_some]
  exact g1) (rest_of CT g2)
end
noncomputable def pF (a b c:Nat):Nat->Nat:=fun t=>[0,0,a,b,c].getD t 0
noncomputable def osC (n:Nat) (tk:List NV) (r:Nat):List Nat:=(stC n (tsC tk r)).2.1
noncomputable def csC (n:Nat) (tk:List NV) (r:Nat):List Nat:=(stC n (tsC tk r)).2.2
noncomputable def esC (n:Nat) (tk:List NV) (r:Nat):List Nat:=enC (tsC tk r) (stC n (tsC tk r))
section
variable {G:Nat->Option Int} {T:Nat->List PV->Option PyData} {W:Nat}
noncomputable def CaseAll (G:Nat->Option Int) (T:Nat->List PV->Option PyData) (W:Nat) (n a b c r:Nat):Prop :=
 CaseK n (tkN (pF a b c) n) r (tsC (tkN (pF a b c) n) r) (osC n (tkN (pF a b c) n) r) (csC n (tkN (pF a b c) n) r) (esC n (tkN (pF a b c) n) r) /\
 CaseT G T W n (tkN (pF a b c) n) (wordL (osC n (tkN (pF a b c) n) r) (esC n (tkN (pF a b c) n) r) n) (gapC (osC n (tkN (pF a b c) n) r) (esC n (tkN (pF a b c) n) r) n)
theorem menu_lt (x:Nat):x / 12 % 5 < menu4.length:=Nat.mod_lt _ (by decide:0 < 5)
theorem main_run4' (F:TF T) (KC:∀ n a b c r,n=4\/n=5->a < 2->b < 3->c < 4->r < n->CaseAll G T W n a b c r) (ns:List Int) (hns:ns.length<=63) :
  runFn G T W l4_main_ps l4_main_fn [.dat (.list (ns.map PyData.int))]=some (.bool true):=by
 refine e1a1 (?_:Ends G T W l4_main_fn (AE.set (fun u_=>none) 43 (.dat (.list (ns.map PyData.int))))) fun E' h=>by
  show ((exs G T W l4_main_fn (AE.set (fun u_=>none) 43 (.dat (.list (ns.map PyData.int))))).bind fun p=>p.2)=_
  rw [h];rfl
 generalize hE0:AE.set (fun u_=>none) 43 (.dat (.list (ns.map PyData.int)))=E0
 have e43:datOf E0 43=some (.list (ns.map PyData.int)):=by rw [<-hE0];rfl
 clear hE0
 have hnl:ns.length<=lim:=by show _<=1000000;lia
 generalize hms:ns.take (min 60 ns.length)=ms
 have hml:ms.length<=60:=by rw [<-hms,List.length_take];lia
 have hml':ms.length<=lim:=by show _<=1000000;lia
 unfold l4_main_fn
 refine next_asg (d:=.list (ms.map PyData.int)) (by
  (rw [ev_q_slc,ev_q_var,ev_q_none,ev_q_int,e43];dsimp only [Option.bind_some,evSlc_q_list_none])
  rw [List.length_map,if_pos hnl,show bnd .none 0 ns.length=some 0 from rfl,Option.bind_some,(show bnd (.int 60) ns.length ns.length=some (min 60 ns.length) from (bnd_nat 60 _).2 _),Option.bind_some]
  unfold cut
  rw [List.drop_zero,<-List.map_take,hms]) fun E1 hE=>?_
 have e44:E1 44=some (.dat (.list (ms.map PyData.int))):=by rw [hE];exact set_same
 (clear hE e43 hms;clear E0)
 (refine e4a1 (sums_ev4 (G:=G) (T:=T) hml' e44) ?_;rintro x0 x1 x2 x3 hsum)
 generalize hxs:[x0,x1,x2,x3]=xs at hsum
 refine next_asg hsum fun E2 hE=>?_
 have f44:datOf E2 44=some (.list (ms.map PyData.int)):=(dat_set hE (by decide)).trans (by unfold datOf;rw [e44])
 have f45:datOf E2 45=some (intsD xs):=dat_set' hE
 (clear hE hsum e44;clear E1)
 have hn:∃ n:Nat,(n=4\/n=5)/\ev G T (.ite (.cmp1 .gt (.p1 .len (.var 44)) (.int 3)) (.int 5) (.int 4)) E2=some (.int n):=by
  have ht:ev G T (.cmp1 .gt (.p1 .len (.var 44)) (.int 3)) E2=some (.bool (decide ((3:Int) < (ms.length:Int)))):=by
   rw [ev_q_cmp1,ev_q_p1,ev_q_var,ev_q_int,f44]
   dsimp only [Option.bind_some,evP1_q_len_list]
   rw [List.length_map,if_pos hml']
   rfl
  rw [ev_q_ite,ht]
  dsimp only [Option.bind_some,tr_q_bool]
  cases decide ((3:Int) < (ms.length:Int)) with
  | true=>exact ⟨5,.inr rfl,by rw [ev_q_int];rfl⟩
  | false=>exact ⟨4,.inl rfl,by rw [ev_q_int];rfl⟩
 (refine e1a2 hn ?_;clear hn f44 hml';rintro n hm hnev)
 have hn5:n<=5:=or45 (P:=fun m=>m<=5) (by decide) (by decide) hm
 have hxl:xs.length=4:=by rw [<-hxs];rfl
 have hP:∀ t,1<=t->t < 5->pF (x1 % 2) (x2 % 3) (x3 % 4) t=xs.getD (t - 1) 0 % t:=by
  intro t h1 h2
  rw [<-hxs]
  rcases lt5 h2 with rfl | rfl | rfl | rfl | rfl
  ·exact absurd h1 (by decide)
  ·exact (Nat.mod_one x0).symm
  ·rfl
  ·rfl
  ·rfl
 have C:=KC n (x1 % 2) (x2 % 3) (x3 % 4) (xs.sum % n) hm (Nat.mod_lt _ (by decide)) (Nat.mod_lt _ (by decide)) (Nat.mod_lt _ (by decide)) (Nat.mod_lt _ (by lia))
 unfold CaseAll at C
 generalize pF (x1 % 2) (x2 % 3) (x3 % 4)=P at hP C
 clear hxs
 obtain ⟨C1,C2⟩:=C
 refine next_asg hnev fun E3 hE=>?_
 have g45:=(dat_set hE (by decide)).trans f45
 have g47:=dat_set' hE
 (clear hE f45 hnev;clear E2)
 generalize hE4:(E3.set 106 (.hdr [])).set 75 (.dat (.list []))=E4
 refine next_st (E1:=E3.set 106 (.hdr [])) (by rw [ex_q_asgH]) (next_st (E1:=E4) (by rw [ex_q_asg,ev_q_lst,evs_q_nil,<-hE4];rfl) ?_)
 have b4:NB E4 n xs []:=by
  rw [<-hE4]
  exact ⟨g45,g47,dat_same,rfl,Nat.zero_le _⟩
 (clear hE4 g45 g47;clear E3)
 (refine e1a2 (near_loop (G:=G) (T:=T) (W:=W) hxl hP (thingsN n) [] E4 (fun t ht=>by
  (refine e1a2 (List.mem_map.mp ht) ?_;rintro i hi rfl)
  have:=List.mem_range.mp hi
  exact ⟨by lia,by lia⟩) (by unfold thingsN;rw [List.length_map,List.length_range,List.length_nil];lia) b4) ?_;rintro E5 q1 b5)
 change NB E5 n xs (tkN P n) at b5
 refine next_st (E1:=E5) (by
  have hit:evIt G T (.rng2 (.int 1) (.var 47)) E4=some ((thingsN n).map fun t:Nat=>.int t):=by
   rw [evIt_q_rng2,ev_q_int,ev_q_var,b4.e47]
   exact or45 (P:=fun n:Nat=>((some (PyData.int 1)).bind fun x=>(intOf x).bind fun n'=>(some (PyData.int (n:Int))).bind fun y=>(intOf y).bind fun k=>if -100000<=n'/\n'<=100000/\-100000<=k/\k<=100000 then some (rngL n' 1 (k - n').toNat) else none)=some ((thingsN n).map fun t:Nat=>.int t)) rfl rfl hm
  rw [ex_q_forS,hit,Option.bind_some]
  exact q1) ?_
 (clear b4 q1;clear E4)
 generalize tkN P n=tk at C1 C2 b5
 refine next_st (E1:=E5) (by
  have h1:hdrOf E5 106=some tk:=by unfold hdrOf;rw [b5.e106]
  have c1:ev G T (.cmp1 .ne (.hkeys 106) (.var 75)) E5=some (.bool false):=by
   have hk:ev G T (.hkeys 106) E5=some (namesD tk):=by
    rw [ev_q_hkeys,h1,Option.bind_some,if_pos C1.k.cl]
    rfl
   rw [ev_q_cmp1,hk,ev_q_var,b5.e75]
   dsimp only [Option.bind_some]
   have:=okD_strs (names_asc C1.k.cl)
   rw [List.map_map] at this
   rw [show evCmp .ne (namesD tk) (namesD tk)=some false from same_ne this]
   rfl
  have c2:ev G T (.cmp1 .ne (.hget 106 (.str [88])) (.lst .nil)) E5=some (.bool false):=by
   rw [ev_q_cmp1,hget_at b5.e106 (n:=[88]) (by rw [ev_q_str]) (by rfl) C1.k.cl,C1.x,ev_q_lst,evs_q_nil]
   rfl
  rw [ex_q_iff,ev_q_or,or_false c1,or_one,c2]
  rfl) ?_
 refine next_asg (d:=.list (menu4.map S)) (by
  rw [ev_q_lst,evs_q_cons,evs_q_cons,evs_q_cons,evs_q_cons,evs_q_cons,evs_q_nil,ev_q_str,ev_q_str,ev_q_str,ev_q_str,ev_q_str]
  rfl) fun E6 hE=>?_
 have h45:=(dat_set hE (by decide)).trans b5.e45
 have h47:=(dat_set hE (by decide)).trans b5.e47
 have h106:E6 106=some (.hdr tk):=by rw [hE];exact (set_other (by decide)).trans b5.e106
 have h108:=dat_set' hE
 (clear hE b5;clear E5)
 generalize hpcs:(xs.sum::xs).map (fun x=>menu4.getD (x / 12 % 5) [])=pcs
 have hpe:ev G T (.comp (.idx (.var 108) (.bin .mod (.bin .fdiv (.var 48) (.int 12)) (.int 5))) (.name 48) (.val (.bin .add (.lst (.cons (.p1 .sum (.var 45)) .nil)) (.var 45))) .nil) E6=some (pcsD pcs):=by
  have hs:ev G T (.p1 .sum (.var 45)) E6=some (.int (xs.sum:Nat)):=by
   rw [ev_q_p1,ev_q_var,h45]
   show ((sumI (xs.map fun p:Nat=>PyData.int p)).bind _)=_
   rw [sum_nat]
   rfl
  have hit:evIt G T (.val (.bin .add (.lst (.cons (.p1 .sum (.var 45)) .nil)) (.var 45))) E6=some ((xs.sum::xs).map fun p:Nat=>.int p):=by
   rw [evIt_q_val,ev_q_bin,ev_q_lst,evs_q_cons,evs_q_nil,hs,ev_q_var,h45]
   unfold intsD
   dsimp only [Option.bind_some,evBin_q_add_list_list]
   rw [List.length_map,hxl,if_pos (show [PyData.int (xs.sum:Nat)].length+4<=lim by show 1+4<=1000000;decide),Option.bind_some,items_q_list,List.length_append,List.length_map,hxl,if_pos (show [PyData.int (xs.sum:Nat)].length+4<=lim by show 1+4<=1000000;decide)]
   rfl
  rw [comp_all (f:=fun d=>match d with | .int z=>S (menu4.getD (z.toNat / 12 % 5) []) | _=>.none) hit fun d hd=>?_]
  ·rw [List.map_map,<-hpcs]
   unfold pcsD
   rw [List.map_map]
   rfl
  ·(refine e1a2 (List.mem_map.mp hd) ?_;rintro x u_ rfl)
   rw [ev_q_idx,ev_q_bin,ev_q_bin,ev_q_var,ev_q_var,ev_q_int,ev_q_int,dat_same,dat_other (by decide),h108]
   dsimp only [Option.bind_some,evBin_q_fdiv_int_int]
   rw [if_pos (by decide)]
   dsimp only [Option.bind_some,evBin_q_mod_int_int]
   rw [if_pos (by decide)]
   dsimp only [Option.bind_some]
   show evIdx (.list (menu4.map S)) (.int ((x / 12 % 5:Nat):Int))=some (S (menu4.getD (x / 12 % 5) []))
   exact idx_list (by rw [List.getElem?_map,get_D' (menu_lt x)];rfl) (by decide)
 refine next_asg hpe fun E7 hE=>?_
 refine rows_run F hm (Nat.mod_lt _ (by lia)) C1 C2 hxl (pcs:=pcs) (by rw [<-hpcs,List.length_map,List.length_cons,hxl]) (fun u hu=>by
  rw [<-hpcs] at hu
  (refine e1a2 (List.mem_map.mp hu) ?_;rintro x u_ rfl)
  exact List.mem_of_getElem? (get_D' (menu_lt x))) rfl ((dat_set hE (by decide)).trans h45) ((dat_set hE (by decide)).trans h47) (by rw [hE];exact (set_other (by decide)).trans h106) (dat_set' hE)
end
noncomputable def gOK (tk:List NV) (t:Nat):Bool:=decide (getAll [65+t] tk=(gN tk t).map fun o=>[97+o]) && ((gN tk t).all (fun o=>Nat.blt o 5) && Nat.ble (gN tk t).length 1000)
noncomputable def tkOK (tk:List NV):Bool:=cleanH tk && ((List.range 5).all (gOK tk) && decide (getAll [88] tk=[]))
noncomputable def tsOK (n:Nat) (tk:List NV) (r:Nat) (ts:List Tok) (s:RS) (es:List Nat):Bool :=
 decide (arF (gN tk) 5 r (-1)=some ts) && (Nat.ble ts.length 100 && (decide (ts.head?=some (some r)) && (!balT (ts.tail++[some 9]) 0 && (ts.all (fun o=>Nat.blt (o.getD 0) n) &&
 (decide (s.1=ts.length) && (decide (s.2.2.length=n) && (decide (s.2.1.length=n) && (s.2.2.all (fun c=>Nat.ble c ts.length) && (s.2.1.all (fun c=>Nat.ble c ts.length) && es.all (fun c=>Nat.ble c ts.length && Nat.blt 0 c))))))))))
theorem all_lt {p:Nat->Bool} {n i:Nat} (h:(List.range n).all p=true) (hi:i < n):p i=true:=List.all_eq_true.mp h i (List.mem_range.mpr hi)
theorem ck_of {n:Nat} {tk:List NV} {r:Nat} {ts:List Tok} {s:RS} {es:List Nat} (h1:tkOK tk=true) (h2:tsOK n tk r ts s es=true) (hs:stC n ts=s) (he:enC ts s=es):CaseK n tk r ts s.2.1 s.2.2 es:=by
 unfold tkOK at h1
 unfold tsOK at h2
 simp only [Bool.and_eq_true] at h1 h2
 (refine e0a3 h1 ?_;clear h1;rintro a1 a2 a3)
 (refine e0a6 h2 ?_;clear h2;rintro b1 b2 b3 b4 b5 h2)
 (refine e0a6 h2 ?_;clear h2;rintro b6 b7 b8 b9 b10 b11)
 have g:∀ t,t < 5->getAll [65+t] tk=((gN tk t).map fun o=>[97+o])/\(∀ o∈gN tk t,o < 5)/\(gN tk t).length<=1000:=by
  intro t ht
  have q:=all_lt a2 ht
  unfold gOK at q
  simp only [Bool.and_eq_true] at q
  (refine e0a3 q ?_;clear q;rintro q1 q2 q3)
  exact ⟨of_decide_eq_true q1,fun o ho=>Nat.blt_eq.mp (List.all_eq_true.mp q2 o ho),Nat.le_of_ble_eq_true q3⟩
 have le:∀ e∈es,e<=ts.length/\0 < e:=by
  intro e h
  have q:=List.all_eq_true.mp b11 e h
  rw [Bool.and_eq_true] at q
  exact ⟨Nat.le_of_ble_eq_true q.1,Nat.blt_eq.mp q.2⟩
 have c6:=of_decide_eq_true b6
 exact {
  k:=⟨a1,fun t h=>(g t h).1,fun t h=>(g t h).2.1,fun t h=>(g t h).2.2⟩
  x:=of_decide_eq_true a3
  ar:=of_decide_eq_true b1
  tl:=Nat.le_of_ble_eq_true b2
  hd:=of_decide_eq_true b3
  bal:=by rwa [Bool.not_eq_true'] at b4
  st:=fun t h=>Nat.blt_eq.mp (List.all_eq_true.mp b5 (some t) h)
  fo:=by rw [hs,<-c6]
  cl:=of_decide_eq_true b7
  ol:=of_decide_eq_true b8
  cle:=fun c h=>Nat.le_of_ble_eq_true (List.all_eq_true.mp b9 c h)
  ole:=fun c h=>Nat.le_of_ble_eq_true (List.all_eq_true.mp b10 c h)
  ele:=fun e h=>(le e h).1
  e0:=fun e h=>Nat.ne_of_gt (le e h).2
  en:=by rw [<-c6];exact he }
theorem lt2_p {P:Nat->Prop} (h0:P 0) (h1:P 1) {t:Nat} (h:t < 2):P t:=by
 have:t=0\/t=1:=by lia
 rcases this with rfl | rfl
 ·exact h0
 ·exact h1
theorem lt3_p {P:Nat->Prop} (h0:P 0) (h1:P 1) (h2:P 2) {t:Nat} (h:t < 3):P t:=by
 have:t=0\/t=1\/t=2:=by lia
 rcases this with rfl | rfl | rfl
 ·exact h0
 ·exact h1
 ·exact h2
noncomputable def okRun (p:Option (AE × Option PyData)):Bool:=match p with
 | some (_,some (.bool true))=>true
 | _=>false
set_option tactic.hygienic true in
theorem okRun_of {p:Option (AE × Option PyData)} (h:okRun p=true):∃ E',p=some (E',some (.bool true)):=by
 unfold okRun at h
 split at h
 ·rename_i E;exact ⟨E,rfl⟩
 ·exact nbt h
noncomputable def okI (r:Option PyData) (n:Nat):Bool:=match r with
 | some (.int i)=>i == (n:Int)
 | _=>false
theorem okI_eq {r:Option PyData} {n:Nat} (h:okI r n=true):r=some (.int n):=by
 unfold okI at h
 split at h
 ·rw [beq_iff_eq.mp h]
 ·exact nbt h
noncomputable def wordW (n v:Nat):List Nat:=(List.range n).map fun o=>if bitN v o=true then 65+o else 97+o
noncomputable def levP (n v w:Nat):Bool:=okI (T1b 0 [.dat (S (wordW n v)),.dat (S (wordW n w)),.dat (.int n)]) (hamN n v w)
noncomputable def levX (n v w:Nat):Bool:=okI (T1b 0 [.dat (S (120::wordW n v)),.dat (S (wordW n w)),.dat (.int ((hamN n v w+2:Nat):Int))]) (hamN n v w+2)
noncomputable def tabOK (B m k:Nat) (f:Nat->Nat->Bool):Bool:=(List.range 8).all fun v=>(List.range m).all fun w=>!(Nat.testBit B ((8 * k+v) * 32+w)) || f (8 * k+v) w
noncomputable def bitsP:Nat->Nat
 | 4=>139848091595174150040242641798450018916909518416729461809551675461641537751898874159309113645340408421490126674968720099165987521644404837685196226560
 | _=>122886436028727524962481839881124345122857235026292659998210312995838501257375072824133255428396142496747616779533895010442753330586780893192408423361619204174989079155208105024665947365809871802190365998997474884364038616696100277524230616247223309434483190217752427406603143153084844301071535116738457763840
noncomputable def bitsX:Nat->Nat
 | 4=>167026034436106848355509142805656448619275997982635968134623844598721021140179047435784289799901169832877268356206759744074888352976656909235753320448
 | _=>146767534150403156505542554277271194390545106006792153520823392173640932944362471592603816515580294467794427370590965625589704244070210327093219220140776928022491684418356351095279087899398817521874830823146068009948891461372651439309281450043333866659693850227974239340411808408198674142075738209852684500992
theorem tabP40:tabOK (bitsP 4) 16 0 (levP 4)=true:=by kernel_rfl
theorem tabP41:tabOK (bitsP 4) 16 1 (levP 4)=true:=by kernel_rfl
theorem tabP50:tabOK (bitsP 5) 32 0 (levP 5)=true:=by kernel_rfl
theorem tabP51:tabOK (bitsP 5) 32 1 (levP 5)=true:=by kernel_rfl
theorem tabP52:tabOK (bitsP 5) 32 2 (levP 5)=true:=by kernel_rfl
theorem tabP53:tabOK (bitsP 5) 32 3 (levP 5)=true:=by kernel_rfl
theorem tabX40:tabOK (bitsX 4) 16 0 (levX 4)=true:=by kernel_rfl
theorem tabX41:tabOK (bitsX 4) 16 1 (levX 4)=true:=by kernel_rfl
theorem tabX50:tabOK (bitsX 5) 32 0 (levX 5)=true:=by kernel_rfl
theorem tabX51:tabOK (bitsX 5) 32 1 (levX 5)=true:=by kernel_rfl
theorem tabX52:tabOK (bitsX 5) 32 2 (levX 5)=true:=by kernel_rfl
theorem tabX53:tabOK (bitsX 5) 32 3 (levX 5)=true:=by kernel_rfl
theorem tab_of {B m k:Nat} {f:Nat->Nat->Bool} (h:tabOK B m k f=true) {v w:Nat} (hv:v / 8=k) (hw:w < m) (hb:Nat.testBit B (v * 32+w)=true):f v w=true:=by
 have e:8 * k+v % 8=v:=by rw [<-hv];exact Nat.div_add_mod v 8
 have q:=all_lt (all_lt h (Nat.mod_lt v (by decide))) hw
 rw [e,hb] at q
 exact q
theorem tab4 {B:Nat} {f:Nat->Nat->Bool} (h0:tabOK B 16 0 f=true) (h1:tabOK B 16 1 f=true) {v w:Nat} (hv:v < 2 ^ 4) (hw:w < 2 ^ 4) (hb:Nat.testBit B (v * 32+w)=true):f v w=true :=
 lt2_p (P:=fun k=>v / 8=k->f v w=true) (fun e=>tab_of h0 e hw hb) (fun e=>tab_of h1 e hw hb) (show v / 8 < 2 by lia) rfl
theorem tab5 {B:Nat} {f:Nat->Nat->Bool} (h0:tabOK B 32 0 f=true) (h1:tabOK B 32 1 f=true) (h2:tabOK B 32 2 f=true) (h3:tabOK B 32 3 f=true) {v w:Nat} (hv:v < 2 ^ 5) (hw:w < 2 ^ 5) (hb:Nat.testBit B (v * 32+w)=true):f v w=true:=by
 have q:v / 8 < 4:=by lia
 generalize hk:v / 8=k at q
 rcases lt4 q with rfl | rfl | rfl | rfl
 ·exact tab_of h0 hk hw hb
 ·exact tab_of h1 hk hw hb
 ·exact tab_of h2 hk hw hb
 ·exact tab_of h3 hk hw hb
noncomputable def wsOK (n:Nat) (os es:List Nat) (mk:Nat->Nat):Bool:=(List.range n).all fun t=>decide (wordL os es n t=wordW n (mk t)) && (Nat.blt (mk t) (2 ^ n) && (Nat.testBit (bitsX n) (mk 0 * 32+mk t) && (List.range (t+1)).all fun o=>Nat.testBit (bitsP n) (mk t * 32+mk o)))
noncomputable def cK (tk:List NV) (n r:Nat):Bool:=tsOK n tk r (tsC tk r) (stC n (tsC tk r)) (esC n tk r) && wsOK n (osC n tk r) (esC n tk r) (mkC (osC n tk r) (esC n tk r) n)
noncomputable def cR (G:Nat->Option Int) (T:Nat->List PV->Option PyData) (W:Nat) (E0:AE) (tk:List NV) (n r:Nat):Bool :=
 okRun (exs G T W l4_rest (((E0.set 47 (.dat (.int n))).set 97 (.dat (matD (maC (gapC (osC n tk r) (esC n tk r) n) n)))).set 106 (.hdr tk)))
noncomputable def bad4 (f:List NV->Nat->Nat->Bool):Bool:=(List.range 2).all fun a=>(List.range 3).all fun b=>(List.range 4).all fun r=>f (tkN (pF a b 0) 4) 4 r
noncomputable def bad5 (f:List NV->Nat->Nat->Bool) (a b:Nat):Bool:=(List.range 4).all fun c=>(List.range 5).all fun r=>f (tkN (pF a b c) 5) 5 r
theorem kt4:bad4 (fun tk _ _=>tkOK tk)=true:=by kernel_rfl
theorem kt5:(List.range 2).all (fun a=>(List.range 3).all fun b=>bad5 (fun tk _ _=>tkOK tk) a b)=true:=by kernel_rfl
theorem kk4:bad4 cK=true:=by kernel_rfl
theorem kk5:(List.range 2).all (fun a=>(List.range 3).all fun b=>bad5 cK a b)=true:=by kernel_rfl
section
variable (G:Nat->Option Int) (T:Nat->List PV->Option PyData) (W:Nat) (E0:AE)
theorem kr4:bad4 (cR G T W E0)=true:=by kernel_rfl
theorem kr00:bad5 (cR G T W E0) 0 0=true:=by kernel_rfl
theorem kr01:bad5 (cR G T W E0) 0 1=true:=by kernel_rfl
theorem kr02:bad5 (cR G T W E0) 0 2=true:=by kernel_rfl
theorem kr10:bad5 (cR G T W E0) 1 0=true:=by kernel_rfl
theorem kr11:bad5 (cR G T W E0) 1 1=true:=by kernel_rfl
theorem kr12:bad5 (cR G T W E0) 1 2=true:=by kernel_rfl
end
theorem get4 {f:List NV->Nat->Nat->Bool} (h:bad4 f=true) {a b r:Nat} (ha:a < 2) (hb:b < 3) (hr:r < 4):f (tkN (pF a b 0) 4) 4 r=true:=all_lt (all_lt (all_lt h ha) hb) hr
theorem get5 {f:List NV->Nat->Nat->Bool} {a b:Nat} (h:bad5 f a b=true) {c r:Nat} (hc:c < 4) (hr:r < 5):f (tkN (pF a b c) 5) 5 r=true:=all_lt (all_lt h hc) hr
theorem tk_strip {L:List Nat} (h1:asc L=true) (h2:L.length<=100000):T1c 2 [.dat (S L)]=some (S (stripS L)):=by
 show runFn gTab T1b 100 strip_ps strip_fn [.dat (S L)]=_
 exact strip_run h1 h2
theorem t3_d:T3K T1d:=fun L h1 h2=>by
 have e:T1d 3=runFn gTab T1c 100 check_ps check_fn:=rfl
 rw [e]
 refine check_run (tk_strip h1 h2) (stripGo_asc L false [] none h1 rfl (fun u_ e=>nomatch e)) ?_
 have:=stripGo_len L false [] none
 simp only [List.length_nil,Nat.zero_add] at this
 exact Nat.le_trans this h2
theorem ext_ne {T:Nat->List PV->Option PyData} {f g:Nat} {r:List PV->Option PyData} (h:g≠f):extT T f r g=T g:=if_neg h
theorem e3:∀ d,T1e d 3=T1d 3
 | 0=>rfl
 | d+1=>(show T1e (d+1) 3=T1e d 3 from ext_ne (by decide)).trans (e3 d)
theorem f_ne {g:Nat} (h:g≠5):T1f g=T1e 5 g:=ext_ne h
theorem e0:∀ d,T1e d 0=T1b 0
 | 0=>(show T1d 0=T1c 0 from ext_ne (by decide)).trans (show T1c 0=T1b 0 from ext_ne (by decide))
 | d+1=>(show T1e (d+1) 0=T1e d 0 from ext_ne (by decide)).trans (e0 d)
theorem t0_f:T1f 0=T1b 0:=(f_ne (by decide)).trans (e0 5)
theorem t3_e:T3K (T1e 5):=fun L h1 h2=>by rw [e3];exact t3_d L h1 h2
theorem around_d {tk:List NV} {g:Nat->List Nat} (K:GTab tk g) {pcs:List (List Nat)} (hp:pcs.length=5) (hm:∀ u∈pcs,u∈menu4):∀ (d t:Nat) (a:Int) (r:List Tok),arF g d t a=some r->T1e d 4 [.hdr tk,.dat (.int t),.dat (.int a),.dat (pcsD pcs)]=some (.list (r.map (rowT (pcF pcs))))
 | 0,t,a,r,h=>nso h
 | d+1,t,a,r,h=>by
  have e:T1e (d+1) 4=runFn gTab (T1e d) 100 l4_around_ps l4_around_fn:=rfl
  rw [arF] at h
  by_cases q:t < 5
  ·rw [if_pos q] at h
   rw [e]
   exact around_run K hp hm (f:=fun o=>arF g d o t) (fun o r' h'=>around_d K hp hm d o t r' h') q h
  ·rw [if_neg q] at h
   exact nso h
theorem tf1:TF T1f where
 t3:=fun L h1 h2=>by rw [f_ne (by decide)];exact t3_e L h1 h2
 t4:=fun tk g K pcs hp hm t a r h=>by rw [f_ne (by decide)];exact around_d K hp hm 5 t a r h
 t5:=fun L os cs h1 h2 h3 h4 h5=>by
  have e:T1f 5=runFn gTab (T1e 5) 100 l4_ends_ps l4_ends_fn:=rfl
  rw [e]
  exact ends_run t3_e h1 h2 h3 h4 h5
theorem ct_of {n:Nat} {tk:List NV} {os es:List Nat} (h:wsOK n os es (mkC os es n)=true) (hP:∀ v w,v < 2 ^ n->w < 2 ^ n->Nat.testBit (bitsP n) (v * 32+w)=true->levP n v w=true) (hX:∀ v w,v < 2 ^ n->w < 2 ^ n->Nat.testBit (bitsX n) (v * 32+w)=true->levX n v w=true)
  (hr:∀ E0:AE,okRun (exs gTab T1f 100 l4_rest (((E0.set 47 (.dat (.int n))).set 97 (.dat (matD (maC (gapC os es n) n)))).set 106 (.hdr tk)))=true):CaseT gTab T1f 100 n tk (wordL os es n) (gapC os es n):=by
 have g:∀ t,t < n->wordL os es n t=wordW n (mkC os es n t)/\mkC os es n t < 2 ^ n/\Nat.testBit (bitsX n) (mkC os es n 0 * 32+mkC os es n t)=true/\∀ o,o<=t->Nat.testBit (bitsP n) (mkC os es n t * 32+mkC os es n o)=true:=by
  intro t ht
  have q:=all_lt h ht
  simp only [Bool.and_eq_true] at q
  (refine e0a4 q ?_;clear q;rintro q1 q2 q3 q4)
  exact ⟨of_decide_eq_true q1,Nat.blt_eq.mp q2,q3,fun o ho=>all_lt (p:=fun o=>Nat.testBit (bitsP n) (mkC os es n t * 32+mkC os es n o)) (n:=t+1) q4 (Nat.lt_succ_of_le ho)⟩
 exact {
  t0:=fun t o ht ho=>by
   have a:=g t ht
   have b:=g o (Nat.lt_of_le_of_lt ho ht)
   rw [a.1,b.1]
   rw [t0_f]
   exact okI_eq (hP _ _ a.2.1 b.2.1 (a.2.2.2 o ho))
  tx:=fun t ht=>by
   have a:=g t ht
   have b:=g 0 (Nat.lt_of_le_of_lt (Nat.zero_le t) ht)
   rw [a.1,b.1]
   have e:gapC os es n t 0=hamN n (mkC os es n 0) (mkC os es n t):=by
    unfold gapC hamN
    congr 2
    funext p
    cases bitN (mkC os es n t) p <;> cases bitN (mkC os es n 0) p <;> rfl
   rw [e,t0_f]
   exact okI_eq (hX _ _ b.2.1 a.2.1 a.2.2.1)
  rest:=fun E0=>okRun_of (hr E0) }
theorem case_of {n:Nat} {tk:List NV} {r:Nat} (h1:tkOK tk=true) (h2:cK tk n r=true) (hP:∀ v w,v < 2 ^ n->w < 2 ^ n->Nat.testBit (bitsP n) (v * 32+w)=true->levP n v w=true) (hX:∀ v w,v < 2 ^ n->w < 2 ^ n->Nat.testBit (bitsX n) (v * 32+w)=true->levX n v w=true)
  (hr:∀ E0:AE,cR gTab T1f 100 E0 tk n r=true):CaseK n tk r (tsC tk r) (osC n tk r) (csC n tk r) (esC n tk r)/\CaseT gTab T1f 100 n tk (wordL (osC n tk r) (esC n tk r) n) (gapC (osC n tk r) (esC n tk r) n):=by
 unfold cK at h2
 rw [Bool.and_eq_true] at h2
 exact ⟨ck_of h1 h2.1 rfl rfl,ct_of h2.2 hP hX hr⟩
theorem case4 {a b r:Nat} (c:Nat) (ha:a < 2) (hb:b < 3) (hr:r < 4):CaseAll gTab T1f 100 4 a b c r:=by
 have e:tkN (pF a b c) 4=tkN (pF a b 0) 4:=rfl
 unfold CaseAll
 rw [e]
 exact case_of (get4 (f:=fun tk _ _=>tkOK tk) kt4 ha hb hr) (get4 kk4 ha hb hr) (fun v w=>tab4 tabP40 tabP41) (fun v w=>tab4 tabX40 tabX41) fun E0=>get4 (kr4 gTab T1f 100 E0) ha hb hr
theorem kr5 (E0:AE) {a b:Nat} (ha:a < 2) (hb:b < 3):bad5 (cR gTab T1f 100 E0) a b=true :=
 lt2_p (P:=fun a=>bad5 (cR gTab T1f 100 E0) a b=true)
  (lt3_p (P:=fun b=>bad5 (cR gTab T1f 100 E0) 0 b=true) (kr00 gTab T1f 100 E0) (kr01 gTab T1f 100 E0) (kr02 gTab T1f 100 E0) hb)
  (lt3_p (P:=fun b=>bad5 (cR gTab T1f 100 E0) 1 b=true) (kr10 gTab T1f 100 E0) (kr11 gTab T1f 100 E0) (kr12 gTab T1f 100 E0) hb) ha
theorem case5 {a b c r:Nat} (ha:a < 2) (hb:b < 3) (hc:c < 4) (hr:r < 5):CaseAll gTab T1f 100 5 a b c r :=
 case_of (get5 (f:=fun tk _ _=>tkOK tk) (all_lt (all_lt kt5 ha) hb) hc hr) (get5 (all_lt (all_lt kk5 ha) hb) hc hr) (fun v w=>tab5 tabP50 tabP51 tabP52 tabP53) (fun v w=>tab5 tabX50 tabX51 tabX52 tabX53) fun E0=>get5 (kr5 E0 ha hb) hc hr
theorem main_run4 (ns:List Int) (h:ns.length<=63):runFn gTab T1f 100 l4_main_ps l4_main_fn ([PyData.list (ns.map PyData.int)].map .dat)=some (.bool true):=by
 refine main_run4' tf1 (fun n a b c r hn ha hb hc hr=>?_) ns h
 rcases hn with rfl | rfl
 ·exact case4 c ha hb hr
 ·exact case5 ha hb hc hr
noncomputable def fin.tw7698219036611021312:Program:=PySem.Challenge.pw_rs0215_04
theorem fin.te7698219036611021312:PySem.Challenge.pw_rs0215_04=fin.tw7698219036611021312:=rfl
set_option Elab.async true
set_option tactic.hygienic true
theorem fin:PySem.Challenge.rw_rs0215_04.Holds:=by
 (w_on;o_law;k_head;(case hw=>w_witness2))
 k_fill
 intro w s₀ s₁ mg mb G Y fa o pm cd doc dV kV ho hd hcd hD hmg hg args vals as hpre hlay hrd hwl hlo
 have KX:=kIn_of Y
 refine Ground.open G ?_
 intro T B D TE TW
 wrow_args hpre hlay hrd hwl hlo
 refine enter_call ?_
 rename Well _ _ _ _=>w1
 rename ¬ ((_:Int) < _)=>hlen
 refine run_k (K:=_) ?_ KX T.g T.builtins hmg ⟨show callerA.depth+(9+1) < recursionLimit by decide +kernel,show callerA.units+20 * (9+1)+200 < cLine by decide +kernel,rfl⟩ ⟨.refl _,T.g,T.b,T.nolimit⟩ (.cons (well_list w1) .nil) (main_run4 _ (by lia)) fun v s' st r=>?_
 ·clear KX
  exact {
   fns:={
    f0:=⟨by kernel_rfl,by kernel_rfl,fun fd e=>bind3 e (fun x y z=>by kernel_rfl) rfl⟩
    f1:=⟨by kernel_rfl,by kernel_rfl,fun fd e=>bind2 e (fun x y=>by kernel_rfl) rfl⟩
    f2:=⟨by kernel_rfl,by kernel_rfl,fun fd e=>bind1 e (fun x=>by kernel_rfl) rfl⟩
    f3:=⟨by kernel_rfl,by kernel_rfl,fun fd e=>bind1 e (fun x=>by kernel_rfl) rfl⟩
    n4:=by kernel_rfl
    c4:=by kernel_rfl
    b4:=fun fd e=>bind4 e (fun x y z t=>by kernel_rfl) rfl
    f5:=⟨by kernel_rfl,by kernel_rfl,fun fd e=>bind3 e (fun x y z=>by kernel_rfl) rfl⟩
    f6:=⟨by kernel_rfl,by kernel_rfl,fun fd e=>bind1 e (fun x=>by kernel_rfl) rfl⟩ }
   g0:=by kernel_rfl
   g1:=by kernel_rfl
   g2:=by kernel_rfl
   nn:=by kernel_rfl
   gns:=by kernel_rfl
   gchk:=fun rk prog w mg mb h0=>by kernel_rfl
   gb:=fun v=>by kernel_rfl
   ga:=by kernel_rfl
   gt:=by kernel_rfl
   own:=fun cl di sl hs t la n=>by kernel_rfl
   mconv:=⟨by kernel_rfl,by kernel_rfl,by kernel_rfl⟩
   mget:=⟨by kernel_rfl,by kernel_rfl,by kernel_rfl⟩
   mkeys:=⟨by kernel_rfl,by kernel_rfl,by kernel_rfl⟩
   madd:=⟨by kernel_rfl,by kernel_rfl,by kernel_rfl⟩
   conv:=fun rk=>by kernel_rfl
   convb:=fun a b v=>by kernel_rfl
   p1:=by kernel_rfl
   q1:=by kernel_rfl
   p2:=by kernel_rfl
   q2:=by kernel_rfl
   get:=fun rk=>by kernel_rfl
   getb:=fun a b=>by kernel_rfl
   keys:=fun rk=>by kernel_rfl
   keysb:=fun v=>by kernel_rfl
   add:=fun rk=>by kernel_rfl
   addb:=fun a n v=>by kernel_rfl
   makes:=by kernel_rfl
   minit:=by kernel_rfl
   tinit:=by kernel_rfl
   init:=fun rk=>by kernel_rfl
   initd:=by kernel_rfl
   initT:=by kernel_rfl
   initk:=fun a=>by kernel_rfl
   over:=by kernel_rfl
   taker:=by kernel_rfl
   hasd:=by kernel_rfl
   seta:=by kernel_rfl
   name:=by kernel_rfl
   keep:=by kernel_rfl
   }
 ·rw [r.bool]
  exact ⟨.inl ⟨.bool true,WData.bool true,[],rfl,raisesW_false (by wrow_none_raised),.bool true,(by wrow_post),fun _=>⟨List.nodup_nil,fun a m=>nomatch m⟩⟩,OldK.of_keep st.keep,st.os,st.gk.bare (.of_eq hg)⟩
end Mine
theorem PySem.Challenge.cw_rs0215_04_holds : PySem.Challenge.rw_rs0215_04.Holds :=
 Mine.fin
