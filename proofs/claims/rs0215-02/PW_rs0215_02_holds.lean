import PyProof.Rows.All
import Wide.All
import OpenK.AllK
import Wide.FinOn
import PyProof.DictItems
import PyProof.DictKinds
import PyProof.SliceList
import KE.KSortTup
import PySem.Challenge.RW_rs0215_02
set_option Elab.async false
set_option genInjectivity false
set_option genSizeOf false
set_option genSizeOfSpec false
set_option maxRecDepth 100000
set_option maxHeartbeats 8000000
set_option linter.unusedVariables false
set_option linter.unusedSimpArgs false
namespace Mine
universe u v
theorem aA{J:Type u}{a b:J}(h:some a=some b):a=b:=Option.some.inj h
theorem aD{J:Type u}{β:Type v}(a:J)(f:J->Option β):(some a).bind f=f a:=rfl
theorem aE{J:Type u}{a:J}(y:J){l:List J}(h:a∈l):a∈y::l:=.tail _ h
theorem aF{J:Type u}{a:J}{l:List J}:a∈a::l:=.head _
theorem aH{J:Type u}{a b:J}(h:a∈[b]):a=b:=List.mem_singleton.mp h
theorem aM{J:Type u}{a b:J}{l:List J}(h:a∈b::l):a=b\/a∈l:=List.mem_cons.mp h
theorem bF{J:Type u}{a:J}{s t:List J}(h:a∈s++t):a∈s\/a∈t:=List.mem_append.mp h
theorem aJ{J:Type u}{p:J->Bool}{l:List J}(h:l.all p=true):∀x∈l,p x=true:=List.all_eq_true.mp h
theorem cD{J:Type u}{p:J->Bool}{l:List J}(h:∀x∈l,p x=true):l.all p=true:=List.all_eq_true.mpr h
theorem aW{J:Type u}{a:J}{s:List J}(t:List J)(h:a∈s):a∈s++t:=List.mem_append_left t h
theorem aZ{J:Type u}{a:J}{t:List J}(s:List J)(h:a∈t):a∈s++t:=List.mem_append_right s h
theorem bJ{J:Type u}{β:Type v}{f:J->β}{b:β}{l:List J}(h:b∈l.map f):∃a,a∈l/\f a=b:=List.mem_map.mp h
theorem aC{p:Prop}[Decidable p](h:decide p=true):p:=_root_.of_decide_eq_true h
theorem aN:false≠true:=Bool.false_ne_true
theorem aT{n m:Nat}(h:Nat.beq n m=true):n=m:=Nat.eq_of_beq_eq_true h
theorem aP{n m k:Nat}(h:n<=m)(g:m<=k):n<=k:=Nat.le_trans h g
theorem bO{n m:Nat}(h:Nat.ble n m=true):n<=m:=Nat.le_of_ble_eq_true h
theorem bA{n m:Nat}(h:n<m):Nat.blt n m=true:=Nat.blt_eq.mpr h
theorem dD{n m:Nat}(h:Nat.blt n m=true):n<m:=Nat.blt_eq.mp h
theorem aG{J:Type u}{a b:List J}:(a++b).length=a.length+b.length:=List.length_append
theorem aK{J:Type u}{β:Type v}{a:List J}(f:J->β):(a.map f).length=a.length:=List.length_map f
theorem aR{J:Type u}{a:J}{l:List J}:(a::l).length=l.length+1:=rfl
theorem aQ{J:Type u}(a b c:List J):a++b++c=a++(b++c):=List.append_assoc a b c
theorem aY{J:Type u}{β:Type v}{f:J->β}{a:J}{l:List J}:(a::l).map f=f a::l.map f:=rfl
theorem cM {J:Type}{x:J}{P:Prop}(h:(none:Option J)=some x):P:=nomatch h
theorem nsn {J:Type}{x:J}{P:Prop}(h:some x=(none:Option J)):P:=nomatch h
theorem eR {P:Prop}(h:false=true):P:=nomatch h
theorem nbf {P:Prop}(h:true=false):P:=nomatch h
theorem cA {G:Prop}(h:∀ P:Prop,(G->P)->P):G:=h G id
theorem cE {J β:Type}{x:Option J}{f:J->Option β}{y:β}{P:Prop}(k:∀ a,x=some a->f a=some y->P):x.bind f=some y->P:=by
 intro h
 cases x with
 | none=>exact cM h
 | some a=>exact k a rfl h
theorem ifs {J:Type}{c:Prop} [Decidable c]{a:Option J}{z:J}{P:Prop}(g:c->a=some z->P)(h:(if c then a else none)=some z):P:=by
 by_cases q:c
 .rw[if_pos q]at h;exact g q h
 .rw[if_neg q]at h;exact cM h
theorem aB {a b:Bool}(h:(a && b)=true):a=true/\b=true:=Bool.and_eq_true a b ▸ h
theorem aRF {a b c:Bool}(h:(a && b && c)=true):(a=true/\b=true)/\c=true:=⟨aB (aB h).1,(aB h).2⟩
theorem aDy {J:Type}{P:J->Prop}{x y:J}(h1:P x)(h2:P y):∀ b∈[x,y],P b:=fun b hb=>by
 rcases aM hb with rfl | hb
 .exact h1
 .rw[aH hb];exact h2
theorem wH  {p0 p1 p2:Prop}{G:Prop}:(p0/\p1/\p2)->(p0->p1->p2->G)->G:=fun h k=>k h.1 h.2.1 h.2.2
theorem aRz  {p0 p1 p2 p3:Prop}{G:Prop}:(p0/\p1/\p2/\p3)->(p0->p1->p2->p3->G)->G:=fun h k=>k h.1 h.2.1 h.2.2.1 h.2.2.2
theorem aP5  {p0 p1 p2 p3 p4:Prop}{G:Prop}:(p0/\p1/\p2/\p3/\p4)->(p0->p1->p2->p3->p4->G)->G:=fun h k=>k h.1 h.2.1 h.2.2.1 h.2.2.2.1 h.2.2.2.2
theorem aP4  {p0 p1 p2 p3 p4 p5:Prop}{G:Prop}:(p0/\p1/\p2/\p3/\p4/\p5)->(p0->p1->p2->p3->p4->p5->G)->G:=fun h k=>k h.1 h.2.1 h.2.2.1 h.2.2.2.1 h.2.2.2.2.1 h.2.2.2.2.2
theorem e1a1.{u0}{t0:Sort u0}{p0:t0->Prop}{G:Prop}:(∃ a0,p0 a0)->(∀ (a0:t0),p0 a0->G)->G:=fun h k=>h.elim fun a0 h=>k a0 h
theorem e1a2.{u0}{t0:Sort u0}{p0 p1:t0->Prop}{G:Prop}:(∃ a0,p0 a0/\p1 a0)->(∀ (a0:t0),p0 a0->p1 a0->G)->G:=fun h k=>h.elim fun a0 h=>k a0 h.1 h.2
theorem e1a3.{u0}{t0:Sort u0}{p0 p1 p2:t0->Prop}{G:Prop}:(∃ a0,p0 a0/\p1 a0/\p2 a0)->(∀ (a0:t0),p0 a0->p1 a0->p2 a0->G)->G:=fun h k=>h.elim fun a0 h=>k a0 h.1 h.2.1 h.2.2
theorem e1a4.{u0}{t0:Sort u0}{p0 p1 p2 p3:t0->Prop}{G:Prop}:(∃ a0,p0 a0/\p1 a0/\p2 a0/\p3 a0)->(∀ (a0:t0),p0 a0->p1 a0->p2 a0->p3 a0->G)->G:=fun h k=>h.elim fun a0 h=>k a0 h.1 h.2.1 h.2.2.1 h.2.2.2
theorem e1a5.{u0}{t0:Sort u0}{p0 p1 p2 p3 p4:t0->Prop}{G:Prop}:(∃ a0,p0 a0/\p1 a0/\p2 a0/\p3 a0/\p4 a0)->(∀ (a0:t0),p0 a0->p1 a0->p2 a0->p3 a0->p4 a0->G)->G:=fun h k=>h.elim fun a0 h=>k a0 h.1 h.2.1 h.2.2.1 h.2.2.2.1 h.2.2.2.2
theorem e1a6.{u0}{t0:Sort u0}{p0 p1 p2 p3 p4 p5:t0->Prop}{G:Prop}:(∃ a0,p0 a0/\p1 a0/\p2 a0/\p3 a0/\p4 a0/\p5 a0)->(∀ (a0:t0),p0 a0->p1 a0->p2 a0->p3 a0->p4 a0->p5 a0->G)->G:=fun h k=>h.elim fun a0 h=>k a0 h.1 h.2.1 h.2.2.1 h.2.2.2.1 h.2.2.2.2.1 h.2.2.2.2.2
theorem e2a1.{u0,u1}{t0:Sort u0}{t1:Sort u1}{p0:t0->t1->Prop}{G:Prop}:(∃ a0 a1,p0 a0 a1)->(∀ (a0:t0) (a1:t1),p0 a0 a1->G)->G:=fun h k=>h.elim fun a0 h=>h.elim fun a1 h=>k a0 a1 h
theorem e2a2.{u0,u1}{t0:Sort u0}{t1:Sort u1}{p0 p1:t0->t1->Prop}{G:Prop}:(∃ a0 a1,p0 a0 a1/\p1 a0 a1)->(∀ (a0:t0) (a1:t1),p0 a0 a1->p1 a0 a1->G)->G:=fun h k=>h.elim fun a0 h=>h.elim fun a1 h=>k a0 a1 h.1 h.2
theorem e2a3.{u0,u1}{t0:Sort u0}{t1:Sort u1}{p0 p1 p2:t0->t1->Prop}{G:Prop}:(∃ a0 a1,p0 a0 a1/\p1 a0 a1/\p2 a0 a1)->(∀ (a0:t0) (a1:t1),p0 a0 a1->p1 a0 a1->p2 a0 a1->G)->G:=fun h k=>h.elim fun a0 h=>h.elim fun a1 h=>k a0 a1 h.1 h.2.1 h.2.2
theorem e2a4.{u0,u1}{t0:Sort u0}{t1:Sort u1}{p0 p1 p2 p3:t0->t1->Prop}{G:Prop}:(∃ a0 a1,p0 a0 a1/\p1 a0 a1/\p2 a0 a1/\p3 a0 a1)->(∀ (a0:t0) (a1:t1),p0 a0 a1->p1 a0 a1->p2 a0 a1->p3 a0 a1->G)->G:=fun h k=>h.elim fun a0 h=>h.elim fun a1 h=>k a0 a1 h.1 h.2.1 h.2.2.1 h.2.2.2
theorem e2a6.{u0,u1}{t0:Sort u0}{t1:Sort u1}{p0 p1 p2 p3 p4 p5:t0->t1->Prop}{G:Prop}:(∃ a0 a1,p0 a0 a1/\p1 a0 a1/\p2 a0 a1/\p3 a0 a1/\p4 a0 a1/\p5 a0 a1)->(∀ (a0:t0) (a1:t1),p0 a0 a1->p1 a0 a1->p2 a0 a1->p3 a0 a1->p4 a0 a1->p5 a0 a1->G)->G:=fun h k=>h.elim fun a0 h=>h.elim fun a1 h=>k a0 a1 h.1 h.2.1 h.2.2.1 h.2.2.2.1 h.2.2.2.2.1 h.2.2.2.2.2
theorem e3a1.{u0,u1,u2}{t0:Sort u0}{t1:Sort u1}{t2:Sort u2}{p0:t0->t1->t2->Prop}{G:Prop}:(∃ a0 a1 a2,p0 a0 a1 a2)->(∀ (a0:t0) (a1:t1) (a2:t2),p0 a0 a1 a2->G)->G:=fun h k=>h.elim fun a0 h=>h.elim fun a1 h=>h.elim fun a2 h=>k a0 a1 a2 h
theorem e3a2.{u0,u1,u2}{t0:Sort u0}{t1:Sort u1}{t2:Sort u2}{p0 p1:t0->t1->t2->Prop}{G:Prop}:(∃ a0 a1 a2,p0 a0 a1 a2/\p1 a0 a1 a2)->(∀ (a0:t0) (a1:t1) (a2:t2),p0 a0 a1 a2->p1 a0 a1 a2->G)->G:=fun h k=>h.elim fun a0 h=>h.elim fun a1 h=>h.elim fun a2 h=>k a0 a1 a2 h.1 h.2
theorem e3a3.{u0,u1,u2}{t0:Sort u0}{t1:Sort u1}{t2:Sort u2}{p0 p1 p2:t0->t1->t2->Prop}{G:Prop}:(∃ a0 a1 a2,p0 a0 a1 a2/\p1 a0 a1 a2/\p2 a0 a1 a2)->(∀ (a0:t0) (a1:t1) (a2:t2),p0 a0 a1 a2->p1 a0 a1 a2->p2 a0 a1 a2->G)->G:=fun h k=>h.elim fun a0 h=>h.elim fun a1 h=>h.elim fun a2 h=>k a0 a1 a2 h.1 h.2.1 h.2.2
theorem e3a4.{u0,u1,u2}{t0:Sort u0}{t1:Sort u1}{t2:Sort u2}{p0 p1 p2 p3:t0->t1->t2->Prop}{G:Prop}:(∃ a0 a1 a2,p0 a0 a1 a2/\p1 a0 a1 a2/\p2 a0 a1 a2/\p3 a0 a1 a2)->(∀ (a0:t0) (a1:t1) (a2:t2),p0 a0 a1 a2->p1 a0 a1 a2->p2 a0 a1 a2->p3 a0 a1 a2->G)->G:=fun h k=>h.elim fun a0 h=>h.elim fun a1 h=>h.elim fun a2 h=>k a0 a1 a2 h.1 h.2.1 h.2.2.1 h.2.2.2
theorem e3a5.{u0,u1,u2}{t0:Sort u0}{t1:Sort u1}{t2:Sort u2}{p0 p1 p2 p3 p4:t0->t1->t2->Prop}{G:Prop}:(∃ a0 a1 a2,p0 a0 a1 a2/\p1 a0 a1 a2/\p2 a0 a1 a2/\p3 a0 a1 a2/\p4 a0 a1 a2)->(∀ (a0:t0) (a1:t1) (a2:t2),p0 a0 a1 a2->p1 a0 a1 a2->p2 a0 a1 a2->p3 a0 a1 a2->p4 a0 a1 a2->G)->G:=fun h k=>h.elim fun a0 h=>h.elim fun a1 h=>h.elim fun a2 h=>k a0 a1 a2 h.1 h.2.1 h.2.2.1 h.2.2.2.1 h.2.2.2.2
theorem e3a6.{u0,u1,u2}{t0:Sort u0}{t1:Sort u1}{t2:Sort u2}{p0 p1 p2 p3 p4 p5:t0->t1->t2->Prop}{G:Prop}:(∃ a0 a1 a2,p0 a0 a1 a2/\p1 a0 a1 a2/\p2 a0 a1 a2/\p3 a0 a1 a2/\p4 a0 a1 a2/\p5 a0 a1 a2)->(∀ (a0:t0) (a1:t1) (a2:t2),p0 a0 a1 a2->p1 a0 a1 a2->p2 a0 a1 a2->p3 a0 a1 a2->p4 a0 a1 a2->p5 a0 a1 a2->G)->G:=fun h k=>h.elim fun a0 h=>h.elim fun a1 h=>h.elim fun a2 h=>k a0 a1 a2 h.1 h.2.1 h.2.2.1 h.2.2.2.1 h.2.2.2.2.1 h.2.2.2.2.2
theorem e3a7.{u0,u1,u2}{t0:Sort u0}{t1:Sort u1}{t2:Sort u2}{p0 p1 p2 p3 p4 p5 p6:t0->t1->t2->Prop}{G:Prop}:(∃ a0 a1 a2,p0 a0 a1 a2/\p1 a0 a1 a2/\p2 a0 a1 a2/\p3 a0 a1 a2/\p4 a0 a1 a2/\p5 a0 a1 a2/\p6 a0 a1 a2)->(∀ (a0:t0) (a1:t1) (a2:t2),p0 a0 a1 a2->p1 a0 a1 a2->p2 a0 a1 a2->p3 a0 a1 a2->p4 a0 a1 a2->p5 a0 a1 a2->p6 a0 a1 a2->G)->G:=fun h k=>h.elim fun a0 h=>h.elim fun a1 h=>h.elim fun a2 h=>k a0 a1 a2 h.1 h.2.1 h.2.2.1 h.2.2.2.1 h.2.2.2.2.1 h.2.2.2.2.2.1 h.2.2.2.2.2.2
theorem e4a1.{u0,u1,u2,u3}{t0:Sort u0}{t1:Sort u1}{t2:Sort u2}{t3:Sort u3}{p0:t0->t1->t2->t3->Prop}{G:Prop}:(∃ a0 a1 a2 a3,p0 a0 a1 a2 a3)->(∀ (a0:t0) (a1:t1) (a2:t2) (a3:t3),p0 a0 a1 a2 a3->G)->G:=fun h k=>h.elim fun a0 h=>h.elim fun a1 h=>h.elim fun a2 h=>h.elim fun a3 h=>k a0 a1 a2 a3 h
theorem e4a2.{u0,u1,u2,u3}{t0:Sort u0}{t1:Sort u1}{t2:Sort u2}{t3:Sort u3}{p0 p1:t0->t1->t2->t3->Prop}{G:Prop}:(∃ a0 a1 a2 a3,p0 a0 a1 a2 a3/\p1 a0 a1 a2 a3)->(∀ (a0:t0) (a1:t1) (a2:t2) (a3:t3),p0 a0 a1 a2 a3->p1 a0 a1 a2 a3->G)->G:=fun h k=>h.elim fun a0 h=>h.elim fun a1 h=>h.elim fun a2 h=>h.elim fun a3 h=>k a0 a1 a2 a3 h.1 h.2
theorem e4a3.{u0,u1,u2,u3}{t0:Sort u0}{t1:Sort u1}{t2:Sort u2}{t3:Sort u3}{p0 p1 p2:t0->t1->t2->t3->Prop}{G:Prop}:(∃ a0 a1 a2 a3,p0 a0 a1 a2 a3/\p1 a0 a1 a2 a3/\p2 a0 a1 a2 a3)->(∀ (a0:t0) (a1:t1) (a2:t2) (a3:t3),p0 a0 a1 a2 a3->p1 a0 a1 a2 a3->p2 a0 a1 a2 a3->G)->G:=fun h k=>h.elim fun a0 h=>h.elim fun a1 h=>h.elim fun a2 h=>h.elim fun a3 h=>k a0 a1 a2 a3 h.1 h.2.1 h.2.2
theorem e4a4.{u0,u1,u2,u3}{t0:Sort u0}{t1:Sort u1}{t2:Sort u2}{t3:Sort u3}{p0 p1 p2 p3:t0->t1->t2->t3->Prop}{G:Prop}:(∃ a0 a1 a2 a3,p0 a0 a1 a2 a3/\p1 a0 a1 a2 a3/\p2 a0 a1 a2 a3/\p3 a0 a1 a2 a3)->(∀ (a0:t0) (a1:t1) (a2:t2) (a3:t3),p0 a0 a1 a2 a3->p1 a0 a1 a2 a3->p2 a0 a1 a2 a3->p3 a0 a1 a2 a3->G)->G:=fun h k=>h.elim fun a0 h=>h.elim fun a1 h=>h.elim fun a2 h=>h.elim fun a3 h=>k a0 a1 a2 a3 h.1 h.2.1 h.2.2.1 h.2.2.2
theorem e4a5.{u0,u1,u2,u3}{t0:Sort u0}{t1:Sort u1}{t2:Sort u2}{t3:Sort u3}{p0 p1 p2 p3 p4:t0->t1->t2->t3->Prop}{G:Prop}:(∃ a0 a1 a2 a3,p0 a0 a1 a2 a3/\p1 a0 a1 a2 a3/\p2 a0 a1 a2 a3/\p3 a0 a1 a2 a3/\p4 a0 a1 a2 a3)->(∀ (a0:t0) (a1:t1) (a2:t2) (a3:t3),p0 a0 a1 a2 a3->p1 a0 a1 a2 a3->p2 a0 a1 a2 a3->p3 a0 a1 a2 a3->p4 a0 a1 a2 a3->G)->G:=fun h k=>h.elim fun a0 h=>h.elim fun a1 h=>h.elim fun a2 h=>h.elim fun a3 h=>k a0 a1 a2 a3 h.1 h.2.1 h.2.2.1 h.2.2.2.1 h.2.2.2.2
theorem e4a6.{u0,u1,u2,u3}{t0:Sort u0}{t1:Sort u1}{t2:Sort u2}{t3:Sort u3}{p0 p1 p2 p3 p4 p5:t0->t1->t2->t3->Prop}{G:Prop}:(∃ a0 a1 a2 a3,p0 a0 a1 a2 a3/\p1 a0 a1 a2 a3/\p2 a0 a1 a2 a3/\p3 a0 a1 a2 a3/\p4 a0 a1 a2 a3/\p5 a0 a1 a2 a3)->(∀ (a0:t0) (a1:t1) (a2:t2) (a3:t3),p0 a0 a1 a2 a3->p1 a0 a1 a2 a3->p2 a0 a1 a2 a3->p3 a0 a1 a2 a3->p4 a0 a1 a2 a3->p5 a0 a1 a2 a3->G)->G:=fun h k=>h.elim fun a0 h=>h.elim fun a1 h=>h.elim fun a2 h=>h.elim fun a3 h=>k a0 a1 a2 a3 h.1 h.2.1 h.2.2.1 h.2.2.2.1 h.2.2.2.2.1 h.2.2.2.2.2
theorem e4a7.{u0,u1,u2,u3}{t0:Sort u0}{t1:Sort u1}{t2:Sort u2}{t3:Sort u3}{p0 p1 p2 p3 p4 p5 p6:t0->t1->t2->t3->Prop}{G:Prop}:(∃ a0 a1 a2 a3,p0 a0 a1 a2 a3/\p1 a0 a1 a2 a3/\p2 a0 a1 a2 a3/\p3 a0 a1 a2 a3/\p4 a0 a1 a2 a3/\p5 a0 a1 a2 a3/\p6 a0 a1 a2 a3)->(∀ (a0:t0) (a1:t1) (a2:t2) (a3:t3),p0 a0 a1 a2 a3->p1 a0 a1 a2 a3->p2 a0 a1 a2 a3->p3 a0 a1 a2 a3->p4 a0 a1 a2 a3->p5 a0 a1 a2 a3->p6 a0 a1 a2 a3->G)->G:=fun h k=>h.elim fun a0 h=>h.elim fun a1 h=>h.elim fun a2 h=>h.elim fun a3 h=>k a0 a1 a2 a3 h.1 h.2.1 h.2.2.1 h.2.2.2.1 h.2.2.2.2.1 h.2.2.2.2.2.1 h.2.2.2.2.2.2
theorem e5a3.{u0,u1,u2,u3,u4}{t0:Sort u0}{t1:Sort u1}{t2:Sort u2}{t3:Sort u3}{t4:Sort u4}{p0 p1 p2:t0->t1->t2->t3->t4->Prop}{G:Prop}:(∃ a0 a1 a2 a3 a4,p0 a0 a1 a2 a3 a4/\p1 a0 a1 a2 a3 a4/\p2 a0 a1 a2 a3 a4)->(∀ (a0:t0) (a1:t1) (a2:t2) (a3:t3) (a4:t4),p0 a0 a1 a2 a3 a4->p1 a0 a1 a2 a3 a4->p2 a0 a1 a2 a3 a4->G)->G:=fun h k=>h.elim fun a0 h=>h.elim fun a1 h=>h.elim fun a2 h=>h.elim fun a3 h=>h.elim fun a4 h=>k a0 a1 a2 a3 a4 h.1 h.2.1 h.2.2
theorem e5a5.{u0,u1,u2,u3,u4}{t0:Sort u0}{t1:Sort u1}{t2:Sort u2}{t3:Sort u3}{t4:Sort u4}{p0 p1 p2 p3 p4:t0->t1->t2->t3->t4->Prop}{G:Prop}:(∃ a0 a1 a2 a3 a4,p0 a0 a1 a2 a3 a4/\p1 a0 a1 a2 a3 a4/\p2 a0 a1 a2 a3 a4/\p3 a0 a1 a2 a3 a4/\p4 a0 a1 a2 a3 a4)->(∀ (a0:t0) (a1:t1) (a2:t2) (a3:t3) (a4:t4),p0 a0 a1 a2 a3 a4->p1 a0 a1 a2 a3 a4->p2 a0 a1 a2 a3 a4->p3 a0 a1 a2 a3 a4->p4 a0 a1 a2 a3 a4->G)->G:=fun h k=>h.elim fun a0 h=>h.elim fun a1 h=>h.elim fun a2 h=>h.elim fun a3 h=>h.elim fun a4 h=>k a0 a1 a2 a3 a4 h.1 h.2.1 h.2.2.1 h.2.2.2.1 h.2.2.2.2
theorem e5a6.{u0,u1,u2,u3,u4}{t0:Sort u0}{t1:Sort u1}{t2:Sort u2}{t3:Sort u3}{t4:Sort u4}{p0 p1 p2 p3 p4 p5:t0->t1->t2->t3->t4->Prop}{G:Prop}:(∃ a0 a1 a2 a3 a4,p0 a0 a1 a2 a3 a4/\p1 a0 a1 a2 a3 a4/\p2 a0 a1 a2 a3 a4/\p3 a0 a1 a2 a3 a4/\p4 a0 a1 a2 a3 a4/\p5 a0 a1 a2 a3 a4)->(∀ (a0:t0) (a1:t1) (a2:t2) (a3:t3) (a4:t4),p0 a0 a1 a2 a3 a4->p1 a0 a1 a2 a3 a4->p2 a0 a1 a2 a3 a4->p3 a0 a1 a2 a3 a4->p4 a0 a1 a2 a3 a4->p5 a0 a1 a2 a3 a4->G)->G:=fun h k=>h.elim fun a0 h=>h.elim fun a1 h=>h.elim fun a2 h=>h.elim fun a3 h=>h.elim fun a4 h=>k a0 a1 a2 a3 a4 h.1 h.2.1 h.2.2.1 h.2.2.2.1 h.2.2.2.2.1 h.2.2.2.2.2
theorem e5a8.{u0,u1,u2,u3,u4}{t0:Sort u0}{t1:Sort u1}{t2:Sort u2}{t3:Sort u3}{t4:Sort u4}{p0 p1 p2 p3 p4 p5 p6 p7:t0->t1->t2->t3->t4->Prop}{G:Prop}:(∃ a0 a1 a2 a3 a4,p0 a0 a1 a2 a3 a4/\p1 a0 a1 a2 a3 a4/\p2 a0 a1 a2 a3 a4/\p3 a0 a1 a2 a3 a4/\p4 a0 a1 a2 a3 a4/\p5 a0 a1 a2 a3 a4/\p6 a0 a1 a2 a3 a4/\p7 a0 a1 a2 a3 a4)->(∀ (a0:t0) (a1:t1) (a2:t2) (a3:t3) (a4:t4),p0 a0 a1 a2 a3 a4->p1 a0 a1 a2 a3 a4->p2 a0 a1 a2 a3 a4->p3 a0 a1 a2 a3 a4->p4 a0 a1 a2 a3 a4->p5 a0 a1 a2 a3 a4->p6 a0 a1 a2 a3 a4->p7 a0 a1 a2 a3 a4->G)->G:=fun h k=>h.elim fun a0 h=>h.elim fun a1 h=>h.elim fun a2 h=>h.elim fun a3 h=>h.elim fun a4 h=>k a0 a1 a2 a3 a4 h.1 h.2.1 h.2.2.1 h.2.2.2.1 h.2.2.2.2.1 h.2.2.2.2.2.1 h.2.2.2.2.2.2.1 h.2.2.2.2.2.2.2
theorem e6a2.{u0,u1,u2,u3,u4,u5}{t0:Sort u0}{t1:Sort u1}{t2:Sort u2}{t3:Sort u3}{t4:Sort u4}{t5:Sort u5}{p0 p1:t0->t1->t2->t3->t4->t5->Prop}{G:Prop}:(∃ a0 a1 a2 a3 a4 a5,p0 a0 a1 a2 a3 a4 a5/\p1 a0 a1 a2 a3 a4 a5)->(∀ (a0:t0) (a1:t1) (a2:t2) (a3:t3) (a4:t4) (a5:t5),p0 a0 a1 a2 a3 a4 a5->p1 a0 a1 a2 a3 a4 a5->G)->G:=fun h k=>h.elim fun a0 h=>h.elim fun a1 h=>h.elim fun a2 h=>h.elim fun a3 h=>h.elim fun a4 h=>h.elim fun a5 h=>k a0 a1 a2 a3 a4 a5 h.1 h.2
theorem e6a3.{u0,u1,u2,u3,u4,u5}{t0:Sort u0}{t1:Sort u1}{t2:Sort u2}{t3:Sort u3}{t4:Sort u4}{t5:Sort u5}{p0 p1 p2:t0->t1->t2->t3->t4->t5->Prop}{G:Prop}:(∃ a0 a1 a2 a3 a4 a5,p0 a0 a1 a2 a3 a4 a5/\p1 a0 a1 a2 a3 a4 a5/\p2 a0 a1 a2 a3 a4 a5)->(∀ (a0:t0) (a1:t1) (a2:t2) (a3:t3) (a4:t4) (a5:t5),p0 a0 a1 a2 a3 a4 a5->p1 a0 a1 a2 a3 a4 a5->p2 a0 a1 a2 a3 a4 a5->G)->G:=fun h k=>h.elim fun a0 h=>h.elim fun a1 h=>h.elim fun a2 h=>h.elim fun a3 h=>h.elim fun a4 h=>h.elim fun a5 h=>k a0 a1 a2 a3 a4 a5 h.1 h.2.1 h.2.2
theorem e6a4.{u0,u1,u2,u3,u4,u5}{t0:Sort u0}{t1:Sort u1}{t2:Sort u2}{t3:Sort u3}{t4:Sort u4}{t5:Sort u5}{p0 p1 p2 p3:t0->t1->t2->t3->t4->t5->Prop}{G:Prop}:(∃ a0 a1 a2 a3 a4 a5,p0 a0 a1 a2 a3 a4 a5/\p1 a0 a1 a2 a3 a4 a5/\p2 a0 a1 a2 a3 a4 a5/\p3 a0 a1 a2 a3 a4 a5)->(∀ (a0:t0) (a1:t1) (a2:t2) (a3:t3) (a4:t4) (a5:t5),p0 a0 a1 a2 a3 a4 a5->p1 a0 a1 a2 a3 a4 a5->p2 a0 a1 a2 a3 a4 a5->p3 a0 a1 a2 a3 a4 a5->G)->G:=fun h k=>h.elim fun a0 h=>h.elim fun a1 h=>h.elim fun a2 h=>h.elim fun a3 h=>h.elim fun a4 h=>h.elim fun a5 h=>k a0 a1 a2 a3 a4 a5 h.1 h.2.1 h.2.2.1 h.2.2.2
theorem e6a5.{u0,u1,u2,u3,u4,u5}{t0:Sort u0}{t1:Sort u1}{t2:Sort u2}{t3:Sort u3}{t4:Sort u4}{t5:Sort u5}{p0 p1 p2 p3 p4:t0->t1->t2->t3->t4->t5->Prop}{G:Prop}:(∃ a0 a1 a2 a3 a4 a5,p0 a0 a1 a2 a3 a4 a5/\p1 a0 a1 a2 a3 a4 a5/\p2 a0 a1 a2 a3 a4 a5/\p3 a0 a1 a2 a3 a4 a5/\p4 a0 a1 a2 a3 a4 a5)->(∀ (a0:t0) (a1:t1) (a2:t2) (a3:t3) (a4:t4) (a5:t5),p0 a0 a1 a2 a3 a4 a5->p1 a0 a1 a2 a3 a4 a5->p2 a0 a1 a2 a3 a4 a5->p3 a0 a1 a2 a3 a4 a5->p4 a0 a1 a2 a3 a4 a5->G)->G:=fun h k=>h.elim fun a0 h=>h.elim fun a1 h=>h.elim fun a2 h=>h.elim fun a3 h=>h.elim fun a4 h=>h.elim fun a5 h=>k a0 a1 a2 a3 a4 a5 h.1 h.2.1 h.2.2.1 h.2.2.2.1 h.2.2.2.2
theorem e6a7.{u0,u1,u2,u3,u4,u5}{t0:Sort u0}{t1:Sort u1}{t2:Sort u2}{t3:Sort u3}{t4:Sort u4}{t5:Sort u5}{p0 p1 p2 p3 p4 p5 p6:t0->t1->t2->t3->t4->t5->Prop}{G:Prop}:(∃ a0 a1 a2 a3 a4 a5,p0 a0 a1 a2 a3 a4 a5/\p1 a0 a1 a2 a3 a4 a5/\p2 a0 a1 a2 a3 a4 a5/\p3 a0 a1 a2 a3 a4 a5/\p4 a0 a1 a2 a3 a4 a5/\p5 a0 a1 a2 a3 a4 a5/\p6 a0 a1 a2 a3 a4 a5)->(∀ (a0:t0) (a1:t1) (a2:t2) (a3:t3) (a4:t4) (a5:t5),p0 a0 a1 a2 a3 a4 a5->p1 a0 a1 a2 a3 a4 a5->p2 a0 a1 a2 a3 a4 a5->p3 a0 a1 a2 a3 a4 a5->p4 a0 a1 a2 a3 a4 a5->p5 a0 a1 a2 a3 a4 a5->p6 a0 a1 a2 a3 a4 a5->G)->G:=fun h k=>h.elim fun a0 h=>h.elim fun a1 h=>h.elim fun a2 h=>h.elim fun a3 h=>h.elim fun a4 h=>h.elim fun a5 h=>k a0 a1 a2 a3 a4 a5 h.1 h.2.1 h.2.2.1 h.2.2.2.1 h.2.2.2.2.1 h.2.2.2.2.2.1 h.2.2.2.2.2.2
theorem e6a8.{u0,u1,u2,u3,u4,u5}{t0:Sort u0}{t1:Sort u1}{t2:Sort u2}{t3:Sort u3}{t4:Sort u4}{t5:Sort u5}{p0 p1 p2 p3 p4 p5 p6 p7:t0->t1->t2->t3->t4->t5->Prop}{G:Prop}:(∃ a0 a1 a2 a3 a4 a5,p0 a0 a1 a2 a3 a4 a5/\p1 a0 a1 a2 a3 a4 a5/\p2 a0 a1 a2 a3 a4 a5/\p3 a0 a1 a2 a3 a4 a5/\p4 a0 a1 a2 a3 a4 a5/\p5 a0 a1 a2 a3 a4 a5/\p6 a0 a1 a2 a3 a4 a5/\p7 a0 a1 a2 a3 a4 a5)->(∀ (a0:t0) (a1:t1) (a2:t2) (a3:t3) (a4:t4) (a5:t5),p0 a0 a1 a2 a3 a4 a5->p1 a0 a1 a2 a3 a4 a5->p2 a0 a1 a2 a3 a4 a5->p3 a0 a1 a2 a3 a4 a5->p4 a0 a1 a2 a3 a4 a5->p5 a0 a1 a2 a3 a4 a5->p6 a0 a1 a2 a3 a4 a5->p7 a0 a1 a2 a3 a4 a5->G)->G:=fun h k=>h.elim fun a0 h=>h.elim fun a1 h=>h.elim fun a2 h=>h.elim fun a3 h=>h.elim fun a4 h=>h.elim fun a5 h=>k a0 a1 a2 a3 a4 a5 h.1 h.2.1 h.2.2.1 h.2.2.2.1 h.2.2.2.2.1 h.2.2.2.2.2.1 h.2.2.2.2.2.2.1 h.2.2.2.2.2.2.2
theorem e7a1.{u0,u1,u2,u3,u4,u5,u6}{t0:Sort u0}{t1:Sort u1}{t2:Sort u2}{t3:Sort u3}{t4:Sort u4}{t5:Sort u5}{t6:Sort u6}{p0:t0->t1->t2->t3->t4->t5->t6->Prop}{G:Prop}:(∃ a0 a1 a2 a3 a4 a5 a6,p0 a0 a1 a2 a3 a4 a5 a6)->(∀ (a0:t0) (a1:t1) (a2:t2) (a3:t3) (a4:t4) (a5:t5) (a6:t6),p0 a0 a1 a2 a3 a4 a5 a6->G)->G:=fun h k=>h.elim fun a0 h=>h.elim fun a1 h=>h.elim fun a2 h=>h.elim fun a3 h=>h.elim fun a4 h=>h.elim fun a5 h=>h.elim fun a6 h=>k a0 a1 a2 a3 a4 a5 a6 h
theorem e7a2.{u0,u1,u2,u3,u4,u5,u6}{t0:Sort u0}{t1:Sort u1}{t2:Sort u2}{t3:Sort u3}{t4:Sort u4}{t5:Sort u5}{t6:Sort u6}{p0 p1:t0->t1->t2->t3->t4->t5->t6->Prop}{G:Prop}:(∃ a0 a1 a2 a3 a4 a5 a6,p0 a0 a1 a2 a3 a4 a5 a6/\p1 a0 a1 a2 a3 a4 a5 a6)->(∀ (a0:t0) (a1:t1) (a2:t2) (a3:t3) (a4:t4) (a5:t5) (a6:t6),p0 a0 a1 a2 a3 a4 a5 a6->p1 a0 a1 a2 a3 a4 a5 a6->G)->G:=fun h k=>h.elim fun a0 h=>h.elim fun a1 h=>h.elim fun a2 h=>h.elim fun a3 h=>h.elim fun a4 h=>h.elim fun a5 h=>h.elim fun a6 h=>k a0 a1 a2 a3 a4 a5 a6 h.1 h.2
theorem e7a5.{u0,u1,u2,u3,u4,u5,u6}{t0:Sort u0}{t1:Sort u1}{t2:Sort u2}{t3:Sort u3}{t4:Sort u4}{t5:Sort u5}{t6:Sort u6}{p0 p1 p2 p3 p4:t0->t1->t2->t3->t4->t5->t6->Prop}{G:Prop}:(∃ a0 a1 a2 a3 a4 a5 a6,p0 a0 a1 a2 a3 a4 a5 a6/\p1 a0 a1 a2 a3 a4 a5 a6/\p2 a0 a1 a2 a3 a4 a5 a6/\p3 a0 a1 a2 a3 a4 a5 a6/\p4 a0 a1 a2 a3 a4 a5 a6)->(∀ (a0:t0) (a1:t1) (a2:t2) (a3:t3) (a4:t4) (a5:t5) (a6:t6),p0 a0 a1 a2 a3 a4 a5 a6->p1 a0 a1 a2 a3 a4 a5 a6->p2 a0 a1 a2 a3 a4 a5 a6->p3 a0 a1 a2 a3 a4 a5 a6->p4 a0 a1 a2 a3 a4 a5 a6->G)->G:=fun h k=>h.elim fun a0 h=>h.elim fun a1 h=>h.elim fun a2 h=>h.elim fun a3 h=>h.elim fun a4 h=>h.elim fun a5 h=>h.elim fun a6 h=>k a0 a1 a2 a3 a4 a5 a6 h.1 h.2.1 h.2.2.1 h.2.2.2.1 h.2.2.2.2
theorem e7a9.{u0,u1,u2,u3,u4,u5,u6}{t0:Sort u0}{t1:Sort u1}{t2:Sort u2}{t3:Sort u3}{t4:Sort u4}{t5:Sort u5}{t6:Sort u6}{p0 p1 p2 p3 p4 p5 p6 p7 p8:t0->t1->t2->t3->t4->t5->t6->Prop}{G:Prop}:(∃ a0 a1 a2 a3 a4 a5 a6,p0 a0 a1 a2 a3 a4 a5 a6/\p1 a0 a1 a2 a3 a4 a5 a6/\p2 a0 a1 a2 a3 a4 a5 a6/\p3 a0 a1 a2 a3 a4 a5 a6/\p4 a0 a1 a2 a3 a4 a5 a6/\p5 a0 a1 a2 a3 a4 a5 a6/\p6 a0 a1 a2 a3 a4 a5 a6/\p7 a0 a1 a2 a3 a4 a5 a6/\p8 a0 a1 a2 a3 a4 a5 a6)->(∀ (a0:t0) (a1:t1) (a2:t2) (a3:t3) (a4:t4) (a5:t5) (a6:t6),p0 a0 a1 a2 a3 a4 a5 a6->p1 a0 a1 a2 a3 a4 a5 a6->p2 a0 a1 a2 a3 a4 a5 a6->p3 a0 a1 a2 a3 a4 a5 a6->p4 a0 a1 a2 a3 a4 a5 a6->p5 a0 a1 a2 a3 a4 a5 a6->p6 a0 a1 a2 a3 a4 a5 a6->p7 a0 a1 a2 a3 a4 a5 a6->p8 a0 a1 a2 a3 a4 a5 a6->G)->G:=fun h k=>h.elim fun a0 h=>h.elim fun a1 h=>h.elim fun a2 h=>h.elim fun a3 h=>h.elim fun a4 h=>h.elim fun a5 h=>h.elim fun a6 h=>k a0 a1 a2 a3 a4 a5 a6 h.1 h.2.1 h.2.2.1 h.2.2.2.1 h.2.2.2.2.1 h.2.2.2.2.2.1 h.2.2.2.2.2.2.1 h.2.2.2.2.2.2.2.1 h.2.2.2.2.2.2.2.2
theorem l3 {p0 p1 p2 G:Prop}(h:(p0/\p1)/\p2)(k:p0->p1->p2->G):G:=k h.1.1 h.1.2 h.2
theorem nt {x:Bool}(h:(!x)=true):x=false:=by induction x with
 | true=>exact h.symm
 | false=>rfl
theorem aRh {x0:Bool}{t1:Type}{x1:List t1}{f1:t1->Bool}{x2:Prop}{i2:Decidable x2}{G:Prop}(h:(x0 && (x1.all f1) && (@decide x2 i2))=true)(k:(x0=true)->(∀ y∈x1,f1 y=true)->(x2)->G):G:=k ((aB (aB h).1).1) (aJ (aB (aB h).1).2) (aC (aB h).2)
theorem aAO {x0:Bool}{x1:Bool}(h:(x0 && x1)=true):(x0=true)/\(x1=true):=⟨(aB h).1,(aB h).2⟩
theorem aAK {x0:Bool}{x1:Bool}{G:Prop}(h:(x0 && x1)=true)(k:(x0=true)->(x1=true)->G):G:=k ((aB h).1) ((aB h).2)
theorem aG1 {x0:Bool}{x1:Bool}{x2:Bool}(h:(x0 && x1 && x2)=true):((x0=true)/\(x1=true))/\(x2=true):=⟨⟨(aB (aB h).1).1,(aB (aB h).1).2⟩,(aB h).2⟩
theorem aBs {x0:Bool}{x1:Bool}{x2:Bool}{G:Prop}(h:(x0 && x1 && x2)=true)(k:(x0=true)->(x1=true)->(x2=true)->G):G:=k ((aB (aB h).1).1) ((aB (aB h).1).2) ((aB h).2)
theorem aQe {x0:Bool}{x1:Bool}{x2:Bool}{x3:Bool}(h:(x0 && x1 && x2 && x3)=true):(((x0=true)/\(x1=true))/\(x2=true))/\(x3=true):=⟨⟨⟨(aB (aB (aB h).1).1).1,(aB (aB (aB h).1).1).2⟩,(aB (aB h).1).2⟩,(aB h).2⟩
theorem lM {x0:Bool}{x1:Bool}{x2:Bool}{x3:Bool}{G:Prop}(h:(x0 && x1 && x2 && x3)=true)(k:(x0=true)->(x1=true)->(x2=true)->(x3=true)->G):G:=k ((aB (aB (aB h).1).1).1) ((aB (aB (aB h).1).1).2) ((aB (aB h).1).2) ((aB h).2)
theorem aMP {x0:Bool}{x1:Bool}{x2:Bool}{x3:Bool}{x4:Prop}{i4:Decidable x4}{G:Prop}(h:(x0 && x1 && x2 && x3 && (@decide x4 i4))=true)(k:(x0=true)->(x1=true)->(x2=true)->(x3=true)->(x4)->G):G:=k ((aB (aB (aB (aB h).1).1).1).1) ((aB (aB (aB (aB h).1).1).1).2) ((aB (aB (aB h).1).1).2) ((aB (aB h).1).2) (aC (aB h).2)
theorem aKo {x0:Bool}{x1:Bool}{x2:Bool}{x3:Prop}{i3:Decidable x3}{G:Prop}(h:(x0 && x1 && x2 && (@decide x3 i3))=true)(k:(x0=true)->(x1=true)->(x2=true)->(x3)->G):G:=k ((aB (aB (aB h).1).1).1) ((aB (aB (aB h).1).1).2) ((aB (aB h).1).2) (aC (aB h).2)
theorem aG0 {x0:Bool}{x1:Bool}{x2:Bool}{x3:Prop}{i3:Decidable x3}{x4:Prop}{i4:Decidable x4}(h:(x0 && x1 && x2 && (@decide x3 i3) && (@decide x4 i4))=true):((((x0=true)/\(x1=true))/\(x2=true))/\(x3))/\(x4):=⟨⟨⟨⟨(aB (aB (aB (aB h).1).1).1).1,(aB (aB (aB (aB h).1).1).1).2⟩,(aB (aB (aB h).1).1).2⟩,aC (aB (aB h).1).2⟩,aC (aB h).2⟩
theorem aQd {x0:Bool}{x1:Bool}{x2:Prop}{i2:Decidable x2}{x3:Prop}{i3:Decidable x3}(h:(x0 && x1 && (@decide x2 i2) && (@decide x3 i3))=true):(((x0=true)/\(x1=true))/\(x2))/\(x3):=⟨⟨⟨(aB (aB (aB h).1).1).1,(aB (aB (aB h).1).1).2⟩,aC (aB (aB h).1).2⟩,aC (aB h).2⟩
theorem aPf {x0:Bool}{x1:Bool}{x2:Prop}{i2:Decidable x2}{x3:Prop}{i3:Decidable x3}{G:Prop}(h:(x0 && x1 && (@decide x2 i2) && (@decide x3 i3))=true)(k:(x0=true)->(x1=true)->(x2)->(x3)->G):G:=k ((aB (aB (aB h).1).1).1) ((aB (aB (aB h).1).1).2) (aC (aB (aB h).1).2) (aC (aB h).2)
theorem aNw {x0:Bool}{x1:Prop}{i1:Decidable x1}(h:(x0 && (@decide x1 i1))=true):(x0=true)/\(x1):=⟨(aB h).1,aC (aB h).2⟩
theorem aEv {x0:Bool}{x1:Prop}{i1:Decidable x1}{x2:Bool}(h:(x0 && (@decide x1 i1) && x2)=true):((x0=true)/\(x1))/\(x2=true):=⟨⟨(aB (aB h).1).1,aC (aB (aB h).1).2⟩,(aB h).2⟩
theorem aRg {x0:Bool}{x1:Prop}{i1:Decidable x1}{x2:Bool}{G:Prop}(h:(x0 && (@decide x1 i1) && x2)=true)(k:(x0=true)->(x1)->(x2=true)->G):G:=k ((aB (aB h).1).1) (aC (aB (aB h).1).2) ((aB h).2)
theorem aGt {x0:Bool}{x1:Prop}{i1:Decidable x1}{x2:Bool}{x3:Bool}{x4:Bool}{G:Prop}(h:(x0 && (@decide x1 i1) && x2 && x3 && x4)=true)(k:(x0=true)->(x1)->(x2=true)->(x3=true)->(x4=true)->G):G:=k ((aB (aB (aB (aB h).1).1).1).1) (aC (aB (aB (aB (aB h).1).1).1).2) ((aB (aB (aB h).1).1).2) ((aB (aB h).1).2) ((aB h).2)
theorem aKn {x0:Bool}{x1:Prop}{i1:Decidable x1}{x2:Bool}{x3:Bool}{x4:Bool}{x5:Bool}{G:Prop}(h:(x0 && (@decide x1 i1) && x2 && x3 && x4 && x5)=true)(k:(x0=true)->(x1)->(x2=true)->(x3=true)->(x4=true)->(x5=true)->G):G:=k ((aB (aB (aB (aB (aB h).1).1).1).1).1) (aC (aB (aB (aB (aB (aB h).1).1).1).1).2) ((aB (aB (aB (aB h).1).1).1).2) ((aB (aB (aB h).1).1).2) ((aB (aB h).1).2) ((aB h).2)
theorem aSb {x0:Bool}{x1:Bool}{G:Prop}(h:(x0 && (!x1))=true)(k:(x0=true)->(x1=false)->G):G:=k ((aB h).1) (nt (aB h).2)
theorem wE {x0:Bool}{x1:Bool}{t2:Type} [BEq t2] [LawfulBEq t2]{x2 y2:t2}{t3:Type} [BEq t3] [LawfulBEq t3]{x3 y3:t3}{x4:Bool}{t5:Type} [BEq t5] [LawfulBEq t5]{x5 y5:t5}{t6:Type} [BEq t6] [LawfulBEq t6]{x6 y6:t6}{t7:Type}{x7:List t7}{t8:Type}{x8:List t8}{f8:t8->Bool}{x9:Prop}{i9:Decidable x9}{t10:Type}{x10:List t10}{f10:t10->Bool}{x11:Prop}{i11:Decidable x11}{x12:Bool}{G:Prop}(h:(x0 && (!x1) && (x2 == y2) && (x3 == y3) && (!x4) && (x5 == y5) && (x6 == y6) && x7.isEmpty && (x8.all f8) && (@decide x9 i9) && (x10.all f10) && (@decide x11 i11) && x12)=true)(k:(x0=true)->(x1=false)->(x2=y2)->(x3=y3)->(x4=false)->(x5=y5)->(x6=y6)->(x7=[])->(∀ y∈x8,f8 y=true)->(x9)->(∀ y∈x10,f10 y=true)->(x11)->(x12=true)->G):G:=k ((aB (aB (aB (aB (aB (aB (aB (aB (aB (aB (aB (aB h).1).1).1).1).1).1).1).1).1).1).1).1) (nt (aB (aB (aB (aB (aB (aB (aB (aB (aB (aB (aB (aB h).1).1).1).1).1).1).1).1).1).1).1).2) (eq_of_beq (aB (aB (aB (aB (aB (aB (aB (aB (aB (aB (aB h).1).1).1).1).1).1).1).1).1).1).2) (eq_of_beq (aB (aB (aB (aB (aB (aB (aB (aB (aB (aB h).1).1).1).1).1).1).1).1).1).2) (nt (aB (aB (aB (aB (aB (aB (aB (aB (aB h).1).1).1).1).1).1).1).1).2) (eq_of_beq (aB (aB (aB (aB (aB (aB (aB (aB h).1).1).1).1).1).1).1).2) (eq_of_beq (aB (aB (aB (aB (aB (aB (aB h).1).1).1).1).1).1).2) (List.isEmpty_iff.mp (aB (aB (aB (aB (aB (aB h).1).1).1).1).1).2) (aJ (aB (aB (aB (aB (aB h).1).1).1).1).2) (aC (aB (aB (aB (aB h).1).1).1).2) (aJ (aB (aB (aB h).1).1).2) (aC (aB (aB h).1).2) ((aB h).2)
theorem aQc {x0:Prop}{i0:Decidable x0}{x1:Bool}(h:((@decide x0 i0) && x1)=true):(x0)/\(x1=true):=⟨aC (aB h).1,(aB h).2⟩
theorem aRf {x0:Prop}{i0:Decidable x0}{x1:Bool}{G:Prop}(h:((@decide x0 i0) && x1)=true)(k:(x0)->(x1=true)->G):G:=k (aC (aB h).1) ((aB h).2)
theorem yV {x0:Prop}{i0:Decidable x0}{x1:Bool}{x2:Bool}{G:Prop}(h:((@decide x0 i0) && x1 && x2)=true)(k:(x0)->(x1=true)->(x2=true)->G):G:=k (aC (aB (aB h).1).1) ((aB (aB h).1).2) ((aB h).2)
theorem rI {x0:Prop}{i0:Decidable x0}{x1:Bool}{x2:Bool}{x3:Bool}{G:Prop}(h:((@decide x0 i0) && x1 && x2 && x3)=true)(k:(x0)->(x1=true)->(x2=true)->(x3=true)->G):G:=k (aC (aB (aB (aB h).1).1).1) ((aB (aB (aB h).1).1).2) ((aB (aB h).1).2) ((aB h).2)
theorem aDE {x0:Prop}{i0:Decidable x0}{x1:Bool}{x2:Bool}{x3:Bool}{x4:Bool}{x5:Bool}{G:Prop}(h:((@decide x0 i0) && x1 && x2 && x3 && x4 && x5)=true)(k:(x0)->(x1=true)->(x2=true)->(x3=true)->(x4=true)->(x5=true)->G):G:=k (aC (aB (aB (aB (aB (aB h).1).1).1).1).1) ((aB (aB (aB (aB (aB h).1).1).1).1).2) ((aB (aB (aB (aB h).1).1).1).2) ((aB (aB (aB h).1).1).2) ((aB (aB h).1).2) ((aB h).2)
theorem aH0 {x0:Prop}{i0:Decidable x0}{x1:Bool}{x2:Bool}{x3:Bool}{x4:Bool}{x5:Bool}{x6:Bool}{G:Prop}(h:((@decide x0 i0) && x1 && x2 && x3 && x4 && x5 && x6)=true)(k:(x0)->(x1=true)->(x2=true)->(x3=true)->(x4=true)->(x5=true)->(x6=true)->G):G:=k (aC (aB (aB (aB (aB (aB (aB h).1).1).1).1).1).1) ((aB (aB (aB (aB (aB (aB h).1).1).1).1).1).2) ((aB (aB (aB (aB (aB h).1).1).1).1).2) ((aB (aB (aB (aB h).1).1).1).2) ((aB (aB (aB h).1).1).2) ((aB (aB h).1).2) ((aB h).2)
theorem yU {x0:Prop}{i0:Decidable x0}{x1:Bool}{x2:Bool}{x3:Bool}{x4:Bool}{x5:Bool}{x6:Bool}{x7:Bool}{G:Prop}(h:((@decide x0 i0) && x1 && x2 && x3 && x4 && x5 && x6 && x7)=true)(k:(x0)->(x1=true)->(x2=true)->(x3=true)->(x4=true)->(x5=true)->(x6=true)->(x7=true)->G):G:=k (aC (aB (aB (aB (aB (aB (aB (aB h).1).1).1).1).1).1).1) ((aB (aB (aB (aB (aB (aB (aB h).1).1).1).1).1).1).2) ((aB (aB (aB (aB (aB (aB h).1).1).1).1).1).2) ((aB (aB (aB (aB (aB h).1).1).1).1).2) ((aB (aB (aB (aB h).1).1).1).2) ((aB (aB (aB h).1).1).2) ((aB (aB h).1).2) ((aB h).2)
theorem aMO {x0:Prop}{i0:Decidable x0}{x1:Bool}{x2:Bool}{x3:Bool}{x4:Prop}{i4:Decidable x4}{G:Prop}(h:((@decide x0 i0) && x1 && x2 && x3 && (@decide x4 i4))=true)(k:(x0)->(x1=true)->(x2=true)->(x3=true)->(x4)->G):G:=k (aC (aB (aB (aB (aB h).1).1).1).1) ((aB (aB (aB (aB h).1).1).1).2) ((aB (aB (aB h).1).1).2) ((aB (aB h).1).2) (aC (aB h).2)
theorem aKm {x0:Prop}{i0:Decidable x0}{x1:Bool}{x2:Bool}{x3:Bool}{x4:Prop}{i4:Decidable x4}{x5:Bool}{G:Prop}(h:((@decide x0 i0) && x1 && x2 && x3 && (@decide x4 i4) && x5)=true)(k:(x0)->(x1=true)->(x2=true)->(x3=true)->(x4)->(x5=true)->G):G:=k (aC (aB (aB (aB (aB (aB h).1).1).1).1).1) ((aB (aB (aB (aB (aB h).1).1).1).1).2) ((aB (aB (aB (aB h).1).1).1).2) ((aB (aB (aB h).1).1).2) (aC (aB (aB h).1).2) ((aB h).2)
theorem aKl {x0:Prop}{i0:Decidable x0}{x1:Bool}{x2:Bool}{x3:Prop}{i3:Decidable x3}{G:Prop}(h:((@decide x0 i0) && x1 && x2 && (@decide x3 i3))=true)(k:(x0)->(x1=true)->(x2=true)->(x3)->G):G:=k (aC (aB (aB (aB h).1).1).1) ((aB (aB (aB h).1).1).2) ((aB (aB h).1).2) (aC (aB h).2)
theorem aMN {x0:Prop}{i0:Decidable x0}{x1:Bool}{x2:Bool}{x3:Prop}{i3:Decidable x3}{x4:Bool}{G:Prop}(h:((@decide x0 i0) && x1 && x2 && (@decide x3 i3) && x4)=true)(k:(x0)->(x1=true)->(x2=true)->(x3)->(x4=true)->G):G:=k (aC (aB (aB (aB (aB h).1).1).1).1) ((aB (aB (aB (aB h).1).1).1).2) ((aB (aB (aB h).1).1).2) (aC (aB (aB h).1).2) ((aB h).2)
theorem aHZ {x0:Prop}{i0:Decidable x0}{x1:Bool}{x2:Bool}{x3:Prop}{i3:Decidable x3}{x4:Bool}{x5:Prop}{i5:Decidable x5}{x6:Bool}{G:Prop}(h:((@decide x0 i0) && x1 && x2 && (@decide x3 i3) && x4 && (@decide x5 i5) && x6)=true)(k:(x0)->(x1=true)->(x2=true)->(x3)->(x4=true)->(x5)->(x6=true)->G):G:=k (aC (aB (aB (aB (aB (aB (aB h).1).1).1).1).1).1) ((aB (aB (aB (aB (aB (aB h).1).1).1).1).1).2) ((aB (aB (aB (aB (aB h).1).1).1).1).2) (aC (aB (aB (aB (aB h).1).1).1).2) ((aB (aB (aB h).1).1).2) (aC (aB (aB h).1).2) ((aB h).2)
theorem aGs {x0:Prop}{i0:Decidable x0}{x1:Bool}{x2:Prop}{i2:Decidable x2}{G:Prop}(h:((@decide x0 i0) && x1 && (@decide x2 i2))=true)(k:(x0)->(x1=true)->(x2)->G):G:=k (aC (aB (aB h).1).1) ((aB (aB h).1).2) (aC (aB h).2)
theorem aPe {x0:Prop}{i0:Decidable x0}{x1:Bool}{x2:Prop}{i2:Decidable x2}{x3:Bool}{G:Prop}(h:((@decide x0 i0) && x1 && (@decide x2 i2) && x3)=true)(k:(x0)->(x1=true)->(x2)->(x3=true)->G):G:=k (aC (aB (aB (aB h).1).1).1) ((aB (aB (aB h).1).1).2) (aC (aB (aB h).1).2) ((aB h).2)
theorem aDD {x0:Prop}{i0:Decidable x0}{x1:Bool}{x2:Prop}{i2:Decidable x2}{x3:Prop}{i3:Decidable x3}{x4:Bool}{x5:Bool}{x6:Bool}{x7:Prop}{i7:Decidable x7}{x8:Bool}{G:Prop}(h:((@decide x0 i0) && x1 && (@decide x2 i2) && (@decide x3 i3) && x4 && x5 && x6 && (@decide x7 i7) && x8)=true)(k:(x0)->(x1=true)->(x2)->(x3)->(x4=true)->(x5=true)->(x6=true)->(x7)->(x8=true)->G):G:=k (aC (aB (aB (aB (aB (aB (aB (aB (aB h).1).1).1).1).1).1).1).1) ((aB (aB (aB (aB (aB (aB (aB (aB h).1).1).1).1).1).1).1).2) (aC (aB (aB (aB (aB (aB (aB (aB h).1).1).1).1).1).1).2) (aC (aB (aB (aB (aB (aB (aB h).1).1).1).1).1).2) ((aB (aB (aB (aB (aB h).1).1).1).1).2) ((aB (aB (aB (aB h).1).1).1).2) ((aB (aB (aB h).1).1).2) (aC (aB (aB h).1).2) ((aB h).2)
theorem aNV {x0:Prop}{i0:Decidable x0}{x1:Prop}{i1:Decidable x1}{x2:Bool}{G:Prop}(h:((@decide x0 i0) && (@decide x1 i1) && x2)=true)(k:(x0)->(x1)->(x2=true)->G):G:=k (aC (aB (aB h).1).1) (aC (aB (aB h).1).2) ((aB h).2)
theorem aKk {x0:Prop}{i0:Decidable x0}{x1:Prop}{i1:Decidable x1}{x2:Bool}{x3:Bool}{x4:Bool}{x5:Prop}{i5:Decidable x5}{G:Prop}(h:((@decide x0 i0) && (@decide x1 i1) && x2 && x3 && x4 && (@decide x5 i5))=true)(k:(x0)->(x1)->(x2=true)->(x3=true)->(x4=true)->(x5)->G):G:=k (aC (aB (aB (aB (aB (aB h).1).1).1).1).1) (aC (aB (aB (aB (aB (aB h).1).1).1).1).2) ((aB (aB (aB (aB h).1).1).1).2) ((aB (aB (aB h).1).1).2) ((aB (aB h).1).2) (aC (aB h).2)
theorem aFl {x0:Prop}{i0:Decidable x0}{x1:Prop}{i1:Decidable x1}{x2:Bool}{x3:Bool}{x4:Bool}{x5:Prop}{i5:Decidable x5}{x6:Bool}{x7:Prop}{i7:Decidable x7}{G:Prop}(h:((@decide x0 i0) && (@decide x1 i1) && x2 && x3 && x4 && (@decide x5 i5) && x6 && (@decide x7 i7))=true)(k:(x0)->(x1)->(x2=true)->(x3=true)->(x4=true)->(x5)->(x6=true)->(x7)->G):G:=k (aC (aB (aB (aB (aB (aB (aB (aB h).1).1).1).1).1).1).1) (aC (aB (aB (aB (aB (aB (aB (aB h).1).1).1).1).1).1).2) ((aB (aB (aB (aB (aB (aB h).1).1).1).1).1).2) ((aB (aB (aB (aB (aB h).1).1).1).1).2) ((aB (aB (aB (aB h).1).1).1).2) (aC (aB (aB (aB h).1).1).2) ((aB (aB h).1).2) (aC (aB h).2)
theorem aKj {x0:Prop}{i0:Decidable x0}{x1:Prop}{i1:Decidable x1}{x2:Bool}{x3:Bool}{x4:Prop}{i4:Decidable x4}{x5:Prop}{i5:Decidable x5}{G:Prop}(h:((@decide x0 i0) && (@decide x1 i1) && x2 && x3 && (@decide x4 i4) && (@decide x5 i5))=true)(k:(x0)->(x1)->(x2=true)->(x3=true)->(x4)->(x5)->G):G:=k (aC (aB (aB (aB (aB (aB h).1).1).1).1).1) (aC (aB (aB (aB (aB (aB h).1).1).1).1).2) ((aB (aB (aB (aB h).1).1).1).2) ((aB (aB (aB h).1).1).2) (aC (aB (aB h).1).2) (aC (aB h).2)
theorem aQb {x0:Prop}{i0:Decidable x0}{x1:Prop}{i1:Decidable x1}{x2:Bool}{x3:Prop}{i3:Decidable x3}(h:((@decide x0 i0) && (@decide x1 i1) && x2 && (@decide x3 i3))=true):(((x0)/\(x1))/\(x2=true))/\(x3):=⟨⟨⟨aC (aB (aB (aB h).1).1).1,aC (aB (aB (aB h).1).1).2⟩,(aB (aB h).1).2⟩,aC (aB h).2⟩
theorem aPd {x0:Prop}{i0:Decidable x0}{x1:Prop}{i1:Decidable x1}{x2:Bool}{x3:Prop}{i3:Decidable x3}{G:Prop}(h:((@decide x0 i0) && (@decide x1 i1) && x2 && (@decide x3 i3))=true)(k:(x0)->(x1)->(x2=true)->(x3)->G):G:=k (aC (aB (aB (aB h).1).1).1) (aC (aB (aB (aB h).1).1).2) ((aB (aB h).1).2) (aC (aB h).2)
theorem aRe {x0:Prop}{i0:Decidable x0}{x1:Prop}{i1:Decidable x1}{x2:Prop}{i2:Decidable x2}{G:Prop}(h:((@decide x0 i0) && (@decide x1 i1) && (@decide x2 i2))=true)(k:(x0)->(x1)->(x2)->G):G:=k (aC (aB (aB h).1).1) (aC (aB (aB h).1).2) (aC (aB h).2)
theorem aKi {x0:Prop}{i0:Decidable x0}{x1:Prop}{i1:Decidable x1}{x2:Prop}{i2:Decidable x2}{x3:Bool}{x4:Bool}{x5:Bool}{G:Prop}(h:((@decide x0 i0) && (@decide x1 i1) && (@decide x2 i2) && x3 && x4 && x5)=true)(k:(x0)->(x1)->(x2)->(x3=true)->(x4=true)->(x5=true)->G):G:=k (aC (aB (aB (aB (aB (aB h).1).1).1).1).1) (aC (aB (aB (aB (aB (aB h).1).1).1).1).2) (aC (aB (aB (aB (aB h).1).1).1).2) ((aB (aB (aB h).1).1).2) ((aB (aB h).1).2) ((aB h).2)
theorem aAJ {x0:Prop}{i0:Decidable x0}{x1:Prop}{i1:Decidable x1}{x2:Prop}{i2:Decidable x2}{x3:Bool}{x4:Bool}{x5:Bool}{x6:Bool}{x7:Bool}{x8:Bool}{x9:Bool}{x10:Bool}{G:Prop}(h:((@decide x0 i0) && (@decide x1 i1) && (@decide x2 i2) && x3 && x4 && x5 && x6 && x7 && x8 && x9 && x10)=true)(k:(x0)->(x1)->(x2)->(x3=true)->(x4=true)->(x5=true)->(x6=true)->(x7=true)->(x8=true)->(x9=true)->(x10=true)->G):G:=k (aC (aB (aB (aB (aB (aB (aB (aB (aB (aB (aB h).1).1).1).1).1).1).1).1).1).1) (aC (aB (aB (aB (aB (aB (aB (aB (aB (aB (aB h).1).1).1).1).1).1).1).1).1).2) (aC (aB (aB (aB (aB (aB (aB (aB (aB (aB h).1).1).1).1).1).1).1).1).2) ((aB (aB (aB (aB (aB (aB (aB (aB h).1).1).1).1).1).1).1).2) ((aB (aB (aB (aB (aB (aB (aB h).1).1).1).1).1).1).2) ((aB (aB (aB (aB (aB (aB h).1).1).1).1).1).2) ((aB (aB (aB (aB (aB h).1).1).1).1).2) ((aB (aB (aB (aB h).1).1).1).2) ((aB (aB (aB h).1).1).2) ((aB (aB h).1).2) ((aB h).2)
theorem aRD {x0:Prop}{i0:Decidable x0}{x1:Bool}(h:((@decide x0 i0) && (!x1))=true):(x0)/\(x1=false):=⟨aC (aB h).1,nt (aB h).2⟩
theorem aRC {t0:Type} [BEq t0] [LawfulBEq t0]{x0 y0:t0}{t1:Type} [BEq t1] [LawfulBEq t1]{x1 y1:t1}{t2:Type} [BEq t2] [LawfulBEq t2]{x2 y2:t2}(h:((x0 == y0) && (x1 == y1) && (x2 == y2))=true):((x0=y0)/\(x1=y1))/\(x2=y2):=⟨⟨eq_of_beq (aB (aB h).1).1,eq_of_beq (aB (aB h).1).2⟩,eq_of_beq (aB h).2⟩
theorem aRd {t0:Type} [BEq t0] [LawfulBEq t0]{x0 y0:t0}{t1:Type} [BEq t1] [LawfulBEq t1]{x1 y1:t1}{t2:Type} [BEq t2] [LawfulBEq t2]{x2 y2:t2}{G:Prop}(h:((x0 == y0) && (x1 == y1) && (x2 == y2))=true)(k:(x0=y0)->(x1=y1)->(x2=y2)->G):G:=k (eq_of_beq (aB (aB h).1).1) (eq_of_beq (aB (aB h).1).2) (eq_of_beq (aB h).2)
theorem aMM {t0:Type} [BEq t0] [LawfulBEq t0]{x0 y0:t0}{x1:Bool}{x2:Bool}{x3:Prop}{i3:Decidable x3}{x4:Bool}{G:Prop}(h:((x0 == y0) && (!x1) && (!x2) && (@decide x3 i3) && x4)=true)(k:(x0=y0)->(x1=false)->(x2=false)->(x3)->(x4=true)->G):G:=k (eq_of_beq (aB (aB (aB (aB h).1).1).1).1) (nt (aB (aB (aB (aB h).1).1).1).2) (nt (aB (aB (aB h).1).1).2) (aC (aB (aB h).1).2) ((aB h).2)
noncomputable def mQ:List (List Nat):=[[99,104,95,97],
 [99,104,95,98],
 [97],
 [98],
 [109,97,120,95,99,111,115,116],
 [112,114,101],
 [112,111,115,116],
 [114,111,119],
 [114,101,115,117,108,116],
 [98,105,110,100,101,120],
 [98,99,104,97,114],
 [100,105,115,116,97,110,99,101],
 [109,105,110,105,109,117,109],
 [105,110,100,101,120],
 [115,117,98,115,116,105,116,117,116,101],
 [105,110,115,101,114,116,95,100,101,108,101,116,101],
 [97,100,100,114],
 [115,116,97,114,116],
 [111,112,101,110,95,112,111,115],
 [112,111,115],
 [99,104],
 [111,112,101,110,115],
 [108,101,116,116,101,114,115],
 [99,117,116],
 [100,114,101,115,115,101,100],
 [100,114,101,115,115],
 [97,104,101,97,100],
 [98,101,104,105,110,100],
 [99,108,111,115,101,115],
 [108,97,115,116],
 [112,108,97,99,101],
 [108,101,116,116,101,114],
 [112,105,101,99,101],
 [112,97,114,116,115],
 [104,105,100,100,101,110],
 [101,110,100],
 [116,101,120,116],
 [108,101,102,116],
 [108,111,119],
 [104,105,103,104],
 [109,111,114,101],
 [100,117,101],
 [103,97,112],
 [115,99,114,105,112,116],
 [110,117,109,98,101,114,115],
 [115,117,109,115],
 [98,97,115,101],
 [109,97,110,121],
 [120],
 [119,104,111,108,101],
 [116,97,98,108,101],
 [108,97,105,100],
 [119,111,114,100,115],
 [109,97,115,107],
 [119,111,114,100],
 [115,105,103,110],
 [116,97,107,101,110],
 [257],
 [116,111,108,100],
 [116,111,116,97,108],
 [108,105,101,115],
 [110,97,109,101],
 [111,110,101],
 [111,116,104,101,114],
 [119,97,121,115],
 [105],
 [106],
 [115,97,118,101,100],
 [99,111,115,116],
 [102,97,114],
 [119,111,114,115,116],
 [109,105,100,100,108,101],
 [115,105,122,101,115],
 [116,119,111],
 [116,104,114,101,101],
 [110,97,109,101,115],
 [112,105,101,99,101,115],
 [115,116,101,112,115],
 [110,101,115,116],
 [104,111,109,101],
 [107,101,112,116],
 [108,101,118,101,108],
 [105,110,116,111],
 [108,111,115,116],
 [116,104,105,110,103],
 [102,111,117,110,100],
 [112,97,105,114,115],
 [101,110,100,115],
 [98,101,116,119,101,101,110],
 [289],
 [114,111,119,115],
 [291],
 [117,110,105,116,115],
 [293],
 [294],
 [109,97,114,107,115],
 [296],
 [97,112,97,114,116],
 [115,105,122,101],
 [98,105,116,115],
 [99,111,108,117,109,110,115],
 [99,111,108,117,109,110],
 [115,113,117,97,114,101,115],
 [303],
 [304],
 [305],
 [306],
 [307],
 [308],
 [309],
 [310],
 [311],
 [101,115,99,97,112,101],
 [115,101,108,102],
 [118,97,108,117,101],
 [107,118],
 [107],
 [118],
 [114,101,103,101,120],
 [95,110,97,109,101],
 [95,118,97,108,117,101],
 [95,112,97,114,97,109,115],
 [104,101,97,100,101,114,115],
 [118,97,108]]
open PySem
inductive PV where
 | dat (d:PyData)
 | hdr (l:List (List Nat × List Nat))
 | gen (ds:List PyData)
noncomputable abbrev AE:=Nat->Option PV
noncomputable def AE.set (E:AE)(i:Nat)(x:PV):AE:=fun j=>if j=i then some x else E j
noncomputable def AE.del (E:AE)(i:Nat):AE:=fun j=>if j=i then none else E j
@[reducible] noncomputable def S (l:List Nat):PyData:=.str ⟨⟨l⟩⟩
@[reducible] noncomputable def sl (x:Str):List Nat:=x.cps.toList
inductive Bop where | add | sub | mul | fdiv | mod | pow
inductive Cop where | eq | ne | lt | le | gt | ge | isin | notin
inductive P1 where
 | len | sum | lower
 | swapcase
 | mini
 | sorted
inductive P2 where
 | min2
 | max2
 | join
 | find
inductive Tgt where
 | name (i:Nat)
 | tup (is:List Nat)
mutual
inductive X where
 | int (i:Int) | str (l:List Nat) | bool (b:Bool) | none
 | var (i:Nat)
 | glo (i:Nat)
 | neg (i:Int)
 | bin (op:Bop) (a b:X)
 | not (a:X)
 | cmp1 (op:Cop) (a b:X)
 | isC (n:Bool) (a:X) (c:X)
 | isT (n:Bool) (a:X) (t:Nat)
 | and (xs:Xs)
 | or (xs:Xs)
 | ite (t a b:X)
 | lst (xs:Xs)
 | tup (xs:Xs)
 | idx (a i:X)
 | slc (a lo hi st:X)
 | call (f:Nat) (xs:Xs)
 | p1 (p:P1) (a:X)
 | p2 (p:P2) (a b:X)
 | lof (it:It)
 | comp (elt:X) (t:Tgt) (it:It) (ifs:Xs)
 | hget (h:Nat) (a:X)
 | hvals (h:Nat)
 | tysNe (a:X) (n:Int)
 | hattr (i:Nat)
inductive Xs where
 | nil
 | cons (x:X) (xs:Xs)
inductive It where
 | val (a:X)
 | rng1 (a:X)
 | rng3 (a b c:X)
 | enm (a:X)
 | gen (a:X)
end
mutual
inductive St where
 | asg (m:Nat) (i:Nat) (e:X)
 | asgH (i:Nat)
 | swap (i j:Nat) (a b:X)
 | asg2 (i j:Nat) (e:X)
 | aug (i:Nat) (op:Bop) (e:X)
 | setI (i:Nat) (k e:X)
 | setJ (i:Nat) (k l e:X)
 | app (i:Nat) (e:X)
 | ext (i:Nat) (e:X)
 | hadd (i:Nat) (a b:X)
 | hdel (i:Nat) (a:X)
 | hset (i:Nat) (a b:X)
 | iff (t:X) (a b:Sts)
 | forS (t:Tgt) (it:It) (b:Sts)
 | whil (t:X) (b:Sts)
 | ret (e:X)
 | frz (i:Nat)
inductive Sts where
 | nil
 | cons (x:St) (xs:Sts)
end
noncomputable def lim:Nat:=1000000
noncomputable def tr:PyData->Option Bool
 | .none=>some false
 | .bool b=>some b
 | .int i=>some (i != 0)
 | .str x=>if (sl x).length<=lim then some (!(sl x).isEmpty)else none
 | .list xs=>if xs.length<=lim then some (!xs.isEmpty)else none
 | .tuple xs=>if xs.length<=lim then some (!xs.isEmpty)else none
 | .dict _=>none
noncomputable def rep (l:List J):Nat->List J
 | 0=>[]
 | n+1=>l++rep l n
noncomputable def noL:PyData->Bool
 | .none=>true
 | .bool _=>true
 | .int _=>true
 | .str _=>true
 | _=>false
noncomputable def qS (d:PyData):Bool:=d.canLay0 && decide (d.depth<=64)
noncomputable def oI {β:Type}(x:PyData)(k:Int->Option β)(e:Option β):Option β:=match x with
 | .int i=>k i
 | _=>e
noncomputable def oS {β:Type}(x:PyData)(k:Str->Option β)(e:Option β):Option β:=match x with
 | .str i=>k i
 | _=>e
noncomputable def oL {β:Type}(x:PyData)(k:List PyData->Option β)(e:Option β):Option β:=match x with
 | .list i=>k i
 | _=>e
noncomputable def oT {β:Type}(x:PyData)(k:List PyData->Option β)(e:Option β):Option β:=match x with
 | .tuple i=>k i
 | _=>e
theorem jI {β:Type}{x:PyData}{k:Int->Option β}{e z:Option β}{P:Prop}(g:∀ i,x=.int i->k i=z->P)(g2:e=z->P)(h:oI x k e=z):P:=by
 cases x with
 | int i=>exact g i rfl h
 | _=>exact g2 h
theorem mO {β:Type}{x:PyData}{k:Str->Option β}{e z:Option β}{P:Prop}(g:∀ i,x=.str i->k i=z->P)(g2:e=z->P)(h:oS x k e=z):P:=by
 cases x with
 | str i=>exact g i rfl h
 | _=>exact g2 h
theorem oG {β:Type}{x:PyData}{k:List PyData->Option β}{e z:Option β}{P:Prop}(g:∀ i,x=.list i->k i=z->P)(g2:e=z->P)(h:oL x k e=z):P:=by
 cases x with
 | list i=>exact g i rfl h
 | _=>exact g2 h
theorem aFf {β:Type}{x:PyData}{k:List PyData->Option β}{e z:Option β}{P:Prop}(g:∀ i,x=.tuple i->k i=z->P)(g2:e=z->P)(h:oT x k e=z):P:=by
 cases x with
 | tuple i=>exact g i rfl h
 | _=>exact g2 h
noncomputable def oN {β:Type}(x:PyData)(k e:Option β):Option β:=match x with
 | .none=>k
 | _=>e
theorem aFg {β:Type}{x:PyData}{k e z:Option β}{P:Prop}(g:x=.none->k=z->P)(g2:e=z->P)(h:oN x k e=z):P:=by
 cases x with
 | none=>exact g rfl h
 | _=>exact g2 h
@[simp] theorem aSR {β:Type}{k e:Option β}:oN .none k e=k:=rfl
@[simp] theorem aST {β:Type}{k e:Option β}{i:Int}:oN (.int i) k e=e:=rfl
@[simp] theorem aSQ {β:Type}{k e:Option β}{i:Str}:oN (.str i) k e=e:=rfl
@[simp] theorem aSS {β:Type}{k e:Option β}{i:List PyData}:oN (.list i) k e=e:=rfl
noncomputable def oB {β:Type}(x:PyData)(k:Bool->Option β)(e:Option β):Option β:=match x with
 | .bool i=>k i
 | _=>e
theorem aOT {β:Type}{x:PyData}{k:Bool->Option β}{e z:Option β}{P:Prop}(g:∀ i,x=.bool i->k i=z->P)(g2:e=z->P)(h:oB x k e=z):P:=by
 cases x with
 | bool i=>exact g i rfl h
 | _=>exact g2 h
@[simp] theorem aSV {β:Type}{k:Bool->Option β}{e:Option β}{b:Bool}:oB (.bool b) k e=k b:=rfl
noncomputable def bI {β:Type}(x y:PyData)(f:Int->Int->Option β):Option β:=oI x (fun a=>oI y (fun b=>f a b) none) none
theorem pO {β:Type}{x y:PyData}{f:Int->Int->Option β}{z:β}{P:Prop}(g:∀ a b,x=.int a->y=.int b->f a b=some z->P)(h:bI x y f=some z):P :=
 jI (fun a hx=>jI (fun b hy=>g a b hx hy) cM) cM h
noncomputable def aSo (x y:PyData):Option PyData:=oI x (fun a=>oI y (fun b=>some (.int (a+b))) none)
 (oS x (fun a=>oS y (fun b=>if (sl a).length+(sl b).length<=lim then some (S (sl a++sl b))else none) none)
 (oL x (fun a=>oL y (fun b=>if a.length+b.length<=lim then some (.list (a++b))else none) none) none))
noncomputable def aSn (x y:PyData):Option PyData:=oI y (fun n=>oI x (fun a=>if a.natAbs<=lim/\n.natAbs<=lim then some (.int (a * n))else none)
 (oS x (fun a=>if 0<=n/\n<=lim/\(sl a).length * n.toNat<=lim then some (S (rep (sl a) n.toNat))else none)
 (oL x (fun a=>if 0<=n/\n<=lim/\a.length * n.toNat<=lim then some (.list (rep a n.toNat))else none) none))) none
noncomputable def kQ (op:Bop)(x y:PyData):Option PyData:=match op with
 | .add=>aSo x y
 | .sub=>bI x y fun a b=>some (.int (a - b))
 | .mul=>aSn x y
 | .fdiv=>bI x y fun a b=>if 0 < b/\b<=lim then some (.int (a / b))else none
 | .mod=>bI x y fun a b=>if 0 < b/\b<=lim then some (.int (a % b))else none
 | .pow=>bI x y fun a n=>if 0<=n/\n<=10/\a.natAbs<=1000 then some (.int (a ^ n.toNat))else none
noncomputable def aNx (x y:PyData):Option Bool:=if qS x=true/\qS y=true then some (PyData.eqv x y)else none
noncomputable def cEq (x y:PyData):Option Bool:=oI x (fun a=>oI y (fun b=>some (decide (a=b))) (aNx x y))
 (oS x (fun a=>oS y (fun b=>some (decide (sl a=sl b))) (aNx x y)) (aNx x y))
noncomputable def cIn (x y:PyData):Option Bool:=oS y (fun b=>oS x (fun a=>match sl a with
  | [c]=>some ((sl b).contains c)
  | _=>none) none)
 (oL y (fun xs=>if qS (.list xs)=true/\qS x=true then some (xs.any fun y=>PyData.eqv y x)else none)
 (oT y (fun xs=>if qS (.tuple xs)=true/\qS x=true then some (xs.any fun y=>PyData.eqv y x)else none) none))
noncomputable def kP (op:Cop)(x y:PyData):Option Bool:=match op with
 | .eq=>cEq x y
 | .ne=>(cEq x y).bind fun b=>some (!b)
 | .lt=>bI x y fun a b=>some (decide (a < b))
 | .le=>bI x y fun a b=>some (decide (a<=b))
 | .gt=>bI x y fun a b=>some (decide (b < a))
 | .ge=>bI x y fun a b=>some (decide (b<=a))
 | .isin=>cIn x y
 | .notin=>(cIn x y).bind fun b=>some (!b)
noncomputable def sR (d y:PyData):Option Bool:=oN y (oN d (some true) (some false)) (oB y (fun c=>oB d (fun b=>some (b == c)) (some false)) none)
noncomputable def aL7:PyData->Option Nat
 | .int _=>some 0
 | .str _=>some 1
 | .list _=>some 2
 | _=>none
noncomputable def kW (i:Int)(n:Nat):Option Nat :=
 if 0<=i then(if i < (n:Int)then some i.toNat else none)
 else if 0<=i+(n:Int)then some (i+(n:Int)).toNat else none
noncomputable def jD (x y:PyData):Option PyData:=oI y (fun i =>
 oL x (fun xs=>if xs.length<=lim then(kW i xs.length).bind fun k=>xs[k]? else none)
 (oT x (fun xs=>if xs.length<=lim then(kW i xs.length).bind fun k=>xs[k]? else none)
 (oS x (fun x=>if (sl x).length<=lim then(kW i (sl x).length).bind fun k=>((sl x)[k]?).map fun c=>S [c]else none) none))) none
noncomputable def aCH (i:Int)(n:Nat):Nat:=if 0<=i then min i.toNat n else(i+(n:Int)).toNat
noncomputable def cut (lo hi:Nat)(l:List J):List J:=(l.take hi).drop lo
noncomputable def fH (st:Nat):Nat->List J->List J
 | _,[]=>[]
 | 0,x::r=>x::fH st (st - 1) r
 | k+1,_::r=>fH st k r
noncomputable def bnd:PyData->Nat->Nat->Option Nat
 | .none,dflt,_=>some dflt
 | .int i,_,n=>some (aCH i n)
 | _,_,_=>none
noncomputable def kO (x lo hi t:PyData):Option PyData:=oN t
 (oL x (fun xs=>if xs.length<=lim then(bnd lo 0 xs.length).bind fun a=>(bnd hi xs.length xs.length).bind fun b=>some (.list (cut a b xs))else none)
 (oS x (fun x=>if (sl x).length<=lim then(bnd lo 0 (sl x).length).bind fun a=>(bnd hi (sl x).length (sl x).length).bind fun b=>some (S (cut a b (sl x)))else none) none))
 (oI t (fun st=>oN hi (oL x (fun xs=>if xs.length<=lim/\0 < st/\st<=100 then(bnd lo 0 xs.length).bind fun a=>some (.list (fH st.toNat 0 (xs.drop a)))else none) none) none) none)
noncomputable def cK (c:Nat):Nat:=if 65<=c/\c<=90 then c+32 else c
noncomputable def mH (c:Nat):Nat:=if 97<=c/\c<=122 then c - 32 else if 65<=c/\c<=90 then c+32 else c
noncomputable def mF (l:List Nat):Bool:=l.all fun c=>Nat.blt c 128
noncomputable def aBZ:List PyData->Option Int
 | []=>some 0
 | .int i::r=>(aBZ r).bind fun k=>some (i+k)
 | _::_=>none
noncomputable def aC5:List PyData->Option (List (List Nat))
 | []=>some []
 | .str x::r=>(aC5 r).bind fun k=>some (sl x::k)
 | _::_=>none
noncomputable def aDM:List PyData->Option (List Int)
 | []=>some []
 | .int x::r=>(aDM r).bind fun k=>some (x::k)
 | _::_=>none
noncomputable def eV (sep:List Nat):List (List Nat)->List Nat
 | []=>[]
 | [x]=>x
 | x::r=>x++sep++eV sep r
noncomputable def uF (a:Int):List Int->Int
 | []=>a
 | b::r=>uF (if b < a then b else a) r
noncomputable def kK (sub:List Nat):List Nat->Nat->Int
 | [],i=>if sub.isEmpty then i else -1
 | c::r,i=>if sub.isPrefixOf (c::r)then i else kK sub r (i+1)
noncomputable def iH:PyData->Option Int
 | .int x=>some x
 | _=>none
noncomputable def aKU (d:PyData):Option Int:=oT d (fun xs=>match xs with
 | [a,_]=>iH a
 | _=>none) none
noncomputable def aNJ:List PyData->Option (List PyData)
 | [x,y]=>(aKU x).bind fun a=>(aKU y).bind fun c=>if c < a then some [y,x]else if a < c then some [x,y]else none
 | _=>none
noncomputable def uT (p:P1)(d:PyData):Option PyData:=match p with
 | .len=>oL d (fun xs=>if xs.length<=lim then some (.int xs.length)else none) (oS d (fun x=>if (sl x).length<=lim then some (.int (sl x).length)else none) (oT d (fun xs=>if xs.length<=lim then some (.int xs.length)else none) none))
 | .sum=>oL d (fun xs=>(aBZ xs).bind fun k=>some (.int k)) none
 | .lower=>oS d (fun x=>if mF (sl x)=true/\(sl x).length<=lim then some (S ((sl x).map cK))else none) none
 | .swapcase=>oS d (fun x=>if mF (sl x)=true/\(sl x).length<=lim then some (S ((sl x).map mH))else none) none
 | .mini=>oL d (fun xs=>(aDM xs).bind fun l=>match l with
  | []=>none
  | a::r=>some (.int (uF a r))) none
 | .sorted=>oL d (fun xs=>(aNJ xs).bind fun ys=>some (.list ys)) none
noncomputable def wF (p:P2)(x y:PyData):Option PyData:=match p with
 | .min2=>bI x y fun a b=>some (.int (if b < a then b else a))
 | .max2=>bI x y fun a b=>some (.int (if a < b then b else a))
 | .join=>oS x (fun x=>oL y (fun xs=>(aC5 xs).bind fun ls=>if (eV (sl x) ls).length<=lim/\xs.length<=lim/\(sl x).length<=lim then some (S (eV (sl x) ls))else none) none) none
 | .find=>oS x (fun x=>oS y (fun y=>if (sl x).length<=lim/\(sl y).length<=lim then some (.int (kK (sl y) (sl x) 0))else none) none) none
noncomputable def bT:List Nat->Nat->Bool->List PyData
 | [],_,false=>[]
 | [],i,true=>[.tuple [.int ((i:Int) - 1),S [92]]]
 | c::r,i,true=>.tuple [.int i,S [92,c]]::bT r (i+1) false
 | c::r,i,false=>if c=92 then bT r (i+1) true else .tuple [.int i,S [c]]::bT r (i+1) false
noncomputable def kE:List Nat->List PyData->AE->Option AE
 | [],[],E=>some E
 | i::is,d::ds,E=>kE is ds (E.set i (.dat d))
 | _,_,_=>none
noncomputable def dF (t:Tgt)(d:PyData)(E:AE):Option AE:=match t with
 | .name i=>some (E.set i (.dat d))
 | .tup is=>match d with
  | .tuple ds=>kE is ds E
  | _=>none
noncomputable def Tgt.ids:Tgt->List Nat
 | .name i=>[i]
 | .tup is=>is
noncomputable def compLoop (tests:AE->Option Bool)(elt:AE->Option PyData)(bindv:PyData->Option AE):List PyData->Option (List PyData)
 | []=>some []
 | d::ds=>(bindv d).bind fun E=>(tests E).bind fun t=>match t with
  | false=>compLoop tests elt bindv ds
  | true=>(elt E).bind fun y=>(compLoop tests elt bindv ds).bind fun ys=>some (y::ys)
noncomputable def isL:PyData->Bool
 | .list _=>true
 | _=>false
noncomputable def aMz:PyData->Bool
 | .list ys=>ys.all noL
 | _=>false
noncomputable def aN3:Nat->PyData->Bool
 | 0,_=>true
 | 1,d=>isL d
 | _,.list xs=>xs.all aMz
 | _,_=>false
noncomputable def mL (a:Int)(c:Int):Nat->List PyData
 | 0=>[]
 | n+1=>.int a::mL (a+c) c n
noncomputable def aHw (a b c:Int):Nat:=if a < b then((b - a+c - 1) / c).toNat else 0
noncomputable def lE:List PyData->Nat->List PyData
 | [],_=>[]
 | d::ds,i=>.tuple [.int i,d]::lE ds (i+1)
noncomputable def jN (l:List Nat):List PyData:=l.map fun c=>S [c]
noncomputable def items:PyData->Option (List PyData)
 | .list xs=>if xs.length<=lim then some xs else none
 | .tuple xs=>if xs.length<=lim then some xs else none
 | .str x=>if mF (sl x)=true/\(sl x).length<=lim then some (jN (sl x))else none
 | _=>none
noncomputable def fV (E:AE)(i:Nat):Option (List (List Nat × List Nat)):=match E i with
 | some (.hdr l)=>some l
 | _=>none
noncomputable def aI (E:AE)(i:Nat):Option PyData:=match E i with
 | some (.dat d)=>some d
 | _=>none
noncomputable def bS (l:List Nat):Bool:=l.all (fun c=>Nat.ble 32 c && Nat.blt c 127) && Nat.ble l.length lim
noncomputable def dS (l:List (List Nat × List Nat)):Bool:=l.all (fun p=>bS p.1 && bS p.2) && Nat.ble l.length lim
noncomputable def eC (n:List Nat)(l:List (List Nat × List Nat)):List (List Nat) :=
 (l.filter fun p=>decide (p.1.map cK=n.map cK)).map (·.2)
noncomputable def eJ (n:List Nat)(l:List (List Nat × List Nat)):List (List Nat × List Nat) :=
 l.filter fun p=>!decide (p.1.map cK=n.map cK)
noncomputable def kD:PyData->Option (List Nat)
 | .str x=>some (sl x)
 | _=>none
noncomputable def iT:PyData->Option (List PyData)
 | .list x=>some x
 | _=>none
section
variable (G:Nat->Option Int) (T:Nat->List PV->Option PyData)
mutual
noncomputable def ev:X->AE->Option PyData
 | .int i,_=>some (.int i)
 | .str l,_=>some (S l)
 | .bool b,_=>some (.bool b)
 | .none,_=>some .none
 | .var i,E=>aI E i
 | .glo i,_=>(G i).bind fun v=>some (.int v)
 | .neg i,_=>some (.int (-i))
 | .bin op a b,E=>(ev a E).bind fun x=>(ev b E).bind fun y=>kQ op x y
 | .not a,E=>(ev a E).bind fun x=>(tr x).bind fun b=>some (.bool (!b))
 | .cmp1 op a b,E=>(ev a E).bind fun x=>(ev b E).bind fun y=>(kP op x y).bind fun r=>some (.bool r)
 | .isC n a c,E=>(ev a E).bind fun x=>(ev c E).bind fun y=>(sR x y).bind fun r=>some (.bool (r != n))
 | .isT n a t,E=>(ev a E).bind fun x=>(aL7 x).bind fun k=>some (.bool ((Nat.beq k t) != n))
 | .and xs,E=>evAnd xs E
 | .or xs,E=>evOr xs E
 | .ite t a b,E=>(ev t E).bind fun x=>(tr x).bind fun q=>match q with
  | true=>ev a E
  | false=>ev b E
 | .lst xs,E=>(evs xs E).bind fun ds=>some (.list ds)
 | .tup xs,E=>(evs xs E).bind fun ds=>some (.tuple ds)
 | .idx a i,E=>(ev a E).bind fun x=>(ev i E).bind fun y=>jD x y
 | .slc a lo hi st,E=>(ev a E).bind fun x=>(ev lo E).bind fun l=>(ev hi E).bind fun h=>(ev st E).bind fun t=>kO x l h t
 | .call f xs,E=>(evs xs E).bind fun ds=>T f (ds.map .dat)
 | .p1 p a,E=>(ev a E).bind fun x=>uT p x
 | .p2 p a b,E=>(ev a E).bind fun x=>(ev b E).bind fun y=>wF p x y
 | .lof it,E=>(evIt it E).bind fun ds=>some (.list ds)
 | .comp elt t it ifs,E=>(evIt it E).bind fun ds=>(compLoop (fun E'=>evTests ifs E') (fun E'=>ev elt E') (fun d=>dF t d E) ds).bind fun ys=>some (.list ys)
 | .hget i a,E=>(fV E i).bind fun l=>(ev a E).bind fun x=>(kD x).bind fun n=>if bS n=true/\dS l=true then some (.list ((eC n l).map S))else none
 | .hvals i,E=>(fV E i).bind fun l=>if dS l=true then some (.list (l.map fun p=>S p.2))else none
 | .tysNe a n,E=>(ev a E).bind fun x=>(iT x).bind fun xs=>if (xs.all fun d=>(iH d).isSome)=true/\n<=1000/\(xs.length:Int)=n then some (.bool false)else none
 | .hattr i,E=>(fV E i).bind fun l=>some (.list (l.map fun p=>.tuple [S p.1,S p.2]))
noncomputable def evs:Xs->AE->Option (List PyData)
 | .nil,_=>some []
 | .cons x xs,E=>(ev x E).bind fun d=>(evs xs E).bind fun ds=>some (d::ds)
noncomputable def evAnd:Xs->AE->Option PyData
 | .nil,_=>none
 | .cons x xs,E=>match xs with
  | .nil=>ev x E
  | .cons _ _=>(ev x E).bind fun d=>(tr d).bind fun q=>match q with
   | false=>some d
   | true=>evAnd xs E
noncomputable def evOr:Xs->AE->Option PyData
 | .nil,_=>none
 | .cons x xs,E=>match xs with
  | .nil=>ev x E
  | .cons _ _=>(ev x E).bind fun d=>(tr d).bind fun q=>match q with
   | true=>some d
   | false=>evOr xs E
noncomputable def evTests:Xs->AE->Option Bool
 | .nil,_=>some true
 | .cons x xs,E=>(ev x E).bind fun d=>(tr d).bind fun q=>match q with
  | false=>some false
  | true=>evTests xs E
noncomputable def evIt:It->AE->Option (List PyData)
 | .val a,E=>(ev a E).bind fun x=>items x
 | .rng1 a,E=>(ev a E).bind fun x=>(iH x).bind fun n=>if -100000<=n/\n<=100000 then some (mL 0 1 n.toNat)else none
 | .rng3 a b c,E=>(ev a E).bind fun x=>(iH x).bind fun n=>(ev b E).bind fun y=>(iH y).bind fun k=>(ev c E).bind fun z=>(iH z).bind fun t =>
   if 0 < t/\t<=1000/\-100000<=n/\n<=100000/\-100000<=k/\k<=100000 then some (mL n t (aHw n k t))else none
 | .enm a,E=>(ev a E).bind fun x=>(iT x).bind fun ds=>if ds.length<=100000 then some (lE ds 0)else none
 | .gen a,E=>(ev a E).bind fun x=>(kD x).bind fun l=>if mF l=true/\l.length<=100000 then some (bT l 0 false)else none
end
noncomputable def oD (k:PyData)(v:PyData):PyData->Option PyData
 | .list xs=>(iH k).bind fun i=>if 0<=i/\i < xs.length/\xs.length<=lim then some (.list (xs.set i.toNat v))else none
 | _=>none
noncomputable def aDS (k:PyData):PyData->Option PyData
 | .list xs=>if xs.length<=lim then(iH k).bind fun i=>if 0<=i/\i < xs.length then xs[i.toNat]? else none else none
 | _=>none
noncomputable def forLoop (body:AE->Option (AE × Option PyData))(bindv:PyData->AE->Option AE):List PyData->AE->Option (AE × Option PyData)
 | [],E=>some (E,none)
 | d::ds,E=>(bindv d E).bind fun E1=>(body E1).bind fun p=>match p.2 with
   | some v=>some (p.1,some v)
   | none=>forLoop body bindv ds p.1
noncomputable def eK (test:AE->Option Bool)(body:AE->Option (AE × Option PyData)):Nat->AE->Option (AE × Option PyData)
 | 0,_=>none
 | n+1,E=>(test E).bind fun t=>match t with
  | false=>some (E,none)
  | true=>(body E).bind fun p=>match p.2 with
   | some v=>some (p.1,some v)
   | none=>eK test body n p.1
variable (W:Nat)
mutual
noncomputable def ex:St->AE->Option (AE × Option PyData)
 | .asg m i e,E=>(ev G T e E).bind fun d=>if aN3 m d=true then some (E.set i (.dat d),none)else none
 | .asgH i,E=>some (E.set i (.hdr []),none)
 | .swap i j a b,E=>(ev G T a E).bind fun x=>(ev G T b E).bind fun y=>some ((E.set j (.dat y)).set i (.dat x),none)
 | .asg2 i j e,E=>(ev G T e E).bind fun d=>some ((E.set i (.dat d)).set j (.dat d),none)
 | .aug i op e,E=>(aI E i).bind fun x=>(ev G T e E).bind fun y=>if (iH x).isSome=true then(kQ op x y).bind fun z=>some (E.set i (.dat z),none)else none
 | .setI i k e,E=>(ev G T e E).bind fun z=>(aI E i).bind fun xs=>(ev G T k E).bind fun p=>(oD p z xs).bind fun xs'=>some (E.set i (.dat xs'),none)
 | .setJ i k l e,E=>(ev G T e E).bind fun z=>(aI E i).bind fun xs=>(ev G T k E).bind fun p=>(aDS p xs).bind fun row=>(ev G T l E).bind fun q =>
   (oD q z row).bind fun row'=>(oD p row' xs).bind fun xs'=>some (E.set i (.dat xs'),none)
 | .app i e,E=>(aI E i).bind fun l=>(iT l).bind fun xs=>(ev G T e E).bind fun d=>if xs.length<=lim then some (E.set i (.dat (.list (xs++[d]))),none)else none
 | .ext i e,E=>(aI E i).bind fun l=>(iT l).bind fun xs=>(ev G T e E).bind fun d=>(iT d).bind fun ys =>
   if xs.length+ys.length<=lim then some (E.set i (.dat (.list (xs++ys))),none)else none
 | .hadd i a b,E=>(fV E i).bind fun l=>(ev G T a E).bind fun x=>(kD x).bind fun n=>(ev G T b E).bind fun y=>(kD y).bind fun v =>
   if bS n=true/\bS v=true/\l.length<=lim then some (E.set i (.hdr (l++[(n,v)])),none)else none
 | .hdel i a,E=>(fV E i).bind fun l=>(ev G T a E).bind fun x=>(kD x).bind fun n=>if bS n=true/\dS l=true then some (E.set i (.hdr (eJ n l)),none)else none
 | .hset i a b,E=>(ev G T b E).bind fun y=>(kD y).bind fun v=>(fV E i).bind fun l=>(ev G T a E).bind fun x=>(kD x).bind fun n =>
   if bS n=true/\bS v=true/\dS l=true then some (E.set i (.hdr (eJ n l++[(n,v)])),none)else none
 | .iff t a b,E=>(ev G T t E).bind fun x=>(tr x).bind fun q=>match q with
   | true=>exs a E
   | false=>exs b E
 | .forS t it b,E=>(evIt G T it E).bind fun ds=>forLoop (fun E'=>exs b E') (fun d E'=>dF t d E') ds E
 | .whil t b,E=>eK (fun E'=>(ev G T t E').bind fun x=>tr x) (fun E'=>exs b E') W E
 | .ret e,E=>(ev G T e E).bind fun d=>some (E,some d)
 | .frz _,E=>some (E,none)
noncomputable def exs:Sts->AE->Option (AE × Option PyData)
 | .nil,E=>some (E,none)
 | .cons x xs,E=>(ex x E).bind fun p=>match p.2 with
  | some v=>some (p.1,some v)
  | none=>exs xs p.1
end
noncomputable def start:List Nat->List PV->Option AE
 | [],[]=>some (fun u_=>none)
 | i::is,p::ps=>(start is ps).bind fun E=>some (E.set i p)
 | _,_=>none
noncomputable def cV (ps:List Nat)(body:Sts)(args:List PV):Option PyData:=(start ps args).bind fun E=>(exs G T W body E).bind fun p=>p.2
end
theorem dN {x:PyData}{i:Int}(h:iH x=some i):x=.int i:=by
 cases x with
 | int j=>exact congrArg PyData.int (aA h)
 | _=>exact cM h
theorem rR {x y}:kP .eq (.str x) (.str y)=(some (decide (sl x=sl y))):=rfl
theorem rQ {x y}:kP .ne (.str x) (.str y)=(some (!decide (sl x=sl y))):=rfl
theorem qK {a b}:kQ .add (.int a) (.int b)=(some (.int (a+b))):=rfl
theorem qJ {x y}:kQ .add (.str x) (.str y)=(if (sl x).length+(sl y).length<=lim then some (S (sl x++sl y))else none):=rfl
theorem qI {x n}:kQ .mul (.str x) (.int n)=(if 0<=n/\n<=lim/\(sl x).length * n.toNat<=lim then some (S (rep (sl x) n.toNat))else none):=rfl
theorem jE {a b}:kQ .fdiv (.int a) (.int b)=(if 0 < b/\b<=lim then some (.int (a / b))else none):=rfl
theorem jM {a b}:kQ .mod (.int a) (.int b)=(if 0 < b/\b<=lim then some (.int (a % b))else none):=rfl
theorem jL {a n}:kQ .pow (.int a) (.int n)=(if 0<=n/\n<=10/\a.natAbs<=1000 then some (.int (a ^ n.toNat))else none):=rfl
theorem tB {d xs}:kP .isin d (.list xs)=(if qS (.list xs)=true/\qS d=true then some (xs.any fun y=>PyData.eqv y d)else none):=rfl
theorem wG {xs}:uT .len (.list xs)=(if xs.length<=lim then some (.int xs.length)else none):=rfl
theorem jJ {xs}:uT .sum (.list xs)=((aBZ xs).bind fun k=>some (.int k)):=rfl
theorem mA {x}:uT .lower (.str x)=(if mF (sl x)=true/\(sl x).length<=lim then some (S ((sl x).map cK))else none):=rfl
theorem lZ  {xs}:uT  .mini (.list xs)=((aDM xs).bind fun l=>match l with
  | []=>none
  | a::r=>some (.int (uF a r))):=rfl
theorem qG {a b}:wF .min2 (.int a) (.int b)=(some (.int (if b < a then b else a))):=rfl
theorem qH {a b}:wF .max2 (.int a) (.int b)=(some (.int (if a < b then b else a))):=rfl
theorem eO {x xs}:wF .join (.str x) (.list xs)=((aC5 xs).bind fun ls=>if (eV (sl x) ls).length<=lim/\xs.length<=lim/\(sl x).length<=lim then some (S (eV (sl x) ls))else none):=rfl
theorem kM {G:Nat->Option Int}{T:Nat->List PV->Option PyData} {i z1}:ev G T (.int i) z1=(some (.int i)):=rfl
theorem pD {G:Nat->Option Int}{T:Nat->List PV->Option PyData} {l z1}:ev G T (.str l) z1=(some (S l)):=rfl
theorem aIA {G:Nat->Option Int}{T:Nat->List PV->Option PyData} {b z1}:ev G T (.bool b) z1=(some (.bool b)):=rfl
theorem uP {G:Nat->Option Int}{T:Nat->List PV->Option PyData} {z1}:ev G T .none z1=(some .none):=rfl
theorem bD {G:Nat->Option Int}{T:Nat->List PV->Option PyData} {i E}:ev G T (.var i) E=(aI E i):=rfl
theorem iF {G:Nat->Option Int}{T:Nat->List PV->Option PyData} {op a b E}:ev G T (.bin op a b) E=((ev G T a E).bind fun x=>(ev G T b E).bind fun y=>kQ op x y):=rfl
theorem aLh {G:Nat->Option Int}{T:Nat->List PV->Option PyData} {a E}:ev G T (.not a) E=((ev G T a E).bind fun x=>(tr x).bind fun b=>some (.bool (!b))):=rfl
theorem lY {G:Nat->Option Int}{T:Nat->List PV->Option PyData} {op a b E}:ev G T (.cmp1 op a b) E=((ev G T a E).bind fun x=>(ev G T b E).bind fun y=>(kP op x y).bind fun r=>some (.bool r)):=rfl
theorem aDZ {G:Nat->Option Int}{T:Nat->List PV->Option PyData} {n a c E}:ev G T (.isC n a c) E=((ev G T a E).bind fun x=>(ev G T c E).bind fun y=>(sR x y).bind fun r=>some (.bool (r != n))):=rfl
theorem aLj {G:Nat->Option Int}{T:Nat->List PV->Option PyData} {xs E}:ev G T (.and xs) E=(evAnd G T xs E):=rfl
theorem aGT {G:Nat->Option Int}{T:Nat->List PV->Option PyData} {xs E}:ev G T (.or xs) E=(evOr G T xs E):=rfl
theorem aLi {G:Nat->Option Int}{T:Nat->List PV->Option PyData} {t a b E}:ev G T (.ite t a b) E=((ev G T t E).bind fun x=>(tr x).bind fun q=>match q with
  | true=>ev G T a E
  | false=>ev G T b E):=rfl
theorem aDY {G:Nat->Option Int}{T:Nat->List PV->Option PyData} {xs E}:ev G T (.lst xs) E=((evs G T xs E).bind fun ds=>some (.list ds)):=rfl
theorem pC {G:Nat->Option Int}{T:Nat->List PV->Option PyData} {xs E}:ev G T (.tup xs) E=((evs G T xs E).bind fun ds=>some (.tuple ds)):=rfl
theorem gA {G:Nat->Option Int}{T:Nat->List PV->Option PyData} {a i E}:ev G T (.idx a i) E=((ev G T a E).bind fun x=>(ev G T i E).bind fun y=>jD x y):=rfl
theorem zL {G:Nat->Option Int}{T:Nat->List PV->Option PyData} {a lo hi st E}:ev G T (.slc a lo hi st) E=((ev G T a E).bind fun x=>(ev G T lo E).bind fun l=>(ev G T hi E).bind fun h=>(ev G T st E).bind fun t=>kO x l h t):=rfl
theorem uQ {G:Nat->Option Int}{T:Nat->List PV->Option PyData} {f xs E}:ev G T (.call f xs) E=((evs G T xs E).bind fun ds=>T f (ds.map .dat)):=rfl
theorem wW {G:Nat->Option Int}{T:Nat->List PV->Option PyData} {p a E}:ev G T (.p1 p a) E=((ev G T a E).bind fun x=>uT p x):=rfl
theorem sX {G:Nat->Option Int}{T:Nat->List PV->Option PyData} {p a b E}:ev G T (.p2 p a b) E=((ev G T a E).bind fun x=>(ev G T b E).bind fun y=>wF p x y):=rfl
theorem sY {G:Nat->Option Int}{T:Nat->List PV->Option PyData} {it E}:ev G T (.lof it) E=((evIt G T it E).bind fun ds=>some (.list ds)):=rfl
theorem gX {G:Nat->Option Int}{T:Nat->List PV->Option PyData} {elt t it ifs E}:ev G T (.comp elt t it ifs) E=((evIt G T it E).bind fun ds=>(compLoop (fun E'=>evTests G T ifs E') (fun E'=>ev G T elt E') (fun d=>dF t d E) ds).bind fun ys=>some (.list ys)):=rfl
theorem aIz {G:Nat->Option Int}{T:Nat->List PV->Option PyData} {i a E}:ev G T (.hget i a) E=((fV E i).bind fun l=>(ev G T a E).bind fun x=>(kD x).bind fun n=>if bS n=true/\dS l=true then some (.list ((eC n l).map S))else none):=rfl
theorem aFw {G:Nat->Option Int}{T:Nat->List PV->Option PyData} {i E}:ev G T (.hvals i) E=((fV E i).bind fun l=>if dS l=true then some (.list (l.map fun p=>S p.2))else none):=rfl
theorem aFv {G:Nat->Option Int}{T:Nat->List PV->Option PyData} {a n E}:ev G T (.tysNe a n) E=((ev G T a E).bind fun x=>(iT x).bind fun xs=>if (xs.all fun d=>(iH d).isSome)=true/\n<=1000/\(xs.length:Int)=n then some (.bool false)else none):=rfl
theorem rP {G:Nat->Option Int}{T:Nat->List PV->Option PyData} {i E}:ev G T (.hattr i) E=((fV E i).bind fun l=>some (.list (l.map fun p=>.tuple [S p.1,S p.2]))):=rfl
theorem uM {G:Nat->Option Int}{T:Nat->List PV->Option PyData} {z1}:evs G T .nil z1=(some []):=rfl
theorem cL {G:Nat->Option Int}{T:Nat->List PV->Option PyData} {x xs E}:evs G T (.cons x xs) E=((ev G T x E).bind fun d=>(evs G T xs E).bind fun ds=>some (d::ds)):=rfl
theorem nG {G:Nat->Option Int}{T:Nat->List PV->Option PyData} {x xs E}:evAnd G T (.cons x xs) E=(match xs with
  | .nil=>ev G T x E
  | .cons _ _=>(ev G T x E).bind fun d=>(tr d).bind fun q=>match q with
   | false=>some d
   | true=>evAnd G T xs E):=rfl
theorem pE {G:Nat->Option Int}{T:Nat->List PV->Option PyData} {x xs E}:evOr G T (.cons x xs) E=(match xs with
  | .nil=>ev G T x E
  | .cons _ _=>(ev G T x E).bind fun d=>(tr d).bind fun q=>match q with
   | true=>some d
   | false=>evOr G T xs E):=rfl
theorem qV {G:Nat->Option Int}{T:Nat->List PV->Option PyData} {z1}:evTests G T .nil z1=(some true):=rfl
theorem kN {G:Nat->Option Int}{T:Nat->List PV->Option PyData} {x xs E}:evTests G T (.cons x xs) E=((ev G T x E).bind fun d=>(tr d).bind fun q=>match q with
  | false=>some false
  | true=>evTests G T xs E):=rfl
theorem eQ {G:Nat->Option Int}{T:Nat->List PV->Option PyData} {a E}:evIt G T (.val a) E=((ev G T a E).bind fun x=>items x):=rfl
theorem vQ {G:Nat->Option Int}{T:Nat->List PV->Option PyData} {a E}:evIt G T (.rng1 a) E=((ev G T a E).bind fun x=>(iH x).bind fun n=>if -100000<=n/\n<=100000 then some (mL 0 1 n.toNat)else none):=rfl
theorem vP {G:Nat->Option Int}{T:Nat->List PV->Option PyData} {a b c E}:evIt G T (.rng3 a b c) E=((ev G T a E).bind fun x=>(iH x).bind fun n=>(ev G T b E).bind fun y=>(iH y).bind fun k=>(ev G T c E).bind fun z=>(iH z).bind fun t =>
   if 0 < t/\t<=1000/\-100000<=n/\n<=100000/\-100000<=k/\k<=100000 then some (mL n t (aHw n k t))else none):=rfl
theorem aFz {G:Nat->Option Int}{T:Nat->List PV->Option PyData} {a E}:evIt G T (.gen a) E=((ev G T a E).bind fun x=>(kD x).bind fun l=>if mF l=true/\l.length<=100000 then some (bT l 0 false)else none):=rfl
theorem zJ {G:Nat->Option Int}{T:Nat->List PV->Option PyData}{W:Nat} {m i e E}:ex G T W (.asg m i e) E=((ev G T e E).bind fun d=>if aN3 m d=true then some (E.set i (.dat d),none)else none):=rfl
theorem aIx {G:Nat->Option Int}{T:Nat->List PV->Option PyData}{W:Nat} {i E}:ex G T W (.asgH i) E=(some (E.set i (.hdr []),none)):=rfl
theorem aBB {G:Nat->Option Int}{T:Nat->List PV->Option PyData}{W:Nat} {i j a b E}:ex G T W (.swap i j a b) E=((ev G T a E).bind fun x=>(ev G T b E).bind fun y=>some ((E.set j (.dat y)).set i (.dat x),none)):=rfl
theorem aBG {G:Nat->Option Int}{T:Nat->List PV->Option PyData}{W:Nat} {i j e E}:ex G T W (.asg2 i j e) E=((ev G T e E).bind fun d=>some ((E.set i (.dat d)).set j (.dat d),none)):=rfl
theorem aLf {G:Nat->Option Int}{T:Nat->List PV->Option PyData}{W:Nat} {i op e E}:ex G T W (.aug i op e) E=((aI E i).bind fun x=>(ev G T e E).bind fun y=>if (iH x).isSome=true then(kQ op x y).bind fun z=>some (E.set i (.dat z),none)else none):=rfl
theorem aBD {G:Nat->Option Int}{T:Nat->List PV->Option PyData}{W:Nat} {i k e E}:ex G T W (.setI i k e) E=((ev G T e E).bind fun z=>(aI E i).bind fun xs=>(ev G T k E).bind fun p=>(oD p z xs).bind fun xs'=>some (E.set i (.dat xs'),none)):=rfl
theorem aBC {G:Nat->Option Int}{T:Nat->List PV->Option PyData}{W:Nat} {i k l e E}:ex G T W (.setJ i k l e) E=((ev G T e E).bind fun z=>(aI E i).bind fun xs=>(ev G T k E).bind fun p=>(aDS p xs).bind fun row=>(ev G T l E).bind fun q =>
   (oD q z row).bind fun row'=>(oD p row' xs).bind fun xs'=>some (E.set i (.dat xs'),none)):=rfl
theorem aDX {G:Nat->Option Int}{T:Nat->List PV->Option PyData}{W:Nat} {i e E}:ex G T W (.app i e) E=((aI E i).bind fun l=>(iT l).bind fun xs=>(ev G T e E).bind fun d=>if xs.length<=lim then some (E.set i (.dat (.list (xs++[d]))),none)else none):=rfl
theorem aDW {G:Nat->Option Int}{T:Nat->List PV->Option PyData}{W:Nat} {i e E}:ex G T W (.ext i e) E=((aI E i).bind fun l=>(iT l).bind fun xs=>(ev G T e E).bind fun d=>(iT d).bind fun ys =>
   if xs.length+ys.length<=lim then some (E.set i (.dat (.list (xs++ys))),none)else none):=rfl
theorem aBE {G:Nat->Option Int}{T:Nat->List PV->Option PyData}{W:Nat} {i a b E}:ex G T W (.hadd i a b) E=((fV E i).bind fun l=>(ev G T a E).bind fun x=>(kD x).bind fun n=>(ev G T b E).bind fun y=>(kD y).bind fun v =>
   if bS n=true/\bS v=true/\l.length<=lim then some (E.set i (.hdr (l++[(n,v)])),none)else none):=rfl
theorem aIw {G:Nat->Option Int}{T:Nat->List PV->Option PyData}{W:Nat} {i a E}:ex G T W (.hdel i a) E=((fV E i).bind fun l=>(ev G T a E).bind fun x=>(kD x).bind fun n=>if bS n=true/\dS l=true then some (E.set i (.hdr (eJ n l)),none)else none):=rfl
theorem aIv {G:Nat->Option Int}{T:Nat->List PV->Option PyData}{W:Nat} {i a b E}:ex G T W (.hset i a b) E=((ev G T b E).bind fun y=>(kD y).bind fun v=>(fV E i).bind fun l=>(ev G T a E).bind fun x=>(kD x).bind fun n =>
   if bS n=true/\bS v=true/\dS l=true then some (E.set i (.hdr (eJ n l++[(n,v)])),none)else none):=rfl
theorem aDV {G:Nat->Option Int}{T:Nat->List PV->Option PyData}{W:Nat} {t a b E}:ex G T W (.iff t a b) E=((ev G T t E).bind fun x=>(tr x).bind fun q=>match q with
   | true=>exs G T W a E
   | false=>exs G T W b E):=rfl
theorem aBF {G:Nat->Option Int}{T:Nat->List PV->Option PyData}{W:Nat} {t it b E}:ex G T W (.forS t it b) E=((evIt G T it E).bind fun ds=>forLoop (fun E'=>exs G T W b E') (fun d E'=>dF t d E') ds E):=rfl
theorem aBA {G:Nat->Option Int}{T:Nat->List PV->Option PyData}{W:Nat} {t b E}:ex G T W (.whil t b) E=(eK (fun E'=>(ev G T t E').bind fun x=>tr x) (fun E'=>exs G T W b E') W E):=rfl
theorem pA {G:Nat->Option Int}{T:Nat->List PV->Option PyData}{W:Nat} {e E}:ex G T W (.ret e) E=((ev G T e E).bind fun d=>some (E,some d)):=rfl
theorem rN {G:Nat->Option Int}{T:Nat->List PV->Option PyData}{W:Nat} {x xs E}:exs G T W (.cons x xs) E=((ex G T W x E).bind fun p=>match p.2 with
  | some v=>some (p.1,some v)
  | none=>exs G T W xs p.1):=rfl
theorem tA {xs lo hi}:kO (.list xs) lo hi .none=(if xs.length<=lim then(bnd lo 0 xs.length).bind fun a=>(bnd hi xs.length xs.length).bind fun b=>some (.list (cut a b xs))else none):=rfl
theorem uS {x lo hi}:kO (.str x) lo hi .none=(if (sl x).length<=lim then(bnd lo 0 (sl x).length).bind fun a=>(bnd hi (sl x).length (sl x).length).bind fun b=>some (S (cut a b (sl x)))else none):=rfl
theorem nU {xs lo st}:kO (.list xs) lo .none (.int st)=(if xs.length<=lim/\0 < st/\st<=100 then(bnd lo 0 xs.length).bind fun a=>some (.list (fH st.toNat 0 (xs.drop a)))else none):=rfl
theorem uU {xs i}:jD (.list xs) (.int i)=(if xs.length<=lim then(kW i xs.length).bind fun k=>xs[k]? else none):=rfl
theorem lD {xs i}:jD (.tuple xs) (.int i)=(if xs.length<=lim then(kW i xs.length).bind fun k=>xs[k]? else none):=rfl
theorem aAX {b}:tr (.bool b)=(some b):=rfl
theorem aJa {i}:tr (.int i)=(some (i != 0)):=rfl
theorem xI {x}:tr (.str x)=(if (sl x).length<=lim then some (!(sl x).isEmpty)else none):=rfl
theorem tW {xs}:tr (.list xs)=(if xs.length<=lim then some (!xs.isEmpty)else none):=rfl
theorem qX {xs}:tr (.tuple xs)=(if xs.length<=lim then some (!xs.isEmpty)else none):=rfl
theorem bZ {xs}:items (.list xs)=(if xs.length<=lim then some xs else none):=rfl
theorem dJ {xs}:items (.tuple xs)=(if xs.length<=lim then some xs else none):=rfl
theorem eN {x}:items (.str x)=(if mF (sl x)=true/\(sl x).length<=lim then some (jN (sl x))else none):=rfl
theorem jC {x}:iH (.int x)=(some x):=rfl
theorem lW {body:AE->Option (AE × Option PyData)}{bindv:PyData->AE->Option AE}{d:PyData}{ds:List PyData}{E:AE}:forLoop body bindv (d::ds) E=(bindv d E).bind fun E1=>(body E1).bind fun p=>match p.2 with
   | some v=>some (p.1,some v)
   | none=>forLoop body bindv ds p.1:=rfl
theorem nW {test:AE->Option Bool}{body:AE->Option (AE × Option PyData)}{n:Nat}{E:AE}:eK test body (n+1) E=(test E).bind fun t=>match t with
  | false=>some (E,none)
  | true=>(body E).bind fun p=>match p.2 with
   | some v=>some (p.1,some v)
   | none=>eK test body n p.1:=rfl
theorem iQ {tests:AE->Option Bool}{elt:AE->Option PyData}{bindv:PyData->Option AE}{d:PyData}{ds:List PyData}:compLoop tests elt bindv (d::ds)=(bindv d).bind fun E=>(tests E).bind fun t=>match t with
  | false=>compLoop tests elt bindv ds
  | true=>(elt E).bind fun y=>(compLoop tests elt bindv ds).bind fun ys=>some (y::ys):=rfl
theorem vE {J:Type}{l:List J}{n:Nat}:rep l (n+1)=l++rep l n:=rfl
theorem aDg {J:Type}{l:List J}:rep l 0=[]:=rfl
theorem aFh {a b:Int}{r:List Int}:uF a (b::r)=uF (if b < a then b else a) r:=rfl
theorem aJ2 {a:Int}:uF a []=a:=rfl
theorem aJi {x:Str}{r:List PyData}:aC5 (.str x::r)=(aC5 r).bind fun k=>some (sl x::k):=rfl
theorem aOt:aC5 []=some []:=rfl
theorem aJf {i:Int}{r:List PyData}:aBZ (.int i::r)=(aBZ r).bind fun k=>some (i+k):=rfl
theorem aPy {i:Int}{r:List PyData}:aDM (.int i::r)=(aDM r).bind fun k=>some (i::k):=rfl
theorem aCv {sub r:List Nat}{c i:Nat}:kK sub (c::r) i=if sub.isPrefixOf (c::r)then(i:Int)else kK sub r (i+1):=rfl
theorem aNa {sub:List Nat}{i:Nat}:kK sub [] i=if sub.isEmpty then(i:Int)else -1:=rfl
theorem aGS {J:Type}{st k:Nat}:fH st k ([]:List J)=[]:=by cases k <;> rfl
theorem aNh {J:Type}{st:Nat}{x:J}{r:List J}:fH st 0 (x::r)=x::fH st (st - 1) r:=rfl
theorem aNg {J:Type}{st k:Nat}{x:J}{r:List J}:fH st (k+1) (x::r)=fH st k r:=rfl
theorem aB5 {a c:Int}{n:Nat}:mL a c (n+1)=.int a::mL (a+c) c n:=rfl
theorem aOL {a c:Int}:mL a c 0=[]:=rfl
theorem aCy {d:PyData}{ds:List PyData}{i:Nat}:lE (d::ds) i=.tuple [.int i,d]::lE ds (i+1):=rfl
theorem aJm {i:Nat}{is:List Nat}{d:PyData}{ds:List PyData}{E:AE}:kE (i::is) (d::ds) E=kE is ds (E.set i (.dat d)):=rfl
theorem aJl {E:AE}:kE [] [] E=some E:=rfl
theorem aG5 {i:Nat}{d:PyData}{E:AE}:dF (.name i) d E=some (E.set i (.dat d)):=rfl
theorem aNz {is:List Nat}{ds:List PyData}{E:AE}:dF (.tup is) (.tuple ds) E=kE is ds E:=rfl
theorem aMR {s:List Nat}:eV s []=[]:=rfl
theorem aMS {s x:List Nat}:eV s [x]=x:=rfl
theorem aGw {s x y:List Nat}{r:List (List Nat)}:eV s (x::y::r)=x++s++eV s (y::r):=rfl
theorem rM {E:AE}{i:Nat}{l:List (List Nat × List Nat)}(h:E i=some (.hdr l)):fV E i=some l:=by unfold fV;rw[h]
theorem oY {E:AE}{i:Nat}{l:List (List Nat × List Nat)}(h:fV E i=some l):E i=some (.hdr l):=by
 unfold fV at h;revert h;generalize E i=x;intro h
 cases x with
 | none=>exact cM h
 | some p=>cases p with
  | hdr l'=>exact(aA h) ▸ rfl
  | _=>exact cM h
noncomputable def iY (n:Nat)(e:Expr)(p:e.ctorIdx=n->Bool):Bool:=if h:e.ctorIdx=n then p h else false
theorem dI {n:Nat}{e:Expr}{p:e.ctorIdx=n->Bool}(h:iY n e p=true):e.ctorIdx=n:=by
 unfold iY at h
 by_cases q:e.ctorIdx=n
 .exact q
 .rw[dif_neg q]at h;exact eR h
noncomputable def qO (n:Nat)(e:Stmt)(p:e.ctorIdx=n->Bool):Bool:=if h:e.ctorIdx=n then p h else false
theorem gP {n:Nat}{e:Stmt}{p:e.ctorIdx=n->Bool}(h:qO n e p=true):e.ctorIdx=n:=by
 unfold qO at h
 by_cases q:e.ctorIdx=n
 .exact q
 .rw[dif_neg q]at h;exact eR h
noncomputable def tT (n:Nat)(e:Const)(p:e.ctorIdx=n->Bool):Bool:=if h:e.ctorIdx=n then p h else false
theorem mG {n:Nat}{e:Const}{p:e.ctorIdx=n->Bool}(h:tT n e p=true):e.ctorIdx=n:=by
 unfold tT at h
 by_cases q:e.ctorIdx=n
 .exact q
 .rw[dif_neg q]at h;exact eR h
noncomputable def rX (n:Nat)(e:UnaryOp)(p:e.ctorIdx=n->Bool):Bool:=if h:e.ctorIdx=n then p h else false
theorem rW {n:Nat}{e:UnaryOp}{p:e.ctorIdx=n->Bool}(h:rX n e p=true):e.ctorIdx=n:=by
 unfold rX at h
 by_cases q:e.ctorIdx=n
 .exact q
 .rw[dif_neg q]at h;exact eR h
noncomputable def tS (n:Nat)(e:Operator)(p:e.ctorIdx=n->Bool):Bool:=if h:e.ctorIdx=n then p h else false
theorem aAD {n:Nat}{e:Operator}{p:e.ctorIdx=n->Bool}(h:tS n e p=true):e.ctorIdx=n:=by
 unfold tS at h
 by_cases q:e.ctorIdx=n
 .exact q
 .rw[dif_neg q]at h;exact eR h
noncomputable def bX (e:Expr)(k:Str->Pos->Bool):Bool:=iY 23 e fun h=>Expr.Name.elim (motive_1:=fun _=>Bool) e h k
@[elab_as_elim] theorem aV {P:Expr->Prop}{e:Expr}{k:Str->Pos->Bool}(h:bX e k=true)(g:∀ x0 x1,k x0 x1=true->P (.Name x0 x1)):P e :=
 Expr.Name.elim (motive_1:=fun e=>bX e k=true->P e) e (dI h) (fun x0 x1 h=>g x0 x1 h) h
noncomputable def eY (e:Expr)(k:Expr->(List Expr)->(List Keyword)->Pos->Bool):Bool:=iY 16 e fun h=>Expr.Call.elim (motive_1:=fun _=>Bool) e h k
@[elab_as_elim] theorem cI {P:Expr->Prop}{e:Expr}{k:Expr->(List Expr)->(List Keyword)->Pos->Bool}(h:eY e k=true)(g:∀ x0 x1 x2 x3,k x0 x1 x2 x3=true->P (.Call x0 x1 x2 x3)):P e :=
 Expr.Call.elim (motive_1:=fun e=>eY e k=true->P e) e (dI h) (fun x0 x1 x2 x3 h=>g x0 x1 x2 x3 h) h
noncomputable def cZ (e:Expr)(k:Expr->Str->Pos->Bool):Bool:=iY 20 e fun h=>Expr.Attribute.elim (motive_1:=fun _=>Bool) e h k
@[elab_as_elim] theorem cB {P:Expr->Prop}{e:Expr}{k:Expr->Str->Pos->Bool}(h:cZ e k=true)(g:∀ x0 x1 x2,k x0 x1 x2=true->P (.Attribute x0 x1 x2)):P e :=
 Expr.Attribute.elim (motive_1:=fun e=>cZ e k=true->P e) e (dI h) (fun x0 x1 x2 h=>g x0 x1 x2 h) h
noncomputable def eE (e:Expr)(k:Const->Nat->Pos->Bool):Bool:=iY 19 e fun h=>Expr.Constant.elim (motive_1:=fun _=>Bool) e h k
@[elab_as_elim] theorem cR {P:Expr->Prop}{e:Expr}{k:Const->Nat->Pos->Bool}(h:eE e k=true)(g:∀ x0 x1 x2,k x0 x1 x2=true->P (.Constant x0 x1 x2)):P e :=
 Expr.Constant.elim (motive_1:=fun e=>eE e k=true->P e) e (dI h) (fun x0 x1 x2 h=>g x0 x1 x2 h) h
noncomputable def pZ (e:Expr)(k:Expr->(List CmpOp)->(List Expr)->Pos->Bool):Bool:=iY 15 e fun h=>Expr.Compare.elim (motive_1:=fun _=>Bool) e h k
@[elab_as_elim] theorem pH {P:Expr->Prop}{e:Expr}{k:Expr->(List CmpOp)->(List Expr)->Pos->Bool}(h:pZ e k=true)(g:∀ x0 x1 x2 x3,k x0 x1 x2 x3=true->P (.Compare x0 x1 x2 x3)):P e :=
 Expr.Compare.elim (motive_1:=fun e=>pZ e k=true->P e) e (dI h) (fun x0 x1 x2 x3 h=>g x0 x1 x2 x3 h) h
noncomputable def xA (e:Expr)(k:Expr->Operator->Expr->Pos->Bool):Bool:=iY 2 e fun h=>Expr.BinOp.elim (motive_1:=fun _=>Bool) e h k
@[elab_as_elim] theorem tG {P:Expr->Prop}{e:Expr}{k:Expr->Operator->Expr->Pos->Bool}(h:xA e k=true)(g:∀ x0 x1 x2 x3,k x0 x1 x2 x3=true->P (.BinOp x0 x1 x2 x3)):P e :=
 Expr.BinOp.elim (motive_1:=fun e=>xA e k=true->P e) e (dI h) (fun x0 x1 x2 x3 h=>g x0 x1 x2 x3 h) h
noncomputable def mC (e:Expr)(k:UnaryOp->Expr->Pos->Bool):Bool:=iY 3 e fun h=>Expr.UnaryOp.elim (motive_1:=fun _=>Bool) e h k
@[elab_as_elim] theorem pG {P:Expr->Prop}{e:Expr}{k:UnaryOp->Expr->Pos->Bool}(h:mC e k=true)(g:∀ x0 x1 x2,k x0 x1 x2=true->P (.UnaryOp x0 x1 x2)):P e :=
 Expr.UnaryOp.elim (motive_1:=fun e=>mC e k=true->P e) e (dI h) (fun x0 x1 x2 h=>g x0 x1 x2 h) h
noncomputable def zS (e:Expr)(k:BoolOp->(List Expr)->Pos->Bool):Bool:=iY 0 e fun h=>Expr.BoolOp.elim (motive_1:=fun _=>Bool) e h k
@[elab_as_elim] theorem aAM {P:Expr->Prop}{e:Expr}{k:BoolOp->(List Expr)->Pos->Bool}(h:zS e k=true)(g:∀ x0 x1 x2,k x0 x1 x2=true->P (.BoolOp x0 x1 x2)):P e :=
 Expr.BoolOp.elim (motive_1:=fun e=>zS e k=true->P e) e (dI h) (fun x0 x1 x2 h=>g x0 x1 x2 h) h
noncomputable def tF (e:Expr)(k:Expr->Expr->Expr->Pos->Bool):Bool:=iY 5 e fun h=>Expr.IfExp.elim (motive_1:=fun _=>Bool) e h k
@[elab_as_elim] theorem nJ {P:Expr->Prop}{e:Expr}{k:Expr->Expr->Expr->Pos->Bool}(h:tF e k=true)(g:∀ x0 x1 x2 x3,k x0 x1 x2 x3=true->P (.IfExp x0 x1 x2 x3)):P e :=
 Expr.IfExp.elim (motive_1:=fun e=>tF e k=true->P e) e (dI h) (fun x0 x1 x2 x3 h=>g x0 x1 x2 x3 h) h
noncomputable def aCE (e:Expr)(k:(List Expr)->Pos->Bool):Bool:=iY 24 e fun h=>Expr.List.elim (motive_1:=fun _=>Bool) e h k
@[elab_as_elim] theorem vR {P:Expr->Prop}{e:Expr}{k:(List Expr)->Pos->Bool}(h:aCE e k=true)(g:∀ x0 x1,k x0 x1=true->P (.List x0 x1)):P e :=
 Expr.List.elim (motive_1:=fun e=>aCE e k=true->P e) e (dI h) (fun x0 x1 h=>g x0 x1 h) h
noncomputable def jU (e:Expr)(k:(List Expr)->Nat->Pos->Bool):Bool:=iY 25 e fun h=>Expr.Tuple.elim (motive_1:=fun _=>Bool) e h k
@[elab_as_elim] theorem eX {P:Expr->Prop}{e:Expr}{k:(List Expr)->Nat->Pos->Bool}(h:jU e k=true)(g:∀ x0 x1 x2,k x0 x1 x2=true->P (.Tuple x0 x1 x2)):P e :=
 Expr.Tuple.elim (motive_1:=fun e=>jU e k=true->P e) e (dI h) (fun x0 x1 x2 h=>g x0 x1 x2 h) h
noncomputable def dW (e:Expr)(k:Expr->Expr->Pos->Bool):Bool:=iY 21 e fun h=>Expr.Subscript.elim (motive_1:=fun _=>Bool) e h k
@[elab_as_elim] theorem cW {P:Expr->Prop}{e:Expr}{k:Expr->Expr->Pos->Bool}(h:dW e k=true)(g:∀ x0 x1 x2,k x0 x1 x2=true->P (.Subscript x0 x1 x2)):P e :=
 Expr.Subscript.elim (motive_1:=fun e=>dW e k=true->P e) e (dI h) (fun x0 x1 x2 h=>g x0 x1 x2 h) h
noncomputable def wZ (e:Expr)(k:(Option Expr)->(Option Expr)->(Option Expr)->Pos->Bool):Bool:=iY 26 e fun h=>Expr.Slice.elim (motive_1:=fun _=>Bool) e h k
@[elab_as_elim] theorem tE {P:Expr->Prop}{e:Expr}{k:(Option Expr)->(Option Expr)->(Option Expr)->Pos->Bool}(h:wZ e k=true)(g:∀ x0 x1 x2 x3,k x0 x1 x2 x3=true->P (.Slice x0 x1 x2 x3)):P e :=
 Expr.Slice.elim (motive_1:=fun e=>wZ e k=true->P e) e (dI h) (fun x0 x1 x2 x3 h=>g x0 x1 x2 x3 h) h
noncomputable def rU (e:Expr)(k:Expr->(List Comprehension)->Scope->Pos->Bool):Bool:=iY 8 e fun h=>Expr.ListComp.elim (motive_1:=fun _=>Bool) e h k
@[elab_as_elim] theorem wI {P:Expr->Prop}{e:Expr}{k:Expr->(List Comprehension)->Scope->Pos->Bool}(h:rU e k=true)(g:∀ x0 x1 x2 x3,k x0 x1 x2 x3=true->P (.ListComp x0 x1 x2 x3)):P e :=
 Expr.ListComp.elim (motive_1:=fun e=>rU e k=true->P e) e (dI h) (fun x0 x1 x2 x3 h=>g x0 x1 x2 x3 h) h
noncomputable def aCD (e:Expr)(k:(Option Expr)->Pos->Bool):Bool:=iY 13 e fun h=>Expr.Yield.elim (motive_1:=fun _=>Bool) e h k
@[elab_as_elim] theorem aCC {P:Expr->Prop}{e:Expr}{k:(Option Expr)->Pos->Bool}(h:aCD e k=true)(g:∀ x0 x1,k x0 x1=true->P (.Yield x0 x1)):P e :=
 Expr.Yield.elim (motive_1:=fun e=>aCD e k=true->P e) e (dI h) (fun x0 x1 h=>g x0 x1 h) h
noncomputable def dQ (e:Stmt)(k:(List Expr)->Expr->Pos->Bool):Bool:=qO 5 e fun h=>Stmt.Assign.elim (motive_2:=fun _=>Bool) e h k
@[elab_as_elim] theorem cC {P:Stmt->Prop}{e:Stmt}{k:(List Expr)->Expr->Pos->Bool}(h:dQ e k=true)(g:∀ x0 x1 x2,k x0 x1 x2=true->P (.Assign x0 x1 x2)):P e :=
 Stmt.Assign.elim (motive_2:=fun e=>dQ e k=true->P e) e (gP h) (fun x0 x1 x2 h=>g x0 x1 x2 h) h
noncomputable def pF (e:Stmt)(k:Expr->Operator->Expr->Pos->Bool):Bool:=qO 7 e fun h=>Stmt.AugAssign.elim (motive_2:=fun _=>Bool) e h k
@[elab_as_elim] theorem uV {P:Stmt->Prop}{e:Stmt}{k:Expr->Operator->Expr->Pos->Bool}(h:pF e k=true)(g:∀ x0 x1 x2 x3,k x0 x1 x2 x3=true->P (.AugAssign x0 x1 x2 x3)):P e :=
 Stmt.AugAssign.elim (motive_2:=fun e=>pF e k=true->P e) e (gP h) (fun x0 x1 x2 x3 h=>g x0 x1 x2 x3 h) h
noncomputable def zQ (e:Stmt)(k:Expr->(List Stmt)->(List Stmt)->Pos->Bool):Bool:=qO 12 e fun h=>Stmt.If.elim (motive_2:=fun _=>Bool) e h k
@[elab_as_elim] theorem fT {P:Stmt->Prop}{e:Stmt}{k:Expr->(List Stmt)->(List Stmt)->Pos->Bool}(h:zQ e k=true)(g:∀ x0 x1 x2 x3,k x0 x1 x2 x3=true->P (.If x0 x1 x2 x3)):P e :=
 Stmt.If.elim (motive_2:=fun e=>zQ e k=true->P e) e (gP h) (fun x0 x1 x2 x3 h=>g x0 x1 x2 x3 h) h
noncomputable def aBJ (e:Stmt)(k:Expr->Expr->(List Stmt)->(List Stmt)->Pos->Bool):Bool:=qO 9 e fun h=>Stmt.For.elim (motive_2:=fun _=>Bool) e h k
@[elab_as_elim] theorem nI {P:Stmt->Prop}{e:Stmt}{k:Expr->Expr->(List Stmt)->(List Stmt)->Pos->Bool}(h:aBJ e k=true)(g:∀ x0 x1 x2 x3 x4,k x0 x1 x2 x3 x4=true->P (.For x0 x1 x2 x3 x4)):P e :=
 Stmt.For.elim (motive_2:=fun e=>aBJ e k=true->P e) e (gP h) (fun x0 x1 x2 x3 x4 h=>g x0 x1 x2 x3 x4 h) h
noncomputable def aCB (e:Stmt)(k:Expr->(List Stmt)->(List Stmt)->Pos->Bool):Bool:=qO 11 e fun h=>Stmt.While.elim (motive_2:=fun _=>Bool) e h k
@[elab_as_elim] theorem aCA {P:Stmt->Prop}{e:Stmt}{k:Expr->(List Stmt)->(List Stmt)->Pos->Bool}(h:aCB e k=true)(g:∀ x0 x1 x2 x3,k x0 x1 x2 x3=true->P (.While x0 x1 x2 x3)):P e :=
 Stmt.While.elim (motive_2:=fun e=>aCB e k=true->P e) e (gP h) (fun x0 x1 x2 x3 h=>g x0 x1 x2 x3 h) h
noncomputable def kR (e:Stmt)(k:(Option Expr)->Pos->Bool):Bool:=qO 3 e fun h=>Stmt.Return.elim (motive_2:=fun _=>Bool) e h k
@[elab_as_elim] theorem iU {P:Stmt->Prop}{e:Stmt}{k:(Option Expr)->Pos->Bool}(h:kR e k=true)(g:∀ x0 x1,k x0 x1=true->P (.Return x0 x1)):P e :=
 Stmt.Return.elim (motive_2:=fun e=>kR e k=true->P e) e (gP h) (fun x0 x1 h=>g x0 x1 h) h
noncomputable def zR (e:Stmt)(k:(List Expr)->Pos->Bool):Bool:=qO 4 e fun h=>Stmt.Delete.elim (motive_2:=fun _=>Bool) e h k
@[elab_as_elim] theorem aAL {P:Stmt->Prop}{e:Stmt}{k:(List Expr)->Pos->Bool}(h:zR e k=true)(g:∀ x0 x1,k x0 x1=true->P (.Delete x0 x1)):P e :=
 Stmt.Delete.elim (motive_2:=fun e=>zR e k=true->P e) e (gP h) (fun x0 x1 h=>g x0 x1 h) h
noncomputable def rT (e:Stmt)(k:Expr->Pos->Bool):Bool:=qO 24 e fun h=>Stmt.Expr.elim (motive_2:=fun _=>Bool) e h k
@[elab_as_elim] theorem fL {P:Stmt->Prop}{e:Stmt}{k:Expr->Pos->Bool}(h:rT e k=true)(g:∀ x0 x1,k x0 x1=true->P (.Expr x0 x1)):P e :=
 Stmt.Expr.elim (motive_2:=fun e=>rT e k=true->P e) e (gP h) (fun x0 x1 h=>g x0 x1 h) h
noncomputable def aFH (e:Const)(k:Bool):Bool:=tT 0 e fun h=>Const.none.elim (motive:=fun _=>Bool) e h k
@[elab_as_elim] theorem aD9 {P:Const->Prop}{e:Const}{k:Bool}(h:aFH e k=true)(g:k=true->P (.none)):P e :=
 Const.none.elim (motive:=fun e=>aFH e k=true->P e) e (mG h) g h
noncomputable def uW (e:Const)(k:Bool->Bool):Bool:=tT 1 e fun h=>Const.bool.elim (motive:=fun _=>Bool) e h k
@[elab_as_elim] theorem lF {P:Const->Prop}{e:Const}{k:Bool->Bool}(h:uW e k=true)(g:∀ x0,k x0=true->P (.bool x0)):P e :=
 Const.bool.elim (motive:=fun e=>uW e k=true->P e) e (mG h) (fun x0 h=>g x0 h) h
noncomputable def aEa (e:Const)(k:Int->Bool):Bool:=tT 2 e fun h=>Const.int.elim (motive:=fun _=>Bool) e h k
@[elab_as_elim] theorem rV {P:Const->Prop}{e:Const}{k:Int->Bool}(h:aEa e k=true)(g:∀ x0,k x0=true->P (.int x0)):P e :=
 Const.int.elim (motive:=fun e=>aEa e k=true->P e) e (mG h) (fun x0 h=>g x0 h) h
noncomputable def aLx (e:Const)(k:Str->Bool):Bool:=tT 5 e fun h=>Const.str.elim (motive:=fun _=>Bool) e h k
@[elab_as_elim] theorem aFG {P:Const->Prop}{e:Const}{k:Str->Bool}(h:aLx e k=true)(g:∀ x0,k x0=true->P (.str x0)):P e :=
 Const.str.elim (motive:=fun e=>aLx e k=true->P e) e (mG h) (fun x0 h=>g x0 h) h
noncomputable def aFD (e:UnaryOp)(k:Bool):Bool:=rX 3 e fun h=>UnaryOp.USub.elim (motive:=fun _=>Bool) e h k
@[elab_as_elim] theorem aD6 {P:UnaryOp->Prop}{e:UnaryOp}{k:Bool}(h:aFD e k=true)(g:k=true->P (.USub)):P e :=
 UnaryOp.USub.elim (motive:=fun e=>aFD e k=true->P e) e (rW h) g h
noncomputable def aLw (e:UnaryOp)(k:Bool):Bool:=rX 1 e fun h=>UnaryOp.Not.elim (motive:=fun _=>Bool) e h k
@[elab_as_elim] theorem aFE {P:UnaryOp->Prop}{e:UnaryOp}{k:Bool}(h:aLw e k=true)(g:k=true->P (.Not)):P e :=
 UnaryOp.Not.elim (motive:=fun e=>aLw e k=true->P e) e (rW h) g h
noncomputable def aFF (e:Operator)(k:Bool):Bool:=tS 2 e fun h=>Operator.Mult.elim (motive:=fun _=>Bool) e h k
@[elab_as_elim] theorem aD7 {P:Operator->Prop}{e:Operator}{k:Bool}(h:aFF e k=true)(g:k=true->P (.Mult)):P e :=
 Operator.Mult.elim (motive:=fun e=>aFF e k=true->P e) e (aAD h) g h
noncomputable def aLy (e:Bool)(k:Bool):Bool:=e && k
@[elab_as_elim] theorem aEb {P:Bool->Prop}{e:Bool}{k:Bool}(h:aLy e k=true)(g:k=true->P (.true)):P e:=by
 cases e with
 | true=>exact g h
 | false=>exact eR h
noncomputable def bV {J:Type}(l:List J)(k:Bool):Bool:=match l with
 | []=>k
 | _::_=>false
@[elab_as_elim] theorem aO {J:Type}{P:List J->Prop}{e:List J}{k:Bool}(h:bV e k=true)(g:k=true->P []):P e:=by
 cases e with
 | nil=>exact g h
 | cons=>exact absurd h aN
noncomputable def bC {J:Type}(l:List J)(k:J->List J->Bool):Bool:=match l with
 | []=>false
 | a::r=>k a r
@[elab_as_elim] theorem aL {J:Type}{P:List J->Prop}{e:List J}{k:J->List J->Bool}(h:bC e k=true)(g:∀ a r,k a r=true->P (a::r)):P e:=by
 cases e with
 | nil=>exact absurd h aN
 | cons a r=>exact g _ _ h
noncomputable def mB {J:Type}(l:Option J)(k:J->Bool):Bool:=match l with
 | none=>false
 | some a=>k a
@[elab_as_elim] theorem gK {J:Type}{P:Option J->Prop}{e:Option J}{k:J->Bool}(h:mB e k=true)(g:∀ a,k a=true->P (some a)):P e:=by
 cases e with
 | none=>exact absurd h aN
 | some a=>exact g _ h
noncomputable def dKw (e:Keyword)(k:Option Str->Expr->Pos->Bool):Bool:=k e.arg e.value e.pos
@[elab_as_elim] theorem aD8 {P:Keyword->Prop}{e:Keyword}{k:Option Str->Expr->Pos->Bool}(h:dKw e k=true)(g:∀ a b c,k a b c=true->P ⟨a,b,c⟩):P e:=by cases e;exact g _ _ _ h
noncomputable def aRA (e:Comprehension)(k:Expr->Expr->List Expr->Int->Bool):Bool:=k e.target e.iter e.ifs e.is_async
@[elab_as_elim] theorem aIE {P:Comprehension->Prop}{e:Comprehension}{k:Expr->Expr->List Expr->Int->Bool}(h:aRA e k=true)(g:∀ a b c d,k a b c d=true->P ⟨a,b,c,d⟩):P e:=by cases e;exact g _ _ _ _ h
noncomputable def aC3:List Nat:=[0,1]
noncomputable def aC4:Sts:=(.cons (.iff (.cmp1 .eq (.var 0) (.var 1)) (.cons (.ret (.int 0)) .nil) .nil) (.cons (.iff (.cmp1 .eq (.p1 .lower (.var 0)) (.p1 .lower (.var 1))) (.cons (.ret (.glo 2)) .nil) .nil) (.cons (.ret (.glo 1)) .nil)))
noncomputable def aKd:Sts:=(.cons (.aug 5 .add (.int 1)) .nil)
noncomputable def aKc:Sts:=(.cons (.aug 6 .sub (.int 1)) .nil)
noncomputable def yR:Sts:=(.cons (.asg 0 14 (.bin .add (.var 11) (.call 1 (.cons (.var 10) (.cons (.idx (.var 2) (.var 13)) .nil))))) (.cons (.asg 0 11 (.idx (.var 7) (.var 13))) (.cons (.asg 0 15 (.bin .add (.p2 .min2 (.var 8) (.var 11)) (.glo 1))) (.cons (.asg 0 8 (.p2 .min2 (.var 15) (.var 14))) (.cons (.setI 7 (.var 13) (.var 8)) (.cons (.iff (.cmp1 .lt (.var 8) (.var 12)) (.cons (.asg 0 12 (.var 8)) .nil) .nil) .nil))))))
noncomputable def yS:Sts:=(.cons (.asg 0 10 (.idx (.var 3) (.var 9))) (.cons (.asg2 11 8 (.bin .mul (.var 9) (.glo 1))) (.cons (.asg 0 12 (.int 9223372036854775807)) (.cons (.forS (.name 13) (.rng1 (.p1 .len (.var 2))) yR) (.cons (.iff (.cmp1 .gt (.var 12) (.var 4)) (.cons (.ret (.bin .add (.var 4) (.int 1))) .nil) .nil) .nil)))))
noncomputable def uI:List Nat:=[2,3,4]
noncomputable def lL:Sts:=(.cons (.iff (.cmp1 .eq (.var 2) (.var 3)) (.cons (.ret (.int 0)) .nil) .nil) (.cons (.asg 0 5 (.int 0)) (.cons (.whil (.and (.cons (.slc (.var 2) (.var 5) .none .none) (.cons (.slc (.var 3) (.var 5) .none .none) (.cons (.cmp1 .eq (.idx (.var 2) (.var 5)) (.idx (.var 3) (.var 5))) .nil)))) aKd) (.cons (.asg 0 2 (.slc (.var 2) (.var 5) .none .none)) (.cons (.asg 0 3 (.slc (.var 3) (.var 5) .none .none)) (.cons (.asg 0 6 (.int 0)) (.cons (.whil (.and (.cons (.slc (.var 2) .none (.or (.cons (.var 6) (.cons .none .nil))) .none) (.cons (.slc (.var 3) .none (.or (.cons (.var 6) (.cons .none .nil))) .none) (.cons (.cmp1 .eq (.idx (.var 2) (.bin .sub (.var 6) (.int 1))) (.idx (.var 3) (.bin .sub (.var 6) (.int 1)))) .nil)))) aKc) (.cons (.asg 0 2 (.slc (.var 2) .none (.or (.cons (.var 6) (.cons .none .nil))) .none)) (.cons (.asg 0 3 (.slc (.var 3) .none (.or (.cons (.var 6) (.cons .none .nil))) .none)) (.cons (.iff (.or (.cons (.not (.var 2)) (.cons (.not (.var 3)) .nil))) (.cons (.ret (.bin .mul (.glo 1) (.bin .add (.p1 .len (.var 2)) (.p1 .len (.var 3))))) .nil) .nil) (.cons (.iff (.or (.cons (.cmp1 .gt (.p1 .len (.var 2)) (.glo 0)) (.cons (.cmp1 .gt (.p1 .len (.var 3)) (.glo 0)) .nil))) (.cons (.ret (.bin .add (.var 4) (.int 1))) .nil) .nil) (.cons (.iff (.cmp1 .lt (.p1 .len (.var 3)) (.p1 .len (.var 2))) (.cons (.swap 2 3 (.var 3) (.var 2)) .nil) .nil) (.cons (.iff (.cmp1 .gt (.bin .mul (.bin .sub (.p1 .len (.var 3)) (.p1 .len (.var 2))) (.glo 1)) (.var 4)) (.cons (.ret (.bin .add (.var 4) (.int 1))) .nil) .nil) (.cons (.asg 1 7 (.lof (.rng3 (.glo 1) (.bin .mul (.glo 1) (.bin .add (.p1 .len (.var 2)) (.int 1))) (.glo 1)))) (.cons (.asg 0 8 (.int 0)) (.cons (.forS (.name 9) (.rng1 (.p1 .len (.var 3))) yS) (.cons (.ret (.var 8)) .nil)))))))))))))))))
noncomputable def kC:Sts:=(.cons (.iff (.cmp1 .eq (.var 20) (.str [34])) (.cons (.iff (.isC false (.var 18) .none) (.cons (.asg 0 18 (.var 19)) .nil) (.cons (.iff (.cmp1 .ne (.var 17) (.var 18)) (.cons (.app 8 (.slc (.var 16) (.var 17) (.var 18) .none)) .nil) .nil) (.cons (.asg 0 17 (.bin .add (.var 19) (.int 1))) (.cons (.asg 0 18 .none) .nil)))) .nil) .nil) .nil)
noncomputable def sD:List Nat:=[16]
noncomputable def kB:Sts:=(.cons (.iff (.cmp1 .notin (.str [34]) (.var 16)) (.cons (.ret (.var 16)) .nil) .nil) (.cons (.asg 0 17 (.int 0)) (.cons (.asg 0 18 .none) (.cons (.asg 1 8 (.lst .nil)) (.cons (.forS (.tup [19,20]) (.gen (.var 16)) kC) (.cons (.iff (.cmp1 .lt (.var 17) (.p1 .len (.var 16))) (.cons (.app 8 (.slc (.var 16) (.var 17) .none .none)) .nil) .nil) (.cons (.frz 8) (.cons (.ret (.p2 .join (.str []) (.var 8))) .nil))))))))
noncomputable def mE:Sts:=(.cons (.iff (.cmp1 .eq (.var 20) (.str [40])) (.cons (.aug 21 .add (.int 1)) .nil) (.cons (.iff (.cmp1 .eq (.var 20) (.str [41])) (.cons (.aug 21 .sub (.int 1)) (.cons (.iff (.cmp1 .lt (.var 21) (.int 0)) (.cons (.ret (.bool false)) .nil) .nil) .nil)) .nil) .nil)) .nil)
noncomputable def tN:List Nat:=[16]
noncomputable def mD:Sts:=(.cons (.asg 0 16 (.call 2 (.cons (.var 16) .nil))) (.cons (.asg 0 21 (.int 0)) (.cons (.forS (.tup [19,20]) (.gen (.var 16)) mE) (.cons (.ret (.cmp1 .eq (.var 21) (.int 0))) .nil))))
noncomputable def mS:List Nat:=[48]
noncomputable def iO:Sts:=(.cons (.ret (.p2 .join (.str []) (.comp (.idx (.str [97,65,98,66]) (.bin .mod (.bin .fdiv (.bin .fdiv (.var 48) (.int 4)) (.bin .pow (.int 4) (.var 30))) (.int 4))) (.name 30) (.rng1 (.bin .mod (.var 48) (.int 4))) .nil))) .nil)
noncomputable def kY:List Nat:=[61,48]
noncomputable def gV:Sts:=(.cons (.ret (.idx (.lst (.cons (.var 61) (.cons (.bin .add (.bin .add (.str [34]) (.var 61)) (.str [40,34])) (.cons (.bin .add (.str [92,41]) (.var 61)) (.cons (.bin .add (.bin .add (.str [34,41,92,34]) (.var 61)) (.str [34])) (.cons (.bin .add (.var 61) (.str [92,92])) (.cons (.bin .add (.str [92,40]) (.var 61)) .nil))))))) (.bin .mod (.bin .fdiv (.var 48) (.int 512)) (.int 6)))) .nil)
noncomputable def rG:Sts:=(.cons (.asg 0 67 (.ite (.cmp1 .eq (.idx (.var 62) (.var 65)) (.idx (.var 63) (.var 66))) (.int 4) (.ite (.cmp1 .eq (.p1 .lower (.idx (.var 62) (.var 65))) (.p1 .lower (.idx (.var 63) (.var 66)))) (.int 3) (.int 2)))) (.cons (.ext 64 (.comp (.tup (.cons (.var 65) (.cons (.var 66) (.cons (.bin .sub (.var 68) (.var 67)) .nil)))) (.tup [2,3,68]) (.val (.var 64)) (.cons (.and (.cons (.cmp1 .lt (.var 2) (.var 65)) (.cons (.cmp1 .lt (.var 3) (.var 66)) .nil))) .nil))) .nil))
noncomputable def rH:Sts:=(.cons (.forS (.name 66) (.rng1 (.p1 .len (.var 63))) rG) .nil)
noncomputable def kI:List Nat:=[62,63]
noncomputable def gH:Sts:=(.cons (.asg 1 64 (.lst (.cons (.tup (.cons (.neg 1) (.cons (.neg 1) (.cons (.bin .mul (.int 2) (.bin .add (.p1 .len (.var 62)) (.p1 .len (.var 63)))) .nil)))) .nil))) (.cons (.forS (.name 65) (.rng1 (.p1 .len (.var 62))) rH) (.cons (.ret (.p1 .mini (.comp (.var 68) (.tup [2,3,68]) (.val (.var 64)) .nil))) .nil)))
noncomputable def oP:Sts:=(.cons (.setJ 70 (.var 62) (.var 63) (.p2 .min2 (.idx (.idx (.var 70) (.var 62)) (.var 63)) (.p2 .max2 (.idx (.idx (.var 70) (.var 62)) (.var 71)) (.idx (.idx (.var 70) (.var 71)) (.var 63))))) .nil)
noncomputable def oR:Sts:=(.cons (.forS (.name 63) (.rng1 (.int 4)) oP) .nil)
noncomputable def oU:Sts:=(.cons (.forS (.name 62) (.rng1 (.int 4)) oR) .nil)
noncomputable def kX:List Nat:=[69]
noncomputable def gU:Sts:=(.cons (.asg 2 70 (.comp (.lof (.val (.var 7))) (.name 7) (.val (.var 69)) .nil)) (.cons (.forS (.name 71) (.rng1 (.int 4)) oU) (.cons (.frz 70) (.cons (.ret (.var 70)) .nil))))
noncomputable def kH:Sts:=(.cons (.iff (.and (.cons (.cmp1 .ne (.var 62) (.var 73)) (.cons (.cmp1 .ne (.var 73) (.var 74)) (.cons (.cmp1 .ne (.var 74) (.var 62)) .nil)))) (.cons (.app 72 (.bin .add (.bin .add (.idx (.idx (.var 69) (.var 62)) (.var 73)) (.idx (.idx (.var 69) (.var 73)) (.var 74))) (.idx (.idx (.var 69) (.var 74)) (.bin .sub (.bin .sub (.bin .sub (.int 6) (.var 62)) (.var 73)) (.var 74))))) .nil) .nil) .nil)
noncomputable def oV:Sts:=(.cons (.forS (.name 74) (.rng1 (.int 4)) kH) .nil)
noncomputable def oW:Sts:=(.cons (.forS (.name 73) (.rng1 (.int 4)) oV) .nil)
noncomputable def hW:List Nat:=[69]
noncomputable def fK:Sts:=(.cons (.asg 1 72 (.comp (.p1 .sum (.var 7)) (.name 7) (.val (.var 69)) .nil)) (.cons (.forS (.name 62) (.rng1 (.int 4)) oW) (.cons (.ret (.p1 .mini (.var 72))) .nil)))
noncomputable def rF:Sts:=(.cons (.asg 0 68 (.call 6 (.cons (.idx (.var 52) (.var 62)) (.cons (.idx (.var 52) (.var 63)) .nil)))) (.cons (.asg 1 58 (.lst (.cons (.call 0 (.cons (.idx (.var 52) (.var 62)) (.cons (.idx (.var 52) (.var 63)) (.cons (.int 13) .nil)))) (.cons (.call 0 (.cons (.idx (.var 52) (.var 62)) (.cons (.idx (.var 52) (.var 63)) (.cons (.var 68) .nil)))) .nil)))) (.cons (.app 58 (.call 0 (.cons (.idx (.var 52) (.var 63)) (.cons (.idx (.var 52) (.var 62)) (.cons (.bin .sub (.var 68) (.int 1)) .nil))))) (.cons (.frz 58) (.cons (.iff (.or (.cons (.cmp1 .ne (.var 58) (.bin .mul (.lst (.cons (.var 68) .nil)) (.int 3))) (.cons (.tysNe (.var 58) 3) .nil))) (.cons (.ret (.bool false)) .nil) .nil) (.cons (.setJ 69 (.var 62) (.var 63) (.idx (.var 58) (.int 0))) (.cons (.setJ 69 (.var 63) (.var 62) (.idx (.var 58) (.int 0))) (.cons (.app 77 (.tup (.cons (.idx (.var 58) (.int 0)) (.cons (.var 62) (.cons (.var 63) .nil))))) .nil))))))))
noncomputable def mY:Sts:=(.cons (.forS (.name 63) (.rng1 (.var 62)) rF) .nil)
noncomputable def mX:Sts:=(.cons (.hadd 78 (.idx (.var 75) (.var 30)) (.idx (.var 76) (.var 30))) .nil)
noncomputable def mV:Sts:=(.cons (.hadd 78 (.p1 .swapcase (.idx (.var 75) (.var 82))) (.var 32)) .nil)
noncomputable def mW:Sts:=(.cons (.asg 0 82 (.idx (.var 79) (.var 63))) (.cons (.asg 0 83 (.idx (.var 79) (.var 62))) (.cons (.iff (.and (.cons (.cmp1 .eq (.var 42) (.var 81)) (.cons (.cmp1 .ne (.var 82) (.var 83)) .nil))) (.cons (.forS (.name 32) (.val (.hget 78 (.p1 .swapcase (.idx (.var 75) (.var 83))))) mV) (.cons (.hdel 78 (.p1 .swapcase (.idx (.var 75) (.var 83)))) (.cons (.iff (.cmp1 .ne (.hget 78 (.idx (.var 75) (.var 83))) (.lst .nil)) (.cons (.ret (.bool false)) .nil) .nil) (.cons (.asg 0 79 (.comp (.ite (.cmp1 .eq (.var 84) (.var 83)) (.var 82) (.var 84)) (.name 84) (.val (.var 79)) .nil)) .nil)))) .nil) .nil)))
noncomputable def yT:Sts:=(.cons (.hset 78 (.idx (.var 75) (.var 82)) (.bin .add (.bin .add (.str [40]) (.p2 .join (.str []) (.hget 78 (.p1 .swapcase (.idx (.var 75) (.var 82)))))) (.str [41]))) .nil)
noncomputable def rE:Sts:=(.cons (.asg 0 81 (.bin .add (.var 81) (.int 1))) (.cons (.forS (.tup [42,62,63]) (.val (.var 77)) mW) (.cons (.asg 0 80 (.comp (.var 30) (.name 30) (.rng1 (.int 4)) (.cons (.cmp1 .isin (.var 30) (.var 79)) .nil))) (.cons (.forS (.name 82) (.val (.var 80)) yT) .nil))))
noncomputable def mU:Sts:=(.cons (.asg 0 87 (.p1 .sorted (.comp (.tup (.cons (.p2 .find (.idx (.var 85) (.int 0)) (.idx (.var 76) (.var 30))) (.cons (.p1 .len (.idx (.var 76) (.var 30))) .nil))) (.name 30) (.val (.tup (.cons (.var 62) (.cons (.var 63) .nil)))) .nil))) (.cons (.asg 0 88 (.slc (.idx (.var 85) (.int 0)) (.bin .add (.idx (.idx (.var 87) (.int 0)) (.int 0)) (.idx (.idx (.var 87) (.int 0)) (.int 1))) (.idx (.idx (.var 87) (.int 1)) (.int 0)) .none)) (.cons (.asg 0 41 (.idx (.idx (.var 70) (.var 62)) (.var 63))) (.cons (.iff (.isC true (.call 3 (.cons (.bin .add (.bin .add (.bin .mul (.str [40]) (.var 41)) (.var 88)) (.bin .mul (.str [41]) (.var 41))) .nil)) (.bool true)) (.cons (.ret (.bool false)) .nil) .nil) (.cons (.iff (.and (.cons (.cmp1 .gt (.var 41) (.int 0)) (.cons (.isC true (.call 3 (.cons (.bin .add (.bin .add (.bin .mul (.str [40]) (.bin .sub (.var 41) (.int 1))) (.var 88)) (.bin .mul (.str [41]) (.bin .sub (.var 41) (.int 1)))) .nil)) (.bool false)) .nil))) (.cons (.ret (.bool false)) .nil) .nil) .nil)))))
noncomputable def mT:List Nat:=[43]
noncomputable def gG:Sts:=(.cons (.asg 0 44 (.slc (.var 43) .none (.int 60) .none)) (.cons (.asg 0 45 (.comp (.bin .mod (.bin .add (.var 46) (.p1 .sum (.slc (.var 44) (.var 30) .none (.int 4)))) (.bin .pow (.int 10) (.int 6))) (.tup [30,46]) (.enm (.lst (.cons (.int 546) (.cons (.int 1330) (.cons (.int 1590) (.cons (.int 2313) .nil)))))) .nil)) (.cons (.asg 0 52 (.comp (.call 4 (.cons (.var 48) .nil)) (.name 48) (.val (.var 45)) .nil)) (.cons (.asg 0 75 (.comp (.ite (.cmp1 .eq (.bin .mod (.bin .fdiv (.idx (.var 45) (.var 30)) (.int 256)) (.int 2)) (.int 1)) (.idx (.str [67,68,69,70]) (.var 30)) (.idx (.str [99,100,101,102]) (.var 30))) (.name 30) (.rng1 (.int 4)) .nil)) (.cons (.asg 0 76 (.comp (.call 5 (.cons (.idx (.var 75) (.var 30)) (.cons (.idx (.var 45) (.var 30)) .nil))) (.name 30) (.rng1 (.int 4)) .nil)) (.cons (.asg 2 69 (.comp (.bin .mul (.lst (.cons (.int 0) .nil)) (.int 4)) (.name 30) (.rng1 (.int 4)) .nil)) (.cons (.asg 1 77 (.lst .nil)) (.cons (.forS (.name 62) (.rng1 (.int 4)) mY) (.cons (.frz 69) (.cons (.frz 77) (.cons (.asgH 78) (.cons (.forS (.name 30) (.rng1 (.int 4)) mX) (.cons (.asg 0 79 (.lst (.cons (.int 0) (.cons (.int 1) (.cons (.int 2) (.cons (.int 3) .nil)))))) (.cons (.asg 0 80 (.lst (.cons (.int 0) (.cons (.int 1) (.cons (.int 2) (.cons (.int 3) .nil)))))) (.cons (.asg 0 81 (.neg 1)) (.cons (.whil (.and (.cons (.cmp1 .gt (.p1 .len (.var 80)) (.int 1)) (.cons (.cmp1 .lt (.var 81) (.int 6)) .nil))) rE) (.cons (.asg 0 85 (.hvals 78)) (.cons (.iff (.cmp1 .ne (.p1 .len (.var 85)) (.int 1)) (.cons (.ret (.bool false)) .nil) .nil) (.cons (.hadd 78 (.p1 .swapcase (.idx (.var 75) (.idx (.var 80) (.int 0)))) (.idx (.var 85) (.int 0))) (.cons (.asg 0 86 (.bin .add (.bin .add (.call 8 (.cons (.var 69) .nil)) (.var 81)) (.int 1))) (.cons (.iff (.or (.cons (.cmp1 .ne (.hget 78 (.idx (.var 75) (.idx (.var 80) (.int 0)))) (.bin .mul (.var 85) (.int 2))) (.cons (.cmp1 .ne (.hget 78 (.bin .add (.idx (.var 75) (.idx (.var 80) (.int 0))) (.str [120]))) (.lst .nil)) .nil))) (.cons (.ret (.bool false)) .nil) .nil) (.cons (.iff (.cmp1 .ne (.p1 .len (.idx (.var 85) (.int 0))) (.bin .add (.bin .mul (.int 2) (.var 86)) (.p1 .sum (.comp (.p1 .len (.var 32)) (.name 32) (.val (.var 76)) .nil)))) (.cons (.ret (.bool false)) .nil) .nil) (.cons (.iff (.or (.cons (.cmp1 .ne (.p2 .find (.idx (.var 85) (.int 0)) (.idx (.var 76) (.idx (.var 80) (.int 0)))) (.bin .add (.var 81) (.int 1))) (.cons (.isC true (.call 3 (.cons (.bin .add (.idx (.var 85) (.int 0)) (.str [34,40])) .nil)) (.bool false)) .nil))) (.cons (.ret (.bool false)) .nil) .nil) (.cons (.asg 0 70 (.call 7 (.cons (.var 69) .nil))) (.cons (.forS (.tup [42,62,63]) (.val (.var 77)) mU) (.cons (.ret (.bool true)) .nil))))))))))))))))))))))))))
open PySem PySem.W PyProof.Rows
noncomputable def bY (h h':Heap):Prop:=∀ b o,h.get? b=some o->h'.get? b=some o
theorem bY.refl (h:Heap):bY h h:=fun u_ u_ e=>e
theorem bY.trans {a b c:Heap}(x:bY a b)(y:bY b c):bY a c:=fun u_ u_ e=>y _ _ (x _ _ e)
theorem bY.push (h:Heap)(o:Obj):bY h (h.push o):=fun u_ u_ e=>Heap.get?_push_of_some _ e
theorem bY.fresh {h h':Heap}(x:Heap.ExtBut h.objs.size h h'):bY h h':=fun b o e=>x b o (Nat.ne_of_lt (Heap.lt_size e)) e
structure GK (g g':Array GenState):Prop where
 size:g.size<=g'.size
 old:∀ i,i < g.size->g'[i]?=g[i]?
 bare:AllBare g->AllBare g'
theorem GK.refl (g:Array GenState):GK g g:=⟨Nat.le_refl _,fun u_ u_=>rfl,fun x=>x⟩
theorem GK.trans {a b c:Array GenState}(x:GK a b)(y:GK b c):GK a c :=
 ⟨aP x.size y.size,fun i h=>(y.old i (Nat.lt_of_lt_of_le h x.size)).trans (x.old i h),fun h=>y.bare (x.bare h)⟩
structure cS (s s':Shared):Prop where
 keep:bY s.heap s'.heap
 gk:GK s.gens s'.gens
 os:s'.os=s.os
theorem cS.refl (s:Shared):cS s s:=⟨.refl _,.refl _,rfl⟩
theorem cS.trans {a b c:Shared}(x:cS a b)(y:cS b c):cS a c:=⟨x.keep.trans y.keep,x.gk.trans y.gk,y.os.trans x.os⟩
theorem cS.of {s:Shared}{h':Heap}{tk:Nat}(k:bY s.heap h'):cS s { s with heap:=h',toks:=tk }:=⟨k,.refl _,rfl⟩
theorem cS.toks {s:Shared}{tk:Nat}:cS s { s with toks:=tk }:=⟨.refl _,.refl _,rfl⟩
theorem cS.heap {s:Shared}{h':Heap}(k:bY s.heap h'):cS s { s with heap:=h' }:=⟨k,.refl _,rfl⟩
theorem cS.push {s:Shared}{o:Obj}:cS s { s with heap:=s.heap.push o }:=.heap (.push _ _)
inductive bP {J β:Type}(R:J->β->Prop):List J->List β->Prop where
 | nil:bP R [] []
 | cons {a b as bs}:R a b->bP R as bs->bP R (a::as) (b::bs)
namespace bP
variable {J β:Type} {R R':J->β->Prop}
theorem mono (h:∀ a b,R a b->R' a b){as:List J}{bs:List β}(x:bP R as bs):bP R' as bs:=by
 induction x with
 | nil=>exact .nil
 | cons h1 _ ih=>exact .cons (h _ _ h1) ih
theorem length {as:List J}{bs:List β}(x:bP R as bs):as.length=bs.length:=by
 induction x with
 | nil=>rfl
 | cons _ _ ih=>simp[ih]
theorem append {as as':List J}{bs bs':List β}(x:bP R as bs)(y:bP R as' bs'):bP R (as++as') (bs++bs'):=by
 induction x with
 | nil=>exact y
 | cons h1 _ ih=>exact .cons h1 ih
theorem get {as:List J}{bs:List β}(x:bP R as bs){i:Nat}{b:β}(h:bs[i]?=some b):∃ a,as[i]?=some a/\R a b:=by
 induction x generalizing i with
 | nil=>simp at h
 | cons h1 _ ih =>
  cases i with
  | zero=>simp at h;subst h;exact⟨_,by simp,h1⟩
  | succ i=>simp at h;(refine e1a2 (ih h) ?_;rintro a ha hr);exact⟨a,by simpa using ha,hr⟩
theorem get' {as:List J}{bs:List β}(x:bP R as bs){i:Nat}{a:J}(h:as[i]?=some a):∃ b,bs[i]?=some b/\R a b:=by
 induction x generalizing i with
 | nil=>simp at h
 | cons h1 _ ih =>
  cases i with
  | zero=>simp at h;subst h;exact⟨_,by simp,h1⟩
  | succ i=>simp at h;(refine e1a2 (ih h) ?_;rintro b hb hr);exact⟨b,by simpa using hb,hr⟩
theorem drop {as:List J}{bs:List β}(x:bP R as bs)(n:Nat):bP R (as.drop n) (bs.drop n):=by
 induction x generalizing n with
 | nil=>simp;exact .nil
 | cons h1 t ih=>cases n with
  | zero=>exact .cons h1 t
  | succ n=>simpa using ih n
theorem take {as:List J}{bs:List β}(x:bP R as bs)(n:Nat):bP R (as.take n) (bs.take n):=by
 induction x generalizing n with
 | nil=>simp;exact .nil
 | cons h1 t ih=>cases n with
  | zero=>exact .nil
  | succ n=>simpa using .cons h1 (ih n)
theorem set {as:List J}{bs:List β}(x:bP R as bs)(n:Nat){a:J}{b:β}(h:R a b):bP R (as.set n a) (bs.set n b):=by
 induction x generalizing n with
 | nil=>exact .nil
 | cons h1 t ih=>cases n with
  | zero=>exact .cons h t
  | succ n=>exact .cons h1 (ih n)
end bP
noncomputable def Pl (h:Heap)(a:Addr):Prop:=∃ vs,h.PlainList a vs
theorem PlainList.keep {h h':Heap}{a:Addr}{vs:Array Value}(k:bY h h')(x:h.PlainList a vs):h'.PlainList a vs:=let ⟨n,e⟩:=x;⟨n,k _ _ e⟩
theorem Pl.keep {h h':Heap}{a:Addr}(k:bY h h')(x:Pl h a):Pl h' a:=let ⟨vs,e⟩:=x;⟨vs,PlainList.keep k e⟩
noncomputable def bL (Own:Addr->Prop)(h:Heap)(v:Value)(d:PyData):Prop:=∃ as,Reads h v d as/\∀ a∈as,¬ Own a/\Pl h a
noncomputable def eS (Own:Addr->Prop):Nat->Heap->Value->PyData->Prop
 | 0,h,v,d=>bL Own h v d
 | k+1,h,v,d=>∃ a xs vs,v=.ref a/\d=.list xs/\h.PlainList a vs/\bP (eS Own k h) vs.toList xs
theorem bL.keep {Own:Addr->Prop}{h h':Heap}{v:Value}{d:PyData}(k:bY h h')(x:bL Own h v d):bL Own h' v d :=
 let ⟨as,r,n⟩:=x;⟨as,Reads.keeps k r,fun a m=>⟨(n a m).1,(n a m).2.keep k⟩⟩
theorem eS.keep {Own:Addr->Prop}{h h':Heap}(kk:bY h h'):∀ {k:Nat} {v:Value} {d:PyData},eS Own k h v d->eS Own k h' v d
 | 0,_,_,x=>bL.keep kk x
 | k+1,_,_,⟨a,xs,vs,e1,e2,hl,hx⟩=>⟨a,xs,vs,e1,e2,PlainList.keep kk hl,hx.mono fun u_ u_ y=>eS.keep kk y⟩
theorem vG {Own:Addr->Prop}{h:Heap}{vs:List Value}{xs:List PyData}(x:bP (bL Own h) vs xs):∃ as,ReadsAll h vs xs as/\∀ a∈as,¬ Own a/\Pl h a:=by
 induction x with
 | nil=>exact⟨[],.nil,fun u_ m=>nomatch m⟩
 | cons h1 _ ih =>
  (refine e1a2 h1 ?_;try clear h1;rintro as r n);(refine e1a2 ih ?_;try clear ih;rintro bs r' n');exact⟨as++bs,.cons r r',fun a m=>(bF m).elim (n a) (n' a)⟩
theorem oF {Own:Addr->Prop}{h:Heap}{vs:List Value}{xs:List PyData}{as:List Addr}(r:ReadsAll h vs xs as):(∀ a∈as,¬ Own a/\Pl h a)->bP (bL Own h) vs xs:=by
 intro n
 induction vs generalizing xs as with
 | nil=>cases r;exact .nil
 | cons v vs ih =>
  cases r with
  | cons r1 r2=>exact .cons ⟨_,r1,fun a m=>n a (aW _ m)⟩ (ih r2 fun a m=>n a (aZ _ m))
theorem eS.list {Own:Addr->Prop}{h:Heap}{a:Addr}{vs:Array Value}{xs:List PyData}(hl:h.PlainList a vs)(hx:bP (bL Own h) vs.toList xs)(ha:¬ Own a):bL Own h (.ref a) (.list xs):=by
 (refine e1a2 (vG hx) ?_;rintro as r hn);(refine e1a1 (id hl) ?_;rintro n ho);exact⟨a::as,.list ho rfl rfl r,fun b m=>(aM m).elim (fun e=>e ▸ ⟨ha,_,hl⟩) (hn b)⟩
theorem bL.tuple {Own:Addr->Prop}{h:Heap}{a:Addr}{vs:Array Value}{xs:List PyData}(hl:h.IsTuple a vs)(hx:bP (bL Own h) vs.toList xs):bL Own h (.ref a) (.tuple xs):=by
 (refine e1a3 hl ?_;try clear hl;rintro o ho hc hz_;obtain ⟨n,hd⟩:=hz_);(refine e1a2 (vG hx) ?_;rintro as r hn);exact⟨as,.tuple ho hc hd r,hn⟩
theorem bL.unlist {Own:Addr->Prop}{h:Heap}{v:Value}{xs:List PyData}(x:bL Own h v (.list xs)):∃ a vs,v=.ref a/\h.PlainList a vs/\bP (bL Own h) vs.toList xs/\¬ Own a:=by
 (refine e1a2 x ?_;try clear x;rintro as r hn)
 cases r with
 | list ho hc hd r =>
  (refine cA fun G_ hG_=>?_;rcases hn _ aF with ⟨h1,vs',n',ho'⟩;all_goals (refine hG_ ?_;clear hG_ G_))
  rw[ho]at ho';have e:=aA ho';subst e;have e:=(Data.seq.inj hd).1;subst e;exact⟨_,_,rfl,⟨_,ho⟩,oF r fun a m=>hn a (aE _ m),h1⟩
theorem bL.untuple {Own:Addr->Prop}{h:Heap}{v:Value}{xs:List PyData}(x:bL Own h v (.tuple xs)):∃ a vs,v=.ref a/\h.IsTuple a vs/\bP (bL Own h) vs.toList xs:=by
 (refine e1a2 x ?_;try clear x;rintro as r hn)
 cases r with
 | tuple ho hc hd r=>exact⟨_,_,rfl,⟨_,ho,hc,_,hd⟩,oF r hn⟩
theorem bL.none {Own:Addr->Prop}{h:Heap}{v:Value}(x:bL Own h v .none):v=.none:=by(refine e1a2 x ?_;try clear x;rintro as r u_);cases r;rfl
theorem bL.bool {Own:Addr->Prop}{h:Heap}{v:Value}{b:Bool}(x:bL Own h v (.bool b)):v=.bool b:=by(refine e1a2 x ?_;try clear x;rintro as r u_);cases r;rfl
theorem bL.int {Own:Addr->Prop}{h:Heap}{v:Value}{i:Int}(x:bL Own h v (.int i)):∃ t,v=.int i t:=by(refine e1a2 x ?_;try clear x;rintro as r u_);cases r;exact⟨_,rfl⟩
theorem bL.str {Own:Addr->Prop}{h:Heap}{v:Value}{x:Str}(r:bL Own h v (.str x)):∃ t,v=.str x t:=by(refine e1a2 r ?_;try clear r;rintro as r u_);cases r;exact⟨_,rfl⟩
theorem bL.dict {Own:Addr->Prop}{h:Heap}{v:Value} {x}(r:bL Own h v (.dict x)):∃ a,v=.ref a:=by(refine e1a2 r ?_;try clear r;rintro as r u_);cases r;exact⟨_,rfl⟩
theorem bL.mkNone {Own:Addr->Prop}{h:Heap}:bL Own h .none .none:=⟨[],.none,fun u_ m=>nomatch m⟩
theorem bL.mkBool {Own:Addr->Prop}{h:Heap}{b:Bool}:bL Own h (.bool b) (.bool b):=⟨[],.bool _,fun u_ m=>nomatch m⟩
theorem bL.mkInt {Own:Addr->Prop}{h:Heap}{i:Int}{t:Tok}:bL Own h (.int i t) (.int i):=⟨[],.int _ _,fun u_ m=>nomatch m⟩
theorem bL.mkStr {Own:Addr->Prop}{h:Heap}{x:Str}{t:Tok}:bL Own h (.str x t) (.str x):=⟨[],.str _ _,fun u_ m=>nomatch m⟩
theorem eS.any {Own:Addr->Prop}{h:Heap}{k:Nat}:∀ {v:Value} {d:PyData},eS Own k h v d->bL (fun u_=>False) h v d:=by
 induction k with
 | zero=>exact fun x=>e1a2 x fun as r hn=>⟨as,r,fun a m=>⟨fun x=>x,(hn a m).2⟩⟩
 | succ k ih =>
  intro v d x;(refine e3a4 x ?_;rintro a xs vs rfl rfl hl hx);exact eS.list hl (hx.mono fun u_ u_ y=>ih y) (fun x=>x)
theorem bL.flat {Own Own':Addr->Prop}{h:Heap}{v:Value}{d:PyData}(hn:noL d=true)(x:bL Own h v d):bL Own' h v d:=by
 cases d with
 | none=>rw[x.none];exact .mkNone
 | bool b=>rw[x.bool];exact .mkBool
 | int i=>(refine e1a1 x.int ?_;rintro t rfl);exact .mkInt
 | str i=>(refine e1a1 x.str ?_;rintro t rfl);exact .mkStr
 | list _=>exact absurd hn aN
 | tuple _=>exact absurd hn aN
 | dict _=>exact absurd hn aN
theorem eS.flat {Own Own':Addr->Prop}{h:Heap}{k:Nat}{v:Value}{d:PyData}(hn:noL d=true)(x:eS Own k h v d):bL Own' h v d:=x.any.flat hn
theorem eS.zero {Own:Addr->Prop}{h:Heap}{v:Value}{xs:List PyData}(x:bL Own h v (.list xs)):∃ a vs,v=.ref a/\h.PlainList a vs/\bP (bL Own h) vs.toList xs :=
 e2a4 (bL.unlist x) fun a vs e hl hx _=>⟨a,vs,e,hl,hx⟩
theorem eS.succ {Own:Addr->Prop}{h:Heap}{k:Nat}{v:Value}{xs:List PyData}(x:eS Own (k+1) h v (.list xs)):∃ a vs,v=.ref a/\h.PlainList a vs/\bP (eS Own k h) vs.toList xs:=by
 (refine e3a4 x ?_;try clear x;rintro a ys vs e1 e2 hl hx);have e3:xs=ys:=PyData.list.inj e2;subst e3;exact⟨a,vs,e1,hl,hx⟩
theorem eS.items {Own:Addr->Prop}{h:Heap}{k:Nat}{v:Value}{xs:List PyData}(x:eS Own k h v (.list xs)):∃ a vs,v=.ref a/\h.PlainList a vs/\bP (eS Own (k - 1) h) vs.toList xs:=by
 cases k with
 | zero=>exact eS.zero x
 | succ k=>exact eS.succ x
theorem eS.one {Own:Addr->Prop}{h:Heap}{k:Nat}(hk:k<=1){v:Value}{xs:List PyData}(x:eS Own k h v (.list xs)):∃ a vs,v=.ref a/\h.PlainList a vs/\bP (bL Own h) vs.toList xs:=by
 have e:k - 1=0:=by omega
 have y:=eS.items x;rw[e]at y;exact y
theorem eS.nolist {Own:Addr->Prop}{h:Heap}{k:Nat}{v:Value}{d:PyData}(x:eS Own k h v d)(hd:∀ xs,d≠.list xs):bL Own h v d:=by
 cases k with
 | zero=>exact x
 | succ k=>(refine e3a4 x ?_;try clear x;rintro a ys vs e1 e2 hl hx);exact absurd e2 (hd _)
theorem bL.weak {Own Own':Addr->Prop}{h:Heap}{v:Value}{d:PyData}(hs:∀ a,Own' a->Own a)(x:bL Own h v d):bL Own' h v d :=
 let ⟨as,r,n⟩:=x;⟨as,r,fun a m=>⟨fun p=>(n a m).1 (hs a p),(n a m).2⟩⟩
theorem eS.weak {Own Own':Addr->Prop}{h:Heap}(hs:∀ a,Own' a->Own a):∀ {k:Nat} {v:Value} {d:PyData},eS Own k h v d->eS Own' k h v d
 | 0,_,_,x=>bL.weak hs x
 | k+1,_,_,⟨a,xs,vs,e1,e2,hl,hx⟩=>⟨a,xs,vs,e1,e2,hl,hx.mono fun u_ u_ y=>eS.weak hs y⟩
theorem Reads.live {h:Heap}:∀ {v:Value} {d:PyData} {as:List Addr},Reads h v d as->∀ a∈as,∃ o,h.get? a=some o:=by
 intro v d as r;refine Reads.rec (motive_1:=fun u_ u_ as u_=>∀ a∈as,∃ o,h.get? a=some o) (motive_2:=fun u_ u_ as u_=>∀ a∈as,∃ o,h.get? a=some o) ?_ ?_ ?_ ?_ ?_ ?_ ?_ ?_ ?_ r
 .intro a m;cases m
 .intro _ a m;cases m
 .intro _ _ a m;cases m
 .intro _ _ a m;cases m
 .intro a o vs n xs as ho _ _ _ ih b m
  rcases aM m with rfl | m
  .exact⟨_,ho⟩
  .exact ih b m
 .intro a o vs n xs as ho _ _ _ ih;exact ih
 .intro a o es n kvs as bs ho _ _ _ _ ih1 ih2 b m
  rcases bF m with m | m
  .rcases aM m with rfl | m
   .exact⟨_,ho⟩
   .exact ih1 b m
  .exact ih2 b m
 .intro a m;cases m
 .intro _ _ _ _ _ _ _ _ ih1 ih2 a m
  exact(bF m).elim (ih1 a) (ih2 a)
theorem bL.grow {Own Own':Addr->Prop}{h:Heap}{v:Value}{d:PyData}(hs:∀ a,Own' a->(∃ o,h.get? a=some o)->Own a)(x:bL Own h v d):bL Own' h v d :=
 let ⟨as,r,n⟩:=x;⟨as,r,fun a m=>⟨fun p=>(n a m).1 (hs a p (Reads.live r a m)),(n a m).2⟩⟩
theorem eS.grow {Own Own':Addr->Prop}{h:Heap}(hs:∀ a,Own' a->(∃ o,h.get? a=some o)->Own a):∀ {k:Nat} {v:Value} {d:PyData},eS Own k h v d->eS Own' k h v d
 | 0,_,_,x=>bL.grow hs x
 | k+1,_,_,⟨a,xs,vs,e1,e2,hl,hx⟩=>⟨a,xs,vs,e1,e2,hl,hx.mono fun u_ u_ y=>eS.grow hs y⟩
noncomputable def nm (i:Nat):Str:=match mQ[i]? with
 | some l=>⟨l.toArray⟩
 | none=>⟨#[0,i]⟩
noncomputable def aRr:List (List Nat):=[[95,77,65,88,95,83,84,82,73,78,71,95,83,73,90,69],[95,77,79,86,69,95,67,79,83,84],[95,67,65,83,69,95,67,79,83,84]]
noncomputable def gnm (i:Nat):Str:=match aRr[i]? with
 | some l=>⟨l.toArray⟩
 | none=>⟨#[0]⟩
theorem yK:(mQ.all fun l=>!(Nat.beq (l.headD 0) 0))=true:=by decide +kernel
theorem aAH:mQ.Nodup:=by decide +kernel
theorem uE {i j:Nat}(h:nm i=nm j):i=j:=by
 unfold nm at h
 cases hi:mQ[i]? with
 | none =>
  cases hj:mQ[j]? with
  | none=>rw[hi,hj]at h;simp at h;exact h
  | some l =>
   rw[hi,hj]at h;have hm:=aJ yK l (List.mem_of_getElem? hj);have e:l=[0,i]:=by simpa using (congrArg (fun x:Str=>x.cps.toList) h).symm
   rw[e]at hm;simp at hm
 | some l =>
  cases hj:mQ[j]? with
  | none =>
   rw[hi,hj]at h;have hm:=aJ yK l (List.mem_of_getElem? hi);have e:l=[0,j]:=by simpa using (congrArg (fun x:Str=>x.cps.toList) h)
   rw[e]at hm;simp at hm
  | some l' =>
   rw[hi,hj]at h;have e:l=l':=by simpa using (congrArg (fun x:Str=>x.cps.toList) h)
   subst e;(refine e1a1 (List.getElem?_eq_some_iff.mp hi) ?_;rintro h1 e1);(refine e1a1 (List.getElem?_eq_some_iff.mp hj) ?_;rintro h2 e2);have hp:=List.pairwise_iff_getElem.mp aAH
   rcases Nat.lt_trichotomy i j with q | q | q
   .exact absurd (e1.trans e2.symm) (hp i j h1 h2 q)
   .exact q
   .exact absurd (e2.trans e1.symm) (hp j i h2 h1 q)
noncomputable def acc (sc:Scope)(x:Str):Bool:=match sc.names.lookup x with
 | some .local=>true
 | some .cell=>true
 | some .free=>true
 | _=>false
noncomputable def cO (sc:Scope)(x:Str):Bool:=match sc.names.lookup x with
 | some .globalImplicit=>true
 | _=>false
noncomputable def gS (scope sc:Scope):Scope :=
 { scope with names:=scope.names.map fun p=>if (p.2 == .free && sc.kind == .function && sc.names.lookup p.1 == some .cell)then(p.1,.cell)else p }
structure cG where
 prog:Program
 w:World
 mg:Str->Option Value
 mb:Str->Option Value
 G:Nat->Option Int
 T:Nat->List PV->Option PyData
 fnm:Nat->Str
 rk:Nat->Nat
 HC:Addr
 h0:Heap
 genAt:Shared->Value->List PyData->Prop
noncomputable def cG.at (c:cG)(h:Heap):cG:={ c with h0:=h }
structure dK (c:cG)(h:Heap):Prop where
 k0:bY c.h0 h
 z:c.h0.Ns mainGlobals c.mg/\c.h0.Ns builtinsNs c.mb/\c.h0.NoLimit
theorem dK.g {c:cG}{h:Heap}(B:dK c h):h.Ns mainGlobals c.mg:=B.z.1.keeps B.k0
theorem dK.b {c:cG}{h:Heap}(B:dK c h):h.Ns builtinsNs c.mb:=B.z.2.1.keeps B.k0
theorem dK.lim {c:cG}{h:Heap}(B:dK c h):h.NoLimit:=B.z.2.2.keeps B.k0
theorem dK.at {c:cG}{h:Heap}(B:dK c h):dK (c.at h) h:=⟨.refl _,B.g,B.b,B.lim⟩
theorem dK.keep {c:cG}{h h':Heap}(x:dK c h)(k:bY h h'):dK c h':=⟨x.k0.trans k,x.z⟩
theorem dK.new {c:cG}{h h':Heap}(B:dK c h)(k:∀ b o,c.h0.get? b=some o->h.get? b=some o->h'.get? b=some o):dK c h':=⟨fun b o e=>k b o e (B.k0 b o e),B.z⟩
structure fO (n:Nat)(A:Around):Prop where
 depth:A.depth+n < recursionLimit
 units:A.units+20 * n+200 < cLine
 hand:A.handled=none
structure fB (env:Env):Prop where
 kind:env.scope.kind=.function
 glob:env.globals=mainGlobals
 bui:env.builtins=builtinsNs
 co:env.scope.isCoroutine=false
 more:env.scope.more.any (fun(n,_)=>n == ("interactive":Str))=false
 cell:∀ x,env.kindOf x=some .cell\/env.kindOf x=some .free->∃ a,env.cells.lookup x=some a
 apart:∀ x y a,env.cells.lookup x=some a->env.cells.lookup y=some a->x=y
structure fP (HC:Addr)(h:Heap)(v:Value)(l:List (List Nat × List Nat))(la:Addr):Prop where
 obj:∃ a da od,v=.ref a/\h.get? a=some { cls:=.ref HC,dict:=some da,data:=.plain,slots:=#[] } /\
  h.get? da=some od/\od.cls=.type "dict"/\(∃ hs t n,od.data=.dict #[⟨hs,.str "_headers" t,.ref la⟩] n)/\a≠la/\da≠la
 list:∃ vs,h.PlainList la vs/\bP (bL (fun u_=>False) h) vs.toList (l.map fun p=>PyData.tuple [S p.1,S p.2])
inductive Rep (c:cG)(Own:Addr->Prop)(k:Nat)(s:Shared)(v:Value):PV->Prop where
 | dat {d:PyData}:eS Own k s.heap v d->Rep c Own k s v (.dat d)
 | hdr {l} {la:Addr}:fP c.HC s.heap v l la->Rep c Own k s v (.hdr l)
 | gen {ds}:c.genAt s v ds->Rep c Own k s v (.gen ds)
noncomputable def Lk (env:Env)(h:Heap)(m:Str->Option Value)(x:Str)(v:Value):Prop :=
 (env.kindOf x=some .local/\m x=some v)\/((env.kindOf x=some .cell\/env.kindOf x=some .free)/\∃ a,env.cells.lookup x=some a/\h.IsCell a (some v))
structure aFZ (c:cG)(Own:Addr->Prop)(env:Env)(M:Nat->Nat)(E:AE)(s:Shared):Prop where
 ns:∃ m,s.heap.Ns env.locals m/\∀ i pv,E i=some pv->acc env.scope (nm i)=true->∃ v,Lk env s.heap m (nm i) v/\Rep c Own (M i) s v pv
structure bE (c:cG):Prop where
 genStp:∀ s s' v ds,cS s s'->c.genAt s v ds->c.genAt s' v ds
 glo:∀ i v,c.G i=some v->∃ t,c.mg (gnm i)=some (.int v t)
 bi:∀ x∈(["len","sum","min","max","sorted"]:List String),c.mg (Str.ofString x)=none/\c.mb (Str.ofString x)=some (.builtin x)
 ty:∀ x∈(["range","list","enumerate","type","int","str"]:List String),c.mg (Str.ofString x)=none/\c.mb (Str.ofString x)=some (.type x)
theorem fP.keep {HC:Addr}{h h':Heap} {v l la}(k:bY h h')(x:fP HC h v l la):fP HC h' v l la:=by
 (refine cA fun G_ hG_=>?_;rcases x with ⟨⟨a,da,od,e,h1,h2,r⟩,vs,hl,hx⟩;all_goals (refine hG_ ?_;clear hG_ G_))
 exact⟨⟨a,da,od,e,k _ _ h1,k _ _ h2,r⟩,vs,PlainList.keep k hl,hx.mono fun u_ u_ y=>bL.keep k y⟩
theorem Rep.stp {c:cG}(C:bE c){Own:Addr->Prop}{k:Nat}{s s':Shared}{v:Value}{pv:PV}(x:cS s s')(r:Rep c Own k s v pv):Rep c Own k s' v pv:=by
 cases r with
 | dat r=>exact .dat (eS.keep x.keep r)
 | hdr r=>exact .hdr (r.keep x.keep)
 | gen r=>exact .gen (C.genStp _ _ _ _ x r)
theorem Lk.keep {env:Env}{h h':Heap} {m x v}(k:bY h h')(l:Lk env h m x v):Lk env h' m x v:=by
 rcases l with l | ⟨hk,a,ha,hc⟩
 .exact .inl l
 .exact .inr ⟨hk,a,ha,hc.keeps k⟩
theorem aFZ.stp {c:cG}(C:bE c) {Own env M E s s'}(x:cS s s')(V:aFZ c Own env M E s):aFZ c Own env M E s':=by
 (refine e1a2 V.ns ?_;rintro m hm hv);refine⟨m,hm.keeps x.keep,fun i pv e ha=>?_⟩;(refine e1a2 (hv i pv e ha) ?_;rintro v hl hr);exact⟨v,hl.keep x.keep,hr.stp C x⟩
structure Cx (c:cG)(n:Nat)(A:Around)(Own:Addr->Prop)(env:Env)(M:Nat->Nat)(E:AE)(s:Shared):Prop where
 eok:fB env
 room:fO n A
 base:dK c s.heap
 view:aFZ c Own env M E s
 live:∀ a,Own a->∃ o,s.heap.get? a=some o
 cells:∀ x a,env.cells.lookup x=some a->∃ o,s.heap.IsCell a o
theorem Cx.stp {c:cG}(C:bE c) {n A Own env M E s s'}(x:cS s s')(V:Cx c n A Own env M E s):Cx c n A Own env M E s' :=
 ⟨V.eok,V.room,V.base.keep x.keep,V.view.stp C x,fun a h=>let ⟨o,ho⟩:=V.live a h;⟨o,x.keep _ _ ho⟩,fun y a h=>let ⟨o,ho⟩:=V.cells y a h;⟨o,ho.keeps x.keep⟩⟩
section
variable {c:cG} {n:Nat} {A:Around} {Own:Addr->Prop} {env:Env} {M:Nat->Nat} {E:AE} {s:Shared} {Er:Value->Shared->Prop}
theorem aQm {sc:Scope}{x:Str}(h:acc sc x=true):sc.names.lookup x=some .local\/sc.names.lookup x=some .cell\/sc.names.lookup x=some .free:=by
 unfold acc at h;revert h;generalize sc.names.lookup x=r;intro h
 cases r with
 | none=>exact eR h
 | some k=>cases k <;> first | exact eR h | exact .inl rfl | exact .inr (.inl rfl) | exact .inr (.inr rfl)
noncomputable def bW (x:Str):Bool:=!(x == ("__debug__":Str)) && !(x == ("__classdict__":Str))
theorem aNT {m:Str->Option Value}{x:Str}{v:Value}{Q:Value->Shared->Prop}(K:fB env)(hm:s.heap.Ns env.locals m)(hl:Lk env s.heap m x v)(hp:bW x=true)(h:Q v s):wpAny (model c.prog c.w) A (loadName env x) Q Er s:=by
 unfold bW at hp;rw[Bool.and_eq_true]at hp
 rcases hl with ⟨hk,e⟩ | ⟨hk | hk,a,ha,hc⟩
 .exact wpAny_loadName_local K.kind hk hm e h
 .exact wpAny_loadName_cell K.kind hk ha hc h
 .exact wpAny_loadName_free K.kind hk ha hc h (by simpa using hp.2)
theorem aBH {m:Str->Option Value}{x:Str}{p:Pos}{v:Value}{Q:Value->Shared->Prop}(K:fB env)(hm:s.heap.Ns env.locals m)(hl:Lk env s.heap m x v)(hp:bW x=true)(h:Q v s) :
  wpAny (model c.prog c.w) A (eval (.Name x p) env) Q Er s:=by
 refine wpAny_Name (aNT K hm hl hp h) ?_;unfold bW at hp;rw[Bool.and_eq_true]at hp
 simpa using hp.1
end
noncomputable def bM (e:Expr):Bool:=!(Nat.beq e.ctorIdx 22)
noncomputable def gE (e:Expr):Bool:=!(Nat.beq e.ctorIdx 7)
noncomputable def lS (e:Expr):Bool:=!(eY e fun f _ _ _=>Nat.beq f.ctorIdx 23)
noncomputable def aNy:Bop->Operator
 | .add=>.Add | .sub=>.Sub | .mul=>.Mult | .fdiv=>.FloorDiv | .mod=>.Mod | .pow=>.Pow
noncomputable def aP9:Cop->CmpOp
 | .eq=>.Eq | .ne=>.NotEq | .lt=>.Lt | .le=>.LtE | .gt=>.Gt | .ge=>.GtE | .isin=>.In | .notin=>.NotIn
noncomputable def tU:Nat->Str
 | 0=>"int" | 1=>"str" | _=>"list"
noncomputable def yE:P1->Str
 | .len=>"len" | .sum=>"sum" | .lower=>"lower"
 | .swapcase=>"swapcase"
 | .mini=>"min"
 | .sorted=>"sorted"
noncomputable def aEZ:P1->Bool
 | .lower=>true
 | .swapcase=>true
 | _=>false
noncomputable def yD:P2->Str
 | .min2=>"min"
 | .max2=>"max"
 | .join=>"join"
 | .find=>"find"
noncomputable def aEY:P2->Bool
 | .min2=>false
 | .max2=>false
 | _=>true
noncomputable def bQ (sc:Scope)(x:Str):Bool:=match sc.names.lookup x with
 | some .local=>true
 | some .cell=>true
 | _=>false
noncomputable def fN (sc:Scope):List Nat->List Expr->Bool
 | [],es=>bV es true
 | i::is,es=>bC es fun e r=>bX e fun x u_=>decide (x=nm i) && bQ sc x && bW x && fN sc is r
theorem aAo {sc:Scope}{es:List Expr}:fN sc [] es=bV es true:=rfl
theorem wJ {sc:Scope}{i:Nat}{is:List Nat}{es:List Expr}:fN sc (i::is) es=bC es fun e r=>bX e fun x u_=>decide (x=nm i) && bQ sc x && bW x && fN sc is r:=rfl
noncomputable def nP (sc:Scope)(t:Tgt)(e:Expr):Bool:=match t with
 | .name i=>bX e fun x u_=>decide (x=nm i) && bQ sc x && bW x
 | .tup is=>jU e fun es u_ v_=>decide (0 < is.length) && decide is.Nodup && fN sc is es
theorem aEg {sc:Scope}{i:Nat}{e:Expr}:nP sc (.name i) e=bX e fun x u_=>decide (x=nm i) && bQ sc x && bW x:=rfl
theorem aAk {sc:Scope}{is:List Nat}{e:Expr}:nP sc (.tup is) e=jU e fun es u_ v_=>decide (0 < is.length) && decide is.Nodup && fN sc is es:=rfl
theorem aGZ {sc:Scope}{is:List Nat}{e:Expr}(h:nP sc (.tup is) e=true):∃ es k p,e=.Tuple es k p:=eX (P:=fun e=>∃ es k p,e=.Tuple es k p) (aAk.symm.trans h) fun es k p u_=>⟨es,k,p,rfl⟩
noncomputable def kT (sc scope:Scope)(ids:List Nat):Bool :=
 (scope.kind == .function) && !scope.isCoroutine && !(scope.more.any fun(n,_)=>n == ("interactive":Str)) && decide (scope.names.map (·.1)).Nodup &&
 scope.names.all fun p=>match p.2 with
  | .local=>p.1 == (".0":Str) || ids.any fun i=>decide (p.1=nm i)
  | .cell=>ids.any fun i=>decide (p.1=nm i)
  | .free=>acc sc p.1 && !(match sc.names.lookup p.1 with | some .local=>true | _=>false) && !(ids.any fun i=>decide (p.1=nm i))
  | _=>true
noncomputable def mZ (x:X):Bool:=Nat.beq x.ctorIdx X.none.ctorIdx
noncomputable def aKa:It->Bool
 | .val _=>true
 | .rng3 _ _ _=>true
 | _=>false
noncomputable def aAZ:It->Tgt->Bool
 | .enm _,.name _=>false
 | _,_=>true
noncomputable def aNP:It->Bool
 | .gen _=>false
 | _=>true
noncomputable abbrev Ck:=Expr->Bool
noncomputable def aPo (i:Int)(e:Expr):Bool :=
 eE e fun z1 z2 z3=>aEa z1 fun j=>decide (i=j)
noncomputable def aPh (l:List Nat)(e:Expr):Bool :=
 eE e fun z1 z2 z3=>aLx z1 fun s=>decide (s=⟨⟨l⟩⟩)
noncomputable def aKr (b:Bool)(e:Expr):Bool :=
 eE e fun z1 z2 z3=>uW z1 fun j=>decide (b=j)
noncomputable def aKp (e:Expr):Bool :=
 eE e fun z1 z2 z3=>aFH z1 (true)
noncomputable def qE (sc:Scope)(i:Nat)(e:Expr):Bool :=
 bX e fun x z1=>decide (x=nm i) && acc sc x && bW x
noncomputable def aPq (sc:Scope)(i:Nat)(e:Expr):Bool :=
 bX e fun x z1=>decide (x=gnm i) && cO sc x && bW x
noncomputable def aPk (i:Int)(e:Expr):Bool :=
 mC e fun z1 z2 z3=>aFD z1 (eE z2 fun z4 z5 z6=>aEa z4 fun j=>decide (i=j))
noncomputable def aPt (op:Bop)(a b:Ck)(e:Expr):Bool :=
 xA e fun l o r z1=>decide (o=aNy op) && a l && b r
noncomputable def aPj (a:Ck)(e:Expr):Bool :=
 mC e fun z1 x z2=>aLw z1 (a x)
noncomputable def yW (o:CmpOp)(a b:Ck)(e:Expr):Bool :=
 pZ e fun l z1 z2 z3=>bC z1 fun p z4=>bV z4 (bC z2 fun r z5=>bV z5 (decide (p=o) && gE r && a l && b r))
noncomputable def isO (m:Bool):CmpOp:=match m with | true=>.IsNot | false=>.Is
noncomputable def aDI (x:X):Bool:=Nat.beq x.ctorIdx X.none.ctorIdx || Nat.beq x.ctorIdx (X.bool true).ctorIdx
noncomputable def aPn (sc:Scope)(m:Bool)(a:Ck)(t:Nat)(e:Expr):Bool :=
 pZ e fun z1 z2 z3 z4=>eY z1 fun z5 z6 z7 z8=>bX z5 fun ty z9=>bC z6 fun x z10=>bV z10 (bV z7 (bC z2 fun o z11=>bV z11 (bC z3 fun z12 z13=>bX z12 fun tn z14=>bV z13 (decide (o=isO m) && decide (ty=("type":Str)) && cO sc ty && bM x && a x && decide (tn=tU t) && cO sc tn && decide (t<=2)))))
noncomputable def aKs (op:BoolOp)(xs:List Expr->Bool)(e:Expr):Bool :=
 zS e fun o es z1=>decide (o=op) && xs es
noncomputable def aPm (t a b:Ck)(e:Expr):Bool :=
 tF e fun t' a' b' z1=>t t' && a a' && b b'
noncomputable def aPl (xs:List Expr->Bool)(e:Expr):Bool :=
 aCE e fun es z1=>xs es
noncomputable def aPg (xs:List Expr->Bool)(e:Expr):Bool :=
 jU e fun es z1 z2=>xs es
noncomputable def kG (e:Expr):Bool:=!(Nat.beq e.ctorIdx 26)
noncomputable def aPp (a i:Ck)(e:Expr):Bool :=
 dW e fun o j z1=>kG j && a o && i j
noncomputable def aDF (a:Ck)(nn:Bool)(e:Option Expr):Bool:=match e with
 | some y=>a y
 | none=>nn
noncomputable def aPi (a:Ck)(lo hi st:Option Expr->Bool)(e:Expr):Bool :=
 dW e fun o z1 z2=>wZ z1 fun l h t z3=>a o && lo l && hi h && st t
noncomputable def aKq (sc:Scope)(x:Str)(xs:List Expr->Bool)(e:Expr):Bool :=
 eY e fun z1 es z2 z3=>bX z1 fun y z4=>bV z2 (decide (y=x) && cO sc y && bW y && decide (es.length < 29) && xs es)
noncomputable def sO (sc:Scope)(x:Str)(a:Ck)(e:Expr):Bool :=
 eY e fun z1 z2 z3 z4=>bX z1 fun y z5=>bC z2 fun z z6=>bV z6 (bV z3 (decide (y=x) && cO sc y && bM z && a z))
noncomputable def aPs (sc:Scope)(x:Str)(a b:Ck)(e:Expr):Bool :=
 eY e fun z1 z2 z3 z4=>bX z1 fun y z5=>bC z2 fun z z6=>bC z6 fun t z7=>bV z7 (bV z3 (decide (y=x) && cO sc y && bM z && bM t && a z && b t))
noncomputable def aPr (sc:Scope)(x:Str)(a b d:Ck)(e:Expr):Bool :=
 eY e fun z1 z2 z3 z4=>bX z1 fun y z5=>bC z2 fun z z6=>bC z6 fun t z7=>bC z7 fun u z8=>bV z8 (bV z3 (decide (y=x) && cO sc y && bM z && bM t && bM u && a z && b t && d u))
noncomputable def aH3 (x:Str)(a:Ck)(e:Expr):Bool :=
 eY e fun z1 z2 z3 pos=>cZ z1 fun o y ap=>bV z2 (bV z3 (decide (y=x) && lS o && (ap.endLine == pos.line) && a o))
noncomputable def aH2 (x:Str)(a b:Ck)(e:Expr):Bool :=
 eY e fun z1 z2 z3 pos=>cZ z1 fun o y ap=>bC z2 fun z z4=>bV z4 (bV z3 (decide (y=x) && lS o && (ap.endLine == pos.line) && bM z && a o && b z))
noncomputable def sQ (sc:Scope)(i:Nat)(e:Expr):Bool :=
 eY e fun z1 z2 z3 z4=>bX z1 fun ty z5=>bC z2 fun z6 z7=>bV z7 (bV z3 (decide (ty=("type":Str)) && cO sc ty && bM z6 && qE sc i z6))
noncomputable def aCn (sc:Scope)(k:Int)(e:Expr):Bool :=
 xA e fun z1 z2 z3 z4=>aCE z1 fun z5 z6=>bC z5 fun z7 z8=>bX z7 fun tn z9=>bV z8 (aFF z2 (eE z3 fun z10 z11 z12=>aEa z10 fun j=>decide (tn=("int":Str)) && cO sc tn && decide (j=k)))
noncomputable def sP (sc:Scope)(i:Nat)(e:Expr):Bool :=
 cZ e fun z1 a z2=>bX z1 fun y z3=>decide (y=nm i) && acc sc y && bW y && decide (a=("_headers":Str))
noncomputable def aBt (sc:Scope)(src:Ck)(ids:List Nat)(t:Scope->Ck)(fs:Scope->List Expr->Bool)(el:Scope->Ck)(e:Expr):Bool :=
 rU e fun x z1 scope z2=>bC z1 fun z3 z4=>aRA z3 fun tg ite ifs ia=>bV z4 (decide (ia=0) && gE ite && src ite && kT sc scope ids && t (gS scope sc) tg && fs (gS scope sc) ifs && el (gS scope sc) x)
noncomputable def aH1 (es:List Expr):Bool :=
 bV es (true)
noncomputable def aGu (x:Ck)(xs:List Expr->Bool)(es:List Expr):Bool:=match es with | e::r=>bM e && x e && xs r | []=>false
noncomputable def rZ:Nat:=42
noncomputable def aBr:Xs->Nat
 | .nil=>0
 | .cons _ xs=>aBr xs+1
section
variable (fnm:Nat->Str) (rk:Nat->Nat) (n:Nat)
mutual
noncomputable def aS (sc:Scope):X->Expr->Bool
 | .int i=>aPo i
 | .str l=>aPh l
 | .bool b=>aKr b
 | .none=>aKp
 | .var i=>qE sc i
 | .glo i=>aPq sc i
 | .neg i=>aPk i
 | .bin op a b=>aPt op (aS sc a) (aS sc b)
 | .not a=>aPj (aS sc a)
 | .cmp1 op a b=>yW (aP9 op) (aS sc a) (aS sc b)
 | .isC m a x=>fun e=>aDI x && yW (isO m) (aS sc a) (aS sc x) e
 | .isT m a t=>aPn sc m (aS sc a) t
 | .and xs=>aKs .And (chkXs sc xs)
 | .or xs=>aKs .Or (chkXs sc xs)
 | .ite t a b=>aPm (aS sc t) (aS sc a) (aS sc b)
 | .lst xs=>fun e=>decide (aBr xs<=1000) && aPl (chkXs sc xs) e
 | .tup xs=>fun e=>decide (aBr xs<=1000) && aPg (chkXs sc xs) e
 | .idx a i=>aPp (aS sc a) (aS sc i)
 | .slc a lo hi st=>aPi (aS sc a) (aDF (aS sc lo) (mZ lo)) (aDF (aS sc hi) (mZ hi)) (aDF (aS sc st) (mZ st))
 | .call f xs=>fun e=>decide (rk f < n) && aKq sc (fnm f) (chkXs sc xs) e
 | .p1 p a=>fun e=>match aEZ p with
  | true=>aH3 (yE p) (aS sc a) e
  | false=>sO sc (yE p) (aS sc a) e
 | .p2 p a b=>fun e=>match aEY p with
  | true=>aH2 (yD p) (aS sc a) (aS sc b) e
  | false=>aPs sc (yD p) (aS sc a) (aS sc b) e
 | .lof it=>fun e=>aKa it && sO sc "list" (chkIt sc it) e
 | .comp elt t it ifs=>fun e=>aNP it && aAZ it t && aBt sc (chkIt sc it) t.ids (fun q=>nP q t) (fun q=>chkXs q ifs) (fun q=>aS q elt) e
 | .hget i a=>fun e=>decide (2 < n) && aH2 "get_all" (qE sc i) (aS sc a) e
 | .hvals i=>fun e=>decide (2 < n) && aH3 "values" (qE sc i) e
 | .tysNe a k=>yW .NotEq (aBt sc (aS sc a) [rZ] (fun q=>nP q (.name rZ)) (fun u_=>aH1) (fun q=>sQ q rZ)) (aCn sc k)
 | .hattr i=>sP sc i
noncomputable def chkXs (sc:Scope):Xs->List Expr->Bool
 | .nil=>aH1
 | .cons x xs=>aGu (aS sc x) (chkXs sc xs)
noncomputable def chkIt (sc:Scope):It->Expr->Bool
 | .val a=>aS sc a
 | .rng1 a=>sO sc "range" (aS sc a)
 | .rng3 a b c=>aPr sc "range" (aS sc a) (aS sc b) (aS sc c)
 | .enm a=>sO sc "enumerate" (aS sc a)
 | .gen a=>fun e=>decide (2 < n) && sO sc "_iter_escaped_chars" (aS sc a) e
end
end
section
variable {a b d:Ck} {e:Expr}
theorem aGG {i:Int}(h:aPo i e=true):∃ k p,e=.Constant (.int i) k p:=by
 refine cR h fun z1 z2 z3 h=>?_;refine rV h fun j h=>?_;exact⟨_,_,by rw[aC h]⟩
theorem aGz {l:List Nat}(h:aPh l e=true):∃ k p,e=.Constant (.str ⟨⟨l⟩⟩) k p:=by
 refine cR h fun z1 z2 z3 h=>?_;refine aFG h fun s h=>?_;exact⟨_,_,by rw[aC h]⟩
theorem aDL {i:Bool}(h:aKr i e=true):∃ k p,e=.Constant (.bool i) k p:=by
 refine cR h fun z1 z2 z3 h=>?_;refine lF h fun j h=>?_;exact⟨_,_,by rw[aC h]⟩
theorem aDJ (h:aKp e=true):∃ k p,e=.Constant .none k p:=by
 refine cR h fun z1 z2 z3 h=>?_;refine aD9 h fun h=>?_;exact⟨_,_,rfl⟩
theorem fG {sc:Scope}{i:Nat}(h:qE sc i e=true):∃ p,e=.Name (nm i) p/\acc sc (nm i)=true/\bW (nm i)=true:=by
 refine aV h fun x z1 h=>?_;(refine yV h ?_;try clear h;rintro rfl h1 h2);exact⟨_,rfl,h1,h2⟩
theorem aGI {sc:Scope}{i:Nat}(h:aPq sc i e=true):∃ p,e=.Name (gnm i) p/\cO sc (gnm i)=true/\bW (gnm i)=true:=by
 refine aV h fun x z1 h=>?_;(refine yV h ?_;try clear h;rintro rfl h1 h2);exact⟨_,rfl,h1,h2⟩
theorem aGC {i:Int}(h:aPk i e=true):∃ k p q,e=.UnaryOp .USub (.Constant (.int i) k p) q:=by
 refine pG h fun z1 z2 z3 h=>?_;refine aD6 h fun h=>?_;refine cR h fun z4 z5 z6 h=>?_;refine rV h fun j h=>?_;exact⟨_,_,_,by rw[aC h]⟩
theorem aGL {op:Bop}(h:aPt op a b e=true):∃ l r p,e=.BinOp l (aNy op) r p/\a l=true/\b r=true:=by
 refine tG h fun l o r z1 h=>?_;(refine yV h ?_;try clear h;rintro rfl h1 h2);exact⟨_,_,_,rfl,h1,h2⟩
theorem aGB (h:aPj a e=true):∃ x p,e=.UnaryOp .Not x p/\a x=true:=by
 refine pG h fun z1 x z2 h=>?_;refine aFE h fun h=>?_;exact⟨_,_,rfl,h⟩
theorem lU {o:CmpOp}(h:yW o a b e=true):∃ l r p,e=.Compare l [o] [r] p/\gE r=true/\a l=true/\b r=true:=by
 refine pH h fun l z1 z2 z3 h=>?_;refine aL h fun p z4 h=>?_;refine aO h fun h=>?_;refine aL h fun r z5 h=>?_;refine aO h fun h=>?_;(refine rI h ?_;try clear h;rintro rfl h0 h1 h2);exact⟨_,_,_,rfl,h0,h1,h2⟩
theorem aGF {sc:Scope}{m:Bool}{t:Nat}(h:aPn sc m a t e=true):∃ x p1 p2 p3 p4,e=.Compare (.Call (.Name "type" p1) [x] [] p2) [isO m] [.Name (tU t) p3] p4/\cO sc "type"=true/\bM x=true/\a x=true/\cO sc (tU t)=true/\t<=2:=by
 refine pH h fun z1 z2 z3 z4 h=>?_;refine cI h fun z5 z6 z7 z8 h=>?_;refine aV h fun ty z9 h=>?_;refine aL h fun x z10 h=>?_;refine aO h fun h=>?_;refine aO h fun h=>?_;refine aL h fun o z11 h=>?_;refine aO h fun h=>?_;refine aL h fun z12 z13 h=>?_;refine aV h fun tn z14 h=>?_;refine aO h fun h=>?_;(refine aFl h ?_;try clear h;rintro rfl rfl h0 h1 h2 rfl h4 h5);exact⟨_,_,_,_,_,rfl,h0,h1,h2,h4,h5⟩
theorem wU {op:BoolOp}{xs:List Expr->Bool}(h:aKs op xs e=true):∃ es p,e=.BoolOp op es p/\xs es=true:=by
 refine aAM h fun o es z1 h=>?_;(refine aRf h ?_;try clear h;rintro rfl h1);exact⟨_,_,rfl,h1⟩
theorem aGE (h:aPm a b d e=true):∃ x y z p,e=.IfExp x y z p/\a x=true/\b y=true/\d z=true:=by
 refine nJ h fun t' a' b' z1 h=>?_;exact aBs h fun h_0 h_1 h_2=>⟨_,_,_,_,rfl,h_0,h_1,h_2⟩
theorem aGD {xs:List Expr->Bool}(h:aPl xs e=true):∃ es p,e=.List es p/\xs es=true:=by
 refine vR h fun es z1 h=>?_;exact⟨_,_,rfl,h⟩
theorem aGy {xs:List Expr->Bool}(h:aPg xs e=true):∃ es k p,e=.Tuple es k p/\xs es=true:=by
 refine eX h fun es z1 z2 h=>?_;exact⟨_,_,_,rfl,h⟩
theorem aGH (h:aPp a b e=true):∃ o j p,e=.Subscript o j p/\kG j=true/\a o=true/\b j=true:=by
 refine cW h fun o j z1 h=>?_;exact aBs h fun h_0 h_1 h_2=>⟨_,_,_,rfl,h_0,h_1,h_2⟩
theorem aGA {lo hi st:Option Expr->Bool}(h:aPi a lo hi st e=true):∃ o l u t p q,e=.Subscript o (.Slice l u t p) q/\a o=true/\lo l=true/\hi u=true/\st t=true:=by
 refine cW h fun o z1 z2 h=>?_;refine tE h fun l h t z3 h=>?_;exact lM h fun h_0 h_1 h_2 h_3=>⟨_,_,_,_,_,_,rfl,h_0,h_1,h_2,h_3⟩
theorem aDK {sc:Scope}{x:Str}{xs:List Expr->Bool}(h:aKq sc x xs e=true):∃ es p q,e=.Call (.Name x p) es [] q/\cO sc x=true/\bW x=true/\es.length < 29/\xs es=true:=by
 refine cI h fun z1 es z2 z3 h=>?_;refine aV h fun y z4 h=>?_;refine aO h fun h=>?_;(refine aMN h ?_;try clear h;rintro rfl h0 h1 h2 h3);exact⟨_,_,_,rfl,h0,h1,h2,h3⟩
theorem nB {sc:Scope}{x:Str}(h:sO sc x a e=true):∃ z p q,e=.Call (.Name x p) [z] [] q/\cO sc x=true/\bM z=true/\a z=true:=by
 refine cI h fun z1 z2 z3 z4 h=>?_;refine aV h fun y z5 h=>?_;refine aL h fun z z6 h=>?_;refine aO h fun h=>?_;refine aO h fun h=>?_;(refine rI h ?_;try clear h;rintro rfl h0 h1 h2);exact⟨_,_,_,rfl,h0,h1,h2⟩
theorem aGK {sc:Scope}{x:Str}(h:aPs sc x a b e=true):∃ z t p q,e=.Call (.Name x p) [z,t] [] q/\cO sc x=true/\bM z=true/\bM t=true/\a z=true/\b t=true:=by
 refine cI h fun z1 z2 z3 z4 h=>?_;refine aV h fun y z5 h=>?_;refine aL h fun z z6 h=>?_;refine aL h fun t z7 h=>?_;refine aO h fun h=>?_;refine aO h fun h=>?_;(refine aDE h ?_;try clear h;rintro rfl h0 h1 h2 h3 h4);exact⟨_,_,_,_,rfl,h0,h1,h2,h3,h4⟩
theorem aGJ {sc:Scope}{x:Str}(h:aPr sc x a b d e=true):∃ z t u p q,e=.Call (.Name x p) [z,t,u] [] q/\cO sc x=true/\bM z=true/\bM t=true/\bM u=true/\a z=true/\b t=true/\d u=true:=by
 refine cI h fun z1 z2 z3 z4 h=>?_;refine aV h fun y z5 h=>?_;refine aL h fun z z6 h=>?_;refine aL h fun t z7 h=>?_;refine aL h fun u z8 h=>?_;refine aO h fun h=>?_;refine aO h fun h=>?_;(refine yU h ?_;try clear h;rintro rfl h0 h1 h2 h3 h4 h5 h6);exact⟨_,_,_,_,_,rfl,h0,h1,h2,h3,h4,h5,h6⟩
theorem wT {x:Str}(h:aH3 x a e=true):∃ o ap q,e=.Call (.Attribute o x ap) [] [] q/\lS o=true/\(ap.endLine == q.line)=true/\a o=true:=by
 refine cI h fun z1 z2 z3 pos h=>?_;refine cB h fun o y ap h=>?_;refine aO h fun h=>?_;refine aO h fun h=>?_;(refine rI h ?_;try clear h;rintro rfl h0 h1 h2);exact⟨_,_,_,rfl,h0,h1,h2⟩
theorem nA {x:Str}(h:aH2 x a b e=true):∃ o z ap q,e=.Call (.Attribute o x ap) [z] [] q/\lS o=true/\(ap.endLine == q.line)=true/\bM z=true/\a o=true/\b z=true:=by
 refine cI h fun z1 z2 z3 pos h=>?_;refine cB h fun o y ap h=>?_;refine aL h fun z z4 h=>?_;refine aO h fun h=>?_;refine aO h fun h=>?_;(refine aDE h ?_;try clear h;rintro rfl h0 h1 h2 h3 h4);exact⟨_,_,_,_,rfl,h0,h1,h2,h3,h4⟩
theorem aH5 {sc:Scope}{i:Nat}(h:sQ sc i e=true):∃ p z r,e=.Call (.Name "type" p) [z] [] r/\cO sc "type"=true/\bM z=true/\qE sc i z=true:=by
 refine cI h fun z1 z2 z3 z4 h=>?_;refine aV h fun ty z5 h=>?_;refine aL h fun z6 z7 h=>?_;refine aO h fun h=>?_;refine aO h fun h=>?_;(refine rI h ?_;try clear h;rintro rfl h0 h2 h3);exact⟨_,_,_,rfl,h0,h2,h3⟩
theorem rL {sc:Scope}{k:Int}(h:aCn sc k e=true):∃ p1 p2 kk p3 p4,e=.BinOp (.List [.Name "int" p1] p2) .Mult (.Constant (.int k) kk p3) p4/\cO sc "int"=true:=by
 refine tG h fun z1 z2 z3 z4 h=>?_;refine vR h fun z5 z6 h=>?_;refine aL h fun z7 z8 h=>?_;refine aV h fun tn z9 h=>?_;refine aO h fun h=>?_;refine aD7 h fun h=>?_;refine cR h fun z10 z11 z12 h=>?_;refine rV h fun j h=>?_;(refine aGs h ?_;try clear h;rintro rfl h0 rfl);exact⟨_,_,_,_,_,rfl,h0⟩
theorem sS {sc:Scope}{src:Ck}{ids:List Nat}{t:Scope->Ck}{fs:Scope->List Expr->Bool}{el:Scope->Ck}(h:aBt sc src ids t fs el e=true) :
  ∃ x tg ite ifs scope p,e=.ListComp x [⟨tg,ite,ifs,0⟩] scope p/\gE ite=true/\src ite=true/\kT sc scope ids=true/\t (gS scope sc) tg=true/\fs (gS scope sc) ifs=true/\el (gS scope sc) x=true:=by
 refine wI h fun x z1 scope z2 h=>?_;refine aL h fun z3 z4 h=>?_;refine aIE h fun tg ite ifs ia h=>?_;refine aO h fun h=>?_;(refine aH0 h ?_;try clear h;rintro rfl h0 h1 h2 h3 h4 h5);exact⟨_,_,_,_,_,_,rfl,h0,h1,h2,h3,h4,h5⟩
theorem kZ {es:List Expr}(h:aH1 es=true):es=[]:=by
 refine aO h fun h=>?_;rfl
theorem hZ {xs:List Expr->Bool}{es:List Expr}(h:aGu a xs es=true):∃ z r,es=z::r/\bM z=true/\a z=true/\xs r=true:=by
 unfold aGu at h;split at h
 .exact aBs h fun h_0 h_1 h_2=>⟨_,_,rfl,h_0,h_1,h_2⟩
 .exact eR h
end
noncomputable def hJ (M:Nat->Nat):X->Nat
 | .var i=>M i
 | .idx a _=>hJ M a - 1
 | .hattr _=>1
 | _=>0
noncomputable def itK (M:Nat->Nat):It->Nat
 | .val a=>hJ M a
 | .enm a=>hJ M a
 | _=>0
noncomputable def eG (M:Nat->Nat)(ids:List Nat):Nat->Nat:=fun i=>if ids.contains i then 0 else M i
mutual
noncomputable def cJ (M:Nat->Nat):X->Bool
 | .int _=>true | .str _=>true | .bool _=>true | .none=>true
 | .var _=>true
 | .glo _=>true
 | .neg _=>true
 | .bin _ a b=>cJ M a && cJ M b && decide (hJ M a<=1) && decide (hJ M b<=1)
 | .not a=>cJ M a
 | .cmp1 _ a b=>cJ M a && cJ M b
 | .isC _ a c=>cJ M a && cJ M c
 | .isT _ a _=>cJ M a
 | .and xs=>okXs M xs
 | .or xs=>okXs M xs
 | .ite t a b=>cJ M t && cJ M a && cJ M b && decide (hJ M a=0) && decide (hJ M b=0)
 | .lst xs=>okXs M xs
 | .tup xs=>okXs M xs
 | .idx a i=>cJ M a && cJ M i
 | .slc a lo hi st=>cJ M a && cJ M lo && cJ M hi && cJ M st && decide (hJ M a<=1)
 | .call _ xs=>okXs M xs
 | .p1 _ a=>cJ M a && decide (hJ M a<=1)
 | .p2 _ a b=>cJ M a && cJ M b && decide (hJ M a<=1) && decide (hJ M b=0)
 | .lof it=>okIt M it
 | .comp elt t it ifs=>okIt M it && okXs (eG M t.ids) ifs && cJ (eG M t.ids) elt && decide (hJ (eG M t.ids) elt=0)
 | .hget _ a=>cJ M a
 | .hvals _=>true
 | .tysNe a _=>cJ M a && decide (hJ M a<=1)
 | .hattr _=>true
noncomputable def okXs (M:Nat->Nat):Xs->Bool
 | .nil=>true
 | .cons x xs=>cJ M x && decide (hJ M x=0) && okXs M xs
noncomputable def okIt (M:Nat->Nat):It->Bool
 | .val a=>cJ M a && decide (hJ M a<=1)
 | .rng1 a=>cJ M a
 | .rng3 a b c=>cJ M a && cJ M b && cJ M c
 | .enm a=>cJ M a && decide (hJ M a<=1)
 | .gen a=>cJ M a
end
noncomputable def oJ:X->Bool
 | .lst _=>true
 | .lof _=>true
 | .comp ..=>true
 | .bin .add _ _=>true
 | .bin .mul _ _=>true
 | .slc ..=>true
 | _=>false
noncomputable def Fr1 (s:Shared)(v:Value):Prop:=∀ a,v=.ref a->s.heap.get? a=none
noncomputable def bG (c:cG)(x:X):Prop :=
 ∀ (n:Nat) (A:Around) (env:Env) (Own:Addr->Prop) (M:Nat->Nat) (E:AE) (s:Shared) (e:Expr) (d:PyData) (Q:Value->Shared->Prop) (Er:Value->Shared->Prop),
  Cx c n A Own env M E s->aS c.fnm c.rk n env.scope x e=true->cJ M x=true->ev c.G c.T x E=some d ->
  (∀ v s',cS s s'->eS Own (hJ M x) s'.heap v d->(oJ x=true->Fr1 s v)->Q v s')->wpAny (model c.prog c.w) A (eval e env) Q Er s
noncomputable def fW (c:cG)(x:X):Prop :=
 ∀ (n:Nat) (A:Around) (env:Env) (Own:Addr->Prop) (M:Nat->Nat) (E:AE) (s:Shared) (e:Expr) (d:PyData) (b:Bool) (Q:Bool->Shared->Prop) (Er:Value->Shared->Prop),
  Cx c n A Own env M E s->aS c.fnm c.rk n env.scope x e=true->cJ M x=true->ev c.G c.T x E=some d->tr d=some b ->
  (∀ s',cS s s'->Q b s')->wpAny (model c.prog c.w) A (isTrue e env (eval e env)) Q Er s
noncomputable def aAy (c:cG)(xs:Xs):Prop :=
 ∀ (n:Nat) (A:Around) (env:Env) (Own:Addr->Prop) (M:Nat->Nat) (E:AE) (s:Shared) (es:List Expr) (ds:List PyData) (pos:Pos) (Q:List Value->Shared->Prop) (Er:Value->Shared->Prop),
  Cx c n A Own env M E s->chkXs c.fnm c.rk n env.scope xs es=true->okXs M xs=true->evs c.G c.T xs E=some ds ->
  (∀ vs s',cS s s'->bP (bL Own s'.heap) vs ds->vs.length=es.length->Q vs s')->wpAny (model c.prog c.w) A (spliced (backTo pos (starEach es env))) Q Er s
theorem aAf {fnm:Nat->Str}{rk:Nat->Nat}{n:Nat}{sc:Scope} {i}:aS fnm rk n sc (.int i)=(aPo i):=rfl
theorem zX {fnm:Nat->Str}{rk:Nat->Nat}{n:Nat}{sc:Scope} {l}:aS fnm rk n sc (.str l)=(aPh l):=rfl
theorem vW {fnm:Nat->Str}{rk:Nat->Nat}{n:Nat}{sc:Scope} {b}:aS fnm rk n sc (.bool b)=(aKr b):=rfl
theorem vS {fnm:Nat->Str}{rk:Nat->Nat}{n:Nat}{sc:Scope}:aS fnm rk n sc .none=(aKp):=rfl
theorem nO {fnm:Nat->Str}{rk:Nat->Nat}{n:Nat}{sc:Scope} {i}:aS fnm rk n sc (.var i)=(qE sc i):=rfl
theorem aAh {fnm:Nat->Str}{rk:Nat->Nat}{n:Nat}{sc:Scope} {i}:aS fnm rk n sc (.glo i)=(aPq sc i):=rfl
theorem aAa {fnm:Nat->Str}{rk:Nat->Nat}{n:Nat}{sc:Scope} {i}:aS fnm rk n sc (.neg i)=(aPk i):=rfl
theorem aAi {fnm:Nat->Str}{rk:Nat->Nat}{n:Nat}{sc:Scope} {op a b}:aS fnm rk n sc (.bin op a b)=(aPt op (aS fnm rk n sc a) (aS fnm rk n sc b)):=rfl
theorem zZ {fnm:Nat->Str}{rk:Nat->Nat}{n:Nat}{sc:Scope} {a}:aS fnm rk n sc (.not a)=(aPj (aS fnm rk n sc a)):=rfl
theorem vU {fnm:Nat->Str}{rk:Nat->Nat}{n:Nat}{sc:Scope} {op a b}:aS fnm rk n sc (.cmp1 op a b)=(yW (aP9 op) (aS fnm rk n sc a) (aS fnm rk n sc b)):=rfl
theorem aAe {fnm:Nat->Str}{rk:Nat->Nat}{n:Nat}{sc:Scope} {m a x}:aS fnm rk n sc (.isC m a x)=(fun e=>aDI x && yW (isO m) (aS fnm rk n sc a) (aS fnm rk n sc x) e):=rfl
theorem aAd {fnm:Nat->Str}{rk:Nat->Nat}{n:Nat}{sc:Scope} {m a t}:aS fnm rk n sc (.isT m a t)=(aPn sc m (aS fnm rk n sc a) t):=rfl
theorem aAj {fnm:Nat->Str}{rk:Nat->Nat}{n:Nat}{sc:Scope} {xs}:aS fnm rk n sc (.and xs)=(aKs .And (chkXs fnm rk n sc xs)):=rfl
theorem aBN {fnm:Nat->Str}{rk:Nat->Nat}{n:Nat}{sc:Scope} {xs}:aS fnm rk n sc (.or xs)=(aKs .Or (chkXs fnm rk n sc xs)):=rfl
theorem aAc {fnm:Nat->Str}{rk:Nat->Nat}{n:Nat}{sc:Scope} {t a b}:aS fnm rk n sc (.ite t a b)=(aPm (aS fnm rk n sc t) (aS fnm rk n sc a) (aS fnm rk n sc b)):=rfl
theorem aAb {fnm:Nat->Str}{rk:Nat->Nat}{n:Nat}{sc:Scope} {xs}:aS fnm rk n sc (.lst xs)=(fun e=>decide (aBr xs<=1000) && aPl (chkXs fnm rk n sc xs) e):=rfl
theorem zW {fnm:Nat->Str}{rk:Nat->Nat}{n:Nat}{sc:Scope} {xs}:aS fnm rk n sc (.tup xs)=(fun e=>decide (aBr xs<=1000) && aPg (chkXs fnm rk n sc xs) e):=rfl
theorem aAg {fnm:Nat->Str}{rk:Nat->Nat}{n:Nat}{sc:Scope} {a i}:aS fnm rk n sc (.idx a i)=(aPp (aS fnm rk n sc a) (aS fnm rk n sc i)):=rfl
theorem zY {fnm:Nat->Str}{rk:Nat->Nat}{n:Nat}{sc:Scope} {a lo hi st}:aS fnm rk n sc (.slc a lo hi st)=(aPi (aS fnm rk n sc a) (aDF (aS fnm rk n sc lo) (mZ lo)) (aDF (aS fnm rk n sc hi) (mZ hi)) (aDF (aS fnm rk n sc st) (mZ st))):=rfl
theorem vV {fnm:Nat->Str}{rk:Nat->Nat}{n:Nat}{sc:Scope} {f xs}:aS fnm rk n sc (.call f xs)=(fun e=>decide (rk f < n) && aKq sc (fnm f) (chkXs fnm rk n sc xs) e):=rfl
theorem aBM {fnm:Nat->Str}{rk:Nat->Nat}{n:Nat}{sc:Scope} {p a}:aS fnm rk n sc (.p1 p a)=(fun e=>match aEZ p with
  | true=>aH3 (yE p) (aS fnm rk n sc a) e
  | false=>sO sc (yE p) (aS fnm rk n sc a) e):=rfl
theorem aBL {fnm:Nat->Str}{rk:Nat->Nat}{n:Nat}{sc:Scope} {p a b}:aS fnm rk n sc (.p2 p a b)=(fun e=>match aEY p with
  | true=>aH2 (yD p) (aS fnm rk n sc a) (aS fnm rk n sc b) e
  | false=>aPs sc (yD p) (aS fnm rk n sc a) (aS fnm rk n sc b) e):=rfl
theorem aFK {fnm:Nat->Str}{rk:Nat->Nat}{n:Nat}{sc:Scope} {it}:aS fnm rk n sc (.lof it)=(fun e=>aKa it && sO sc "list" (chkIt fnm rk n sc it) e):=rfl
theorem pK {fnm:Nat->Str}{rk:Nat->Nat}{n:Nat}{sc:Scope} {elt t it ifs}:aS fnm rk n sc (.comp elt t it ifs)=(fun e=>aNP it && aAZ it t && aBt sc (chkIt fnm rk n sc it) t.ids (fun q=>nP q t) (fun q=>chkXs fnm rk n q ifs) (fun q=>aS fnm rk n q elt) e):=rfl
theorem vT {fnm:Nat->Str}{rk:Nat->Nat}{n:Nat}{sc:Scope} {i a}:aS fnm rk n sc (.hget i a)=(fun e=>decide (2 < n) && aH2 "get_all" (qE sc i) (aS fnm rk n sc a) e):=rfl
theorem tJ {fnm:Nat->Str}{rk:Nat->Nat}{n:Nat}{sc:Scope} {i}:aS fnm rk n sc (.hvals i)=(fun e=>decide (2 < n) && aH3 "values" (qE sc i) e):=rfl
theorem tI {fnm:Nat->Str}{rk:Nat->Nat}{n:Nat}{sc:Scope} {a k}:aS fnm rk n sc (.tysNe a k)=(yW .NotEq (aBt sc (aS fnm rk n sc a) [rZ] (fun q=>nP q (.name rZ)) (fun u_=>aH1) (fun q=>sQ q rZ)) (aCn sc k)):=rfl
theorem aCI {fnm:Nat->Str}{rk:Nat->Nat}{n:Nat}{sc:Scope} {i}:aS fnm rk n sc (.hattr i)=(sP sc i):=rfl
theorem fM {fnm:Nat->Str}{rk:Nat->Nat}{n:Nat}{sc:Scope}:chkXs fnm rk n sc .nil=(aH1):=rfl
theorem dT {fnm:Nat->Str}{rk:Nat->Nat}{n:Nat}{sc:Scope} {x xs}:chkXs fnm rk n sc (.cons x xs)=(aGu (aS fnm rk n sc x) (chkXs fnm rk n sc xs)):=rfl
theorem vX {fnm:Nat->Str}{rk:Nat->Nat}{n:Nat}{sc:Scope} {a}:chkIt fnm rk n sc (.val a)=(aS fnm rk n sc a):=rfl
theorem aCK {fnm:Nat->Str}{rk:Nat->Nat}{n:Nat}{sc:Scope} {a}:chkIt fnm rk n sc (.rng1 a)=(sO sc "range" (aS fnm rk n sc a)):=rfl
theorem tK {fnm:Nat->Str}{rk:Nat->Nat}{n:Nat}{sc:Scope} {a b c}:chkIt fnm rk n sc (.rng3 a b c)=(aPr sc "range" (aS fnm rk n sc a) (aS fnm rk n sc b) (aS fnm rk n sc c)):=rfl
theorem aEt {fnm:Nat->Str}{rk:Nat->Nat}{n:Nat}{sc:Scope} {a}:chkIt fnm rk n sc (.enm a)=(sO sc "enumerate" (aS fnm rk n sc a)):=rfl
theorem aEs {fnm:Nat->Str}{rk:Nat->Nat}{n:Nat}{sc:Scope} {a}:chkIt fnm rk n sc (.gen a)=(fun e=>decide (2 < n) && sO sc "_iter_escaped_chars" (aS fnm rk n sc a) e):=rfl
theorem aHG {M:Nat->Nat} {z1 a b}:cJ M (.bin z1 a b)=(cJ M a && cJ M b && decide (hJ M a<=1) && decide (hJ M b<=1)):=rfl
theorem aBb {M:Nat->Nat} {a}:cJ M (.not a)=(cJ M a):=rfl
theorem yG {M:Nat->Nat} {z1 a b}:cJ M (.cmp1 z1 a b)=(cJ M a && cJ M b):=rfl
theorem aBf {M:Nat->Nat} {z1 a c}:cJ M (.isC z1 a c)=(cJ M a && cJ M c):=rfl
theorem aBe {M:Nat->Nat} {z1 a z2}:cJ M (.isT z1 a z2)=(cJ M a):=rfl
theorem aBg {M:Nat->Nat} {xs}:cJ M (.and xs)=(okXs M xs):=rfl
theorem aDo {M:Nat->Nat} {xs}:cJ M (.or xs)=(okXs M xs):=rfl
theorem aBd {M:Nat->Nat} {t a b}:cJ M (.ite t a b)=(cJ M t && cJ M a && cJ M b && decide (hJ M a=0) && decide (hJ M b=0)):=rfl
theorem aHE {M:Nat->Nat} {xs}:cJ M (.lst xs)=(okXs M xs):=rfl
theorem aHC {M:Nat->Nat} {xs}:cJ M (.tup xs)=(okXs M xs):=rfl
theorem aHF {M:Nat->Nat} {a i}:cJ M (.idx a i)=(cJ M a && cJ M i):=rfl
theorem aHD {M:Nat->Nat} {a lo hi st}:cJ M (.slc a lo hi st)=(cJ M a && cJ M lo && cJ M hi && cJ M st && decide (hJ M a<=1)):=rfl
theorem aE2 {M:Nat->Nat} {z1 xs}:cJ M (.call z1 xs)=(okXs M xs):=rfl
theorem aJN {M:Nat->Nat} {z1 a}:cJ M (.p1 z1 a)=(cJ M a && decide (hJ M a<=1)):=rfl
theorem aJM {M:Nat->Nat} {z1 a b}:cJ M (.p2 z1 a b)=(cJ M a && cJ M b && decide (hJ M a<=1) && decide (hJ M b=0)):=rfl
theorem aBc {M:Nat->Nat} {it}:cJ M (.lof it)=(okIt M it):=rfl
theorem yF {M:Nat->Nat} {elt t it ifs}:cJ M (.comp elt t it ifs)=(okIt M it && okXs (eG M t.ids) ifs && cJ (eG M t.ids) elt && decide (hJ (eG M t.ids) elt=0)):=rfl
theorem aE1 {M:Nat->Nat} {z1 a}:cJ M (.hget z1 a)=(cJ M a):=rfl
theorem aDn {M:Nat->Nat} {a z1}:cJ M (.tysNe a z1)=(cJ M a && decide (hJ M a<=1)):=rfl
theorem gT {M:Nat->Nat} {x xs}:okXs M (.cons x xs)=(cJ M x && decide (hJ M x=0) && okXs M xs):=rfl
theorem yH {M:Nat->Nat} {a}:okIt M (.val a)=(cJ M a && decide (hJ M a<=1)):=rfl
theorem aDp {M:Nat->Nat} {a}:okIt M (.rng1 a)=(cJ M a):=rfl
theorem vJ {M:Nat->Nat} {a b c}:okIt M (.rng3 a b c)=(cJ M a && cJ M b && cJ M c):=rfl
theorem aFe {M:Nat->Nat} {a}:okIt M (.enm a)=(cJ M a && decide (hJ M a<=1)):=rfl
theorem aFd {M:Nat->Nat} {a}:okIt M (.gen a)=(cJ M a):=rfl
theorem rK {h:Heap}{l:Addr}{items:Array Value}(x:h.IsList l items):∃ dd sl n,h.get? l=some { cls:=.type "list",dict:=dd,data:=.seq items n,slots:=sl }:=by
 (refine e1a3 x ?_;try clear x;rintro⟨cls,dd,data,sl⟩ ho hc hz_;obtain ⟨n,hd⟩:=hz_);simp only at hc hd;subst hc hd;exact⟨dd,sl,n,ho⟩
theorem fresh_size {h:Heap}:h.get? h.objs.size=none:=by
 cases e:h.get? h.objs.size with
 | none=>rfl
 | some o=>exact absurd (Heap.lt_size e) (Nat.lt_irrefl _)
theorem aCe {Own:Addr->Prop}{h:Heap}(live:∀ a,Own a->∃ o,h.get? a=some o):¬ Own h.objs.size:=fun x=>by
 (refine e1a1 (live _ x) ?_;rintro o ho);rw[fresh_size]at ho;exact cM ho
theorem aDh {h:Heap}{vs:Array Value}:(h.push { cls:=.type "list",data:=.seq vs }).PlainList h.objs.size vs:=⟨0,Heap.get?_push_size _ rfl⟩
theorem aB9 {h:Heap}{vs:Array Value}:(h.push { cls:=.type "tuple",data:=.seq vs }).IsTuple h.objs.size vs:=⟨_,Heap.get?_push_size _ rfl,rfl,0,rfl⟩
theorem oH {Own:Addr->Prop}{s:Shared}{vs:List Value}{xs:List PyData}(live:∀ a,Own a->∃ o,s.heap.get? a=some o)(hx:bP (bL Own s.heap) vs xs) :
  bL Own (s.heap.push { cls:=.type "list",data:=.seq vs.toArray }) (.ref s.heap.objs.size) (.list xs) :=
 eS.list aDh (by simpa using hx.mono fun u_ u_ y=>bL.keep (bY.push _ _) y) (aCe live)
theorem aHP {Own:Addr->Prop}{s:Shared}{vs:List Value}{xs:List PyData}(hx:bP (bL Own s.heap) vs xs) :
  bL Own (s.heap.push { cls:=.type "tuple",data:=.seq vs.toArray }) (.ref s.heap.objs.size) (.tuple xs) :=
 bL.tuple aB9 (by simpa using hx.mono fun u_ u_ y=>bL.keep (bY.push _ _) y)
theorem aFp {s s':Shared}(k:bY s.heap s'.heap){a:Addr}(e:s'.heap.get? a=none):Fr1 s (.ref a):=fun b eb=>by
 cases eb
 cases h:s.heap.get? a with
 | none=>rfl
 | some o=>rw[k _ _ h]at e;exact nsn e
theorem aDU {s s':Shared}(k:bY s.heap s'.heap):Fr1 s (.ref s'.heap.objs.size):=aFp k fresh_size
section
variable {prog:Program} {w:World} {A:Around} {Er:Value->Shared->Prop} {s:Shared} {Own:Addr->Prop}
theorem aHU (l:Addr)(items:Array Value)(n:Nat)(dd:Option Addr)(sl:Array (Option Value))(x:Int)(u:Tok)(hc0:¬(!Builtin.List.listFitsIndex x)=true)(hc1:¬items.size * x.toNat > (2 ^ 63 - 1) / 8)
  (hc2:¬Builtin.List.listTooLong (items.size * x.toNat)=true) :
  Meets (Builtin.«list.__mul__» ⟨[.ref l,.int x u],[]⟩) (fun u_ R s=>s.heap.get? l=some { cls:=.type "list",dict:=dd,data:=.seq items n,slots:=sl } /\
   R (.ok (.ret (Value.ref s.heap.objs.size))) { s with heap:=s.heap.push { cls:=Value.type "list",data:=Data.seq (List.foldl (fun x1 x2=>x1++x2) #[] (List.replicate (if items.isEmpty=true then 0 else x.toNat) items)) } }) :=
 .of_wp fun prog w A R s h=>by
  (refine cA fun G_ hG_=>?_;rcases s with ⟨hp,g,d,tk,os⟩;all_goals (refine hG_ ?_;clear hG_ G_));obtain ⟨hl,h⟩:=h
  have hsz:=AutoListH.joined_fits hc2
  wp_walk;refine wpAny_ite_false (decide_eq_false (Nat.not_lt.mpr hsz)) ?_;wp_walk;exact⟨_,rfl,h⟩
theorem aQX (a:Int)(t:Tok)(l:Addr)(items:Array Value)(n:Nat)(dd:Option Addr)(sl:Array (Option Value)) :
  Meets (Builtin.«int.__rmul__» ⟨[.int a t,.ref l],[]⟩) (fun u_ R s=>s.heap.get? l=some { cls:=.type "list",dict:=dd,data:=.seq items n,slots:=sl }/\R (.ok (.ret Value.notImplemented)) s) :=
 .of_wp fun prog w A R s h=>by(refine cA fun G_ hG_=>?_;rcases s with ⟨hp,g,d,tk,os⟩;all_goals (refine hG_ ?_;clear hG_ G_));obtain ⟨hl,h⟩:=h;wp_walk;exact⟨_,rfl,h⟩
theorem vH {l:Addr}{items:Array Value}{x:Int}{u:Tok}{Q:Value->Shared->Prop}(hl:s.heap.IsList l items)
  (hlo:-(2 ^ 63:Int)<=x) (hhi:x < 2 ^ 63) (hsz:items.size * x.toNat<=2 ^ 24)
  (h:Q (.ref s.heap.objs.size) { s with heap:=s.heap.push { cls:=Value.type "list",data:=Data.seq (List.foldl (fun x1 x2=>x1++x2) #[] (List.replicate (if items.isEmpty=true then 0 else x.toNat) items)) } }) :
  wpAny (model prog w) A (binaryOp .Mult (.ref l) (.int x u)) Q Er s:=by
 (refine e3a1 (rK hl) ?_;rintro dd sl k hl)
 exact wpAny_binaryOp_repeat_ref (T:="list") (U:="int") (by decide) ⟨_,hl,rfl⟩ (fun s'=>typeIs_int s' x u) noFill_list_mul F.fills_int_mul F.slot_int_rmul repeat_list F.slot_int_index.lookup
  (call_meets F.slot_int_rmul (typeIs_int s x u) F.entry_int_rmul (F.args_int_rmul_2 _ _) (aQX x u l items k dd sl)
   ⟨hl,rfl,⟨_,hl,rfl⟩,call_meets F.slot_list_mul ⟨_,hl,rfl⟩ F.entry_list_mul (F.args_list_mul_2 _ _)
    (aHU l items k dd sl x u (by simp[Builtin.List.listFitsIndex];lia) (by lia) (by simp[Builtin.List.listTooLong,sizeLine];omega))
    ⟨hl,h⟩⟩)
theorem aDl {l b:Addr}{vs ws:Array Value}{Q:Value->Shared->Prop}(hl:s.heap.IsList l vs)(hb:s.heap.IsList b ws)(hsz:vs.size+ws.size<=sizeLine)
  (h:Q (.ref s.heap.objs.size) { s with heap:=s.heap.push { cls:=.type "list",data:=.seq (vs++ws) } }) :
  wpAny (model prog w) A (binaryOp .Add (.ref l) (.ref b)) Q Er s:=by
 (refine e3a1 (rK hl) ?_;rintro dd sl k hl);(refine e3a1 (rK hb) ?_;rintro dd2 sl2 k2 hb);exact concat_meets ⟨_,hl,rfl⟩ ⟨_,hb,rfl⟩ noFill_list_add seq_list_add PySem.F.slot_list_add PySem.F.entry_list_add (PySem.F.args_list_add_2 _ _) (list_addW l b vs ws k k2 dd dd2 sl sl2 hsz) ⟨hl,hb,h⟩
end
theorem aBy (xs:Array Value):∀ (k:Nat) (acc:Array Value),(List.foldl (fun x1 x2=>x1++x2) acc (List.replicate k xs)).toList=acc.toList++rep xs.toList k
 | 0=>fun acc=>by simp[vE,aDg]
 | k+1=>fun acc=>by rw[List.replicate_succ,List.foldl_cons,aBy xs k];simp[vE,aDg]
theorem zD (xs:Array Nat):∀ (k:Nat) (acc:Array Nat),(List.foldl (fun x1 x2=>x1++x2) acc (List.replicate k xs)).toList=acc.toList++rep xs.toList k
 | 0=>fun acc=>by simp[vE,aDg]
 | k+1=>fun acc=>by rw[List.replicate_succ,List.foldl_cons,zD xs k];simp[vE,aDg]
theorem aB6 {J:Type}:∀ k:Nat,rep ([]:List J) k=[]
 | 0=>rfl
 | k+1=>by simp[vE,aB6 k]
theorem bP.rep {J β:Type}{R:J->β->Prop}{as:List J}{bs:List β}(x:bP R as bs):∀ k,bP R (Mine.rep as k) (Mine.rep bs k)
 | 0=>.nil
 | k+1=>x.append (bP.rep x k)
set_option tactic.hygienic true in
theorem aL8 (x:Str)(n:Int)(h:0<=n):Txt.mul x n=⟨⟨rep (sl x) n.toNat⟩⟩:=by
 unfold Txt.mul
 split
 .rename_i h1
  have:n.toNat=0:=by lia
  rw[this];rfl
 .split
  .rename_i h1 h2
   simp only[Bool.or_eq_true,beq_iff_eq]at h2
   rcases h2 with h2 | h2
   .subst h2;simp[vE,aDg,sl]
   .have hx:x.cps.toList=[]:=by
     have:x.cps.size=0:=h2
     simpa using Array.eq_empty_of_size_eq_zero this
    show x=_;simp only[sl,hx,aB6];cases x;simp at hx;subst hx;rfl
  .have:=zD x.cps n.toNat #[]
   dsimp only[List.nil_append]at this;show Str.mk _=Str.mk _
   congr 1
   exact Array.ext' (by simpa using this)
section
variable {prog:Program} {w:World} {A:Around} {Er:Value->Shared->Prop} {s:Shared} {Own:Addr->Prop}
theorem aMg (x y:Str):x++y=⟨⟨sl x++sl y⟩⟩:=by
 show Str.append x y=_;unfold Str.append
 congr 1
 exact Array.ext' (by simp[sl])
theorem aNb {a b:Int}(h:0 < b):a.fdiv b=a / b:=Int.fdiv_eq_ediv_of_nonneg a (Int.le_of_lt h)
theorem aM8 {a b:Int}(h:0 < b):a.fmod b=a % b:=Int.fmod_eq_emod_of_nonneg a (Int.le_of_lt h)
theorem aQ2 {x:Str}{n:Int}(h0:0<=n)(h1:n<=1000000)(h3:x.cps.size * n.toNat<=1000000):MulOk x n:=by
 by_cases hx0:x.cps.size=0
 .have hx1:(x.length == 0)=true:=beq_iff_eq.mpr hx0
  refine⟨Bool.or_eq_false_iff.mpr ⟨decide_eq_false (by lia),decide_eq_false (by lia)⟩,fun u_ q=>?_,fun u_ q=>?_⟩
  .rw[hx1,Bool.or_true]at q;exact nbf q
  .rw[hx1,Bool.or_true]at q;exact nbf q
 .refine⟨Bool.or_eq_false_iff.mpr ⟨decide_eq_false (by lia),decide_eq_false (by lia)⟩,fun q u_=>?_,fun u_ u_=>?_⟩
  .have h5:(x.cps.size:Int) * n<=1000000:=by
    have q:=Int.ofNat_le.mpr h3;rw[Int.natCast_mul,Int.toNat_of_nonneg h0]at q;exact q
   have:(x.length:Int)<=(2 ^ 63 - 1) / n:=(Int.le_ediv_iff_mul_le (by grind)).mpr (Int.le_trans h5 (by decide))
   lia
  .have h5:x.length * n.toNat<=1000000:=h3
   exact decide_eq_false (by rw[sizeLine_eq];grind)
theorem aBk {i:Int}{t:Tok}{s:Shared}:Fr1 s (.int i t):=fun a e=>nomatch e
theorem aJQ {i:Str}{t:Tok}{s:Shared}:Fr1 s (.str i t):=fun a e=>nomatch e
theorem dR {k:Nat}{v:Value}{x:PyData}{a:Int}(r:eS Own k s.heap v x)(hx:x=.int a):∃ t,v=.int a t:=((hx ▸ r).nolist fun u_=>nofun).int
theorem kF {k:Nat}{v:Value}{x:PyData}{a:Str}(r:eS Own k s.heap v x)(hx:x=.str a):∃ t,v=.str a t:=((hx ▸ r).nolist fun u_=>nofun).str
theorem aQh (live:∀ a,Own a->∃ o,s.heap.get? a=some o){k1 k2:Nat}(h1:k1<=1)(h2:k2<=1){op:Bop}{x y z:PyData}{v1 v2:Value}{Q:Value->Shared->Prop}(hz:kQ op x y=some z)
  (r1:eS Own k1 s.heap v1 x) (r2:eS Own k2 s.heap v2 y) (h:∀ v s',cS s s'->bL Own s'.heap v z->Fr1 s v->Q v s'):wpAny (model prog w) A (binaryOp (aNy op) v1 v2) Q Er s:=by
 cases op with
 | add =>
  refine jI (fun a hx hz=>jI (fun b hy hz=>?_) cM hz) (fun hz=>mO (fun a hx hz=>mO (fun b hy hz=>ifs (fun hle hz=>?_) hz) cM hz) (fun hz=>oG (fun xs hx hz=>oG (fun ys hy hz=>ifs (fun hle hz=>?_) hz) cM hz) cM hz) hz) hz
  ·(refine e1a1 (dR r1 hx) ?_;rintro t rfl)
   (refine e1a1 (dR r2 hy) ?_;rintro u rfl);show wpAny _ _ (binaryOp .Add _ _) _ _ _
   with_reducible refine add_int ?_
   exact h _ _ .toks (aA hz ▸ .mkInt) aBk
  ·(refine e1a1 (kF r1 hx) ?_;rintro t rfl)
   (refine e1a1 (kF r2 hy) ?_;rintro u rfl);show wpAny _ _ (binaryOp .Add _ _) _ _ _
   with_reducible refine add_str (fun t' tk=>?_) ?_
   .rw[aMg];exact h _ _ .toks (aA hz ▸ .mkStr) aJQ
   .have:a.cps.toList.length+b.cps.toList.length<=1000000:=hle
    rw[Array.length_toList,Array.length_toList]at this;show a.cps.size+b.cps.size<=sizeLine;rw[sizeLine_eq];exact aP this (by decide)
  ·(refine e2a3 ((hx ▸ r1).one h1) ?_;rintro l vs rfl hl hx)
   (refine e2a3 ((hy ▸ r2).one h2) ?_;rintro b ws rfl hb hy);have e1:=hx.length;have e2:=hy.length;rw[Array.length_toList]at e1 e2;show wpAny _ _ (binaryOp .Add _ _) _ _ _
   with_reducible refine aDl hl.isList hb.isList ?_ ?_
   .rw[e1,e2,sizeLine_eq]
    exact aP hle (by decide)
   .have q:=oH live (hx.append hy)
    rw[show(vs.toList++ws.toList).toArray=vs++ws by simp]at q
    exact h _ _ .push (aA hz ▸ q) (aDU (.refl _))
 | sub =>
  refine pO (fun a b hx hy hz=>?_) hz;(refine e1a1 (dR r1 hx) ?_;rintro t rfl);(refine e1a1 (dR r2 hy) ?_;rintro u rfl);show wpAny _ _ (binaryOp .Sub _ _) _ _ _
  with_reducible refine sub_int ?_
  exact h _ _ .toks (aA hz ▸ .mkInt) aBk
 | mul =>
  refine jI (fun n hy hz=>?_) cM hz;(refine e1a1 (dR r2 hy) ?_;rintro u rfl);refine jI (fun a hx hz=>ifs (fun hle hz=>?_) hz) (fun hz=>mO (fun a hx hz=>ifs (fun hle hz=>?_) hz) (fun hz=>oG (fun xs hx hz=>ifs (fun hle hz=>?_) hz) cM hz) hz) hz
  ·(refine e1a1 (dR r1 hx) ?_;rintro t rfl)
   have:a.natAbs<=1000000:=hle.1;show wpAny _ _ (binaryOp .Mult _ _) _ _ _
   with_reducible refine mul_int ?_ ?_
   .exact h _ _ .toks (aA hz ▸ .mkInt) aBk
   .exact IntMulOk.of_left (intBits_le_64 (by grind) (by grind))
  ·(refine e1a1 (kF r1 hx) ?_;rintro t rfl)
   have h3:a.cps.toList.length * n.toNat<=1000000:=hle.2.2;have h0:=hle.1;rw[Array.length_toList]at h3;have hm:=aQ2 h0 hle.2.1 h3;show wpAny _ _ (binaryOp .Mult _ _) _ _ _
   with_reducible refine SB.mul hm (fun t' tk=>?_)
   rw[aL8 a n h0];exact h _ _ .toks (aA hz ▸ .mkStr) aJQ
  ·(refine e2a3 ((hx ▸ r1).one h1) ?_;rintro l vs rfl hl hx)
   have e1:=hx.length;rw[Array.length_toList]at e1;have h3:xs.length * n.toNat<=1000000:=hle.2.2;have h0:=hle.1;have h1000:n<=1000000:=hle.2.1;show wpAny _ _ (binaryOp .Mult _ _) _ _ _
   with_reducible refine vH hl.isList (by lia) (by lia) (by rw[e1];lia) ?_
   have q:=oH live (hx.rep n.toNat)
   have e:List.foldl (fun x1 x2=>x1++x2) #[] (List.replicate (if vs.isEmpty=true then 0 else n.toNat) vs)=(rep vs.toList n.toNat).toArray:=by
    by_cases he:vs.isEmpty=true
    .have:vs=#[]:=by simpa using he
     subst this;simp[aB6]
    .rw[if_neg he]
     exact Array.ext' (by simpa using aBy vs n.toNat #[])
   rw[<-e]at q;exact h _ _ .push (aA hz ▸ q) (aDU (.refl _))
 | fdiv =>
  refine pO (fun a b hx hy hz=>ifs (fun hle hz=>?_) hz) hz;(refine e1a1 (dR r1 hx) ?_;rintro t rfl);(refine e1a1 (dR r2 hy) ?_;rintro u rfl);have:b<=1000000:=hle.2;have h0:=hle.1;show wpAny _ _ (binaryOp .FloorDiv _ _) _ _ _
  with_reducible refine floordiv_int (by lia) ?_ (.inl (PyProof.noPylong_small (by omega)))
  rw[aNb h0];exact h _ _ .toks (aA hz ▸ .mkInt) aBk
 | mod =>
  refine pO (fun a b hx hy hz=>ifs (fun hle hz=>?_) hz) hz;(refine e1a1 (dR r1 hx) ?_;rintro t rfl);(refine e1a1 (dR r2 hy) ?_;rintro u rfl);have h0:=hle.1;show wpAny _ _ (binaryOp .Mod _ _) _ _ _
  with_reducible refine mod_int' (by lia) ?_
  rw[aM8 h0];exact h _ _ .toks (aA hz ▸ .mkInt) aBk
 | pow =>
  refine pO (fun a n hx hy hz=>ifs (fun hle hz=>?_) hz) hz;(refine e1a1 (dR r1 hx) ?_;rintro t rfl);(refine e1a1 (dR r2 hy) ?_;rintro u rfl);(refine wH hle ?_;try clear hle;rintro h0 h10 ha);show wpAny _ _ (binaryOp .Pow _ _) _ _ _
  with_reducible refine pow_int h0 ?_ ?_
  rotate_left
  .exact h _ _ .toks (aA hz ▸ .mkInt) aBk
  have hb:Builtin.Int.intBits a<=64:=intBits_le_64 (by grind) (by grind)
  have:(Builtin.Int.intBits a:Int) * n<=64 * 10:=Int.mul_le_mul (Int.ofNat_le.mpr hb) h10 h0 (by decide)
  lia
end
section
variable {prog:Program} {w:World} {A:Around} {Er:Value->Shared->Prop} {s:Shared} {Own:Addr->Prop}
theorem aAY {k:Nat}{v:Value}{d:PyData}{b:Bool}{Q:Bool->Shared->Prop}(hb:tr d=some b)(r:eS Own k s.heap v d)(h:∀ s',cS s s'->Q b s'):wpAny (model prog w) A (truthy v) Q Er s:=by
 have r:=r.any
 cases d with
 | none=>obtain rfl:=r.none;(replace hb:=(aA hb).symm;subst hb);exact truthy_none (h _ (.refl _))
 | bool c=>obtain rfl:=r.bool;(replace hb:=(aA hb).symm;subst hb);exact wpAny_truthy_bool (h _ (.refl _))
 | int i=>(refine e1a1 r.int ?_;rintro t rfl);(replace hb:=(aA hb).symm;subst hb);with_reducible refine truthy_int ?_;exact h _ (.refl _)
 | str x =>
  (refine e1a1 r.str ?_;rintro t rfl);simp only[xI,tW,qX]at hb;revert hb;refine ifs fun hle hb=>?_;have hle:x.cps.toList.length<=1000000:=hle;rw[Array.length_toList]at hle;(replace hb:=(aA hb).symm;subst hb)
  have e:((x.length:Int) != 0)=!(sl x).isEmpty:=by
   have:x.length=(sl x).length:=by simp[sl,Str.length]
   rw[this];cases sl x <;> simp;lia
  with_reducible refine P.truthy_str ?_ ?_
  .show ¬ ((x.cps.size:Int) ≥ _);lia
  .rw[e];exact h _ .toks
 | list xs =>
  (refine e2a3 (eS.zero r) ?_;rintro a vs rfl hl hx);simp only[xI,tW,qX]at hb;revert hb;refine ifs fun hle hb=>?_;have hle:xs.length<=1000000:=hle;have e1:=hx.length;rw[Array.length_toList]at e1;(replace hb:=(aA hb).symm;subst hb)
  with_reducible refine wpAny_truthy_list hl.isList ?_ ?_
  .lia
  .have e:vs.isEmpty=xs.isEmpty:=by
    rw[Bool.eq_iff_iff,Array.isEmpty_iff_size_eq_zero,List.isEmpty_iff_length_eq_zero,e1]
   rw[e];exact h _ .toks
 | tuple xs =>
  (refine e2a3 (bL.untuple r) ?_;rintro a vs rfl hl hx);simp only[xI,tW,qX]at hb;revert hb;refine ifs fun hle hb=>?_;have hle:xs.length<=1000000:=hle;have e1:=hx.length;rw[Array.length_toList]at e1;(replace hb:=(aA hb).symm;subst hb);refine truthy_tuple hl ?_ ?_
  .lia
  .have e:vs.isEmpty=xs.isEmpty:=by
    rw[Bool.eq_iff_iff,Array.isEmpty_iff_size_eq_zero,List.isEmpty_iff_length_eq_zero,e1]
   rw[e];exact h _ .toks
 | dict=>exact cM hb
theorem mN {d:PyData}(h:qS d=true):SeqAt.shaped d=true:=h
theorem aJh {x y:Str}:(x == y)=decide (sl x=sl y):=by
 rw[<-toList_beq,Bool.eq_iff_iff];simp[sl]
theorem aDq {xs:List PyData}(h:qS (.list xs)=true):PyData.canLayAll0 xs=true/\PyData.depthAll xs<=63:=by
 unfold qS at h;rw[Bool.and_eq_true,decide_eq_true_eq]at h;have h2:PyData.depthAll xs+1<=64:=by have:=h.2;simpa [PyData.depth] using this
 exact⟨by simpa [PyData.canLay0] using h.1,by lia⟩
theorem aBi {xs:List PyData}(h:qS (.tuple xs)=true):PyData.canLayAll0 xs=true/\PyData.depthAll xs<=63:=by
 unfold qS at h;rw[Bool.and_eq_true,decide_eq_true_eq]at h;have h2:PyData.depthAll xs+1<=64:=by have:=h.2;simpa [PyData.depth] using this
 exact⟨by simpa [PyData.canLay0] using h.1,by lia⟩
theorem wQ {d:PyData}(h:qS d=true):d.canLay0=true:=by
 unfold qS at h;rw[Bool.and_eq_true]at h;exact h.1
theorem aGM {x y:Str}{c:Nat}(hc:sl x=[c]):(!(Builtin.Str.occurrences y x 0 y.length 1).isEmpty)=(sl y).contains c:=by
 have e:x=⟨#[c]⟩:=by
  cases x with | mk a=>have:a.toList=[c]:=hc;congr 1;exact Array.ext' (by simpa using this)
 rw[e,StrLaws.found_one,Bool.eq_iff_iff];simp[sl]
theorem aAs {x y:PyData}{z:Bool}{P:Prop}(g:qS x=true->qS y=true->PyData.eqv x y=z->P)(h:aNx x y=some z):P:=ifs (fun c e=>g c.1 c.2 (aA e)) h
theorem aG3 {x y:PyData}{z:Bool}{P:Prop}(g1:∀ a b,x=.int a->y=.int b->decide (a=b)=z->P)(g2:∀ a b,x=.str a->y=.str b->decide (sl a=sl b)=z->P)
  (g3:qS x=true->qS y=true->PyData.eqv x y=z->P) (h:cEq x y=some z):P :=
 jI (fun a hx h=>jI (fun b hy h=>g1 a b hx hy (aA h)) (aAs g3) h) (mO (fun a hx h=>mO (fun b hy h=>g2 a b hx hy (aA h)) (aAs g3) h) (aAs g3)) h
set_option tactic.hygienic true in
theorem aG2 {x y:PyData}{z:Bool}{P:Prop}(g1:∀ a b c,x=.str a->y=.str b->sl a=[c]->(sl b).contains c=z->P)
  (g2:∀ xs,y=.list xs->qS (.list xs)=true->qS x=true->(xs.any fun y=>PyData.eqv y x)=z->P) (g3:∀ xs,y=.tuple xs->qS (.tuple xs)=true->qS x=true->(xs.any fun y=>PyData.eqv y x)=z->P) (h:cIn x y=some z):P:=by
 refine mO (fun b hy h=>mO (fun a hx h=>?_) cM h) (oG (fun xs hy h=>ifs (fun c e=>g2 xs hy c.1 c.2 (aA e)) h) (aFf (fun xs hy h=>ifs (fun c e=>g3 xs hy c.1 c.2 (aA e)) h) cM)) h
 split at h
 .rename_i c hc
  exact g1 a b c hx hy hc (aA h)
 .exact cM h
theorem aLE (hu:A.units+64 < cLine){k1 k2:Nat}{op:Cop}{x y:PyData}{z:Bool}{v1 v2:Value}{Q:Value->Shared->Prop}(hz:kP op x y=some z)
  (r1:eS Own k1 s.heap v1 x) (r2:eS Own k2 s.heap v2 y) (h:Q (.bool z) s):wpAny (model prog w) A (compareOp (aP9 op) v1 v2) Q Er s:=by
 cases op with
 | eq =>
  refine aG3 (fun a b hx hy hz=>?_) (fun a b hx hy hz=>?_) (fun hx hy hz=>?_) hz
  ·(refine e1a1 (dR r1 hx) ?_;rintro t rfl)
   (refine e1a1 (dR r2 hy) ?_;rintro u rfl);show wpAny _ _ (compareOp .Eq _ _) _ _ _
   with_reducible refine eq_int ?_
   show Q (.bool (decide (a=b))) s;exact hz ▸ h
  ·(refine e1a1 (kF r1 hx) ?_;rintro t rfl)
   (refine e1a1 (kF r2 hy) ?_;rintro u rfl);show wpAny _ _ (compareOp .Eq _ _) _ _ _
   with_reducible refine eq_str ?_
   rw[aJh];exact hz ▸ h
  ·(refine e1a2 r1.any ?_;rintro as ra u_)
   (refine e1a2 r2.any ?_;rintro bs rb u_);show wpAny _ _ (compareOp .Eq _ _) _ _ _;exact SeqAt.compareEq_shaped ra rb (mN hx) (mN hy) hu (hz ▸ h)
 | ne =>
  revert hz;refine cE fun z0 hz e=>?_;replace h:=(aA e).symm ▸ h;refine aG3 (fun a b hx hy hz=>?_) (fun a b hx hy hz=>?_) (fun hx hy hz=>?_) hz
  ·(refine e1a1 (dR r1 hx) ?_;rintro t rfl)
   (refine e1a1 (dR r2 hy) ?_;rintro u rfl);show wpAny _ _ (compareOp .NotEq _ _) _ _ _
   with_reducible refine ne_int ?_
   show Q (.bool (!decide (a=b))) s;exact hz ▸ h
  ·(refine e1a1 (kF r1 hx) ?_;rintro t rfl)
   (refine e1a1 (kF r2 hy) ?_;rintro u rfl);show wpAny _ _ (compareOp .NotEq _ _) _ _ _
   with_reducible refine ne_str ?_
   rw[bne,aJh];exact hz ▸ h
  ·(refine e1a2 r1.any ?_;rintro as ra u_)
   (refine e1a2 r2.any ?_;rintro bs rb u_);show wpAny _ _ (compareOp .NotEq _ _) _ _ _;exact SeqAt.compareNe_shaped ra rb (mN hx) (mN hy) hu (hz ▸ h)
 | lt =>
  refine pO (fun a b hx hy hz=>?_) hz;(refine e1a1 (dR r1 hx) ?_;rintro t rfl);(refine e1a1 (dR r2 hy) ?_;rintro u rfl);show wpAny _ _ (compareOp .Lt _ _) _ _ _
  with_reducible refine lt_int ?_
  exact aA hz ▸ h
 | le =>
  refine pO (fun a b hx hy hz=>?_) hz;(refine e1a1 (dR r1 hx) ?_;rintro t rfl);(refine e1a1 (dR r2 hy) ?_;rintro u rfl);show wpAny _ _ (compareOp .LtE _ _) _ _ _
  with_reducible refine le_int ?_
  exact aA hz ▸ h
 | gt =>
  refine pO (fun a b hx hy hz=>?_) hz;(refine e1a1 (dR r1 hx) ?_;rintro t rfl);(refine e1a1 (dR r2 hy) ?_;rintro u rfl);show wpAny _ _ (compareOp .Gt _ _) _ _ _
  with_reducible refine gt_int ?_
  exact aA hz ▸ h
 | ge =>
  refine pO (fun a b hx hy hz=>?_) hz;(refine e1a1 (dR r1 hx) ?_;rintro t rfl);(refine e1a1 (dR r2 hy) ?_;rintro u rfl);show wpAny _ _ (compareOp .GtE _ _) _ _ _
  with_reducible refine ge_int ?_
  exact aA hz ▸ h
 | isin =>
  refine aG2 (fun a b c hx hy hc hz=>?_) (fun xs hx hy hc hz=>?_) (fun xs hx hy hc hz=>?_) hz
  ·(refine e1a1 (kF r1 hx) ?_;rintro t rfl)
   (refine e1a1 (kF r2 hy) ?_;rintro u rfl);show wpAny _ _ (compareOp .In _ _) _ _ _
   with_reducible refine PyProof.Rows.in_str ?_
   rw[aGM hc];exact hz ▸ h
  ·(refine e1a2 r1.any ?_;rintro as ra u_)
   (refine e1a2 ((hx ▸ r2).any) ?_;rintro bs rb u_);have q:=aDq hy;show wpAny _ _ (compareOp .In _ _) _ _ _;exact SeqAt.in_list_reads rb ra q.1 (wQ hc) (by lia) (hz ▸ h)
  ·(refine e1a2 r1.any ?_;rintro as ra u_)
   (refine e1a2 ((hx ▸ r2).any) ?_;rintro bs rb u_);have q:=aBi hy;show wpAny _ _ (compareOp .In _ _) _ _ _;exact SeqAt.in_tuple_reads rb ra q.1 (wQ hc) (by lia) (hz ▸ h)
 | notin =>
  revert hz;refine cE fun z0 hz e=>?_;replace h:=(aA e).symm ▸ h;refine aG2 (fun a b c hx hy hc hz=>?_) (fun xs hx hy hc hz=>?_) (fun xs hx hy hc hz=>?_) hz
  ·(refine e1a1 (kF r1 hx) ?_;rintro t rfl)
   (refine e1a1 (kF r2 hy) ?_;rintro u rfl);show wpAny _ _ (compareOp .NotIn _ _) _ _ _
   with_reducible refine PyProof.Rows.notIn_str ?_
   rw[aGM hc];exact hz ▸ h
  ·(refine e1a2 r1.any ?_;rintro as ra u_)
   (refine e1a2 ((hx ▸ r2).any) ?_;rintro bs rb u_);have q:=aDq hy;show wpAny _ _ (compareOp .NotIn _ _) _ _ _;exact SeqAt.notIn_list_reads rb ra q.1 (wQ hc) (by lia) (hz ▸ h)
  ·(refine e1a2 r1.any ?_;rintro as ra u_)
   (refine e1a2 ((hx ▸ r2).any) ?_;rintro bs rb u_);have q:=aBi hy;show wpAny _ _ (compareOp .NotIn _ _) _ _ _;exact SeqAt.notIn_tuple_reads rb ra q.1 (wQ hc) (by lia) (hz ▸ h)
theorem jK {m:Bool}{v1 v2:Value}{z:Bool}{Q:Value->Shared->Prop}(hp:plainIs v1 v2=true)(hz:(v1 == v2)=z)(h:Q (.bool (z != m)) s):wpAny (model prog w) A (compareOp (isO m) v1 v2) Q Er s:=by
 induction m with
 | false =>
  show wpAny _ _ (compareOp .Is _ _) _ _ _
  with_reducible refine wpAny_is_plain hp ?_
  rw[hz];simpa using h
 | true =>
  show wpAny _ _ (compareOp .IsNot _ _) _ _ _
  with_reducible refine wpAny_isNot_plain hp ?_
  rw[hz];simpa using h
set_option tactic.hygienic true in
theorem aKw {m:Bool}{k1 k2:Nat}{x y:PyData}{z:Bool}{v1 v2:Value}{Q:Value->Shared->Prop}(hz:sR x y=some z)
  (r1:eS Own k1 s.heap v1 x) (r2:eS Own k2 s.heap v2 y) (h:Q (.bool (z != m)) s):wpAny (model prog w) A (compareOp (isO m) v1 v2) Q Er s:=by
 have r1:=r1.any;have r2:=r2.any;unfold sR at hz;revert hz;refine aFg (fun hy hz=>?_) (aOT (fun c0 hy hz=>?_) cM)
 .subst hy
  obtain rfl:=r2.none
  cases x with
  | none=>obtain rfl:=r1.none;exact jK rfl rfl (by(replace hz:=(aA hz).symm;subst hz);exact h)
  | bool b=>obtain rfl:=r1.bool;exact jK rfl rfl (by(replace hz:=(aA hz).symm;subst hz);exact h)
  | int i=>(refine e1a1 r1.int ?_;rintro t rfl);exact jK rfl rfl (by(replace hz:=(aA hz).symm;subst hz);exact h)
  | str i=>(refine e1a1 r1.str ?_;rintro t rfl);exact jK rfl rfl (by(replace hz:=(aA hz).symm;subst hz);exact h)
  | list xs=>(refine e2a2 (eS.zero r1) ?_;rintro a vs rfl _);exact jK rfl rfl (by(replace hz:=(aA hz).symm;subst hz);exact h)
  | tuple xs=>(refine e2a2 (bL.untuple r1) ?_;rintro a vs rfl _);exact jK rfl rfl (by(replace hz:=(aA hz).symm;subst hz);exact h)
  | dict xs=>(refine e1a1 r1.dict ?_;rintro a rfl);exact jK rfl rfl (by(replace hz:=(aA hz).symm;subst hz);exact h)
 .subst hy
  obtain rfl:=r2.bool
  cases x with
  | none=>obtain rfl:=r1.none;exact jK rfl rfl (by(replace hz:=(aA hz).symm;subst hz);exact h)
  | bool b =>
   obtain rfl:=r1.bool;(replace hz:=(aA hz).symm;subst hz);refine jK rfl ?_ h;cases b <;> cases c0 <;> rfl
  | int i=>(refine e1a1 r1.int ?_;rintro t rfl);exact jK rfl rfl (by(replace hz:=(aA hz).symm;subst hz);exact h)
  | str i=>(refine e1a1 r1.str ?_;rintro t rfl);exact jK rfl rfl (by(replace hz:=(aA hz).symm;subst hz);exact h)
  | list xs=>(refine e2a2 (eS.zero r1) ?_;rintro a vs rfl _);exact jK rfl rfl (by(replace hz:=(aA hz).symm;subst hz);exact h)
  | tuple xs=>(refine e2a2 (bL.untuple r1) ?_;rintro a vs rfl _);exact jK rfl rfl (by(replace hz:=(aA hz).symm;subst hz);exact h)
  | dict xs=>(refine e1a1 r1.dict ?_;rintro a rfl);exact jK rfl rfl (by(replace hz:=(aA hz).symm;subst hz);exact h)
end
noncomputable def aBa (e:Expr):Bool:=!(Nat.beq e.ctorIdx 0 || Nat.beq e.ctorIdx 5 || Nat.beq e.ctorIdx 15 || mC e fun o _ _=>Nat.beq o.ctorIdx 1)
theorem rJ {e:Expr}{env:Env}{whole:Sem Value}(h:aBa e=true):isTrue e env whole=(do let v <-whole;standAt e.pos;holding [v] (truthy v)):=by
 cases e with
 | UnaryOp op x p=>cases op <;> first | rfl | (first | exact eR h | cases h)
 | _=>first | rfl | (first | exact eR h | cases h)
theorem bK {e:Expr}{r:List Expr}{env:Env}(h:bM e=true):starEach (e::r) env=(false,eval e env)::starEach r env:=by
 cases e <;> first | rfl | (first | exact eR h | cases h)
theorem iW {op:CmpOp}{e:Expr}(h:gE e=true):behindInMarks op e=false:=by
 cases e <;> first | rfl | (first | exact eR h | cases h)
theorem eA {o:Expr}{a:Str}{env:Env}(h:lS o=true):attributeBase o a env (eval o env)=eval o env:=by
 cases o with
 | Call f as ks p=>cases f <;> first | rfl | (first | exact eR h | cases h)
 | _=>rfl
theorem sF {e:Expr}{env:Env}(h:gE e=true)(x:Value):foldedSetIterable e env x=pure x:=by
 cases e <;> first | rfl | (first | exact eR h | cases h)
section
variable {c:cG}
theorem cP {x:X}(hv:bG c x)(hp:∀ n sc e,aS c.fnm c.rk n sc x e=true->aBa e=true):fW c x:=by
 intro n A env Own M E s e d b Q Er X hc ho he hb h;refine wpAny_isTrue_value ?_ (rJ (hp _ _ _ hc));exact hv n A env Own M E s e d _ Er X hc ho he fun v s' st r u_=>aAY hb r fun s'' st'=>h s'' (st.trans st')
theorem Cx.units {n A Own env M E s}(X:Cx c n A Own env M E s):A.units+64 < cLine:=by have:=X.room.units;lia
theorem uR (i:Int):bG c (.int i):=by
 intro n A env Own M E s e d Q Er X hc _ he h;dsimp only[aAf]at hc;(refine e2a1 (aGG hc) ?_;rintro k p rfl);(replace he:=(aA he).symm;subst he);exact wpAny_Constant_int (h _ _ .toks .mkInt (fun q=>nomatch q))
theorem uO (l:List Nat):bG c (.str l):=by
 intro n A env Own M E s e d Q Er X hc _ he h;dsimp only[zX]at hc;(refine e2a1 (aGz hc) ?_;rintro k p rfl);(replace he:=(aA he).symm;subst he);exact wpAny_mkText (h _ _ .toks .mkStr (fun q=>nomatch q))
theorem sZ (b:Bool):bG c (.bool b):=by
 intro n A env Own M E s e d Q Er X hc _ he h;dsimp only[vW]at hc;(refine e2a1 (aDL hc) ?_;rintro k p rfl);(replace he:=(aA he).symm;subst he);exact wpAny_pure (h _ _ (.refl _) .mkBool (fun q=>nomatch q))
theorem wX:bG c .none:=by
 intro n A env Own M E s e d Q Er X hc _ he h;dsimp only[vS]at hc;(refine e2a1 (aDJ hc) ?_;rintro k p rfl);(replace he:=(aA he).symm;subst he);exact wpAny_pure (h _ _ (.refl _) .mkNone (fun q=>nomatch q))
set_option tactic.hygienic true in
theorem aFC {E:AE}{i:Nat}{d:PyData}(h:aI E i=some d):E i=some (.dat d):=by
 unfold aI at h
 split at h
 .rename_i d' e;rw[e];simp only[Option.some.injEq]at h;rw[h]
 .exact cM h
theorem cQ (i:Nat):bG c (.var i):=by
 intro n A env Own M E s e d Q Er X hc _ he h;dsimp only[nO]at hc;(refine e1a3 (fG hc) ?_;rintro p rfl ha hp);(refine e1a2 X.view.ns ?_;rintro m hm hv);(refine e1a2 (hv i _ (aFC he) ha) ?_;rintro v hl hr)
 cases hr with
 | dat hr=>exact aBH X.eok hm hl hp (h _ _ (.refl _) hr (fun q=>nomatch q))
theorem aIa {sc:Scope}{x:Str}(ha:cO sc x=true):sc.names.lookup x=some .globalImplicit:=by
 unfold cO at ha;revert ha;generalize sc.names.lookup x=r;intro h
 cases r with
 | none=>exact eR h
 | some k=>cases k <;> first | exact eR h | rfl
theorem lC {A:Around}{s:Shared}{env:Env}{x:Str}{p:Pos}{v:Value} {Q Er}(K:fB env)(B:dK c s.heap)(ha:cO env.scope x=true)(hd:(x == ("__debug__":Str))=false)
  (hv:c.mg x=some v\/(c.mg x=none/\c.mb x=some v)) (h:Q v s):wpAny (model c.prog c.w) A (eval (.Name x p) env) Q Er s:=by
 refine wpAny_Name ?_ hd;rw[loadName_read K.kind (aIa ha)];unfold loadGlobal;rw[K.glob,K.bui];refine wpAny_bind (wpAny_nsGet B.g ?_)
 rcases hv with hv | ⟨h1,hv⟩
 .rw[hv];exact wpAny_pure h
 .rw[h1]
  refine wpAny_bind (wpAny_nsGet B.b ?_);rw[hv];exact wpAny_pure h
theorem aLm (C:bE c)(i:Nat):bG c (.glo i):=by
 intro n A env Own M E s e d Q Er X hc _ he h;dsimp only[aAh]at hc;(refine e1a3 (aGI hc) ?_;rintro p rfl ha hp);revert he;refine cE fun v hv e0z=>?_;(replace e0z:=(aA e0z).symm;subst e0z);(refine e1a1 (C.glo i v hv) ?_;rintro t ht);unfold bW at hp;exact aAK hp fun hp_0 hp_1=>lC X.eok X.base ha (by simpa using hp_0) (.inl ht) (h _ _ (.refl _) .mkInt (fun q=>nomatch q))
theorem aLk (i:Int):bG c (.neg i):=by
 intro n A env Own M E s e d Q Er X hc _ he h;dsimp only[aAa]at hc;(refine e3a1 (aGC hc) ?_;rintro k p q rfl);(replace he:=(aA he).symm;subst he);refine wpAny_UnaryOp (wpAny_Constant_int ?_)
 with_reducible refine PyProof.Rows.neg_int ?_
 exact h _ _ (.trans .toks .toks) .mkInt (fun q=>nomatch q)
theorem aLn (C:bE c){op:Bop}{a b:X}(ha:bG c a)(hb:bG c b):bG c (.bin op a b):=by
 intro n A env Own M E s e d Q Er X hc ho he h;dsimp only[aAi]at hc;(refine e3a3 (aGL hc) ?_;rintro l r p rfl h1 h2);replace ho:=aQd (aHG.symm.trans ho);revert he;refine cE fun x hx=>cE fun y hy hz=>?_;refine wpAny_BinOp (ha n A env Own M E s l x _ Er X h1 ho.1.1.1 hx fun v s' st r1 u_=>hb n A env Own M E s' r y _ Er (X.stp C st) h2 ho.1.1.2 hy fun v2 s2 st2 r2 u_=>?_);refine aQh (X.stp C (st.trans st2)).live ho.1.2 ho.2 hz (r1.keep st2.keep) r2 fun v3 s3 st3 r3 fr=>?_;refine h v3 s3 ((st.trans st2).trans st3) r3 fun u_ a e=>?_;have q:=fr a e
 cases hh:s.heap.get? a with
 | none=>rfl
 | some o=>rw[(st.trans st2).keep _ _ hh]at q;exact nsn q
theorem aOn (C:bE c){op:Bop}{a b:X}(hv:bG c (.bin op a b)):fW c (.bin op a b) :=
 cP hv fun n sc e hc=>by
  dsimp only[aAi]at hc;(refine e3a3 (aGL hc) ?_;rintro l r p rfl h1 h2);rfl
theorem aPT (C:bE c){a:X}(ha:bG c a):bG c (.not a):=by
 intro n A env Own M E s e d Q Er X hc ho he h;dsimp only[zZ]at hc;(refine e2a2 (aGB hc) ?_;rintro x p rfl h1);dsimp only[aBb]at ho;revert he;refine cE fun y hy=>cE fun b hb e0z=>?_;(replace e0z:=(aA e0z).symm;subst e0z);refine wpAny_UnaryOp (ha n A env Own M E s x y _ Er X h1 ho hy fun v s' st r1 u_=>?_)
 with_reducible refine not_of ?_
 exact aAY hb r1 fun s2 st2=>h _ _ (st.trans st2) .mkBool (fun q=>nomatch q)
theorem aOj {a:X}(ha:fW c a):fW c (.not a):=by
 intro n A env Own M E s e d b Q Er X hc ho he hb h;dsimp only[zZ]at hc;(refine e2a2 (aGB hc) ?_;rintro x p rfl h1);dsimp only[aBb]at ho;revert he;refine cE fun y hy=>cE fun b' hb' e0z=>?_;(replace e0z:=(aA e0z).symm;subst e0z);(replace hb:=(aA hb).symm;subst hb);exact wpAny_isTrue_Not (ha n A env Own M E s x y b' _ Er X h1 ho hy hb' fun s' st=>h s' st)
theorem aNm (C:bE c){op:Cop}{a b:X}(ha:bG c a)(hb:bG c b):bG c (.cmp1 op a b):=by
 intro n A env Own M E s e d Q Er X hc ho he h;dsimp only[vU]at hc;(refine e3a4 (lU hc) ?_;rintro l r p rfl h0 h1 h2);replace ho:=aAO (yG.symm.trans ho);revert he;refine cE fun x hx=>cE fun y hy=>cE fun z hz e0z=>?_;(replace e0z:=(aA e0z).symm;subst e0z);refine wpAny_Compare1 (ha n A env Own M E s l x _ Er X h1 ho.1 hx fun v s' st r1 u_=>hb n A env Own M E s' r y _ Er (X.stp C st) h2 ho.2 hy fun v2 s2 st2 r2 u_=>?_) (iW h0);exact aLE X.units hz (r1.keep st2.keep) r2 (h _ _ (st.trans st2) .mkBool (fun q=>nomatch q))
theorem wM (C:bE c){op:Cop}{a b:X}(ha:bG c a)(hb:bG c b):fW c (.cmp1 op a b):=by
 intro n A env Own M E s e d bb Q Er X hc ho he hbb h;dsimp only[vU]at hc;(refine e3a4 (lU hc) ?_;rintro l r p rfl h0 h1 h2);replace ho:=aAO (yG.symm.trans ho);revert he;refine cE fun x hx=>cE fun y hy=>cE fun z hz e0z=>?_;(replace e0z:=(aA e0z).symm;subst e0z);(replace hbb:=(aA hbb).symm;subst hbb);refine wpAny_isTrue_Compare1 (ha n A env Own M E s l x _ Er X h1 ho.1 hx fun v s' st r1 u_=>hb n A env Own M E s' r y _ Er (X.stp C st) h2 ho.2 hy fun v2 s2 st2 r2 u_=>?_) (iW h0);exact aLE X.units hz (r1.keep st2.keep) r2 (wpAny_truthy_bool (h _ (st.trans st2)))
theorem aPW (C:bE c){m:Bool}{a b:X}(ha:bG c a)(hb:bG c b):bG c (.isC m a b):=by
 intro n A env Own M E s e d Q Er X hc ho he h;simp only[aAe,Bool.and_eq_true]at hc;(refine e3a4 (lU hc.2) ?_;rintro l r p rfl h0 h1 h2);replace ho:=aAO (aBf.symm.trans ho);revert he;refine cE fun x hx=>cE fun y hy=>cE fun z hz e0z=>?_;(replace e0z:=(aA e0z).symm;subst e0z);refine wpAny_Compare1 (ha n A env Own M E s l x _ Er X h1 ho.1 hx fun v s' st r1 u_=>hb n A env Own M E s' r y _ Er (X.stp C st) h2 ho.2 hy fun v2 s2 st2 r2 u_=>?_) (iW h0);exact aKw hz (r1.keep st2.keep) r2 (h _ _ (st.trans st2) .mkBool (fun q=>nomatch q))
theorem aEM (C:bE c){m:Bool}{a b:X}(ha:bG c a)(hb:bG c b):fW c (.isC m a b):=by
 intro n A env Own M E s e d bb Q Er X hc ho he hbb h;simp only[aAe,Bool.and_eq_true]at hc;(refine e3a4 (lU hc.2) ?_;rintro l r p rfl h0 h1 h2);replace ho:=aAO (aBf.symm.trans ho);revert he;refine cE fun x hx=>cE fun y hy=>cE fun z hz e0z=>?_;(replace e0z:=(aA e0z).symm;subst e0z);(replace hbb:=(aA hbb).symm;subst hbb);refine wpAny_isTrue_Compare1 (ha n A env Own M E s l x _ Er X h1 ho.1 hx fun v s' st r1 u_=>hb n A env Own M E s' r y _ Er (X.stp C st) h2 ho.2 hy fun v2 s2 st2 r2 u_=>?_) (iW h0);exact aKw hz (r1.keep st2.keep) r2 (wpAny_truthy_bool (h _ (st.trans st2)))
end
section
variable {c:cG}
theorem Fr1.back {s s':Shared}{v:Value}(k:bY s.heap s'.heap)(f:Fr1 s' v):Fr1 s v:=fun a e=>by
 have q:=f a e
 cases hh:s.heap.get? a with
 | none=>rfl
 | some o=>rw[k _ _ hh]at q;exact nsn q
theorem aHj {t:Nat}(h:t<=2):∃ x∈(["range","list","enumerate","type","int","str"]:List String),tU t=Str.ofString x/\(x="int"/\t=0\/x="str"/\t=1\/x="list"/\t=2):=by
 cases t with
 | zero=>exact⟨"int",by decide,rfl,.inl ⟨rfl,rfl⟩⟩
 | succ t=>cases t with
  | zero=>exact⟨"str",by decide,rfl,.inr (.inl ⟨rfl,rfl⟩)⟩
  | succ t=>cases t with
   | zero=>exact⟨"list",by decide,rfl,.inr (.inr ⟨rfl,rfl⟩)⟩
   | succ t=>exact absurd h (Nat.not_le_of_gt (Nat.le_add_left 3 t))
theorem aF6 {h:Heap}{Own:Addr->Prop}{k:Nat}{v:Value}{d:PyData}{t:Nat}{s:Shared}(ht:aL7 d=some t)(r:eS Own k s.heap v d) :
  ∃ x,s.TypeIs v x/\(Value.type x == Value.type "builtin_function_or_method")=false/\(x="int"/\t=0\/x="str"/\t=1\/x="list"/\t=2):=by
 have r:=r.any
 cases d with
 | int i=>(refine e1a1 r.int ?_;rintro u rfl);(replace ht:=(aA ht).symm;subst ht);exact⟨"int",typeIs_int _ _ _,by decide,.inl ⟨rfl,rfl⟩⟩
 | str i=>(refine e1a1 r.str ?_;rintro u rfl);(replace ht:=(aA ht).symm;subst ht);exact⟨"str",typeIs_str _ _ _,by decide,.inr (.inl ⟨rfl,rfl⟩)⟩
 | list xs=>(refine e2a3 (eS.zero r) ?_;rintro a vs rfl hl _);(replace ht:=(aA ht).symm;subst ht);exact⟨"list",hl.isList.typeIs,by decide,.inr (.inr ⟨rfl,rfl⟩)⟩
 | _=>exact cM ht
theorem iB (C:bE c){x:String}(hx:x∈(["range","list","enumerate","type","int","str"]:List String)){A:Around}{s:Shared}{env:Env}{p:Pos} {Q Er}(K:fB env)(B:dK c s.heap)(ha:cO env.scope (Str.ofString x)=true)
  (h:Q (.type x) s):wpAny (model c.prog c.w) A (eval (.Name (Str.ofString x) p) env) Q Er s:=by
 refine lC K B ha ?_ (.inr (C.ty x hx)) h;revert x;intro x hx _ _;simp only[List.mem_cons,List.not_mem_nil,or_false]at hx
 rcases hx with rfl | rfl | rfl | rfl | rfl | rfl <;> decide
theorem pV (C:bE c){x:String}(hx:x∈(["len","sum","min","max","sorted"]:List String)){A:Around}{s:Shared}{env:Env}{p:Pos} {Q Er}(K:fB env)(B:dK c s.heap)(ha:cO env.scope (Str.ofString x)=true)
  (h:Q (.builtin x) s):wpAny (model c.prog c.w) A (eval (.Name (Str.ofString x) p) env) Q Er s:=by
 refine lC K B ha ?_ (.inr (C.bi x hx)) h;revert x;intro x hx _ _;simp only[List.mem_cons,List.not_mem_nil,or_false]at hx
 rcases hx with rfl | rfl | rfl | rfl | rfl <;> decide
theorem iM {e:Expr}{pos:Pos}{env:Env}(h:bM e=true):backTo pos (starEach [e] env)=[(false,eval e env)]:=by
 rw[bK h];rfl
theorem aEN {e f:Expr}{pos:Pos}{env:Env}(h:bM e=true)(h':bM f=true):backTo pos (starEach [e,f] env)=[(false,eval e env),(false,eval f env)]:=by
 rw[bK h,bK h'];rfl
theorem aI9 {e f g:Expr}{pos:Pos}{env:Env}(h:bM e=true)(h':bM f=true)(h'':bM g=true):backTo pos (starEach [e,f,g] env)=[(false,eval e env),(false,eval f env),(false,eval g env)]:=by
 rw[bK h,bK h',bK h''];rfl
set_option tactic.hygienic true in
theorem aDH (C:bE c){a:X}{t:Nat}(ha:bG c a) {n A env Own M E s x}{y:PyData}{k:Nat}{p1 p2 p3:Pos}{Er:Value->Shared->Prop}
  (X:Cx c n A Own env M E s) (h0:cO env.scope "type"=true) (h1:bM x=true) (h2:aS c.fnm c.rk n env.scope a x=true) (h4:cO env.scope (tU t)=true) (h5:t<=2) (ho:cJ M a=true)
  (hy:ev c.G c.T a E=some y) (hk:aL7 y=some k) {Q2:Value->Value->Shared->Prop}
  (h:∀ s',cS s s'->∀ T1 T2,(T1 == T2)=Nat.beq k t->PySem.plainIs T1 T2=true->Q2 T1 T2 s') :
  wpAny (model c.prog c.w) A (eval (.Call (.Name "type" p1) [x] [] p2) env) (fun v s₁=>wpAny (model c.prog c.w) A (eval (.Name (tU t) p3) env) (fun v2 s₂=>Q2 v v2 s₂) Er s₁) Er s:=by
 refine wpAny_Call_NameR (iB C (x:="type") (by decide) X.eok X.base h0 ?_)
 rw[iM h1];refine PySem.callWith_type1 (ha n A env Own M E s x y _ Er X h2 ho hy fun v s' st r _=>?_);(refine e1a3 (aF6 (h:=s'.heap) hk r) ?_;rintro T hT hnb hcase);refine call_type_of hT hnb ?_;(refine e1a3 (aHj h5) ?_;rintro z hz he hcase2);rw[he]at h4 ⊢;refine iB C hz X.eok (X.base.keep st.keep) h4 (h _ st _ _ ?_ rfl)
 rcases hcase with ⟨rfl,rfl⟩ | ⟨rfl,rfl⟩ | ⟨rfl,rfl⟩ <;> rcases hcase2 with ⟨rfl,h9⟩ | ⟨rfl,h9⟩ | ⟨rfl,h9⟩ <;> subst h9 <;> decide
theorem aPV (C:bE c){m:Bool}{a:X}{t:Nat}(ha:bG c a):bG c (.isT m a t):=by
 intro n A env Own M E s e d Q Er X hc ho he h;dsimp only[aAd]at hc;(refine e5a6 (aGF hc) ?_;rintro x p1 p2 p3 p4 rfl h0 h1 h2 h4 h5);dsimp only[aBe]at ho;revert he;refine cE fun y hy=>cE fun k hk e0z=>?_;(replace e0z:=(aA e0z).symm;subst e0z);refine wpAny_Compare1 (aDH C ha X h0 h1 h2 h4 h5 ho hy hk fun s' st T1 T2 e1 e2=>?_) rfl;exact jK e2 e1 (h _ _ st .mkBool (fun q=>nomatch q))
theorem aEL (C:bE c){m:Bool}{a:X}{t:Nat}(ha:bG c a):fW c (.isT m a t):=by
 intro n A env Own M E s e d bb Q Er X hc ho he hbb h;dsimp only[aAd]at hc;(refine e5a6 (aGF hc) ?_;rintro x p1 p2 p3 p4 rfl h0 h1 h2 h4 h5);dsimp only[aBe]at ho;revert he;refine cE fun y hy=>cE fun k hk e0z=>?_;(replace e0z:=(aA e0z).symm;subst e0z);(replace hbb:=(aA hbb).symm;subst hbb);refine wpAny_isTrue_Compare1 (aDH C ha X h0 h1 h2 h4 h5 ho hy hk fun s' st T1 T2 e1 e2=>?_) rfl;exact jK e2 e1 (wpAny_truthy_bool (h _ st))
end
section
variable {c:cG}
theorem pX:aAy c .nil:=by
 intro n A env Own M E s es ds pos Q Er X hc ho he h;dsimp only[fM]at hc;obtain rfl:=kZ hc;(replace he:=(aA he).symm;subst he);exact Calls.spliced_nil (h [] s (.refl _) .nil rfl)
theorem kL (C:bE c){x:X}{xs:Xs}(hx:bG c x)(hxs:aAy c xs):aAy c (.cons x xs):=by
 intro n A env Own M E s es ds pos Q Er X hc ho he h;dsimp only[dT]at hc;(refine e2a4 (hZ hc) ?_;rintro z r rfl h0 h1 h2);replace ho:=aEv (gT.symm.trans ho);revert he;refine cE fun d hd=>cE fun ds' hds e0z=>?_;(replace e0z:=(aA e0z).symm;subst e0z);rw[bK h0];show wpAny _ _ (spliced ((false,eval z env)::backTo pos (starEach r env))) _ _ _;refine Calls.spliced_cons (hx n A env Own M E s z d _ Er X h1 ho.1.1 hd fun v s' st r1 u_=>?_);refine hxs n A env Own M E s' r ds' pos _ Er (X.stp C st) h2 ho.2 hds fun vs s2 st2 r2 e2=>?_;rw[ho.1.2]at r1;exact h _ _ (st.trans st2) (.cons (bL.keep st2.keep r1) r2) (by simp[e2])
theorem gD {n:Nat}(h:n<=1000000):n<=sizeLine:=by rw[sizeLine_eq];lia
theorem rO {G T}:∀ {xs:Xs} {E:AE} {ds:List PyData},evs G T xs E=some ds->ds.length=aBr xs
 | .nil,E,ds,h=>by(replace h:=(aA h).symm;subst h);rfl
 | .cons x xs,E,ds,h=>by
  revert h;refine cE fun d hd=>cE fun ds' hds e0z=>?_;(replace e0z:=(aA e0z).symm;subst e0z);exact congrArg Nat.succ (rO hds)
theorem aFx (C:bE c){xs:Xs}(hxs:aAy c xs):bG c (.lst xs):=by
 intro n A env Own M E s e d Q Er X hc ho he h;simp only[aAb,Bool.and_eq_true,decide_eq_true_eq]at hc;obtain ⟨hn,hc⟩:=hc;(refine e2a2 (aGD hc) ?_;rintro es p rfl h1);dsimp only[aHE]at ho;revert he;refine cE fun ds hds e0z=>?_;(replace e0z:=(aA e0z).symm;subst e0z);refine wpAny_List_spliced (hxs n A env Own M E s es ds p _ Er X h1 ho hds fun vs s' st r e=>?_);have el:=r.length;rw[rO hds]at el;refine⟨gD (by lia),h _ _ (st.trans .push) (oH (X.stp C st).live r) fun u_=>aDU st.keep⟩
theorem aCw (C:bE c){xs:Xs}(hxs:aAy c xs):bG c (.tup xs):=by
 intro n A env Own M E s e d Q Er X hc ho he h;simp only[zW,Bool.and_eq_true,decide_eq_true_eq]at hc;obtain ⟨hn,hc⟩:=hc;(refine e3a2 (aGy hc) ?_;rintro es k p rfl h1);dsimp only[aHC]at ho;revert he;refine cE fun ds hds e0z=>?_;(replace e0z:=(aA e0z).symm;subst e0z);refine wpAny_Tuple_spliced (hxs n A env Own M E s es ds p _ Er X h1 ho hds fun vs s' st r e=>?_);have el:=r.length;rw[rO hds]at el;refine⟨gD (by lia),h _ _ (st.trans .push) (aHP r) fun q=>nomatch q⟩
theorem aOk {xs:Xs}(hv:bG c (.lst xs)):fW c (.lst xs) :=
 cP hv fun n sc e hc=>by
  simp only[aAb,Bool.and_eq_true]at hc;(refine e2a2 (aGD hc.2) ?_;rintro es p rfl h1);rfl
theorem aOh {xs:Xs}(hv:bG c (.tup xs)):fW c (.tup xs) :=
 cP hv fun n sc e hc=>by
  simp only[zW,Bool.and_eq_true]at hc;(refine e3a2 (aGy hc.2) ?_;rintro es k p rfl h1);rfl
noncomputable def aAS (c:cG)(op:BoolOp)(f:Xs->AE->Option PyData)(xs:Xs):Prop :=
 ∀ (n:Nat) (A:Around) (env:Env) (Own:Addr->Prop) (M:Nat->Nat) (E:AE) (s:Shared) (es:List Expr) (d:PyData) (pos:Pos) (Q:Value->Shared->Prop) (Er:Value->Shared->Prop),
  Cx c n A Own env M E s->chkXs c.fnm c.rk n env.scope xs es=true->okXs M xs=true->f xs E=some d ->
  (∀ v s',cS s s'->bL Own s'.heap v d->Q v s')->wpAny (model c.prog c.w) A (boolOp pos op (evalEach es env)) Q Er s
noncomputable def aAR (c:cG)(op:BoolOp)(f:Xs->AE->Option PyData)(xs:Xs):Prop :=
 ∀ (n:Nat) (A:Around) (env:Env) (Own:Addr->Prop) (M:Nat->Nat) (E:AE) (s:Shared) (es:List Expr) (d:PyData) (b:Bool) (Q:Bool->Shared->Prop) (Er:Value->Shared->Prop),
  Cx c n A Own env M E s->chkXs c.fnm c.rk n env.scope xs es=true->okXs M xs=true->f xs E=some d->tr d=some b ->
  (∀ s',cS s s'->Q b s')->wpAny (model c.prog c.w) A (allTrue op es env) Q Er s
theorem vY {M:Model}{A:Around}{pos:Pos}{op:BoolOp}{x y:Sem Value}{r:List (Sem Value)} {Q Er}{s:Shared}
  (h:wpAny M A x (fun v s₁=>wpAny M A (truthy v) (fun t s₂=>match op,t with | .And,false | .Or,true=>Q v s₂ | _,_=>wpAny M A (boolOp pos op (y::r)) Q Er s₂) Er s₁) Er s) :
  wpAny M A (boolOp pos op (x::y::r)) Q Er s:=by
 show wpAny M A (do
  let v <-x
  standAt pos
  let t <-holding [v] (truthy v)
  match op,t with
  | .And,false | .Or,true=>pure v
  | _,_=>boolOp pos op (y::r)) Q Er s
 refine wpAny_bind (wpAny_mono h (fun v s₁ h₁=>wpAny_bind (wpAny_standAt (wpAny_bind (wpAny_holding (wpAny_mono h₁ (fun t s₂ h₂=>?_) fun u_ u_ e=>e))))) fun u_ u_ e=>e);cases op <;> cases t <;> first | exact wpAny_pure h₂ | exact h₂
theorem aEx (C:bE c){x:X}{xs:Xs}(hx:bG c x)(hxs:aAS c .And (evAnd c.G c.T) xs):aAS c .And (evAnd c.G c.T) (.cons x xs):=by
 intro n A env Own M E s es d pos Q Er X hc ho he h;dsimp only[dT]at hc;(refine e2a4 (hZ hc) ?_;rintro z r rfl h0 h1 h2);replace ho:=aEv (gT.symm.trans ho)
 cases xs with
 | nil =>
  dsimp only[fM]at h2;obtain rfl:=kZ h2;refine hx n A env Own M E s z d _ Er X h1 ho.1.1 he fun v s' st r1 u_=>?_;rw[ho.1.2]at r1;exact h v s' st r1
 | cons y ys =>
  have h2':=h2;dsimp only[dT]at h2;(refine e2a2 (hZ h2) ?_;rintro z2 r2 rfl -);revert he;refine cE fun d1 hd1=>cE fun b hb he=>?_;refine vY (hx n A env Own M E s z d1 _ Er X h1 ho.1.1 hd1 fun v s' st r1 u_=>aAY hb r1 fun s2 st2=>?_);rw[ho.1.2]at r1
  induction b with
  | false =>
   (replace he:=(aA he).symm;subst he);exact h v s2 (st.trans st2) (bL.keep st2.keep r1)
  | true=>exact hxs n A env Own M E s2 _ d pos _ Er (X.stp C (st.trans st2)) h2' ho.2 he fun v3 s3 st3 r3=>h v3 s3 ((st.trans st2).trans st3) r3
theorem aFU (C:bE c){x:X}{xs:Xs}(hx:bG c x)(hxs:aAS c .Or (evOr c.G c.T) xs):aAS c .Or (evOr c.G c.T) (.cons x xs):=by
 intro n A env Own M E s es d pos Q Er X hc ho he h;dsimp only[dT]at hc;(refine e2a4 (hZ hc) ?_;rintro z r rfl h0 h1 h2);replace ho:=aEv (gT.symm.trans ho)
 cases xs with
 | nil =>
  dsimp only[fM]at h2;obtain rfl:=kZ h2;refine hx n A env Own M E s z d _ Er X h1 ho.1.1 he fun v s' st r1 u_=>?_;rw[ho.1.2]at r1;exact h v s' st r1
 | cons y ys =>
  have h2':=h2;dsimp only[dT]at h2;(refine e2a2 (hZ h2) ?_;rintro z2 r2 rfl -);revert he;refine cE fun d1 hd1=>cE fun b hb he=>?_;refine vY (hx n A env Own M E s z d1 _ Er X h1 ho.1.1 hd1 fun v s' st r1 u_=>aAY hb r1 fun s2 st2=>?_);rw[ho.1.2]at r1
  induction b with
  | true =>
   (replace he:=(aA he).symm;subst he);exact h v s2 (st.trans st2) (bL.keep st2.keep r1)
  | false=>exact hxs n A env Own M E s2 _ d pos _ Er (X.stp C (st.trans st2)) h2' ho.2 he fun v3 s3 st3 r3=>h v3 s3 ((st.trans st2).trans st3) r3
theorem aFV:aAS c .And (evAnd c.G c.T) .nil:=by
 intro n A env Own M E s es d pos Q Er X hc ho he h;exact cM he
theorem aIK:aAS c .Or (evOr c.G c.T) .nil:=by
 intro n A env Own M E s es d pos Q Er X hc ho he h;exact cM he
theorem aFT:aAR c .And (evAnd c.G c.T) .nil:=by
 intro n A env Own M E s es d b Q Er X hc ho he hb h;exact cM he
theorem aIJ:aAR c .Or (evOr c.G c.T) .nil:=by
 intro n A env Own M E s es d b Q Er X hc ho he hb h;exact cM he
theorem aEw (C:bE c){x:X}{xs:Xs}(hx:fW c x)(hxs:aAR c .And (evAnd c.G c.T) xs):aAR c .And (evAnd c.G c.T) (.cons x xs):=by
 intro n A env Own M E s es d bb Q Er X hc ho he hbb h;dsimp only[dT]at hc;(refine e2a4 (hZ hc) ?_;rintro z r rfl h0 h1 h2);replace ho:=aEv (gT.symm.trans ho)
 cases xs with
 | nil =>
  dsimp only[fM]at h2;obtain rfl:=kZ h2;refine wpAny_allTrue_And_cons (hx n A env Own M E s z d bb _ Er X h1 ho.1.1 he hbb fun s' st=>?_);cases bb
  .exact h s' st
  .exact wpAny_allTrue_And_nil (h s' st)
 | cons y ys =>
  revert he;refine cE fun d1 hd1=>cE fun b hb he=>?_;refine wpAny_allTrue_And_cons (hx n A env Own M E s z d1 b _ Er X h1 ho.1.1 hd1 hb fun s' st=>?_)
  induction b with
  | false =>
   (replace he:=(aA he).symm;subst he);rw[hb]at hbb;(replace hbb:=(aA hbb).symm;subst hbb);exact h s' st
  | true=>exact hxs n A env Own M E s' _ d bb _ Er (X.stp C st) h2 ho.2 he hbb fun s3 st3=>h s3 (st.trans st3)
theorem hK {M:Model}{A:Around}{env:Env}{x:Expr}{rest:List Expr}{Q:Bool->Shared->Prop} {Er}{s:Shared}
  (h:wpAny M A (PySem.isTrue x env (eval x env)) (fun b s₁=>if b then Q true s₁ else wpAny M A (allTrue .Or rest env) Q Er s₁) Er s):wpAny M A (allTrue .Or (x::rest) env) Q Er s:=by
 show wpAny M A (do match BoolOp.Or,<-PySem.isTrue x env (eval x env)with | .And,false=>pure false | .Or,true=>pure true | _,_=>allTrue .Or rest env) Q Er s
 refine wpAny_bind (wpAny_mono h (fun b s₁ h₁=>?_) fun u_ u_ x=>x);cases b
 .exact h₁
 .exact wpAny_pure h₁
theorem aFS (C:bE c){x:X}{xs:Xs}(hx:fW c x)(hxs:aAR c .Or (evOr c.G c.T) xs):aAR c .Or (evOr c.G c.T) (.cons x xs):=by
 intro n A env Own M E s es d bb Q Er X hc ho he hbb h;dsimp only[dT]at hc;(refine e2a4 (hZ hc) ?_;rintro z r rfl h0 h1 h2);replace ho:=aEv (gT.symm.trans ho)
 cases xs with
 | nil =>
  dsimp only[fM]at h2;obtain rfl:=kZ h2;refine hK (hx n A env Own M E s z d bb _ Er X h1 ho.1.1 he hbb fun s' st=>?_);cases bb
  .exact wpAny_allTrue_Or_nil (h s' st)
  .exact h s' st
 | cons y ys =>
  revert he;refine cE fun d1 hd1=>cE fun b hb he=>?_;refine hK (hx n A env Own M E s z d1 b _ Er X h1 ho.1.1 hd1 hb fun s' st=>?_)
  induction b with
  | true =>
   (replace he:=(aA he).symm;subst he);rw[hb]at hbb;(replace hbb:=(aA hbb).symm;subst hbb);exact h s' st
  | false=>exact hxs n A env Own M E s' _ d bb _ Er (X.stp C st) h2 ho.2 he hbb fun s3 st3=>h s3 (st.trans st3)
theorem aPZ {xs:Xs}(hx:aAS c .And (evAnd c.G c.T) xs):bG c (.and xs):=by
 intro n A env Own M E s e d Q Er X hc ho he h;dsimp only[aAj]at hc;(refine e2a2 (wU hc) ?_;rintro es p rfl h1);dsimp only[aBg]at ho;exact hx n A env Own M E s es d p _ Er X h1 ho he fun v s' st r=>h v s' st r (fun q=>nomatch q)
theorem aRv {xs:Xs}(hx:aAS c .Or (evOr c.G c.T) xs):bG c (.or xs):=by
 intro n A env Own M E s e d Q Er X hc ho he h;dsimp only[aBN]at hc;(refine e2a2 (wU hc) ?_;rintro es p rfl h1);dsimp only[aDo]at ho;exact hx n A env Own M E s es d p _ Er X h1 ho he fun v s' st r=>h v s' st r (fun q=>nomatch q)
theorem aOo {xs:Xs}(hx:aAR c .And (evAnd c.G c.T) xs):fW c (.and xs):=by
 intro n A env Own M E s e d b Q Er X hc ho he hb h;dsimp only[aAj]at hc;(refine e2a2 (wU hc) ?_;rintro es p rfl h1);dsimp only[aBg]at ho;exact wpAny_isTrue_BoolOp (hx n A env Own M E s es d b _ Er X h1 ho he hb h)
theorem aQN {xs:Xs}(hx:aAR c .Or (evOr c.G c.T) xs):fW c (.or xs):=by
 intro n A env Own M E s e d b Q Er X hc ho he hb h;dsimp only[aBN]at hc;(refine e2a2 (wU hc) ?_;rintro es p rfl h1);dsimp only[aDo]at ho;exact wpAny_isTrue_BoolOp (hx n A env Own M E s es d b _ Er X h1 ho he hb h)
theorem aPU (C:bE c){t a b:X}(ht:fW c t)(ha:bG c a)(hb:bG c b):bG c (.ite t a b):=by
 intro n A env Own M E s e d Q Er X hc ho he h;dsimp only[aAc]at hc;(refine e4a4 (aGE hc) ?_;rintro x y z p rfl h1 h2 h3);replace ho:=aG0 (aBd.symm.trans ho);revert he;refine cE fun d1 hd1=>cE fun q hq he=>?_;refine wpAny_IfExp (ht n A env Own M E s x d1 q _ Er X h1 ho.1.1.1.1 hd1 hq fun s' st=>?_)
 induction q with
 | true =>
  refine ha n A env Own M E s' y d _ Er (X.stp C st) h2 ho.1.1.1.2 he fun v s2 st2 r u_=>?_;rw[ho.1.2]at r;exact h v s2 (st.trans st2) r (fun q=>nomatch q)
 | false =>
  refine hb n A env Own M E s' z d _ Er (X.stp C st) h3 ho.1.1.2 he fun v s2 st2 r u_=>?_;rw[ho.2]at r;exact h v s2 (st.trans st2) r (fun q=>nomatch q)
theorem aOl (C:bE c){t a b:X}(ht:fW c t)(ha:fW c a)(hb:fW c b):fW c (.ite t a b):=by
 intro n A env Own M E s e d bb Q Er X hc ho he hbb h;dsimp only[aAc]at hc;(refine e4a4 (aGE hc) ?_;rintro x y z p rfl h1 h2 h3);replace ho:=aG0 (aBd.symm.trans ho);revert he;refine cE fun d1 hd1=>cE fun q hq he=>?_;show wpAny _ _ (do if <-PySem.isTrue x env (eval x env)then PySem.isTrue y env (eval y env)else PySem.isTrue z env (eval z env)) _ _ _
 refine wpAny_bind (ht n A env Own M E s x d1 q _ _ X h1 ho.1.1.1.1 hd1 hq fun s' st=>?_)
 induction q with
 | true=>exact ha n A env Own M E s' y d bb _ Er (X.stp C st) h2 ho.1.1.1.2 he hbb fun s2 st2=>h s2 (st.trans st2)
 | false=>exact hb n A env Own M E s' z d bb _ Er (X.stp C st) h3 ho.1.1.2 he hbb fun s2 st2=>h s2 (st.trans st2)
end
theorem aDj (i:Int)(n:Nat):kW i n=seqIndex? i n:=by
 unfold kW seqIndex?
 by_cases h:0<=i
 .have h':¬ i < 0:=by lia
  simp only[h,h',if_true,if_false]
  by_cases h2:i < (n:Int)
  .simp[h2]
  .simp[h2]
 .have h':i < 0:=by lia
  simp only[h,h',if_true,if_false]
  by_cases h2:0<=i+(n:Int)
  .have h3:i+(n:Int) < n:=by lia
   simp[h2,h3]
  .simp[h2]
theorem rD {i:Int}{n k:Nat}(h:kW i n=some k):(0<=i/\i < n/\k=i.toNat)\/(i < 0/\-(n:Int)<=i/\k=(i+n).toNat):=by
 unfold kW at h
 split at h
 .revert h
  refine ifs fun z0c h=>?_;(replace h:=(aA h).symm;subst h);exact .inl ⟨by assumption,by assumption,rfl⟩
 .revert h
  refine ifs fun z0c h=>?_;(replace h:=(aA h).symm;subst h);exact .inr ⟨by lia,by lia,rfl⟩
theorem gB {j:Expr}(h:kG j=true)(o i:Value):subscripted j false o i=operate [o,i] (getItem o i):=by
 cases j <;> first | rfl | (first | exact eR h | cases h)
section
variable {prog:Program} {w:World} {A:Around} {Er:Value->Shared->Prop} {s:Shared} {Own:Addr->Prop}
set_option tactic.hygienic true in
theorem aPB {k1 k2:Nat}{x y z:PyData}{v1 v2:Value}{value slice:Expr}{Q:Value->Shared->Prop}(hn:kG slice=true)(hz:jD x y=some z)
  (r1:eS Own k1 s.heap v1 x) (r2:eS Own k2 s.heap v2 y) (h:∀ v s',cS s s'->eS Own (k1 - 1) s'.heap v z->Q v s'):wpAny (model prog w) A (subscriptTail value slice v1 v2) Q Er s:=by
 unfold jD at hz;revert hz;refine jI (fun i hy=>?_) cM;subst hy;refine oG (fun xs hx0 hz=>?_) (aFf (fun xs hx0 hz=>?_) (mO (fun u hx0 hz=>?_) cM))
 .subst hx0
  (refine e2a3 r1.items ?_;rintro a vs rfl hl hx);(refine e1a1 r2.any.int ?_;rintro t rfl);revert hz;refine ifs fun hle hz=>?_;have hle:xs.length<=1000000:=hle;revert hz;refine cE fun k hk hz=>?_;(refine e1a2 (hx.get hz) ?_;rintro v hv r);have hv:vs[k]?=some v:=by simpa using hv
  have e1:=hx.length;rw[Array.length_toList]at e1;refine tail_any hl.isList.typeIs slot_list_getitem.lookup ?_ (gB hn _ _)
  rcases rD hk with ⟨h0,h1,rfl⟩ | ⟨h0,h1,rfl⟩
  .exact wpAny_getItem_list hl.isList h0 (by lia) hv (h _ _ (.refl _) r)
  .exact wpAny_getItem_list_neg hl.isList h0 (by lia) (by lia) (by rw[e1];exact hv) (h _ _ (.refl _) r)
 .subst hx0
  have r1':=r1.nolist (fun _ h=>by cases h)
  (refine e2a3 (bL.untuple r1') ?_;rintro a vs rfl hl hx);(refine e1a1 r2.any.int ?_;rintro t rfl);revert hz;refine ifs fun hle hz=>?_;have hle:xs.length<=1000000:=hle;revert hz;refine cE fun k hk hz=>?_;(refine e1a2 (hx.get hz) ?_;rintro v hv r);have hv:vs[k]?=some v:=by simpa using hv
  have e1:=hx.length;rw[Array.length_toList]at e1;have e2:=rD hk;have hT:IsTup s.heap a vs:=hl;refine tail_any hT.typeIs slot_tuple_getitem.lookup ?_ (gB hn _ _);refine getItem_tuple hT (by grind) (by grind) (by rw[<-aDj,e1];exact hk) hv (h _ _ (.refl _) ?_)
  cases k1 with
  | zero=>exact r
  | succ k1=>(refine e3a3 r1 ?_;try clear r1;rintro _ _ _ _ e _);cases e
 .subst hx0
  have r1':=r1.nolist (fun _ h=>by cases h)
  (refine e1a1 r1'.str ?_;rintro t rfl);(refine e1a1 r2.any.int ?_;rintro tu rfl);revert hz;refine ifs fun hle hz=>?_;have hle:u.cps.toList.length<=1000000:=hle;simp only[Option.bind_eq_some_iff,Option.map_eq_some_iff]at hz;(refine e1a2 hz ?_;try clear hz;rintro k hk hz_;obtain ⟨ch,hch,rfl⟩:=hz_);have e2:=rD hk;have e3:(sl u).length=u.length:=by simp[sl,Str.length]
  have e4:u.length<=1000000:=by rw[<-e3];exact hle
  refine tail_any (typeIs_str _ _ _) F.slot_str_getitem.lookup ?_ (gB hn _ _);refine P.getItem_str (c:=ch) (Bool.or_eq_false_iff.mpr ⟨decide_eq_false (by grind),decide_eq_false (by grind)⟩) ?_ (h _ _ .toks ?_)
  .rw[<-aDj,<-e3,hk]
   simpa [sl] using hch
  .cases k1 with
   | zero=>exact bL.mkStr
   | succ k1=>(refine e3a3 r1 ?_;try clear r1;rintro _ _ _ _ e _);cases e
end
section
variable {c:cG}
theorem aCx (C:bE c){a i:X}(ha:bG c a)(hi:bG c i):bG c (.idx a i):=by
 intro n A env Own M E s e d Q Er X hc ho he h;dsimp only[aAg]at hc;(refine e3a4 (aGH hc) ?_;rintro o j p rfl h0 h1 h2);replace ho:=aAO (aHF.symm.trans ho);revert he;refine cE fun x hx=>cE fun y hy hz=>?_;refine PyProof.Rows.Subscript_ (ha n A env Own M E s o x _ Er X h1 ho.1 hx fun v s' st r1 u_=>hi n A env Own M E s' j y _ Er (X.stp C st) h2 ho.2 hy fun v2 s2 st2 r2 u_=>?_);exact aPB h0 hz (r1.keep st2.keep) r2 fun v3 s3 st3 r3=>h v3 s3 ((st.trans st2).trans st3) r3 (fun q=>nomatch q)
theorem aOm {a i:X}(hv:bG c (.idx a i)):fW c (.idx a i) :=
 cP hv fun n sc e hc=>by
  dsimp only[aAg]at hc;(refine e3a2 (aGH hc) ?_;rintro o j p rfl -);rfl
end
theorem aJ1 (k n:Nat):min (k:Int) (n:Int)=((min k n:Nat):Int):=(Nat.le_total k n).elim (fun h=>(Int.min_eq_left (Int.ofNat_le.mpr h)).trans (congrArg Int.ofNat (Nat.min_eq_left h).symm)) fun h=>(Int.min_eq_right (Int.ofNat_le.mpr h)).trans (congrArg Int.ofNat (Nat.min_eq_right h).symm)
theorem aNu (i:Int)(n:Nat):max 0 (min (if i < 0 then i+n else i) (n:Int))=(aCH i n:Int):=by
 unfold aCH
 by_cases h:0<=i
 .rw[if_neg (Int.not_lt.mpr h),if_pos h]
  (refine e1a1 (Int.eq_ofNat_of_zero_le h) ?_;rintro k rfl);show max 0 (min (k:Int) (n:Int))=((min k n:Nat):Int);rw[aJ1];exact Int.max_eq_right (Int.natCast_nonneg _)
 .rw[if_pos (Int.not_le.mp h),if_neg h,Int.min_eq_left (Int.add_le_of_le_sub_right (Int.le_trans (Int.le_of_lt (Int.not_le.mp h)) (Int.le_of_eq (Int.sub_self _).symm))),Int.ofNat_toNat,Int.max_comm]
theorem aLF (i:Int)(n:Nat):aCH i n<=n:=by unfold aCH;split <;> first | lia | grind
noncomputable def aJD:PyData->Option (Option Int)
 | .none=>some none
 | .int i=>some (some i)
 | _=>none
set_option tactic.hygienic true in
theorem pN {d:PyData}{df n a:Nat}(h:bnd d df n=some a):∃ o,aJD d=some o/\(match o with | none=>(df:Int) | some i=>max 0 (min (if i < 0 then i+n else i) (n:Int)))=(a:Int):=by
 cases d with
 | none=>(replace h:=(aA h).symm;subst h);exact⟨none,rfl,rfl⟩
 | int i=>(replace h:=(aA h).symm;subst h);exact⟨some _,rfl,aNu _ _⟩
 | _=>exact cM h
theorem aLK {d:PyData}{df n a:Nat}(hd:df<=n)(h:bnd d df n=some a):a<=n:=by
 cases d with
 | none=>(replace h:=(aA h).symm;subst h);exact hd
 | int i=>(replace h:=(aA h).symm;subst h);exact aLF _ _
 | _=>exact cM h
theorem aLz {J:Type}(a b:Nat)(l:List J):cut a b l=(l.drop a).take (b - a):=by
 unfold cut;rw[List.drop_take]
theorem aQZ {lo hi:Option Int}{items:Array Value}{a b:Nat}(h1:(match lo with | none=>((0:Nat):Int) | some i=>max 0 (min (if i < 0 then i+items.size else i) (items.size:Int)))=(a:Int))
  (h2:(match hi with | none=>(items.size:Int) | some i=>max 0 (min (if i < 0 then i+items.size else i) (items.size:Int)))=(b:Int)):slicePick items lo hi none=(cut a b items.toList).toArray:=by
 have e:sliceBounds lo hi none items.size=((a:Int),(b:Int),1):=by
  simp only[sliceBounds,Option.getD_none,show(1:Int) > 0 by decide,if_true]
  rw[<-h1,<-h2];cases lo <;> cases hi <;> rfl
 unfold slicePick;rw[e];simp only[sliceRange_one,pick_run];rw[aLz]
theorem zK {J:Type}(st:Nat)(h:0 < st):∀ (k:Nat) (l:List J),fH st k l=fH st 0 (l.drop k)
 | 0,l=>by simp
 | k+1,[]=>by simp[aGS]
 | k+1,x::r=>by
  show fH st k r=_;rw[zK st h k r];simp
theorem aDk {J:Type}(xs:Array J)(st:Nat)(h:0 < st):∀ (k a:Nat),xs.size<=a+k * st->((List.range k).map fun j=>a+st * j).filterMap (xs[·]?)=fH st 0 (xs.toList.drop a)
 | 0=>fun a hk=>by
  rw[Nat.zero_mul,Nat.add_zero]at hk;rw[List.drop_eq_nil_of_le hk];rfl
 | k+1=>fun a hk=>by
  have q:(List.range k).map ((fun j=>a+st * j) ∘ Nat.succ)=(List.range k).map fun j=>(a+st)+st * j:=List.map_congr_left fun j u_=>by
   show a+st * (j+1)=_;rw[Nat.mul_succ,Nat.add_assoc,Nat.add_comm st]
  have hk2:xs.size<=a+st+k * st:=by rw[Nat.succ_mul,Nat.add_comm (k * st),<-Nat.add_assoc]at hk;exact hk
  rw[List.range_succ_eq_map,aY,List.map_map,q,List.filterMap_cons,Nat.mul_zero,Nat.add_zero,aDk xs st h k (a+st) hk2]
  by_cases ha:a < xs.size
  .have hd:xs.toList.drop a=xs[a]::xs.toList.drop (a+1):=List.drop_eq_getElem_cons ha
   rw[Array.getElem?_eq_getElem ha,hd];show xs[a]::_=xs[a]::fH st (st - 1) (xs.toList.drop (a+1));rw[zK st h (st - 1),List.drop_drop,show a+1+(st - 1)=a+st by lia]
  .have hle:=Nat.not_lt.mp ha
   rw[Array.getElem?_eq_none hle];show fH st 0 (xs.toList.drop (a+st))=fH st 0 (xs.toList.drop a);rw[List.drop_eq_nil_of_le hle,List.drop_eq_nil_of_le (show xs.toList.length<=a+st from aP hle (Nat.le_add_right _ _))]
theorem aHz {lo:Option Int}{items:Array Value}{a:Nat}{st:Int}(h0:0 < st)(h1:(match lo with | none=>((0:Nat):Int) | some i=>max 0 (min (if i < 0 then i+items.size else i) (items.size:Int)))=(a:Int)) (ha:a<=items.size) :
  slicePick items lo none (some st)=(fH st.toNat 0 (items.toList.drop a)).toArray:=by
 have e:sliceBounds lo none (some st) items.size=((a:Int),(items.size:Int),st):=by
  simp only[sliceBounds,Option.getD_some,show st > 0 from h0,if_true];rw[<-h1];cases lo <;> rfl
 unfold slicePick;rw[e]
 congr 1
 unfold sliceRange;simp only[show st > 0 from h0,if_true];(refine e1a1 (Int.eq_ofNat_of_zero_le (Int.le_of_lt h0)) ?_;rintro n rfl);have hn:0 < n:=by lia
 have e2:(List.range (if (a:Int) < (items.size:Int)then((items.size:Int) - a+n - 1) / n else 0).toNat).map (fun(k:Nat)=>((a:Int)+(n:Int) * (k:Int)).toNat) =
   (List.range (if a < items.size then(items.size - a+n - 1) / n else 0)).map fun j=>a+n * j:=by
  have e3:(if (a:Int) < (items.size:Int)then((items.size:Int) - a+n - 1) / n else 0).toNat=(if a < items.size then(items.size - a+n - 1) / n else 0):=by
   by_cases hlt:a < items.size
   .have hlt':(a:Int) < (items.size:Int):=by lia
    simp only[hlt,hlt',if_true];have:((items.size:Int) - a+n - 1)=((items.size - a+n - 1:Nat):Int):=by lia
    rw[this,<-Int.natCast_ediv,Int.toNat_natCast]
   .have hlt':¬ (a:Int) < (items.size:Int):=by lia
    simp[hlt,hlt']
  rw[e3]
  apply List.map_congr_left
  intro j _;have:((a:Int)+(n:Int) * (j:Int))=((a+n * j:Nat):Int):=by simp
  rw[this,Int.toNat_natCast]
 show List.filterMap _ _=_;rw[e2,Int.toNat_natCast];refine aDk items n hn _ a ?_
 by_cases hlt:a < items.size
 .rw[if_pos hlt]
  have:=Nat.lt_div_mul_add (a:=items.size - a+n - 1) hn;generalize (items.size - a+n - 1) / n * n=y at this ⊢;lia
 .rw[if_neg hlt,Nat.zero_mul];exact Nat.not_lt.mp hlt
section
variable {c:cG}
theorem aCa {x:X}(hx:bG c x) {n A env Own M E s}{e:Option Expr}{d:PyData}{Q:Value->Shared->Prop} {Er}(X:Cx c n A Own env M E s)(hc:aDF (aS c.fnm c.rk n env.scope x) (mZ x) e=true)(ho:cJ M x=true)
  (he:ev c.G c.T x E=some d) (h:∀ v s',cS s s'->eS Own (hJ M x) s'.heap v d->Q v s'):wpAny (model c.prog c.w) A (evalPart e env) Q Er s:=by
 unfold aDF at hc
 induction e with
 | some y=>exact hx n A env Own M E s y d _ Er X hc ho he fun v s' st r u_=>h v s' st r
 | none =>
  cases x <;> first | ((first | (replace he:=(aA he).symm;subst he) | cases he);exact wpAny_pure (h _ _ (.refl _) bL.mkNone)) | (first | exact eR hc | cases hc)
theorem oE {Own:Addr->Prop}{k:Nat}{h:Heap}{v:Value}{d:PyData}{o:Option Int}(hp:aJD d=some o)(r:eS Own k h v d):∃ q:Option (Int × Tok),v=partValue q/\q.map (·.1)=o:=by
 have r:=r.any
 cases d with
 | none=>(replace hp:=(aA hp).symm;subst hp);obtain rfl:=r.none;exact⟨none,rfl,rfl⟩
 | int i=>(replace hp:=(aA hp).symm;subst hp);(refine e1a1 r.int ?_;rintro t rfl);exact⟨some (i,t),rfl,rfl⟩
 | _=>exact cM hp
theorem uJ (q:Option (Int × Tok)):IsPart (partValue q) (q.map (·.1)):=by
 induction q with
 | none=>exact .none
 | some p=>exact .int _ _
theorem jG {l u t:Option Expr}{p:Pos}(o i:Value):∃ ops,subscripted (.Slice l u t p) false o i=operate ops (getItem o i):=by
 induction t with
 | none=>exact⟨_,rfl⟩
 | some t=>exact⟨_,rfl⟩
set_option tactic.hygienic true in
theorem aOB {prog:Program}{w:World}{A:Around}{Er:Value->Shared->Prop}{s:Shared}{Own:Addr->Prop}(live:∀ a,Own a->∃ o,s.heap.get? a=some o){k:Nat}(hk:k<=1){x l h t z:PyData}{v vl vh vt:Value}{kl kh kt:Nat}
  {value:Expr} {le he te:Option Expr} {p:Pos} {a:Addr} {Q:Value->Shared->Prop} (hz:kO x l h t=some z)
  (r:eS Own k s.heap v x) (rl:eS Own kl s.heap vl l) (rh:eS Own kh s.heap vh h) (rt:eS Own kt s.heap vt t) (hs:s.heap.IsSliceOf a vl vh vt)
  (hQ:∀ v s',cS s s'->bL Own s'.heap v z->Fr1 s v->Q v s'):wpAny (model prog w) A (subscriptTail value (.Slice le he te p) v (.ref a)) Q Er s:=by
 unfold kO at hz;revert hz;refine aFg (fun ht=>oG (fun xs hx0 hz=>?_) (mO (fun x0 hx0 hz=>?_) cM)) (jI (fun st ht=>aFg (fun hh=>oG (fun xs hx0 hz=>?_) cM) cM) cM)
 .subst hx0 ht
  revert hz;refine ifs fun hle hz=>?_;have hle:xs.length<=1000000:=hle;revert hz;refine cE fun b1 hb1=>cE fun b2 hb2 e0z=>?_;(replace e0z:=(aA e0z).symm;subst e0z);(refine e2a3 (r.one hk) ?_;rintro l' vs rfl hl hx);have e1:=hx.length;rw[Array.length_toList]at e1;(refine e1a2 (pN hb1) ?_;rintro o1 ho1 q1);(refine e1a2 (pN hb2) ?_;rintro o2 ho2 q2);(refine e1a2 (oE ho1 rl) ?_;rintro p1 rfl m1);(refine e1a2 (oE ho2 rh) ?_;rintro p2 rfl m2);obtain rfl:=rt.any.none;(refine e1a1 (jG (l:=le) (u:=he) (t:=te) (p:=p) (.ref l') (.ref a)) ?_;rintro ops hops);refine tail_any hl.isList.typeIs slot_list_getitem.lookup ?_ hops;have i1:=uJ p1;have i2:=uJ p2;rw[m1]at i1;rw[m2]at i2;refine wpAny_getItem_list_slice hl.isList hs i1 i2 .none (by simp) ?_ (gD (by lia))
  rw[aQZ (a:=b1) (b:=b2) (by rw[e1];exact q1) (by rw[e1];exact q2)]
  refine hQ _ _ .push (oH live ?_) (aDU (.refl _));unfold cut;exact(hx.take b2).drop b1
 .subst hx0 ht
  revert hz;refine ifs fun hle hz=>?_;have hle:x0.cps.toList.length<=1000000:=hle;revert hz;refine cE fun b1 hb1=>cE fun b2 hb2 e0z=>?_;(replace e0z:=(aA e0z).symm;subst e0z);(refine e1a1 ((r.nolist fun _ q=>by cases q).str) ?_;rintro t rfl)
  have e3:(sl x0).length=x0.length:=by simp[sl,Str.length]
  have e4:x0.length<=1000000:=by rw[<-e3];exact hle
  (refine e1a2 (pN hb1) ?_;rintro o1 ho1 q1);(refine e1a2 (pN hb2) ?_;rintro o2 ho2 q2);(refine e1a2 (oE ho1 rl) ?_;rintro p1 rfl m1);(refine e1a2 (oE ho2 rh) ?_;rintro p2 rfl m2);obtain rfl:=rt.any.none;(refine e1a1 (jG (l:=le) (u:=he) (t:=te) (p:=p) (.str x0 t) (.ref a)) ?_;rintro ops hops);refine tail_any (typeIs_str _ _ _) F.slot_str_getitem.lookup ?_ hops;refine wpAny_getItem_str_slice (l:=p1) (u:=p2) (st:=none) hs rfl ?_;have b2le:b2<=(sl x0).length:=aLK (Nat.le_refl _) hb2
  have epick:slicePicked x0 p1 p2 none=(List.range (b2 - b1)).map (b1+·):=by
   unfold slicePicked Builtin.Str.strSliceIndices;rw[m1,m2];simp only[Option.map_none,Option.getD_none,show(1:Int) > 0 by decide,if_true]
   rw[<-e3];refine Eq.trans ?_ (sliceRange_one b1 b2);rw[<-q1,<-q2];cases o1 <;> cases o2 <;> rfl
  have ecut:(⟨((slicePicked x0 p1 p2 none).filterMap (x0.cps[·]?)).toArray⟩:Str)=⟨⟨cut b1 b2 (sl x0)⟩⟩:=by
   rw[epick,pick_run,aLz]
  unfold sliceMade
  split
  .rename_i hc
   simp only[Option.map_none,Option.getD_none,Bool.and_eq_true,beq_iff_eq,true_and]at hc
   have hfull:(⟨⟨cut b1 b2 (sl x0)⟩⟩:Str)=x0:=by
    rw[epick,aK,List.length_range,<-e3]at hc;have hb:b1=0/\b2=(sl x0).length\/(sl x0).length=0:=by lia
    have:cut b1 b2 (sl x0)=sl x0:=by
     rcases hb with ⟨rfl,rfl⟩ | h0
     .unfold cut;rw[List.take_length,List.drop_zero]
     .have:sl x0=[]:=List.length_eq_zero_iff.mp h0
      rw[this];simp[cut]
    rw[this]
   have e5:S (cut b1 b2 (sl x0))=.str x0:=congrArg PyData.str hfull;rw[e5]at hQ;show Q (.str x0 t) s;exact hQ (.str x0 t) s (.refl _) bL.mkStr (fun a e=>nomatch e)
  .rw[ecut]
   refine⟨?_,hQ _ _ .toks bL.mkStr (fun a e=>nomatch e)⟩;show(cut b1 b2 (sl x0)).length<=sizeLine;refine gD (aP ?_ hle);unfold cut;rw[List.length_drop,List.length_take];exact aP (Nat.sub_le _ _) (Nat.min_le_right _ _)
 .subst hx0 hh ht
  revert hz;refine ifs fun hle hz=>?_;(refine wH hle ?_;try clear hle;rintro hle h0 h100);have hle:xs.length<=1000000:=hle;revert hz;refine cE fun b1 hb1 e0z=>?_;(replace e0z:=(aA e0z).symm;subst e0z);(refine e2a3 (r.one hk) ?_;rintro l' vs rfl hl hx);have e1:=hx.length;rw[Array.length_toList]at e1;(refine e1a2 (pN hb1) ?_;rintro o1 ho1 q1);(refine e1a2 (oE ho1 rl) ?_;rintro p1 rfl m1);obtain rfl:=rh.any.none;(refine e1a1 rt.any.int ?_;rintro u rfl);(refine e1a1 (jG (l:=le) (u:=he) (t:=te) (p:=p) (.ref l') (.ref a)) ?_;rintro ops hops);refine tail_any hl.isList.typeIs slot_list_getitem.lookup ?_ hops;have i1:=uJ p1;rw[m1]at i1;refine wpAny_getItem_list_slice hl.isList hs i1 .none (.int st u) (by intro q;(replace q:=(aA q).symm;subst q);lia) ?_ (gD (by lia))
  have hb1le:b1<=xs.length:=aLK (Nat.zero_le _) hb1;rw[aHz (a:=b1) h0 (by rw[e1];exact q1) (by lia)]
  refine hQ _ _ .push (oH live ?_) (aDU (.refl _))
  have step:∀ (j:Nat) {as:List Value} {bs:List PyData},bP (bL Own s.heap) as bs->bP (bL Own s.heap) (fH st.toNat j as) (fH st.toNat j bs):=by
   intro j as bs q
   induction q generalizing j with
   | nil=>cases j <;> exact .nil
   | cons h1 _ ih=>cases j with
    | zero=>exact .cons h1 (ih _)
    | succ j=>exact ih j
  exact step 0 (hx.drop b1)
theorem aPS (C:bE c){a lo hi st:X}(ha:bG c a)(hl:bG c lo)(hh:bG c hi)(ht:bG c st):bG c (.slc a lo hi st):=by
 intro n A env Own M E s e d Q Er X hc ho he h;dsimp only[zY]at hc;(refine e6a5 (aGA hc) ?_;rintro o l u t p q rfl h1 h2 h3 h4);(refine aMP (aHD.symm.trans ho) ?_;try clear ho;rintro o1 o2 o3 o4 o5);revert he;refine cE fun x hx=>cE fun y1 hy1=>cE fun y2 hy2=>cE fun y3 hy3 hz=>?_;refine PyProof.Rows.Subscript_ (ha n A env Own M E s o x _ Er X h1 o1 hx fun v s1 st1 r1 u_=>?_);refine wpAny_Slice (aCa hl (X.stp C st1) h2 o2 hy1 fun vl s2 st2 r2=>aCa hh (X.stp C (st1.trans st2)) h3 o3 hy2 fun vh s3 st3 r3=>aCa ht (X.stp C ((st1.trans st2).trans st3)) h4 o4 hy3 fun vt s4 st4 r4=>?_);have st14:=(st1.trans st2).trans (st3.trans st4);have X4:=X.stp C st14;have k5:bY s4.heap (s4.heap.push { cls:=.type "slice",data:=.fields #[vl,vh,vt] }):=bY.push _ _;refine aOB (X4.stp C .push).live o5 hz ((r1.keep (st2.trans (st3.trans st4)).keep).keep k5) ((r2.keep (st3.trans st4).keep).keep k5) ((r3.keep st4.keep).keep k5) (r4.keep k5) (Heap.IsSliceOf.new ..) fun v5 s5 st5 r5 fr=>?_;exact h v5 s5 ((st14.trans .push).trans st5) r5 fun u_=>Fr1.back (st14.trans .push).keep fr
theorem aOi {a lo hi st:X}(hv:bG c (.slc a lo hi st)):fW c (.slc a lo hi st) :=
 cP hv fun n sc e hc=>by
  dsimp only[zY]at hc;(refine e6a2 (aGA hc) ?_;rintro o l u t p q rfl -);rfl
end
open PySem PySem.W PyProof.Rows PySem.Builtin PySem.Builtin.Str
theorem yA {g:Nat->Nat}{f:Nat->Nat->List Nat}(x:Str)(h:∀ i c,x.cps[i]?=some c->f i c=[g c]):placed x f=((sl x).map g).toArray:=by
 unfold placed
 have e:(x.cps.mapIdx fun i c=>(f i c).toArray)=x.cps.map fun c=>#[g c]:=by
  apply Array.ext
  .simp
  .intro i h1 h2
   simp only[Array.getElem_mapIdx,Array.getElem_map];have h3:i < x.cps.size:=by simpa using h1
   rw[h i x.cps[i] (by simp[h3])]
 rw[e]
 apply Array.toList_inj.mp
 rw[Array.toList_flatten];simp[sl,List.map_map]
 induction x.cps.toList with
 | nil=>rfl
 | cons a r ih=>simp_all
theorem aCM {p:Nat->Bool}(h:((List.range 128).all p)=true){l:List Nat}(ha:mF l=true){c:Nat}(hc:c∈l):p c=true:=by
 unfold mF at ha;have:=aJ ha c hc;exact aJ h c (List.mem_range.mpr (by simpa using this))
theorem aJ9:((List.range 128).all fun c=>decide (Unicode.lowerOf c=[cK c]) && !(c == 0x3A3))=true:=by decide +kernel
theorem aOr:((List.range 128).all fun c=>decide ((if Unicode.isUpper c then Unicode.lowerOf c else if Unicode.isLower c then Unicode.upperOf c else[c])=[mH c]) && !(c == 0x3A3))=true:=by decide +kernel
theorem aFi {x:Str}{i c:Nat}(h:x.cps[i]?=some c):c∈sl x:=by
 (refine e1a1 (Array.getElem?_eq_some_iff.mp h) ?_;rintro h1 h2);subst h2;simp[sl]
theorem vL {x:Str}(ha:mF (sl x)=true){i c:Nat}(h:x.cps[i]?=some c):Unicode.lowerAt x.cps i=[cK c]:=by
 unfold Unicode.lowerAt;rw[h];have q:=aCM aJ9 ha (aFi h);replace q:=aRD q;simp only[q.2,Bool.false_and,Bool.false_eq_true,if_false];exact q.1
theorem aBo {x:Str}(ha:mF (sl x)=true):Txt.lower x=⟨((sl x).map cK).toArray⟩:=by
 unfold Txt.lower;rw[yA x fun i c h=>vL ha h]
set_option tactic.hygienic true in
theorem aC1 {x:Str}(ha:mF (sl x)=true):Txt.swapcase x=⟨((sl x).map mH).toArray⟩:=by
 unfold Txt.swapcase
 rw[yA (g:=mH) x fun i c h=>by
  have q:=aCM aOr ha (aFi h);replace q:=aQc q;rw[<-q.1];have q2:=aCM aJ9 ha (aFi h);replace q2:=aRD q2;rw[vL ha h,<-q2.1]]
theorem aGP {l:List Nat}{g:Nat->Nat}(h:l.length<=1000000):tooLong (Str.length ⟨(l.map g).toArray⟩)=false:=by
 have e:Str.length ⟨(l.map g).toArray⟩=l.length:=by simp[Str.length]
 rw[e];unfold tooLong;exact decide_eq_false (Nat.not_lt.mpr (gD h))
set_option tactic.hygienic true in
theorem aHk {Own:Addr->Prop}{h:Heap}{vs:List Value}{xs:List PyData}{k:Int}(hx:bP (bL Own h) vs xs)(hk:aBZ xs=some k):∃ ps:List (Int × Tok),vs=ps.map (fun p=>Value.int p.1 p.2)/\(ps.map (·.1)).sum=k:=by
 induction hx generalizing k with
 | nil=>(replace hk:=(aA hk).symm;subst hk);exact⟨[],rfl,rfl⟩
 | cons h1 h2 ih =>
  rename_i a b as bs
  have hq0:∃ v0,b=.int v0:=by revert hk;generalize b=y0;intro hk;cases y0 <;> first | exact⟨_,rfl⟩ | exact cM hk | exact eR hk | cases hk
  (refine e1a1 hq0 ?_;try clear hq0;rintro i rfl);revert hk;refine cE fun k' hk' e0z=>?_;(replace e0z:=(aA e0z).symm;subst e0z);(refine e1a1 h1.int ?_;rintro t rfl);(refine e1a2 (ih hk') ?_;rintro ps rfl e);exact⟨(i,t)::ps,rfl,by simp[e]⟩
theorem aHT {n:Nat}(h:n<=1000000):(n:Int) < 2 ^ 63:=Int.lt_of_le_of_lt (Int.ofNat_le.mpr h) (by decide)
section
variable {prog:Program} {w:World} {A:Around} {Er:Value->Shared->Prop} {s:Shared} {Q:Value->Shared->Prop} {Own:Addr->Prop}
theorem aOs (hh:A.handled=none){k:Nat}(hk:k<=1){v:Value}{xs:List PyData}{z:Int}(r:eS Own k s.heap v (.list xs))(hz:aBZ xs=some z)
  (h:∀ t' s',cS s s'->Q (.int z t') s'):wpAny (model prog w) A (call (.builtin "sum") [v]) Q Er s:=by
 (refine e2a3 (r.one hk) ?_;rintro a vs rfl hl hx);(refine e1a2 (aHk hx hz) ?_;rintro ps e rfl)
 have e1:vs=intItems ps.toArray:=by
  apply Array.toList_inj.mp
  rw[e];simp[intItems]
 subst e1;refine sum_intListG hh hl.isList fun h' tk t' hk=>?_;rw[preSum_eq,List.take_of_length_le (by simp)]
 exact h t' _ (.of hk)
theorem aO9 {k:Nat}{v:Value}{d z:PyData}(r:eS Own k s.heap v d)(hz:uT .len d=some z)(h:∀ v' s',cS s s'->bL Own s'.heap v' z->Q v' s'):wpAny (model prog w) A (call (.builtin "len") [v]) Q Er s:=by
 cases d with
 | list xs =>
  revert hz;refine ifs fun hle hz=>?_;(replace hz:=(aA hz).symm;subst hz);(refine e2a3 (eS.zero r.any) ?_;rintro a vs rfl hl hx);have e1:=hx.length;rw[Array.length_toList]at e1;refine len_list hl.isList (aHT (e1 ▸ hle)) ?_;rw[e1];exact h _ _ (.trans .toks .toks) .mkInt
 | str x =>
  revert hz;refine ifs fun hle hz=>?_;(replace hz:=(aA hz).symm;subst hz);(refine e1a1 r.any.str ?_;rintro t rfl);have e1:x.length=(sl x).length:=by simp[sl,Str.length]
  refine P.len_str (by rw[e1];exact Int.not_le.mpr (aHT hle)) ?_
  rw[e1];exact h _ _ (.trans .toks .toks) .mkInt
 | tuple xs =>
  revert hz;refine ifs fun hle hz=>?_;(replace hz:=(aA hz).symm;subst hz);(refine e2a3 ((r.nolist fun u_ q=>by cases q).untuple) ?_;rintro a vs rfl hl hx)
  have e1:=hx.length;rw[Array.length_toList]at e1;refine PyProof.Rows.len_tuple hl (aHT (e1 ▸ hle)) ?_;rw[e1];exact h _ _ (.trans .toks .toks) .mkInt
 | _=>exact cM hz
end
noncomputable def xF (t:KasT (Array Nat)):Bool:=match t with
 | .ask i j k=>decide (i=1) && (decide (j=0) && (match k true with
  | .ret p=>decide (p=#[1,0])
  | _=>false) && (match k false with
  | .ret p=>decide (p=#[0,1])
  | _=>false))
 | _=>false
theorem aI5:xF (kas_sort 2)=true:=by decide +kernel
theorem aOf {cmp:Nat->Nat->(Bool->Shared->Prop)->Shared->Prop}{Q:Array Nat->Shared->Prop}{s:Shared}{t:KasT (Array Nat)}(h:xF t=true)(h1:∀ C:Bool->Shared->Prop,(∀ b s',Q (match b with | true=>#[1,0] | false=>#[0,1]) s'->C b s')->cmp 1 0 C s):t.kasWp cmp Q s:=by
 cases t with
 | ret a=>exact eR h
 | ask i j k =>
  unfold xF at h;simp only[Bool.and_eq_true,decide_eq_true_eq]at h;(refine aRz (show i=1/\j=0/\_/\_ from⟨h.1,h.2.1.1,h.2.1.2,h.2.2⟩) ?_;clear h;rintro rfl rfl h3 h4);show cmp 1 0 (fun b s'=>(k b).kasWp cmp Q s') s;refine h1 _ fun b s' q=>?_
  cases b with
  | true =>
   revert h3;generalize k true=t1;intro h3
   cases t1 with
   | ret p =>
    rw[aC h3];exact q
   | ask _ _ _=>exact eR h3
  | false =>
   revert h4;generalize k false=t1;intro h4
   cases t1 with
   | ret p =>
    rw[aC h4];exact q
   | ask _ _ _=>exact eR h4
section
variable {prog:Program} {w:World} {A:Around} {E:Value->Shared->Prop} {s:Shared}
theorem aJj {D X Y:Addr}{a c:Int}{t u:Tok}{p q:Value}{ox oy:Obj}{nx ny n:Nat}{P:PySem.Fin->Shared->Prop}(ho:s.heap.get? D=some (seqObj "list" [Value.ref X,.ref Y].toArray n))
  (hx:s.heap.get? X=some ox) (cx:ox.cls=.type "tuple") (dx:ox.data=.seq #[.int a t,p] nx) (hy:s.heap.get? Y=some oy) (cy:oy.cls=.type "tuple") (dy:oy.data=.seq #[.int c u,q] ny) (hac:a≠c)
  (h:P (.done (.ret .none)) { s with heap:=sortedHeap s.heap D [Value.ref X,.ref Y] (if c < a then #[.ref Y,.ref X]else #[.ref X,.ref Y]) }) :
  wpAny (model prog w) A (Builtin.«list.sort» ⟨[.ref D],[]⟩) P E s:=by
 rw[list_sort_plain];have ha:D < s.heap.objs.size:=Heap.lt_size ho;have nX:X≠D:=by rintro rfl;rw[ho]at hx;(replace hx:=(aA hx).symm;subst hx);exact absurd cx (by simp)
 have nY:Y≠D:=by rintro rfl;rw[ho]at hy;(replace hy:=(aA hy).symm;subst hy);exact absurd cy (by simp)
 refine wpAny_bind (listItems_at ho rfl ?_);refine wpAny_bind (listUpdate_at ho rfl ?_ (by rw[sizeLine_eq];show(2:Nat)<=16777216;decide) (Nat.zero_le _))
 obtain ⟨e1,ho1⟩:∃ e1,(s.heap.update D (Obj.mapSeq fun _=>(#[]:Array Value))).get? D=some (seqObj "list" #[] e1):=⟨_,get?_update_seq ho (fun _=>#[])⟩;refine wpAny_bind (seqEpoch_at ho1 rfl ?_);refine wpAny_bind (wpAny_newTuple ?_ (by show(2:Nat)<=_;rw[sizeLine_eq];decide))
 refine wpAny_bind (wpAny_newList ?_ (Nat.zero_le _));refine wpAny_holding ?_;show wpAny (model prog w) A _ P E { s with heap:=((s.heap.update D (Obj.mapSeq fun _=>(#[]:Array Value))).push (seqObj "tuple" [Value.ref X,.ref Y].toArray 0)).push (seqObj "list" #[] 0) }
 have ho6:(((s.heap.update D (Obj.mapSeq fun _=>(#[]:Array Value))).push (seqObj "tuple" [Value.ref X,.ref Y].toArray 0)).push (seqObj "list" #[] 0)).get? D=some (seqObj "list" #[] e1) :=
  Heap.get?_push_of_some _ (Heap.get?_push_of_some _ ho1)
 have up:∀ {b:Addr} {o:Obj},b≠D->s.heap.get? b=some o->(((s.heap.update D (Obj.mapSeq fun _=>(#[]:Array Value))).push (seqObj "tuple" [Value.ref X,.ref Y].toArray 0)).push (seqObj "list" #[] 0)).get? b=some o :=
  fun hb e=>Heap.get?_push_of_some _ (Heap.get?_push_of_some _ ((Heap.get?_update_ne _ _ _ _ hb).trans e))
 have fin:P (.done (.ret .none)) { s with heap:=(((s.heap.update D (Obj.mapSeq fun _=>(#[]:Array Value))).push (seqObj "tuple" [Value.ref X,.ref Y].toArray 0)).push (seqObj "list" #[] 0)).update D (Obj.mapSeq fun _=>if c < a then #[.ref Y,.ref X]else #[.ref X,.ref Y]) }:=h
 have hx':=up nX hx;have hy':=up nY hy;clear h up ho1 ho ha hx hy;generalize (((s.heap.update D (Obj.mapSeq fun _=>(#[]:Array Value))).push (seqObj "tuple" [Value.ref X,.ref Y].toArray 0)).push (seqObj "list" #[] 0))=h6 at ho6 hx' hy' fin ⊢;dsimp only;have hn2:¬ [Value.ref X,Value.ref Y].toArray.size < 2:=by show ¬ (2:Nat) < 2;decide
 rw[if_neg hn2,if_neg hn2];refine wpAny_bind (kat_kind (vs:=[Value.ref X,.ref Y]) (fs:=[.int a t,.int c u]) (T:=.type "int") (KatTups.cons hx' cx dx rfl (KatTups.cons hy' cy dy rfl .nil)) (by show(0:Nat) < 2;decide) (fun v hv=>?_) (by decide) ?_)
 .rcases aM hv with rfl | hv
  .exact .now
  ·(replace hv:=aH hv;subst hv)
   exact .now
 refine wpAny_bind (wpAny_mono (kat_run (vs:=[Value.ref X,.ref Y]) (ks:=[Value.ref X,.ref Y]) (Q:=fun st' s'=>s'={ s with heap:=h6 }/\(arrOf st').map (·.2)=(if c < a then #[Value.ref Y,.ref X]else #[.ref X,.ref Y])/\failedOf st'=none)
  (G:=fun p s'=>s'={ s with heap:=h6 }/\p=(if c < a then #[1,0]else #[0,1])) rfl (by show(2:Nat)<=2;decide) (by show(2:Nat) < 64;decide) (fun p' st' s' a1 a2 a3 a4=>⟨a4.1,?_,a3⟩) (aOf aI5 fun C hC=>?_)) ?_ fun _ _ e=>e)
 .rw[kat_snds rfl a2,a4.2]
  split <;> rfl
 .show wpAny (model prog w) A (keyLt' (tuples' true) (.ref Y) (.ref X)) C _ _
  refine kat_lt hy' dy hx' dx (kat_cons (wpAny_eqBool_int ?_));rw[show(c == a)=false from beq_eq_false_iff_ne.mpr (Ne.symm hac)];refine kat_no (oneLt_int (hC _ _ ⟨rfl,?_⟩))
  by_cases hca:c < a
  .rw[if_pos hca,decide_eq_true hca]
  .rw[if_neg hca,decide_eq_false hca]
 .rintro⟨⟨⟩,st'⟩ s' ⟨rfl,ha2,hf⟩
  dsimp only at ha2 hf ⊢;refine wpAny_bind (seqEpoch_at ho6 rfl ?_);rw[ha2];refine wpAny_bind (listUpdate_at ho6 rfl ?_ (Nat.zero_le _) (by split <;> (show(2:Nat)<=_;rw[sizeLine_eq];decide)))
  rw[hf];simp only[bne_self_eq_false,Bool.false_eq_true,if_false];exact wpAny_pure fin
theorem aEQ {l X Y:Addr}{a c:Int}{t u:Tok}{p q:Value}{ox oy:Obj}{nx ny:Nat}{Q:Value->Shared->Prop}(hl:s.heap.IsList l [Value.ref X,.ref Y].toArray)
  (hx:s.heap.get? X=some ox) (cx:ox.cls=.type "tuple") (dx:ox.data=.seq #[.int a t,p] nx) (hy:s.heap.get? Y=some oy) (cy:oy.cls=.type "tuple") (dy:oy.data=.seq #[.int c u,q] ny) (hac:a≠c)
  (h:Q (.ref (s.heap.objs.size+1)) { s with heap:=sortedAll s.heap [Value.ref X,.ref Y] (if c < a then #[.ref Y,.ref X]else #[.ref X,.ref Y]) }) :
  wpAny (model prog w) A (call (.builtin "sorted") [.ref l]) Q E s:=by
 refine Calls.call_function_entry kind_sorted plain_sorted entry_sorted (args_sorted1 _) ?_;unfold Builtin.«sorted»;refine wpAny_bind (m:=checkCount "sorted" 1 1 _) (wpAny_pure ?_);refine wpAny_bind (collect_list hl ?_ (by show(2:Nat)<=_;rw[sizeLine_eq];decide))
 refine wpAny_bind (wpAny_newList ?_ (by show(2:Nat)<=_;rw[sizeLine_eq];decide))
 have hsz:((s.heap.push (seqObj "list" #[] 0)).update s.heap.objs.size (Obj.mapSeq (·++[Value.ref X,.ref Y].toArray))).objs.size=s.heap.objs.size+1:=by
  rw[Heap.size_update,size_push']
 have hoL:(((s.heap.push (seqObj "list" #[] 0)).update s.heap.objs.size (Obj.mapSeq (·++[Value.ref X,.ref Y].toArray))).push (seqObj "list" [Value.ref X,.ref Y].toArray 0)).get? (s.heap.objs.size+1)=some (seqObj "list" [Value.ref X,.ref Y].toArray 0):=by
  rw[<-hsz];exact Heap.get?_push_size _ rfl
 have keep:∀ b o,s.heap.get? b=some o->(((s.heap.push (seqObj "list" #[] 0)).update s.heap.objs.size (Obj.mapSeq (·++[Value.ref X,.ref Y].toArray))).push (seqObj "list" [Value.ref X,.ref Y].toArray 0)).get? b=some o:=fun b o e=>by
  have hlt:b < s.heap.objs.size:=Heap.lt_size e;rw[Heap.get?_push_ne _ _ _ (by rw[hsz];exact Nat.ne_of_lt (Nat.lt_succ_of_lt hlt)),Heap.get?_update_ne _ _ _ _ (Nat.ne_of_lt hlt),Heap.get?_push_ne _ _ _ (Nat.ne_of_lt hlt)]
  exact e
 show wpAny _ _ _ _ _ { s with heap:=((s.heap.push (seqObj "list" #[] 0)).update s.heap.objs.size (Obj.mapSeq (·++[Value.ref X,.ref Y].toArray))).push (seqObj "list" [Value.ref X,.ref Y].toArray 0) }
 rw[hsz];refine wpAny_bind (wpAny_holding (wpAny_call_entry slot_list_sort ⟨_,hoL,rfl⟩ entry_list_sort (aJj hoL (keep _ _ hx) cx dx (keep _ _ hy) cy dy hac ⟨_,rfl,?_⟩) (args_list_sort _)));exact wpAny_pure ⟨_,rfl,h⟩
end
section
variable {prog:Program} {w:World} {A:Around} {Er:Value->Shared->Prop} {s:Shared}
theorem aDT {d:PyData}{a:Int}(h:aKU d=some a):∃ b,d=.tuple [.int a,b]:=by
 refine aFf (fun xs hx h=>?_) cM h;subst hx
 cases xs with
 | nil=>exact cM h
 | cons x r=>cases r with
  | nil=>exact cM h
  | cons b r=>cases r with
   | nil=>exact⟨b,by rw[dN h]⟩
   | cons _ _=>exact cM h
theorem aHq {xs ys:List PyData}(h:aNJ xs=some ys):∃ a b c d,xs=[.tuple [.int a,b],.tuple [.int c,d]]/\a≠c/\ys=if c < a then[.tuple [.int c,d],.tuple [.int a,b]]else[.tuple [.int a,b],.tuple [.int c,d]]:=by
 match xs,h with
 | [x,y],h =>
  revert h;show((aKU x).bind fun a=>(aKU y).bind fun c=>if c < a then some [y,x]else if a < c then some [x,y]else none)=some ys->_
  refine cE fun a ha=>cE fun c hc h=>?_;(refine e1a1 (aDT ha) ?_;rintro b rfl);(refine e1a1 (aDT hc) ?_;rintro d rfl)
  by_cases q:c < a
  .rw[if_pos q]at h
   exact⟨a,b,c,d,rfl,by lia,by rw[if_pos q];exact(aA h).symm⟩
  .rw[if_neg q]at h
   by_cases q2:a < c
   .rw[if_pos q2]at h
    exact⟨a,b,c,d,rfl,by lia,by rw[if_neg q];exact(aA h).symm⟩
   .rw[if_neg q2]at h
    exact cM h
theorem aI7 {Own:Addr->Prop}{h:Heap}{v:Value}{a:Int}{b:PyData}(r:bL Own h v (.tuple [.int a,b])):∃ X o t p n,v=.ref X/\h.get? X=some o/\o.cls=.type "tuple"/\o.data=.seq #[.int a t,p] n:=by
 (refine e2a3 r.untuple ?_;rintro X vs rfl ht hx);obtain ⟨o,ho,hc,n,hd⟩:=ht;obtain ⟨l⟩:=vs
 cases hx with
 | cons r1 r2 =>
  cases r2 with
  | cons r2 r3 =>
   cases r3;(refine e1a1 r1.int ?_;rintro t rfl);exact⟨X,o,t,_,n,rfl,ho,hc,hd⟩
theorem aHp {Own:Addr->Prop}{k:Nat}{v:Value}{y z:PyData}{Q:Value->Shared->Prop}(hk:k<=1)(r:eS Own k s.heap v y)(live:∀ a,Own a->∃ o,s.heap.get? a=some o)(hz:uT .sorted y=some z)(h:∀ v' s',cS s s'->bL Own s'.heap v' z->Q v' s') :
  wpAny (model prog w) A (call (.builtin "sorted") [v]) Q Er s:=by
 refine oG (fun xs hx hz=>?_) cM hz;subst hx;revert hz;refine cE fun ys hys hz=>?_;(replace hz:=(aA hz).symm;subst hz);obtain ⟨a,b,c,d,rfl,hac,rfl⟩:=aHq hys
 have hit:∃ l vs,v=.ref l/\s.heap.PlainList l vs/\bP (bL Own s.heap) vs.toList [.tuple [.int a,b],.tuple [.int c,d]]:=by
  (refine e2a3 r.items ?_;rintro l vs rfl hl hx);have e:k - 1=0:=by lia
  rw[e]at hx;exact⟨l,vs,rfl,hl,hx⟩
 (refine e2a3 hit ?_;rintro l vs rfl hl hx);obtain ⟨l'⟩:=vs
 cases hx with
 | cons r1 r2 =>
  cases r2 with
  | cons r2 r3 =>
   cases r3;obtain ⟨X,ox,t,p,nx,rfl,hX,cX,dX⟩:=aI7 r1;obtain ⟨Y,oy,u,q,ny,rfl,hY,cY,dY⟩:=aI7 r2;refine aEQ hl.isList hX cX dX hY cY dY hac (h _ _ ⟨fun b o e=>sortedAll_old e,.refl _,rfl⟩ ?_);obtain ⟨e,he⟩:=sortedAll_at s.heap [Value.ref X,.ref Y] (if c < a then #[.ref Y,.ref X]else #[.ref X,.ref Y])
   have kk:bY s.heap (sortedAll s.heap [Value.ref X,.ref Y] (if c < a then #[.ref Y,.ref X]else #[.ref X,.ref Y])):=fun b o e=>sortedAll_old e
   refine eS.list ⟨e,he⟩ ?_ fun hO=>?_
   .by_cases q:c < a
    .rw[if_pos q,if_pos q]at *
     exact .cons (bL.keep kk r2) (.cons (bL.keep kk r1) .nil)
    .rw[if_neg q,if_neg q]at *
     exact .cons (bL.keep kk r1) (.cons (bL.keep kk r2) .nil)
   ·(refine e1a1 (live _ hO) ?_;rintro o ho)
    exact absurd (Heap.lt_size ho) (by lia)
end
open PySem PySem.W PyProof.Rows PySem.Builtin PySem.Builtin.Str
set_option tactic.hygienic true in
theorem aH8 {Own:Addr->Prop}{h:Heap}{vs:List Value}{xs:List PyData}{k:List Int}(hx:bP (bL Own h) vs xs)(hk:aDM xs=some k):∃ ps:List (Int × Tok),vs=ps.map (fun p=>Value.int p.1 p.2)/\ps.map (·.1)=k:=by
 induction hx generalizing k with
 | nil=>(replace hk:=(aA hk).symm;subst hk);exact⟨[],rfl,rfl⟩
 | cons h1 h2 ih =>
  rename_i a b as bs
  have hq0:∃ v0,b=.int v0:=by revert hk;generalize b=y0;intro hk;cases y0 <;> first | exact⟨_,rfl⟩ | exact cM hk | exact eR hk | cases hk
  (refine e1a1 hq0 ?_;try clear hq0;rintro i rfl);revert hk;refine cE fun k' hk' e0z=>?_;(replace e0z:=(aA e0z).symm;subst e0z);(refine e1a1 h1.int ?_;rintro t rfl);(refine e1a2 (ih hk') ?_;rintro ps rfl e);exact⟨(i,t)::ps,rfl,by simp[e]⟩
theorem aBn:∀ (r:List Int)(a:Int),uF a r∈a::r/\∀ b∈a::r,uF a r<=b
 | []=>fun a=>⟨by simp[aJ2],by simp[aJ2]⟩
 | c::r=>fun a=>by
  simp only[aFh];obtain ⟨h1,h2⟩:=aBn r (if c < a then c else a)
  constructor
  .rcases aM h1 with e | m
   .rw[e];split <;> simp
   .simp[m]
  .intro b hb
   have h0:=h2 (if c < a then c else a) (by simp)
   rcases aM hb with rfl | hb
   .split at h0 <;> split <;> lia
   .rcases aM hb with rfl | hb
    .split at h0 <;> split <;> omega
    .exact h2 b (aE _ hb)
section
variable {prog:Program} {w:World} {A:Around} {Er:Value->Shared->Prop} {s:Shared} {Q:Value->Shared->Prop} {Own:Addr->Prop}
theorem aOZ (hh:A.handled=none){k:Nat}(hk:k<=1){v:Value}{xs:List PyData}{a:Int}{l:List Int}(r:eS Own k s.heap v (.list xs))(hz:aDM xs=some (a::l))
  (h:∀ t' s',cS s s'->Q (.int (uF a l) t') s'):wpAny (model prog w) A (call (.builtin "min") [v]) Q Er s:=by
 (refine e2a3 (r.one hk) ?_;rintro b vs rfl hl hx);(refine e1a2 (aH8 hx hz) ?_;rintro ps e hps)
 have e1:vs=intItems ps.toArray:=by
  apply Array.toList_inj.mp
  rw[e];simp[intItems]
 subst e1;have hlen:ps.length=l.length+1:=by rw[<-aK (f:=(·.1)),hps];rfl
 refine min_intList hh hl.isList (by simp[hlen]) fun v h' tk hv hk=>?_
 have hb:=argBest_lt (numAt ps.toArray) (ps.toArray.size - 1);generalize hj:argBest (fun i j=>decide (numAt ps.toArray i < numAt ps.toArray j)) (ps.toArray.size - 1)=j at hv hb;(refine e1a1 (intItems_at hv) ?_;rintro t rfl);obtain ⟨m1,m2⟩:=aBn l a;have hsz:ps.toArray.size=l.length+1:=by simp[hlen]
 have key:∀ i,i < ps.length->∃ hi:i < (a::l).length,numAt ps.toArray i=(a::l)[i]:=by
  intro i hi;refine⟨by rw[<-hps];simpa using hi,?_⟩
  unfold numAt;simp only[<-hps,List.getElem?_toArray,List.getElem?_eq_getElem hi,Option.map_some,Option.getD_some,List.getElem_map]
 have e3:numAt ps.toArray j=uF a l:=by
  apply Int.le_antisymm
  ·(refine e1a1 (List.getElem_of_mem m1) ?_;rintro i hz_;obtain ⟨hi,e⟩:=hz_)
   have hi':i < ps.length:=by simpa [hlen] using hi
   (refine e1a1 (key i hi') ?_;rintro u_ e');rw[<-e,<-e'];exact hb.2 i (by lia)
  ·(refine e1a1 (key j (by omega)) ?_;rintro hj' e')
   rw[e'];exact m2 _ (List.getElem_mem hj')
 rw[e3];exact h t _ (.of hk)
theorem aO3 {p:P1}(hp:aEZ p=true){k:Nat}{v:Value}{d z:PyData}{pos:Pos}(r:eS Own k s.heap v d)(hz:uT p d=some z)(h:∀ v' s',cS s s'->bL Own s'.heap v' z->Q v' s') :
  MethodOnS prog w A Er (yE p) v pos [] Q s:=by
 cases p with
 | lower =>
  have hq0:∃ v0,d=.str v0:=by revert hz;generalize d=y0;intro hz;cases y0 <;> first | exact⟨_,rfl⟩ | exact cM hz | exact eR hz | cases hz
  (refine e1a1 hq0 ?_;try clear hq0;rintro x rfl);refine ifs (fun hle hz=>?_) hz;(replace hz:=(aA hz).symm;subst hz);(refine e1a1 r.any.str ?_;rintro t rfl);refine SB.lower (by rw[aBo hle.1];exact aGP hle.2) ?_
  rw[aBo hle.1];exact h _ _ .toks .mkStr
 | swapcase =>
  have hq0:∃ v0,d=.str v0:=by revert hz;generalize d=y0;intro hz;cases y0 <;> first | exact⟨_,rfl⟩ | exact cM hz | exact eR hz | cases hz
  (refine e1a1 hq0 ?_;try clear hq0;rintro x rfl);refine ifs (fun hle hz=>?_) hz;(replace hz:=(aA hz).symm;subst hz);(refine e1a1 r.any.str ?_;rintro t rfl);refine SB.swapcase (by rw[aC1 hle.1];exact aGP hle.2) ?_
  rw[aC1 hle.1];exact h _ _ .toks .mkStr
 | _=>exact eR hp
end
section
variable {c:cG}
theorem jW {e:Expr}{env:Env}(h:bM e=true):starEach [e] env=[(false,eval e env)]:=bK h
set_option tactic.hygienic true in
theorem aD0 (C:bE c){p:P1}{a:X}(ha:bG c a):bG c (.p1 p a):=by
 intro n A env Own M E s e d Q Er X hc ho he h;dsimp only[aBM]at hc;replace ho:=aNw (aJN.symm.trans ho);revert he;refine cE fun y hy hz=>?_
 split at hc
 .rename_i hm
  (refine e3a4 (wT hc) ?_;rintro o ap q rfl h1 h2 h3);refine Call_method0 (eA h1) h2 (ha n A env Own M E s o y _ Er X h3 ho.1 hy fun v s' st r _=>?_);exact aO3 hm r hz fun v' s2 st2 r2=>h v' s2 (st.trans st2) r2 fun q=>nomatch q
 .rename_i hm
  (refine e3a4 (nB hc) ?_;rintro z p0 q rfl h1 h2 h3)
  cases p with
  | len =>
   refine wpAny_Call_NameR (pV C (x:="len") (by decide) X.eok X.base h1 ?_)
   rw[iM h2];refine PySem.callWith_builtin1 (ha n A env Own M E s z y _ Er X h3 ho.1 hy fun v s' st r _=>?_);exact aO9 r hz fun v' s2 st2 r2=>h v' s2 (st.trans st2) r2 fun q=>nomatch q
  | sum =>
   refine wpAny_Call_NameR (pV C (x:="sum") (by decide) X.eok X.base h1 ?_)
   rw[iM h2];refine PySem.callWith_builtin1 (ha n A env Own M E s z y _ Er X h3 ho.1 hy fun v s' st r _=>?_);have hq0:∃ v0,y=.list v0:=by revert hz;generalize y=y0;intro hz;cases y0 <;> first | exact⟨_,rfl⟩ | exact cM hz | exact eR hz | cases hz
   (refine e1a1 hq0 ?_;try clear hq0;rintro xs rfl);revert hz;refine cE fun k hk hz=>?_;(replace hz:=(aA hz).symm;subst hz);exact aOs X.room.hand ho.2 r hk fun t' s2 st2=>h _ s2 (st.trans st2) .mkInt fun q=>nomatch q
  | mini =>
   refine wpAny_Call_NameR (pV C (x:="min") (by decide) X.eok X.base h1 ?_)
   rw[iM h2];refine PySem.callWith_builtin1 (ha n A env Own M E s z y _ Er X h3 ho.1 hy fun v s' st r _=>?_);have hq0:∃ v0,y=.list v0:=by revert hz;generalize y=y0;intro hz;cases y0 <;> first | exact⟨_,rfl⟩ | exact cM hz | exact eR hz | cases hz
   (refine e1a1 hq0 ?_;try clear hq0;rintro xs rfl);revert hz;refine cE fun k hk hz=>?_
   cases k with
   | nil=>exact cM hz
   | cons b l =>
    (replace hz:=(aA hz).symm;subst hz);exact aOZ X.room.hand ho.2 r hk fun t' s2 st2=>h _ s2 (st.trans st2) .mkInt fun q=>nomatch q
  | sorted =>
   refine wpAny_Call_NameR (pV C (x:="sorted") (by decide) X.eok X.base h1 ?_)
   rw[iM h2];refine PySem.callWith_builtin1 (ha n A env Own M E s z y _ Er X h3 ho.1 hy fun v s' st r _=>?_);exact aHp ho.2 r (X.stp C st).live hz fun v' s2 st2 r2=>h v' s2 (st.trans st2) r2 fun q=>nomatch q
  | _=>exact nbf hm
theorem aOS (p:P1)(a:X)(n:Nat)(sc:Scope)(e:Expr)(hc:aS c.fnm c.rk n sc (.p1 p a) e=true):∃ f as ks q,e=.Call f as ks q:=by
 dsimp only[aBM]at hc
 split at hc
 ·(refine e3a4 (wT hc) ?_;rintro o ap q rfl h1 h2 h3);exact⟨_,_,_,_,rfl⟩
 ·(refine e3a4 (nB hc) ?_;rintro z p0 q rfl h1 h2 h3);exact⟨_,_,_,_,rfl⟩
theorem aQM {p:P1}{a:X}(hv:bG c (.p1 p a)):fW c (.p1 p a) :=
 cP hv fun n sc e hc=>by
  (refine e4a1 (aOS p a n sc e hc) ?_;rintro f as ks q rfl);rfl
end
open PySem PySem.W PyProof.Rows PySem.Builtin PySem.Builtin.Str
noncomputable def vK (x y:Str)(i:Nat):Bool:=decide (i+y.length<=x.length) && subAt x y i
theorem aDt (s sub:Str)(hi:Nat):∀ (l:List Nat) (st:Array Nat × Nat),st.fst.size=1->(forIn l st (StrLaws.occBody s sub hi 1)).run.fst=st.fst
 | []=>fun st h=>rfl
 | a::l=>fun st h=>by
  rw[List.forIn_cons];unfold StrLaws.occBody;rw[if_neg (by lia)]
  exact aDt s sub hi l _ h
theorem aBj (s sub:Str):∀ (l:List Nat) (free:Nat),(∀ i∈l,free<=i) ->
  (forIn l ((#[]:Array Nat),free) (StrLaws.occBody s sub s.length 1)).run.fst=match l.find? (vK s sub)with | some i=>#[i] | none=>#[]
 | []=>fun free _=>rfl
 | a::l=>fun free hf=>by
  rw[List.forIn_cons];unfold StrLaws.occBody;have ha:free<=a:=hf a (aF ..)
  by_cases hc:vK s sub a=true
  .rw[List.find?_cons_of_pos hc]
   have hc':=hc;unfold vK at hc';rw[Bool.and_eq_true,decide_eq_true_eq]at hc';rw[if_pos ⟨⟨⟨by simp,ha⟩,hc'.1⟩,hc'.2⟩]
   exact aDt s sub s.length l _ rfl
  .rw[List.find?_cons_of_neg hc]
   rw[if_neg (fun h=>hc (by unfold vK;rw[Bool.and_eq_true,decide_eq_true_eq];exact⟨h.1.2,h.2⟩))]
   exact aBj s sub l free fun i hi=>hf i (aE _ hi)
theorem aHO (x y:Str)(i:Nat)(hi:i<=(sl x).length):vK x y i=(sl y).isPrefixOf ((sl x).drop i):=by
 have e1:x.length=(sl x).length:=by simp[sl,Str.length]
 have e2:y.length=(sl y).length:=by simp[sl,Str.length]
 unfold vK subAt;rw[Bool.eq_iff_iff,Bool.and_eq_true,decide_eq_true_eq,beq_iff_eq,List.isPrefixOf_iff_prefix,List.prefix_iff_eq_take]
 have e3:x.cps.extract i (i+y.length)=y.cps ↔ ((sl x).drop i).take (sl y).length=sl y:=by
  rw[<-Array.toList_inj,Array.toList_extract,List.extract_eq_take_drop,e2];simp[sl]
 rw[e3]
 constructor
 .intro h;exact h.2.symm
 .intro h
  refine⟨?_,h.symm⟩;have q:=congrArg List.length h;rw[List.length_take,List.length_drop]at q;lia
theorem zI (sub:List Nat):∀ (l:List Nat) (i:Nat),kK sub l i=match (List.range' i (l.length+1)).find? (fun j=>sub.isPrefixOf (l.drop (j - i)))with | some j=>(j:Int) | none=>-1
 | []=>fun i=>by
  rw[aNa];show _=match (List.range' i 1).find? _ with | some j=>(j:Int) | none=>-1
  rw[show List.range' i 1=[i]from rfl]
  cases sub with
  | nil=>simp
  | cons a r=>simp
 | c::l=>fun i=>by
  rw[aCv];have e:List.range' i ((c::l).length+1)=i::List.range' (i+1) (l.length+1):=rfl;rw[e]
  by_cases h:sub.isPrefixOf (c::l)=true
  .rw[if_pos h,List.find?_cons_of_pos (by simpa using h)]
  .rw[if_neg h,List.find?_cons_of_neg (by simpa using h),zI sub l (i+1)]
   have e2:(List.range' (i+1) (l.length+1)).find? (fun j=>sub.isPrefixOf (l.drop (j - (i+1))))=(List.range' (i+1) (l.length+1)).find? (fun j=>sub.isPrefixOf ((c::l).drop (j - i))):=by
    have:∀ (m:List Nat),(∀ j∈m,i+1<=j)->m.find? (fun j=>sub.isPrefixOf (l.drop (j - (i+1))))=m.find? (fun j=>sub.isPrefixOf ((c::l).drop (j - i))):=by
     intro m
     induction m with
     | nil=>intro _;rfl
     | cons j m ih =>
      intro hm;have hj:=hm j aF;have ej:j - i=(j - (i+1))+1:=by grind
      have ed:(c::l).drop (j - i)=l.drop (j - (i+1)):=by rw[ej];rfl
      rw[List.find?_cons,List.find?_cons,ed,ih fun k hk=>hm k (aE _ hk)]
    exact this _ fun j hj=>(List.mem_range'.mp hj).elim fun k hk=>by lia
   rw[e2]
theorem aMC (x y:Str):occurrences x y 0 x.length 1=match (List.range' 0 ((sl x).length+1)).find? (fun j=>(sl y).isPrefixOf ((sl x).drop j))with | some i=>[i] | none=>[]:=by
 have e1:x.length=(sl x).length:=by simp[sl,Str.length]
 rw[StrLaws.occ_eq,aBj x y _ 0 fun u_ u_=>Nat.zero_le _,e1,Nat.sub_zero]
 have e2:(List.range' 0 ((sl x).length+1)).find? (vK x y)=(List.range' 0 ((sl x).length+1)).find? (fun j=>(sl y).isPrefixOf ((sl x).drop j)):=by
  have:∀ (m:List Nat),(∀ j∈m,j<=(sl x).length)->m.find? (vK x y)=m.find? (fun j=>(sl y).isPrefixOf ((sl x).drop j)):=by
   intro m
   induction m with
   | nil=>intro _;rfl
   | cons j m ih =>
    intro hm;rw[List.find?_cons,List.find?_cons,aHO x y j (hm j aF),ih fun k hk=>hm k (aE _ hk)]
  exact this _ fun j hj=>(List.mem_range'.mp hj).elim fun k hk=>by lia
 rw[e2];cases(List.range' 0 ((sl x).length+1)).find? (fun j=>(sl y).isPrefixOf ((sl x).drop j)) <;> rfl
theorem aM9 (x y:Str):Txt.find x y=kK (sl y) (sl x) 0:=by
 unfold Txt.find;rw[aMC,zI];simp only[Nat.sub_zero];cases(List.range' 0 ((sl x).length+1)).find? (fun j=>(sl y).isPrefixOf ((sl x).drop j)) <;> rfl
set_option tactic.hygienic true in
theorem aHn {Own:Addr->Prop}{h:Heap}{vs:List Value}{xs:List PyData}{k:List (List Nat)}(hx:bP (bL Own h) vs xs)(hk:aC5 xs=some k):∃ ps:List (Str × Tok),vs=strValues ps/\ps.map (fun p=>sl p.1)=k:=by
 induction hx generalizing k with
 | nil=>(replace hk:=(aA hk).symm;subst hk);exact⟨[],rfl,rfl⟩
 | cons h1 h2 ih =>
  rename_i a b as bs
  have hq0:∃ v0,b=.str v0:=by revert hk;generalize b=y0;intro hk;cases y0 <;> first | exact⟨_,rfl⟩ | exact cM hk | exact eR hk | cases hk
  (refine e1a1 hq0 ?_;try clear hq0;rintro i rfl);revert hk;refine cE fun k' hk' e0z=>?_;(replace e0z:=(aA e0z).symm;subst e0z);(refine e1a1 h1.str ?_;rintro t rfl);(refine e1a2 (ih hk') ?_;rintro ps rfl e);exact⟨(i,t)::ps,rfl,by simp[e]⟩
theorem aGv (sep:Str):∀ ls:List Str,Str.join sep ls=⟨⟨eV (sl sep) (ls.map sl)⟩⟩
 | []=>rfl
 | [x]=>rfl
 | x::y::r=>by
  show x++sep++Str.join sep (y::r)=_;rw[aGv sep (y::r)]
  apply Str.ext'
  show(x.cps++sep.cps)++_=_
  apply Array.toList_inj.mp
  simp[aGw,sl]
theorem aBu (sep:List Nat):∀ ls:List (List Nat),(ls.map (·.length)).sum+ls.length * sep.length<=(eV sep ls).length+sep.length
 | []=>by simp[aMR]
 | [x]=>by simp[aMS]
 | x::y::r=>by
  have:=aBu sep (y::r);show x.length+((y::r).map (·.length)).sum+((y::r).length+1) * sep.length<=(x++sep++eV sep (y::r)).length+sep.length;rw[aG,aG,Nat.succ_mul]
  grind
section
variable {prog:Program} {w:World} {A:Around} {Er:Value->Shared->Prop} {s:Shared} {Q:Value->Shared->Prop} {Own:Addr->Prop}
theorem lG {id:String}{pos:Pos}{t u:Sem Value}(h:wpAny (model prog w) A t (fun v s₁=>wpAny (model prog w) A u (fun v2 s₂=>wpAny (model prog w) A (call (.builtin id) [v,v2]) Q Er s₂) Er s₁) Er s) :
  wpAny (model prog w) A (callWith pos (.builtin id) [] [(false,t),(false,u)] []) Q Er s :=
 Calls.callWith_builtin rfl (Calls.evalArgs_plain (Calls.spliced_cons (wpAny_mono h (fun u_ u_ h₁=>Calls.spliced_cons (wpAny_mono h₁ (fun u_ u_ h₂=>Calls.spliced_nil h₂) fun u_ u_ e=>e)) fun u_ u_ e=>e)))
end
section
variable {c:cG}
theorem aOQ {p:P2}(hp:aEY p=true){prog:Program}{w:World}{A:Around}{Er:Value->Shared->Prop}{s:Shared}{Q:Value->Shared->Prop}{Own:Addr->Prop}(hu:A.units+64 < cLine){k:Nat}{v:Value}{x y z:PyData}{pos:Pos}{a:Sem Value}
  (r:eS Own k s.heap v x) (hz:wF p x y=some z)
  (ha:∀ Q1:Value->Shared->Prop,(∀ v2 s2,cS s s2->bL Own s2.heap v2 y->Q1 v2 s2)->wpAny (model prog w) A a Q1 Er s)
  (h:∀ v' s',cS s s'->bL Own s'.heap v' z->Q v' s') :
  MethodOnS prog w A Er (yD p) v pos [(false,a)] Q s:=by
 cases p with
 | join =>
  have hq0:∃ v0,x=.str v0:=by revert hz;generalize x=y0;intro hz;cases y0 <;> first | exact⟨_,rfl⟩ | exact cM hz | exact eR hz | cases hz
  (refine e1a1 hq0 ?_;try clear hq0;rintro x rfl);have hq0:∃ v0,y=.list v0:=by revert hz;generalize y=y0;intro hz;cases y0 <;> first | exact⟨_,rfl⟩ | exact cM hz | exact eR hz | cases hz
  (refine e1a1 hq0 ?_;try clear hq0;rintro ys rfl);revert hz;refine cE fun ls hls hz=>?_;revert hz;refine ifs fun hle hz=>?_;(replace hz:=(aA hz).symm;subst hz);(refine e1a1 r.any.str ?_;rintro t rfl);refine SB.join (ha _ fun v2 s2 st2 r2=>?_);(refine e2a3 (eS.zero r2) ?_;rintro D vs rfl hl hx);(refine e1a2 (aHn hx hls) ?_;rintro ps e e2);have e3:vs=(strValues ps).toArray:=by apply Array.toList_inj.mp;rw[e]
  have e4:(ps.map (·.1)).map sl=ls:=by rw[List.map_map];exact e2
  have e5:Txt.join x (ps.map (·.1))=⟨⟨eV (sl x) ls⟩⟩:=by
   unfold Txt.join;rw[StrLaws.glued_eq_join,aGv,e4]
  refine⟨D,ps,rfl,e3 ▸ hl.isList,_,rfl,?_,fun t' k=>?_⟩
  .unfold JoinOk
   rw[StrLaws.joinTotal,Bool.not_eq_true']
   have e6:(ps.map (·.1)).map (fun q:Str=>q.length)=ls.map (·.length):=by
    rw[<-e4,List.map_map,List.map_map,List.map_map]
    apply List.map_congr_left
    intro q _;simp[sl,Str.length]
   have e7:(ps.map (·.1)).length=ls.length:=by rw[<-e4];simp
   rw[e6,e7,show x.length=(sl x).length by simp[sl,Str.length]]
   have:=aBu (sl x) ls;have h1:(eV (sl x) ls).length<=1000000:=hle.1;have h2:(sl x).length<=1000000:=hle.2.2;unfold tooLong;refine decide_eq_false (Nat.not_lt.mpr ?_);rw[sizeLine_eq];lia
  .rw[e5]
   exact h _ _ (st2.trans .toks) .mkStr
 | find =>
  have hq0:∃ v0,x=.str v0:=by revert hz;generalize x=y0;intro hz;cases y0 <;> first | exact⟨_,rfl⟩ | exact cM hz | exact eR hz | cases hz
  (refine e1a1 hq0 ?_;try clear hq0;rintro x rfl);have hq0:∃ v0,y=.str v0:=by revert hz;generalize y=y0;intro hz;cases y0 <;> first | exact⟨_,rfl⟩ | exact cM hz | exact eR hz | cases hz
  (refine e1a1 hq0 ?_;try clear hq0;rintro y rfl);refine ifs (fun hle hz=>?_) hz;(replace hz:=(aA hz).symm;subst hz);(refine e1a1 r.any.str ?_;rintro t rfl);refine SB.find (ha _ fun v2 s2 st2 r2=>?_);(refine e1a1 r2.str ?_;rintro u rfl);refine⟨y,u,rfl,?_⟩;rw[aM9];exact h _ _ (st2.trans .toks) .mkInt
 | _=>exact eR hp
set_option tactic.hygienic true in
theorem aNZ (C:bE c){p:P2}{a b:X}(ha:bG c a)(hb:bG c b):bG c (.p2 p a b):=by
 intro n A env Own M E s e d Q Er X hc ho he h;dsimp only[aBL]at hc;(refine aPf (aJM.symm.trans ho) ?_;try clear ho;rintro o1 o2 o3 o4);revert he;refine cE fun y hy=>cE fun y2 hy2 hz=>?_
 split at hc
 .rename_i hm
  (refine e4a6 (nA hc) ?_;rintro o z ap q rfl h1 h2 h3 h4 h5);refine Call_method1 (eA h1) (jW h3) h2 (ha n A env Own M E s o y _ Er X h4 o1 hy fun v s' st r _=>?_);refine aOQ hm (X.stp C st).units r hz (fun Q1 hq=>hb n A env Own M E s' z y2 _ Er (X.stp C st) h5 o2 hy2 fun v2 s2 st2 r2 _=>hq v2 s2 st2 (by rw[o4]at r2;exact r2)) ?_
  exact fun v' s2 st2 r2=>h v' s2 (st.trans st2) r2 fun q=>nomatch q
 .rename_i hm
  (refine e4a6 (aGK hc) ?_;rintro z t p0 q rfl h1 h2 h3 h4 h5)
  cases p with
  | min2 =>
   refine wpAny_Call_NameR (pV C (x:="min") (by decide) X.eok X.base h1 ?_)
   rw[aEN h2 h3];refine lG (ha n A env Own M E s z y _ Er X h4 o1 hy fun v s' st r _=>hb n A env Own M E s' t y2 _ Er (X.stp C st) h5 o2 hy2 fun v2 s2 st2 r2 _=>?_);have hq0:∃ v0,y=.int v0:=by revert hz;generalize y=y0;intro hz;cases y0 <;> first | exact⟨_,rfl⟩ | exact cM hz | exact eR hz | cases hz
   (refine e1a1 hq0 ?_;try clear hq0;rintro i rfl);have hq0:∃ v0,y2=.int v0:=by revert hz;generalize y2=y0;intro hz;cases y0 <;> first | exact⟨_,rfl⟩ | exact cM hz
   (refine e1a1 hq0 ?_;try clear hq0;rintro j rfl);(replace hz:=(aA hz).symm;subst hz);(refine e1a1 r.any.int ?_;rintro u rfl);(refine e1a1 r2.any.int ?_;rintro u2 rfl);refine min_two_ints X.room.hand fun h' tk hk=>?_;have st5:=(st.trans st2).trans (cS.of (s:=s2) (tk:=tk) hk)
   split
   .rename_i hl;exact h _ _ st5 (by rw[if_pos hl];exact .mkInt) fun q=>nomatch q
   .rename_i hl;exact h _ _ st5 (by rw[if_neg hl];exact .mkInt) fun q=>nomatch q
  | max2 =>
   refine wpAny_Call_NameR (pV C (x:="max") (by decide) X.eok X.base h1 ?_)
   rw[aEN h2 h3];refine lG (ha n A env Own M E s z y _ Er X h4 o1 hy fun v s' st r _=>hb n A env Own M E s' t y2 _ Er (X.stp C st) h5 o2 hy2 fun v2 s2 st2 r2 _=>?_);have hq0:∃ v0,y=.int v0:=by revert hz;generalize y=y0;intro hz;cases y0 <;> first | exact⟨_,rfl⟩ | exact cM hz | exact eR hz | cases hz
   (refine e1a1 hq0 ?_;try clear hq0;rintro i rfl);have hq0:∃ v0,y2=.int v0:=by revert hz;generalize y2=y0;intro hz;cases y0 <;> first | exact⟨_,rfl⟩ | exact cM hz
   (refine e1a1 hq0 ?_;try clear hq0;rintro j rfl);(replace hz:=(aA hz).symm;subst hz);(refine e1a1 r.any.int ?_;rintro u rfl);(refine e1a1 r2.any.int ?_;rintro u2 rfl);refine max_two_ints X.room.hand fun h' tk hk=>?_;have st5:=(st.trans st2).trans (cS.of (s:=s2) (tk:=tk) hk)
   split
   .rename_i hl;exact h _ _ st5 (by rw[if_pos (show i < j from hl)];exact .mkInt) fun q=>nomatch q
   .rename_i hl;exact h _ _ st5 (by rw[if_neg (show ¬ i < j from hl)];exact .mkInt) fun q=>nomatch q
  | _=>exact nbf hm
theorem aOR (p:P2)(a b:X)(n:Nat)(sc:Scope)(e:Expr)(hc:aS c.fnm c.rk n sc (.p2 p a b) e=true):∃ f as ks q,e=.Call f as ks q:=by
 dsimp only[aBL]at hc
 split at hc
 ·(refine e4a4 (nA hc) ?_;rintro o z ap q rfl h1 h2 h3);exact⟨_,_,_,_,rfl⟩
 ·(refine e4a4 (aGK hc) ?_;rintro z t p0 q rfl h1 h2 h3);exact⟨_,_,_,_,rfl⟩
theorem aQL {p:P2}{a b:X}(hv:bG c (.p2 p a b)):fW c (.p2 p a b) :=
 cP hv fun n sc e hc=>by
  (refine e4a1 (aOR p a b n sc e hc) ?_;rintro f as ks q rfl);rfl
end
noncomputable def jZ (OX:Addr->Prop)(h h':Heap):Prop:=∀ b o vs n,h.get? b=some o->o.data=.seq vs n->(o.cls=.type "tuple"\/¬ OX b)->h'.get? b=some o
theorem jZ.refl {OX:Addr->Prop}(h:Heap):jZ OX h h:=fun u_ u_ u_ u_ e u_ u_=>e
theorem jZ.trans {OX:Addr->Prop}{a b c:Heap}(x:jZ OX a b)(y:jZ OX b c):jZ OX a c:=fun u_ u_ u_ u_ e d q=>y _ _ _ _ (x _ _ _ _ e d q) d q
theorem jZ.of {OX:Addr->Prop}{h h':Heap}(k:bY h h'):jZ OX h h':=fun u_ u_ u_ u_ e u_ u_=>k _ _ e
theorem Reads.kpf {OX:Addr->Prop}{h h':Heap}(k:jZ OX h h'):∀ {v:Value} {d:PyData} {as:List Addr},Reads h v d as->(∀ a∈as,¬ OX a/\Pl h a)->Reads h' v d as:=by
 intro v d as r;refine Reads.rec (motive_1:=fun v d as u_=>(∀ a∈as,¬ OX a/\Pl h a)->Reads h' v d as) (motive_2:=fun vs ds as u_=>(∀ a∈as,¬ OX a/\Pl h a)->ReadsAll h' vs ds as) ?_ ?_ ?_ ?_ ?_ ?_ ?_ ?_ ?_ r
 .exact fun u_=>.none
 .exact fun u_ u_=>.bool _
 .exact fun u_ u_ u_=>.int _ _
 .exact fun u_ u_ u_=>.str _ _
 .intro a o vs n xs as ho hc hd _ ih q
  exact .list (k a o vs n ho hd (.inr (q a aF).1)) hc hd (ih fun b m=>q b (aE _ m))
 .intro a o vs n xs as ho hc hd _ ih q
  exact .tuple (k a o vs n ho hd (.inl hc)) hc hd (ih q)
 .intro a o es n kvs as bs ho hc hd _ _ _ _ q
  (refine cA fun G_ hG_=>?_;rcases q a (aW _ aF)with ⟨u_,vs,n',ho'⟩;all_goals (refine hG_ ?_;clear hG_ G_))
  rw[ho]at ho';have e:=aA ho';subst e;cases hd
 .exact fun u_=>.nil
 .intro v vs d ds as bs _ _ ih1 ih2 q
  exact .cons (ih1 fun a m=>q a (aW _ m)) (ih2 fun a m=>q a (aZ _ m))
theorem Pl.kpf {OX:Addr->Prop}{h h':Heap}(k:jZ OX h h'){a:Addr}(x:Pl h a)(ha:¬ OX a):Pl h' a:=let ⟨vs,n,e⟩:=x;⟨vs,n,k a _ vs n e rfl (.inr ha)⟩
theorem bL.kpf {OX:Addr->Prop}{h h':Heap}(k:jZ OX h h'){v:Value}{d:PyData}(x:bL OX h v d):bL OX h' v d :=
 let ⟨as,r,n⟩:=x;⟨as,Reads.kpf k r n,fun a m=>⟨(n a m).1,(n a m).2.kpf k (n a m).1⟩⟩
noncomputable def HdD (o:Obj):Prop:=∃ hs t v n,o.data=.dict #[⟨hs,.str "_headers" t,v⟩] n
structure Mv (old:Addr->Prop)(fp:List Addr)(gs:List Nat)(s s':Shared):Prop where
 keep:∀ b o,b ∉ fp->(old b\/∀ fs,o.data≠.fields fs)->s.heap.get? b=some o->s'.heap.get? b=some o
 seq:∀ b o vs n,o.data=.seq vs n->s.heap.get? b=some o->s'.heap.get? b=some o
 hd:∀ b o,(o.data=.plain\/HdD o)->s.heap.get? b=some o->s'.heap.get? b=some o
 size:s.gens.size<=s'.gens.size
 gold:∀ i,i < s.gens.size->i ∉ gs->s'.gens[i]?=s.gens[i]?
 bare:AllBare s.gens->AllBare s'.gens
 os:s'.os=s.os
theorem Mv.heap {old:Addr->Prop}{fp:List Addr}{gs:List Nat}{s:Shared}{h':Heap}{tk:Nat}(hf:∀ b∈fp,∀ o,s.heap.get? b=some o->∃ fs,o.data=.fields fs)(k:∀ b o,b ∉ fp->s.heap.get? b=some o->h'.get? b=some o):Mv old fp gs s { s with heap:=h',toks:=tk } :=
 ⟨fun b o hb u_ e=>k b o hb e,fun b o vs n hd e=>k b o (fun m=>by(refine e1a1 (hf b m o e) ?_;rintro fs hq);rw[hd]at hq;cases hq) e,fun b o hd e=>k b o (fun m=>by(refine e1a1 (hf b m o e) ?_;rintro fs hq);rcases hd with hd | ⟨u_,u_,u_,u_,hd⟩ <;> rw[hd]at hq <;> cases hq) e,Nat.le_refl _,fun u_ u_ u_=>rfl,fun x=>x,rfl⟩
theorem Mv.mono {old old':Addr->Prop}{fp fp':List Addr}{gs gs':List Nat}{s s':Shared}(m:Mv old fp gs s s')(h:∀ b,old' b->old b)(hf:∀ b∈fp,b∈fp')(hg:∀ g∈gs,g∈gs'):Mv old' fp' gs' s s' :=
 ⟨fun b o hb q e=>m.keep b o (fun x=>hb (hf b x)) (q.imp (h b) id) e,m.seq,m.hd,m.size,fun i hi hn=>m.gold i hi fun x=>hn (hg i x),m.bare,m.os⟩
theorem Mv.trans {old:Addr->Prop}{fp:List Addr}{gs:List Nat}{a b c:Shared}(x:Mv old fp gs a b)(y:Mv old fp gs b c):Mv old fp gs a c :=
 ⟨fun d o hd q e=>y.keep d o hd q (x.keep d o hd q e),fun d o vs n hd e=>y.seq d o vs n hd (x.seq d o vs n hd e),fun d o hd e=>y.hd d o hd (x.hd d o hd e),aP x.size y.size,
  fun i hi hn=>(y.gold i (Nat.lt_of_lt_of_le hi x.size) hn).trans (x.gold i hi hn),fun h=>y.bare (x.bare h),y.os.trans x.os⟩
theorem Mv.of_stp {old:Addr->Prop}{fp:List Addr}{gs:List Nat}{s s':Shared}(x:cS s s'):Mv old fp gs s s' :=
 ⟨fun b o u_ u_ e=>x.keep b o e,fun b o u_ u_ u_ e=>x.keep b o e,fun b o u_ e=>x.keep b o e,x.gk.size,fun i hi u_=>x.gk.old i hi,x.gk.bare,x.os⟩
theorem Mv.refl {old:Addr->Prop}{fp:List Addr}{gs:List Nat}(s:Shared):Mv old fp gs s s:=⟨fun u_ u_ u_ u_ e=>e,fun u_ u_ u_ u_ u_ e=>e,fun u_ u_ u_ e=>e,Nat.le_refl _,fun u_ u_ u_=>rfl,fun x=>x,rfl⟩
set_option tactic.hygienic true in
structure Wk (c:cG)(A:Around)(OX:Addr->Prop)(s0:Shared)(tupT:Bool)(it:Value)(fp wr:List Addr)(gs:List Nat)(St:List PyData->Shared->Prop)(Mid:PyData->List PyData->Value->Shared->Prop):Prop where
 stay:∀ ds s s',St ds s->(∀ b o,(b∈fp\/∃ fs,o.data=.fields fs)->s.heap.get? b=some o->s'.heap.get? b=some o)->(∀ g∈gs,s'.gens[g]?=s.gens[g]?)->jZ OX s0.heap s'.heap->St ds s'
 liv:∀ ds s,St ds s->∀ b∈fp,∃ o,s.heap.get? b=some o
 next:∀ d ds s (Q:Option Value->Shared->Prop) (Er:Value->Shared->Prop),dK c s.heap->St (d::ds) s->jZ OX s0.heap s.heap ->
  (∀ v s',Mv (fun b=>∃ o,s0.heap.get? b=some o) wr gs s s'->Mid d ds v s'->Q (some v) s')->wpAny (model c.prog c.w) A (pyNext it) Q Er s
 go:∀ target d ds v s (Q:Unit->Shared->Prop) (Er:Value->Shared->Prop),(tupT=true->∃ es k p,target=Expr.Tuple es k p)->Mid d ds v s->jZ OX s0.heap s.heap ->
  (∀ s',Mv (fun b=>∃ o,s0.heap.get? b=some o) wr gs s s'->St ds s'->bL OX s'.heap v d->Q () s')->wpAny (model c.prog c.w) A (letOwnedTupleGo target it v) Q Er s
 done:∀ s (Q:Option Value->Shared->Prop) (Er:Value->Shared->Prop),dK c s.heap->St [] s->(∀ s',Mv (fun b=>∃ o,s0.heap.get? b=some o) wr gs s s'->Q none s')->wpAny (model c.prog c.w) A (pyNext it) Q Er s
 self:∀ ds s (Q:Value->Shared->Prop) (Er:Value->Shared->Prop),St ds s->Q it s->wpAny (model c.prog c.w) A (pyIter it) Q Er s
noncomputable def xO:List String:=["enumerate","zip","dict_itemiterator","dict_reverseitemiterator","odict_iterator","itertools.zip_longest","itertools.pairwise"]
theorem aO4 (t:Expr)(r:Addr)(v:Value)(p:Pos):letOwnedTupleGo t (.ref r) v=letOwnedTupleGo (.Tuple [] 0 p) (.ref r) v\/letOwnedTupleGo t (.ref r) v=pure ():=by
 cases t <;> first | exact .inl rfl | exact .inr rfl
theorem aDR {M:Model}{A:Around}{target:Expr}{I:Addr}{v:Value}{s:Shared}{o:Obj}{n:String}{Q:Unit->Shared->Prop}{Er:Value->Shared->Prop}
  (ho:s.heap.get? I=some o) (hc:o.cls=.type n) (hn:xO.contains n=false) (h:Q () s):wpAny M A (letOwnedTupleGo target (.ref I) v) Q Er s:=by
 rcases aO4 target I v default with e | e
 .rw[e]
  clear e
  cases v with
  | ref a =>
   refine wpAny_bind (wpAny_load ho ?_);(refine cA fun G_ hG_=>?_;rcases o with ⟨cls,dd,data,slo⟩;all_goals (refine hG_ ?_;clear hG_ G_))
   cases hc
   cases data with
   | fields vs =>
    show wpAny _ _ (if (xO.contains n && vs[0]? == some (rawInt a))=true then _ else _) _ _ _
    rw[hn,Bool.false_and,if_neg aN];exact wpAny_pure h
   | _=>exact wpAny_pure h
  | _=>exact wpAny_pure h
 .rw[e]
  exact wpAny_pure h
theorem aKW {I:Addr}{nm:String}{St:Nat->Heap->Prop}(hcls:∀ i h,St i h->∃ o fs,h.get? I=some o/\o.cls=.type nm/\o.data=.fields fs){i:Nat}{h:Heap}(st:St i h):∀ b∈[I],∀ o,h.get? b=some o->∃ fs,o.data=.fields fs:=by
 intro b hb o ho
 rcases aM hb with rfl | hb
 ·(refine e2a3 (hcls i h st) ?_;rintro o' fs ho' u_ hd)
  rw[ho]at ho';(replace ho':=(aA ho').symm;subst ho');exact⟨fs,hd⟩
 .cases hb
set_option tactic.hygienic true in
theorem Wk.of {c:cG}{A:Around}{OX:Addr->Prop}{s0:Shared}{I:Addr}{fp:List Addr}{n:Nat}{P:Nat->Value->Prop}{St:Nat->Heap->Prop}{nm:String}{xs:List PyData}
  (W:Walks c.prog c.w A I fp [I] n P St) (hn:xs.length=n) (hsp:xO.contains nm=false)
  (hcls:∀ i h,St i h->∃ o fs,h.get? I=some o/\o.cls=.type nm/\o.data=.fields fs)
  (hliv:∀ i h,St i h->∀ b∈fp,∃ o,h.get? b=some o)
  (hrd:∀ i v d h,xs[i]?=some d->P i v->jZ OX s0.heap h->bL OX h v d) :
  Wk c A OX s0 false (.ref I) fp [I] [] (fun ds s=>∃ i,i<=n/\ds=xs.drop i/\St i s.heap) (fun d ds v s=>∃ i,i < n/\xs[i]?=some d/\ds=xs.drop (i+1)/\P i v/\St (i+1) s.heap) where
 stay:=by
  rintro ds s s' hz_;(refine e1a3 hz_ ?_;try clear hz_;rintro i hi rfl st);rintro hk _ _;exact⟨i,hi,rfl,W.frame i _ _ st fun b hb o e=>hk b o (.inl hb) e⟩
 liv:=by
  rintro ds s hz_;(refine e1a3 hz_ ?_;try clear hz_;rintro i hi rfl st);exact hliv i _ st
 next:=by
  rintro d ds s Q Er B hz_;(refine e1a3 hz_ ?_;try clear hz_;rintro i hi e st);rintro _ hQ
  have hlt:i < n:=by
   rcases Nat.lt_or_ge i n with h | h
   .exact h
   .rw[List.drop_of_length_le (by lia)]at e;cases e
  have e2:xs.drop i=xs[i]::xs.drop (i+1):=List.drop_eq_getElem_cons (by lia)
  rw[e2]at e;obtain ⟨rfl,rfl⟩:=List.cons.inj e;refine W.item i s Q Er hlt st fun v h' tk hP st' hk=>?_;exact hQ v _ (.heap (aKW hcls st) fun b o hb e=>hk b o hb e) ⟨i,hlt,by simp,rfl,hP,st'⟩
 go:=by
  rintro target d ds v s Q Er _ hz_;(refine e1a5 hz_ ?_;try clear hz_;rintro i hi hx rfl hP st);rintro kp hQ;(refine e2a3 (hcls _ _ st) ?_;rintro o fs ho hc _);exact aDR ho hc hsp (hQ s (.refl s) ⟨i+1,hi,rfl,st⟩ (hrd i v d _ hx hP kp))
 done:=by
  rintro s Q Er B hz_;(refine e1a3 hz_ ?_;try clear hz_;rintro i hi e st);rintro hQ
  have:i=n:=by
   have q:=congrArg List.length e;rw[List.length_nil,List.length_drop]at q
   grind
  subst this;exact W.done s Q Er st fun h' tk hk=>hQ _ (.heap (aKW hcls st) fun b o hb e=>hk b o hb e)
 self:=by
  rintro ds s Q Er hz_;(refine e1a3 hz_ ?_;try clear hz_;rintro i hi rfl st);rintro hQ;exact W.self i s Q Er st hQ
noncomputable def qL (Own:Addr->Prop)(s0:Shared):Addr->Prop:=fun a=>Own a\/s0.heap.get? a=none
noncomputable def nQ (c:cG)(A:Around)(Own:Addr->Prop)(k:Nat)(tupT:Bool)(s s0:Shared)(it:Value)(ds:List PyData):Prop :=
 ∃ fp wr gs St Mid,Wk c A (qL Own s0) s0 tupT it fp wr gs St Mid/\St ds s0/\(∀ b∈wr,b∈fp/\s.heap.get? b=none) /\
  (∀ b∈fp,(∃ o,s0.heap.get? b=some o)/\(s.heap.get? b=none\/∃ o vs n,s.heap.get? b=some o/\o.data=.seq vs n/\(o.cls=.type "tuple"\/(k=0->¬ Own b)))) /\
  (∀ g∈gs,s.gens.size<=g/\g < s0.gens.size)
theorem aJv {Own:Addr->Prop}{s0:Shared}{v:Value}{d:PyData}(x:bL Own s0.heap v d):bL (qL Own s0) s0.heap v d :=
 x.grow fun a h hl=>by
  rcases h with h | h
  .exact h
  ·(refine e1a1 hl ?_;try clear hl;rintro o ho);rw[h]at ho;exact cM ho
theorem Heap.fresh_size (h:Heap):h.get? h.objs.size=none:=Heap.get?_none_of_le (Nat.le_refl _)
theorem aQ7 {h:Heap}{a:Addr}(x:∃ o,h.get? a=some o):∀ b∈[a],∃ o,h.get? b=some o:=fun b m=>by rw[aH m];exact x
theorem aQ6 {h:Heap}{a a':Addr}(x:∃ o,h.get? a=some o)(y:∃ o,h.get? a'=some o):∀ b∈[a,a'],∃ o,h.get? b=some o:=fun b m=>by
 rcases aM m with rfl | m
 .exact x
 .rw[aH m];exact y
section
variable {c:cG} {A:Around} {Er:Value->Shared->Prop} {s1 s:Shared} {Q:Value->Shared->Prop} {Own:Addr->Prop}
theorem aCt (st:cS s1 s):s1.heap.get? s.heap.objs.size=none:=by
 cases hh:s1.heap.get? s.heap.objs.size with
 | none=>rfl
 | some o=>exact absurd (Heap.lt_size (st.keep _ _ hh)) (Nat.lt_irrefl _)
theorem aBW (st:cS s1 s){l:List Addr}:∀ b∈[s.heap.objs.size],b∈s.heap.objs.size::l/\s1.heap.get? b=none:=by
 intro b hb
 rcases aM hb with rfl | hb
 .exact⟨aF,aCt st⟩
 .cases hb
theorem aMV (hh:A.handled=none)(st:cS s1 s){k:Nat}(hk:k<=1){v:Value}{xs:List PyData}(r:eS Own k s.heap v (.list xs))
  (h:∀ v s0,cS s s0->nQ c A Own k false s1 s0 v xs->Q v s0) (hfr:k=0->∀ a,v=.ref a->¬ Own a):wpAny (model c.prog c.w) A (pyIter v) Q Er s:=by
 (refine e2a3 (r.one hk) ?_;rintro a vs rfl hl hx);refine wpAny_pyIter_list hl.isList (h _ _ .push ?_);have hne:a≠s.heap.objs.size:=by(refine e1a1 hl ?_;try clear hl;rintro n ho);exact Nat.ne_of_lt (Heap.lt_size ho)
 have ek:bY s.heap (s.heap.push { cls:=.type "list_iterator",data:=.fields #[.ref a,.int 0 0] }):=.push _ _;have elen:=hx.length;rw[Array.length_toList]at elen
 refine⟨[s.heap.objs.size,a],[s.heap.objs.size],[],_,_,Wk.of (nm:="list_iterator") (xs:=xs) (Walks.list hh _ a hne vs) elen.symm (by decide)
  (fun i h st=>let ⟨o,ho,hc,hd⟩:=st.1;⟨o,_,ho,hc,hd⟩) (fun i h st=>aQ6 (let ⟨o,ho,_⟩:=st.1;⟨o,ho⟩) (let ⟨o,ho,_⟩:=st.2;⟨o,ho⟩)) ?_,⟨0,Nat.zero_le _,rfl,⟨_,Heap.get?_push_size _ rfl,rfl,rfl⟩,(PlainList.keep ek hl).isList⟩,aBW st,?_,fun u_ m=>nomatch m⟩
 .intro i v d h' hxi hv kp
  (refine e1a2 (hx.get hxi) ?_;rintro b hb hr);rw[Array.getElem?_toList]at hb;have:b=v:=aA (hb.symm.trans hv);subst this;exact(aJv (hr.keep ek)).kpf kp
 .intro b hb
  rcases aM hb with rfl | hb
  .refine⟨⟨_,Heap.get?_push_size _ rfl⟩,.inl ?_⟩
   cases hh:s1.heap.get? s.heap.objs.size with
   | none=>rfl
   | some o=>exact absurd (Heap.lt_size (st.keep _ _ hh)) (Nat.lt_irrefl _)
  .rcases aM hb with rfl | hb
   ·(refine e1a1 hl ?_;try clear hl;rintro n ho)
    refine⟨⟨_,ek _ _ ho⟩,?_⟩
    cases hh:s1.heap.get? b with
    | none=>exact .inl rfl
    | some o =>
     have:=st.keep _ _ hh;rw[ho]at this;(replace this:=(aA this).symm;subst this);exact .inr ⟨_,_,_,rfl,rfl,.inr fun e=>hfr e b rfl⟩
   .cases hb
theorem aKt (hh:A.handled=none)(st:cS s1 s){k:Nat}{v:Value}{xs:List PyData}(r:eS Own k s.heap v (.tuple xs))
  (h:∀ v s0,cS s s0->nQ c A Own k false s1 s0 v xs->Q v s0):wpAny (model c.prog c.w) A (pyIter v) Q Er s:=by
 (refine e2a3 ((r.nolist fun u_ q=>by cases q).untuple) ?_;rintro a vs rfl hl hx)
 refine wpAny_pyIter_tuple hl (h _ _ .push ?_);have hne:a≠s.heap.objs.size:=by(refine e1a2 hl ?_;try clear hl;rintro o ho u_);exact Nat.ne_of_lt (Heap.lt_size ho)
 have ek:bY s.heap (s.heap.push { cls:=.type "tuple_iterator",data:=.fields #[.ref a,.int 0 0] }):=.push _ _;have elen:=hx.length;rw[Array.length_toList]at elen
 refine⟨[s.heap.objs.size,a],[s.heap.objs.size],[],_,_,Wk.of (nm:="tuple_iterator") (xs:=xs) (Walks.tuple hh _ a hne vs) elen.symm (by decide)
  (fun i h st=>let ⟨o,ho,hc,hd⟩:=st.1;⟨o,_,ho,hc,hd⟩) (fun i h st=>aQ6 (let ⟨o,ho,_⟩:=st.1;⟨o,ho⟩) (let ⟨o,ho,_⟩:=st.2;⟨o,ho⟩)) ?_,⟨0,Nat.zero_le _,rfl,⟨_,Heap.get?_push_size _ rfl,rfl,rfl⟩,hl.push _⟩,aBW st,?_,fun u_ m=>nomatch m⟩
 .intro i v d h' hxi hv kp
  (refine e1a2 (hx.get hxi) ?_;rintro b hb hr);rw[Array.getElem?_toList]at hb;have:b=v:=aA (hb.symm.trans hv);subst this;exact(aJv (hr.keep ek)).kpf kp
 .intro b hb
  rcases aM hb with rfl | hb
  .refine⟨⟨_,Heap.get?_push_size _ rfl⟩,.inl ?_⟩
   cases hh:s1.heap.get? s.heap.objs.size with
   | none=>rfl
   | some o=>exact absurd (Heap.lt_size (st.keep _ _ hh)) (Nat.lt_irrefl _)
  .rcases aM hb with rfl | hb
   ·(refine e1a3 hl ?_;try clear hl;rintro o ho hc hz_;obtain ⟨n,hd⟩:=hz_)
    refine⟨⟨_,ek _ _ ho⟩,?_⟩
    cases hh:s1.heap.get? b with
    | none=>exact .inl rfl
    | some o' =>
     have:=st.keep _ _ hh;rw[ho]at this;(replace this:=(aA this).symm;subst this);exact .inr ⟨_,_,_,rfl,hd,.inl hc⟩
   .cases hb
theorem aPu (hh:A.handled=none)(st:cS s1 s){k:Nat}{v:Value}{x:Str}(ha:mF (sl x)=true)(r:eS Own k s.heap v (.str x))
  (h:∀ v s0,cS s s0->nQ c A Own k false s1 s0 v (jN (sl x))->Q v s0):wpAny (model c.prog c.w) A (pyIter v) Q Er s:=by
 (refine e1a1 r.any.str ?_;rintro t rfl)
 have hasc:x.cps.all (·< 128)=true:=by
  rw[<-Array.all_toList];refine cD fun c hc=>?_;have:=aJ ha c hc
  simpa using this
 refine wpAny_pyIter_ascii hasc (h _ _ .push ?_)
 refine⟨[s.heap.objs.size],[s.heap.objs.size],[],_,_,Wk.of (nm:="str_ascii_iterator") (xs:=jN (sl x)) (Walks.strAscii hh _ x t) (by simp[jN,sl]) (by decide)
  (fun i h st=>let ⟨o,ho,hc,hd⟩:=st;⟨o,_,ho,hc,hd⟩) (fun i h st=>aQ7 (let ⟨o,ho,_⟩:=st;⟨o,ho⟩)) ?_,⟨0,Nat.zero_le _,rfl,_,Heap.get?_push_size _ rfl,rfl,rfl⟩,aBW st,?_,fun u_ m=>nomatch m⟩
 .intro i v d h' hxi hv kp
  (refine e2a2 hv ?_;try clear hv;rintro b u hb rfl)
  have:d=S [b]:=by
   simp only[jN,sl,List.getElem?_map,Array.getElem?_toList,hb,Option.map_some,Option.some.injEq]at hxi;exact hxi.symm
  subst this;exact .mkStr
 .intro b hb
  rcases aM hb with rfl | hb
  .exact⟨⟨_,Heap.get?_push_size _ rfl⟩,.inl (aCt st)⟩
  .cases hb
theorem jA (a c:Int):∀ n,(mL a c n).length=n
 | 0=>rfl
 | n+1=>by simp[aB5,jA (a+c) c n]
theorem xV (c:Int):∀ (n:Nat) (a:Int) (i:Nat) (d:PyData),(mL a c n)[i]?=some d->d=.int (a+i * c)
 | 0,_,_=>fun _ h=>by simp[aOL]at h
 | n+1,a,0=>fun d h=>by simp[aB5]at h;simp[<-h]
 | n+1,a,i+1=>fun d h=>by
  simp only[aB5,List.getElem?_cons_succ]at h;rw[xV c n (a+c) i d h]
  congr 1
  push_cast
  rw[Int.add_mul,Int.one_mul];lia
theorem aDG (hh:A.handled=none)(st:cS s1 s){k:Nat}{r:Addr}{a b st':Int}{t u w':Tok}(hr:IsRange s.heap r a b st' t u w')(hsm:Builtin.Range.small a b st'=true){n:Nat}(hn:Builtin.Range.rangeSize a b st'=n)
  (h:∀ v s0,cS s s0->nQ c A Own k false s1 s0 v (mL a st' n)->Q v s0):wpAny (model c.prog c.w) A (pyIter (.ref r)) Q Er s:=by
 refine wpAny_pyIter_range hr hsm (h _ _ .push ?_)
 refine⟨[s.heap.objs.size],[s.heap.objs.size],[],_,_,Wk.of (nm:="range_iterator") (xs:=mL a st' n) (Walks.range hh _ a st' n) (jA _ _ _) (by decide)
  (fun i h st=>⟨_,_,st,rfl,rfl⟩) (fun i h st=>aQ7 ⟨_,st⟩) ?_,⟨0,Nat.zero_le _,rfl,?_⟩,aBW st,?_,fun u_ m=>nomatch m⟩
 .intro i v d h' hxi hv kp
  (refine e1a1 hv ?_;try clear hv;rintro u rfl);rw[xV st' n a i d hxi];exact .mkInt
 .rw[hn]
  have e:((0:Nat):Int)=0:=rfl;rw[e,Int.zero_mul,Int.add_zero,Int.sub_zero];exact Heap.get?_push_size _ rfl
 .intro b hb
  rcases aM hb with rfl | hb
  .exact⟨⟨_,Heap.get?_push_size _ rfl⟩,.inl (aCt st)⟩
  .cases hb
end
theorem jS:∀ (xs:List PyData)(j:Nat),(lE xs j).length=xs.length
 | []=>fun _=>rfl
 | _::xs=>fun j=>by simp[aCy,jS xs (j+1)]
theorem aBI:∀ (xs:List PyData)(j i:Nat)(x:PyData),xs[i]?=some x->(lE xs j)[i]?=some (.tuple [.int ((j+i:Nat):Int),x])
 | [],_,_=>fun _ h=>by simp at h
 | y::xs,j,0=>fun x h=>by simp at h;simp[aCy,h]
 | y::xs,j,i+1=>fun x h=>by
  simp only[aCy,List.getElem?_cons_succ]at h ⊢;rw[aBI xs (j+1) i x h]
  congr 5
  lia
theorem zN {h:Heap}{e it l:Addr}{vs:Array Value}(he:∃ o fs,h.get? e=some o/\o.data=.fields fs){j:Nat}(hi:h.IsListIter it l j):∀ b∈[e,it],∀ o,h.get? b=some o->∃ fs,o.data=.fields fs:=by
 intro b hb o ho;simp only[List.mem_cons,List.not_mem_nil,or_false]at hb
 rcases hb with rfl | rfl
 ·(refine e2a2 he ?_;try clear he;rintro o' fs ho' hd)
  rw[ho]at ho';(replace ho':=(aA ho').symm;subst ho');exact⟨fs,hd⟩
 ·(refine e1a3 hi ?_;try clear hi;rintro o' ho' u_ hd)
  rw[ho]at ho';(replace ho':=(aA ho').symm;subst ho');exact⟨_,hd⟩
section
variable {c:cG} {A:Around} {Er:Value->Shared->Prop} {s1 s:Shared} {Q:Value->Shared->Prop} {Own:Addr->Prop}
set_option tactic.hygienic true in
theorem Wk.enum {c:cG}{A:Around}(hh:A.handled=none){OX:Addr->Prop}{s0:Shared}{e it l:Addr}(hei:e≠it)(hle:l≠e)(hli:l≠it){vs:Array Value}{xs:List PyData}(hx:bP (bL OX s0.heap) vs.toList xs) :
  Wk c A OX s0 true (.ref e) [e,it,l] [e,it] []
   (fun ds s=>∃ i,i<=vs.size/\ds=(lE xs 0).drop i/\(∃ old,IsEnum s.heap e it i old)/\s.heap.IsListIter it l i/\s.heap.IsList l vs)
   (fun d ds v s=>∃ i T vals,i < vs.size/\v=.ref T/\(lE xs 0)[i]?=some d/\ds=(lE xs 0).drop (i+1)/\(∃ t x,vs[i]?=some x/\vals=#[.int i t,x])/\s.heap.IsTuple T vals /\
    ((∃ x,IsEnumOut s.heap e it ((i:Int)+1) x T)/\s.heap.IsListIter it l (i+1)/\s.heap.IsList l vs/\T≠e/\T≠it)) where
 stay:=by
  rintro ds s s' hz_;(refine e1a3 hz_ ?_;try clear hz_;rintro i hi rfl st);rintro hk _ _;exact⟨i,hi,rfl,(WalksT.enumerate (prog:=c.prog) (w:=c.w) (A:=A) hh e it l hei hle hli vs).frame i _ _ st fun b hb o e=>hk b o (.inl hb) e⟩
 liv:=by
  rintro ds s hz_;(refine e1a5 hz_ ?_;try clear hz_;rintro i hi rfl ⟨old,he⟩ hit hl);rintro b hb;simp only[List.mem_cons,List.not_mem_nil,or_false]at hb
  rcases hb with rfl | rfl | rfl
  .exact⟨_,he⟩
  ·(refine e1a2 hit ?_;try clear hit;rintro o ho _);exact⟨o,ho⟩
  ·(refine e1a2 hl ?_;try clear hl;rintro o ho _);exact⟨o,ho⟩
 next:=by
  rintro d ds s Q Er B hz_;(refine e1a3 hz_ ?_;try clear hz_;rintro i hi ee st);rintro _ hQ;have elen:=hx.length;rw[Array.length_toList]at elen;have en:(lE xs 0).length=vs.size:=by rw[jS,elen]
  have hlt:i < vs.size:=by
   rcases Nat.lt_or_ge i vs.size with h | h
   .exact h
   .rw[List.drop_of_length_le (by lia)]at ee;cases ee
  have e2:(lE xs 0).drop i=(lE xs 0)[i]::(lE xs 0).drop (i+1):=List.drop_eq_getElem_cons (by lia)
  rw[e2]at ee;obtain ⟨rfl,rfl⟩:=List.cons.inj ee;refine(WalksT.enumerate (A:=A) hh e it l hei hle hli vs).item i s Q Er hlt st fun T vals h' tk hP _ hT hm hk=>?_;exact hQ _ _ (.heap (zN (vs:=vs) (let ⟨old,he⟩:=st.1;⟨_,_,he,rfl⟩) st.2.1) fun b o hb e=>hk b o hb e) ⟨i,T,vals,hlt,rfl,by simp,rfl,hP,hT,hm⟩
 go:=by
  rintro target d ds v s Q Er ht hz_;(refine e3a7 hz_ ?_;try clear hz_;rintro i T vals hi rfl hxi rfl ⟨t,x,hvx,rfl⟩ hT hm);rintro kp hQ;(refine e3a1 (ht rfl) ?_;rintro es k p rfl);have hap:=hm.2.2.2;refine(WalksT.enumerate (A:=A) hh e it l hei hle hli vs).go es k p i T s Q Er hm fun h' st hk=>?_
  have hT':h'.IsTuple T #[.int i t,x]:=by
   (refine e1a2 hT ?_;try clear hT;rintro o ho r);exact⟨o,hk T o (by simp[hap.1,hap.2]) ho,r⟩
  refine hQ _ (.heap (tk:=s.toks) (zN (vs:=vs) (let ⟨old,he⟩:=hm.1;⟨_,_,he,rfl⟩) hm.2.1) fun b o hb e=>hk b o hb e) ⟨i+1,hi,rfl,st⟩ ?_
  ·(refine e1a2 (hx.get' (show vs.toList[i]?=some x by rw[Array.getElem?_toList];exact hvx)) ?_;rintro b hb hr)
   have q:=aBI xs 0 i b hb;rw[hxi]at q;have q:=aA q;rw[q]
   have kp':jZ OX s0.heap h':=fun b o vs' n hb hd hc=>by
    have hs:=kp b o vs' n hb hd hc;refine hk b o (fun m=>?_) hs;simp only[List.mem_cons,List.not_mem_nil,or_false]at m
    rcases m with rfl | rfl
    ·(refine e1a1 hm.1 ?_;rintro x' he)
     rw[he]at hs;(replace hs:=(aA hs).symm;subst hs);cases hd
    ·(refine e1a3 hm.2.1 ?_;rintro o' ho' _ hd')
     rw[ho']at hs;(replace hs:=(aA hs).symm;subst hs);rw[hd']at hd;cases hd
   rw[Nat.zero_add];exact bL.tuple hT' (.cons .mkInt (.cons (hr.kpf kp') .nil))
 done:=by
  rintro s Q Er B hz_;(refine e1a3 hz_ ?_;try clear hz_;rintro i hi e st);rintro hQ;have elen:=hx.length;rw[Array.length_toList]at elen
  have:i=vs.size:=by
   have q:=congrArg List.length e;rw[List.length_nil,List.length_drop,jS]at q
   grind
  subst this;refine(WalksT.enumerate (A:=A) hh _ it l hei hle hli vs).done s Q Er st fun h' tk hk=>hQ _ (.heap (zN (vs:=vs) (let ⟨old,he⟩:=st.1;⟨_,_,he,rfl⟩) st.2.1) fun b o hb e=>hk b o hb e)
 self:=by
  rintro ds s Q Er hz_;(refine e1a3 hz_ ?_;try clear hz_;rintro i hi rfl st);rintro hQ;exact(WalksT.enumerate (A:=A) hh e it l hei hle hli vs).self i s Q Er st hQ
theorem aMW (hh:A.handled=none)(st:cS s1 s){k:Nat}(hk:k<=1){v:Value}{xs:List PyData}(r:eS Own k s.heap v (.list xs))(hfr:k=0->∀ a,v=.ref a->¬ Own a)
  (h:∀ v s0,cS s s0->nQ c A Own k true s1 s0 v (lE xs 0)->Q v s0) :
  wpAny (model c.prog c.w) A (call (.type "enumerate") [v]) (fun x s₁=>wpAny (model c.prog c.w) A (pyIter x) Q Er s₁) Er s:=by
 (refine e2a3 (r.one hk) ?_;rintro a vs rfl hl hx);refine call_enumerate_list hl.isList fun h' he hit hsz hkp=>?_;refine wpAny_pyIter_enum he (h _ _ (.heap hkp) ?_);have ha:a < s.heap.objs.size:=by(refine e1a1 hl ?_;try clear hl;rintro n ho);exact Heap.lt_size ho
 have fresh:∀ j,s.heap.objs.size<=j->s1.heap.get? j=none:=fun j hj=>by
  cases hh:s1.heap.get? j with
  | none=>rfl
  | some o=>exact absurd (Heap.lt_size (st.keep _ _ hh)) (Nat.not_lt.mpr hj)
 refine⟨_,_,[],_,_,Wk.enum hh (Nat.ne_of_gt (Nat.lt_succ_self _)) (Nat.ne_of_lt (Nat.lt_succ_of_lt ha)) (Nat.ne_of_lt ha) (vs:=vs) (xs:=xs) ?_,⟨0,Nat.zero_le _,rfl,⟨_,he⟩,hit,(PlainList.keep hkp hl).isList⟩,?_,?_,fun u_ m=>nomatch m⟩
 .exact hx.mono fun u_ u_ q=>aJv (q.keep hkp)
 .intro b hb
  simp only[List.mem_cons,List.not_mem_nil,or_false]at hb
  rcases hb with rfl | rfl
  .exact⟨aF,fresh _ (Nat.le_succ _)⟩
  .exact⟨aE _ aF,fresh _ (Nat.le_refl _)⟩
 .intro b hb
  simp only[List.mem_cons,List.not_mem_nil,or_false]at hb
  rcases hb with rfl | rfl | rfl
  .exact⟨⟨_,he⟩,.inl (fresh _ (Nat.le_succ _))⟩
  ·(refine e1a2 hit ?_;try clear hit;rintro o ho u_)
   exact⟨⟨_,ho⟩,.inl (fresh _ (Nat.le_refl _))⟩
  ·(refine e1a1 hl ?_;try clear hl;rintro n ho)
   refine⟨⟨_,hkp _ _ ho⟩,?_⟩
   cases hh:s1.heap.get? b with
   | none=>exact .inl rfl
   | some o =>
    have:=st.keep _ _ hh;rw[ho]at this;(replace this:=(aA this).symm;subst this);exact .inr ⟨_,_,_,rfl,rfl,.inr fun e=>hfr e b rfl⟩
end
noncomputable def aNW:It->Bool
 | .enm _=>true
 | _=>false
noncomputable def aAx (c:cG)(it:It):Prop :=
 ∀ (n:Nat) (A:Around) (env:Env) (Own:Addr->Prop) (M:Nat->Nat) (E:AE) (s:Shared) (e:Expr) (ds:List PyData) (Q:Value->Shared->Prop) (Er:Value->Shared->Prop),
  Cx c n A Own env M E s->chkIt c.fnm c.rk n env.scope it e=true->okIt M it=true->evIt c.G c.T it E=some ds ->
  (∀ v s0,cS s s0->nQ c A Own (itK M it) (aNW it) s s0 v ds->Q v s0)->wpAny (model c.prog c.w) A (eval e env) (fun x s₁=>wpAny (model c.prog c.w) A (pyIter x) Q Er s₁) Er s
noncomputable def aLY (c:cG)(a:X):Prop :=
 ∀ (n:Nat) (A:Around) (env:Env) (Own:Addr->Prop) (M:Nat->Nat) (E:AE) (s:Shared) (e:Expr) (ds:List PyData) (Q:Value->Shared->Prop) (Er:Value->Shared->Prop),
  Cx c n A Own env M E s->chkIt c.fnm c.rk n env.scope (.gen a) e=true->okIt M (.gen a)=true->evIt c.G c.T (.gen a) E=some ds ->
  (∀ v s0,cS s s0->nQ c A Own 0 false s s0 v ds->Q v s0)->wpAny (model c.prog c.w) A (eval e env) Q Er s
theorem aKu {c:cG}{a:X}(hg:aLY c a):aAx c (.gen a):=by
 intro n A env Own M E s e ds Q Er X hc ho he h;refine hg n A env Own M E s e ds _ Er X hc ho he fun v s0 st W=>?_;(refine e5a5 (id W) ?_;rintro fp wr gs St Mid Wk hst u1_ u2_ u3_);exact Wk.self ds s0 Q Er hst (h v s0 st W)
section
variable {c:cG}
theorem fO.zero {n:Nat}{A:Around}(R:fO n A):fO 0 A:=⟨by have:=R.depth;lia,by have:=R.units;lia,R.hand⟩
theorem fO.le {n m:Nat}{A:Around}(R:fO n A)(h:m<=n):fO m A:=⟨by have:=R.depth;lia,by have:=R.units;lia,R.hand⟩
theorem aJG {Own:Addr->Prop}{k:Nat}{s:Shared}{v:Value}{xs:List PyData}(r:eS Own k s.heap v (.list xs)):k=0->∀ a,v=.ref a->¬ Own a:=by
 rintro rfl a rfl;(refine e2a4 (bL.unlist r) ?_;rintro b vs e u_ u_ hn);cases e;exact hn
theorem yY (C:bE c){a:X}(ha:bG c a):aAx c (.val a):=by
 intro n A env Own M E s e ds Q Er X hc ho he h;dsimp only[vX]at hc;replace ho:=aNw (yH.symm.trans ho);revert he;refine cE fun x hx hi=>?_;refine ha n A env Own M E s e x _ Er X hc ho.1 hx fun v s' st r u_=>?_
 cases x with
 | list xs =>
  simp only[bZ,dJ,eN]at hi;revert hi;refine ifs fun z0c hi=>?_;(replace hi:=(aA hi).symm;subst hi);exact aMV X.room.hand st ho.2 r (fun v s0 st2 W=>h v s0 (st.trans st2) W) (aJG r)
 | tuple xs =>
  simp only[bZ,dJ,eN]at hi;revert hi;refine ifs fun z0c hi=>?_;(replace hi:=(aA hi).symm;subst hi);exact aKt X.room.hand st r (fun v s0 st2 W=>h v s0 (st.trans st2) W)
 | str x =>
  simp only[bZ,dJ,eN]at hi;revert hi;refine ifs fun hle hi=>?_;(replace hi:=(aA hi).symm;subst hi);exact aPu X.room.hand st hle.1 r (fun v s0 st2 W=>h v s0 (st.trans st2) W)
 | _=>exact cM hi
theorem pM {prog:Program}{w:World}{A:Around}{Er:Value->Shared->Prop}{s:Shared}{Q:Value->Shared->Prop}{T:String}{pos:Pos}{t u v:Sem Value}(h:wpAny (model prog w) A t (fun x s₁=>wpAny (model prog w) A u (fun x2 s₂=>wpAny (model prog w) A v (fun x3 s₃=>wpAny (model prog w) A (call (.type T) [x,x2,x3]) Q Er s₃) Er s₂) Er s₁) Er s) :
  wpAny (model prog w) A (callWith pos (.type T) [] [(false,t),(false,u),(false,v)] []) Q Er s :=
 PySem.callWith_type rfl (Calls.evalArgs_plain (Calls.spliced_cons (wpAny_mono h (fun u_ u_ h₁=>Calls.spliced_cons (wpAny_mono h₁ (fun u_ u_ h₂=>Calls.spliced_cons (wpAny_mono h₂ (fun u_ u_ h₃=>Calls.spliced_nil h₃) fun u_ u_ e=>e)) fun u_ u_ e=>e)) fun u_ u_ e=>e)))
theorem aNY {x:Int}(h1:-(2 ^ 62)<=x)(h2:x<=2 ^ 62):-2 ^ 63<=x/\x < 2 ^ 63:=⟨Int.le_trans (by decide) h1,Int.lt_of_le_of_lt h2 (by decide)⟩
theorem zG {x:Int}(h1:-200000<=x)(h2:x<=300000):-2 ^ 63<=x/\x < 2 ^ 63:=aNY (Int.le_trans (by decide) h1) (Int.le_trans h2 (by decide))
theorem xP {a b st:Int}(h1:-100000<=a)(h2:a<=100000)(h3:b<=100000)(h4:0 < st)(h5:st<=1000)(hb:-(2 ^ 62)<=b):Builtin.Range.small a b st=true/\∃ n:Nat,Builtin.Range.rangeSize a b st=n/\aHw a b st=n:=by
 have fa:=zG (Int.le_trans (by decide) h1) (Int.le_trans h2 (by decide))
 have fb:=aNY hb (Int.le_trans h3 (by decide))
 have fs:=zG (Int.le_trans (by decide) (Int.le_of_lt h4)) (Int.le_trans h5 (by decide))
 have hs:0<=st - 1:=Int.sub_nonneg_of_le h4;unfold Builtin.Range.small Builtin.Range.rangeSize aHw;rw[if_pos h4];simp only[Builtin.Range.rangeFitsLong,Bool.and_eq_true,Bool.or_eq_true,decide_eq_true_eq,beq_iff_eq,show st > 0 from h4,if_true]
 by_cases hab:a < b
 .rw[if_pos hab,if_pos hab]
  have e:(b - a+st - 1) / st=(b - a - 1) / st+1:=by
   rw[show b - a+st - 1=(b - a - 1)+st * 1 by lia,Int.add_mul_ediv_left _ _ (Int.ne_of_gt h4)]
  have h7:0<=b - a - 1:=by lia
  have h0:0<=(b - a - 1) / st:=Int.ediv_nonneg h7 (Int.le_of_lt h4);have h6:(b - a - 1) / st<=b - a - 1:=Int.ediv_le_self _ h7;generalize (b - a - 1) / st=q at e h0 h6 ⊢;exact⟨⟨⟨⟨⟨fa,fb⟩,fs⟩,zG (by lia) (by lia)⟩,.inr (zG (by lia) (by lia))⟩,(q+1).toNat,(Int.toNat_of_nonneg (Int.le_trans h0 (Int.le_add_of_nonneg_right (by decide)))).symm,by rw[e]⟩
 .rw[if_neg hab,if_neg hab]
  exact⟨⟨⟨⟨⟨fa,fb⟩,fs⟩,zG (by decide) (by decide)⟩,.inl rfl⟩,0,rfl,rfl⟩
theorem aMU (C:bE c){a:X}(ha:bG c a):aAx c (.rng1 a):=by
 intro n A env Own M E s e ds Q Er X hc ho he h;dsimp only[aCK]at hc;dsimp only[aDp]at ho;revert he;refine cE fun x hx=>cE fun i hi hz=>?_;(refine e3a4 (nB hc) ?_;rintro z p0 q rfl h1 h2 h3);revert hz;refine ifs fun hle hz=>?_;(replace hz:=(aA hz).symm;subst hz);have hq0:=dN hi;subst hq0;refine wpAny_Call_NameR (iB C (x:="range") (by decide) X.eok X.base h1 ?_)
 rw[iM h2];refine PySem.callWith_type1 (ha n A env Own M E s z _ _ Er X h3 ho hx fun v s' st r u_=>?_);(refine e1a1 r.any.int ?_;rintro t rfl);refine call_range_1 ?_;(refine cA fun G_ hG_=>?_;rcases xP (a:=0) (b:=i) (st:=1) (by decide) (by decide) hle.2 (by decide) (by decide) (Int.le_trans (by decide) hle.1)with ⟨hs,m,hm,u_⟩;all_goals (refine hG_ ?_;clear hG_ G_))
 have em:m=i.toNat:=by rw[rangeSize_one]at hm;split at hm <;> lia
 subst em;have st2:=st.trans (cS.trans (cS.push (o:={ cls:=.type "range",data:=.fields #[.int 0 s'.toks,.int i t,.int 1 (s'.toks+1)] })) (cS.toks (tk:=s'.toks+1+1)));exact aDG X.room.hand st2 (k:=0) (IsRange.new _ _ _ _ _ _ _) hs hm fun v s0 st3 W=>h v s0 (st2.trans st3) W
theorem aMT (C:bE c){a b d:X}(ha:bG c a)(hb:bG c b)(hd:bG c d):aAx c (.rng3 a b d):=by
 intro n A env Own M E s e ds Q Er X hc ho he h;dsimp only[tK]at hc;replace ho:=aG1 (vJ.symm.trans ho);revert he;refine cE fun x hx=>cE fun i hi=>cE fun y hy=>cE fun j hj=>cE fun u hu=>cE fun k hk hz=>?_;(refine e5a8 (aGJ hc) ?_;rintro z z2 z3 p0 q rfl h1 h2 h3 h4 h5 h6 h7);revert hz;refine ifs fun hle hz=>?_;(replace hz:=(aA hz).symm;subst hz);have hq0:=dN hi;subst hq0;have hq0:=dN hj;subst hq0;have hq0:=dN hk;subst hq0;refine wpAny_Call_NameR (iB C (x:="range") (by decide) X.eok X.base h1 ?_)
 rw[aI9 h2 h3 h4]
 refine pM (ha n A env Own M E s z _ _ Er X h5 ho.1.1 hx fun v s' st r u_=>hb n A env Own M E s' z2 _ _ Er (X.stp C st) h6 ho.1.2 hy fun v2 s2 st2 r2 u_ =>
  hd n A env Own M E s2 z3 _ _ Er (X.stp C (st.trans st2)) h7 ho.2 hu fun v3 s3 st3 r3 u_=>?_)
 (refine e1a1 r.any.int ?_;rintro t rfl);(refine e1a1 r2.any.int ?_;rintro u rfl);(refine e1a1 r3.any.int ?_;rintro w rfl);refine call_range_3 (by omega) ?_ (Or.inl (PyProof.noPylong_small (by omega)))
 (refine cA fun G_ hG_=>?_;rcases xP (a:=i) (b:=j) (st:=k) hle.2.2.1 hle.2.2.2.1 hle.2.2.2.2.2 hle.1 hle.2.1 (Int.le_trans (by decide) hle.2.2.2.2.1)with ⟨hs,m,hm,hm2⟩;all_goals (refine hG_ ?_;clear hG_ G_))
 subst hm2;have st4:=((st.trans st2).trans st3).trans (cS.trans (cS.push (o:={ cls:=.type "range",data:=.fields #[.int i t,.int j u,.int k w] })) (cS.toks (tk:=s3.toks)));exact aDG X.room.hand st4 (k:=0) (IsRange.new _ _ _ _ _ _ _) hs hm fun v s0 st5 W=>h v s0 (st4.trans st5) W
theorem aPw (C:bE c){a:X}(ha:bG c a):aAx c (.enm a):=by
 intro n A env Own M E s e ds Q Er X hc ho he h;dsimp only[aEt]at hc;replace ho:=aNw (aFe.symm.trans ho);revert he;refine cE fun x hx=>cE fun ys hy hz=>?_;(refine e3a4 (nB hc) ?_;rintro z p0 q rfl h1 h2 h3);revert hz;refine ifs fun z0c hz=>?_;(replace hz:=(aA hz).symm;subst hz);have hq0:∃ v0,x=.list v0:=by revert hy;generalize x=y0;intro hy;cases y0 <;> first | exact⟨_,rfl⟩ | exact cM hy | exact eR hy | cases hy
 (refine e1a1 hq0 ?_;try clear hq0;rintro xs rfl);(replace hy:=(aA hy).symm;subst hy);refine wpAny_Call_NameR (iB C (x:="enumerate") (by decide) X.eok X.base h1 ?_)
 rw[iM h2];refine PySem.callWith_type1 (ha n A env Own M E s z _ _ Er X h3 ho.1 hx fun v s' st r u_=>?_);exact aMW X.room.hand st ho.2 r (aJG r) fun v s0 st2 W=>h v s0 (st.trans st2) W
end
theorem aCg {c:cG}{n:Nat}{sc:Scope}{it:It}{e:Expr}(hc:aS c.fnm c.rk n sc (.lof it) e=true):∃ z p0 q,e=.Call (.Name "list" p0) [z] [] q/\cO sc "list"=true/\bM z=true/\chkIt c.fnm c.rk n sc it z=true:=by
 simp only[aFK,Bool.and_eq_true]at hc;exact nB hc.2
theorem mP {Own:Addr->Prop}{s:Shared}{h':Heap}(live:∀ a,Own a->∃ o,s.heap.get? a=some o){acc:List Value}{c':Nat}{xs:List PyData}(k:bY s.heap h')
  (hp:h'.get? s.heap.objs.size=some { cls:=.type "list",dict:=none,data:=.seq acc.toArray c',slots:=#[] }) (hx:bP (bL Own s.heap) acc xs):bL Own h' (.ref s.heap.objs.size) (.list xs):=by
 refine eS.list ⟨_,hp⟩ (hx.mono fun u_ u_ q=>q.keep k) fun q=>?_;(refine e1a1 (live _ q) ?_;rintro o ho);exact absurd (Heap.lt_size ho) (Nat.lt_irrefl _)
theorem Fr1.size {s1 s:Shared}(st:cS s1 s):Fr1 s1 (.ref s.heap.objs.size):=fun a e=>by cases e;exact aCt st
theorem yX {P:Nat->Value->Prop}{R:Value->PyData->Prop}{acc:Array Value}{n:Nat}{xs:List PyData}(hI:ItemsOf P acc n)(hn:n=xs.length)(h:∀ i d v,xs[i]?=some d->P i v->R v d):bP R acc.toList xs:=by
 have key:∀ (l:List Value) (ys:List PyData),l.length=ys.length->(∀ (i:Nat) (v:Value) (d:PyData),l[i]?=some v->ys[i]?=some d->R v d)->bP R l ys:=by
  intro l
  induction l with
  | nil=>intro ys hl _;cases ys with
   | nil=>exact .nil
   | cons _ _=>simp at hl
  | cons a l ih=>intro ys hl hh;cases ys with
   | nil=>simp at hl
   | cons b ys =>
    exact .cons (hh 0 a b rfl rfl) (ih ys (by simpa using hl) fun i v d h1 h2=>hh (i+1) v d (by simpa using h1) (by simpa using h2))
 refine key _ _ (by rw[Array.length_toList,hI.1,hn]) fun i v d h1 h2=>h i d v h2 (hI.2 i v (by rw[Array.getElem?_toList]at h1;exact h1))
section
variable {c:cG}
theorem aFy (C:bE c){a:X}(ha:bG c a):bG c (.lof (.val a)):=by
 intro n A env Own M E s e d Q Er X hc ho he h;(refine e3a4 (aCg hc) ?_;rintro z p0 q rfl h1 h2 h3);dsimp only[vX]at h3;simp only[aBc,yH,Bool.and_eq_true,decide_eq_true_eq]at ho;simp only[sY,eQ,Option.bind_eq_some_iff,Option.some.injEq]at he;(refine e1a2 he ?_;try clear he;rintro ds ⟨x,hx,hi⟩ rfl);refine wpAny_Call_NameR (iB C (x:="list") (by decide) X.eok X.base h1 ?_)
 rw[iM h2];refine PySem.callWith_type1 (ha n A env Own M E s z _ _ Er X h3 ho.1 hx fun v s' st r u_=>?_);have live:=(X.stp C st).live
 cases x with
 | list xs =>
  simp only[bZ,dJ,eN]at hi;revert hi;refine ifs fun hle hi=>?_;(replace hi:=(aA hi).symm;subst hi);(refine e2a3 (r.one ho.2) ?_;rintro l' vs rfl hl hx');(refine e1a1 hl ?_;try clear hl;rintro m hm);have e1:=hx'.length;rw[Array.length_toList]at e1;refine call_list_seq l' (.inl rfl) hm rfl rfl (fun h' c' hk hp=>?_) (gD (e1 ▸ hle));exact h _ _ (st.trans (.heap hk)) (mP live hk (acc:=vs.toList) (by simpa using hp) hx') fun u_=>Fr1.size st
 | tuple xs =>
  simp only[bZ,dJ,eN]at hi;revert hi;refine ifs fun hle hi=>?_;(replace hi:=(aA hi).symm;subst hi);(refine e2a3 ((r.nolist fun u_ q=>by cases q).untuple) ?_;rintro l' vs rfl hl hx')
  (refine e1a3 hl ?_;try clear hl;rintro o hm hc' hz_;obtain ⟨m,hd'⟩:=hz_);have e1:=hx'.length;rw[Array.length_toList]at e1;refine call_list_seq l' (.inr rfl) hm hc' hd' (fun h' c' hk hp=>?_) (gD (e1 ▸ hle));exact h _ _ (st.trans (.heap hk)) (mP live hk (acc:=vs.toList) (by simpa using hp) hx') fun u_=>Fr1.size st
 | str x =>
  simp only[bZ,dJ,eN]at hi;revert hi;refine ifs fun hle hi=>?_;(replace hi:=(aA hi).symm;subst hi);(refine e1a1 r.any.str ?_;rintro t rfl);refine call_list_str X.room.hand x t (fun h' tk acc' c' hk hp hI=>?_) (gD (by have:=hle.2;rw[<-Array.length_toList];exact this))
  refine h _ _ (st.trans (.of hk)) (mP live hk (acc:=acc'.toList) (by simpa using hp) ?_) fun u_=>Fr1.size st
  exact yX hI (by simp[jN,sl]) fun i d v hd hv=>by
   (refine e2a2 hv ?_;try clear hv;rintro b u hb rfl)
   have:d=S [b]:=by
    simp only[jN,sl,List.getElem?_map,Array.getElem?_toList,hb,Option.map_some,Option.some.injEq]at hd;exact hd.symm
   subst this;exact .mkStr
 | _=>exact cM hi
theorem aD1 (C:bE c){a b d:X}(ha:bG c a)(hb:bG c b)(hd:bG c d):bG c (.lof (.rng3 a b d)):=by
 intro n A env Own M E s e dd Q Er X hc ho he h;(refine e3a4 (aCg hc) ?_;rintro z0 p0 q rfl h1 h2 h3);dsimp only[tK]at h3;simp only[aBc,vJ,Bool.and_eq_true]at ho;simp only[sY,vP,Option.bind_eq_some_iff,Option.some.injEq]at he;(refine e1a2 he ?_;try clear he;rintro ds ⟨x,hx,i,hi,y,hy,j,hj,u,hu,k,hk,hz⟩ rfl);(refine e5a8 (aGJ h3) ?_;rintro z z2 z3 p1 q1 rfl g1 g2 g3 g4 g5 g6 g7);revert hz;refine ifs fun hle hz=>?_;(replace hz:=(aA hz).symm;subst hz);have hq0:=dN hi;subst hq0;have hq0:=dN hj;subst hq0;have hq0:=dN hk;subst hq0;refine wpAny_Call_NameR (iB C (x:="list") (by decide) X.eok X.base h1 ?_)
 rw[iM h2];refine PySem.callWith_type1 ?_;refine wpAny_Call_NameR (iB C (x:="range") (by decide) X.eok X.base g1 ?_)
 rw[aI9 g2 g3 g4]
 refine pM (ha n A env Own M E s z _ _ Er X g5 ho.1.1 hx fun v s' st r u_=>hb n A env Own M E s' z2 _ _ Er (X.stp C st) g6 ho.1.2 hy fun v2 s2 st2 r2 u_ =>
  hd n A env Own M E s2 z3 _ _ Er (X.stp C (st.trans st2)) g7 ho.2 hu fun v3 s3 st3 r3 u_=>?_)
 (refine e1a1 r.any.int ?_;rintro t rfl);(refine e1a1 r2.any.int ?_;rintro u rfl);(refine e1a1 r3.any.int ?_;rintro w rfl);refine call_range_3 (by omega) ?_ (Or.inl (PyProof.noPylong_small (by omega)))
 (refine cA fun G_ hG_=>?_;rcases xP (a:=i) (b:=j) (st:=k) hle.2.2.1 hle.2.2.2.1 hle.2.2.2.2.2 hle.1 hle.2.1 (Int.le_trans (by decide) hle.2.2.2.2.1)with ⟨hs,m,hm,hm2⟩;all_goals (refine hG_ ?_;clear hG_ G_))
 have hmb:m<=1000000:=by
  have:(m:Int)<=1000000:=by
   rw[<-hm];unfold Builtin.Range.rangeSize;rw[if_pos hle.1]
   split
   .have h6:(j - i - 1) / k<=j - i - 1:=Int.ediv_le_self _ (by lia)
    lia
   .decide
  lia
 subst hm2;have st4:=((st.trans st2).trans st3).trans (cS.trans (cS.push (o:={ cls:=.type "range",data:=.fields #[.int i t,.int j u,.int k w] })) (cS.toks (tk:=s3.toks)));refine call_list_range X.room.hand (IsRange.new _ _ _ _ _ _ _) hs hm (by lia) fun h' tk acc' c' hk hp hI=>?_
 refine h _ _ (st4.trans (.of hk)) (mP (X.stp C st4).live hk (acc:=acc'.toList) (by simpa using hp) ?_) fun u_=>Fr1.size st4
 exact yX hI (jA _ _ _).symm fun i' d v hd hv=>by
  (refine e1a1 hv ?_;try clear hv;rintro u rfl);rw[xV _ _ _ _ _ hd];exact .mkInt
theorem aI8 {it:It}(hv:bG c (.lof it)):fW c (.lof it) :=
 cP hv fun n sc e hc=>by
  (refine e3a2 (aCg hc) ?_;rintro z p0 q rfl -);rfl
end
structure lP (env:Env)(h:Heap)(P:Nat->Option Value):Prop where
 ns:∃ m,h.Ns env.locals m/\∀ i v,P i=some v->Lk env h m (nm i) v
 cells:∀ x a,env.kindOf x=some .cell->env.cells.lookup x=some a->∃ o,h.IsCell a o
noncomputable def wC (P:Nat->Option Value)(i:Nat)(v:Value):Nat->Option Value:=fun j=>if j=i then some v else P j
noncomputable def Kb (env:Env)(ids:List Nat)(h h':Heap):Prop :=
 ∀ b o,b≠env.locals->(∀ i∈ids,env.kindOf (nm i)=some .cell->env.cells.lookup (nm i)≠some b)->h.get? b=some o->h'.get? b=some o
theorem Kb.trans {env:Env}{l l':List Nat}{a b c:Heap}(x:Kb env l a b)(y:Kb env l' b c):Kb env (l++l') a c:=fun d o h1 h2 e =>
 y d o h1 (fun i m=>h2 i (aZ _ m)) (x d o h1 (fun i m=>h2 i (aW _ m)) e)
theorem Kb.of {env:Env}{l:List Nat}{a b:Heap}(x:bY a b):Kb env l a b:=fun d o u_ u_ e=>x d o e
theorem Kb.mono {env:Env}{l l':List Nat}{a b:Heap}(x:Kb env l a b)(h:∀ i∈l,i∈l'):Kb env l' a b:=fun d o h1 h2 e=>x d o h1 (fun i m=>h2 i (h i m)) e
theorem lP.kpf {env:Env}{ids:List Nat}{h h':Heap}{P:Nat->Option Value}{OX:Addr->Prop}(S:lP env h P)(k:Kb env ids h h'):jZ OX h h':=by
 intro b o vs n hb hd _;refine k b o ?_ ?_ hb
 .rintro rfl
  (refine e1a2 S.ns ?_;rintro m ⟨o',es,ep,ho',hd',u_⟩ u_);rw[hb]at ho';(replace ho':=(aA ho').symm;subst ho');rw[hd']at hd;cases hd
 .intro i _ hk hl
  (refine e2a2 (S.cells _ _ hk hl) ?_;rintro x o' ho' hd');rw[hb]at ho';(replace ho':=(aA ho').symm;subst ho');rw[hd']at hd;cases hd
theorem lP.keep {env:Env}{h h':Heap}{P:Nat->Option Value}(S:lP env h P)(k:bY h h'):lP env h' P:=by
 (refine e1a2 S.ns ?_;rintro m hm hl);exact⟨⟨m,hm.keeps k,fun i v e=>(hl i v e).keep k⟩,fun x a h1 h2=>let ⟨o,ho⟩:=S.cells x a h1 h2;⟨o,ho.keeps k⟩⟩
theorem lP.at {env:Env}{h h':Heap}{P:Nat->Option Value}(S:lP env h P)(k1:∀ o,h.get? env.locals=some o->h'.get? env.locals=some o)
  (k2:∀ x a,(env.kindOf x=some .cell\/env.kindOf x=some .free)->env.cells.lookup x=some a->∀ o,h.get? a=some o->h'.get? a=some o):lP env h' P:=by
 (refine e1a2 S.ns ?_;rintro m hm hl);refine⟨⟨m,hm.at k1,fun i v e=>?_⟩,fun x a h1 h2=>?_⟩
 .rcases hl i v e with q | ⟨hk,a,ha,o,ho,hd⟩
  .exact .inl q
  .exact .inr ⟨hk,a,ha,o,k2 _ _ hk ha o ho,hd⟩
 ·(refine e2a2 (S.cells x a h1 h2) ?_;rintro o c ho hd)
  exact⟨o,c,k2 _ _ (.inl h1) h2 _ ho,hd⟩
theorem aE0 {sc:Scope}{x:Str}(h:bQ sc x=true):sc.names.lookup x=some .local\/sc.names.lookup x=some .cell:=by
 unfold bQ at h;revert h;generalize sc.names.lookup x=r;intro h
 cases r with
 | none=>exact eR h
 | some k=>cases k <;> first | exact eR h | exact .inl rfl | exact .inr rfl
theorem aJI {env:Env}{x:Str}(h:bQ env.scope x=true):env.kindOf x=some .local\/env.kindOf x=some .cell:=aE0 h
theorem lP.ne {env:Env}{h:Heap}{P:Nat->Option Value}(S:lP env h P){a:Addr}{o:Option Value}(hc:h.IsCell a o):a≠env.locals:=by
 rintro rfl;(refine e1a2 S.ns ?_;rintro m ⟨o',es,ep,ho',hd',u_⟩ u_);(refine e1a2 hc ?_;try clear hc;rintro o2 ho2 hd2);rw[ho2]at ho';(replace ho':=(aA ho').symm;subst ho');rw[hd2]at hd';cases hd'
section
variable {M:Model} {A:Around} {Er:Value->Shared->Prop} {s:Shared} {Q:Unit->Shared->Prop} {env:Env}
set_option tactic.hygienic true in
theorem aHo {i:Nat}{v:Value}{P:Nat->Option Value}(K:fB env)(S:lP env s.heap P)(ho:bQ env.scope (nm i)=true)
  (h:∀ h' tk,Kb env [i] s.heap h'->lP env h' (wC P i v)->(∀ b o,h'.get? b=some o->∃ o',s.heap.get? b=some o')->Q () { s with heap:=h',toks:=tk }):wpAny M A (storeName env (nm i) v) Q Er s:=by
 have back:∀ {a:Addr} {h':Heap},(∃ o,s.heap.get? a=some o)->Heap.SameBut a s.heap h'->∀ b o,h'.get? b=some o->∃ o',s.heap.get? b=some o':=fun {a h'} hl hs b o e=>by
  by_cases q:b=a
  .rw[q];exact hl
  .exact⟨o,(hs.2 b q).symm.trans e⟩
 (refine e1a2 S.ns ?_;rintro m hm hl)
 rcases aJI ho with hk | hk
 .refine wpAny_storeName_local hk hm (fun h' hn' hs=>h h' _ ?_ ?_ (back (e3a1 hm fun o _ _ ho=>⟨o,ho.1⟩) hs)) (by rw[K.kind];rfl)
  .exact fun b o hb _ e=>(hs.2 b hb).trans e
  .refine⟨⟨_,hn',fun j w e=>?_⟩,fun x a h1 h2=>?_⟩
   .unfold wC at e
    split at e
    .rename_i hj
     subst hj;(replace e:=(aA e).symm;subst e);exact .inl ⟨hk,if_pos rfl⟩
    .rename_i hj
     rcases hl j w e with ⟨q1,q2⟩ | ⟨q1,a,ha,hc⟩
     .exact .inl ⟨q1,(if_neg fun e=>hj (uE e)).trans q2⟩
     .exact .inr ⟨q1,a,ha,hc.sameBut hs (S.ne hc)⟩
   ·(refine e1a1 (S.cells x a h1 h2) ?_;rintro o hc)
    exact⟨o,hc.sameBut hs (S.ne hc)⟩
 ·(refine e1a1 (K.cell _ (.inl hk)) ?_;rintro c hcl)
  (refine e1a1 (S.cells _ _ hk hcl) ?_;rintro o hc);refine wpAny_storeName_cell K.kind hk hcl hc fun h' hc' hs=>?_;refine h h' s.toks ?_ ?_ (back (e1a1 hc fun o ho=>⟨o,ho.1⟩) hs)
  .intro b o' _ hb e
   exact(hs.2 b fun q=>hb i aF hk (q ▸ hcl)).trans e
  .refine⟨⟨m,hm.sameBut hs (S.ne hc).symm,fun j w e=>?_⟩,fun x a h1 h2=>?_⟩
   .unfold wC at e
    split at e
    .rename_i hj
     subst hj;(replace e:=(aA e).symm;subst e);exact .inr ⟨.inl hk,c,hcl,hc'⟩
    .rename_i hj
     rcases hl j w e with q | ⟨q1,a,ha,hca⟩
     .exact .inl q
     .refine .inr ⟨q1,a,ha,hca.sameBut hs fun e2=>hj ?_⟩
      exact uE (K.apart _ _ c (e2 ▸ ha) hcl)
   .by_cases hac:a=c
    .exact⟨_,hac ▸ hc'⟩
    ·(refine e1a1 (S.cells x a h1 h2) ?_;rintro o2 hc2)
     exact⟨o2,hc2.sameBut hs hac⟩
theorem fZ {i:Nat}{v:Value}{P:Nat->Option Value}(K:fB env)(S:lP env s.heap P)(ho:bQ env.scope (nm i)=true)
  (h:∀ h' tk,Kb env [i] s.heap h'->lP env h' (wC P i v)->Q () { s with heap:=h',toks:=tk }):wpAny M A (storeName env (nm i) v) Q Er s :=
 aHo K S ho fun h' tk k So u_=>h h' tk k So
end
section
variable {prog:Program} {w:World} {A:Around} {Er:Value->Shared->Prop} {s:Shared} {Q:Unit->Shared->Prop} {env:Env}
theorem pP {i:Nat}{p:Pos}{v:Value}{P:Nat->Option Value}(K:fB env)(S:lP env s.heap P)(ho:bQ env.scope (nm i)=true)
  (h:∀ h' tk,Kb env [i] s.heap h'->lP env h' (wC P i v)->Q () { s with heap:=h',toks:=tk }):wpAny (model prog w) A (assign (.Name (nm i) p) env v) Q Er s :=
 wpAny_assign_Name (fZ K S ho h)
noncomputable def Got (OX:Addr->Prop)(ids:List Nat)(h:Heap)(P P':Nat->Option Value)(E E':AE):Prop :=
 ∀ j,(j∈ids->∃ v d,P' j=some v/\E' j=some (.dat d)/\bL OX h v d)/\(j ∉ ids->P' j=P j/\E' j=E j)
theorem qR:∀ {is:List Nat}{ds:List PyData}{E E':AE},kE is ds E=some E'->is.length=ds.length
 | [],[],_,_,_=>rfl
 | i::is,d::ds,E,E',h=>by simp[qR (show kE is ds (E.set i (.dat d))=some E' from h)]
 | [],_::_,_,_,h=>by exact cM h
 | _::_,[],_,_,h=>by exact cM h
theorem aEe {sc:Scope}{i:Nat}{is:List Nat}{es:List Expr}(hc:fN sc (i::is) es=true):∃ p r,es=.Name (nm i) p::r/\bQ sc (nm i)=true/\fN sc is r=true:=by
 refine aL (wJ.symm.trans hc) fun e r hc=>?_;refine aV hc fun x p hc=>?_;(refine rI hc ?_;clear hc;rintro rfl h1 h2 h3);exact⟨_,_,rfl,h1,h3⟩
theorem aGY {sc:Scope}{es:List Expr}(hc:fN sc [] es=true):es=[] :=
 aO (P:=fun es=>es=[]) (aAo.symm.trans hc) fun u_=>rfl
set_option tactic.hygienic true in
theorem aIL {OX:Addr->Prop}(K:fB env){is:List Nat}:∀ {es:List Expr} {vs:List Value} {ds:List PyData} {E E':AE} {P:Nat->Option Value} {s:Shared} {Q:Unit->Shared->Prop},
  fN env.scope is es=true->is.Nodup->bP (bL OX s.heap) vs ds->kE is ds E=some E'->lP env s.heap P ->
  (∀ h' tk P',Kb env is s.heap h'->lP env h' P'->Got OX is h' P P' E E'->Q () { s with heap:=h',toks:=tk }) ->
  wpAny (model prog w) A (assignInOrder ((assignEach es env).map (·.2)) vs) Q Er s:=by
 induction is with
 | nil =>
  intro es vs ds E E' P s Q hc hn hx hE S h;obtain rfl:=aGY hc
  cases ds with
  | nil =>
   (replace hE:=(aA hE).symm;subst hE);cases hx;exact wpAny_pure (h s.heap s.toks P (.of (.refl _)) S fun j=>⟨fun m=>(nomatch m),fun _=>⟨rfl,rfl⟩⟩)
  | cons _ _=>exact cM hE
 | cons i is ih =>
  intro es vs ds E E' P s Q hc hn hx hE S h;(refine e2a3 (aEe hc) ?_;rintro p es rfl h1 h3)
  cases hx with
  | nil=>exact cM hE
  | cons r1 r2 =>
   rename_i v d vs ds
   obtain ⟨n1,n2⟩:=List.nodup_cons.mp hn;show wpAny _ _ (do holding vs (assign (.Name (nm i) p) env v);assignInOrder ((assignEach es env).map (·.2)) vs) _ _ _
   refine wpAny_bind (wpAny_holding (pP K S h1 fun h' tk k S'=>?_));have kp:jZ OX s.heap h':=S.kpf k;refine ih (s:={ s with heap:=h',toks:=tk }) h3 n2 (r2.mono fun _ _ q=>q.kpf kp) (show kE is ds (E.set i (.dat d))=some E' from hE) S' fun h2 tk2 P2 k2 S2 G=>?_
   refine h h2 tk2 P2 (k.trans k2) S2 fun j=>⟨fun m=>?_,fun m=>?_⟩
   .rcases aM m with rfl | m
    .obtain ⟨e1,e2⟩:=(G j).2 n1
     exact⟨v,d,e1.trans (if_pos rfl),e2.trans (if_pos rfl),(r1.kpf kp).kpf (S'.kpf k2)⟩
    .exact(G j).1 m
   .obtain ⟨e1,e2⟩:=(G j).2 fun q=>m (aE _ q)
    have hj:¬ j=i:=fun e=>m (e ▸ aF);exact⟨e1.trans (if_neg hj),e2.trans (if_neg hj)⟩
theorem aFA {env:Env}{is:List Nat}:∀ {es:List Expr},fN env.scope is es=true->(assignEach es env).length=is.length/\(assignEach es env).findIdx? (·.1)=none:=by
 induction is with
 | nil=>intro es hc;obtain rfl:=aGY hc;exact⟨rfl,rfl⟩
 | cons i is ih =>
  intro es hc;(refine e2a3 (aEe hc) ?_;rintro p es rfl h1 h3);obtain ⟨e1,e2⟩:=ih h3;refine⟨?_,?_⟩
  .show(assignEach es env).length+1=_
   rw[e1];rfl
  .show(((false,assign (.Name (nm i) p) env)::assignEach es env)).findIdx? (·.1)=none
   rw[List.findIdx?_cons,e2];rfl
theorem xC {OX:Addr->Prop}(hh:A.handled=none)(K:fB env){t:Tgt}{e:Expr}{v:Value}{d:PyData}{E E':AE}{P:Nat->Option Value}(hc:nP env.scope t e=true)(r:bL OX s.heap v d)(hb:dF t d E=some E')(S:lP env s.heap P)
  (h:∀ h' tk P',Kb env t.ids s.heap h'->lP env h' P'->Got OX t.ids h' P P' E E'->Q () { s with heap:=h',toks:=tk }):wpAny (model prog w) A (assign e env v) Q Er s:=by
 cases t with
 | name i =>
  refine aV (aEg.symm.trans hc) fun x p hc=>?_;(refine yV hc ?_;clear hc;rintro rfl h1 h2);(replace hb:=(aA hb).symm;subst hb);refine pP K S h1 fun h' tk k S'=>h h' tk _ k S' fun j=>⟨fun m=>?_,fun m=>?_⟩
  .rcases aM m with rfl | m
   .exact⟨v,d,if_pos rfl,if_pos rfl,r.kpf (S.kpf k)⟩
   .cases m
  .have hj:¬ j=i:=fun e=>m (e ▸ aF)
   exact⟨if_neg hj,if_neg hj⟩
 | tup is =>
  refine eX (aAk.symm.trans hc) fun es k p hc=>?_;(refine aNV hc ?_;clear hc;rintro h0 hn hc);have hq0:∃ v0,d=.tuple v0:=by revert hb;generalize d=y0;intro hb;cases y0 <;> first | exact⟨_,rfl⟩ | exact cM hb | exact eR hb | cases hb
  (refine e1a1 hq0 ?_;try clear hq0;rintro ds rfl);have hb:kE is ds E=some E':=hb;(refine e2a3 r.untuple ?_;rintro a vs rfl hT hx);obtain ⟨e1,e2⟩:=aFA hc;have elen:=hx.length;rw[Array.length_toList]at elen;have el:=qR hb;refine wpAny_assign_Tuple hh hT (by lia) e2 fun h' hk=>?_
  have hk:bY s.heap h':=.fresh hk;refine aIL (s:={ s with heap:=h' }) K hc hn (hx.mono fun u_ u_ q=>q.keep hk) hb (S.keep hk) fun h2 tk P' k2 S' G=>?_
  exact h h2 tk P' (fun b o q1 q2 e=>k2 b o q1 q2 (hk b o e)) S' G
end
theorem nM {env:Env}(K:fB env):∀ (names:List (Str × NameKind)) (acc:List (Str × Addr)),
  (∀ p∈names,p.2=.free->env.kindOf p.1=some .cell\/env.kindOf p.1=some .free)->(names.map (·.1)).Nodup ->
  ∃ cl,(forIn names acc (fun p cs=>if p.2 == NameKind.free then(do let a <-cellOf env p.1;pure (ForInStep.yield ((p.1,a)::cs)))else pure (ForInStep.yield cs)):Sem (List (Str × Addr)))=pure (cl++acc) /\
   (∀ x a,cl.lookup x=some a->env.cells.lookup x=some a)/\(∀ p∈names,p.2=.free->∃ a,cl.lookup p.1=some a)
 | []=>fun acc _ _=>⟨[],rfl,fun u_ u_ h=>by simp at h,fun u_ h=>nomatch h⟩
 | (x,k)::r=>fun acc h hn=>by
  have hn':(r.map (·.1)).Nodup:=(List.nodup_cons.mp hn).2;have hx:x ∉ r.map (·.1):=(List.nodup_cons.mp hn).1;rw[List.forIn_cons]
  by_cases hk:k=.free
  .subst hk
   (refine e1a1 (K.cell x (h (x,.free) aF rfl)) ?_;rintro a ha);(refine e1a3 (nM K r ((x,a)::acc) (fun p hp=>h p (aE _ hp)) hn') ?_;rintro cl e h1 h2);have e0:cellOf env x=pure a:=by unfold cellOf;rw[ha]
   refine⟨cl++[(x,a)],?_,fun y b hb=>?_,fun p hp hf=>?_⟩
   .simp only[beq_self_eq_true,if_true]
    show(cellOf env x >>= fun a=>pure (ForInStep.yield ((x,a)::acc))) >>= _=_;rw[e0];refine Eq.trans rfl (e.trans ?_);simp
   .rw[List.lookup_append]at hb
    cases hc:cl.lookup y with
    | some b'=>rw[hc]at hb;(replace hb:=(aA hb).symm;subst hb);exact h1 y _ hc
    | none =>
     rw[hc]at hb;simp only[Option.none_or,List.lookup_cons,List.lookup_nil]at hb
     cases hyx:y == x with
     | true=>rw[hyx]at hb;(replace hb:=(aA hb).symm;subst hb);rw[beq_iff_eq.mp hyx];exact ha
     | false=>rw[hyx]at hb;exact cM hb
   .rw[List.lookup_append]
    rcases aM hp with rfl | hp
    .cases hc:cl.lookup x with
     | some b=>exact⟨b,rfl⟩
     | none=>exact⟨a,by simp⟩
    ·(refine e1a1 (h2 p hp hf) ?_;rintro b hb)
     exact⟨b,by rw[hb];rfl⟩
  ·(refine e1a3 (nM K r acc (fun p hp=>h p (aE _ hp)) hn') ?_;rintro cl e h1 h2)
   refine⟨cl,?_,h1,fun p hp hf=>?_⟩
   .have hb:(k == NameKind.free)=false:=by simpa using hk
    simp only[hb,Bool.false_eq_true,if_false];exact e
   .rcases aM hp with rfl | hp
    .exact absurd hf hk
    .exact h2 p hp hf
theorem aFI {env:Env}(K:fB env){scope:Scope}(h:∀ p∈scope.names,p.2=.free->env.kindOf p.1=some .cell\/env.kindOf p.1=some .free)(hn:(scope.names.map (·.1)).Nodup) :
  ∃ cl,closureFor scope env=pure cl/\(∀ x a,cl.lookup x=some a->env.cells.lookup x=some a)/\(∀ p∈scope.names,p.2=.free->∃ a,cl.lookup p.1=some a):=by
 (refine e1a3 (nM K scope.names [] h hn) ?_;rintro cl e h1 h2);refine⟨cl,?_,h1,h2⟩;rw[List.append_nil]at e;rw[<-e];simp only[closureFor];rw[bind_pure]
theorem dC:∀ (names:List (Str × NameKind))(n:Nat)(acc:List (Str × Addr)),cellsFrom n names acc=cellsFrom n names []++acc
 | []=>fun _ _=>rfl
 | (x,k)::r=>fun n acc=>by
  unfold cellsFrom
  split
  .rw[dC r _ ((x,n)::acc),dC r _ [(x,n)]];simp
  .exact dC r n acc
set_option tactic.hygienic true in
theorem iV:∀ (names:List (Str × NameKind))(n:Nat)(x:Str)(a:Addr),(x,a)∈cellsFrom n names []->(x,.cell)∈names
 | []=>fun _ _ _ h=>nomatch h
 | (y,k)::r=>fun n x a h=>by
  unfold cellsFrom at h
  split at h
  .rename_i hk
   have hk:=beq_iff_eq.mp hk;subst hk;rw[dC]at h
   rcases bF h with h | h
   .exact aE _ (iV r _ x a h)
   .rcases aM h with h | h
    .cases h;exact aF
    .cases h
  .exact aE _ (iV r _ x a h)
theorem cT:∀ {l:List (Str × Addr)}{x:Str}{a:Addr},(x,a)∈l->∃ b,l.lookup x=some b
 | (y,c)::r,x,a,h=>by
  rw[List.lookup_cons]
  cases hb:x == y with
  | true=>exact⟨c,rfl⟩
  | false =>
   rcases aM h with h | h
   .cases h;simp at hb
   .exact cT h
theorem dZ:∀ (names:List (Str × NameKind))(n:Nat)(x:Str),(x,.cell)∈names->∃ a,(x,a)∈cellsFrom n names []
 | (y,k)::r,n,x,h=>by
  unfold cellsFrom
  rcases aM h with h | h
  .cases h
   simp only[beq_self_eq_true,if_true];rw[dC];exact⟨n,aZ _ aF⟩
  .split
   .rw[dC]
    (refine e1a1 (dZ r (n+1) x h) ?_;rintro a ha);exact⟨a,aW _ ha⟩
   .exact dZ r n x h
theorem cH {l:List (Str × NameKind)}{x:Str}{k:NameKind}:l.lookup x=some k->(x,k)∈l:=by
 induction l with
 | nil=>exact fun h=>cM h
 | cons p r ih =>
  intro h;rw[show(p::r)=((p.1,p.2)::r)from rfl,List.lookup_cons]at h
  cases hb:x == p.1 with
  | true=>rw[hb]at h;(replace h:=(aA h).symm;subst h);rw[beq_iff_eq.mp hb];exact aF
  | false=>rw[hb]at h;exact aE _ (ih h)
theorem oK {l:List (Str × NameKind)}{x:Str}{k:NameKind}:(l.map (·.1)).Nodup->(x,k)∈l->l.lookup x=some k:=by
 induction l with
 | nil=>exact fun hn h=>nomatch h
 | cons p r ih =>
  intro hn h;have hn:=List.nodup_cons.mp hn;rw[show(p::r)=((p.1,p.2)::r)from rfl,List.lookup_cons]
  rcases aM h with h | h
  .subst h;simp
  .have hb:(x == p.1)=false:=beq_eq_false_iff_ne.mpr fun e=>hn.1 (List.mem_map.mpr ⟨_,h,e⟩)
   rw[hb];exact ih hn.2 h
theorem aDz {f:Str × NameKind->Str × NameKind}(hf:∀ p,(f p).1=p.1):∀ {l:List (Str × NameKind)} {x:Str},(l.map f).lookup x=(l.lookup x).map fun k=>(f (x,k)).2
 | [],_=>rfl
 | (y,c)::r,x=>by
  rw[aY,List.lookup_cons];have e:f (y,c)=((f (y,c)).1,(f (y,c)).2):=rfl;rw[e,hf,List.lookup_cons]
  cases hb:x == y with
  | true=>rw[beq_iff_eq.mp hb];rfl
  | false=>exact aDz hf
theorem mM {scope sc:Scope}{x:Str}:(gS scope sc).names.lookup x=(scope.names.lookup x).map fun k=>if (k == .free && sc.kind == .function && sc.names.lookup x == some .cell)then .cell else k:=by
 unfold gS;show(scope.names.map _).lookup x=_;rw[aDz (fun p=>by split <;> rfl)]
 congr 1
 funext k
 split <;> rfl
theorem aDw:(mQ.all fun l=>decide (l≠[46,48]))=true:=by decide +kernel
set_option tactic.hygienic true in
theorem aOV (i:Nat):(nm i == (".0":Str))=false:=by
 rw[beq_eq_false_iff_ne];intro e;unfold nm at e
 split at e
 .rename_i l hl
  have:=aJ aDw l (List.mem_of_getElem? hl)
  have e2:l=[46,48]:=by
   have q:=congrArg (fun x:Str=>x.cps.toList) e;have q2:(Str.ofString ".0").cps.toList=[46,48]:=by decide
   simp only[q2]at q
   simpa using q
  rw[e2]at this;simp at this
 .have e2:[0,i]=[46,48]:=congrArg (fun x:Str=>x.cps.toList) e
  simp at e2
structure aIO (sc scope:Scope)(ids:List Nat):Prop where
 kind:scope.kind=.function
 co:scope.isCoroutine=false
 more:(scope.more.any fun(n,_)=>n == ("interactive":Str))=false
 nodup:(scope.names.map (·.1)).Nodup
 own:∀ i,scope.names.lookup (nm i)=some .local\/scope.names.lookup (nm i)=some .cell->i∈ids
 cell:∀ x,(x,NameKind.cell)∈scope.names->∃ i∈ids,x=nm i
 free:∀ x,(x,NameKind.free)∈scope.names->(sc.names.lookup x=some .cell\/sc.names.lookup x=some .free)/\∀ i∈ids,x≠nm i
set_option tactic.hygienic true in
theorem aF9 {sc scope:Scope}{ids:List Nat}(h:kT sc scope ids=true):aIO sc scope ids:=by
 unfold kT at h;(refine aMM h ?_;try clear h;rintro h1 h2 h3 h4 h5);have key:∀ x k,(x,k)∈scope.names->_:=fun x k hm=>aJ h5 (x,k) hm;refine⟨h1,h2,h3,h4,fun i hi=>?_,fun x hx=>?_,fun x hx=>?_⟩
 .rcases hi with hi | hi
  .have q:=key _ _ (cH hi)
   simp only[aOV,Bool.false_or,List.any_eq_true,decide_eq_true_eq]at q;(refine e1a2 q ?_;try clear q;rintro j hj e);rw[uE e];exact hj
  .have q:=key _ _ (cH hi)
   simp only[List.any_eq_true,decide_eq_true_eq]at q;(refine e1a2 q ?_;try clear q;rintro j hj e);rw[uE e];exact hj
 .have q:=key _ _ hx
  simp only[List.any_eq_true,decide_eq_true_eq]at q;exact q
 .have q:=key _ _ hx
  simp only[Bool.and_eq_true,Bool.not_eq_true',List.any_eq_false,decide_eq_true_eq]at q;(refine l3 q ?_;try clear q;rintro q1 q2 q3);refine⟨?_,fun i hi e=>q3 i hi e⟩
  rcases aQm q1 with e | e
  .rw[e]at q2;exact nbf q2
  .exact e
structure qD (env cenv:Env)(scope:Scope)(lo:Nat):Prop where
 sc:cenv.scope=gS scope env.scope
 loc:lo<=cenv.locals
 glob:cenv.globals=env.globals
 bui:cenv.builtins=env.builtins
 cells:∀ x a,cenv.cells.lookup x=some a->(lo<=a/\(x,NameKind.cell)∈scope.names)\/((x,NameKind.cell) ∉ scope.names/\env.cells.lookup x=some a)
 has:∀ x,(x,NameKind.cell)∈scope.names->∃ a,cenv.cells.lookup x=some a/\lo<=a
 free:∀ x,(x,NameKind.free)∈scope.names->∃ a,cenv.cells.lookup x=some a/\env.cells.lookup x=some a
 apart:∀ x y a,cenv.cells.lookup x=some a->cenv.cells.lookup y=some a->x=y
theorem aAr {names:List (Str × NameKind)}{n:Nat}{x:Str}(h:(x,NameKind.cell) ∉ names):(cellsFrom n names []).lookup x=none:=by
 cases hc:(cellsFrom n names []).lookup x with
 | none=>rfl
 | some a=>exact absurd (iV names n x a (mem_of_lookup hc)) h
section
variable {M:Model} {A:Around} {Er:Value->Shared->Prop} {s:Shared}
theorem aJV {env:Env}{scope:Scope}{ids:List Nat}{cl:List (Str × Addr)}{Q:Env->Shared->Prop}(K:fB env)(hcells:∀ x a,env.cells.lookup x=some a->∃ o,s.heap.IsCell a o)(S:aIO env.scope scope ids)
  (h1:∀ x a,cl.lookup x=some a->env.cells.lookup x=some a) (h2:∀ p∈scope.names,p.2=.free->∃ a,cl.lookup p.1=some a)
  (h:∀ cenv h',qD env { cenv with scope:=relabel scope env } scope s.heap.objs.size->bY s.heap h'->h'.Ns cenv.locals (fun u_=>none)->(∀ x a,cenv.cells.lookup x=some a->∃ o,h'.IsCell a o)->Q cenv { s with heap:=h' }) :
  wpAny M A (newFunctionEnv scope env.globals cl [] env.qual none .none (some env)) Q Er s:=by
 simp only[newFunctionEnv,Option.isSome_some,if_true];refine wpAny_bind (wpAny_alloc ?_);refine wpAny_bind (wpAny_layCells _ (fun name kind cells=>by cases hkc:kind == NameKind.cell <;> simp[hkc]) _ _ _ _ ?_)
 have ok:=cellsFrom_ok scope.names (s.heap.push { cls:=.type "dict",data:=.dict #[] }) (s.heap.objs.size+1) [] ⟨fun u_ u_ hm=>(nomatch hm),List.Pairwise.nil⟩ (by rw[Heap.size_push];exact Nat.le_refl _)
 rw[Heap.size_push]at ok;rw[show({ s with heap:=s.heap.push { cls:=.type "dict",data:=.dict #[] } }:Shared).heap.objs.size=s.heap.objs.size+1 from Heap.size_push ..]
 simp only[List.forIn_nil];refine wpAny_bind (wpAny_pure (wpAny_pure ?_));have hkp:bY s.heap (pushCells (s.heap.push { cls:=.type "dict",data:=.dict #[] }) scope.names):=fun b o e=>pushCells_keeps _ _ b o (Heap.get?_push_of_some _ e);refine h _ _ ?_ hkp ((Heap.Ns.new s.heap (.type "dict")).keeps (pushCells_keeps _ _)) ?_
 .have look:∀ x a,(cellsFrom (s.heap.objs.size+1) scope.names cl).lookup x=some a->((x,a)∈cellsFrom (s.heap.objs.size+1) scope.names []/\s.heap.objs.size+1<=a/\(x,NameKind.cell)∈scope.names)\/((x,NameKind.cell) ∉ scope.names/\cl.lookup x=some a):=by
   intro x a hx;rw[dC,List.lookup_append]at hx
   cases hc:(cellsFrom (s.heap.objs.size+1) scope.names []).lookup x with
   | some b =>
    rw[hc]at hx;(replace hx:=(aA hx).symm;subst hx);have hm:=mem_of_lookup hc;exact .inl ⟨hm,(ok.empty x a hm).2,iV _ _ _ _ hm⟩
   | none =>
    rw[hc]at hx;refine .inr ⟨fun hm=>?_,hx⟩;(refine e1a1 (dZ _ (s.heap.objs.size+1) _ hm) ?_;rintro b hb);(refine e1a1 (cT hb) ?_;rintro b2 hb2);rw[hc]at hb2;exact cM hb2
  refine⟨rfl,Nat.le_refl _,rfl,rfl,fun x a hx=>?_,fun x hx=>?_,fun x hx=>?_,fun x y a hx hy=>?_⟩
  .rcases look x a hx with ⟨u_,q1,q2⟩ | ⟨q1,q2⟩
   .exact .inl ⟨Nat.le_of_lt q1,q2⟩
   .exact .inr ⟨q1,h1 x a q2⟩
  ·(refine e1a1 (dZ _ (s.heap.objs.size+1) _ hx) ?_;rintro b hb)
   (refine e1a1 (cT hb) ?_;rintro b2 hb2);have e:(cellsFrom (s.heap.objs.size+1) scope.names cl).lookup x=some b2:=by rw[dC,List.lookup_append,hb2];rfl
   exact⟨b2,e,Nat.le_of_lt (ok.empty x b2 (mem_of_lookup hb2)).2⟩
  ·(refine e1a1 (h2 _ hx rfl) ?_;rintro a ha)
   have hnc:(x,NameKind.cell) ∉ scope.names:=fun hm=>by
    have e1:=oK S.nodup hm;rw[oK S.nodup hx]at e1;cases e1
   have e:(cellsFrom (s.heap.objs.size+1) scope.names cl).lookup x=some a:=by rw[dC,List.lookup_append,aAr hnc,ha];rfl
   exact⟨a,e,h1 x a ha⟩
  .have mixed:∀ y:Str,(s.heap.objs.size+1<=a)->cl.lookup y=some a->False:=fun y q1 q2=>by
    (refine e1a1 (hcells y a (h1 y a q2)) ?_;rintro o hc);exact absurd hc.lt (Nat.not_lt.mpr (Nat.le_of_lt q1))
   rcases look x a hx with ⟨m1,q1,u_⟩ | ⟨u_,q1⟩ <;> rcases look y a hy with ⟨m2,q2,u_⟩ | ⟨u_,q2⟩
   .exact name_of_addr ok.apart m1 m2
   .exact(mixed y q1 q2).elim
   .exact(mixed x q2 q1).elim
   .exact K.apart x y a (h1 x a q1) (h1 y a q2)
 .intro x a hx
  have hx:(cellsFrom (s.heap.objs.size+1) scope.names cl).lookup x=some a:=hx;rw[dC,List.lookup_append]at hx
  cases hc:(cellsFrom (s.heap.objs.size+1) scope.names []).lookup x with
  | some b =>
   rw[hc]at hx;(replace hx:=(aA hx).symm;subst hx);exact⟨none,(ok.empty x a (mem_of_lookup hc)).1⟩
  | none =>
   rw[hc]at hx;(refine e1a1 (hcells x a (h1 x a hx)) ?_;rintro o ho);exact⟨o,ho.keeps hkp⟩
end
section
variable {c:cG}
set_option tactic.hygienic true in
theorem qD.eok {env cenv:Env}{scope:Scope}{ids:List Nat}{lo:Nat}(K:fB env)(S:aIO env.scope scope ids)(C:qD env cenv scope lo):fB cenv:=by
 refine⟨?_,C.glob.trans K.glob,C.bui.trans K.bui,?_,?_,fun x hx=>?_,C.apart⟩
 .rw[C.sc];exact S.kind
 .rw[C.sc];exact S.co
 .rw[C.sc];exact S.more
 .have e:∀ k,cenv.kindOf x=some k->(gS scope env.scope).names.lookup x=some k:=fun k hk=>by rw[<-C.sc];exact hk
  have key:∃ k,scope.names.lookup x=some k/\(k=.cell\/k=.free):=by
   rcases hx with hx | hx <;> have q:=e _ hx <;> rw[mM,Option.map_eq_some_iff]at q <;> (refine e1a2 q ?_;try clear q;rintro k hk q)
   .refine⟨k,hk,?_⟩
    split at q
    .rename_i hb
     exact aRd hb fun hb_0 hb_1 hb_2=>.inr hb_0
    .exact .inl q
   .refine⟨k,hk,?_⟩
    split at q
    .cases q
    .exact .inr q
  (refine e1a2 key ?_;try clear key;rintro k hk hk')
  rcases hk' with rfl | rfl
  ·(refine e1a2 (C.has x (cH hk)) ?_;rintro a ha _)
   exact⟨a,ha⟩
  ·(refine e1a2 (C.free x (cH hk)) ?_;rintro a ha _)
   exact⟨a,ha⟩
set_option tactic.hygienic true in
theorem qD.own {env cenv:Env}{scope:Scope}{ids:List Nat}{lo:Nat}(S:aIO env.scope scope ids)(C:qD env cenv scope lo){i:Nat}(hi:i∈ids){a:Addr}(hk:cenv.kindOf (nm i)=some .cell)(ha:cenv.cells.lookup (nm i)=some a):lo<=a:=by
 rcases C.cells _ _ ha with q | ⟨q,_⟩
 .exact q.1
 .have e:(gS scope env.scope).names.lookup (nm i)=some .cell:=by rw[<-C.sc];exact hk
  rw[mM,Option.map_eq_some_iff]at e;(refine e1a2 e ?_;try clear e;rintro k hk e)
  split at e
  .rename_i hb
   replace hb:=aRC hb;rw[hb.1.1]at hk;exact absurd rfl ((S.free _ (cH hk)).2 i hi)
  .rw[e]at hk
   exact absurd (cH hk) q
theorem Rep.grow {Own Own':Addr->Prop}{k:Nat}{s:Shared}{v:Value}{pv:PV}(hs:∀ a,Own' a->(∃ o,s.heap.get? a=some o)->Own a)(r:Rep c Own k s v pv):Rep c Own' k s v pv:=by
 cases r with
 | dat r=>exact .dat (eS.grow hs r)
 | hdr r=>exact .hdr r
 | gen r=>exact .gen r
theorem aFZ.grow {Own Own':Addr->Prop} {env M E s}(hs:∀ a,Own' a->(∃ o,s.heap.get? a=some o)->Own a)(V:aFZ c Own env M E s):aFZ c Own' env M E s:=by
 (refine e1a2 V.ns ?_;rintro m hm hv);exact⟨m,hm,fun i pv e ha=>let ⟨v,h1,h2⟩:=hv i pv e ha;⟨v,h1,h2.grow hs⟩⟩
noncomputable def aQu (OX:Addr->Prop)(ids:List Nat)(h:Heap)(P':Nat->Option Value)(E E':AE):Prop :=
 ∀ j,(j∈ids->∀ pv,E' j=some pv->∃ v d,P' j=some v/\pv=.dat d/\bL OX h v d)/\(j ∉ ids->E' j=E j)
theorem Got.w {OX:Addr->Prop}{ids:List Nat}{h:Heap}{P P':Nat->Option Value}{E E':AE}(G:Got OX ids h P P' E E'):aQu OX ids h P' E E':=fun j =>
 ⟨fun m pv e=>e2a3 ((G j).1 m) fun v d h1 h2 h3=>⟨v,d,h1,aA (e.symm.trans h2),h3⟩,fun m=>((G j).2 m).2⟩
theorem aNs (C:bE c) {n A Own Own' env M E s s' cenv scope ids lo E' P'}{OX:Addr->Prop}(X:Cx c n A Own env M E s)(st:cS s s')(S:aIO env.scope scope ids)(CE:qD env cenv scope lo)
  (hgr:∀ a,Own' a->(∃ o,s.heap.get? a=some o)->Own a) (hlv:∀ a,Own' a->∃ o,s'.heap.get? a=some o) (hOX:∀ a,Own' a->OX a)
  (So:lP cenv s'.heap P') (G:aQu OX ids s'.heap P' E E') (hc:∀ x a,cenv.cells.lookup x=some a->∃ o,s'.heap.IsCell a o):Cx c n A Own' cenv (eG M ids) E' s':=by
 have X':=X.stp C st;have V':=(X.view.grow hgr).stp C st;refine⟨CE.eok X.eok S,X.room,X'.base,⟨?_⟩,hlv,hc⟩;(refine e1a2 So.ns ?_;rintro m hm hl);(refine e1a2 V'.ns ?_;rintro mo hmo hv);refine⟨m,hm,fun i pv e ha=>?_⟩
 by_cases hi:i∈ids
 ·(refine e2a3 ((G i).1 hi pv e) ?_;rintro v d h1 rfl h3)
  refine⟨v,hl i v h1,?_⟩;have em:eG M ids i=0:=by unfold eG;rw[if_pos (by simpa using hi)]
  rw[em];exact .dat (h3.weak hOX)
 .rw[(G i).2 hi]at e
  rw[CE.sc]at ha;unfold acc at ha;rw[mM]at ha;have em:eG M ids i=M i:=by unfold eG;rw[if_neg (by simpa using hi)]
  rw[em]
  cases hk:scope.names.lookup (nm i)with
  | none=>rw[hk]at ha;exact eR ha
  | some k =>
   have hfree:k=.free:=by
    cases k with
    | «local»=>exact absurd (S.own i (.inl hk)) hi
    | cell=>exact absurd (S.own i (.inr hk)) hi
    | free=>rfl
    | _=>rw[hk]at ha;first | exact eR ha | simp at ha
   subst hfree;obtain ⟨hq,u_⟩:=S.free _ (cH hk);have hacc:acc env.scope (nm i)=true:=by unfold acc;rcases hq with q | q <;> rw[q]
   (refine e1a2 (hv i pv e hacc) ?_;rintro v hL hR);refine⟨v,?_,hR⟩
   rcases hL with ⟨q,u_⟩ | ⟨u_,a,ha',hcell⟩
   .have q:env.scope.names.lookup (nm i)=some .local:=q
    rcases hq with q2 | q2 <;> rw[q2]at q <;> cases q
   ·(refine e1a2 (CE.free _ (cH hk)) ?_;rintro a2 h3 h4)
    rw[ha']at h4;replace h4:=aA h4;subst h4;refine .inr ⟨?_,a,h3,hcell⟩;show(cenv.scope.names.lookup (nm i)=_)\/(cenv.scope.names.lookup (nm i)=_);rw[CE.sc,mM,hk];dsimp only[Option.map_some]
    split
    .exact .inl rfl
    .exact .inr rfl
end
section
variable {prog:Program} {w:World} {A:Around} {R:Result->Shared->Prop} {s:Shared}
set_option tactic.hygienic true in
theorem aBK {elt target iter:Expr}{ifs:List Expr}{scope:Scope}{pos:Pos}{it acc:Value}{env:Env}(I:Nat->Shared->Prop)
  (turn:∀ n s,I n s->∀ Er:Value->Shared->Prop,wpAny (model prog w) A (pyNext it) (fun r s₁=>match r with
   | none=>R (.ok .next) s₁
   | some v=>wpAny (model prog w) A (letOwnedTupleGo target it v) (fun _ s₂=>wpAny (model prog w) A (assign target env v) (fun _ s₂ =>
     wpAny (model prog w) A (forIn ifs true fun c r=>if r=true then do let ok <-isTrue c env (eval c env);pure (ForInStep.yield ok)else pure (ForInStep.yield r)) (fun ok s₃ =>
      if ok=true then wpAny (model prog w) A (eval elt env) (fun x s₄ =>
       wpAny (model prog w) A (call (.builtin "list.append") [acc,x]) (fun _ s₅=>∃ m,m < n/\I m s₅) Er s₄) Er s₃
      else ∃ m,m < n/\I m s₃) Er s₂) Er s₂) Er s₁) Er s)
  (n:Nat) (h:I n s):codeAny (model prog w) A (.compLoop (.ListComp elt [⟨target,iter,ifs,0⟩] scope pos) 0 it acc env) R s:=by
 refine codeAny_loop rfl I (fun n s hI=>?_) n h;show wpAny _ A ((compTurn (.ListComp elt [⟨target,iter,ifs,0⟩] scope pos) 0 it acc env).onRaise (fun x=>do noteFrame x env;theTreesLotGoes x)) _ _ s
 refine wpAny_noted ?_;rw[compTurn_list];refine wpAny_bind (wpAny_standAt (wpAny_bind (wpAny_mono (turn n s hI _) (fun r s₁ h₁=>?_) fun _ _ h'=>h')))
 induction r with
 | none=>exact wpAny_pure h₁
 | some v =>
  refine wpAny_bind (wpAny_mono h₁ (fun _ s₂ h₂=>?_) fun _ _ h'=>h');refine wpAny_bind (wpAny_mono h₂ (fun _ s₂ h₂=>wpAny_bind (wpAny_mono h₂ (fun ok s₃ h₃=>?_) fun _ _ h'=>h')) fun _ _ h'=>h')
  induction ok with
  | false=>exact wpAny_pure ⟨rfl,h₃⟩
  | true =>
   exact wpAny_bind (wpAny_bind (wpAny_mono h₃ (fun x s₄ h₄=>wpAny_bind (wpAny_mono h₄ (fun _ s₅ h₅=>wpAny_pure (wpAny_pure ⟨rfl,h₅⟩)) fun _ _ h'=>h')) fun _ _ h'=>h'))
end
noncomputable def tO (c:cG)(xs:Xs):Prop :=
 ∀ (n:Nat) (A:Around) (env:Env) (Own:Addr->Prop) (M:Nat->Nat) (E:AE) (s:Shared) (es:List Expr) (b:Bool) (Q:Bool->Shared->Prop) (Er:Value->Shared->Prop),
  Cx c n A Own env M E s->chkXs c.fnm c.rk n env.scope xs es=true->okXs M xs=true->evTests c.G c.T xs E=some b ->
  (∀ s',cS s s'->Q b s') ->
  wpAny (model c.prog c.w) A (forIn es true fun c r=>if r=true then do let ok <-isTrue c env (eval c env);pure (ForInStep.yield ok)else pure (ForInStep.yield r)) Q Er s
theorem uY {M:Model}{A:Around}{env:Env}{Q:Bool->Shared->Prop}{Er:Value->Shared->Prop}{s:Shared}(h:Q false s):∀ es:List Expr,
  wpAny M A (forIn es false fun c r=>if r=true then do let ok <-isTrue c env (eval c env);pure (ForInStep.yield ok)else pure (ForInStep.yield r)) Q Er s
 | []=>by rw[List.forIn_nil];exact wpAny_pure h
 | e::es=>by
  rw[List.forIn_cons,if_neg aN];exact wpAny_bind (wpAny_pure (uY h es))
section
variable {c:cG}
theorem sB:tO c .nil:=by
 intro n A env Own M E s es b Q Er X hc ho he h;dsimp only[fM]at hc;obtain rfl:=kZ hc;(replace he:=(aA he).symm;subst he);rw[List.forIn_nil];exact wpAny_pure (h s (.refl s))
theorem xG (C:bE c){x:X}{xs:Xs}(hx:fW c x)(hxs:tO c xs):tO c (.cons x xs):=by
 intro n A env Own M E s es b Q Er X hc ho he h;dsimp only[dT]at hc;(refine e2a4 (hZ hc) ?_;rintro z r rfl h1 h2 h3);replace ho:=aG1 (gT.symm.trans ho);revert he;refine cE fun d hd=>cE fun q hq he=>?_;rw[List.forIn_cons,if_pos rfl];refine wpAny_bind (wpAny_bind (hx n A env Own M E s z d q _ Er X h2 ho.1.1 hd hq fun s' st=>?_));refine wpAny_pure ?_
 induction q with
 | false =>
  (replace he:=(aA he).symm;subst he);exact uY (h s' st) r
 | true =>
  exact hxs n A env Own M E s' r b Q Er (X.stp C st) h3 ho.2 he fun s2 st2=>h s2 (st.trans st2)
theorem cS.mv {old:Addr->Prop}{wr:List Addr}{gs:List Nat}{s s1 s2:Shared}(x:cS s s1)(y:Mv old wr gs s1 s2)(h0:∀ b o,s.heap.get? b=some o->old b)(h1:∀ b∈wr,s.heap.get? b=none)(h2:∀ g∈gs,s.gens.size<=g):cS s s2:=by
 refine⟨fun b o e=>y.keep b o (fun m=>by rw[h1 b m]at e;exact cM e) (.inl (h0 b o e)) (x.keep b o e),⟨aP x.gk.size y.size,fun i hi=>?_,fun hb=>y.bare (x.gk.bare hb)⟩,y.os.trans x.os⟩
 rw[y.gold i (Nat.lt_of_lt_of_le hi x.gk.size) fun m=>absurd (h2 i m) (Nat.not_le.mpr hi)];exact x.gk.old i hi
set_option tactic.hygienic true in
theorem aLt {it:It}{E:AE}{ds:List PyData} {G T}(h:evIt G T it E=some ds):ds.length<=1000000:=by
 have ie:∀ (l:List Nat) (i:Nat) (b:Bool),(bT l i b).length<=l.length+1:=by
  intro l
  induction l with
  | nil=>intro i b;cases b;exact Nat.zero_le _;exact Nat.le_refl _
  | cons a l ih =>
   intro i b
   induction b with
   | true=>show(bT l (i+1) false).length+1<=l.length+1+1;exact Nat.succ_le_succ (ih (i+1) false)
   | false =>
    show(if a=92 then bT l (i+1) true else .tuple [.int i,S [a]]::bT l (i+1) false).length<=_
    split
    .have:=ih (i+1) true;simp only[aR];lia
    .simp only[aR];have:=ih (i+1) false;lia
 cases it with
 | val a =>
  revert h;refine cE fun x _ h=>?_
  cases x with
  | list xs=>simp only[bZ,dJ,eN]at h;split at h <;> (first | exact cM h | (replace h:=(aA h).symm;subst h) | cases h);assumption
  | tuple xs=>simp only[bZ,dJ,eN]at h;split at h <;> (first | exact cM h | (replace h:=(aA h).symm;subst h) | cases h);assumption
  | str xs =>
   simp only[bZ,dJ,eN]at h
   split at h
   .rename_i q;(replace h:=(aA h).symm;subst h);simp only[jN,aK];exact q.2
   .exact cM h
  | _=>exact cM h
 | rng1 a =>
  revert h;refine cE fun x _=>cE fun n _ h=>?_;revert h;refine ifs fun z0c h=>?_;(replace h:=(aA h).symm;subst h);rw[jA];lia
 | rng3 a b d =>
  revert h;refine cE fun x _=>cE fun n _=>cE fun y _=>cE fun k _=>cE fun z _=>cE fun t _ h=>?_;revert h;refine ifs fun q h=>?_;(replace h:=(aA h).symm;subst h);rw[jA];unfold aHw
  split
  .have h6:(k - n+t - 1) / t<=k - n+t - 1:=Int.ediv_le_self _ (by lia)
   omega
  .lia
 | enm a =>
  revert h;refine cE fun x _=>cE fun n _ h=>?_;revert h;refine ifs fun z0c h=>?_;(replace h:=(aA h).symm;subst h);rw[jS];lia
 | gen a =>
  revert h;refine cE fun x _=>cE fun n _ h=>?_;revert h;refine ifs fun z0c h=>?_;(replace h:=(aA h).symm;subst h);have:=ie n 0 false;lia
end
noncomputable def RdB (T:Bool)(Own:Addr->Prop)(h:Heap)(v:Value)(d:PyData):Prop:=match T with
 | false=>bL Own h v d
 | true=>v=.type "int"/\d=.none
theorem RdB.keep {T:Bool}{Own:Addr->Prop}{h h':Heap}{v:Value}{d:PyData}(k:bY h h')(x:RdB T Own h v d):RdB T Own h' v d:=by
 cases T with
 | false=>exact bL.keep k x
 | true=>exact x
theorem RdB.kpf {T:Bool}{Own:Addr->Prop}{h h':Heap}{v:Value}{d:PyData}(x:RdB T Own h v d)(k:jZ Own h h'):RdB T Own h' v d:=by
 cases T with
 | false=>exact bL.kpf k x
 | true=>exact x
structure CI (T:Bool)(cenv:Env)(D:Addr)(OX Own':Addr->Prop)(s s0:Shared)(yd:List PyData)(P:Nat->Option Value)(s':Shared):Prop where
 stp:cS s s'
 kp:jZ OX s0.heap s'.heap
 gz:s0.gens.size<=s'.gens.size
 sto:lP cenv s'.heap P
 cel:∀ x a,cenv.cells.lookup x=some a->∃ o,s'.heap.IsCell a o
 acc:∃ vs,s'.heap.PlainList D vs/\bP (RdB T Own' s'.heap) vs.toList yd
structure CF (cenv:Env)(ids:List Nat)(D:Addr)(OX Own':Addr->Prop)(fp wr:List Addr)(gs:List Nat)(s s0:Shared):Prop where
 hfp:∀ b∈fp,∃ o,s0.heap.get? b=some o
 hwr:∀ b∈wr,b∈fp/\s.heap.get? b=none
 hgs:∀ g∈gs,s.gens.size<=g/\g < s0.gens.size
 d:D=s0.heap.objs.size
 ox:OX D
 own:Own' D
 loc:D < cenv.locals
 cel:∀ x a,cenv.cells.lookup x=some a->D < a\/∃ o,s.heap.get? a=some o
 hids:∀ i∈ids,cenv.kindOf (nm i)=some .cell->∀ a,cenv.cells.lookup (nm i)=some a->D < a
 st0:cS s s0
section
variable {T:Bool} {cenv:Env} {ids:List Nat} {D:Addr} {OX Own':Addr->Prop} {fp wr:List Addr} {gs:List Nat} {s s0 s1 s2:Shared} {yd:List PyData} {P:Nat->Option Value}
theorem CF.nwr (F:CF cenv ids D OX Own' fp wr gs s s0){b:Addr}(h:D<=b):b ∉ wr:=fun m=>by
 (refine e1a1 (F.hfp b (F.hwr b m).1) ?_;rintro o ho);exact absurd (Heap.lt_size ho) (Nat.not_lt.mpr (F.d ▸ h))
theorem CF.ncel (F:CF cenv ids D OX Own' fp wr gs s s0){x:Str}{a:Addr}(h:cenv.cells.lookup x=some a):a ∉ wr:=by
 rcases F.cel x a h with q | ⟨o,q⟩
 .exact F.nwr (Nat.le_of_lt q)
 .exact fun m=>by rw[(F.hwr a m).2]at q;exact cM q
theorem CI.mvG {old:Addr->Prop}(x:CI T cenv D OX Own' s s0 yd P s1)(m:Mv old wr gs s1 s2)(h0:∀ b o,s.heap.get? b=some o->old b)(h1:∀ b∈wr,s.heap.get? b=none)(h2:∀ g∈gs,s.gens.size<=g)(hl:cenv.locals ∉ wr)(hc:∀ y a,cenv.cells.lookup y=some a->a ∉ wr):CI T cenv D OX Own' s s0 yd P s2:=by
 have kseq:∀ OY:Addr->Prop,jZ OY s1.heap s2.heap:=fun OY b o vs n hb hd u_=>m.seq b o vs n hd hb;refine⟨x.stp.mv m h0 h1 h2,x.kp.trans (kseq _),aP x.gz m.size,?_,fun y a h=>?_,?_⟩
 .have S:=x.sto
  (refine e1a2 S.ns ?_;rintro mm ⟨o',es,ep,ho',hd',u_⟩ u_);refine S.at (fun o e=>m.keep _ o hl (.inr fun fs q=>by rw[e]at ho';(replace ho':=(aA ho').symm;subst ho');rw[q]at hd';cases hd') e) fun y a u_ h o e=>m.keep a o (hc y a h) (.inr fun fs q=>?_) e
  (refine e2a2 (x.cel y a h) ?_;rintro o2 ob ho hd);rw[e]at ho;(replace ho:=aA ho;subst ho);rw[q]at hd;cases hd
 ·(refine e2a2 (x.cel y a h) ?_;rintro o ob ho hd)
  exact⟨o,ob,m.keep a ob (hc y a h) (.inr fun fs q=>by rw[q]at hd;cases hd) ho,hd⟩
 ·(refine e1a2 x.acc ?_;rintro vs ⟨n,hl⟩ hx)
  exact⟨vs,⟨n,m.seq _ _ _ _ rfl hl⟩,hx.mono fun u_ u_ q=>RdB.kpf q (kseq _)⟩
theorem CI.mv (F:CF cenv ids D OX Own' fp wr gs s s0)(x:CI T cenv D OX Own' s s0 yd P s1)(m:Mv (fun b=>∃ o,s0.heap.get? b=some o) wr gs s1 s2):CI T cenv D OX Own' s s0 yd P s2 :=
 x.mvG m (fun b o e=>⟨o,F.st0.keep b o e⟩) (fun b hb=>(F.hwr b hb).2) (fun g hg=>(F.hgs g hg).1) (F.nwr (Nat.le_of_lt F.loc)) fun y a h=>F.ncel h
theorem CI.st (x:CI T cenv D OX Own' s s0 yd P s1)(st:cS s1 s2):CI T cenv D OX Own' s s0 yd P s2:=by
 (refine e1a2 x.acc ?_;rintro vs hl hx)
 exact⟨x.stp.trans st,x.kp.trans (.of st.keep),aP x.gz st.gk.size,x.sto.keep st.keep,fun y a h=>let ⟨o,ho⟩:=x.cel y a h;⟨o,ho.keeps st.keep⟩,
  vs,PlainList.keep st.keep hl,hx.mono fun u_ u_ q=>RdB.keep st.keep q⟩
theorem aG6 {s s0:Shared}(st:cS s s0){b:Addr}{o:Obj}(h:s.heap.get? b=some o):b < s0.heap.objs.size:=Heap.lt_size (st.keep _ _ h)
noncomputable def Far (cenv:Env)(ids:List Nat)(D b:Addr):Prop:=b≠D/\b≠cenv.locals/\∀ i∈ids,cenv.kindOf (nm i)=some .cell->cenv.cells.lookup (nm i)≠some b
theorem CI.ncel (x:CI T cenv D OX Own' s s0 yd P s1){b y:_}{o:Obj}(e:s1.heap.get? b=some o)(h:cenv.cells.lookup y=some b):∃ v,o.data=.cell v:=by
 (refine e2a2 (x.cel y b h) ?_;rintro v ob ho hd);rw[e]at ho;(replace ho:=aA ho;subst ho);exact⟨_,hd⟩
theorem CI.kb (F:CF cenv ids D OX Own' fp wr gs s s0)(K:fB cenv)(x:CI T cenv D OX Own' s s0 yd P s1){h':Heap}{tk:Nat}{P':Nat->Option Value}(k:Kb cenv ids s1.heap h')(So:lP cenv h' P'):CI T cenv D OX Own' s s0 yd P' { s1 with heap:=h',toks:=tk }:=by
 have S:=x.sto;(refine e1a2 x.acc ?_;rintro vs ⟨n,hl⟩ hx)
 have low:∀ b o,b<=D->s1.heap.get? b=some o->h'.get? b=some o:=fun b o hb e =>
  k b o (Nat.ne_of_lt (Nat.lt_of_le_of_lt hb F.loc)) (fun i hi hk hl=>absurd (F.hids i hi hk b hl) (Nat.not_lt.mpr hb)) e
 refine⟨⟨fun b o e=>low b o (F.d ▸ Nat.le_of_lt (aG6 F.st0 e)) (x.stp.keep b o e),x.stp.gk,x.stp.os⟩,x.kp.trans (S.kpf k),x.gz,So,fun y a hy=>?_,vs,⟨n,low D _ (Nat.le_refl _) hl⟩,hx.mono fun u_ u_ q=>RdB.kpf q (S.kpf k)⟩
 by_cases hcl:cenv.kindOf y=some .cell
 .exact So.cells y a hcl hy
 ·(refine e2a2 (x.cel y a hy) ?_;rintro o ob ho hd)
  exact⟨o,ob,k a ob (S.ne ⟨ob,ho,hd⟩) (fun i hi hk hq=>hcl (by rw[K.apart _ _ _ hy hq];exact hk)) ho,hd⟩
theorem CI.far (x:CI T cenv D OX Own' s s0 yd P s1){b:Addr}{o:Obj}(e:s1.heap.get? b=some o)(hb:∃ fs,o.data=.fields fs):Far cenv ids D b:=by
 (refine e1a1 hb ?_;clear hb;rintro fs hb);refine⟨fun q=>?_,fun q=>?_,fun i hi hk hl=>?_⟩
 ·(refine e1a2 x.acc ?_;rintro vs ⟨n,hl⟩ u_)
  rw[q,hl]at e;(replace e:=aA e;subst e);cases hb
 ·(refine e1a2 x.sto.ns ?_;rintro mm ⟨o',es,ep,ho',hd',u_⟩ u_)
  rw[q,ho']at e;(replace e:=aA e;subst e);rw[hb]at hd';cases hd'
 ·(refine e1a1 (x.ncel e hl) ?_;rintro v hv);rw[hb]at hv;cases hv
theorem CF.far (F:CF cenv ids D OX Own' fp wr gs s s0){b:Addr}(hb:b∈fp):Far cenv ids D b:=by
 have hbD:b < D:=by(refine e1a1 (F.hfp b hb) ?_;rintro o' ho');rw[F.d];exact Heap.lt_size ho'
 exact⟨Nat.ne_of_lt hbD,Nat.ne_of_lt (Nat.lt_trans hbD F.loc),fun i hi hk hl=>absurd (F.hids i hi hk b hl) (Nat.not_lt.mpr (Nat.le_of_lt hbD))⟩
theorem CI.low (F:CF cenv ids D OX Own' fp wr gs s s0)(x:CI T cenv D OX Own' s s0 yd P s1){b:Addr}{o:Obj}(e:s1.heap.get? b=some o)(hb:b∈fp\/∃ fs,o.data=.fields fs):Far cenv ids D b :=
 hb.elim F.far (x.far e)
theorem CI.app (F:CF cenv ids D OX Own' fp wr gs s s0)(x:CI T cenv D OX Own' s s0 yd P s1){h':Heap}{vs:Array Value}{v:Value}{d:PyData}(hl:h'.PlainList D (vs.push v))(hs:Heap.SameBut D s1.heap h')
  (hx:bP (RdB T Own' s1.heap) vs.toList yd) (r:RdB T Own' s1.heap v d) (hD:∃ n,s1.heap.get? D=some { cls:=.type "list",dict:=none,data:=.seq vs n,slots:=#[] }):CI T cenv D OX Own' s s0 (yd++[d]) P { s1 with heap:=h' }:=by
 have S:=x.sto;(refine e1a1 hD ?_;try clear hD;rintro n0 hD);have kk:∀ b o,b≠D->s1.heap.get? b=some o->h'.get? b=some o:=fun b o hb e=>(hs.2 b hb).trans e
 have kp:∀ OY:Addr->Prop,OY D->jZ OY s1.heap h':=fun OY hO b o ws n hb hd hc=>by
  refine kk b o (fun e=>?_) hb;subst e
  rcases hc with hc | hc
  .rw[hD]at hb;(replace hb:=(aA hb).symm;subst hb);exact absurd hc (by simp)
  .exact hc hO
 have dead:∀ b o,s0.heap.get? b=some o->b≠D:=fun b o e=>F.d ▸ Nat.ne_of_lt (Heap.lt_size e)
 have ncell:∀ y a,cenv.cells.lookup y=some a->a≠D:=fun y a h e=>by
  (refine e2a2 (x.cel y a h) ?_;rintro o ob ho hd);rw[e,hD]at ho;(replace ho:=aA ho;subst ho);cases hd
 refine⟨⟨fun b o e=>kk b o (dead b _ (F.st0.keep b o e)) (x.stp.keep b o e),x.stp.gk,x.stp.os⟩,x.kp.trans (kp _ F.ox),x.gz,S.at (fun o e=>kk _ o (Nat.ne_of_gt F.loc) e) fun y a u_ h o e=>kk a o (ncell y a h) e,
  fun y a h=>?_,vs.push v,hl,?_⟩
 ·(refine e2a2 (x.cel y a h) ?_;rintro o ob ho hd)
  exact⟨o,ob,kk a ob (ncell y a h) ho,hd⟩
 .rw[Array.toList_push]
  exact(hx.mono fun u_ u_ q=>RdB.kpf q (kp _ F.own)).append (.cons (RdB.kpf r (kp _ F.own)) .nil)
end
theorem aEf {sc:Scope}{t:Tgt}{e:Expr}(h:nP sc t e=true){it:It}(ht:aAZ it t=true):aNW it=true->∃ es k p,e=Expr.Tuple es k p:=by
 intro hi;have hq0:∃ v0,it=.enm v0:=by revert hi;generalize it=y0;intro hi;cases y0 <;> first | exact⟨_,rfl⟩ | exact cM hi | exact eR hi | cases hi
 (refine e1a1 hq0 ?_;try clear hq0;rintro a rfl)
 cases t with
 | name i=>exact eR ht
 | tup is =>
  exact aGZ h
theorem bL.alive {X:Addr->Prop}{h:Heap}{a:Addr}{d:PyData}(r:bL X h (.ref a) d):∃ o,h.get? a=some o:=by
 (refine e1a2 r ?_;try clear r;rintro as r u_);cases r <;> exact⟨_,‹_›⟩
theorem rC {h:Heap}{a:Addr}{vs ws:Array Value}(x:h.PlainList a vs)(y:h.PlainList a ws):vs=ws:=by
 (refine e1a1 x ?_;try clear x;rintro n e);(refine e1a1 y ?_;try clear y;rintro m e');rw[e]at e';cases e';rfl
noncomputable def FrR (s:Shared)(h:Heap)(D:Addr):Prop:=∀ vs,h.PlainList D vs->(∀ v∈vs.toList,∀ a,v=.ref a->s.heap.get? a=none/\a≠D)/\vs.toList.Pairwise fun v w=>∀ a,v=.ref a->w≠.ref a
theorem FrR.at {s:Shared}{h h':Heap}{D:Addr}{vs:Array Value}(x:FrR s h D)(hl:h.PlainList D vs)(k:∀ n,h.get? D=some { cls:=.type "list",dict:=none,data:=.seq vs n,slots:=#[] }->h'.PlainList D vs):FrR s h' D:=by
 intro ws hw;(refine e1a1 (id hl) ?_;rintro n e);rw[<-rC (k n e) hw];exact x vs hl
theorem FrR.push {s s6:Shared}{h h':Heap}{D:Addr}{vs:Array Value}{v:Value}{X:Addr->Prop}{yd:List PyData}(x:FrR s h D)(hl:h.PlainList D vs)(hl':h'.PlainList D (vs.push v))(k:bY s.heap s6.heap)(hl6:s6.heap.PlainList D vs)
  (hx6:bP (bL X s6.heap) vs.toList yd) (hf:Fr1 s6 v):FrR s h' D:=by
 intro ws hw;rw[<-rC hl' hw];obtain ⟨h1,h2⟩:=x vs hl;rw[Array.toList_push];refine⟨fun u hu a e=>?_,?_⟩
 .rcases bF hu with m | m
  .exact h1 u m a e
  .rw[aH m]at e
   have q:=hf a e
   constructor
   .cases hh:s.heap.get? a with
    | none=>rfl
    | some o=>rw[k _ _ hh]at q;exact nsn q
   .rintro rfl
    (refine e1a1 hl6 ?_;try clear hl6;rintro n e6);rw[e6]at q;exact nsn q
 .rw[List.pairwise_append]
  refine⟨h2,List.pairwise_singleton _ _,fun u hu w hw a e e'=>?_⟩;rw[aH hw]at e';have q:=hf a e';(refine e1a1 (List.mem_iff_getElem.mp hu) ?_;rintro i hz_;obtain ⟨hi,he⟩:=hz_);(refine e1a2 (hx6.get' (i:=i) (a:=u) (by rw[List.getElem?_eq_getElem hi,he])) ?_;rintro b u_ hb)
  rw[e]at hb;(refine e1a1 hb.alive ?_;rintro o ho);rw[ho]at q;exact nsn q
theorem aIG {tests:AE->Option Bool}{elt:AE->Option PyData}{bindv:PyData->Option AE}{d:PyData}{ds zs:List PyData}{P:Prop}(h:compLoop tests elt bindv (d::ds)=some zs)
  (k:∀ E1 tb,bindv d=some E1->tests E1=some tb->(tb=false->compLoop tests elt bindv ds=some zs)->(tb=true->∃ y ys,elt E1=some y/\compLoop tests elt bindv ds=some ys/\zs=y::ys)->P):P:=by
 revert h;refine cE fun E1 hE1=>cE fun tb ht=>?_
 cases tb with
 | false=>exact fun h=>k E1 _ hE1 ht (fun u_=>h) fun q=>nomatch q
 | true=>exact cE fun y hy=>cE fun ys hys e=>k E1 _ hE1 ht (fun q=>nomatch q) fun u_=>⟨y,ys,hy,hys,(aA e).symm⟩
theorem FrR.nil {T:Bool}{cenv:Env}{D:Addr}{OX Own':Addr->Prop}{s s0 s1:Shared}{P:Nat->Option Value}(x:CI T cenv D OX Own' s s0 [] P s1):FrR s s1.heap D:=by
 intro ws hw;(refine e1a2 x.acc ?_;rintro vs hl hx);rw[<-rC hl hw,List.eq_nil_of_length_eq_zero hx.length];exact⟨fun v m=>(List.not_mem_nil m).elim,List.Pairwise.nil⟩
theorem FrR.kp {T:Bool}{cenv:Env}{D:Addr}{OX Own':Addr->Prop}{s s0 s1:Shared}{yd:List PyData}{P:Nat->Option Value}{h':Heap}(f:FrR s s1.heap D)(x:CI T cenv D OX Own' s s0 yd P s1)(k:∀ vs n,s1.heap.get? D=some { cls:=.type "list",dict:=none,data:=.seq vs n,slots:=#[] }->h'.get? D=some { cls:=.type "list",dict:=none,data:=.seq vs n,slots:=#[] }):FrR s h' D:=by
 (refine e1a2 x.acc ?_;rintro vs hl u_);exact f.at hl fun n e=>⟨n,k vs n e⟩
theorem zV {T:Bool}{c:cG}(C:bE c){n:Nat}{A:Around}{env:Env}{Own:Addr->Prop}{M:Nat->Nat}{E:AE}{s sa:Shared}{x tg ite:Expr}{fs:List Expr}{rest:List Comprehension}{scope:Scope}{p pos:Pos}{ids:List Nat}{ds:List PyData}{use:Option (Value->Sem Unit)}{Q:Value->Shared->Prop}{Er:Value->Shared->Prop}{k0:Nat}{tupT:Bool}
  (X:Cx c n A Own env M E s) (h0:gE ite=true) (hev:∀ (Q:Value->Shared->Prop) (Er:Value->Shared->Prop),(∀ v s0,cS s s0->nQ c A Own k0 tupT s s0 v ds->Q v s0)->wpAny (model c.prog c.w) A (eval ite env) (fun x s₁=>wpAny (model c.prog c.w) A (pyIter x) Q Er s₁) Er sa)
  (S:aIO env.scope scope ids)
  (h:∀ D OX Own' ce fp wr gs s0 s4 v St Mid,CF ce ids D OX Own' fp wr gs s s0->Wk c A OX s0 tupT v fp wr gs St Mid->St ds s4->CI T ce D OX Own' s s0 [] (fun u_=>none) s4->fB ce->ce.scope=gS scope env.scope ->
   (∀ (OY:Addr->Prop) yd P s' E',(∀ a,Own' a->OY a)->CI T ce D OX Own' s s0 yd P s'->aQu OY ids s'.heap P E E'->Cx c n A Own' ce (eG M ids) E' s')->(∀ a,Own' a->OX a) ->
   (∀ ys P s',CI T ce D OX Own' s s0 ys P s'->(T=false->bL Own s'.heap (.ref D) (.list ys))/\s.heap.get? D=none/\s.heap.get? ce.locals=none) ->
   codeAny (model c.prog c.w) A (.compLoop (.ListComp x (⟨tg,ite,fs,0⟩::rest) scope p) 0 v (.ref D) ce) (compPost (model c.prog c.w) A Er use Q (.ref D) ce.locals) s4) :
  wpAny (model c.prog c.w) A (comprehension (.ListComp x (⟨tg,ite,fs,0⟩::rest) scope p) scope env pos (newList []) false (eval ite env) use) Q Er sa:=by
 (refine e1a3 (aFI X.eok (fun p hp hf=>(S.free p.1 (by rw[<-hf];exact hp)).1) S.nodup) ?_;rintro cl hcl c1 c2)
 refine wpAny_comprehension_free rfl (sF h0) hcl S.kind (fun y hy hl=>oK S.nodup (hl ▸ hy)) ?_;refine hev _ Er fun v s0 st0 W=>?_;(refine e5a5 W ?_;try clear W;rintro fp wr gs St Mid W hst hwr hfp hgs);refine wpAny_newObj_type ?_;have st3:cS s { s0 with heap:=s0.heap.push { cls:=.type "list",data:=.seq ([]:List Value).toArray } }:=st0.trans .push
 refine aJV (ids:=ids) X.eok (X.stp C st3).cells S c1 c2 fun cenv hp4 CE k4 hns hcel=>?_;have hlo:(s0.heap.push { cls:=.type "list",data:=.seq ([]:List Value).toArray }).objs.size=s0.heap.objs.size+1:=Heap.size_push ..;rw[show({ s0 with heap:=s0.heap.push { cls:=.type "list",data:=.seq ([]:List Value).toArray } }:Shared).heap.objs.size=s0.heap.objs.size+1 from hlo]at CE
 have s4k:bY s0.heap hp4:=fun b o e=>k4 b o (Heap.get?_push_of_some _ e);have acc4:hp4.PlainList s0.heap.objs.size #[]:=⟨_,k4 _ _ (Heap.get?_push_size _ rfl)⟩;clear st3 k4 hlo c1 c2 hcl cl;show codeAny _ _ _ _ { s0 with heap:=hp4 }
 change hp4.Ns ({ cenv with scope:=relabel scope env }:Env).locals _ at hns
 change ∀ x a,({ cenv with scope:=relabel scope env }:Env).cells.lookup x=some a->_ at hcel
 show codeAny _ _ _ (compPost _ _ _ _ _ _ ({ cenv with scope:=relabel scope env }:Env).locals) _
 generalize ({ cenv with scope:=relabel scope env }:Env)=ce at CE hns hcel ⊢
 clear cenv
 have fr:∀ b,s0.heap.objs.size<=b->s.heap.get? b=none:=fun b hb=>by
  cases hh:s.heap.get? b with
  | none=>rfl
  | some o=>exact absurd (aG6 st0 hh) (Nat.not_lt.mpr hb)
 have fD:s0.heap.get? s0.heap.objs.size=none:=Heap.fresh_size _;show codeAny _ _ (.compStart _ _ _ (.ref s0.heap.objs.size) _) (compPost _ _ _ _ _ (.ref s0.heap.objs.size) _) _;generalize hD:s0.heap.objs.size=D at CE acc4 fr fD ⊢
 have F:CF ce ids D (qL Own s0) (fun a=>Own a\/a=D) fp wr gs s s0:={
  hfp:=fun b hb=>(hfp b hb).1
  hwr:=hwr
  hgs:=hgs
  d:=hD.symm
  ox:=.inr fD
  own:=.inr rfl
  loc:=CE.loc
  cel:=fun y a hy=>(CE.cells y a hy).elim (fun q=>.inl q.1) fun q=>.inr (by
   (refine e2a2 (X.cells y a q.2) ?_;rintro o ob ho u_);exact⟨ob,ho⟩)
  hids:=fun i hi hk a ha=>CE.own S hi hk ha
  st0:=st0 }
 clear hD;have fs1:=fr D (Nat.le_refl _);have fs2:=fr ce.locals (Nat.le_of_lt F.loc);have hOX:∀ a,(Own a\/a=D)->qL Own s0 a:=fun a q=>q.elim .inl fun q=>.inr (q ▸ fD);have hst4:St ds { s0 with heap:=hp4 }:=W.stay ds s0 _ hst (fun b o u_ e=>s4k b o e) (fun u_ u_=>rfl) (.of s4k)
 refine(fun loop=>codeAny_compStart_list loop (W.self ds _ _ _ hst4 loop)) (h D (qL Own s0) (fun a=>Own a\/a=D) ce fp wr gs s0 _ v St Mid F W hst4
  ⟨st0.trans (.heap s4k),.of s4k,Nat.le_refl _,⟨⟨_,hns,fun i v e=>nomatch e⟩,fun y a u_ ha=>hcel y a ha⟩,hcel,#[],acc4,.nil⟩ (CE.eok X.eok S) CE.sc
  (fun OY yd P s' E' hOY ci G=>aNs C X ci.stp S CE (fun a q hl=>q.elim id fun q=>e1a1 hl fun o ho=>cM ((q ▸ fs1).symm.trans ho)) (fun a q=>q.elim (fun q=>?_) fun q=>?_) hOY ci.sto G ci.cel) hOX fun ys P s' ci=>⟨?_,fs1,fs2⟩)
 ·(refine e1a1 (X.live a q) ?_;rintro o ho)
  exact⟨o,ci.stp.keep _ _ ho⟩
 ·(refine e1a2 ci.acc ?_;rintro vs ⟨nn,hl⟩ u_)
  exact⟨_,q ▸ hl⟩
 .intro hT
  subst hT;(refine e1a2 ci.acc ?_;rintro vs hl hx);refine eS.list hl (hx.mono fun u_ u_ q=>q.weak fun a ha=>.inl ha) fun q=>?_;(refine e1a1 (X.live _ q) ?_;rintro o ho);exact cM (fs1.symm.trans ho)
theorem aNt {c:cG}(C:bE c){elt:X}{t:Tgt}{ifs:Xs}(hts:tO c ifs)(hel:bG c elt)
  {n:Nat} {A:Around} {env:Env} {Own:Addr->Prop} {M:Nat->Nat} {E:AE} {s sa:Shared} {x tg ite:Expr} {fs:List Expr} {scope:Scope} {p pos:Pos} {ds ys:List PyData} {use:Option (Value->Sem Unit)} {Q:Value->Shared->Prop} {Er:Value->Shared->Prop} {k0:Nat} {tupT:Bool}
  (X:Cx c n A Own env M E s) (h0:gE ite=true) (hev:∀ (Q:Value->Shared->Prop) (Er:Value->Shared->Prop),(∀ v s0,cS s s0->nQ c A Own k0 tupT s s0 v ds->Q v s0)->wpAny (model c.prog c.w) A (eval ite env) (fun x s₁=>wpAny (model c.prog c.w) A (pyIter x) Q Er s₁) Er sa)
  (htup:tupT=true->∃ es k p,tg=Expr.Tuple es k p) (hlen:ds.length<=1000000) (hsc:kT env.scope scope t.ids=true) (h3:nP (gS scope env.scope) t tg=true)
  (h4:chkXs c.fnm c.rk n (gS scope env.scope) ifs fs=true) (h5:aS c.fnm c.rk n (gS scope env.scope) elt x=true)
  (o2:okXs (eG M t.ids) ifs=true) (o3:cJ (eG M t.ids) elt=true) (o4:hJ (eG M t.ids) elt=0)
  (hys:compLoop (fun E'=>evTests c.G c.T ifs E') (fun E'=>ev c.G c.T elt E') (fun d=>dF t d E) ds=some ys)
  (h:∀ D C s',cS s s'->bL Own s'.heap (.ref D) (.list ys)->s.heap.get? D=none->s.heap.get? C=none->(∃ m,s'.heap.Ns C m)->(oJ elt=true->FrR s s'.heap D)->compPost (model c.prog c.w) A Er use Q (.ref D) C (.ok .next) s') :
  wpAny (model c.prog c.w) A (comprehension (.ListComp x [⟨tg,ite,fs,0⟩] scope p) scope env pos (newList []) false (eval ite env) use) Q Er sa:=by
 refine zV (T:=false) C X h0 hev (aF9 hsc) fun D OX Own' ce fp wr gs s0 s4 v St Mid F W hst4 start K hce cx hOX fin=>?_;rw[<-hce]at h3 h4 h5;clear hev h0 hsc hce
 generalize hI:(fun k s'=>∃ ds' yd zs P1,k=ds'.length/\St ds' s'/\CI false ce D OX Own' s s0 yd P1 s'/\yd.length+ds'.length<=1000000 /\
  compLoop (fun E'=>evTests c.G c.T ifs E') (fun E'=>ev c.G c.T elt E') (fun d=>dF t d E) ds'=some zs/\ys=yd++zs/\(oJ elt=true->FrR s s'.heap D))=I
 have mk:∀ {ds' yd zs P1 s'},St ds' s'->CI false ce D OX Own' s s0 yd P1 s'->yd.length+ds'.length<=1000000->compLoop (fun E'=>evTests c.G c.T ifs E') (fun E'=>ev c.G c.T elt E') (fun d=>dF t d E) ds'=some zs->ys=yd++zs->(oJ elt=true->FrR s s'.heap D)->I ds'.length s' :=
  fun h1 h2 h3 h4 h5 h6=>hI ▸ ⟨_,_,_,_,rfl,h1,h2,h3,h4,h5,h6⟩
 refine aBK I ?_ ds.length (mk hst4 start (by rw[List.length_nil,Nat.zero_add];exact hlen) hys rfl fun u_=>FrR.nil start)
 rintro k s1 hz_ Er';rw[<-hI]at hz_;(refine e4a7 hz_ ?_;clear hz_ hI hys hst4 start;rintro ds' yd zs P1 rfl hst1 ci1 hyl hz rfl fr1)
 cases ds' with
 | nil =>
  (replace hz:=(aA hz).symm;subst hz);refine W.done s1 _ Er' (X.stp C ci1.stp).base hst1 fun s2 mv=>?_;have ci2:=ci1.mv F mv;(refine e1a2 ci2.sto.ns ?_;rintro m hm u_);(refine wH (fin _ _ _ ci2) ?_;rintro r hD hC);have r:=r rfl;exact h _ _ s2 ci2.stp (by rw[List.append_nil];exact r) hD hC ⟨m,hm⟩ fun nw=>(fr1 nw).kp ci1 fun vs n e=>mv.seq _ _ vs _ rfl e
 | cons d ds' =>
  refine aIG hz fun E1 tb hE1 htb hz0 hz1=>?_;clear hz;refine W.next d ds' s1 _ Er' (X.stp C ci1.stp).base hst1 ci1.kp fun v1 s2 mv hmid=>?_;have ci2:=ci1.mv F mv;refine W.go tg d ds' v1 s2 _ Er' htup hmid ci2.kp fun s3 mv3 hst3 hrd=>?_;have ci3:=ci2.mv F mv3;refine xC X.room.hand K h3 hrd hE1 ci3.sto fun hp5 tk5 P' kb So5 G=>?_;have ci5:=CI.kb (tk:=tk5) F K ci3 kb So5;have hst5:St ds' { s3 with heap:=hp5,toks:=tk5 }:=W.stay ds' s3 _ hst3 (fun b o hb e=>let q:=ci3.low F e hb;kb b o q.2.1 q.2.2 e) (fun u_ u_=>rfl) ci5.kp
  have keep5:∀ vs n,s1.heap.get? D=some { cls:=.type "list",dict:=none,data:=.seq vs n,slots:=#[] }->hp5.get? D=some { cls:=.type "list",dict:=none,data:=.seq vs n,slots:=#[] }:=fun vs n e =>
   kb D _ (Nat.ne_of_lt F.loc) (fun i hi hk hl=>absurd (F.hids i hi hk _ hl) (Nat.lt_irrefl _)) (mv3.seq _ _ vs _ rfl (mv.seq _ _ vs _ rfl e))
  have cx5:=cx OX _ _ _ E1 hOX ci5 G.w;have fr5:oJ elt=true->FrR s hp5 D:=fun nw=>(fr1 nw).kp ci1 keep5;clear ci2 hmid ci3 hst3 hrd So5 G mv mv3 fr1 keep5
  change oJ elt=true->FrR s ({ s3 with heap:=hp5,toks:=tk5 }:Shared).heap D at fr5
  generalize ({ s3 with heap:=hp5,toks:=tk5 }:Shared)=s5 at ci5 hst5 cx5 fr5 ⊢
  clear kb;refine hts n A ce _ _ E1 s5 fs tb _ Er' cx5 h4 o2 htb fun s6 st6=>?_;have ci6:=ci5.st st6;have fr6:oJ elt=true->FrR s s6.heap D:=fun nw=>(fr5 nw).kp ci5 fun vs n e=>st6.keep _ _ e;have hst6:St ds' s6:=W.stay ds' _ _ hst5 (fun b o u_ e=>st6.keep b o e) (fun g hg=>st6.gk.old g (Nat.lt_of_lt_of_le (F.hgs g hg).2 ci5.gz)) ci6.kp
  cases tb with
  | false =>
   rw[if_neg aN];exact⟨ds'.length,Nat.lt_succ_self _,mk hst6 ci6 (aP (Nat.le_succ _) hyl) (hz0 rfl) rfl fr6⟩
  | true =>
   rw[if_pos rfl];(refine e2a3 (hz1 rfl) ?_;clear hz0 hz1;rintro y zs2 hy hz rfl);refine hel n A ce _ _ E1 s6 x y _ Er' (cx5.stp C st6) h5 o3 hy fun v2 s7 st7 r7 fr7=>?_;rw[o4]at r7;(refine e1a2 ci6.acc ?_;rintro vs hl6 hx6);have hvl:vs.toList.length=yd.length:=hx6.length;rw[Array.length_toList]at hvl;have ci7:=ci6.st st7;have hl7:=PlainList.keep st7.keep hl6;refine wpAny_list_append_plain hl7 (fun h8 hl8 hs8=>?_) (gD (by rw[hvl];exact aP (Nat.le_add_right _ _) hyl))
   have ci8:=ci7.app F hl8 hs8 (hx6.mono fun u_ u_ q=>RdB.keep st7.keep q) r7 hl7
   exact⟨ds'.length,Nat.lt_succ_self _,mk (W.stay ds' s6 _ hst6 (fun b o hb e=>(hs8.2 b (ci6.low F e hb).1).trans (st7.keep b o e)) (fun g hg=>st7.gk.old g (Nat.lt_of_lt_of_le (F.hgs g hg).2 ci6.gz)) ci8.kp) ci8
    (by rw[aG,Nat.add_assoc,Nat.add_comm _ ds'.length];exact hyl) hz (by rw[aQ];rfl) fun nw=>(fr6 nw).push hl6 hl8 ci6.stp.keep hl6 hx6 (fr7 nw)⟩
theorem aEc {c:cG}(C:bE c){elt:X}{t:Tgt}{it:It}{ifs:Xs}(hit:aAx c it)(hts:tO c ifs)(hel:bG c elt)
  {n:Nat} {A:Around} {env:Env} {Own:Addr->Prop} {M:Nat->Nat} {E:AE} {s:Shared} {x tg ite:Expr} {fs:List Expr} {scope:Scope} {p pos:Pos} {ds ys:List PyData} {use:Option (Value->Sem Unit)} {Q:Value->Shared->Prop} {Er:Value->Shared->Prop}
  (X:Cx c n A Own env M E s) (h0:gE ite=true) (hto:aAZ it t=true) (h1:chkIt c.fnm c.rk n env.scope it ite=true) (hsc:kT env.scope scope t.ids=true) (h3:nP (gS scope env.scope) t tg=true)
  (h4:chkXs c.fnm c.rk n (gS scope env.scope) ifs fs=true) (h5:aS c.fnm c.rk n (gS scope env.scope) elt x=true)
  (o1:okIt M it=true) (o2:okXs (eG M t.ids) ifs=true) (o3:cJ (eG M t.ids) elt=true) (o4:hJ (eG M t.ids) elt=0)
  (hds:evIt c.G c.T it E=some ds) (hys:compLoop (fun E'=>evTests c.G c.T ifs E') (fun E'=>ev c.G c.T elt E') (fun d=>dF t d E) ds=some ys)
  (h:∀ D C s',cS s s'->bL Own s'.heap (.ref D) (.list ys)->s.heap.get? D=none->s.heap.get? C=none->(∃ m,s'.heap.Ns C m)->(oJ elt=true->FrR s s'.heap D)->compPost (model c.prog c.w) A Er use Q (.ref D) C (.ok .next) s') :
  wpAny (model c.prog c.w) A (comprehension (.ListComp x [⟨tg,ite,fs,0⟩] scope p) scope env pos (newList []) false (eval ite env) use) Q Er s :=
 aNt C hts hel X h0 (fun Q Er h=>hit n A env Own M E s ite ds Q Er X h1 o1 hds h) (aEf h3 hto) (aLt hds) hsc h3 h4 h5 o2 o3 o4 hys h
section
variable {c:cG}
theorem aD2 (C:bE c){elt:X}{t:Tgt}{it:It}{ifs:Xs}(hit:aAx c it)(hts:tO c ifs)(hel:bG c elt){n:Nat}{A:Around}{env:Env}{Own:Addr->Prop}{M:Nat->Nat}{E:AE}{s:Shared}{e:Expr}{d:PyData}{Q:Value->Shared->Prop}{Er:Value->Shared->Prop}
  (X:Cx c n A Own env M E s) (hc:aS c.fnm c.rk n env.scope (.comp elt t it ifs) e=true) (ho:cJ M (.comp elt t it ifs)=true) (he:ev c.G c.T (.comp elt t it ifs) E=some d)
  (h:∀ v s',cS s s'->bL Own s'.heap v d->Fr1 s v->(oJ elt=true->∀ D,v=.ref D->FrR s s'.heap D)->Q v s'):wpAny (model c.prog c.w) A (eval e env) Q Er s:=by
 simp only[pK,Bool.and_eq_true]at hc;(refine l3 hc ?_;try clear hc;rintro hng hto hc);(refine e6a7 (sS hc) ?_;rintro x tg ite fs scope p rfl h0 h1 hsc h3 h4 h5);(refine aKo (yF.symm.trans ho) ?_;try clear ho;rintro o1 o2 o3 o4);revert he;refine cE fun ds hds=>cE fun ys hys e0z=>?_;(replace e0z:=(aA e0z).symm;subst e0z);rw[eval_ListComp];refine aEc C hit hts hel X h0 hto h1 hsc h3 h4 h5 o1 o2 o3 o4 hds hys fun D cc s' st r hD hC hn frr=>?_;(refine e1a1 hn ?_;try clear hn;rintro m hm);refine⟨m,hm,fun h' hs=>?_⟩;have kk:∀ b o,b≠cc->s'.heap.get? b=some o->h'.get? b=some o:=fun b o hb e=>(hs.2 b hb).trans e
 have kp:∀ OY:Addr->Prop,jZ OY s'.heap h':=fun OY b o vs nn hb hd u_=>kk b o (fun e=>by
  subst e;(refine e3a3 hm ?_;try clear hm;rintro o' es ep ho' hd' u_);rw[hb]at ho';(replace ho':=(aA ho').symm;subst ho');rw[hd]at hd';cases hd') hb
 have k2:bY s.heap h':=fun b o e=>kk b o (fun q=>by rw[q,hC]at e;exact cM e) (st.keep b o e)
 refine h _ _ ⟨k2,st.gk,st.os⟩ (r.kpf (kp _)) (fun a e=>?_) fun nw D' e'=>?_
 .cases e
  exact hD
 .cases e'
  (refine e2a4 (bL.unlist r) ?_;rintro a' vs e1 hl u1_ u2_);cases e1;refine(frr nw).at hl fun n e=>⟨n,kk D _ (fun q=>?_) e⟩;subst q;(refine e3a3 hm ?_;rintro o' es ep ho' hd' u_);rw[e]at ho';(replace ho':=(aA ho').symm;subst ho');cases hd'
theorem wY (C:bE c){elt:X}{t:Tgt}{it:It}{ifs:Xs}(hit:aAx c it)(hts:tO c ifs)(hel:bG c elt):bG c (.comp elt t it ifs):=by
 intro n A env Own M E s e d Q Er X hc ho he h;exact aD2 C hit hts hel X hc ho he fun v s' st r f u_=>h v s' st r (fun u_=>f)
theorem aMa {elt:X}{t:Tgt}{it:It}{ifs:Xs}(hv:bG c (.comp elt t it ifs)):fW c (.comp elt t it ifs) :=
 cP hv fun n sc e hc=>by
  simp only[pK,Bool.and_eq_true]at hc;(refine e6a2 (sS hc.2) ?_;rintro x tg ite fs scope p rfl u_);rfl
end
theorem aNC {h:Heap}{Own:Addr->Prop}{vs:List Value}{yd:List PyData}(x:bP (RdB true Own h) vs yd):vs=List.replicate yd.length (Value.type "int"):=by
 induction x with
 | nil=>rfl
 | cons r u_ ih=>rw[r.1,ih,aR,List.replicate_succ]
section
variable {c:cG}
theorem aLB (C:bE c){i:Nat}{n:Nat}{A:Around}{env:Env}{Own:Addr->Prop}{M:Nat->Nat}{E:AE}{s:Shared}{x tg ite:Expr}{scope:Scope}{p pos:Pos}{ds:List PyData}{Q:Value->Shared->Prop}{Er:Value->Shared->Prop}{a:X}(ha:bG c a)
  (X:Cx c n A Own env M E s) (h0:gE ite=true) (h1:chkIt c.fnm c.rk n env.scope (.val a) ite=true) (o1:okIt M (.val a)=true) (hds:evIt c.G c.T (.val a) E=some ds) (hsc:kT env.scope scope [i]=true) (h3:nP (gS scope env.scope) (.name i) tg=true)
  (h5:sQ (gS scope env.scope) i x=true) (hint:∀ d∈ds,∃ j,d=.int j)
  (h:∀ D C s',cS s s'->(∃ vs,s'.heap.PlainList D vs/\vs.toList=List.replicate ds.length (.type "int"))->s.heap.get? D=none->s.heap.get? C=none->(∃ m,s'.heap.Ns C m)->compPost (model c.prog c.w) A Er none Q (.ref D) C (.ok .next) s') :
  wpAny (model c.prog c.w) A (comprehension (.ListComp x [⟨tg,ite,[],0⟩] scope p) scope env pos (newList []) false (eval ite env) none) Q Er s:=by
 have hlen:=aLt hds;refine zV (T:=true) C X h0 (fun Q Er h=>yY C ha n A env Own M E s ite ds Q Er X h1 o1 hds h) (aF9 hsc) fun D OX Own' ce fp wr gs s0 s4 v St Mid F W hst4 start K hce cx hOX fin=>?_;rw[<-hce]at h3 h5;clear h0 hsc hce h1 o1;generalize hI:(fun k s'=>∃ ds' yd P1,k=ds'.length/\St ds' s'/\CI true ce D OX Own' s s0 yd P1 s'/\yd.length+ds'.length=ds.length/\(∀ d∈ds',∃ j,d=PyData.int j))=I
 have mk:∀ {ds' yd P1 s'},St ds' s'->CI true ce D OX Own' s s0 yd P1 s'->yd.length+ds'.length=ds.length->(∀ d∈ds',∃ j,d=PyData.int j)->I ds'.length s' :=
  fun h1 h2 h3 h4=>hI ▸ ⟨_,_,_,rfl,h1,h2,h3,h4⟩
 refine aBK I ?_ ds.length (mk hst4 start (by rw[List.length_nil,Nat.zero_add]) hint)
 rintro k s1 hz_ Er';rw[<-hI]at hz_;(refine e3a5 hz_ ?_;clear hz_ hI hst4 start;rintro ds' yd P1 rfl hst1 ci1 hyl hin1)
 cases ds' with
 | nil =>
  refine W.done s1 _ Er' (X.stp C ci1.stp).base hst1 fun s2 mv=>?_;have ci2:=ci1.mv F mv;(refine e1a2 ci2.sto.ns ?_;rintro m hm u_);(refine wH (fin _ _ _ ci2) ?_;rintro u_ hD hC);(refine e1a2 ci2.acc ?_;rintro vs hl hx);exact h _ _ s2 ci2.stp ⟨vs,hl,by rw[aNC hx,show yd.length=ds.length from hyl]⟩ hD hC ⟨m,hm⟩
 | cons d ds' =>
  (refine e1a1 (hin1 d aF) ?_;rintro j rfl);refine W.next (.int j) ds' s1 _ Er' (X.stp C ci1.stp).base hst1 ci1.kp fun v1 s2 mv hmid=>?_;have ci2:=ci1.mv F mv;refine W.go tg (.int j) ds' v1 s2 _ Er' (fun q=>nomatch q) hmid ci2.kp fun s3 mv3 hst3 hrd=>?_;have ci3:=ci2.mv F mv3;refine xC X.room.hand K h3 hrd (E':=E.set i (.dat (.int j))) rfl ci3.sto fun hp5 tk5 P' kb So5 G=>?_;have ci5:=CI.kb (tk:=tk5) F K ci3 kb So5;have hst5:St ds' { s3 with heap:=hp5,toks:=tk5 }:=W.stay ds' s3 _ hst3 (fun b o hb e=>let q:=ci3.low F e hb;kb b o q.2.1 q.2.2 e) (fun u_ u_=>rfl) ci5.kp
  have cx5:=cx OX _ _ _ _ hOX ci5 G.w;clear ci2 hmid ci3 hst3 hrd So5 G mv mv3;generalize ({ s3 with heap:=hp5,toks:=tk5 }:Shared)=s5 at ci5 hst5 cx5 ⊢
  clear kb;refine sB n A ce _ _ (E.set i (.dat (.int j))) s5 [] true _ Er' cx5 rfl rfl rfl fun s6 st6=>?_;have ci6:=ci5.st st6;have hst6:St ds' s6:=W.stay ds' _ _ hst5 (fun b o u_ e=>st6.keep b o e) (fun g hg=>st6.gk.old g (Nat.lt_of_lt_of_le (F.hgs g hg).2 ci5.gz)) ci6.kp;rw[if_pos rfl];have cx6:=cx5.stp C st6;(refine e3a4 (aH5 h5) ?_;rintro p1 z r1 rfl g1 g2 g3);refine wpAny_Call_NameR (iB C (x:="type") (by decide) cx6.eok cx6.base g1 ?_)
  rw[iM g2];refine PySem.callWith_type1 (cQ i n A ce _ _ _ s6 z (.int j) _ Er' cx6 g3 rfl (by rw[bD];unfold aI;rw[show(E.set i (.dat (.int j))) i=some (.dat (.int j))from if_pos rfl]) fun v2 s7 st7 r7 u_=>?_)
  (refine e1a3 (aF6 (h:=s7.heap) (show aL7 (.int j)=some 0 from rfl) r7) ?_;rintro T hT hnb hcase);refine call_type_of hT hnb ?_;have eT:T="int":=by rcases hcase with ⟨q,_⟩ | ⟨_,q⟩ | ⟨_,q⟩ <;> first | exact q | exact nomatch q
  subst eT;(refine e1a2 ci6.acc ?_;rintro vs hl6 hx6);have hvl:vs.toList.length=yd.length:=hx6.length;rw[Array.length_toList]at hvl;have ci7:=ci6.st st7;have hl7:=PlainList.keep st7.keep hl6;have hyl':yd.length+ds'.length+1=ds.length:=by rw[<-hyl,aR];rfl
  refine wpAny_list_append_plain hl7 (fun h8 hl8 hs8=>?_) (gD (by rw[hvl];show _<=1000000;lia))
  have ci8:=ci7.app F (d:=.none) hl8 hs8 (hx6.mono fun u_ u_ q=>RdB.keep st7.keep q) ⟨rfl,rfl⟩ hl7
  exact⟨ds'.length,Nat.lt_succ_self _,mk (W.stay ds' s6 _ hst6 (fun b o hb e=>(hs8.2 b (ci6.low F e hb).1).trans (st7.keep b o e)) (fun g hg=>st7.gk.old g (Nat.lt_of_lt_of_le (F.hgs g hg).2 ci6.gz)) ci8.kp) ci8
   (by rw[aG];show yd.length+1+ds'.length=_;lia) fun d m=>hin1 d (aE _ m)⟩
theorem aJt (n:Nat)(v:Value):(List.foldl (fun x1 x2:Array Value=>x1++x2) #[] (List.replicate n #[v])).toList=List.replicate n v:=by
 have g:∀ (n:Nat) (acc:Array Value),(List.foldl (fun x1 x2:Array Value=>x1++x2) acc (List.replicate n #[v])).toList=acc.toList++List.replicate n v:=by
  intro n
  induction n with
  | zero=>intro acc;simp
  | succ n ih=>intro acc;rw[List.replicate_succ,List.foldl_cons,ih,List.replicate_succ];simp
 rw[g];rfl
theorem aCY (C:bE c){a:X}{k:Int}(ha:bG c a) {n A env Own M E s l r d}{Q:Value->Shared->Prop}{Er:Value->Shared->Prop}(X:Cx c n A Own env M E s)
  (q1:aBt env.scope (aS c.fnm c.rk n env.scope a) [rZ] (fun q=>nP q (.name rZ)) (fun u_=>aH1) (fun q=>sQ q rZ) l=true) (q2:aCn env.scope k r=true) (ho:cJ M (.tysNe a k)=true) (he:ev c.G c.T (.tysNe a k) E=some d)
  (h:d=.bool false->∀ s',cS s s'->Q (.bool false) s'):wpAny (model c.prog c.w) A (eval l env) (fun v s₁=>wpAny (model c.prog c.w) A (eval r env) (fun v2 s₂=>wpAny (model c.prog c.w) A (compareOp .NotEq v v2) Q Er s₂) Er s₁) Er s:=by
 (refine e6a7 (sS q1) ?_;rintro x tg ite fs scope p1 rfl h0 h1 hsc h3 h4 h5);obtain ⟨p2,p3,kk,p4,p5,rfl,h6⟩:=rL q2;obtain rfl:=kZ h4;revert he;refine cE fun y hy=>cE fun xs hxs he=>?_;revert he;refine ifs fun hq he=>?_;(replace he:=(aA he).symm;subst he)
 have hy':ev c.G c.T a E=some (.list xs):=by
  rw[hy]
  cases y with
  | list zs=>cases hxs;rfl
  | _=>exact cM hxs
 have hxl:xs.length<=1000:=by have:=hq.2.1;have:=hq.2.2;lia
 have hds:evIt c.G c.T (.val a) E=some xs:=by
  rw[eQ,hy',aD,bZ,if_pos (by show _<=1000000;lia)]
 have hint:∀ d∈xs,∃ j,d=.int j:=fun d m=>by
  have:=aJ hq.1 d m;(refine e1a1 (Option.isSome_iff_exists.mp this) ?_;rintro j hj);exact⟨j,dN hj⟩
 rw[eval_ListComp];refine aLB C ha X h0 h1 (aDn.symm.trans ho) hds hsc h3 h5 hint fun D cc s1 st1 hl1 hD hC hm=>?_;(refine e1a1 hm ?_;rintro m hm);(refine e1a2 hl1 ?_;rintro vs hl hv);refine⟨m,hm,fun h' hs=>?_⟩;have kk':∀ b o,b≠cc->s1.heap.get? b=some o->h'.get? b=some o:=fun b o hb e=>(hs.2 b hb).trans e;have k2:bY s.heap h':=fun b o e=>kk' b o (fun q=>by rw[q,hC]at e;exact cM e) (st1.keep b o e)
 (refine e1a1 hl ?_;rintro n0 hl0)
 have hDc:D≠cc:=by
  rintro rfl;(refine e3a3 hm ?_;rintro o' es ep ho' hd' u_);rw[hl0]at ho';(replace ho':=(aA ho').symm;subst ho');cases hd'
 have hl2:h'.PlainList D vs:=⟨n0,kk' D _ hDc hl0⟩;have st2:cS s { s1 with heap:=h' }:=⟨k2,st1.gk,st1.os⟩
 generalize hs2:({ s1 with heap:=h' }:Shared)=s2 at st2 ⊢
 have hl2:s2.heap.PlainList D vs:=by rw[<-hs2];exact hl2
 have X2:=X.stp C st2;refine wpAny_BinOp (wpAny_List_spliced ?_);rw[bK rfl];refine Calls.spliced_cons (iB C (x:="int") (by decide) X2.eok X2.base h6 (Calls.spliced_nil ⟨by rw[sizeLine_eq];show(1:Nat)<=16777216;decide,?_⟩))
 have st3:cS s2 { s2 with heap:=s2.heap.push { cls:=.type "list",data:=.seq [Value.type "int"].toArray } }:=.push
 have hl3:({ s2 with heap:=s2.heap.push { cls:=.type "list",data:=.seq [Value.type "int"].toArray } }:Shared).heap.PlainList s2.heap.objs.size #[Value.type "int"]:=⟨0,Heap.get?_push_size _ rfl⟩
 generalize hs3:({ s2 with heap:=s2.heap.push { cls:=.type "list",data:=.seq [Value.type "int"].toArray } }:Shared)=s3 at st3 hl3 ⊢
 refine wpAny_Constant_int ?_;have st4:cS s3 { s3 with toks:=s3.toks+1 }:=.toks
 have hl4:=PlainList.keep st4.keep hl3;generalize hs4:({ s3 with toks:=s3.toks+1 }:Shared)=s4 at st4 hl4 ⊢
 have hk0:0<=k:=by have:=hq.2.2;lia
 refine vH hl4.isList (by lia) (by lia) (by show 1 * k.toNat<=2 ^ 24;lia) ?_
 generalize hR:List.foldl (fun x1 x2:Array Value=>x1++x2) #[] (List.replicate (if (#[Value.type "int"]:Array Value).isEmpty=true then 0 else k.toNat) #[Value.type "int"])=R
 have hRl:R.toList=List.replicate xs.length (Value.type "int"):=by
  rw[<-hR,if_neg (show ¬ ((#[Value.type "int"]:Array Value).isEmpty=true)by simp),aJt]
  congr 1
  have:=hq.2.2;lia
 have st5:cS s4 { s4 with heap:=s4.heap.push { cls:=.type "list",data:=.seq R } }:=.push
 have hl5:({ s4 with heap:=s4.heap.push { cls:=.type "list",data:=.seq R } }:Shared).heap.PlainList s4.heap.objs.size R:=⟨0,Heap.get?_push_size _ rfl⟩
 generalize hs5:({ s4 with heap:=s4.heap.push { cls:=.type "list",data:=.seq R } }:Shared)=s5 at st5 hl5 ⊢
 have st35:=(st3.trans st4).trans st5;have hlD:=PlainList.keep st35.keep hl2;have e0:vs=R:=Array.toList_inj.mp (hv.trans hRl.symm);subst e0;have hall:(List.range vs.size).all (fun u_=>true)=true:=cD fun u_ u_=>rfl;have ne:=PySem.SeqAt.RcNeAt.lists (A:=A) (s:=s5) (e:=fun u_=>true) hlD.isList hl5.isList rfl (by have:=X.room.units;lia) fun j u_ u_=>PySem.SeqAt.EqAt.same _
 rw[hall]at ne;exact ne c.prog c.w Er Q (h rfl _ (st2.trans st35))
theorem aPR (C:bE c){a:X}{k:Int}(ha:bG c a):bG c (.tysNe a k):=by
 intro n A env Own M E s e d Q Er X hc ho he h;dsimp only[tI]at hc;(refine e3a4 (lU hc) ?_;rintro l r p rfl q0 q1 q2);exact wpAny_Compare1 (aCY C ha X q1 q2 ho he fun hd s' st=>h _ _ st (hd ▸ .mkBool) fun q=>nomatch q) (by obtain ⟨_,_,_,_,_,rfl,_⟩:=rL q2;rfl)
theorem aOg (C:bE c){a:X}{k:Int}(ha:bG c a):fW c (.tysNe a k):=by
 intro n A env Own M E s e d bb Q Er X hc ho he hbb h;dsimp only[tI]at hc;(refine e3a4 (lU hc) ?_;rintro l r p rfl q0 q1 q2);exact wpAny_isTrue_Compare1 (aCY C ha X q1 q2 ho he fun hd s' st=>wpAny_truthy_bool (by subst hd;cases hbb;exact h _ st)) (by obtain ⟨_,_,_,_,_,rfl,_⟩:=rL q2;rfl)
end
theorem Reads.det {h:Heap}:∀ {v:Value} {d:PyData} {as:List Addr},Reads h v d as->(∀ a∈as,Pl h a)->∀ {d':PyData} {bs:List Addr},Reads h v d' bs->d=d':=by
 intro v d as r;refine Reads.rec (motive_1:=fun v d as u_=>(∀ a∈as,Pl h a)->∀ {d':PyData} {bs:List Addr},Reads h v d' bs->d=d') (motive_2:=fun vs ds as u_=>(∀ a∈as,Pl h a)->∀ {ds':List PyData} {bs:List Addr},ReadsAll h vs ds' bs->ds=ds') ?_ ?_ ?_ ?_ ?_ ?_ ?_ ?_ ?_ r
 .intro _ d' bs r';cases r';rfl
 .intro _ _ d' bs r';cases r';rfl
 .intro _ _ _ d' bs r';cases r';rfl
 .intro _ _ _ d' bs r';cases r';rfl
 .intro a o vs n xs as ho hc hd _ ih q d' bs r'
  cases r' with
  | list ho' hc' hd' r2 =>
   rw[ho]at ho';(replace ho':=(aA ho').symm;subst ho');rw[hd]at hd';cases hd';rw[ih (fun b m=>q b (aE _ m)) r2]
  | tuple ho' hc' hd' r2=>rw[ho]at ho';(replace ho':=(aA ho').symm;subst ho');rw[hc]at hc';exact absurd hc' (by simp)
  | dict ho' hc' hd' r2 r3=>rw[ho]at ho';(replace ho':=(aA ho').symm;subst ho');rw[hc]at hc';exact absurd hc' (by simp)
 .intro a o vs n xs as ho hc hd _ ih q d' bs r'
  cases r' with
  | tuple ho' hc' hd' r2 =>
   rw[ho]at ho';(replace ho':=(aA ho').symm;subst ho');rw[hd]at hd';cases hd';rw[ih q r2]
  | list ho' hc' hd' r2=>rw[ho]at ho';(replace ho':=(aA ho').symm;subst ho');rw[hc]at hc';exact absurd hc' (by simp)
  | dict ho' hc' hd' r2 r3=>rw[ho]at ho';(replace ho':=(aA ho').symm;subst ho');rw[hc]at hc';exact absurd hc' (by simp)
 .intro a o es n kvs as bs ho hc hd _ _ _ _ q
  (refine e2a1 (q a (aW _ aF)) ?_;rintro vs n' ho');rw[ho]at ho';have e:=aA ho';subst e;cases hd
 .intro _ ds' bs r';cases r';rfl
 .intro v vs d ds as bs _ _ ih1 ih2 q ds' bs' r'
  cases r' with
  | cons r1 r2=>rw[ih1 (fun a m=>q a (aW _ m)) r1,ih2 (fun a m=>q a (aZ _ m)) r2]
theorem Reads.sub {h:Heap}:∀ {v:Value} {d:PyData} {as:List Addr},Reads h v d as->(∀ a∈as,Pl h a)->∀ b∈as,∃ d' bs,Reads h (.ref b) d' bs/\sizeOf d'<=sizeOf d:=by
 intro v d as r;refine Reads.rec (motive_1:=fun v d as u_=>(∀ a∈as,Pl h a)->∀ b∈as,∃ d' bs,Reads h (.ref b) d' bs/\sizeOf d'<=sizeOf d) (motive_2:=fun vs ds as u_=>(∀ a∈as,Pl h a)->∀ b∈as,∃ d' bs,Reads h (.ref b) d' bs/\sizeOf d'<=sizeOf ds) ?_ ?_ ?_ ?_ ?_ ?_ ?_ ?_ ?_ r
 .intro _ b m;cases m
 .intro _ _ b m;cases m
 .intro _ _ _ b m;cases m
 .intro _ _ _ b m;cases m
 .intro a o vs n xs as ho hc hd hr ih q b m
  rcases aM m with rfl | m
  .exact⟨_,_,.list ho hc hd hr,Nat.le_refl _⟩
  ·(refine e2a2 (ih (fun b m=>q b (aE _ m)) b m) ?_;rintro d' bs r' hs)
   exact⟨d',bs,r',by simp only[PyData.list.sizeOf_spec];lia⟩
 .intro a o vs n xs as ho hc hd hr ih q b m
  (refine e2a2 (ih q b m) ?_;rintro d' bs r' hs);exact⟨d',bs,r',by simp only[PyData.tuple.sizeOf_spec];lia⟩
 .intro a o es n kvs as bs ho hc hd _ _ _ _ q
  (refine e2a1 (q a (aW _ aF)) ?_;rintro vs n' ho');rw[ho]at ho';have e:=aA ho';subst e;cases hd
 .intro _ b m;cases m
 .intro v vs d ds as bs _ _ ih1 ih2 q b m
  rcases bF m with m | m
  ·(refine e2a2 (ih1 (fun a m=>q a (aW _ m)) b m) ?_;rintro d' cs r' hs)
   exact⟨d',cs,r',by simp only[List.cons.sizeOf_spec];lia⟩
  ·(refine e2a2 (ih2 (fun a m=>q a (aZ _ m)) b m) ?_;rintro d' cs r' hs)
   exact⟨d',cs,r',by simp only[List.cons.sizeOf_spec];lia⟩
set_option tactic.hygienic true in
theorem bL.unlistA {Own:Addr->Prop}{h:Heap}{v:Value}{xs:List PyData}(x:bL Own h v (.list xs)):∃ a vs,v=.ref a/\h.PlainList a vs/\bP (bL (fun b=>Own b\/b=a) h) vs.toList xs/\¬ Own a:=by
 (refine e1a2 x ?_;try clear x;rintro as r hn);have rr:=r
 cases r with
 | list ho hc hd r2 =>
  rename_i a o vs n as
  (refine cA fun G_ hG_=>?_;rcases hn _ aF with ⟨h1,vs',n',ho'⟩;all_goals (refine hG_ ?_;clear hG_ G_))
  rw[ho]at ho';have e:=aA ho';subst e;have e:=(Data.seq.inj hd).1;subst e;refine⟨_,_,rfl,⟨_,ho⟩,oF r2 fun b m=>⟨?_,(hn b (aE _ m)).2⟩,h1⟩;rintro(q | rfl)
  .exact(hn b (aE _ m)).1 q
  .have hp:∀ c∈as,Pl h c:=fun c mc=>(hn c (aE _ mc)).2
   have key:∀ (ws:List Value) (ys:List PyData) (cs:List Addr),ReadsAll h ws ys cs->(∀ c∈cs,Pl h c)->b∈cs->∃ d' bs,Reads h (.ref b) d' bs/\sizeOf d'<=sizeOf ys:=by
    intro ws
    induction ws with
    | nil=>intro ys cs rs _ m;cases rs;cases m
    | cons w ws ih =>
     intro ys cs rs hp m
     cases rs with
     | cons r1 r3 =>
      rcases bF m with m | m
      ·(refine e2a2 (Reads.sub r1 (fun a m=>hp a (aW _ m)) b m) ?_;rintro d' cs' r' hs)
       exact⟨d',cs',r',by simp only[List.cons.sizeOf_spec];lia⟩
      ·(refine e2a2 (ih _ _ r3 (fun a m=>hp a (aZ _ m)) m) ?_;rintro d' cs' r' hs)
       exact⟨d',cs',r',by simp only[List.cons.sizeOf_spec];lia⟩
   (refine e2a2 (key _ _ _ r2 hp m) ?_;rintro d' bs r' hs);have e:=Reads.det rr (fun c mc=>(hn c mc).2) r';rw[<-e]at hs;simp only[PyData.list.sizeOf_spec]at hs;lia
noncomputable def md (M:List Nat):Nat->Nat:=fun i=>M.getD i 0
noncomputable def dA (Bad:Addr->Prop)(F:Nat->List Addr):Addr->Prop:=fun a=>Bad a\/∃ i,a∈F i
noncomputable def tQ (Own:Addr->Prop)(h:Heap)(v:Value)(x:PyData):Prop:=eS Own 1 h v x
inductive jV (c:cG)(L:Addr)(Own:Addr->Prop)(s:Shared):Nat->List Addr->Value->PV->Prop where
 | flat {v:Value} {d:PyData}:bL Own s.heap v d->jV c L Own s 0 [] v (.dat d)
 | one {a:Addr} {vs:Array Value} {xs:List PyData}:s.heap.PlainList a vs->bP (bL Own s.heap) vs.toList xs->jV c L Own s 1 [a] (.ref a) (.dat (.list xs))
 | two {a:Addr} {vs:Array Value} {rs:List Addr} {xs:List PyData}:s.heap.PlainList a vs->vs.toList=rs.map Value.ref->bP (tQ Own s.heap) vs.toList xs->(a::rs).Nodup->jV c L Own s 2 (a::rs) (.ref a) (.dat (.list xs))
 | hdr {v:Value} {l:List (List Nat × List Nat)} {a da la:Addr}:v=.ref a->s.heap.get? a=some { cls:=.ref c.HC,dict:=some da,data:=.plain,slots:=#[] } ->
   (∃ od,s.heap.get? da=some od/\od.cls=.type "dict"/\(∃ hs t n,od.data=.dict #[⟨hs,.str "_headers" t,.ref la⟩] n))->da≠L ->
   (∃ vs,s.heap.PlainList la vs/\bP (bL (fun u_=>False) s.heap) vs.toList (l.map fun p=>PyData.tuple [S p.1,S p.2]))->jV c L Own s 4 [la] v (.hdr l)
 | hdrB {v:Value} {l:List (List Nat × List Nat)} {la:Addr}:fP c.HC c.h0 v l la->jV c L Own s 0 [] v (.hdr l)
set_option tactic.hygienic true in
theorem jV.rep {c:cG}{L:Addr}{Own:Addr->Prop}{s:Shared}{k:Nat}{fs:List Addr}{v:Value}{pv:PV}(B:dK c s.heap)(r:jV c L Own s k fs v pv):Rep c Own k s v pv:=by
 cases r with
 | flat r=>exact .dat r
 | one hl hx=>exact .dat ⟨_,_,_,rfl,rfl,hl,hx⟩
 | hdrB h=>exact .hdr (h.keep B.k0)
 | two hl hv hx hn=>exact .dat ⟨_,_,_,rfl,rfl,hl,bP.mono (fun v x (q:tQ Own s.heap v x)=>(q:eS Own 1 s.heap v x)) hx⟩
 | hdr e ha hd hL hl =>
  rename_i l a da la
  (refine e1a3 hd ?_;try clear hd;rintro od h1 h2 h3);(refine e1a2 hl ?_;try clear hl;rintro vs hp hx);refine .hdr (la:=la) ⟨⟨a,da,od,e,ha,h1,h2,h3,?_,?_⟩,vs,hp,hx⟩
  .rintro rfl
   (refine e1a1 hp ?_;try clear hp;rintro n hp);rw[ha]at hp;cases hp
  .rintro rfl
   (refine e1a1 hp ?_;try clear hp;rintro n hp);rw[h1]at hp;(replace hp:=(aA hp).symm;subst hp);exact absurd h2 (by simp)
theorem jV.weak {c:cG}{L:Addr}{Own Own':Addr->Prop}{s:Shared}{k:Nat}{fs:List Addr}{v:Value}{pv:PV}(h:∀ a,Own' a->(∃ o,s.heap.get? a=some o)->Own a)(r:jV c L Own s k fs v pv):jV c L Own' s k fs v pv:=by
 cases r with
 | flat r=>exact .flat (r.grow h)
 | one hl hx=>exact .one hl (hx.mono fun u_ u_ q=>q.grow h)
 | two hl hv hx hn=>exact .two hl hv (hx.mono fun u_ u_ q=>e3a4 q fun r ys ws e1 e2 h1 h2=>⟨r,ys,ws,e1,e2,h1,bP.mono (fun v x (q:bL Own s.heap v x)=>q.grow h) h2⟩) hn
 | hdr e ha hd hL hl=>exact .hdr e ha hd hL hl
 | hdrB h=>exact .hdrB h
theorem yB {X Y:Addr->Prop}{h:Heap}{v:Value}{p q:List Nat}(x:bL X h v (.tuple [S p,S q])):bL Y h v (.tuple [S p,S q]):=by
 (refine e2a3 x.untuple ?_;rintro a vs rfl ht hx);refine bL.tuple ht ?_;generalize vs.toList=l at hx
 cases hx with
 | cons r1 r2 =>
  cases r2 with
  | cons r2 r3 =>
   cases r3;(refine e1a1 r1.str ?_;rintro t rfl);(refine e1a1 r2.str ?_;rintro u rfl);exact .cons .mkStr (.cons .mkStr .nil)
theorem pS {X Y Z:Addr->Prop}{h h':Heap}(kp:jZ Z h h'){vs:List Value}{l:List (List Nat × List Nat)}(x:bP (bL X h) vs (l.map fun p=>PyData.tuple [S p.1,S p.2])):bP (bL Y h') vs (l.map fun p=>PyData.tuple [S p.1,S p.2]):=by
 induction l generalizing vs with
 | nil=>cases x;exact .nil
 | cons p l ih =>
  cases x with
  | cons r1 r2=>exact .cons (yB ((yB (Y:=Z) r1).kpf kp)) (ih r2)
theorem jV.moveD {c:cG}{L:Addr}{Own:Addr->Prop}{s s':Shared}{k:Nat}{fs:List Addr}{v:Value}{pv:PV}(kp:jZ Own s.heap s'.heap)(kf:∀ a∈fs,∀ o vs n,o.data=.seq vs n->s.heap.get? a=some o->s'.heap.get? a=some o)
  (kd:∀ a o,(o.data=.plain\/(a≠L/\HdD o))->s.heap.get? a=some o->s'.heap.get? a=some o) (r:jV c L Own s k fs v pv):jV c L Own s' k fs v pv:=by
 have kt:jZ (fun u_=>True) s.heap s'.heap:=fun b o vs n hb hd hc=>by
  rcases hc with hc | hc
  .exact kp b o vs n hb hd (.inl hc)
  .exact absurd trivial hc
 cases r with
 | flat r=>exact .flat (r.kpf kp)
 | hdrB h=>exact .hdrB h
 | one hl hx =>
  (refine e1a1 hl ?_;try clear hl;rintro n ho);exact .one ⟨n,kf _ aF _ _ _ rfl ho⟩ (hx.mono fun u_ u_ q=>q.kpf kp)
 | @two a vs rs xs hl hv hx hn =>
  (refine e1a1 hl ?_;try clear hl;rintro n ho)
  have mv:∀ {l:List Value} {xs:List PyData},bP (tQ Own s.heap) l xs->(∀ v∈l,v∈rs.map Value.ref)->bP (tQ Own s'.heap) l xs:=by
   intro l xs hx
   induction hx with
   | nil=>exact fun _=>.nil
   | cons q _ ih =>
    intro hm;refine .cons ?_ (ih fun v m=>hm v (aE _ m));(refine e3a4 q ?_;rintro r ys ws rfl rfl h1 h2);(refine e1a2 (bJ (hm _ aF)) ?_;rintro r' hr er);cases er;(refine e1a1 h1 ?_;rintro n1 e1);exact⟨r,ys,ws,rfl,rfl,⟨n1,kf r (aE _ hr) _ _ _ rfl e1⟩,bP.mono (fun v x (q:bL Own s.heap v x)=>q.kpf kp) h2⟩
  exact .two ⟨n,kf _ aF _ _ _ rfl ho⟩ hv (mv hx fun v m=>hv ▸ m) hn
 | hdr e ha hd hL hl =>
  (refine e1a3 hd ?_;try clear hd;rintro od h1 h2 h3);(refine e1a2 hl ?_;try clear hl;rintro vs ⟨n,ho⟩ hx);(refine e3a1 h3 ?_;try clear h3;rintro hs t m h4);exact .hdr e (kd _ _ (.inl rfl) ha) ⟨od,kd _ _ (.inr ⟨hL,_,_,_,_,h4⟩) h1,h2,hs,t,m,h4⟩ hL ⟨vs,⟨n,kf _ aF _ _ _ rfl ho⟩,pS kp hx⟩
theorem jV.move {c:cG}{L:Addr}{Own:Addr->Prop}{s s':Shared}{k:Nat}{fs:List Addr}{v:Value}{pv:PV}(kp:jZ Own s.heap s'.heap)(kf:∀ a∈fs,∀ o vs n,o.data=.seq vs n->s.heap.get? a=some o->s'.heap.get? a=some o)
  (kd:∀ a o,(o.data=.plain\/(a≠L/\∃ es n,o.data=.dict es n))->s.heap.get? a=some o->s'.heap.get? a=some o) (r:jV c L Own s k fs v pv):jV c L Own s' k fs v pv :=
 r.moveD kp kf fun a o hd e=>kd a o (hd.imp id fun h=>⟨h.1,let ⟨_,_,_,_,q⟩:=h.2;⟨_,_,q⟩⟩) e
structure SX (c:cG)(n:Nat)(A:Around)(env:Env)(Bad:Addr->Prop)(M:List Nat)(F:Nat->List Addr)(P:Nat->Option Value)(E:AE)(s:Shared):Prop where
 eok:fB env
 room:fO n A
 base:dK c s.heap
 cells:∀ x a,env.cells.lookup x=some a->∃ o,s.heap.IsCell a o
 sto:lP env s.heap P
 vars:∀ i pv,E i=some pv->∃ v,P i=some v/\jV c env.locals (dA Bad F) s (md M i) (F i) v pv
 pl:∀ i,∀ a∈F i,Pl s.heap a
 bad:∀ a,Bad a->∃ o,s.heap.get? a=some o
 nb:∀ i,∀ a∈F i,¬ Bad a
 dj:∀ i j a,a∈F i->a∈F j->i=j
 nl:c.h0.get? env.locals=none
 nc:∀ x a,env.cells.lookup x=some a->c.h0.get? a=none
 nF:∀ i a,a∈F i->c.h0.get? a=none
structure cF (env:Env)(F:Nat->List Addr)(s:Shared)(F':Nat->List Addr)(s':Shared):Prop where
 keep:∀ b o,b≠env.locals->(∀ x,env.cells.lookup x≠some b)->(∀ i,b ∉ F i)->s.heap.get? b=some o->s'.heap.get? b=some o
 gk:GK s.gens s'.gens
 os:s'.os=s.os
 own:∀ i a,a∈F' i->(∃ j,a∈F j)\/s.heap.get? a=none
 alive:∀ b o,s.heap.get? b=some o->∃ o',s'.heap.get? b=some o'
theorem cF.refl {env:Env}{F:Nat->List Addr}(s:Shared):cF env F s F s:=⟨fun u_ u_ u_ u_ u_ e=>e,.refl _,rfl,fun i a h=>.inl ⟨i,h⟩,fun u_ o e=>⟨o,e⟩⟩
theorem cF.trans {env:Env}{F1 F2 F3:Nat->List Addr}{s1 s2 s3:Shared}(x:cF env F1 s1 F2 s2)(y:cF env F2 s2 F3 s3):cF env F1 s1 F3 s3:=by
 refine⟨fun b o h1 h2 h3 e=>?_,x.gk.trans y.gk,y.os.trans x.os,fun i a h=>?_,fun b o e=>let ⟨o',h⟩:=x.alive b o e;y.alive b o' h⟩
 .refine y.keep b o h1 h2 (fun i m=>?_) (x.keep b o h1 h2 h3 e)
  rcases x.own i b m with ⟨j,hj⟩ | q
  .exact h3 j hj
  .rw[q]at e;exact cM e
 .rcases y.own i a h with ⟨j,hj⟩ | q
  .exact x.own j a hj
  .by_cases hf:∃ j,a∈F1 j
   .exact .inl hf
   .refine .inr ?_
    cases hh:s1.heap.get? a with
    | none=>rfl
    | some o=>(refine e1a1 (x.alive a o hh) ?_;rintro o' h');rw[q]at h';exact cM h'
theorem cF.of {env:Env}{F:Nat->List Addr}{s s':Shared}(x:cS s s'):cF env F s F s':=⟨fun b o u_ u_ u_ e=>x.keep b o e,x.gk,x.os,fun i a h=>.inl ⟨i,h⟩,fun b o e=>⟨o,x.keep b o e⟩⟩
section
variable {c:cG} {n:Nat} {A:Around} {env:Env} {Bad:Addr->Prop} {M:List Nat} {F:Nat->List Addr} {P:Nat->Option Value} {E:AE} {s s':Shared}
theorem SX.live (X:SX c n A env Bad M F P E s):∀ a,dA Bad F a->∃ o,s.heap.get? a=some o:=by
 rintro a (h | ⟨i,h⟩)
 .exact X.bad a h
 ·(refine e2a1 (X.pl i a h) ?_;rintro vs nn e)
  exact⟨_,e⟩
theorem SX.cx (X:SX c n A env Bad M F P E s):Cx c n A (dA Bad F) env (md M) E s:=by
 refine⟨X.eok,X.room,X.base,⟨?_⟩,X.live,X.cells⟩;(refine e1a2 X.sto.ns ?_;rintro m hm hl);refine⟨m,hm,fun i pv e u_=>?_⟩;(refine e1a2 (X.vars i pv e) ?_;rintro v h1 h2);exact⟨v,hl i v h1,h2.rep X.base⟩
theorem SX.stp (X:SX c n A env Bad M F P E s)(x:cS s s'):SX c n A env Bad M F P E s':=by
 refine⟨X.eok,X.room,X.base.keep x.keep,fun y a h=>let ⟨o,ho⟩:=X.cells y a h;⟨o,ho.keeps x.keep⟩,X.sto.keep x.keep,fun i pv e=>?_,fun i a h=>(X.pl i a h).keep x.keep,fun a h=>let ⟨o,ho⟩:=X.bad a h;⟨o,x.keep _ _ ho⟩,X.nb,X.dj,X.nl,X.nc,X.nF⟩
 (refine e1a2 (X.vars i pv e) ?_;rintro v h1 h2);exact⟨v,h1,h2.move (.of x.keep) (fun a u_ o vs n u_ e=>x.keep a o e) (fun a o u_ e=>x.keep a o e)⟩
noncomputable def dH (F:Nat->List Addr)(i:Nat)(l:List Addr):Nat->List Addr:=fun j=>if j=i then l else F j
set_option tactic.hygienic true in
theorem dP {F:Nat->List Addr}{i j:Nat}{a:Addr}(h:a∈dH F i [] j):a∈F j/\j≠i:=by
 unfold dH at h
 split at h
 .cases h
 .rename_i e;exact⟨h,e⟩
theorem hU {M:List Nat}{i j k:Nat}(h:i < M.length):md (M.set i k) j=if j=i then k else md M j:=by
 unfold md;rw[List.getD_eq_getElem?_getD,List.getD_eq_getElem?_getD,List.getElem?_set]
 by_cases e:i=j
 .subst e;simp[h]
 .rw[if_neg e,if_neg (fun q=>e q.symm)]
theorem Kb.kd {env:Env}{ids:List Nat}{h h':Heap}{P:Nat->Option Value}(S:lP env h P)(k:Kb env ids h h'):∀ a o,(o.data=.plain\/(a≠env.locals/\∃ es n,o.data=.dict es n))->h.get? a=some o->h'.get? a=some o:=by
 intro a o hd e
 have nc:∀ i∈ids,env.kindOf (nm i)=some .cell->env.cells.lookup (nm i)≠some a:=fun i u_ hk hl=>by
  (refine e2a2 (S.cells _ _ hk hl) ?_;rintro x o' ho' hd');rw[e]at ho';(replace ho':=(aA ho').symm;subst ho')
  rcases hd with hd | ⟨u_,es,n,hd⟩ <;> rw[hd]at hd' <;> cases hd'
 rcases hd with hd | ⟨hd,u_⟩
 .refine k a o (fun q=>?_) nc e
  subst q;(refine e1a2 S.ns ?_;rintro m ⟨o',es,ep,ho',hd',u_⟩ u_);rw[e]at ho';(replace ho':=(aA ho').symm;subst ho');rw[hd]at hd';cases hd'
 .exact k a o hd nc e
theorem Kb.seq {env:Env}{ids:List Nat}{h h':Heap}{P:Nat->Option Value}(S:lP env h P)(k:Kb env ids h h'):∀ a o vs n,o.data=.seq vs n->h.get? a=some o->h'.get? a=some o :=
 fun a o vs n hd e=>S.kpf (OX:=fun u_=>False) k a o vs n e hd (.inr fun q=>q)
theorem Kb.alive {env:Env}{ids:List Nat}{h h':Heap}{P':Nat->Option Value}(S:lP env h' P')(k:Kb env ids h h'):∀ b o,h.get? b=some o->∃ o',h'.get? b=some o':=by
 intro b o e
 by_cases hb:b=env.locals
 .subst hb
  (refine e1a2 S.ns ?_;rintro m ⟨o',u_,u_,ho',u_⟩ u_);exact⟨o',ho'⟩
 .by_cases hc:∃ i∈ids,env.kindOf (nm i)=some .cell/\env.cells.lookup (nm i)=some b
  ·(refine e1a3 hc ?_;try clear hc;rintro i u_ hk hl)
   (refine e2a2 (S.cells _ _ hk hl) ?_;rintro x o' ho' u_);exact⟨o',ho'⟩
  .exact⟨o,k b o hb (fun i hi hk hl=>hc ⟨i,hi,hk,hl⟩) e⟩
theorem cF.kb {ids:List Nat}{P':Nat->Option Value}{F':Nat->List Addr}(S:lP env s'.heap P')(k:Kb env ids s.heap s'.heap)(hg:GK s.gens s'.gens)(ho:s'.os=s.os)(hF:∀ i a,a∈F' i->(∃ j,a∈F j)\/s.heap.get? a=none):cF env F s F' s' :=
 ⟨fun b o h1 h2 u_ e=>k b o h1 (fun i u_ u_=>h2 _) e,hg,ho,hF,k.alive S⟩
end
section
variable {c:cG} {n:Nat} {A:Around} {env:Env} {Bad:Addr->Prop} {M M':List Nat} {F:Nat->List Addr} {P P':Nat->Option Value} {E E':AE} {s s':Shared}
theorem SX.base_kb {ids:List Nat}{h':Heap}(X:SX c n A env Bad M F P E s)(k:Kb env ids s.heap h'):dK c h' :=
 X.base.new fun b o e0 e=>k b o (fun q=>by rw[q,X.nl]at e0;exact cM e0) (fun i u_ u_ hl=>by rw[X.nc _ b hl]at e0;exact cM e0) e
noncomputable def sW (F:Nat->List Addr)(ids:List Nat):Nat->List Addr:=fun j=>if ids.contains j then[]else F j
set_option tactic.hygienic true in
theorem fA {ids:List Nat}{j:Nat}{a:Addr}(h:a∈sW F ids j):a∈F j/\j ∉ ids:=by
 unfold sW at h
 split at h
 .cases h
 .rename_i e;exact⟨h,by simpa using e⟩
theorem pL {ids:List Nat}{h h':Heap}(K:fB env)(S:lP env h P)(hc:∀ x a,env.cells.lookup x=some a->∃ o,h.IsCell a o)(k:Kb env ids h h')(S':lP env h' P') :
  ∀ x a,env.cells.lookup x=some a->∃ o,h'.IsCell a o:=by
 intro y a hy
 by_cases hcl:env.kindOf y=some .cell
 .exact S'.cells y a hcl hy
 ·(refine e2a2 (hc y a hy) ?_;rintro o ob ho hd)
  refine⟨o,ob,k a ob (S.ne ⟨ob,ho,hd⟩) ?_ ho,hd⟩;intro i hi hk hq;exact hcl (by rw[K.apart _ _ _ hy hq];exact hk)
theorem SX.setU {OX:Addr->Prop}{ids:List Nat}(X:SX c n A env Bad M F P E s)(hM:∀ j,(j∈ids->md M' j=0)/\(j ∉ ids->md M' j=md M j))(hOX:∀ a,dA Bad F a->OX a)
  (k:Kb env ids s.heap s'.heap) (So:lP env s'.heap P') (G:∀ j,(j∈ids->∀ pv,E' j=some pv->∃ v d,P' j=some v/\pv=.dat d/\bL OX s'.heap v d)/\(j ∉ ids->P' j=P j/\E' j=E j)):SX c n A env Bad M' (sW F ids) P' E' s':=by
 have kd:=k.kd X.sto;have ks:=k.seq X.sto
 have own:∀ a,dA Bad (sW F ids) a->dA Bad F a:=by
  rintro a (h | ⟨i,h⟩)
  .exact .inl h
  .exact .inr ⟨i,(fA h).1⟩
 refine⟨X.eok,X.room,X.base_kb k,pL X.eok X.sto X.cells k So,So,fun j pv e=>?_,fun i a h=>?_,fun a h=>?_,fun i a h=>X.nb i a (fA h).1,fun i j a h1 h2=>X.dj i j a (fA h1).1 (fA h2).1,X.nl,X.nc,fun i a h=>X.nF i a (fA h).1⟩
 .by_cases hj:j∈ids
  ·(refine e2a3 ((G j).1 hj pv e) ?_;rintro v d h1 rfl h3)
   refine⟨v,h1,?_⟩;rw[(hM j).1 hj,show sW F ids j=[]by unfold sW;rw[if_pos (by simpa using hj)]]
   exact .flat (h3.weak fun a h=>hOX a (own a h))
  .obtain ⟨h1,h2⟩:=(G j).2 hj
   rw[h2]at e;(refine e1a2 (X.vars j pv e) ?_;rintro v q1 q2);refine⟨v,h1.trans q1,?_⟩;rw[(hM j).2 hj,show sW F ids j=F j by unfold sW;rw[if_neg (by simpa using hj)]]
   have q3:=q2.move (s':=s') (X.sto.kpf k) (fun a u_ o vs n hd e=>ks a o vs n hd e) kd;exact q3.weak fun a h u_=>own a h
 ·(refine e2a1 (X.pl i a (fA h).1) ?_;rintro vs nn e)
  exact⟨vs,nn,ks a _ _ _ rfl e⟩
 ·(refine e1a1 (X.bad a h) ?_;rintro o ho)
  exact k.alive So a o ho
theorem SX.set {OX:Addr->Prop}{ids:List Nat}(X:SX c n A env Bad M F P E s)(hM:∀ j,(j∈ids->md M' j=0)/\(j ∉ ids->md M' j=md M j))(hOX:∀ a,dA Bad F a->OX a)
  (k:Kb env ids s.heap s'.heap) (So:lP env s'.heap P') (G:Got OX ids s'.heap P P' E E'):SX c n A env Bad M' (sW F ids) P' E' s' :=
 X.setU hM hOX k So fun j=>⟨fun m pv e=>e2a3 ((G j).1 m) fun v d h1 h2 h3=>⟨v,d,h1,aA (e.symm.trans h2),h3⟩,(G j).2⟩
set_option tactic.hygienic true in
theorem SX.setL {i:Nat}{a:Addr}{xs:List PyData}(X:SX c n A env Bad M F P E s)(hM:∀ j,md M' j=if j=i then 1 else md M j)
  (r:bL (dA Bad F) s'.heap (.ref a) (.list xs)) (hfr:Fr1 s (.ref a))
  (k:Kb env [i] s.heap s'.heap) (So:lP env s'.heap (wC P i (.ref a))):SX c n A env Bad M' (dH F i [a]) (wC P i (.ref a)) (E.set i (.dat (.list xs))) s':=by
 have kd:=k.kd X.sto;have ks:=k.seq X.sto;have na:¬ dA Bad F a:=fun h=>by(refine e1a1 (X.live a h) ?_;rintro o ho);rw[hfr a rfl]at ho;exact cM ho
 have own:∀ b,dA Bad (dH F i [a]) b->dA Bad F b\/b=a:=by
  rintro b (h | ⟨j,h⟩)
  .exact .inl (.inl h)
  .unfold dH at h
   split at h
   .exact .inr (aH h)
   .exact .inl (.inr ⟨j,h⟩)
 (refine e2a4 r.unlistA ?_;rintro a' vs e hl hx _);cases e;refine⟨X.eok,X.room,X.base_kb k,pL X.eok X.sto X.cells k So,So,fun j pv e=>?_,fun j b h=>?_,fun b h=>?_,fun j b h=>?_,fun j1 j2 b h1 h2=>?_,X.nl,X.nc,fun j b h=>?_⟩
 .by_cases hj:j=i
  .subst hj
   have e:some (PV.dat (.list xs))=some pv:=by rw[<-e];exact(if_pos rfl).symm
   (replace e:=(aA e).symm;subst e);refine⟨.ref a,if_pos rfl,?_⟩;rw[hM,if_pos rfl,show dH F j [a] j=[a]from if_pos rfl];exact .one hl (hx.mono fun _ _ q=>q.weak own)
  .have e:E j=some pv:=by rw[<-e];exact(if_neg hj).symm
   (refine e1a2 (X.vars j pv e) ?_;rintro v q1 q2);refine⟨v,(if_neg hj).trans q1,?_⟩;rw[hM,if_neg hj,show dH F i [a] j=F j from if_neg hj]
   have q3:jV c env.locals (dA Bad (dH F i [a])) s (md M j) (F j) v pv:=q2.weak fun b hb ha=>by
    rcases own b hb with q | rfl
    .exact q
    ·(refine e1a1 ha ?_;try clear ha;rintro o ho)
     rw[hfr _ rfl]at ho;exact cM ho
   exact q3.move (X.sto.kpf k) (fun a _ o vs n hd e=>ks a o vs n hd e) kd
 .unfold dH at h
  split at h
  .rw[aH h];exact⟨vs,hl⟩
  ·(refine e2a1 (X.pl j b h) ?_;rintro ws mm e)
   exact⟨ws,mm,ks b _ _ _ rfl e⟩
 ·(refine e1a1 (X.bad b h) ?_;rintro o ho)
  exact k.alive So b o ho
 .unfold dH at h
  split at h
  .rw[aH h];exact fun q=>na (.inl q)
  .exact X.nb j b h
 .unfold dH at h1 h2
  split at h1 <;> split at h2
  .rename_i e1 e2;rw[e1,e2]
  .rw[aH h1]at h2;exact absurd (.inr ⟨_,h2⟩) na
  .rw[aH h2]at h1;exact absurd (.inr ⟨_,h1⟩) na
  .exact X.dj j1 j2 b h1 h2
 .unfold dH at h
  split at h
  .rw[aH h]
   cases hh:c.h0.get? a with
   | none=>rfl
   | some o=>have:=X.base.k0 _ _ hh;rw[hfr a rfl]at this;exact cM this
  .exact X.nF j b h
theorem SX.setL2 {i:Nat}{a:Addr}{vs:Array Value}{rs:List Addr}{xs:List PyData}(X:SX c n A env Bad M F P E s)(hM:∀ j,md M' j=if j=i then 2 else md M j)
  (hl:s'.heap.PlainList a vs) (hv:vs.toList=rs.map Value.ref) (hx:∀ Own:Addr->Prop,bP (tQ Own s'.heap) vs.toList xs) (hn:(a::rs).Nodup) (hpl:∀ b∈a::rs,Pl s'.heap b) (hfr:∀ b∈a::rs,s.heap.get? b=none)
  (k:Kb env [i] s.heap s'.heap) (So:lP env s'.heap (wC P i (.ref a))):SX c n A env Bad M' (dH F i (a::rs)) (wC P i (.ref a)) (E.set i (.dat (.list xs))) s':=by
 have kd:=k.kd X.sto;have ks:=k.seq X.sto;have na:∀ b∈a::rs,¬ dA Bad F b:=fun b m h=>by(refine e1a1 (X.live b h) ?_;rintro o ho);rw[hfr b m]at ho;exact cM ho
 have own:∀ b,dA Bad (dH F i (a::rs)) b->dA Bad F b\/b∈a::rs:=by
  rintro b (h | ⟨j,h⟩)
  .exact .inl (.inl h)
  .unfold dH at h
   by_cases e:j=i
   .rw[if_pos e]at h;exact .inr h
   .rw[if_neg e]at h;exact .inl (.inr ⟨j,h⟩)
 refine⟨X.eok,X.room,X.base_kb k,pL X.eok X.sto X.cells k So,So,fun j pv e=>?_,fun j b h=>?_,fun b h=>?_,fun j b h=>?_,fun j1 j2 b h1 h2=>?_,X.nl,X.nc,fun j b h=>?_⟩
 .by_cases hj:j=i
  .subst hj
   have e:some (PV.dat (.list xs))=some pv:=by rw[<-e];exact(if_pos rfl).symm
   (replace e:=(aA e).symm;subst e);refine⟨.ref a,if_pos rfl,?_⟩;rw[hM,if_pos rfl,show dH F j (a::rs) j=a::rs from if_pos rfl];exact .two hl hv (hx _) hn
  .have e:E j=some pv:=by rw[<-e];exact(if_neg hj).symm
   (refine e1a2 (X.vars j pv e) ?_;rintro v q1 q2);refine⟨v,(if_neg hj).trans q1,?_⟩;rw[hM,if_neg hj,show dH F i (a::rs) j=F j from if_neg hj]
   have q3:jV c env.locals (dA Bad (dH F i (a::rs))) s (md M j) (F j) v pv:=q2.weak fun b hb ha=>by
    rcases own b hb with q | q
    .exact q
    ·(refine e1a1 ha ?_;try clear ha;rintro o ho)
     rw[hfr _ q]at ho;exact cM ho
   exact q3.move (X.sto.kpf k) (fun a u_ o vs n hd e=>ks a o vs n hd e) kd
 .unfold dH at h
  by_cases e:j=i
  .rw[if_pos e]at h;exact hpl b h
  .rw[if_neg e]at h
   (refine e2a1 (X.pl j b h) ?_;rintro ws mm e);exact⟨ws,mm,ks b _ _ _ rfl e⟩
 ·(refine e1a1 (X.bad b h) ?_;rintro o ho)
  exact k.alive So b o ho
 .unfold dH at h
  by_cases e:j=i
  .rw[if_pos e]at h;exact fun q=>na b h (.inl q)
  .rw[if_neg e]at h;exact X.nb j b h
 .unfold dH at h1 h2
  by_cases e1:j1=i
  .by_cases e2:j2=i
   .rw[e1,e2]
   .rw[if_pos e1]at h1;rw[if_neg e2]at h2;exact absurd (.inr ⟨_,h2⟩) (na b h1)
  .by_cases e2:j2=i
   .rw[if_neg e1]at h1;rw[if_pos e2]at h2;exact absurd (.inr ⟨_,h1⟩) (na b h2)
   .rw[if_neg e1]at h1;rw[if_neg e2]at h2;exact X.dj j1 j2 b h1 h2
 .unfold dH at h
  by_cases e:j=i
  .rw[if_pos e]at h
   cases hh:c.h0.get? b with
   | none=>rfl
   | some o=>have:=X.base.k0 _ _ hh;rw[hfr b h]at this;exact cM this
  .rw[if_neg e]at h;exact X.nF j b h
theorem SX.mut {i:Nat}{a:Addr}{pv:PV}(X:SX c n A env Bad M F P E s)(ha:a∈F i)(hs:Heap.SameBut a s.heap s'.heap)(hl:Pl s'.heap a)
  (hv:∃ v,P i=some v/\jV c env.locals (dA Bad F) s' (md M i) (F i) v pv):SX c n A env Bad M F P (E.set i pv) s':=by
 (refine e2a1 (X.pl i a ha) ?_;rintro vs0 n0 e0);have kk:∀ b o,b≠a->s.heap.get? b=some o->s'.heap.get? b=some o:=fun b o hb e=>(hs.2 b hb).trans e
 have kd:∀ b o,(o.data=.plain\/(b≠env.locals/\∃ es n,o.data=.dict es n))->s.heap.get? b=some o->s'.heap.get? b=some o:=fun b o hd e=>kk b o (fun q=>by
  subst q;rw[e0]at e;(replace e:=(aA e).symm;subst e)
  rcases hd with hd | ⟨u_,u_,u_,hd⟩ <;> cases hd) e
 have kp:jZ (dA Bad F) s.heap s'.heap:=fun b o vs n hb hd hc=>kk b o (fun q=>by
  subst q
  rcases hc with hc | hc
  .rw[e0]at hb;(replace hb:=(aA hb).symm;subst hb);exact absurd hc (by simp)
  .exact hc (.inr ⟨i,ha⟩)) hb
 have nl:env.locals≠a:=fun q=>by
  (refine e1a2 X.sto.ns ?_;rintro m ⟨o',u_,u_,ho',hd',u_⟩ u_);rw[q,e0]at ho';(replace ho':=(aA ho').symm;subst ho');cases hd'
 have nc:∀ x b,env.cells.lookup x=some b->b≠a:=fun x b h q=>by
  (refine e2a2 (X.cells x b h) ?_;rintro o ob ho hd);rw[q,e0]at ho;(replace ho:=aA ho;subst ho);cases hd
 refine⟨X.eok,X.room,X.base.new (fun b o e0 e=>kk b o (fun q=>by rw[q,X.nF i a ha]at e0;exact cM e0) e),fun x b h=>?_,X.sto.at (fun o e=>kk _ o nl e) (fun x b u_ h o e=>kk b o (nc x b h) e),fun j pv' e=>?_,fun j b h=>?_,fun b h=>?_,X.nb,X.dj,X.nl,X.nc,X.nF⟩
 ·(refine e2a2 (X.cells x b h) ?_;rintro o ob ho hd)
  exact⟨o,ob,kk b ob (nc x b h) ho,hd⟩
 .by_cases hj:j=i
  .subst hj
   have e:some pv=some pv':=by rw[<-e];exact(if_pos rfl).symm
   (replace e:=(aA e).symm;subst e);exact hv
  .have e:E j=some pv':=by rw[<-e];exact(if_neg hj).symm
   (refine e1a2 (X.vars j pv' e) ?_;rintro v q1 q2);exact⟨v,q1,q2.move kp (fun b hb o vs n hd e=>kk b o (fun q=>hj (X.dj j i a (q ▸ hb) ha)) e) kd⟩
 .by_cases hb:b=a
  .subst hb;exact hl
  ·(refine e2a1 (X.pl j b h) ?_;rintro ws mm e)
   exact⟨ws,mm,kk b _ hb e⟩
 .by_cases hb:b=a
  .subst hb;(refine e2a1 hl ?_;try clear hl;rintro vs nn e);exact⟨_,e⟩
  ·(refine e1a1 (X.bad b h) ?_;rintro o ho)
   exact⟨o,kk b o hb ho⟩
theorem cF.mut {i:Nat}{a:Addr}(ha:a∈F i)(hs:Heap.SameBut a s.heap s'.heap)(hl:Pl s'.heap a)(hg:GK s.gens s'.gens)(ho:s'.os=s.os):cF env F s F s':=by
 refine⟨fun b o u_ u_ h e=>(hs.2 b fun q=>h i (q ▸ ha)).trans e,hg,ho,fun j b h=>.inl ⟨j,h⟩,fun b o e=>?_⟩
 by_cases hb:b=a
 .subst hb;(refine e2a1 hl ?_;try clear hl;rintro vs nn e);exact⟨_,e⟩
 .exact⟨o,(hs.2 b hb).trans e⟩
end
noncomputable abbrev Cs:=Stmt->Bool
noncomputable def aGj (e:Expr):Bool:=!(Nat.beq e.ctorIdx 9 || Nat.beq e.ctorIdx 10)
noncomputable def rA (sc:Scope)(i:Nat)(e:Ck)(x:Stmt):Bool :=
 dQ x fun z1 v pos=>bC z1 fun z2 z3=>bX z2 fun y p=>bV z3 (decide (y=nm i) && bQ sc y && aGj v && e v)
noncomputable def aBv (sc:Scope)(x:Str):Bool:=match sc.names.lookup x with | some .local=>true | _=>false
noncomputable def uK (e:Expr):Bool:=bX e fun id u_=>!(id == ("__debug__":Str))
noncomputable def aJn (sc:Scope)(i j:Nat)(a b:Ck)(x:Stmt):Bool :=
 dQ x fun z1 z2 pos=>bC z1 fun z3 z4=>jU z3 fun z5 k p3=>bC z5 fun z6 z7=>bX z6 fun y p1=>bC z7 fun z8 z9=>bX z8 fun z p2=>bV z9 (bV z4 (jU z2 fun z10 k2 p4=>bC z10 fun u z11=>bC z11 fun v z12=>bV z12 (decide (y=nm i) && decide (z=nm j) && decide (i≠j) && aBv sc y && aBv sc z && (p1.line == p1.line) && (p2.line == p1.line) && uK u && uK v && a u && b v)))
noncomputable def aNM (sc:Scope)(i j:Nat)(e:Ck)(x:Stmt):Bool :=
 dQ x fun z1 v pos=>bC z1 fun z2 z3=>bX z2 fun y p1=>bC z3 fun z4 z5=>bX z4 fun z p2=>bV z5 (decide (y=nm i) && decide (z=nm j) && decide (i≠j) && bQ sc y && bQ sc z && e v)
noncomputable def aRk:Bop->Bool
 | .add=>true
 | .sub=>true
 | _=>false
noncomputable def aQU (sc:Scope)(i:Nat)(op:Bop)(e:Ck)(x:Stmt):Bool :=
 pF x fun z1 o v pos=>bX z1 fun y p=>decide (y=nm i) && bQ sc y && bW y && aRk op && decide (o=aNy op) && e v
noncomputable def aNL (sc:Scope)(i:Nat)(k e:Ck)(x:Stmt):Bool :=
 dQ x fun z1 v pos=>bC z1 fun z2 z3=>dW z2 fun o kx p=>bV z3 (qE sc i o && kG kx && k kx && e v)
noncomputable def aMu (sc:Scope)(i:Nat)(m:Str)(e:Ck)(x:Stmt):Bool :=
 rT x fun v pos=>aH2 m (qE sc i) e v
noncomputable def aRi (sc:Scope)(i:Nat)(k:Ck)(e:Expr):Bool :=
 dW e fun o kx p=>qE sc i o && kG kx && k kx
noncomputable def aNK (sc:Scope)(i:Nat)(k l e:Ck)(x:Stmt):Bool :=
 dQ x fun z1 v pos=>bC z1 fun z2 z3=>dW z2 fun o lx p=>bV z3 (aRi sc i k o && kG lx && l lx && e v)
noncomputable def aQT (e:Ck)(x:Stmt):Bool :=
 kR x fun z1 pos=>mB z1 fun v=>e v
noncomputable def sIf (t:Ck)(a b:List Stmt->Bool)(x:Stmt):Bool :=
 zQ x fun v y z pos=>t v && a y && b z
noncomputable def aOI (t:Ck)(it:Ck)(b:List Stmt->Bool)(x:Stmt):Bool :=
 aBJ x fun tg e y z1 pos=>bV z1 (gE e && t tg && it e && b y)
noncomputable def aET (t:Ck)(b:List Stmt->Bool)(x:Stmt):Bool :=
 aCB x fun v y z1 pos=>bV z1 (t v && b y)
noncomputable def aOH (sc:Scope)(i:Nat)(x:Stmt):Bool :=
 dQ x fun z1 z2 pos=>bC z1 fun z3 z4=>bX z3 fun y p=>bV z4 (eY z2 fun z5 z6 z7 r=>bX z5 fun h q=>bV z6 (bV z7 (decide (y=nm i) && bQ sc y && decide (h=("Headers":Str)) && cO sc h)))
noncomputable def aOJ (sc:Scope)(i:Nat)(a b:Ck)(x:Stmt):Bool :=
 rT x fun z1 pos=>eY z1 fun z2 z3 z4 q=>cZ z2 fun o y ap=>bC z3 fun z z5=>bC z5 fun t z6=>bV z6 (bV z4 (decide (y=("add_header":Str)) && lS o && (ap.endLine == q.line) && bM z && bM t && qE sc i o && a z && b t))
noncomputable def aHv (sc:Scope)(i:Nat)(a:Ck)(x:Stmt):Bool :=
 zR x fun ts u1_=>bC ts fun t r=>bV r (dW t fun o k u2_=>qE sc i o && a k)
noncomputable def aJo (sc:Scope)(i:Nat)(a b:Ck)(x:Stmt):Bool :=
 dQ x fun ts v u1_=>bC ts fun t r=>bV r (dW t fun o k u2_=>qE sc i o && (a k && b v))
noncomputable def aRb (xs:List Stmt):Bool :=
 bV xs (true)
noncomputable def aGq (x:Cs)(xs:List Stmt->Bool)(l:List Stmt):Bool:=match l with | y::r=>x y && xs r | []=>false
section
variable (fnm:Nat->Str) (rk:Nat->Nat) (n:Nat) (sc:Scope)
mutual
noncomputable def jF:St->Stmt->Bool
 | .asg _ i e=>rA sc i (aS fnm rk n sc e)
 | .asgH i=>fun x=>decide (3 < n) && aOH sc i x
 | .swap i j a b=>aJn sc i j (aS fnm rk n sc a) (aS fnm rk n sc b)
 | .asg2 i j e=>aNM sc i j (aS fnm rk n sc e)
 | .aug i op e=>aQU sc i op (aS fnm rk n sc e)
 | .setI i k e=>aNL sc i (aS fnm rk n sc k) (aS fnm rk n sc e)
 | .setJ i k l e=>aNK sc i (aS fnm rk n sc k) (aS fnm rk n sc l) (aS fnm rk n sc e)
 | .app i e=>aMu sc i "append" (aS fnm rk n sc e)
 | .ext i e=>aMu sc i "extend" (aS fnm rk n sc e)
 | .hadd i a b=>fun x=>decide (3 < n) && aOJ sc i (aS fnm rk n sc a) (aS fnm rk n sc b) x
 | .iff t a b=>sIf (aS fnm rk n sc t) (chkSs a) (chkSs b)
 | .forS t it b=>fun x=>aAZ it t && aOI (nP sc t) (chkIt fnm rk n sc it) (chkSs b) x
 | .whil t b=>aET (aS fnm rk n sc t) (chkSs b)
 | .ret e=>aQT (aS fnm rk n sc e)
 | .frz _=>fun u_=>false
 | .hdel i a=>fun x=>decide (3 < n) && aHv sc i (aS fnm rk n sc a) x
 | .hset i a b=>fun x=>decide (4 < n) && aJo sc i (aS fnm rk n sc a) (aS fnm rk n sc b) x
noncomputable def chkSs:Sts->List Stmt->Bool
 | .nil=>aRb
 | .cons x xs=>fun l=>match x with
  | .frz _=>chkSs xs l
  | _=>aGq (jF x) (chkSs xs) l
end
end
noncomputable def aIW (M:List Nat)(is:List Nat):Bool:=is.all fun i=>M.getD i 0 == 0
noncomputable def oA:List Nat->List Nat->List Nat
 | M,[]=>M
 | M,i::is=>oA (M.set i 0) is
noncomputable def aA4:X->Bool
 | .comp elt _ _ _=>oJ elt
 | _=>false
mutual
noncomputable def okS:List Nat->St->Option (List Nat)
 | M,.asg m i e=>if decide (i < M.length) && cJ (md M) e then(match m with
   | 0=>if hJ (md M) e=0 then some (M.set i 0)else none
   | 1=>if oJ e then some (M.set i 1)else none
   | 2=>if aA4 e then some (M.set i 2)else none
   | _=>none)else none
 | M,.asgH i=>if i < M.length then some (M.set i 4)else none
 | M,.swap i j a b=>if decide (i < M.length) && decide (j < M.length) && cJ (md M) a && cJ (md M) b && decide (hJ (md M) a=0) && decide (hJ (md M) b=0)then some (oA M [j,i])else none
 | M,.asg2 i j e=>if decide (i < M.length) && decide (j < M.length) && cJ (md M) e && decide (hJ (md M) e=0)then some (oA M [i,j])else none
 | M,.aug i _ e=>if decide (i < M.length) && cJ (md M) e && decide (md M i=0)then some M else none
 | M,.setI i k e=>if decide (md M i=1) && cJ (md M) k && cJ (md M) e && decide (hJ (md M) e=0)then some M else none
 | M,.setJ i k l e=>if decide (md M i=2) && cJ (md M) k && cJ (md M) l && cJ (md M) e && decide (hJ (md M) e=0)then some M else none
 | M,.app i e=>if decide (md M i=1) && cJ (md M) e && decide (hJ (md M) e=0)then some M else none
 | M,.ext i e=>if decide (md M i=1) && cJ (md M) e && decide (hJ (md M) e=0)then some M else none
 | M,.hadd i a b=>if decide (md M i=4) && cJ (md M) a && cJ (md M) b then some M else none
 | M,.iff t a b=>if cJ (md M) t then(okSs M a).bind fun M1=>(okSs M b).bind fun M2=>if M1=M2 then some M1 else none else none
 | M,.forS t it b=>if okIt (md M) it && decide (itK (md M) it=0) && aIW M t.ids then(okSs M b).bind fun M1=>if M1=M then some M else none else none
 | M,.whil t b=>if cJ (md M) t then(okSs M b).bind fun M1=>if M1=M then some M else none else none
 | M,.ret e=>if cJ (md M) e && decide (hJ (md M) e=0)then some M else none
 | M,.frz i=>if decide (i < M.length) && (decide (md M i=1) || decide (md M i=2))then some (M.set i 0)else none
 | M,.hdel i a=>if decide (md M i=4) && cJ (md M) a then some M else none
 | M,.hset i a b=>if decide (md M i=4) && cJ (md M) a && cJ (md M) b then some M else none
noncomputable def okSs:List Nat->Sts->Option (List Nat)
 | M,.nil=>some M
 | M,.cons x xs=>(okS M x).bind fun M1=>okSs M1 xs
end
theorem aAm {fnm:Nat->Str}{rk:Nat->Nat}{n:Nat}{sc:Scope} {z1 i e}:jF fnm rk n sc (.asg z1 i e)=(rA sc i (aS fnm rk n sc e)):=rfl
theorem aEq {fnm:Nat->Str}{rk:Nat->Nat}{n:Nat}{sc:Scope} {i}:jF fnm rk n sc (.asgH i)=(fun x=>decide (3 < n) && aOH sc i x):=rfl
theorem aEj {fnm:Nat->Str}{rk:Nat->Nat}{n:Nat}{sc:Scope} {i j a b}:jF fnm rk n sc (.swap i j a b)=(aJn sc i j (aS fnm rk n sc a) (aS fnm rk n sc b)):=rfl
theorem aEr {fnm:Nat->Str}{rk:Nat->Nat}{n:Nat}{sc:Scope} {i j e}:jF fnm rk n sc (.asg2 i j e)=(aNM sc i j (aS fnm rk n sc e)):=rfl
theorem aFQ {fnm:Nat->Str}{rk:Nat->Nat}{n:Nat}{sc:Scope} {i op e}:jF fnm rk n sc (.aug i op e)=(aQU sc i op (aS fnm rk n sc e)):=rfl
theorem aEl {fnm:Nat->Str}{rk:Nat->Nat}{n:Nat}{sc:Scope} {i k e}:jF fnm rk n sc (.setI i k e)=(aNL sc i (aS fnm rk n sc k) (aS fnm rk n sc e)):=rfl
theorem aEk {fnm:Nat->Str}{rk:Nat->Nat}{n:Nat}{sc:Scope} {i k l e}:jF fnm rk n sc (.setJ i k l e)=(aNK sc i (aS fnm rk n sc k) (aS fnm rk n sc l) (aS fnm rk n sc e)):=rfl
theorem aAn {fnm:Nat->Str}{rk:Nat->Nat}{n:Nat}{sc:Scope} {i e}:jF fnm rk n sc (.app i e)=(aMu sc i "append" (aS fnm rk n sc e)):=rfl
theorem aFP {fnm:Nat->Str}{rk:Nat->Nat}{n:Nat}{sc:Scope} {i e}:jF fnm rk n sc (.ext i e)=(aMu sc i "extend" (aS fnm rk n sc e)):=rfl
theorem aEo {fnm:Nat->Str}{rk:Nat->Nat}{n:Nat}{sc:Scope} {i a b}:jF fnm rk n sc (.hadd i a b)=(fun x=>decide (3 < n) && aOJ sc i (aS fnm rk n sc a) (aS fnm rk n sc b) x):=rfl
theorem aFN {fnm:Nat->Str}{rk:Nat->Nat}{n:Nat}{sc:Scope} {t a b}:jF fnm rk n sc (.iff t a b)=(sIf (aS fnm rk n sc t) (chkSs fnm rk n sc a) (chkSs fnm rk n sc b)):=rfl
theorem aEp {fnm:Nat->Str}{rk:Nat->Nat}{n:Nat}{sc:Scope} {t it b}:jF fnm rk n sc (.forS t it b)=(fun x=>aAZ it t && aOI (nP sc t) (chkIt fnm rk n sc it) (chkSs fnm rk n sc b) x):=rfl
theorem aEi {fnm:Nat->Str}{rk:Nat->Nat}{n:Nat}{sc:Scope} {t b}:jF fnm rk n sc (.whil t b)=(aET (aS fnm rk n sc t) (chkSs fnm rk n sc b)):=rfl
theorem aFM {fnm:Nat->Str}{rk:Nat->Nat}{n:Nat}{sc:Scope} {e}:jF fnm rk n sc (.ret e)=(aQT (aS fnm rk n sc e)):=rfl
theorem aFO {fnm:Nat->Str}{rk:Nat->Nat}{n:Nat}{sc:Scope} {z1}:jF fnm rk n sc (.frz z1)=(fun u_=>false):=rfl
theorem aEn {fnm:Nat->Str}{rk:Nat->Nat}{n:Nat}{sc:Scope} {i a}:jF fnm rk n sc (.hdel i a)=(fun x=>decide (3 < n) && aHv sc i (aS fnm rk n sc a) x):=rfl
theorem aEm {fnm:Nat->Str}{rk:Nat->Nat}{n:Nat}{sc:Scope} {i a b}:jF fnm rk n sc (.hset i a b)=(fun x=>decide (4 < n) && aJo sc i (aS fnm rk n sc a) (aS fnm rk n sc b) x):=rfl
theorem aEh {fnm:Nat->Str}{rk:Nat->Nat}{n:Nat}{sc:Scope}:chkSs fnm rk n sc .nil=(aRb):=rfl
theorem aCJ {fnm:Nat->Str}{rk:Nat->Nat}{n:Nat}{sc:Scope} {x xs}:chkSs fnm rk n sc (.cons x xs)=(fun l=>match x with
  | .frz _=>chkSs fnm rk n sc xs l
  | _=>aGq (jF fnm rk n sc x) (chkSs fnm rk n sc xs) l):=rfl
theorem aHM  {M m i e}:okS  M (.asg m i e)=(if decide (i < M.length) && cJ (md M) e then(match m with
   | 0=>if hJ (md M) e=0 then some (M.set i 0)else none
   | 1=>if oJ e then some (M.set i 1)else none
   | 2=>if aA4 e then some (M.set i 2)else none
   | _=>none)else none):=rfl
theorem aFb {M i}:okS M (.asgH i)=(if i < M.length then some (M.set i 4)else none):=rfl
theorem aE4 {M i j a b}:okS M (.swap i j a b)=(if decide (i < M.length) && decide (j < M.length) && cJ (md M) a && cJ (md M) b && decide (hJ (md M) a=0) && decide (hJ (md M) b=0)then some (oA M [j,i])else none):=rfl
theorem aFc {M i j e}:okS M (.asg2 i j e)=(if decide (i < M.length) && decide (j < M.length) && cJ (md M) e && decide (hJ (md M) e=0)then some (oA M [i,j])else none):=rfl
theorem aHL {M i z1 e}:okS M (.aug i z1 e)=(if decide (i < M.length) && cJ (md M) e && decide (md M i=0)then some M else none):=rfl
theorem aE6 {M i k e}:okS M (.setI i k e)=(if decide (md M i=1) && cJ (md M) k && cJ (md M) e && decide (hJ (md M) e=0)then some M else none):=rfl
theorem aE5 {M i k l e}:okS M (.setJ i k l e)=(if decide (md M i=2) && cJ (md M) k && cJ (md M) l && cJ (md M) e && decide (hJ (md M) e=0)then some M else none):=rfl
theorem aHN {M i e}:okS M (.app i e)=(if decide (md M i=1) && cJ (md M) e && decide (hJ (md M) e=0)then some M else none):=rfl
theorem aHK {M i e}:okS M (.ext i e)=(if decide (md M i=1) && cJ (md M) e && decide (hJ (md M) e=0)then some M else none):=rfl
theorem aE9 {M i a b}:okS M (.hadd i a b)=(if decide (md M i=4) && cJ (md M) a && cJ (md M) b then some M else none):=rfl
theorem aHI {M t a b}:okS M (.iff t a b)=(if cJ (md M) t then(okSs M a).bind fun M1=>(okSs M b).bind fun M2=>if M1=M2 then some M1 else none else none):=rfl
theorem aFa {M t it b}:okS M (.forS t it b)=(if okIt (md M) it && decide (itK (md M) it=0) && aIW M t.ids then(okSs M b).bind fun M1=>if M1=M then some M else none else none):=rfl
theorem aE3 {M t b}:okS M (.whil t b)=(if cJ (md M) t then(okSs M b).bind fun M1=>if M1=M then some M else none else none):=rfl
theorem aHH {M e}:okS M (.ret e)=(if cJ (md M) e && decide (hJ (md M) e=0)then some M else none):=rfl
theorem aHJ {M i}:okS M (.frz i)=(if decide (i < M.length) && (decide (md M i=1) || decide (md M i=2))then some (M.set i 0)else none):=rfl
theorem aE8 {M i a}:okS M (.hdel i a)=(if decide (md M i=4) && cJ (md M) a then some M else none):=rfl
theorem aE7 {M i a b}:okS M (.hset i a b)=(if decide (md M i=4) && cJ (md M) a && cJ (md M) b then some M else none):=rfl
set_option tactic.hygienic true in
noncomputable def kU (c:cG)(W:Nat)(st:St):Prop :=
 ∀ (n:Nat) (A:Around) (env:Env) (Bad:Addr->Prop) (M M':List Nat) (F:Nat->List Addr) (P:Nat->Option Value) (E E':AE) (r:Option PyData) (s:Shared) (x:Stmt) (Q:Flow->Shared->Prop) (Er:Value->Shared->Prop),
  SX c n A env Bad M F P E s->jF c.fnm c.rk n env.scope st x=true->okS M st=some M'->ex c.G c.T W st E=some (E',r) ->
  (r=none->∀ F' P' s',SX c n A env Bad M' F' P' E' s'->cF env F s F' s'->Q .next s') ->
  (∀ d,r=some d->∀ F' v s',cF env F s F' s'->bL Bad s'.heap v d->Q (.ret v) s')->wpAny (model c.prog c.w) A (exec x env) Q Er s
set_option tactic.hygienic true in
noncomputable def tP (c:cG)(W:Nat)(sts:Sts):Prop :=
 ∀ (n:Nat) (A:Around) (env:Env) (Bad:Addr->Prop) (M M':List Nat) (F:Nat->List Addr) (P:Nat->Option Value) (E E':AE) (r:Option PyData) (s:Shared) (xs:List Stmt) (Q:Flow->Shared->Prop) (Er:Value->Shared->Prop),
  SX c n A env Bad M F P E s->chkSs c.fnm c.rk n env.scope sts xs=true->okSs M sts=some M'->exs c.G c.T W sts E=some (E',r) ->
  (r=none->∀ F' P' s',SX c n A env Bad M' F' P' E' s'->cF env F s F' s'->Q .next s') ->
  (∀ d,r=some d->∀ F' v s',cF env F s F' s'->bL Bad s'.heap v d->Q (.ret v) s')->wpAny (model c.prog c.w) A (execs xs env) Q Er s
section
variable {c:cG} {n:Nat} {A:Around} {env:Env} {Bad:Addr->Prop} {M M':List Nat} {F:Nat->List Addr} {P P':Nat->Option Value} {E E':AE} {s s':Shared}
theorem bL.bad {h:Heap}{v:Value}{d:PyData}(r:bL (dA Bad F) h v d):bL Bad h v d:=r.weak fun a h=>.inl h
theorem aOu (W:Nat){e:X}(he:bG c e):kU c W (.ret e):=by
 intro n A env Bad M M' F P E E' r s x Q Er X hc ho hx h1 h2;dsimp only[aFM]at hc;refine iU hc fun z1 pos hc=>?_;refine gK hc fun v hc=>?_
 .dsimp only[aHH]at ho
  revert ho;refine ifs fun hk ho=>?_;replace hk:=aNw hk;simp only[pA,Option.bind_eq_some_iff,Option.some.injEq,Prod.mk.injEq]at hx;(refine e1a3 hx ?_;try clear hx;rintro d hd u_ rfl);refine wpAny_Return_some (he n A env _ _ E s _ d _ Er X.cx hc hk.1 hd fun v s' st r u_=>?_);rw[hk.2]at r;exact h2 d rfl F v s' (.of st) (bL.bad r)
theorem aOv (C:bE c)(W:Nat){t:X}{a b:Sts}(ht:fW c t)(ha:tP c W a)(hb:tP c W b):kU c W (.iff t a b):=by
 intro n A env Bad M M' F P E E' r s x Q Er X hc ho hx h1 h2;dsimp only[aFN]at hc;refine fT hc fun v y z pos hc=>?_
 .replace hc:=aG1 hc
  dsimp only[aHI]at ho;revert ho;refine ifs fun hk ho=>?_;revert ho;refine cE fun M1 o1=>cE fun M2 o2 ho=>?_;revert ho;refine ifs fun e ho=>?_;subst e;(replace ho:=aA ho;subst ho);revert hx;refine cE fun d hd=>cE fun q hq hx=>?_;refine wpAny_If (ht n A env _ _ E s _ d q _ Er X.cx hc.1.1 hk hd hq fun s' st=>?_)
  induction q with
  | true =>
   rw[if_pos rfl];exact ha n A env Bad M _ F P E E' r s' _ Q Er (X.stp st) hc.1.2 o1 hx (fun e F' P' s2 X2 S2=>h1 e F' P' s2 X2 ((cF.of st).trans S2)) fun d e F' v s2 S2=>h2 d e F' v s2 ((cF.of st).trans S2)
  | false =>
   rw[if_neg aN];exact hb n A env Bad M _ F P E E' r s' _ Q Er (X.stp st) hc.2 o2 hx (fun e F' P' s2 X2 S2=>h1 e F' P' s2 X2 ((cF.of st).trans S2)) fun d e F' v s2 S2=>h2 d e F' v s2 ((cF.of st).trans S2)
theorem aMf (W:Nat):tP c W .nil:=by
 intro n A env Bad M M' F P E E' r s xs Q Er X hc ho hx h1 h2;dsimp only[aEh]at hc;refine aO hc fun hc=>?_
 ·(replace ho:=aA ho;subst ho)
  cases hx;exact wpAny_execs_nil (h1 rfl F P s X (.refl s))
theorem aFL {fnm rk n sc}{x:St}{xs:Sts}{l:List Stmt}{G:Prop}(h:chkSs fnm rk n sc (.cons x xs) l=true)(h1:∀ i,x=.frz i->chkSs fnm rk n sc xs l=true->G)
  (h3:aGq (jF fnm rk n sc x) (chkSs fnm rk n sc xs) l=true->G):G:=by
 dsimp only[aCJ]at h
 cases x with
 | frz i=>exact h1 i rfl h
 | _=>exact h3 h
set_option tactic.hygienic true in
theorem SX.frz {i:Nat}(X:SX c n A env Bad M F P E s)(hi:i < M.length)(hm:md M i=1):SX c n A env Bad (M.set i 0) (dH F i []) P E s:=by
 have own:∀ a,dA Bad (dH F i []) a->dA Bad F a:=by
  rintro a (h | ⟨j,h⟩)
  .exact .inl h
  .exact .inr ⟨j,(dP h).1⟩
 refine⟨X.eok,X.room,X.base,X.cells,X.sto,fun j pv e=>?_,fun j a h=>X.pl j a (dP h).1,X.bad,fun j a h=>X.nb j a (dP h).1,fun j k a h1 h2=>X.dj j k a (dP h1).1 (dP h2).1,X.nl,X.nc,fun j a h=>X.nF j a (dP h).1⟩;(refine e1a2 (X.vars j pv e) ?_;rintro v q1 q2);refine⟨v,q1,?_⟩;rw[hU hi]
 by_cases hj:j=i
 .subst hj
  rw[if_pos rfl,show dH F j [] j=[]from if_pos rfl];rw[hm]at q2;generalize hF:F j=fs at q2
  cases q2 with
  | one hl hx =>
   rename_i a vs xs
   refine .flat (eS.list hl (hx.mono fun _ _ q=>q.weak own) ?_);rintro(h | ⟨k,h⟩)
   .exact X.nb j a (hF ▸ aF) h
   .obtain ⟨h1,h2⟩:=dP h
    exact h2 (X.dj k j a h1 (hF ▸ aF))
 .rw[if_neg hj,show dH F i [] j=F j from if_neg hj]
  exact q2.weak fun a h _=>own a h
theorem SX.frz2 {i:Nat}(X:SX c n A env Bad M F P E s)(hi:i < M.length)(hm:md M i=2):SX c n A env Bad (M.set i 0) (dH F i []) P E s:=by
 have own:∀ a,dA Bad (dH F i []) a->dA Bad F a:=by
  rintro a (h | ⟨j,h⟩)
  .exact .inl h
  .exact .inr ⟨j,(dP h).1⟩
 have out:∀ a,a∈F i->¬ dA Bad (dH F i []) a:=by
  rintro a ha (h | ⟨k,h⟩)
  .exact X.nb i a ha h
  .exact(dP h).2 (X.dj k i a (dP h).1 ha)
 refine⟨X.eok,X.room,X.base,X.cells,X.sto,fun j pv e=>?_,fun j a h=>X.pl j a (dP h).1,X.bad,fun j a h=>X.nb j a (dP h).1,fun j k a h1 h2=>X.dj j k a (dP h1).1 (dP h2).1,X.nl,X.nc,fun j a h=>X.nF j a (dP h).1⟩;(refine e1a2 (X.vars j pv e) ?_;rintro v q1 q2);refine⟨v,q1,?_⟩;rw[hU hi]
 by_cases hj:j=i
 .subst hj
  rw[if_pos rfl,show dH F j [] j=[]from if_pos rfl];rw[hm]at q2;generalize hF:F j=fs at q2
  cases q2 with
  | @two a vs rs xs hl hv hx hn =>
   have mv:∀ {l:List Value} {xs:List PyData},bP (tQ (dA Bad F) s.heap) l xs->(∀ v∈l,v∈rs.map Value.ref)->bP (bL (dA Bad (dH F j [])) s.heap) l xs:=by
    intro l xs hx
    induction hx with
    | nil=>exact fun _=>.nil
    | @cons v x l xs q u_ ih =>
     intro hm;refine .cons ?_ (ih fun v m=>hm v (aE _ m));(refine e3a4 q ?_;rintro r ys ws rfl rfl h1 h2);(refine e1a2 (bJ (hm _ aF)) ?_;rintro r' hr er);cases er;exact eS.list h1 (bP.mono (fun v x (q:bL (dA Bad F) s.heap v x)=>q.weak own) h2) (out r (hF ▸ aE _ hr))
   exact .flat (eS.list hl (mv hx fun v m=>hv ▸ m) (out a (hF ▸ aF)))
 .rw[if_neg hj,show dH F i [] j=F j from if_neg hj]
  exact q2.weak fun a h _=>own a h
theorem aJg (W:Nat){x:St}{xs:Sts}(hx:kU c W x)(hxs:tP c W xs):tP c W (.cons x xs):=by
 intro n A env Bad M M' F P E E' r s l Q Er X hc ho he h1 h2;revert ho;refine cE fun M1 o1 o2=>?_;revert he;refine cE fun p hp he=>?_;refine aFL hc (fun i e hc=>?_) fun hc=>?_
 .subst e
  dsimp only[aHJ]at o1;revert o1;refine ifs fun hk o1=>?_;replace hk:=aQc hk;have Xf:SX c n A env Bad (M.set i 0) (dH F i []) P E s:=(Bool.or_eq_true _ _ ▸ hk.2:_\/_).elim (fun q=>X.frz hk.1 (aC q)) fun q=>X.frz2 hk.1 (aC q);(replace o1:=(aA o1).symm;subst o1);(replace hp:=(aA hp).symm;subst hp);have S1:cF env F s (dH F i []) s:=⟨fun u_ u_ u_ u_ u_ e=>e,.refl _,rfl,fun j a h=>.inl ⟨j,(dP h).1⟩,fun u_ o e=>⟨o,e⟩⟩;exact hxs n A env Bad _ M' _ P E E' r s l Q Er Xf hc o2 he (fun e F' P' s2 X2 S2=>h1 e F' P' s2 X2 (S1.trans S2)) fun d e F' v s2 S2=>h2 d e F' v s2 (S1.trans S2)
 .cases l with
  | nil=>exact eR hc
  | cons y l' =>
   simp only[aGq,Bool.and_eq_true]at hc;obtain ⟨E1,r1⟩:=p;refine wpAny_execs_cons (hx n A env Bad M M1 F P E E1 r1 s y _ Er X hc.1 o1 hp (fun e F1 P1 s1 X1 S1=>?_) fun d e F' v s2 S2=>?_)
   .subst e
    exact hxs n A env Bad M1 M' F1 P1 E1 E' r s1 _ Q Er X1 hc.2 o2 he (fun e F' P' s2 X2 S2=>h1 e F' P' s2 X2 (S1.trans S2)) fun d e F' v s2 S2=>h2 d e F' v s2 (S1.trans S2)
   .subst e
    cases he;exact h2 d rfl F' v s2 S2
end
set_option tactic.hygienic true in
noncomputable def aHf (c:cG)(x:X):Prop :=
 ∀ (n:Nat) (A:Around) (env:Env) (Bad:Addr->Prop) (M:List Nat) (F:Nat->List Addr) (P:Nat->Option Value) (E:AE) (s:Shared) (e:Expr) (d:PyData) (i:Nat) (p pos:Pos) (Q:Flow->Shared->Prop) (Er:Value->Shared->Prop),
  SX c n A env Bad M F P E s->aS c.fnm c.rk n env.scope x e=true->aGj e=true->cJ (md M) x=true->hJ (md M) x=0->bQ env.scope (nm i)=true->ev c.G c.T x E=some d ->
  (∀ v s2,Kb env [i] s.heap s2.heap->lP env s2.heap (wC P i v)->GK s.gens s2.gens->s2.os=s.os->bL (dA Bad F) s2.heap v d->(oJ x=true->Fr1 s v)->(aA4 x=true->∀ D,v=.ref D->FrR s s2.heap D)->Q .next s2) ->
  wpAny (model c.prog c.w) A (exec (.Assign [.Name (nm i) p] e pos) env) Q Er s
noncomputable def aPx (e:Expr):Bool:=Nat.beq e.ctorIdx 8
theorem aA0 {e:Expr}{t:Option Expr}{l:Nat}{env:Env}(h1:aGj e=true)(h2:aPx e=false):swapsWith e t l env=pure false:=by
 cases e with
 | ListComp _ _ _ _=>exact nbf h2
 | SetComp _ _ _ _=>exact eR h1
 | DictComp _ _ _ _ _=>exact eR h1
 | _=>rfl
theorem aJT {v:Expr}(h:∀ a b d p,v=.ListComp a b d p->False):aPx v=false:=by
 cases v with
 | ListComp a b d p=>exact(h _ _ _ _ rfl).elim
 | _=>rfl
section
variable {c:cG}
set_option tactic.hygienic true in
theorem aFW {x:X}(he:bG c x){n:Nat}{A:Around}{env:Env}{Bad:Addr->Prop}{M:List Nat}{F:Nat->List Addr}{P:Nat->Option Value}{E:AE}{s:Shared}{e:Expr}{d:PyData}{i:Nat}{p pos:Pos}{Q:Flow->Shared->Prop}{Er:Value->Shared->Prop}
  (X:SX c n A env Bad M F P E s) (hr:aA4 x=false) (hc:aS c.fnm c.rk n env.scope x e=true) (hs:swapsWith e (some (.Name (nm i) p)) pos.line env=pure false) (ho:cJ (md M) x=true) (h0:hJ (md M) x=0) (hi:bQ env.scope (nm i)=true) (hd:ev c.G c.T x E=some d)
  (h:∀ v s2,Kb env [i] s.heap s2.heap->lP env s2.heap (wC P i v)->GK s.gens s2.gens->s2.os=s.os->bL (dA Bad F) s2.heap v d->(oJ x=true->Fr1 s v)->(aA4 x=true->∀ D,v=.ref D->FrR s s2.heap D)->Q .next s2) :
  wpAny (model c.prog c.w) A (exec (.Assign [.Name (nm i) p] e pos) env) Q Er s:=by
 refine wpAny_Assign_Name (he n A env _ _ E s e d _ Er X.cx hc ho hd fun v s' st r fr=>?_) hs;rw[h0]at r;refine fZ X.eok (X.stp st).sto hi fun h' tk k So=>?_;exact h v _ (fun b o q1 q2 e=>k b o q1 q2 (st.keep b o e)) So st.gk st.os (r.kpf ((X.stp st).sto.kpf k)) fr fun q=>eR (hr.symm.trans q)
noncomputable def pU:X->Bool
 | .comp ..=>true
 | _=>false
theorem aGp {fnm rk n sc}{x:X}{a:Expr} {b d p}(h:aS fnm rk n sc x (.ListComp a b d p)=true):pU x=true:=by
 cases x with
 | comp elt t it ifs=>rfl
 | p1 q a=>cases q <;> exact eR h
 | p2 q a b=>cases q <;> exact eR h
 | isC m a b=>exact eR (aB h).2
 | lst xs=>exact eR (aB h).2
 | tup xs=>exact eR (aB h).2
 | call f xs=>exact eR (aB h).2
 | lof it=>exact eR (aB h).2
 | hget i a=>exact eR (aB h).2
 | hvals i=>exact eR (aB h).2
 | _=>exact eR h
theorem aMx {x:X}(h:pU x=false):aA4 x=false:=by
 cases x <;> first | rfl | exact nbf h
theorem aLN {x:X}(he:bG c x)(h1:pU x=false):aHf c x:=by
 intro n A env Bad M F P E s e d i p pos Q Er X hc hn ho h0 hi hd h;exact aFW he X (aMx h1) hc (aA0 hn (aJT fun a b d p q=>eR (h1.symm.trans (aGp (q ▸ hc))))) ho h0 hi hd h
theorem aLO (C:bE c){elt:X}{t:Tgt}{it:It}{ifs:Xs}(hit:aAx c it)(hts:tO c ifs)(hel:bG c elt):aHf c (.comp elt t it ifs):=by
 intro n A env Bad M F P E s e d i p pos Q Er X hc hn ho h0 hi hd h;have hc0:=hc;have ho0:=ho;have hd0:=hd;simp only[pK,Bool.and_eq_true]at hc;(refine l3 hc ?_;try clear hc;rintro hng hto hc);(refine e6a7 (sS hc) ?_;rintro x tg ite fs scope q rfl c0 c1 hsc c3 c4 c5);have hb:∃ b,swapsWith (.ListComp x [⟨tg,ite,fs,0⟩] scope q) (some (.Name (nm i) p)) pos.line env=pure b:=⟨_,rfl⟩;(refine e1a1 hb ?_;try clear hb;rintro b hb)
 induction b with
 | false =>
  have hdl:∃ ys,d=.list ys:=by
   dsimp only[gX]at hd0;revert hd0;exact cE fun ds u1_=>cE fun ys u2_ e0=>⟨ys,(aA e0).symm⟩
  (refine e1a1 hdl ?_;clear hdl;rintro ys rfl);refine wpAny_Assign_Name (aD2 C hit hts hel X.cx hc0 ho0 hd0 fun v s' st r fr frr=>?_) hb;refine fZ X.eok (X.stp st).sto hi fun h' tk k So=>?_;refine h v _ (fun b o q1 q2 e=>k b o q1 q2 (st.keep b o e)) So st.gk st.os (r.kpf ((X.stp st).sto.kpf k)) (fun _=>fr) fun nw D e=>?_;subst e;(refine e2a4 (bL.unlist r) ?_;rintro a' vs e1 hl u1_ u2_);cases e1;exact(frr nw _ rfl).at hl fun n eD=>⟨n,k.seq (X.stp st).sto _ _ _ _ rfl eD⟩
 | true =>
  rw[exec_Assign_Name_used _ _ _ _ hb];(refine aKo (yF.symm.trans ho) ?_;try clear ho;rintro o1 o2 o3 o4);revert hd;refine cE fun ds hds=>cE fun ys hys e0z=>?_;(replace e0z:=(aA e0z).symm;subst e0z);refine wpAny_bind (wpAny_standAt (wpAny_bind ?_));show wpAny _ A (do let _ <-comprehension _ scope env _ (newList []) _ _ (some (assign (.Name (nm i) p) env))) _ _ s
  refine wpAny_bind (aEc (use:=some (assign (.Name (nm i) p) env)) C hit hts hel X.cx c0 hto c1 hsc c3 c4 c5 o1 o2 o3 o4 hds hys fun D cc s' st r hD hC hnn frr=>?_);have So':=(X.stp st).sto
  have hcl:cc≠env.locals:=fun e=>by
   (refine e1a2 X.sto.ns ?_;rintro m ⟨o',u_,u_,ho',u_⟩ u_);rw[<-e,hC]at ho';exact cM ho'
  show wpAny _ A (assign (.Name (nm i) p) env (.ref D)) _ _ s';refine pP X.eok So' hi fun h' tk k So=>?_;(refine e1a1 hnn ?_;try clear hnn;rintro m hm)
  have hm':h'.Ns cc m:=by
   (refine e3a3 hm ?_;try clear hm;rintro o es ep ho hd r);exact⟨o,es,ep,k.kd So' cc o (.inr ⟨hcl,es,ep,hd⟩) ho,hd,r⟩
  refine⟨m,hm',fun h2 hs2=>wpAny_pure (wpAny_pure ?_)⟩;have kk:∀ b o,b≠cc->h'.get? b=some o->h2.get? b=some o:=fun b o hb e=>(hs2.2 b hb).trans e
  have ccell:∀ y a,env.cells.lookup y=some a->a≠cc:=fun y a hy e=>by
   (refine e2a2 (X.cells y a hy) ?_;rintro o ob ho u_);rw[e,hC]at ho;exact cM ho
  have kp2:∀ OY:Addr->Prop,jZ OY h' h2:=fun OY b o vs nn hb hd u_=>kk b o (fun e=>by
   subst e;(refine e3a3 hm' ?_;try clear hm';rintro o' es ep ho' hd' u_);rw[hb]at ho';(replace ho':=(aA ho').symm;subst ho');rw[hd]at hd';cases hd') hb
  refine h (.ref D) _ (fun b o q1 q2 e=>kk b o (fun q=>by rw[q,hC]at e;exact cM e) (k b o q1 q2 (st.keep b o e))) (So.at (fun o e=>kk _ o hcl.symm e) fun y a u_ hy o e=>kk a o (ccell y a hy) e) st.gk st.os ?_ (fun u_ a e=>?_) fun nw D' e=>?_
  .exact(r.kpf (So'.kpf k)).kpf (kp2 _)
  .cases e;exact hD
  .cases e
   (refine e2a4 (bL.unlist r) ?_;rintro a' vs e1 hl u1_ u2_);cases e1;exact(frr nw).at hl fun n eD=>⟨n,(kp2 (fun u_=>False)) _ _ vs n (k.seq So' _ _ _ _ rfl eD) rfl (.inr fun q=>q)⟩
theorem xT {sc:Scope}{i:Nat}{e:Ck}{x:Stmt}(h:rA sc i e x=true):∃ p v pos,x=.Assign [.Name (nm i) p] v pos/\bQ sc (nm i)=true/\aGj v=true/\e v=true:=by
 refine cC h fun z1 v pos h=>?_;refine aL h fun z2 z3 h=>?_;refine aV h fun y p h=>?_;refine aO h fun h=>?_
 ·(refine rI h ?_;try clear h;rintro rfl h1 h2 h3)
  exact⟨_,_,_,rfl,h1,h2,h3⟩
theorem aJU {M:Nat->Nat}{x:X}(h:oJ x=true):hJ M x=0:=by
 cases x <;> first | rfl | (first | exact eR h | cases h)
theorem aRt {Own Own':Addr->Prop}{h:Heap}{l:List Value}{ys:List PyData}(hx:bP (bL Own h) l ys)(hn:ys.all noL=true):bP (bL Own' h) l ys:=by
 induction hx with
 | nil=>exact .nil
 | cons q _ ih =>
  rw[List.all_cons]at hn;exact .cons (bL.flat (aB hn).1 q) (ih (aB hn).2)
theorem aMw {Own:Addr->Prop}{h:Heap}{l:List Value}{xs:List PyData}(hx:bP (bL Own h) l xs)(hp:xs.all aMz=true):∃ rs:List Addr,l=rs.map Value.ref/\(∀ Own':Addr->Prop,bP (tQ Own' h) l xs)/\(∀ b∈rs,Pl h b):=by
 induction hx with
 | nil=>exact⟨[],rfl,fun _=>.nil,fun b m=>nomatch m⟩
 | @cons v x l' xs' q u_ ih =>
  rw[List.all_cons]at hp;(refine e1a3 (ih (aB hp).2) ?_;rintro rs e1 e2 e3);have hr:=(aB hp).1
  have hxl:∃ ys,x=.list ys/\ys.all noL=true:=by
   cases x with
   | list ys=>exact⟨ys,rfl,hr⟩
   | _=>exact eR hr
  (refine e1a2 hxl ?_;rintro ys rfl hy);(refine e2a4 (bL.unlist q) ?_;rintro r ws rfl hl hz _);refine⟨r::rs,by rw[e1];rfl,fun Own'=>.cons (show eS Own' 1 h (.ref r) (.list ys)from⟨r,ys,ws,rfl,rfl,hl,aRt hz hy⟩) (e2 Own'),fun b m=>?_⟩
  rcases aM m with e | m
  .subst e;exact⟨ws,hl⟩
  .exact e3 b m
theorem aEU {rs:List Addr}{D:Addr}{s:Shared}(h:(∀ v∈rs.map Value.ref,∀ a,v=.ref a->s.heap.get? a=none/\a≠D)/\(rs.map Value.ref).Pairwise fun v w=>∀ a,v=.ref a->w≠.ref a):(D::rs).Nodup:=by
 refine List.nodup_cons.mpr ⟨fun m=>(h.1 _ (List.mem_map.mpr ⟨D,m,rfl⟩) D rfl).2 rfl,?_⟩;have h2:=List.pairwise_map.mp h.2;exact h2.imp fun {x y} q e=>q x rfl (by rw[e])
theorem aOy (W:Nat){m i:Nat}{e:X}(ha:aHf c e):kU c W (.asg m i e):=by
 intro n A env Bad M M' F P E E' r s x Q Er X hc ho hx h1 h2;dsimp only[aAm]at hc;(refine e3a4 (xT hc) ?_;rintro p v pos rfl c1 c2 c3);revert hx;refine cE fun d hd hx=>?_;revert hx;refine ifs fun hao hx=>?_;simp only[Option.some.injEq,Prod.mk.injEq]at hx;obtain ⟨rfl,rfl⟩:=hx;dsimp only[aHM]at ho;revert ho;refine ifs fun hk ho=>?_;replace hk:=aQc hk
 split at ho
 .revert ho
  refine ifs fun h0 ho=>?_;(replace ho:=aA ho;subst ho);refine ha n A env Bad M F P E s v d i p pos Q Er X c3 c2 hk.2 h0 c1 hd fun v s2 k So hg hos r u_ u2_=>?_
  have G:Got (dA Bad F) [i] s2.heap P (wC P i v) E (E.set i (.dat d)):=fun j=>⟨fun m=>by
   rw[aH m]
   exact⟨v,d,if_pos rfl,if_pos rfl,r⟩,fun m=>by
   have hj:¬ j=i:=fun e=>m (e ▸ List.mem_singleton.mpr rfl);exact⟨if_neg hj,if_neg hj⟩⟩
  have X2:=X.set (M':=M.set i 0) (fun j=>⟨fun m=>by rw[hU hk.1,if_pos (aH m)],fun m=>by rw[hU hk.1,if_neg fun e=>m (List.mem_singleton.mpr e)]⟩) (fun a h=>h) k So G
  exact h1 rfl _ _ s2 X2 (.kb So k hg hos fun j a h=>.inl ⟨j,(fA h).1⟩)
 .revert ho
  refine ifs fun hnew ho=>?_;(replace ho:=aA ho;subst ho);refine ha n A env Bad M F P E s v d i p pos Q Er X c3 c2 hk.2 (aJU hnew) c1 hd fun v s2 k So hg hos r fr frr=>?_;have fr:=fr hnew
  have hl:∃ xs,d=.list xs:=by
   cases d <;> first | exact⟨_,rfl⟩ | exact(nomatch hao)
  (refine e1a1 hl ?_;try clear hl;rintro xs rfl);(refine e2a2 r.unlist ?_;rintro a vs rfl u_);have X2:=X.setL (M':=M.set i 1) (fun j=>hU hk.1) r fr k So;refine h1 rfl _ _ s2 X2 (.kb So k hg hos fun j b h=>?_);unfold dH at h
  split at h
  .rw[aH h];exact .inr (fr a rfl)
  .exact .inl ⟨j,h⟩
 .revert ho
  refine ifs fun hnew ho=>?_;(replace ho:=aA ho;subst ho)
  have hnx:oJ e=true:=by
   cases e <;> first | rfl | exact eR hnew
  refine ha n A env Bad M F P E s v d i p pos Q Er X c3 c2 hk.2 (aJU hnx) c1 hd fun v s2 k So hg hos r fr frr=>?_;have fr:=fr hnx
  have hl:∃ xs,d=.list xs/\xs.all aMz=true:=by
   cases d with
   | list xs=>exact⟨xs,rfl,hao⟩
   | _=>exact eR hao
  (refine e1a2 hl ?_;try clear hl;rintro xs rfl hxp);(refine e2a4 (bL.unlist r) ?_;rintro a vs rfl hl hx na);(refine e1a3 (aMw hx hxp) ?_;rintro rs hv hxr hpl);have hf:=frr hnew a rfl vs hl;rw[hv]at hf;have hn:=aEU hf
  have hfr:∀ b∈a::rs,s.heap.get? b=none:=fun b m=>by
   rcases aM m with e | m
   .subst e;exact fr _ rfl
   .exact(hf.1 _ (List.mem_map.mpr ⟨b,m,rfl⟩) b rfl).1
  have X2:=X.setL2 (M':=M.set i 2) (fun j=>hU hk.1) hl hv hxr hn (fun b m=>by
   rcases aM m with e | m
   .subst e;exact⟨vs,hl⟩
   .exact hpl b m) hfr k So
  refine h1 rfl _ _ s2 X2 (.kb So k hg hos fun j b h=>?_);unfold dH at h
  by_cases e:j=i
  .rw[if_pos e]at h;exact .inr (hfr b h)
  .rw[if_neg e]at h;exact .inl ⟨j,h⟩
 .exact cM ho
end
section
variable {c:cG}
theorem xS:∀ {is:List Nat}{M:List Nat},(∀ i∈is,i < M.length)->∀ j,(j∈is->md (oA M is) j=0)/\(j ∉ is->md (oA M is) j=md M j)
 | [],M,_,j=>⟨fun m=>(nomatch m),fun u_=>rfl⟩
 | i::is,M,h,j=>by
  have ih:=xS (is:=is) (M:=M.set i 0) (fun k hk=>by rw[List.length_set];exact h k (aE _ hk)) j
  have hi:=h i aF;refine⟨fun m=>?_,fun m=>?_⟩
  .by_cases hj:j∈is
   .exact ih.1 hj
   .have e:md (oA M (i::is)) j=md (M.set i 0) j:=ih.2 hj
    rw[e,hU hi]
    rcases aM m with rfl | m
    .rw[if_pos rfl]
    .exact absurd m hj
  .have e:md (oA M (i::is)) j=md (M.set i 0) j:=ih.2 fun q=>m (aE _ q)
   rw[e,hU hi,if_neg fun(q:j=i)=>m (q ▸ aF)]
theorem aAF {t:Expr}{v:Expr}{l:Nat}{env:Env}(h:∃ es k p,t=.Tuple es k p):swapsWithSole [t] v l env=pure false:=by
 (refine e3a1 h ?_;try clear h;rintro es k p rfl);cases v <;> rfl
theorem yZ {u:Expr}(h:uK u=true):∃ x p,u=.Name x p/\(x == ("__debug__":Str))=false:=aV (P:=fun u=>∃ x p,u=.Name x p/\(x == ("__debug__":Str))=false) h fun x p h=>⟨x,p,rfl,nt h⟩
theorem aGk {u:Expr}(h:uK u=true):bM u=true:=aV (P:=fun u=>bM u=true) h fun u_ v_ w_=>rfl
theorem aMe {x y xu xv:Str}{p1 p2 p3 p4 pu pv:Pos}{k0 k2:Nat}{env:Env} :
  swappedStores [.Tuple [.Name x p1,.Name y p2] k0 p3] (.Tuple [.Name xu pu,.Name xv pv] k2 p4) env=(if env.blockKind != .function then pure none else
  let names:=List.filterMap (fun q:Str × Pos=>if env.kindOf q.1 == some .local && q.2.line == p1.line then some q.1 else none) [(x,p1),(y,p2)]
  if names.length != 2 || names.eraseDups.length != names.length then pure none else
  if ((xu == ("__debug__":Str)) && ((xv == ("__debug__":Str)) && true))then(do unsupported "assign.tuple-of-constant-expressions:order-of-the-stores";pure (some names))else pure (some names)):=rfl
theorem aJd {x y xu xv:Str}{p1 p2 p3 p4 pu pv:Pos}{k0 k2:Nat}{env:Env}(hb:env.blockKind=.function)(l1:env.kindOf x=some .local)(l2:env.kindOf y=some .local)(c4:(p2.line == p1.line)=true)(hne:x≠y)(c5:(xu == ("__debug__":Str))=false)(c6:(xv == ("__debug__":Str))=false) :
  swappedStores [.Tuple [.Name x p1,.Name y p2] k0 p3] (.Tuple [.Name xu pu,.Name xv pv] k2 p4) env=pure (some [x,y]):=by
 rw[aMe];simp[hb,l1,l2,c4,hne.symm,c5,c6,List.filterMap,List.eraseDups_cons]
theorem aMq (W:Nat){i j:Nat}{e:X}(he:bG c e):kU c W (.asg2 i j e):=by
 intro n A env Bad M M' F P E E' r s x Q Er X hc ho hx h1 h2;dsimp only[aEr]at hc;refine cC hc fun z1 v pos hc=>?_;refine aL hc fun z2 z3 hc=>?_;refine aV hc fun y p1 hc=>?_;refine aL hc fun z4 z5 hc=>?_;refine aV hc fun z p2 hc=>?_;refine aO hc fun hc=>?_
 ·(refine aKi hc ?_;try clear hc;rintro rfl rfl hij c1 c2 c3)
  simp only[aBG,Option.bind_eq_some_iff,Option.some.injEq,Prod.mk.injEq]at hx;(refine e1a3 hx ?_;try clear hx;rintro d hd rfl rfl);dsimp only[aFc]at ho;revert ho;refine ifs fun hk ho=>?_;replace hk:=aQb hk;(replace ho:=aA ho;subst ho);refine wpAny_Assign_two (he n A env _ _ E s _ d _ Er X.cx c3 hk.1.2 hd fun v' s' st r fr=>?_);rw[hk.2]at r;refine pP X.eok (X.stp st).sto c1 fun h1' tk1 k1 So1=>?_;refine pP (s:={ s' with heap:=h1',toks:=tk1 }) X.eok So1 c2 fun h2' tk2 k2 So2=>?_
  have kp1:jZ (dA Bad F) s'.heap h1':=(X.stp st).sto.kpf k1;have r2:bL (dA Bad F) h2' v' d:=(r.kpf kp1).kpf (So1.kpf k2)
  have G:Got (dA Bad F) [i,j] h2' P (wC (wC P i v') j v') E ((E.set i (.dat d)).set j (.dat d)):=fun l=>⟨fun m=>by
    by_cases e:l=j
    .exact⟨v',d,if_pos e,if_pos e,r2⟩
    .have e2:l=i:=(aM m).resolve_right fun m=>e (aH m)
     exact⟨v',d,(if_neg e).trans (if_pos e2),(if_neg e).trans (if_pos e2),r2⟩,fun m=>by
    have q1:¬ l=i:=fun e=>m (e ▸ aF);have q2:¬ l=j:=fun e=>m (e ▸ aE _ aF);exact⟨(if_neg q2).trans (if_neg q1),(if_neg q2).trans (if_neg q1)⟩⟩
  have X2:=(X.stp st).set (s':={ s' with heap:=h2',toks:=tk2 }) (M':=oA M [i,j]) (xS (aDy (P:=fun a=>a < M.length) hk.1.1.1 hk.1.1.2)) (fun a h=>h) (k1.trans k2) So2 G
  exact h1 rfl _ _ _ X2 ((cF.of st).trans (.kb So2 (k1.trans k2) (.refl _) rfl fun j a h=>.inl ⟨j,(fA h).1⟩))
set_option tactic.hygienic true in
theorem aDA {env:Env}{x:Str}(h:aBv env.scope x=true):env.kindOf x=some .local:=by
 unfold aBv at h
 split at h
 .rename_i e;exact e
 .exact eR h
theorem aL5 {prog:Program}{w:World}{A:Around}{Er:Value->Shared->Prop}{s:Shared}{v1 v2:Value}{Q:List Value->Shared->Prop}(hh:A.handled=none) 
  (h:∀ h',bY s.heap h'->Q [v1,v2] { s with heap:=h' }):wpAny (model prog w) A (unpackItems (.ref s.heap.objs.size) 2 none) Q Er { s with heap:=s.heap.push { cls:=.type "tuple",data:=.seq [v1,v2].toArray } }:=by
 have hT:(s.heap.push { cls:=.type "tuple",data:=.seq [v1,v2].toArray }).IsTuple s.heap.objs.size #[v1,v2]:=⟨_,Heap.get?_push_size _ rfl,rfl,0,rfl⟩;exact wpAny_unpackItems_tuple (items:=#[v1,v2]) (s:={ s with heap:=s.heap.push { cls:=.type "tuple",data:=.seq [v1,v2].toArray } }) hh hT fun h' hx'=>h h' fun b o e=>(bY.fresh hx') b o (Heap.get?_push_of_some _ e)
inductive aN7 (sc:Scope)(i j:Nat)(a b:Ck):Stmt->Prop
 | mk (y:Str) (p1:Pos) (z:Str) (p2:Pos) (k0:Nat) (p3:Pos) (u v:Expr) (k2:Nat) (p4 pos:Pos):(decide (y=nm i) && decide (z=nm j) && decide (i≠j) && aBv sc y && aBv sc z && (p1.line == p1.line) && (p2.line == p1.line) && uK u && uK v && a u && b v)=true->aN7 sc i j a b (.Assign [.Tuple [.Name y p1,.Name z p2] k0 p3] (.Tuple [u,v] k2 p4) pos)
theorem aKx {sc:Scope}{i j:Nat}{a b:Ck}{x:Stmt}(hc:aJn sc i j a b x=true):aN7 sc i j a b x:=by
 refine cC hc fun z1 z2 pos hc=>?_;refine aL hc fun z3 z4 hc=>?_;refine eX hc fun z5 k0 p3 hc=>?_;refine aL hc fun z6 z7 hc=>?_;refine aV hc fun y p1 hc=>?_;refine aL hc fun z8 z9 hc=>?_;refine aV hc fun z p2 hc=>?_;refine aO hc fun hc=>?_;refine aO hc fun hc=>?_;refine eX hc fun z10 k2 p4 hc=>?_;refine aL hc fun u z11 hc=>?_;refine aL hc fun v z12 hc=>?_;refine aO hc fun hc=>?_;exact .mk _ _ _ _ _ _ _ _ _ _ _ hc
theorem aMi (W:Nat){i j:Nat}{a b:X}(ha:bG c a)(hb:bG c b):kU c W (.swap i j a b):=by
 intro n A env Bad M M' F P E E' r s x Q Er X hc ho hx h1 h2;dsimp only[aEj]at hc;have hv:=aKx hc;clear hc;(refine cA fun G_ hG_=>?_;rcases hv with ⟨y,p1,z,p2,k0,p3,u,v,k2,p4,pos,hc⟩;all_goals (refine hG_ ?_;clear hG_ G_))
 ·(refine aAJ hc ?_;try clear hc;rintro rfl rfl hij c1 c2 c3 c4 c5 c6 c7 c8)
  simp only[aBB,Option.bind_eq_some_iff,Option.some.injEq,Prod.mk.injEq]at hx;(refine e1a2 hx ?_;try clear hx;rintro d1 hd1 hz_;obtain ⟨d2,hd2,rfl,rfl⟩:=hz_);dsimp only[aE4]at ho;revert ho;refine ifs fun hk ho=>?_;(refine aKj hk ?_;try clear hk;rintro w1 w2 w3 w4 w5 w6);(replace ho:=aA ho;subst ho);have l1:=aDA c1;have l2:=aDA c2;have o1:bQ env.scope (nm i)=true:=by unfold bQ;rw[show env.scope.names.lookup (nm i)=_ from l1]
  have o2:bQ env.scope (nm j)=true:=by unfold bQ;rw[show env.scope.names.lookup (nm j)=_ from l2]
  have hne:nm i≠nm j:=fun e=>hij (uE e)
  have hw:swappedStores [.Tuple [.Name (nm i) p1,.Name (nm j) p2] k0 p3] (.Tuple [u,v] k2 p4) env=pure (some [nm i,nm j]):=by
   (refine e2a2 (yZ c5) ?_;rintro xu pu rfl c5);(refine e2a2 (yZ c6) ?_;rintro xv pv rfl c6);exact aJd (by unfold Env.blockKind;rw[X.eok.kind];rfl) l1 l2 c4 hne c5 c6
  have n1:=aGk c5;have n2:=aGk c6;refine Assign_Tuple_swapped (wpAny_Tuple_spliced ?_) (aAF ⟨_,_,_,rfl⟩) hw;rw[aEN n1 n2];refine Calls.spliced_cons (ha n A env _ _ E s _ d1 _ Er X.cx c7 w3 hd1 fun v1 s1 st1 r1 u_=>Calls.spliced_cons (hb n A env _ _ E s1 _ d2 _ Er (X.stp st1).cx c8 w4 hd2 fun v2 s2 st2 r2 u_=>Calls.spliced_nil ⟨by show 2<=_;rw[sizeLine_eq];decide,?_⟩))
  rw[w5]at r1;rw[w6]at r2;show wpAny _ A (unpackItems (.ref s2.heap.objs.size) 2 none) _ Er { s2 with heap:=s2.heap.push { cls:=.type "tuple",data:=.seq [v1,v2].toArray } }
  with_reducible refine aL5 X.room.hand fun h' hk'=>?_
  have st3:cS s2 { s2 with heap:=h' }:=.heap hk'
  have X3:=X.stp ((st1.trans st2).trans st3);have r1':=(r1.keep st2.keep).keep hk';have r2':=r2.keep hk';show wpAny _ A (do holding [v1] (bindName env (nm j) v2);do holding [] (bindName env (nm i) v1);pure ()) _ _ _
  refine wpAny_bind (wpAny_holding (wpAny_bindName (fZ X.eok X3.sto o2 fun h1' tk1 k1 So1=>?_)));refine wpAny_bind (wpAny_holding (wpAny_bindName (fZ (s:={ s2 with heap:=h1',toks:=tk1 }) X.eok So1 o1 fun h2' tk2 k2 So2=>?_)))
  have kp1:jZ (dA Bad F) h' h1':=X3.sto.kpf k1;have q1:bL (dA Bad F) h2' v1 d1:=(r1'.kpf kp1).kpf (So1.kpf k2);have q2:bL (dA Bad F) h2' v2 d2:=(r2'.kpf kp1).kpf (So1.kpf k2)
  have G:Got (dA Bad F) [j,i] h2' P (wC (wC P j v2) i v1) E ((E.set j (.dat d2)).set i (.dat d1)):=fun l=>⟨fun m=>by
    by_cases e:l=i
    .exact⟨v1,d1,if_pos e,if_pos e,q1⟩
    .have e2:l=j:=(aM m).resolve_right fun m=>e (aH m)
     exact⟨v2,d2,(if_neg e).trans (if_pos e2),(if_neg e).trans (if_pos e2),q2⟩,fun m=>by
    have e1:¬ l=j:=fun e=>m (e ▸ aF);have e2:¬ l=i:=fun e=>m (e ▸ aE _ aF);exact⟨(if_neg e2).trans (if_neg e1),(if_neg e2).trans (if_neg e1)⟩⟩
  have X4:=X3.set (s':={ s2 with heap:=h2',toks:=tk2 }) (M':=oA M [j,i]) (xS (aDy (P:=fun a=>a < M.length) w2 w1)) (fun a h=>h) (k1.trans k2) So2 G
  exact wpAny_pure (h1 rfl _ _ _ X4 ((cF.of ((st1.trans st2).trans st3)).trans (.kb So2 (k1.trans k2) (.refl _) rfl fun j a h=>.inl ⟨j,(fA h).1⟩)))
end
section
variable {prog:Program} {w:World} {A:Around} {Er:Value->Shared->Prop} {s:Shared}
theorem mR (f:Array Value->Array Value)(its:Array Value)(n:Nat):∃ m,Obj.mapSeq f { cls:=.type "list",data:=.seq its n }={ cls:=.type "list",data:=.seq (f its) m }:=by
 exact⟨_,rfl⟩
theorem qQ {l:Addr}{items:Array Value}{k:Int}{t:Tok}{v:Value}{Q:Unit->Shared->Prop}(hl:s.heap.PlainList l items)
  (h0:0<=k) (hfit:k < 2 ^ 63) (hn:k < items.size)
  (hQ:∀ h',h'.PlainList l (items.setIfInBounds k.toNat v)->Heap.SameBut l s.heap h'->Q () { s with heap:=h' }) :
  wpAny (model prog w) A (setItem (.ref l) (.int k t) v) Q Er s:=by
 (refine e1a1 hl ?_;try clear hl;rintro n0 ho);have hl':s.heap.IsList l items:=⟨_,ho,rfl,n0,rfl⟩;unfold setItem
 try with_reducible refine wpAny_holding ?_
 first | refine wpAny_bind (wpAny_pure ?_) | skip
 refine wpAny_bind (wpAny_sequenceKey hl'.typeIs (by decide) ?_)
 refine wpAny_bind (wpAny_callSpecial?_slot (name:=Str.ofString "__setitem__") hl'.typeIs slot_list_setitem
  (wpAny_call_entry slot_list_setitem hl'.typeIs entry_list_setitem ?_ (args_list_setitem _ _ _)))
 show wpAny _ _ (Builtin.List.listSubscript? (.int k t) >>= _) _ _ s;refine wpAny_bind (wpAny_listSubscript_int (fitsIndex_of h0 hfit) ?_);clear hfit;(refine e1a1 (Int.eq_ofNat_of_zero_le h0) ?_;rintro j rfl);have hj:j < items.size:=by lia
 have hx':items[j]?=some items[j]:=Array.getElem?_eq_getElem hj;show wpAny _ _ ((seqItemAt l j >>= fun r=>pure (r.map (j,·))) >>= _) _ _ s;refine wpAny_bind (wpAny_bind (wpAny_seqItemAt ho rfl (wpAny_pure ?_)));rw[hx'];show wpAny _ _ (setSeqItemAt l j v >>= _) _ _ s
 have hfin:(s.heap.update l (Obj.mapSeq (·.setIfInBounds j v))).PlainList l (items.setIfInBounds j v):=by
  (refine e1a1 (mR (·.setIfInBounds j v) items n0) ?_;rintro m hm);exact⟨m,by rw[<-hm];exact Heap.get?_update_self _ ho (by rw[hm];rfl)⟩
 refine wpAny_bind (wpAny_setSeqItemAt ho rfl ?_)
 first
  | exact wpAny_bind (wpAny_pure (wpAny_pure ⟨.none,rfl,wpAny_pure (hQ _ hfin (Heap.SameBut.update ..))⟩))
  | exact wpAny_pure ⟨.none,rfl,wpAny_pure (hQ _ hfin (Heap.SameBut.update ..))⟩
end
section
variable {c:cG}
set_option tactic.hygienic true in
theorem rS {E:AE}{i:Nat}{d:PyData}(h:aI E i=some d):E i=some (.dat d):=by
 unfold aI at h
 split at h
 .rename_i e;(replace h:=(aA h).symm;subst h);exact e
 .exact cM h
set_option tactic.hygienic true in
theorem aOx (W:Nat){i:Nat}{op:Bop}{e:X}(he:bG c e):kU c W (.aug i op e):=by
 intro n A env Bad M M' F P E E' r s x Q Er X hc ho hx h1 h2;dsimp only[aFQ]at hc;refine uV hc fun z1 o v pos hc=>?_;refine aV hc fun y p hc=>?_
 ·(refine aKm hc ?_;try clear hc;rintro rfl c1 c2 c3 rfl c4)
  revert hx;refine cE fun a ha=>cE fun b hb hx=>?_;revert hx;refine ifs fun hint hx=>?_;simp only[Option.bind_eq_some_iff,Option.some.injEq,Prod.mk.injEq]at hx;(refine e1a3 hx ?_;try clear hx;rintro z hz rfl rfl);dsimp only[aHL]at ho;revert ho;refine ifs fun hk ho=>?_;(refine aGs hk ?_;try clear hk;rintro hi k2 k3);(replace ho:=aA ho;subst ho);(refine e1a2 (X.vars i _ (rS ha)) ?_;rintro va q1 q2);(refine e1a2 X.sto.ns ?_;rintro m hm hl);have hq0:∃ v0,a=.int v0:=by revert hint;generalize a=y0;intro hint;cases y0 <;> first | exact⟨_,rfl⟩ | exact cM hint | exact eR hint | cases hint
  (refine e1a1 hq0 ?_;try clear hq0;rintro ia rfl)
  have ra:bL (dA Bad F) s.heap va (.int ia):=by
   rw[k3]at q2;generalize F i=fs at q2
   cases q2 with
   | flat r=>exact r
  (refine e1a1 ra.int ?_;rintro ta rfl);refine wpAny_AugAssign_Name (aNT X.eok hm (hl i _ q1) c2 (he n A env _ _ E s v b _ Er X.cx c4 k2 hb fun v' s' st r fr=>?_))
  have key:∀ (iz:Int) (tz:Tok) (tk:Nat),z=.int iz->wpAny (model c.prog c.w) A (storeName env (nm i) (.int iz tz)) (fun _=>Q .next) Er { s' with toks:=tk }:=by
   rintro iz tz tk rfl;refine fZ X.eok (X.stp st).sto c1 fun h' tk' k So=>?_
   have G:Got (dA Bad F) [i] h' P (wC P i (.int iz tz)) E (E.set i (.dat (.int iz))):=fun j=>⟨fun m=>by
    rw[aH m]
    exact⟨_,_,if_pos rfl,if_pos rfl,.mkInt⟩,fun m=>by
    have hj:¬ j=i:=fun e=>m (e ▸ List.mem_singleton.mpr rfl);exact⟨if_neg hj,if_neg hj⟩⟩
   have X2:=(X.stp st).set (s':={ s' with heap:=h',toks:=tk' }) (M':=M) (fun j=>⟨fun m=>by rw[aH m];exact k3,fun _=>rfl⟩) (fun a h=>h) k So G
   exact h1 rfl _ _ _ X2 ((cF.of st).trans (.kb So k (.refl _) rfl fun j a h=>.inl ⟨j,(fA h).1⟩))
  cases op with
  | add =>
   obtain ⟨ib,rfl,rfl⟩:∃ ib,b=.int ib/\z=.int (ia+ib):=jI (fun ib e h=>⟨ib,e,(aA h).symm⟩) cM (show oI b (fun b=>some (.int (ia+b))) none=some z from hz);(refine e1a1 r.any.int ?_;rintro tb rfl);show wpAny _ A (inplaceOp .Add _ _) _ Er s'
   with_reducible refine PySem.P.iadd_int ?_
   exact key _ _ _ rfl
  | sub =>
   obtain ⟨ib,rfl,rfl⟩:∃ ib,b=.int ib/\z=.int (ia - ib):=jI (fun ib e h=>⟨ib,e,(aA h).symm⟩) cM (show oI b (fun b=>some (.int (ia - b))) none=some z from hz);(refine e1a1 r.any.int ?_;rintro tb rfl);show wpAny _ A (inplaceOp .Sub _ _) _ Er s'
   with_reducible refine PySem.P.isub_int ?_
   exact key _ _ _ rfl
  | _=>exact eR c3
theorem aCc {c:cG}{L:Addr}{Own:Addr->Prop}{s:Shared}{fs:List Addr}{v:Value}{xs:List PyData}(r:jV c L Own s 1 fs v (.dat (.list xs))):∃ a vs,v=.ref a/\fs=[a]/\s.heap.PlainList a vs/\bP (bL Own s.heap) vs.toList xs:=by
 cases r with
 | one hl hx=>exact⟨_,_,rfl,rfl,hl,hx⟩
theorem aKh {F:Nat->List Addr}{Bad:Addr->Prop}{s:Shared}{i:Nat}{r:Addr}{ws:Array Value}{h':Heap}(mem:r∈F i)(hl:s.heap.PlainList r ws)(hs:Heap.SameBut r s.heap h'):jZ (dA Bad F) s.heap h':=fun b o us nn hb' hd hc'=>(hs.2 b fun q=>by
 subst q;(refine e1a1 hl ?_;rintro n1 e1)
 rcases hc' with hc' | hc'
 .rw[e1]at hb';(replace hb':=(aA hb').symm;subst hb');exact absurd hc' (by simp)
 .exact hc' (.inr ⟨i,mem⟩)).trans hb'
theorem aCb {c:cG}{n:Nat}{A:Around}{env:Env}{Bad:Addr->Prop}{M:List Nat}{F:Nat->List Addr}{P:Nat->Option Value}{E:AE}{s:Shared}{i:Nat}{a:Addr}{xs':List PyData}{vs vs':Array Value}{h':Heap}(X:SX c n A env Bad M F P E s)(g1:md M i=1)(q1:P i=some (.ref a))(hF:F i=[a])(hl:s.heap.PlainList a vs)
  (hs:Heap.SameBut a s.heap h') (hl':h'.PlainList a vs') (hx':jZ (dA Bad F) s.heap h'->bP (bL (dA Bad F) h') vs'.toList xs') :
  SX c n A env Bad M F P (E.set i (.dat (.list xs'))) { s with heap:=h' }/\cF env F s F { s with heap:=h' }:=by
 have mem:a∈F i:=hF ▸ aF;exact⟨X.mut (s':={ s with heap:=h' }) mem hs ⟨_,hl'⟩ ⟨.ref a,q1,by rw[g1,hF];exact .one hl' (hx' (aKh mem hl hs))⟩,.mut mem hs ⟨_,hl'⟩ (.refl _) rfl⟩
theorem eH {n:Nat}{A:Around}{env:Env}{Bad:Addr->Prop}{M:List Nat}{F:Nat->List Addr}{P:Nat->Option Value}{E:AE}{s:Shared}{i:Nat}{v:Value}{p:Pos}{Q:Value->Shared->Prop}{Er:Value->Shared->Prop}
  (X:SX c n A env Bad M F P E s) (hp:P i=some v) (h2:bW (nm i)=true) (h:Q v s):wpAny (model c.prog c.w) A (eval (.Name (nm i) p) env) Q Er s:=by
 (refine e1a2 X.sto.ns ?_;rintro m hm hl);exact aBH X.eok hm (hl i v hp) h2 h
theorem pQ {v o k:Expr}{p:Pos}{l:Nat}{env:Env}:swapsWith v (some (.Subscript o k p)) l env=pure false:=by cases v <;> rfl
theorem aMk (W:Nat){i:Nat}{k e:X}(hk:bG c k)(he:bG c e):kU c W (.setI i k e):=by
 intro n A env Bad M M' F P E E' r s x Q Er X hc ho hx h1 h2;dsimp only[aEl]at hc;refine cC hc fun z1 v pos hc=>?_;refine aL hc fun z2 z3 hc=>?_;refine cW hc fun o kx p hc=>?_;refine aO hc fun hc=>?_
 ·(refine lM hc ?_;try clear hc;rintro c1 c2 c3 c4)
  (refine e1a3 (fG c1) ?_;rintro p1 rfl u_ c5);simp only[aBD,Option.bind_eq_some_iff,Option.some.injEq,Prod.mk.injEq]at hx;(refine e1a2 hx ?_;try clear hx;rintro z hz hz_;obtain ⟨xs0,hxs,kd,hkd,xs',hput,rfl,rfl⟩:=hz_);dsimp only[aE6]at ho;revert ho;refine ifs fun hh ho=>?_;(refine aKl hh ?_;try clear hh;rintro g1 g2 g3 g4);(replace ho:=aA ho;subst ho);(refine e1a2 (X.vars i _ (rS hxs)) ?_;rintro v0 q1 q2);have hq0:∃ v0,xs0=.list v0:=by revert hput;generalize xs0=y0;intro hput;cases y0 <;> first | exact⟨_,rfl⟩ | exact cM hput | exact eR hput | cases hput
  (refine e1a1 hq0 ?_;try clear hq0;rintro xs rfl);revert hput;refine cE fun ik hik hput=>?_;revert hput;refine ifs fun hb hput=>?_;(replace hput:=(aA hput).symm;subst hput);have hq0:=dN hik;subst hq0;refine wpAny_Assign_Subscript (he n A env _ _ E s v z _ Er X.cx c4 g3 hz fun v1 s1 st1 r1 u_=>?_) pQ;rw[g4]at r1;have X1:=X.stp st1;refine eH X1 q1 c5 (hk n A env _ _ E s1 kx _ _ Er X1.cx c3 g2 hkd fun v2 s2 st2 r2 u_=>?_);(refine e1a1 r2.any.int ?_;rintro t2 rfl);have X2:=X1.stp st2;(refine e1a2 (X2.vars i _ (rS hxs)) ?_;rintro v0' q1' q2');rw[q1]at q1';(replace q1':=(aA q1').symm;subst q1');rw[g1]at q2';(refine e2a4 (aCc q2') ?_;rintro a vs rfl hF hl hx);have elen:=hx.length;rw[Array.length_toList]at elen;have r1':=r1.keep st2.keep;have hfit:ik < 2 ^ 63:=Int.lt_trans hb.2.1 (aHT hb.2.2);refine qQ hl hb.1 hfit (by rw[elen];exact hb.2.1) fun h' hl' hs'=>?_
  have X3:=aCb X2 g1 q1 hF hl hs' hl' fun kp=>by
   rw[Array.toList_setIfInBounds];exact(hx.mono fun u_ u_ q=>q.kpf kp).set ik.toNat (r1'.kpf kp)
  exact h1 rfl _ _ _ X3.1 ((cF.of (st1.trans st2)).trans X3.2)
theorem aFo {k d z:PyData}(h:aDS k d=some z):∃ xs i,d=.list xs/\k=.int i/\xs.length<=lim/\0<=i/\i < xs.length/\xs[i.toNat]?=some z:=by
 cases d with
 | list xs =>
  revert h;refine ifs fun hl=>?_;refine cE fun i hi=>?_;refine ifs fun hb hz=>?_;exact⟨xs,i,rfl,dN hi,hl,hb.1,hb.2,hz⟩
 | _=>exact cM h
theorem xZ {i:Int}{xs:List PyData}{v z:PyData}(h:oD (.int i) v (.list xs)=some z):z=.list (xs.set i.toNat v):=by
 have h:(if 0<=i/\i < xs.length/\xs.length<=lim then some (PyData.list (xs.set i.toNat v))else none)=some z:=h
 revert h;refine ifs fun _ h=>?_;exact(aA h).symm
end
section
variable {c:cG}
theorem iN {env:Env}(K:fB env):interactive env=false:=by
 unfold interactive;rw[K.kind];rfl
theorem aOz (C:bE c)(W:Nat){i:Nat}{e:X}(he:bG c e):kU c W (.app i e):=by
 intro n A env Bad M M' F P E E' r s x Q Er X hc ho hx h1 h2;dsimp only[aAn]at hc;refine fL hc fun v pos hc=>?_
 ·(refine e4a6 (nA hc) ?_;rintro o z ap q rfl c1 c2 c3 c4 c5)
  (refine e1a3 (fG c4) ?_;rintro p1 rfl u_ c6);revert hx;refine cE fun l0 hl0=>cE fun xs hxs=>cE fun d hd hx=>?_;revert hx;refine ifs fun hsz hx=>?_;simp only[Option.some.injEq,Prod.mk.injEq]at hx;obtain ⟨rfl,rfl⟩:=hx;dsimp only[aHN]at ho;revert ho;refine ifs fun hh ho=>?_;(refine aGs hh ?_;try clear hh;rintro g1 g2 g3);(replace ho:=aA ho;subst ho);have hq0:∃ v0,l0=.list v0:=by revert hxs;generalize l0=y0;intro hxs;cases y0 <;> first | exact⟨_,rfl⟩ | exact cM hxs | exact eR hxs | cases hxs
  (refine e1a1 hq0 ?_;try clear hq0;rintro xs0 rfl);have hxs:some xs0=some xs:=hxs;(replace hxs:=(aA hxs).symm;subst hxs);(refine e1a2 (X.vars i _ (rS hl0)) ?_;rintro v0 q1 q2);rw[g1]at q2;(refine e2a4 (aCc q2) ?_;rintro a vs rfl hF hl hx);refine wpAny_Expr ?_ (iN X.eok) rfl;refine Call_method1 (eA c1) (jW c3) c2 (eH X q1 c6 ?_);refine⟨"list",_,PySem.F.plainAttrs_list,PySem.F.slot_list_append,PySem.F.type_list_append,hl.isList.typeIs,(fun b eb=>?_),?_⟩
  .cases eb
   (refine e1a1 hl ?_;try clear hl;rintro nn e0);exact⟨_,e0,rfl⟩
  .refine Calls.callWith_builtin rfl (Calls.evalArgs_plain (Calls.spliced_cons (he n A env _ _ E s z d _ Er X.cx c5 g2 hd fun v1 s1 st1 r1 u_=>Calls.spliced_nil ?_)))
   rw[g3]at r1;have X1:=X.stp st1;have hl1:=PlainList.keep st1.keep hl;have hx1:=hx.mono fun u_ u_ q=>bL.keep st1.keep q;have elen:=hx.length;rw[Array.length_toList]at elen;refine wpAny_list_append_plain hl1 (fun h' hl' hs'=>?_) (gD (elen ▸ hsz))
   have X3:=aCb X1 g1 q1 hF hl1 hs' hl' fun kp=>by
    rw[Array.toList_push];exact(hx1.mono fun u_ u_ q=>q.kpf kp).append (.cons (r1.kpf kp) .nil)
   exact h1 rfl _ _ _ X3.1 ((cF.of st1).trans X3.2)
theorem aBp {d:PyData}{xs:List PyData}(h:iT d=some xs):d=.list xs:=by
 cases d with
 | list ys=>exact congrArg PyData.list (aA h)
 | _=>exact cM h
theorem aOw (C:bE c)(W:Nat){i:Nat}{e:X}(he:bG c e):kU c W (.ext i e):=by
 intro n A env Bad M M' F P E E' r s x Q Er X hc ho hx h1 h2;dsimp only[aFP]at hc;refine fL hc fun v pos hc=>?_;(refine e4a6 (nA hc) ?_;rintro o z ap q rfl c1 c2 c3 c4 c5);(refine e1a3 (fG c4) ?_;rintro p1 rfl u_ c6);dsimp only[aDW]at hx;revert hx;refine cE fun l0 hl0=>cE fun xs hxs=>cE fun d hd=>cE fun ys hys=>ifs fun hsz hx=>?_;have hx:=Prod.mk.inj (aA hx);have hxs:=aBp hxs;have hys:=aBp hys;subst hxs hys;dsimp only[aHK]at ho;revert ho;refine ifs fun hh ho=>?_;(refine aGs hh ?_;try clear hh;rintro g1 g2 g3);(replace ho:=aA ho;subst ho);(refine e1a2 (X.vars i _ (rS hl0)) ?_;rintro v0 q1 q2);rw[g1]at q2;(refine e2a4 (aCc q2) ?_;rintro a vs rfl hF hl hx0);refine wpAny_Expr ?_ (iN X.eok) rfl;refine Call_method1 (eA c1) (jW c3) c2 (eH X q1 c6 ?_);refine⟨"list",_,PySem.F.plainAttrs_list,PySem.F.slot_list_extend,PySem.F.type_list_extend,hl.isList.typeIs,(fun b eb=>?_),?_⟩
 .cases eb
  (refine e1a1 hl ?_;try clear hl;rintro nn e0);exact⟨_,e0,rfl⟩
 .refine Calls.callWith_builtin rfl (Calls.evalArgs_plain (Calls.spliced_cons (he n A env _ _ E s z _ _ Er X.cx c5 g2 hd fun v1 s1 st1 r1 u_=>Calls.spliced_nil ?_)))
  rw[g3]at r1;(refine e2a4 (bL.unlist r1) ?_;rintro b ws rfl hm hy u_);have X1:=X.stp st1;have hl1:=PlainList.keep st1.keep hl;have hx1:=hx0.mono fun u_ u_ q=>bL.keep st1.keep q;have elen:=hx0.length;rw[Array.length_toList]at elen;have flen:=hy.length;rw[Array.length_toList]at flen;have hsz2:vs.size+ws.size<=sizeLine:=gD (by rw[elen,flen];exact hsz)
  (refine e1a1 hl1 ?_;rintro n1 e1);(refine e1a1 hm ?_;rintro n2 e2);refine call_meets PySem.F.slot_list_extend ⟨_,e1,rfl⟩ PySem.F.entry_list_extend (PySem.F.args_list_extend_2 _ _) (PySem.AutoSeq1.list_extend_list_list_0 a vs n1 b ws n2 (extend_door hsz2) (aP (Nat.le_add_right _ _) hsz2) (Nat.le_succ_of_le hsz2)) ⟨e1,e2,?_⟩
  have hl':(s1.heap.update a (Obj.mapSeq fun x=>x++ws)).PlainList a (vs++ws):=by
   (refine e1a1 (mR (fun x=>x++ws) vs n1) ?_;rintro m hm);exact⟨m,by rw[<-hm];exact Heap.get?_update_self _ e1 (by rw[hm];rfl)⟩
  have hs':Heap.SameBut a s1.heap (s1.heap.update a (Obj.mapSeq fun x=>x++ws)):=Heap.SameBut.update ..;generalize s1.heap.update a (Obj.mapSeq fun x=>x++ws)=h' at hl' hs'
  have X3:=aCb X1 g1 q1 hF hl1 hs' hl' fun kp=>by
   rw[Array.toList_append];exact(hx1.mono fun u_ u_ q=>q.kpf kp).append (hy.mono fun u_ u_ q=>q.kpf kp)
  exact h1 hx.2.symm _ _ _ (hx.1 ▸ X3.1) ((cF.of st1).trans X3.2)
theorem aJq {t it:Ck}{b:List Stmt->Bool}{x:Stmt}(h:aOI t it b x=true):∃ tg e y pos,x=.For tg e y [] pos/\gE e=true/\t tg=true/\it e=true/\b y=true:=by
 refine nI h fun tg e y z1 pos h=>?_;refine aO h fun h=>?_
 .exact lM h fun h_0 h_1 h_2 h_3=>⟨_,_,_,_,rfl,h_0,h_1,h_2,h_3⟩
theorem aIV {M:List Nat}{is:List Nat}(h:aIW M is=true):∀ j,(j∈is->md M j=0)/\(j ∉ is->md M j=md M j):=fun j =>
 ⟨fun m=>by have:=aJ h j m;simpa [md] using this,fun u_=>rfl⟩
structure LI (c:cG)(n:Nat)(A:Around)(env:Env)(Bad:Addr->Prop)(M:List Nat)(F:Nat->List Addr)(P1:Nat->Option Value)(F1:Nat->List Addr)(E1:AE)(s s0:Shared)(fp wr:List Addr)(OX:Addr->Prop)(s1:Shared):Prop where
 x:SX c n A env Bad M F1 P1 E1 s1
 st:cF env F s F1 s1
 kp:jZ OX s0.heap s1.heap
 nf:∀ b∈fp,∀ i,b ∉ F1 i
 own:∀ i a,a∈F1 i->(∃ j,a∈F j)\/s0.heap.get? a=none
 al:∀ b o,b ∉ wr->s0.heap.get? b=some o->∃ o',s1.heap.get? b=some o'
 gz:s0.gens.size<=s1.gens.size
theorem LI.mv {n:Nat}{A:Around}{env:Env}{Bad:Addr->Prop}{M:List Nat}{F F1:Nat->List Addr}{P P1:Nat->Option Value}{E E1:AE}{s s0 s1 s2:Shared}{fp wr:List Addr}{gs:List Nat}{OX:Addr->Prop}{k:Nat}{Own:Addr->Prop}
  (L:LI c n A env Bad M F P1 F1 E1 s s0 fp wr OX s1) (X:SX c n A env Bad M F P E s) (hwr:∀ b∈wr,b∈fp/\s.heap.get? b=none)
  (hfp:∀ b∈fp,(∃ o,s0.heap.get? b=some o)/\(s.heap.get? b=none\/∃ o vs n,s.heap.get? b=some o/\o.data=.seq vs n/\(o.cls=.type "tuple"\/(k=0->¬ Own b)))) (hgs:∀ g∈gs,s.gens.size<=g/\g < s0.gens.size) (st0:cS s s0) (m:Mv (fun b=>∃ o,s0.heap.get? b=some o) wr gs s1 s2) :
  LI c n A env Bad M F P1 F1 E1 s s0 fp wr OX s2:=by
 have dead:∀ b o,s.heap.get? b=some o->b ∉ wr:=fun b o e q=>by rw[(hwr b q).2]at e;exact cM e
 have kseq:∀ OY:Addr->Prop,jZ OY s1.heap s2.heap:=fun OY b o vs n hb hd u_=>m.seq b o vs n hd hb;have nsal:∀ {a f},s.heap.Ns a f->∃ o,s.heap.get? a=some o:=fun⟨o,_,_,ho,_⟩=>⟨o,ho⟩;(refine e1a2 X.sto.ns ?_;rintro mm hmm u_)
 refine⟨⟨L.x.eok,L.x.room,L.x.base.new fun b o e0 e=>m.keep b o (dead b o (X.base.k0 b o e0)) (.inl ⟨o,st0.keep b o (X.base.k0 b o e0)⟩) e,fun x a h=>?_,?_,fun i pv e=>?_,fun i a h=>?_,fun a h=>?_,L.x.nb,L.x.dj,L.x.nl,L.x.nc,L.x.nF⟩,
  ⟨fun b o h1 h2 h3 e=>m.keep b o (dead b o e) (.inl ⟨o,st0.keep b o e⟩) (L.st.keep b o h1 h2 h3 e),⟨aP L.st.gk.size m.size,fun i hi=>?_,fun hb=>m.bare (L.st.gk.bare hb)⟩,m.os.trans L.st.os,L.st.own,fun b o e=>?_⟩,L.kp.trans (kseq _),L.nf,L.own,fun b o hb e=>?_,aP L.gz m.size⟩
 ·(refine e2a2 (L.x.cells x a h) ?_;rintro o ob ho hd)
  (refine e2a2 (X.cells x a h) ?_;rintro o0 ob0 ho0 u_);exact⟨o,ob,m.keep a ob (dead a ob0 ho0) (.inl ⟨ob0,st0.keep a ob0 ho0⟩) ho,hd⟩
 ·(refine e1a1 (nsal hmm) ?_;rintro ol hol)
  refine L.x.sto.at (fun o e=>m.keep _ o (dead _ ol hol) (.inl ⟨ol,st0.keep _ ol hol⟩) e) fun x a u_ h o e=>?_;(refine e2a2 (X.cells x a h) ?_;rintro o0 ob0 ho0 u_);exact m.keep a o (dead a ob0 ho0) (.inl ⟨ob0,st0.keep a ob0 ho0⟩) e
 ·(refine e1a2 (L.x.vars i pv e) ?_;rintro v q1 q2)
  exact⟨v,q1,q2.moveD (kseq _) (fun a u_ o vs n hd e=>m.seq a o vs n hd e) fun a o hd e=>m.hd a o (hd.imp id fun h=>h.2) e⟩
 ·(refine e2a1 (L.x.pl i a h) ?_;rintro vs nn e)
  exact⟨vs,nn,m.seq a _ _ _ rfl e⟩
 ·(refine e1a1 (L.x.bad a h) ?_;rintro o ho)
  (refine e1a1 (X.bad a h) ?_;rintro o0 ho0);exact⟨o,m.keep a o (dead a o0 ho0) (.inl ⟨o0,st0.keep a o0 ho0⟩) ho⟩
 .rw[m.gold i (Nat.lt_of_lt_of_le hi L.st.gk.size) fun q=>absurd (hgs i q).1 (Nat.not_le.mpr hi)]
  exact L.st.gk.old i hi
 ·(refine e1a1 (L.st.alive b o e) ?_;rintro o' ho')
  exact⟨o',m.keep b o' (dead b o e) (.inl ⟨o,st0.keep b o e⟩) ho'⟩
 ·(refine e1a1 (L.al b o hb e) ?_;rintro o' ho')
  exact⟨o',m.keep b o' hb (.inl ⟨o,e⟩) ho'⟩
theorem cF.kpf {n:Nat}{A:Around}{env:Env}{Bad:Addr->Prop}{M:List Nat}{F F':Nat->List Addr}{P:Nat->Option Value}{E:AE}{s s':Shared}{OX:Addr->Prop}(X:SX c n A env Bad M F P E s)(S:cF env F s F' s')(h:∀ a,dA Bad F a->OX a):jZ OX s.heap s'.heap:=by
 intro b o vs n hb hd hc;refine S.keep b o ?_ (fun x hx=>?_) (fun i hi=>?_) hb
 .rintro rfl
  (refine e1a2 X.sto.ns ?_;rintro m ⟨o',u_,u_,ho',hd',u_⟩ u_);rw[hb]at ho';(replace ho':=(aA ho').symm;subst ho');rw[hd]at hd';cases hd'
 ·(refine e2a2 (X.cells x b hx) ?_;rintro o' ob ho' hd')
  rw[hb]at ho';(replace ho':=(aA ho').symm;subst ho');rw[hd]at hd';cases hd'
 .rcases hc with hc | hc
  ·(refine e2a1 (X.pl i b hi) ?_;rintro ws nn e)
   rw[hb]at e;(replace e:=(aA e).symm;subst e);exact absurd hc (by simp)
  .exact hc (h b (.inr ⟨i,hi⟩))
theorem LI.step {n:Nat}{A:Around}{env:Env}{Bad:Addr->Prop}{M:List Nat}{F F1 F2:Nat->List Addr}{P1 P2:Nat->Option Value}{E1 E2:AE}{s s0 s1 s2:Shared}{fp wr:List Addr}{OX:Addr->Prop}
  (L:LI c n A env Bad M F P1 F1 E1 s s0 fp wr OX s1) (hlv:∀ b∈fp,∃ o,s1.heap.get? b=some o) (hwf:∀ b∈wr,b∈fp) (X2:SX c n A env Bad M F2 P2 E2 s2) (S:cF env F1 s1 F2 s2) (hOX:∀ a,dA Bad F1 a->OX a) :
  LI c n A env Bad M F P2 F2 E2 s s0 fp wr OX s2:=by
 have nf:∀ b∈fp,∀ i,b ∉ F2 i:=fun b hb i hi=>by
  rcases S.own i b hi with ⟨j,hj⟩ | q
  .exact L.nf b hb j hj
  ·(refine e1a1 (hlv b hb) ?_;rintro o ho)
   rw[ho]at q;exact nsn q
 refine⟨X2,L.st.trans S,L.kp.trans (S.kpf L.x hOX),nf,fun i a h=>?_,fun b o hb e=>let ⟨o',h⟩:=L.al b o hb e;S.alive b o' h,aP L.gz S.gk.size⟩
 rcases S.own i a h with ⟨j,hj⟩ | q
 .exact L.own j a hj
 .by_cases ha:a∈wr
  .exact absurd h (nf a (hwf a ha) i)
  .refine .inr ?_
   cases hh:s0.heap.get? a with
   | none=>rfl
   | some o=>(refine e1a1 (L.al a o ha hh) ?_;rintro o' ho');rw[q]at ho';exact cM ho'
theorem sA {h:Heap}{b:Addr}{o o':Obj}{d d':Data}(e:h.get? b=some o)(e':h.get? b=some o')(hd:o.data=d)(hd':o'.data=d'):d=d':=hd.symm.trans ((congrArg Obj.data (aA (e.symm.trans e'))).trans hd')
set_option tactic.hygienic true in
theorem aMo (C:bE c)(W:Nat){t:Tgt}{it:It}{b:Sts}(hit:aAx c it)(hb:tP c W b):kU c W (.forS t it b):=by
 intro n A env Bad M M' F P E E' r s x Q Er X hc ho hx h1 h2;simp only[aEp,Bool.and_eq_true]at hc;obtain ⟨hto,hc⟩:=hc;(refine e4a5 (aJq hc) ?_;rintro tg e y pos rfl c1 c2 c3 c4);revert hx;refine cE fun ds hds hx=>?_;dsimp only[aFa]at ho;revert ho;refine ifs fun hk ho=>?_;(refine aRg hk ?_;try clear hk;rintro k1 k2 k3);revert ho;refine cE fun M1 o1 ho=>?_;revert ho;refine ifs fun eM ho=>?_;subst eM;(replace ho:=(aA ho).symm;subst ho);refine wpAny_For (hit n A env _ _ E s e ds _ Er X.cx c3 k1 hds fun v s0 st0 Wk=>?_) (sF c1);(refine e5a5 Wk ?_;try clear Wk;rintro fp wr gs St Mid Wk hst hwr hfp hgs);have X0:=X.stp st0
 have apart:∀ b∈fp,b≠env.locals/\(∀ x,env.cells.lookup x≠some b)/\(∀ i,b ∉ F i):=by
  intro b hb;obtain ⟨_,hq⟩:=hfp b hb
  rcases hq with hq | ⟨o,vs,nn,ho,hd,hq⟩
  .refine⟨?_,fun x hx=>?_,fun i hi=>?_⟩
   .rintro rfl
    (refine e1a2 X.sto.ns ?_;rintro m ⟨o',_,_,ho',_⟩ _);rw[hq]at ho';exact cM ho'
   ·(refine e2a2 (X.cells x b hx) ?_;rintro o ob ho _)
    rw[hq]at ho;exact cM ho
   ·(refine e2a1 (X.pl i b hi) ?_;rintro vs nn ho)
    rw[hq]at ho;exact cM ho
  .refine⟨?_,fun x hx=>?_,fun i hi=>?_⟩
   .rintro rfl
    (refine e1a2 X.sto.ns ?_;rintro m ⟨o',_,_,ho',hd',_⟩ _);exact nomatch sA ho ho' hd hd'
   ·(refine e2a2 (X.cells x b hx) ?_;rintro o' ob ho' hd')
    exact nomatch sA ho ho' hd hd'
   .rcases hq with hq | hq
    ·(refine e2a1 (X.pl i b hi) ?_;rintro vs' nn' ho')
     rw[ho]at ho';(replace ho':=(aA ho').symm;subst ho');exact absurd hq (by simp)
    .exact hq k2 (.inr ⟨i,hi⟩)
 have wdead:∀ b∈wr,s.heap.get? b=none:=fun b hb=>(hwr b hb).2
 have hOX:∀ F1:Nat->List Addr,(∀ i a,a∈F1 i->(∃ j,a∈F j)\/s0.heap.get? a=none)->∀ a,dA Bad F1 a->qL (dA Bad F) s0 a:=by
  rintro F1 hq a (h | ⟨i,h⟩)
  .exact .inl (.inl h)
  .rcases hq i a h with h | h
   .exact .inl (.inr h)
   .exact .inr h
 refine codeAny_forLoop_any (fun k s1=>∃ ds' F1 P1 E1,k=ds'.length/\St ds' s1/\LI c n A env Bad M' F P1 F1 E1 s s0 fp wr (qL (dA Bad F) s0) s1/\forLoop (fun E'=>exs c.G c.T W b E') (fun d E'=>dF t d E') ds' E1=some (E',r)) ?_ ds.length
  ⟨ds,F,P,E,rfl,hst,⟨X0,.of st0,.refl _,fun b hb i hi=>(apart b hb).2.2 i hi,fun i a h=>.inl ⟨i,h⟩,fun b o _ e=>⟨o,e⟩,Nat.le_refl _⟩,hx⟩
 rintro k s1 hz_;(refine e4a4 hz_ ?_;try clear hz_;rintro ds' F1 P1 E1 rfl hst1 L1 hz)
 cases ds' with
 | nil =>
  have hz:=Prod.mk.inj (aA hz);refine Wk.done s1 _ _ L1.x.base hst1 fun s2 mv=>wpAny_execs_nil ?_;have L2:=L1.mv X hwr hfp hgs st0 mv;exact h1 hz.2.symm _ _ s2 (hz.1 ▸ L2.x) L2.st
 | cons d ds' =>
  simp only[lW,Option.bind_eq_some_iff]at hz;(refine e1a2 hz ?_;try clear hz;rintro E2 hE2 hz_;obtain ⟨⟨E3,r3⟩,hb3,hz⟩:=hz_);refine Wk.next d ds' s1 _ _ L1.x.base hst1 L1.kp fun v1 s2 mv hmid=>?_;have L2:=L1.mv X hwr hfp hgs st0 mv;refine Wk.go tg d ds' v1 s2 _ _ (aEf c2 hto) hmid L2.kp fun s3 mv3 hst3 hrd=>?_;have L3:=L2.mv X hwr hfp hgs st0 mv3;refine xC X.room.hand X.eok c2 hrd hE2 L3.x.sto fun h4 tk4 P4 kb So G=>?_;have X4:=L3.x.set (s':={ s3 with heap:=h4,toks:=tk4 }) (M':=M') (aIV k3) (hOX F1 L3.own) kb So G
  have S4:cF env F1 s3 (sW F1 t.ids) { s3 with heap:=h4,toks:=tk4 }:=.kb So kb (.refl _) rfl fun j a h=>.inl ⟨j,(fA h).1⟩
  have stay:∀ {F4:Nat->List Addr} {P4:Nat->Option Value} {E4:AE} {sa sb:Shared} {F5:Nat->List Addr},LI c n A env Bad M' F P4 F4 E4 s s0 fp wr (qL (dA Bad F) s0) sa->cF env F4 sa F5 sb->jZ (qL (dA Bad F) s0) s0.heap sb.heap->St ds' sa->St ds' sb:=by
   intro F4 P4 E4 sa sb F5 La Sab kp h;refine Wk.stay ds' sa sb h (fun b o hb e=>?_) (fun g hg=>?_) kp
   .rcases hb with hb | ⟨fs,hb⟩
    .exact Sab.keep b o (apart b hb).1 (apart b hb).2.1 (fun i=>La.nf b hb i) e
    .refine Sab.keep b o (fun q=>?_) (fun x hx=>?_) (fun i hi=>?_) e
     ·(refine e1a2 La.x.sto.ns ?_;rintro mm ⟨o',es,ep,ho',hd',_⟩ _)
      subst q;exact nomatch sA e ho' hb hd'
     ·(refine e2a2 (La.x.cells x b hx) ?_;rintro o2 ob ho hd)
      exact nomatch sA e ho hb hd
     ·(refine e2a1 (La.x.pl i b hi) ?_;rintro vs nn e7)
      rw[e]at e7;(replace e7:=(aA e7).symm;subst e7);cases hb
   .exact Sab.gk.old g (Nat.lt_of_lt_of_le (hgs g hg).2 La.gz)
  have L4:=L3.step (Wk.liv ds' s3 hst3) (fun b hb=>(hwr b hb).1) X4 S4 (hOX F1 L3.own);have hst4:=stay L3 S4 L4.kp hst3;refine hb n A env Bad M' M' _ P4 E2 E3 r3 _ y _ _ X4 c4 o1 hb3 (fun e F5 P5 s5 X5 S5=>?_) fun d5 e F5 v5 s5 S5 hr5=>?_
  .subst e
   have L5:=L4.step (Wk.liv ds' _ hst4) (fun b hb=>(hwr b hb).1) X5 S5 (hOX _ L4.own);exact⟨ds'.length,by simp,ds',F5,P5,E3,rfl,stay L4 S5 L5.kp hst4,L5,hz⟩
  .subst e
   exact h2 d5 (Prod.mk.inj (aA hz)).2.symm F5 v5 s5 (L4.st.trans S5) hr5
end
theorem aGb {Own:Addr->Prop}{h h':Heap}{r:Addr}(hs:Heap.SameBut r h h')(kp:jZ Own h h'){b:Addr}{x:PyData}(e:b≠r)(q:tQ Own h (.ref b) x):tQ Own h' (.ref b) x:=by
 (refine e3a4 q ?_;rintro a ys ws e1 rfl ⟨n,h1⟩ h2);cases e1;exact⟨b,ys,ws,rfl,rfl,⟨n,(hs.2 b e).trans h1⟩,bP.mono (fun v x (q:bL Own h v x)=>q.kpf kp) h2⟩
theorem aDa {Own:Addr->Prop}{h h':Heap}{r:Addr}{ws':Array Value}{ys':List PyData}(hs:Heap.SameBut r h h')(kp:jZ Own h h')(hl:h'.PlainList r ws')(hx:bP (bL Own h') ws'.toList ys'):∀ {rs:List Addr} {xs:List PyData} {k:Nat},rs.Nodup->rs[k]?=some r->bP (tQ Own h) (rs.map Value.ref) xs->bP (tQ Own h') (rs.map Value.ref) (xs.set k (.list ys'))
 | [],u1_,u2_,hn,hk,u3_=>by simp at hk
 | b::rs,xs,k,hn,hk,q=>by
  cases q with
  | @cons u1_ x u2_ xs q qs =>
   have hn:=List.nodup_cons.mp hn
   cases k with
   | zero =>
    have e:b=r:=aA hk;subst e;refine .cons ⟨b,ys',ws',rfl,rfl,hl,hx⟩ ?_;clear hk q;have hn:=hn.1
    have mv:∀ {l:List Addr} {xs:List PyData},b ∉ l->bP (tQ Own h) (l.map Value.ref) xs->bP (tQ Own h') (l.map Value.ref) xs:=by
     intro l
     induction l with
     | nil=>intro xs m q;cases q;exact .nil
     | cons d l ih =>
      intro xs m q
      cases q with
      | cons q qs=>exact .cons (aGb hs kp (fun e=>m (e ▸ aF)) q) (ih (fun hm=>m (aE _ hm)) qs)
    exact mv hn qs
   | succ k =>
    have hk:rs[k]?=some r:=hk;exact .cons (aGb hs kp (fun e=>hn.1 (e ▸ List.mem_of_getElem? hk)) q) (aDa hs kp hl hx hn.2 hk qs)
section
variable {c:cG} {n:Nat} {A:Around} {env:Env} {Bad:Addr->Prop} {M:List Nat} {F:Nat->List Addr} {P:Nat->Option Value} {E:AE} {s:Shared}
theorem aI6 {L:Addr}{Own:Addr->Prop}{s:Shared}{fs:List Addr}{v:Value}{xs:List PyData}(r:jV c L Own s 2 fs v (.dat (.list xs))):∃ a vs rs,v=.ref a/\fs=a::rs/\s.heap.PlainList a vs/\vs.toList=rs.map Value.ref/\bP (tQ Own s.heap) vs.toList xs/\(a::rs).Nodup:=by
 cases r with
 | two hl hv hx hn=>exact⟨_,_,_,rfl,rfl,hl,hv,hx,hn⟩
theorem aMy {i ik:Nat}{a r:Addr}{rs:List Addr}{xs ys':List PyData}{ws ws':Array Value}{h':Heap}(X:SX c n A env Bad M F P E s)(g1:md M i=2)(hE:E i=some (.dat (.list xs)))(hF:F i=a::rs)(hr:rs[ik]?=some r)(hl:s.heap.PlainList r ws)
  (hs:Heap.SameBut r s.heap h') (hl':h'.PlainList r ws') (hx':jZ (dA Bad F) s.heap h'->bP (bL (dA Bad F) h') ws'.toList ys') :
  SX c n A env Bad M F P (E.set i (.dat (.list (xs.set ik (.list ys'))))) { s with heap:=h' }/\cF env F s F { s with heap:=h' }:=by
 have mr:=List.mem_of_getElem? hr;have mem:r∈F i:=hF ▸ aE _ mr;have kp:jZ (dA Bad F) s.heap h':=aKh mem hl hs;(refine e1a2 (X.vars i _ hE) ?_;rintro v0 q1 q2);rw[g1,hF]at q2;(refine e3a6 (aI6 q2) ?_;rintro a' vs rs' rfl e hla hv hx hn);cases e;have hne:a≠r:=fun e=>(List.nodup_cons.mp hn).1 (e ▸ mr);(refine e1a1 hla ?_;rintro na ea);refine⟨X.mut (s':={ s with heap:=h' }) mem hs ⟨_,hl'⟩ ⟨.ref a,q1,?_⟩,.mut mem hs ⟨_,hl'⟩ (.refl _) rfl⟩
 rw[g1,hF];refine .two ⟨na,(hs.2 a hne).trans ea⟩ hv ?_ hn;rw[hv]at hx ⊢;exact aDa hs kp hl' (hx' kp) (List.nodup_cons.mp hn).2 hr hx
theorem aOK {i:Nat}{k:X}{o:Expr}{p row xs0:PyData}{Q:Value->Shared->Prop}{Er:Value->Shared->Prop}(hk:bG c k)(X:SX c n A env Bad M F P E s)(hc:aRi env.scope i (aS c.fnm c.rk n env.scope k) o=true)(g1:md M i=2)(g2:cJ (md M) k=true)
  (hxs:aI E i=some xs0) (hkd:ev c.G c.T k E=some p) (hrow:aDS p xs0=some row)
  (h:∀ r a rs ik xs ys ws s2,cS s s2->p=.int ik->xs0=.list xs->row=.list ys->0<=ik->ik < xs.length->F i=a::rs->rs[ik.toNat]?=some r->s2.heap.PlainList r ws->bP (bL (dA Bad F) s2.heap) ws.toList ys->Q (.ref r) s2) :
  wpAny (model c.prog c.w) A (eval o env) Q Er s:=by
 refine cW hc fun ob kx pp hc=>?_;(refine aBs hc ?_;rintro c1 c2 c3);(refine e1a3 (fG c1) ?_;rintro p1 rfl u_ c6);(refine e2a6 (aFo hrow) ?_;rintro xs ik rfl rfl hle hb0 hb1 hat);(refine e1a2 (X.vars i _ (rS hxs)) ?_;rintro v0 q1 q2);rw[g1]at q2;(refine e3a6 (aI6 q2) ?_;rintro a vs rs rfl hF hl hv hx hn);refine PyProof.Rows.Subscript_ (eH X q1 c6 (hk n A env _ _ E s kx _ _ Er X.cx c3 g2 hkd fun v2 s2 st2 r2 u_=>?_));(refine e1a1 r2.any.int ?_;rintro t2 rfl);have hl2:=PlainList.keep st2.keep hl;(refine e1a2 (hx.get hat) ?_;rintro vo hvo ro);(refine e3a4 ro ?_;rintro r ys ws rfl rfl h1 h2)
 have hr:rs[ik.toNat]?=some r:=by
  rw[hv,List.getElem?_map]at hvo
  cases hh:rs[ik.toNat]? with
  | none=>rw[hh]at hvo;exact cM hvo
  | some b=>rw[hh]at hvo;cases(aA hvo);rfl
 refine tail_any hl2.isList.typeIs slot_list_getitem.lookup ?_ (gB c2 _ _);refine wpAny_getItem_list hl2.isList hb0 (Int.lt_trans hb1 (aHT hle)) (by simpa using hvo) ?_
 exact h r a rs ik xs ys ws s2 st2 rfl rfl rfl hb0 hb1 hF hr (PlainList.keep st2.keep h1) (h2.mono fun u_ u_ q=>bL.keep st2.keep q)
theorem aMj (W:Nat){i:Nat}{k l e:X}(hk:bG c k)(hl:bG c l)(he:bG c e):kU c W (.setJ i k l e):=by
 intro n A env Bad M M' F P E E' r s x Q Er X hc ho hx h1 h2;dsimp only[aEk]at hc;refine cC hc fun z1 v pos hc=>?_;refine aL hc fun z2 z3 hc=>?_;refine cW hc fun o lx p hc=>?_;refine aO hc fun hc=>?_;(refine lM hc ?_;try clear hc;rintro c1 c2 c3 c4);dsimp only[aBC]at hx;revert hx;refine cE fun z hz=>cE fun xs0 hxs=>cE fun kd hkd=>cE fun row hrow=>cE fun ld hld=>cE fun row' hput1=>cE fun xs' hput hx=>?_;have hx:=Prod.mk.inj (aA hx);dsimp only[aE5]at ho;revert ho;refine ifs fun hh ho=>?_;(refine aMO hh ?_;try clear hh;rintro g1 g2 g3 g4 g5);(replace ho:=aA ho;subst ho);refine wpAny_Assign_Subscript (he n A env _ _ E s v z _ Er X.cx c4 g4 hz fun v1 s1 st1 r1 u_=>?_) pQ;rw[g5]at r1;have X1:=X.stp st1;refine aOK hk X1 c1 g1 g2 hxs hkd hrow fun r a rs ik xs ys ws s2 st2 e1 e2 e3 hb0 hb1 hF hr hl1 hxr=>?_;subst e1 e2 e3;have X2:=X1.stp st2;refine hl n A env _ _ E s2 lx _ _ Er X2.cx c3 g3 hld fun v2 s3 st3 r2 u_=>?_;have hput2:=hput1;revert hput1;refine cE fun jk hjk=>ifs fun hb hput1=>?_;have hq0:=dN hjk;subst hq0;have hput2:=xZ hput2;subst hput2;have hput:=xZ hput;subst hput;(refine e1a1 r2.any.int ?_;rintro t2 rfl);have X3:=X2.stp st3;have hl3:=PlainList.keep st3.keep hl1;have hx3:=hxr.mono fun u_ u_ q=>bL.keep st3.keep q;have elen:=hxr.length;rw[Array.length_toList]at elen;have hfit:jk < 2 ^ 63:=Int.lt_trans hb.2.1 (aHT hb.2.2);refine qQ hl3 hb.1 hfit (by rw[elen];exact hb.2.1) fun h' hl' hs'=>?_
 have r1':=r1.keep (st2.trans st3).keep
 have X6:=aMy (ys':=ys.set jk.toNat z) X3 g1 (rS hxs) hF hr hl3 hs' hl' fun kp=>by
  rw[Array.toList_setIfInBounds];exact(hx3.mono fun u_ u_ q=>q.kpf kp).set jk.toNat (r1'.kpf kp)
 exact h1 hx.2.symm _ _ _ (hx.1 ▸ X6.1) ((cF.of ((st1.trans st2).trans st3)).trans X6.2)
end
theorem Wk.re {c:cG}{A:Around}{Own Own':Addr->Prop}{s2 s3:Shared}{tupT:Bool}{it:Value}{fp wr:List Addr}{gs:List Nat}{St:List PyData->Shared->Prop}{Mid:PyData->List PyData->Value->Shared->Prop}
  (W:Wk c A (qL Own s2) s2 tupT it fp wr gs St Mid) (hO:∀ a,Own' a->Own a) (back:∀ b,(∃ o,s3.heap.get? b=some o)->∃ o,s2.heap.get? b=some o) (fwd:∀ b,(∃ o,s2.heap.get? b=some o)->∃ o,s3.heap.get? b=some o) (kp:jZ (qL Own s2) s2.heap s3.heap) :
  Wk c A (qL Own' s3) s3 tupT it fp wr gs St Mid:=by
 have hx:∀ a,qL Own' s3 a->qL Own s2 a:=by
  rintro a (h | h)
  .exact .inl (hO a h)
  .refine .inr ?_
   cases hh:s2.heap.get? a with
   | none=>rfl
   | some o=>(refine e1a1 (fwd a ⟨o,hh⟩) ?_;rintro o' ho');rw[h]at ho';exact cM ho'
 have kt:∀ {h:Heap},jZ (qL Own' s3) s3.heap h->jZ (qL Own s2) s2.heap h:=fun k=>kp.trans fun b o vs n hb hd hc=>k b o vs n hb hd (hc.imp id fun q r=>q (hx b r))
 exact {
  stay:=fun ds s s' h1 h2 h3 h4=>W.stay ds s s' h1 h2 h3 (kt h4)
  liv:=W.liv
  next:=fun d ds s Q Er B st k h=>W.next d ds s Q Er B st (kt k) fun v s' m q=>h v s' (m.mono back (fun b m=>m) fun g m=>m) q
  go:=fun tg d ds v s Q Er ht q k h=>W.go tg d ds v s Q Er ht q (kt k) fun s' m st r=>h s' (m.mono back (fun b m=>m) fun g m=>m) st (r.weak hx)
  done:=fun s Q Er B st h=>W.done s Q Er B st fun s' m=>h s' (m.mono back (fun b m=>m) fun g m=>m)
  self:=W.self }
section
variable {c:cG}
end
section
variable {c:cG}
theorem aES {t:Ck}{b:List Stmt->Bool}{x:Stmt}(h:aET t b x=true):∃ v y pos,x=.While v y [] pos/\t v=true/\b y=true:=by
 refine aCA h fun v y z1 pos h=>?_;refine aO h fun h=>?_
 .exact aAK h fun h_0 h_1=>⟨_,_,_,rfl,h_0,h_1⟩
theorem aMh (W:Nat){t:X}{b:Sts}(ht:fW c t)(hb:tP c W b):kU c W (.whil t b):=by
 intro n A env Bad M M' F P E E' r s x Q Er X hc ho hx h1 h2;dsimp only[aEi]at hc;(refine e3a3 (aES hc) ?_;rintro v y pos rfl c1 c2);dsimp only[aBA]at hx;dsimp only[aE3]at ho;revert ho;refine ifs fun hk ho=>?_;revert ho;refine cE fun M1 o1 ho=>?_;revert ho;refine ifs fun eM ho=>?_;(replace ho:=aA ho;subst ho);subst eM;refine wpAny_While (codeAny_whileLoop (fun k s1=>∃ F1 P1 E1,SX c n A env Bad M1 F1 P1 E1 s1/\cF env F s F1 s1/\eK (fun E'=>(ev c.G c.T t E').bind fun x=>tr x) (fun E'=>exs c.G c.T W b E') k E1=some (E',r)) ?_ W ⟨F,P,E,X,.refl s,hx⟩);rintro k s1 hz_;(refine e3a3 hz_ ?_;try clear hz_;rintro F1 P1 E1 X1 S1 hz)
 cases k with
 | zero=>exact cM hz
 | succ k =>
  simp only[nW,Option.bind_eq_some_iff]at hz;(refine e1a2 hz ?_;try clear hz;rintro q ⟨d,hd,hq⟩ hz);refine ht n A env _ _ E1 s1 v d q _ _ X1.cx c1 hk hd hq fun s2 st2=>?_;have X2:=X1.stp st2;have S2:=S1.trans (.of st2)
  induction q with
  | false =>
   have hz:=Prod.mk.inj (aA hz);rw[if_neg aN];exact wpAny_execs_nil (h1 hz.2.symm F1 P1 s2 (hz.1 ▸ X2) S2)
  | true =>
   simp only[Option.bind_eq_some_iff]at hz;(refine e1a2 hz ?_;try clear hz;rintro⟨E3,r3⟩ hb3 hz);rw[if_pos rfl];refine hb n A env Bad M1 M1 F1 P1 E1 E3 r3 s2 y _ _ X2 c2 o1 hb3 (fun e F5 P5 s5 X5 S5=>?_) fun d5 e F5 v5 s5 S5 hr5=>?_
   .subst e
    exact⟨k,Nat.lt_succ_self k,F5,P5,E3,X5,S2.trans S5,hz⟩
   .subst e
    exact h2 d5 (Prod.mk.inj (aA hz)).2.symm F5 v5 s5 (S2.trans S5) hr5
end
theorem aBO (k:Str->Option NameKind):∀ (l:List (Str × Value)) (m:Str->Option Value) (x:Str),x ∉ l.map (·.1)->bindL k l m x=m x
 | []=>fun _ _ _=>rfl
 | (y,v)::r=>fun m x h=>by
  simp only[aY,List.mem_cons,not_or]at h;rw[bindL,aBO k r _ x h.2]
  split
  .exact if_neg h.1
  .rfl
theorem aEy (k:Str->Option NameKind)(l:List (Str × Value)):∀ (m:Str->Option Value) (x:Str) (v:Value),(l.map (·.1)).Nodup->(x,v)∈l->k x=some .local->bindL k l m x=some v:=by
 induction l with
 | nil=>exact fun m x v hn hm=>nomatch hm
 | cons p r ih =>
  intro m x v hn hm hk;have hn:=List.nodup_cons.mp hn;rw[bindL]
  rcases aM hm with e | hm
  .subst e
   rw[aBO k r _ _ hn.1,if_pos hk];exact if_pos rfl
  .exact ih _ x v hn.2 hm hk
theorem aBP (k:Str->Option NameKind):∀ (l:List (Str × Value)) (m:Str->Option Value) (x:Str),x ∉ l.map (·.1)->bindC k l m x=m x
 | []=>fun _ _ _=>rfl
 | (y,v)::r=>fun m x h=>by
  simp only[aY,List.mem_cons,not_or]at h;rw[bindC,aBP k r _ x h.2]
  split
  .rfl
  .exact if_neg h.1
theorem aEz (k:Str->Option NameKind)(l:List (Str × Value)):∀ (m:Str->Option Value) (x:Str) (v:Value),(l.map (·.1)).Nodup->(x,v)∈l->k x≠some .local->bindC k l m x=some v:=by
 induction l with
 | nil=>exact fun m x v hn hm=>nomatch hm
 | cons p r ih =>
  intro m x v hn hm hk;have hn:=List.nodup_cons.mp hn;rw[bindC]
  rcases aM hm with e | hm
  .subst e
   rw[aBP k r _ _ hn.1,if_neg hk];exact if_pos rfl
  .exact ih _ x v hn.2 hm hk
structure aRR (fd:FuncData)(ps:List Nat):Prop where
 co:fd.scope.isCoroutine=false
 gen:fd.scope.isGenerator=false
 kind:fd.scope.kind=.function
 more:fd.scope.more.any (fun(n,_)=>n == ("interactive":Str))=false
 glob:fd.globals=mainGlobals
 bui:fd.builtins=builtinsNs
 clo:fd.closure=[]
 nofree:∀ p∈fd.scope.names,p.2≠.free
 nd:(fd.scope.names.map (·.1)).Nodup
 own:∀ i∈ps,bQ fd.scope (nm i)=true
 pn:ps.Nodup
inductive aCS (c:cG)(Bad:Addr->Prop)(s:Shared):Value->PV->Prop where
 | dat {v:Value} {d:PyData}:bL Bad s.heap v d->aCS c Bad s v (.dat d)
 | hdr {v:Value} {l:List (List Nat × List Nat)} {la:Addr}:fP c.HC c.h0 v l la->aCS c Bad s v (.hdr l)
noncomputable def qU:List Nat->List Value->Nat->Option Value
 | i::is,v::vs,j=>if j=i then some v else qU is vs j
 | _,_,_=>none
theorem aGo {i j:Nat}{v:Value}{is:List Nat}{vs:List Value}:qU (i::is) (v::vs) j=if j=i then some v else qU is vs j:=rfl
set_option tactic.hygienic true in
theorem uH:∀ {is:List Nat}{vs:List Value}{j:Nat}{v:Value},qU is vs j=some v->(nm j,v)∈(is.map nm).zip vs/\j∈is
 | i::is,u::vs,j,v,h=>by
  rw[aGo]at h
  split at h
  .rename_i e;subst e;(replace h:=(aA h).symm;subst h);exact⟨aF,aF⟩
  .obtain ⟨h1,h2⟩:=uH h;exact⟨aE _ h1,aE _ h2⟩
 | [],_,_,_,h=>by exact cM h
 | _::_,[],_,_,h=>by exact cM h
set_option tactic.hygienic true in
theorem xN {c:cG}{Bad:Addr->Prop}{s:Shared}:∀ {is:List Nat} {vs:List Value} {pvs:List PV} {E:AE},bP (aCS c Bad s) vs pvs->start is pvs=some E->∀ j pv,E j=some pv->∃ v,qU is vs j=some v/\aCS c Bad s v pv
 | [],vs,[],E,hx,h,j,pv,e=>by(replace h:=(aA h).symm;subst h);exact cM e
 | i::is,vs,p::ps,E,hx,h,j,pv,e=>by
  cases hx with
  | cons r1 r2 =>
   rename_i v vs
   revert h;refine cE fun E1 h1 e0z=>?_;(replace e0z:=(aA e0z).symm;subst e0z);rw[aGo]
   by_cases hj:j=i
   .subst hj
    have e:some p=some pv:=by rw[<-e];exact(if_pos rfl).symm
    (replace e:=(aA e).symm;subst e);exact⟨v,if_pos rfl,r1⟩
   .have e:E1 j=some pv:=by rw[<-e];exact(if_neg hj).symm
    rw[if_neg hj];exact xN r2 h1 j pv e
 | [],_,_::_,_,_,h,_,_,_=>by exact cM h
 | _::_,_,[],_,_,h,_,_,_=>by exact cM h
theorem aBV:∀ {is:List Nat}{vs:List Value},vs.length=is.length->((is.map nm).zip vs).map (·.1)=is.map nm
 | [],[]=>fun _=>rfl
 | i::is,v::vs=>fun h=>by simp[aBV (is:=is) (vs:=vs) (by simpa using h)]
 | [],_::_=>fun h=>by simp at h
 | _::_,[]=>fun h=>by simp at h
theorem sN {is:List Nat}(h:is.Nodup):(is.map nm).Nodup:=by
 induction is with
 | nil=>exact List.nodup_nil
 | cons i is ih =>
  obtain ⟨h1,h2⟩:=List.nodup_cons.mp h;refine List.nodup_cons.mpr ⟨fun m=>?_,ih h2⟩;(refine e1a2 (bJ m) ?_;rintro j hj e);exact h1 (uE e ▸ hj)
section
variable {c:cG}
theorem aKT {W:Nat}{ps:List Nat}{body:Sts}(hb:tP c W body){M':List Nat}(hok:okSs (List.replicate 130 0) body=some M')
  {n:Nat} {A:Around} {s:Shared} {a:Addr} {o:Obj} {fd:FuncData} {stmts:List Stmt} {vals:List Value} {pvs:List PV} {d:PyData} {R:Result->Shared->Prop} {Bad:Addr->Prop}
  (hroom:fO (n+1) A) (B:dK c s.heap) (ho:s.heap.get? a=some o) (hdata:o.data=.func fd) (hcd:s.heap.CodeRec fd.code fd.qualname) (hbody:fd.body=.stmts stmts) (K:aRR fd ps)
  (hlen:vals.length=ps.length) (hbind:bindArgs fd ⟨vals,[]⟩=pure ((ps.map nm).zip vals)) (hchk:chkSs c.fnm c.rk n fd.scope body stmts=true)
  (hbad:∀ a,Bad a->∃ o,s.heap.get? a=some o) (hargs:bP (aCS c Bad s) vals pvs) (hrun:cV c.G c.T W ps body pvs=some d)
  (h:∀ v s',cS s s'->bL Bad s'.heap v d->R (.ok (.ret v)) s'):codeAny (model c.prog c.w) A (.call (.ref a) ⟨vals,[]⟩) R s:=by
 have hz:=aBV hlen;have hnd:(((ps.map nm).zip vals).map (·.1)).Nodup:=by rw[hz];exact sN K.pn
 have hmemn:∀ x∈(ps.map nm).zip vals,∃ i∈ps,x.1=nm i:=by
  intro x hx;have:x.1∈((ps.map nm).zip vals).map (·.1):=List.mem_map.mpr ⟨x,hx,rfl⟩;rw[hz]at this;(refine e1a2 (bJ this) ?_;rintro i hi e);exact⟨i,hi,e.symm⟩
 have okind:∀ i∈ps,fd.scope.names.lookup (nm i)=some .local\/fd.scope.names.lookup (nm i)=some .cell:=fun i hi=>aE0 (K.own i hi);refine codeAny_call_cells (by have:=hroom.depth;lia) ho hdata B.lim hcd hbody hbind K.clo (fun x hx=>?_) (fun s1 IC=>?_) K.co K.gen K.kind
 ·(refine e1a2 (hmemn x hx) ?_;rintro i hi e)
  rw[e]
  rcases okind i hi with q | q
  .exact .inl q
  ·(refine e1a1 (dZ _ (s.heap.objs.size+1) _ (cH q)) ?_;rintro b hb)
   (refine e1a1 (cT hb) ?_;rintro b2 hb2);exact .inr ⟨q,by rw[hb2];rfl⟩
 ·(refine e2a1 IC.toInCall.same ?_;rintro h1 tk rfl)
  have st1:cS s { s with heap:=h1,toks:=tk }:=.of IC.toInCall.keep
  have K':fB (callEnvC fd s.heap.objs.size a):=by
   refine⟨K.kind,K.glob,K.bui,K.co,K.more,fun x hx=>?_,fun x y b hx hy=>name_of_addr IC.apart (mem_of_lookup hx) (mem_of_lookup hy)⟩;have hx:fd.scope.names.lookup x=some .cell\/fd.scope.names.lookup x=some .free:=hx
   rcases hx with q | q
   ·(refine e1a1 (dZ _ (s.heap.objs.size+1) _ (cH q)) ?_;rintro b hb)
    exact cT hb
   .exact absurd rfl (K.nofree _ (cH q))
  unfold cV at hrun;simp only[Option.bind_eq_some_iff]at hrun;(refine e1a2 hrun ?_;try clear hrun;rintro E hE hz_;obtain ⟨⟨E',r⟩,hex,hr⟩:=hz_);have hr:r=some d:=hr;subst hr
  have old:∀ b,s.heap.objs.size<=b->c.h0.get? b=none:=fun b hb=>by
   cases hh:c.h0.get? b with
   | none=>rfl
   | some o=>exact absurd (Heap.lt_size (B.k0 b o hh)) (Nat.not_lt.mpr hb)
  have So:lP (callEnvC fd s.heap.objs.size a) h1 (qU ps vals):=by
   refine⟨⟨_,IC.toInCall.ns,fun i v e=>?_⟩,fun x b u_ hb=>⟨_,IC.cell x b hb⟩⟩;obtain ⟨hm,hi⟩:=uH e
   rcases okind i hi with q | q
   .exact .inl ⟨q,aEy _ _ _ _ _ hnd hm q⟩
   ·(refine e1a1 (K'.cell (nm i) (.inl q)) ?_;rintro b hb)
    refine .inr ⟨.inl q,b,hb,?_⟩;have e:=IC.cell (nm i) b hb;rw[aEz _ _ _ _ _ hnd hm (by rw[show(callEnvC fd s.heap.objs.size a).kindOf (nm i)=_ from q];exact fun z=>by cases z)]at e
    exact e
  have X:SX c n (A.deeper (callEnvC fd s.heap.objs.size a)) (callEnvC fd s.heap.objs.size a) Bad (List.replicate 130 0) (fun u_=>[]) (qU ps vals) E { s with heap:=h1,toks:=tk }:=by
   refine⟨K',⟨by show A.depth+1+n < _;have:=hroom.depth;lia,by show A.units+3+20 * n+200 < _;have:=hroom.units;lia,hroom.hand⟩,B.keep IC.toInCall.keep,fun x b hb=>⟨_,IC.cell x b hb⟩,So,fun i pv e=>?_,fun i a m=>(nomatch m),
    fun b hb=>let ⟨o,ho⟩:=hbad b hb;⟨o,IC.toInCall.keep b o ho⟩,fun i a m=>(nomatch m),fun i j a m=>(nomatch m),old _ (Nat.le_refl _),fun x b hb=>old b (Nat.le_of_lt (IC.above x b (mem_of_lookup hb))),fun i a m=>(nomatch m)⟩
   (refine e1a2 (xN hargs hE i pv e) ?_;rintro v h1' h2');refine⟨v,h1',?_⟩;have em:md (List.replicate 130 0) i=0:=by unfold md;rw[List.getD_eq_getElem?_getD,List.getElem?_replicate];split <;> rfl
   rw[em]
   cases h2' with
   | hdr hd=>exact .hdrB hd
   | dat r =>
    refine .flat ((r.keep IC.toInCall.keep).weak fun b hb=>?_)
    rcases hb with hb | ⟨u_,hb⟩
    .exact hb
    .cases hb
  refine hb n _ _ Bad _ M' _ _ E E' (some d) _ stmts _ _ X hchk hok hex (fun e=>by exact nsn e) fun d' e F' v s' S hv=>?_
  (replace e:=(aA e).symm;subst e);refine h v s' ⟨fun b o e=>?_,⟨S.gk.size,S.gk.old,S.gk.bare⟩,S.os⟩ hv;have hlt:=Heap.lt_size e;refine S.keep b o (Nat.ne_of_lt hlt) (fun x hx=>?_) (fun i m=>nomatch m) (IC.toInCall.keep b o e);have:=IC.above x b (mem_of_lookup hx);have this:s.heap.objs.size < b:=this;exact absurd hlt (Nat.not_lt.mpr (Nat.le_of_lt this))
end
noncomputable def aLZ (c:cG)(f:Nat):Prop :=
 ∃ fa o fd,c.mg (c.fnm f)=some (.ref fa)/\c.h0.get? fa=some o/\o.data=.func fd /\
  ∀ (A:Around) (Bad:Addr->Prop) (s:Shared) (vals:List Value) (pvs:List PV) (d:PyData) (R:Result->Shared->Prop),fO (c.rk f+1) A->dK c s.heap->(∀ a,Bad a->∃ o,s.heap.get? a=some o) ->
   bP (aCS c Bad s) vals pvs->c.T f pvs=some d->(∀ v s',cS s s'->bL Bad s'.heap v d->R (.ok (.ret v)) s')->codeAny (model c.prog c.w) A (.call (.ref fa) ⟨vals,[]⟩) R s
theorem pB {M:Model}{A:Around}{Er:Value->Shared->Prop}{s:Shared}{f:Value}{args:List (Bool × Sem Value)}{Q:Args->Shared->Prop}(hh:args=[]\/∃ x r,args=(false,x)::r)
  (h:wpAny M A (spliced args) (fun vs s'=>Q ⟨vs,[]⟩ s') Er s):wpAny M A (evalArgs f true args []) Q Er s:=by
 rcases hh with rfl | ⟨x,r,rfl⟩
 .unfold evalArgs
  show wpAny M A (spliced [] >>= _) Q Er s;refine wpAny_bind (wpAny_mono h (fun vs s' h'=>?_) fun u_ u_ x=>x);refine wpAny_holding ?_;exact wpAny_bind (wpAny_pure (wpAny_bind (wpAny_pure (wpAny_pure h'))))
 .exact Calls.evalArgs_plain h
theorem tY:∀ {ps:List Nat}{pvs:List PV}{E:AE},start ps pvs=some E->pvs.length=ps.length
 | [],[],_,_=>rfl
 | i::is,p::pvs,E,h=>by
  revert h;refine cE fun E1 h1 u_=>?_;simp[tY h1]
 | [],_::_,_,h=>by exact cM h
 | _::_,[],_,h=>by exact cM h
section
variable {c:cG}
theorem aIM {n:Nat}{sc:Scope}{xs:Xs}{es:List Expr}{env:Env}{pos:Pos}(h:chkXs c.fnm c.rk n sc xs es=true):backTo pos (starEach es env)=[]\/∃ x r,backTo pos (starEach es env)=(false,x)::r:=by
 cases xs with
 | nil=>simp only[fM]at h;obtain rfl:=kZ h;exact .inl rfl
 | cons x xs =>
  dsimp only[dT]at h;(refine e2a4 (hZ h) ?_;rintro z r rfl h1 u_ u_);rw[bK h1];exact .inr ⟨_,_,rfl⟩
theorem aAv {Own:Addr->Prop}{s:Shared}{vs:List Value}{ds:List PyData}(h:bP (bL Own s.heap) vs ds):bP (aCS c Own s) vs (ds.map .dat):=by
 induction h with
 | nil=>exact .nil
 | cons h1 _ ih=>exact .cons (.dat h1) ih
theorem aNn (C:bE c){f:Nat}{xs:Xs}(hf:∀ pvs d,c.T f pvs=some d->aLZ c f)(hxs:aAy c xs):bG c (.call f xs):=by
 intro n A env Own M E s e d Q Er X hc ho he h;simp only[vV,Bool.and_eq_true,decide_eq_true_eq]at hc;obtain ⟨hr,hc⟩:=hc;(refine e3a5 (aDK hc) ?_;rintro es p q rfl h1 h2 h3 h4);dsimp only[aE2]at ho;revert he;refine cE fun ds hds hT=>?_;(refine e3a4 (hf _ _ hT) ?_;rintro fa o fd m1 m2 m3 ct);have hp:=h2;unfold bW at hp;replace hp:=aAO hp;refine wpAny_Call_NameR (lC X.eok X.base h1 (by simpa using hp.1) (.inl m1) ?_)
 refine Calls.callWith_function (o:=o) (fd:=fd) (pB (aIM h4) (hxs n A env Own M E s es ds q _ Er X h4 ho hds fun vs s1 st1 r1 u_=>?_));have X1:=X.stp C st1;refine⟨⟨X1.base.k0 _ _ m2,m3⟩,wpAny_call ?_⟩;exact ct A Own s1 vs _ d _ (X.room.le hr) X1.base X1.live (aAv r1) hT fun v s2 st2 r2=>h v s2 (st1.trans st2) r2 fun z=>nomatch z
theorem aMb {f:Nat}{xs:Xs}(hv:bG c (.call f xs)):fW c (.call f xs) :=
 cP hv fun n sc e hc=>by
  simp only[vV,Bool.and_eq_true]at hc;(refine e3a2 (aDK hc.2) ?_;rintro es p q rfl u_);rfl
theorem aLP {c':cG}{Own:Addr->Prop}{s:Shared}{vs:List Value}{ps:List PV}(h:bP (aCS c Own s) vs ps)(e1:c'.HC=c.HC:=by rfl) (e2:c'.h0=c.h0:=by rfl):bP (aCS c' Own s) vs ps :=
 h.mono fun v p q=>by
  cases q with
  | dat r=>exact .dat r
  | hdr r=>exact .hdr (e1 ▸ e2 ▸ r)
end
mutual
noncomputable def fX:X->Bool
 | .int _=>true | .str _=>true | .bool _=>true | .none=>true | .var _=>true | .glo _=>true
 | .neg _=>true
 | .bin _ a b=>fX a && fX b
 | .not a=>fX a
 | .cmp1 _ a b=>fX a && fX b
 | .isC _ a b=>fX a && fX b
 | .isT _ a _=>fX a
 | .and xs=>fXs xs
 | .or xs=>fXs xs
 | .ite t a b=>fX t && fX a && fX b
 | .lst xs=>fXs xs
 | .tup xs=>fXs xs
 | .idx a i=>fX a && fX i
 | .slc a l h s=>fX a && fX l && fX h && fX s
 | .call _ xs=>fXs xs
 | .p1 _ a=>fX a
 | .p2 _ a b=>fX a && fX b
 | .lof it=>aKa it && fIt it
 | .comp elt _ it ifs=>fX elt && fIt it && fXs ifs
 | .hget _ a=>fX a
 | .hvals _=>true
 | .tysNe a _=>fX a
 | .hattr _=>false
noncomputable def fXs:Xs->Bool
 | .nil=>true
 | .cons x xs=>fX x && fXs xs
noncomputable def fIt:It->Bool
 | .val a=>fX a
 | .rng1 a=>fX a
 | .rng3 a b d=>fX a && fX b && fX d
 | .enm a=>fX a
 | .gen a=>fX a
end
theorem aK7 {z1 a b}:fX (.bin z1 a b)=(fX a && fX b):=rfl
theorem aK1 {a}:fX (.not a)=(fX a):=rfl
theorem aIh {z1 a b}:fX (.cmp1 z1 a b)=(fX a && fX b):=rfl
theorem aK5 {z1 a b}:fX (.isC z1 a b)=(fX a && fX b):=rfl
theorem aK4 {z1 a z2}:fX (.isT z1 a z2)=(fX a):=rfl
theorem aK8 {xs}:fX (.and xs)=(fXs xs):=rfl
theorem aNf {xs}:fX (.or xs)=(fXs xs):=rfl
theorem aK3 {t a b}:fX (.ite t a b)=(fX t && fX a && fX b):=rfl
theorem aK2 {xs}:fX (.lst xs)=(fXs xs):=rfl
theorem aKZ {xs}:fX (.tup xs)=(fXs xs):=rfl
theorem aK6 {a i}:fX (.idx a i)=(fX a && fX i):=rfl
theorem aK0 {a l h s}:fX (.slc a l h s)=(fX a && fX l && fX h && fX s):=rfl
theorem aIi {z1 xs}:fX (.call z1 xs)=(fXs xs):=rfl
theorem aNe {z1 a}:fX (.p1 z1 a)=(fX a):=rfl
theorem aNd {z1 a b}:fX (.p2 z1 a b)=(fX a && fX b):=rfl
theorem aIg {elt z1 it ifs}:fX (.comp elt z1 it ifs)=(fX elt && fIt it && fXs ifs):=rfl
theorem aIe {z1 a}:fX (.hget z1 a)=(fX a):=rfl
theorem aFr {a z1}:fX (.tysNe a z1)=(fX a):=rfl
theorem aFq {x xs}:fXs (.cons x xs)=(fX x && fXs xs):=rfl
theorem aIs {a}:fIt (.val a)=(fX a):=rfl
theorem aFu {a}:fIt (.rng1 a)=(fX a):=rfl
theorem aFt {a b d}:fIt (.rng3 a b d)=(fX a && fX b && fX d):=rfl
theorem aIu {a}:fIt (.enm a)=(fX a):=rfl
theorem aIt {a}:fIt (.gen a)=(fX a):=rfl
structure Out (c:cG):Prop where
 fn:∀ f pvs d,c.T f pvs=some d->aLZ c f
 gen:∀ a,bG c a->aLY c a
 get:∀ i a,bG c a->bG c (.hget i a)
 vals:∀ i,bG c (.hvals i)
section
variable {c:cG}
mutual
theorem bR (C:bE c)(O:Out c):∀ x,fX x=true->bG c x/\fW c x
 | .int i,_=>⟨uR i,cP (uR i) fun n sc e h=>by simp only[aAf]at h;(refine e2a1 (aGG h) ?_;rintro u_ u_ rfl);rfl⟩
 | .str i,_=>⟨uO i,cP (uO i) fun n sc e h=>by simp only[zX]at h;(refine e2a1 (aGz h) ?_;rintro u_ u_ rfl);rfl⟩
 | .bool i,_=>⟨sZ i,cP (sZ i) fun n sc e h=>by simp only[vW]at h;(refine e2a1 (aDL h) ?_;rintro u_ u_ rfl);rfl⟩
 | .none,_=>⟨wX,cP wX fun n sc e h=>by simp only[vS]at h;(refine e2a1 (aDJ h) ?_;rintro u_ u_ rfl);rfl⟩
 | .var i,_=>⟨cQ i,cP (cQ i) fun n sc e h=>by simp only[nO]at h;(refine e1a2 (fG h) ?_;rintro u_ rfl u_);rfl⟩
 | .glo i,_=>⟨aLm C i,cP (aLm C i) fun n sc e h=>by simp only[aAh]at h;(refine e1a2 (aGI h) ?_;rintro u_ rfl u_);rfl⟩
 | .neg i,_=>⟨aLk i,cP (aLk i) fun n sc e h=>by simp only[aAa]at h;(refine e3a1 (aGC h) ?_;rintro u_ u_ u_ rfl);rfl⟩
 | .bin op a b,h=>by
  replace h:=aAO (aK7.symm.trans h);have q:=aLn C (op:=op) (bR C O a h.1).1 (bR C O b h.2).1;exact⟨q,aOn C q⟩
 | .not a,h=>by
  dsimp only[aK1]at h;exact⟨aPT C (bR C O a h).1,aOj (bR C O a h).2⟩
 | .cmp1 op a b,h=>by
  exact aAK (aIh.symm.trans h) fun h_0 h_1=>⟨aNm C (bR C O a h_0).1 (bR C O b h_1).1,wM C (bR C O a h_0).1 (bR C O b h_1).1⟩
 | .isC m a b,h=>by
  exact aAK (aK5.symm.trans h) fun h_0 h_1=>⟨aPW C (bR C O a h_0).1 (bR C O b h_1).1,aEM C (bR C O a h_0).1 (bR C O b h_1).1⟩
 | .isT m a t,h=>by
  dsimp only[aK4]at h;exact⟨aPV C (bR C O a h).1,aEL C (bR C O a h).1⟩
 | .and xs,h=>by
  dsimp only[aK8]at h;(refine aP4 (all_Xs C O xs h) ?_;rintro u_ u_ q1 q2 u_ u_);exact⟨aPZ q1,aOo q2⟩
 | .or xs,h=>by
  dsimp only[aNf]at h;(refine aP4 (all_Xs C O xs h) ?_;rintro u_ u_ u_ u_ q1 q2);exact⟨aRv q1,aQN q2⟩
 | .ite t a b,h=>by
  exact aBs (aK3.symm.trans h) fun h_0 h_1 h_2=>⟨aPU C (bR C O t h_0).2 (bR C O a h_1).1 (bR C O b h_2).1,aOl C (bR C O t h_0).2 (bR C O a h_1).2 (bR C O b h_2).2⟩
 | .lst xs,h=>by
  dsimp only[aK2]at h;have q:=aFx C (all_Xs C O xs h).1;exact⟨q,aOk q⟩
 | .tup xs,h=>by
  dsimp only[aKZ]at h;have q:=aCw C (all_Xs C O xs h).1;exact⟨q,aOh q⟩
 | .idx a i,h=>by
  replace h:=aAO (aK6.symm.trans h);have q:=aCx C (bR C O a h.1).1 (bR C O i h.2).1;exact⟨q,aOm q⟩
 | .slc a l hh s,h=>by
  replace h:=aQe (aK0.symm.trans h);have q:=aPS C (bR C O a h.1.1.1).1 (bR C O l h.1.1.2).1 (bR C O hh h.1.2).1 (bR C O s h.2).1;exact⟨q,aOi q⟩
 | .call f xs,h=>by
  dsimp only[aIi]at h;have q:=aNn C (O.fn f) (all_Xs C O xs h).1;exact⟨q,aMb q⟩
 | .p1 p a,h=>by
  dsimp only[aNe]at h;have q:=aD0 C (p:=p) (bR C O a h).1;exact⟨q,aQM q⟩
 | .p2 p a b,h=>by
  replace h:=aAO (aNd.symm.trans h);have q:=aNZ C (p:=p) (bR C O a h.1).1 (bR C O b h.2).1;exact⟨q,aQL q⟩
 | .lof (.rng1 _),h=>nomatch (aB h).1
 | .lof (.enm _),h=>nomatch (aB h).1
 | .lof (.gen _),h=>nomatch (aB h).1
 | .lof (.val a),h=>by
  have q:=aFy C (bR C O a (aB h).2).1;exact⟨q,aI8 q⟩
 | .lof (.rng3 a b d),h=>by
  replace h:=aRF (aB h).2;have q:=aD1 C (bR C O a h.1.1).1 (bR C O b h.1.2).1 (bR C O d h.2).1;exact⟨q,aI8 q⟩
 | .comp elt t it ifs,h=>by
  replace h:=aG1 (aIg.symm.trans h);have q:=wY C (t:=t) (all_It C O it h.1.2) (all_Xs C O ifs h.2).2.1 (bR C O elt h.1.1).1;exact⟨q,aMa q⟩
 | .hget i a,h=>by
  dsimp only[aIe]at h;have q:=O.get i a (bR C O a h).1
  exact⟨q,cP q fun n sc e h=>by
   simp only[vT,Bool.and_eq_true]at h;(refine e4a2 (nA h.2) ?_;rintro o z ap q rfl u_);rfl⟩
 | .hvals i,h=>⟨O.vals i,cP (O.vals i) fun n sc e h=>by
   simp only[tJ,Bool.and_eq_true]at h;(refine e3a2 (wT h.2) ?_;rintro o ap q rfl u_);rfl⟩
 | .tysNe a k,h=>by
  have q:=(bR C O a (aFr.symm.trans h)).1;exact⟨aPR C q,aOg C q⟩
theorem all_Xs (C:bE c)(O:Out c):∀ xs,fXs xs=true->aAy c xs/\tO c xs/\aAS c .And (evAnd c.G c.T) xs/\aAR c .And (evAnd c.G c.T) xs/\aAS c .Or (evOr c.G c.T) xs/\aAR c .Or (evOr c.G c.T) xs
 | .nil=>fun _=>⟨pX,sB,aFV,aFT,aIK,aIJ⟩
 | .cons x xs=>fun h=>by
  replace h:=aAO (aFq.symm.trans h);obtain ⟨q1,q2⟩:=bR C O x h.1;(refine aP4 (all_Xs C O xs h.2) ?_;rintro r1 r2 r3 r4 r5 r6);exact⟨kL C q1 r1,xG C q2 r2,aEx C q1 r3,aEw C q2 r4,aFU C q1 r5,aFS C q2 r6⟩
theorem all_It (C:bE c)(O:Out c):∀ it,fIt it=true->aAx c it
 | .val a=>fun h=>by simp only[aIs]at h;exact yY C (bR C O a h).1
 | .rng1 a=>fun h=>by simp only[aFu]at h;exact aMU C (bR C O a h).1
 | .rng3 a b d=>fun h=>by simp only[aFt,Bool.and_eq_true]at h;exact aMT C (bR C O a h.1.1).1 (bR C O b h.1.2).1 (bR C O d h.2).1
 | .enm a=>fun h=>by simp only[aIu]at h;exact aPw C (bR C O a h).1
 | .gen a=>fun h=>by simp only[aIt]at h;exact aKu (O.gen a (bR C O a h).1)
end
end
noncomputable def aCm:X->Bool
 | _=>false
mutual
noncomputable def fS:St->Bool
 | .asg _ _ e=>fX e && !aCm e
 | .asgH _=>true
 | .swap _ _ a b=>fX a && fX b
 | .asg2 _ _ e=>fX e
 | .aug _ _ e=>fX e
 | .setI _ k e=>fX k && fX e
 | .setJ _ k l e=>fX k && fX l && fX e
 | .app _ e=>fX e
 | .ext _ e=>fX e
 | .hadd _ a b=>fX a && fX b
 | .iff t a b=>fX t && fSs a && fSs b
 | .forS _ it b=>fIt it && fSs b
 | .whil t b=>fX t && fSs b
 | .ret e=>fX e
 | .frz _=>true
 | .hdel _ a=>fX a
 | .hset _ a b=>fX a && fX b
noncomputable def fSs:Sts->Bool
 | .nil=>true
 | .cons x xs=>fS x && fSs xs
end
theorem aLd {z1 z2 e}:fS (.asg z1 z2 e)=(fX e && !aCm e):=rfl
theorem aIk {z1 z2 a b}:fS (.swap z1 z2 a b)=(fX a && fX b):=rfl
theorem aIr {z1 z2 e}:fS (.asg2 z1 z2 e)=(fX e):=rfl
theorem aLc {z1 z2 e}:fS (.aug z1 z2 e)=(fX e):=rfl
theorem aIm {z1 k e}:fS (.setI z1 k e)=(fX k && fX e):=rfl
theorem aIl {z1 k l e}:fS (.setJ z1 k l e)=(fX k && fX l && fX e):=rfl
theorem aLe {z1 e}:fS (.app z1 e)=(fX e):=rfl
theorem aLb {z1 e}:fS (.ext z1 e)=(fX e):=rfl
theorem aIp {z1 a b}:fS (.hadd z1 a b)=(fX a && fX b):=rfl
theorem aLa {t a b}:fS (.iff t a b)=(fX t && fSs a && fSs b):=rfl
theorem aIq {z1 it b}:fS (.forS z1 it b)=(fIt it && fSs b):=rfl
theorem aIj {t b}:fS (.whil t b)=(fX t && fSs b):=rfl
theorem aK9 {e}:fS (.ret e)=(fX e):=rfl
theorem aIo {z1 a}:fS (.hdel z1 a)=(fX a):=rfl
theorem aIn {z1 a b}:fS (.hset z1 a b)=(fX a && fX b):=rfl
theorem aFs {x xs}:fSs (.cons x xs)=(fS x && fSs xs):=rfl
structure aQr (c:cG)(W:Nat):Prop where
 o:Out c
 made:∀ i,kU c W (.asgH i)
 add:∀ i a b,bG c a->bG c b->kU c W (.hadd i a b)
 del:∀ i a,bG c a->kU c W (.hdel i a)
 set:∀ i a b,bG c a->bG c b->kU c W (.hset i a b)
section
variable {c:cG}
theorem aND (C:bE c)(O:Out c)(x:X)(h:fX x=true)(h2:aCm x=false):aHf c x:=by
 by_cases hx:pU x=false
 .exact aLN (bR C O x h).1 hx
 .cases x with
  | comp elt t it ifs =>
   have h:=aRF h;exact aLO C (all_It C O it h.1.2) (all_Xs C O ifs h.2).2.1 (bR C O elt h.1.1).1
  | _=>exact absurd rfl hx
mutual
theorem aQj (C:bE c){W:Nat}(O:aQr c W):∀ x,fS x=true->kU c W x
 | .asg m i e=>fun h=>by exact aSb (aLd.symm.trans h) fun h_0 h_1=>aOy W (aND C O.o e h_0 h_1)
 | .asgH i=>fun _=>O.made i
 | .swap i j a b=>fun h=>by simp only[aIk,Bool.and_eq_true]at h;exact aMi W (bR C O.o a h.1).1 (bR C O.o b h.2).1
 | .asg2 i j e=>fun h=>by simp only[aIr]at h;exact aMq W (bR C O.o e h).1
 | .aug i op e=>fun h=>by simp only[aLc]at h;exact aOx W (bR C O.o e h).1
 | .setI i k e=>fun h=>by simp only[aIm,Bool.and_eq_true]at h;exact aMk W (bR C O.o k h.1).1 (bR C O.o e h.2).1
 | .setJ i k l e=>fun h=>by simp only[aIl,Bool.and_eq_true]at h;exact aMj W (bR C O.o k h.1.1).1 (bR C O.o l h.1.2).1 (bR C O.o e h.2).1
 | .ext i e=>fun h=>by simp only[aLb]at h;exact aOw C W (bR C O.o e h).1
 | .app i e=>fun h=>by simp only[aLe]at h;exact aOz C W (bR C O.o e h).1
 | .hadd i a b=>fun h=>by simp only[aIp,Bool.and_eq_true]at h;exact O.add i a b (bR C O.o a h.1).1 (bR C O.o b h.2).1
 | .hdel i a=>fun h=>by simp only[aIo]at h;exact O.del i a (bR C O.o a h).1
 | .hset i a b=>fun h=>by simp only[aIn,Bool.and_eq_true]at h;exact O.set i a b (bR C O.o a h.1).1 (bR C O.o b h.2).1
 | .iff t a b=>fun h=>by simp only[aLa,Bool.and_eq_true]at h;exact aOv C W (bR C O.o t h.1.1).2 (all_Sts C O a h.1.2) (all_Sts C O b h.2)
 | .forS t it b=>fun h=>by simp only[aIq,Bool.and_eq_true]at h;exact aMo C W (all_It C O.o it h.1) (all_Sts C O b h.2)
 | .whil t b=>fun h=>by simp only[aIj,Bool.and_eq_true]at h;exact aMh W (bR C O.o t h.1).2 (all_Sts C O b h.2)
 | .ret e=>fun h=>by simp only[aK9]at h;exact aOu W (bR C O.o e h).1
 | .frz i=>fun h=>fun n A env Bad M M' F P E E' r s x Q Er X hc ho hx h1 h2=>by simp[aFO]at hc
theorem all_Sts (C:bE c){W:Nat}(O:aQr c W):∀ xs,fSs xs=true->tP c W xs
 | .nil=>fun _=>aMf W
 | .cons x xs=>fun h=>by
  exact aAK (aFs.symm.trans h) fun h_0 h_1=>aJg W (aQj C O x h_0) (all_Sts C O xs h_1)
end
end
theorem iJ {J β γ:Type}(m:Sem J)(f:J->Sem β)(K:β->Sem γ)(H:Value->Sem γ) (gd lv):(m >>= f).wrap K H gd lv=m.wrap (fun a=>(f a).wrap K H gd lv) H gd lv:=by
 rw[Sem.bind_eq_wrap',Sem.wrap_wrap];rfl
section
variable {M:Model} {A:Around} {R:GenEnd} {Y:Protocol} {n:Nat} {s₀:Shared} {c:Code} {fs:List Frame} {s:Shared} {env:Env}
 {K:Flow->Sem Fin} {H:Value->Sem Fin} {gd:Bool->Bool} {lv:List Value->List Value}
theorem aOG {test:Expr}{body orelse:List Stmt}{pos:Pos}
  (h:∀ Er,wpAny M (A.over c fs) (isTrue test env (eval test env)) (fun b s'=>Seg M A R Y n s₀ c ((execs (if b=true then body else orelse) env).wrap K H gd lv) fs s') Er s) :
  Seg M A R Y n s₀ c ((exec (.If test body orelse pos) env).wrap K H gd lv) fs s:=by
 rw[exec_If];refine seg_at ?_;show Seg M A R Y n s₀ c ((isTrue test env (eval test env) >>= fun b=>if b=true then execs body env else execs orelse env).wrap K H gd lv) fs s
 rw[iJ];refine seg_wrap (wpAny_mono (h _) (fun b s' hb=>?_) fun u_ u_ x=>x)
 induction b with
 | true=>exact hb
 | false=>exact hb
theorem aMt {target iter:Expr}{body:List Stmt}{pos:Pos}(hs:∀ x,foldedSetIterable iter env x=pure x)
  (h:∀ Er,wpAny M (A.over c fs) (eval iter env) (fun x s₁=>wpAny M (A.over c fs) (pyIter x) (fun it s₂=>∀ p,Seg M A R Y n s₀ (.forLoop target it body [] env) (M.den (.forLoop target it body [] env))
   (.ret (fun r=>((match r with | .ok f=>(.pure f:Sem Flow) | .error e=>.raise e).onRaise fun(x:Value)=>do
    if (<-field x 1) == Value.none then unsupported "frame.own-activation:exception-without-traceback"
    setFlight x env.frame).wrap K H gd lv) none (gd false) (lv []) c p []::fs) s₂) Er s₁) Er s) :
  Seg M A R Y n s₀ c ((exec (.For target iter body [] pos) env).wrap K H gd lv) fs s:=by
 rw[exec_For];refine seg_at ?_;show Seg M A R Y n s₀ c ((eval iter env >>= fun v=>foldedSetIterable iter env v >>= fun x=>standAt iter.pos >>= fun u_=>holding [x] (pyIter x) >>= fun it=>runOwn (.forLoop target it body [] env) env).wrap K H gd lv) fs s;rw[iJ];refine seg_wrap (wpAny_mono (h _) (fun x s₁ h₁=>?_) fun u_ u_ x=>x);rw[hs x];refine seg_at ?_;show Seg M A R Y n s₀ c ((holding [x] (pyIter x) >>= fun it=>runOwn (.forLoop target it body [] env) env).wrap K H gd lv) fs s₁;rw[iJ];refine seg_wrap (wpAny_holding (wpAny_mono h₁ (fun it s₂ h₂=>?_) fun u_ u_ x=>x));exact seg_call h₂
end
section
variable {prog:Program} {w:World} {A:Around} {R:GenEnd} {Y:Protocol} {n:Nat} {s₀:Shared} {fs:List Frame} {s:Shared} {env:Env}
set_option tactic.hygienic true in
theorem vB {target:Expr}{it:Value}{body:List Stmt}
  (h:∀ Er,wpAny (model prog w) (A.over (.forLoop target it body [] env) fs) (pyNext it) (fun r s₁=>match r with
    | none=>Seg (model prog w) A R Y n s₀ (.block [] env) (.pure (.done .next)) fs s₁
    | some v=>wpAny (model prog w) (A.over (.forLoop target it body [] env) fs) (letOwnedTupleGo target it v) (fun _ s₂=>wpAny (model prog w) (A.over (.forLoop target it body [] env) fs) (assign target env v) (fun _ s₃ =>
      Seg (model prog w) A R Y n s₀ (.forLoop target it body [] env) ((execs body env).wrap (fun f=>match f with
       | .next | .cont=>.pure (.again (.forLoop target it body [] env))
       | .brk=>.pure (.done .next)
       | .ret v=>.pure (.done (.ret v))) (fun e=>(do noteFrame e env;theTreesLotGoes e:Sem Unit).wrap (fun _=>.raise e) .raise id id) id id) fs s₃) Er s₂) Er s₁) Er s) :
  Seg (model prog w) A R Y n s₀ (.forLoop target it body [] env) ((model prog w).den (.forLoop target it body [] env)) fs s:=by
 show Seg _ A R Y n s₀ _ ((forTurn target it body [] env).onRaise (fun x=>do noteFrame x env;theTreesLotGoes x)) fs s
 rw[Sem.onRaise_eq_wrap]
 have hH:(fun e=>(do noteFrame e env;theTreesLotGoes e:Sem Unit).bind fun _=>(.raise e:Sem Fin))=fun e=>(do noteFrame e env;theTreesLotGoes e:Sem Unit).wrap (fun _=>.raise e) .raise id id:=by
  funext e;exact Sem.bind_eq_wrap _ _
 rw[hH];generalize (fun e=>(do noteFrame e env;theTreesLotGoes e:Sem Unit).wrap (fun _=>(.raise e:Sem Fin)) .raise id id)=HN at h ⊢
 show Seg _ A R Y n s₀ _ ((standAt target.pos >>= fun _=>(pyNext it).onRaise (fun _=>standAt { target.pos with line:=0 }) >>= fun r=>match r with
  | none=>again (.block [] env)
  | some v=>letOwnedTupleGo target it v >>= fun _=>assign target env v >>= fun _=>execs body env >>= fun f=>match f with
   | .next | .cont=>again (.forLoop target it body [] env)
   | .brk=>pure (.done .next)
   | .ret v=>pure (.done (.ret v))).wrap .pure HN id id) fs s
 refine seg_at ?_
 show Seg _ A R Y n s₀ _ (((pyNext it).onRaise (fun _=>standAt { target.pos with line:=0 }) >>= fun r=>match r with
  | none=>again (.block [] env)
  | some v=>letOwnedTupleGo target it v >>= fun _=>assign target env v >>= fun _=>execs body env >>= fun f=>match f with
   | .next | .cont=>again (.forLoop target it body [] env)
   | .brk=>pure (.done .next)
   | .ret v=>pure (.done (.ret v))).wrap .pure HN id id) fs s
 rw[iJ];refine seg_wrap (wpAny_onRaise (wpAny_mono (h _) (fun r s₁ h₁=>?_) fun _ _ h'=>wpAny_standAt h'))
 induction r with
 | none=>exact seg_again rfl h₁
 | some v =>
  show Seg _ A R Y n s₀ _ ((letOwnedTupleGo target it v >>= fun _=>assign target env v >>= fun _=>execs body env >>= fun f=>match f with
   | .next | .cont=>again (.forLoop target it body [] env)
   | .brk=>pure (.done .next)
   | .ret v=>pure (.done (.ret v))).wrap .pure HN id id) fs s₁
  rw[iJ];refine seg_wrap (wpAny_mono h₁ (fun _ s₂ h₂=>?_) fun _ _ x=>x);rw[iJ];refine seg_wrap (wpAny_mono h₂ (fun _ s₃ h₃=>?_) fun _ _ x=>x);rw[iJ]
  rw[Sem.wrap_congr (execs body env) id id (K':=fun f=>match f with
       | .next | .cont=>.pure (.again (.forLoop target it body [] env))
       | .brk=>.pure (.done .next)
       | .ret v=>.pure (.done (.ret v))) (H':=HN) (fun f=>by cases f <;> rfl) (fun e=>rfl)]
  exact h₃
end
noncomputable def yI:Addr->Prop:=fun u_=>False
theorem bL.flatH {Own Own':Addr->Prop}{h h':Heap}{v:Value}{d:PyData}(hn:noL d=true)(x:bL Own h v d):bL Own' h' v d:=by
 cases d with
 | none=>rw[x.none];exact .mkNone
 | bool b=>rw[x.bool];exact .mkBool
 | int i=>(refine e1a1 x.int ?_;rintro t rfl);exact .mkInt
 | str i=>(refine e1a1 x.str ?_;rintro t rfl);exact .mkStr
 | list _=>exact absurd hn aN
 | tuple _=>exact absurd hn aN
 | dict _=>exact absurd hn aN
structure GX (c:cG)(env:Env)(P:Nat->Option Value)(E:AE)(s:Shared):Prop where
 eok:fB env
 base:dK c s.heap
 sto:lP env s.heap P
 nocell:env.cells=[]
 vars:∀ i pv,E i=some pv->∃ v d,P i=some v/\pv=.dat d/\noL d=true/\bL yI s.heap v d
 nl:c.h0.get? env.locals=none
 arg:∃ x,E 16=some x
structure aQn (c:cG)(L:Addr)(s s':Shared):Prop where
 base:dK c s'.heap
 l:∀ o,s.heap.get? L=some o->s'.heap.get? L=some o
 f:∀ b o fs,o.data=.fields fs->s.heap.get? b=some o->s'.heap.get? b=some o
section
variable {c:cG} {env:Env} {P P':Nat->Option Value} {E E':AE} {s s':Shared} {A:Around}
theorem GX.cx (X:GX c env P E s)(R:fO 0 A):Cx c 0 A yI env (fun u_=>0) E s:=by
 refine⟨X.eok,R,X.base,⟨?_⟩,fun a h=>h.elim,fun x a h=>by rw[X.nocell]at h;exact cM h⟩
 (refine e1a2 X.sto.ns ?_;rintro m hm hl);refine⟨m,hm,fun i pv e u_=>?_⟩;(refine e2a4 (X.vars i pv e) ?_;rintro v d h1 rfl u_ h2);exact⟨v,hl i v h1,.dat h2⟩
theorem GX.stp (X:GX c env P E s)(x:cS s s'):GX c env P E s' :=
 ⟨X.eok,X.base.keep x.keep,X.sto.keep x.keep,X.nocell,fun i pv e=>e2a4 (X.vars i pv e) fun v d h1 h2 h3 h4=>⟨v,d,h1,h2,h3,h4.keep x.keep⟩,X.nl,X.arg⟩
theorem GX.move (X:GX c env P E s)(B:dK c s'.heap)(hL:∀ o,s.heap.get? env.locals=some o->s'.heap.get? env.locals=some o):GX c env P E s' :=
 ⟨X.eok,B,X.sto.at hL (fun x a u_ h=>by rw[X.nocell]at h;exact cM h),X.nocell,fun i pv e=>e2a4 (X.vars i pv e) fun v d h1 h2 h3 h4=>⟨v,d,h1,h2,h3,h4.flatH h3⟩,X.nl,X.arg⟩
theorem GX.wait (X:GX c env P E s)(w:aQn c env.locals s s'):GX c env P E s':=X.move w.base w.l
theorem GX.kb {ids:List Nat}{h':Heap}(X:GX c env P E s)(k:Kb env ids s.heap h'):∀ b o,b≠env.locals->s.heap.get? b=some o->h'.get? b=some o :=
 fun b o hb e=>k b o hb (fun i u_ u_ hl=>by rw[X.nocell]at hl;exact cM hl) e
theorem GX.base_kb {ids:List Nat}{h':Heap}(X:GX c env P E s)(k:Kb env ids s.heap h'):dK c h' :=
 X.base.new fun b o e0 e=>X.kb k b o (fun q=>by rw[q,X.nl]at e0;exact cM e0) e
theorem GX.nohd (X:GX c env P E s){o:Obj}(e:s.heap.get? env.locals=some o):¬ (o.data=.plain\/HdD o):=by
 (refine e1a2 X.sto.ns ?_;rintro m ⟨o',es,ep,ho',hd',hk,hm⟩ hl);rw[e]at ho';(replace ho':=(aA ho').symm;subst ho');(refine e1a1 X.arg ?_;rintro x hx);(refine e2a2 (X.vars 16 x hx) ?_;rintro v d h1 u_);rintro(h | ⟨hs,t,u,n,h⟩)
 .rw[h]at hd';cases hd'
 .rw[h]at hd'
  cases hd'
  rcases hl 16 v h1 with ⟨u_,q⟩ | ⟨u_,a,q,u_⟩
  .rw[<-hm (nm 16)]at q
   have:nsFind #[⟨hs,.str "_headers" t,u⟩] (nm 16)=none:=by
    unfold nsFind findBy
    rw[show(#[⟨hs,.str "_headers" t,u⟩]:Array DictEntry).find? (fun e=>e.key.isStr (nm 16))=none from by
     rw[Array.find?_singleton];exact if_neg (show ¬ ((Str.ofString "_headers" == nm 16)=true)by decide +kernel)]
    rfl
   rw[this]at q;exact cM q
  .rw[X.nocell]at q;exact cM q
theorem GX.locd (X:GX c env P E s){o:Obj}(e:s.heap.get? env.locals=some o):∃ es n,o.data=.dict es n:=by
 (refine e1a2 X.sto.ns ?_;rintro m ⟨o',es,ep,ho',hd',u_⟩ u_);rw[e]at ho';(replace ho':=(aA ho').symm;subst ho');exact⟨_,_,hd'⟩
theorem GX.mv {old:Addr->Prop}{h':Heap}{tk:Nat}{l:List Addr}(X:GX c env P E s)(hl:∀ b∈l,¬ old b/\∀ o,s.heap.get? b=some o->∃ fs,o.data=.fields fs)(k:∀ b o,b≠env.locals->b ∉ l->s.heap.get? b=some o->h'.get? b=some o) :
  Mv old [env.locals] [] s { s with heap:=h',toks:=tk }:=by
 refine⟨fun b o hb q e=>k b o (fun h=>hb (h ▸ aF)) (fun m=>?_) e,fun b o vs n hd e=>k b o (fun h=>?_) (fun m=>?_) e,fun b o hd e=>k b o (fun h=>?_) (fun m=>?_) e,Nat.le_refl _,fun u_ u_ u_=>rfl,fun x=>x,rfl⟩
 .rcases q with q | q
  .exact(hl b m).1 q
  ·(refine e1a1 ((hl b m).2 o e) ?_;rintro fs hf);exact q fs hf
 ·(refine e2a1 (X.locd (h ▸ e)) ?_;rintro es n' hq);rw[hd]at hq;cases hq
 ·(refine e1a1 ((hl b m).2 o e) ?_;rintro fs hf);rw[hd]at hf;cases hf
 .exact X.nohd (h ▸ e) hd
 ·(refine e1a1 ((hl b m).2 o e) ?_;rintro fs hf)
  rcases hd with hd | ⟨u_,u_,u_,u_,hd⟩ <;> rw[hd]at hf <;> cases hf
theorem GX.set {ids:List Nat}{h':Heap}{tk:Nat}(X:GX c env P E s)(k:Kb env ids s.heap h')(So:lP env h' P')(G:Got yI ids h' P P' E E')(hn:∀ j∈ids,∀ d,E' j=some (.dat d)->noL d=true)(h16:16 ∉ ids):GX c env P' E' { s with heap:=h',toks:=tk }:=by
 refine⟨X.eok,X.base_kb k,So,X.nocell,fun j pv e=>?_,X.nl,?_⟩
 .by_cases hj:j∈ids
  ·(refine e2a3 ((G j).1 hj) ?_;rintro v d h1 h2 h3)
   rw[h2]at e;(replace e:=(aA e).symm;subst e);exact⟨v,d,h1,rfl,hn j hj d h2,h3⟩
  .obtain ⟨h1,h2⟩:=(G j).2 hj
   rw[h2]at e;(refine e2a4 (X.vars j pv e) ?_;rintro v d q1 q2 q3 q4);exact⟨v,d,h1.trans q1,q2,q3,q4.flatH q3⟩
 ·(refine e1a1 X.arg ?_;rintro x hx)
  exact⟨x,((G 16).2 h16).2.trans hx⟩
set_option tactic.hygienic true in
theorem aRl {i:Nat}{e:X}{ex:Stmt}{d:PyData}{Q:Flow->Shared->Prop}{Er:Value->Shared->Prop}{old:Addr->Prop}(R:fO 0 A)(X:GX c env P E s)(he:bG c e)
  (hc:rA env.scope i (aS c.fnm c.rk 0 env.scope e) ex=true) (ho:cJ (fun _=>0) e=true) (h0:hJ (fun _=>0) e=0) (hd:ev c.G c.T e E=some d) (hn:noL d=true) (hi:i≠16)
  (hn1:pU e=false)
  (h:∀ P' s',GX c env P' (E.set i (.dat d)) s'->Mv old [env.locals] [] s s'->(∀ b o,b≠env.locals->s.heap.get? b=some o->s'.heap.get? b=some o)->Q .next s'):wpAny (model c.prog c.w) A (exec ex env) Q Er s:=by
 (refine e3a4 (xT hc) ?_;rintro p v pos rfl c1 c2 c3);have hlc:aPx v=false:=aJT fun a b d p e=>eR (hn1.symm.trans (aGp (e ▸ c3)));refine wpAny_Assign_Name (he 0 A env _ _ E s v d _ Er (X.cx R) c3 ho hd fun w s' st r _=>?_) (aA0 c2 hlc);rw[h0]at r;have X1:=X.stp st;refine fZ X1.eok X1.sto c1 fun h' tk k So=>?_
 have G:Got yI [i] h' P (wC P i w) E (E.set i (.dat d)):=fun j=>⟨fun m=>by
  rw[aH m]
  exact⟨w,d,if_pos rfl,if_pos rfl,bL.flatH hn r⟩,fun m=>by
  have hj:¬ j=i:=fun e=>m (e ▸ List.mem_singleton.mpr rfl);exact⟨if_neg hj,if_neg hj⟩⟩
 refine h _ _ (X1.set k So G (fun j hj d' e=>?_) (fun m=>hi (aH m).symm)) ((Mv.of_stp st).trans (X1.mv (l:=[]) (fun b m=>nomatch m) fun b o hb _ e=>X1.kb k b o hb e)) fun b o hb e=>X1.kb k b o hb (st.keep b o e);rw[aH hj]at e;have e:some (PV.dat d)=some (.dat d'):=by rw[<-e];exact(if_pos rfl).symm
 cases e;exact hn
end
noncomputable def gR (L a:Addr):GenEnd:=fun n s₀ r s₁=>r=.ok (.ret .none)/\(n=0/\Mv (fun b=>b<=a) [L] [] s₀ s₁)
noncomputable def gY (c:cG)(L a:Addr)(all:List PyData):Protocol:=fun m s₀ v s kap =>
 (∃ d,all[all.length - 1 - m]?=some d/\bL yI s.heap v d)/\dK c s.heap/\(∃ o,s.heap.get? L=some o)/\Mv (fun b=>b<=a) [L] [] s₀ s/\∀ s'',aQn c L s s''->kap (.send .none) s''
noncomputable def xE1:X:=.tup (.cons (.var 19) (.cons (.bin .add (.str [92]) (.var 20)) .nil))
noncomputable def xE2:X:=.tup (.cons (.var 19) (.cons (.var 20) .nil))
noncomputable def xE3:X:=.tup (.cons (.var 19) (.cons (.str [92]) .nil))
noncomputable def xT2:X:=.cmp1 .eq (.var 20) (.str [92])
theorem aRy {c:cG}(C:bE c):bG c xE1:=aCw C (kL C (cQ 19) (kL C (aLn C (uO _) (cQ 20)) pX))
theorem aRx {c:cG}(C:bE c):bG c xE2:=aCw C (kL C (cQ 19) (kL C (cQ 20) pX))
theorem aRw {c:cG}(C:bE c):bG c xE3:=aCw C (kL C (cQ 19) (kL C (uO _) pX))
theorem aQO {c:cG}(C:bE c):fW c xT2:=wM C (cQ 20) (uO _)
theorem aNI {c:cG}:fW c (.var 112):=cP (cQ 112) fun n sc e h=>by simp only[nO]at h;(refine e1a2 (fG h) ?_;rintro u_ rfl u_);rfl
section
variable {c:cG} {env:Env} {P:Nat->Option Value} {E:AE} {s s₀:Shared} {A:Around} {a:Addr} {all:List PyData} {n:Nat} {code:Code} {fs:List Frame}
 {K:Flow->Sem Fin} {H:Value->Sem Fin} {gd:Bool->Bool} {lv:List Value->List Value}
set_option tactic.hygienic true in
theorem aCq {e:X}{ex:Expr}{yp pos:Pos}{d:PyData}(R:fO 0 (A.over code fs))(X:GX c env P E s)(he:bG c e)(hc:aS c.fnm c.rk 0 env.scope e ex=true)(ho:cJ (fun _=>0) e=true)(h0:hJ (fun _=>0) e=0)
  (hd:ev c.G c.T e E=some d) (hidx:all[all.length - 1 - n]?=some d) (hfs:splitAtGen fs=none) (hgd:gd false=false) (hfg:fs.any Frame.guarded=false) (hM:Mv (fun b=>b<=a) [env.locals] [] s₀ s)
  (h:∀ s'',GX c env P E s''->(∀ b o fs,o.data=.fields fs->s.heap.get? b=some o->s''.heap.get? b=some o)->Seg (model c.prog c.w) A (gR env.locals a) (gY c env.locals a all) n s'' code (K .next) fs s'') :
  Seg (model c.prog c.w) A (gR env.locals a) (gY c env.locals a all) (n+1) s₀ code ((exec (.Expr (.Yield (some ex) yp) pos) env).wrap K H gd lv) fs s:=by
 refine seg_Expr_Yield hfs hgd hfg (he 0 _ env _ _ E s ex d _ _ (X.cx R) hc ho hd fun v s' st r _=>?_) X.eok.co (iN X.eok);intro kap hk;rw[h0]at r;have X1:=X.stp st;exact⟨⟨d,hidx,r⟩,X1.base,e1a2 X1.sto.ns fun u_ q u2_=>e3a2 q fun o u3_ u4_ ho u5_=>⟨o,ho⟩,hM.trans (.of_stp st),fun s'' w=>hk .none s'' (h s'' (X1.wait w) fun b o fs hf e=>w.f b o fs hf (st.keep b o e))⟩
theorem aCr {i:Nat}{e:X}{ex:Stmt}{d:PyData}{rest:List Stmt}(R:fO 0 (A.over code fs))(X:GX c env P E s)(he:bG c e)
  (hc:rA env.scope i (aS c.fnm c.rk 0 env.scope e) ex=true) (ho:cJ (fun u_=>0) e=true) (h0:hJ (fun u_=>0) e=0) (hd:ev c.G c.T e E=some d) (hn:noL d=true) (hi:i≠16)
  (hn1:pU e=false) (hM:Mv (fun b=>b<=a) [env.locals] [] s₀ s)
  (h:∀ P' s',GX c env P' (E.set i (.dat d)) s'->Mv (fun b=>b<=a) [env.locals] [] s₀ s'->(∀ b o,b≠env.locals->s.heap.get? b=some o->s'.heap.get? b=some o) ->
   Seg (model c.prog c.w) A (gR env.locals a) (gY c env.locals a all) n s₀ code ((execs rest env).wrap K H gd lv) fs s') :
  Seg (model c.prog c.w) A (gR env.locals a) (gY c env.locals a all) n s₀ code ((execs (ex::rest) env).wrap K H gd lv) fs s :=
 seg_execs_cons (seg_wrap (aRl (old:=fun b=>b<=a) R X he hc ho h0 hd hn hi hn1 fun P' s' X' m k=>h P' s' X' (hM.trans m) k))
set_option tactic.hygienic true in
theorem aPJ {t:X}{te:Expr}{body orelse:List Stmt}{pos:Pos}{d:PyData}{b:Bool}{rest:List Stmt}(R:fO 0 (A.over code fs))(X:GX c env P E s)(ht:fW c t)
  (hc:aS c.fnm c.rk 0 env.scope t te=true) (ho:cJ (fun _=>0) t=true) (hd:ev c.G c.T t E=some d) (hb:tr d=some b)
  (h:∀ s',cS s s'->Seg (model c.prog c.w) A (gR env.locals a) (gY c env.locals a all) n s₀ code ((execs (if b=true then body else orelse) env).wrap (fun f=>match f with | .next=>(execs rest env).wrap K H gd lv | f=>K f) H gd lv) fs s') :
  Seg (model c.prog c.w) A (gR env.locals a) (gY c env.locals a all) n s₀ code ((execs (.If te body orelse pos::rest) env).wrap K H gd lv) fs s :=
 seg_execs_cons (aOG fun Er=>ht 0 _ env _ _ E s te d b _ Er (X.cx R) hc ho hd hb fun s' st=>h s' st)
end
theorem tD {all ds:List PyData}{d:PyData}{k:Nat}(h:all.drop k=d::ds):all[all.length - 1 - ds.length]?=some d/\all.drop (k+1)=ds:=by
 have hl:all.length - k=ds.length+1:=by have:=congrArg List.length h;simpa using this
 have hk:all.length - 1 - ds.length=k:=by omega
 refine⟨?_,?_⟩
 .rw[hk]
  have:=congrArg (fun l=>l[0]?) h
  simpa using this
 .have:=congrArg (List.drop 1) h
  rw[List.drop_drop]at this
  simpa [Nat.add_comm] using this
section
variable {c:cG} {env:Env} {P:Nat->Option Value} {E:AE} {s s₀:Shared} {A:Around} {a:Addr} {all:List PyData} {n:Nat}
structure aHd (c:cG)(env:Env)(tg:Expr)(body:List Stmt):Prop where
 tgt:nP env.scope (.tup [19,20]) tg=true
 sh:∃ t1 e1 y1 q1 s2 t2 s3 e2 y2 q2 p1 p2,body=[.If t1 [.Expr (.Yield (some e1) y1) q1,s2] [.If t2 [s3] [.Expr (.Yield (some e2) y2) q2] p2] p1] /\
  aS c.fnm c.rk 0 env.scope (.var 112) t1=true/\aS c.fnm c.rk 0 env.scope xE1 e1=true/\rA env.scope 112 (aS c.fnm c.rk 0 env.scope (.bool false)) s2=true /\
  aS c.fnm c.rk 0 env.scope xT2 t2=true/\rA env.scope 112 (aS c.fnm c.rk 0 env.scope (.bool true)) s3=true/\aS c.fnm c.rk 0 env.scope xE2 e2=true
noncomputable def aF0 (h:Heap)(e it:Addr)(x:Str)(t:Tok)(i:Nat):Prop:=(∃ old,IsEnum h e it i old)/\h.IsStrIter it "str_ascii_iterator" x t i
theorem aF0.keep {h h':Heap}{e it:Addr}{x:Str}{t:Tok}{i:Nat}(S:aF0 h e it x t i)(k:∀ b o fs,(b=e\/b=it)->o.data=.fields fs->h.get? b=some o->h'.get? b=some o):aF0 h' e it x t i:=by
 (refine cA fun G_ hG_=>?_;rcases S with ⟨⟨o1,h1⟩,o2,h2,h3,h4⟩;all_goals (refine hG_ ?_;clear hG_ G_))
 exact⟨⟨o1,k e _ _ (.inl rfl) rfl h1⟩,o2,k it o2 _ (.inr rfl) h4 h2,h3,h4⟩
theorem aRs {h:Heap}{e it:Addr}(h1:∃ o fs,h.get? e=some o/\o.data=.fields fs)(h2:∃ o fs,h.get? it=some o/\o.data=.fields fs):∀ b∈[e,it],∀ o,h.get? b=some o->∃ fs,o.data=.fields fs:=by
 intro b hb o ho
 rcases aM hb with rfl | hb
 ·(refine e2a2 h1 ?_;try clear h1;rintro o1 fs q d)
  exact⟨fs,(congrArg Obj.data (aA (ho.symm.trans q))).trans d⟩
 .obtain rfl:=aH hb
  (refine e2a2 h2 ?_;try clear h2;rintro o1 fs q d);exact⟨fs,(congrArg Obj.data (aA (ho.symm.trans q))).trans d⟩
theorem aF0.fld {h:Heap}{e it:Addr}{x:Str}{t:Tok}{i:Nat}(S:aF0 h e it x t i):∀ b∈[e,it],∀ o,h.get? b=some o->∃ fs,o.data=.fields fs :=
 let ⟨⟨_,h1⟩,_,h2,_,h4⟩:=S
 aRs ⟨_,_,h1,rfl⟩ ⟨_,_,h2,h4⟩
section
variable {code:Code} {fs:List Frame} {K:Flow->Sem Fin} {H:Value->Sem Fin} {gd:Bool->Bool} {lv:List Value->List Value}
set_option tactic.hygienic true in
theorem aPL (C:bE c){tg:Expr}{body:List Stmt}(B:aHd c env tg body)(R:fO 0 (A.over code fs))(hfs:splitAtGen fs=none)(hgd:gd false=false)(hfg:fs.any Frame.guarded=false)
  {i:Nat} {b:Bool} {cc:Nat} {r:List Nat} {k:Nat} (X:GX c env P E s) (e19:E 19=some (.dat (.int i))) (e20:E 20=some (.dat (S [cc]))) (e112:E 112=some (.dat (.bool b))) (M:Mv (fun b=>b<=a) [env.locals] [] s₀ s)
  (hk:all.drop k=bT (cc::r) i b)
  (again:∀ (b':Bool) (s₀' s':Shared) (P':Nat->Option Value) (E':AE) (k':Nat),GX c env P' E' s'->E' 112=some (.dat (.bool b'))->E' 19=some (.dat (.int i)) ->
   (∀ x o fs,x≠env.locals->o.data=.fields fs->s.heap.get? x=some o->s'.heap.get? x=some o)->Mv (fun b=>b<=a) [env.locals] [] s₀' s'->all.drop k'=bT r (i+1) b' ->
   Seg (model c.prog c.w) A (gR env.locals a) (gY c env.locals a all) (bT r (i+1) b').length s₀' code (K .next) fs s') :
  Seg (model c.prog c.w) A (gR env.locals a) (gY c env.locals a all) (bT (cc::r) i b).length s₀ code ((execs body env).wrap K H gd lv) fs s:=by
 (refine cA fun G_ hG_=>?_;rcases B with ⟨htg,t1,e1,y1,q1,s2,t2,s3,e2,y2,q2,p1,p2,rfl,b1,b2,b3,b4,b5,b6⟩;all_goals (refine hG_ ?_;clear hG_ G_))
 clear htg;refine aPJ R X aNI b1 rfl (d:=.bool b) (b:=b) (by(dsimp only[bD];rw[aI,e112])) rfl fun s4 st4=>?_
 have X4:=X.stp st4;have M4:=M.trans (.of_stp st4);clear M
 induction b with
 | true =>
  obtain ⟨hix,hk1⟩:=tD (show all.drop k=.tuple [.int i,S [92,cc]]::bT r (i+1) false from hk);refine seg_execs_cons (aCq R X4 (aRy C) b2 rfl rfl (d:=.tuple [.int i,S [92,cc]]) ?_ hix hfs hgd hfg M4 fun s5 X5 I5=>?_)
  .simp only[xE1,pD,bD,iF,pC,uM,cL,aI,e19,e20,aD]
   rfl
  .refine aCr R X5 (sZ false) b3 rfl rfl rfl rfl (by decide) rfl (.refl s5) fun P6 s6 X6 M6 k6=>?_
   exact again false s5 s6 P6 _ (k+1) X6 rfl e19 (fun y o f hy hf q=>k6 y o hy (I5 y o f hf (st4.keep y o q))) M6 hk1
 | false =>
  have hev:ev c.G c.T xT2 E=some (.bool (decide ([cc]=[92]))):=by
   simp only[xT2,pD,bD,lY,aI,e20,aD];rfl
  refine aPJ R X4 (aQO C) b4 rfl hev rfl fun s5 st5=>?_;have X5:=X4.stp st5;have M5:=M4.trans (.of_stp st5);have st5:=st4.trans st5;clear hev X X4 M4 st4
  by_cases h92:cc=92
  .subst h92
   refine aCr R X5 (sZ true) b5 rfl rfl rfl rfl (by decide) rfl M5 fun P6 s6 X6 M6 k6=>?_
   exact again true s₀ s6 P6 _ k X6 rfl e19 (fun y o f hy hf q=>k6 y o hy (st5.keep y o q)) M6 hk
  .rw[if_neg (by simp[h92])]
   have hn:(bT (cc::r) i false)=.tuple [.int i,S [cc]]::bT r (i+1) false:=if_neg h92;rw[hn]at hk ⊢;obtain ⟨hix,hk1⟩:=tD hk;refine seg_execs_cons (aCq R X5 (aRx C) b6 rfl rfl (d:=.tuple [.int i,S [cc]]) ?_ hix hfs hgd hfg M5 fun s6 X6 I6=>?_)
   .simp only[xE2,bD,pC,uM,cL,aI,e19,e20,aD]
   .exact again false s6 s6 P _ (k+1) X6 e112 e19 (fun y o f hy hf q=>I6 y o f hf (st5.keep y o q)) (.refl s6) hk1
end
set_option tactic.hygienic true in
theorem aPI (C:bE c){tg:Expr}{body:List Stmt}{e it:Addr}{x:Str}{t:Tok}{kf:Result->Sem Fin}{cf:Code} {p kp}(hR:∀ code,code=(.forLoop tg (.ref e) body [] env:Code)->fO 0 (A.over code [.ret kf none false [] cf p kp]))
  (B:aHd c env tg body) (hei:e≠it) (heL:e≠env.locals) (hiL:it≠env.locals) (hae:a < e) (hai:a < it) (h0e:c.h0.get? e=none) (h0i:c.h0.get? it=none) (hh:A.handled=none) (hx:mF (sl x)=true) (hlen:(sl x).length<=100000)
  (after:∀ (i:Nat) (b:Bool) (s₀ s:Shared) (P:Nat->Option Value) (E:AE) (k:Nat),GX c env P E s->E 112=some (.dat (.bool b))->(b=true->E 19=some (.dat (.int ((i:Int) - 1))))->Mv (fun b=>b<=a) [env.locals] [] s₀ s ->
   all.drop k=bT [] i b->Seg (model c.prog c.w) A (gR env.locals a) (gY c env.locals a all) (bT [] i b).length s₀ cf (kf (.ok .next)) [] s) :
  ∀ (l:List Nat) (i:Nat) (b:Bool) (s₀ s:Shared) (P:Nat->Option Value) (E:AE) (k:Nat),(sl x).drop i=l->i<=(sl x).length->GX c env P E s->E 112=some (.dat (.bool b))->(b=true->E 19=some (.dat (.int ((i:Int) - 1)))) ->
   aF0 s.heap e it x t i->Mv (fun b=>b<=a) [env.locals] [] s₀ s->all.drop k=bT l i b ->
   Seg (model c.prog c.w) A (gR env.locals a) (gY c env.locals a all) (bT l i b).length s₀ (.forLoop tg (.ref e) body [] env) ((model c.prog c.w).den (.forLoop tg (.ref e) body [] env)) [.ret kf none false [] cf p kp] s:=by
 have htg:=B.tgt;(refine e3a1 (aGZ htg) ?_;rintro es kk pp rfl);have R:=hR _ rfl;have D:=Draws.strAscii (prog:=c.prog) (w:=c.w) (A:=(A.over (.forLoop (.Tuple es kk pp) (.ref e) body [] env) [.ret kf none false [] cf p kp]).in1) R.hand it x t;have W:=WalksT.enumerateD D e hei (by simpa using hei) (by simp)
 have hsz:x.cps.size=(sl x).length:=by simp[sl]
 have nold:∀ b∈[e,it],¬ b<=a:=aDy (P:=fun b=>¬ b<=a) (Nat.not_le.mpr hae) (Nat.not_le.mpr hai);have hLm:env.locals ∉ [e,it]:=by simp[heL.symm,hiL.symm]
 have base':∀ {h h':Heap},dK c h->(∀ b o,b ∉ [e,it]->h.get? b=some o->h'.get? b=some o)->dK c h':=fun Bs k=>Bs.new fun b o e0 e1=>k b o (fun m=>aDy (P:=fun b=>c.h0.get? b=some o->False) (fun e0=>cM (h0e.symm.trans e0)) (fun e0=>cM (h0i.symm.trans e0)) b m e0) e1
 have mvI:∀ {P:Nat->Option Value} {E:AE} {s:Shared} {h':Heap} {tk:Tok},GX c env P E s->(∀ b∈[e,it],∀ o,s.heap.get? b=some o->∃ fs,o.data=.fields fs)->(∀ b o,b ∉ [e,it]->s.heap.get? b=some o->h'.get? b=some o) ->
   GX c env P E { s with heap:=h',toks:=tk }/\Mv (fun b=>b<=a) [env.locals] [] s { s with heap:=h',toks:=tk }:=fun X I hk =>
  ⟨X.move (base' X.base hk) fun o e=>hk _ o hLm e,X.mv (old:=fun b=>b<=a) (l:=[e,it]) (fun b hb=>⟨nold b hb,I b hb⟩) fun b o _ hb e=>hk b o hb e⟩
 intro l
 induction l with
 | nil =>
  intro i b s₀ s P E k hl hi X hb h19 I hM hk
  have hii:i=x.cps.size:=by
   have:=congrArg List.length hl;simp only[List.length_drop,List.length_nil]at this
   grind
  refine vB fun Er=>W.done s _ _ (hii ▸ I) fun h' tk hk'=>?_;have q:=mvI (tk:=tk) X I.fld hk';exact seg_leaf (.ok .next) (after i b s₀ _ P E k q.1 hb h19 (hM.trans q.2) hk)
 | cons ch r ih =>
  intro i b s₀ s P E k hl hi X hb h19 I hM hk;have hlt:i < (sl x).length:=Nat.lt_of_not_le fun h=>by rw[List.drop_of_length_le h]at hl;exact nomatch hl
  have hch:(sl x)[i]?=some ch:=by
   have:=congrArg (fun l=>l[0]?) hl
   simpa using this
  have hl1:(sl x).drop (i+1)=r:=by
   have:=congrArg (List.drop 1) hl;rw[List.drop_drop]at this
   simpa [Nat.add_comm] using this
  refine vB fun Er=>W.item i s _ _ (hsz ▸ hlt) I fun T vals h' tk hP hTs hT hm hk'=>?_;have q1:=mvI (tk:=tk) X I.fld hk';have M1:=hM.trans q1.2;have X1:=q1.1;clear X hM q1;have hm0:=hm;(refine aRz hm ?_;try clear hm;rintro⟨xo,he1⟩ hit1 hTe hTi);refine W.go es kk pp i T _ _ Er hm0 fun h2 st2 hk2=>?_;clear hm0;have q2:=mvI (tk:=tk) X1 (let ⟨_,h2,_,h4⟩:=hit1;aRs ⟨_,_,he1,rfl⟩ ⟨_,_,h2,h4⟩) hk2
  have X2:=q2.1;have M2:=M1.trans q2.2;clear X1 M1 q2;(refine e2a2 hP ?_;try clear hP;rintro tt xv hPx rfl);(refine e2a2 hPx ?_;try clear hPx;rintro cc u hcc rfl)
  have:cc=ch:=by
   have h3:(sl x)[i]?=some cc:=by simp[sl,hcc]
   rw[hch]at h3;exact(aA h3).symm
  subst this
  have hrd:bL yI h2 (.ref T) (.tuple [.int i,S [cc]]):=by
   (refine e1a2 hT ?_;try clear hT;rintro o ho r);exact bL.tuple ⟨o,hk2 T o (by simp[hTe,hTi]) ho,r⟩ (.cons .mkInt (.cons .mkStr .nil))
  refine xC (s:={ s with heap:=h2,toks:=tk }) R.hand X2.eok htg hrd (E:=E) (E':=(E.set 19 (.dat (.int i))).set 20 (.dat (S [cc]))) rfl X2.sto fun h3 tk3 P3 kb3 So3 G3=>?_
  have X3:GX c env P3 _ { s with heap:=h3,toks:=tk3 }:=X2.set kb3 So3 G3 (aDy (P:=fun j=>∀ d:PyData,((E.set 19 (.dat (.int i))).set 20 (.dat (S [cc]))) j=some (.dat d)->noL d=true) (fun d ed=>by cases ed;rfl) (fun d ed=>by cases ed;rfl)) (by decide)
  have M3:=M2.trans (X2.mv (h':=h3) (tk:=tk3) (old:=fun b=>b<=a) (l:=[]) (fun b m=>nomatch m) fun b o hb _ e=>X2.kb kb3 b o hb e);refine aPL C B R rfl rfl rfl X3 rfl rfl hb M3 hk fun b' s₀' s' P' E' k' X' q1 q2 q3 q4 q5=>?_;refine seg_again rfl (ih (i+1) b' s₀' s' P' E' k' hl1 (Nat.succ_le_of_lt hlt) X' q1 (fun _=>by rw[q2];congr 3;lia) ?_ q4 q5)
  exact aF0.keep st2 fun y o f hy hf e=>q3 y o f (fun z=>hy.elim (fun q=>heL (q.symm.trans z)) (fun q=>hiL (q.symm.trans z))) hf (X2.kb kb3 y o (fun z=>hy.elim (fun q=>heL (q.symm.trans z)) (fun q=>hiL (q.symm.trans z))) e)
end
section
variable {c:cG} {env:Env} {P:Nat->Option Value} {E:AE} {s s₀:Shared} {A:Around} {a:Addr} {all:List PyData} {n:Nat}
theorem aDe {body:List Stmt}(R:fO 2 A):fO 0 (A.over (.func body env) []) :=
 ⟨by show A.depth+0+(1+0+0+0)+0 < _;have:=R.depth;lia,by show A.units+0+3+20 * 0+200 < _;have:=R.units;lia,R.hand⟩
theorem aQW {body lb:List Stmt}{tg:Expr}{it:Value} {kf p kp}(R:fO 2 A):fO 0 (A.over (.forLoop tg it lb [] env) [.ret kf none false [] (.func body env) p kp]) :=
 ⟨by show A.depth+((1+0+0+0)+0)+(0+0+0+0)+0 < _;have:=R.depth;lia,by show A.units+(3+0)+0+20 * 0+200 < _;have:=R.units;lia,R.hand⟩
structure aOb (c:cG)(env:Env)(body:List Stmt):Prop where
 sh:∃ s0 s1 tg iter lb p1 t3 e3 y3 q3 p3,body=[s0,s1,.For tg iter lb [] p1,.If t3 [.Expr (.Yield (some e3) y3) q3] [] p3]/\rA env.scope 19 (aS c.fnm c.rk 0 env.scope (.int 0)) s0=true /\
  rA env.scope 112 (aS c.fnm c.rk 0 env.scope (.bool false)) s1=true/\aHd c env tg lb/\gE iter=true/\sO env.scope "enumerate" (aS c.fnm c.rk 0 env.scope (.var 16)) iter=true /\
  aS c.fnm c.rk 0 env.scope (.var 112) t3=true/\aS c.fnm c.rk 0 env.scope xE3 e3=true
theorem aPK (C:bE c){body:List Stmt}{x:Str}(R:fO 2 A)(B:aOb c env body)(X:GX c env P E s)(h16:E 16=some (.dat (.str x)))(hx:mF (sl x)=true)(hlen:(sl x).length<=100000)(ha:∃ o,s.heap.get? a=some o)(hL:env.locals < a)
  (hM:Mv (fun b=>b<=a) [env.locals] [] s₀ s) (hall:all=bT (sl x) 0 false) :
  Seg (model c.prog c.w) A (gR env.locals a) (gY c env.locals a all) all.length s₀ (.func body env) ((model c.prog c.w).den (.func body env)) [] s:=by
 (refine cA fun G_ hG_=>?_;rcases B with ⟨s0,s1,tg,iter,lb,p1,t3,e3,y3,q3,p3,rfl,b0,b1,bl,bn,bi,bt,be⟩;all_goals (refine hG_ ?_;clear hG_ G_))
 refine seg_func ?_;refine aCr (aDe R) X (uR 0) b0 rfl rfl rfl rfl (by decide) rfl hM fun P1 s1' X1 M1 k1=>?_
 refine aCr (aDe R) X1 (sZ false) b1 rfl rfl rfl rfl (by decide) rfl M1 fun P2 s2 X2 M2 k2=>?_
 refine seg_execs_cons (aMt (sF bn) fun Er=>?_);(refine e3a4 (nB bi) ?_;rintro z pz q rfl h1 h2 h3);refine wpAny_Call_NameR (iB C (x:="enumerate") (by decide) X2.eok X2.base h1 ?_)
 rw[iM h2];have e16:((E.set 19 (.dat (.int 0))).set 112 (.dat (.bool false))) 16=some (.dat (.str x)):=h16;have e112:((E.set 19 (.dat (.int 0))).set 112 (.dat (.bool false))) 112=some (.dat (.bool false)):=rfl;generalize hE3:(E.set 19 (.dat (.int 0))).set 112 (.dat (.bool false))=E3 at X2 e16 e112;refine PySem.callWith_type1 (cQ 16 0 _ env _ _ E3 s2 z (.str x) _ Er (X2.cx (aDe R)) h3 rfl (by simp only[bD,aI,e16]) fun v s3 st3 r u_=>?_)
 (refine e1a1 r.any.str ?_;rintro t rfl);have X3:=X2.stp st3;have M3:=M2.trans (.of_stp st3);refine call_enumerate_str fun h' he hit hsz hkp=>wpAny_pyIter_enum he fun p=>?_
 have hasc:strIterType x="str_ascii_iterator":=by
  unfold strIterType;refine if_pos ?_;rw[<-Array.all_toList];refine cD fun c hc=>?_;have:=aJ hx c hc
  simpa using this
 rw[hasc]at hit;have st4:cS s3 { s3 with heap:=h' }:=.heap hkp
 have X4:=X3.stp st4;have M4:=M3.trans (.of_stp st4)
 have hLa:a < s3.heap.objs.size:=by
  (refine e1a1 ha ?_;try clear ha;rintro o ho);exact Heap.lt_size (st3.keep _ _ (k2 _ _ (Nat.ne_of_gt hL) (k1 _ _ (Nat.ne_of_gt hL) ho)))
 have fresh:∀ b,s3.heap.objs.size<=b->c.h0.get? b=none:=fun b hb=>by
  cases hh:c.h0.get? b with
  | none=>rfl
  | some o=>exact absurd (Heap.lt_size (X3.base.k0 b o hh)) (Nat.not_lt.mpr hb)
 subst hall
 refine aPI C (t:=t) (a:=a) (fun code hc=>hc ▸ aQW R) bl (Nat.ne_of_gt (Nat.lt_succ_self _)) (Nat.ne_of_gt (Nat.lt_trans hL (Nat.lt_succ_of_lt hLa))) (Nat.ne_of_gt (Nat.lt_trans hL hLa)) (Nat.lt_succ_of_lt hLa) hLa (fresh _ (Nat.le_succ _)) (fresh _ (Nat.le_refl _))
  R.hand hx hlen ?_ (sl x) 0 false s₀ _ P2 E3 0 rfl (Nat.zero_le _) X4 e112 (fun h=>nomatch h) ⟨⟨_,he⟩,hit⟩ M4 rfl
 intro i b s₀' s' P' E' k' X' f112 f19 M' hk';show Seg _ A _ _ _ s₀' _ ((execs [.If t3 [.Expr (.Yield (some e3) y3) q3] [] p3] env).wrap _ _ id id) [] s';refine aPJ (aDe R) X' aNI bt rfl (d:=.bool b) (b:=b) (by simp only[bD,aI,f112]) rfl fun s5 st5=>?_
 have X5:=X'.stp st5;have M5:=M'.trans (.of_stp st5)
 induction b with
 | false =>
  rw[if_neg aN];exact seg_end (.ok (.ret .none)) ⟨rfl,rfl,M5⟩
 | true =>
  rw[if_pos rfl];have f19:=f19 rfl;obtain ⟨hix,hk1⟩:=tD (show _=PyData.tuple [.int ((i:Int) - 1),S [92]]::[]from hk');show Seg _ A _ _ (0+1) _ _ _ _ _;refine seg_execs_cons (aCq (aDe R) X5 (aRw C) be rfl rfl (d:=.tuple [.int ((i:Int) - 1),S [92]]) ?_ hix rfl rfl rfl M5 fun s6 X6 I6=>?_)
  .simp only[xE3,pD,bD,pC,uM,cL,aI,f19,aD]
  .exact seg_end (.ok (.ret .none)) ⟨rfl,rfl,.refl s6⟩
end
section
variable {prog:Program} {w:World} {A:Around} {Er:Value->Shared->Prop} {s:Shared}
theorem aDu {a:Addr}{g n:Nat}{gs:GenState}{P:Nat->Shared->Shared->Prop}{Y:Protocol}{Q:Option Value->Shared->Prop}(hh:A.handled=none)(hl:s.heap.NoLimit)(hroom:A.depth < recursionLimit)
  (hg:s.heap.IsGen a g) (hgs:s.gens[g]?=some gs)
  (hgo:gs.Goes (model prog w) A.in1 (fun n s₀ r s₁=>r=.ok (.ret .none)/\P n s₀ s₁) Y n (.send .none) (s.setGen g .running))
  (hY:∀ v s₁ gs',gs'.bare=true->Y (n - 1) (s.setGen g .running) v s₁ (fun r' s''=>match n with
    | 0=>False
    | m+1=>gs'.Goes (model prog w) A.in1 (fun n s₀ r s₁=>r=.ok (.ret .none)/\P n s₀ s₁) Y m r' s'')->Q (some v) (s₁.setGen g gs'))
  (hP:∀ s₁,P n (s.setGen g .running) s₁->∀ h',bY s₁.heap h'->Q none { s₁.setGen g .finished with heap:=h' }) :
  wpAny (model prog w) A (pyNext (.ref a)) Q Er s:=by
 unfold pyNext;refine wpAny_bind (wpAny_attempt (wpAny_callSpecial?_slot (name:=Str.ofString "__next__") hg.typeIs slot_gen_next (wpAny_call_entry slot_gen_next hg.typeIs entry_gen_next ?_ (args_gen_next _))));show wpAny _ A.in1 (Builtin.Generator.genWake (.ref a) (.send .none)) _ _ s;unfold Builtin.Generator.genWake;refine wpAny_bind (wpAny_holding (wpAny_genNumber hg (wpAny_bind (wpAny_genState hgs ?_))))
 cases gs with
 | running=>exact hgo.elim
 | finished=>exact hgo.elim
 | _ =>
  refine wpAny_bind (wpAny_roomToWake hl hroom ?_);show wpAny _ A.in1 (.resume g (.send .none) [] _) _ _ s;refine wpAny_resumeQ hgs hgo (fun x s₁ hx=>?_) (fun v s₁ gs' hb hv=>wpAny_pure ⟨v,rfl,wpAny_pure (hY v s₁ gs' hb hv)⟩);obtain ⟨rfl,hp⟩:=hx;show wpAny _ A.in1 (newExc (.type "StopIteration") [] >>= _) _ _ _;refine wpAny_bind ?_;simp only[newExc,newTuple];refine wpAny_bind (wpAny_newObj_type ?_ (by size_fits))
  refine wpAny_bind (m:=firstArgMember _ _) (wpAny_of_eq (a:=Value.none) (by first | rfl | (simp only[firstArgMember];rfl)) ?_)
  refine wpAny_newObj_type ?_ (by size_fits)
  unfold raiseNew;refine wpAny_bind (wpAny_bind (wpAny_handled ?_))
  first | rw[show A.in1.handled=none from hh] | rw[hh]
  refine wpAny_throw ?_;refine wpAny_bind (wpAny_isInstance (T:="StopIteration") (b:=true) ⟨_,Heap.get?_push_size _ rfl,rfl⟩ isSubtype_stop ?_);exact wpAny_pure (hP s₁ hp _ fun b o hb=>Heap.get?_push_of_some _ (Heap.get?_push_of_some _ hb))
end
structure GAt (c:cG)(A:Around)(a:Addr)(g:Nat)(L:Addr)(all ds:List PyData)(s:Shared):Prop where
 gen:s.heap.IsGen a g
 la:∃ o,s.heap.get? L=some o
 suf:∃ k,all.drop k=ds
 go:∃ gs,s.gens[g]?=some gs/\∀ s'',aQn c L s s''->gs.Goes (model c.prog c.w) A.in1 (gR L a) (gY c L a all) ds.length (.send .none) s''
theorem qZ {s:Shared}{g:Nat}{x y:GenState}(h:s.gens[g]?=some x):(s.setGen g y).gens[g]?=some y:=setGen_self h
theorem tZ {s:Shared}{g i:Nat}{y:GenState}(h:i≠g):(s.setGen g y).gens[i]?=s.gens[i]?:=(GenOnly.setGen s g y).2 i h
theorem gQ {s:Shared}{g:Nat}{y:GenState}:(s.setGen g y).gens.size=s.gens.size:=(GenOnly.setGen s g y).1
theorem uZ {s:Shared}{g:Nat}{y:GenState}(hy:y.bare=true)(h:AllBare s.gens):AllBare (s.setGen g y).gens:=by
 intro z hz;(refine e1a1 (Array.mem_iff_getElem.mp hz) ?_;rintro i hz_;obtain ⟨hi,rfl⟩:=hz_)
 by_cases e:i=g
 .subst e
  have hi':i < s.gens.size:=by rwa [gQ]at hi
  have h1:=qZ (y:=y) (Array.getElem?_eq_getElem hi');rw[Array.getElem?_eq_getElem hi]at h1;rw[aA h1];exact hy
 .have h1:=tZ (s:=s) (y:=y) e
  have hi':i < s.gens.size:=by rwa [gQ]at hi
  rw[Array.getElem?_eq_getElem hi,Array.getElem?_eq_getElem hi']at h1;rw[aA h1];exact h _ (Array.getElem_mem hi')
theorem Mv.gens {old old':Addr->Prop}{L:Addr}{g:Nat}{s s₁:Shared}{x y:GenState}{h':Heap}(hx:s.gens[g]?=some x)(hy:y.bare=true)(ho:∀ b,old' b->old b)(m:Mv old [L] [] (s.setGen g .running) s₁)(k:bY s₁.heap h') :
  Mv old' [L] [g] s { s₁.setGen g y with heap:=h' }:=by
 have hg:g < s.gens.size:=(Array.getElem?_eq_some_iff.mp hx).1;refine⟨fun b o hb q e=>k _ _ (m.keep b o hb (q.imp (ho b) id) e),fun b o vs n hd e=>k _ _ (m.seq b o vs n hd e),fun b o hd e=>k _ _ (m.hd b o hd e),?_,fun i hi hn=>?_,fun hb=>?_,m.os⟩
 .show _<=(s₁.setGen g y).gens.size
  rw[gQ];have:=m.size
  rwa [gQ]at this
 .have hig:i≠g:=fun e=>hn (e ▸ aF)
  show(s₁.setGen g y).gens[i]?=_;rw[tZ hig,m.gold i (by rw[gQ];exact hi) (fun q=>nomatch q),tZ hig]
 .exact uZ hy (m.bare (uZ rfl hb))
noncomputable def aGg (d:PyData):Prop:=∃ i x,d=.tuple [.int i,.str x]
theorem jQ:∀ (l:List Nat)(i:Nat)(b:Bool),∀ d∈bT l i b,aGg d
 | [],_,false=>fun u_ m=>nomatch m
 | [],_,true=>fun d m=>by
  have m:=aH (show d∈[PyData.tuple [.int _,S [92]]]from m);subst m;exact⟨_,_,rfl⟩
 | ch::r,i,true=>fun d m=>by
  rcases aM (show d∈PyData.tuple [.int i,S [92,ch]]::bT r (i+1) false from m)with rfl | m
  .exact⟨_,_,rfl⟩
  .exact jQ r (i+1) false d m
 | ch::r,i,false=>fun d m=>by
  replace m:d∈(if ch=92 then bT r (i+1) true else PyData.tuple [.int i,S [ch]]::bT r (i+1) false):=m
  split at m
  .exact jQ r (i+1) true d m
  .rcases aM m with rfl | m
   .exact⟨_,_,rfl⟩
   .exact jQ r (i+1) false d m
theorem aMB {X Y:Addr->Prop}{h:Heap}{v:Value}{d:PyData}(hd:aGg d)(x:bL X h v d):bL Y h v d:=by
 (refine e2a1 hd ?_;clear hd;rintro i u rfl)
 ·(refine e2a3 x.untuple ?_;rintro a vs rfl ht hx)
  refine bL.tuple ht ?_;generalize vs.toList=l at hx
  cases hx with
  | cons r1 r2 =>
   cases r2 with
   | cons r2 r3 =>
    cases r3;(refine e1a1 r1.int ?_;rintro t rfl);(refine e1a1 r2.str ?_;rintro u rfl);exact .cons .mkInt (.cons .mkStr .nil)
section
variable {c:cG} {A:Around} {Er:Value->Shared->Prop} {s:Shared}
set_option tactic.hygienic true in
theorem Wk.gen {OX:Addr->Prop}{s0:Shared}{a:Addr}{g:Nat}{L:Addr}{all:List PyData}(R:fO 3 A)(hold:∀ b,(∃ o,s0.heap.get? b=some o)->b<=a)(hLa:a≠L)(hall:∀ d∈all,aGg d) :
  Wk c A OX s0 false (.ref a) [a,L] [L] [g] (GAt c A a g L all) (fun d ds v s=>GAt c A a g L all ds s/\bL yI s.heap v d/\aGg d) where
 stay:=by
  rintro ds s s' st hk hg _;(refine e1a2 st.go ?_;rintro gs h1 h2)
  exact⟨let ⟨o,x,y,ho,r⟩:=st.gen;⟨o,x,y,hk a o (.inl aF) ho,r⟩,let ⟨o,ho⟩:=st.la;⟨o,hk L o (.inl (by simp)) ho⟩,st.suf,gs,(hg g aF).trans h1,
   fun s'' w=>h2 s'' ⟨w.base,fun o e=>w.l o (hk L o (.inl (by simp)) e),fun b o fs hf e=>w.f b o fs hf (hk b o (.inr ⟨fs,hf⟩) e)⟩⟩
 liv:=by
  rintro ds s st b hb;simp only[List.mem_cons,List.not_mem_nil,or_false]at hb
  rcases hb with rfl | rfl
  ·(refine e3a2 st.gen ?_;rintro o _ _ ho _);exact⟨o,ho⟩
  .exact st.la
 next:=by
  rintro d ds s Q Er Bs st _ hQ;(refine e1a2 st.go ?_;rintro gs hgs hgo);(refine e1a1 st.suf ?_;rintro k hk);obtain ⟨hix,hk1⟩:=tD hk;refine aDu (P:=fun n s₀ s₁=>n=0/\Mv (fun b=>b<=a) [L] [] s₀ s₁) R.hand Bs.lim (by have:=R.depth;lia) st.gen hgs (hgo (s.setGen g .running) ⟨Bs,fun _ e=>e,fun _ _ _ _ e=>e⟩) (fun v s₁ gs' hb hv=>?_) (fun s₁ hp h' hk=>?_)
  ·(refine aP5 hv ?_;try clear hv;rintro⟨d',hix',hrd⟩ B1 l1 M1 hkap)
   have hix':all[all.length - 1 - ds.length]?=some d':=hix';rw[hix]at hix';replace hix':=aA hix';subst hix';have hr:s₁.gens[g]?=some .running:=(M1.gold g (by rw[gQ];exact(Array.getElem?_eq_some_iff.mp hgs).1) (fun q=>nomatch q)).trans (qZ hgs)
   refine hQ v (s₁.setGen g gs') (Mv.gens hgs hb hold M1 (.refl _)) ⟨⟨?_,l1,⟨k+1,hk1⟩,gs',qZ hr,fun s'' w=>hkap s'' ⟨w.base,w.l,w.f⟩⟩,hrd,hall d ?_⟩
   ·(refine e3a2 st.gen ?_;rintro o x y ho r)
    exact⟨o,x,y,M1.keep a o (fun m=>hLa (aH m)) (.inl (Nat.le_refl _)) ho,r⟩
   .exact List.mem_of_getElem? hix
  .exact absurd hp.1 (Nat.succ_ne_zero _)
 go:=by
  rintro target d ds v s Q Er _ hz_;(refine wH hz_ ?_;try clear hz_;rintro st hrd hp);rintro _ hQ;(refine e3a3 st.gen ?_;rintro o _ _ ho hc _);exact aDR ho hc (by decide) (hQ s (.refl s) st (aMB hp hrd))
 done:=by
  rintro s Q Er Bs st hQ;(refine e1a2 st.go ?_;rintro gs hgs hgo);refine aDu (P:=fun n s₀ s₁=>n=0/\Mv (fun b=>b<=a) [L] [] s₀ s₁) R.hand Bs.lim (by have:=R.depth;lia) st.gen hgs (hgo (s.setGen g .running) ⟨Bs,fun _ e=>e,fun _ _ _ _ e=>e⟩) (fun v s₁ gs' hb hv=>?_) (fun s₁ hp h' hk=>?_)
  ·(refine aP5 hv ?_;try clear hv;rintro _ B1 _ _ hkap)
   exact False.elim (hkap s₁ ⟨B1,fun _ e=>e,fun _ _ _ _ e=>e⟩)
  .exact hQ _ (Mv.gens hgs rfl hold hp.2 hk)
 self:=by
  rintro ds s Q Er st hQ;exact wpAny_pyIter_gen st.gen hQ
end
noncomputable def dYi (s:Stmt)(k:Expr->Bool):Bool:=rT s fun e u1_=>aCD e fun o u2_=>mB o k
@[elab_as_elim] theorem zP {P:Stmt->Prop}{s:Stmt}{k:Expr->Bool}(h:dYi s k=true)(g:∀ x p q,k x=true->P (.Expr (.Yield (some x) p) q)):P s:=by
 refine fL h fun e q h=>?_;refine aCC h fun o p h=>?_;refine gK h fun x h=>?_;exact g x p q h
section
variable (fnm:Nat->Str) (rk:Nat->Nat)
noncomputable def aPM (sc:Scope)(s:Stmt):Bool :=
 zQ s fun t2 b o u1_=>bC b fun s3 r=>bV r (bC o fun y r=>bV r (dYi y fun e2=>aS fnm rk 0 sc xT2 t2 && rA sc 112 (aS fnm rk 0 sc (.bool true)) s3 && aS fnm rk 0 sc xE2 e2))
noncomputable def gLb (sc:Scope)(lb:List Stmt):Bool :=
 bC lb fun s r=>bV r (zQ s fun t1 b o u1_=>bC b fun y r=>bC r fun s2 r=>bV r (bC o fun s3 r=>bV r (dYi y fun e1=>aS fnm rk 0 sc (.var 112) t1 && aS fnm rk 0 sc xE1 e1 && rA sc 112 (aS fnm rk 0 sc (.bool false)) s2 && aPM fnm rk sc s3)))
noncomputable def aRm (sc:Scope)(s:Stmt):Bool :=
 aBJ s fun tg iter lb o u1_=>bV o (nP sc (.tup [19,20]) tg && gE iter && sO sc "enumerate" (aS fnm rk 0 sc (.var 16)) iter && gLb fnm rk sc lb)
noncomputable def aRn (sc:Scope)(s:Stmt):Bool :=
 zQ s fun t3 b o u1_=>bV o (bC b fun y r=>bV r (dYi y fun e3=>aS fnm rk 0 sc (.var 112) t3 && aS fnm rk 0 sc xE3 e3))
noncomputable def aFR (sc:Scope)(body:List Stmt):Bool :=
 bC body fun s0 r=>bC r fun s1 r=>bC r fun s2 r=>bC r fun s3 r=>bV r (rA sc 19 (aS fnm rk 0 sc (.int 0)) s0 && rA sc 112 (aS fnm rk 0 sc (.bool false)) s1 && aRm fnm rk sc s2 && aRn fnm rk sc s3)
end
theorem aKP {fnm:Nat->Str}{rk:Nat->Nat}{sc:Scope}{s:Stmt}(h:aPM fnm rk sc s=true):∃ t2 s3 e2 y2 q2 p2,s=.If t2 [s3] [.Expr (.Yield (some e2) y2) q2] p2/\aS fnm rk 0 sc xT2 t2=true/\rA sc 112 (aS fnm rk 0 sc (.bool true)) s3=true/\aS fnm rk 0 sc xE2 e2=true:=by
 refine fT h fun t2 z1 z2 p2 h=>?_;refine aL h fun s3 z3 h=>?_;refine aO h fun h=>?_;refine aL h fun z4 z5 h=>?_;refine aO h fun h=>?_;refine zP h fun e2 y2 q2 h=>?_;exact aBs h fun h1 h2 h3=>⟨_,_,_,_,_,_,rfl,h1,h2,h3⟩
theorem aM6 {fnm:Nat->Str}{rk:Nat->Nat}{sc:Scope}{lb:List Stmt}(h:gLb fnm rk sc lb=true):∃ t1 e1 y1 q1 s2 s3 p1,lb=[.If t1 [.Expr (.Yield (some e1) y1) q1,s2] [s3] p1]/\aS fnm rk 0 sc (.var 112) t1=true/\aS fnm rk 0 sc xE1 e1=true/\rA sc 112 (aS fnm rk 0 sc (.bool false)) s2=true/\aPM fnm rk sc s3=true:=by
 refine aL h fun z1 z2 h=>?_;refine aO h fun h=>?_;refine fT h fun t1 z3 z4 p1 h=>?_;refine aL h fun z5 z6 h=>?_;refine aL h fun s2 z7 h=>?_;refine aO h fun h=>?_;refine aL h fun s3 z8 h=>?_;refine aO h fun h=>?_;refine zP h fun e1 y1 q1 h=>?_;exact lM h fun h1 h2 h3 h4=>⟨_,_,_,_,_,_,_,rfl,h1,h2,h3,h4⟩
theorem aKR {fnm:Nat->Str}{rk:Nat->Nat}{sc:Scope}{s:Stmt}(h:aRn fnm rk sc s=true):∃ t3 e3 y3 q3 p3,s=.If t3 [.Expr (.Yield (some e3) y3) q3] [] p3/\aS fnm rk 0 sc (.var 112) t3=true/\aS fnm rk 0 sc xE3 e3=true:=by
 refine fT h fun t3 z1 z2 p3 h=>?_;refine aO h fun h=>?_;refine aL h fun z3 z4 h=>?_;refine aO h fun h=>?_;refine zP h fun e3 y3 q3 h=>?_;exact aAK h fun h1 h2=>⟨_,_,_,_,_,rfl,h1,h2⟩
theorem aKQ {fnm:Nat->Str}{rk:Nat->Nat}{sc:Scope}{s:Stmt}(h:aRm fnm rk sc s=true):∃ tg iter lb p1,s=.For tg iter lb [] p1/\nP sc (.tup [19,20]) tg=true/\gE iter=true/\sO sc "enumerate" (aS fnm rk 0 sc (.var 16)) iter=true/\gLb fnm rk sc lb=true:=by
 refine nI h fun tg iter lb z1 p1 h=>?_;refine aO h fun h=>?_;exact lM h fun h1 h2 h3 h4=>⟨_,_,_,_,rfl,h1,h2,h3,h4⟩
theorem aKO {c:cG}{env:Env}{tg:Expr}{lb:List Stmt}(ht:nP env.scope (.tup [19,20]) tg=true)(h:gLb c.fnm c.rk env.scope lb=true):aHd c env tg lb:=by
 (refine e7a5 (aM6 h) ?_;rintro t1 e1 y1 q1 s2 s3 p1 rfl g1 g2 g3 h);(refine e6a4 (aKP h) ?_;rintro t2 s3 e2 y2 q2 p2 rfl g4 g5 g6);exact⟨ht,_,_,_,_,_,_,_,_,_,_,_,_,rfl,g1,g2,g3,g4,g5,g6⟩
theorem aKS {c:cG}{env:Env}{body:List Stmt}(h:aFR c.fnm c.rk env.scope body=true):aOb c env body:=by
 refine aL h fun s0 z1 h=>?_;refine aL h fun s1 z2 h=>?_;refine aL h fun s2 z3 h=>?_;refine aL h fun s3 z4 h=>?_;refine aO h fun h=>?_;(refine lM h ?_;clear h;rintro h1 h2 h3 h4);(refine e4a5 (aKQ h3) ?_;rintro tg iter lb p1 rfl g1 g2 g3 g4);(refine e5a3 (aKR h4) ?_;rintro t3 e3 y3 q3 p3 rfl g5 g6);exact⟨_,_,_,_,_,_,_,_,_,_,_,rfl,h1,h2,aKO g1 g4,g2,g3,g5,g6⟩
structure aOa (c:cG)(fd:FuncData)(body:List Stmt):Prop where
 code:c.h0.CodeRec fd.code fd.qualname
 bd:fd.body=.stmts body
 isG:fd.scope.isGenerator=true
 co:fd.scope.isCoroutine=false
 kind:fd.scope.kind=.function
 more:fd.scope.more.any (fun(n,_)=>n == ("interactive":Str))=false
 glob:fd.globals=mainGlobals
 bui:fd.builtins=builtinsNs
 clo:fd.closure=[]
 names:∀ p∈fd.scope.names,p.2≠.cell/\p.2≠.free
 arg:fd.scope.names.lookup (nm 16)=some .local
 bind:∀ v:Value,bindArgs fd ⟨[v],[]⟩=pure [(nm 16,v)]
 chk:aFR c.fnm c.rk fd.scope body=true
noncomputable def aHc (c:cG):Prop:=∃ ga o fd body,c.mg "_iter_escaped_chars"=some (.ref ga)/\c.h0.get? ga=some o/\o.data=.func fd/\aOa c fd body
section
variable {c:cG}
theorem aKL (C:bE c){ga:Addr}{o:Obj}{fd:FuncData}{body:List Stmt}(hd:o.data=.func fd)(ho0:c.h0.get? ga=some o)(K:aOa c fd body){A:Around}{s:Shared}{x:Str}{t:Tok}{R:Result->Shared->Prop}
  (hroom:A.depth < recursionLimit) (B:dK c s.heap) (hx:mF (sl x)=true) (hlen:(sl x).length<=100000)
  (h:∀ a g L s',cS s s'->s.heap.get? a=none->s.heap.get? L=none->a≠L->s.gens.size<=g->g < s'.gens.size->(∀ b,(∃ o,s'.heap.get? b=some o)->b<=a) ->
   (∀ A',fO 3 A'->GAt c A' a g L (bT (sl x) 0 false) (bT (sl x) 0 false) s')->R (.ok (.ret (.ref a))) s') :
  codeAny (model c.prog c.w) A (.call (.ref ga) ⟨[.str x t],[]⟩) R s:=by
 have hcr:s.heap.CodeRec fd.code fd.qualname:=by
  (refine e4a4 K.code ?_;rintro cc oc vs tq e1 e2 e3 e4);exact⟨cc,oc,vs,tq,e1,B.k0 _ _ e2,e3,e4⟩
 refine codeAny_call_generator hroom (B.k0 _ _ ho0) hd K.co K.isG K.bd hcr ?_;rw[K.bind];refine wpAny_pure (wpAny_newFunctionEnv (fun y hy=>(K.names y hy).1) (fun y hy=>?_) (fun h' hn' hs'=>?_) K.kind)
 .rw[aH hy];exact K.arg
 have hL:∀ b o,s.heap.get? b=some o->h'.get? b=some o:=fun b o e=>(hs'.2 b (Nat.ne_of_lt (Heap.lt_size e))).trans (Heap.get?_push_of_some _ e);have st1:cS s { s with heap:=h',toks:=s.toks+[(nm 16,Value.str x t)].length }:=.of hL
 have B1:dK c h':=B.keep hL;refine⟨B1.lim,?_⟩;generalize hE:newEnv fd.scope s.heap.objs.size fd.globals fd.closure (fd.qualname++".<locals>.") (some ga) fd.code none fd.builtins=env;have e1:env.scope=fd.scope:=by rw[<-hE];rfl
 have e2:env.locals=s.heap.objs.size:=by rw[<-hE];rfl
 have e3:env.globals=mainGlobals:=by rw[<-hE];exact K.glob
 have e4:env.builtins=builtinsNs:=by rw[<-hE];exact K.bui
 have e5:env.cells=[]:=by rw[<-hE];exact K.clo
 have hsz:h'.objs.size=s.heap.objs.size+1:=by rw[hs'.1,Heap.size_push]
 have kd:∀ y,env.kindOf y=some .cell\/env.kindOf y=some .free->False:=by
  intro y hy;have hy:env.scope.names.lookup y=some .cell\/env.scope.names.lookup y=some .free:=hy;rw[e1]at hy
  rcases hy with q | q
  .exact(K.names _ (cH q)).1 rfl
  .exact(K.names _ (cH q)).2 rfl
 have eok:fB env:=⟨by rw[e1];exact K.kind,e3,e4,by rw[e1];exact K.co,by rw[e1];exact K.more,fun y hy=>(kd y hy).elim,fun y z b hy=>by rw[e5]at hy;exact cM hy⟩
 generalize hO:({ cls:=.type "generator",data:=.fields #[.int s.gens.size 0,.str fd.name (s.toks+[(nm 16,Value.str x t)].length),.str fd.qualname (s.toks+[(nm 16,Value.str x t)].length+1)] }:Obj)=og;have kp:bY h' (h'.push og):=.push _ _;have hga:(h'.push og).get? h'.objs.size=some og:=Heap.get?_push_size _ (by rw[<-hO];rfl)
 refine h h'.objs.size s.gens.size s.heap.objs.size _ ?_ ?_ ?_ ?_ (Nat.le_refl _) ?_ ?_ ?_
 .refine⟨fun b o e=>kp _ _ (hL b o e),⟨?_,fun i hi=>?_,fun hb=>AllBare.push hb rfl⟩,rfl⟩
  .show s.gens.size<=(s.gens.push _).size
   rw[Array.size_push];exact Nat.le_succ _
  .show(s.gens.push _)[i]?=_
   rw[Array.getElem?_push,if_neg (Nat.ne_of_lt hi)]
 .exact Heap.get?_none_of_le (by rw[hsz];exact Nat.le_succ _)
 .exact Heap.get?_none_of_le (Nat.le_refl _)
 .rw[hsz];exact Nat.succ_ne_self _
 .show s.gens.size < (s.gens.push _).size
  rw[Array.size_push];exact Nat.lt_succ_self _
 .rintro b hz_
  (refine e1a1 hz_ ?_;try clear hz_;rintro o hb);have:=Heap.lt_size hb;rw[Heap.size_push]at this;exact Nat.le_of_lt_succ this
 .intro A' R'
  (refine e3a3 (id hn') ?_;rintro ol esl epl hol hdl hrl);refine⟨⟨og,_,_,hga,by rw[<-hO],by rw[<-hO],by rw[<-hO]⟩,⟨_,kp _ _ hol⟩,⟨0,rfl⟩,.fresh (.func body env),Array.getElem?_push_size ..,fun s'' w=>⟨rfl,?_⟩⟩
  have X:GX c env (fun i=>if i=16 then some (.str x t)else none) (AE.set (fun u_=>none) 16 (.dat (.str x))) { s with heap:=h'.push og,toks:=s.toks+[(nm 16,Value.str x t)].length }:=by
   refine⟨eok,B1.keep kp,⟨⟨_,by rw[e2];exact hn'.keeps kp,fun i v e=>?_⟩,fun y b hy=>(kd y (.inl hy)).elim⟩,e5,fun i pv e=>?_,?_,⟨_,rfl⟩⟩
   .revert e
    refine ifs fun hi e=>?_;(replace e:=(aA e).symm;subst e);subst hi;refine .inl ⟨?_,?_⟩
    .show env.scope.names.lookup (nm 16)=_
     rw[e1];exact K.arg
    .simp[List.lookup_cons]
   .unfold AE.set at e
    revert e;refine ifs fun hi e=>?_;(replace e:=(aA e).symm;subst e);exact⟨_,_,if_pos hi,rfl,rfl,.mkStr⟩
   .rw[e2]
    cases hh:c.h0.get? s.heap.objs.size with
    | none=>rfl
    | some o=>exact absurd (Heap.lt_size (B.k0 _ _ hh)) (Nat.lt_irrefl _)
  have X'':GX c env _ _ s'':=X.move w.base (by rw[e2];exact w.l)
  have:=aPK (all:=bT (sl x) 0 false) (a:=h'.objs.size) (A:=A'.in1) (s₀:=s'') C (x:=x) ⟨by show A'.depth+2 < _;have:=R'.depth;lia,by show A'.units+1+20 * 2+200 < _;have:=R'.units;lia,R'.hand⟩ (aKS (by rw[e1];exact K.chk)) X'' rfl hx hlen
   ⟨og,w.f h'.objs.size og _ (by rw[<-hO]) hga⟩ (by rw[e2,hsz];exact Nat.lt_succ_self _) (.refl s'') rfl
  rw[e2]at this;exact this
theorem aPv (C:bE c)(G:aHc c){a:X}(ha:bG c a):aLY c a:=by
 intro n A env Own M E s e ds Q Er X hc ho he h;simp only[aEs,Bool.and_eq_true,decide_eq_true_eq]at hc;obtain ⟨hn,hc⟩:=hc;dsimp only[aFd]at ho;revert he;refine cE fun d hd=>cE fun l hl hz=>?_;(refine e3a4 (nB hc) ?_;rintro z p q rfl h1 h2 h3);revert hz;refine ifs fun hq hz=>?_;(replace hz:=(aA hz).symm;subst hz);have hq0:∃ v0,d=.str v0:=by revert hl;generalize d=y0;intro hl;cases y0 <;> first | exact⟨_,rfl⟩ | exact cM hl | exact eR hl | cases hl
 (refine e1a1 hq0 ?_;try clear hq0;rintro x rfl);have hl:some (sl x)=some l:=hl;(replace hl:=(aA hl).symm;subst hl);(refine e4a4 G ?_;try clear G;rintro ga o fd body m1 m2 m3 K);refine wpAny_Call_NameR (lC X.eok X.base h1 (by decide +kernel) (.inl m1) ?_)
 refine Calls.callWith_function (o:=o) (fd:=fd) (pB (.inr ⟨_,_,iM h2⟩) ?_);rw[iM h2];refine Calls.spliced_cons (ha n A env Own M E s z (.str x) _ Er X h3 ho hd fun v s1 st1 r u_=>Calls.spliced_nil ?_);(refine e1a1 r.any.str ?_;rintro t rfl);have B1:=X.base.keep st1.keep;refine⟨⟨B1.k0 _ _ m2,m3⟩,wpAny_call ?_⟩;refine aKL C m3 m2 K (by have:=X.room.depth;lia) B1 hq.1 hq.2 fun b g L s2 st2 f1 f2 hne g1 g2 hold hG=>?_
 have R3:fO 3 A:=X.room.le hn;have G0:=hG A R3;refine h _ s2 (st1.trans st2) ?_
 have none1:∀ b,s1.heap.get? b=none->s.heap.get? b=none:=fun b hb=>by
  cases hh:s.heap.get? b with
  | none=>rfl
  | some o=>rw[st1.keep _ _ hh]at hb;exact nsn hb
 refine⟨[b,L],[L],[g],_,_,Wk.gen R3 hold hne (jQ _ _ _),G0,fun y hy=>?_,fun y hy=>?_,fun y hy=>?_⟩
 .rw[aH hy]
  exact⟨by simp,none1 _ f2⟩
 .simp only[List.mem_cons,List.not_mem_nil,or_false]at hy
  rcases hy with rfl | rfl
  ·(refine e3a2 G0.gen ?_;rintro o u_ u_ ho u_)
   exact⟨⟨o,ho⟩,.inl (none1 _ f1)⟩
  .exact⟨G0.la,.inl (none1 _ f2)⟩
 .rw[aH hy]
  exact⟨aP st1.gk.size g1,g2⟩
end
namespace RF
theorem plainAttrs:PlainAttrs "re.Pattern" :=
 ⟨⟨"object.__getattribute__",by rw[typeLookup_type,builtinLookup_eq_fast];kernel_rfl,by decide +kernel⟩,by rw[typeLookup_type,builtinLookup_eq_fast];kernel_rfl⟩
theorem slot_search:Slot "re.Pattern" "search" "re.Pattern.search" :=
 .of (owner:="re.Pattern") (n:="search") (by rw[typeLookup_type,builtinLookup_eq_fast];kernel_rfl) (by decide +kernel) (by decide +kernel) (by decide +kernel)
  (by first | exact .inl (by decide +kernel) | exact .inr (by decide +kernel)) (by rw[isSubtype_type];kernel_rfl)
theorem type_search:typeOf (.builtin "re.Pattern.search")=pure (.type "method_descriptor"):=by show builtinType _=_;rw[builtinType_eq_fast];kernel_rfl
theorem entry_search:entryFor table "re.Pattern.search"=some Builtin.«re.Pattern.search»:=entryFor_of_tree (by kernel_rfl)
theorem args_search (a b:Value):argsOk "re.Pattern.search" ⟨[a,b],[]⟩:=by
 unfold argsOk;kernel_rfl
end RF
noncomputable def pJ:Array Nat:=#[14,10,4,1,1,22,0,31,16,127,0,13,7,22,0,31,16,127,0,1]
noncomputable def pI:Array Nat:=#[14,14,4,1,1,9,4294966783,0,0,2147483648,0,0,0,0,0,13,11,9,4294966783,0,0,2147483648,0,0,0,0,0,1]
noncomputable def okc (c:Nat):Bool:=Nat.ble 32 c && Nat.blt c 127
noncomputable def aJO (r:Except String (Bool × Sre.Seen)):Bool:=match r with
 | .ok p=>!p.1
 | _=>false
theorem aBh {r:Except String (Bool × Sre.Seen)}(h:aJO r=true):∃ seen',r=.ok (false,seen'):=by
 cases r with
 | error=>exact eR h
 | ok p =>
  obtain ⟨b,s⟩:=p;have hb:b=false:=nt h;subst hb;exact⟨s,rfl⟩
theorem aJL {P:Nat->Bool}(h:(List.range 95).all (fun k=>P (k+32))=true){c:Nat}(hc:okc c=true):P c=true:=by
 (refine aAK hc ?_;rintro h1 h2);have h1:=bO h1;have h2:c < 127:=bO h2;have:=aJ h (c - 32) (List.mem_range.mpr (Nat.sub_lt_right_of_lt_add h1 h2))
 rwa [Nat.sub_add_cancel h1]at this
theorem aPA {c:Nat}(h:okc c=true)(seen:Sre.Seen):∃ seen',Sre.inSet pJ c pJ.size 5 true seen=.ok (false,seen'):=aBh (aJL (P:=fun c=>aJO (Sre.inSet pJ c pJ.size 5 true seen)) (by kernel_rfl) h)
theorem aPz {c:Nat}(h:okc c=true)(seen:Sre.Seen):∃ seen',Sre.inSet pI c pI.size 5 true seen=.ok (false,seen'):=aBh (aJL (P:=fun c=>aJO (Sre.inSet pI c pI.size 5 true seen)) (by kernel_rfl) h)
theorem qW {m:Sre.M}(hs:∀ c,okc c=true->∀ seen,∃ seen',Sre.inSet m.code c m.code.size 5 true seen=.ok (false,seen'))(ht:∀ s,s < m.lim->okc (m.text.getD s 0)=true) :
  ∀ (fuel s:Nat) (seen:Sre.Seen),∃ seen',Sre.M.admitted m fuel s seen=.ok (none,seen')
 | 0=>fun s seen=>⟨seen,rfl⟩
 | fuel+1=>fun s seen=>by
  rw[show Sre.M.admitted m (fuel+1) s seen=if s ≥ m.lim then .ok (none,seen)else(match Sre.inSet m.code (m.text.getD s 0) m.code.size 5 true seen with | .ok (true,seen)=>.ok (some s,seen) | .ok (false,seen)=>Sre.M.admitted m fuel (s+1) seen | .error why=>.error why)from rfl]
  by_cases h:s ≥ m.lim
  .rw[if_pos h];exact⟨seen,rfl⟩
  .rw[if_neg h]
   (refine e1a1 (hs _ (ht s (by lia)) seen) ?_;rintro seen1 e)
   rw[e];exact qW hs ht fuel (s+1) seen1
theorem rB {m:Sre.M}(h1:m.answer=some false)(h2:m.frames=[])(h3:m.outcome=none):(m.runFor 4).outcome=some .failed:=by
 have e:m.step={ m with outcome:=some .failed }:=by
  unfold Sre.M.step;rw[h3,if_neg (by decide)]
  (refine cA fun G_ hG_=>?_;rcases m with ⟨code,text,lim,start,ls,wt,ma,pc,pos,handed,om,marks,lm,li,loops,inner,frames,weight,answer,seen,outcome⟩;all_goals (refine hG_ ?_;clear hG_ G_))
  cases h1;cases h2;rfl
 show(if m.outcome.isSome then m else Sre.M.runFor 3 m.step).outcome=_
 rw[h3,if_neg (by decide),e]
 rfl
theorem aCL {m:Sre.M}(hf:m.hasFirstSet=true)(hs:∀ c,okc c=true->∀ seen,∃ seen',Sre.inSet m.code c m.code.size 5 true seen=.ok (false,seen'))(ht:∀ s,s < m.lim->okc (m.text.getD s 0)=true)
  (h2:m.frames=[]) (h3:m.outcome=none) (s:Nat) (first:Bool):∃ m',m.attemptFrom s first=m'/\m'.answer=some false/\m'.frames=[]/\m'.outcome=none:=by
 refine⟨_,rfl,?_⟩;unfold Sre.M.attemptFrom;rw[hf];simp only[Bool.not_true,Bool.false_eq_true,if_false];(refine e1a1 (qW hs ht (m.lim+1 - s) s m.seen) ?_;rintro seen' e);rw[e];exact⟨rfl,h2,h3⟩
theorem aC9 {code text:Array Nat}{lim:Nat}(hc:code=pJ\/code=pI)(hl:lim<=text.size)(ht:∀ c∈text.toList,okc c=true):((Sre.forSearch code text 0 0 lim false).runFor 4).outcome=some .failed:=by
 have hx:∀ s,s < lim->okc (text.getD s 0)=true:=fun s h=>by
  have hs:s < text.size:=by lia
  rw[Array.getD_eq_getD_getElem?,Array.getElem?_eq_getElem hs];exact ht _ (by simp)
 by_cases h0:lim < 1
 .have e:lim=0:=by lia
  subst e
  rcases hc with rfl | rfl
  .exact rB rfl rfl rfl
  .exact rB rfl rfl rfl
 .have hh:∀ c:Array Nat,(c=pJ\/c=pI)->(Sre.header c).1=1/\((Sre.header c).2 != 0 && c.getD 2 0 &&& 5 != 0)=true:=by
   rintro c (rfl | rfl) <;> exact⟨rfl,rfl⟩
  obtain ⟨g1,g2⟩:=hh code hc
  have:∃ m:Sre.M,m.code=code/\m.text=text/\m.lim=lim/\m.frames=[]/\m.outcome=none/\Sre.forSearch code text 0 0 lim false=m.attemptFrom 0 true:=by
   refine⟨{ code,text,lim,start:=0,pc:=(Sre.header code).2,pos:=0,handed:=0,marks:=Array.replicate (2 * 0) none,mustAdvance:=false,seen:=if (Sre.header code).2 == 0 then {} else({}:Sre.Seen).add 14,lastStart:=if (Sre.header code).1 > 1 && !((Sre.header code).2 != 0 && code.getD 2 0 &&& 5 != 0)then max 0 (lim - ((Sre.header code).1 - 1))else lim },rfl,rfl,rfl,rfl,rfl,?_⟩
   show(if (decide (0 > lim) || decide (lim - 0 < (Sre.header code).1))=true then _ else _)=_
   have hz:(decide (0 > lim) || decide (lim - 0 < (Sre.header code).1))=false:=by
    rw[g1,decide_eq_false (by lia),decide_eq_false (by omega)];rfl
   rw[hz];rfl
  (refine e1a6 this ?_;try clear this;rintro m e1 e2 e3 e4 e5 e6);rw[e6]
  (refine e1a4 (aCL (m:=m) (by unfold Sre.M.hasFirstSet;rw[e1];rcases hc with rfl | rfl <;> rfl)
   (by rw[e1];rcases hc with rfl | rfl;exact fun c h=>aPA h;exact fun c h=>aPz h) (by rw[e2,e3];exact hx) e4 e5 0 true) ?_;rintro m' e7 q1 q2 q3)
  rw[e7];exact rB q1 q2 q3
open PySem.Builtin.Re
theorem aHQ (v:Value):reNamed "re.Pattern.search" "search" ["string","pos","endpos"] 1 [v] []=pure [some v,none,none]:=by
 with_unfolding_all rfl
structure wA (h:Heap)(pa:Addr)(code:Array Nat):Prop where
 ok:code=pJ\/code=pI
 at_:∃ p0 t ta o items n,h.get? pa=some { cls:=.type "re.Pattern",data:=.fields #[p0,.int 32 t,.int 0 0,.none,.none,.ref ta,.int 0 0] }/\h.get? ta=some o/\o.data=.seq items n /\
  (items.map reRawOf).map (·.toNat)=code
theorem wA.keep {h h':Heap} {pa code}(k:bY h h')(x:wA h pa code):wA h' pa code :=
 ⟨x.ok,e6a3 x.at_ fun p0 t ta o items n h1 h2 r=>⟨p0,t,ta,o,items,n,k _ _ h1,k _ _ h2,r⟩⟩
section
variable {prog:Program} {w:World} {A:Around} {Er:Value->Shared->Prop} {s:Shared}
theorem aIC {m:Sre.M}{Q:Option Sre.M->Shared->Prop}(hm:(m.runFor 4).outcome=some .failed)(h:Q none s):wpAny (model prog w) A (reRunToEnd m) Q Er s:=by
 unfold reRunToEnd;rw[show(2 ^ 64:Nat)=18446744073709551615+1 from rfl];refine wpAny_bind ?_;show wpAny _ A (if (m.runFor 4).outcome.isSome then pure (m.runFor 4)else _) _ _ s
 rw[hm,if_pos (show(some Sre.Outcome.failed).isSome=true from rfl)];refine wpAny_pure ?_;refine wpAny_bind (wpAny_forIn_list _ (fun u_ u_ s'=>s'=s) _ ?_ ?_ _ _ rfl)
 .rintro x rest b s' rfl
  by_cases hh:(m.runFor 4).seen.has x=true
  .rw[if_pos hh];exact wpAny_bind (wpAny_rule (wpAny_pure rfl))
  .rw[if_neg hh];exact wpAny_pure rfl
 .rintro b s' rfl
  rw[hm];exact wpAny_pure h
theorem aEu {pa:Addr}{code:Array Nat}{x:Str}{t:Tok}{Q:Value->Shared->Prop}(P:wA s.heap pa code)(hx:∀ c∈sl x,okc c=true)(h:Q .none s):wpAny (model prog w) A (call (.builtin "re.Pattern.search") [.ref pa,.str x t]) Q Er s:=by
 (refine cA fun G_ hG_=>?_;rcases P with ⟨hc,p0,tt,ta,o,items,n,h1,h2,h3,h4⟩;all_goals (refine hG_ ?_;clear hG_ G_))
 refine wpAny_call_entry RF.slot_search ⟨_,h1,rfl⟩ RF.entry_search ?_ (RF.args_search _ _);show wpAny _ _ (reTarget "re.Pattern.search" "search" ⟨[.ref pa,.str x t],[]⟩ >>= _) _ _ s;refine wpAny_bind ?_;unfold reTarget;show wpAny _ _ (reNamed "re.Pattern.search" "search" ["string","pos","endpos"] 1 [.str x t] [] >>= _) _ _ s;rw[aHQ];refine wpAny_bind (wpAny_pure ?_);refine wpAny_bind (wpAny_pure (wpAny_bind (wpAny_pure (wpAny_bind (wpAny_fieldsOf h1 rfl ?_)))));refine wpAny_bind (wpAny_pure ?_);show wpAny _ _ (reNoCollectionInside (Value.str x t) 0 >>= _) _ _ s;refine wpAny_bind (show wpAny _ _ (pure ()) _ _ s from wpAny_pure ?_);show wpAny _ _ (reRawItems (.ref ta) >>= _) _ _ s;unfold reRawItems;refine wpAny_bind (wpAny_bind (wpAny_seqItems h2 h3 (wpAny_pure (wpAny_pure ?_))));show wpAny _ _ (reAnswer _ (Sre.forSearch ((items.map reRawOf).map fun x=>x.toNat) x.cps 0 (min (0:Int).toNat x.cps.size) (min (2 ^ 63 - 1:Int).toNat x.cps.size) false)) _ _ s;rw[h4,show min (0:Int).toNat x.cps.size=0 from Nat.zero_min _];unfold reAnswer;refine wpAny_bind (aIC (aC9 hc (Nat.min_le_right _ _) hx) ?_);exact wpAny_pure ⟨_,rfl,h⟩
end
structure HK (c:cG)(K:Frag):Prop where
 inn:K.In c.h0
 ga:findIn K (.ref c.HC) "__getattribute__"=some (some (.builtin "object.__getattribute__"))
 gt:findIn K (.ref c.HC) "__getattr__"=some none
 own:∀ (od:Obj) hs t la n,od.data=.dict #[⟨hs,.str "_headers" t,.ref la⟩] n->findObj K c.HC (some od) "_headers"=some (.value (.ref la))
theorem fP.inst {HC:Addr}{h:Heap} {v l la}(x:fP HC h v l la):∃ a da od hs t n,v=.ref a/\h.get? a=some { cls:=.ref HC,dict:=some da,data:=.plain,slots:=#[] }/\InstAt h a { cls:=.ref HC,dict:=some da,data:=.plain,slots:=#[] } HC (some od) /\
  h.get? da=some od/\od.data=.dict #[⟨hs,.str "_headers" t,.ref la⟩] n:=by
 obtain ⟨⟨a,da,od,rfl,h1,h2,h3,⟨hs,t,n,h4⟩,u_⟩,u_⟩:=x;exact⟨a,da,od,hs,t,n,rfl,h1,⟨h1,rfl,rfl,h2⟩,h2,h4⟩
theorem sT {sc:Scope}{i:Nat}{e:Expr}(h:sP sc i e=true):∃ p q,e=.Attribute (.Name (nm i) p) "_headers" q/\acc sc (nm i)=true/\bW (nm i)=true:=by
 refine cB h fun z1 a z2 h=>?_;refine aV h fun y z3 h=>?_;(refine aKl h ?_;try clear h;rintro rfl h1 h2 rfl);exact⟨_,_,rfl,h1,h2⟩
section
variable {c:cG} {K:Frag}
theorem HK.at (H:HK c K){s:Shared}(B:dK c s.heap):K.In s.heap:=H.inn.keeps B.k0
theorem lB (H:HK c K){A:Around}{s:Shared}{a:Addr} {l la}{ex:Bool}{Q:Value->Shared->Prop}{Er:Value->Shared->Prop}(B:dK c s.heap)(x:fP c.HC s.heap (.ref a) l la)(h:Q (.ref la) { s with toks:=s.toks+1 }) :
  wpAny (model c.prog c.w) A (getAttr (.ref a) "_headers" ex) Q Er s:=by
 (refine e6a5 x.inst ?_;rintro a' da od hs t n e u_ I u_ hd);cases e;exact get_value (H.at B) I H.ga (H.own od hs t la n hd) rfl h
theorem aHB {Own:Addr->Prop}{h:Heap}{la:Addr}{l:List (List Nat × List Nat)}(x:∃ vs,h.PlainList la vs/\bP (bL (fun u_=>False) h) vs.toList (l.map fun p=>PyData.tuple [S p.1,S p.2])) :
  eS Own 1 h (.ref la) (.list (l.map fun p=>.tuple [S p.1,S p.2])):=by
 (refine e1a2 x ?_;try clear x;rintro vs hl hx);exact⟨la,_,vs,rfl,rfl,hl,pS (Z:=fun u_=>False) (.refl h) hx⟩
set_option tactic.hygienic true in
theorem zM (H:HK c K)(i:Nat):bG c (.hattr i):=by
 intro n A env Own M E s e d Q Er X hc _ he h;dsimp only[aCI]at hc;(refine e2a3 (sT hc) ?_;rintro p q rfl ha hp);revert he;refine cE fun l hl e0z=>?_;(replace e0z:=(aA e0z).symm;subst e0z);(refine e1a2 X.view.ns ?_;rintro m hm hv);have hE:E i=some (.hdr l):=oY hl;(refine e1a2 (hv i _ hE ha) ?_;rintro v hlk hr)
 cases hr with
 | hdr hd =>
  rename_i la
  (refine e6a2 hd.inst ?_;rintro a da od hs t n' e _);subst e;refine Attribute_Name_ (aBH X.eok hm hlk hp (lB H X.base hd (h _ _ .toks ?_ (fun z=>nomatch z))));exact aHB hd.list
theorem sK {A:Around}{env:Env}{o:Expr}{name:Str}{apos pos:Pos}{args:List Expr}{kws:List Keyword}{Q:Value->Shared->Prop}{Er:Value->Shared->Prop}{s:Shared}
  (hbase:attributeBase o name env (eval o env)=eval o env)
  (hform:methodCallForm (args.length+kws.length) (backTo pos (starEach args env)) (backToKw pos (keywordEach kws env))=true)
  (hline:(apos.endLine == pos.line)=true)
  (h:wpAny (model c.prog c.w) A (eval o env) (fun ov s₁=>∀ pl,wpAny (model c.prog c.w) A (getMethod ov name pl) (fun fx s₂=>wpAny (model c.prog c.w) A (callWith pos fx.1 fx.2 (backTo pos (starEach args env)) (backToKw pos (keywordEach kws env))) Q Er s₂) Er s₁) Er s) :
  wpAny (model c.prog c.w) A (eval (.Call (.Attribute o name apos) args kws pos) env) Q Er s:=by
 rw[arm_eval_Call,hbase];refine wpAny_bind (wpAny_mono h (fun ov s₁ h₁=>?_) fun u_ u_ e=>e);refine wpAny_bind (wpAny_standAt ?_);have hpos:methodCallPos true o env apos pos=pure pos:=by unfold methodCallPos;simp[hline]
 unfold methodCall;rw[hform];refine wpAny_bind (wpAny_holding (wpAny_mono (h₁ _) (fun fx s₂ h₂=>?_) fun u_ u_ e=>e));exact wpAny_bind (wpAny_of_eq hpos h₂)
theorem SX.addE {n:Nat}{A:Around}{env:Env}{Bad:Addr->Prop}{M:List Nat}{F:Nat->List Addr}{P:Nat->Option Value}{E:AE}{s:Shared}(X:SX c n A env Bad M F P E s){i:Nat}{v:Value}{d:PyData}(hP:P i=some v)(r:bL (dA Bad F) s.heap v d)(hM:md M i=0)(hF:F i=[]) :
  SX c n A env Bad M F P (E.set i (.dat d)) s:=by
 refine⟨X.eok,X.room,X.base,X.cells,X.sto,fun j pv e=>?_,X.pl,X.bad,X.nb,X.dj,X.nl,X.nc,X.nF⟩
 by_cases hj:j=i
 .subst hj
  have e:some (PV.dat d)=some pv:=by rw[<-e];exact(if_pos rfl).symm
  (replace e:=(aA e).symm;subst e);refine⟨v,hP,?_⟩;rw[hM,hF];exact .flat r
 .have e:E j=some pv:=by rw[<-e];exact(if_neg hj).symm
  exact X.vars j pv e
theorem SX.raw {n:Nat}{A:Around}{env:Env}{Bad:Addr->Prop}{M:List Nat}{F:Nat->List Addr}{P:Nat->Option Value}{E:AE}{s s':Shared}(X:SX c n A env Bad M F P E s){i:Nat}{v:Value}(hE:E i=none)(k:Kb env [i] s.heap s'.heap)(So:lP env s'.heap (wC P i v)) :
  SX c n A env Bad M F (wC P i v) E s':=by
 have kd:=k.kd X.sto;have ks:=k.seq X.sto;refine⟨X.eok,X.room,X.base_kb k,pL X.eok X.sto X.cells k So,So,fun j pv e=>?_,fun i a h=>?_,fun a h=>?_,X.nb,X.dj,X.nl,X.nc,X.nF⟩
 ·(refine e1a2 (X.vars j pv e) ?_;rintro w q1 q2)
  refine⟨w,?_,q2.move (s':=s') (X.sto.kpf k) (fun a u_ o vs n hd e=>ks a o vs n hd e) kd⟩;unfold wC;rw[if_neg (fun h=>by rw[h,hE]at e;exact cM e)]
  exact q1
 ·(refine e2a1 (X.pl i a h) ?_;rintro vs nn e)
  exact⟨vs,nn,ks a _ _ _ rfl e⟩
 ·(refine e1a1 (X.bad a h) ?_;rintro o ho)
  exact k.alive So a o ho
theorem SX.cxH {n:Nat}{A:Around}{env:Env}{Bad:Addr->Prop}{M:List Nat}{F:Nat->List Addr}{P:Nat->Option Value}{E:AE}{s:Shared}(X:SX c n A env Bad M F P E s){i:Nat}{v:Value} {l la}(hP:P i=some v)(hd:fP c.HC s.heap v l la) :
  Cx c n A (dA Bad F) env (md M) (E.set i (.hdr l)) s:=by
 refine⟨X.eok,X.room,X.base,⟨?_⟩,X.live,X.cells⟩;(refine e1a2 X.sto.ns ?_;rintro m hm hl);refine⟨m,hm,fun j pv e u_=>?_⟩
 by_cases hj:j=i
 .subst hj
  have e:some (PV.hdr l)=some pv:=by rw[<-e];exact(if_pos rfl).symm
  (replace e:=(aA e).symm;subst e);exact⟨v,hl j v hP,.hdr hd⟩
 .have e:E j=some pv:=by rw[<-e];exact(if_neg hj).symm
  (refine e1a2 (X.vars j pv e) ?_;rintro w h1 h2);exact⟨w,hl j w h1,h2.rep X.base⟩
structure Fn0 (c:cG)(f:Addr)(fd:FuncData)(body:List Stmt)(ps:List Nat):Prop where
 at_:∃ o,c.h0.get? f=some o/\o.data=.func fd
 code:c.h0.CodeRec fd.code fd.qualname
 bd:fd.body=.stmts body
 ok:aRR fd ps
set_option tactic.hygienic true in
theorem gL {ps:List Nat}{n:Nat}{A:Around}{s:Shared}{f:Addr}{fd:FuncData}{stmts:List Stmt}{args:Args}{R:Result->Shared->Prop}{Bad:Addr->Prop}{V:List Value->Shared->Prop}
  (hroom:fO (n+1) A) (B:dK c s.heap) (K:Fn0 c f fd stmts ps) (hbad:∀ a,Bad a->∃ o,s.heap.get? a=some o)
  (hbind:∀ (Q:List (Str × Value)->Shared->Prop) (Er:Value->Shared->Prop),(∀ vals s0,cS s s0->vals.length=ps.length->V vals s0->Q ((ps.map nm).zip vals) s0)->wpAny (model c.prog c.w) A.in1 (bindArgs fd args) Q Er s)
  (h:∀ (env:Env) vals s0 s1 Er,env.scope=fd.scope->cS s s0->V vals s0->cS s0 s1->SX c n (A.deeper env) env Bad (List.replicate 130 0) (fun _=>[]) (qU ps vals) (fun _=>none) s1 ->
   (∀ F' s',cF env (fun _=>[]) s1 F' s'->cS s0 s')->(∀ b o,s0.heap.get? b=some o->b≠env.locals/\∀ x,env.cells.lookup x≠some b)->wpAny (model c.prog c.w) (A.deeper env) (execs stmts env) (fun fl s'=>R (.ok (.ret (match fl with | .ret v=>v | _=>.none))) s') Er s1) :
  codeAny (model c.prog c.w) A (.call (.ref f) args) R s:=by
 (refine cA fun G_ hG_=>?_;rcases K with ⟨⟨o,ho0,hdata⟩,hcd0,hbody,K⟩;all_goals (refine hG_ ?_;clear hG_ G_))
 have ho:=B.k0 _ _ ho0
 have hcd:s.heap.CodeRec fd.code fd.qualname:=by
  (refine e4a4 hcd0 ?_;try clear hcd0;rintro cc oc vs tq e1 e2 e3 e4);exact⟨cc,oc,vs,tq,e1,B.k0 _ _ e2,e3,e4⟩
 refine codeAny_call_function (by have:=hroom.depth;lia) ho hdata K.co K.gen hbody hcd (hbind _ _ fun vals s0 st0 hlen hV=>?_)
 have B0:=B.keep st0.keep;have hz:=aBV hlen;have hnd:(((ps.map nm).zip vals).map (·.1)).Nodup:=by rw[hz];exact sN K.pn
 have hmemn:∀ x∈(ps.map nm).zip vals,∃ i∈ps,x.1=nm i:=by
  intro x hx;have:x.1∈((ps.map nm).zip vals).map (·.1):=List.mem_map.mpr ⟨x,hx,rfl⟩;rw[hz]at this;(refine e1a2 (bJ this) ?_;rintro i hi e);exact⟨i,hi,e.symm⟩
 have okind:∀ i∈ps,fd.scope.names.lookup (nm i)=some .local\/fd.scope.names.lookup (nm i)=some .cell:=fun i hi=>aE0 (K.own i hi);rw[K.clo];refine wpAny_newFunctionEnv_cells K.kind (fun x hx=>?_) fun env he s1 IC=>?_
 ·(refine e1a2 (hmemn x hx) ?_;rintro i hi e)
  rw[e]
  rcases okind i hi with q | q
  .exact .inl q
  ·(refine e1a1 (dZ _ (s0.heap.objs.size+1) _ (cH q)) ?_;rintro b hb)
   (refine e1a1 (cT hb) ?_;rintro b2 hb2);exact .inr ⟨q,by rw[hb2];rfl⟩
 have es:env.scope=fd.scope:=by rw[he];rfl
 have el:env.locals=s0.heap.objs.size:=by rw[he];rfl
 have ec:env.cells=cellsFrom (s0.heap.objs.size+1) fd.scope.names []:=by rw[he];rfl
 have eg:env.globals=mainGlobals:=by rw[he];exact K.glob
 have eb:env.builtins=builtinsNs:=by rw[he];exact K.bui
 clear he;(refine e2a1 IC.toInCall.same ?_;rintro h1 tk rfl);have st1:cS s0 { s0 with heap:=h1,toks:=tk }:=.of IC.toInCall.keep
 have K':fB env:=by
  refine⟨by rw[es];exact K.kind,eg,eb,by rw[es];exact K.co,by rw[es];exact K.more,fun x hx=>?_,fun x y b hx hy=>name_of_addr IC.apart (mem_of_lookup hx) (mem_of_lookup hy)⟩
  have hx:env.scope.names.lookup x=some .cell\/env.scope.names.lookup x=some .free:=hx;rw[es]at hx;rw[ec]
  rcases hx with q | q
  ·(refine e1a1 (dZ _ (s0.heap.objs.size+1) _ (cH q)) ?_;rintro b hb)
   exact cT hb
  .exact absurd rfl (K.nofree _ (cH q))
 have old:∀ b,s0.heap.objs.size<=b->c.h0.get? b=none:=fun b hb=>by
  cases hh:c.h0.get? b with
  | none=>rfl
  | some o=>exact absurd (Heap.lt_size (B0.k0 b o hh)) (Nat.not_lt.mpr hb)
 have So:lP env h1 (qU ps vals):=by
  refine⟨⟨_,IC.toInCall.ns,fun i v e=>?_⟩,fun x b _ hb=>⟨_,IC.cell x b hb⟩⟩;obtain ⟨hm,hi⟩:=uH e
  have kq:env.kindOf (nm i)=some .local\/env.kindOf (nm i)=some .cell:=by
   have q:=okind i hi;rw[<-es]at q;exact q
  rcases kq with q | q
  .exact .inl ⟨q,aEy _ _ _ _ _ hnd hm q⟩
  ·(refine e1a1 (K'.cell (nm i) (.inl q)) ?_;rintro b hb)
   refine .inr ⟨.inl q,b,hb,?_⟩;have e:=IC.cell (nm i) b hb;rw[aEz _ _ _ _ _ hnd hm (by rw[q];exact fun z=>by cases z)]at e
   exact e
 have X:SX c n (A.deeper env) env Bad (List.replicate 130 0) (fun _=>[]) (qU ps vals) (fun _=>none) { s0 with heap:=h1,toks:=tk }:=by
  refine⟨K',⟨by show A.depth+1+n < _;have:=hroom.depth;lia,by show A.units+3+20 * n+200 < _;have:=hroom.units;lia,hroom.hand⟩,B0.keep IC.toInCall.keep,fun x b hb=>⟨_,IC.cell x b hb⟩,So,fun i pv e=>(nomatch e),fun i a m=>(nomatch m),
   fun b hb=>let ⟨o,ho⟩:=hbad b hb;⟨o,IC.toInCall.keep b o (st0.keep b o ho)⟩,fun i a m=>(nomatch m),fun i j a m=>(nomatch m),?_,fun x b hb=>old b (Nat.le_of_lt (el ▸ IC.above x b (mem_of_lookup hb))),fun i a m=>(nomatch m)⟩
  rw[el];exact old _ (Nat.le_refl _)
 refine⟨(B0.keep IC.toInCall.keep).lim,codeAny_func (h env vals s0 _ _ es st0 hV st1 X (fun F' s' S=>?_) fun b o hb=>⟨fun q=>?_,fun x hx=>?_⟩)⟩
 case refine_2 =>
  have:=Heap.lt_size hb;rw[q,el]at this;exact absurd this (Nat.lt_irrefl _)
 case refine_3 =>
  have h1:=IC.above x b (mem_of_lookup hx);rw[el]at h1;exact absurd (Heap.lt_size hb) (Nat.not_lt.mpr (Nat.le_of_lt h1))
 refine⟨fun b o e=>?_,⟨S.gk.size,S.gk.old,S.gk.bare⟩,S.os⟩;have hlt:=Heap.lt_size e;refine S.keep b o (fun q=>?_) (fun x hx=>?_) (fun i m=>nomatch m) (IC.toInCall.keep b o e)
 .rw[q,el]at hlt;exact absurd hlt (Nat.lt_irrefl _)
 .have:=IC.above x b (mem_of_lookup hx)
  rw[el]at this;exact absurd hlt (Nat.not_lt.mpr (Nat.le_of_lt this))
end
noncomputable def aN5 (fnm:Nat->Str)(rk:Nat->Nat)(sc:Scope)(s:Stmt):Bool :=
 dQ s fun tg v u1_=>bC tg fun y r=>bV r (bX y fun rg u2_=>tF v fun t2 x z u3_=>bX x fun g1 u4_=>bX z fun g2 u5_=>decide (rg=nm 118) && bQ sc rg && aS fnm rk 0 sc (.var 61) t2 && decide (g1=("_name_disallowed_re":Str)) && cO sc g1 && decide (g2=("_value_disallowed_re":Str)) && cO sc g2)
theorem aIN {fnm:Nat->Str}{rk:Nat->Nat}{sc:Scope}{s:Stmt}(h:aN5 fnm rk sc s=true):∃ w1 t2 w2 w3 w4 w5,s=.Assign [.Name (nm 118) w1] (.IfExp t2 (.Name ("_name_disallowed_re":Str) w2) (.Name ("_value_disallowed_re":Str) w3) w4) w5/\bQ sc (nm 118)=true/\aS fnm rk 0 sc (.var 61) t2=true/\cO sc ("_name_disallowed_re":Str)=true/\cO sc ("_value_disallowed_re":Str)=true:=by
 refine cC h fun z1 z2 w5 h=>?_;refine aL h fun z3 z4 h=>?_;refine aO h fun h=>?_;refine aV h fun rg w1 h=>?_;refine nJ h fun t2 z5 z6 w4 h=>?_;refine aV h fun g1 w2 h=>?_;refine aV h fun g2 w3 h=>?_;(refine aHZ h ?_;clear h;rintro rfl h1 h2 rfl h3 rfl h4);exact⟨_,_,_,_,_,_,rfl,h1,h2,h3,h4⟩
noncomputable def aG8 (s:Stmt):Bool :=
 zQ s fun cnd u1_ ol u2_=>bV ol (eY cnd fun f as ks q=>bV ks (cZ f fun o sm ap=>bX o fun rg u3_=>bC as fun y r=>bV r (bX y fun vn u4_=>decide (rg=nm 118) && decide (sm=("search":Str)) && (ap.endLine == q.line) && decide (vn=nm 114))))
theorem aEC {s:Stmt}(h:aG8 s=true):∃ w6 ap w7 q w8 w9,s=.If (.Call (.Attribute (.Name (nm 118) w6) ("search":Str) ap) [.Name (nm 114) w7] [] q) w8 [] w9/\(ap.endLine == q.line)=true:=by
 refine fT h fun z1 w8 z2 w9 h=>?_;refine aO h fun h=>?_;refine cI h fun z3 z4 z5 q h=>?_;refine aO h fun h=>?_;refine cB h fun z6 sm ap h=>?_;refine aV h fun rg w6 h=>?_;refine aL h fun z7 z8 h=>?_;refine aO h fun h=>?_;refine aV h fun vn w7 h=>?_;(refine aPd h ?_;clear h;rintro rfl rfl h rfl);exact⟨_,_,_,_,_,_,rfl,h⟩
noncomputable def aRH (s:Stmt):Bool:=kR s fun o u1_=>mB o fun e=>bX e fun vn u2_=>decide (vn=nm 114)
theorem aLT {s:Stmt}(h:aRH s=true):∃ w10 w11,s=.Return (some (.Name (nm 114) w10)) w11:=by
 refine iU h fun z1 w11 h=>?_;refine gK h fun z2 h=>?_;refine aV h fun vn w10 h=>?_;have h:=aC h;subst h;exact⟨_,_,rfl⟩
noncomputable def tM (fnm:Nat->Str)(rk:Nat->Nat)(sc:Scope)(body:List Stmt):Bool :=
 bC body fun s1 r=>bC r fun u1_ r=>bV r (zQ s1 fun t b o u2_=>bV o (bC b fun x r=>bC r fun y r=>bC r fun z r=>bV r (aS fnm rk 0 sc (.isT false (.var 114) 1) t && aN5 fnm rk sc x && aG8 y && aRH z)))
inductive aOc (fnm:Nat->Str)(rk:Nat->Nat)(sc:Scope):List Stmt->Prop
 | mk {t w1 t2 w2 w3 w4 w5 w6 ap w7 q w8 w9 w10 w11 w12 w13}:aS fnm rk 0 sc (.isT false (.var 114) 1) t=true->bQ sc (nm 118)=true->aS fnm rk 0 sc (.var 61) t2=true->cO sc ("_name_disallowed_re":Str)=true->cO sc ("_value_disallowed_re":Str)=true->(ap.endLine == q.line)=true ->
   aOc fnm rk sc [.If t [.Assign [.Name (nm 118) w1] (.IfExp t2 (.Name ("_name_disallowed_re":Str) w2) (.Name ("_value_disallowed_re":Str) w3) w4) w5,.If (.Call (.Attribute (.Name (nm 118) w6) ("search":Str) ap) [.Name (nm 114) w7] [] q) w8 [] w9,.Return (some (.Name (nm 114) w10)) w11] [] w12,w13]
theorem aKA {fnm:Nat->Str}{rk:Nat->Nat}{sc:Scope}{body:List Stmt}(h:tM fnm rk sc body=true):aOc fnm rk sc body:=by
 refine aL h fun s1 z1 h=>?_;refine aL h fun w13 z2 h=>?_;refine aO h fun h=>?_;refine fT h fun t z3 z4 w12 h=>?_;refine aO h fun h=>?_;refine aL h fun x z5 h=>?_;refine aL h fun y z6 h=>?_;refine aL h fun z z7 h=>?_;refine aO h fun h=>?_;(refine lM h ?_;clear h;rintro h1 h2 h3 h4);(refine e6a5 (aIN h2) ?_;rintro w1 t2 w2 w3 w4 w5 rfl g1 g2 g3 g4);(refine e6a2 (aEC h3) ?_;rintro w6 ap w7 q w8 w9 rfl g5);(refine e2a1 (aLT h4) ?_;rintro w10 w11 rfl);exact .mk h1 g1 g2 g3 g4 g5
structure aBU (c:cG)(f:Addr):Prop where
 fn:∃ fd body,Fn0 c f fd body [113,114,61]/\(∀ a b v:Value,bindArgs fd ⟨[a,b],[(nm 61,v)]⟩=pure (([113,114,61].map nm).zip [a,b,v]))/\tM c.fnm c.rk fd.scope body=true
 pn:∃ p,c.mg "_name_disallowed_re"=some (.ref p)/\wA c.h0 p pJ
 pv:∃ p,c.mg "_value_disallowed_re"=some (.ref p)/\wA c.h0 p pI
section
variable {c:cG}
theorem md0 (i:Nat):md (List.replicate 130 0) i=0:=by unfold md;rw[List.getD_eq_getElem?_getD,List.getElem?_replicate];split <;> rfl
set_option tactic.hygienic true in
theorem aNq (C:bE c){f:Addr}(V:aBU c f){A:Around}{s:Shared}{a:Addr}{x:Str}{t:Tok}{b:Bool}{R:Result->Shared->Prop}(hroom:fO 1 A)(B:dK c s.heap)(hx:∀ ch∈sl x,okc ch=true)
  (h:∀ s',cS s s'->R (.ok (.ret (.str x t))) s'):codeAny (model c.prog c.w) A (.call (.ref f) ⟨[.ref a,.str x t],[(nm 61,.bool b)]⟩) R s:=by
 obtain ⟨⟨fd,body,F0,hb,hc⟩,⟨pn,n1,n2⟩,⟨pv,v1,v2⟩⟩:=V;refine gL (n:=0) (Bad:=fun _=>False) (V:=fun vals _=>vals=[.ref a,.str x t,.bool b]) hroom B F0 (fun _ q=>q.elim) (fun Q Er hq=>?_) fun env vals s0 s1 Er es st0 hV st1 X fin low=>?_
 .rw[hb]
  exact wpAny_pure (hq [.ref a,.str x t,.bool b] s (.refl s) rfl rfl)
 subst hV;have hv:=aKA (show tM c.fnm c.rk env.scope body=true by rw[es];exact hc)
 clear hc
 cases hv with | mk c1 c2 c3 c4 c5 c6 =>
 have X1:=(X.addE (i:=114) (d:=.str x) rfl .mkStr (md0 _) rfl).addE (i:=61) (d:=.bool b) rfl .mkBool (md0 _) rfl;refine wpAny_execs_cons (wpAny_If (aEL C (cQ 114) 0 _ env _ _ _ _ _ (.bool true) true _ Er X1.cx c1 rfl rfl rfl fun s2 st2=>?_));rw[if_pos rfl];have X2:=X1.stp st2;refine wpAny_execs_cons (wpAny_Assign_Name (wpAny_IfExp ((cP (cQ 61) fun n sc e h=>by simp only[nO]at h;(refine e1a2 (fG h) ?_;rintro _ rfl _);rfl) 0 _ env _ _ _ _ _ (.bool b) b _ Er X2.cx c3 rfl rfl rfl fun s3 st3=>?_)) rfl)
 have X3:=X2.stp st3
 have hv:∃ p code,wA c.h0 p code/\∀ (Q:Value->Shared->Prop) (Er:Value->Shared->Prop) (p1 p2:Pos),Q (.ref p) s3->(if b=true then wpAny (model c.prog c.w) (A.deeper env) (eval (.Name "_name_disallowed_re" p1) env) Q Er s3 else wpAny (model c.prog c.w) (A.deeper env) (eval (.Name "_value_disallowed_re" p2) env) Q Er s3):=by
  induction b with
  | true=>exact⟨pn,_,n2,fun Q Er p1 p2 hQ=>by rw[if_pos rfl];exact lC X3.eok X3.base c4 (by decide +kernel) (.inl n1) hQ⟩
  | false=>exact⟨pv,_,v2,fun Q Er p1 p2 hQ=>by rw[if_neg aN];exact lC X3.eok X3.base c5 (by decide +kernel) (.inl v1) hQ⟩
 (refine e2a2 hv ?_;try clear hv;rintro p code hp hv);refine hv _ _ _ _ ?_;refine fZ X3.eok X3.sto c2 fun h4 tk4 k4 So4=>?_;have X4:=X3.raw (s':={ s3 with heap:=h4,toks:=tk4 }) rfl k4 So4
 have S4:cF env (fun _=>[]) s3 (fun _=>[]) { s3 with heap:=h4,toks:=tk4 }:=.kb So4 k4 (.refl _) rfl fun j a h=>.inl ⟨j,h⟩
 have hp4:=hp.keep X4.base.k0;refine wpAny_execs_cons (wpAny_If (wpAny_isTrue_value (Call_method1 (eA rfl) rfl c6 (eH X4 (if_pos rfl) (by decide +kernel) ?_)) (rJ rfl)))
 refine⟨"re.Pattern",_,RF.plainAttrs,RF.slot_search,RF.type_search,?_,fun b eb=>?_,?_⟩
 ·(refine cA fun G_ hG_=>?_;rcases hp4 with ⟨_,p0,t0,ta,o,items,n,h1,_⟩;all_goals (refine hG_ ?_;clear hG_ G_))
  exact⟨_,h1,rfl⟩
 .cases eb
  (refine cA fun G_ hG_=>?_;rcases hp4 with ⟨_,p0,t0,ta,o,items,n,h1,_⟩;all_goals (refine hG_ ?_;clear hG_ G_))
  exact⟨_,h1,rfl⟩
 refine Calls.callWith_builtin rfl (Calls.evalArgs_plain (Calls.spliced_cons (eH X4 (i:=114) (v:=.str x t) (by rfl) (by decide +kernel) (Calls.spliced_nil ?_))))
 refine aEu hp4 hx ?_;refine aAY (d:=.none) (k:=0) (Own:=fun _=>False) rfl .mkNone fun s5 st5=>?_;rw[if_neg aN];have X5:=X4.stp st5;refine wpAny_execs_nil (wpAny_execs_cons (wpAny_Return_some (eH X5 (i:=114) (v:=.str x t) (by rfl) (by decide +kernel) ?_)))
 exact h _ (st0.trans (fin (fun _=>[]) _ ((((cF.of st2).trans (.of st3)).trans S4).trans (.of st5))))
end
structure lJ (c:cG)(K:Frag)(name:Str)(f:Addr):Prop where
 find:findIn K (.ref c.HC) name=some (some (.ref f))
 typ:typeIn K (.ref f)=some (.type "function")
 keep:keepIn K (.ref f)=true
 ne:(Str.ofString "_headers" == name)=false
theorem aHt {od:Obj} {hs t la n}{name:Str}(hd:od.data=.dict #[⟨hs,.str "_headers" t,.ref la⟩] n)(hne:(Str.ofString "_headers" == name)=false):shadowIn (some od) name=some false:=by
 (refine cA fun G_ hG_=>?_;rcases od with ⟨cl,di,da,sl⟩;all_goals (refine hG_ ?_;clear hG_ G_))
 have hd:da=_:=hd;subst hd
 have e1:([⟨hs,.str "_headers" t,.ref la⟩]:List DictEntry).find? (fun(e:DictEntry)=>e.key.isStr name)=none:=by
  rw[List.find?_cons_of_neg,List.find?_nil];show ¬ ((Str.ofString "_headers" == name)=true);rw[hne];exact aN
 have e2:lookIn name ⟨cl,di,.dict #[⟨hs,.str "_headers" t,.ref la⟩] n,sl⟩=some none:=by
  show(match ([⟨hs,.str "_headers" t,.ref la⟩]:List DictEntry).find? (fun(e:DictEntry)=>e.key.isStr name)with
   | some e=>some (some e.val)
   | none=>if ([⟨hs,.str "_headers" t,.ref la⟩]:List DictEntry).any (fun(e:DictEntry)=>e.refKey)then none else some none)=_
  rw[e1];rfl
 show(lookIn name ⟨cl,di,.dict #[⟨hs,.str "_headers" t,.ref la⟩] n,sl⟩).map (·.isSome)=_;rw[e2];rfl
section
variable {c:cG} {K:Frag} {A:Around} {s:Shared} {Er:Value->Shared->Prop}
theorem sJ (H:HK c K){name:Str}{f a:Addr} {l la}{pl:Sem Bool}{Q:Value × List Value->Shared->Prop}(m:lJ c K name f)(B:dK c s.heap)(x:fP c.HC s.heap (.ref a) l la)(h:Q (.ref f,[.ref a]) s) :
  wpAny (model c.prog c.w) A (getMethod (.ref a) name pl) Q Er s:=by
 (refine e6a5 x.inst ?_;rintro a' da od hs t n e u_ I u_ hd);cases e;exact method_fn (H.at B) I H.ga H.gt m.find m.typ (aHt hd m.ne) h
theorem jY (C:bE c)(H:HK c K){f:Addr}(V:aBU c f)(m:lJ c K "_convert_string_type" f){n:Nat}{env:Env}{Bad:Addr->Prop}{M:List Nat}{F:Nat->List Addr}{P:Nat->Option Value}{E:AE}(X:SX c n A env Bad M F P E s)(hn:1<=n)
  {i:Nat} {a:Addr} {l la} (hP:P i=some (.ref a)) (hp:bW (nm i)=true) (hd:fP c.HC s.heap (.ref a) l la) {arg:Expr} {x:Str} {b:Bool} {p1 ap q kp kp2:Pos} {kk:Nat} {Q:Value->Shared->Prop} (hs:bM arg=true) (hl:(ap.endLine == q.line)=true) (hx:∀ ch∈sl x,okc ch=true)
  (harg:∀ (Q:Value->Shared->Prop) (Er:Value->Shared->Prop),(∀ t s',cS s s'->Q (.str x t) s')->wpAny (model c.prog c.w) A (eval arg env) Q Er s) (h:∀ t s',cS s s'->Q (.str x t) s') :
  wpAny (model c.prog c.w) A (eval (.Call (.Attribute (.Name (nm i) p1) "_convert_string_type" ap) [arg] [⟨some (nm 61),.Constant (.bool b) kk kp,kp2⟩] q) env) Q Er s:=by
 have hst:starEach [arg] env=[(false,eval arg env)]:=bK hs;refine sK (eA rfl) (by rw[hst];rfl) hl (eH X hP hp fun pl=>sJ H m X.base hd ?_)
 show wpAny _ A (callWith q (.ref f) [.ref a] _ _) Q Er s;refine callWith_KW (H.at X.base) m.keep rfl ?_ (by rw[hst];rfl) (bK hs)
 rw[hst];refine Calls.spliced_cons (harg _ _ fun t s1 st1=>Calls.spliced_nil (kwAll_cons (wpAny_pure (kwAll_nil ⟨H.at (X.base.keep st1.keep),?_⟩))));show wpAny _ A (call (.ref f) [.ref a,.str x t] [(nm 61,.bool b)]) Q Er s1;refine wpAny_call (aNq C V (X.room.le hn) (X.base.keep st1.keep) hx fun s2 st2=>h t s2 (st1.trans st2))
theorem sC {n:Nat}{env:Env}{Bad:Addr->Prop}{M:List Nat}{F:Nat->List Addr}{P:Nat->Option Value}{E:AE}(X:SX c n A env Bad M F P E s){i:Nat}{v:Value}{d:PyData}{Q:Unit->Shared->Prop}(ho:bQ env.scope (nm i)=true)(r:bL (dA Bad F) s.heap v d)(hM:md M i=0)
  (h:∀ s',SX c n A env Bad M (sW F [i]) (wC P i v) (E.set i (.dat d)) s'->cF env F s (sW F [i]) s'->Q () s'):wpAny (model c.prog c.w) A (storeName env (nm i) v) Q Er s:=by
 refine fZ X.eok X.sto ho fun h' tk k So=>?_
 have G:Got (dA Bad F) [i] h' P (wC P i v) E (E.set i (.dat d)):=fun j=>⟨fun m=>by
  rw[aH m]
  exact⟨v,d,if_pos rfl,if_pos rfl,r.kpf (X.sto.kpf k)⟩,fun m=>by
  have hj:¬ j=i:=fun e=>m (e ▸ List.mem_singleton.mpr rfl);exact⟨if_neg hj,if_neg hj⟩⟩
 exact h _ (X.set (s':={ s with heap:=h',toks:=tk }) (M':=M) (fun j=>⟨fun m=>by rw[aH m];exact hM,fun u_=>rfl⟩) (fun a h=>h) k So G) (.kb So k (.refl _) rfl fun j a h=>.inl ⟨j,(fA h).1⟩)
end
noncomputable def aKK:X:=.comp (.idx (.var 115) (.int 1)) (.name 115) (.val (.hattr 113)) (.cons (.cmp1 .eq (.p1 .lower (.idx (.var 115) (.int 0))) (.var 61)) .nil)
noncomputable def aCX:X:=.comp (.var 117) (.tup [116,117]) (.val (.hattr 113)) .nil
section
variable {c:cG} {K:Frag}
theorem aNk (C:bE c)(H:HK c K):bG c aKK :=
 wY C (yY C (zM H 113)) (xG C (wM C (aD0 C (aCx C (cQ 115) (uR 0))) (cQ 61)) sB) (aCx C (cQ 115) (uR 1))
theorem aLg (C:bE c)(H:HK c K):bG c aCX:=wY C (yY C (zM H 113)) sB (cQ 117)
end
theorem fC {l:List Nat}(h:bS l=true):mF l=true/\l.length<=lim/\∀ ch∈l,okc ch=true:=by
 unfold bS at h;rw[Bool.and_eq_true,List.all_eq_true,Nat.ble_eq]at h;refine⟨?_,h.2,h.1⟩;unfold mF;refine cD fun ch hc=>?_;have:=h.1 ch hc;simp only[Bool.and_eq_true,Nat.ble_eq,Nat.blt_eq]at this;simp only[Nat.blt_eq];lia
theorem aQ5 {ch:Nat}(h:okc ch=true):okc (cK ch)=true:=by
 unfold okc at *;simp only[Bool.and_eq_true,Nat.ble_eq,Nat.blt_eq]at *;unfold cK
 split <;> omega
theorem aEd {l:List Nat}(h:bS l=true):∀ ch∈l.map cK,okc ch=true:=by
 intro ch hc;(refine e1a2 (bJ hc) ?_;rintro x hx rfl);exact aQ5 ((fC h).2.2 x hx)
theorem kS {l:List (List Nat × List Nat)}(h:dS l=true):l.length<=lim/\∀ p∈l,bS p.1=true/\bS p.2=true:=by
 unfold dS at h;rw[Bool.and_eq_true,List.all_eq_true,Nat.ble_eq]at h;refine⟨h.2,fun p hp=>?_⟩;have:=h.1 p hp
 rwa [Bool.and_eq_true]at this
section
variable {G:Nat->Option Int} {T:Nat->List PV->Option PyData}
theorem aPX {E:AE}{l:List (List Nat × List Nat)}{n:List Nat}(hl:dS l=true)(h1:E 113=some (.hdr l))(h2:E 61=some (.dat (S (n.map cK)))):ev G T aKK E=some (.list ((eC n l).map S)):=by
 obtain ⟨hlen,hcl⟩:=kS hl
 have hds:evIt G T (.val (.hattr 113)) E=some (l.map fun p=>.tuple [S p.1,S p.2]):=by
  simp only[eQ,rP,rM h1,aD,bZ,aK];rw[if_pos hlen]
 have hloop:∀ l:List (List Nat × List Nat),(∀ p∈l,bS p.1=true/\bS p.2=true)->compLoop (fun E'=>evTests G T (.cons (.cmp1 .eq (.p1 .lower (.idx (.var 115) (.int 0))) (.var 61)) .nil) E') (fun E'=>ev G T (.idx (.var 115) (.int 1)) E') (fun d=>dF (.name 115) d E) (l.map fun p=>.tuple [S p.1,S p.2]) =
   some ((eC n l).map S):=by
  intro l
  induction l with
  | nil=>intro _;rfl
  | cons p l ih =>
   intro hc;(refine wH (fC (hc p aF).1) ?_;rintro q1 q2 u_);have ih:=ih fun x hx=>hc x (aE _ hx);simp only[aG5]at ih;simp only[aY,iQ,aG5,aD];have e115:(E.set 115 (.dat (.tuple [S p.1,S p.2]))) 115=some (.dat (.tuple [S p.1,S p.2])):=rfl;have e61:(E.set 115 (.dat (.tuple [S p.1,S p.2]))) 61=some (.dat (S (n.map cK))):=h2
   have ek:ev G T (.idx (.var 115) (.int 0)) (E.set 115 (.dat (.tuple [S p.1,S p.2])))=some (S p.1):=by
    simp only[kM,bD,gA,aI,e115,aD,lD];rfl
   have ev':ev G T (.idx (.var 115) (.int 1)) (E.set 115 (.dat (.tuple [S p.1,S p.2])))=some (S p.2):=by
    simp only[kM,bD,gA,aI,e115,aD,lD];rfl
   have et:evTests G T (.cons (.cmp1 .eq (.p1 .lower (.idx (.var 115) (.int 0))) (.var 61)) .nil) (E.set 115 (.dat (.tuple [S p.1,S p.2])))=some (decide (p.1.map cK=n.map cK)):=by
    simp only[kN,lY,wW,ek,aD,mA];rw[if_pos ⟨q1,q2⟩];simp only[bD,aI,e61,aD,rR,aAX];cases decide (p.1.map cK=n.map cK) <;> rfl
   rw[et,ev',aD,ih]
   by_cases hq:p.1.map cK=n.map cK
   .simp only[hq,decide_true,aD,eC,List.filter_cons,if_true,aY]
   .simp only[hq,decide_false,eC,List.filter_cons,Bool.false_eq_true,if_false]
 unfold aKK
 (dsimp only[gX];rw[hds,aD])
 rw[hloop l hcl];rfl
theorem aNi {E:AE}{l:List (List Nat × List Nat)}(hl:dS l=true)(h1:E 113=some (.hdr l)):ev G T aCX E=some (.list (l.map fun p=>S p.2)):=by
 obtain ⟨hlen,u_⟩:=kS hl
 have hds:evIt G T (.val (.hattr 113)) E=some (l.map fun p=>.tuple [S p.1,S p.2]):=by
  simp only[eQ,rP,rM h1,aD,bZ,aK];rw[if_pos hlen]
 have hloop:∀ l:List (List Nat × List Nat),compLoop (fun E'=>evTests G T .nil E') (fun E'=>ev G T (.var 117) E') (fun d=>dF (.tup [116,117]) d E) (l.map fun p=>.tuple [S p.1,S p.2])=some (l.map fun p=>S p.2):=by
  intro l
  induction l with
  | nil=>rfl
  | cons p l ih =>
   simp only[aY,iQ,aNz,aJm,aJl,aD,bD,aI];rw[show((E.set 116 (.dat (S p.1))).set 117 (.dat (S p.2))) 117=some (.dat (S p.2))from rfl];dsimp only[aD];simp only[bD,aI]at ih;rw[ih];rfl
 unfold aCX
 (dsimp only[gX];rw[hds,aD])
 rw[hloop l];rfl
end
structure aCQ (c:cG)(f:Addr)(x:X):Prop where
 fn:∃ fd e p,Fn0 c f fd [.Return (some e) p] [113]/\(∀ a:Value,bindArgs fd ⟨[a],[]⟩=pure (([113].map nm).zip [a]))/\aS c.fnm c.rk 0 fd.scope x e=true
noncomputable def qA (fnm:Nat->Str)(rk:Nat->Nat)(sc:Scope)(body:List Stmt):Bool :=
 bC body fun z1 z2=>dQ z1 fun z3 z4 z5=>bC z3 fun z6 z7=>bX z6 fun nn z8=>bV z7 (eY z4 fun z9 z10 z11 q=>cZ z9 fun z12 mn ap=>bX z12 fun sf z13=>bC z10 fun arg z14=>bV z14 (bC z11 fun z15 z16=>dKw z15 fun z17 z18 z19=>mB z17 fun kn=>eE z18 fun z20 z21 z22=>uW z20 fun b=>bV z16 (bC z2 fun z23 z24=>kR z23 fun z25 z26=>mB z25 fun e=>bV z24 (decide (nn=nm 61) && bQ sc nn && decide (sf=nm 113) && decide (mn=("_convert_string_type":Str)) && (ap.endLine == q.line) && bM arg && aS fnm rk 1 sc (.p1 .lower (.var 61)) arg && decide (kn=nm 61) && aS fnm rk 1 sc aKK e))))
inductive aRP (fnm:Nat->Str)(rk:Nat->Nat)(sc:Scope):List Stmt->Prop
 | mk {nn w1 sf w2 mn ap arg kn b w3 w4 w5 q w6 e w7}:(decide (nn=nm 61) && bQ sc nn && decide (sf=nm 113) && decide (mn=("_convert_string_type":Str)) && (ap.endLine == q.line) && bM arg && aS fnm rk 1 sc (.p1 .lower (.var 61)) arg && decide (kn=nm 61) && aS fnm rk 1 sc aKK e)=true->aRP fnm rk sc [.Assign [.Name nn w1] (.Call (.Attribute (.Name sf w2) mn ap) [arg] [⟨some kn,.Constant (.bool b) w3 w4,w5⟩] q) w6,.Return (some e) w7]
theorem aFn {fnm:Nat->Str}{rk:Nat->Nat}{sc:Scope}{body:List Stmt}(h:qA fnm rk sc body=true):aRP fnm rk sc body:=by
 refine aL h fun z1 z2 h=>?_;refine cC h fun z3 z4 w6 h=>?_;refine aL h fun z5 z6 h=>?_;refine aV h fun nn w1 h=>?_;refine aO h fun h=>?_;refine cI h fun z7 z8 z9 q h=>?_;refine cB h fun z10 mn ap h=>?_;refine aV h fun sf w2 h=>?_;refine aL h fun arg z11 h=>?_;refine aO h fun h=>?_;refine aL h fun z12 z13 h=>?_;refine aD8 h fun z14 z15 w5 h=>?_;refine gK h fun kn h=>?_;refine cR h fun z16 w3 w4 h=>?_;refine lF h fun b h=>?_;refine aO h fun h=>?_;refine aL h fun z17 z18 h=>?_;refine iU h fun z19 w7 h=>?_;refine gK h fun e h=>?_;refine aO h fun h=>?_;exact .mk h
structure aQv (c:cG)(f:Addr):Prop where
 fn:∃ fd body,Fn0 c f fd body [113,61]/\(∀ a b:Value,bindArgs fd ⟨[a,b],[]⟩=pure (([113,61].map nm).zip [a,b]))/\qA c.fnm c.rk fd.scope body=true
section
variable {c:cG} {K:Frag}
theorem aHr {f:Addr}{x:X}(M:aCQ c f x)(hX:bG c x)(h1:cJ (md (List.replicate 130 0)) x=true)(h2:hJ (md (List.replicate 130 0)) x=0){A:Around}{s:Shared}{a:Addr} {l la}{d:PyData}{R:Result->Shared->Prop}{Bad:Addr->Prop}(hroom:fO 1 A)(B:dK c s.heap)
  (hbad:∀ a,Bad a->∃ o,s.heap.get? a=some o) (hd:fP c.HC s.heap (.ref a) l la) (hev:ev c.G c.T x (AE.set (fun u_=>none) 113 (.hdr l))=some d) (h:∀ v s',cS s s'->bL Bad s'.heap v d->R (.ok (.ret v)) s') :
  codeAny (model c.prog c.w) A (.call (.ref f) ⟨[.ref a],[]⟩) R s:=by
 (refine cA fun G_ hG_=>?_;rcases M with ⟨fd,e,p,F0,hb,hc⟩;all_goals (refine hG_ ?_;clear hG_ G_))
 refine gL (n:=0) (Bad:=Bad) (V:=fun vals u_=>vals=[.ref a]) hroom B F0 hbad (fun Q Er hq=>?_) fun env vals s0 s1 Er es st0 hV st1 X fin low=>?_
 .rw[hb];exact wpAny_pure (hq [.ref a] s (.refl s) rfl rfl)
 subst hV;rw[<-es]at hc;have hd1:=hd.keep (st0.trans st1).keep;refine wpAny_execs_cons (wpAny_Return_some (hX 0 _ env _ _ _ s1 e d _ Er (X.cxH (i:=113) rfl hd1) hc h1 hev fun v s2 st2 r u_=>?_));rw[h2]at r;exact h v s2 (st0.trans (fin (fun u_=>[]) _ (.of st2))) (bL.bad r)
set_option tactic.hygienic true in
theorem aIb (C:bE c)(H:HK c K){f fc:Addr}(M:aQv c f)(V:aBU c fc)(mc:lJ c K "_convert_string_type" fc){A:Around}{s:Shared}{a:Addr} {l la}{n:List Nat}{v:Value}{R:Result->Shared->Prop}{Bad:Addr->Prop}(hroom:fO 2 A)(B:dK c s.heap)
  (hbad:∀ a,Bad a->∃ o,s.heap.get? a=some o) (hd:fP c.HC s.heap (.ref a) l la) (hn:bS n=true) (hl:dS l=true) (hv:bL Bad s.heap v (S n)) (h:∀ v s',cS s s'->bL Bad s'.heap v (.list ((eC n l).map S))->R (.ok (.ret v)) s') :
  codeAny (model c.prog c.w) A (.call (.ref f) ⟨[.ref a,v],[]⟩) R s:=by
 (refine cA fun G_ hG_=>?_;rcases M with ⟨fd,body,F0,hb,hc⟩;all_goals (refine hG_ ?_;clear hG_ G_))
 (refine e1a1 hv.str ?_;rintro t rfl);refine gL (n:=1) (Bad:=Bad) (V:=fun vals _=>vals=[.ref a,.str ⟨⟨n⟩⟩ t]) hroom B F0 hbad (fun Q Er hq=>?_) fun env vals s0 s1 Er es st0 hV st1 X fin low=>?_
 .rw[hb];exact wpAny_pure (hq [.ref a,.str ⟨⟨n⟩⟩ t] s (.refl s) rfl rfl)
 subst hV;have hv:=aFn hc;clear hc;cases hv
 rename_i hc
 rw[<-es]at hc;(refine aDD hc ?_;try clear hc;rintro rfl c1 rfl rfl c2 c3 c4 rfl c5);have hd1:=hd.keep (st0.trans st1).keep;have X1:=X.addE (i:=61) (d:=S n) rfl .mkStr (md0 _) rfl;(refine wH (fC hn) ?_;rintro a1 a2 a3)
 have elow:ev c.G c.T (.p1 .lower (.var 61)) (AE.set (fun _=>none) 61 (.dat (S n)))=some (S (n.map cK)):=by
  exact if_pos ⟨a1,a2⟩
 refine wpAny_execs_cons (wpAny_Assign_Name (jY C H V mc X1 (Nat.le_refl _) (i:=113) (by rfl) (by decide +kernel) hd1 (x:=⟨⟨n.map cK⟩⟩) c3 c2 (aEd hn) (fun Q Er hq=>?_) fun t2 s2 st2=>?_) rfl)
 .refine aD0 C (cQ 61) 1 _ env _ _ _ s1 _ _ _ Er X1.cx c4 (by rfl) elow fun v s' st r _=>?_
  (refine e1a1 r.any.str ?_;rintro t3 rfl);exact hq t3 s' st
 have X2:=X1.stp st2;refine sC X2 c1 (d:=S (n.map cK)) .mkStr (md0 _) fun s3 X3 S3=>?_;have st3:=st0.trans (fin _ s3 ((cF.of st2).trans S3));have hd3:=hd.keep st3.keep;refine wpAny_execs_cons (wpAny_Return_some (aNk C H 1 _ env _ _ _ s3 _ _ _ Er (X3.cxH (i:=113) (by rfl) hd3) c5 (by decide +kernel) (aPX (n:=n) hl rfl rfl) fun v s4 st4 r _=>?_))
 exact h v s4 (st3.trans st4) (bL.bad r)
structure lI (c:cG)(K:Frag):Prop where
 hk:HK c K
 conv:∃ f,lJ c K "_convert_string_type" f/\aBU c f
 get:∃ f,lJ c K "get_all" f/\aQv c f
 vals:∃ f,lJ c K "values" f/\aCQ c f aCX
set_option tactic.hygienic true in
theorem aDO {Own:Addr->Prop}{env:Env}{M:Nat->Nat}{E:AE}{s:Shared}{n:Nat}{A:Around}(X:Cx c n A Own env M E s){i:Nat} {l}(hl:fV E i=some l)(ha:acc env.scope (nm i)=true) :
  ∃ m a la,s.heap.Ns env.locals m/\Lk env s.heap m (nm i) (.ref a)/\fP c.HC s.heap (.ref a) l la:=by
 (refine e1a2 X.view.ns ?_;rintro m hm hv);have hE:E i=some (.hdr l):=oY hl;(refine e1a2 (hv i _ hE ha) ?_;rintro v hlk hr)
 cases hr with
 | hdr hd =>
  rename_i la
  (refine e6a2 hd.inst ?_;rintro a da od hs t n' e _);subst e;exact⟨m,a,la,hm,hlk,hd⟩
theorem aNj (C:bE c)(M:lI c K)(i:Nat){a:X}(ha:bG c a):bG c (.hget i a):=by
 intro n A env Own Md E s e d Q Er X hc ho he h;simp only[vT,Bool.and_eq_true,decide_eq_true_eq]at hc;obtain ⟨hn,hc⟩:=hc;(refine e4a6 (nA hc) ?_;rintro o z ap q rfl c1 c2 c3 c4 c5);(refine e1a3 (fG c4) ?_;rintro p rfl c6 c7);dsimp only[aE1]at ho;revert he;refine cE fun l hl=>cE fun x hx=>cE fun nn hnn he=>?_;revert he;refine ifs fun hcl he=>?_;(replace he:=(aA he).symm;subst he);(refine e1a2 M.get ?_;rintro f mf gf);(refine e1a2 M.conv ?_;rintro fc mc vc);have hq0:∃ v0,x=.str v0:=by revert hnn;generalize x=y0;intro hnn;cases y0 <;> first | exact⟨_,rfl⟩ | exact cM hnn | exact eR hnn | cases hnn
 (refine e1a1 hq0 ?_;try clear hq0;rintro x rfl);have hnn:some (sl x)=some nn:=hnn;(replace hnn:=(aA hnn).symm;subst hnn);(refine e3a3 (aDO X hl c6) ?_;rintro m b la hm hlk hd);have hst:starEach [z] env=[(false,eval z env)]:=bK c3;refine sK (eA rfl) (by rw[hst];rfl) c2 (aBH X.eok hm hlk c7 fun pl=>sJ M.hk mf X.base hd ?_)
 show wpAny _ A (callWith q (.ref f) [.ref b] _ _) Q Er s;refine callWith_KW (M.hk.at X.base) mf.keep rfl ?_ (by rw[hst];rfl) (bK c3)
 rw[hst];refine Calls.spliced_cons (ha n A env Own Md E s z (.str x) _ Er X c5 ho hx fun v s1 st1 r u_=>Calls.spliced_nil (kwAll_nil ⟨M.hk.at (X.base.keep st1.keep),?_⟩));show wpAny _ A (call (.ref f) [.ref b,v] []) Q Er s1;have X1:=X.stp C st1;(refine e1a1 r.any.str ?_;rintro t rfl);refine wpAny_call (aIb C M.hk gf vc mc (X1.room.le (by lia)) X1.base X1.live (hd.keep st1.keep) hcl.1 hcl.2 .mkStr fun v s2 st2 r2=>h v s2 (st1.trans st2) r2 fun z=>nomatch z)
theorem aIy (C:bE c)(M:lI c K){name:Str}{x:X}{f:Addr}(mf:lJ c K name f)(sf:aCQ c f x)(hX:bG c x)(h1:cJ (md (List.replicate 130 0)) x=true)(h2:hJ (md (List.replicate 130 0)) x=0){i:Nat}{y:X}(hy:oJ y=false)(hod:∀ Md,hJ Md y=0)
  (hchk:∀ n sc e,aS c.fnm c.rk n sc y e=true->2 < n/\aH3 name (qE sc i) e=true) (hev:∀ E d,ev c.G c.T y E=some d->∃ l,fV E i=some l/\ev c.G c.T x (AE.set (fun u_=>none) 113 (.hdr l))=some d):bG c y:=by
 intro n A env Own Md E s e d Q Er X hc ho he h;obtain ⟨hn,hc⟩:=hchk _ _ _ hc;(refine e3a4 (wT hc) ?_;rintro o ap q rfl c1 c2 c4);(refine e1a3 (fG c4) ?_;rintro p rfl c6 c7);(refine e1a2 (hev _ _ he) ?_;rintro l hl hx);(refine e3a3 (aDO X hl c6) ?_;rintro m b la hm hlk hd);refine sK (eA rfl) rfl c2 (aBH X.eok hm hlk c7 fun pl=>sJ M.hk mf X.base hd ?_);show wpAny _ A (callWith q (.ref f) [.ref b] _ _) Q Er s;refine callWith_KW0 (M.hk.at X.base) mf.keep rfl (kwAll_nil ⟨M.hk.at X.base,?_⟩);show wpAny _ A (call (.ref f) [.ref b] []) Q Er s;refine wpAny_call (aHr sf hX h1 h2 (X.room.le (by lia)) X.base X.live hd hx fun v s2 st2 r2=>h v s2 st2 (by rw[hod];exact r2) fun z=>by rw[hy]at z;exact eR z)
set_option tactic.hygienic true in
theorem aLl (C:bE c)(M:lI c K)(i:Nat):bG c (.hvals i):=by
 (refine e1a2 M.vals ?_;rintro f mf sf);refine aIy (i:=i) C M mf sf (aLg C M.hk) (by decide +kernel) (by decide +kernel) rfl (fun _=>rfl) (fun n sc e h=>?_) fun E d h=>?_
 .simp only[tJ,Bool.and_eq_true,decide_eq_true_eq]at h;exact h
 .revert h
  refine cE fun l hl h=>?_
  split at h
  .rename_i q;(replace h:=(aA h).symm;subst h);exact⟨l,hl,aNi q rfl⟩
  .exact cM h
end
noncomputable def aBS (ck:Ck)(e:Expr):Bool :=
 eY e fun f as ks q=>cZ f fun o mn ap=>bX o fun sf u1_=>bC as fun arg r=>bV r (bC ks fun k r=>dKw k fun kn kv u2_=>mB kn fun kn=>eE kv fun cb u3_ u4_=>uW cb fun u5_=>bV r (decide (sf=nm 113) && decide (mn=("_convert_string_type":Str)) && (ap.endLine == q.line) && bM arg && ck arg && decide (kn=nm 61)))
inductive CvV (ck:Ck):Expr->Prop
 | mk {w2 ap arg w3 w4 w5 w6 q}:(ap.endLine == q.line)=true->bM arg=true->ck arg=true->CvV ck (.Call (.Attribute (.Name (nm 113) w2) ("_convert_string_type":Str) ap) [arg] [⟨some (nm 61),.Constant (.bool w3) w4 w5,w6⟩] q)
theorem lV {ck:Ck}{e:Expr}(h:aBS ck e=true):CvV ck e:=by
 refine cI h fun z1 z2 z3 q h=>?_;refine cB h fun z4 mn ap h=>?_;refine aV h fun sf w2 h=>?_;refine aL h fun arg z5 h=>?_;refine aO h fun h=>?_;refine aL h fun z6 z7 h=>?_;refine aD8 h fun z8 z9 w6 h=>?_;refine gK h fun kn h=>?_;refine cR h fun z10 w4 w5 h=>?_;refine lF h fun w3 h=>?_;refine aO h fun h=>?_;(refine aKk h ?_;clear h;rintro rfl rfl h1 h2 h3 rfl);exact .mk h1 h2 h3
noncomputable def aIf (fnm:Nat->Str)(rk:Nat->Nat)(sc:Scope)(s:Stmt):Bool :=
 zQ s fun t b o u1_=>bV o (bC b fun x r=>bC r fun s2 r=>bV r (dQ x fun tg v u2_=>bC tg fun y r=>bV r (bX y fun v1 u3_=>aS fnm rk 1 sc (.isC true (.var 120) .none) t && decide (v1=nm 120) && bQ sc v1 && aBS (aS fnm rk 1 sc (.var 120)) v && jF fnm rk 1 sc (.app 33 (.var 120)) s2)))
inductive IfV (fnm:Nat->Str)(rk:Nat->Nat)(sc:Scope):Stmt->Prop
 | mk {t w1 v w7 s2 w8}:aS fnm rk 1 sc (.isC true (.var 120) .none) t=true->bQ sc (nm 120)=true->CvV (aS fnm rk 1 sc (.var 120)) v->jF fnm rk 1 sc (.app 33 (.var 120)) s2=true->IfV fnm rk sc (.If t [.Assign [.Name (nm 120) w1] v w7,s2] [] w8)
theorem aM1 {fnm:Nat->Str}{rk:Nat->Nat}{sc:Scope}{s:Stmt}(h:aIf fnm rk sc s=true):IfV fnm rk sc s:=by
 refine fT h fun t z1 z2 w8 h=>?_;refine aO h fun h=>?_;refine aL h fun z3 z4 h=>?_;refine aL h fun s2 z5 h=>?_;refine aO h fun h=>?_;refine cC h fun z6 v w7 h=>?_;refine aL h fun z7 z8 h=>?_;refine aO h fun h=>?_;refine aV h fun v1 w1 h=>?_;(refine aGt h ?_;clear h;rintro h1 rfl h2 h3 h4);exact .mk h1 h2 (lV h3) h4
noncomputable def aRJ (s:Stmt):Bool :=
 aBJ s fun u1_ it u2_ ol u3_=>bV ol (eY it fun f as ks q=>bV as (bV ks (cZ f fun o itn ap=>bX o fun pm u4_=>decide (pm=nm 121) && decide (itn=("items":Str)) && (ap.endLine == q.line))))
inductive aQw:Stmt->Prop
 | mk {w9 w10 ap q w11 w12}:(ap.endLine == q.line)=true->aQw (.For w9 (.Call (.Attribute (.Name (nm 121) w10) ("items":Str) ap) [] [] q) w11 [] w12)
theorem aKC {s:Stmt}(h:aRJ s=true):aQw s:=by
 refine nI h fun w9 z1 w11 z2 w12 h=>?_;refine aO h fun h=>?_;refine cI h fun z3 z4 z5 q h=>?_;refine aO h fun h=>?_;refine aO h fun h=>?_;refine cB h fun z6 itn ap h=>?_;refine aV h fun pm w10 h=>?_;(refine aNV h ?_;clear h;rintro rfl rfl h);exact .mk h
noncomputable def aRL (fnm:Nat->Str)(rk:Nat->Nat)(sc:Scope)(s:Stmt):Bool :=
 rT s fun e u1_=>eY e fun f as ks q=>bV ks (cZ f fun at1 app ap=>bC as fun tp r=>bV r (jU tp fun es u2_ u3_=>bC es fun cv r=>bC r fun e2 r=>bV r (sP sc 113 at1 && decide (app=("append":Str)) && (ap.endLine == q.line) && aBS (aS fnm rk 1 sc (.var 119)) cv && bM e2 && aS fnm rk 1 sc (.p2 .join (.str [59,32]) (.var 33)) e2)))
inductive aNH (fnm:Nat->Str)(rk:Nat->Nat)(sc:Scope):Stmt->Prop
 | mk {at1 ap cv e2 w18 w19 q w20}:sP sc 113 at1=true->(ap.endLine == q.line)=true->CvV (aS fnm rk 1 sc (.var 119)) cv->bM e2=true->aS fnm rk 1 sc (.p2 .join (.str [59,32]) (.var 33)) e2=true->aNH fnm rk sc (.Expr (.Call (.Attribute at1 ("append":Str) ap) [.Tuple [cv,e2] w18 w19] [] q) w20)
theorem aKE {fnm:Nat->Str}{rk:Nat->Nat}{sc:Scope}{s:Stmt}(h:aRL fnm rk sc s=true):aNH fnm rk sc s:=by
 refine fL h fun z1 w20 h=>?_;refine cI h fun z2 z3 z4 q h=>?_;refine aO h fun h=>?_;refine cB h fun at1 app ap h=>?_;refine aL h fun z5 z6 h=>?_;refine aO h fun h=>?_;refine eX h fun z7 w18 w19 h=>?_;refine aL h fun cv z8 h=>?_;refine aL h fun e2 z9 h=>?_;refine aO h fun h=>?_;(refine aKn h ?_;clear h;rintro h1 rfl h2 h3 h4 h5);exact .mk h1 h2 (lV h3) h4 h5
noncomputable def aAq (fnm:Nat->Str)(rk:Nat->Nat)(sc:Scope)(body:List Stmt):Bool :=
 bC body fun s1 r=>bC r fun s2 r=>bC r fun s3 r=>bC r fun s4 r=>bV r (jF fnm rk 1 sc (.asg 1 33 (.lst .nil)) s1 && aIf fnm rk sc s2 && aRJ s3 && aRL fnm rk sc s4)
inductive aRU (fnm:Nat->Str)(rk:Nat->Nat)(sc:Scope):List Stmt->Prop
 | mk {s1 s2 s3 s4}:jF fnm rk 1 sc (.asg 1 33 (.lst .nil)) s1=true->IfV fnm rk sc s2->aQw s3->aNH fnm rk sc s4->aRU fnm rk sc [s1,s2,s3,s4]
theorem aM0 {fnm:Nat->Str}{rk:Nat->Nat}{sc:Scope}{body:List Stmt}(h:aAq fnm rk sc body=true):aRU fnm rk sc body:=by
 refine aL h fun s1 z1 h=>?_;refine aL h fun s2 z2 h=>?_;refine aL h fun s3 z3 h=>?_;refine aL h fun s4 z4 h=>?_;refine aO h fun h=>?_;(refine lM h ?_;clear h;rintro h1 h2 h3 h4);exact .mk h1 (aM1 h2) (aKC h3) (aKE h4)
structure aL0 (c:cG)(f:Addr):Prop where
 fn:∃ fd body,Fn0 c f fd body [113,119,120,121]/\(∀ a n v:Value,bindArgs fd ⟨[a,n,v],[]⟩=(alloc { cls:=.type "dict",data:=.dict #[] } >>= fun d=>pure (([113,119,120,121].map nm).zip [a,n,v,.ref d])))/\aAq c.fnm c.rk fd.scope body=true
section
variable {c:cG} {K:Frag}
theorem dK.sz {h:Heap}(B:dK c h):3 < h.objs.size:=Heap.Ns.lt B.g
set_option tactic.hygienic true in
theorem aIc {A:Around}{env:Env}{Bad:Addr->Prop}{M:List Nat}{F:Nat->List Addr}{P:Nat->Option Value}{E:AE}{s:Shared}{n:Nat}(X:SX c n A env Bad M F P E s){i:Nat}{d:Addr}(hP:P i=some (.ref d))(hp:bW (nm i)=true)(hd:∃ o:Obj,s.heap.get? d=some o/\o.ExactDict/\o.data=.dict #[] 0)(hd2:(d == sysModules)=false)
  {tg:Expr} {p1 ap q pos:Pos} {body:List Stmt} {Q:Flow->Shared->Prop} {Er:Value->Shared->Prop} (hl:(ap.endLine == q.line)=true) (h:∀ s',cS s s'->Q .next s'):wpAny (model c.prog c.w) A (exec (.For tg (.Call (.Attribute (.Name (nm i) p1) "items" ap) [] [] q) body [] pos) env) Q Er s:=by
 (refine e1a3 hd ?_;try clear hd;rintro o ho hex hdat);have DA:∀ {s':Shared},cS s s'->s'.heap.DictAt (strKind c.prog c.w) d [] 0:=fun st=>⟨o,#[],st.keep _ _ ho,hex,hdat,fun e he=>by simp at he,.nil,List.nodup_nil⟩
 refine wpAny_For (Call_method0 (eA rfl) hl (eH X hP hp ?_)) (sF rfl);refine⟨"dict",_,PySem.F.plainAttrs_dict,PySem.F.slot_dict_items,PySem.F.type_dict_items,⟨o,ho,hex.1⟩,fun b eb=>?_,?_⟩
 .cases eb;exact⟨o,ho,hex.2.1⟩
 refine Calls.callWith_builtin rfl (pB (.inl rfl) (Calls.spliced_nil ?_));refine call_meetsIn PySem.F.slot_dict_items ⟨o,ho,hex.1⟩ PySem.F.entry_dict_items (PySem.F.args_dict_items_1 _) (meets_dict_items (strKind c.prog c.w) d hd2) ⟨⟨[],(DA (.refl s)).dictOf⟩,?_⟩;have st1:cS s { s with heap:=s.heap.push { cls:=.type "dict_items",data:=.fields #[.ref d] } }:=.push
 refine wpAny_pyIter_items (kvs:=[]) (ep:=0) ⟨_,Heap.get?_push_size _ rfl,rfl,rfl⟩ (DA st1) ?_;generalize hs2:({ s with heap:=s.heap.push { cls:=.type "dict_items",data:=.fields #[.ref d] } }:Shared)=s2 at st1 ⊢
 have st2:cS s { s2 with heap:=s2.heap.push { cls:=.type "dict_itemiterator",data:=.fields #[.none,.bool false,.ref d,.int 0 0,.int (([]:List (Str × Value)).length:Int) 0,.int ((0:Nat):Int) 0,.none,.none] } }:=st1.trans .push
 refine codeAny_forLoop_any (fun k s'=>s'={ s2 with heap:=s2.heap.push { cls:=.type "dict_itemiterator",data:=.fields #[.none,.bool false,.ref d,.int 0 0,.int (([]:List (Str × Value)).length:Int) 0,.int ((0:Nat):Int) 0,.none,.none] } }) ?_ 0 rfl
 rintro k s' rfl;refine wpAny_pyNext_items_end (knd:=strKind c.prog c.w) (i:=0) (ep:=0) (kvs:=[]) (d:=d) (ok:=.none) (ov:=.none) X.room.hand (Heap.get?_push_size _ rfl) (DA st2) rfl fun h' hx=>wpAny_execs_nil (h _ ?_);refine⟨fun b o e=>hx b o (fun q=>?_) (st2.keep b o e),st2.gk,st2.os⟩;have:=Heap.lt_size (st1.keep b o e);rw[q]at this;exact absurd this (Nat.lt_irrefl _)
set_option tactic.hygienic true in
theorem aLQ (C:bE c){n:Nat}{A:Around}{env:Env}{Bad:Addr->Prop}{M:List Nat}{F:Nat->List Addr}{P:Nat->Option Value}{E:AE}{s:Shared}{i:Nat}{e:X}{x:Stmt}{xs:List PyData}{d:PyData}{Q:Flow->Shared->Prop}{Er:Value->Shared->Prop}
  (X:SX c n A env Bad M F P E s) (he:bG c e) (hc:jF c.fnm c.rk n env.scope (.app i e) x=true) (hl0:E i=some (.dat (.list xs))) (hsz:xs.length<=lim) (g1:md M i=1) (g2:cJ (md M) e=true) (g3:hJ (md M) e=0) (hd:ev c.G c.T e E=some d)
  (h:∀ s',SX c n A env Bad M F P (E.set i (.dat (.list (xs++[d])))) s'->cF env F s F s'->Q .next s'):wpAny (model c.prog c.w) A (exec x env) Q Er s:=by
 dsimp only[aAn]at hc;refine fL hc fun v pos hc=>?_
 ·(refine e4a6 (nA hc) ?_;rintro o z ap q rfl c1 c2 c3 c4 c5)
  (refine e1a3 (fG c4) ?_;rintro p1 rfl _ c6);(refine e1a2 (X.vars i _ hl0) ?_;rintro v0 q1 q2);rw[g1]at q2;(refine e2a4 (aCc q2) ?_;rintro a vs rfl hF hl hx);refine wpAny_Expr ?_ (iN X.eok) rfl;refine Call_method1 (eA c1) (jW c3) c2 (eH X q1 c6 ?_);refine⟨"list",_,PySem.F.plainAttrs_list,PySem.F.slot_list_append,PySem.F.type_list_append,hl.isList.typeIs,(fun b eb=>?_),?_⟩
  .cases eb
   (refine e1a1 hl ?_;try clear hl;rintro nn e0);exact⟨_,e0,rfl⟩
  .refine Calls.callWith_builtin rfl (Calls.evalArgs_plain (Calls.spliced_cons (he n A env _ _ E s z d _ Er X.cx c5 g2 hd fun v1 s1 st1 r1 _=>Calls.spliced_nil ?_)))
   rw[g3]at r1;have X1:=X.stp st1;have hl1:=PlainList.keep st1.keep hl;have hx1:=hx.mono fun _ _ q=>bL.keep st1.keep q;have elen:=hx.length;rw[Array.length_toList]at elen;refine wpAny_list_append_plain hl1 (fun h' hl' hs'=>?_) (gD (elen ▸ hsz));have mem:a∈F i:=hF ▸ aF
   have kp:jZ (dA Bad F) s1.heap h':=fun b o ws nn hb' hd hc'=>(hs'.2 b fun q=>by
    subst q;(refine e1a1 hl1 ?_;try clear hl1;rintro n1 e1)
    rcases hc' with hc' | hc'
    .rw[e1]at hb';(replace hb':=(aA hb').symm;subst hb');exact absurd hc' (by simp)
    .exact hc' (.inr ⟨i,mem⟩)).trans hb'
   have X3:=X1.mut (s':={ s1 with heap:=h' }) (pv:=.dat (.list (xs++[d]))) mem hs' ⟨_,hl'⟩ ⟨.ref a,q1,by
    rw[g1,hF];refine .one hl' ?_;rw[Array.toList_push];exact(hx1.mono fun _ _ q=>q.kpf kp).append (.cons (r1.kpf kp) .nil)⟩
   exact h _ X3 ((cF.of st1).trans (.mut mem hs' ⟨_,hl'⟩ (.refl _) rfl))
theorem aH4 (a b:List Nat):eV a [b]=b:=rfl
set_option tactic.hygienic true in
theorem aDQ {prog:Program}{w:World}{A:Around}{Er:Value->Shared->Prop}{s8 s11:Shared}{la D:Addr}{vs:Array Value}{l:List (List Nat × List Nat)}{n v:List Nat}{t9 t10:Tok}{Q:Value->Shared->Prop}(hpl:s8.heap.PlainList la vs)(hpx:bP (bL (fun _=>False) s8.heap) vs.toList (l.map fun p=>PyData.tuple [S p.1,S p.2]))(kk:bY s8.heap s11.heap)(hl:l.length<=lim)
  (hT:s11.heap.IsTuple D #[Value.str ⟨⟨n⟩⟩ t9,.str ⟨⟨v⟩⟩ t10])
  (h:∀ h',(∃ vs,h'.PlainList la vs/\bP (bL (fun _=>False) h') vs.toList ((l++[(n,v)]).map fun p=>PyData.tuple [S p.1,S p.2]))->Heap.SameBut la s11.heap h'->Q .none { s11 with heap:=h' }) :
  wpAny (model prog w) A (call (.builtin "list.append") [.ref la,.ref D]) Q Er s11:=by
 have hpl11:=PlainList.keep kk hpl;have elen:=hpx.length;rw[Array.length_toList,aK]at elen;refine wpAny_list_append_plain hpl11 (fun h' hl' hs'=>?_) (gD (elen ▸ hl));refine h h' ⟨_,hl',?_⟩ hs'
 have kp:jZ (fun b=>b=la) s11.heap h':=fun b o ws nn hb' hd hc'=>(hs'.2 b fun q=>by
  subst q;(refine e1a1 hpl11 ?_;try clear hpl11;rintro n1 e1)
  rcases hc' with hc' | hc'
  .rw[e1]at hb';(replace hb':=(aA hb').symm;subst hb');exact absurd hc' (by simp)
  .exact hc' rfl).trans hb'
 rw[Array.toList_push,List.map_append];refine(pS (Y:=fun _=>False) kp (hpx.mono fun _ _ q=>bL.keep kk q)).append (.cons ?_ .nil);have r:bL (fun b=>b=la) s11.heap (.ref D) (.tuple [S n,S v]):=bL.tuple hT (.cons .mkStr (.cons .mkStr .nil));exact yB (r.kpf kp)
set_option tactic.hygienic true in
theorem aNE (C:bE c)(M:lI c K){fc:Addr}(mc:lJ c K "_convert_string_type" fc)(vc:aBU c fc){A:Around}{env:Env}{Bad:Addr->Prop}{M7:List Nat}{F:Nat->List Addr}{P:Nat->Option Value}{E:AE}{s7:Shared}{a:Addr} {l la}{n v:List Nat}{x:Stmt}{Q:Flow->Shared->Prop}{Er:Value->Shared->Prop}
  (X7:SX c 1 A env Bad M7 F P E s7) (vA:aNH c.fnm c.rk env.scope x) (hd:fP c.HC s7.heap (.ref a) l la) (hn:bS n=true) (hv:bS v=true) (hl:l.length<=lim) (p113:P 113=some (.ref a)) (e119:E 119=some (.dat (S n))) (e33:E 33=some (.dat (.list [S v])))
  (m119:cJ (md M7) (.var 119)=true) (mj:cJ (md M7) (.p2 .join (.str [59,32]) (.var 33))=true)
  (h:∀ s1 h',cS s7 s1->(∃ vs,h'.PlainList la vs/\bP (bL (fun _=>False) h') vs.toList ((l++[(n,v)]).map fun p=>PyData.tuple [S p.1,S p.2]))->Heap.SameBut la s1.heap h'->Q .next { s1 with heap:=h' }) :
  wpAny (model c.prog c.w) A (exec x env) Q Er s7:=by
 cases vA with | mk c9 c10 vC c14 c15 =>
 cases vC with | mk c11 c12 c13 =>
 (refine e2a3 (sT c9) ?_;rintro pa pb rfl _ _);refine wpAny_Expr ?_ (iN X7.eok) rfl;refine Call_method1 (eA rfl) (jW rfl) c10 (Attribute_Name_ (eH X7 (i:=113) p113 (by decide +kernel) (lB M.hk X7.base hd ?_)))
 have st8:cS s7 { s7 with toks:=s7.toks+1 }:=.toks
 generalize hs8:({ s7 with toks:=s7.toks+1 }:Shared)=s8 at st8 ⊢
 have X8:=X7.stp st8;have hd8:=hd.keep st8.keep;(refine e1a2 (hd8.list) ?_;rintro vs hpl hpx);refine⟨"list",_,PySem.F.plainAttrs_list,PySem.F.slot_list_append,PySem.F.type_list_append,hpl.isList.typeIs,(fun b eb=>?_),?_⟩
 .cases eb
  (refine e1a1 hpl ?_;try clear hpl;rintro nn e0);exact⟨_,e0,rfl⟩
 refine Calls.callWith_builtin rfl (Calls.evalArgs_plain (Calls.spliced_cons (wpAny_Tuple_spliced ?_)));rw[bK (e:=.Call _ _ _ _) rfl,bK c14];refine Calls.spliced_cons (jY C M.hk vc mc X8 (Nat.le_refl _) (i:=113) p113 (by decide +kernel) hd8 (x:=⟨⟨n⟩⟩) c12 c11 (fC hn).2.2 (fun Q Er hq=>?_) fun t9 s9 st9=>?_)
 .refine cQ 119 1 _ env _ _ _ s8 _ (S n) _ Er X8.cx c13 m119 (by dsimp only[bD];unfold aI;rw[e119]) fun v s' st r _=>?_
  (refine e1a1 r.any.str ?_;rintro t rfl);exact hq t s' st
 have X9:=X8.stp st9
 have ej:ev c.G c.T (.p2 .join (.str [59,32]) (.var 33)) E=some (S v):=by
  dsimp only[sX,pD,bD];unfold aI;rw[e33];show wF .join (S [59,32]) (.list [S v])=_;dsimp only[eO];simp only[aJi,aOt,aD,aH4];exact if_pos ⟨(fC hv).2.1,by show(1:Nat)<=1000000;lia,by show(2:Nat)<=1000000;lia⟩
 refine Calls.spliced_cons (aNZ C (uO _) (cQ 33) 1 _ env _ _ _ s9 _ (S v) _ _ X9.cx c15 mj ej fun w s10 st10 r10 _=>Calls.spliced_nil ⟨by rw[sizeLine_eq];show(2:Nat)<=16777216;lia,?_⟩)
 (refine e1a1 r10.any.str ?_;rintro t10 rfl);have X10:=X9.stp st10;refine Calls.spliced_nil ?_;generalize hs11:({ s10 with heap:=s10.heap.push { cls:=.type "tuple",data:=.seq [Value.str ⟨⟨n⟩⟩ t9,.str ⟨⟨v⟩⟩ t10].toArray } }:Shared)=s11
 have st11:cS s10 s11:=by rw[<-hs11];exact .push
 have hT:s11.heap.IsTuple s10.heap.objs.size #[Value.str ⟨⟨n⟩⟩ t9,.str ⟨⟨v⟩⟩ t10]:=by rw[<-hs11];exact⟨_,Heap.get?_push_size _ rfl,rfl,_,rfl⟩
 exact aDQ hpl hpx (st9.trans (st10.trans st11)).keep hl hT fun h' q1 q2=>h s11 h' (((st8.trans st9).trans st10).trans st11) q1 q2
set_option tactic.hygienic true in
theorem aQk (C:bE c)(M:lI c K){f:Addr}(AF:aL0 c f){A:Around}{s:Shared}{a:Addr} {l la}{n v:List Nat}{vn vv:Value}{R:Result->Shared->Prop}{Bad:Addr->Prop}(hroom:fO 2 A)(B:dK c s.heap)
  (hbad:∀ a,Bad a->∃ o,s.heap.get? a=some o) (hd:fP c.HC s.heap (.ref a) l la) (hn:bS n=true) (hv:bS v=true) (hl:l.length<=lim) (rn:bL Bad s.heap vn (S n)) (rv:bL Bad s.heap vv (S v))
  (h:∀ s1 h',cS s s1->(∃ vs,h'.PlainList la vs/\bP (bL (fun _=>False) h') vs.toList ((l++[(n,v)]).map fun p=>PyData.tuple [S p.1,S p.2]))->Heap.SameBut la s1.heap h'->R (.ok (.ret .none)) { s1 with heap:=h' }) :
  codeAny (model c.prog c.w) A (.call (.ref f) ⟨[.ref a,vn,vv],[]⟩) R s:=by
 (refine cA fun G_ hG_=>?_;rcases AF with ⟨fd,body,F0,hb,hc⟩;all_goals (refine hG_ ?_;clear hG_ G_))
 (refine e1a1 rn.str ?_;rintro tn rfl);(refine e1a1 rv.str ?_;rintro tv rfl);(refine e1a2 M.conv ?_;rintro fc mc vc);refine gL (n:=1) (Bad:=Bad) (V:=fun vals s0=>∃ d,vals=[.ref a,.str ⟨⟨n⟩⟩ tn,.str ⟨⟨v⟩⟩ tv,.ref d]/\s0.heap.get? d=some { cls:=.type "dict",data:=.dict #[] }/\(d == sysModules)=false) hroom B F0 hbad (fun Q Er hq=>?_) fun env vals s0 s1 Er es st0 hV st1 X fin low=>?_
 .rw[hb]
  refine wpAny_bind (wpAny_alloc (wpAny_pure (hq [.ref a,.str ⟨⟨n⟩⟩ tn,.str ⟨⟨v⟩⟩ tv,.ref s.heap.objs.size] _ .push rfl ⟨_,rfl,Heap.get?_push_size _ rfl,?_⟩)));have:=B.sz;exact beq_eq_false_iff_ne.mpr (by show s.heap.objs.size≠1;lia)
 (refine e1a3 hV ?_;try clear hV;rintro d rfl hdd hds);have hv:=aM0 (show aAq c.fnm c.rk env.scope body=true by rw[es];exact hc)
 clear hc;revert F0
 cases hv with | mk c1 vI vF vA =>
 intro F0;clear F0;have hdS:∀ {F' s'},cF env (fun _=>[]) s1 F' s'->fP c.HC s'.heap (.ref a) l la:=fun S=>hd.keep (st0.trans (fin _ _ S)).keep;have X1:=(X.addE (i:=119) (d:=S n) (v:=.str ⟨⟨n⟩⟩ tn) (by rfl) .mkStr (md0 _) rfl).addE (i:=120) (d:=S v) (v:=.str ⟨⟨v⟩⟩ tv) (by rfl) .mkStr (md0 _) rfl
 (refine e3a4 (xT (by simp only[aAm]at c1;exact c1)) ?_;rintro p33 v33 pos33 rfl d1 d2 d3)
 refine wpAny_execs_cons (aLN (aFx C pX) rfl 1 _ env Bad _ _ _ _ s1 v33 (.list []) 33 p33 pos33 _ Er X1 d3 d2 (by decide +kernel) (by decide +kernel) d1 rfl fun w s2 k2 So2 hg2 ho2 r2 fr2 u9_=>?_)
 (refine e2a2 r2.unlist ?_;rintro D vsD rfl _);have frD:=fr2 rfl;have X2:=X1.setL (M':=(List.replicate 130 0).set 33 1) (fun j=>hU (by decide)) r2 frD k2 So2
 have S2:cF env (fun _=>[]) s1 (dH (fun _=>[]) 33 [D]) s2:=.kb So2 k2 hg2 ho2 fun j b hb=>by
  unfold dH at hb
  split at hb
  .rw[aH hb];exact .inr (frD D rfl)
  .cases hb
 have mz:∀ j,j≠33->md ((List.replicate 130 0).set 33 1) j=0:=fun j hj=>by rw[hU (by decide),if_neg hj];exact md0 j
 cases vI with | mk c2 c3 vC c7 =>
 cases vC with | mk c4 c5 c6 =>
 refine wpAny_execs_cons (wpAny_If (aEM C (cQ 120) wX 1 _ env _ _ _ s2 _ (.bool true) true _ Er X2.cx c2 (by decide +kernel) (by rfl) rfl fun s3 st3=>?_))
 rw[if_pos rfl];have X3:=X2.stp st3;have S3:=S2.trans (.of st3);refine wpAny_execs_cons (wpAny_Assign_Name (jY C M.hk vc mc X3 (Nat.le_refl _) (i:=113) (by rfl) (by decide +kernel) (hdS S3) (x:=⟨⟨v⟩⟩) c5 c4 (fC hv).2.2 (fun Q Er hq=>?_) fun t4 s4 st4=>?_) rfl)
 .refine cQ 120 1 _ env _ _ _ s3 _ (S v) _ Er X3.cx c6 rfl (by rfl) fun v s' st r _=>?_
  (refine e1a1 r.any.str ?_;rintro t rfl);exact hq t s' st
 have X4:=X3.stp st4;have S4:=S3.trans (.of st4);refine sC X4 c3 (d:=S v) .mkStr (mz 120 (by decide)) fun s5 X5 S5=>?_
 have S5:=S4.trans S5
 have hF5:sW (dH (fun _=>[]) 33 [D]) [120]=dH (fun _=>[]) 33 [D]:=by
  funext j
  unfold sW dH
  by_cases hj:j=120
  .subst hj;rfl
  .rw[if_neg (by simp[hj])]
 rw[hF5]at X5 S5;refine wpAny_execs_cons (aLQ C X5 (cQ 120) c7 (xs:=[]) (by rfl) (by decide) (by decide +kernel) (by rfl) (mz 120 (by decide)) (d:=S v) (by rfl) fun s6 X6 S6=>wpAny_execs_nil ?_)
 have S6:=S5.trans S6
 cases vF with | mk c8 =>
 refine wpAny_execs_cons (aIc X6 (i:=121) (d:=d) (by rfl) (by decide +kernel) ⟨_,(fin _ _ S6).keep _ _ hdd,⟨rfl,rfl,rfl⟩,rfl⟩ hds c8 fun s7 st7=>?_)
 have X7:=(X6.stp st7).frz (i:=33) (by decide) (by rw[hU (by decide)];exact if_pos rfl)
 have S7:=S6.trans (.of st7);exact wpAny_execs_cons (aNE C M mc vc X7 vA (hdS S7) hn hv hl (by rfl) (by rfl) (by rfl) (by decide +kernel) (by decide +kernel) fun s11 h' q1 q2 q3=>wpAny_execs_nil (h s11 h' ((st0.trans (fin _ _ S7)).trans q1) q2 q3))
end
open PySem PySem.W PyProof.Rows PySem.Builtin PySem.Builtin.ObjectAttr
section
variable {c:cG} {K:Frag}
theorem aJr {sc:Scope}{i:Nat}{a b:Ck}{x:Stmt}(h:aOJ sc i a b x=true):∃ p z t ap q pos,x=.Expr (.Call (.Attribute (.Name (nm i) p) "add_header" ap) [z,t] [] q) pos/\acc sc (nm i)=true/\bW (nm i)=true/\(ap.endLine == q.line)=true/\bM z=true/\bM t=true/\a z=true/\b t=true:=by
 refine fL h fun z1 pos h=>?_;refine cI h fun z2 z3 z4 q h=>?_;refine cB h fun o y ap h=>?_;refine aL h fun z z5 h=>?_;refine aL h fun t z6 h=>?_;refine aO h fun h=>?_;refine aO h fun h=>?_
 ·(refine yU h ?_;try clear h;rintro rfl h1 h2 h3 h4 h5 h6 h7)
  (refine e1a3 (fG h5) ?_;rintro p rfl h8 h9);exact⟨p,_,_,_,_,_,rfl,h8,h9,h2,h3,h4,h6,h7⟩
theorem xM {d:PyData}{n:List Nat}(h:kD d=some n):d=S n:=by
 cases d with
 | str x=>exact(aA h) ▸ rfl
 | _=>exact cM h
set_option tactic.hygienic true in
theorem sU {n:Nat}{A:Around}{env:Env}{Bad:Addr->Prop}{Md:List Nat}{F:Nat->List Addr}{P:Nat->Option Value}{E:AE}{s:Shared}{i:Nat} {l}(X:SX c n A env Bad Md F P E s)(hE:E i=some (.hdr l))(hm:md Md i=4) :
  ∃ a la,P i=some (.ref a)/\la∈F i/\fP c.HC s.heap (.ref a) l la/\∀ s1 h' l',cS s s1->(∃ vs,h'.PlainList la vs/\bP (bL (fun _=>False) h') vs.toList (l'.map fun p=>PyData.tuple [S p.1,S p.2]))->Heap.SameBut la s1.heap h' ->
   SX c n A env Bad Md F P (E.set i (.hdr l')) { s1 with heap:=h' }/\cF env F s F { s1 with heap:=h' }:=by
 (refine e1a2 (X.vars i _ hE) ?_;rintro v0 q1 q2);generalize hF:F i=fs at q2;rw[hm]at q2
 cases q2 with
 | hdr ev0 hobj hdict hdL hlist =>
  rename_i a0 da la
  subst ev0;have mem:la∈F i:=hF ▸ aF;(refine e1a3 hdict ?_;rintro od g1 g2 g3);(refine e1a2 hlist ?_;rintro vs ⟨n2,hp⟩ hx);have hne1:a0≠la:=by rintro rfl;rw[hobj]at hp;cases hp
  have hne2:da≠la:=by rintro rfl;rw[g1]at hp;(replace hp:=(aA hp).symm;subst hp);exact absurd g2 (by simp)
  refine⟨a0,la,q1,aF,⟨⟨a0,da,od,rfl,hobj,g1,g2,g3,hne1,hne2⟩,vs,⟨n2,hp⟩,hx⟩,fun s1 h' l' st1 hnew hs'=>?_⟩;(refine e1a2 hnew ?_;rintro vs' hpl hpx)
  exact⟨(X.stp st1).mut (s':={ s1 with heap:=h' }) (pv:=.hdr l') mem hs' ⟨vs',hpl⟩ ⟨.ref a0,q1,by
   rw[hm,hF];exact .hdr rfl ((hs'.2 a0 hne1).trans (st1.keep _ _ hobj)) ⟨od,(hs'.2 da hne2).trans (st1.keep _ _ g1),g2,g3⟩ hdL ⟨vs',hpl,hpx⟩⟩,(cF.of st1).trans (.mut mem hs' ⟨vs',hpl⟩ (.refl _) rfl)⟩
theorem aMn (C:bE c)(W:Nat)(M:lI c K){fa:Addr}(ma:lJ c K "add_header" fa)(AF:aL0 c fa){i:Nat}{a b:X}(ha:bG c a)(hb:bG c b):kU c W (.hadd i a b):=by
 intro n A env Bad Md M' F P E E' r s x Q Er X hc ho hx h1 h2;simp only[aEo,Bool.and_eq_true,decide_eq_true_eq]at hc;obtain ⟨hn,hc⟩:=hc;(refine e6a8 (aJr hc) ?_;rintro p z t ap q pos rfl c1 c2 c3 c4 c5 c6 c7);dsimp only[aE9]at ho;revert ho;refine ifs fun hok ho=>?_;(refine yV hok ?_;clear hok;rintro hm4 hok1 hok2);(replace ho:=aA ho;subst ho);revert hx;refine cE fun l hl=>cE fun d1 hd1=>cE fun nn hnn=>cE fun d2 hd2=>cE fun vv hvv hx=>?_;revert hx;refine ifs fun hcl hx=>?_;simp only[Option.some.injEq,Prod.mk.injEq]at hx;obtain ⟨rfl,rfl⟩:=hx;have hnn:=xM hnn;subst hnn;have hvv:=xM hvv;subst hvv;(refine e2a4 (sU X (oY hl) hm4) ?_;rintro a0 la q1 mem hdr fin);have hst:starEach [z,t] env=(false,eval z env)::starEach [t] env:=bK c4;have hst2:starEach [t] env=[(false,eval t env)]:=bK c5;refine wpAny_Expr (sK (eA rfl) (by rw[hst,hst2];rfl) c3 (eH X q1 c2 fun pl=>sJ M.hk ma X.base hdr ?_)) (iN X.eok) rfl
 show wpAny _ A (callWith q (.ref fa) [.ref a0] _ _) _ Er s;refine callWith_KW (M.hk.at X.base) ma.keep rfl ?_ (by rw[hst,hst2];rfl) hst
 rw[hst,hst2];refine Calls.spliced_cons (ha n A env _ _ E s z _ _ Er X.cx c6 hok1 hd1 fun v1 s1 st1 r1 _=>Calls.spliced_cons (hb n A env _ _ E s1 t _ _ Er (X.stp st1).cx c7 hok2 hd2 fun v2 s2 st2 r2 _=>Calls.spliced_nil (kwAll_nil ⟨M.hk.at (X.base.keep (st1.trans st2).keep),?_⟩)));show wpAny _ A (call (.ref fa) [.ref a0,v1,v2] []) _ Er s2;have st12:=st1.trans st2;have X2:=X.stp st12;(refine e1a1 r1.any.str ?_;rintro t1 rfl);(refine e1a1 r2.any.str ?_;rintro t2 rfl);refine wpAny_call (aQk C M AF (X.room.le (by lia)) X2.base X2.live (hdr.keep st12.keep) hcl.1 hcl.2.1 hcl.2.2 .mkStr .mkStr fun s3 h' st3 hnew hs'=>?_)
 have f:=fin s3 h' _ (st12.trans st3) hnew hs';exact h1 rfl F P _ f.1 f.2
set_option tactic.hygienic true in
theorem aJJ {A:Around}{s:Shared}{x C dx:Addr}{name:Str}{tk:Tok}{v:Value}{R:Result->Shared->Prop}(X:K.In s.heap)(I:InstAt s.heap x (instObj C dx) C (some emptyDict))(hp:plainOver K C=true)(ht:takerIn K C name=some none)(hh:(clsIn K C).any (·.hasDict)=true)
  (h:∀ h',h'.get? dx=some { cls:=.type "dict",data:=.dict #[⟨PyData.keyHash c.w.params name,.str name s.toks,v⟩] 1 }->Heap.SameBut dx s.heap h'->R (.ok (.ret .none)) { s with heap:=h',toks:=s.toks+1 }) :
  codeAny (model c.prog c.w) A (.call (.builtin "object.__setattr__") ⟨[.ref x,.str name tk,v],[]⟩) R s:=by
 refine osa_open X I hp ht fun b=>?_;(refine e1a2 (any_some hh) ?_;rintro cd hc hd');(refine cA fun G_ hG_=>?_;rcases I with ⟨hx,hcl,hn,D⟩;all_goals (refine hG_ ?_;clear hG_ G_))
 have D:s.heap.get? dx=some emptyDict:=D;refine wpAny_bind (wpAny_pure (wpAny_bind (wpAny_bind (wpAny_loadPart hx (wpAny_bind ((looks_clsIn X hc).here ?_))))));rw[hd'];refine wpAny_pure (a:=some dx) (wpAny_bind (wpAny_pure (wpAny_bind ?_)));unfold nsSet;refine wpAny_bind (wpAny_bind (wpAny_askSetting (wpAny_pure (wpAny_bind (wpAny_mkText (wpAny_bind (wpAny_loadPart D ?_)))))));have e:Obj.putName name (PyData.keyHash c.w.params name) (.str name s.toks) v emptyDict={ cls:=.type "dict",data:=.dict #[⟨PyData.keyHash c.w.params name,.str name s.toks,v⟩] 1 }:=by rw[Obj.putName_eq];simp[Obj.putNameByArray]
 have D':(s.heap.update dx (Obj.putName name (PyData.keyHash c.w.params name) (.str name s.toks) v)).get? dx=some { cls:=.type "dict",data:=.dict #[⟨PyData.keyHash c.w.params name,.str name s.toks,v⟩] 1 }:=by
  rw[<-e];exact Heap.get?_update_self _ D (by rw[e];rfl)
 dsimp only;rw[aRefKeyMayBeTheName_at,show((!(#[]:Array DictEntry).any fun x=>x.key.isStr name) && (#[]:Array DictEntry).any fun x=>x.refKey)=false from by simp,if_neg aN]
 refine wpAny_updatePart D ?_;refine wpAny_bind (wpAny_lookBehind D' (pastItsLine_dict (by rw[sizeLine_eq];show(1:Nat)<=16777217;lia)) ?_)
 exact wpAny_pure (h _ D' (Heap.SameBut.update ..))
end
open PySem PySem.W PyProof.Rows PySem.Builtin PySem.Builtin.ObjectAttr
noncomputable def iA (fnm:Nat->Str)(rk:Nat->Nat)(sc:Scope)(s:Stmt):Bool :=
 dQ s fun tg v u1_=>bC tg fun y r=>bV r (bX y fun h1 u2_=>tF v fun t1 u3_ e0 u4_=>decide (h1=nm 122) && bQ sc h1 && aS fnm rk 0 sc (.isC true (.var 122) .none) t1 && aS fnm rk 0 sc (.lst .nil) e0)
theorem aPE {fnm:Nat->Str}{rk:Nat->Nat}{sc:Scope}{s:Stmt}(h:iA fnm rk sc s=true):∃ w1 t1 w2 e0 w3 w4,s=.Assign [.Name (nm 122) w1] (.IfExp t1 w2 e0 w3) w4/\bQ sc (nm 122)=true/\aS fnm rk 0 sc (.isC true (.var 122) .none) t1=true/\aS fnm rk 0 sc (.lst .nil) e0=true:=by
 refine cC h fun z1 z2 w4 h=>?_;refine aL h fun z3 z4 h=>?_;refine aO h fun h=>?_;refine aV h fun h1 w1 h=>?_;refine nJ h fun t1 w2 e0 w3 h=>?_;(refine rI h ?_;clear h;rintro rfl g1 g2 g3);exact⟨_,_,_,_,_,_,rfl,g1,g2,g3⟩
noncomputable def iC (s:Stmt):Bool :=
 dQ s fun tg v u1_=>bC tg fun y r=>bV r (cZ y fun o at_ u2_=>bX o fun sf u3_=>bX v fun h3 u4_=>decide (sf=nm 113) && decide (at_=("_headers":Str)) && decide (h3=nm 122))
theorem aPD {s:Stmt}(h:iC s=true):∃ w7 w8 w9 w10,s=.Assign [.Attribute (.Name (nm 113) w7) ("_headers":Str) w8] (.Name (nm 122) w9) w10:=by
 refine cC h fun z1 z2 w10 h=>?_;refine aL h fun z3 z4 h=>?_;refine aO h fun h=>?_;refine cB h fun z5 at_ w8 h=>?_;refine aV h fun sf w7 h=>?_;refine aV h fun h3 w9 h=>?_;(refine aRe h ?_;clear h;rintro rfl rfl rfl);exact⟨_,_,_,_,rfl⟩
noncomputable def iD (s:Stmt):Bool :=
 zQ s fun t b o u1_=>bV o (eE t fun cb u2_ u3_=>uW cb fun bb=>aLy bb (bC b fun y r=>bV r (aBJ y fun u4_ it u5_ ol u6_=>bV ol (bX it fun h4 u7_=>decide (h4=nm 122)))))
theorem aPC {s:Stmt}(h:iD s=true):∃ w11 w12 w13 w14 w15 w16 w17,s=.If (.Constant (.bool true) w11 w12) [.For w13 (.Name (nm 122) w14) w15 [] w16] [] w17:=by
 refine fT h fun z1 z2 z3 w17 h=>?_;refine aO h fun h=>?_;refine cR h fun z4 w11 w12 h=>?_;refine lF h fun z5 h=>?_;refine aEb h fun h=>?_;refine aL h fun z6 z7 h=>?_;refine aO h fun h=>?_;refine nI h fun w13 z8 w15 z9 w16 h=>?_;refine aO h fun h=>?_;refine aV h fun h4 w14 h=>?_;have h:=aC h;subst h;exact⟨_,_,_,_,_,_,_,rfl⟩
noncomputable def tL (fnm:Nat->Str)(rk:Nat->Nat)(sc:Scope)(body:List Stmt):Bool :=
 bC body fun x r=>bC r fun y r=>bC r fun z r=>bC r fun w r=>bV r (zQ y fun t2 u1_ o u2_=>bV o (aS fnm rk 0 sc (.isT true (.var 122) 2) t2 && iA fnm rk sc x && iC z && iD w))
inductive aN9 (fnm:Nat->Str)(rk:Nat->Nat)(sc:Scope):List Stmt->Prop
 | mk {w1 t1 w2 e0 w3 w4 t2 w5 w6 w7 w8 w9 w10 w11 w12 w13 w14 w15 w16 w17}:bQ sc (nm 122)=true->aS fnm rk 0 sc (.isC true (.var 122) .none) t1=true->aS fnm rk 0 sc (.lst .nil) e0=true->aS fnm rk 0 sc (.isT true (.var 122) 2) t2=true ->
  aN9 fnm rk sc [.Assign [.Name (nm 122) w1] (.IfExp t1 w2 e0 w3) w4,.If t2 w5 [] w6,.Assign [.Attribute (.Name (nm 113) w7) ("_headers":Str) w8] (.Name (nm 122) w9) w10,.If (.Constant (.bool true) w11 w12) [.For w13 (.Name (nm 122) w14) w15 [] w16] [] w17]
theorem aKz {fnm:Nat->Str}{rk:Nat->Nat}{sc:Scope}{body:List Stmt}(h:tL fnm rk sc body=true):aN9 fnm rk sc body:=by
 refine aL h fun x z1 h=>?_;refine aL h fun y z2 h=>?_;refine aL h fun z z3 h=>?_;refine aL h fun w z4 h=>?_;refine aO h fun h=>?_;refine fT h fun t2 w5 z5 w6 h=>?_;refine aO h fun h=>?_;(refine lM h ?_;clear h;rintro h1 h2 h3 h4);(refine e6a4 (aPE h2) ?_;rintro w1 t1 v2 e0 w3 w4 rfl g1 g2 g3);(refine e4a1 (aPD h3) ?_;rintro w7 w8 w9 w10 rfl);(refine e7a1 (aPC h4) ?_;rintro w11 w12 w13 w14 w15 w16 w17 rfl);exact .mk g1 g2 g3 h1
structure aLX (c:cG)(f:Addr):Prop where
 fn:∃ fd body,Fn0 c f fd body [113,122]/\(∃ T o items n,fd.defaults=.ref T/\c.h0.get? T=some o/\o.data=.seq items n/\∀ a:Value,∃ k:Option (Array Value)->Sem (List (Str × Value)),bindArgs fd ⟨[a],[]⟩=(seqItems? fd.defaults >>= k)/\k (some items)=pure (([113,122].map nm).zip [a,.none]))/\tL c.fnm c.rk fd.scope body=true
structure aHa (c:cG)(K:Frag):Prop where
 makes:makesIn K c.HC=true
 init:∃ f,findIn K (.ref c.HC) "__init__"=some (some (.ref f))/\typeIn K (.ref f)=some (.type "function")/\aLX c f
 over:plainOver K c.HC=true
 taker:takerIn K c.HC "_headers"=some none
 hasd:(clsIn K c.HC).any (·.hasDict)=true
 seta:findIn K (.ref c.HC) "__setattr__"=some (some (.builtin "object.__setattr__"))
 name:c.mg "Headers"=some (.ref c.HC)
 keep:keepIn K (.ref c.HC)=true
section
variable {c:cG} {K:Frag}
set_option tactic.hygienic true in
theorem aM2 (C:bE c)(H:HK c K)(M:aHa c K){f:Addr}(IF:aLX c f){A:Around}{s:Shared}{x dx:Addr}{R:Result->Shared->Prop}(hroom:fO 1 A)(B:dK c s.heap)(hx:s.heap.get? x=some (instObj c.HC dx))(hdx:s.heap.get? dx=some emptyDict)(h0:c.h0.get? dx=none)
  (h:∀ s' la,(∀ b o,b≠dx->s.heap.get? b=some o->s'.heap.get? b=some o)->GK s.gens s'.gens->s'.os=s.os->s.heap.get? la=none->s'.heap.PlainList la #[]->(∃ hs t n,s'.heap.get? dx=some { cls:=.type "dict",data:=.dict #[⟨hs,.str "_headers" t,.ref la⟩] n })->R (.ok (.ret .none)) s') :
  codeAny (model c.prog c.w) A (.call (.ref f) ⟨[.ref x],[]⟩) R s:=by
 (refine cA fun G_ hG_=>?_;rcases IF with ⟨fd,body,F0,⟨T,o,items,n,b1,b2,b3,hb⟩,hc⟩;all_goals (refine hG_ ?_;clear hG_ G_))
 refine gL (n:=0) (Bad:=fun _=>False) (V:=fun vals s0=>vals=[.ref x,.none]) hroom B F0 (fun _ q=>q.elim) (fun Q Er hq=>?_) fun env vals s0 s1 Er es st0 hV st1 X fin low=>?_
 ·(refine e1a2 (hb (.ref x)) ?_;rintro k e1 e2)
  rw[e1,b1];refine wpAny_bind (wpAny_seqItems (B.k0 _ _ b2) b3 ?_);rw[e2];exact wpAny_pure (hq [.ref x,.none] s (.refl s) rfl rfl)
 subst hV;have hv:=aKz (show tL c.fnm c.rk env.scope body=true by rw[es];exact hc)
 clear hc
 cases hv with | mk c1 c2 c3 c4 =>
 have X1:=X.addE (i:=122) (d:=.none) (v:=.none) (by rfl) .mkNone (md0 _) rfl
 refine wpAny_execs_cons (wpAny_Assign_Name (wpAny_IfExp (aEM C (cQ 122) wX 0 _ env _ _ _ s1 _ (.bool false) false _ Er X1.cx c2 (by decide +kernel) (by rfl) rfl fun s2 st2=>?_)) rfl)
 have X2:=X1.stp st2;rw[if_neg aN];refine aFx C pX 0 _ env _ _ _ s2 _ (.list []) _ Er X2.cx c3 (by decide +kernel) rfl fun v s3 st3 r3 fr3=>?_
 (refine e2a4 (bL.unlist r3) ?_;rintro la vs rfl hpl hpx _);have fr3:=fr3 rfl;have X3:=X2.stp st3;have S3:=(cF.of st2 (env:=env) (F:=fun _=>[])).trans (.of st3);refine sC X3 c1 (d:=.list []) r3 (md0 _) fun s4 X4 S4=>?_;have S4:=S3.trans S4;refine wpAny_execs_cons (wpAny_If (aEL C (cQ 122) 0 _ env _ _ _ s4 _ (.bool false) false _ Er X4.cx c4 (by decide +kernel) (by rfl) rfl fun s5 st5=>?_))
 rw[if_neg aN];have X5:=X4.stp st5;have S5:=S4.trans (.of st5);have st05:=st0.trans (fin _ _ S5)
 have hvs:vs=#[]:=by
  generalize hv:vs.toList=l at hpx;cases hpx;exact Array.toList_eq_nil_iff.mp hv
 subst hvs
 have hla:s.heap.get? la=none:=by
  cases hh:s.heap.get? la with
  | none=>rfl
  | some o=>have:=fr3 la rfl;rw[(st0.trans (st1.trans st2)).keep _ _ hh]at this;exact nsn this
 have hpl5:s5.heap.PlainList la #[]:=by
  (refine e1a1 (X4.vars 122 (.dat (.list [])) (if_pos rfl)) ?_;rintro q1 q2);obtain ⟨e1,e2⟩:=q2;have e1:some (Value.ref la)=some q1:=by rw[<-e1];exact(if_pos rfl).symm
  (replace e1:=(aA e1).symm;subst e1)
  (refine e2a3 (eS.zero (by
   have:=jV.rep X4.base e2;generalize hz:PV.dat (PyData.list [])=pv at this
   cases this with
   | dat r=>cases hz;exact r.any
   | _=>cases hz)) ?_;rintro a' vs' e3 hp' hx')
  cases e3;generalize hv:vs'.toList=l at hx';cases hx';rw[Array.toList_eq_nil_iff.mp hv]at hp';exact PlainList.keep st5.keep hp'
 have I5:InstAt s5.heap x (instObj c.HC dx) c.HC (some emptyDict):=⟨st05.keep _ _ hx,rfl,rfl,st05.keep _ _ hdx⟩;refine wpAny_execs_nil (wpAny_execs_cons (plainObj_wpAny_Assign_Attribute (eH X5 (i:=122) (v:=.ref la) (by rfl) (by decide +kernel) (eH X5 (i:=113) (v:=.ref x) (by rfl) (by decide +kernel) ?_)) rfl))
 refine set_plain (H.at X5.base) I5 M.seta ?_;refine aJJ (H.at X5.base) I5 M.over M.taker M.hasd fun h6 hdx6 hs6=>?_;have kk6:∀ b o,b≠dx->s5.heap.get? b=some o->h6.get? b=some o:=fun b o hb e=>(hs6.2 b hb).trans e;obtain ⟨lowL,lowC⟩:=low dx _ (st0.keep _ _ hdx);(refine e1a2 (X5.sto.at (h':=h6) (fun o e=>kk6 _ o lowL.symm e) (fun x a _ hx o e=>kk6 a o (fun q=>lowC x (q ▸ hx)) e) |>.ns) ?_;rintro mm hm hl)
 have hpl6:h6.PlainList la #[]:=by
  (refine e1a1 hpl5 ?_;try clear hpl5;rintro n' e);exact⟨n',kk6 la _ (fun q=>by rw[q]at hla;rw[hla]at hdx;exact cM hdx) e⟩
 refine wpAny_execs_cons (wpAny_If (wpAny_isTrue_value (wpAny_pure (aAY (d:=.bool true) (k:=0) (Own:=fun _=>False) rfl .mkBool fun s7 st7=>?_)) (rJ rfl)));rw[if_pos rfl];refine wpAny_execs_cons (wpAny_For (aBH X.eok (hm.keeps st7.keep) ((hl 122 (.ref la) (by rfl)).keep st7.keep) (by decide +kernel) (wpAny_pyIter_list (PlainList.keep st7.keep hpl6).isList ?_)) (sF rfl))
 have hl7:=PlainList.keep st7.keep hpl6;have hne:la≠s7.heap.objs.size:=by(refine e1a1 hl7 ?_;try clear hl7;rintro n ho);exact Nat.ne_of_lt (Heap.lt_size ho)
 have Wl:=Walks.list (prog:=c.prog) (w:=c.w) (A:=A.deeper env) X.room.hand s7.heap.objs.size la hne #[];have ek:bY s7.heap (s7.heap.push { cls:=.type "list_iterator",data:=.fields #[.ref la,.int 0 0] }):=.push _ _;refine codeAny_forLoop_any (fun k s'=>s'={ s7 with heap:=s7.heap.push { cls:=.type "list_iterator",data:=.fields #[.ref la,.int 0 0] } }) ?_ 0 rfl
 rintro k s' rfl;have kall:∀ b o,b≠s7.heap.objs.size->h6.get? b=some o->(s7.heap.push { cls:=.type "list_iterator",data:=.fields #[.ref la,.int 0 0] }).get? b=some o:=fun b o _ e=>ek b o (st7.keep b o e);have small:∀ b o,h6.get? b=some o->b≠s7.heap.objs.size:=fun b o e=>Nat.ne_of_lt (Heap.lt_size (st7.keep b o e));refine Wl.done _ _ _ ⟨⟨_,Heap.get?_push_size _ rfl,rfl,rfl⟩,(PlainList.keep ek hl7).isList⟩ fun h8 tk8 hk8=>wpAny_execs_nil (wpAny_execs_nil (wpAny_execs_nil (h _ la (fun b o hb e=>?_) ?_ ?_ hla ?_ ?_)))
 .have e5:=kk6 b o hb (st05.keep b o e)
  exact hk8 b o (by simpa using small b o e5) (kall b o (small b o e5) e5)
 .exact st05.gk.trans st7.gk
 .exact st7.os.trans st05.os
 ·(refine e1a1 hpl6 ?_;try clear hpl6;rintro n' e)
  exact⟨n',hk8 _ _ (by simpa using small _ _ e) (kall _ _ (small _ _ e) e)⟩
 .exact⟨_,_,_,hk8 _ _ (by simpa using small _ _ hdx6) (kall _ _ (small _ _ hdx6) hdx6)⟩
end
open PySem PySem.W PyProof.Rows PySem.Builtin PySem.Builtin.ObjectAttr
section
variable {c:cG} {K:Frag}
set_option tactic.hygienic true in
theorem SX.setH {n:Nat}{A:Around}{env:Env}{Bad:Addr->Prop}{M M':List Nat}{F:Nat->List Addr}{P:Nat->Option Value}{E:AE}{s s2 s':Shared}{i:Nat}{x dx la:Addr}(X:SX c n A env Bad M F P E s)(st:cS s s2)(hla:s.heap.get? la=none)(hM:∀ j,md M' j=if j=i then 4 else md M j)
  (hx:s'.heap.get? x=some (instObj c.HC dx)) (hdx:∃ hs t n,s'.heap.get? dx=some { cls:=.type "dict",data:=.dict #[⟨hs,.str "_headers" t,.ref la⟩] n }) (hl:s'.heap.PlainList la #[]) (hL:dx≠env.locals)
  (k:Kb env [i] s2.heap s'.heap) (So:lP env s'.heap (wC P i (.ref x))):SX c n A env Bad M' (dH F i [la]) (wC P i (.ref x)) (E.set i (.hdr [])) s':=by
 have X2:=X.stp st;have kd:=k.kd X2.sto;have ks:=k.seq X2.sto;have na:¬ dA Bad F la:=fun h=>by(refine e1a1 (X.live la h) ?_;rintro o ho);rw[hla]at ho;exact cM ho
 have own:∀ b,dA Bad (dH F i [la]) b->dA Bad F b\/b=la:=by
  rintro b (h | ⟨j,h⟩)
  .exact .inl (.inl h)
  .unfold dH at h
   split at h
   .exact .inr (aH h)
   .exact .inl (.inr ⟨j,h⟩)
 refine⟨X.eok,X.room,X2.base_kb k,pL X2.eok X2.sto X2.cells k So,So,fun j pv e=>?_,fun j b h=>?_,fun b h=>?_,fun j b h=>?_,fun j1 j2 b h1 h2=>?_,X.nl,X.nc,fun j b h=>?_⟩
 .by_cases hj:j=i
  .subst hj
   have e:some (PV.hdr [])=some pv:=by rw[<-e];exact(if_pos rfl).symm
   (replace e:=(aA e).symm;subst e);refine⟨.ref x,if_pos rfl,?_⟩;rw[hM,if_pos rfl,show dH F j [la] j=[la]from if_pos rfl];(refine e3a1 hdx ?_;try clear hdx;rintro hs t n' hd);exact .hdr rfl hx ⟨_,hd,rfl,hs,t,n',rfl⟩ hL ⟨#[],hl,.nil⟩
  .have e:E j=some pv:=by rw[<-e];exact(if_neg hj).symm
   (refine e1a2 (X.vars j pv e) ?_;rintro v q1 q2);refine⟨v,(if_neg hj).trans q1,?_⟩;rw[hM,if_neg hj,show dH F i [la] j=F j from if_neg hj]
   have q3:jV c env.locals (dA Bad (dH F i [la])) s (md M j) (F j) v pv:=q2.weak fun b hb ha=>by
    rcases own b hb with q | rfl
    .exact q
    ·(refine e1a1 ha ?_;try clear ha;rintro o ho);rw[hla]at ho;exact cM ho
   exact q3.move ((jZ.of st.keep).trans (X2.sto.kpf k)) (fun a _ o vs n hd e=>ks a o vs n hd (st.keep _ _ e)) fun a o hd e=>kd a o hd (st.keep _ _ e)
 .unfold dH at h
  split at h
  .rw[aH h];exact⟨#[],hl⟩
  ·(refine e2a1 (X2.pl j b h) ?_;rintro ws mm e)
   exact⟨ws,mm,ks b _ _ _ rfl e⟩
 ·(refine e1a1 (X2.bad b h) ?_;rintro o ho)
  exact k.alive So b o ho
 .unfold dH at h
  split at h
  .rw[aH h];exact fun q=>na (.inl q)
  .exact X.nb j b h
 .unfold dH at h1 h2
  split at h1 <;> split at h2
  .rename_i e1 e2;rw[e1,e2]
  .rw[aH h1]at h2;exact absurd (.inr ⟨_,h2⟩) na
  .rw[aH h2]at h1;exact absurd (.inr ⟨_,h1⟩) na
  .exact X.dj j1 j2 b h1 h2
 .unfold dH at h
  split at h
  .rw[aH h]
   cases hh:c.h0.get? la with
   | none=>rfl
   | some o=>have:=X.base.k0 _ _ hh;rw[hla]at this;exact cM this
  .exact X.nF j b h
theorem aJp {sc:Scope}{i:Nat}{x:Stmt}(h:aOH sc i x=true):∃ p q r pos,x=.Assign [.Name (nm i) p] (.Call (.Name "Headers" q) [] [] r) pos/\bQ sc (nm i)=true/\cO sc "Headers"=true:=by
 refine cC h fun z1 z2 pos h=>?_;refine aL h fun z3 z4 h=>?_;refine aV h fun y p h=>?_;refine aO h fun h=>?_;refine cI h fun z5 z6 z7 r h=>?_;refine aV h fun h q h=>?_;refine aO h fun h=>?_;refine aO h fun h=>?_
 ·(refine aPe h ?_;try clear h;rintro rfl h1 rfl h2)
  exact⟨_,_,_,_,rfl,h1,h2⟩
theorem aMp (C:bE c)(W:Nat)(H:HK c K)(M:aHa c K)(i:Nat):kU c W (.asgH i):=by
 intro n A env Bad Md M' F P E E' r s x Q Er X hc ho hx h1 h2;simp only[aEq,Bool.and_eq_true,decide_eq_true_eq]at hc;obtain ⟨hn,hc⟩:=hc;(refine e4a3 (aJp hc) ?_;rintro p q rr pos rfl c1 c2);dsimp only[aFb]at ho;revert ho;refine ifs fun hi ho=>?_;(replace ho:=aA ho;subst ho);simp only[aIx,Option.some.injEq,Prod.mk.injEq]at hx;obtain ⟨rfl,rfl⟩:=hx;(refine e1a3 M.init ?_;rintro fi f1 f2 f3)
 have key:∀ (Q:Value->Shared->Prop) (Er:Value->Shared->Prop),(∀ xa dx la s2,cS s s2->s.heap.get? xa=none->s.heap.get? dx=none->s.heap.get? la=none->dx≠la->s2.heap.get? xa=some (instObj c.HC dx)->s2.heap.PlainList la #[] ->
   (∃ hs t n,s2.heap.get? dx=some { cls:=.type "dict",data:=.dict #[⟨hs,.str "_headers" t,.ref la⟩] n })->Q (.ref xa) s2)->wpAny (model c.prog c.w) A (eval (.Call (.Name "Headers" q) [] [] rr) env) Q Er s:=by
  intro Q Er hQ;refine wpAny_Call_NameR (lC X.eok X.base c2 (by decide +kernel) (.inl M.name) ?_)
  refine callWith_KW0 (H.at X.base) M.keep rfl (kwAll_nil ⟨H.at X.base,?_⟩);show wpAny _ A (call (.ref c.HC) [] []) Q Er s;refine wpAny_call ?_;(refine cA fun G_ hG_=>?_;rcases s with ⟨hh,g,d,t,os⟩;all_goals (refine hG_ ?_;clear hG_ G_))
  have KI:=H.at X.base;refine make_core (makes_of KI M.makes) (looks_findIn KI f1) (fun self=>bind_fn KI self f2) (.inl rfl) ?_;have k1:bY hh ((hh.push emptyDict).push (instObj c.HC hh.objs.size)):=fun b o e=>Heap.get?_push_of_some _ (Heap.get?_push_of_some _ e)
  have hxa:((hh.push emptyDict).push (instObj c.HC hh.objs.size)).get? (hh.objs.size+1)=some (instObj c.HC hh.objs.size):=by
   have:=Heap.get?_push_size (hh.push emptyDict) (o:=instObj c.HC hh.objs.size) rfl
   rwa [Heap.size_push]at this
  have hdx:((hh.push emptyDict).push (instObj c.HC hh.objs.size)).get? hh.objs.size=some emptyDict:=Heap.get?_push_of_some _ (Heap.get?_push_size _ rfl);refine aM2 C H M f3 (s:=⟨(hh.push emptyDict).push (instObj c.HC hh.objs.size),g,d,t,os⟩) ⟨?_,?_,X.room.hand⟩ (X.base.keep k1) hxa hdx ?_ fun s' la kk gk os' hla hpl hd=>?_
  .show A.depth+(0+1+0+0)+1 < _
   have:=X.room.depth;lia
  .show A.units+(1+3 * 0)+20 * 1+200 < _
   have:=X.room.units;lia
  .cases h0:c.h0.get? hh.objs.size with
   | none=>rfl
   | some o=>exact absurd (Heap.lt_size (X.base.k0 _ _ h0)) (Nat.lt_irrefl _)
  .have none1:∀ b,((hh.push emptyDict).push (instObj c.HC hh.objs.size)).get? b=none->hh.get? b=none:=fun b hb=>by
    cases e:hh.get? b with
    | none=>rfl
    | some o=>rw[k1 b o e]at hb;exact nsn hb
   refine⟨rfl,hQ _ hh.objs.size la s' ⟨fun b o e=>kk b o (Nat.ne_of_lt (Heap.lt_size e)) (k1 b o e),gk,os'⟩ (Heap.get?_none_of_le (Nat.le_succ _)) (Heap.get?_none_of_le (Nat.le_refl _)) (none1 la hla) ?_ (kk _ _ (Nat.succ_ne_self _) hxa) hpl hd⟩;rintro rfl;rw[hdx]at hla;exact nsn hla
 refine wpAny_Assign_Name (key _ _ fun xa dx la s2 st f1 f2 f3 hne g1 g2 g3=>?_) rfl;have X2:=X.stp st;refine fZ X2.eok X2.sto c1 fun h' tk k So=>?_
 have nL:∀ b,s.heap.get? b=none->b≠env.locals:=fun b hb q=>by
  (refine e1a2 X.sto.ns ?_;rintro m ⟨o',u_,u_,ho',u_⟩ u_);rw[q,ho']at hb;exact nsn hb
 have nC:∀ b,s.heap.get? b=none->∀ j∈[i],env.kindOf (nm j)=some .cell->env.cells.lookup (nm j)≠some b:=fun b hb j u_ u_ hl=>by
  (refine e2a2 (X.cells _ b hl) ?_;rintro o ob ho u_);rw[ho]at hb;exact nsn hb
 (refine e3a1 g3 ?_;try clear g3;rintro hs t n' g3);(refine e1a1 g2 ?_;try clear g2;rintro n2 g2);have X3:=X.setH (M':=Md.set i 4) (s':={ s2 with heap:=h',toks:=tk }) st f3 (fun j=>hU hi) (k _ _ (nL _ f1) (nC _ f1) g1) ⟨hs,t,n',k _ _ (nL _ f2) (nC _ f2) g3⟩ ⟨n2,k _ _ (nL _ f3) (nC _ f3) g2⟩ (nL _ f2) k So
 refine h1 rfl _ _ _ X3 ⟨fun b o b1 b2 u_ e=>k b o b1 (fun j u_ u_=>b2 _) (st.keep _ _ e),st.gk,st.os,fun j b hb=>?_,fun b o e=>k.alive So b o (st.keep _ _ e)⟩;unfold dH at hb
 split at hb
 .rw[aH hb];exact .inr f3
 .exact .inl ⟨j,hb⟩
end
section
variable {prog:Program} {w:World} {A:Around} {Er:Value->Shared->Prop} {s:Shared}
theorem aAt (n:Nat):sliceBounds none none none n=(0,(n:Int),1):=rfl
theorem aC8 {l sli nl:Addr}{items new:Array Value}{Q:Unit->Shared->Prop}(hl:s.heap.PlainList l items)(hs:s.heap.IsSliceOf sli .none .none .none)(hn:s.heap.PlainList nl new)
  (h1:items.size<=1000000) (h2:new.size<=1000000) (hQ:∀ h',h'.PlainList l new->Heap.SameBut l s.heap h'->Q () { s with heap:=h' }) :
  wpAny (model prog w) A (setItem (.ref l) (.ref sli) (.ref nl)) Q Er s:=by
 (refine e1a1 hl ?_;rintro n0 ho);(refine e1a1 hn ?_;rintro n1 hno);have hl':s.heap.IsList l items:=⟨_,ho,rfl,n0,rfl⟩;have hn':s.heap.IsList nl new:=⟨_,hno,rfl,n1,rfl⟩;obtain ⟨os,hos,hcs,hds⟩:=id hs;have hTs:s.TypeIs (.ref sli) "slice":=⟨os,hos,hcs⟩;unfold setItem
 try with_reducible refine wpAny_holding ?_
 first | refine wpAny_bind (wpAny_pure ?_) | skip
 refine wpAny_bind (wpAny_sequenceKey hl'.typeIs (by decide) ?_)
 refine wpAny_bind (wpAny_callSpecial?_slot (name:=Str.ofString "__setitem__") hl'.typeIs slot_list_setitem
  (wpAny_call_entry slot_list_setitem hl'.typeIs entry_list_setitem ?_ (args_list_setitem _ _ _)))
 show wpAny _ _ (Builtin.List.listSubscript? (.ref sli) >>= _) _ _ s;refine wpAny_bind ?_;unfold Builtin.List.listSubscript?;refine wpAny_bind (wpAny_specialOf hTs slice_no_index ?_);simp only[Option.isNone_none,if_true];refine wpAny_pure ?_;show wpAny _ _ (typeOf (.ref sli) >>= _) _ _ s;refine wpAny_bind (wpAny_typeOf hTs ?_);rw[if_neg (by decide)]
 rw[listSliceParts_eq];refine wpAny_bind (wpAny_bind (wpAny_field hos hds (x:=.none) rfl (wpAny_bind (wpAny_listPart .none ?_))));rw[if_neg (show ¬ ((rawPart none == rawInt 0)=true)from aN)];refine wpAny_bind (wpAny_field hos hds (x:=.none) rfl (wpAny_bind (wpAny_listPart .none ?_)));refine wpAny_bind (wpAny_field hos hds (x:=.none) rfl (wpAny_bind (wpAny_listPart .none (wpAny_pure ?_))));dsimp only
 have items_new:∀ {B:Around} {Q:Array Value->Shared->Prop},Q new s->wpAny (model prog w) B (Builtin.List.listItems (.ref nl)) Q Er s:=by
  intro B Q h;unfold Builtin.List.listItems;exact wpAny_bind (wpAny_seqItems hno rfl (wpAny_pure h))
 have items_old:∀ {B:Around} {Q:Array Value->Shared->Prop},Q items s->wpAny (model prog w) B (Builtin.List.listItems (.ref l)) Q Er s:=by
  intro B Q h;unfold Builtin.List.listItems;exact wpAny_bind (wpAny_seqItems ho rfl (wpAny_pure h))
 have all_new:∀ {B:Around} {Q:Array Value->Shared->Prop} {m:String},Q new s->wpAny (model prog w) B (Builtin.List.listAllItems (.ref nl) m) Q Er s:=by
  intro B Q m h;unfold Builtin.List.listAllItems;refine wpAny_bind (wpAny_typeOf hn'.typeIs ?_);rw[if_pos (by decide)]
  exact items_new h
 have ht:¬ (Builtin.List.listTooLong (items.size+new.size)=true):=by
  unfold Builtin.List.listTooLong;rw[decide_eq_true_iff,sizeLine_eq];lia
 have hf:(items.extract 0 (0:Int).toNat++new++items.extract (max (0:Int) (items.size:Int)).toNat items.size)=new:=by
  rw[show(max (0:Int) (items.size:Int)).toNat=items.size by lia]
  simp
 have hfin:(s.heap.update l (Obj.mapSeq fun xs=>xs.extract 0 (0:Int).toNat++new++xs.extract (max (0:Int) (items.size:Int)).toNat xs.size)).PlainList l new:=by
  (refine e1a1 (mR (fun xs=>xs.extract 0 (0:Int).toNat++new++xs.extract (max (0:Int) (items.size:Int)).toNat xs.size) items n0) ?_;rintro m hm);rw[hf]at hm;exact⟨m,by rw[<-hm];exact Heap.get?_update_self _ ho (by rw[hm];rfl)⟩
 have tail:wpAny (model prog w) A.in1 (do
   rule "list.__setitem__.slice"
   Builtin.List.listUpdate (Value.ref l) fun xs=>xs.extract 0 (0:Int).toNat++new++xs.extract (max (0:Int) (items.size:Int)).toNat xs.size
   letGo (items.extract (0:Int).toNat (max (0:Int) (items.size:Int)).toNat).toList.reverse
   ret Value.none) (fun fin s'=>∃ v,fin=Fin.done (Flow.ret v)/\wpAny (model prog w) A (pure ()) Q Er s') Er s:=by
  refine wpAny_bind (wpAny_rule (wpAny_bind ?_));refine wpAny_updateSeq ho rfl (wpAny_bind (wpAny_letGo (wpAny_pure ⟨.none,rfl,wpAny_pure (hQ _ hfin (Heap.SameBut.update ..))⟩))) (by rw[sizeLine_eq];lia) ?_
  rw[hf,sizeLine_eq];lia
 by_cases hsr:Builtin.List.listSameRef (.ref l) (.ref nl)=true
 .rw[if_pos hsr]
  refine wpAny_bind (items_new (wpAny_bind (items_old (wpAny_bind (wpAny_of_eq (sliceIndices_raw none none none _ (by simp)) ?_)))))
  rw[aAt];dsimp only;rw[if_pos (by decide),if_neg ht]
  exact tail
 .rw[if_neg hsr]
  refine wpAny_bind (all_new (wpAny_bind (items_old (wpAny_bind (wpAny_of_eq (sliceIndices_raw none none none _ (by simp)) ?_)))))
  rw[aAt];dsimp only;rw[if_pos (by decide),if_neg ht]
  exact tail
end
noncomputable def aLu:X:=.comp (.var 115) (.name 115) (.val (.hattr 113)) (.cons (.cmp1 .ne (.p1 .lower (.idx (.var 115) (.int 0))) (.var 61)) .nil)
noncomputable def aRI (fnm:Nat->Str)(rk:Nat->Nat)(sc:Scope)(s:Stmt):Bool :=
 dQ s fun tg v u1_=>bC tg fun y r=>bV r (bX y fun v1 u2_=>decide (v1=nm 61) && bQ sc v1 && aBS (aS fnm rk 1 sc (.p1 .lower (.var 61))) v)
inductive aQs (fnm:Nat->Str)(rk:Nat->Nat)(sc:Scope):Stmt->Prop
 | mk {w1 v w2}:bQ sc (nm 61)=true->CvV (aS fnm rk 1 sc (.p1 .lower (.var 61))) v->aQs fnm rk sc (.Assign [.Name (nm 61) w1] v w2)
theorem aKB {fnm:Nat->Str}{rk:Nat->Nat}{sc:Scope}{s:Stmt}(h:aRI fnm rk sc s=true):aQs fnm rk sc s:=by
 refine cC h fun z1 v w2 h=>?_;refine aL h fun z2 z3 h=>?_;refine aO h fun h=>?_;refine aV h fun v1 w1 h=>?_;(refine yV h ?_;clear h;rintro rfl h1 h2);exact .mk h1 (lV h2)
noncomputable def aRK (fnm:Nat->Str)(rk:Nat->Nat)(sc:Scope)(s:Stmt):Bool :=
 dQ s fun tg v u1_=>bC tg fun y r=>bV r (dW y fun o i u2_=>wZ i fun lo hi st u3_=>lo.isNone && (hi.isNone && (st.isNone && (sP sc 113 o && aS fnm rk 1 sc aLu v))))
inductive aQz (fnm:Nat->Str)(rk:Nat->Nat)(sc:Scope):Stmt->Prop
 | mk {o w1 w2 v w3}:sP sc 113 o=true->aS fnm rk 1 sc aLu v=true->aQz fnm rk sc (.Assign [.Subscript o (.Slice none none none w1) w2] v w3)
theorem aKD {fnm:Nat->Str}{rk:Nat->Nat}{sc:Scope}{s:Stmt}(h:aRK fnm rk sc s=true):aQz fnm rk sc s:=by
 refine cC h fun z1 v w3 h=>?_;refine aL h fun z2 z3 h=>?_;refine aO h fun h=>?_;refine cW h fun o z4 w2 h=>?_;refine tE h fun lo hi st w1 h=>?_;simp only[Bool.and_eq_true,Option.isNone_iff_eq_none]at h;(refine aP5 h ?_;clear h;rintro rfl rfl rfl h1 h2);exact .mk h1 h2
noncomputable def aAp (fnm:Nat->Str)(rk:Nat->Nat)(sc:Scope)(body:List Stmt):Bool :=
 bC body fun s1 r=>bC r fun s2 r=>bV r (aRI fnm rk sc s1 && aRK fnm rk sc s2)
theorem aMZ {fnm:Nat->Str}{rk:Nat->Nat}{sc:Scope}{body:List Stmt}(h:aAp fnm rk sc body=true):∃ s1 s2,body=[s1,s2]/\aQs fnm rk sc s1/\aQz fnm rk sc s2:=by
 refine aL h fun s1 z1 h=>?_;refine aL h fun s2 z2 h=>?_;refine aO h fun h=>?_;exact aAK h fun h1 h2=>⟨s1,s2,rfl,aKB h1,aKD h2⟩
structure aQx (c:cG)(f:Addr):Prop where
 fn:∃ fd body,Fn0 c f fd body [113,61]/\(∀ a b:Value,bindArgs fd ⟨[a,b],[]⟩=pure (([113,61].map nm).zip [a,b]))/\aAp c.fnm c.rk fd.scope body=true
section
variable {G:Nat->Option Int} {T:Nat->List PV->Option PyData}
theorem aPY {E:AE}{l:List (List Nat × List Nat)}{n:List Nat}(hl:dS l=true)(h1:E 113=some (.hdr l))(h2:E 61=some (.dat (S (n.map cK)))):ev G T aLu E=some (.list ((eJ n l).map fun p=>.tuple [S p.1,S p.2])):=by
 obtain ⟨hlen,hcl⟩:=kS hl
 have hds:evIt G T (.val (.hattr 113)) E=some (l.map fun p=>.tuple [S p.1,S p.2]):=by
  simp only[eQ,rP,rM h1,aD,bZ,aK];rw[if_pos hlen]
 have hloop:∀ l:List (List Nat × List Nat),(∀ p∈l,bS p.1=true/\bS p.2=true)->compLoop (fun E'=>evTests G T (.cons (.cmp1 .ne (.p1 .lower (.idx (.var 115) (.int 0))) (.var 61)) .nil) E') (fun E'=>ev G T (.var 115) E') (fun d=>dF (.name 115) d E) (l.map fun p=>.tuple [S p.1,S p.2]) =
   some ((eJ n l).map fun p=>.tuple [S p.1,S p.2]):=by
  intro l
  induction l with
  | nil=>intro _;rfl
  | cons p l ih =>
   intro hc;(refine wH (fC (hc p aF).1) ?_;rintro q1 q2 u_);have ih:=ih fun x hx=>hc x (aE _ hx);rw[aY,iQ];show(some (E.set 115 (.dat (.tuple [S p.1,S p.2])))).bind _=_;rw[aD];have e115:aI (E.set 115 (.dat (.tuple [S p.1,S p.2]))) 115=some (.tuple [S p.1,S p.2]):=rfl
   have e61:aI (E.set 115 (.dat (.tuple [S p.1,S p.2]))) 61=some (S (n.map cK)):=by
    show aI E 61=_;unfold aI;rw[h2]
   have ek:ev G T (.idx (.var 115) (.int 0)) (E.set 115 (.dat (.tuple [S p.1,S p.2])))=some (S p.1):=by
    rw[gA,kM,bD,e115];rfl
   have et:evTests G T (.cons (.cmp1 .ne (.p1 .lower (.idx (.var 115) (.int 0))) (.var 61)) .nil) (E.set 115 (.dat (.tuple [S p.1,S p.2])))=some (!decide (p.1.map cK=n.map cK)):=by
    rw[kN,lY,wW,ek,bD,e61];dsimp only[aD,mA];rw[if_pos ⟨q1,q2⟩];dsimp only[aD,rQ,aAX,qV];show(match !decide (p.1.map cK=n.map cK)with | false=>some false | true=>some true)=_
    cases decide (p.1.map cK=n.map cK) <;> rfl
   rw[et,aD,ih,bD,e115];show _=some ((List.filter _ (p::l)).map _)
   by_cases hq:p.1.map cK=n.map cK
   .rw[List.filter_cons,decide_eq_true hq];rfl
   .rw[List.filter_cons,decide_eq_false hq];rfl
 unfold aLu;rw[gX,hds,aD,hloop l hcl];rfl
end
section
variable {c:cG} {K:Frag}
theorem aNl (C:bE c)(H:HK c K):bG c aLu :=
 wY C (yY C (zM H 113)) (xG C (wM C (aD0 C (aCx C (cQ 115) (uR 0))) (cQ 61)) sB) (cQ 115)
set_option tactic.hygienic true in
theorem aP6 (C:bE c)(M:lI c K){f:Addr}(DF:aQx c f){A:Around}{s:Shared}{a:Addr} {l la}{n:List Nat}{vn:Value}{R:Result->Shared->Prop}{Bad:Addr->Prop}(hroom:fO 2 A)(B:dK c s.heap)
  (hbad:∀ a,Bad a->∃ o,s.heap.get? a=some o) (hd:fP c.HC s.heap (.ref a) l la) (hn:bS n=true) (hl:dS l=true) (rn:bL Bad s.heap vn (S n))
  (h:∀ s1 h',cS s s1->(∃ vs,h'.PlainList la vs/\bP (bL (fun _=>False) h') vs.toList ((eJ n l).map fun p=>PyData.tuple [S p.1,S p.2]))->Heap.SameBut la s1.heap h'->R (.ok (.ret .none)) { s1 with heap:=h' }) :
  codeAny (model c.prog c.w) A (.call (.ref f) ⟨[.ref a,vn],[]⟩) R s:=by
 (refine cA fun G_ hG_=>?_;rcases DF with ⟨fd,body,F0,hb,hc⟩;all_goals (refine hG_ ?_;clear hG_ G_))
 (refine e1a1 rn.str ?_;rintro t rfl);(refine e1a2 M.conv ?_;rintro fc mc vc);refine gL (n:=1) (Bad:=Bad) (V:=fun vals _=>vals=[.ref a,.str ⟨⟨n⟩⟩ t]) hroom B F0 hbad (fun Q Er hq=>?_) fun env vals s0 s1 Er es st0 hV st1 X fin low=>?_
 .rw[hb];exact wpAny_pure (hq [.ref a,.str ⟨⟨n⟩⟩ t] s (.refl s) rfl rfl)
 subst hV;have hv:=aMZ (show aAp c.fnm c.rk env.scope body=true by rw[es];exact hc)
 clear hc;revert F0;(refine e2a3 hv ?_;rintro x1 x2 rfl v1 v2);intro F0;clear F0
 cases v1 with | mk c1 vC =>
 cases vC with | mk c2 c3 c4 =>
 cases v2 with | mk c5 c6 =>
 have hd1:=hd.keep (st0.trans st1).keep;have X1:=X.addE (i:=61) (d:=S n) rfl .mkStr (md0 _) rfl;(refine wH (fC hn) ?_;rintro a1 a2 a3)
 have elow:ev c.G c.T (.p1 .lower (.var 61)) (AE.set (fun _=>none) 61 (.dat (S n)))=some (S (n.map cK)):=by
  exact if_pos ⟨a1,a2⟩
 refine wpAny_execs_cons (wpAny_Assign_Name (jY C M.hk vc mc X1 (Nat.le_refl _) (i:=113) (by rfl) (by decide +kernel) hd1 (x:=⟨⟨n.map cK⟩⟩) c3 c2 (aEd hn) (fun Q Er hq=>?_) fun t2 s2 st2=>?_) rfl)
 .refine aD0 C (cQ 61) 1 _ env _ _ _ s1 _ _ _ Er X1.cx c4 (by rfl) elow fun v s' st r _=>?_
  (refine e1a1 r.any.str ?_;rintro t3 rfl);exact hq t3 s' st
 have X2:=X1.stp st2;refine sC X2 c1 (d:=S (n.map cK)) .mkStr (md0 _) fun s3 X3 S3=>?_;have S3':=(cF.of st2).trans S3;have st3:=st0.trans (fin _ s3 S3');have hd3:=hd.keep st3.keep;(refine e2a3 (sT c5) ?_;rintro pa pb rfl _ _);refine wpAny_execs_cons (wpAny_Assign_Subscript (aNl C M.hk 1 _ env _ _ _ s3 _ _ _ Er (X3.cxH (i:=113) (by rfl) hd3) c6 (by decide +kernel) (aPY (n:=n) hl rfl rfl) fun v s4 st4 r _=>?_) pQ)
 have X4:=X3.stp st4;have hd4:=hd3.keep st4.keep;refine Attribute_Name_ (eH X4 (i:=113) (by rfl) (by decide +kernel) (lB M.hk X4.base hd4 ?_))
 have st5:cS s4 { s4 with toks:=s4.toks+1 }:=.toks
 generalize hs5:({ s4 with toks:=s4.toks+1 }:Shared)=s5 at st5 ⊢
 refine wpAny_Slice ?_;rw[evalPart_none];refine wpAny_pure (wpAny_pure (wpAny_pure ?_));have st6:cS s5 { s5 with heap:=s5.heap.push { cls:=.type "slice",data:=.fields #[.none,.none,.none] } }:=.push
 have hsl:=Heap.IsSliceOf.new s5.heap .none .none .none;generalize hs6:({ s5 with heap:=s5.heap.push { cls:=.type "slice",data:=.fields #[.none,.none,.none] } }:Shared)=s6 at st6 ⊢
 have hsl6:s6.heap.IsSliceOf s5.heap.objs.size .none .none .none:=by rw[<-hs6];exact hsl
 have st46:=st5.trans st6;(refine e2a3 (bL.unlist r) ?_;rintro D ws rfl hD ⟨hw,_⟩);have hD6:=PlainList.keep st46.keep hD;have hd6:=hd4.keep st46.keep;(refine e1a2 (hd6.list) ?_;rintro vs hpl hpx);have e1:=hpx.length;rw[Array.length_toList,aK]at e1;have e2:=hw.length;rw[Array.length_toList,aK]at e2;have l1:=(kS hl).1;have l2:(eJ n l).length<=l.length:=List.length_filter_le _ _;refine aC8 hpl hsl6 hD6 (by rw[e1];exact l1) (by rw[e2];exact aP l2 l1) fun h' hl' hs'=>wpAny_execs_nil (h s6 h' ((st3.trans st4).trans st46) ⟨ws,hl',?_⟩ hs')
 have kp:jZ (fun b=>b=la) s6.heap h':=fun b o us nn hb' hd' hc'=>(hs'.2 b fun q=>by
  subst q;(refine e1a1 hpl ?_;rintro n1 e1)
  rcases hc' with hc' | hc'
  .rw[e1]at hb';(replace hb':=(aA hb').symm;subst hb');exact absurd hc' (by simp)
  .exact hc' rfl).trans hb'
 exact pS (Y:=fun _=>False) kp (hw.mono fun _ _ q=>bL.keep st46.keep q)
end
section
variable {c:cG} {K:Frag}
theorem aID {M:Model}{A:Around}{E:Value->Shared->Prop}{s:Shared}{x C f:Addr}{ox:Obj}{od:Option Obj}{v:Value}{Q:Unit->Shared->Prop}(X:K.In s.heap)(I:InstAt s.heap x ox C od)(hq:noSeq K C=true)(hs:findIn K (.ref C) "__delitem__"=some (some (.ref f)))(hf:typeIn K (.ref f)=some (.type "function"))
  (h:wpAny M A (call (.ref f) [.ref x,v]) (fun u_ s'=>Q () s') E s):wpAny M A (delItem (.ref x) v) Q E s:=by
 unfold delItem sequenceKey;refine wpAny_holding (wpAny_bind (wpAny_bind (I.type.here ?_)));refine wpAny_bind ((anyM_none X hq).here ?_);rw[if_pos (show(!false)=true from rfl)];exact wpAny_pure (wpAny_bind (special_fn X I hs hf (wpAny_mono h (fun u_ u2_ z=>wpAny_pure z) fun u_ u2_ z=>z)))
theorem aHu {M:Model}{A:Around}{E:Value->Shared->Prop}{s:Shared}{x C f:Addr}{ox:Obj}{od:Option Obj}{i v:Value}{Q:Unit->Shared->Prop}(X:K.In s.heap)(I:InstAt s.heap x ox C od)(hq:noSeq K C=true)(hs:findIn K (.ref C) "__setitem__"=some (some (.ref f)))(hf:typeIn K (.ref f)=some (.type "function"))
  (h:wpAny M A (call (.ref f) [.ref x,i,v]) (fun u_ s'=>Q () s') E s):wpAny M A (setItem (.ref x) i v) Q E s:=by
 unfold setItem sequenceKey;refine wpAny_holding (wpAny_bind (wpAny_bind (I.type.here ?_)));refine wpAny_bind ((anyM_none X hq).here ?_);rw[if_pos (show(!false)=true from rfl)];exact wpAny_pure (wpAny_bind (special_fn X I hs hf (wpAny_mono h (fun u_ u2_ z=>wpAny_pure z) fun u_ u2_ z=>z)))
structure aIP (c:cG)(K:Frag)(f:Addr):Prop where
 m:lJ c K "__delitem__" f
 d:aQx c f
 q:noSeq K c.HC=true
theorem aKy {sc:Scope}{i:Nat}{a:Ck}{x:Stmt}(h:aHv sc i a x=true):∃ p k q pos,x=.Delete [.Subscript (.Name (nm i) p) k q] pos/\bW (nm i)=true/\a k=true:=by
 refine aAL h fun z1 pos h=>?_;refine aL h fun z2 z3 h=>?_;refine aO h fun h=>?_;refine cW h fun o k q h=>?_;refine aAK h fun h1 h2=>?_;(refine e1a3 (fG h1) ?_;rintro p rfl u_ h3);exact⟨p,k,q,pos,rfl,h3,h2⟩
theorem aH6 {sc:Scope}{i:Nat}{a b:Ck}{x:Stmt}(h:aJo sc i a b x=true):∃ p k q v pos,x=.Assign [.Subscript (.Name (nm i) p) k q] v pos/\bW (nm i)=true/\a k=true/\b v=true:=by
 refine cC h fun z1 v pos h=>?_;refine aL h fun z2 z3 h=>?_;refine aO h fun h=>?_;refine cW h fun o k q h=>?_;simp only[Bool.and_eq_true]at h;(refine wH h ?_;clear h;rintro h1 h2 h3);(refine e1a3 (fG h1) ?_;rintro p rfl u_ h4);exact⟨p,k,q,v,pos,rfl,h4,h2,h3⟩
set_option tactic.hygienic true in
theorem aBx (C:bE c)(M:lI c K){fa:Addr}(D:aIP c K fa){n:Nat}{A:Around}{env:Env}{Bad:Addr->Prop}{Md:List Nat}{F:Nat->List Addr}{P:Nat->Option Value}{E:AE}{s:Shared}{i:Nat}{a:X}{x:Stmt} {l}{nn:List Nat}{Q:Flow->Shared->Prop}{Er:Value->Shared->Prop}
  (X:SX c n A env Bad Md F P E s) (ha:bG c a) (hn:2<=n) (hc:aHv env.scope i (aS c.fnm c.rk n env.scope a) x=true) (hE:E i=some (.hdr l)) (hm:md Md i=4) (hok:cJ (md Md) a=true) (hd:ev c.G c.T a E=some (S nn)) (h1:bS nn=true) (h2:dS l=true)
  (h:∀ s',SX c n A env Bad Md F P (E.set i (.hdr (eJ nn l))) s'->cF env F s F s'->Q .next s'):wpAny (model c.prog c.w) A (exec x env) Q Er s:=by
 (refine e4a3 (aKy hc) ?_;rintro p k q pos rfl c2 c3);(refine e2a4 (sU X hE hm) ?_;rintro a0 la q1 mem hdr fin);refine wpAny_Delete (wpAny_deleteEach_cons ?_);rw[arm_delete_Subscript];refine wpAny_bind (eH X q1 c2 (wpAny_bind (wpAny_holding (ha n A env _ _ E s k _ _ Er X.cx c3 hok hd fun v1 s1 st1 r1 _=>wpAny_bind (wpAny_standAt (wpAny_bind (wpAny_holding ?_)))))));(refine e1a1 r1.any.str ?_;rintro t1 rfl);have X1:=X.stp st1;(refine e6a5 (hdr.keep st1.keep).inst ?_;rintro a' da od hs t n' e _ I _ _);cases e;refine aID (M.hk.at X1.base) I D.q D.m.find D.m.typ (wpAny_call (aP6 C M D.d (X.room.le (by lia)) X1.base X1.live (hdr.keep st1.keep) h1 h2 .mkStr fun s2 h' st2 hnew hs'=>?_))
 have f:=fin s2 h' _ (st1.trans st2) hnew hs';exact wpAny_release' (wpAny_deleteEach_nil (h _ f.1 f.2))
set_option tactic.hygienic true in
theorem aMm (C:bE c)(W:Nat)(M:lI c K){fa:Addr}(D:aIP c K fa){i:Nat}{a:X}(ha:bG c a):kU c W (.hdel i a):=by
 intro n A env Bad Md M' F P E E' r s x Q Er X hc ho hx h1 h2;simp only[aEn,Bool.and_eq_true,decide_eq_true_eq]at hc;obtain ⟨hn,hc⟩:=hc;dsimp only[aE8]at ho;revert ho;refine ifs fun hok ho=>?_;(refine aRf hok ?_;clear hok;rintro hm4 hok1);(replace ho:=aA ho;subst ho);revert hx;refine cE fun l hl=>cE fun d1 hd1=>cE fun nn hnn hx=>?_;revert hx;refine ifs fun hcl hx=>?_;simp only[Option.some.injEq,Prod.mk.injEq]at hx;obtain ⟨rfl,rfl⟩:=hx;have hnn:=xM hnn;subst hnn;exact aBx C M D X ha (by lia) hc (oY hl) hm4 hok1 hd1 hcl.1 hcl.2 fun s' X' S'=>h1 rfl F P s' X' S'
noncomputable def aN6 (fnm:Nat->Str)(rk:Nat->Nat)(sc:Scope)(s:Stmt):Bool :=
 rT s fun e u1_=>eY e fun f as ks q=>bV ks (cZ f fun at1 app ap=>bC as fun tp r=>bV r (jU tp fun es u2_ u3_=>bC es fun cv r=>bC r fun cw r=>bV r (sP sc 113 at1 && decide (app=("append":Str)) && (ap.endLine == q.line) && aBS (aS fnm rk 4 sc (.var 61)) cv && aBS (aS fnm rk 4 sc (.var 123)) cw)))
inductive aHg (fnm:Nat->Str)(rk:Nat->Nat)(sc:Scope):Stmt->Prop
 | mk {at1 ap cv cw w18 w19 q w20}:sP sc 113 at1=true->(ap.endLine == q.line)=true->CvV (aS fnm rk 4 sc (.var 61)) cv->CvV (aS fnm rk 4 sc (.var 123)) cw->aHg fnm rk sc (.Expr (.Call (.Attribute at1 ("append":Str) ap) [.Tuple [cv,cw] w18 w19] [] q) w20)
theorem aH7 {fnm:Nat->Str}{rk:Nat->Nat}{sc:Scope}{s:Stmt}(h:aN6 fnm rk sc s=true):aHg fnm rk sc s:=by
 refine fL h fun z1 w20 h=>?_;refine cI h fun z2 z3 z4 q h=>?_;refine aO h fun h=>?_;refine cB h fun at1 app ap h=>?_;refine aL h fun z5 z6 h=>?_;refine aO h fun h=>?_;refine eX h fun z7 w18 w19 h=>?_;refine aL h fun cv z8 h=>?_;refine aL h fun cw z9 h=>?_;refine aO h fun h=>?_;(refine aGt h ?_;clear h;rintro h1 rfl h2 h3 h4);exact .mk h1 h2 (lV h3) (lV h4)
noncomputable def aAl (fnm:Nat->Str)(rk:Nat->Nat)(sc:Scope)(body:List Stmt):Bool :=
 bC body fun s1 r=>bC r fun s2 r=>bV r (aHv sc 113 (aS fnm rk 4 sc (.var 61)) s1 && aN6 fnm rk sc s2)
theorem aMY {fnm:Nat->Str}{rk:Nat->Nat}{sc:Scope}{body:List Stmt}(h:aAl fnm rk sc body=true):∃ s1 s2,body=[s1,s2]/\aHv sc 113 (aS fnm rk 4 sc (.var 61)) s1=true/\aHg fnm rk sc s2:=by
 refine aL h fun s1 z1 h=>?_;refine aL h fun s2 z2 h=>?_;refine aO h fun h=>?_;exact aAK h fun h1 h2=>⟨s1,s2,rfl,h1,aH7 h2⟩
structure aQp (c:cG)(f:Addr):Prop where
 fn:∃ fd body,Fn0 c f fd body [113,61,123]/\(∀ a b v:Value,bindArgs fd ⟨[a,b,v],[]⟩=pure (([113,61,123].map nm).zip [a,b,v]))/\aAl c.fnm c.rk fd.scope body=true
theorem SX.addH {n:Nat}{A:Around}{env:Env}{P:Nat->Option Value}{s0 s:Shared}{a:Addr} {l la}(X:SX c n A env (fun u_=>False) (List.replicate 130 0) (fun u_=>[]) P (fun u_=>none) s)(st:cS s0 s)(hP:P 113=some (.ref a))(hd:fP c.HC s0.heap (.ref a) l la)(hla:c.h0.get? la=none)
  (low:∀ b o,s0.heap.get? b=some o->b≠env.locals):SX c n A env (fun u_=>False) ((List.replicate 130 0).set 113 4) (dH (fun u_=>[]) 113 [la]) P (AE.set (fun u_=>none) 113 (.hdr l)) s:=by
 have mz:∀ j b,b∈dH (fun u_=>[]) 113 [la] j->j=113/\b=la:=by
  intro j b hb;unfold dH at hb
  by_cases q:j=113
  .rw[if_pos q]at hb;exact⟨q,aH hb⟩
  .rw[if_neg q]at hb;exact nomatch hb
 have hL:=hd.list;(refine e1a2 hL ?_;rintro vs hpl hpx);obtain ⟨a',da,od,e,hobj,g1,g2,g3,u1_,u2_⟩:=hd.obj;cases e;refine⟨X.eok,X.room,X.base,X.cells,X.sto,fun j pv e=>?_,fun j b hb=>?_,X.bad,fun u_ u2_ u3_ h=>h,fun i j b h1 h2=>(mz i b h1).1.trans (mz j b h2).1.symm,X.nl,X.nc,fun j b hb=>by rw[(mz j b hb).2];exact hla⟩
 .by_cases q:j=113
  .subst q
   cases(show some (PV.hdr l)=some pv from e);refine⟨_,hP,?_⟩;exact .hdr (da:=da) (la:=la) rfl (st.keep _ _ hobj) ⟨od,st.keep _ _ g1,g2,g3⟩ (low da od g1) ⟨vs,PlainList.keep st.keep hpl,hpx.mono fun u_ u2_ r=>bL.keep st.keep r⟩
  .exact cM ((show AE.set (fun u_=>none) 113 (.hdr l) j=none from if_neg q).symm.trans e)
 .rw[(mz j b hb).2]
  (refine e1a1 (PlainList.keep st.keep hpl) ?_;rintro n0 h0);exact⟨vs,n0,h0⟩
set_option tactic.hygienic true in
theorem aMs (C:bE c)(M:lI c K){A:Around}{env:Env}{Bad:Addr->Prop}{M7:List Nat}{F:Nat->List Addr}{P:Nat->Option Value}{E:AE}{s7:Shared}{a:Addr} {l la}{n v:List Nat}{x:Stmt}{Q:Flow->Shared->Prop}{Er:Value->Shared->Prop}
  (X7:SX c 4 A env Bad M7 F P E s7) (vA:aHg c.fnm c.rk env.scope x) (hd:fP c.HC s7.heap (.ref a) l la) (hn:bS n=true) (hv:bS v=true) (hl:l.length<=lim) (p113:P 113=some (.ref a)) (e61:aI E 61=some (S n)) (e123:aI E 123=some (S v))
  (m61:cJ (md M7) (.var 61)=true) (m123:cJ (md M7) (.var 123)=true)
  (h:∀ s1 h',cS s7 s1->(∃ vs,h'.PlainList la vs/\bP (bL (fun _=>False) h') vs.toList ((l++[(n,v)]).map fun p=>PyData.tuple [S p.1,S p.2]))->Heap.SameBut la s1.heap h'->Q .next { s1 with heap:=h' }) :
  wpAny (model c.prog c.w) A (exec x env) Q Er s7:=by
 (refine e1a2 M.conv ?_;rintro fc mc vc)
 cases vA with | mk c9 c10 vC vD =>
 cases vC with | mk c11 c12 c13 =>
 cases vD with | mk d11 d12 d13 =>
 (refine e2a3 (sT c9) ?_;rintro pa pb rfl _ _);refine wpAny_Expr ?_ (iN X7.eok) rfl;refine Call_method1 (eA rfl) (jW rfl) c10 (Attribute_Name_ (eH X7 (i:=113) p113 (by decide +kernel) (lB M.hk X7.base hd ?_)))
 have st8:cS s7 { s7 with toks:=s7.toks+1 }:=.toks
 generalize hs8:({ s7 with toks:=s7.toks+1 }:Shared)=s8 at st8 ⊢
 have X8:=X7.stp st8;have hd8:=hd.keep st8.keep;(refine e1a2 (hd8.list) ?_;rintro vs hpl hpx);refine⟨"list",_,PySem.F.plainAttrs_list,PySem.F.slot_list_append,PySem.F.type_list_append,hpl.isList.typeIs,(fun b eb=>?_),?_⟩
 .cases eb
  (refine e1a1 hpl ?_;try clear hpl;rintro nn e0);exact⟨_,e0,rfl⟩
 refine Calls.callWith_builtin rfl (Calls.evalArgs_plain (Calls.spliced_cons (wpAny_Tuple_spliced ?_)));rw[bK (e:=.Call _ _ _ _) rfl,bK (e:=.Call _ _ _ _) rfl];refine Calls.spliced_cons (jY C M.hk vc mc X8 (by decide) (i:=113) p113 (by decide +kernel) hd8 (x:=⟨⟨n⟩⟩) c12 c11 (fC hn).2.2 (fun Q Er hq=>?_) fun t9 s9 st9=>?_)
 .refine cQ 61 4 _ env _ _ _ s8 _ (S n) _ Er X8.cx c13 m61 (by rw[bD];exact e61) fun v s' st r _=>?_
  (refine e1a1 r.any.str ?_;rintro t rfl);exact hq t s' st
 have X9:=X8.stp st9;have hd9:=hd8.keep st9.keep;refine Calls.spliced_cons (jY C M.hk vc mc X9 (by decide) (i:=113) p113 (by decide +kernel) hd9 (x:=⟨⟨v⟩⟩) d12 d11 (fC hv).2.2 (fun Q Er hq=>?_) fun t10 s10 st10=>Calls.spliced_nil ⟨by rw[sizeLine_eq];show(2:Nat)<=16777216;lia,?_⟩)
 .refine cQ 123 4 _ env _ _ _ s9 _ (S v) _ Er X9.cx d13 m123 (by rw[bD];exact e123) fun v s' st r _=>?_
  (refine e1a1 r.any.str ?_;rintro t rfl);exact hq t s' st
 have X10:=X9.stp st10;refine Calls.spliced_nil ?_;generalize hs11:({ s10 with heap:=s10.heap.push { cls:=.type "tuple",data:=.seq [Value.str ⟨⟨n⟩⟩ t9,.str ⟨⟨v⟩⟩ t10].toArray } }:Shared)=s11
 have st11:cS s10 s11:=by rw[<-hs11];exact .push
 have hT:s11.heap.IsTuple s10.heap.objs.size #[Value.str ⟨⟨n⟩⟩ t9,.str ⟨⟨v⟩⟩ t10]:=by rw[<-hs11];exact⟨_,Heap.get?_push_size _ rfl,rfl,_,rfl⟩
 have kk:=(st9.trans (st10.trans st11)).keep;exact aDQ hpl hpx kk hl hT fun h' q1 q2=>h s11 h' (((st8.trans st9).trans st10).trans st11) q1 q2
set_option tactic.hygienic true in
theorem aOD (C:bE c)(M:lI c K){fa f:Addr}(D:aIP c K fa)(SF:aQp c f){A:Around}{s:Shared}{a:Addr} {l la}{n v:List Nat}{vn vv:Value}{R:Result->Shared->Prop}(hroom:fO 5 A)(B:dK c s.heap)
  (hd:fP c.HC s.heap (.ref a) l la) (hla:c.h0.get? la=none) (hn:bS n=true) (hv:bS v=true) (hl:dS l=true) (rn:bL (fun _=>False) s.heap vn (S n)) (rv:bL (fun _=>False) s.heap vv (S v))
  (h:∀ s1 h',cS s s1->(∃ vs,h'.PlainList la vs/\bP (bL (fun _=>False) h') vs.toList ((eJ n l++[(n,v)]).map fun p=>PyData.tuple [S p.1,S p.2]))->Heap.SameBut la s1.heap h'->R (.ok (.ret .none)) { s1 with heap:=h' }) :
  codeAny (model c.prog c.w) A (.call (.ref f) ⟨[.ref a,vn,vv],[]⟩) R s:=by
 (refine cA fun G_ hG_=>?_;rcases SF with ⟨fd,body,F0,hb,hc⟩;all_goals (refine hG_ ?_;clear hG_ G_))
 (refine e1a1 rn.str ?_;rintro tn rfl);(refine e1a1 rv.str ?_;rintro tv rfl);refine gL (n:=4) (Bad:=fun _=>False) (V:=fun vals s0=>vals=[.ref a,.str ⟨⟨n⟩⟩ tn,.str ⟨⟨v⟩⟩ tv]) hroom B F0 (fun _ z=>z.elim) (fun Q Er hq=>?_) fun env vals s0 s1 Er es st0 hV st1 X fin low=>?_
 .rw[hb];exact wpAny_pure (hq [.ref a,.str ⟨⟨n⟩⟩ tn,.str ⟨⟨v⟩⟩ tv] s (.refl s) rfl rfl)
 subst hV;have hv':=aMY (show aAl c.fnm c.rk env.scope body=true by rw[es];exact hc)
 clear hc;revert F0;(refine e2a3 hv' ?_;rintro x1 x2 rfl v1 v2);intro F0;clear F0;have hd0:=hd.keep st0.keep;have XH:=X.addH st1 (by rfl) hd0 hla fun b o e=>(low b o e).1
 have mz:∀ j,j≠113->md ((List.replicate 130 0).set 113 4) j=0:=fun j hj=>by rw[hU (by decide),if_neg hj];exact md0 j
 have m113:md ((List.replicate 130 0).set 113 4) 113=4:=by rw[hU (by decide),if_pos rfl]
 have X1:=(XH.addE (i:=61) (d:=S n) (v:=.str ⟨⟨n⟩⟩ tn) (by rfl) .mkStr (mz 61 (by decide)) rfl).addE (i:=123) (d:=S v) (v:=.str ⟨⟨v⟩⟩ tv) (by rfl) .mkStr (mz 123 (by decide)) rfl
 refine wpAny_execs_cons (aBx C M D X1 (cQ 61) (by decide) v1 (l:=l) (nn:=n) rfl m113 (by decide +kernel) (by rw[bD];rfl) hn hl fun s2 X2 S2=>?_)
 have l2:(eJ n l).length<=lim:=aP (List.length_filter_le _ _) (kS hl).1;(refine e2a4 (sU X2 (i:=113) rfl m113) ?_;rintro a2 la2 p2 aDy hd2 _);cases(show some (Value.ref a)=some (.ref a2)from p2);cases(aH (show la2∈[la]from aDy));refine wpAny_execs_cons (aMs C M X2 v2 hd2 hn hv l2 (by rfl) (by rfl) (by rfl) (by decide +kernel) (by decide +kernel) fun s3 h' st3 hnew hs'=>wpAny_execs_nil ?_)
 have S3:=S2.trans (.of st3);(refine e1a2 (hd0.list) ?_;rintro vs0 hpl0 _);(refine e1a1 hpl0 ?_;rintro k0 hk0);have hk1:=st1.keep _ _ hk0;(refine e1a2 hnew ?_;rintro vs3 hpl3 hpx3);(refine e1a1 hpl3 ?_;rintro k3 hk3);generalize hM:h'.update la (fun _=>{ cls:=.type "list",data:=.seq vs0 k0 })=hm;have eM:hm.get? la=some { cls:=.type "list",data:=.seq vs0 k0 }:=by rw[<-hM];exact Heap.get?_update_self _ hk3 rfl
 have sM:Heap.SameBut la h' hm:=by rw[<-hM];exact Heap.SameBut.update ..
 have sM':Heap.SameBut la hm h':=⟨sM.1.symm,fun b hb=>(sM.2 b hb).symm⟩
 have SM:cF env (fun _=>[]) s1 (fun _=>[]) { s3 with heap:=hm }:=by
  refine⟨fun b o q1 q2 _ e=>?_,S3.gk,S3.os,(fun _ _ m=>nomatch m),fun b o e=>?_⟩
  .by_cases q:b=la
   .subst q
    rw[hk1]at e;exact eM.trans e
   .refine(sM.2 b q).trans ((hs'.2 b q).trans (S3.keep b o q1 q2 (fun i m=>?_) e))
    unfold dH at m
    split at m
    .exact q (aH m)
    .exact nomatch m
  .by_cases q:b=la
   .subst q;exact⟨_,eM⟩
   ·(refine e1a1 (S3.alive b o e) ?_;rintro o' e')
    exact⟨o',(sM.2 b q).trans ((hs'.2 b q).trans e')⟩
 exact h { s3 with heap:=hm } h' (st0.trans (fin _ _ SM)) ⟨vs3,⟨k3,hk3⟩,hpx3⟩ sM'
structure aQo (c:cG)(K:Frag)(f:Addr):Prop where
 m:lJ c K "__setitem__" f
 d:aQp c f
set_option tactic.hygienic true in
theorem aMl (C:bE c)(W:Nat)(M:lI c K){fa fb:Addr}(D:aIP c K fa)(D2:aQo c K fb){i:Nat}{a b:X}(ha:bG c a)(hb:bG c b):kU c W (.hset i a b):=by
 intro n A env Bad Md M' F P E E' r s x Q Er X hc ho hx h1 h2;simp only[aEm,Bool.and_eq_true,decide_eq_true_eq]at hc;obtain ⟨hn,hc⟩:=hc;obtain ⟨p,k,q,v,pos,rfl,c2,c3,c4⟩:=aH6 hc;dsimp only[aE7]at ho;revert ho;refine ifs fun hok ho=>?_;(refine yV hok ?_;clear hok;rintro hm4 hok1 hok2);(replace ho:=aA ho;subst ho);revert hx;refine cE fun d2 hd2=>cE fun vv hvv=>cE fun l hl=>cE fun d1 hd1=>cE fun nn hnn hx=>?_;revert hx;refine ifs fun hcl hx=>?_;simp only[Option.some.injEq,Prod.mk.injEq]at hx;obtain ⟨rfl,rfl⟩:=hx;have hnn:=xM hnn;subst hnn;have hvv:=xM hvv;subst hvv;(refine e2a4 (sU X (oY hl) hm4) ?_;rintro a0 la q1 mem hdr fin);refine wpAny_Assign_Subscript (hb n A env _ _ E s v _ _ Er X.cx c4 hok2 hd2 fun v1 s1 st1 r1 _=>eH (X.stp st1) q1 c2 (ha n A env _ _ E s1 k _ _ Er (X.stp st1).cx c3 hok1 hd1 fun v2 s2 st2 r2 _=>?_)) pQ;have st12:=st1.trans st2;have X2:=X.stp st12;(refine e1a1 r1.any.str ?_;rintro t1 rfl);(refine e1a1 r2.any.str ?_;rintro t2 rfl);(refine e6a5 (hdr.keep st12.keep).inst ?_;rintro a' da od hs t n' e _ I _ _);cases e;refine aHu (M.hk.at X2.base) I D.q D2.m.find D2.m.typ (wpAny_call (aOD C M D D2.d (X.room.le (by lia)) X2.base (hdr.keep st12.keep) (X.nF i la mem) hcl.1 hcl.2.1 hcl.2.2 .mkStr .mkStr fun s3 h' st3 hnew hs'=>?_))
 have f:=fin s3 h' _ (st12.trans st3) hnew hs';exact h1 rfl F P _ f.1 f.2
end
noncomputable def cG.withT (c:cG)(T:Nat->List PV->Option PyData):cG:={ c with T:=T }
noncomputable def qF (T:Nat->List PV->Option PyData)(f:Nat)(g:List PV->Option PyData):Nat->List PV->Option PyData:=fun f'=>if f'=f then g else T f'
structure aF1 (c:cG)(n:Nat)(f:Nat)(ps:List Nat)(body:Sts):Prop where
 at_:∃ fa fd stmts,c.mg (c.fnm f)=some (.ref fa)/\Fn0 c fa fd stmts ps/\(∀ vals:List Value,vals.length=ps.length->bindArgs fd ⟨vals,[]⟩=pure ((ps.map nm).zip vals))/\chkSs c.fnm c.rk n fd.scope body stmts=true
structure aHb (c:cG)(K:Frag):Prop where
 cfg:∀ T,bE (c.withT T)
 gen:∀ T,aHc (c.withT T)
 meths:∀ T,lI (c.withT T) K
 add:∀ T,∃ fa,lJ (c.withT T) K "add_header" fa/\aL0 (c.withT T) fa
 made:∀ T,aHa (c.withT T) K
 del:∀ T,∃ f,aIP (c.withT T) K f
 set:∀ T,∃ f,aQo (c.withT T) K f
section
variable {c:cG} {K:Frag} {T:Nat->List PV->Option PyData} {W:Nat}
noncomputable def wB (c:cG)(T:Nat->List PV->Option PyData):Prop:=∀ h1,bY c.h0 h1->∀ f pvs d,T f pvs=some d->aLZ ((c.at h1).withT T) f
theorem aGh (L:aHb c K)(hT:wB c T):aQr (c.withT T) W where
 o:={
  fn:=hT c.h0 (.refl _)
  gen:=fun a ha=>aPv (L.cfg T) (L.gen T) ha
  get:=fun i a ha=>aNj (L.cfg T) (L.meths T) i ha
  vals:=fun i=>aLl (L.cfg T) (L.meths T) i
  }
 made:=fun i=>aMp (L.cfg T) W (L.meths T).hk (L.made T) i
 add:=fun i a b ha hb=>let ⟨fa,m,A⟩:=L.add T;aMn (L.cfg T) W (L.meths T) m A ha hb
 del:=fun i a ha=>let ⟨fa,D⟩:=L.del T;aMm (L.cfg T) W (L.meths T) D ha
 set:=fun i a b ha hb=>let ⟨fa,D⟩:=L.del T;let ⟨fb,D2⟩:=L.set T;aMl (L.cfg T) W (L.meths T) D D2 ha hb
theorem aHX:wB c (fun u_ u_=>none):=fun u_ u_ u_ u_ u_ h=>nomatch h
theorem aF1.at {n f:Nat}{ps:List Nat}{body:Sts}(F:aF1 c n f ps body){h1:Heap}(k:bY c.h0 h1):aF1 (c.at h1) n f ps body:=by
 (refine e3a4 F.at_ ?_;rintro fa fd stmts m1 F0 hb hc);(refine cA fun G_ hG_=>?_;rcases F0 with ⟨⟨o,m2,m3⟩,⟨cc,oc,vs,tq,e1,e2,e3,e4⟩,hbd,K0⟩;all_goals (refine hG_ ?_;clear hG_ G_))
 exact⟨fa,fd,stmts,m1,⟨⟨o,k _ _ m2,m3⟩,⟨cc,oc,vs,tq,e1,k _ _ e2,e3,e4⟩,hbd,K0⟩,hb,hc⟩
noncomputable def cG.rkd (c:cG)(rk:Nat->Nat):cG:={ c with rk:=rk }
theorem aHY {rk':Nat->Nat}{f:Nat}(hrk:∀ g,g≠f->c.rk g<=rk' g)(L:∀ h1,bY c.h0 h1->aHb (c.at h1) K)(hT:wB c T){ps:List Nat}{body:Sts}(F:aF1 c (rk' f) f ps body)(hf:fSs body=true){M':List Nat}(hok:okSs (List.replicate 130 0) body=some M') :
  wB (c.rkd rk') (qF T f (cV c.G T W ps body)):=by
 intro h1 k f' pvs d h;have k:bY c.h0 h1:=k
 by_cases hff:f'=f
 .subst hff
  (refine e3a4 (F.at k).at_ ?_;rintro fa fd stmts m1 F0 hb hc);(refine cA fun G_ hG_=>?_;rcases F0 with ⟨⟨o,m2,m3⟩,hcd,hbd,K0⟩;all_goals (refine hG_ ?_;clear hG_ G_))
  refine⟨fa,o,fd,m1,m2,m3,fun A Bad s vals pvs d R hr B hbad hargs ht hR=>?_⟩
  have hrun:cV c.G T W ps body pvs=some d:=by
   have:qF T f' (cV c.G T W ps body) f' pvs=some d:=ht;unfold qF at this;rw[if_pos rfl]at this;exact this
  have hlen:vals.length=ps.length:=by
   rw[hargs.length];unfold cV at hrun;revert hrun;refine cE fun E hE u_=>?_;exact tY hE
  have B':dK ((c.at h1).withT T) s.heap:=⟨B.k0,B.z⟩
  have hcr:s.heap.CodeRec fd.code fd.qualname:=by
   (refine e4a4 hcd ?_;try clear hcd;rintro cc oc vs tq e1 e2 e3 e4);exact⟨cc,oc,vs,tq,e1,B'.k0 _ _ e2,e3,e4⟩
  exact aKT (c:=(c.at h1).withT T) (all_Sts ((L h1 k).cfg T) (aGh (L h1 k) fun h2 k2=>hT h2 (k.trans k2)) body hf) hok (n:=rk' f') hr B' (B'.k0 _ _ m2) m3 hcr hbd K0 hlen (hb vals hlen) hc hbad (aLP hargs) hrun hR
 .have h':T f' pvs=some d:=by
   unfold qF at h;rw[if_neg hff]at h;exact h
  (refine e3a4 (hT h1 k f' pvs d h') ?_;rintro fa o fd m1 m2 m3 ct);refine⟨fa,o,fd,m1,m2,m3,fun A Bad s vals pvs d R hr B hbad hargs ht hR=>?_⟩;refine ct A Bad s vals pvs d R (hr.le (Nat.succ_le_succ (hrk f' hff))) ⟨B.k0,B.z⟩ hbad (aLP hargs) ?_ hR;have:qF T f (cV c.G T W ps body) f' pvs=some d:=ht;unfold qF at this;rw[if_neg hff]at this;exact this
theorem aMK {n:Nat}(L:aHb c K)(hT:wB c T){f:Nat}{ps:List Nat}{body:Sts}(F:aF1 c n f ps body)(hf:fSs body=true){M':List Nat}(hok:okSs (List.replicate 130 0) body=some M')
  {A:Around} {s:Shared} {fa:Addr} {vals:List Value} {ds:List PyData} {d:PyData} {R:Result->Shared->Prop} (hfa:c.mg (c.fnm f)=some (.ref fa)) (hr:fO (n+1) A) (B:dK c s.heap)
  (hargs:bP (bL (fun u_=>False) s.heap) vals ds) (hrun:cV c.G T W ps body (ds.map .dat)=some d) (hR:∀ v s',cS s s'->bL (fun u_=>False) s'.heap v d->R (.ok (.ret v)) s') :
  codeAny (model c.prog c.w) A (.call (.ref fa) ⟨vals,[]⟩) R s:=by
 (refine e3a4 F.at_ ?_;rintro fa' fd stmts m1 F0 hb hc);rw[hfa]at m1;cases m1;(refine cA fun G_ hG_=>?_;rcases F0 with ⟨⟨o,m2,m3⟩,hcd,hbd,K0⟩;all_goals (refine hG_ ?_;clear hG_ G_))
 have hlen:vals.length=ps.length:=by
  have h1:=(aAv (c:=c) hargs).length;rw[h1];unfold cV at hrun;revert hrun;refine cE fun E hE u_=>?_;exact tY hE
 have B':dK (c.withT T) s.heap:=⟨B.k0,B.z⟩
 have hcr:s.heap.CodeRec fd.code fd.qualname:=by
  (refine e4a4 hcd ?_;try clear hcd;rintro cc oc vs tq e1 e2 e3 e4);exact⟨cc,oc,vs,tq,e1,B.k0 _ _ e2,e3,e4⟩
 exact aKT (c:=c.withT T) (all_Sts (L.cfg T) (aGh L hT) body hf) hok (n:=n) hr B' (B.k0 _ _ m2) m3 hcr hbd K0 hlen (hb vals hlen) hc (fun u_ q=>q.elim) (aAv hargs) hrun hR
end
set_option tactic.hygienic true in
theorem fJ {K:Frag}{h:Heap}{N:Addr}{mg:Str->Option Value}{n:Str}{v:Value}(X:K.In h)(G:h.Ns N mg)(e:nsIn K N n=some (some v)):mg n=some v:=by
 (refine e3a4 G ?_;try clear G;rintro o es ep ho hd _ hf);unfold nsIn at e
 split at e
 .rename_i c d es' n' sl q
  have:=X _ _ q;rw[ho]at this;(replace this:=(aA this).symm;subst this);cases hd
  split at e
  .rename_i en he
   cases e;rw[<-hf];unfold nsFind findBy;rw[<-Array.find?_toList,he];rfl
  .split at e <;> (first | exact cM e | cases e)
 .exact cM e
noncomputable def dFn (d:Data)(k:FuncData->Bool):Bool:=match d with
 | .func fd=>k fd
 | _=>false
theorem aNp {d:Data}{k:FuncData->Bool}(h:dFn d k=true):∃ fd,d=.func fd/\k fd=true:=by
 cases d with
 | func fd=>exact⟨fd,rfl,h⟩
 | _=>exact eR h
noncomputable def aN0 (d:FuncBody)(k:List Stmt->Bool):Bool:=match d with
 | .stmts b=>k b
 | _=>false
theorem aIF {d:FuncBody}{k:List Stmt->Bool}(h:aN0 d k=true):∃ b,d=.stmts b/\k b=true:=by
 cases d with
 | stmts b=>exact⟨b,rfl,h⟩
 | _=>exact eR h
theorem aIB {J:Type}{l:Option J}{k:J->Bool}(h:mB l k=true):∃ a,l=some a/\k a=true:=by
 induction l with
 | none=>exact eR h
 | some a=>exact⟨a,rfl,h⟩
noncomputable def aRu (d:Data):Option FuncData:=match d with
 | .func fd=>some fd
 | _=>none
noncomputable def gI (K:Frag)(a:Addr):Option FuncData:=(K.lookup a).bind fun o=>aRu o.data
noncomputable def iE (K:Frag)(gen:Bool)(a:Addr)(ps:List Nat)(look:Scope->List Stmt->Bool):Bool :=
 mB (K.lookup a) fun o=>dFn o.data fun fd=>aN0 fd.body fun b=>codeIn K fd.code fd.qualname && !fd.scope.isCoroutine && (fd.scope.isGenerator == gen) && (fd.scope.kind == .function) && !(fd.scope.more.any fun(n,_)=>n == ("interactive":Str)) && (fd.globals == mainGlobals) && (fd.builtins == builtinsNs) &&
  fd.closure.isEmpty && (fd.scope.names.all fun p=>!(p.2 == .free)) && decide (fd.scope.names.map (·.1)).Nodup && (ps.all fun i=>bQ fd.scope (nm i)) && decide ps.Nodup && look fd.scope b
structure FnF (c:cG)(K:Frag)(gen:Bool)(a:Addr)(ps:List Nat)(fd:FuncData)(b:List Stmt):Prop where
 at_:gI K a=some fd
 ob:∃ o,c.h0.get? a=some o/\o.data=.func fd
 body:fd.body=.stmts b
 code:codeIn K fd.code fd.qualname=true
 cor:fd.scope.isCoroutine=false
 gen:fd.scope.isGenerator=gen
 kind:fd.scope.kind=.function
 more:(fd.scope.more.any fun(n,_)=>n == ("interactive":Str))=false
 glob:fd.globals=mainGlobals
 bui:fd.builtins=builtinsNs
 clo:fd.closure=[]
 free:∀ p∈fd.scope.names,p.2≠.free
 nod:(fd.scope.names.map (·.1)).Nodup
 own:∀ i∈ps,bQ fd.scope (nm i)=true
 psn:ps.Nodup
theorem aBz {c:cG}{K:Frag}(X:K.In c.h0){gen:Bool}{a:Addr}{ps:List Nat}{look:Scope->List Stmt->Bool}(h:iE K gen a ps look=true):∃ fd b,FnF c K gen a ps fd b/\look fd.scope b=true:=by
 (refine e1a2 (aIB h) ?_;clear h;rintro o e h);(refine e1a2 (aNp h) ?_;clear h;rintro fd hd h);(refine e1a2 (aIF h) ?_;clear h;rintro b hb h);refine⟨fd,b,?_⟩;(refine wE h ?_;clear h;rintro h1 h2 h3 h4 h5 h6 h7 h8 h9 h10 h11 h12 h13);exact⟨⟨by unfold gI;rw[e];show aRu o.data=_;rw[hd];rfl,⟨o,X _ _ e,hd⟩,hb,h1,h2,h3,h4,h5,h6,h7,h8,fun p hp q=>by have:=h9 p hp;rw[q]at this;exact eR this,h10,h11,h12⟩,h13⟩
theorem vO {c:cG}{K:Frag}(X:K.In c.h0){a:Addr}{ps:List Nat}{look:Scope->List Stmt->Bool}(h:iE K false a ps look=true):∃ fd b,gI K a=some fd/\Fn0 c a fd b ps/\look fd.scope b=true:=by
 (refine e2a2 (aBz X h) ?_;rintro fd b F hl);exact⟨fd,b,F.at_,⟨F.ob,codeRec_of X F.code,F.body,⟨F.cor,F.gen,F.kind,F.more,F.glob,F.bui,F.clo,F.free,F.nod,F.own,F.psn⟩⟩,hl⟩
noncomputable def aU:Nat->Option Int
 | 0=>some 40
 | 1=>some 2
 | 2=>some 1
 | _=>none
theorem aEB {K:Frag}{a:Addr}{fd:FuncData}(e:gI K a=some fd){β:Type}{f:FuncData->β}{y:β}(h:(gI K a).map f=some y):f fd=y:=by
 rw[e]at h;exact aA h
noncomputable def fI (fd:FuncData)(ps:List Nat)(vals:List Value):Prop:=bindArgs fd ⟨vals,[]⟩=pure ((ps.map nm).zip vals)
theorem aPa {P:List Value->Prop}(h:P [])(l:List Value)(e:l.length=0):P l:=(List.length_eq_zero_iff.mp e).symm ▸ h
theorem aHW {P:List Value->Prop}{n:Nat}(h:∀ x,∀ l:List Value,l.length=n->P (x::l))(l:List Value)(e:l.length=n+1):P l:=by
 cases l with
 | nil=>exact absurd e.symm (Nat.succ_ne_zero n)
 | cons x l=>exact h x l (Nat.succ.inj e)
theorem aBQ {K:Frag}{a:Addr}{fd:FuncData}{ps:List Nat}(e:gI K a=some fd)(h:∀ x:Value,(gI K a).map (fun fd=>bindArgs fd ⟨[x],[]⟩)=some (pure ((ps.map nm).zip [x])))(hp:ps.length=1):∀ vals:List Value,vals.length=ps.length->fI fd ps vals:=fun vals hl=>aHW (P:=fun l=>fI fd ps (l)) (fun x=>aPa (P:=fun l=>fI fd ps (x::l)) (aEB e (h x))) vals (hl.trans hp)
theorem aLM {K:Frag}{a:Addr}{fd:FuncData}{ps:List Nat}(e:gI K a=some fd)(h:∀ x y:Value,(gI K a).map (fun fd=>bindArgs fd ⟨[x,y],[]⟩)=some (pure ((ps.map nm).zip [x,y])))(hp:ps.length=2):∀ vals:List Value,vals.length=ps.length->fI fd ps vals:=fun vals hl=>aHW (P:=fun l=>fI fd ps (l)) (fun x=>aHW (P:=fun l=>fI fd ps (x::l)) (fun y=>aPa (P:=fun l=>fI fd ps (x::y::l)) (aEB e (h x y)))) vals (hl.trans hp)
theorem aRE {K:Frag}{a:Addr}{fd:FuncData}{ps:List Nat}(e:gI K a=some fd)(h:∀ x y z:Value,(gI K a).map (fun fd=>bindArgs fd ⟨[x,y,z],[]⟩)=some (pure ((ps.map nm).zip [x,y,z])))(hp:ps.length=3):∀ vals:List Value,vals.length=ps.length->fI fd ps vals:=fun vals hl=>aHW (P:=fun l=>fI fd ps (l)) (fun x=>aHW (P:=fun l=>fI fd ps (x::l)) (fun y=>aHW (P:=fun l=>fI fd ps (x::y::l)) (fun z=>aPa (P:=fun l=>fI fd ps (x::y::z::l)) (aEB e (h x y z))))) vals (hl.trans hp)
theorem aM7 {c:cG}{K:Frag}(X:K.In c.h0){n f:Nat}{ps:List Nat}{body:Sts}{a:Addr}(hm:c.mg (c.fnm f)=some (.ref a))(h:iE K false a ps (fun sc b=>chkSs c.fnm c.rk n sc body b)=true)
  (hb:∀ fd,gI K a=some fd->∀ vals:List Value,vals.length=ps.length->fI fd ps vals):aF1 c n f ps body:=by
 (refine e2a3 (vO X h) ?_;rintro fd b e F0 hl);exact⟨a,fd,b,hm,F0,hb fd e,hl⟩
noncomputable def dvI (v:Value)(k:Int->Tok->Bool):Bool:=match v with
 | .int n t=>k n t
 | _=>false
@[elab_as_elim] theorem zO {P:Value->Prop}{v:Value}{k:Int->Tok->Bool}(h:dvI v k=true)(g:∀ n t,k n t=true->P (.int n t)):P v:=by
 cases v with
 | int n t=>exact g _ _ h
 | _=>exact absurd h aN
noncomputable def dvN (v:Value)(k:Bool):Bool:=match v with
 | .none=>k
 | _=>false
@[elab_as_elim] theorem aD5 {P:Value->Prop}{v:Value}{k:Bool}(h:dvN v k=true)(g:k=true->P .none):P v:=by
 cases v with
 | none=>exact g h
 | _=>exact absurd h aN
noncomputable def dvR (v:Value)(k:Addr->Bool):Bool:=match v with
 | .ref n=>k n
 | _=>false
@[elab_as_elim] theorem aLs {P:Value->Prop}{v:Value}{k:Addr->Bool}(h:dvR v k=true)(g:∀ n,k n=true->P (.ref n)):P v:=by
 cases v with
 | ref n=>exact g _ h
 | _=>exact absurd h aN
noncomputable def dvT (v:Value)(k:String->Bool):Bool:=match v with
 | .type n=>k n
 | _=>false
@[elab_as_elim] theorem aLr {P:Value->Prop}{v:Value}{k:String->Bool}(h:dvT v k=true)(g:∀ n,k n=true->P (.type n)):P v:=by
 cases v with
 | type n=>exact g _ h
 | _=>exact absurd h aN
noncomputable def ddF (v:Data)(k:Array Value->Bool):Bool:=match v with
 | .fields n=>k n
 | _=>false
@[elab_as_elim] theorem aLv {P:Data->Prop}{v:Data}{k:Array Value->Bool}(h:ddF v k=true)(g:∀ n,k n=true->P (.fields n)):P v:=by
 cases v with
 | fields n=>exact g _ h
 | _=>exact absurd h aN
noncomputable def ddS (v:Data)(k:Array Value->Nat->Bool):Bool:=match v with
 | .seq n m=>k n m
 | _=>false
noncomputable def aJC (K:Frag)(code:Array Nat)(l:List Value):Bool :=
 bC l fun u_ r=>bC r fun a r=>dvI a fun n u_=>decide (n=32) && (bC r fun a r=>dvI a fun n m=>decide (n=0) && (decide (m=0) && (bC r fun a r=>dvN a (bC r fun a r=>dvN a (bC r fun a r=>dvR a fun ta =>
  bC r fun a r=>dvI a fun n m=>decide (n=0) && (decide (m=0) && (bV r (mB (K.lookup ta) fun o=>ddS o.data fun items u_=>decide ((items.map Builtin.Re.reRawOf).map (·.toNat)=code)))))))))
noncomputable def aBT (K:Frag)(pa:Addr)(code:Array Nat):Bool :=
 mB (K.lookup pa) fun o=>dvT o.cls fun n=>decide (n="re.Pattern") && (o.dict.isNone && (o.slots.isEmpty && ddF o.data fun vs=>aJC K code vs.toList))
theorem vZ {a b:Bool}(h:(a && b)=true):a=true/\b=true:=by
 induction a with
 | true=>exact⟨rfl,h⟩
 | false=>exact absurd h aN
theorem aHA {K:Frag}{code:Array Nat}{l:List Value}(e:aJC K code l=true):∃ p0 t ta o items n,l=[p0,.int 32 t,.int 0 0,.none,.none,.ref ta,.int 0 0]/\K.lookup ta=some o/\o.data=.seq items n/\(items.map Builtin.Re.reRawOf).map (·.toNat)=code:=by
 refine aL e fun p0 r e=>?_;refine aL e fun a r e=>?_;refine zO e fun n t e=>?_;have ee:=vZ e;clear e;obtain ⟨q1,e⟩:=ee;have q1:=aC q1;subst q1;refine aL e fun a r e=>?_;refine zO e fun n m e=>?_;have ee:=vZ e;clear e;obtain ⟨q2,e⟩:=ee;have q2:=aC q2;subst q2;have ee:=vZ e;clear e;obtain ⟨q3,e⟩:=ee;have q3:=aC q3;subst q3;refine aL e fun a r e=>?_;refine aD5 e fun e=>?_;refine aL e fun a r e=>?_;refine aD5 e fun e=>?_;refine aL e fun a r e=>?_;refine aLs e fun ta e=>?_;refine aL e fun a r e=>?_;refine zO e fun n m e=>?_;have ee:=vZ e;clear e;obtain ⟨q4,e⟩:=ee;have q4:=aC q4;subst q4;have ee:=vZ e;clear e;obtain ⟨q5,e⟩:=ee;have q5:=aC q5;subst q5;refine aO e fun e=>?_
 cases hq:K.lookup ta with
 | none=>rw[hq]at e;exact absurd e aN
 | some o =>
  rw[hq]at e;have e:ddS o.data (fun items u_=>decide ((items.map Builtin.Re.reRawOf).map (·.toNat)=code))=true:=e
  cases hd:o.data with
  | seq items n=>rw[hd]at e;exact⟨p0,t,ta,o,items,n,rfl,hq,hd,aC e⟩
  | _=>rw[hd]at e;exact absurd e aN
theorem aJB {K:Frag}{h:Heap}(X:K.In h){pa:Addr}{code:Array Nat}(hc:code=pJ\/code=pI)(e:aBT K pa code=true):wA h pa code:=by
 unfold aBT at e
 cases hq:K.lookup pa with
 | none=>rw[hq]at e;exact absurd e aN
 | some ob =>
  rw[hq]at e;have hq:=X _ _ hq;(refine cA fun G_ hG_=>?_;rcases ob with ⟨cls,dict,data,slots⟩;all_goals (refine hG_ ?_;clear hG_ G_))
  have e9:dvT cls (fun n=>decide (n="re.Pattern") && (dict.isNone && (slots.isEmpty && ddF data fun vs=>aJC K code vs.toList)))=true:=e;clear e;have e:=e9;clear e9;revert hq;refine aLr e fun n e0=>?_;clear e;have e:=e0;clear e0;have ee:=vZ e;clear e;obtain ⟨e1,e⟩:=ee;obtain rfl:=aC e1;have ee:=vZ e;clear e;obtain ⟨e2,e⟩:=ee;have ee:=vZ e;clear e;obtain ⟨e3,e⟩:=ee;obtain rfl:=Option.isNone_iff_eq_none.mp e2;obtain rfl:slots=#[]:=by simpa using e3
  refine aLv e fun vs e hq=>?_;(refine e6a4 (aHA e) ?_;rintro p0 t ta o items n hv h2 h3 h4);obtain ⟨l⟩:=vs;have hv:l=_:=hv;subst hv;exact⟨hc,p0,t,ta,o,items,n,hq,X _ _ h2,h3,h4⟩
theorem aHs {c:cG}{K:Frag}{x:X}{a:Addr}(XK:K.In c.h0)(h:iE K false a [113] (fun sc b=>bC b fun st r=>bV r (kR st fun o u_=>mB o fun e=>aS c.fnm c.rk 0 sc x e))=true)(hb:∀ v:Value,(gI K a).map (fun fd=>bindArgs fd ⟨[v],[]⟩)=some (pure (([113].map nm).zip [v]))):aCQ c a x:=by
 (refine e2a3 (vO XK h) ?_;clear h;rintro fd b e F0 hl);revert F0;refine aL hl fun st r hl=>?_;refine aO hl fun hl=>?_;refine iU hl fun o p hl=>?_;refine gK hl fun x hl F0=>?_;exact⟨fd,_,_,F0,fun v=>aEB e (hb v),hl⟩
noncomputable def aKN (c:cG)(K:Frag)(a:Addr):Bool:=iE K true a [16] (fun sc b=>aFR c.fnm c.rk sc b && (sc.names.all fun p=>!(p.2 == .cell)) && decide (sc.names.lookup (nm 16)=some .local))
theorem aKM {c:cG}{K:Frag}(X:K.In c.h0){a:Addr}(hm:c.mg "_iter_escaped_chars"=some (.ref a))(h:aKN c K a=true)(hb:∀ v:Value,(gI K a).map (fun fd=>bindArgs fd ⟨[v],[]⟩)=some (pure [(nm 16,v)])):aHc c:=by
 (refine e2a2 (aBz X h) ?_;clear h;rintro fd b F hl);(refine aRh hl ?_;clear hl;rintro h13 h14 h15);(refine e1a2 F.ob ?_;rintro o ho hd);exact⟨a,o,fd,b,hm,ho,hd,⟨codeRec_of X F.code,F.body,F.gen,F.cor,F.kind,F.more,F.glob,F.bui,F.clo,fun p hp=>⟨fun q=>by have:=h14 p hp;rw[q]at this;exact eR this,F.free p hp⟩,h15,fun v=>aEB F.at_ (hb v),h13⟩⟩
section
variable {G:Nat->Option Int} {T:Nat->List PV->Option PyData} {W:Nat} {E:AE} {a b e:X} {x y z d:PyData}
theorem dM {op:Bop}(h1:ev G T a E=some x)(h2:ev G T b E=some y)(h:kQ op x y=some z):ev G T (.bin op a b) E=some z:=by rw[iF,h1,h2];exact h
theorem dO (h1:ev G T a E=some x)(h2:ev G T b E=some y)(h:jD x y=some z):ev G T (.idx a b) E=some z:=by rw[gA,h1,h2];exact h
theorem uB {p:P1}(h1:ev G T a E=some x)(h:uT p x=some z):ev G T (.p1 p a) E=some z:=by rw[wW,h1];exact h
theorem aHx {p:P2}(h1:ev G T a E=some x)(h2:ev G T b E=some y)(h:wF p x y=some z):ev G T (.p2 p a b) E=some z:=by rw[sX,h1,h2];exact h
theorem dG {op:Cop}{r:Bool}(h1:ev G T a E=some x)(h2:ev G T b E=some y)(h:kP op x y=some r):ev G T (.cmp1 op a b) E=some (.bool r):=by rw[lY,h1,h2,aD,aD,h];rfl
theorem pR {f:Nat}(h1:ev G T a E=some x)(h:T f [.dat x]=some z):ev G T (.call f (.cons a .nil)) E=some z:=by rw[uQ,cL,h1];exact h
theorem aB8 {f:Nat}(h1:ev G T a E=some x)(h2:ev G T b E=some y)(h:T f [.dat x,.dat y]=some z):ev G T (.call f (.cons a (.cons b .nil))) E=some z:=by rw[uQ,cL,cL,h1,h2];exact h
theorem aB7 {f:Nat}(h1:ev G T a E=some x)(h2:ev G T b E=some y)(h3:ev G T e E=some d)(h:T f [.dat x,.dat y,.dat d]=some z):ev G T (.call f (.cons a (.cons b (.cons e .nil)))) E=some z:=by rw[uQ,cL,cL,cL,h1,h2,h3];exact h
theorem aJw (h1:ev G T a E=some x)(h2:ev G T b E=some y):ev G T (.tup (.cons a (.cons b .nil))) E=some (.tuple [x,y]):=by rw[pC,cL,cL,h1,h2];rfl
theorem aEV (h1:ev G T a E=some x)(h2:ev G T b E=some y)(h3:ev G T e E=some d):ev G T (.tup (.cons a (.cons b (.cons e .nil)))) E=some (.tuple [x,y,d]):=by rw[pC,cL,cL,cL,h1,h2,h3];rfl
theorem aJz (h1:ev G T a E=some x):ev G T (.lst (.cons a .nil)) E=some (.list [x]):=by rw[aDY,cL,h1];rfl
theorem aON (h1:ev G T a E=some x)(h2:ev G T b E=some y):ev G T (.lst (.cons a (.cons b .nil))) E=some (.list [x,y]):=by rw[aDY,cL,cL,h1,h2];rfl
theorem oC {i j:X}{u v:PyData}(h1:ev G T a E=some x)(h2:ev G T i E=some u)(h3:ev G T j E=some v)(h:kO x u v .none=some z):ev G T (.slc a i j .none) E=some z:=by rw[zL,h1,h2,h3,uP];exact h
theorem aGe {t:X}{q:Bool}{r:Option PyData}(h:ev G T t E=some (.bool q))(h2:(bif q then ev G T a E else ev G T b E)=r):ev G T (.ite t a b) E=r:=by
 rw[aLi,h,<-h2];cases q <;> rfl
theorem aA7 {xs:Xs}{p q:Bool}(h1:ev G T a E=some (.bool p))(h2:evAnd G T (.cons b xs) E=some (.bool q)):evAnd G T (.cons a (.cons b xs)) E=some (.bool (p && q)):=by
 rw[nG,h1]
 cases p with
 | false=>rfl
 | true=>exact h2
theorem aJy {p q:Bool}(h1:ev G T a E=some (.bool p))(h2:ev G T b E=some (.bool q)):ev G T (.or (.cons a (.cons b .nil))) E=some (.bool (p || q)):=by
 rw[aGT,pE,h1]
 cases p with
 | false=>exact h2
 | true=>rfl
theorem uC {xs:Xs}{r:Option PyData}(h1:ev G T a E=some x)(h2:tr x=some true)(h3:evAnd G T (.cons b xs) E=r):evAnd G T (.cons a (.cons b xs)) E=r:=by rw[nG,h1,aD,h2];exact h3
theorem xY {xs:Xs}(h1:ev G T a E=some x)(h2:tr x=some false):evAnd G T (.cons a (.cons b xs)) E=some x:=by rw[nG,h1,aD,h2];rfl
theorem aEK {t:X}{p:Sts}{n:Nat}(h:ev G T t E=some x)(h2:tr x=some false):eK (fun E'=>(ev G T t E').bind fun x=>tr x) (fun E'=>exs G T W p E') (n+1) E=some (E,none):=by rw[nW,h,aD,h2];rfl
theorem aI1 {t:X}{p:Sts}{n:Nat}{E1:AE}{r:Option (AE × Option PyData)}(h:ev G T t E=some x)(h2:tr x=some true)(h3:exs G T W p E=some (E1,none))(h4:eK (fun E'=>(ev G T t E').bind fun x=>tr x) (fun E'=>exs G T W p E') n E1=r):eK (fun E'=>(ev G T t E').bind fun x=>tr x) (fun E'=>exs G T W p E') (n+1) E=r:=by
 rw[nW,h,aD,h2,aD,h3];exact h4
theorem aJb {l:List Nat}(h:l.length<=1000):tr (S l)=some (!l.isEmpty):=if_pos (show l.length<=1000000 by lia)
theorem aF2 {i:Nat}{op:Bop}{n:Int}(h0:aI E i=some (.int n))(h:ev G T e E=some y)(h2:kQ op (.int n) y=some z):ex G T W (.aug i op e) E=some (E.set i (.dat z),none):=by
 rw[aLf,h0,h,aD,aD,if_pos (show(iH (.int n)).isSome=true from rfl),h2];rfl
theorem dL {i:Nat}(h:ev G T e E=some d):ex G T W (.asg 0 i e) E=some (E.set i (.dat d),none):=by rw[zJ,h];rfl
theorem xD {i:Nat}{xs:List PyData}(h:ev G T e E=some (.list xs)):ex G T W (.asg 1 i e) E=some (E.set i (.dat (.list xs)),none):=by rw[zJ,h];rfl
theorem aIY {i:Nat}{xs:List PyData}(h0:aI E i=some (.list xs))(h:ev G T e E=some d)(hl:xs.length<=1000):ex G T W (.app i e) E=some (E.set i (.dat (.list (xs++[d]))),none):=by
 rw[aDX,h0,h];exact if_pos (show xs.length<=1000000 by lia)
theorem aIX {i:Nat}{xs:List PyData}(h0:aI E i=some (.list xs))(h:ev G T e E=some d)(hl:xs.length<=lim):ex G T W (.app i e) E=some (E.set i (.dat (.list (xs++[d]))),none):=by
 rw[aDX,h0,h];exact if_pos hl
theorem aNO {c:X}{n r:Bool}(h1:ev G T a E=some x)(h2:ev G T c E=some y)(h:sR x y=some r):ev G T (.isC n a c) E=some (.bool (r != n)):=by rw[aDZ,h1,h2,aD,aD,h];rfl
theorem gO {t:X}{p q:Sts}{q0:Bool}(h:ev G T t E=some (.bool q0)):ex G T W (.iff t p q) E=bif q0 then exs G T W p E else exs G T W q E:=by
 rw[aDV,h];cases q0 <;> rfl
theorem lQ {t:X}{p:Sts}(h:ev G T t E=some (.bool false)):ex G T W (.iff t p .nil) E=some (E,none):=gO h
theorem nR (h:ev G T e E=some d):ex G T W (.ret e) E=some (E,some d):=by rw[pA,h];rfl
theorem aQH {i:Nat}{xs ys:List PyData}(h0:aI E i=some (.list xs))(h:ev G T e E=some (.list ys))(hl:xs.length+ys.length<=1000000):ex G T W (.ext i e) E=some (E.set i (.dat (.list (xs++ys))),none):=by
 rw[aDW,h0,h];exact if_pos hl
theorem aA6 {xs:List PyData}(h:ev G T a E=some (.list xs))(hl:xs.length<=1000):evIt G T (.val a) E=some xs:=by
 rw[eQ,h];exact if_pos (show xs.length<=1000000 by lia)
theorem aJx {b:Bool}(h:ev G T a E=some (.bool b)):evTests G T (.cons a .nil) E=some b:=by
 rw[kN,h];cases b <;> rfl
theorem dE {s:St}{E':AE}{o:Option PyData}(h:ex G T W s E=some (E',o)):exs G T W (.cons s .nil) E=some (E',o):=by
 rw[rN,h];cases o <;> rfl
theorem qN {t:Tgt}{it:It}{p:Sts}{ds:List PyData}{r:Option (AE × Option PyData)}(h:evIt G T it E=some ds)(h2:forLoop (fun E'=>exs G T W p E') (fun d E'=>dF t d E') ds E=r):ex G T W (.forS t it p) E=r:=by rw[aBF,h];exact h2
theorem oM {t:Tgt}{p:Sts}{ds:List PyData}{E1 E2:AE}{r:Option (AE × Option PyData)}(h0:dF t d E=some E1)(h:exs G T W p E1=some (E2,none))(h2:forLoop (fun E'=>exs G T W p E') (fun d E'=>dF t d E') ds E2=r):forLoop (fun E'=>exs G T W p E') (fun d E'=>dF t d E') (d::ds) E=r:=by
 rw[lW,h0,aD,h];exact h2
theorem aNU {t:Tgt}{p:Sts}{ds:List PyData}{E1 E2:AE}{v:PyData}(h0:dF t d E=some E1)(h:exs G T W p E1=some (E2,some v)):forLoop (fun E'=>exs G T W p E') (fun d E'=>dF t d E') (d::ds) E=some (E2,some v):=by
 rw[lW,h0,aD,h];rfl
theorem aOe {i j:Nat}(h:ev G T e E=some d):ex G T W (.asg2 i j e) E=some ((E.set i (.dat d)).set j (.dat d),none):=by rw[aBG,h];rfl
theorem aQG {i:Nat}{k:X}{xs xs':PyData}(h:ev G T e E=some z)(h0:aI E i=some xs)(hk:ev G T k E=some y)(hp:oD y z xs=some xs'):ex G T W (.setI i k e) E=some (E.set i (.dat xs'),none):=by rw[aBD,h,h0,hk,aD,aD,aD,hp];rfl
theorem nK {J:Type}{tests:AE->Option Bool}{elt:AE->Option PyData}{bindv:PyData->Option AE}{mk f:J->PyData}{p:J->Bool}{Ed:J->AE}:∀ xs:List J,
  (∀ x∈xs,bindv (mk x)=some (Ed x)/\tests (Ed x)=some (p x)/\elt (Ed x)=some (f x))->compLoop tests elt bindv (xs.map mk)=some ((xs.filter p).map f)
 | []=>fun _=>rfl
 | d::ds=>fun h=>by
  (refine wH (h d aF) ?_;rintro h1 h2 h3);have ih:=nK (p:=p) (f:=f) (Ed:=Ed) ds fun x m=>h x (aE _ m);rw[aY,iQ,h1,aD,h2,aD,List.filter_cons]
  cases p d with
  | false=>exact ih
  | true =>
   dsimp only;rw[h3,ih];rfl
theorem aEW {J:Type}{t:Tgt}{it:It}{ifs:Xs}{mk f:J->PyData}(p:J->Bool){Ed:J->AE}{xs:List J}(hi:evIt G T it E=some (xs.map mk))(h:∀ x∈xs,dF t (mk x) E=some (Ed x)/\evTests G T ifs (Ed x)=some (p x)/\ev G T e (Ed x)=some (f x)):ev G T (.comp e t it ifs) E=some (.list ((xs.filter p).map f)):=by
 rw[gX,hi,aD,nK xs h];rfl
theorem aA8 {J:Type}{t:Tgt}{it:It}{mk f:J->PyData}{Ed:J->AE}{xs:List J}(hi:evIt G T it E=some (xs.map mk))(h:∀ x∈xs,dF t (mk x) E=some (Ed x)/\ev G T e (Ed x)=some (f x)):ev G T (.comp e t it .nil) E=some (.list (xs.map f)) :=
 (aEW (fun _=>true) hi fun x m=>⟨(h x m).1,rfl,(h x m).2⟩).trans (by rw[List.filter_eq_self.mpr fun _ _=>rfl])
end
theorem L0 {J:Type}{P:List J->Prop}(h:P [])(l:List J)(e:l.length=0):P l:=(List.length_eq_zero_iff.mp e).symm ▸ h
theorem LS {J:Type}{P:List J->Prop}{n:Nat}(h:∀ x,∀ l:List J,l.length=n->P (x::l))(l:List J)(e:l.length=n+1):P l:=by
 cases l with
 | nil=>exact nomatch e
 | cons x l=>exact h x l (Nat.succ.inj e)
theorem gN {a b:Nat}(h:¬ a < b):Nat.blt a b=false:=by rw[<-Bool.not_eq_true,Nat.blt_eq];exact h
theorem lO {a b:Nat}(h:¬ a=b):Nat.beq a b=false:=by rw[<-Bool.not_eq_true];exact fun e=>h (aT e)
theorem fU (a b:Nat):kQ .add (.int a) (.int b)=some (.int ((a+b:Nat):Int)):=rfl
theorem pT {a b:Nat}(h:a<=1000)(h2:b<=1000):kQ .mul (.int a) (.int b)=some (.int ((a * b:Nat):Int)):=if_pos ⟨show a<=1000000 by lia,show b<=1000000 by lia⟩
theorem lK (a b:Nat):kP .lt (.int a) (.int b)=some (Nat.blt a b):=by
 show some (decide ((a:Int) < b))=_
 by_cases q:a < b
 .rw[bA q,decide_eq_true (Int.ofNat_lt.mpr q)]
 .rw[gN q,decide_eq_false fun e=>q (Int.ofNat_lt.mp e)]
theorem aGU (a b:Nat):decide ((a:Int)=b)=Nat.beq a b:=by
 by_cases q:a=b
 .rw[q,Nat.beq_refl,decide_eq_true rfl]
 .rw[lO q,decide_eq_false fun e=>q (Int.ofNat_inj.mp e)]
theorem aLo (a b:Nat):kP .eq (.int a) (.int b)=some (Nat.beq a b):=congrArg some (aGU a b)
theorem aJY (a b:Nat):kP .ne (.int a) (.int b)=some (!(Nat.beq a b)):=congrArg (fun q=>some (!q)) (aGU a b)
section
variable {G:Nat->Option Int} {T:Nat->List PV->Option PyData} {W:Nat}
theorem aX {x:St}{xs:Sts}{E E1:AE}{r:Option (AE × Option PyData)}(h:ex G T W x E=some (E1,none))(h2:exs G T W xs E1=r):exs G T W (.cons x xs) E=r:=by
 (dsimp only[rN];rw[h]);exact h2
theorem nE {x:St}{xs:Sts}{E E1:AE}{v:PyData}(h:ex G T W x E=some (E1,some v)):exs G T W (.cons x xs) E=some (E1,some v):=by
 (dsimp only[rN];rw[h]);rfl
end
theorem aC7 {E:AE}{i:Nat}{x:PV}:(E.set i x) i=some x:=if_pos rfl
theorem aA2 {E:AE}{i j:Nat}{x:PV}(h:j≠i):(E.set i x) j=E j:=if_neg h
noncomputable def toks:List Nat->Nat->Bool->List (Nat × List Nat)
 | [],_,false=>[]
 | [],i,true=>[(i - 1,[92])]
 | c::r,i,true=>(i,[92,c])::toks r (i+1) false
 | c::r,i,false=>if c=92 then toks r (i+1) true else(i,[c])::toks r (i+1) false
noncomputable def opD:Option Nat->PyData
 | none=>.none
 | some o=>.int o
section
variable {G:Nat->Option Int} {T:Nat->List PV->Option PyData} {W:Nat}
theorem lH (i n:Nat):bnd (.int (i:Int)) 0 n=some (min i n)/\∀ d,bnd (.int (i:Int)) d n=some (min i n):=by
 have h:∀ d,bnd (.int (i:Int)) d n=some (min i n):=fun d=>by
  show some (aCH (i:Int) n)=_;unfold aCH;rw[if_pos (by lia)]
  rfl
 exact⟨h 0,h⟩
end
theorem jX:∀ ls:List (List Nat),eV [] ls=ls.flatten
 | []=>rfl
 | [x]=>(List.append_nil x).symm
 | x::y::r=>show eV [] (x::y::r)=x++(y::r).flatten by rw[aGw,jX (y::r),List.append_nil]
noncomputable def bB:List Nat->Bool->List Nat->Option (List Nat)->List Nat
 | [],_,out,none=>out
 | [],_,out,some q=>out++q
 | c::r,true,out,none=>bB r false (out++[c]) none
 | c::r,true,out,some q=>bB r false out (some (q++[c]))
 | c::r,false,out,none=>if c=92 then bB r true (out++[c]) none else if c=34 then bB r false out (some [c])else bB r false (out++[c]) none
 | c::r,false,out,some q=>if c=92 then bB r true out (some (q++[c]))else if c=34 then bB r false out none else bB r false out (some (q++[c]))
theorem kA {L:List Nat}{i a c:Nat}(h:L[i]?=some c)(ha:a<=i):(L.take (i+1)).drop a=(L.take i).drop a++[c]:=by
 have hi:i < L.length:=(List.getElem?_eq_some_iff.mp h).1;rw[List.take_succ_eq_append_getElem hi,(List.getElem?_eq_some_iff.mp h).2,List.drop_append_of_le_length (by rw[List.length_take,Nat.min_eq_left (Nat.le_of_lt hi)];exact ha)]
inductive QR (L:List Nat)(i:Nat):Nat->Option Nat->List (List Nat)->List Nat->Option (List Nat)->Prop where
 | out {st:Nat} {res:List (List Nat)} {u:List Nat}:st<=i->res.length<=i->u=res.flatten++(L.take i).drop st->QR L i st none res u none
 | ins {st o:Nat} {res:List (List Nat)} {u q:List Nat}:st<=o->o < i->res.length < i->u=res.flatten++(L.take o).drop st->q=(L.take i).drop o->QR L i st (some o) res u (some q)
noncomputable def oQ (c:Nat)(out:List Nat):Option (List Nat)->List Nat
 | none=>out++[c]
 | some _=>out
theorem QR.adv {L:List Nat}{i st c:Nat}{op:Option Nat}{res:List (List Nat)}{u:List Nat}{q:Option (List Nat)}(h:QR L i st op res u q)(hc:L[i]?=some c):QR L (i+1) st op res (oQ c u q) (q.map (·++[c])):=by
 cases h with
 | out a b e=>exact .out (Nat.le_succ_of_le a) (Nat.le_succ_of_le b) (by rw[oQ,e,kA hc a,aQ])
 | ins a b d e f=>exact .ins a (Nat.lt_succ_of_lt b) (Nat.lt_succ_of_lt d) e (by rw[f,kA hc (Nat.le_of_lt b)])
theorem QR.opn {L:List Nat}{i st:Nat}{res:List (List Nat)}{u:List Nat}(h:QR L i st none res u none)(hc:L[i]?=some 34):QR L (i+1) st (some i) res u (some [34]):=by
 cases h with
 | out a b e=>exact .ins a (Nat.lt_succ_self i) (Nat.lt_succ_of_le b) e (by rw[kA hc (Nat.le_refl i),List.drop_of_length_le (by rw[List.length_take];exact Nat.min_le_left _ _)];rfl)
noncomputable def clR (L:List Nat)(st o:Nat)(res:List (List Nat)):List (List Nat):=bif Nat.beq st o then res else res++[cut st o L]
theorem QR.cls {L:List Nat}{i st o:Nat}{res:List (List Nat)}{u q:List Nat}(h:QR L i st (some o) res u (some q)):QR L (i+1) (i+1) none (clR L st o res) u none:=by
 cases h with
 | ins a b d e f =>
  have z:(L.take (i+1)).drop (i+1)=[]:=List.drop_of_length_le (by rw[List.length_take];exact Nat.min_le_left _ _)
  unfold clR
  by_cases w:st=o
  .rw[w,Nat.beq_refl]
   exact .out (Nat.le_refl _) (Nat.le_of_lt (Nat.lt_succ_of_lt d)) (by rw[e,z,w,List.drop_of_length_le (by rw[List.length_take];exact Nat.min_le_left _ _)];rfl)
  .rw[lO w]
   exact .out (Nat.le_refl _) (by show(res++_).length<=_;rw[aG];exact Nat.succ_le_succ (Nat.le_of_lt d)) (by show u=(res++[cut st o L]).flatten++_;rw[e,z,List.flatten_append,List.append_nil,List.flatten_cons,List.flatten_nil,List.append_nil];rfl)
structure StE (E:AE)(L:List Nat)(st:Nat)(op:Option Nat)(res:List (List Nat)):Prop where
 a:aI E 16=some (S L)
 st:aI E 17=some (.int st)
 o:aI E 18=some (opD op)
 r:aI E 8=some (.list (res.map S))
section
variable {G:Nat->Option Int} {T:Nat->List PV->Option PyData} {W:Nat}
theorem aOC {L:List Nat}(hL:L.length<=lim){a b:Nat}(h:a<=b)(hb:b<=L.length):kO (S L) (.int a) (.int b) .none=some (S (cut a b L)):=by
 show(if L.length<=lim then(bnd (.int a) 0 L.length).bind fun x=>(bnd (.int b) L.length L.length).bind fun y=>some (S (cut x y L))else none)=_
 rw[if_pos hL,(lH a _).1,(lH b _).2,Nat.min_eq_left (aP h hb),Nat.min_eq_left hb];rfl
theorem xL {E:AE}{p:PyData}{u:List Nat}(hu:u≠[34]):exs G T W kC ((E.set 19 (.dat p)).set 20 (.dat (S u)))=some ((E.set 19 (.dat p)).set 20 (.dat (S u)),none) :=
 dE (lQ (dG (x:=S u) (y:=S [34]) rfl rfl (congrArg some (decide_eq_false hu))))
theorem aEP {E:AE}{L:List Nat}{i st:Nat}{res:List (List Nat)}(h:StE E L st none res):∃ E',exs G T W kC ((E.set 19 (.dat (.int i))).set 20 (.dat (S [34])))=some (E',none)/\StE E' L st (some i) res :=
 ⟨_,dE ((gO (q0:=true) (dG (x:=S [34]) (y:=S [34]) rfl rfl rfl)).trans (dE ((gO (q0:=true) (aNO (G:=G) (T:=T) (E:=(E.set 19 (.dat (.int i))).set 20 (.dat (S [34]))) (a:=.var 18) (c:=.none) h.o rfl rfl)).trans (dE (dL (e:=.var 19) rfl))))),h.a,h.st,rfl,h.r⟩
theorem aHm {E:AE}{L:List Nat}{i st o:Nat}{res:List (List Nat)}(hL:L.length<=lim)(h:StE E L st (some o) res)(h1:st<=o)(h2:o<=L.length)(hr:res.length<=lim):∃ E',exs G T W kC ((E.set 19 (.dat (.int i))).set 20 (.dat (S [34])))=some (E',none)/\StE E' L (i+1) none (clR L st o res):=by
 have hn:ev G T (.cmp1 .ne (.var 17) (.var 18)) ((E.set 19 (.dat (.int i))).set 20 (.dat (S [34])))=some (.bool (!(Nat.beq st o))):=dG (a:=.var 17) (b:=.var 18) h.st h.o (aJY st o)
 have go:∀ {E1 E2:AE},ex G T W (.iff (.cmp1 .ne (.var 17) (.var 18)) (.cons (.app 8 (.slc (.var 16) (.var 17) (.var 18) .none)) .nil) .nil) ((E.set 19 (.dat (.int i))).set 20 (.dat (S [34])))=some (E1,none)->aI E1 19=some (.int i)->exs G T W kC ((E.set 19 (.dat (.int i))).set 20 (.dat (S [34])))=some ((E1.set 17 (.dat (.int ((i+1:Nat):Int)))).set 18 (.dat .none),none):=fun e k =>
  dE ((gO (q0:=true) (dG (x:=S [34]) (y:=S [34]) rfl rfl rfl)).trans (dE ((gO (q0:=false) (aNO (G:=G) (T:=T) (E:=(E.set 19 (.dat (.int i))).set 20 (.dat (S [34]))) (a:=.var 18) (c:=.none) h.o rfl rfl)).trans (aX e (aX (dL (dM (G:=G) (T:=T) (a:=.var 19) (b:=.int 1) k rfl (fU i 1))) (dE (dL rfl)))))))
 unfold clR
 cases q:Nat.beq st o with
 | true =>
  rw[q]at hn;exact⟨_,go (E2:=E) (lQ hn) rfl,h.a,rfl,rfl,h.r⟩
 | false =>
  rw[q]at hn;have mp:res.map S++[S (cut st o L)]=(res++[cut st o L]).map S:=by rw[List.map_append];rfl
  exact⟨_,go (E2:=E) ((gO hn).trans (dE (aIX (xs:=res.map S) h.r (oC (a:=.var 16) (i:=.var 17) (j:=.var 18) h.a h.st h.o (aOC hL h1 h2)) (by rw[aK];exact hr)))) rfl,h.a,rfl,rfl,mp ▸ rfl⟩
noncomputable def aEE (G:Nat->Option Int)(T:Nat->List PV->Option PyData)(W:Nat)(L:List Nat)(l:List PyData)(E:AE)(z:List Nat):Prop :=
 ∃ E' st op res u q,forLoop (fun E'=>exs G T W kC E') (fun d E'=>dF (.tup [19,20]) d E') l E=some (E',none)/\StE E' L st op res/\QR L L.length st op res u q/\z=bB [] false u q
theorem aEE.cons {L:List Nat}{l:List PyData}{E E2:AE}{z:List Nat}{i:Nat}{v:List Nat}(h:exs G T W kC ((E.set 19 (.dat (.int i))).set 20 (.dat (S v)))=some (E2,none))(k:aEE G T W L l E2 z):aEE G T W L (.tuple [.int i,S v]::l) E z:=by
 (refine e6a2 k ?_;rintro E' st op res u q g1 g2);exact⟨E',st,op,res,u,q,oM rfl h g1,g2⟩
theorem aKJ {b:Bool}{c:Nat}{r u:List Nat}{q:Option (List Nat)}(h:b=true\/c≠92/\c≠34):bB (c::r) b u q=bB r false (oQ c u q) (q.map (·++[c])):=by
 cases b with
 | true=>cases q <;> rfl
 | false =>
  have h:=h.resolve_left aN;cases q <;> exact(if_neg h.1).trans (if_neg h.2)
theorem aPF {r u:List Nat}{q:Option (List Nat)}:bB (92::r) false u q=bB r true (oQ 92 u q) (q.map (·++[92])):=by cases q <;> rfl
theorem mI {L:List Nat}(hL:L.length<=100000):∀ (r:List Nat) (i:Nat) (b:Bool) (st:Nat) (op:Option Nat) (res:List (List Nat)) (u:List Nat) (q:Option (List Nat)) (E:AE),L.drop i=r->QR L i st op res u q->StE E L st op res->i<=L.length->aEE G T W L (bT r i b) E (bB r b u q)
 | []=>fun i b st op res u q E hr hq hE hi=>by
  have e:i=L.length:=Nat.le_antisymm hi (List.drop_eq_nil_iff.mp hr);subst e;have s:bB [] b u q=bB [] false u q:=by cases q <;> rfl
  rw[s]
  cases b with
  | false=>exact⟨E,st,op,res,u,q,rfl,hE,hq,rfl⟩
  | true=>exact⟨_,st,op,res,u,q,oM rfl (xL (by decide)) rfl,⟨hE.a,hE.st,hE.o,hE.r⟩,hq,rfl⟩
 | c::r=>fun i b st op res u q E hr hq hE hi=>by
  have hc:L[i]?=some c:=by rw[<-List.head?_drop,hr];rfl
  have hi':i < L.length:=(List.getElem?_eq_some_iff.mp hc).1;have hr1:L.drop (i+1)=r:=by rw[<-List.tail_drop,hr];rfl
  have ha:=fun b E hE=>mI hL r (i+1) b st op res (oQ c u q) (q.map (·++[c])) E hr1 (hq.adv hc) hE hi'
  cases b with
  | true =>
   rw[aKJ (.inl rfl)];exact aEE.cons (xL (fun z=>nomatch z)) (ha false _ ⟨hE.a,hE.st,hE.o,hE.r⟩)
  | false =>
   by_cases h92:c=92
   .subst h92
    rw[aPF];exact ha true E hE
   .rw[show bT (c::r) i false=.tuple [.int i,S [c]]::bT r (i+1) false from if_neg h92]
    by_cases h34:c=34
    .subst h34
     cases hq with
     | out a b e =>
      (refine e1a2 (aEP (G:=G) (T:=T) (W:=W) (i:=i) hE) ?_;rintro E1 k1 k2);exact aEE.cons k1 (mI hL r (i+1) false st (some i) res u (some [34]) E1 hr1 (QR.opn (.out a b e) hc) k2 hi')
     | ins a b d e f =>
      (refine e1a2 (aHm (G:=G) (T:=T) (W:=W) (i:=i) (aP hL (by decide)) hE a (Nat.le_of_lt (Nat.lt_trans b hi')) (aP (Nat.le_of_lt (Nat.lt_trans d hi')) (aP hL (by decide)))) ?_;rintro E1 k1 k2)
      exact aEE.cons k1 (mI hL r (i+1) false (i+1) none (clR L st _ res) u none E1 hr1 (QR.cls (.ins a b d e f)) k2 hi')
    .rw[aKJ (.inr ⟨h92,h34⟩)]
     exact aEE.cons (xL fun z=>h34 (List.head_eq_of_cons_eq z)) (ha false _ ⟨hE.a,hE.st,hE.o,hE.r⟩)
end
theorem dU:∀ (r:List Nat)(b:Bool)(out:List Nat)(q:Option (List Nat)),(bB r b out q).length<=out.length+(match q with | none=>0 | some q=>q.length)+r.length
 | [],b,out,none=>Nat.le_refl _
 | [],b,out,some q=>Nat.le_of_eq (aG)
 | c::r,true,out,none=>by
  have:=dU r false (out++[c]) none;show(bB r false (out++[c]) none).length<=_;simp only[aG,aR,List.length_nil]at *;lia
 | c::r,true,out,some q=>by
  have:=dU r false out (some (q++[c]));show(bB r false out (some (q++[c]))).length<=_;simp only[aG,aR,List.length_nil]at *;lia
 | c::r,false,out,none=>by
  have h1:=dU r true (out++[c]) none;have h2:=dU r false (out++[c]) none;have h3:=dU r false out (some [c]);show(if c=92 then bB r true (out++[c]) none else if c=34 then bB r false out (some [c])else bB r false (out++[c]) none).length<=_
  split
  .simp only[aG,aR,List.length_nil]at *;lia
  .split
   .simp only[aG,aR,List.length_nil]at *;lia
   .simp only[aG,aR,List.length_nil]at *;lia
 | c::r,false,out,some q=>by
  have h1:=dU r true out (some (q++[c]));have h2:=dU r false out (some (q++[c]));have h3:=dU r false out none;show(if c=92 then bB r true out (some (q++[c]))else if c=34 then bB r false out none else bB r false out (some (q++[c]))).length<=_
  split
  .simp only[aG,aR,List.length_nil]at *;lia
  .split
   .simp only[aG,aR,List.length_nil]at *;lia
   .simp only[aG,aR,List.length_nil]at *;lia
theorem mJ:∀ (r:List Nat)(b:Bool)(out:List Nat),34 ∉ r->bB r b out none=out++r
 | [],b,out,_=>(List.append_nil out).symm
 | c::r,true,out,h=>by
  show bB r false (out++[c]) none=_;rw[mJ r false _ (fun m=>h (aE _ m))];simp
 | c::r,false,out,h=>by
  have hc:¬ c=34:=fun e=>h (e ▸ aF);show(if c=92 then bB r true (out++[c]) none else if c=34 then bB r false out (some [c])else bB r false (out++[c]) none)=_
  rw[mJ r true _ (fun m=>h (aE _ m)),mJ r false _ (fun m=>h (aE _ m)),if_neg hc];simp
noncomputable def jH (L:List Nat):List Nat:=bB L false [] none
theorem aB0:∀ ls:List (List Nat),aC5 (ls.map S)=some ls
 | []=>rfl
 | x::r=>by rw[aY,aJi,aB0 r];rfl
section
variable {G:Nat->Option Int} {T:Nat->List PV->Option PyData} {W:Nat}
theorem aGO {E:AE}{i:Nat}{L:List Nat}(h:aI E i=some (S L))(ha:mF L=true)(hl:L.length<=100000):evIt G T (.gen (.var i)) E=some (bT L 0 false):=by
 rw[aFz,bD,h];exact if_pos ⟨ha,hl⟩
theorem QR.fin {L:List Nat}{st:Nat}{op:Option Nat}{res:List (List Nat)}{u:List Nat}{q:Option (List Nat)}(h:QR L L.length st op res u q):bB [] false u q=res.flatten++L.drop st/\res.length<=L.length:=by
 cases h with
 | out a b e=>exact⟨by show u=_;rw[e,List.take_length],b⟩
 | @ins o2 s2 r2 q2 a b d e f =>
  refine⟨?_,Nat.le_of_lt d⟩;show _++q2=_;rw[e,f,List.take_length,aQ]
  congr 1
  have z:L.drop st=(L.take o2++L.drop o2).drop st:=by rw[List.take_append_drop]
  rw[z,List.drop_append_of_le_length (by rw[List.length_take,Nat.min_eq_left (Nat.le_of_lt b)];exact a)]
theorem aHl {L:List Nat}(ha:mF L=true)(hl:L.length<=100000):cV G T W sD kB [.dat (S L)]=some (S (jH L)):=by
 show((exs G T W kB (AE.set (fun u_=>none) 16 (.dat (S L)))).bind fun p=>p.2)=_;generalize hE:AE.set (fun u_=>none) 16 (.dat (S L))=E;have e16:aI E 16=some (S L):=by rw[<-hE];rfl
 have hc:ev G T (.cmp1 .notin (.str [34]) (.var 16)) E=some (.bool (!(L.contains 34))):=dG rfl e16 rfl
 cases q:L.contains 34 with
 | false =>
  rw[q]at hc;have hid:jH L=L:=mJ L false [] fun m=>by rw[List.contains_iff_mem.mpr m]at q;exact nbf q
  rw[hid,show exs G T W kB E=some (E,some (S L))from nE ((gO hc).trans (dE (nR e16)))];rfl
 | true =>
  rw[q]at hc;(refine e6a4 (mI (G:=G) (T:=T) (W:=W) hl L 0 false 0 none [] [] none (((E.set 17 (.dat (.int 0))).set 18 (.dat .none)).set 8 (.dat (.list []))) rfl (.out (Nat.le_refl 0) (Nat.le_refl 0) rfl) ⟨e16,rfl,rfl,rfl⟩ (Nat.zero_le _)) ?_;rintro E' st op res u q' g1 g2 g3 g4);have f:=g3.fin;have g4:jH L=_:=g4.trans f.1
  have hS:(jH L).length<=1000000:=by
   have:=dU L false [] none;simp only[List.length_nil,Nat.zero_add]at this;exact aP this (aP hl (by decide))
  have jn:∀ {ls:List (List Nat)},ls.flatten=jH L->ls.length<=1000000->wF .join (S []) (.list (ls.map S))=some (S (jH L)):=fun {ls} h1 h2=>by
   rw[eO,aB0,<-h1,<-jX];exact if_pos ⟨show(eV [] ls).length<=1000000 by rw[jX,h1];exact hS,by rw[aK];exact h2,Nat.zero_le _⟩
  have hlen:ev G T (.cmp1 .lt (.var 17) (.p1 .len (.var 16))) E'=some (.bool (Nat.blt st L.length)):=dG (a:=.var 17) g2.st (uB g2.a (if_pos (show L.length<=1000000 by lia))) (lK st L.length)
  have pre:∀ {r},exs G T W (.cons (.iff (.cmp1 .lt (.var 17) (.p1 .len (.var 16))) (.cons (.app 8 (.slc (.var 16) (.var 17) .none .none)) .nil) .nil) (.cons (.frz 8) (.cons (.ret (.p2 .join (.str []) (.var 8))) .nil))) E'=r->exs G T W kB E=r:=fun e=>aX (lQ hc) (aX (dL rfl) (aX (dL rfl) (aX (xD (xs:=[]) rfl) (aX (qN (aGO (i:=16) e16 ha hl) g1) e))))
  cases w:Nat.blt st L.length with
  | true =>
   rw[w]at hlen
   have sd:kO (S L) (.int st) .none .none=some (S (L.drop st)):=by
    show(if L.length<=lim then(bnd (.int st) 0 L.length).bind fun x=>some (S (cut x L.length L))else none)=_
    rw[if_pos (show L.length<=lim from aP hl (by decide)),(lH st _).1,Nat.min_eq_left (Nat.le_of_lt (dD w))]
    show some (S ((L.take L.length).drop st))=_;rw[List.take_length]
   have mp:res.map S++[S (L.drop st)]=(res++[L.drop st]).map S:=by rw[List.map_append];rfl
   rw[pre (aX ((gO hlen).trans (dE (aIX g2.r (oC (a:=.var 16) (i:=.var 17) g2.a g2.st rfl sd) (by rw[aK];show res.length<=1000000;lia)))) (aX (E1:=E'.set 8 (.dat (.list (res.map S++[S (L.drop st)])))) rfl (nE (nR (aHx rfl rfl (mp ▸ jn (by rw[List.flatten_append,g4,List.flatten_cons,List.flatten_nil,List.append_nil]) (by rw[aG];show res.length+1<=1000000;lia)))))))]
   rfl
  | false =>
   rw[w]at hlen;have w':¬ st < L.length:=fun k=>by rw[bA k]at w;exact nbf w
   rw[pre (aX (lQ hlen) (aX (E1:=E') rfl (nE (nR (aHx rfl g2.r (jn (by rw[g4,List.drop_of_length_le (Nat.le_of_not_lt w'),List.append_nil]) (by lia)))))))]
   rfl
end
noncomputable def eF:List Nat->Bool->Nat->Bool
 | [],_,n=>n == 0
 | c::r,true,n=>eF r false n
 | c::r,false,n=>if c=92 then eF r true n else if c=40 then eF r false (n+1)else if c=41 then(if n=0 then false else eF r false (n - 1))else eF r false n
section
variable {G:Nat->Option Int} {T:Nat->List PV->Option PyData} {W:Nat}
theorem aFJ {E:AE}{u:List Nat}(h:aI E 20=some (S u))(h1:u≠[40])(h2:u≠[41]):exs G T W mE E=some (E,none) :=
 dE ((gO (q0:=false) (dG (op:=.eq) (a:=.var 20) (b:=.str [40]) h rfl (congrArg some (decide_eq_false h1)))).trans (dE (lQ (dG (op:=.eq) (a:=.var 20) (b:=.str [41]) h rfl (congrArg some (decide_eq_false h2))))))
theorem aLI {E:AE}{n:Nat}(h:aI E 20=some (S [40]))(h1:aI E 21=some (.int n)):exs G T W mE E=some (E.set 21 (.dat (.int ((n+1:Nat):Int))),none) :=
 dE ((gO (q0:=true) (dG (op:=.eq) (a:=.var 20) (b:=.str [40]) h rfl rfl)).trans (dE (aF2 (e:=.int 1) h1 rfl (fU n 1))))
theorem aLH {E:AE}{n:Nat}(h:aI E 20=some (S [41]))(h1:aI E 21=some (.int n)):exs G T W mE E=some (E.set 21 (.dat (.int ((n:Int) - 1))),if n=0 then some (.bool false)else none):=by
 refine dE ((gO (q0:=false) (dG (op:=.eq) (a:=.var 20) (b:=.str [40]) h rfl rfl)).trans (dE ((gO (q0:=true) (dG (op:=.eq) (a:=.var 20) (b:=.str [41]) h rfl rfl)).trans (aX (aF2 (e:=.int 1) h1 rfl rfl) ?_))));have hl:ev G T (.cmp1 .lt (.var 21) (.int 0)) (E.set 21 (.dat (.int ((n:Int) - 1))))=some (.bool (decide ((n:Int) - 1 < 0))):=dG (a:=.var 21) (b:=.int 0) rfl rfl rfl
 cases n with
 | zero=>exact dE ((gO hl).trans (dE (nR rfl)))
 | succ n =>
  rw[decide_eq_false (show ¬ (((n+1:Nat):Int) - 1 < 0)by lia)]at hl
  exact dE (lQ hl)
noncomputable def aEI (G:Nat->Option Int)(T:Nat->List PV->Option PyData)(W:Nat)(l:List PyData)(E:AE)(z:Bool):Prop :=
 ∃ E' ro,forLoop (fun E'=>exs G T W mE E') (fun d E'=>dF (.tup [19,20]) d E') l E=some (E',ro)/\((ro=some (.bool false)/\z=false)\/(ro=none/\∃ m:Nat,aI E' 21=some (.int m)/\z=(m == 0)))
theorem aEI.cons {l:List PyData}{E E2:AE}{z:Bool}{i:Nat}{v:List Nat}(h:exs G T W mE ((E.set 19 (.dat (.int i))).set 20 (.dat (S v)))=some (E2,none))(k:aEI G T W l E2 z):aEI G T W (.tuple [.int i,S v]::l) E z:=by
 (refine e2a2 k ?_;rintro E' ro g1 g2);exact⟨E',ro,oM rfl h g1,g2⟩
theorem iR:∀ (r:List Nat)(i:Nat)(b:Bool)(n:Nat)(E:AE),aI E 21=some (.int n)->aEI G T W (bT r i b) E (eF r b n)
 | [],i,false,n,E,h=>⟨E,none,rfl,.inr ⟨rfl,n,h,rfl⟩⟩
 | [],i,true,n,E,h=>⟨_,none,oM rfl (aFJ (u:=[92]) rfl (by decide) (by decide)) rfl,.inr ⟨rfl,n,h,rfl⟩⟩
 | c::r,i,true,n,E,h=>aEI.cons (aFJ (u:=[92,c]) rfl (fun z=>nomatch z) (fun z=>nomatch z)) (iR r (i+1) false n _ h)
 | c::r,i,false,n,E,h=>by
  rw[show eF (c::r) false n=if c=92 then eF r true n else if c=40 then eF r false (n+1)else if c=41 then(if n=0 then false else eF r false (n - 1))else eF r false n from rfl]
  by_cases h92:c=92
  .rw[show bT (c::r) i false=bT r (i+1) true from if_pos h92,if_pos h92]
   exact iR r (i+1) true n E h
  .rw[show bT (c::r) i false=.tuple [.int i,S [c]]::bT r (i+1) false from if_neg h92,if_neg h92]
   by_cases h40:c=40
   .subst h40
    rw[if_pos rfl];exact aEI.cons (aLI rfl h) (iR r (i+1) false (n+1) _ rfl)
   .rw[if_neg h40]
    by_cases h41:c=41
    .subst h41
     rw[if_pos rfl];have st:=aLH (G:=G) (T:=T) (W:=W) (E:=(E.set 19 (.dat (.int i))).set 20 (.dat (S [41]))) rfl h
     cases n with
     | zero=>exact⟨_,_,aNU rfl st,.inl ⟨rfl,rfl⟩⟩
     | succ n=>exact aEI.cons st (iR r (i+1) false n _ (congrArg (fun z=>some (PyData.int z)) (show((n+1:Nat):Int) - 1=n by lia)))
    .rw[if_neg h41]
     exact aEI.cons (aFJ (u:=[c]) rfl (fun z=>h40 (List.head_eq_of_cons_eq z)) (fun z=>h41 (List.head_eq_of_cons_eq z))) (iR r (i+1) false n _ h)
theorem aII {L M:List Nat}(hT:T 2 [.dat (S L)]=some (S M))(ha:mF M=true)(hl:M.length<=100000):cV G T W tN mD [.dat (S L)]=some (.bool (eF M false 0)):=by
 show((exs G T W mD (AE.set (fun u_=>none) 16 (.dat (S L)))).bind fun p=>p.2)=_;(refine e2a2 (iR (G:=G) (T:=T) (W:=W) M 0 false 0 (((AE.set (fun u_=>none) 16 (.dat (S L))).set 16 (.dat (S M))).set 21 (.dat (.int 0))) rfl) ?_;rintro E' ro g1 g2)
 have pre:∀ {r},(match ro with | none=>exs G T W (.cons (.ret (.cmp1 .eq (.var 21) (.int 0))) .nil) E'=r | some v=>some (E',some v)=r)->exs G T W mD (AE.set (fun u_=>none) 16 (.dat (S L)))=r:=fun e=>aX (dL (pR (x:=S L) rfl hT)) (aX (dL rfl) (by
  have fx:=qN (aGO (i:=16) (E:=((AE.set (fun u_=>none) 16 (.dat (S L))).set 16 (.dat (S M))).set 21 (.dat (.int 0))) rfl ha hl) g1
  cases ro with
  | none=>exact aX fx e
  | some v=>exact(nE fx).trans e))
 refine g2.elim (fun g=>?_) (fun g=>?_)
 .rw[pre (by rw[g.1]),g.2]
  rfl
 ·(refine e1a2 g.2 ?_;rintro m m1 m2)
  rw[pre (r:=some (E',some (.bool (m == 0)))) (by
   rw[g.1];exact nE (nR (dG m1 rfl ((aLo m 0).trans (by cases m <;> rfl))))),m2]
  rfl
end
noncomputable def zE:Nat->Str
 | 0=>"_levenshtein_distance"
 | 1=>"_substitution_cost"
 | 2=>"_strip_quoted_realnames"
 | 3=>"_check_parenthesis"
 | 4=>"_law_word"
 | 5=>"_law_piece"
 | 6=>"_law_cost"
 | 7=>"_law_worst"
 | 8=>"_law_lightest"
 | _=>"law"
noncomputable def rk1:Nat->Nat
 | 0=>1
 | 1=>0
 | 2=>3
 | 3=>4
 | 4=>0
 | 5=>0
 | 6=>0
 | 7=>0
 | 8=>0
 | _=>9
section
variable {prog:Program} {w:World} {mg mb:Str->Option Value} {h0:Heap}
noncomputable def c1 (rk:Nat->Nat)(prog:Program)(w:World)(mg mb:Str->Option Value)(h0:Heap):cG:={ prog,w,mg,mb,G:=aU,T:=fun u_ u_=>none,fnm:=zE,rk,HC:=182,h0,genAt:=fun u_ u_ u_=>False }
structure FnK (K:Frag)(rk:Nat->Nat)(n f:Nat)(ps:List Nat)(body:Sts)(a:Addr):Prop where
 ns:nsIn K mainGlobals (zE f)=some (some (.ref a))
 chk:iE K false a ps (fun sc b=>chkSs zE rk n sc body b)=true
 bind:∀ fd,gI K a=some fd->∀ vals:List Value,vals.length=ps.length->fI fd ps vals
theorem aRq {K:Frag}{rk:Nat->Nat}{n f:Nat}{ps:List Nat}{body:Sts}{a:Addr}(h:FnK K rk n f ps body a)(X:K.In h0)(g:h0.Ns mainGlobals mg):aF1 (c1 rk prog w mg mb h0) n f ps body:=aM7 X (fJ X g h.ns) h.chk h.bind
structure aSC (K:Frag):Prop where
 f0:FnK K rk1 1 0 uI lL 221
 f1:FnK K rk1 0 1 aC3 aC4 214
 f2:FnK K rk1 3 2 sD kB 200
 f3:FnK K rk1 4 3 tN mD 207
 f4:FnK K rk1 0 4 mS iO 226
 f5:FnK K rk1 0 5 kY gV 233
 f6:FnK K rk1 0 6 kI gH 238
 f7:FnK K rk1 0 7 kX gU 243
 f8:FnK K rk1 0 8 hW fK 248
 f9:FnK K rk1 9 9 mT gG 253
end
theorem aNr {c:cG}{K:Frag}(XK:K.In c.h0){f p1 p2:Addr}(h:iE K false f [113,114,61] (fun sc b=>tM c.fnm c.rk sc b)=true)(hb:∀ a b v:Value,(gI K f).map (fun fd=>bindArgs fd ⟨[a,b],[(nm 61,v)]⟩)=some (pure (([113,114,61].map nm).zip [a,b,v])))
  (m1:c.mg "_name_disallowed_re"=some (.ref p1)) (q1:aBT K p1 pJ=true) (m2:c.mg "_value_disallowed_re"=some (.ref p2)) (q2:aBT K p2 pI=true):aBU c f:=by
 (refine e2a3 (vO XK h) ?_;rintro fd b e F0 hl);exact⟨⟨fd,b,F0,fun a b v=>by have:=hb a b v;rw[e]at this;exact aA this,hl⟩,⟨p1,m1,aJB XK (.inl rfl) q1⟩,⟨p2,m2,aJB XK (.inr rfl) q2⟩⟩
theorem aPG {c:cG}{K:Frag}(XK:K.In c.h0){f:Addr}(h:iE K false f [113,61] (fun sc b=>qA c.fnm c.rk sc b)=true)(hb:∀ a b:Value,(gI K f).map (fun fd=>bindArgs fd ⟨[a,b],[]⟩)=some (pure (([113,61].map nm).zip [a,b]))):aQv c f:=by
 (refine e2a3 (vO XK h) ?_;rintro fd b e F0 hl);exact⟨⟨fd,b,F0,fun a b=>by have:=hb a b;rw[e]at this;exact aA this,hl⟩⟩
theorem aP7 {c:cG}{K:Frag}(XK:K.In c.h0){f:Addr}(h:iE K false f [113,61] (fun sc b=>aAp c.fnm c.rk sc b)=true)(hb:∀ a b:Value,(gI K f).map (fun fd=>bindArgs fd ⟨[a,b],[]⟩)=some (pure (([113,61].map nm).zip [a,b]))):aQx c f:=by
 (refine e2a3 (vO XK h) ?_;rintro fd b e F0 hl);exact⟨⟨fd,b,F0,fun a b=>by have:=hb a b;rw[e]at this;exact aA this,hl⟩⟩
theorem aOE {c:cG}{K:Frag}(XK:K.In c.h0){f:Addr}(h:iE K false f [113,61,123] (fun sc b=>aAl c.fnm c.rk sc b)=true)(hb:∀ a b v:Value,(gI K f).map (fun fd=>bindArgs fd ⟨[a,b,v],[]⟩)=some (pure (([113,61,123].map nm).zip [a,b,v]))):aQp c f:=by
 (refine e2a3 (vO XK h) ?_;rintro fd b e F0 hl);exact⟨⟨fd,b,F0,fun a b v=>by have:=hb a b v;rw[e]at this;exact aA this,hl⟩⟩
theorem aQl {c:cG}{K:Frag}(XK:K.In c.h0){f:Addr}(h:iE K false f [113,119,120,121] (fun sc b=>aAq c.fnm c.rk sc b)=true)
  (hb:∀ a n v:Value,(gI K f).map (fun fd=>bindArgs fd ⟨[a,n,v],[]⟩)=some (alloc { cls:=.type "dict",data:=.dict #[] } >>= fun d=>pure (([113,119,120,121].map nm).zip [a,n,v,.ref d]))):aL0 c f:=by
 (refine e2a3 (vO XK h) ?_;rintro fd b e F0 hl);exact⟨⟨fd,b,F0,fun a n v=>by have:=hb a n v;rw[e]at this;exact aA this,hl⟩⟩
noncomputable def kOf (fd:FuncData)(a:Value):{ k:Option (Array Value)->Sem (List (Str × Value)) // bindArgs fd ⟨[a],[]⟩=(seqItems? fd.defaults >>= k) }:=⟨_,rfl⟩
theorem aM3 {c:cG}{K:Frag}(XK:K.In c.h0){f T:Addr}{its:Array Value}{n:Nat}(h:iE K false f [113,122] (fun sc b=>tL c.fnm c.rk sc b)=true)(hd:(gI K f).map (·.defaults)=some (.ref T))
  (hT:(K.lookup T).map (·.data)=some (.seq its n)) (hk:∀ a:Value,(gI K f).map (fun fd=>(kOf fd a).1 (some its))=some (pure (([113,122].map nm).zip [a,.none]))):aLX c f:=by
 (refine e2a3 (vO XK h) ?_;rintro fd b e F0 hl);rw[e]at hd;(refine e1a2 (Option.map_eq_some_iff.mp hT) ?_;rintro o ho hd2);exact⟨⟨fd,b,F0,⟨T,o,its,n,aA hd,XK _ _ ho,hd2,fun a=>⟨(kOf fd a).1,(kOf fd a).2,by have:=hk a;rw[e]at this;exact aA this⟩⟩,hl⟩⟩
theorem aM4 {c:cG}{K:Frag}(h:∀ (cl:Value)(di:Option Addr)(sl:Array (Option Value)) hs t la n,findObj K c.HC (some ⟨cl,di,.dict #[⟨hs,.str "_headers" t,.ref la⟩] n,sl⟩) "_headers"=some (.value (.ref la))) :
  ∀ (od:Obj) hs t la n,od.data=.dict #[⟨hs,.str "_headers" t,.ref la⟩] n->findObj K c.HC (some od) "_headers"=some (.value (.ref la)):=by
 rintro hz_;(refine cA fun G_ hG_=>?_;rcases hz_ with ⟨cl,di,da,sl⟩;all_goals (refine hG_ ?_;clear hG_ G_))
 rintro hs t la n hd;have hd:da=_:=hd;subst hd;exact h cl di sl hs t la n
theorem aN2 {K:Frag}{h0:Heap}{mg mb:Str->Option Value}(XK:K.In h0)(g:h0.Ns mainGlobals mg)(hb:∀ x:Str,x≠"__name__"->mb x=bootBuiltins x){x:String}{v:Value}(h1:nsIn K mainGlobals (Str.ofString x)=some none)(h2:bootBuiltins (Str.ofString x)=some v)(h3:Str.ofString x≠"__name__") :
  mg (Str.ofString x)=none/\mb (Str.ofString x)=some v:=⟨ns_none_of XK g h1,(hb _ h3).trans h2⟩
noncomputable def aRj (x:Option (Option Value)):Bool:=match x with
 | some none=>true
 | _=>false
theorem aGx {x:Option (Option Value)}(h:aRj x=true):x=some none:=by
 cases x with
 | none=>exact eR h
 | some y=>cases y with
  | none=>rfl
  | some _=>exact eR h
structure aEH (K:Frag)(name:Str)(f:Addr):Prop where
 find:findIn K (.ref 182) name=some (some (.ref f))
 typ:typeIn K (.ref f)=some (.type "function")
 keep:keepIn K (.ref f)=true
theorem aEH.at {K:Frag}{name:Str}{f:Addr}{c:cG}(h:aEH K name f)(hc:c.HC=182)(ne:(Str.ofString "_headers" == name)=false):lJ c K name f:=⟨hc ▸ h.find,h.typ,h.keep,ne⟩
structure aQt (K:Frag):Prop where
 fns:aSC K
 g0:nsIn K mainGlobals (gnm 0)=some (some (.int 40 588))
 g1:nsIn K mainGlobals (gnm 1)=some (some (.int 2 590))
 g2:nsIn K mainGlobals (gnm 2)=some (some (.int 1 592))
 nn:(["len","sum","min","max","sorted","range","list","enumerate","type","int","str"].all fun x=>aRj (nsIn K mainGlobals (Str.ofString x)))=true
 gns:nsIn K mainGlobals "_iter_escaped_chars"=some (some (.ref 193))
 gchk:∀ (rk:Nat->Nat) (prog:Program) (w:World) (mg mb:Str->Option Value) (h0:Heap),aKN (c1 rk prog w mg mb h0) K 193=true
 gb:∀ v:Value,(gI K 193).map (fun fd=>bindArgs fd ⟨[v],[]⟩)=some (pure [(nm 16,v)])
 ga:findIn K (.ref 182) "__getattribute__"=some (some (.builtin "object.__getattribute__"))
 gt:findIn K (.ref 182) "__getattr__"=some none
 own:∀ (cl:Value) (di:Option Addr) (sl:Array (Option Value)) hs t la n,findObj K 182 (some ⟨cl,di,.dict #[⟨hs,.str "_headers" t,.ref la⟩] n,sl⟩) "_headers"=some (.value (.ref la))
 mconv:aEH K "_convert_string_type" 83
 mget:aEH K "get_all" 121
 mvals:aEH K "values" 139
 madd:aEH K "add_header" 179
 mdel:aEH K "__delitem__" 102
 mset:aEH K "__setitem__" 97
 nos:noSeq K 182=true
 del:∀ rk:Nat->Nat,iE K false 102 [113,61] (fun sc b=>aAp zE rk sc b)=true
 delb:∀ a b:Value,(gI K 102).map (fun fd=>bindArgs fd ⟨[a,b],[]⟩)=some (pure (([113,61].map nm).zip [a,b]))
 set:∀ rk:Nat->Nat,iE K false 97 [113,61,123] (fun sc b=>aAl zE rk sc b)=true
 setb:∀ a b v:Value,(gI K 97).map (fun fd=>bindArgs fd ⟨[a,b,v],[]⟩)=some (pure (([113,61,123].map nm).zip [a,b,v]))
 conv:∀ rk:Nat->Nat,iE K false 83 [113,114,61] (fun sc b=>tM zE rk sc b)=true
 convb:∀ a b v:Value,(gI K 83).map (fun fd=>bindArgs fd ⟨[a,b],[(nm 61,v)]⟩)=some (pure (([113,114,61].map nm).zip [a,b,v]))
 p1:nsIn K mainGlobals "_name_disallowed_re"=some (some (.ref 48))
 q1:aBT K 48 pJ=true
 p2:nsIn K mainGlobals "_value_disallowed_re"=some (some (.ref 53))
 q2:aBT K 53 pI=true
 get:∀ rk:Nat->Nat,iE K false 121 [113,61] (fun sc b=>qA zE rk sc b)=true
 getb:∀ a b:Value,(gI K 121).map (fun fd=>bindArgs fd ⟨[a,b],[]⟩)=some (pure (([113,61].map nm).zip [a,b]))
 vals:∀ rk:Nat->Nat,iE K false 139 [113] (fun sc b=>bC b fun st r=>bV r (kR st fun o u_=>mB o fun e=>aS zE rk 0 sc aCX e))=true
 valsb:∀ v:Value,(gI K 139).map (fun fd=>bindArgs fd ⟨[v],[]⟩)=some (pure (([113].map nm).zip [v]))
 add:∀ rk:Nat->Nat,iE K false 179 [113,119,120,121] (fun sc b=>aAq zE rk sc b)=true
 addb:∀ a n v:Value,(gI K 179).map (fun fd=>bindArgs fd ⟨[a,n,v],[]⟩)=some (alloc { cls:=.type "dict",data:=.dict #[] } >>= fun d=>pure (([113,119,120,121].map nm).zip [a,n,v,.ref d]))
 makes:makesIn K 182=true
 minit:findIn K (.ref 182) "__init__"=some (some (.ref 76))
 tinit:typeIn K (.ref 76)=some (.type "function")
 init:∀ rk:Nat->Nat,iE K false 76 [113,122] (fun sc b=>tL zE rk sc b)=true
 initd:(gI K 76).map (·.defaults)=some (.ref 69)
 initT:(K.lookup 69).map (·.data)=some (.seq #[.none] 0)
 initk:∀ a:Value,(gI K 76).map (fun fd=>(kOf fd a).1 (some #[.none]))=some (pure (([113,122].map nm).zip [a,.none]))
 over:plainOver K 182=true
 taker:takerIn K 182 "_headers"=some none
 hasd:(clsIn K 182).any (·.hasDict)=true
 seta:findIn K (.ref 182) "__setattr__"=some (some (.builtin "object.__setattr__"))
 name:nsIn K mainGlobals "Headers"=some (some (.ref 182))
 keep:keepIn K (.ref 182)=true
section
variable {K:Frag} {rk:Nat->Nat} {prog:Program} {w:World} {mg mb:Str->Option Value} {h0:Heap} (H:aQt K) (X:K.In h0) (g:h0.Ns mainGlobals mg) (hb:∀ x:Str,x≠"__name__"->mb x=bootBuiltins x)
include H X g hb
theorem aSk (T):bE ((c1 rk prog w mg mb h0).withT T) where
 genStp:=fun u_ u_ u_ u_ u_ h=>h
 glo:=fun i v h=>by
  match i,h with
  | 0,h=>(replace h:=(aA h).symm;subst h);exact⟨588,fJ X g H.g0⟩
  | 1,h=>(replace h:=(aA h).symm;subst h);exact⟨590,fJ X g H.g1⟩
  | 2,h=>(replace h:=(aA h).symm;subst h);exact⟨592,fJ X g H.g2⟩
 bi:=fun x hx=>by
  have q:=aGx (aJ H.nn x (aW (["range","list","enumerate","type","int","str"]:List String) hx));simp only[List.mem_cons,List.not_mem_nil,or_false]at hx
  rcases hx with rfl | rfl | rfl | rfl | rfl
  all_goals exact aN2 X g hb q (by kernel_rfl) (by decide +kernel)
 ty:=fun x hx=>by
  have q:=aGx (aJ H.nn x (aZ (["len","sum","min","max","sorted"]:List String) hx));simp only[List.mem_cons,List.not_mem_nil,or_false]at hx
  rcases hx with rfl | rfl | rfl | rfl | rfl | rfl
  all_goals exact aN2 X g hb q (by kernel_rfl) (by decide +kernel)
theorem aSd (T):aHc ((c1 rk prog w mg mb h0).withT T):=aKM X (a:=193) (fJ X g H.gns) (H.gchk rk prog w mg mb h0) H.gb
theorem hk1 (T):HK ((c1 rk prog w mg mb h0).withT T) K:=⟨X,H.ga,H.gt,aM4 H.own⟩
theorem aO0 (T):lI ((c1 rk prog w mg mb h0).withT T) K where
 hk:=hk1 H X g hb T
 conv:=⟨83,H.mconv.at rfl (by decide +kernel),aNr X (p1:=48) (p2:=53) (H.conv rk) H.convb (fJ X g H.p1) H.q1 (fJ X g H.p2) H.q2⟩
 get:=⟨121,H.mget.at rfl (by decide +kernel),aPG X (H.get rk) H.getb⟩
 vals:=⟨139,H.mvals.at rfl (by decide +kernel),aHs X (H.vals rk) H.valsb⟩
theorem aSp (T):∃ fa,lJ ((c1 rk prog w mg mb h0).withT T) K "add_header" fa/\aL0 ((c1 rk prog w mg mb h0).withT T) fa :=
 ⟨179,H.madd.at rfl (by decide +kernel),aQl X (H.add rk) H.addb⟩
theorem aQ3 (T):aHa ((c1 rk prog w mg mb h0).withT T) K where
 makes:=H.makes
 init:=⟨76,H.minit,H.tinit,aM3 X (T:=69) (its:=#[.none]) (n:=0) (H.init rk) H.initd H.initT H.initk⟩
 over:=H.over
 taker:=H.taker
 hasd:=H.hasd
 seta:=H.seta
 name:=fJ X g H.name
 keep:=H.keep
theorem aSh (T):∃ f,aIP ((c1 rk prog w mg mb h0).withT T) K f:=⟨102,H.mdel.at rfl (by decide +kernel),aP7 X (H.del rk) H.delb,H.nos⟩
theorem aR5 (T):∃ f,aQo ((c1 rk prog w mg mb h0).withT T) K f:=⟨97,H.mset.at rfl (by decide +kernel),aOE X (H.set rk) H.setb⟩
theorem aRa:aHb (c1 rk prog w mg mb h0) K:=⟨aSk H X g hb,aSd H X g hb,aO0 H X g hb,aSp H X g hb,aQ3 H X g hb,aSh H X g hb,aR5 H X g hb⟩
end
noncomputable def T1a:Nat->List PV->Option PyData:=qF (fun u_ u_=>none) 1 (cV aU (fun u_ u_=>none) 100 aC3 aC4)
noncomputable def T1b:Nat->List PV->Option PyData:=qF T1a 0 (cV aU T1a 100 uI lL)
noncomputable def T1c:Nat->List PV->Option PyData:=qF T1b 2 (cV aU T1b 100 sD kB)
noncomputable def T1d:Nat->List PV->Option PyData:=qF T1c 3 (cV aU T1c 100 tN mD)
noncomputable def T1e:Nat->List PV->Option PyData:=qF T1d 4 (cV aU T1d 100 mS iO)
noncomputable def T1f:Nat->List PV->Option PyData:=qF T1e 5 (cV aU T1e 100 kY gV)
noncomputable def T1g:Nat->List PV->Option PyData:=qF T1f 6 (cV aU T1f 100 kI gH)
noncomputable def T1h:Nat->List PV->Option PyData:=qF T1g 7 (cV aU T1g 100 kX gU)
noncomputable def T1i:Nat->List PV->Option PyData:=qF T1h 8 (cV aU T1h 100 hW fK)
section
variable {K:Frag} {prog:Program} {w:World} {mg mb:Str->Option Value} {h0:Heap} (H:aQt K) (X:K.In h0) (g:h0.Ns mainGlobals mg) (hb:∀ x:Str,x≠"__name__"->mb x=bootBuiltins x)
include H X g hb
theorem eW {T:Nat->List PV->Option PyData}{rk rk':Nat->Nat}{f:Nat}(hrk:∀ g,g≠f->rk g<=rk' g)(hT:wB (c1 rk prog w mg mb h0) T){ps:List Nat}{body:Sts}{a:Addr}(F:FnK K rk (rk' f) f ps body a)(hf:fSs body=true)(hok:(okSs (List.replicate 130 0) body).isSome=true) :
  wB (c1 rk' prog w mg mb h0) (qF T f (cV aU T 100 ps body)):=by
 (refine e1a1 (Option.isSome_iff_exists.mp hok) ?_;rintro M' e);exact aHY (c:=c1 rk prog w mg mb h0) (rk':=rk') hrk (fun h1 k=>aRa (h0:=h1) H (fun a o e=>k a o (X a o e)) (g.keeps k) hb) hT (aRq F X g) hf e
theorem aPc:wB (c1 rk1 prog w mg mb h0) T1i:=by
 have k1:=eW H X g hb (f:=1) (fun _ _=>Nat.le_refl _) (aHX (c:=c1 rk1 prog w mg mb h0)) H.fns.f1 (by decide +kernel) (by decide +kernel)
 have k2:=eW H X g hb (f:=0) (fun _ _=>Nat.le_refl _) k1 H.fns.f0 (by decide +kernel) (by decide +kernel)
 have k3:=eW H X g hb (f:=2) (fun _ _=>Nat.le_refl _) k2 H.fns.f2 (by decide +kernel) (by decide +kernel)
 have k4:=eW H X g hb (f:=3) (fun _ _=>Nat.le_refl _) k3 H.fns.f3 (by decide +kernel) (by decide +kernel)
 have k5:=eW H X g hb (f:=4) (fun _ _=>Nat.le_refl _) k4 H.fns.f4 (by decide +kernel) (by decide +kernel)
 have k6:=eW H X g hb (f:=5) (fun _ _=>Nat.le_refl _) k5 H.fns.f5 (by decide +kernel) (by decide +kernel)
 have k7:=eW H X g hb (f:=6) (fun _ _=>Nat.le_refl _) k6 H.fns.f6 (by decide +kernel) (by decide +kernel)
 have k8:=eW H X g hb (f:=7) (fun _ _=>Nat.le_refl _) k7 H.fns.f7 (by decide +kernel) (by decide +kernel)
 exact eW H X g hb (f:=8) (fun _ _=>Nat.le_refl _) k8 H.fns.f8 (by decide +kernel) (by decide +kernel)
end
theorem aAV {P:Params}{h:Heap}{Bad:Addr->Prop}:∀ {ns:List Int} {vs:List Value},WellAll P h vs (ofPys (ns.map PyData.int))->bP (bL Bad h) vs (ns.map PyData.int)
 | [],vs,w=>by
  cases w;exact .nil
 | n::ns,vs,w=>by
  cases w with
  | cons w1 w2 =>
   cases w1;exact .cons .mkInt (aAV w2)
theorem aHi {P:Params}{h:Heap}{v:Value}{ns:List Int}(w:Well P h v (ofPy (.list (ns.map PyData.int)))):bL (fun u_=>False) h v (.list (ns.map PyData.int)):=by
 generalize hz:ofPy (.list (ns.map PyData.int))=d at w
 cases w with
 | list ho hw =>
  have hz:WData.list (ofPys (ns.map PyData.int))=.list _:=hz;cases hz;exact eS.list ⟨_,ho⟩ (by simpa using aAV hw) (fun q=>q)
 | _=>cases hz
theorem aQV {K:Frag}{prog:Program}{w:World}{mg mb:Str->Option Value}{h0:Heap}(H:aQt K)(X:K.In h0)(g:h0.Ns mainGlobals mg)(hb:∀ x:Str,x≠"__name__"->mb x=bootBuiltins x)
  {A:Around} {s:Shared} {fa:Addr} {vals:List Value} {ds:List PyData} {d:PyData} {R:Result->Shared->Prop} (hfa:mg (zE 9)=some (.ref fa)) (hr:fO 10 A) (B:dK (c1 rk1 prog w mg mb h0) s.heap)
  (hargs:bP (bL (fun u_=>False) s.heap) vals ds) (hrun:cV aU T1i 100 mT gG (ds.map .dat)=some d) (hR:∀ v s',cS s s'->bL (fun u_=>False) s'.heap v d->R (.ok (.ret v)) s') :
  codeAny (model prog w) A (.call (.ref fa) ⟨vals,[]⟩) R s:=by
 (refine e1a1 (Option.isSome_iff_exists.mp (show(okSs (List.replicate 130 0) gG).isSome=true by decide +kernel)) ?_;rintro M' e)
 exact aMK (c:=c1 rk1 prog w mg mb h0) (n:=9) (aRa H X g hb) (aPc H X g hb) (aRq H.fns.f9 X g) (by decide +kernel) e hfa hr B hargs hrun hR
theorem lt4 {p:Nat}(h:p < 4):p=0\/p=1\/p=2\/p=3:=by lia
theorem lt5 {p:Nat}(h:p < 5):p=0\/p=1\/p=2\/p=3\/p=4:=(Nat.lt_or_eq_of_le (Nat.le_of_lt_succ h)).elim (fun h=>(lt4 h).imp id fun h=>h.imp id fun h=>h.imp id .inl) fun h=>.inr (.inr (.inr (.inr h)))
theorem qC (a b:List Nat):mF (a++b)=(mF a && mF b):=List.all_append
theorem iG (c:Nat)(b:List Nat):mF (c::b)=(Nat.blt c 128 && mF b):=rfl
theorem eL:∀ (r:List Nat)(b:Bool)(out:List Nat)(q:Option (List Nat)),mF r=true->mF out=true->(∀ q',q=some q'->mF q'=true)->mF (bB r b out q)=true
 | [],_,out,none=>fun _ h _=>h
 | [],_,out,some q=>fun _ h h2=>by show mF (out++q)=true;rw[qC,h,h2 q rfl];rfl
 | c::r,true,out,none=>fun h1 h2 h3=>by
  rw[iG,Bool.and_eq_true]at h1;exact eL r false (out++[c]) none h1.2 (by rw[qC,h2,iG,h1.1];rfl) (fun u_ e=>nomatch e)
 | c::r,true,out,some q=>fun h1 h2 h3=>by
  rw[iG,Bool.and_eq_true]at h1;exact eL r false out (some (q++[c])) h1.2 h2 (fun q' e=>by(replace e:=(aA e).symm;subst e);rw[qC,h3 q rfl,iG,h1.1];rfl)
 | c::r,false,out,none=>fun h1 h2 h3=>by
  rw[iG,Bool.and_eq_true]at h1;have hc:mF (out++[c])=true:=by rw[qC,h2,iG,h1.1];rfl
  show mF (if c=92 then bB r true (out++[c]) none else if c=34 then bB r false out (some [c])else bB r false (out++[c]) none)=true
  split
  .exact eL r true (out++[c]) none h1.2 hc (fun u_ e=>nomatch e)
  .split
   .exact eL r false out (some [c]) h1.2 h2 (fun q' e=>by(replace e:=(aA e).symm;subst e);rw[iG,h1.1];rfl)
   .exact eL r false (out++[c]) none h1.2 hc (fun u_ e=>nomatch e)
 | c::r,false,out,some q=>fun h1 h2 h3=>by
  rw[iG,Bool.and_eq_true]at h1;have hc:mF (q++[c])=true:=by rw[qC,h3 q rfl,iG,h1.1];rfl
  show mF (if c=92 then bB r true out (some (q++[c]))else if c=34 then bB r false out none else bB r false out (some (q++[c])))=true
  split
  .exact eL r true out (some (q++[c])) h1.2 h2 (fun q' e=>by(replace e:=(aA e).symm;subst e);exact hc)
  .split
   .exact eL r false out none h1.2 h2 (fun u_ e=>nomatch e)
   .exact eL r false out (some (q++[c])) h1.2 h2 (fun q' e=>by(replace e:=(aA e).symm;subst e);exact hc)
theorem aQ9 {l:List Nat}(h:mF l=true):(S l).canLay0=true:=by
 show((⟨⟨l⟩⟩:Str).cps.all (·< 0x110000))=true;rw[Array.all_eq_true];intro i hi;have hm:l[i]'hi∈l:=List.getElem_mem _;have:=aJ h _ hm;have h2:l[i]'hi < 128:=by simpa [Nat.blt_eq] using this
 show decide (l[i]'hi < 0x110000)=true;exact decide_eq_true (by lia)
theorem aId {xs:List PyData}(h:∀ x∈xs,x.canLay0=true/\x.depth<=1):PyData.canLayAll0 xs=true/\PyData.depthAll xs<=1:=by
 induction xs with
 | nil=>exact⟨rfl,Nat.zero_le _⟩
 | cons x xs ih =>
  obtain ⟨h1,h2⟩:=ih fun y m=>h y (aE _ m);obtain ⟨h3,h4⟩:=h x aF;refine⟨by rw[PyData.canLayAll0,h3,h1];rfl,?_⟩
  rw[PyData.depthAll];lia
theorem aDs {xs:List PyData}(h:∀ x∈xs,x.canLay0=true/\x.depth<=1):qS (.list xs)=true:=by
 obtain ⟨h1,h2⟩:=aId h;unfold qS;rw[show(PyData.list xs).canLay0=PyData.canLayAll0 xs from rfl,h1,show(PyData.list xs).depth=PyData.depthAll xs+1 from rfl];simp;lia
theorem aJP {ls:List (List Nat)}(h:∀ l∈ls,mF l=true):qS (.list (ls.map S))=true:=by
 refine aDs fun x m=>?_;(refine e1a2 (bJ m) ?_;rintro l hl rfl);exact⟨aQ9 (h l hl),Nat.zero_le _⟩
theorem aDr (is:List Int):qS (.list (is.map PyData.int))=true:=by
 refine aDs fun x m=>?_;(refine e1a2 (bJ m) ?_;rintro l hl rfl);exact⟨rfl,Nat.zero_le _⟩
noncomputable abbrev NV:=List Nat × List Nat
theorem nT {tests:AE->Option Bool}{elt:AE->Option PyData}{bindv:PyData->Option AE}{p:PyData->Bool}{f:PyData->PyData}{Ed:PyData->AE}:∀ ds:List PyData,
  (∀ d∈ds,bindv d=some (Ed d)/\tests (Ed d)=some (p d)/\elt (Ed d)=some (f d))->compLoop tests elt bindv ds=some ((ds.filter p).map f)
 | []=>fun _=>rfl
 | d::ds=>fun h=>by
  (refine wH (h d aF) ?_;rintro h1 h2 h3);have ih:=nT (p:=p) (f:=f) (Ed:=Ed) ds fun x m=>h x (aE _ m);rw[iQ,h1,aD,h2,aD]
  cases hp:p d with
  | false=>simp only[ih];rw[List.filter_cons,hp];rfl
  | true=>simp only[h3,ih,aD];rw[List.filter_cons,hp];rfl
theorem aDf:∀ (n:Nat)(a:Int),mL a 1 n=(List.range n).map fun i:Nat=>PyData.int (a+i)
 | 0=>fun a=>rfl
 | n+1=>fun a=>by
  rw[aB5,aDf n,List.range_succ_eq_map,aY,List.map_map]
  congr 1
  .simp
  .refine List.map_congr_left fun i u_=>?_
   show PyData.int _=PyData.int _
   congr 1
   show a+1+(i:Int)=a+((i+1:Nat):Int);lia
theorem aOM (n:Nat):mL 0 1 n=((List.range n).map fun i:Nat=>(i:Int)).map PyData.int:=by
 rw[aDf,List.map_map];refine List.map_congr_left fun i u_=>?_;show PyData.int (0+(i:Int))=PyData.int (i:Int);rw[Int.zero_add]
@[simp] theorem aSU {β:Type}{k e:Option β}{i:Bool}:oN (.bool i) k e=e:=rfl
theorem aKF {xs:List PyData}{i:Nat}(h:i < xs.length)(hl:xs.length<=lim):jD (.list xs) (.int i)=some xs[i]:=by
 dsimp only[uU];unfold kW;rw[if_pos hl,if_pos (by lia),if_pos (by lia),aD]
 show xs[(i:Int).toNat]?=_;rw[Int.toNat_natCast,List.getElem?_eq_getElem h]
section
variable {G:Nat->Option Int} {T:Nat->List PV->Option PyData} {W:Nat}
end
theorem uN {J β:Type}(f:J->β)(st:Nat):∀ (k:Nat) (l:List J),fH st k (l.map f)=(fH st k l).map f
 | _,[]=>by simp[aGS]
 | 0,x::r=>by simp[aNh,uN f st (st - 1) r]
 | k+1,_::r=>by simp[aNg,uN f st k r]
theorem xJ:∀ l:List Int,∃ k,aBZ (l.map PyData.int)=some k
 | []=>⟨0,rfl⟩
 | i::l=>by
  (refine e1a1 (xJ l) ?_;rintro k h);exact⟨i+k,by rw[aY,aJf,h];rfl⟩
section
variable {G:Nat->Option Int} {T:Nat->List PV->Option PyData} {W:Nat}
theorem aP2 {E:AE}{ms:List Int}(hm:ms.length<=lim)(h44:E 44=some (.dat (.list (ms.map PyData.int)))){i:Nat}{b:Int}(h30:E 30=some (.dat (.int i)))(h46:E 46=some (.dat (.int b))) :
  ∃ x:Nat,ev G T (.bin .mod (.bin .add (.var 46) (.p1 .sum (.slc (.var 44) (.var 30) .none (.int 4)))) (.bin .pow (.int 10) (.int 6))) E=some (.int x):=by
 have hs:kO (.list (ms.map PyData.int)) (.int i) .none (.int 4)=some (.list ((fH 4 0 (ms.drop (min i ms.length))).map PyData.int)):=by
  simp only[nU,aK];rw[if_pos ⟨hm,by decide,by decide⟩,(lH i _).1,aD,<-List.map_drop]
  show some (PyData.list (fH 4 0 _))=_;rw[uN]
 (refine e1a1 (xJ (fH 4 0 (ms.drop (min i ms.length)))) ?_;rintro k hk);refine⟨((b+k) % 1000000).toNat,?_⟩;simp only[kM,uP,bD,iF,zL,wW,aI,h46,h44,h30,aD,hs,jJ,hk,qK,jL];rw[if_pos (by decide)]
 dsimp only[aD,jM];rw[if_pos (by decide)]
 have:(0:Int)<=(b+k) % 1000000:=Int.emod_nonneg _ (by decide)
 show some (PyData.int ((b+k) % 1000000))=_;rw[Int.toNat_of_nonneg this]
end
theorem bN {E:AE}{i:Nat}{d:PyData}:aI (E.set i (.dat d)) i=some d:=by
 unfold aI;rw[aC7]
theorem iP {E:AE}{i j:Nat}{x:PV}(h:j≠i):aI (E.set i x) j=aI E j:=by
 unfold aI;rw[aA2 h]
theorem lA {m p:Nat}{f:Nat->PyData}(h:p < m)(hm:m<=1000):jD (.list ((List.range m).map f)) (.int p)=some (f p):=by
 rw[aKF (by rw[aK,List.length_range];exact h) (by rw[aK,List.length_range];show m<=1000000;lia),List.getElem_map,List.getElem_range]
theorem oX {xs:List PyData}{i:Nat}{x:PyData}(h:xs[i]?=some x)(hl:xs.length<=1000):jD (.list xs) (.int i)=some x:=by
 have hi:=(List.getElem?_eq_some_iff.mp h).1;rw[aKF hi (by show _<=1000000;lia)]
 exact h ▸ (List.getElem?_eq_getElem hi).symm
section
variable {G:Nat->Option Int} {T:Nat->List PV->Option PyData} {W:Nat}
theorem xU {E:AE}{x:X}{m:Nat}(hx:ev G T x E=some (.int m))(hm:m<=1000):evIt G T (.rng1 x) E=some ((List.range m).map fun p:Nat=>.int p):=by
 (dsimp only[vQ];rw[hx])
 dsimp only[aD,jC];rw[if_pos (by lia),Int.toNat_natCast,aOM,List.map_map]
 rfl
theorem aLC {E:AE}{elt:X}{i:Nat}{it:It}{ds:List PyData}{f:PyData->PyData}(hit:evIt G T it E=some ds)(h:∀ d∈ds,ev G T elt (E.set i (.dat d))=some (f d)):ev G T (.comp elt (.name i) it .nil) E=some (.list (ds.map f)):=by
 (dsimp only[gX];rw[hit,aD,nT (tests:=fun E'=>evTests G T .nil E') (elt:=fun E'=>ev G T elt E') (bindv:=fun d=>dF (.name i) d E) (p:=fun u_=>true) (f:=f) (Ed:=fun d=>E.set i (.dat d)) ds fun d m=>⟨rfl,rfl,h d m⟩,aD,List.filter_eq_self.mpr (fun u_ u_=>rfl)])
theorem zU {E:AE}{elt x:X}{i m:Nat}{f:Nat->PyData}(hx:ev G T x E=some (.int m))(hm:m<=1000)(h:∀ p,p < m->ev G T elt (E.set i (.dat (.int p)))=some (f p)):ev G T (.comp elt (.name i) (.rng1 x) .nil) E=some (.list ((List.range m).map f)):=by
 rw[aLC (f:=fun d=>match d with | .int z=>f z.toNat | _=>.none) (xU hx hm) fun d hd=>?_]
 .rw[List.map_map];rfl
 ·(refine e1a2 (bJ hd) ?_;rintro p hp rfl)
  exact h p (List.mem_range.mp hp)
end
section
variable {G:Nat->Option Int} {T:Nat->List PV->Option PyData} {W:Nat}
end
section
variable {G:Nat->Option Int} {T:Nat->List PV->Option PyData} {W:Nat}
end
section
variable (R D:Nat->Nat)
end
section
variable {R D:Nat->Nat}
end
noncomputable def bU (is:List Nat):PyData:=.list (is.map fun p:Nat=>.int p)
section
variable {G:Nat->Option Int} {T:Nat->List PV->Option PyData} {W:Nat} {R D:Nat->Nat}
set_option tactic.hygienic true in
theorem jT {E:AE}{i:Nat}{d:PyData}(h:aI E i=some d):E i=some (.dat d):=by
 unfold aI at h
 split at h
 .rename_i e;(replace h:=(aA h).symm;subst h);exact e
 .exact cM h
theorem aCl {E:AE}{i:Nat}{is:List Nat}(h:aI E i=some (bU is))(hl:is.length<=1000):evIt G T (.val (.var i)) E=some (is.map fun p:Nat=>.int p):=by
 (dsimp only[eQ,bD];rw[h,aD])
 unfold bU
 (dsimp only[bZ];rw[aK,if_pos (by show _<=1000000;lia)])
theorem aMQ {E:AE}{sep:List Nat}{x:X}{ls:List (List Nat)}(h:ev G T x E=some (.list (ls.map S)))(h1:(eV sep ls).length<=100000)(h2:ls.length<=100000)(h3:sep.length<=10):ev G T (.p2 .join (.str sep) x) E=some (S (eV sep ls)):=by
 (dsimp only[sX,pD];rw[h])
 simp only[aD,eO,aB0,aK];rw[if_pos ⟨by show _<=1000000;lia,by show _<=1000000;lia,by show sep.length<=1000000;lia⟩]
end
section
variable {G:Nat->Option Int} {T:Nat->List PV->Option PyData} {W:Nat} {R D:Nat->Nat}
theorem aCO {E:AE}{x y:X}{a b:List Nat}(hx:ev G T x E=some (S a))(hy:ev G T y E=some (S b))(hl:a.length+b.length<=100000):ev G T (.bin .add x y) E=some (S (a++b)):=by
 (dsimp only[iF];rw[hx,hy])
 dsimp only[aD,qJ];rw[if_pos (by show a.length+b.length<=1000000;lia)]
end
section
variable {G:Nat->Option Int} {T:Nat->List PV->Option PyData} {W:Nat} {R D:Nat->Nat}
theorem aB4 {d:List PyData}(h:qS (.list d)=true):kP .ne (.list d) (.list d)=some false:=by
 show((if qS (.list d)=true/\qS (.list d)=true then some (PyData.eqv (.list d) (.list d))else none).bind fun b=>some (!b))=_
 rw[if_pos ⟨h,h⟩,PySem.SeqAt.eqv_refl]
 .rfl
 .unfold qS at h;rw[Bool.and_eq_true]at h;exact h.1
end
section
variable {G:Nat->Option Int} {T:Nat->List PV->Option PyData} {W:Nat} {R:Nat->Nat}
end
section
variable {G:Nat->Option Int} {T:Nat->List PV->Option PyData} {W:Nat}
theorem oZ {l:List Nat}{i:Nat}(h:i < l.length):l[i]?=some (l.getD i 0):=by rw[List.getD_eq_getElem?_getD,List.getElem?_eq_getElem h];rfl
end
noncomputable def aJ3:List (List Nat):=[[],[34,41,34],[92,40],[92,92],[34,92,34,40,34]]
section
variable {pc:Nat->List Nat}
end
section
variable {pc:Nat->List Nat} (hpc:∀ t,pc t∈aJ3)
include hpc
end
section
variable {pc:Nat->List Nat} (hpc:∀ t,pc t∈aJ3)
include hpc
end
theorem aPH {l:List (List Nat)}{i:Nat}(h:i < l.length):l[i]?=some (l.getD i []):=by rw[List.getD_eq_getElem?_getD,List.getElem?_eq_getElem h];rfl
theorem aQ4 {P:Nat->Prop}(h0:P 0)(h1:P 1)(h2:P 2)(h3:P 3)(h4:P 4){t:Nat}(h:t < 5):P t:=by
 rcases lt5 h with rfl | rfl | rfl | rfl | rfl
 .exact h0
 .exact h1
 .exact h2
 .exact h3
 .exact h4
theorem uL {J σ:Type}{body:AE->Option (AE × Option PyData)}{bindv:PyData->AE->Option AE}(I:σ->AE->Prop)(mk:J->PyData)(f:σ->J->σ):∀ (xs:List J) (s:σ) (E:AE),
  (∀ x∈xs,∀ s E,I s E->∃ E1 E2,bindv (mk x) E=some E1/\body E1=some (E2,none)/\I (f s x) E2)->I s E->∃ E',forLoop body bindv (xs.map mk) E=some (E',none)/\I (xs.foldl f s) E'
 | []=>fun s E _ h=>⟨E,rfl,h⟩
 | x::xs=>fun s E hs h=>by
  (refine e2a3 (hs x aF s E h) ?_;rintro E1 E2 h1 h2 h3);(refine e1a2 (uL I mk f xs (f s x) E2 (fun y m=>hs y (aE _ m)) h3) ?_;rintro E' h4 h5);exact⟨E',by rw[aY,lW,h1,aD,h2,aD];exact h4,h5⟩
section
variable {G:Nat->Option Int} {T:Nat->List PV->Option PyData} {W:Nat}
theorem aCp {E:AE}{i:Nat}{tk:List NV}{e:X}{n:List Nat}(h:E i=some (.hdr tk))(he:ev G T e E=some (S n))(hn:bS n=true)(htk:dS tk=true):ev G T (.hget i e) E=some (.list ((eC n tk).map S)):=by
 have e1:fV E i=some tk:=by unfold fV;rw[h]
 (dsimp only[aIz];rw[e1,he])
 show(if bS n=true/\dS tk=true then _ else _)=_
 rw[if_pos ⟨hn,htk⟩]
end
noncomputable def T3K (T:Nat->List PV->Option PyData):Prop:=∀ L:List Nat,mF L=true->L.length<=100000->T 3 [.dat (S L)]=some (.bool (eF (jH L) false 0))
section
variable {G:Nat->Option Int} {T:Nat->List PV->Option PyData} {W:Nat}
theorem aMr {L:List Nat}(a b:Nat)(hL:L.length<=100000)(hb:b<=L.length):kO (S L) (.int a) (.int b) .none=some (S (cut a b L)):=by
 have hl:L.length<=lim:=by show _<=1000000;lia
 simp only[uS,sl];rw[if_pos hl,(lH a _).1,(lH b _).2];show some (S (cut (min a L.length) (min b L.length) L))=_;unfold cut;rw[Nat.min_eq_left hb]
 by_cases h:a<=L.length
 .rw[Nat.min_eq_left h]
 .rw[Nat.min_eq_right (by lia),List.drop_of_length_le (by rw[List.length_take];lia),List.drop_of_length_le (by rw[List.length_take];lia)]
end
section
variable {pc:Nat->List Nat} (hpc:∀ t,pc t∈aJ3)
include hpc
end
section
variable {G:Nat->Option Int} {T:Nat->List PV->Option PyData} {W:Nat}
theorem aM5 {E:AE}{i:Nat}{a b:X}{tk:List NV}{u v:List Nat}(h:E i=some (.hdr tk))(ha:ev G T a E=some (S u))(hb:ev G T b E=some (S v))(hu:bS u=true)(hv:bS v=true)(hl:tk.length<=100) :
  ex G T W (.hadd i a b) E=some (E.set i (.hdr (tk++[(u,v)])),none):=by
 have e1:fV E i=some tk:=by unfold fV;rw[h]
 rw[aBE,e1,ha,hb];show(if bS u=true/\bS v=true/\tk.length<=lim then _ else _)=_
 rw[if_pos ⟨hu,hv,by show _<=1000000;lia⟩]
end
theorem zF {J β:Type}(g:J->β):∀ l:List J,(l.map fun p=>[g p]).flatten=l.map g
 | []=>rfl
 | x::l=>by rw[aY,List.flatten_cons,zF g l];rfl
section
variable {G:Nat->Option Int} {T:Nat->List PV->Option PyData} {W:Nat}
theorem zB {l:List Nat}{i:Nat}(h:i < l.length)(hl:l.length<=1000):jD (bU l) (.int i)=some (.int (l.getD i 0:Nat)) :=
 oX (by rw[List.getElem?_map,oZ h];rfl) (by rw[aK];exact hl)
noncomputable def eB (M:List (List Nat)):PyData:=.list (M.map bU)
noncomputable def aOF (M:List (List Nat))(t o z:Nat):List (List Nat):=M.set t ((M.getD t []).set o z)
noncomputable def ShM (M:List (List Nat))(n:Nat):Prop:=M.length=n/\∀ r∈M,r.length=n
theorem aGN {M:List (List Nat)}{n t:Nat}(h:ShM M n)(ht:t < n):M[t]?=some (M.getD t [])/\(M.getD t []).length=n:=by
 have e:=aPH (l:=M) (i:=t) (by rw[h.1];exact ht)
 exact⟨e,h.2 _ (List.mem_of_getElem? e)⟩
theorem aB1 {M:List (List Nat)}{n t o z:Nat}(h:ShM M n)(ht:t < n):ShM (aOF M t o z) n:=by
 refine⟨by unfold aOF;rw[List.length_set];exact h.1,fun r hr=>?_⟩
 unfold aOF at hr
 rcases List.mem_or_eq_of_mem_set hr with m | rfl
 .exact h.2 r m
 .rw[List.length_set];exact(aGN h ht).2
end
section
variable {G:Nat->Option Int} {T:Nat->List PV->Option PyData} {W:Nat}
theorem or_false {x y:X}{xs:Xs}{E:AE}(h:ev G T x E=some (.bool false)):evOr G T (.cons x (.cons y xs)) E=evOr G T (.cons y xs) E:=by
 rw[pE,h];rfl
theorem jO {E:AE}{i:Nat}{x:PV}(h:E i=some x):E.set i x=E:=by
 funext j
 unfold AE.set
 by_cases q:j=i
 .rw[if_pos q,q,h]
 .rw[if_neg q]
theorem aLG {l:List Nat}(h:bS l=true):mF l=true:=by
 unfold bS at h;rw[Bool.and_eq_true]at h;refine cD fun c hc=>?_;have:=aJ h.1 c hc;rw[Bool.and_eq_true,Nat.blt_eq]at this;rw[Nat.blt_eq];lia
theorem sum_nat:∀ xs:List Nat,aBZ (xs.map fun p:Nat=>PyData.int p)=some (xs.sum:Nat)
 | []=>rfl
 | x::xs=>by rw[aY,aJf,sum_nat xs,List.sum_cons];rfl
end
noncomputable def xK (x y:Nat):Nat:=bif Nat.beq x y then 0 else bif Nat.beq (x % 32) (y % 32)then 1 else 2
noncomputable def mnN (a b:Nat):Nat:=bif Nat.blt b a then b else a
noncomputable def sI (c:Nat)(a:List Nat):List Nat->Nat->Nat->Nat->List Nat × Nat × Nat :=
 List.rec (motive:=fun _=>List Nat->Nat->Nat->Nat->List Nat × Nat × Nat) (fun _ _ res mn=>([],res,mn))
  (fun x _ ih row dist res mn=>List.rec (motive:=fun _=>List Nat × Nat × Nat) ([],res,mn) (fun r row _=>(fun z=>(fun q=>(z::q.1,q.2)) (ih row r z (mnN mn z))) (mnN (mnN res r+2) (dist+xK c x))) row) a
noncomputable def aEA:Nat:=9223372036854775807
noncomputable def aDC (m:Nat)(a:List Nat)(b:List Nat):Nat->List Nat->Nat->Nat :=
 List.rec (motive:=fun _=>Nat->List Nat->Nat->Nat) (fun _ _ res=>res)
  (fun c _ ih k row _=>(fun q:List Nat × Nat × Nat=>bif Nat.blt m q.2.2 then m+1 else ih (k+1) q.1 q.2.1) (sI c a row (2 * k) (2 * k) aEA)) b
noncomputable def aDd:Nat->Nat->List Nat
 | 0,_=>[]
 | n+1,k=>k::aDd n (k+2)
noncomputable def aDB (m:Nat)(a b:List Nat):Nat:=bif Nat.blt m ((b.length - a.length) * 2)then m+1 else aDC m a b 0 (aDd a.length 2) 0
noncomputable def aKe (m:Nat)(a b:List Nat):Nat :=
 match a,b with
 | [],b=>2 * b.length
 | a,[]=>2 * a.length
 | a,b=>bif Nat.blt b.length a.length then aDB m b a else aDB m a b
noncomputable def aAG (a:List Nat):List Nat->Nat:=List.rec (motive:=fun _=>List Nat->Nat) (fun _=>0) (fun x _ ih b=>List.rec (motive:=fun _=>Nat) 0 (fun y b _=>bif Nat.beq x y then ih b+1 else 0) b) a
theorem uD (x y:Nat)(a b:List Nat):aAG (x::a) (y::b)=bif Nat.beq x y then aAG a b+1 else 0:=rfl
noncomputable def wD (a b:List Nat)(m:Nat):Nat :=
 match aAG a b with
 | p=>match a.drop p,b.drop p with
  | a1,b1=>match aAG a1.reverse b1.reverse with
   | q=>aKe m (a1.take (a1.length - q)) (b1.take (b1.length - q))
noncomputable def qM:List Nat:=[97,65,98,66]
theorem yM (a b:Nat):wF .min2 (.int a) (.int b)=some (.int (mnN a b)):=by
 rw[qG];unfold mnN
 by_cases q:b < a
 .rw[if_pos (Int.ofNat_lt.mpr q),bA q];rfl
 .rw[if_neg fun e=>q (Int.ofNat_lt.mp e),show Nat.blt b a=false by rw[<-Bool.not_eq_true,Nat.blt_eq];exact q];rfl
theorem nN {l:List Nat}{k x:Nat}(h:l[k]?=some x)(hl:l.length<=1000):jD (S l) (.int k)=some (S [x]):=by
 have hk:=(List.getElem?_eq_some_iff.mp h).1;show(if l.length<=lim then(kW k l.length).bind fun k=>(l[k]?).map fun c=>S [c]else none)=_
 rw[if_pos (by show _<=1000000;lia)]
 unfold kW;rw[if_pos (by lia),if_pos (by lia),aD,Int.toNat_natCast,h]
 rfl
theorem gW {J:Type}(p:List J)(x:J)(r:List J):(p++x::r)[p.length]?=some x:=by
 rw[List.getElem?_append_right (Nat.le_refl _),Nat.sub_self];rfl
theorem aOO {p r:List Nat}{x z:Nat}(hl:(p++x::r).length<=1000):oD (.int p.length) (.int z) (bU (p++x::r))=some (bU (p++z::r)):=by
 have e:(List.map (fun p:Nat=>PyData.int p) (p++x::r)).length=p.length+(r.length+1):=by rw[aK,aG,aR]
 rw[aG,aR]at hl;show(if (0:Int)<=p.length/\(p.length:Int) < (List.map _ _).length/\(List.map _ _).length<=lim then some (PyData.list ((List.map _ _).set (p.length:Int).toNat _))else none)=_
 rw[e,if_pos ⟨by lia,by lia,by show _<=1000000;lia⟩,Int.toNat_natCast]
 unfold bU;rw[List.map_append,List.set_append_right _ _ (by rw[aK];exact Nat.le_refl _),aK,Nat.sub_self,List.map_append]
 rfl
section
variable {T:Nat->List PV->Option PyData} {W:Nat}
noncomputable def aED (T:Nat->List PV->Option PyData):Prop:=∀ x∈qM,∀ y∈qM,T 1 [.dat (S [x]),.dat (S [y])]=some (.int (xK x y))
structure RwB (E:AE)(a b:List Nat)(m c:Nat)(row:List Nat)(dist res mn:Nat):Prop where
 e2:aI E 2=some (S a)
 e3:aI E 3=some (S b)
 e4:aI E 4=some (.int m)
 e7:aI E 7=some (bU row)
 e8:aI E 8=some (.int res)
 e9:∃ k:Nat,aI E 9=some (.int k)
 e10:aI E 10=some (S [c])
 e11:aI E 11=some (.int dist)
 e12:aI E 12=some (.int mn)
theorem aOY {E:AE}{z mn:Nat}(h8:aI E 8=some (.int z))(h12:aI E 12=some (.int mn)):ex aU T W (.iff (.cmp1 .lt (.var 8) (.var 12)) (.cons (.asg 0 12 (.var 8)) .nil) .nil) E=some (E.set 12 (.dat (.int (mnN mn z))),none):=by
 refine Eq.trans (gO (dG h8 h12 (lK z mn))) ?_;unfold mnN
 cases Nat.blt z mn with
 | true=>exact dE (dL h8)
 | false=>exact congrArg (fun F=>some (F,(none:Option PyData))) (jO (jT h12)).symm
theorem aGa (hT:aED T){b:List Nat}{m c:Nat}(hc:c∈qM):∀ (as rs pre done:List Nat) (E:AE) (dist res mn:Nat),RwB E (pre++as) b m c (done++rs) dist res mn->as.length=rs.length->pre.length=done.length->(∀ x∈as,x∈qM)->(pre++as).length<=1000 ->
  ∃ E' dist',forLoop (fun E'=>exs aU T W yR E') (fun d E'=>dF (.name 13) d E') (mL pre.length 1 as.length) E=some (E',none)/\RwB E' (pre++as) b m c (done++(sI c as rs dist res mn).1) dist' (sI c as rs dist res mn).2.1 (sI c as rs dist res mn).2.2
 | [],[],pre,done,E,dist,res,mn,h,_,_,_,_=>⟨E,dist,rfl,h⟩
 | x::as,r::rs,pre,done,E,dist,res,mn,h,hl,hp,ha,hn=>by
  have hl':as.length=rs.length:=Nat.succ.inj hl
  have hn2:(done++r::rs).length<=1000:=by
   rw[aG,aR]at hn ⊢;lia
  have g:jD (bU (done++r::rs)) (.int pre.length)=some (.int r):=oX (by rw[hp,List.getElem?_map,gW];rfl) (by rw[aK];exact hn2)
  have hb:exs aU T W yR (E.set 13 (.dat (.int pre.length)))=some (_,none) :=
   aX (dL (dM h.e11 (aB8 h.e10 (dO h.e2 rfl (nN (gW pre x as) hn)) (hT c hc x (ha x aF))) (fU dist _)))
   (aX (dL (dO h.e7 rfl g)) (aX (dL (dM (aHx h.e8 rfl (yM res r)) rfl (fU _ 2))) (aX (dL (aHx rfl rfl (yM _ _)))
   (aX (aQG rfl h.e7 rfl (hp ▸ aOO hn2)) (aX (aOY rfl h.e12) rfl)))))
  have e1:pre++x::as=(pre++[x])++as:=by rw[aQ];rfl
  have i6:∀ z,RwB ((((((((E.set 13 (.dat (.int pre.length))).set 14 (.dat (.int ((dist+xK c x:Nat):Int)))).set 11 (.dat (.int r))).set 15 (.dat (.int ((mnN res r+2:Nat):Int)))).set 8 (.dat (.int (z:Nat)))).set 7 (.dat (bU (done++z::rs)))).set 12 (.dat (.int (mnN mn z))))) ((pre++[x])++as) b m c ((done++[z])++rs) r z (mnN mn z):=fun z=>⟨e1 ▸ h.e2,h.e3,h.e4,by rw[aQ];rfl,rfl,h.e9,h.e10,rfl,rfl⟩
  (refine e2a2 (aGa hT hc as rs (pre++[x]) (done++[mnN (mnN res r+2) (dist+xK c x)]) _ r _ _ (i6 _) hl' (by rw[aG,aG,hp];rfl) (fun y m=>ha y (aE _ m)) (e1 ▸ hn)) ?_;rintro E' dist' g1 g2)
  refine⟨E',dist',oM rfl hb ?_,?_⟩
  .rw[aG]at g1
   exact g1
  .rw[aQ done]at g2
   exact e1.symm ▸ g2
end
theorem wN {E:AE}{i:Nat}{x y:PV}:(E.set i x).set i y=E.set i y:=by
 funext j
 unfold AE.set
 by_cases q:j=i
 .rw[if_pos q,if_pos q]
 .rw[if_neg q,if_neg q,if_neg q]
theorem aA5 (c:Nat):∀ (a row:List Nat) (d r m:Nat),a.length=row.length->(sI c a row d r m).1.length=a.length
 | [],[],_,_,_,_=>rfl
 | x::a,r::row,d,s,m,h=>congrArg Nat.succ (aA5 c a row r _ _ (Nat.succ.inj h))
section
variable {T:Nat->List PV->Option PyData} {W:Nat}
structure LvB (E:AE)(a b:List Nat)(m:Nat)(row:List Nat)(res:Nat):Prop where
 e2:aI E 2=some (S a)
 e3:aI E 3=some (S b)
 e4:aI E 4=some (.int m)
 e7:aI E 7=some (bU row)
 e8:aI E 8=some (.int res)
theorem fQ {E:AE}{i:Nat}{l:List Nat}(h:aI E i=some (S l))(hl:l.length<=1000):ev aU T (.p1 .len (.var i)) E=some (.int l.length) :=
 uB h (if_pos (show l.length<=1000000 by lia))
theorem aGc {E:AE}{x:X}{n:Nat}(h:ev aU T x E=some (.int n))(hl:n<=1000):evIt aU T (.rng1 x) E=some (mL 0 1 n):=by
 rw[vQ,h];dsimp only[aD,jC];rw[if_pos (by lia),Int.toNat_natCast]
theorem aGm (hT:aED T){a:List Nat}{m:Nat}(ha:∀ x∈a,x∈qM)(hl:a.length<=1000):∀ (bs pb row:List Nat) (res:Nat) (E:AE),LvB E a (pb++bs) m row res->a.length=row.length->(∀ x∈bs,x∈qM)->(pb++bs).length<=1000 ->
  ∃ E' r,forLoop (fun E'=>exs aU T W yS E') (fun d E'=>dF (.name 9) d E') (mL pb.length 1 bs.length) E=some (E',r)/\((r=none/\aI E' 8=some (.int (aDC m a bs pb.length row res)))\/r=some (.int (aDC m a bs pb.length row res)))
 | []=>fun pb row res E h _ _ _=>⟨E,none,rfl,.inl ⟨rfl,h.e8⟩⟩
 | c::bs=>fun pb row res E h hr hb hn=>by
  have hpn:pb.length<=1000:=by rw[aG]at hn;lia
  generalize hE3:((((E.set 9 (.dat (.int pb.length))).set 10 (.dat (S [c]))).set 11 (.dat (.int ((pb.length * 2:Nat):Int)))).set 8 (.dat (.int ((pb.length * 2:Nat):Int)))).set 12 (.dat (.int aEA))=E3;have i3:RwB E3 ([]++a) (pb++c::bs) m c ([]++row) (pb.length * 2) (pb.length * 2) aEA:=by rw[<-hE3];exact⟨h.e2,h.e3,h.e4,h.e7,rfl,⟨_,rfl⟩,rfl,rfl,rfl⟩
  have s3:∀ r,exs aU T W (.cons (.forS (.name 13) (.rng1 (.p1 .len (.var 2))) yR) (.cons (.iff (.cmp1 .gt (.var 12) (.var 4)) (.cons (.ret (.bin .add (.var 4) (.int 1))) .nil) .nil) .nil)) E3=r->exs aU T W yS (E.set 9 (.dat (.int pb.length)))=r:=fun r e =>
   aX (dL (dO h.e3 rfl (nN (gW pb c bs) hn))) (aX (aOe (dM rfl rfl (pT hpn (by decide:2<=1000)))) (aX (E1:=E3) (by rw[<-hE3];rfl) e))
  (refine e2a2 (aGa (T:=T) (W:=W) hT (hb c aF) a row [] [] E3 _ _ _ i3 hr rfl ha hl) ?_;rintro E4 dist g1 g2);rw[Nat.mul_comm pb.length]at g2;have lv:aDC m a (c::bs) pb.length row res=bif Nat.blt m (sI c a row (2 * pb.length) (2 * pb.length) aEA).2.2 then m+1 else aDC m a bs (pb.length+1) (sI c a row (2 * pb.length) (2 * pb.length) aEA).1 (sI c a row (2 * pb.length) (2 * pb.length) aEA).2.1:=rfl;have hql:=aA5 c a row (2 * pb.length) (2 * pb.length) aEA hr;generalize sI c a row (2 * pb.length) (2 * pb.length) aEA=q at g2 hql lv;have s4:ex aU T W (.forS (.name 13) (.rng1 (.p1 .len (.var 2))) yR) E3=some (E4,none):=qN (aGc (fQ i3.e2 hl) hl) g1;have hc5:ev aU T (.cmp1 .gt (.var 12) (.var 4)) E4=some (.bool (Nat.blt m q.2.2)):=dG g2.e12 g2.e4 (lK m q.2.2)
  cases w:Nat.blt m q.2.2 with
  | true =>
   rw[w]at lv hc5;rw[lv];exact⟨E4,_,aNU rfl (s3 _ (aX s4 (nE ((gO hc5).trans (dE (nR (dM g2.e4 rfl (fU m 1)))))))),.inr rfl⟩
  | false =>
   rw[w]at lv hc5;rw[lv];have e1:pb++c::bs=(pb++[c])++bs:=by rw[aQ];rfl
   (refine e2a2 (aGm hT ha hl bs (pb++[c]) q.1 q.2.1 E4 ⟨g2.e2,e1 ▸ g2.e3,g2.e4,g2.e7,g2.e8⟩ hql.symm (fun y m=>hb y (aE _ m)) (e1 ▸ hn)) ?_;rintro E' r k1 k2);rw[aG]at k1 k2;exact⟨E',r,oM rfl (s3 _ (aX s4 (aX (lQ hc5) rfl))) k1,k2⟩
theorem xQ {l:List Nat}{k:Nat}(hl:l.length<=1000)(hk:k<=l.length):kO (S l) (.int k) .none .none=some (S (l.drop k)):=by
 show(if l.length<=lim then(bnd (.int k) 0 l.length).bind fun a=>(bnd .none l.length l.length).bind fun b=>some (S (cut a b l))else none)=_
 rw[if_pos (by show _<=1000000;lia),(lH k _).1,aD,Nat.min_eq_left hk]
 show some (S ((l.take l.length).drop k))=_;rw[List.take_length]
theorem sE {p l:List Nat}(h:(p++l).length<=1000):kO (S (p++l)) (.int p.length) .none .none=some (S l) :=
 (xQ h (by rw[aG];exact Nat.le_add_right _ _)).trans (by rw[List.drop_left])
theorem aCN {p l:List Nat}(h:(p++l).length<=1000):l.length<=1000:=by rw[aG]at h;lia
theorem xB (x y:Nat):kP .eq (S [x]) (S [y])=some (Nat.beq x y):=by
 show some (decide ([x]=[y]))=_
 by_cases q:x=y
 .rw[q,decide_eq_true rfl,Nat.beq_refl]
 .rw[lO q,decide_eq_false fun e=>q (List.head_eq_of_cons_eq e)]
theorem aDi:∀ (a b pa pb:List Nat)(n:Nat)(E:AE),aI E 2=some (S (pa++a))->aI E 3=some (S (pb++b))->pa.length=pb.length->aI E 5=some (.int pa.length)->a.length < n->(pa++a).length<=1000->(pb++b).length<=1000 ->
  eK (fun E'=>(ev aU T (.and (.cons (.slc (.var 2) (.var 5) .none .none) (.cons (.slc (.var 3) (.var 5) .none .none) (.cons (.cmp1 .eq (.idx (.var 2) (.var 5)) (.idx (.var 3) (.var 5))) .nil)))) E').bind fun x=>tr x) (fun E'=>exs aU T W aKd E') n E=some (E.set 5 (.dat (.int ((pa.length+aAG a b:Nat):Int))),none)
 | a,b,pa,pb,0=>fun E _ _ _ _ hn _ _=>absurd hn (Nat.not_lt_zero _)
 | [],b,pa,pb,n+1=>fun E h2 h3 hp h5 hn la lb=>Eq.trans (aEK (xY (oC h2 h5 rfl (sE la)) rfl) rfl) (congrArg (fun F=>some (F,none)) (jO (jT h5)).symm)
 | x::a,[],pa,pb,n+1=>fun E h2 h3 hp h5 hn la lb=>Eq.trans (aEK (uC (oC h2 h5 rfl (sE la)) (aJb (aCN la)) (xY (oC h3 (hp ▸ h5:aI E 5=some (.int pb.length)) rfl (sE lb)) rfl)) rfl) (congrArg (fun F=>some (F,none)) (jO (jT h5)).symm)
 | x::a,y::b,pa,pb,n+1=>fun E h2 h3 hp h5 hn la lb=>by
  have h5':aI E 5=some (.int pb.length):=hp ▸ h5
  have ht:ev aU T (.and (.cons (.slc (.var 2) (.var 5) .none .none) (.cons (.slc (.var 3) (.var 5) .none .none) (.cons (.cmp1 .eq (.idx (.var 2) (.var 5)) (.idx (.var 3) (.var 5))) .nil)))) E=some (.bool (Nat.beq x y)) :=
   uC (oC h2 h5 rfl (sE la)) (aJb (aCN la)) (uC (oC h3 h5' rfl (sE lb)) (aJb (aCN lb)) (dG (dO h2 h5 (nN (gW pa x a) la)) (dO h3 h5' (nN (gW pb y b) lb)) (xB x y)))
  rw[uD]
  cases q:Nat.beq x y with
  | true =>
   rw[q]at ht;have e1:pa++x::a=(pa++[x])++a:=by rw[aQ];rfl
   have e2:pb++y::b=(pb++[y])++b:=by rw[aQ];rfl
   have ih:=aDi a b (pa++[x]) (pb++[y]) n (E.set 5 (.dat (.int ((pa.length+1:Nat):Int)))) (e1 ▸ h2) (e2 ▸ h3) (by rw[aG,aG,hp];rfl) (by rw[aG];rfl) (Nat.lt_of_succ_lt_succ hn) (e1 ▸ la) (e2 ▸ lb)
   rw[wN,aG,Nat.add_assoc,Nat.add_comm [x].length]at ih;exact aI1 ht rfl (dE (aF2 h5 rfl (fU _ 1))) ih
  | false =>
   rw[q]at ht;exact(aEK ht rfl).trans (congrArg (fun F=>some (F,none)) (jO (jT h5)).symm)
end
section
variable {T:Nat->List PV->Option PyData} {W:Nat}
theorem aER {E:AE}{i q:Nat}{l:List Nat}(h:aI E i=some (S l))(h6:aI E 6=some (.int (-(q:Int))))(hq:q<=l.length)(hl:l.length<=1000):ev aU T (.slc (.var i) .none (.or (.cons (.var 6) (.cons .none .nil))) .none) E=some (S (l.take (l.length - q))):=by
 rw[zL,bD,h,uP,aGT,pE,bD,h6];dsimp only[aD,aJa]
 cases q with
 | zero =>
  show(if l.length<=lim then some (S ((l.take l.length).drop 0))else none)=_
  rw[if_pos (by show _<=1000000;lia)]
  rfl
 | succ q =>
  show(if l.length<=lim then some (S ((l.take (aCH (-((q+1:Nat):Int)) l.length)).drop 0))else none)=_
  unfold aCH;rw[if_pos (by show _<=1000000;lia),if_neg (by lia),show(-((q+1:Nat):Int)+(l.length:Int)).toNat=l.length - (q+1)by lia]
  rfl
theorem aGX {p s:List Nat}{x:Nat}(hl:(p++x::s).length<=1000):jD (S (p++x::s)) (.int (-(s.length:Int) - 1))=some (S [x]):=by
 show(if (p++x::s).length<=lim then(kW (-(s.length:Int) - 1) (p++x::s).length).bind fun k=>((p++x::s)[k]?).map fun c=>S [c]else none)=_
 rw[if_pos (by show _<=1000000;lia)]
 unfold kW;rw[aG,aR,if_neg (by lia),if_pos (by lia),aD,show(-(s.length:Int) - 1+((p.length+(s.length+1):Nat):Int)).toNat=p.length by lia,gW]
 rfl
theorem xR {E:AE}{i:Nat}{r l:List Nat}(h:aI E i=some (S (r.reverse++l)))(h6:aI E 6=some (.int (-(l.length:Int))))(hl:(r.reverse++l).length<=1000):ev aU T (.slc (.var i) .none (.or (.cons (.var 6) (.cons .none .nil))) .none) E=some (S r.reverse) :=
 (aER h h6 (by rw[aG];exact Nat.le_add_left _ _) hl).trans (by rw[aG,Nat.add_sub_cancel,List.take_left])
theorem aCk {r l:List Nat}(h:(r.reverse++l).length<=1000):r.length<=1000:=by rw[aG,List.length_reverse]at h;lia
theorem aEO {x:Nat}{r:List Nat}(h:(x::r).length<=1000):tr (S (x::r).reverse)=some true:=(aJb (by rw[List.length_reverse];exact h)).trans (by rw[List.isEmpty_reverse];rfl)
theorem aA9:∀ (a b sa sb:List Nat)(n:Nat)(E:AE),aI E 2=some (S (a.reverse++sa))->aI E 3=some (S (b.reverse++sb))->sa.length=sb.length->aI E 6=some (.int (-(sa.length:Int)))->a.length < n->(a.reverse++sa).length<=1000->(b.reverse++sb).length<=1000 ->
  eK (fun E'=>(ev aU T (.and (.cons (.slc (.var 2) .none (.or (.cons (.var 6) (.cons .none .nil))) .none) (.cons (.slc (.var 3) .none (.or (.cons (.var 6) (.cons .none .nil))) .none) (.cons (.cmp1 .eq (.idx (.var 2) (.bin .sub (.var 6) (.int 1))) (.idx (.var 3) (.bin .sub (.var 6) (.int 1)))) .nil)))) E').bind fun x=>tr x) (fun E'=>exs aU T W aKc E') n E=some (E.set 6 (.dat (.int (-((sa.length+aAG a b:Nat):Int)))),none)
 | a,b,sa,sb,0=>fun E _ _ _ _ hn _ _=>absurd hn (Nat.not_lt_zero _)
 | [],b,sa,sb,n+1=>fun E h2 h3 hp h6 hn la lb=>Eq.trans (aEK (xY (xR h2 h6 la) rfl) rfl) (congrArg (fun F=>some (F,none)) (jO (jT h6)).symm)
 | x::a,[],sa,sb,n+1=>fun E h2 h3 hp h6 hn la lb=>Eq.trans (aEK (uC (xR h2 h6 la) (aEO (aCk la)) (xY (xR h3 (hp ▸ h6) lb) rfl)) rfl) (congrArg (fun F=>some (F,none)) (jO (jT h6)).symm)
 | x::a,y::b,sa,sb,n+1=>fun E h2 h3 hp h6 hn la lb=>by
  have h6':aI E 6=some (.int (-(sb.length:Int))):=hp ▸ h6;have e1:(x::a).reverse++sa=a.reverse++x::sa:=by rw[List.reverse_cons,aQ];rfl
  have e2:(y::b).reverse++sb=b.reverse++y::sb:=by rw[List.reverse_cons,aQ];rfl
  have ht:ev aU T (.and (.cons (.slc (.var 2) .none (.or (.cons (.var 6) (.cons .none .nil))) .none) (.cons (.slc (.var 3) .none (.or (.cons (.var 6) (.cons .none .nil))) .none) (.cons (.cmp1 .eq (.idx (.var 2) (.bin .sub (.var 6) (.int 1))) (.idx (.var 3) (.bin .sub (.var 6) (.int 1)))) .nil)))) E=some (.bool (Nat.beq x y)) :=
   uC (xR h2 h6 la) (aEO (aCk la)) (uC (xR h3 h6' lb) (aEO (aCk lb)) (dG (dO (e1 ▸ h2:aI E 2=_) (dM h6 rfl rfl) (aGX (e1 ▸ la))) (dO (e2 ▸ h3:aI E 3=_) (dM h6' rfl rfl) (aGX (e2 ▸ lb))) (xB x y)))
  rw[uD]
  cases q:Nat.beq x y with
  | true =>
   rw[q]at ht;have e3:-(((x::sa).length:Nat):Int)=-(sa.length:Int) - 1:=by rw[aR];lia
   have ih:=aA9 a b (x::sa) (y::sb) n (E.set 6 (.dat (.int (-(sa.length:Int) - 1)))) (e1 ▸ h2) (e2 ▸ h3) (congrArg Nat.succ hp) (by rw[e3];rfl) (Nat.lt_of_succ_lt_succ hn) (e1 ▸ la) (e2 ▸ lb)
   rw[wN,aR,Nat.add_assoc,Nat.add_comm 1]at ih;exact aI1 ht rfl (dE (aF2 h6 rfl rfl)) ih
  | false =>
   rw[q]at ht;exact Eq.trans (aEK ht rfl) (congrArg (fun F=>some (F,none)) (jO (jT h6)).symm)
theorem wP:∀ a b:List Nat,aAG a b<=a.length/\aAG a b<=b.length
 | [],_=>⟨Nat.zero_le _,Nat.zero_le _⟩
 | _::_,[]=>⟨Nat.zero_le _,Nat.zero_le _⟩
 | x::a,y::b=>by
  rw[uD]
  cases Nat.beq x y with
  | false=>exact⟨Nat.zero_le _,Nat.zero_le _⟩
  | true=>exact⟨Nat.succ_le_succ (wP a b).1,Nat.succ_le_succ (wP a b).2⟩
theorem aDc:∀ n k,(aDd n k).length=n
 | 0=>fun _=>rfl
 | n+1=>fun k=>congrArg Nat.succ (aDc n _)
theorem aDb:∀ n k:Nat,mL k 2 n=(aDd n k).map fun p:Nat=>PyData.int p
 | 0=>fun _=>rfl
 | n+1=>fun k=>congrArg (PyData.int k::·) (aDb n (k+2))
noncomputable def aO7:Sts:=(.cons (.asg 1 7 (.lof (.rng3 (.glo 1) (.bin .mul (.glo 1) (.bin .add (.p1 .len (.var 2)) (.int 1))) (.glo 1)))) (.cons (.asg 0 8 (.int 0)) (.cons (.forS (.name 9) (.rng1 (.p1 .len (.var 3))) yS) (.cons (.ret (.var 8)) .nil))))
noncomputable def aFj:Sts:=.cons (.iff (.cmp1 .gt (.bin .mul (.bin .sub (.p1 .len (.var 3)) (.p1 .len (.var 2))) (.glo 1)) (.var 4)) (.cons (.ret (.bin .add (.var 4) (.int 1))) .nil) .nil) aO7
noncomputable def aFk:Sts:=.cons (.iff (.cmp1 .lt (.p1 .len (.var 3)) (.p1 .len (.var 2))) (.cons (.swap 2 3 (.var 3) (.var 2)) .nil) .nil) aFj
noncomputable def aKb:Sts:=(.cons (.iff (.or (.cons (.not (.var 2)) (.cons (.not (.var 3)) .nil))) (.cons (.ret (.bin .mul (.glo 1) (.bin .add (.p1 .len (.var 2)) (.p1 .len (.var 3))))) .nil) .nil) (.cons (.iff (.or (.cons (.cmp1 .gt (.p1 .len (.var 2)) (.glo 0)) (.cons (.cmp1 .gt (.p1 .len (.var 3)) (.glo 0)) .nil))) (.cons (.ret (.bin .add (.var 4) (.int 1))) .nil) .nil) aFk))
noncomputable def gZ (T:Nat->List PV->Option PyData)(W:Nat)(xs:Sts)(E:AE)(d:PyData):Prop:=((exs aU T W xs E).bind fun p=>p.2)=some d
theorem bH {x:St}{xs:Sts}{E E1:AE}{d:PyData}(h:ex aU T W x E=some (E1,none))(h2:gZ T W xs E1 d):gZ T W (.cons x xs) E d:=by
 unfold gZ;rw[aX h rfl];exact h2
theorem kJ {x:St}{xs:Sts}{E E1:AE}{d:PyData}(h:ex aU T W x E=some (E1,some d)):gZ T W (.cons x xs) E d:=by
 unfold gZ;rw[nE h];rfl
theorem aJ8 (hT:aED T){a b:List Nat}{m:Nat}{E:AE}(h2:aI E 2=some (S a))(h3:aI E 3=some (S b))(h4:aI E 4=some (.int m))(ha:∀ x∈a,x∈qM)(hb:∀ x∈b,x∈qM)(la:a.length<=20)(lb:b.length<=20)(hab:a.length<=b.length) :
  gZ T W aFj E (.int (aDB m a b)):=by
 have la':=aP la (show 20<=1000 by decide)
 have lb':=aP lb (show 20<=1000 by decide)
 have hc:ev aU T (.cmp1 .gt (.bin .mul (.bin .sub (.p1 .len (.var 3)) (.p1 .len (.var 2))) (.glo 1)) (.var 4)) E=some (.bool (Nat.blt m ((b.length - a.length) * 2))) :=
  dG (dM (dM (fQ h3 lb') (fQ h2 la') (congrArg (fun z=>some (PyData.int z)) (Int.ofNat_sub hab).symm)) rfl (pT (a:=b.length - a.length) (b:=2) (by lia) (by decide))) h4 (lK m _)
 unfold aFj aDB
 cases q:Nat.blt m ((b.length - a.length) * 2)with
 | true =>
  rw[q]at hc;exact kJ ((gO hc).trans (dE (nR (dM h4 rfl (fU m 1)))))
 | false =>
  rw[q]at hc;have e7:mL 2 2 a.length=(aDd a.length 2).map fun p:Nat=>PyData.int p:=aDb a.length 2
  have hr:evIt aU T (.rng3 (.glo 1) (.bin .mul (.glo 1) (.bin .add (.p1 .len (.var 2)) (.int 1))) (.glo 1)) E=some ((aDd a.length 2).map fun p:Nat=>PyData.int p):=by
   rw[vP,show ev aU T (.glo 1) E=some (.int 2)from rfl,dM (show ev aU T (.glo 1) E=some (.int 2)from rfl) (dM (fQ h2 la') rfl (fU a.length 1)) (pT (a:=2) (by decide) (by lia)),<-e7]
   rw[aD,jC,aD,aD,jC,aD,aD,jC,aD,if_pos ⟨by decide,by decide,by decide,by decide,by lia,by lia⟩]
   unfold aHw
   rw[show(if (2:Int) < ((2 * (a.length+1):Nat):Int)then((((2 * (a.length+1):Nat):Int) - 2+2 - 1) / 2).toNat else 0)=a.length by
    by_cases w:a.length=0
    .rw[if_neg (by lia),w]
    .rw[if_pos (by lia)];lia]
  generalize hE2:(E.set 7 (.dat (bU (aDd a.length 2)))).set 8 (.dat (.int 0))=E2;have i2:LvB E2 a ([]++b) m (aDd a.length 2) 0:=by rw[<-hE2];exact⟨h2,h3,h4,rfl,rfl⟩
  (refine e2a2 (aGm (T:=T) (W:=W) hT ha la' b [] _ 0 E2 i2 (aDc _ _).symm hb lb') ?_;rintro E3 r g1 g2);have s3:ex aU T W (.forS (.name 9) (.rng1 (.p1 .len (.var 3))) yS) E2=some (E3,r):=qN (aGc (fQ i2.e3 lb') lb') g1;refine bH (lQ hc) (bH (xD (by rw[sY,hr];rfl)) (bH (E1:=E2) (by rw[<-hE2];rfl) ?_))
  refine g2.elim (fun g=>?_) (fun g=>?_)
  .rw[g.1]at s3
   exact bH s3 (kJ (nR g.2))
  .rw[g]at s3
   exact kJ s3
end
section
variable {T:Nat->List PV->Option PyData} {W:Nat}
theorem aO1 (hT:aED T){a b:List Nat}{m:Nat}{E:AE}(h2:aI E 2=some (S a))(h3:aI E 3=some (S b))(h4:aI E 4=some (.int m))(ha:∀ x∈a,x∈qM)(hb:∀ x∈b,x∈qM)(la:a.length<=20)(lb:b.length<=20) :
  gZ T W aFk E (.int ((bif Nat.blt b.length a.length then aDB m b a else aDB m a b:Nat):Int)):=by
 have hc:ev aU T (.cmp1 .lt (.p1 .len (.var 3)) (.p1 .len (.var 2))) E=some (.bool (Nat.blt b.length a.length)):=dG (fQ h3 (aP lb (by decide))) (fQ h2 (aP la (by decide))) (lK _ _)
 unfold aFk
 cases q:Nat.blt b.length a.length with
 | true =>
  rw[q]at hc;exact bH ((gO hc).trans (dE (by rw[aBB,bD,bD,h2,h3];rfl))) (aJ8 (E:=(E.set 3 (.dat (S a))).set 2 (.dat (S b))) hT rfl rfl h4 hb ha lb la (Nat.le_of_lt (dD q)))
 | false =>
  rw[q]at hc;exact bH (lQ hc) (aJ8 hT h2 h3 h4 ha hb la lb (Nat.le_of_not_lt fun k=>by rw[bA k]at q;exact nbf q))
theorem aO2 (hT:aED T){a b:List Nat}{m:Nat}{E:AE}(h2:aI E 2=some (S a))(h3:aI E 3=some (S b))(h4:aI E 4=some (.int m))(ha:∀ x∈a,x∈qM)(hb:∀ x∈b,x∈qM)(la:a.length<=20)(lb:b.length<=20) :
  gZ T W aKb E (.int (aKe m a b)):=by
 have l2:=fQ (T:=T) h2 (aP la (by decide))
 have l3:=fQ (T:=T) h3 (aP lb (by decide))
 have nt:∀ {i:Nat} {l:List Nat},aI E i=some (S l)->l.length<=20->ev aU T (.not (.var i)) E=some (.bool l.isEmpty):=fun h hl=>by
  rw[aLh,bD,h,aD,aJb (aP hl (by decide))]
  exact congrArg (fun q=>some (PyData.bool q)) (Bool.not_not _)
 have hc:ev aU T (.or (.cons (.not (.var 2)) (.cons (.not (.var 3)) .nil))) E=some (.bool (a.isEmpty || b.isEmpty)):=aJy (nt h2 la) (nt h3 lb);unfold aKb
 cases hq:a.isEmpty || b.isEmpty with
 | true =>
  rw[hq]at hc
  rw[show aKe m a b=2 * (a.length+b.length)by
   cases a with
   | nil=>show 2 * b.length=2 * (0+b.length);rw[Nat.zero_add]
   | cons x a =>
    cases b with
    | nil=>rfl
    | cons y b=>exact absurd hq aN]
  exact kJ ((gO hc).trans (dE (nR (dM (show ev aU T (.glo 1) E=some (.int 2)from rfl) (dM l2 l3 (fU _ _)) (pT (a:=2) (by decide) (by lia))))))
 | false =>
  rw[hq]at hc
  rw[show aKe m a b=bif Nat.blt b.length a.length then aDB m b a else aDB m a b by
   cases a with
   | nil=>exact absurd hq.symm aN
   | cons x a =>
    cases b with
    | nil=>exact absurd hq.symm aN
    | cons y b=>rfl]
  have big:∀ {n:Nat},n<=20->Nat.blt 40 n=false:=fun h=>gN (by lia)
  exact bH (lQ hc) (bH (lQ (aJy (p:=false) (q:=false) (dG l2 rfl (big la ▸ lK 40 a.length)) (dG l3 rfl (big lb ▸ lK 40 b.length)))) (aO1 hT h2 h3 h4 ha hb la lb))
theorem aCi (hT:aED T){a b:List Nat}{m:Nat}(ha:∀ x∈a,x∈qM)(hb:∀ x∈b,x∈qM)(la:a.length<=20)(lb:b.length<=20)(hne:a≠b) :
  cV aU T 100 uI lL [.dat (S a),.dat (S b),.dat (.int m)]=some (.int (wD a b m)):=by
 generalize hE:((AE.set (fun u_=>none) 4 (.dat (.int m))).set 3 (.dat (S b))).set 2 (.dat (S a))=E;have i_2:aI E 2=some (S a)/\aI E 3=some (S b)/\aI E 4=some (.int m):=by rw[<-hE];exact⟨rfl,rfl,rfl⟩
 have p:=wP a b;generalize hp:aAG a b=k at p;generalize ha1:a.drop k=a1;generalize hb1:b.drop k=b1;have q:=wP a1.reverse b1.reverse;rw[List.length_reverse,List.length_reverse]at q;generalize hq:aAG a1.reverse b1.reverse=j at q;have la1:a1.length<=20:=by rw[<-ha1,List.length_drop];lia
 have lb1:b1.length<=20:=by rw[<-hb1,List.length_drop];lia
 have hf:wD a b m=aKe m (a1.take (a1.length - j)) (b1.take (b1.length - j)):=by
  unfold wD;dsimp only;rw[hp,ha1,hb1,hq]
 show gZ T 100 lL _ _;rw[hE,hf];unfold lL;generalize hE1:E.set 5 (.dat (.int k))=E1;generalize hE2:(E1.set 2 (.dat (S a1))).set 3 (.dat (S b1))=E2;generalize hE3:E2.set 6 (.dat (.int (-(j:Int))))=E3;have i2:aI E2 2=some (S a1)/\aI E2 3=some (S b1)/\aI E2 4=some (.int m):=by rw[<-hE2,<-hE1];exact⟨rfl,rfl,i_2.2.2⟩
 have i3:aI E3 2=some (S a1)/\aI E3 3=some (S b1)/\aI E3 4=some (.int m)/\aI E3 6=some (.int (-(j:Int))):=by rw[<-hE3];exact⟨i2.1,i2.2.1,i2.2.2,bN⟩
 have i1:aI E1 2=some (S a)/\aI E1 3=some (S b)/\aI E1 5=some (.int k):=by rw[<-hE1];exact⟨i_2.1,i_2.2.1,bN⟩
 have p1:=aDi (T:=T) (W:=100) a b [] [] 100 (E.set 5 (.dat (.int 0))) i_2.1 i_2.2.1 rfl rfl (by lia) (by show a.length<=1000;lia) (by show b.length<=1000;lia)
 rw[wN,hp,List.length_nil,Nat.zero_add,hE1]at p1;have p2:=aA9 (T:=T) (W:=100) a1.reverse b1.reverse [] [] 100 (E2.set 6 (.dat (.int 0))) (by rw[List.reverse_reverse,List.append_nil];exact i2.1) (by rw[List.reverse_reverse,List.append_nil];exact i2.2.1) rfl rfl (by rw[List.length_reverse];lia) (by rw[List.reverse_reverse,List.append_nil];lia) (by rw[List.reverse_reverse,List.append_nil];lia)
 rw[wN,hq,List.length_nil,Nat.zero_add,hE3]at p2
 refine bH (lQ (dG i_2.1 i_2.2.1 (show kP .eq (S a) (S b)=some false from congrArg some (decide_eq_false hne)))) (bH (E1:=E.set 5 (.dat (.int 0))) rfl (bH p1 (bH (dL (oC i1.1 i1.2.2 rfl (ha1 ▸ xQ (by lia) p.1))) (bH (E1:=E2) (hE2 ▸ dL (oC (x:=S b) i1.2.1 i1.2.2 rfl (hb1 ▸ xQ (by lia) p.2))) (bH (E1:=E2.set 6 (.dat (.int 0))) rfl (bH p2
  (bH (dL (aER i3.1 i3.2.2.2 q.1 (by lia))) (bH (dL (aER (i:=3) i3.2.1 i3.2.2.2 q.2 (by lia))) ?_))))))))
 exact aO2 hT rfl rfl i3.2.2.1 (fun x w=>ha x (List.mem_of_mem_drop (ha1 ▸ List.mem_of_mem_take w))) (fun x w=>hb x (List.mem_of_mem_drop (hb1 ▸ List.mem_of_mem_take w))) (aP (List.length_take_le _ _) (by lia)) (aP (List.length_take_le _ _) (by lia))
end
theorem pW {J σ:Type}{body:AE->Option (AE × Option PyData)}{bindv:PyData->AE->Option AE}(I:Nat->σ->AE->Prop)(mk:J->PyData)(f:σ->J->σ):∀ (xs:List J) (s:σ) (E:AE),
  (∀ x∈xs,∀ n s E,I (n+1) s E->∃ E1 E2,bindv (mk x) E=some E1/\body E1=some (E2,none)/\I n (f s x) E2)->I xs.length s E->∃ E',forLoop body bindv (xs.map mk) E=some (E',none)/\I 0 (xs.foldl f s) E'
 | []=>fun s E _ h=>⟨E,rfl,h⟩
 | x::xs=>fun s E hs h=>by
  (refine e2a3 (hs x aF xs.length s E h) ?_;rintro E1 E2 h1 h2 h3);(refine e1a2 (pW I mk f xs (f s x) E2 (fun y m=>hs y (aE _ m)) h3) ?_;rintro E' h4 h5);exact⟨E',by rw[aY,lW,h1,aD,h2,aD];exact h4,h5⟩
theorem nS {P:Nat->Prop}(h1:P 97)(h2:P 65)(h3:P 98)(h4:P 66){x:Nat}(h:x∈qM):P x:=by
 unfold qM at h
 rcases aM h with rfl | h
 .exact h1
 rcases aM h with rfl | h
 .exact h2
 rcases aM h with rfl | h
 .exact h3
 .exact(aH h) ▸ h4
noncomputable def aB3 (x y:Nat):Nat:=4 - xK x y
theorem aO5 {x y:Nat}(hx:x∈qM)(hy:y∈qM):kP .eq (S [cK x]) (S [cK y])=some (Nat.beq (x % 32) (y % 32)) :=
 (xB _ _).trans (congrArg some (nS (P:=fun x=>Nat.beq (cK x) (cK y)=Nat.beq (x % 32) (y % 32)) (nS (P:=fun y=>Nat.beq (cK 97) (cK y)=Nat.beq (97 % 32) (y % 32)) rfl rfl rfl rfl hy) (nS (P:=fun y=>Nat.beq (cK 65) (cK y)=Nat.beq (65 % 32) (y % 32)) rfl rfl rfl rfl hy)
  (nS (P:=fun y=>Nat.beq (cK 98) (cK y)=Nat.beq (98 % 32) (y % 32)) rfl rfl rfl rfl hy) (nS (P:=fun y=>Nat.beq (cK 66) (cK y)=Nat.beq (66 % 32) (y % 32)) rfl rfl rfl rfl hy) hx))
theorem aGn {x:Nat}(hx:x∈qM):uT .lower (S [x])=some (S [cK x]):=nS (P:=fun x=>uT .lower (S [x])=some (S [cK x])) rfl rfl rfl rfl hx
noncomputable abbrev Way:=Nat × Nat × Nat
noncomputable def aLS (i j s:Nat)(ws:List Way):List Way:=List.rec (motive:=fun _=>List Way) [] (fun w _ ih=>bif Nat.blt w.1 i then(bif Nat.blt w.2.1 j then(i,j,w.2.2+s)::ih else ih)else ih) ws
theorem aCP (i j s:Nat):∀ ws:List Way,aLS i j s ws=(ws.filter fun w=>Nat.blt w.1 i && Nat.blt w.2.1 j).map fun w=>(i,j,w.2.2+s)
 | []=>rfl
 | w::ws=>by
  show(bif Nat.blt w.1 i then(bif Nat.blt w.2.1 j then(i,j,w.2.2+s)::aLS i j s ws else aLS i j s ws)else aLS i j s ws)=_;rw[aCP i j s ws,List.filter_cons]
  cases Nat.blt w.1 i with
  | false=>rfl
  | true=>cases Nat.blt w.2.1 j <;> rfl
noncomputable def aAE (one other:List Nat)(i:Nat)(ws:List Way)(j:Nat):List Way:=ws++aLS (i+1) (j+1) (aB3 (one.getD i 0) (other.getD j 0)) ws
noncomputable def aCW (one other:List Nat):List Way:=(List.range one.length).foldl (fun ws i=>(List.range other.length).foldl (aAE one other i) ws) [(0,0,0)]
noncomputable def zT (one other:List Nat):Nat:=(aCW one other).foldl (fun a w=>bif Nat.blt a w.2.2 then w.2.2 else a) 0
noncomputable def xE (B:Nat)(w:Way):PyData:=.tuple [.int ((w.1:Int) - 1),.int ((w.2.1:Int) - 1),.int ((B:Int) - (w.2.2:Nat))]
theorem aL4 (one other:List Nat)(i:Nat)(ws:List Way)(j:Nat):(aAE one other i ws j).length<=ws.length * 2/\ws.length<=(aAE one other i ws j).length:=by
 unfold aAE;rw[aCP,aG,aK];have:=List.length_filter_le (fun w:Way=>Nat.blt w.1 (i+1) && Nat.blt w.2.1 (j+1)) ws;lia
theorem aJ0 (B:Int):∀ (ws:List Way) (a:Nat),uF (B - a) (ws.map fun w=>B - (w.2.2:Nat))=B - (ws.foldl (fun a w=>bif Nat.blt a w.2.2 then w.2.2 else a) a:Nat)
 | []=>fun a=>rfl
 | w::ws=>fun a=>by
  rw[aY,aFh,List.foldl_cons,<-aJ0 B ws]
  congr 1
  by_cases q:a < w.2.2
  .rw[bA q,if_pos (by lia)];rfl
  .rw[gN q,if_neg (by lia)];rfl
theorem aG4 (a i:Nat):decide ((a:Int) - 1 < (i:Int))=Nat.blt a (i+1):=by
 by_cases q:a < i+1
 .rw[bA q,decide_eq_true (by lia)]
 .rw[gN q,decide_eq_false (by lia)]
theorem zA {J:Type}(f:J->Int):∀ l:List J,aDM (l.map fun w=>PyData.int (f w))=some (l.map f)
 | []=>rfl
 | x::l=>by rw[aY,aPy,zA f l];rfl
section
variable {T:Nat->List PV->Option PyData} {W:Nat}
structure CsB (E:AE)(one other:List Nat)(i:Nat)(ws:List Way):Prop where
 e62:aI E 62=some (S one)
 e63:aI E 63=some (S other)
 e65:aI E 65=some (.int i)
 e64:aI E 64=some (.list (ws.map (xE (2 * (one.length+other.length)))))
theorem aI0 {one other:List Nat}(h1:∀ x∈one,x∈qM)(h2:∀ x∈other,x∈qM)(l1:one.length<=1000)(l2:other.length<=1000){i j:Nat}(hi:i < one.length)(hj:j < other.length){ws:List Way}{E:AE}(h:CsB E one other i ws)(hl:ws.length<=1000) :
  ∃ E1 E2,dF (.name 66) (.int j) E=some E1/\exs aU T W rG E1=some (E2,none)/\CsB E2 one other i (aAE one other i ws j):=by
 have g1:one[i]?=some (one.getD i 0):=oZ hi;have g2:other[j]?=some (other.getD j 0):=oZ hj;have m1:=h1 _ (List.mem_of_getElem? g1);have m2:=h2 _ (List.mem_of_getElem? g2);generalize hx:one.getD i 0=x at g1 m1;generalize hy:other.getD j 0=y at g2 m2;generalize hB:2 * (one.length+other.length)=B;have h64:aI E 64=some (.list (ws.map (xE B))):=hB ▸ h.e64;have t1:ev aU T (.idx (.var 62) (.var 65)) (E.set 66 (.dat (.int j)))=some (S [x]):=dO h.e62 h.e65 (nN g1 l1);have t2:ev aU T (.idx (.var 63) (.var 66)) (E.set 66 (.dat (.int j)))=some (S [y]):=dO h.e63 rfl (nN g2 l2)
 have s1:ev aU T (.ite (.cmp1 .eq (.idx (.var 62) (.var 65)) (.idx (.var 63) (.var 66))) (.int 4) (.ite (.cmp1 .eq (.p1 .lower (.idx (.var 62) (.var 65))) (.p1 .lower (.idx (.var 63) (.var 66)))) (.int 3) (.int 2))) (E.set 66 (.dat (.int j)))=some (.int (aB3 x y)):=by
  refine aGe (dG t1 t2 (xB x y)) ?_;unfold aB3 xK
  cases Nat.beq x y with
  | true=>rfl
  | false =>
   refine aGe (dG (uB t1 (aGn m1)) (uB t2 (aGn m2)) (aO5 m1 m2)) ?_;cases Nat.beq (x % 32) (y % 32) <;> rfl
 generalize hE2:(E.set 66 (.dat (.int j))).set 67 (.dat (.int (aB3 x y)))=E2;have k2:aI E2 64=some (.list (ws.map (xE B)))/\aI E2 65=some (.int i)/\aI E2 66=some (.int j)/\aI E2 67=some (.int (aB3 x y)):=by rw[<-hE2];exact⟨h64,h.e65,rfl,bN⟩
 have hc:ev aU T (.comp (.tup (.cons (.var 65) (.cons (.var 66) (.cons (.bin .sub (.var 68) (.var 67)) .nil)))) (.tup [2,3,68]) (.val (.var 64)) (.cons (.and (.cons (.cmp1 .lt (.var 2) (.var 65)) (.cons (.cmp1 .lt (.var 3) (.var 66)) .nil))) .nil)) E2=_ :=
  aEW (fun w:Way=>Nat.blt w.1 (i+1) && Nat.blt w.2.1 (j+1)) (f:=fun w:Way=>xE B (i+1,j+1,w.2.2+aB3 x y)) (Ed:=fun w:Way=>((E2.set 2 (.dat (.int ((w.1:Int) - 1)))).set 3 (.dat (.int ((w.2.1:Int) - 1)))).set 68 (.dat (.int ((B:Int) - (w.2.2:Nat))))) (aA6 k2.1 (by rw[aK];exact hl)) fun w m=>⟨rfl,aJx (aA7 (dG rfl k2.2.1 (congrArg some (aG4 w.1 i))) (dG rfl k2.2.2.1 (congrArg some (aG4 w.2.1 j)))),by
   refine Eq.trans (aEV k2.2.1 k2.2.2.1 (dM rfl k2.2.2.2 rfl)) ?_;unfold xE;dsimp only;rw[show((i+1:Nat):Int) - 1=i by lia,show((j+1:Nat):Int) - 1=j by lia,show(B:Int) - ((w.2.2+aB3 x y:Nat):Int)=(B:Int) - (w.2.2:Nat) - aB3 x y by lia]⟩
 have hw:ws.map (xE B)++(ws.filter fun w:Way=>Nat.blt w.1 (i+1) && Nat.blt w.2.1 (j+1)).map (fun w:Way=>xE B (i+1,j+1,w.2.2+aB3 x y))=(aAE one other i ws j).map (xE B):=by
  rw[aAE,aCP,hx,hy,List.map_append,List.map_map];rfl
 have hf:=List.length_filter_le (fun w:Way=>Nat.blt w.1 (i+1) && Nat.blt w.2.1 (j+1)) ws;refine⟨_,E2.set 64 (.dat (.list ((aAE one other i ws j).map (xE B)))),rfl,aX (hE2 ▸ dL s1) (dE (hw ▸ aQH k2.1 hc (by rw[aK,aK];lia))),by rw[<-hE2,<-hB];exact⟨h.e62,h.e63,h.e65,bN⟩⟩
theorem aLA {one other:List Nat}(h1:∀ x∈one,x∈qM)(h2:∀ x∈other,x∈qM)(l1:one.length<=3)(l2:other.length<=3) :
  cV aU T W kI gH [.dat (S one),.dat (S other)]=some (.int (((2 * (one.length+other.length):Nat):Int) - zT one other)):=by
 have l1':=aP l1 (show 3<=1000 by decide)
 have l2':=aP l2 (show 3<=1000 by decide)
 generalize hE:(AE.set (fun u_=>none) 63 (.dat (S other))).set 62 (.dat (S one))=E;have i0:aI E 62=some (S one)/\aI E 63=some (S other):=by rw[<-hE];exact⟨rfl,rfl⟩
 show gZ T W gH _ _;rw[hE];generalize hB:2 * (one.length+other.length)=B;generalize hE1:E.set 64 (.dat (.list ([(0,0,0)].map (xE B))))=E1;unfold gH
 refine bH (E1:=E1) (hE1 ▸ xD (by
  refine Eq.trans (aJz (aEV rfl rfl (dM (show ev aU T (.int 2) E=_ from rfl) (dM (fQ i0.1 l1') (fQ i0.2 l2') (fU _ _)) (pT (a:=2) (by decide) (by lia))))) ?_
  rw[hB];show some (PyData.list [.tuple [.int (-1),.int (-1),.int (B:Nat)]])=some (.list [.tuple [.int (-1),.int (-1),.int ((B:Int) - 0)]]);rw[Int.sub_zero])) ?_
 have out:=pW (body:=fun E'=>exs aU T W rH E') (bindv:=fun d E'=>dF (.name 65) d E') (fun n ws E=>∃ i,CsB (E.set 65 (.dat (.int (i:Nat)))) one other i ws/\ws.length * 2 ^ (n * other.length)<=512/\1<=ws.length) (fun p:Nat=>PyData.int p) (fun ws i=>(List.range other.length).foldl (aAE one other i) ws) (List.range one.length) [(0,0,0)] E1
  (fun i hi n ws E h=>by
   (refine e1a3 h ?_;rintro i' g1 g2 g3);refine⟨E.set 65 (.dat (.int i)),?_⟩;generalize hF:E.set 65 (.dat (.int i))=F;have gF:CsB F one other i ws:=by rw[<-hF];exact⟨g1.e62,g1.e63,bN,g1.e64⟩
   have inn:=pW (body:=fun E'=>exs aU T W rG E') (bindv:=fun d E'=>dF (.name 66) d E') (fun k ws E=>CsB E one other i ws/\ws.length * 2 ^ (k+n * other.length)<=512/\1<=ws.length) (fun p:Nat=>PyData.int p) (aAE one other i) (List.range other.length) ws F
    (fun j hj k ws E h=>by
     have hp:1<=2 ^ (k+n * other.length):=Nat.one_le_two_pow;have hw:=aL4 one other i ws j;have h2':=h.2.1;rw[show k+1+n * other.length=(k+n * other.length)+1 by lia,Nat.pow_succ,Nat.mul_comm (2 ^ _),<-Nat.mul_assoc]at h2'
     have hlen:ws.length<=512:=aP (aP (Nat.le_mul_of_pos_right _ (by decide:0 < 2)) (Nat.le_mul_of_pos_right _ hp)) h2'
     (refine e2a3 (aI0 (T:=T) (W:=W) h1 h2 l1' l2' (List.mem_range.mp hi) (List.mem_range.mp hj) h.1 (aP hlen (by decide))) ?_;rintro F1 F2 k1 k2 k3)
     exact⟨F1,F2,k1,k2,k3,aP (Nat.mul_le_mul_right _ hw.1) h2',aP h.2.2 hw.2⟩)
    ⟨gF,by rw[List.length_range,show other.length+n * other.length=(n+1) * other.length by rw[Nat.succ_mul,Nat.add_comm]];exact g2,g3⟩
   (refine e1a2 inn ?_;rintro F' k1 k2);refine⟨F',congrArg some hF,?_,i,?_,?_,k2.2.2⟩
   .unfold rH
    exact dE (qN (xU (fQ gF.e63 l2') l2') k1)
   .rw[jO (jT k2.1.e65)];exact k2.1
   .have:=k2.2.1
    rw[Nat.zero_add]at this;exact this)
  ⟨0,by rw[<-hE1];exact⟨i0.1,i0.2,bN,by rw[hB];rfl⟩,by
   rw[List.length_range];show 1 * 2 ^ _<=512;have:one.length * other.length<=9:=Nat.mul_le_mul l1 l2;exact aP (Nat.le_of_eq (Nat.one_mul _)) (Nat.pow_le_pow_right (by decide) this),Nat.le_refl _⟩
 have i1:aI E1 62=some (S one):=by rw[<-hE1];exact i0.1
 (refine e1a2 out ?_;rintro E2 g1 g2);(refine e1a3 g2 ?_;rintro i k1 k2 k3);refine bH (qN (xU (fQ i1 l1') l1') g1) ?_;have h64:aI E2 64=some (.list ((aCW one other).map (xE B))):=by rw[<-hB];exact k1.e64
 have hn:1<=(aCW one other).length/\(aCW one other).length<=512:=⟨k3,aP (Nat.le_mul_of_pos_right _ (Nat.one_le_two_pow)) k2⟩;unfold zT;generalize aCW one other=ws at h64 hn;have hc:ev aU T (.comp (.var 68) (.tup [2,3,68]) (.val (.var 64)) .nil) E2=_:=aA8 (f:=fun w:Way=>.int ((B:Int) - (w.2.2:Nat))) (Ed:=fun w:Way=>((E2.set 2 (.dat (.int ((w.1:Int) - 1)))).set 3 (.dat (.int ((w.2.1:Int) - 1)))).set 68 (.dat (.int ((B:Int) - (w.2.2:Nat))))) (aA6 h64 (by rw[aK];lia)) fun w m=>⟨rfl,rfl⟩
 refine kJ (nR (uB hc ?_));rw[lZ,zA]
 cases ws with
 | nil=>exact absurd hn.1 (by decide)
 | cons w ws =>
  show some (PyData.int (uF ((B:Int) - (w.2.2:Nat)) (ws.map fun w=>(B:Int) - (w.2.2:Nat))))=_
  rw[aJ0,List.foldl_cons,show(bif Nat.blt 0 w.2.2 then w.2.2 else 0)=w.2.2 by
   cases w.2.2 with
   | zero=>rfl
   | succ n=>rfl]
end
noncomputable def iK:Nat->List (List Nat)
 | 0=>[[]]
 | n+1=>(iK n).flatMap fun w=>[97::w,65::w,98::w,66::w]
noncomputable def W85:List (List Nat):=[]::(iK 1++(iK 2++iK 3))
noncomputable def eqL:List Nat->List Nat->Bool
 | [],[]=>true
 | x::a,y::b=>bif Nat.beq x y then eqL a b else false
 | _,_=>false
noncomputable def aJF (a b:List Nat)(k c:Nat):Bool:=Nat.beq (k+c) (2 * (a.length+b.length)) && (Nat.ble c 6 && (bif eqL a b then Nat.beq c 0 else Nat.ble 1 c && (Nat.beq (wD a b 13) c && (Nat.beq (wD a b c) c && Nat.beq (wD b a (c - 1)) c))))
noncomputable def yC (a b:List Nat):Bool:=aJF a b (zT a b) (2 * (a.length+b.length) - zT a b)
noncomputable def uA (as:List (List Nat)):Bool:=as.all fun a=>W85.all (yC a)
theorem pk0:uA ([]::(iK 1++iK 2))=true:=by kernel_rfl
theorem pk1:uA ((iK 3).take 16)=true:=by kernel_rfl
theorem pk2:uA (((iK 3).drop 16).take 16)=true:=by kernel_rfl
theorem pk3:uA ((((iK 3).drop 16).drop 16).take 16)=true:=by kernel_rfl
theorem pk4:uA ((((iK 3).drop 16).drop 16).drop 16)=true:=by kernel_rfl
theorem uG:∀ l:List Nat,(∀ x∈l,x∈qM)->l∈iK l.length
 | []=>fun _=>List.mem_singleton.mpr rfl
 | x::l=>fun h=>List.mem_flatMap.mpr ⟨l,uG l fun y m=>h y (aE _ m),nS (P:=fun x=>x::l∈[97::l,65::l,98::l,66::l]) (.head _) (.tail _ (.head _)) (.tail _ (.tail _ (.head _))) (.tail _ (.tail _ (.tail _ (.head _)))) (h x aF)⟩
theorem aNS {P:Nat->Prop}(h0:P 0)(h1:P 1)(h2:P 2)(h3:P 3){n:Nat}(h:n<=3):P n:=by
 rcases lt4 (Nat.lt_succ_of_le h)with rfl | rfl | rfl | rfl
 .exact h0
 .exact h1
 .exact h2
 .exact h3
theorem aCo {J:Type}{l:List J}{n:Nat}{x:J}(h:x∈l):x∈l.take n\/x∈l.drop n:=bF ((List.take_append_drop n l).symm ▸ h)
theorem mK {as:List (List Nat)}(h:uA as=true){a:List Nat}(m:a∈as):W85.all (yC a)=true:=aJ h a m
theorem aJE {a b:List Nat}(ha:∀ x∈a,x∈qM)(hb:∀ x∈b,x∈qM)(la:a.length<=3)(lb:b.length<=3):yC a b=true:=by
 have ma:=uG a ha;have mb:=uG b hb;have mb:b∈W85:=aNS (P:=fun n=>b∈iK n->b∈W85) (fun m=>aH m ▸ .head _) (fun m=>.tail _ (aW _ m)) (fun m=>.tail _ (aZ _ (aW _ m))) (fun m=>.tail _ (aZ _ (aZ _ m))) lb mb;refine aJ ?_ b mb;refine aNS (P:=fun n=>a∈iK n->W85.all (yC a)=true) (fun m=>mK pk0 (aH m ▸ .head _)) (fun m=>mK pk0 (.tail _ (aW _ m))) (fun m=>mK pk0 (.tail _ (aZ _ m))) (fun m=>?_) la ma;exact(aCo m).elim (mK pk1) fun m=>(aCo m).elim (mK pk2) fun m=>(aCo m).elim (mK pk3) (mK pk4)
theorem tC:∀ a b:List Nat,eqL a b=true->a=b
 | [],[]=>fun _=>rfl
 | [],_::_=>fun h=>nomatch h
 | _::_,[]=>fun h=>nomatch h
 | x::a,y::b=>fun h=>by
  have h:(bif Nat.beq x y then eqL a b else false)=true:=h
  cases q:Nat.beq x y with
  | false=>rw[q]at h;exact absurd h aN
  | true =>
   rw[q]at h;rw[aT q,tC a b h]
theorem aD3:∀ a:List Nat,eqL a a=true
 | []=>rfl
 | x::a=>by show(bif Nat.beq x x then eqL a a else false)=true;rw[Nat.beq_refl];exact aD3 a
noncomputable def gJ (a b:List Nat):Nat:=2 * (a.length+b.length) - zT a b
theorem aEX {a b:List Nat}(h:yC a b=true):zT a b+gJ a b=2 * (a.length+b.length)/\gJ a b<=6/\(a=b->gJ a b=0)/\(a≠b->1<=gJ a b/\wD a b 13=gJ a b/\wD a b (gJ a b)=gJ a b/\wD b a (gJ a b - 1)=gJ a b):=by
 have h:aJF a b (zT a b) (gJ a b)=true:=h;generalize gJ a b=c at h ⊢;unfold aJF at h;rw[Bool.and_eq_true,Bool.and_eq_true]at h;refine⟨aT h.1,bO h.2.1,fun e=>?_,fun e=>?_⟩
 .have h:=h.2.2
  rw[e,aD3]at h;exact aT h
 .have h:=h.2.2
  rw[show eqL a b=false by rw[<-Bool.not_eq_true];exact fun q=>e (tC a b q)]at h
  have h:(Nat.ble 1 c && (Nat.beq (wD a b 13) c && (Nat.beq (wD a b c) c && Nat.beq (wD b a (c - 1)) c)))=true:=h;rw[Bool.and_eq_true,Bool.and_eq_true,Bool.and_eq_true]at h;exact⟨bO h.1,aT h.2.1,aT h.2.2.1,aT h.2.2.2⟩
theorem yQ {T:Nat->List PV->Option PyData}{W:Nat}(a:List Nat)(z:Int):cV aU T W uI lL [.dat (S a),.dat (S a),.dat (.int z)]=some (.int 0):=by
 show gZ T W lL _ _;unfold lL
 exact kJ (E1:=((AE.set (fun u_=>none) 4 (.dat (.int z))).set 3 (.dat (S a))).set 2 (.dat (S a))) (by
  rw[aDV,lY,bD,bD]
  show((((some (decide (a=a))).bind fun r=>some (PyData.bool r)).bind fun x=>(tr x).bind fun q=>match q with
   | true=>exs aU T W (.cons (.ret (.int 0)) .nil) _
   | false=>exs aU T W .nil _))=_
  rw[decide_eq_true rfl];rfl)
structure aG9 (T:Nat->List PV->Option PyData)(a b:List Nat):Prop where
 c:T 6 [.dat (S a),.dat (S b)]=some (.int (gJ a b))
 t13:T 0 [.dat (S a),.dat (S b),.dat (.int 13)]=some (.int (gJ a b))
 tc:T 0 [.dat (S a),.dat (S b),.dat (.int (gJ a b))]=some (.int (gJ a b))
 tb:T 0 [.dat (S b),.dat (S a),.dat (.int ((gJ a b:Int) - 1))]=some (.int (gJ a b))
 le:gJ a b<=6
theorem aMd {T T' T'':Nat->List PV->Option PyData}{W:Nat}(hT:aED T')(h0:T 0=cV aU T' 100 uI lL)(h6:T 6=cV aU T'' W kI gH){a b:List Nat}(ha:∀ x∈a,x∈qM)(hb:∀ x∈b,x∈qM)(la:a.length<=3)(lb:b.length<=3):aG9 T a b:=by
 have f:=aEX (aJE ha hb la lb);have la':=aP la (show 3<=20 by decide)
 have lb':=aP lb (show 3<=20 by decide)
 have hc:T 6 [.dat (S a),.dat (S b)]=some (.int (gJ a b)):=by
  rw[h6,aLA ha hb la lb]
  congr 2
  lia
 by_cases e:a=b
 .subst e
  rw[f.2.2.1 rfl]at hc;refine⟨?_,?_,?_,?_,f.2.1⟩
  .rw[f.2.2.1 rfl];exact hc
  .rw[f.2.2.1 rfl,h0];exact yQ a 13
  .rw[f.2.2.1 rfl,h0];exact yQ a 0
  .rw[f.2.2.1 rfl,h0];exact yQ a _
 .have g:=f.2.2.2 e
  refine⟨hc,?_,?_,?_,f.2.1⟩
  .rw[h0,show(13:Int)=((13:Nat):Int)from rfl,aCi hT ha hb la' lb' e,g.2.1]
  .rw[h0,aCi hT ha hb la' lb' e,g.2.2.1]
  .rw[h0,show(gJ a b:Int) - 1=((gJ a b - 1:Nat):Int)by lia,aCi hT hb ha lb' la' (fun q=>e q.symm),g.2.2.2]
noncomputable def ED:List (Nat × Nat × Nat):=[(0,1,0),(1,2,0),(2,2,1),(3,3,0),(4,3,1),(5,3,2)]
noncomputable abbrev HM:=List Nat × List (List Nat) × List Nat
noncomputable def aBw (h:List Nat)(a b:Nat):List Nat:=h.map fun t=>bif Nat.beq t b then a else t
noncomputable def aDx (m:List (List Nat))(a b:Nat):List (List Nat):=(m.set a (m.getD a []++m.getD b [])).set b []
noncomputable def mst (N:List Bool)(s:HM)(e:Nat × Nat × Nat):HM :=
 bif N.getD e.1 false && !(Nat.beq (s.1.getD e.2.2 0) (s.1.getD e.2.1 0))then
  (aBw s.1 (s.1.getD e.2.2 0) (s.1.getD e.2.1 0),aDx s.2.1 (s.1.getD e.2.2 0) (s.1.getD e.2.1 0),s.2.2++[e.1])else s
noncomputable def fF (h:List Nat)(p:Nat):Bool:=h.any (Nat.beq p)
noncomputable def cN (h:List Nat):List Nat:=(List.range 4).filter (fF h)
noncomputable def aAI (h:List Nat):List (List Nat):=(List.range 4).map fun i=>bif fF h i then[i]else[]
noncomputable def sH (N:List Bool)(h:List Nat):HM:=ED.foldl (mst N) (h,aAI h,[])
noncomputable def pat (h:List Nat):List Bool:=ED.map fun e=>Nat.beq (h.getD e.2.1 0) (h.getD e.2.2 0)
noncomputable def clB:List Bool->List Bool
 | [a,b,c,d,e,f]=>[a || (b && c || (d && e || (b && (f && e) || d && (f && c)))),b || (a && c || (d && f || (a && (e && f) || d && (e && c)))),c || (a && b || (e && f || (a && (d && f) || b && (d && e)))),
  d || (a && e || (b && f || (a && (c && f) || b && (c && e)))),e || (a && d || (c && f || (a && (b && f) || b && (c && d)))),f || (b && d || (c && e || (a && (b && e) || a && (c && d))))]
 | _=>[]
noncomputable def zor (X Y:List Bool):List Bool:=List.zipWith (fun a b=>a || b) X Y
noncomputable def aFY:Nat->List (List Bool)
 | 0=>[[]]
 | n+1=>(aFY n).flatMap fun w=>[false::w,true::w]
noncomputable def aFX (k:Nat):Nat->List (List Nat)
 | 0=>[[]]
 | n+1=>(aFX k n).flatMap fun w=>(List.range k).map fun x=>x::w
theorem lT:∀ l:List Bool,l∈aFY l.length
 | []=>List.mem_singleton.mpr rfl
 | b::l=>List.mem_flatMap.mpr ⟨l,lT l,by
  cases b
  .exact .head _
  .exact .tail _ (.head _)⟩
theorem yN (k:Nat):∀ l:List Nat,(∀ x∈l,x < k)->l∈aFX k l.length
 | []=>fun _=>List.mem_singleton.mpr rfl
 | x::l=>fun h=>List.mem_flatMap.mpr ⟨l,yN k l fun y m=>h y (aE _ m),List.mem_map.mpr ⟨x,List.mem_range.mpr (h x aF),rfl⟩⟩
noncomputable def eqB:List Bool->List Bool->Bool
 | [],[]=>true
 | a::x,b::y=>(a == b) && eqB x y
 | _,_=>false
theorem nH:∀ {x y:List Bool},eqB x y=true->x=y
 | [],[]=>fun _=>rfl
 | [],_::_=>fun h=>nomatch h
 | _::_,[]=>fun h=>nomatch h
 | a::x,b::y=>fun h=>by rw[eq_of_beq (aB h).1,nH (aB h).2]
theorem aD4:∀ x:List Bool,eqB x x=true
 | []=>rfl
 | a::x=>by show((a == a) && eqB x x)=true;rw[aD4 x,beq_self_eq_true];rfl
noncomputable def hvB (h:List Nat):Bool:=Nat.beq h.length 4 && (h.all (fun x=>Nat.blt x 4) && h.all fun x=>Nat.beq (h.getD x 0) x)
noncomputable def qT (A:List Nat):List Bool:=(List.range 6).map fun k=>fF A k
noncomputable def T6:List Bool:=[true,true,true,true,true,true]
noncomputable def aQ0 (r:Nat)(l:List Nat):Bool:=match l with
 | x::_=>Nat.beq x r
 | []=>false
noncomputable def lN (x:Nat)(l:List Nat):Nat:=(l.filter (Nat.beq x)).length
noncomputable def aNN (h:List Nat)(N:List Bool)(q:HM):Bool :=
 hvB q.1 && (eqB (clB (zor (pat h) N)) (pat q.1) && (eqB (clB (zor (pat h) (qT q.2.2))) (pat q.1) && (Nat.beq (q.2.2.length+(cN q.1).length) (cN h).length &&
 (q.2.2.all (fun k=>Nat.blt k 6 && N.getD k false) && ((List.range 4).all (fun r=>bif fF q.1 r then aQ0 r (q.2.1.getD r []) && (q.2.1.getD r []).all (fF h)else(q.2.1.getD r []).isEmpty) &&
 (((cN q.1).flatMap fun r=>q.2.1.getD r []).isPerm (cN h) &&
 ((cN q.1).all (fun r=>(List.range 4).all fun i=>Nat.beq (lN (h.getD i 0) (q.2.1.getD r [])) (bif Nat.beq (q.1.getD i 0) r then 1 else 0)) && Nat.beq q.2.1.length 4)))))))
noncomputable def aR6 (h:List Nat):Bool:=(aFY 6).all fun N=>aNN h N (sH N h)
theorem aMv:(aFX 4 4).all (fun h=>!(hvB h) || aR6 h)=true:=by kernel_rfl
theorem aI2:(aFY 6).all (fun X=>(aFY 6).all fun Y=>eqB (clB (zor X Y)) (clB (zor (clB X) Y)))=true:=by kernel_rfl
noncomputable def eI (i j:Nat):Nat:=([[9,0,1,3],[0,9,2,4],[1,2,9,5],[3,4,5,9]].getD i []).getD j 9
noncomputable def TL:List (List Nat):=[[0,1,3],[0,2,4],[1,2,5],[3,4,5]]++(List.range 4).flatMap fun a=>(List.range 4).flatMap fun b=>(List.range 4).flatMap fun c =>
 bif !(Nat.beq a b) && (!(Nat.beq b c) && !(Nat.beq c a))then[[eI a b,eI b c,eI c (6 - a - b - c)]]else[]
noncomputable def aNQ (h:List Nat)(S:List Bool):Bool:=TL.all fun t=>Nat.ble (cN h).length ((t.filter fun k=>!(S.getD k false)).length+1)
theorem aMG:(aFX 4 4).all (fun h=>!(hvB h) || (aFY 6).all fun S=>!(eqB (clB S) (pat h)) || aNQ h S)=true:=by kernel_rfl
theorem aMc:(aFX 6 3).all (fun A=>!(eqB (clB (qT A)) T6) || TL.any fun t=>A.isPerm t)=true:=by kernel_rfl
noncomputable def aSe (h:List Nat):Bool:=Nat.ble 1 (cN h).length && ((bif Nat.beq (cN h).length 1 then(List.range 4).any (fun r=>eqL (cN h) [r] && eqL h [r,r,r,r]) && eqB (pat h) T6 else !(eqB (pat h) T6)) && Nat.ble (cN h).length 4)
theorem aP0:(aFX 4 4).all (fun h=>!(hvB h) || aSe h)=true:=by kernel_rfl
theorem aLR {f:List Nat->Bool}(k:(aFX 4 4).all (fun h=>!(hvB h) || f h)=true){h:List Nat}(hv:hvB h=true):f h=true:=by
 have e:=aB hv;have m:=yN 4 h fun x m=>dD (aJ (aB e.2).1 x m);rw[aT e.1]at m;have g:=aJ k h m;rw[hv]at g;exact g
theorem aDN {h:List Nat}(hv:hvB h=true):h.length=4/\∀ i,i < 4->h.getD i 0 < 4/\fF h (h.getD i 0)=true:=by
 have e:=aB hv;have l:=aT e.1;refine⟨l,fun i hi=>?_⟩;have m:=List.mem_of_getElem? (oZ (l:=h) (i:=i) (by rw[l];exact hi))
 exact⟨dD (aJ (aB e.2).1 _ m),List.any_eq_true.mpr ⟨_,m,Nat.beq_refl _⟩⟩
structure aRN (h:List Nat)(N:List Bool)(q:HM):Prop where
 hv:hvB q.1=true
 un:clB (zor (pat h) N)=pat q.1
 ua:clB (zor (pat h) (qT q.2.2))=pat q.1
 ln:q.2.2.length+(cN q.1).length=(cN h).length
 ac:∀ k∈q.2.2,k < 6/\N.getD k false=true
 hd:∀ r,r < 4->fF q.1 r=true->(∃ l,q.2.1.getD r []=r::l)/\∀ x∈q.2.1.getD r [],fF h x=true
 no:∀ r,r < 4->fF q.1 r=false->q.2.1.getD r []=[]
 pm:((cN q.1).flatMap fun r=>q.2.1.getD r []).Perm (cN h)
 ct:∀ r∈cN q.1,∀ i,i < 4->lN (h.getD i 0) (q.2.1.getD r [])=bif Nat.beq (q.1.getD i 0) r then 1 else 0
 ml:q.2.1.length=4
theorem aJK {r:Nat}{l:List Nat}(h:aQ0 r l=true):∃ l',l=r::l':=by
 cases l with
 | nil=>exact eR h
 | cons x l=>exact⟨l,by rw[aT h]⟩
theorem aA3 {h:List Nat}(hv:hvB h=true){N:List Bool}(hN:N.length=6):aRN h N (sH N h):=by
 have k:aNN h N (sH N h)=true:=aJ (aLR aMv hv) N (hN ▸ lT N);generalize sH N h=q at k ⊢;have k1:=aB k;have k2:=aB k1.2;have k3:=aB k2.2;have k4:=aB k3.2;have k5:=aB k4.2;have k6:=aB k5.2;have k7:=aB k6.2
 exact {
  hv:=k1.1
  un:=nH k2.1
  ua:=nH k3.1
  ln:=aT k4.1
  ac:=fun x m=>⟨dD (aB (aJ k5.1 x m)).1,(aB (aJ k5.1 x m)).2⟩
  hd:=fun r hr e=>by
   have g:=aJ k6.1 r (List.mem_range.mpr hr);rw[e]at g;exact⟨aJK (aB g).1,aJ (aB g).2⟩
  no:=fun r hr e=>by
   have g:=aJ k6.1 r (List.mem_range.mpr hr);rw[e]at g;exact List.isEmpty_iff.mp g
  pm:=List.isPerm_iff.mp k7.1
  ct:=fun r m i hi=>aT (aJ (aJ (aB k7.2).1 r m) i (List.mem_range.mpr hi))
  ml:=aT (aB k7.2).2 }
noncomputable def iZ (t:Nat)(p:Nat × Nat):Nat × Nat:=bif Nat.beq t 0 then(p.1 - 1,bif Nat.beq p.1 0 then p.2+1 else p.2)else bif Nat.beq t 1 then(p.1+1,p.2)else p
noncomputable def eP:List Nat->Nat × Nat
 | []=>(0,0)
 | t::r=>iZ t (eP r)
noncomputable def aCG (p q:Nat × Nat):Nat × Nat:=(p.1+(q.1 - p.2),q.2+(p.2 - q.1))
theorem aC6 (t:Nat)(p q:Nat × Nat):iZ t (aCG p q)=aCG (iZ t p) q:=by
 obtain ⟨a,b⟩:=p;obtain ⟨c,d⟩:=q;unfold iZ aCG
 match t with
 | 0 =>
  show(a+(c - b) - 1,bif Nat.beq (a+(c - b)) 0 then d+(b - c)+1 else d+(b - c))=(a - 1+(c - bif Nat.beq a 0 then b+1 else b),d+((bif Nat.beq a 0 then b+1 else b) - c))
  cases a with
  | zero =>
   show(0+(c - b) - 1,_)=(0+(c - (b+1)),d+(b+1 - c));rw[Nat.zero_add,Nat.zero_add];refine(Nat.lt_or_ge b c).elim (fun q=>?_) (fun q=>?_)
   ·(refine e1a1 (Nat.le.dest q) ?_;rintro j rfl)
    rw[show b.succ+j=b+(j+1)from Nat.succ_add b j,Nat.add_sub_cancel_left,Nat.add_sub_add_left,Nat.sub_eq_zero_of_le (Nat.le_add_right b (j+1)),Nat.sub_eq_zero_of_le (show b+1<=b+(j+1)from Nat.add_le_add_left (Nat.succ_le_succ (Nat.zero_le j)) b)];rfl
   .rw[Nat.sub_eq_zero_of_le q,Nat.sub_eq_zero_of_le (Nat.le_succ_of_le q),Nat.succ_sub q]
    rfl
  | succ a =>
   rw[show a+1+(c - b)=(a+(c - b))+1 from Nat.add_right_comm _ _ _];rfl
 | 1=>exact congr (congrArg Prod.mk (Nat.add_right_comm _ _ _)) rfl
 | t+2=>rfl
theorem gC:∀ a b:List Nat,eP (a++b)=aCG (eP a) (eP b)
 | []=>fun b=>by
  generalize hq:eP b=q;obtain ⟨c,d⟩:=q;show eP b=(0+(c - 0),d+(0 - c));rw[hq,Nat.zero_add,Nat.sub_zero,Nat.zero_sub,Nat.add_zero]
 | t::a=>fun b=>by
  show iZ t (eP (a++b))=aCG (iZ t (eP a)) (eP b);rw[gC a b,aC6]
noncomputable def FT (T:Nat->List Nat)(xs:List Nat):List Nat:=(xs.map T).flatten
theorem uX (T:Nat->List Nat)(xs ys:List Nat):FT T (xs++ys)=FT T xs++FT T ys:=by unfold FT;rw[List.map_append,List.flatten_append]
theorem iX (T:Nat->List Nat)(x:Nat)(ys:List Nat):FT T (x::ys)=T x++FT T ys:=rfl
theorem aJu {T:Nat->List Nat}:∀ {xs:List Nat},(∀ x∈xs,eP (T x)=(0,0))->eP (FT T xs)=(0,0)
 | []=>fun _=>rfl
 | x::xs=>fun h=>by rw[iX,gC,h x aF,aJu fun y m=>h y (aE _ m)];rfl
theorem aCF (x:Nat)(a b:List Nat):lN x (a++b)=lN x a+lN x b:=by unfold lN;rw[List.filter_append,aG]
theorem tH (x y:Nat)(a:List Nat):lN x (y::a)=(bif Nat.beq x y then 1 else 0)+lN x a:=by
 unfold lN;rw[List.filter_cons]
 cases Nat.beq x y with
 | false=>rw[if_neg aN];exact(Nat.zero_add _).symm
 | true=>rw[if_pos rfl,aR];exact Nat.add_comm _ _
theorem aLD {T:Nat->List Nat}{a y:Nat}:∀ {xs:List Nat},(∀ x∈xs,lN a (T x)=bif Nat.beq y x then 1 else 0)->lN a (FT T xs)=lN y xs
 | []=>fun _=>rfl
 | x::xs=>fun h=>by rw[iX,aCF,h x aF,aLD fun y m=>h y (aE _ m),tH]
theorem aMD {x:Nat}{l:List Nat}(h:lN x l=1):x∈l:=by
 unfold lN at h;(refine e1a1 (List.exists_mem_of_length_pos (Nat.lt_of_lt_of_eq Nat.zero_lt_one h.symm)) ?_;rintro y m);exact aT (List.mem_filter.mp m).2 ▸ (List.mem_filter.mp m).1
theorem aOU {x:Nat}{l:List Nat}(h:lN x l=0):x ∉ l:=fun m=>by
 have:=List.length_pos_of_mem (List.mem_filter.mpr ⟨m,(Nat.beq_refl x)⟩);unfold lN at h;rw[h]at this;exact Nat.lt_irrefl 0 this
theorem aOA {a b:Nat}{l:List Nat}(ha:a∈l)(hb:b∈l)(h:a≠b):(∃ xs ys zs,l=xs++a::(ys++b::zs))\/(∃ xs ys zs,l=xs++b::(ys++a::zs)):=by
 (refine e2a1 (List.append_of_mem ha) ?_;rintro xs r rfl)
 rcases bF hb with m | m
 ·(refine e2a1 (List.append_of_mem m) ?_;rintro us vs rfl)
  exact .inr ⟨us,vs,r,by rw[aQ];rfl⟩
 .rcases aM m with rfl | m
  .exact absurd rfl h
  ·(refine e2a1 (List.append_of_mem m) ?_;rintro us vs rfl)
   exact .inl ⟨xs,us,vs,rfl⟩
noncomputable def aRT (ts:List Nat)(i j d:Nat):Prop:=∃ x y J β γ,(x=i/\y=j\/x=j/\y=i)/\ts=J++(x+2)::(β++(y+2)::γ)/\eP β=(d,d)
structure TxI (L:Nat)(h:List Nat)(T:Nat->List Nat)(w:List Nat):Prop where
 bal:∀ r,fF h r=true->eP (T r)=(0,0)
 cnt:∀ r,fF h r=true->∀ i,i < 4->lN (i+2) (T r)=bif Nat.beq (h.getD i 0) r then 1 else 0
 own:∀ r,fF h r=true->∃ t,T r=List.replicate L 0++(r+2)::t
 dep:∀ i,i < 4->∃ J γ,T (h.getD i 0)=J++(i+2)::γ/\eP J=(0,L)/\eP γ=(L,0)
 bet:∀ e∈ED,h.getD e.2.1 0=h.getD e.2.2 0->aRT (T (h.getD e.2.1 0)) e.2.1 e.2.2 (w.getD e.1 0)
 tok:∀ r,fF h r=true->∀ t∈T r,t < 6
noncomputable def jB (T:Nat->List Nat)(m:List (List Nat))(r:Nat):List Nat:=0::(FT T (m.getD r [])++[1])
theorem zC {h:List Nat}(hv:hvB h=true){r:Nat}(k:fF h r=true):r < 4:=by
 (refine e1a2 (List.any_eq_true.mp k) ?_;rintro x m e);rw[aT e];exact dD (aJ (aB (aB hv).2).1 x m)
theorem sL {h:List Nat}{r:Nat}(h1:r < 4)(h2:fF h r=true):r∈cN h:=List.mem_filter.mpr ⟨List.mem_range.mpr h1,h2⟩
theorem aGW:∀ e∈ED,e.2.1 < 4/\e.2.2 < 4/\e.2.1≠e.2.2:=by decide
theorem aJH (L:Nat)(x:Nat)(t u:List Nat):0::((List.replicate L 0++x::t)++u)=List.replicate (L+1) 0++x::(t++u):=by
 rw[List.replicate_succ,aQ];rfl
theorem aL9 {L:Nat}{h:List Nat}{T:Nat->List Nat}{w:List Nat}{N:List Bool}{q:HM}(hv:hvB h=true)(I:TxI L h T w)(K:aRN h N q)
  (hw:∀ e∈ED,h.getD e.2.1 0≠h.getD e.2.2 0->q.1.getD e.2.1 0=q.1.getD e.2.2 0->w.getD e.1 0=L):TxI (L+1) q.1 (jB T q.2.1) w:=by
 have sub:∀ {r},fF q.1 r=true->∀ x∈q.2.1.getD r [],fF h x=true:=fun k=>(K.hd _ (zC K.hv k) k).2
 have loc:∀ i,i < 4->fF q.1 (q.1.getD i 0)=true/\h.getD i 0∈q.2.1.getD (q.1.getD i 0) []:=fun i hi=>by
  have g:=(aDN K.hv).2 i hi;refine⟨g.2,aMD ?_⟩;rw[K.ct _ (sL g.1 g.2) i hi,Nat.beq_refl];rfl
 have b0:∀ {xs:List Nat},(∀ x∈xs,fF h x=true)->eP (FT T xs)=(0,0):=fun k=>aJu fun x m=>I.bal x (k x m);have bl:∀ {xs J:List Nat} {k:Nat},(∀ x∈xs,fF h x=true)->eP J=(0,k)->eP (FT T xs++J)=(0,k):=fun k e=>by rw[gC,b0 k,e];rfl
 have br:∀ {xs γ:List Nat} {k:Nat},(∀ x∈xs,fF h x=true)->eP γ=(k,0)->eP (γ++FT T xs)=(k,0):=fun k e=>by rw[gC,b0 k,e];rfl
 exact {
  bal:=fun r k=>by
   unfold jB;rw[show eP (0::(FT T (q.2.1.getD r [])++[1]))=iZ 0 (eP (FT T (q.2.1.getD r [])++[1]))from rfl,gC,b0 (sub k)];rfl
  cnt:=fun r k i hi=>by
   unfold jB;rw[tH,aCF,aLD (y:=h.getD i 0) fun x m=>I.cnt x (sub k x m) i hi,K.ct r (sL (zC K.hv k) k) i hi];exact Nat.zero_add _
  own:=fun r k=>by
   have g:=K.hd r (zC K.hv k) k;(refine e1a1 g.1 ?_;rintro l e);(refine e1a1 (I.own r (g.2 r (by rw[e];exact .head _))) ?_;rintro t e2)
   refine⟨t++(FT T l++[1]),?_⟩;unfold jB;rw[e,iX,e2,aQ,aJH]
  dep:=fun i hi=>by
   have g:=loc i hi;have sb:=sub g.1;(refine e2a3 (I.dep i hi) ?_;rintro J γ e1 e2 e3);(refine e2a1 (List.append_of_mem g.2) ?_;rintro xs ys e);rw[e]at sb;refine⟨0::(FT T xs++J),γ++FT T ys++[1],?_,?_,?_⟩
   .unfold jB
    rw[e,uX,iX,e1];simp only[aQ,List.cons_append]
   .show iZ 0 (eP (FT T xs++J))=_
    rw[bl (fun x m=>sb x (aW _ m)) e2];rfl
   .rw[gC,br (fun x m=>sb x (aZ _ (aE _ m))) e3]
    rfl
  bet:=fun e me k=>by
   have lt:=aGW e me;have g1:=loc e.2.1 lt.1;have g2:=loc e.2.2 lt.2.1;have sb:=sub g1.1;rw[<-k]at g2
   by_cases eq:h.getD e.2.1 0=h.getD e.2.2 0
   ·(refine e5a3 (I.bet e me eq) ?_;rintro x y J β γ o e1 e2)
    (refine e2a1 (List.append_of_mem g1.2) ?_;rintro xs ys es);refine⟨x,y,0::(FT T xs++J),β,γ++FT T ys++[1],o,?_,e2⟩;unfold jB;rw[es,uX,iX,e1];simp only[aQ,List.cons_append]
   ·(refine e2a3 (I.dep e.2.1 lt.1) ?_;rintro J γ a1 a2 a3)
    (refine e2a3 (I.dep e.2.2 lt.2.1) ?_;rintro α' γ' c1 c2 c3);have hL:=hw e me eq k;refine(aOA g1.2 g2.2 eq).elim (fun s=>?_) (fun s=>?_)
    ·(refine e3a1 s ?_;rintro xs ys zs es)
     rw[es]at sb;refine⟨e.2.1,e.2.2,0::(FT T xs++J),γ++(FT T ys++α'),γ'++FT T zs++[1],.inl ⟨rfl,rfl⟩,?_,?_⟩
     .unfold jB
      rw[es,uX,iX,uX,iX,a1,c1];simp only[aQ,List.cons_append]
     .rw[gC,a3,bl (fun x m=>sb x (aZ _ (aE _ (aW _ m)))) c2,hL]
      show(L+(0 - 0),L+(0 - 0))=_;rfl
    ·(refine e3a1 s ?_;rintro xs ys zs es)
     rw[es]at sb;refine⟨e.2.2,e.2.1,0::(FT T xs++α'),γ'++(FT T ys++J),γ++FT T zs++[1],.inr ⟨rfl,rfl⟩,?_,?_⟩
     .unfold jB
      rw[es,uX,iX,uX,iX,a1,c1];simp only[aQ,List.cons_append]
     .rw[gC,c3,bl (fun x m=>sb x (aZ _ (aE _ (aW _ m)))) a2,hL]
      show(L+(0 - 0),L+(0 - 0))=_;rfl
  tok:=fun r k t m=>by
   rcases aM m with rfl | m
   .decide
   .rcases bF m with m | m
    ·(refine e1a2 (List.mem_flatten.mp m) ?_;rintro l m1 m2)
     (refine e1a2 (bJ m1) ?_;rintro x m3 rfl);exact I.tok x (sub k x m3) t m2
    .rw[aH m];decide }
noncomputable def tkX (pc:Nat->List Nat)(t:Nat):List Nat:=match t with
 | 0=>[40]
 | 1=>[41]
 | i+2=>pc i
noncomputable def dB (pc:Nat->List Nat)(ts:List Nat):List Nat:=(ts.map (tkX pc)).flatten
theorem iS (pc:Nat->List Nat)(a b:List Nat):dB pc (a++b)=dB pc a++dB pc b:=by unfold dB;rw[List.map_append,List.flatten_append]
theorem fY (pc:Nat->List Nat)(t:Nat)(b:List Nat):dB pc (t::b)=tkX pc t++dB pc b:=rfl
noncomputable def PS (pc:Nat->List Nat):Nat:=((List.range 4).map fun i=>(pc i).length).sum
theorem aKf (pc:Nat->List Nat)(T:Nat->List Nat):∀ xs:List Nat,(dB pc (FT T xs)).length=(xs.map fun x=>(dB pc (T x)).length).sum
 | []=>rfl
 | x::xs=>by rw[iX,iS,aG,aKf pc T xs];rfl
noncomputable def QA (v A:List Nat):Nat:=(A.map fun k=>v.getD k 0).sum
noncomputable def aC0 (v:List Nat)(L:Nat)(t:List Nat):Nat:=(t.map fun k=>min (v.getD k 0) L).sum
noncomputable def cU (v:List Nat)(L:Nat):List Bool:=v.map fun x=>Nat.blt x L
noncomputable def atB (v:List Nat)(L:Nat):List Bool:=v.map fun x=>Nat.beq x L
theorem aP3 {P:Nat × Nat × Nat->Prop}(h0:P (0,1,0))(h1:P (1,2,0))(h2:P (2,2,1))(h3:P (3,3,0))(h4:P (4,3,1))(h5:P (5,3,2)):∀ e∈ED,P e:=by
 intro e m;unfold ED at m;simp only[List.mem_cons,List.not_mem_nil,_root_.or_false]at m
 rcases m with rfl | rfl | rfl | rfl | rfl | rfl
 .exact h0
 .exact h1
 .exact h2
 .exact h3
 .exact h4
 .exact h5
theorem aGf (h:List Nat):∀ e∈ED,e.1 < 6/\(pat h).getD e.1 false=Nat.beq (h.getD e.2.1 0) (h.getD e.2.2 0):=aP3 ⟨by decide,rfl⟩ ⟨by decide,rfl⟩ ⟨by decide,rfl⟩ ⟨by decide,rfl⟩ ⟨by decide,rfl⟩ ⟨by decide,rfl⟩
theorem wS {v:List Nat}(f:Nat->Bool){k:Nat}(hk:k < v.length):(v.map f).getD k false=f (v.getD k 0):=by
 rw[List.getD_eq_getElem?_getD,List.getElem?_map,oZ hk];rfl
theorem aLL (x L:Nat):Nat.blt x (L+1)=(Nat.blt x L || Nat.beq x L):=by
 by_cases q:x < L
 .rw[bA q,bA (Nat.lt_succ_of_lt q)];rfl
 .by_cases e:x=L
  .rw[e,Nat.beq_refl,bA (Nat.lt_succ_self L),Bool.or_true]
  .rw[gN q,lO e,gN (by lia)];rfl
theorem aAu:∀ (v:List Nat)(L:Nat),cU v (L+1)=zor (cU v L) (atB v L)
 | []=>fun _=>rfl
 | x::v=>fun L=>congr (congrArg List.cons (aLL x L)) (aAu v L)
theorem aHR (A B:List Nat):qT (A++B)=zor (qT A) (qT B):=by
 unfold qT zor fF;rw[List.zipWith_map,List.zipWith_self];exact List.map_congr_left fun k u_=>List.any_append
theorem aBq (A:List Nat):(qT A).length=6:=by unfold qT;rw[aK,List.length_range]
theorem aI3 {X Y:List Bool}(hx:X.length=6)(hy:Y.length=6):clB (zor X Y)=clB (zor (clB X) Y) :=
 nH (aJ (aJ aI2 X (hx ▸ lT X)) Y (hy ▸ lT Y))
theorem xH {v:List Nat}(hv:v.length=6)(L:Nat):∀ t:List Nat,(∀ k∈t,k < 6)->aC0 v L t+(t.filter fun k=>!((cU v (L+1)).getD k false)).length=aC0 v (L+1) t
 | []=>fun _=>rfl
 | k::t=>fun h=>by
  have ih:=xH hv L t fun y m=>h y (aE _ m);unfold aC0 cU at ih ⊢;rw[aY,aY,List.sum_cons,List.sum_cons,List.filter_cons,wS _ (by rw[hv];exact h k aF)]
  by_cases q:v.getD k 0 < L+1
  .rw[bA q,if_neg (by decide)]
   have:=Nat.min_eq_left (Nat.le_of_lt_succ q);have:=Nat.min_eq_left (Nat.le_of_lt q);lia
  .rw[gN q,if_pos (by decide),aR]
   have:=Nat.min_eq_right (show L<=v.getD k 0 by lia)
   have:=Nat.min_eq_right (show L+1<=v.getD k 0 by lia)
   lia
theorem aQQ:∀ t∈TL,∀ k∈t,k < 6:=by
 have:TL.all (fun t=>t.all fun k=>Nat.blt k 6)=true:=by kernel_rfl
 exact fun t m k n=>dD (aJ (aJ this t m) k n)
theorem aLW {v:List Nat}{L:Nat}:∀ B:List Nat,(∀ k∈B,v.getD k 0=L)->QA v B=L * B.length
 | []=>fun _=>rfl
 | k::B=>fun h=>by
  have ih:=aLW B fun y m=>h y (aE _ m);unfold QA at ih ⊢;rw[aY,List.sum_cons,ih,h k aF,aR,Nat.mul_succ,Nat.add_comm]
structure aEG (pc:Nat->List Nat)(v w:List Nat)(L:Nat)(h:List Nat)(T:Nat->List Nat)(A:List Nat):Prop where
 hv:hvB h=true
 pt:clB (cU v L)=pat h
 pa:clB (qT A)=pat h
 al:∀ k∈A,k < 6
 la:A.length+(cN h).length=4
 lo:∀ t∈TL,QA v A+L * (cN h).length<=aC0 v L t+L
 tx:TxI L h T w
 ln:((cN h).map fun r=>(dB pc (T r)).length).sum=PS pc+2 * (QA v A+L * (cN h).length)
noncomputable def h0L:List Nat:=[0,1,2,3]
theorem aQ1 (pc:Nat->List Nat){v w:List Nat}(hv:v.length=6):aEG pc v w 0 h0L (fun r=>[r+2]) [] where
 hv:=rfl
 pt:=by
  rw[show cU v 0=List.replicate 6 false from List.eq_replicate_iff.mpr ⟨by unfold cU;rw[aK,hv],fun b m=>by
   (refine e1a2 (bJ m) ?_;rintro x u_ rfl);exact gN (Nat.not_lt_zero x)⟩]
  rfl
 pa:=rfl
 al:=nofun
 la:=rfl
 lo:=fun t _=>Nat.zero_le _
 tx:={
  bal:=fun r _=>rfl
  cnt:=fun r _ i hi=>by
   rw[tH]
   rcases lt4 hi with rfl | rfl | rfl | rfl <;> rfl
  own:=fun r _=>⟨[],rfl⟩
  dep:=fun i hi=>⟨[],[],by rcases lt4 hi with rfl | rfl | rfl | rfl <;> rfl,rfl,rfl⟩
  bet:=aP3 nofun nofun nofun nofun nofun nofun
  tok:=fun r k t m=>by
   rw[aH m];exact Nat.succ_lt_succ (Nat.succ_lt_succ (zC (h:=h0L) rfl k)) }
 ln:=by
  show((List.range 4).map fun r=>(pc r++[]).length).sum=PS pc+0;unfold PS;simp only[List.append_nil,Nat.add_zero]
theorem aA1 (f:Nat->Nat)(c:Nat):∀ l:List Nat,(l.map fun r=>c+f r).sum=c * l.length+(l.map f).sum
 | []=>rfl
 | x::l=>by
  rw[aY,List.sum_cons,aA1 f c l,aY,List.sum_cons,aR,Nat.mul_succ];lia
theorem aC2 (f:Nat->Nat)(m:Nat->List Nat):∀ l:List Nat,(l.map fun r=>((m r).map f).sum).sum=((l.flatMap m).map f).sum
 | []=>rfl
 | x::l=>by rw[aY,List.sum_cons,aC2 f m l,List.flatMap_cons,List.map_append,List.sum_append_nat]
theorem aME {a k k' Q L S t t' c:Nat}(h1:a+k'=k)(h2:Q+L * k<=t+L)(h3:t+c=t')(h4:k'<=c+1):Q+L * a+(L+1) * k'<=t'+(L+1):=by
 rw[<-h1,Nat.mul_add]at h2;rw[Nat.succ_mul];lia
theorem aBl {pc:Nat->List Nat}{v w:List Nat}{L:Nat}{h:List Nat}{T:Nat->List Nat}{A:List Nat}(hv6:v.length=6)(hw6:w.length=6)(pw:∀ L,clB (cU v L)=cU w L)
  (I:aEG pc v w L h T A):aEG pc v w (L+1) (sH (atB v L) h).1 (jB T (sH (atB v L) h).2.1) (A++(sH (atB v L) h).2.2):=by
 have K:=aA3 I.hv (N:=atB v L) (by unfold atB;rw[aK,hv6])
 have K0:=K;generalize sH (atB v L) h=q at K;have lb:∀ L,(cU v L).length=6:=fun L=>by unfold cU;rw[aK,hv6]
 have pt:clB (cU v (L+1))=pat q.1:=by rw[aAu,aI3 (lb L) (by unfold atB;rw[aK,hv6]),I.pt,K.un]
 have hQ:QA v (A++q.2.2)=QA v A+L * q.2.2.length:=by
  rw[<-aLW q.2.2 fun k m=>by
   have g:=K.ac k m;unfold atB at g;rw[wS _ (by rw[hv6];exact g.1)]at g
   exact aT g.2]
  unfold QA;rw[List.map_append,List.sum_append_nat]
 have ed:∀ e∈ED,∀ h' L',pat h'=cU w L'->Nat.beq (h'.getD e.2.1 0) (h'.getD e.2.2 0)=Nat.blt (w.getD e.1 0) L':=fun e m h' L' k=>by
  have g:=aGf h' e m;rw[<-g.2,k];unfold cU;exact wS _ (by rw[hw6];exact g.1)
 exact {
  hv:=K.hv
  pt:=pt
  pa:=by rw[aHR,aI3 (aBq _) (aBq _),I.pa,K.ua]
  al:=fun k m=>(bF m).elim (I.al k) fun m=>(K.ac k m).1
  la:=by rw[aG];have:=K.ln;have:=I.la;lia
  lo:=fun t m=>by
   have g:=aLR aMG K.hv;have g:=aJ g _ (lb (L+1) ▸ lT (cU v (L+1)));rw[pt,aD4]at g;have g:aNQ q.1 (cU v (L+1))=true:=g;rw[hQ];exact aME (S:=0) K.ln (I.lo t m) (xH hv6 L t (aQQ t m)) (bO (aJ g t m))
  tx:=aL9 I.hv I.tx K fun e m n1 n2=>by
   have e1:=ed e m h L (I.pt.symm.trans (pw L));have e2:=ed e m q.1 (L+1) (pt.symm.trans (pw (L+1)));rw[lO n1]at e1;rw[n2,Nat.beq_refl]at e2;have a:=dD e2.symm;have b:¬ w.getD e.1 0 < L:=fun k=>by rw[bA k]at e1;exact aN e1
   lia
  ln:=by
   have e:(fun r=>(dB pc (jB T q.2.1 r)).length)=fun r=>2+((q.2.1.getD r []).map fun x=>(dB pc (T x)).length).sum:=by
    funext r
    unfold jB;rw[fY,iS,aG,aG,aKf];show 1+(_+1)=_;lia
   rw[e,aA1,aC2,(K.pm.map _).sum_nat,I.ln,hQ];have:=K.ln;rw[<-this,Nat.mul_add L,Nat.succ_mul];lia }
structure aNG (pc:Nat->List Nat)(v w:List Nat)(L r:Nat)(ts:List Nat)(Q:Nat):Prop where
 lt:r < 4
 low:∀ t∈TL,Q<=(t.map fun k=>v.getD k 0).sum
 eq:∃ t∈TL,(t.map fun k=>v.getD k 0).sum=Q
 bal:eP ts=(0,0)
 cnt:∀ i,i < 4->lN (i+2) ts=1
 own:∃ t,ts=List.replicate L 0++(r+2)::t
 bet:∀ e∈ED,aRT ts e.2.1 e.2.2 (w.getD e.1 0)
 tok:∀ t∈ts,t < 6
 len:(dB pc ts).length=PS pc+2 * (Q+L)
theorem pY {h:List Nat}(hv:hvB h=true):1<=(cN h).length/\(cN h).length<=4/\((cN h).length=1->∃ r,r < 4/\cN h=[r]/\h=[r,r,r,r])/\((cN h).length=1 ↔ pat h=T6):=by
 have g:=aB (aLR aP0 hv);have g2:=aB g.2
 by_cases e:(cN h).length=1
 .rw[e]at g2
  have g3:=aB g2.1;refine⟨bO g.1,by lia,fun _=>?_,fun _=>nH g3.2,fun _=>e⟩
  (refine e1a2 (List.any_eq_true.mp g3.1) ?_;rintro r m k);exact⟨r,List.mem_range.mp m,tC _ _ (aB k).1,tC _ _ (aB k).2⟩
 .rw[lO e]at g2
  refine⟨bO g.1,bO g2.2,fun k=>absurd k e,fun k=>absurd k e,fun k=>?_⟩;have a:(!(eqB (pat h) T6))=true:=g2.1;rw[k]at a;exact eR a
theorem aRG {v:List Nat}(hv:v.length=6)(h:∀ x∈v,x<=6):cU v 7=T6 :=
 List.eq_replicate_iff (n:=6).mpr ⟨by unfold cU;rw[aK,hv],fun b m=>by
  (refine e1a2 (bJ m) ?_;rintro x hx rfl);exact bA (Nat.lt_succ_of_le (h x hx))⟩
theorem aCZ (v:List Nat)(L:Nat):∀ t:List Nat,aC0 v L t<=(t.map fun k=>v.getD k 0).sum
 | []=>Nat.le_refl _
 | k::t=>Nat.add_le_add (Nat.min_le_left _ _) (aCZ v L t)
theorem aP1 {pc:Nat->List Nat}{v w:List Nat}{L:Nat}{h:List Nat}{T:Nat->List Nat}{A:List Nat}(I:aEG pc v w L h T A)(h1:(cN h).length=1):∃ r,cN h=[r]/\aNG pc v w L r (T r) (QA v A):=by
 have F:=pY I.hv;(refine e1a3 (F.2.2.1 h1) ?_;rintro r r1 r2 r3);refine⟨r,r2,?_⟩
 have g:∀ i,i < 4->h.getD i 0=r:=fun i hi=>by
  rw[r3]
  rcases lt4 hi with rfl | rfl | rfl | rfl <;> rfl
 have hr:fF h r=true:=(List.mem_filter.mp (show r∈cN h by rw[r2];exact .head _)).2
 have la:=I.la;rw[h1]at la
 exact {
  lt:=r1
  low:=fun t m=>by
   have:=I.lo t m;rw[h1,Nat.mul_one]at this;have:=aCZ v L t;lia
  eq:=by
   have m:=yN 6 A I.al;rw[show A.length=3 by lia]at m
   have k:=aJ aMc A m;rw[I.pa,F.2.2.2.mp h1]at k;(refine e1a2 (List.any_eq_true.mp (show TL.any (fun t=>A.isPerm t)=true from k)) ?_;rintro t mt pt);exact⟨t,mt,((List.isPerm_iff.mp pt).map _).sum_nat.symm⟩
  bal:=I.tx.bal r hr
  cnt:=fun i hi=>by rw[I.tx.cnt r hr i hi,g i hi,Nat.beq_refl];rfl
  own:=I.tx.own r hr
  bet:=fun e m=>by
   have lt:=aGW e m;have:=I.tx.bet e m (by rw[g _ lt.1,g _ lt.2.1])
   rwa [g _ lt.1]at this
  tok:=I.tx.tok r hr
  len:=by
   have:=I.ln;rw[r2,List.map_singleton,List.sum_singleton]at this;rw[this,List.length_singleton,Nat.mul_one] }
section
variable {J β:Type}
noncomputable def nD (d:J)(M:List (List J))(i j:Nat):J:=(M.getD i []).getD j d
noncomputable def sG (M:List (List J))(i j:Nat)(z:J):List (List J):=M.set i ((M.getD i []).set j z)
noncomputable def fwS (mn mx:J->J->J)(d:J)(a b:Nat)(M:List (List J))(c:Nat):List (List J):=sG M b c (mn (nD d M b c) (mx (nD d M b a) (nD d M a c)))
noncomputable def fwG (mn mx:J->J->J)(d:J)(M:List (List J)):List (List J):=(List.range 4).foldl (fun M a=>(List.range 4).foldl (fun M b=>(List.range 4).foldl (fwS mn mx d a b) M) M) M
noncomputable def yO (f:J->β)(M:List (List J)):List (List β):=M.map fun r=>r.map f
theorem fR (g:J->β)(l:List J)(i:Nat)(d:J):(l.map g).getD i (g d)=g (l.getD i d):=by
 rw[List.getD_eq_getElem?_getD,List.getD_eq_getElem?_getD,List.getElem?_map];cases l[i]? <;> rfl
theorem sV (f:J->β)(d:J)(M:List (List J))(i j:Nat):nD (f d) (yO f M) i j=f (nD d M i j):=by
 unfold nD yO;rw[<-fR f,<-fR (fun r:List J=>r.map f) M i []];rfl
theorem aJk (f:J->β)(M:List (List J))(i j:Nat)(z:J):sG (yO f M) i j (f z)=yO f (sG M i j z):=by
 unfold sG yO;rw[List.map_set,List.map_set,<-fR (fun r:List J=>r.map f) M i []];rfl
theorem aPN (f:J->β){mn mx:J->J->J}{mn' mx':β->β->β}(h1:∀ x y,f (mn x y)=mn' (f x) (f y))(h2:∀ x y,f (mx x y)=mx' (f x) (f y))(d:J)(M:List (List J)):fwG mn' mx' (f d) (yO f M)=yO f (fwG mn mx d M) :=
 List.foldl_hom (yO f) fun M a=>List.foldl_hom (yO f) fun M b=>List.foldl_hom (yO f) fun M c=>by
  unfold fwS;rw[sV,sV,sV,<-h2,<-h1,aJk]
noncomputable def jP (z:J)(v:List J):List (List J):=[[z,v.getD 0 z,v.getD 1 z,v.getD 3 z],[v.getD 0 z,z,v.getD 2 z,v.getD 4 z],[v.getD 1 z,v.getD 2 z,z,v.getD 5 z],[v.getD 3 z,v.getD 4 z,v.getD 5 z,z]]
theorem aJ6 (f:J->β)(z:J)(v:List J):yO f (jP z v)=jP (f z) (v.map f):=by
 unfold jP;rw[fR,fR,fR,fR,fR,fR];rfl
noncomputable def aMH (d:J)(M:List (List J)):List J:=ED.map fun e=>nD d M e.2.1 e.2.2
end
noncomputable def mxN (a b:Nat):Nat:=bif Nat.blt a b then b else a
noncomputable def fwB (q:Bool)(S:List Bool):List Bool:=aMH q (fwG (fun a b=>a || b) (fun a b=>a && b) q (jP q S))
theorem aPP:(aFY 6).all (fun S=>eqB (fwB true S) (clB S) && eqB (fwB false S) (clB S))=true:=by kernel_rfl
noncomputable def fwN (v:List Nat):List (List Nat):=fwG mnN mxN 0 (jP 0 v)
noncomputable def nV (v:List Nat):List Nat:=aMH 0 (fwN v)
theorem aQg (L x y:Nat):Nat.blt (mnN x y) L=(Nat.blt x L || Nat.blt y L):=by
 unfold mnN
 by_cases q:y < x
 .rw[bA q]
  show Nat.blt y L=_
  by_cases e:x < L
  .rw[bA e,bA (Nat.lt_trans q e)];rfl
  .rw[gN e];rfl
 .rw[gN q]
  show Nat.blt x L=_
  by_cases e:y < L
  .rw[bA e,bA (show x < L by lia)];rfl
  .rw[gN e,Bool.or_false]
theorem aQf (L x y:Nat):Nat.blt (mxN x y) L=(Nat.blt x L && Nat.blt y L):=by
 unfold mxN
 by_cases q:x < y
 .rw[bA q]
  show Nat.blt y L=_
  by_cases e:y < L
  .rw[bA e,bA (Nat.lt_trans q e)];rfl
  .rw[gN e,Bool.and_false]
 .rw[gN q]
  show Nat.blt x L=_
  by_cases e:x < L
  .rw[bA e,bA (show y < L by lia)];rfl
  .rw[gN e];rfl
theorem aCV {v:List Nat}(hv:v.length=6)(L:Nat):clB (cU v L)=cU (nV v) L:=by
 have e:cU (nV v) L=fwB (Nat.blt 0 L) (cU v L):=by
  unfold cU nV fwB fwN aMH;rw[<-aJ6 (fun x=>Nat.blt x L) 0,aPN (fun x=>Nat.blt x L) (aQg L) (aQf L),List.map_map];exact List.map_congr_left fun e u_=>(sV (fun x=>Nat.blt x L) 0 _ _ _).symm
 have g:=aB (aJ aPP (cU v L) (by rw[<-show(cU v L).length=6 by unfold cU;rw[aK,hv]];exact lT _))
 rw[e]
 cases Nat.blt 0 L with
 | true=>exact(nH g.1).symm
 | false=>exact(nH g.2).symm
section
variable {T:Nat->List PV->Option PyData} {W:Nat}
theorem jR {σ:Type}{i n:Nat}{x:X}{b:Sts}{E:AE}(I:Nat->σ->AE->Prop)(f:σ->Nat->σ)(s:σ)(hx:ev aU T x E=some (.int n))(hn:n<=1000)
  (st:∀ p,p < n->∀ k s E,I (k+1) s E->∃ E2,exs aU T W b (E.set i (.dat (.int p)))=some (E2,none)/\I k (f s p) E2) (h:I n s E):∃ E',ex aU T W (.forS (.name i) (.rng1 x) b) E=some (E',none)/\I 0 ((List.range n).foldl f s) E':=by
 (refine e1a2 (pW (body:=fun E'=>exs aU T W b E') (bindv:=fun d E'=>dF (.name i) d E') I (fun p:Nat=>PyData.int p) f (List.range n) s E (fun p m k s E h=>by
  (refine e1a2 (st p (List.mem_range.mp m) k s E h) ?_;rintro E2 h1 h2);exact⟨_,E2,rfl,h1,h2⟩) (by rw[List.length_range];exact h)) ?_;rintro E' g1 g2)
 exact⟨E',by rw[aBF,xU hx hn];exact g1,g2⟩
theorem qB {E:AE}{a i j p q:Nat}{M:List (List Nat)}(h:aI E a=some (eB M))(s:ShM M 4)(hi:aI E i=some (.int p))(hj:aI E j=some (.int q))(hp:p < 4)(hq:q < 4):ev aU T (.idx (.idx (.var a) (.var i)) (.var j)) E=some (.int ((nD 0 M p q:Nat):Int)):=by
 have g:=aGN s hp;have e1:jD (eB M) (.int p)=some (bU (M.getD p [])):=oX (by rw[List.getElem?_map,g.1];rfl) (by rw[aK,s.1];decide)
 rw[gA,gA,bD,bD,bD,h,hi,hj,aD,aD,e1];exact zB (by rw[g.2];exact hq) (by rw[g.2];decide)
theorem aB2 {E:AE}{a t o z:Nat}{M:List (List Nat)}{k l e:X}(h:aI E a=some (eB M))(hs:ShM M 4)(hk:ev aU T k E=some (.int t))(hl:ev aU T l E=some (.int o))(he:ev aU T e E=some (.int z))(ht:t < 4)(ho:o < 4) :
  ex aU T W (.setJ a k l e) E=some (E.set a (.dat (eB (sG M t o z))),none):=by
 have gm:=aGN hs ht;have h0:=hs.1
 have hg:aDS (.int t) (eB M)=some (bU (M.getD t [])):=by
  show(if (M.map _).length<=lim then(if (0:Int)<=t/\(t:Int) < (M.map _).length then(M.map _)[(t:Int).toNat]? else none)else none)=_
  rw[aK,h0,if_pos (by decide),if_pos (by lia),Int.toNat_natCast,List.getElem?_map,gm.1]
  rfl
 have hp1:oD (.int o) (.int z) (bU (M.getD t []))=some (bU ((M.getD t []).set o z)):=by
  show(if (0:Int)<=o/\(o:Int) < (List.map _ _).length/\(List.map _ _).length<=lim then some (PyData.list ((List.map _ _).set (o:Int).toNat _))else none)=_
  rw[aK,gm.2,if_pos ⟨by lia,by lia,by decide⟩,Int.toNat_natCast]
  unfold bU;rw[List.map_set]
 have hp2:oD (.int t) (bU ((M.getD t []).set o z)) (eB M)=some (eB (sG M t o z)):=by
  show(if (0:Int)<=t/\(t:Int) < (List.map _ _).length/\(List.map _ _).length<=lim then some (PyData.list ((List.map _ _).set (t:Int).toNat _))else none)=_
  rw[aK,h0,if_pos ⟨by lia,by lia,by decide⟩,Int.toNat_natCast]
  unfold eB sG;rw[List.map_set]
 rw[aBC,he,h,hk,hl];dsimp only[aD];rw[hg];dsimp only[aD];rw[hp1];dsimp only[aD];rw[hp2];rfl
theorem aJ4 (a b:Nat):wF .max2 (.int a) (.int b)=some (.int (mxN a b)):=by
 rw[qH];unfold mxN
 by_cases q:a < b
 .rw[if_pos (Int.ofNat_lt.mpr q),bA q];rfl
 .rw[if_neg fun e=>q (Int.ofNat_lt.mp e),gN q];rfl
theorem aKv {E:AE}{M:List (List Nat)}{a:Nat}(h:aI E a=some (eB M))(s:ShM M 4):evIt aU T (.val (.var a)) E=some (M.map bU):=by
 rw[eQ,bD,h,aD];unfold eB;rw[bZ,aK,s.1,if_pos (by decide)]
theorem aHh {M:List (List Nat)}(s:ShM M 4):cV aU T W kX gU [.dat (eB M)]=some (eB (fwG mnN mxN 0 M)):=by
 show gZ T W gU (AE.set (fun u_=>none) 69 (.dat (eB M))) _;generalize hE:AE.set (fun u_=>none) 69 (.dat (eB M))=E;have e69:aI E 69=some (eB M):=by rw[<-hE];rfl
 unfold gU
 refine bH (E1:=E.set 70 (.dat (eB M))) (by
  rw[zJ,gX,aKv e69 s,aD]
  rw[nK (p:=fun _=>true) (f:=bU) (Ed:=fun r=>E.set 7 (.dat (bU r))) M fun r m=>⟨rfl,rfl,by
   rw[sY,eQ,bD,bN,aD];unfold bU;rw[bZ,aK,s.2 r m,if_pos (by decide)]
   rfl⟩]
  rw[List.filter_eq_self.mpr fun u_ u_=>rfl];show(if (M.map bU).all aMz=true then _ else _)=_
  rw[if_pos (cD fun x m=>by
   (refine e1a2 (bJ m) ?_;rintro r u_ rfl)
   exact cD fun y k=>by
    (refine e1a2 (bJ k) ?_;rintro z u_ rfl);rfl)]
  rfl) ?_
 (refine e1a2 (jR (T:=T) (W:=W) (i:=71) (x:=.int 4) (n:=4) (b:=oU) (E:=E.set 70 (.dat (eB M))) (fun u_ M E=>aI E 70=some (eB M)/\ShM M 4) (fun M a=>(List.range 4).foldl (fun M b=>(List.range 4).foldl (fwS mnN mxN 0 a b) M) M) M rfl (by decide) (fun a ha u_ M E h=>by
  (refine e1a2 (jR (T:=T) (W:=W) (i:=62) (x:=.int 4) (n:=4) (b:=oR) (E:=E.set 71 (.dat (.int a))) (fun u_ M E=>aI E 70=some (eB M)/\ShM M 4/\aI E 71=some (.int a)) (fun M b=>(List.range 4).foldl (fwS mnN mxN 0 a b) M) M rfl (by decide) (fun b hb u_ M E h=>by
   (refine e1a2 (jR (T:=T) (W:=W) (i:=63) (x:=.int 4) (n:=4) (b:=oP) (E:=E.set 62 (.dat (.int b))) (fun u_ M E=>aI E 70=some (eB M)/\ShM M 4/\aI E 71=some (.int a)/\aI E 62=some (.int b)) (fwS mnN mxN 0 a b) M rfl (by decide) (fun c hc u_ M E h=>by
    generalize hF:E.set 63 (.dat (.int c))=F;have k:aI F 70=some (eB M)/\aI F 71=some (.int a)/\aI F 62=some (.int b)/\aI F 63=some (.int c):=by rw[<-hF];exact⟨h.1,h.2.2.1,h.2.2.2,bN⟩
    refine⟨F.set 70 (.dat (eB (fwS mnN mxN 0 a b M c))),?_,bN,aB1 (z:=_) h.2.1 hb,k.2.1,k.2.2.1⟩;unfold oP;refine aX (aB2 k.1 h.2.1 k.2.2.1 k.2.2.2 ?_ hb hc) rfl;rw[sX,sX,qB k.1 h.2.1 k.2.2.1 k.2.2.2 hb hc,qB k.1 h.2.1 k.2.2.1 k.2.1 hb ha,qB k.1 h.2.1 k.2.1 k.2.2.2 ha hc];dsimp only[aD];rw[aJ4];dsimp only[aD];rw[yM]) ⟨h.1,h.2.1,h.2.2,bN⟩) ?_;rintro E' g1 g2)
   exact⟨E',by unfold oR;exact aX g1 rfl,g2.1,g2.2.1,g2.2.2.1⟩) ⟨h.1,h.2,bN⟩) ?_;rintro E' g1 g2)
  exact⟨E',by unfold oU;exact aX g1 rfl,g2.1,g2.2.1⟩) ⟨bN,s⟩) ?_;rintro E' g1 g2)
 refine bH g1 (bH (E1:=E') rfl (kJ (E1:=E') ?_));rw[pA,bD,g2.1];rfl
end
noncomputable def aIH (a b c:Nat):Bool:=!(Nat.beq a b) && (!(Nat.beq b c) && !(Nat.beq c a))
noncomputable def lgS (M:List (List Nat))(a b:Nat)(s:List Nat)(c:Nat):List Nat:=bif aIH a b c then s++[nD 0 M a b+nD 0 M b c+nD 0 M c (6 - a - b - c)]else s
noncomputable def lgF (M:List (List Nat)):List Nat:=(List.range 4).foldl (fun s a=>(List.range 4).foldl (fun s b=>(List.range 4).foldl (lgS M a b) s) s) (M.map List.sum)
noncomputable def lR (v:List Nat)(t:List Nat):Nat:=v.getD (t.getD 0 0) 0+v.getD (t.getD 1 0) 0+v.getD (t.getD 2 0) 0
theorem aQ8 (a b c d e f:Nat):lgF (jP 0 [a,b,c,d,e,f])=TL.map (lR [a,b,c,d,e,f]):=by
 have h1:[0,a,b,d].sum=a+b+d:=by show 0+(a+(b+(d+0)))=_;lia
 have h2:[a,0,c,e].sum=a+c+e:=by show a+(0+(c+(e+0)))=_;lia
 have h3:[b,c,0,f].sum=b+c+f:=by show b+(c+(0+(f+0)))=_;lia
 have h4:[d,e,f,0].sum=d+e+f:=by show d+(e+(f+(0+0)))=_;lia
 unfold lgF;rw[show(jP 0 [a,b,c,d,e,f]).map List.sum=[a+b+d,a+c+e,b+c+f,d+e+f]from congr (congrArg List.cons h1) (congr (congrArg List.cons h2) (congr (congrArg List.cons h3) (congr (congrArg List.cons h4) rfl)))]
 kernel_rfl
theorem aF4 (v:List Nat):∀ t∈TL,lR v t=(t.map fun k=>v.getD k 0).sum:=by
 have:TL.all (fun t=>Nat.beq t.length 3)=true:=by kernel_rfl
 intro t m;have l:=aT (aJ this t m);exact LS (P:=fun t=>lR v t=(t.map fun k=>v.getD k 0).sum) (fun x=>LS (P:=fun t=>lR v (x::t)=((x::t).map fun k=>v.getD k 0).sum) fun y=>LS (P:=fun t=>lR v (x::y::t)=((x::y::t).map fun k=>v.getD k 0).sum) fun z=>L0 (P:=fun t=>lR v (x::y::z::t)=((x::y::z::t).map fun k=>v.getD k 0).sum) (Nat.add_assoc _ _ _)) t l
theorem yL:∀ (r:List Nat)(a:Nat),∃ m:Nat,uF a (r.map fun x:Nat=>(x:Int))=m/\m∈a::r/\∀ x∈a::r,m<=x
 | []=>fun a=>⟨a,rfl,.head _,fun x m=>Nat.le_of_eq (aH m).symm⟩
 | b::r=>fun a=>by
  rw[aY,aFh]
  by_cases q:b < a
  .rw[if_pos (Int.ofNat_lt.mpr q)]
   (refine e1a3 (yL r b) ?_;rintro m h1 h2 h3);refine⟨m,h1,.tail _ h2,fun x k=>?_⟩
   rcases aM k with rfl | k
   .exact aP (h3 b (.head _)) (Nat.le_of_lt q)
   .exact h3 x k
  .rw[if_neg fun e=>q (Int.ofNat_lt.mp e)]
   (refine e1a3 (yL r a) ?_;rintro m h1 h2 h3);refine⟨m,h1,?_,fun x k=>?_⟩
   .rcases aM h2 with rfl | k
    .exact .head _
    .exact .tail _ (.tail _ k)
   .rcases aM k with rfl | k
    .exact h3 x (.head _)
    .rcases aM k with rfl | k
     .exact aP (h3 a (.head _)) (Nat.le_of_not_lt q)
     .exact h3 x (.tail _ k)
section
variable {T:Nat->List PV->Option PyData} {W:Nat}
theorem aDv {E:AE}{x y:X}{a b:Nat}(h1:ev aU T x E=some (.int a))(h2:ev aU T y E=some (.int b)):ev aU T (.cmp1 .ne x y) E=some (.bool (!(Nat.beq a b))):=dG h1 h2 (aJY a b)
theorem aO6 (M:List (List Nat))(a b:Nat)(s:List Nat)(c:Nat):(lgS M a b s c).length<=s.length+1:=by
 unfold lgS
 cases aIH a b c with
 | false=>exact Nat.le_succ _
 | true=>exact Nat.le_of_eq (aG)
theorem aQa {a b c:Nat}(ha:a < 4)(hb:b < 4)(hc:c < 4)(h:aIH a b c=true):6 - a - b - c < 4/\(6:Int) - a - b - c=((6 - a - b - c:Nat):Int):=by
 have:(List.range 4).all (fun a=>(List.range 4).all fun b=>(List.range 4).all fun c=>!(aIH a b c) || (Nat.blt (6 - a - b - c) 4 && decide ((6:Int) - a - b - c=((6 - a - b - c:Nat):Int))))=true:=by kernel_rfl
 have g:=aJ (aJ (aJ this a (List.mem_range.mpr ha)) b (List.mem_range.mpr hb)) c (List.mem_range.mpr hc);rw[h]at g;exact⟨dD (aB g).1,aC (aB g).2⟩
theorem aMI {M:List (List Nat)}(s:ShM M 4){a b c:Nat}(ha:a < 4)(hb:b < 4)(hc:c < 4){s0:List Nat}{E:AE}(h72:aI E 72=some (bU s0))(h69:aI E 69=some (eB M))(h62:aI E 62=some (.int a))(h73:aI E 73=some (.int b))(h74:aI E 74=some (.int c))(hl:s0.length<=1000) :
  exs aU T W kH E=some (E.set 72 (.dat (bU (lgS M a b s0 c))),none):=by
 have hc1:ev aU T (.and (.cons (.cmp1 .ne (.var 62) (.var 73)) (.cons (.cmp1 .ne (.var 73) (.var 74)) (.cons (.cmp1 .ne (.var 74) (.var 62)) .nil)))) E=some (.bool (aIH a b c)):=aA7 (aDv h62 h73) (aA7 (aDv h73 h74) (aDv h74 h62));refine dE (Eq.trans (gO hc1) ?_);unfold lgS
 cases hq:aIH a b c with
 | false=>exact congrArg (fun E=>some (E,(none:Option PyData))) (jO (jT h72)).symm
 | true =>
  have q:=aQa ha hb hc hq;have g:=aGN s hc;have e1:jD (eB M) (.int c)=some (bU (M.getD c [])):=oX (by rw[List.getElem?_map,g.1];rfl) (by rw[aK,s.1];decide)
  have mp:s0.map (fun p:Nat=>PyData.int p)++[.int ((nD 0 M a b+nD 0 M b c+nD 0 M c (6 - a - b - c):Nat):Int)]=(s0++[nD 0 M a b+nD 0 M b c+nD 0 M c (6 - a - b - c)]).map fun p:Nat=>PyData.int p:=by rw[List.map_append];rfl
  exact dE (Eq.trans (aIY (xs:=s0.map fun p:Nat=>PyData.int p) h72 (dM (dM (qB h69 s h62 h73 ha hb) (qB h69 s h73 h74 hb hc) (fU _ _)) (dO (dO h69 h74 e1) (dM (dM (dM rfl h62 rfl) h73 rfl) h74 (congrArg (fun z=>some (PyData.int z)) q.2)) (zB (by rw[g.2];exact q.1) (by rw[g.2];decide))) (fU _ _)) (by rw[aK];exact hl)) (congrArg (fun l=>some (E.set 72 (.dat (.list l)),(none:Option PyData))) mp))
theorem aCh {v:List Nat}(hv:v.length=6):∃ m:Nat,cV aU T W hW fK [.dat (eB (jP 0 v))]=some (.int m)/\(∃ t∈TL,(t.map fun k=>v.getD k 0).sum=m)/\∀ t∈TL,m<=(t.map fun k=>v.getD k 0).sum:=by
 have s:ShM (jP 0 v) 4:=⟨rfl,fun r m=>by
  unfold jP at m;simp only[List.mem_cons,List.not_mem_nil,_root_.or_false]at m
  rcases m with rfl | rfl | rfl | rfl <;> rfl⟩
 have lg:lgF (jP 0 v)=TL.map (lR v):=by
  exact LS (P:=fun v=>lgF (jP 0 v)=TL.map (lR v)) (fun a=>LS (P:=fun v=>lgF (jP 0 (a::v))=TL.map (lR (a::v))) fun b=>LS (P:=fun v=>lgF (jP 0 (a::b::v))=TL.map (lR (a::b::v))) fun c=>LS (P:=fun v=>lgF (jP 0 (a::b::c::v))=TL.map (lR (a::b::c::v))) fun d=>LS (P:=fun v=>lgF (jP 0 (a::b::c::d::v))=TL.map (lR (a::b::c::d::v))) fun e=>LS (P:=fun v=>lgF (jP 0 (a::b::c::d::e::v))=TL.map (lR (a::b::c::d::e::v))) fun f=>L0 (P:=fun v=>lgF (jP 0 (a::b::c::d::e::f::v))=TL.map (lR (a::b::c::d::e::f::v))) (aQ8 a b c d e f)) v hv
 generalize jP 0 v=M at s lg;show ∃ m:Nat,gZ T W fK (AE.set (fun u_=>none) 69 (.dat (eB M))) _/\_;generalize hE:AE.set (fun u_=>none) 69 (.dat (eB M))=E;have e69:aI E 69=some (eB M):=by rw[<-hE];rfl
 have s1:ex aU T W (.asg 1 72 (.comp (.p1 .sum (.var 7)) (.name 7) (.val (.var 69)) .nil)) E=some (E.set 72 (.dat (bU (M.map List.sum))),none):=by
  refine Eq.trans (xD (aA8 (f:=fun r=>.int ((r.sum:Nat):Int)) (Ed:=fun r=>E.set 7 (.dat (bU r))) (aKv e69 s) fun r m=>⟨rfl,uB rfl (by
   unfold bU;rw[jJ,sum_nat];rfl)⟩)) ?_
  unfold bU;rw[List.map_map];rfl
 (refine e1a2 (jR (T:=T) (W:=W) (i:=62) (x:=.int 4) (n:=4) (b:=oW) (E:=E.set 72 (.dat (bU (M.map List.sum)))) (fun n s E=>aI E 72=some (bU s)/\s.length+16 * n<=100/\aI E 69=some (eB M)) (fun s a=>(List.range 4).foldl (fun s b=>(List.range 4).foldl (lgS M a b) s) s) (M.map List.sum) rfl (by decide) (fun a ha n s0 E h=>by
  (refine e1a2 (jR (T:=T) (W:=W) (i:=73) (x:=.int 4) (n:=4) (b:=oV) (E:=E.set 62 (.dat (.int a))) (fun k s E=>aI E 72=some (bU s)/\s.length+4 * k+16 * n<=100/\aI E 69=some (eB M)/\aI E 62=some (.int a)) (fun s b=>(List.range 4).foldl (lgS M a b) s) s0 rfl (by decide) (fun b hb k s0 E h=>by
   (refine e1a2 (jR (T:=T) (W:=W) (i:=74) (x:=.int 4) (n:=4) (b:=kH) (E:=E.set 73 (.dat (.int b))) (fun c s E=>aI E 72=some (bU s)/\s.length+c+4 * k+16 * n<=100/\aI E 69=some (eB M)/\aI E 62=some (.int a)/\aI E 73=some (.int b)) (lgS M a b) s0 rfl (by decide) (fun c hc r s0 E h=>⟨_,aMI (E:=E.set 74 (.dat (.int c))) s ha hb hc h.1 h.2.2.1 h.2.2.2.1 h.2.2.2.2 bN (by have:=h.2.1;lia),bN,by have:=aO6 M a b s0 c;have:=h.2.1;lia,h.2.2.1,h.2.2.2.1,h.2.2.2.2⟩) ⟨h.1,by have:=h.2.1;lia,h.2.2.1,h.2.2.2,bN⟩) ?_;rintro E' g1 g2)
   exact⟨E',dE g1,g2.1,g2.2.1,g2.2.2.1,g2.2.2.2.1⟩) ⟨h.1,by have:=h.2.1;lia,h.2.2,bN⟩) ?_;rintro E' g1 g2)
  exact⟨E',dE g1,g2.1,by have:=g2.2.1;lia,g2.2.2.1⟩) ⟨bN,by rw[aK,s.1];decide,e69⟩) ?_;rintro E' g1 g2)
 have g3:aI E' 72=some (bU (TL.map (lR v))):=by rw[<-lg];exact g2.1
 have tl:TL.map (lR v)=lR v [0,1,3]::(TL.tail.map (lR v)):=rfl;(refine e1a3 (yL (TL.tail.map (lR v)) (lR v [0,1,3])) ?_;rintro m m1 m2 m3);rw[<-tl]at m2 m3;refine⟨m,bH s1 (bH g1 (kJ (nR (uB g3 ?_)))),?_,fun t k=>?_⟩
 .rw[tl,<-m1]
  unfold bU;rw[lZ,zA];rfl
 ·(refine e1a2 (bJ m2) ?_;rintro t k e)
  exact⟨t,k,by rw[<-e,aF4 v t k]⟩
 .rw[<-aF4 v t k];exact m3 _ (List.mem_map.mpr ⟨t,k,rfl⟩)
noncomputable def qP (x:Nat):List Nat:=(List.range (x % 4)).map fun p=>qM.getD (x / 4 / 4 ^ p % 4) 0
end
noncomputable def fE (c k:Nat):List Nat:=[[c],[34,c,40,34],[92,41,c],[34,41,92,34,c,34],[c,92,92],[92,40,c]].getD k []
noncomputable def PcK (c:Nat->Nat)(pc:Nat->List Nat):Prop:=∀ i,i < 4->(c i=67+i\/c i=99+i)/\∃ k,k < 6/\pc i=fE (c i) k
theorem lt6 {P:Nat->Prop}(h0:P 0)(h1:P 1)(h2:P 2)(h3:P 3)(h4:P 4)(h5:P 5){n:Nat}(h:n < 6):P n:=by
 by_cases q:n < 5
 .exact aQ4 h0 h1 h2 h3 h4 q
 .rw[show n=5 by lia];exact h5
noncomputable def aKV (c:Nat):Prop:=c≠92/\c≠34/\c≠40/\c≠41
theorem aL6 {c:Nat}(h:aKV c){k:Nat}(hk:k < 6):∃ q:List Nat,(∀ r out,bB (fE c k++r) false out none=bB r false (out++q) none)/\∀ r n,eF (q++r) false n=eF r false n:=by
 have s1:∀ r out,bB (c::r) false out none=bB r false (out++[c]) none:=fun r out=>by
  show(if c=92 then _ else if c=34 then _ else bB r false (out++[c]) none)=_
  rw[if_neg h.1,if_neg h.2.1]
 have s2:∀ r out q,bB (c::r) false out (some q)=bB r false out (some (q++[c])):=fun r out q=>by
  show(if c=92 then _ else if c=34 then _ else bB r false out (some (q++[c])))=_
  rw[if_neg h.1,if_neg h.2.1]
 have g:∀ r n,eF (c::r) false n=eF r false n:=fun r n=>by
  show(if c=92 then _ else if c=40 then _ else if c=41 then _ else eF r false n)=_
  rw[if_neg h.1,if_neg h.2.2.1,if_neg h.2.2.2]
 refine lt6 (P:=fun k=>∃ q:List Nat,(∀ r out,bB (fE c k++r) false out none=bB r false (out++q) none)/\∀ r n,eF (q++r) false n=eF r false n) ?_ ?_ ?_ ?_ ?_ ?_ hk
 .exact⟨[c],s1,g⟩
 .exact⟨[],fun r out=>by rw[List.append_nil];exact s2 (40::34::r) out [34],fun r n=>rfl⟩
 .exact⟨[92,41,c],fun r out=>(s1 r ((out++[92])++[41])).trans (by rw[aQ,aQ];rfl),g⟩
 .exact⟨[],fun r out=>by rw[List.append_nil];exact s2 (34::r) out (([34]++[41]++[92])++[34]),fun r n=>rfl⟩
 .exact⟨[c,92,92],fun r out=>(s1 (92::92::r) out).trans (show bB r false ((out++[c]++[92])++[92]) none=_ by rw[aQ,aQ];rfl),fun r n=>g (92::92::r) n⟩
 .exact⟨[92,40,c],fun r out=>(s1 r ((out++[92])++[40])).trans (by rw[aQ,aQ];rfl),g⟩
noncomputable def aP8 (c:Nat)(u:List Nat):List Nat:=u.takeWhile fun x=>!(Nat.beq x c)
noncomputable def pcB (i c k:Nat):Bool:=bS (fE c k) && (Nat.ble (fE c k).length 6 && (Nat.ble 1 (fE c k).length && (eqL (aP8 c (fE c k)++c::(fE c k).drop ((aP8 c (fE c k)).length+1)) (fE c k) && (!((aP8 c (fE c k)).any (Nat.beq c)) &&
 ((List.range 4).all (fun j=>Nat.beq j i || !((fE c k).any (Nat.beq (67+j))) && !((fE c k).any (Nat.beq (99+j)))) &&
 (bS [c] && (bS [mH c] && (Nat.beq (cK c) (99+i) && (Nat.beq (cK (mH c)) (99+i) && (!([34,40,41,92].any (Nat.beq c)) && !((fE c k).head?.any (Nat.beq 40))))))))))))
theorem aOP:(List.range 4).all (fun i=>(List.range 6).all fun k=>pcB i (67+i) k && pcB i (99+i) k)=true:=by kernel_rfl
theorem wR {l:List Nat}{x:Nat}(h:(!(l.any (Nat.beq x)))=true):x ∉ l:=fun m=>by
 rw[List.any_eq_true.mpr ⟨x,m,Nat.beq_refl x⟩]at h;exact eR h
structure aQq (c:Nat->Nat)(pc:Nat->List Nat)(i:Nat):Prop where
 cl:bS (pc i)=true
 le:(pc i).length<=6
 ge:1<=(pc i).length
 cut:∃ u v,pc i=u++c i::v/\c i ∉ u
 no:∀ j,j < 4->j≠i->c j ∉ pc i
 c1:bS [c i]=true
 c2:bS [mH (c i)]=true
 l1:cK (c i)=99+i
 l2:cK (mH (c i))=99+i
 free:aKV (c i)
 hd:(pc i).head?≠some 40
 un:∃ q:List Nat,(∀ r out,bB (pc i++r) false out none=bB r false (out++q) none)/\∀ r n,eF (q++r) false n=eF r false n
theorem eU {c:Nat->Nat}{pc:Nat->List Nat}(K:PcK c pc){i:Nat}(hi:i < 4):aQq c pc i:=by
 (refine e1a2 (K i hi).2 ?_;rintro k hk e);have g:=aB (aJ (aJ aOP i (List.mem_range.mpr hi)) k (List.mem_range.mpr hk));have g:pcB i (c i) k=true:=(K i hi).1.elim (fun e=>e ▸ g.1) (fun e=>e ▸ g.2);have a1:=aB g;have a2:=aB a1.2;have a3:=aB a2.2;have a4:=aB a3.2;have a5:=aB a4.2;have a6:=aB a5.2;have a7:=aB a6.2;have a8:=aB a7.2;have a9:=aB a8.2;have b0:=aB a9.2;have b1:=aB b0.2
 have f:aKV (c i):=by
  have m:=wR (x:=c i) (l:=[34,40,41,92]) b1.1;exact⟨fun e=>m (by rw[e];decide),fun e=>m (by rw[e];decide),fun e=>m (by rw[e];decide),fun e=>m (by rw[e];decide)⟩
 exact {
  cl:=e ▸ a1.1
  le:=e ▸ bO a2.1
  ge:=e ▸ bO a3.1
  cut:=⟨_,_,e.trans (tC _ _ a4.1).symm,wR a5.1⟩
  no:=fun j hj n m=>by
   have q:=aJ a6.1 j (List.mem_range.mpr hj);rw[lO n]at q;have q:=aB (show(!_ && !_)=true from q);rw[e]at m;refine(K j hj).1.elim (fun e2=>?_) (fun e2=>?_)
   .exact wR q.1 (e2 ▸ m)
   .exact wR q.2 (e2 ▸ m)
  c1:=a7.1
  c2:=a8.1
  l1:=aT a9.1
  l2:=aT b0.1
  free:=f
  hd:=fun h=>by
   have q:=b1.2;rw[<-e,h]at q;exact eR q
  un:=e ▸ aL6 f hk }
theorem aGQ {a b c n:Nat}(w:a<=n):a+(c - b)<=n ↔ c<=n - a+b:=by
 (refine e1a1 (Nat.le.dest w) ?_;rintro k rfl);rw[Nat.add_sub_cancel_left,Nat.add_le_add_iff_left,Nat.sub_le_iff_le_add]
theorem aPQ {a b c d n:Nat}(w:a<=n):n - a+b - c+d=n - (a+(c - b))+(d+(b - c)):=by
 (refine e1a1 (Nat.le.dest w) ?_;rintro k rfl);rw[Nat.add_sub_cancel_left,Nat.add_sub_add_left];refine(Nat.le_total c b).elim (fun q=>?_) (fun q=>?_)
 ·(refine e1a1 (Nat.le.dest q) ?_;rintro j rfl)
  rw[Nat.add_sub_cancel_left,Nat.sub_eq_zero_of_le q,Nat.sub_zero,Nat.add_left_comm,Nat.add_sub_cancel_left,Nat.add_assoc,Nat.add_comm d]
 ·(refine e1a1 (Nat.le.dest q) ?_;rintro j rfl)
  rw[Nat.add_sub_cancel_left,Nat.sub_eq_zero_of_le q,Nat.add_comm k,Nat.add_sub_add_left,Nat.add_zero]
section
variable {c:Nat->Nat} {pc:Nat->List Nat} (K:PcK c pc)
include K
theorem aQP {t:Nat}(ht:t < 6):∃ q:List Nat,(∀ r out,bB (tkX pc t++r) false out none=bB r false (out++q) none)/\∀ r n,eF (q++r) false n=(if (iZ t (0,0)).1<=n then eF r false (n - (iZ t (0,0)).1+(iZ t (0,0)).2)else false):=by
 match t,ht with
 | 0,_=>exact⟨[40],fun r out=>rfl,fun r n=>rfl⟩
 | 1,_=>exact⟨[41],fun r out=>rfl,fun r n=>by
   show(if n=0 then false else eF r false (n - 1))=(if 1<=n then eF r false (n - 1+0)else false)
   cases n with
   | zero=>rfl
   | succ n=>rfl⟩
 | i+2,h=>exact(eU K (show i < 4 by lia)).un
theorem aI4:∀ ts:List Nat,(∀ t∈ts,t < 6)->∃ q:List Nat,(∀ r out,bB (dB pc ts++r) false out none=bB r false (out++q) none)/\∀ r n,eF (q++r) false n=(if (eP ts).1<=n then eF r false (n - (eP ts).1+(eP ts).2)else false)
 | []=>fun _=>⟨[],fun r out=>by rw[List.append_nil];rfl,fun r n=>rfl⟩
 | t::ts=>fun h=>by
  (refine e1a2 (aQP K (h t aF)) ?_;rintro q h1 h2);(refine e1a2 (aI4 ts fun y m=>h y (aE _ m)) ?_;rintro q' h3 h4);refine⟨q++q',fun r out=>by rw[fY,aQ,h1,h3,aQ],fun r n=>?_⟩
  rw[aQ,h2,show eP (t::ts)=aCG (iZ t (0,0)) (eP ts)by
   rw[<-aC6];show iZ t (eP ts)=iZ t (0+((eP ts).1 - 0),(eP ts).2+(0 - (eP ts).1));rw[Nat.zero_add,Nat.sub_zero,Nat.zero_sub,Nat.add_zero]]
  generalize iZ t (0,0)=p;generalize eP ts=p' at h4 ⊢;unfold aCG;dsimp only
  by_cases w:p.1<=n
  .rw[if_pos w,h4]
   by_cases w2:p'.1<=n - p.1+p.2
   .rw[if_pos w2,if_pos ((aGQ w).mpr w2),aPQ w]
   .rw[if_neg w2,if_neg fun k=>w2 ((aGQ w).mp k)]
  .rw[if_neg w,if_neg fun k=>w (aP (Nat.le_add_right _ _) k)]
theorem aNv {ts:List Nat}(h:∀ t∈ts,t < 6){a b:Nat}(e:eP ts=(a,b)):eF (jH (dB pc ts)) false 0=(Nat.beq a 0 && Nat.beq b 0):=by
 (refine e1a2 (aI4 K ts h) ?_;rintro q h1 h2);have g:=h1 [] [];rw[List.append_nil]at g;have g2:=h2 [] 0;rw[List.append_nil,e]at g2;unfold jH;rw[g];refine g2.trans ?_
 cases a with
 | zero =>
  show((0 - 0+b) == 0)=Nat.beq b 0;rw[Nat.zero_add];cases b <;> rfl
 | succ a=>rfl
theorem aLJ {ts:List Nat}(h:∀ t∈ts,t < 6)(e:eP ts=(0,0)):eF (jH (dB pc ts++[34,40])) false 0=false:=by
 (refine e1a2 (aI4 K ts h) ?_;rintro q h1 h2);unfold jH;rw[h1];show eF (q++[34,40]) false 0=false;rw[h2,e];rfl
theorem tV:∀ {ts:List Nat},(∀ t∈ts,t < 6)->(dB pc ts).all (fun c=>Nat.ble 32 c && Nat.blt c 127)=true/\(dB pc ts).length<=6 * ts.length
 | []=>fun _=>⟨rfl,Nat.le_refl _⟩
 | t::ts=>fun h=>by
  have ih:=tV (ts:=ts) fun y m=>h y (aE _ m);rw[fY,List.all_append,aG,ih.1,aR]
  have g:(tkX pc t).all (fun c=>Nat.ble 32 c && Nat.blt c 127)=true/\(tkX pc t).length<=6:=by
   match t,h t aF with
   | 0,_=>exact⟨rfl,(by decide:(1:Nat)<=6)⟩
   | 1,_=>exact⟨rfl,(by decide:(1:Nat)<=6)⟩
   | i+2,h =>
    have k:=eU K (show i < 4 by lia)
    exact⟨(aB k.cl).1,k.le⟩
  rw[g.1];exact⟨rfl,by have:=g.2;have:=ih.2;lia⟩
theorem aJR {i:Nat}(hi:i < 4):∀ {ts:List Nat},(∀ t∈ts,t < 6)->i+2 ∉ ts->c i ∉ dB pc ts
 | []=>fun _ _=>List.not_mem_nil
 | t::ts=>fun h n=>fun m=>by
  rw[fY]at m
  rcases bF m with m | m
  .have f:=(eU K hi).free
   have hj:=h t aF
   cases t with
   | zero=>exact f.2.2.1 (aH m)
   | succ t=>cases t with
    | zero=>exact f.2.2.2 (aH m)
    | succ j=>exact(eU K (show j < 4 by lia)).no i hi (fun e=>n (by rw[e];exact .head _)) m
  .exact aJR hi (fun y m=>h y (aE _ m)) (fun m=>n (aE _ m)) m
end
theorem zH {c:Nat}{u v C:List Nat}(hu:c ∉ u):∀ (A:List Nat) (i:Nat),c ∉ A->kK (u++c::v) (A++((u++c::v)++C)) i=((i+A.length:Nat):Int)
 | []=>fun i _=>by
  have e:∃ x r,(u++c::v)++C=x::r:=by
   cases u with
   | nil=>exact⟨_,_,rfl⟩
   | cons x u=>exact⟨_,_,rfl⟩
  (refine e2a1 e ?_;rintro x r e)
  have p:List.isPrefixOf (u++c::v) (x::r)=true:=by
   rw[<-e,List.isPrefixOf_iff_prefix];exact List.prefix_append _ _
  rw[List.nil_append,e,aCv,if_pos p];rfl
 | x::A=>fun i h=>by
  have hx:x≠c:=fun e=>h (by rw[e];exact .head _)
  have hA:c ∉ A:=fun m=>h (aE _ m)
  have p:¬ List.isPrefixOf (u++c::v) (x::(A++((u++c::v)++C)))=true:=by
   rw[List.isPrefixOf_iff_prefix];rintro⟨D,e⟩;have k:((u++c::v)++D)[u.length]?=(x::(A++((u++c::v)++C)))[u.length]?:=congrArg (fun l=>l[u.length]?) e;rw[aQ,List.getElem?_append_right (Nat.le_refl _),Nat.sub_self]at k
   have m:c∈x::(A++u):=by
    have k:(x::(A++((u++c::v)++C)))[u.length]?=some c:=k.symm;rw[show x::(A++((u++c::v)++C))=(x::(A++u))++(c::v++C)by simp only[List.cons_append,aQ],List.getElem?_append_left (by rw[aR,aG];lia)]at k
    exact List.mem_of_getElem? k
   rcases aM m with e | m
   .exact hx e.symm
   .exact(bF m).elim hA hu
  rw[List.cons_append,aCv,if_neg p,zH hu A (i+1) hA,aR]
  congr 1
  lia
structure wK (pc:Nat->List Nat)(l:List NV)(g:Nat->List (List Nat)):Prop where
 get:∀ i,i < 4->∀ n:List Nat,n.map cK=[99+i]->eC n l=(g i).map (dB pc)
 cl:∀ r∈l,bS r.1=true/\bS r.2=true
 nm:∀ r∈l,∃ i,r.1.map cK=[99+i]
 len:l.length=(g 0).length+(g 1).length+(g 2).length+(g 3).length
noncomputable def upG (g:Nat->List (List Nat))(i:Nat)(x:List (List Nat)):Nat->List (List Nat):=fun j=>bif Nat.beq j i then x else g j
theorem eZ {g:Nat->List (List Nat)}{i:Nat}{x:List (List Nat)}:upG g i x i=x:=by unfold upG;rw[Nat.beq_refl];rfl
theorem iL {g:Nat->List (List Nat)}{i j:Nat}{x:List (List Nat)}(h:j≠i):upG g i x j=g j:=by unfold upG;rw[lO h];rfl
theorem aF5 {g:Nat->List (List Nat)}{i:Nat}(hi:i < 4)(x:List (List Nat)):(upG g i x 0).length+(upG g i x 1).length+(upG g i x 2).length+(upG g i x 3).length+(g i).length=(g 0).length+(g 1).length+(g 2).length+(g 3).length+x.length:=by
 rcases lt4 hi with rfl | rfl | rfl | rfl
 .show x.length+_+_+_+_=_;show x.length+(g 1).length+(g 2).length+(g 3).length+(g 0).length=_;lia
 .show(g 0).length+x.length+(g 2).length+(g 3).length+(g 1).length=_;lia
 .show(g 0).length+(g 1).length+x.length+(g 3).length+(g 2).length=_;lia
 .show(g 0).length+(g 1).length+(g 2).length+x.length+(g 3).length=_;lia
section
variable {pc:Nat->List Nat} {l:List NV} {g:Nat->List (List Nat)}
theorem aF8 {i j:Nat}(h:j≠i):¬ ([99+i]:List Nat)=[99+j]:=fun e=>h (Nat.add_left_cancel (List.head_eq_of_cons_eq e)).symm
theorem aBY (h:wK pc l g){i:Nat}(hi:i < 4){n v:List Nat}(hn:n.map cK=[99+i])(c1:bS n=true)(c2:bS (dB pc v)=true):wK pc (l++[(n,dB pc v)]) (upG g i (g i++[v])) where
 get:=fun j hj n' e=>by
  unfold eC;rw[List.filter_append,List.map_append,show(l.filter fun p=>decide (p.1.map cK=n'.map cK)).map (·.2)=_ from h.get j hj n' e,List.filter_cons,hn,e]
  by_cases q:j=i
  .subst q
   rw[if_pos (decide_eq_true rfl),eZ,List.map_append];rfl
  .rw[if_neg (by rw[decide_eq_false (aF8 q)];exact aN),iL q]
   exact List.append_nil _
 cl:=fun r m=>(bF m).elim (h.cl r) fun m=>by rw[aH m];exact⟨c1,c2⟩
 nm:=fun r m=>(bF m).elim (h.nm r) fun m=>⟨i,by rw[aH m];exact hn⟩
 len:=by
  have:=aF5 (g:=g) hi (g i++[v]);rw[aG,List.length_singleton]at this ⊢;have:=h.len;lia
theorem aCz (n:List Nat):∀ l:List NV,(eJ n l).length+(eC n l).length=l.length
 | []=>rfl
 | r::l=>by
  have ih:=aCz n l;unfold eJ eC at ih ⊢;rw[List.filter_cons,List.filter_cons]
  cases decide (r.1.map cK=n.map cK)with
  | true=>rw[if_neg (by decide),if_pos rfl,aY,aR,aR];lia
  | false=>rw[if_pos (by decide),if_neg (by decide),aR,aR];lia
theorem aJc (h:wK pc l g){i:Nat}(hi:i < 4){n:List Nat}(hn:n.map cK=[99+i]):wK pc (eJ n l) (upG g i [])/\(eJ n l).length+(g i).length=l.length:=by
 have e:(eJ n l).length+(g i).length=l.length:=by
  have:=aCz n l
  rwa [h.get i hi n hn,aK]at this
 refine⟨{
  get:=fun j hj n' e=>by
   unfold eC eJ;rw[List.filter_filter,hn,e]
   by_cases q:j=i
   .subst q
    rw[eZ,List.filter_eq_nil_iff.mpr fun r m=>by cases decide (r.1.map cK=[99+j]) <;> decide]
    rfl
   .rw[iL q,<-h.get j hj n' e]
    unfold eC;rw[e]
    congr 1
    refine List.filter_congr fun r m=>?_
    cases q2:decide (r.1.map cK=[99+j])with
    | false=>rfl
    | true=>rw[aC q2,decide_eq_false (aF8 fun e=>q e.symm)];rfl
  cl:=fun r m=>h.cl r (List.mem_filter.mp m).1
  nm:=fun r m=>h.nm r (List.mem_filter.mp m).1
  len:=by
   have k:=aF5 (g:=g) hi [];have:=h.len;rw[List.length_nil]at k;lia },e⟩
theorem qY (h:wK pc l g){g':Nat->List (List Nat)}(e:∀ i,i < 4->g i=g' i):wK pc l g' where
 get:=fun i hi=>e i hi ▸ h.get i hi
 cl:=h.cl
 nm:=h.nm
 len:=by rw[h.len,e 0 (by decide),e 1 (by decide),e 2 (by decide),e 3 (by decide)]
theorem nZ (h:wK pc l g)(hl:l.length<=1000):dS l=true:=by
 unfold dS;rw[cD fun r m=>by rw[(h.cl r m).1,(h.cl r m).2];rfl,Nat.ble_eq.mpr (show l.length<=lim from aP hl (by decide))]
 rfl
theorem aOp (h:wK pc l g){i:Nat}(hi:i < 4){v:List Nat}(m:v∈g i):bS (dB pc v)=true:=by
 have k:dB pc v∈eC [99+i] l:=by
  rw[h.get i hi [99+i] (by rcases lt4 hi with rfl | rfl | rfl | rfl <;> rfl)]
  exact List.mem_map.mpr ⟨v,m,rfl⟩
 unfold eC at k;(refine e1a2 (bJ k) ?_;rintro r k e);exact e ▸ (h.cl r (List.mem_filter.mp k).1).2
end
noncomputable def stD (v:List Nat)(e:Nat × Nat × Nat):PyData:=.tuple [.int (v.getD e.1 0:Nat),.int (e.2.1:Nat),.int (e.2.2:Nat)]
structure tR (c:Nat->Nat)(pc:Nat->List Nat)(v:List Nat)(E:AE)(L:Int)(l:List NV)(h:List Nat):Prop where
 e75:aI E 75=some (.list ((List.range 4).map fun i=>S [c i]))
 e76:aI E 76=some (.list ((List.range 4).map fun i=>S (pc i)))
 e77:aI E 77=some (.list (ED.map (stD v)))
 e69:aI E 69=some (eB (jP 0 v))
 e81:aI E 81=some (.int L)
 e78:E 78=some (.hdr l)
 e79:aI E 79=some (bU h)
theorem tR.set {c:Nat->Nat}{pc:Nat->List Nat}{v:List Nat}{E:AE}{L:Int}{l:List NV}{h:List Nat}(k:tR c pc v E L l h){i:Nat}{x:PV}(hi:∀ j∈[69,75,76,77,78,79,81],j≠i):tR c pc v (E.set i x) L l h where
 e75:=(iP (hi _ (by decide))).trans k.e75
 e76:=(iP (hi _ (by decide))).trans k.e76
 e77:=(iP (hi _ (by decide))).trans k.e77
 e69:=(iP (hi _ (by decide))).trans k.e69
 e81:=(iP (hi _ (by decide))).trans k.e81
 e78:=(aA2 (hi _ (by decide))).trans k.e78
 e79:=(iP (hi _ (by decide))).trans k.e79
theorem tR.tab {c:Nat->Nat}{pc:Nat->List Nat}{v:List Nat}{E:AE}{L:Int}{l l':List NV}{h:List Nat}(k:tR c pc v E L l h):tR c pc v (E.set 78 (.hdr l')) L l' h :=
 ⟨k.e75,k.e76,k.e77,k.e69,k.e81,rfl,k.e79⟩
section
variable {T:Nat->List PV->Option PyData} {W:Nat} {c:Nat->Nat} {pc:Nat->List Nat} {v:List Nat} {E:AE} {L:Int} {l:List NV} {h:List Nat}
theorem yJ (K:PcK c pc)(b:tR c pc v E L l h){x:X}{k:Nat}(hx:ev aU T x E=some (.int k))(hk:k < 4):ev aU T (.idx (.var 75) x) E=some (S [c k])/\ev aU T (.p1 .swapcase (.idx (.var 75) x)) E=some (S [mH (c k)]) :=
 have e:ev aU T (.idx (.var 75) x) E=some (S [c k]):=dO b.e75 hx (lA hk (by decide))
 ⟨e,uB e (if_pos ⟨aLG (eU K hk).c1,(by decide:1<=1000000)⟩)⟩
theorem aKI (b:tR c pc v E L l h){g:Nat->List (List Nat)}(t:wK pc l g)(hl:l.length<=1000){x:X}{n:List Nat}(hx:ev aU T x E=some (S n))(hn:bS n=true){i:Nat}(hi:i < 4)(e:n.map cK=[99+i]):ev aU T (.hget 78 x) E=some (.list (((g i).map (dB pc)).map S)) :=
 t.get i hi n e ▸ aCp b.e78 hx hn (nZ t hl)
theorem aN4 (b:tR c pc v E L l h){x y:X}{n u:List Nat}(hx:ev aU T x E=some (S n))(hy:ev aU T y E=some (S u))(hn:bS n=true)(hu:bS u=true)(hl:l.length<=1000):ex aU T W (.hadd 78 x y) E=some (E.set 78 (.hdr (l++[(n,u)])),none):=by
 rw[aBE,rM b.e78,hx,hy];exact if_pos ⟨hn,hu,show l.length<=1000000 by lia⟩
theorem aBm (K:PcK c pc){a:Nat}(ha:a < 4):∀ (vs:List (List Nat)) (l:List NV) (g:Nat->List (List Nat)) (E:AE),tR c pc v E L l h->aI E 82=some (.int a)->wK pc l g->(∀ u∈vs,bS (dB pc u)=true)->l.length+vs.length<=1000 ->
  ∃ E' l',forLoop (fun E'=>exs aU T W mV E') (fun d E'=>dF (.name 32) d E') (vs.map fun v=>S (dB pc v)) E=some (E',none)/\tR c pc v E' L l' h/\wK pc l' (upG g a (g a++vs))/\l'.length=l.length+vs.length/\aI E' 82=some (.int a)/\aI E' 83=aI E 83
 | []=>fun l g E b e t _ _=>⟨E,l,rfl,b,qY t fun i _=>by
   by_cases q:i=a
   .rw[q,eZ,List.append_nil]
   .rw[iL q],rfl,e,rfl⟩
 | u::vs=>fun l g E b e t hc hl=>by
  rw[aR]at hl;have p:=eU K ha;have b1:tR c pc v (E.set 32 (.dat (S (dB pc u)))) L l h:=⟨b.e75,b.e76,b.e77,b.e69,b.e81,b.e78,b.e79⟩;have t2:=aBY t ha (n:=[mH (c a)]) (by rw[List.map_singleton,p.l2]) p.c2 (hc u aF)
  (refine e2a6 (aBm K ha vs _ _ _ (b1.tab (l':=l++[([mH (c a)],dB pc u)])) e t2 (fun y m=>hc y (aE _ m)) (by rw[aG];show _+1+_<=_;lia)) ?_;rintro E' l' g1 g2 g3 g4 g5 g6)
  refine⟨E',l',oM rfl (dE (aN4 b1 (yJ (T:=T) K b1 (x:=.var 82) e ha).2 (y:=.var 32) rfl p.c2 (hc u aF) (by lia))) g1,g2,qY g3 fun i hi=>?_,by rw[g4,aG,aR,aR];show _+(0+1)+_=_;lia,g5,g6⟩
  by_cases q:i=a
  .rw[q,eZ,eZ,eZ,aQ];rfl
  .rw[iL q,iL q,iL q]
noncomputable def rY (xs:List (List Nat)):List Nat:=0::(xs.flatten++[1])
theorem aF7 (pc:Nat->List Nat):∀ xs:List (List Nat),(xs.map (dB pc)).flatten=dB pc xs.flatten
 | []=>rfl
 | x::xs=>by rw[aY,List.flatten_cons,aF7 pc xs,List.flatten_cons,iS]
theorem aAT (K:PcK c pc):∀ (ks:List Nat) (l:List NV) (g:Nat->List (List Nat)) (E:AE),tR c pc v E L l h->wK pc l g->ks.Nodup->(∀ r∈ks,r < 4/\bS (dB pc (rY (g r)))=true)->l.length+ks.length<=1000 ->
  ∃ E' l',forLoop (fun E'=>exs aU T W yT E') (fun d E'=>dF (.name 82) d E') (ks.map fun p:Nat=>.int p) E=some (E',none)/\tR c pc v E' L l' h/\wK pc l' (fun i=>bif fF ks i then[rY (g i)]else g i)/\aI E' 80=aI E 80
 | []=>fun l g E b t _ _ _=>⟨E,l,rfl,b,t,rfl⟩
 | r::ks=>fun l g E b t hn hc hl=>by
  rw[aR]at hl;have f:=hc r aF;have p:=eU K f.1;have hl1:l.length<=1000:=by lia
  have nd:=List.nodup_cons.mp hn;have b1:tR c pc v (E.set 82 (.dat (.int r))) L l h:=⟨b.e75,b.e76,b.e77,b.e69,b.e81,b.e78,b.e79⟩;have n1:=yJ (T:=T) K b1 (x:=.var 82) (k:=r) rfl f.1;have m1:[c r].map cK=[99+r]:=by rw[List.map_singleton,p.l1]
  have tw:dB pc (rY (g r))=[40]++(eV [] ((g r).map (dB pc)))++[41]:=by
   rw[jX,aF7,rY,fY,iS,aQ];rfl
  have wl:(dB pc (rY (g r))).length<=1000000:=bO (aB f.2).2
  have tl:1+(eV [] ((g r).map (dB pc))).length+1<=1000000:=by
   rw[tw,aG,aG]at wl;exact wl
  have gl:(g r).length<=1000:=by
   have:=aCz [c r] l;rw[t.get r f.1 [c r] m1,aK]at this;lia
  have hj:wF .join (S []) (.list (((g r).map (dB pc)).map S))=some (S (eV [] ((g r).map (dB pc)))):=by
   rw[eO,aB0];exact if_pos ⟨show(eV [] ((g r).map (dB pc))).length<=1000000 by lia,by rw[aK,aK];show _<=1000000;lia,Nat.zero_le _⟩
  have hv:ev aU T (.bin .add (.bin .add (.str [40]) (.p2 .join (.str []) (.hget 78 (.p1 .swapcase (.idx (.var 75) (.var 82)))))) (.str [41])) (E.set 82 (.dat (.int r)))=some (S (dB pc (rY (g r)))) :=
   tw ▸ dM (x:=S ([40]++eV [] ((g r).map (dB pc)))) (dM (x:=S [40]) rfl (aHx (x:=S []) rfl (aKI b1 t hl1 n1.2 p.c2 f.1 (by rw[List.map_singleton,p.l2])) hj) (if_pos (show 1+(eV [] ((g r).map (dB pc))).length<=1000000 by lia))) (y:=S [41]) rfl (if_pos (by show([40]++eV [] ((g r).map (dB pc))).length+1<=1000000;rw[aG];exact tl))
  have s:ex aU T W (.hset 78 (.idx (.var 75) (.var 82)) (.bin .add (.bin .add (.str [40]) (.p2 .join (.str []) (.hget 78 (.p1 .swapcase (.idx (.var 75) (.var 82)))))) (.str [41]))) (E.set 82 (.dat (.int r)))=some ((E.set 82 (.dat (.int r))).set 78 (.hdr (eJ [c r] l++[([c r],dB pc (rY (g r)))])),none):=by
   rw[aIv,hv,rM b1.e78,n1.1];exact if_pos ⟨p.c1,f.2,nZ t hl1⟩
  have td:=aJc t f.1 m1;have t2:=aBY td.1 f.1 m1 p.c1 f.2;rw[eZ,List.nil_append]at t2
  have hk:∀ k∈ks,k < 4/\bS (dB pc (rY (upG (upG g r []) r [rY (g r)] k)))=true:=fun k m=>by
   have q:k≠r:=fun e=>nd.1 (e ▸ m);rw[iL q,iL q];exact hc k (aE _ m)
  (refine e2a4 (aAT K ks _ _ _ b1.tab t2 nd.2 hk (by rw[aG];have:=td.2;show _+1+_<=_;lia)) ?_;rintro E' l' g1 g2 g3 g4)
  refine⟨E',l',oM rfl (dE s) g1,g2,qY g3 fun i hi=>?_,g4⟩;unfold fF;rw[List.any_cons]
  by_cases q:i=r
  .rw[q,eZ,Nat.beq_refl,show ks.any (Nat.beq r)=false by
    rw[<-Bool.not_eq_true];intro k;(refine e1a2 (List.any_eq_true.mp k) ?_;rintro x m e);exact nd.1 (aT e ▸ m)]
   rfl
  .rw[iL q,iL q,lO q]
   rfl
end
noncomputable def gM (m:List (List Nat))(T:Nat->List Nat)(i:Nat):List (List Nat):=(m.getD i []).map T
theorem vN {J:Type}{l:List J}{i:Nat}{x d:J}(h:i < l.length):(l.set i x).getD i d=x:=by
 rw[List.getD_eq_getElem?_getD,List.getElem?_set_self h];rfl
theorem vM {J:Type}{l:List J}{i j:Nat}{x d:J}(h:i≠j):(l.set i x).getD j d=l.getD j d:=by
 rw[List.getD_eq_getElem?_getD,List.getElem?_set_ne h,<-List.getD_eq_getElem?_getD]
theorem aOX {m:List (List Nat)}{T:Nat->List Nat}{a b:Nat}(ha:a < m.length)(hb:b < m.length)(n:b≠a)(i:Nat):upG (upG (gM m T) a (gM m T a++gM m T b)) b [] i=gM (aDx m a b) T i:=by
 unfold aDx
 by_cases q:i=b
 .rw[q,eZ]
  unfold gM;rw[vN (by rw[List.length_set];exact hb)]
  rfl
 .rw[iL q]
  unfold gM;rw[vM fun e=>q e.symm]
  by_cases q2:i=a
  .rw[q2,eZ,vN ha,List.map_append]
  .rw[iL q2,vM fun e=>q2 e.symm]
section
variable {F:Nat->List PV->Option PyData} {W:Nat} {c:Nat->Nat} {pc:Nat->List Nat} {v:List Nat}
theorem aLp {E:AE}{x y:X}{a b:Nat}(h1:ev aU F x E=some (.int a))(h2:ev aU F y E=some (.int b)):ev aU F (.cmp1 .eq x y) E=some (.bool (Nat.beq a b)):=dG h1 h2 (aLo a b)
noncomputable def LvI (c:Nat->Nat)(pc:Nat->List Nat)(v:List Nat)(T:Nat->List Nat)(L:Nat)(s:HM)(E:AE):Prop :=
 ∃ l,tR c pc v E (L:Nat) l s.1/\wK pc l (gM s.2.1 T)/\l.length<=4/\s.1.length=4/\(∀ x∈s.1,x < 4)/\s.2.1.length=4
noncomputable def aRc:Sts:=(.cons (.forS (.name 32) (.val (.hget 78 (.p1 .swapcase (.idx (.var 75) (.var 83))))) mV) (.cons (.hdel 78 (.p1 .swapcase (.idx (.var 75) (.var 83)))) (.cons (.iff (.cmp1 .ne (.hget 78 (.idx (.var 75) (.var 83))) (.lst .nil)) (.cons (.ret (.bool false)) .nil) .nil) (.cons (.asg 0 79 (.comp (.ite (.cmp1 .eq (.var 84) (.var 83)) (.var 82) (.var 84)) (.name 84) (.val (.var 79)) .nil)) .nil))))
theorem aOd {E:AE}{l:List NV}{e:X}{n:List Nat}(h0:E 78=some (.hdr l))(h:ev aU F e E=some (S n))(hn:bS n=true)(hl:dS l=true):ex aU F W (.hdel 78 e) E=some (E.set 78 (.hdr (eJ n l)),none):=by
 rw[aIw,rM h0,h];exact if_pos ⟨hn,hl⟩
theorem aOW (K:PcK c pc){E:AE}{L:Int}{l:List NV}{h:List Nat}{g:Nat->List (List Nat)}{a d:Nat}(b:tR c pc v E L l h)(t:wK pc l g)(e82:aI E 82=some (.int a))(e83:aI E 83=some (.int d))(ha:a < 4)(hb:d < 4)(nd:d≠a)(ll:l.length<=4)(hh:h.length<=1000) :
  ∃ E' l',exs aU F W aRc E=some (E',none)/\tR c pc v E' L l' (aBw h a d)/\wK pc l' (upG (upG g a (g a++g d)) d [])/\l'.length=l.length:=by
 have pd:=eU K hb
 have gd:(g d).length<=4:=by
  have:=t.len
  rcases lt4 hb with rfl | rfl | rfl | rfl <;> lia
 have l2:[mH (c d)].map cK=[99+d]:=by rw[List.map_singleton,pd.l2]
 (refine e2a6 (aBm (T:=F) (W:=W) K ha (g d) l g E b e82 t (fun u=>aOp t hb) (by lia)) ?_;rintro E4 l4 g1 b4 t4 l4e k82 k83)
 have k83:=k83.trans e83;have td:=aJc t4 hb l2;rw[iL nd]at td;have b5:=b4.tab (l':=eJ [mH (c d)] l4);have g5:=aKI b5 td.1 (by lia) (yJ (T:=F) K b5 (x:=.var 83) k83 hb).1 pd.c1 hb (by rw[List.map_singleton,pd.l1])
 rw[eZ]at g5
 have hm:ev aU F (.comp (.ite (.cmp1 .eq (.var 84) (.var 83)) (.var 82) (.var 84)) (.name 84) (.val (.var 79)) .nil) (E4.set 78 (.hdr (eJ [mH (c d)] l4)))=some (bU (aBw h a d)):=by
  refine Eq.trans (aA8 (f:=fun t:Nat=>PyData.int ((bif Nat.beq t d then a else t:Nat):Int)) (Ed:=fun t:Nat=>(E4.set 78 (.hdr (eJ [mH (c d)] l4))).set 84 (.dat (.int t))) (aCl b5.e79 hh) fun t m=>⟨rfl,aGe (aLp (x:=.var 84) (a:=t) rfl k83) (by
   cases Nat.beq t d with
   | true=>exact k82
   | false=>rfl)⟩) ?_
  unfold bU aBw;rw[List.map_map];rfl
 have g1':forLoop (fun E'=>exs aU F W mV E') (fun d E'=>dF (.name 32) d E') (((g d).map (dB pc)).map S) E=some (E4,none):=by rw[List.map_map];exact g1
 exact⟨_,_,aX (qN (aA6 (aKI b t (by lia) (yJ (T:=F) K b (x:=.var 83) e83 hb).2 pd.c2 hb l2) (by rw[aK,aK];lia)) g1') (aX (aOd b4.e78 (yJ (T:=F) K b4 (x:=.var 83) k83 hb).2 pd.c2 (nZ t4 (by lia))) (aX (lQ (dG g5 rfl (aB4 (d:=[]) rfl))) (dE (dL hm)))),⟨b5.e75,b5.e76,b5.e77,b5.e69,b5.e81,b5.e78,bN⟩,td.1,by have:=td.2;lia⟩
theorem aNB (K:PcK c pc)(hv:v.length=6){T:Nat->List Nat}{L:Nat}{e:Nat × Nat × Nat}(me:e∈ED){s:HM}{E:AE}(I:LvI c pc v T L s E) :
  ∃ E1 E2,dF (.tup [42,62,63]) (stD v e) E=some E1/\exs aU F W mW E1=some (E2,none)/\LvI c pc v T L (mst (atB v L) s e) E2:=by
 (refine e1a6 I ?_;rintro l b t ll h4 hx m4);have lt:=aGW e me;have gk:(atB v L).getD e.1 false=Nat.beq (v.getD e.1 0) L:=wS _ (by rw[hv];exact(aGf [] e me).1)
 have m1:=oZ (l:=s.1) (i:=e.2.2) (by rw[h4];exact lt.2.1)
 have m2:=oZ (l:=s.1) (i:=e.2.1) (by rw[h4];exact lt.1)
 unfold mst;rw[gk];have ha:=hx _ (List.mem_of_getElem? m1);have hb:=hx _ (List.mem_of_getElem? m2);generalize s.1.getD e.2.2 0=a at ha ⊢ m1;generalize s.1.getD e.2.1 0=d at hb ⊢ m2;have ix:∀ {i k:Nat},s.1[i]?=some k->jD (bU s.1) (.int (i:Nat))=some (.int (k:Nat)):=fun q=>oX (by rw[List.getElem?_map,q];rfl) (by rw[aK,h4];decide)
 have b3:tR c pc v (((((E.set 42 (.dat (.int (v.getD e.1 0:Nat)))).set 62 (.dat (.int (e.2.1:Nat)))).set 63 (.dat (.int (e.2.2:Nat)))).set 82 (.dat (.int a))).set 83 (.dat (.int d))) L l s.1:=⟨b.e75,b.e76,b.e77,b.e69,b.e81,b.e78,b.e79⟩;have hc:ev aU F (.and (.cons (.cmp1 .eq (.var 42) (.var 81)) (.cons (.cmp1 .ne (.var 82) (.var 83)) .nil))) _=some (.bool (Nat.beq (v.getD e.1 0) L && !(Nat.beq a d))):=aA7 (aLp (x:=.var 42) (a:=v.getD e.1 0) rfl b3.e81) (aDv (x:=.var 82) (y:=.var 83) (a:=a) (b:=d) rfl rfl);have st:∀ {E2:AE},_->exs aU F W mW (((E.set 42 (.dat (.int (v.getD e.1 0:Nat)))).set 62 (.dat (.int (e.2.1:Nat)))).set 63 (.dat (.int (e.2.2:Nat))))=some (E2,none):=fun q=>aX (dL (dO b.e79 rfl (ix m1))) (aX (dL (dO b.e79 rfl (ix m2))) (dE (Eq.trans (gO hc) q)))
 cases hq:Nat.beq (v.getD e.1 0) L && !(Nat.beq a d)with
 | false =>
  rw[hq]at st;exact⟨_,_,rfl,st rfl,l,b3,t,ll,h4,hx,m4⟩
 | true =>
  rw[hq]at st
  have nd:d≠a:=fun q=>by
   have:=(aB hq).2;rw[q,Nat.beq_refl]at this;exact eR this
  (refine e2a4 (aOW (F:=F) (W:=W) K b3 t rfl bN ha hb nd ll (by rw[h4];decide)) ?_;rintro E' l' q1 q2 q3 q4)
  refine⟨_,E',rfl,st q1,l',q2,qY q3 fun i hi=>aOX (by rw[m4];exact ha) (by rw[m4];exact hb) nd i,q4 ▸ ll,?_,fun x m=>?_,?_⟩
  .show(aBw s.1 a d).length=4
   unfold aBw;rw[aK,h4]
  ·(refine e1a2 (bJ m) ?_;rintro y my rfl)
   cases Nat.beq y d with
   | true=>exact ha
   | false=>exact hx y my
  .show(aDx s.2.1 a d).length=4
   unfold aDx;rw[List.length_set,List.length_set,m4]
end
theorem aDP {h:List Nat}{i:Nat}(hi:i < 4):fF (cN h) i=fF h i:=by
 cases q:fF h i with
 | true=>exact List.any_eq_true.mpr ⟨i,sL hi q,Nat.beq_refl i⟩
 | false =>
  rw[<-Bool.not_eq_true];intro k;(refine e1a2 (List.any_eq_true.mp k) ?_;rintro x m e);rw[<-aT e]at m;rw[(List.mem_filter.mp m).2]at q;exact nbf q
theorem yP {h:List Nat}{i:Nat}(hi:i < 4):(aAI h).getD i []=bif fF h i then[i]else[]:=by
 rcases lt4 hi with rfl | rfl | rfl | rfl <;> rfl
theorem aKg {x:Nat}:∀ {l:List Nat},x∈l->x<=l.sum
 | y::l,m=>by
  rw[List.sum_cons]
  rcases aM m with rfl | m
  .lia
  .have:=aKg m
   lia
theorem aN8 {v:List Nat}(h:∀ x∈v,x<=6):∀ A:List Nat,QA v A<=6 * A.length
 | []=>Nat.le_refl _
 | k::A=>by
  have ih:=aN8 h A
  have:v.getD k 0<=6:=by
   by_cases q:k < v.length
   .exact h _ (List.mem_of_getElem? (oZ q))
   .rw[List.getD_eq_getElem?_getD,List.getElem?_eq_none (Nat.le_of_not_lt q)]
    exact Nat.zero_le _
  unfold QA at ih ⊢;rw[aY,List.sum_cons,aR];lia
theorem aCs {h:List Nat}{T:Nat->List Nat}{i:Nat}(hi:i < 4):(gM (aAI h) T i).length<=1:=by
 unfold gM;rw[yP hi,aK]
 cases fF h i with
 | false=>exact Nat.zero_le _
 | true=>exact Nat.le_refl _
section
variable {F:Nat->List PV->Option PyData} {W:Nat} {c:Nat->Nat} {pc:Nat->List Nat} {v w:List Nat}
theorem aQY (K:PcK c pc):PS pc<=24:=by
 have g:=fun i (hi:i < 4)=>(eU K hi).le;show(pc 0).length+((pc 1).length+((pc 2).length+((pc 3).length+0)))<=24;have:=g 0 (by decide)
 have:=g 1 (by decide)
 have:=g 2 (by decide)
 have:=g 3 (by decide)
 lia
theorem aAW (K:PcK c pc)(h6:∀ x∈v,x<=6){L:Nat}(hL:L<=7){h:List Nat}{T:Nat->List Nat}{A:List Nat}(I:aEG pc v w L h T A){r:Nat}(hr:fF h r=true):bS (dB pc (T r))=true/\(dB pc (T r)).length<=1000:=by
 have e:=pY I.hv;have q:=aN8 h6 A;have la:=I.la;have p:=aQY K;have m:=aKg (List.mem_map.mpr ⟨r,sL (zC I.hv hr) hr,rfl⟩:(dB pc (T r)).length∈(cN h).map fun r=>(dB pc (T r)).length);rw[I.ln]at m;have lk:L * (cN h).length<=7 * 4:=Nat.mul_le_mul hL e.2.1;have b:(dB pc (T r)).length<=1000:=by lia
 refine⟨?_,b⟩;unfold bS;rw[(tV K (I.tx.tok r hr)).1,Nat.ble_eq.mpr (show _<=lim from aP b (by decide))]
 rfl
theorem aMX {p:Nat}{h:List Nat}:kP .isin (.int p) (bU h)=some (fF h p):=by
 unfold bU;rw[tB,if_pos ⟨by have:=aDr (h.map fun p:Nat=>(p:Int));rw[List.map_map]at this;exact this,rfl⟩,List.any_map]
 congr 1
 unfold fF
 congr 1
 funext x
 show PyData.eqv (.int (x:Nat)) (.int (p:Nat))=Nat.beq p x;rw[PyData.eqv]
 by_cases q:p=x
 .rw[q,Nat.beq_refl,beq_self_eq_true]
 .rw[lO q,beq_eq_false_iff_ne]
  exact fun e=>q (Int.ofNat_inj.mp e).symm
theorem aML {E:AE}{h:List Nat}(h79:aI E 79=some (bU h)):ev aU F (.comp (.var 30) (.name 30) (.rng1 (.int 4)) (.cons (.cmp1 .isin (.var 30) (.var 79)) .nil)) E=some (bU (cN h)) :=
 aEW (fF h) (f:=fun p:Nat=>PyData.int p) (Ed:=fun p:Nat=>E.set 30 (.dat (.int p))) (xU (x:=.int 4) (m:=4) rfl (by decide)) fun p m=>⟨rfl,aJx (dG (x:=.int p) rfl h79 aMX),rfl⟩
theorem aHV (K:PcK c pc)(hv6:v.length=6)(hw6:w.length=6)(pw:∀ L,clB (cU v L)=cU w L)(h6:∀ x∈v,x<=6){L:Nat}(hL:L<=6){h:List Nat}{T:Nat->List Nat}{A:List Nat}(I:aEG pc v w L h T A)
  {E:AE} {l:List NV} (b:tR c pc v E ((L:Int) - 1) l h) (t:wK pc l (gM (aAI h) T)) (ll:l.length<=4) :
  ∃ E' l',exs aU F W rE E=some (E',none)/\tR c pc v E' L l' (sH (atB v L) h).1/\wK pc l' (gM (aAI (sH (atB v L) h).1) (jB T (sH (atB v L) h).2.1))/\l'.length<=4/\aI E' 80=some (bU (cN (sH (atB v L) h).1)):=by
 have I2:=aBl hv6 hw6 pw I;have R:=aA3 I.hv (N:=atB v L) (by unfold atB;rw[aK,hv6])
 have f:=aDN I.hv;have b1:tR c pc v (E.set 81 (.dat (.int (L:Nat)))) (L:Nat) l h:=⟨b.e75,b.e76,b.e77,b.e69,bN,b.e78,b.e79⟩;(refine e1a2 (uL (body:=fun E'=>exs aU F W mW E') (bindv:=fun d E'=>dF (.tup [42,62,63]) d E') (LvI c pc v T L) (stD v) (mst (atB v L)) ED (h,aAI h,[]) _ (fun e m s E k=>aNB K hv6 m k) ⟨l,b1,t,ll,f.1,fun x m=>dD (aJ (aB (aB I.hv).2).1 x m),rfl⟩) ?_;rintro E2 g1 g2);have g2:LvI c pc v T L (sH (atB v L) h) E2:=g2;generalize sH (atB v L) h=q at g2 I2 R ⊢;(refine e1a6 g2 ?_;rintro l2 b2 t2 ll2 u_ u_ u_);have kl:=(pY R.hv).2.1;have b3:tR c pc v (E2.set 80 (.dat (bU (cN q.1)))) (L:Nat) l2 q.1:=⟨b2.e75,b2.e76,b2.e77,b2.e69,b2.e81,b2.e78,b2.e79⟩
 (refine e2a4 (aAT (T:=F) (W:=W) K (cN q.1) l2 (gM q.2.1 T) _ b3 t2 (List.nodup_range.sublist List.filter_sublist) (fun r m=>by
  have m:=List.mem_filter.mp m;exact⟨List.mem_range.mp m.1,(aAW K h6 (Nat.succ_le_succ hL) I2 m.2).1⟩) (by lia)) ?_;rintro E4 l4 g3 b4 t4 k80)
 have t5:wK pc l4 (gM (aAI q.1) (jB T q.2.1)):=qY t4 fun i hi=>by
  rw[aDP hi];unfold gM;rw[yP hi]
  cases e:fF q.1 i with
  | true=>rfl
  | false=>rw[R.no i hi e];rfl
 refine⟨E4,l4,aX (dL (dM b.e81 rfl (congrArg (fun z=>some (PyData.int z)) (Int.sub_add_cancel (L:Int) 1)))) (aX (qN (aA6 b1.e77 (by rw[aK];decide)) g1) (aX (dL (aML b2.e79)) (dE (qN (aCl (i:=80) bN (by lia)) g3)))),b4,t5,?_,k80⟩
 have:=t5.len;have:=aCs (h:=q.1) (T:=jB T q.2.1) (show 0 < 4 by decide)
 have:=aCs (h:=q.1) (T:=jB T q.2.1) (show 1 < 4 by decide)
 have:=aCs (h:=q.1) (T:=jB T q.2.1) (show 2 < 4 by decide)
 have:=aCs (h:=q.1) (T:=jB T q.2.1) (show 3 < 4 by decide)
 lia
theorem aAU (K:PcK c pc)(hv6:v.length=6)(hw6:w.length=6)(pw:∀ L,clB (cU v L)=cU w L)(h6:∀ x∈v,x<=6):∀ (n L:Nat) (h:List Nat) (T:Nat->List Nat) (A:List Nat) (E:AE) (l:List NV),aEG pc v w L h T A->tR c pc v E ((L:Int) - 1) l h->wK pc l (gM (aAI h) T)->l.length<=4->aI E 80=some (bU (cN h))->L<=7->7 < L+n ->
  ∃ E' L' h' T' A' l',eK (fun E'=>(ev aU F (.and (.cons (.cmp1 .gt (.p1 .len (.var 80)) (.int 1)) (.cons (.cmp1 .lt (.var 81) (.int 6)) .nil))) E').bind fun x=>tr x) (fun E'=>exs aU F W rE E') n E=some (E',none) /\
   aEG pc v w L' h' T' A'/\(cN h').length=1/\tR c pc v E' ((L':Int) - 1) l' h'/\wK pc l' (gM (aAI h') T')/\aI E' 80=some (bU (cN h'))/\L'<=7
 | 0=>fun L h T A E l _ _ _ _ _ hL hn=>absurd hn (by lia)
 | n+1=>fun L h T A E l I b t ll e80 hL hn=>by
  have F1:=pY I.hv
  have ht:ev aU F (.and (.cons (.cmp1 .gt (.p1 .len (.var 80)) (.int 1)) (.cons (.cmp1 .lt (.var 81) (.int 6)) .nil))) E=some (.bool (Nat.blt 1 (cN h).length && decide ((L:Int) - 1 < 6))):=by
   refine aA7 (dG (x:=.int (cN h).length) (uB e80 ?_) rfl (lK 1 _)) (dG b.e81 rfl rfl);unfold bU;rw[wG,aK];exact if_pos (show(cN h).length<=1000000 by lia)
  by_cases q:(cN h).length=1
  .rw[q,show(Nat.blt 1 1 && decide ((L:Int) - 1 < 6))=false from rfl]at ht
   exact⟨E,L,h,T,A,l,aEK ht rfl,I,q,b,t,e80,hL⟩
  .have hL6:L<=6:=by
    by_cases e:L=7
    .subst e
     have:=I.pt;rw[aRG hv6 h6]at this;exact absurd (F1.2.2.2.mpr this.symm) q
    .lia
   rw[bA (show 1 < (cN h).length by have:=F1.1;lia),decide_eq_true (show(L:Int) - 1 < 6 by lia)]at ht
   (refine e2a4 (aHV (F:=F) (W:=W) K hv6 hw6 pw h6 hL6 I b t ll) ?_;rintro E2 l2 g1 g2 g3 g4);(refine e6a2 (aAU K hv6 hw6 pw h6 n (L+1) _ _ _ E2 l2 (aBl hv6 hw6 pw I) (by rw[show((L+1:Nat):Int) - 1=(L:Nat)by lia];exact g2) g3 g4.1 g4.2 (by lia) (by lia)) ?_;rintro E' L' h' T' A' l' k1 k2)
   exact⟨E',L',h',T',A',l',aI1 ht rfl g1 k1,k2⟩
end
noncomputable def aO8 (b:Bool)(i:Nat):Nat:=bif b then 67+i else 99+i
noncomputable def chF (xs:List Nat)(i:Nat):Nat:=aO8 (Nat.beq (xs.getD i 0 / 256 % 2) 1) i
noncomputable def aJA (xs:List Nat)(i:Nat):List Nat:=fE (chF xs i) (xs.getD i 0 / 512 % 6)
theorem aR8 (xs:List Nat):PcK (chF xs) (aJA xs):=fun i _=>⟨by
 unfold chF aO8;cases Nat.beq (xs.getD i 0 / 256 % 2) 1
 .exact .inr rfl
 .exact .inl rfl,_,Nat.mod_lt _ (by decide),rfl⟩
section
variable {T:Nat->List PV->Option PyData} {W:Nat}
theorem aFB {E:AE}{x:X}{n a:Nat}(hx:ev aU T x E=some (.int n))(ha:0 < a/\a<=1000):ev aU T (.bin .fdiv x (.int a)) E=some (.int ((n / a:Nat):Int)):=by
 rw[iF,hx,kM];dsimp only[aD,jE];rw[if_pos ⟨by lia,by show _<=(1000000:Int);lia⟩]
 rfl
theorem aCf {E:AE}{x:X}{n a:Nat}(hx:ev aU T x E=some (.int n))(ha:0 < a/\a<=1000):ev aU T (.bin .mod x (.int a)) E=some (.int ((n % a:Nat):Int)):=by
 rw[iF,hx,kM];dsimp only[aD,jM];rw[if_pos ⟨by lia,by show _<=(1000000:Int);lia⟩]
 rfl
theorem wL (x:Nat):(∀ y∈qP x,y∈qM)/\(qP x).length<=3:=by
 unfold qP;rw[aK,List.length_range];refine⟨fun y m=>?_,Nat.le_of_lt_succ (Nat.mod_lt _ (by decide))⟩
 (refine e1a2 (bJ m) ?_;rintro p u_ rfl);exact List.mem_of_getElem? (oZ (l:=qM) (Nat.mod_lt _ (by decide)))
theorem aIZ (x:Nat):cV aU T W mS iO [.dat (.int x)]=some (S (qP x)):=by
 show gZ T W iO (AE.set (fun u_=>none) 48 (.dat (.int x))) _;generalize hE:AE.set (fun u_=>none) 48 (.dat (.int x))=E;have e48:aI E 48=some (.int x):=by rw[<-hE];rfl
 have hm:x % 4 < 4:=Nat.mod_lt _ (by decide)
 unfold iO;refine kJ (E1:=E) ?_
 rw[pA,aMQ (ls:=(List.range (x % 4)).map fun p=>[qM.getD (x / 4 / 4 ^ p % 4) 0]) (by
  rw[List.map_map];refine zU (aCf (by rw[bD];exact e48) (by decide)) (by lia) fun p hp=>?_
  have e1:ev aU T (.bin .fdiv (.var 48) (.int 4)) (E.set 30 (.dat (.int p)))=some (.int ((x / 4:Nat):Int)):=aFB (a:=4) (by rw[bD,iP (by decide)];exact e48) (by decide)
  have hb:0 < 4 ^ p/\4 ^ p<=1000:=by rcases lt4 (Nat.lt_trans hp hm)with rfl | rfl | rfl | rfl <;> decide
  have e2:ev aU T (.bin .pow (.int 4) (.var 30)) (E.set 30 (.dat (.int p)))=some (.int ((4 ^ p:Nat):Int)):=by
   rw[iF,kM,bD,bN];dsimp only[aD,jL];rw[if_pos ⟨by lia,by lia,by decide⟩,Int.toNat_natCast]
   rfl
  have e3:ev aU T (.bin .fdiv (.bin .fdiv (.var 48) (.int 4)) (.bin .pow (.int 4) (.var 30))) (E.set 30 (.dat (.int p)))=some (.int ((x / 4 / 4 ^ p:Nat):Int)):=by
   rw[iF,e1,e2];dsimp only[aD,jE];rw[if_pos ⟨by lia,by show _<=(1000000:Int);lia⟩]
   rfl
  have e4:ev aU T (.bin .mod (.bin .fdiv (.bin .fdiv (.var 48) (.int 4)) (.bin .pow (.int 4) (.var 30))) (.int 4)) (E.set 30 (.dat (.int p)))=some (.int ((x / 4 / 4 ^ p % 4:Nat):Int)):=aCf (a:=4) e3 (by decide)
  rw[gA,e4]
  exact nN (l:=qM) (oZ (Nat.mod_lt _ (by decide))) (by decide)) (by
  rw[jX,zF,aK,List.length_range];lia) (by rw[aK,List.length_range];lia) (by decide),jX,zF]
 rfl
theorem aHy (c x:Nat):cV aU T W kY gV [.dat (S [c]),.dat (.int x)]=some (S (fE c (x / 512 % 6))):=by
 show gZ T W gV ((AE.set (fun u_=>none) 48 (.dat (.int x))).set 61 (.dat (S [c]))) _;have hk:ev aU T (.bin .mod (.bin .fdiv (.var 48) (.int 512)) (.int 6)) ((AE.set (fun u_=>none) 48 (.dat (.int x))).set 61 (.dat (S [c])))=some (.int ((x / 512 % 6:Nat):Int)):=aCf (a:=6) (aFB (a:=512) rfl (by decide)) (by decide)
 have h6:x / 512 % 6 < 6:=Nat.mod_lt _ (by decide)
 generalize x / 512 % 6=k at hk h6;unfold gV;refine kJ (E1:=(AE.set (fun u_=>none) 48 (.dat (.int x))).set 61 (.dat (S [c]))) ?_;rw[pA,gA,hk,show ev aU T (.lst (.cons (.var 61) (.cons (.bin .add (.bin .add (.str [34]) (.var 61)) (.str [40,34])) (.cons (.bin .add (.str [92,41]) (.var 61)) (.cons (.bin .add (.bin .add (.str [34,41,92,34]) (.var 61)) (.str [34])) (.cons (.bin .add (.var 61) (.str [92,92])) (.cons (.bin .add (.str [92,40]) (.var 61)) .nil))))))) ((AE.set (fun u_=>none) 48 (.dat (.int x))).set 61 (.dat (S [c])))=some (.list ((List.range 6).map fun k=>S (fE c k)))by kernel_rfl,aD,aD,lA h6 (by decide)]
 rfl
theorem aJe {E:AE}{ms:List Int}(hm:ms.length<=lim)(h44:E 44=some (.dat (.list (ms.map PyData.int)))):∃ xs:List Nat,xs.length=4 /\
  ev aU T (.comp (.bin .mod (.bin .add (.var 46) (.p1 .sum (.slc (.var 44) (.var 30) .none (.int 4)))) (.bin .pow (.int 10) (.int 6))) (.tup [30,46]) (.enm (.lst (.cons (.int 546) (.cons (.int 1330) (.cons (.int 1590) (.cons (.int 2313) .nil)))))) .nil) E=some (bU xs):=by
 have one:∀ (i:Nat) (b:Int),∃ x:Nat,ev aU T (.bin .mod (.bin .add (.var 46) (.p1 .sum (.slc (.var 44) (.var 30) .none (.int 4)))) (.bin .pow (.int 10) (.int 6))) ((E.set 30 (.dat (.int i))).set 46 (.dat (.int b)))=some (.int x) :=
  fun i b=>aP2 (G:=aU) (T:=T) hm (E:=(E.set 30 (.dat (.int i))).set 46 (.dat (.int b))) h44 rfl rfl
 (refine e1a1 (one 0 546) ?_;rintro x0 h0);(refine e1a1 (one 1 1330) ?_;rintro x1 h1);(refine e1a1 (one 2 1590) ?_;rintro x2 h2);(refine e1a1 (one 3 2313) ?_;rintro x3 h3);refine⟨[x0,x1,x2,x3],rfl,?_⟩;generalize (X.bin .mod (.bin .add (.var 46) (.p1 .sum (.slc (.var 44) (.var 30) .none (.int 4)))) (.bin .pow (.int 10) (.int 6)))=elt at h0 h1 h2 h3 ⊢;have hit:evIt aU T (.enm (.lst (.cons (.int 546) (.cons (.int 1330) (.cons (.int 1590) (.cons (.int 2313) .nil)))))) E=some [.tuple [.int (0:Nat),.int 546],.tuple [.int (1:Nat),.int 1330],.tuple [.int (2:Nat),.int 1590],.tuple [.int (3:Nat),.int 2313]]:=rfl;have bt:∀ (i:Nat) (b:Int),dF (.tup [30,46]) (.tuple [.int i,.int b]) E=some ((E.set 30 (.dat (.int i))).set 46 (.dat (.int b))):=fun u_ u_=>rfl;rw[gX,hit,aD];simp only[iQ,bt,aD,qV,h0,h1,h2,h3];rfl
noncomputable def aKY (w:Nat->List Nat)(a:Nat)(s:List (List Nat) × List (Nat × Nat × Nat))(b:Nat):List (List Nat) × List (Nat × Nat × Nat) :=
 (sG (sG s.1 a b (gJ (w a) (w b))) b a (gJ (w a) (w b)),s.2++[(gJ (w a) (w b),a,b)])
noncomputable def trD (t:Nat × Nat × Nat):PyData:=.tuple [.int (t.1:Nat),.int (t.2.1:Nat),.int (t.2.2:Nat)]
noncomputable def FrI (w:Nat->List Nat)(E:AE)(s:List (List Nat) × List (Nat × Nat × Nat)):Prop :=
 aI E 52=some (.list ((List.range 4).map fun i=>S (w i)))/\aI E 69=some (eB s.1)/\ShM s.1 4/\aI E 77=some (.list (s.2.map trD))
theorem aKX {w:Nat->List Nat}{a b:Nat}(ha:a < 4)(hb:b < 4)(K:aG9 T (w a) (w b)){E:AE}{s:List (List Nat) × List (Nat × Nat × Nat)}(h:FrI w E s)(h62:aI E 62=some (.int a))(h63:aI E 63=some (.int b))(hl:s.2.length<=1000) :
  ∃ E',exs aU T W rF E=some (E',none)/\FrI w E' (aKY w a s b)/\aI E' 62=some (.int a)/\aI E' 75=aI E 75/\aI E' 76=aI E 76:=by
 have wi:∀ {E':AE} {i k:Nat},aI E' 52=some (.list ((List.range 4).map fun i=>S (w i)))->aI E' i=some (.int k)->k < 4->ev aU T (.idx (.var 52) (.var i)) E'=some (S (w k)):=fun h1 h2 hk=>dO h1 h2 (lA hk (by decide))
 unfold aKY;have Kc:=K.c;have K13:=K.t13;have Ktc:=K.tc;have Ktb:=K.tb;generalize gJ (w a) (w b)=d at Kc K13 Ktc Ktb;have h0:=h.1;generalize hE3:((E.set 68 (.dat (.int d))).set 58 (.dat (.list [.int d,.int d]))).set 58 (.dat (.list [.int d,.int d,.int d]))=E3;have k3:FrI w E3 s/\aI E3 62=some (.int a)/\aI E3 63=some (.int b)/\aI E3 68=some (.int d)/\aI E3 58=some (.list [.int d,.int d,.int d])/\aI E3 75=aI E 75/\aI E3 76=aI E 76:=by rw[<-hE3];exact⟨⟨h.1,h.2.1,h.2.2⟩,h62,h63,rfl,bN,rfl,rfl⟩
 have tn:ev aU T (.or (.cons (.cmp1 .ne (.var 58) (.bin .mul (.lst (.cons (.var 68) .nil)) (.int 3))) (.cons (.tysNe (.var 58) 3) .nil))) E3=some (.bool false):=by
  refine aJy (p:=false) (q:=false) (dG k3.2.2.2.2.1 (dM (aJz k3.2.2.2.1) rfl rfl) (aB4 (d:=[.int (d:Nat),.int (d:Nat),.int (d:Nat)]) (aDr [(d:Int),d,d]))) ?_;rw[aFv,bD,k3.2.2.2.2.1];rfl
 have sa:ShM (sG s.1 a b d) 4:=aB1 (z:=d) h.2.2.1 ha;have d0:∀ {E':AE},aI E' 58=some (.list [.int d,.int d,.int d])->ev aU T (.idx (.var 58) (.int 0)) E'=some (.int d):=fun k=>dO k rfl rfl;have mp:s.2.map trD++[.tuple [.int (d:Nat),.int (a:Nat),.int (b:Nat)]]=(s.2++[(d,a,b)]).map trD:=by rw[List.map_append];rfl
 refine⟨((E3.set 69 (.dat (eB (sG s.1 a b d)))).set 69 (.dat (eB (sG (sG s.1 a b d) b a d)))).set 77 (.dat (.list ((s.2++[(d,a,b)]).map trD))),?_,⟨k3.1.1,rfl,aB1 (z:=d) sa hb,bN⟩,k3.2.1,k3.2.2.2.2.2.1,k3.2.2.2.2.2.2⟩
 exact aX (dL (aB8 (wi h0 h62 ha) (wi h0 h63 hb) Kc)) (aX (xD (aON (aB7 (wi (E':=E.set 68 (.dat (.int d))) h0 h62 ha) (wi (E':=E.set 68 (.dat (.int d))) h0 h63 hb) rfl K13) (aB7 (wi (E':=E.set 68 (.dat (.int d))) h0 h62 ha) (wi (E':=E.set 68 (.dat (.int d))) h0 h63 hb) rfl Ktc)))
  (aX (E1:=E3) (hE3 ▸ aIY (xs:=[.int d,.int d]) rfl (aB7 (wi (E':=(E.set 68 (.dat (.int d))).set 58 (.dat (.list [.int d,.int d]))) h0 h63 hb) (wi (E':=(E.set 68 (.dat (.int d))).set 58 (.dat (.list [.int d,.int d]))) h0 h62 ha) (dM (show aI ((E.set 68 (.dat (.int d))).set 58 (.dat (.list [.int d,.int d]))) 68=_ from rfl) rfl rfl) Ktb) (show 2<=1000 by decide))
  (aX (E1:=E3) rfl (aX (lQ tn) (aX (aB2 k3.1.2.1 h.2.2.1 k3.2.1 k3.2.2.1 (d0 k3.2.2.2.2.1) ha hb) (aX (aB2 (E:=E3.set 69 (.dat (eB (sG s.1 a b d)))) bN sa k3.2.2.1 k3.2.1 (d0 k3.2.2.2.2.1) hb ha)
  (dE (mp ▸ aIY (i:=77) k3.1.2.2.2 (aEV (d0 k3.2.2.2.2.1) k3.2.1 k3.2.2.1) (by rw[aK];exact hl)))))))))
end
theorem aBX (pc:Nat->List Nat)(b t:Nat)(h:tkX pc t=[b]):∀ n:Nat,rep [b] n=dB pc (List.replicate n t)
 | 0=>rfl
 | n+1=>by rw[vE,aBX pc b t h n,List.replicate_succ,fY,h]
theorem xX:∀ n:Nat,eP (List.replicate n 0)=(0,n)
 | 0=>rfl
 | n+1=>by
  show iZ 0 (eP (List.replicate n 0))=_;rw[xX n];rfl
theorem xW:∀ n:Nat,eP (List.replicate n 1)=(n,0)
 | 0=>rfl
 | n+1=>by
  show iZ 1 (eP (List.replicate n 1))=_;rw[xW n];rfl
theorem aJs {n a:Nat}(h:a < 6):∀ t∈List.replicate n a,t < 6:=fun t m=>(List.eq_of_mem_replicate m).symm ▸ h
section
variable {T:Nat->List PV->Option PyData} {W:Nat} {c:Nat->Nat} {pc:Nat->List Nat} {v w:List Nat} {L r Q:Nat} {ts:List Nat}
theorem aCu (K:PcK c pc){i:Nat}(hi:i < 4)(h6:∀ t∈ts,t < 6)(hc:lN (i+2) ts=1){J γ:List Nat}(e:ts=J++(i+2)::γ):kK (pc i) (dB pc ts) 0=((dB pc J).length:Int):=by
 have p:=eU K hi;(refine e2a2 p.cut ?_;rintro u u' e1 e2)
 have n:i+2 ∉ J:=aOU (by
  rw[e,aCF,tH,Nat.beq_refl]at hc;have:lN (i+2) J+(1+lN (i+2) γ)=1:=hc;lia)
 have f:=zH (v:=u') (C:=dB pc γ) e2 (dB pc J) 0 (aJR K hi (fun t m=>h6 t (by rw[e];exact aW _ m)) n)
 rw[Nat.zero_add,<-e1]at f;rw[e,iS,fY];exact f
theorem aGR {E:AE}{x y:X}{a b:List Nat}(hx:ev aU T x E=some (S a))(hy:ev aU T y E=some (S b))(la:a.length<=1000)(lb:b.length<=1000):ev aU T (.p2 .find x y) E=some (.int (kK b a 0)) :=
 aHx hx hy (if_pos ⟨show a.length<=1000000 by lia,show b.length<=1000000 by lia⟩)
theorem aCj {E:AE}{x:X}{a:List Nat}(hx:ev aU T x E=some (S a))(la:a.length<=1000):ev aU T (.p1 .len x) E=some (.int a.length):=uB hx (if_pos (show a.length<=1000000 by lia))
theorem aQi (K:PcK c pc){us:List Nat}(h:∀ t∈us,t < 6):mF (dB pc us)=true:=by
 refine cD fun x m=>?_;have:=aB (aJ (tV K h).1 x m);rw[Nat.blt_eq]at this ⊢;lia
theorem aFm {E:AE}{x:X}{a b:Bool}(hx:ev aU T x E=some (.bool a)):ev aU T (.isC true x (.bool b)) E=some (.bool (!(a == b))):=by
 rw[aDZ,hx,aIA];show some (PyData.bool ((a == b) != true))=_;cases a == b <;> rfl
theorem aGl {E:AE}{y:X}{b n:Nat}(hy:ev aU T y E=some (.int n))(hl:n<=1000):ev aU T (.bin .mul (.str [b]) y) E=some (S (rep [b] n)):=by
 refine dM (x:=S [b]) rfl hy ?_;rw[qI,if_pos ⟨Int.natCast_nonneg n,by show(n:Int)<=(1000000:Nat);lia,by show 1 * (n:Int).toNat<=1000000;lia⟩,Int.toNat_natCast]
theorem wO (b:Nat):∀ n,(rep [b] n).length=n
 | 0=>rfl
 | n+1=>by rw[vE,aG,wO b n];exact Nat.add_comm 1 n
theorem aF3 (h3:T3K T)(K:PcK c pc){E:AE}{y z:X}{n:Nat}{β:List Nat}(h6:∀ t∈β,t < 6)(hy:ev aU T y E=some (.int n))(hz:ev aU T z E=some (S (dB pc β)))(hn:n<=1000)(hb:(dB pc β).length<=1000){a b:Nat}(e:eP (List.replicate n 0++β++List.replicate n 1)=(a,b)) :
  ev aU T (.call 3 (.cons (.bin .add (.bin .add (.bin .mul (.str [40]) y) z) (.bin .mul (.str [41]) y)) .nil)) E=some (.bool (Nat.beq a 0 && Nat.beq b 0)):=by
 have k6:∀ t∈List.replicate n 0++β++List.replicate n 1,t < 6:=fun t m=>(bF m).elim (fun m=>(bF m).elim (aJs (by decide) t) (h6 t)) (aJs (by decide) t)
 have l1:=wO 40 n;have l2:=wO 41 n;have e1:=aCO (aCO (aGl (b:=40) hy hn) hz (by lia)) (aGl (b:=41) hy hn) (by rw[aG];lia)
 have e2:rep [40] n++dB pc β++rep [41] n=dB pc (List.replicate n 0++β++List.replicate n 1):=by rw[iS,iS,aBX pc 40 0 rfl,aBX pc 41 1 rfl]
 have l3:(rep [40] n++dB pc β++rep [41] n).length<=100000:=by rw[aG,aG];lia
 rw[e2]at e1 l3;exact pR e1 (by rw[h3 _ (aQi K k6) l3,aNv K k6 e])
theorem aNA (h3:T3K T)(K:PcK c pc)(hw:∀ x∈w,x<=6)(EK:aNG pc v w L r ts Q)(hX:(dB pc ts).length<=1000){M:List (List Nat)}(hM:ShM M 4)(hm:∀ e∈ED,nD 0 M e.2.1 e.2.2=w.getD e.1 0){e:Nat × Nat × Nat}(me:e∈ED){E:AE}
  (h85:aI E 85=some (.list [S (dB pc ts)])) (h76:aI E 76=some (.list ((List.range 4).map fun i=>S (pc i)))) (h70:aI E 70=some (eB M)) (h62:aI E 62=some (.int (e.2.1:Nat))) (h63:aI E 63=some (.int (e.2.2:Nat))) :
  ∃ E',exs aU T W mU E=some (E',none)/\aI E' 85=aI E 85/\aI E' 76=aI E 76/\aI E' 70=aI E 70:=by
 have lt:=aGW e me;(refine e5a3 (EK.bet e me) ?_;rintro x y J β γ o e1 e2)
 have hd:w.getD e.1 0<=6:=by
  by_cases q:e.1 < w.length
  .exact hw _ (List.mem_of_getElem? (oZ q))
  .rw[List.getD_eq_getElem?_getD,List.getElem?_eq_none (Nat.le_of_not_lt q)];exact Nat.zero_le _
 have dm:=hm e me;generalize w.getD e.1 0=d at e2 hd dm;have hx:x < 4/\y < 4:=o.elim (fun o=>o.1 ▸ o.2 ▸ ⟨lt.1,lt.2.1⟩) (fun o=>o.1 ▸ o.2 ▸ ⟨lt.2.1,lt.1⟩);have h6:∀ t∈β,t < 6:=fun t m=>EK.tok t (by rw[e1];exact aZ _ (aE _ (aW _ m)))
 have fx:=aCu K hx.1 EK.tok (EK.cnt x hx.1) e1;have fy:=aCu K hx.2 EK.tok (EK.cnt y hx.2) (J:=J++(x+2)::β) (γ:=γ) (by rw[e1,aQ];rfl)
 have px:=eU K hx.1;have lx:(dB pc (J++(x+2)::β)).length=(dB pc J).length+((pc x).length+(dB pc β).length):=by rw[iS,fY,aG,aG];rfl
 have tX:dB pc ts=dB pc J++(pc x++(dB pc β++(pc y++dB pc γ))):=by rw[e1,iS,fY,iS,fY];rfl
 have lX:(dB pc J).length+((pc x).length+(dB pc β).length)<=(dB pc ts).length:=by
  rw[tX,aG,aG,aG];lia
 have key:uT .sorted (.list [.tuple [.int (kK (pc e.2.1) (dB pc ts) 0),.int (pc e.2.1).length],.tuple [.int (kK (pc e.2.2) (dB pc ts) 0),.int (pc e.2.2).length]])=some (.list [.tuple [.int (dB pc J).length,.int (pc x).length],.tuple [.int ((dB pc J).length+((pc x).length+(dB pc β).length):Nat),.int (pc y).length]]):=by
  have a1:((dB pc J).length:Int) < ((dB pc (J++(x+2)::β)).length:Int):=by rw[lx];have:=px.ge;lia
  rw[<-lx];refine o.elim (fun o=>?_) (fun o=>?_)
  .rw[<-o.1,<-o.2,fx,fy]
   show((if ((dB pc (J++(x+2)::β)).length:Int) < (dB pc J).length then _ else if ((dB pc J).length:Int) < (dB pc (J++(x+2)::β)).length then _ else _):Option (List PyData)).bind _=_
   rw[if_neg (by lia),if_pos a1]
   rfl
  .rw[<-o.1,<-o.2,fx,fy]
   show((if ((dB pc J).length:Int) < (dB pc (J++(x+2)::β)).length then _ else _):Option (List PyData)).bind _=_
   rw[if_pos a1];rfl
 have x0:∀ {E':AE},aI E' 85=some (.list [S (dB pc ts)])->ev aU T (.idx (.var 85) (.int 0)) E'=some (S (dB pc ts)):=fun k=>dO k rfl rfl
 have pi:∀ p,p < 4->ev aU T (.tup (.cons (.p2 .find (.idx (.var 85) (.int 0)) (.idx (.var 76) (.var 30))) (.cons (.p1 .len (.idx (.var 76) (.var 30))) .nil))) (E.set 30 (.dat (.int (p:Nat))))=some (.tuple [.int (kK (pc p) (dB pc ts) 0),.int (pc p).length]):=fun p hp =>
  have i76:ev aU T (.idx (.var 76) (.var 30)) (E.set 30 (.dat (.int (p:Nat))))=some (S (pc p)):=dO h76 rfl (lA hp (by decide))
  have ll:=aP (eU K hp).le (show 6<=1000 by decide)
  aJw (aGR (x0 h85) i76 hX ll) (aCj i76 ll)
 have s1:ev aU T (.p1 .sorted (.comp (.tup (.cons (.p2 .find (.idx (.var 85) (.int 0)) (.idx (.var 76) (.var 30))) (.cons (.p1 .len (.idx (.var 76) (.var 30))) .nil))) (.name 30) (.val (.tup (.cons (.var 62) (.cons (.var 63) .nil)))) .nil)) E=_ :=
  uB (aA8 (mk:=fun p:Nat=>.int p) (xs:=[e.2.1,e.2.2]) (f:=fun p=>.tuple [.int (kK (pc p) (dB pc ts) 0),.int (pc p).length]) (Ed:=fun p:Nat=>E.set 30 (.dat (.int p))) (by rw[eQ,aJw (a:=.var 62) (b:=.var 63) h62 h63];rfl) fun p m=>⟨rfl,pi p (by
   rcases aM m with rfl | m
   .exact lt.1
   .rw[aH m];exact lt.2.1)⟩) key
 have ct:cut ((dB pc J).length+(pc x).length) ((dB pc J).length+((pc x).length+(dB pc β).length)) (dB pc ts)=dB pc β:=by
  unfold cut;rw[tX,<-aQ,<-aQ,<-aQ,aQ _ (pc y),List.take_append_of_le_length (by rw[aG,aG,Nat.add_assoc];exact Nat.le_refl _),List.take_of_length_le (by rw[aG,aG,Nat.add_assoc];exact Nat.le_refl _),<-aG,List.drop_left]
 have r0:eP (List.replicate d 0++β++List.replicate d 1)=(0,0):=by
  rw[gC,gC,e2,xX,xW];unfold aCG;dsimp only;simp only[Nat.sub_self,Nat.add_zero]
 have hb:(dB pc β).length<=1000:=by lia
 have hd':d<=1000:=by lia
 have g:∀ {E3:AE},aI E3 41=some (.int d)->aI E3 88=some (S (dB pc β))->ev aU T (.and (.cons (.cmp1 .gt (.var 41) (.int 0)) (.cons (.isC true (.call 3 (.cons (.bin .add (.bin .add (.bin .mul (.str [40]) (.bin .sub (.var 41) (.int 1))) (.var 88)) (.bin .mul (.str [41]) (.bin .sub (.var 41) (.int 1)))) .nil)) (.bool false)) .nil))) E3=some (.bool false):=fun k1 k2=>by
  cases d with
  | zero =>
   rw[aLj];exact xY (x:=.bool false) (dG (a:=.var 41) (b:=.int 0) (x:=.int (0:Nat)) k1 rfl (lK 0 0)) rfl
  | succ d =>
   exact aA7 (p:=true) (q:=false) (dG (b:=.int 0) k1 rfl (lK 0 (d+1))) (aFm (a:=false) (b:=false) (aF3 (n:=d) (y:=.bin .sub (.var 41) (.int 1)) (z:=.var 88) h3 K h6 (dM k1 rfl (congrArg (fun z=>some (PyData.int z)) (show((d+1:Nat):Int) - 1=d by lia))) k2 (by lia) hb (by
    rw[gC,gC,e2,xX,xW];unfold aCG;dsimp only;rw[Nat.add_sub_cancel_left,Nat.sub_eq_zero_of_le (Nat.le_succ d)];show(1+(d - (d+1)),0+(d+1 - d))=(1,1);rw[Nat.sub_eq_zero_of_le (Nat.le_succ d),Nat.add_sub_cancel_left]:eP _=(1,1))))
 exact⟨_,aX (dL s1) (aX (dL (oC (x0 h85) (dM (dO (dO rfl rfl rfl) rfl rfl) (dO (dO rfl rfl rfl) rfl rfl) (fU _ _)) (dO (dO rfl rfl rfl) rfl rfl) (Eq.trans (aMr _ _ (by lia) lX) (congrArg (fun l=>some (S l)) ct)))) (aX (dL (dm ▸ qB h70 hM h62 h63 lt.1 lt.2.1)) (aX (lQ (aFm (a:=true) (b:=true) (aF3 (y:=.var 41) (z:=.var 88) h3 K h6 rfl rfl hd' hb r0))) (dE (lQ (g rfl rfl)))))),rfl,rfl,rfl⟩
end
structure TF2 (T:Nat->List PV->Option PyData):Prop where
 t3:T3K T
 t4:∀ x:Nat,T 4 [.dat (.int x)]=some (S (qP x))
 t5:∀ c x:Nat,T 5 [.dat (S [c]),.dat (.int x)]=some (S (fE c (x / 512 % 6)))
 t6:∀ a b:Nat,aG9 T (qP a) (qP b)
 t7:∀ M,ShM M 4->T 7 [.dat (eB M)]=some (eB (fwG mnN mxN 0 M))
 t8:∀ v:List Nat,v.length=6->∃ m:Nat,T 8 [.dat (eB (jP 0 v))]=some (.int m)/\(∃ t∈TL,(t.map fun k=>v.getD k 0).sum=m)/\∀ t∈TL,m<=(t.map fun k=>v.getD k 0).sum
noncomputable def aGr:Sts:=(.cons (.iff (.or (.cons (.cmp1 .ne (.hget 78 (.idx (.var 75) (.idx (.var 80) (.int 0)))) (.bin .mul (.var 85) (.int 2))) (.cons (.cmp1 .ne (.hget 78 (.bin .add (.idx (.var 75) (.idx (.var 80) (.int 0))) (.str [120]))) (.lst .nil)) .nil))) (.cons (.ret (.bool false)) .nil) .nil) (.cons (.iff (.cmp1 .ne (.p1 .len (.idx (.var 85) (.int 0))) (.bin .add (.bin .mul (.int 2) (.var 86)) (.p1 .sum (.comp (.p1 .len (.var 32)) (.name 32) (.val (.var 76)) .nil)))) (.cons (.ret (.bool false)) .nil) .nil) (.cons (.iff (.or (.cons (.cmp1 .ne (.p2 .find (.idx (.var 85) (.int 0)) (.idx (.var 76) (.idx (.var 80) (.int 0)))) (.bin .add (.var 81) (.int 1))) (.cons (.isC true (.call 3 (.cons (.bin .add (.idx (.var 85) (.int 0)) (.str [34,40])) .nil)) (.bool false)) .nil))) (.cons (.ret (.bool false)) .nil) .nil) (.cons (.asg 0 70 (.call 7 (.cons (.var 69) .nil))) (.cons (.forS (.tup [42,62,63]) (.val (.var 77)) mU) (.cons (.ret (.bool true)) .nil))))))
noncomputable def aPb:Sts:=(.cons (.asg 0 85 (.hvals 78)) (.cons (.iff (.cmp1 .ne (.p1 .len (.var 85)) (.int 1)) (.cons (.ret (.bool false)) .nil) .nil) (.cons (.hadd 78 (.p1 .swapcase (.idx (.var 75) (.idx (.var 80) (.int 0)))) (.idx (.var 85) (.int 0))) (.cons (.asg 0 86 (.bin .add (.bin .add (.call 8 (.cons (.var 69) .nil)) (.var 81)) (.int 1))) aGr))))
theorem aJ5 {v:List Nat}:ShM (jP 0 v) 4:=⟨rfl,fun r m=>by
 unfold jP at m;simp only[List.mem_cons,List.not_mem_nil,_root_.or_false]at m
 rcases m with rfl | rfl | rfl | rfl <;> rfl⟩
theorem wV {f:List (List Nat)->Nat->List (List Nat)}(h:∀ M p,p < 4->ShM M 4->ShM (f M p) 4):∀ (ps:List Nat) (M:List (List Nat)),(∀ p∈ps,p < 4)->ShM M 4->ShM (ps.foldl f M) 4
 | []=>fun M _ s=>s
 | p::ps=>fun M hp s=>wV h ps (f M p) (fun q m=>hp q (aE _ m)) (h M p (hp p aF) s)
theorem aRo {M:List (List Nat)}(s:ShM M 4):ShM (fwG mnN mxN 0 M) 4 :=
 have r:∀ p∈List.range 4,p < 4:=fun p m=>List.mem_range.mp m
 wV (fun M a _ s=>wV (fun M b hb s=>wV (fun M c _ s=>aB1 (z:=_) s hb) _ M r s) _ M r s) _ M r s
theorem aMF (M:List (List Nat)):∀ e∈ED,nD 0 M e.2.1 e.2.2=(aMH 0 M).getD e.1 0:=aP3 rfl rfl rfl rfl rfl rfl
section
variable {T:Nat->List PV->Option PyData} {W:Nat} {c:Nat->Nat} {pc:Nat->List Nat} {v:List Nat} {L r Q:Nat} {ts:List Nat}
theorem aG7 {E:AE}{x:X}{n:Int}{m:Nat}(hx:ev aU T x E=some (.int n))(e:n+1=m):ev aU T (.bin .add x (.int 1)) E=some (.int m):=by
 rw[iF,hx,<-e];rfl
theorem aMA {E:AE}{i:Nat}{l:List NV}(h:E i=some (.hdr l))(hc:dS l=true):ev aU T (.hvals i) E=some (.list (l.map fun p=>S p.2)):=by
 rw[aFw,rM h];exact if_pos hc
theorem aJX {E:AE}{x y:X}{d:List PyData}(h1:ev aU T x E=some (.list d))(h2:ev aU T y E=some (.list d))(h:qS (.list d)=true):ev aU T (.cmp1 .ne x y) E=some (.bool false):=by
 exact dG h1 h2 (aB4 h)
theorem aJW {E:AE}{x y:X}{a:Nat}(h1:ev aU T x E=some (.int a))(h2:ev aU T y E=some (.int a)):ev aU T (.cmp1 .ne x y) E=some (.bool false):=by
 rw[aDv h1 h2,Nat.beq_refl];rfl
theorem aLq (F:TF2 T)(K:PcK c pc)(hv:v.length=6)(h6:∀ x∈v,x<=6)(EK:aNG pc v (nV v) L r ts Q)(hL:L<=7){E:AE}{l:List NV}{h:List Nat}(b:tR c pc v E ((L:Int) - 1) l h)(hg:eC [c r] l=[dB pc ts,dB pc ts])(hx:eC ([c r]++[120]) l=[])(hcl:dS l=true)(e80:aI E 80=some (bU [r]))(e85:aI E 85=some (.list [S (dB pc ts)]))(e86:aI E 86=some (.int ((Q+L:Nat):Int)))
  (hX:(dB pc ts).length<=1000) (ac:mF (dB pc ts)=true):gZ T W aGr E (.bool true):=by
 have pr:=eU K EK.lt
 have hw6:∀ x∈nV v,x<=6:=fun x k=>by
  have q:=aCV hv 7;rw[aRG hv h6]at q;have k2:Nat.blt x 7∈cU (nV v) 7:=List.mem_map.mpr ⟨x,k,rfl⟩;rw[<-q]at k2;exact Nat.le_of_lt_succ (dD (List.eq_of_mem_replicate (n:=6) (a:=true) k2))
 have i80:ev aU T (.idx (.var 80) (.int 0)) E=some (.int (r:Nat)):=dO e80 rfl rfl;have x0:ev aU T (.idx (.var 85) (.int 0)) E=some (S (dB pc ts)):=dO e85 rfl rfl;have n3:=yJ (T:=T) K b i80 EK.lt;have p76:ev aU T (.idx (.var 76) (.idx (.var 80) (.int 0))) E=some (S (pc r)):=dO b.e76 i80 (lA EK.lt (by decide))
 have pl:=pr.le;have ck:bS ([c r]++[120])=true:=(K r EK.lt).1.elim (fun e=>by rw[e];rcases lt4 EK.lt with rfl | rfl | rfl | rfl <;> rfl) (fun e=>by rw[e];rcases lt4 EK.lt with rfl | rfl | rfl | rfl <;> rfl)
 have g1:=aCp (T:=T) (G:=aU) b.e78 n3.1 pr.c1 hcl;rw[hg]at g1;have g2:=aCp (T:=T) (G:=aU) b.e78 (aCO n3.1 (show ev aU T (.str [120]) E=some (S [120])from rfl) (by show 1+1<=100000;decide)) ck hcl
 rw[hx]at g2
 have hs:ev aU T (.p1 .sum (.comp (.p1 .len (.var 32)) (.name 32) (.val (.var 76)) .nil)) E=some (.int (PS pc:Nat)):=by
  refine uB (aA8 (mk:=fun i=>S (pc i)) (f:=fun i=>.int ((pc i).length:Nat)) (Ed:=fun i=>E.set 32 (.dat (S (pc i)))) (aA6 b.e76 (by rw[aK];decide)) fun i k=>⟨rfl,aCj (x:=.var 32) rfl (aP (eU K (List.mem_range.mp k)).le (by decide))⟩) ?_
  rw[jJ,show(List.range 4).map (fun i=>PyData.int ((pc i).length:Nat))=((List.range 4).map fun i=>(pc i).length).map fun p:Nat=>PyData.int p from(List.map_map).symm,sum_nat];rfl
 have hf:kK (pc r) (dB pc ts) 0=(L:Int):=by
  (refine e1a1 EK.own ?_;rintro t e);rw[aCu K EK.lt EK.tok (EK.cnt r EK.lt) e,<-aBX pc 40 0 rfl,wO]
 have q9:ev aU T (.isC true (.call 3 (.cons (.bin .add (.idx (.var 85) (.int 0)) (.str [34,40])) .nil)) (.bool false)) E=some (.bool false):=aFm (a:=false) (b:=false) (by
  refine pR (aCO x0 (show ev aU T (.str [34,40]) E=some (S [34,40])from rfl) (by show(dB pc ts).length+2<=100000;lia)) ?_
  rw[F.t3 _ (by rw[qC,ac];rfl) (by rw[aG];show(dB pc ts).length+2<=100000;lia),aLJ K EK.tok EK.bal])
 have el:=EK.len
 (refine e1a2 (uL (body:=fun E'=>exs aU T W mU E') (bindv:=fun d E'=>dF (.tup [42,62,63]) d E') (fun(_:Unit) E=>aI E 85=some (.list [S (dB pc ts)])/\aI E 76=some (.list ((List.range 4).map fun i=>S (pc i)))/\aI E 70=some (eB (fwN v))) (stD v) (fun s _=>s) ED () (E.set 70 (.dat (eB (fwN v)))) (fun e k s E h=>by
  (refine e1a4 (aNA (W:=W) F.t3 K hw6 EK hX (aRo aJ5) (aMF (fwN v)) k (E:=((E.set 42 (.dat (.int (v.getD e.1 0:Nat)))).set 62 (.dat (.int (e.2.1:Nat)))).set 63 (.dat (.int (e.2.2:Nat)))) h.1 h.2.1 h.2.2 rfl bN) ?_;rintro E' q1 q2 q3 q4);exact⟨_,E',rfl,q1,q2.trans h.1,q3.trans h.2.1,q4.trans h.2.2⟩) ⟨e85,b.e76,bN⟩) ?_;rintro E5 g5 u_)
 exact bH (lQ (aJy (p:=false) (q:=false) (aJX g1 (dM e85 rfl rfl) (aJP (ls:=[dB pc ts,dB pc ts]) (aDy ac ac))) (aJX (d:=[]) g2 rfl rfl)))
  (bH (lQ (aJW (aCj x0 hX) (dM (dM (show ev aU T (.int 2) E=_ from rfl) e86 (pT (a:=2) (by decide) (by lia))) hs (congrArg (fun n:Nat=>some (PyData.int n)) ((Nat.add_comm _ _).trans el.symm)))))
  (bH (lQ (aJy (p:=false) (q:=false) (aJW (a:=L) (hf ▸ aGR x0 p76 hX (aP pl (by decide))) (aG7 (show ev aU T (.var 81) E=_ from b.e81) (Int.sub_add_cancel _ _))) q9)) (bH (dL (pR b.e69 (F.t7 _ aJ5))) (bH (qN (aA6 b.e77 (by rw[aK];decide)) g5) (kJ (nR rfl))))))
theorem aNo (F:TF2 T)(K:PcK c pc)(hv:v.length=6)(h6:∀ x∈v,x<=6)(EK:aNG pc v (nV v) L r ts Q)(hL:L<=7){E:AE}{l:List NV}{h:List Nat}(b:tR c pc v E ((L:Int) - 1) l h)(t:wK pc l (fun i=>bif Nat.beq i r then[ts]else[]))(e80:aI E 80=some (bU [r]))
  (hX:(dB pc ts).length<=1000) (hc:bS (dB pc ts)=true):gZ T W aPb E (.bool true):=by
 have pr:=eU K EK.lt;have n1:[c r].map cK=[99+r]:=by rw[List.map_singleton,pr.l1]
 have ll:l.length=1:=by
  rw[t.len]
  rcases lt4 EK.lt with rfl | rfl | rfl | rfl <;> rfl
 have hl:l.map (fun p=>S p.2)=[S (dB pc ts)]:=by
  have g1:=t.get r EK.lt [c r] n1;rw[Nat.beq_refl]at g1;refine LS (P:=fun l=>eC [c r] l=[dB pc ts]->l.map (fun p=>S p.2)=[S (dB pc ts)]) (fun p=>L0 (P:=fun l=>eC [c r] (p::l)=[dB pc ts]->(p::l).map (fun p=>S p.2)=[S (dB pc ts)]) fun g=>?_) l ll g1;unfold eC at g;rw[List.filter_cons]at g
  cases q:decide (p.1.map cK=[c r].map cK)with
  | true=>rw[q]at g;exact congrArg (fun z=>z.map S) g
  | false=>rw[q]at g;exact absurd g nofun
 (refine e1a3 (F.t8 v hv) ?_;rintro m m1 m2 m3);have hm:m=Q:=Nat.le_antisymm (e1a2 EK.eq fun t k e=>e ▸ m3 t k) (e1a2 m2 fun t k e=>e ▸ EK.low t k);rw[hm]at m1;have b1:tR c pc v (E.set 85 (.dat (.list [S (dB pc ts)]))) ((L:Int) - 1) l h:=⟨b.e75,b.e76,b.e77,b.e69,b.e81,b.e78,b.e79⟩;have b2:=b1.tab (l':=l++[([mH (c r)],dB pc ts)]);have t2:=aBY t EK.lt (n:=[mH (c r)]) (by rw[List.map_singleton,pr.l2]) pr.c2 hc
 have ll2:(l++[([mH (c r)],dB pc ts)]).length<=1000:=by rw[aG,ll];show 1+1<=1000;decide
 have g3:=t2.get r EK.lt [c r] n1;rw[eZ,Nat.beq_refl]at g3
 have gx:eC ([c r]++[120]) (l++[([mH (c r)],dB pc ts)])=[]:=by
  unfold eC
  rw[List.filter_eq_nil_iff.mpr fun q k=>by
   (refine e1a1 (t2.nm q k) ?_;rintro i e);have z0:¬ [99+i]=([c r]++[120]).map cK:=fun z=>absurd (congrArg List.length z) (by show ¬ 1=2;decide)
   rw[e,decide_eq_false z0];exact aN]
  rfl
 have i80:ev aU T (.idx (.var 80) (.int 0)) (E.set 85 (.dat (.list [S (dB pc ts)])))=some (.int (r:Nat)):=dO e80 rfl rfl
 exact bH (dL (hl ▸ aMA b.e78 (nZ t (by rw[ll];decide)))) (bH (lQ (dG (uB (x:=.list [S (dB pc ts)]) rfl rfl) rfl rfl)) (bH (aN4 b1 (yJ (T:=T) K b1 i80 EK.lt).2 (dO (x:=.list [S (dB pc ts)]) rfl rfl rfl) pr.c2 hc (by rw[ll];decide)) (bH (dL (aG7 (n:=(Q:Int)+((L:Int) - 1)) (m:=Q+L) (dM (pR b2.e69 m1) b2.e81 rfl) (by lia)))
  (aLq F K hv h6 EK hL ⟨b2.e75,b2.e76,b2.e77,b2.e69,b2.e81,b2.e78,b2.e79⟩ g3 gx (nZ t2 ll2) e80 rfl bN hX (aLG hc)))))
end
section
variable {T:Nat->List PV->Option PyData}
theorem aKH {W:Nat}{i:Nat}{e:X}{xs:Sts}{E:AE}{d v:PyData}(h:ev aU T e E=some d)(h2:∀ E1,E1=E.set i (.dat d)->gZ T W xs E1 v):gZ T W (.cons (.asg 0 i e) xs) E v:=bH (dL h) (h2 _ rfl)
theorem aSa {β:Type}(f:Nat->β){xs:List Nat}(h:xs.length=4):xs.map f=(List.range 4).map fun i=>f (xs.getD i 0) :=
 LS (P:=fun xs=>xs.map f=(List.range 4).map fun i=>f (xs.getD i 0)) (fun a=>LS (P:=fun xs=>(a::xs).map f=(List.range 4).map fun i=>f ((a::xs).getD i 0)) fun b=>LS (P:=fun xs=>(a::b::xs).map f=(List.range 4).map fun i=>f ((a::b::xs).getD i 0)) fun c=>LS (P:=fun xs=>(a::b::c::xs).map f=(List.range 4).map fun i=>f ((a::b::c::xs).getD i 0)) fun d=>L0 (P:=fun xs=>(a::b::c::d::xs).map f=(List.range 4).map fun i=>f ((a::b::c::d::xs).getD i 0)) rfl) xs h
theorem aOq (pc:Nat->List Nat):wK pc [] (fun _=>[]):=⟨fun _ _ _ _=>rfl,fun _ m=>(List.not_mem_nil m).elim,fun _ m=>(List.not_mem_nil m).elim,rfl⟩
theorem aMJ {W:Nat}{c:Nat->Nat}{pc:Nat->List Nat}(K:PcK c pc){E:AE}(e78:E 78=some (.hdr []))(e75:aI E 75=some (.list ((List.range 4).map fun i=>S [c i])))(e76:aI E 76=some (.list ((List.range 4).map fun i=>S (pc i)))) :
  ∃ E' l,ex aU T W (.forS (.name 30) (.rng1 (.int 4)) mX) E=some (E',none)/\E' 78=some (.hdr l)/\wK pc l (gM (aAI h0L) fun r=>[r+2])/\aI E' 69=aI E 69/\aI E' 75=aI E 75/\aI E' 76=aI E 76/\aI E' 77=aI E 77:=by
 (refine e1a2 (jR (T:=T) (W:=W) (i:=30) (x:=.int 4) (n:=4) (b:=mX) (E:=E) (fun k g E'=>∃ l,E' 78=some (.hdr l)/\wK pc l g/\l.length+k<=100/\aI E' 69=aI E 69/\aI E' 75=aI E 75/\aI E' 76=aI E 76/\aI E' 77=aI E 77) (fun g p=>upG g p (g p++[[p+2]])) (fun _=>[]) rfl (by decide) (fun p hp k g E' h=>by
  (refine e1a4 h ?_;rintro l h1 h2 h3 h4);have pk:=eU K hp;generalize hE1:E'.set 30 (.dat (.int (p:Nat)))=E1;have k1:aI E1 75=some (.list ((List.range 4).map fun i=>S [c i]))/\aI E1 76=some (.list ((List.range 4).map fun i=>S (pc i)))/\aI E1 30=some (.int (p:Nat))/\E1 78=some (.hdr l):=by rw[<-hE1];exact⟨h4.2.1.trans e75,h4.2.2.1.trans e76,bN,h1⟩
  have i1:ev aU T (.idx (.var 75) (.var 30)) E1=some (S [c p]):=by
   rw[gA,bD,bD,k1.1,k1.2.2.1];exact lA hp (by decide)
  have i2:ev aU T (.idx (.var 76) (.var 30)) E1=some (S (pc p)):=by
   rw[gA,bD,bD,k1.2.1,k1.2.2.1];exact lA hp (by decide)
  have tx:dB pc [p+2]=pc p:=List.append_nil _;refine⟨E1.set 78 (.hdr (l++[([c p],pc p)])),?_,_,rfl,tx ▸ aBY h2 hp (v:=[p+2]) (by rw[List.map_singleton,pk.l1]) pk.c1 (tx.symm ▸ pk.cl),by rw[aG];show _+1+_<=_;lia,by rw[<-hE1];exact h4⟩
  unfold mX;exact aX (aM5 k1.2.2.2 i1 i2 pk.c1 pk.cl (by lia)) rfl) ⟨[],e78,aOq pc,by decide,rfl,rfl,rfl,rfl⟩) ?_;rintro E' g1 g2)
 (refine e1a4 g2 ?_;rintro l h1 h2 h3 h4);exact⟨E',l,g1,h1,qY h2 fun i hi=>by rcases lt4 hi with rfl | rfl | rfl | rfl <;> rfl,h4⟩
theorem aNc {W:Nat}{w:Nat->List Nat}(tl:∀ a b,aG9 T (w a) (w b)){E:AE}(e52:aI E 52=some (.list ((List.range 4).map fun i=>S (w i))))(e69:aI E 69=some (eB (List.replicate 4 (List.replicate 4 0))))(e77:aI E 77=some (.list [])) :
  ∃ E' v,ex aU T W (.forS (.name 62) (.rng1 (.int 4)) mY) E=some (E',none)/\v.length=6/\(∀ y∈v,y<=6)/\aI E' 69=some (eB (jP 0 v))/\aI E' 77=some (.list (ED.map (stD v)))/\aI E' 75=aI E 75/\aI E' 76=aI E 76:=by
 (refine e1a2 (jR (T:=T) (W:=W) (i:=62) (x:=.int 4) (n:=4) (b:=mY) (E:=E) (fun k s E'=>FrI w E' s/\s.2.length+4 * k<=100/\aI E' 75=aI E 75/\aI E' 76=aI E 76) (fun s a=>(List.range a).foldl (aKY w a) s) (List.replicate 4 (List.replicate 4 0),[]) rfl (by decide) (fun a ha k s E' h=>by
  (refine e1a2 (jR (T:=T) (W:=W) (i:=63) (x:=.var 62) (n:=a) (b:=rF) (E:=E'.set 62 (.dat (.int (a:Nat)))) (fun j s E'=>FrI w E' s/\s.2.length+j+4 * k<=100/\aI E' 62=some (.int (a:Nat))/\aI E' 75=aI E 75/\aI E' 76=aI E 76) (aKY w a) s (show aI (E'.set 62 (.dat (.int (a:Nat)))) 62=_ from bN) (by lia) (fun b hb j s E' h=>by
   (refine e1a4 (aKX (W:=W) ha (Nat.lt_trans hb ha) (tl a b) (E:=E'.set 63 (.dat (.int (b:Nat)))) (s:=s) h.1 h.2.2.1 bN (by have:=h.2.1;lia)) ?_;rintro E2 g1 g2 g3 g4)
   refine⟨E2,g1,g2,?_,g3,g4.1.trans h.2.2.2.1,g4.2.trans h.2.2.2.2⟩;unfold aKY;rw[aG];show _+1+_+_<=_;have:=h.2.1;lia) ⟨h.1,by have:=h.2.1;lia,bN,h.2.2⟩) ?_;rintro E2 g1 g2)
  exact⟨E2,by unfold mY;exact aX g1 rfl,g2.1,by have:=g2.2.1;lia,g2.2.2.2⟩) ⟨⟨e52,e69,⟨rfl,fun r m=>by rw[List.eq_of_mem_replicate m];rfl⟩,e77⟩,by decide,rfl,rfl⟩) ?_;rintro E' g1 g2)
 refine⟨E',[gJ (w 1) (w 0),gJ (w 2) (w 0),gJ (w 2) (w 1),gJ (w 3) (w 0),gJ (w 3) (w 1),gJ (w 3) (w 2)],g1,rfl,fun y m=>?_,g2.1.2.1,g2.1.2.2.2,g2.2.2⟩;simp only[List.mem_cons,List.not_mem_nil,_root_.or_false]at m
 rcases m with rfl | rfl | rfl | rfl | rfl | rfl
 .exact(tl 1 0).le
 .exact(tl 2 0).le
 .exact(tl 2 1).le
 .exact(tl 3 0).le
 .exact(tl 3 1).le
 .exact(tl 3 2).le
theorem aJ7 (F:TF2 T)(ns:List Int)(hns:ns.length<=63):cV aU T 100 mT gG [.dat (.list (ns.map PyData.int))]=some (.bool true):=by
 show gZ T 100 gG (AE.set (fun u_=>none) 43 (.dat (.list (ns.map PyData.int)))) (.bool true);generalize hE0:AE.set (fun u_=>none) 43 (.dat (.list (ns.map PyData.int)))=E0;have e43:aI E0 43=some (.list (ns.map PyData.int)):=by rw[<-hE0];rfl
 clear hE0;have hnl:ns.length<=lim:=by show _<=1000000;lia
 generalize hms:ns.take (min 60 ns.length)=ms;have hml:ms.length<=lim:=by rw[<-hms,List.length_take];show _<=1000000;lia
 unfold gG
 have cu:kO (.list (ns.map PyData.int)) .none (.int 60) .none=some (.list (ms.map PyData.int)):=by
  rw[tA,aK,if_pos hnl,show bnd .none 0 ns.length=some 0 from rfl,aD,(show bnd (.int 60) ns.length ns.length=some (min 60 ns.length)from(lH 60 _).2 _),aD];unfold cut;rw[List.drop_zero,<-List.map_take,hms]
 refine aKH (oC e43 rfl rfl cu) fun E1 q1=>?_;(refine e1a2 (aJe (T:=T) (E:=E1) hml (by rw[q1];exact aC7)) ?_;rintro xs hx hs)
 refine aKH hs fun E2 q2=>?_;have e45:aI E2 45=some (bU xs):=by rw[q2];exact bN
 (clear cu hms q1 q2 hs;clear e43)
 have K:=aR8 xs;have i45:∀ {E:AE} {p:Nat},aI E 45=some (bU xs)->aI E 30=some (.int (p:Nat))->p < 4->ev aU T (.idx (.var 45) (.var 30)) E=some (.int (xs.getD p 0:Nat)):=fun h1 h2 hp=>dO h1 h2 (zB (by rw[hx];exact hp) (by rw[hx];decide))
 have nm:∀ {E:AE},aI E 45=some (bU xs)->∀ p,p < 4->ev aU T (.ite (.cmp1 .eq (.bin .mod (.bin .fdiv (.idx (.var 45) (.var 30)) (.int 256)) (.int 2)) (.int 1)) (.idx (.str [67,68,69,70]) (.var 30)) (.idx (.str [99,100,101,102]) (.var 30))) (E.set 30 (.dat (.int (p:Nat))))=some (S [chF xs p]):=fun k p hp=>by
  refine aGe (aLp (b:=1) (aCf (a:=2) (aFB (a:=256) (i45 k rfl hp) (by decide)) (by decide)) rfl) ?_
  unfold chF aO8
  cases Nat.beq (xs.getD p 0 / 256 % 2) 1 with
  | true=>exact dO (x:=S [67,68,69,70]) rfl rfl (nN (by rcases lt4 hp with rfl | rfl | rfl | rfl <;> rfl) (by decide))
  | false=>exact dO (x:=S [99,100,101,102]) rfl rfl (nN (by rcases lt4 hp with rfl | rfl | rfl | rfl <;> rfl) (by decide))
 refine bH (dL (aA8 (f:=fun x=>S (qP x)) (Ed:=fun x:Nat=>E2.set 48 (.dat (.int x))) (aCl e45 (by rw[hx];decide)) fun x m=>⟨rfl,pR (x:=.int x) rfl (F.t4 x)⟩)) ?_
 rw[aSa _ hx];refine bH (dL (zU (m:=4) rfl (by decide) (nm e45))) (bH (dL (zU (m:=4) (f:=fun i=>S (aJA xs i)) rfl (by decide) fun p hp=>aB8 (dO rfl rfl (lA hp (by decide))) (i45 e45 rfl hp) (F.t5 _ _))) ?_)
 generalize hE5:((E2.set 52 _).set 75 _).set 76 _=E5;refine bH (E1:=E5.set 69 (.dat (eB (List.replicate 4 (List.replicate 4 0))))) rfl (bH (E1:=(E5.set 69 (.dat (eB (List.replicate 4 (List.replicate 4 0))))).set 77 (.dat (.list []))) rfl ?_);generalize hE6:E5.set 69 (.dat (eB (List.replicate 4 (List.replicate 4 0))))=E6;have k6:aI E6 52=some (.list ((List.range 4).map fun i=>S (qP (xs.getD i 0))))/\aI E6 75=some (.list ((List.range 4).map fun i=>S [chF xs i]))/\aI E6 76=some (.list ((List.range 4).map fun i=>S (aJA xs i)))/\aI E6 69=some (eB (List.replicate 4 (List.replicate 4 0))):=by rw[<-hE6,<-hE5];exact⟨rfl,rfl,rfl,bN⟩
 (refine e2a6 (aNc (W:=100) (w:=fun i=>qP (xs.getD i 0)) (fun a b=>F.t6 _ _) (E:=E6.set 77 (.dat (.list []))) k6.1 k6.2.2.2 bN) ?_;rintro E7 v g1 hv h6 m1 m2 m3);refine bH g1 (bH (E1:=E7) rfl (bH (E1:=E7) rfl (bH (E1:=E7.set 78 (.hdr [])) rfl ?_)));have k7:aI E7 75=some (.list ((List.range 4).map fun i=>S [chF xs i]))/\aI E7 76=some (.list ((List.range 4).map fun i=>S (aJA xs i))):=⟨m3.1.trans k6.2.1,m3.2.trans k6.2.2.1⟩;(refine e2a4 (aMJ (T:=T) (W:=100) K (E:=E7.set 78 (.hdr [])) rfl k7.1 k7.2) ?_;rintro E8 l q1 q2 q3 q4);refine bH q1 ?_;generalize aJA xs=pc at *;generalize chF xs=c at *;generalize hE9:((E8.set 79 (.dat (bU h0L))).set 80 (.dat (bU h0L))).set 81 (.dat (.int (-1)))=E9;refine bH (E1:=E8.set 79 (.dat (bU h0L))) rfl (bH (E1:=(E8.set 79 (.dat (bU h0L))).set 80 (.dat (bU h0L))) rfl (bH (E1:=E9) (by rw[<-hE9];rfl) ?_))
 have b9:tR c pc v E9 (((0:Nat):Int) - 1) l h0L:=by
  rw[<-hE9];exact⟨q4.2.1.trans k7.1,q4.2.2.1.trans k7.2,q4.2.2.2.trans m2,q4.1.trans m1,rfl,q2,rfl⟩
 have e80:aI E9 80=some (bU (cN h0L)):=by rw[<-hE9];rfl
 have ll:l.length<=4:=by rw[q3.len];decide
 have pw:=aCV hv;have hw6:(nV v).length=6:=rfl;(refine e6a7 (aAU (F:=T) (W:=100) K hv hw6 pw h6 100 0 h0L _ [] E9 l (aQ1 pc hv) b9 q3 ll e80 (by decide) (by decide)) ?_;rintro E' L h T' A l' w1 w2 w3 w4 w5 w6 w7)
 refine bH (by rw[aBA];exact w1) ?_
 (refine e1a2 (aP1 w2 w3) ?_;rintro r r1 r2);have hr:fF h r=true:=(List.mem_filter.mp (show r∈cN h by rw[r1];exact .head _)).2
 have sh:=aAW K h6 w7 w2 hr;rw[r1]at w6
 exact aNo F K hv h6 r2 w7 w4 (qY w5 fun i hi=>by
  unfold gM;rw[yP hi,<-aDP hi,r1];unfold fF;rw[List.any_cons,List.any_nil,Bool.or_false]
  cases e:Nat.beq i r with
  | true=>rw[aT e];rfl
  | false=>rfl) w6 sh.2 sh.1
end
theorem aQR:aED T1a:=fun x hx y hy =>
 nS (P:=fun x=>T1a 1 [.dat (S [x]),.dat (S [y])]=some (.int (xK x y)))
  (nS (P:=fun y=>T1a 1 [.dat (S [97]),.dat (S [y])]=some (.int (xK 97 y))) (by kernel_rfl) (by kernel_rfl) (by kernel_rfl) (by kernel_rfl) hy)
  (nS (P:=fun y=>T1a 1 [.dat (S [65]),.dat (S [y])]=some (.int (xK 65 y))) (by kernel_rfl) (by kernel_rfl) (by kernel_rfl) (by kernel_rfl) hy)
  (nS (P:=fun y=>T1a 1 [.dat (S [98]),.dat (S [y])]=some (.int (xK 98 y))) (by kernel_rfl) (by kernel_rfl) (by kernel_rfl) (by kernel_rfl) hy)
  (nS (P:=fun y=>T1a 1 [.dat (S [66]),.dat (S [y])]=some (.int (xK 66 y))) (by kernel_rfl) (by kernel_rfl) (by kernel_rfl) (by kernel_rfl) hy) hx
theorem tf2:TF2 T1i where
 t3:=fun L h1 h2=>by
  have e:T1i 3=cV aU T1c 100 tN mD:=rfl;rw[e];refine aII (M:=jH L) ?_ (eL L false [] none h1 rfl (fun u_ e=>nomatch e)) ?_
  .show cV aU T1b 100 sD kB [.dat (S L)]=_
   exact aHl h1 h2
  .have:=dU L false [] none
   simp only[List.length_nil,Nat.zero_add]at this;exact aP this h2
 t4:=fun x=>by
  have e:T1i 4=cV aU T1d 100 mS iO:=rfl;rw[e];exact aIZ x
 t5:=fun c x=>by
  have e:T1i 5=cV aU T1e 100 kY gV:=rfl;rw[e];exact aHy c x
 t6:=fun a b=>aMd aQR (show T1i 0=cV aU T1a 100 uI lL from rfl) (show T1i 6=cV aU T1f 100 kI gH from rfl) (wL a).1 (wL b).1 (wL a).2 (wL b).2
 t7:=fun M s=>by
  have e:T1i 7=cV aU T1g 100 kX gU:=rfl;rw[e];exact aHh s
 t8:=fun v hv=>by
  have e:T1i 8=cV aU T1h 100 hW fK:=rfl;rw[e];exact aCh hv
theorem aHS (ns:List Int)(h:ns.length<=63):cV aU T1i 100 mT gG [.dat (.list (ns.map PyData.int))]=some (.bool true):=aJ7 tf2 ns h
noncomputable def fin.tw14035226600899454581:Program:=PySem.Challenge.pw_rs0215_02
theorem fin.te14035226600899454581:PySem.Challenge.pw_rs0215_02=fin.tw14035226600899454581:=rfl
set_option Elab.async true
set_option tactic.hygienic true
theorem fin:PySem.Challenge.rw_rs0215_02.Holds:=by
 (w_on;o_law;k_head;(case hw=>w_witness2))
 k_fill
 intro w s₀ s₁ mg mb G Y fa o pm cd doc dV kV ho hd hcd hD hmg hg args vals as hpre hlay hrd hwl hlo;have KX:=kIn_of Y;refine Ground.open G ?_;intro T B D TE TW
 wrow_args hpre hlay hrd hwl hlo
 refine enter_call ?_
 rename Well _ _ _ _=>w1
 rename ¬ ((_:Int) < _)=>hlen
 refine aQV (K:=_) ?_ KX T.g T.builtins hmg ⟨show callerA.depth+(9+1) < recursionLimit by decide +kernel,show callerA.units+20 * (9+1)+200 < cLine by decide +kernel,rfl⟩ ⟨.refl _,T.g,T.b,T.nolimit⟩ (.cons (aHi w1) .nil) (aHS _ (by lia)) fun v s' st r=>?_
 .clear KX
  exact {
   fns:={
    f0:=⟨by kernel_rfl,by kernel_rfl,fun fd e=>aRE e (fun x y z=>by kernel_rfl) rfl⟩
    f1:=⟨by kernel_rfl,by kernel_rfl,fun fd e=>aLM e (fun x y=>by kernel_rfl) rfl⟩
    f2:=⟨by kernel_rfl,by kernel_rfl,fun fd e=>aBQ e (fun x=>by kernel_rfl) rfl⟩
    f3:=⟨by kernel_rfl,by kernel_rfl,fun fd e=>aBQ e (fun x=>by kernel_rfl) rfl⟩
    f4:=⟨by kernel_rfl,by kernel_rfl,fun fd e=>aBQ e (fun x=>by kernel_rfl) rfl⟩
    f5:=⟨by kernel_rfl,by kernel_rfl,fun fd e=>aLM e (fun x y=>by kernel_rfl) rfl⟩
    f6:=⟨by kernel_rfl,by kernel_rfl,fun fd e=>aLM e (fun x y=>by kernel_rfl) rfl⟩
    f7:=⟨by kernel_rfl,by kernel_rfl,fun fd e=>aBQ e (fun x=>by kernel_rfl) rfl⟩
    f8:=⟨by kernel_rfl,by kernel_rfl,fun fd e=>aBQ e (fun x=>by kernel_rfl) rfl⟩
    f9:=⟨by kernel_rfl,by kernel_rfl,fun fd e=>aBQ e (fun x=>by kernel_rfl) rfl⟩ }
   g0:=by kernel_rfl
   g1:=by kernel_rfl
   g2:=by kernel_rfl
   nn:=by kernel_rfl
   gns:=by kernel_rfl
   gchk:=fun rk prog w mg mb h0=>by kernel_rfl
   gb:=fun v=>by kernel_rfl
   ga:=by kernel_rfl
   gt:=by kernel_rfl
   own:=fun cl di sl hs t la n=>by kernel_rfl
   mconv:=⟨by kernel_rfl,by kernel_rfl,by kernel_rfl⟩
   mget:=⟨by kernel_rfl,by kernel_rfl,by kernel_rfl⟩
   mvals:=⟨by kernel_rfl,by kernel_rfl,by kernel_rfl⟩
   madd:=⟨by kernel_rfl,by kernel_rfl,by kernel_rfl⟩
   mdel:=⟨by kernel_rfl,by kernel_rfl,by kernel_rfl⟩
   mset:=⟨by kernel_rfl,by kernel_rfl,by kernel_rfl⟩
   nos:=by kernel_rfl
   del:=fun rk=>by kernel_rfl
   delb:=fun a b=>by kernel_rfl
   set:=fun rk=>by kernel_rfl
   setb:=fun a b v=>by kernel_rfl
   conv:=fun rk=>by kernel_rfl
   convb:=fun a b v=>by kernel_rfl
   p1:=by kernel_rfl
   q1:=by kernel_rfl
   p2:=by kernel_rfl
   q2:=by kernel_rfl
   get:=fun rk=>by kernel_rfl
   getb:=fun a b=>by kernel_rfl
   vals:=fun rk=>by kernel_rfl
   valsb:=fun v=>by kernel_rfl
   add:=fun rk=>by kernel_rfl
   addb:=fun a n v=>by kernel_rfl
   makes:=by kernel_rfl
   minit:=by kernel_rfl
   tinit:=by kernel_rfl
   init:=fun rk=>by kernel_rfl
   initd:=by kernel_rfl
   initT:=by kernel_rfl
   initk:=fun a=>by kernel_rfl
   over:=by kernel_rfl
   taker:=by kernel_rfl
   hasd:=by kernel_rfl
   seta:=by kernel_rfl
   name:=by kernel_rfl
   keep:=by kernel_rfl
   }
 .rw[r.bool]
  exact⟨.inl ⟨.bool true,WData.bool true,[],rfl,raisesW_false (by wrow_none_raised),.bool true,(by wrow_post),fun _=>⟨List.nodup_nil,fun a m=>nomatch m⟩⟩,OldK.of_keep st.keep,st.os,st.gk.bare (.of_eq hg)⟩
end Mine
theorem PySem.Challenge.cw_rs0215_02_holds : PySem.Challenge.rw_rs0215_02.Holds :=
 Mine.fin
