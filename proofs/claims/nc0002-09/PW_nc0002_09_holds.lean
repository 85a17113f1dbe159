import PyProof.Rows.All
import Wide.All
import OpenK.AllK
import Wide.FinOn
import PySem.Challenge.RW_nc0002_09
open PySem PySem.W PySem.W.X PyProof.Rows
set_option compiler.extract_closed false
set_option genSizeOf false
set_option Elab.async false
set_option maxRecDepth 100000
set_option maxHeartbeats 0
set_option linter.unusedVariables false
set_option linter.unusedSimpArgs false
set_option linter.all false
set_option bootstrap.genMatcherCode false
namespace AC
abbrev ZX:=Nat.Internal.Linear.Expr
abbrev Z0:ZX:=.var 0
abbrev Z1:ZX:=.var 1
abbrev Z2:ZX:=.var 2
abbrev Z3:ZX:=.var 3
abbrev Z4:ZX:=.var 4
abbrev Z5:ZX:=.var 5
abbrev Z6:ZX:=.var 6
abbrev Z7:ZX:=.var 7
abbrev Zn (n:Nat):ZX:=.num n
abbrev Za (x y:ZX):ZX:=.add x y
abbrev Zs (x:ZX):ZX:=.add x (.num 1)
noncomputable def M2:List Nat→Nat→Nat
 |[],_=>0
 |x::_,0=>x
 |_::l,n+1=>M2 l n
noncomputable def zD (c:List Nat):ZX→Nat
 |.num n=>n
 |.var n=>M2 c n
 |.add x y=>zD c x+zD c y
 |.mulL n x=>n*zD c x
 |.mulR x n=>zD c x*n
noncomputable def JT:Nat→List Nat
 |0=>[1]
 |n+1=>0::JT n
noncomputable def HA:List Nat→List Nat→List Nat
 |[],l=>l
 |x::l,[]=>x::l
 |x::l,y::m=>(x+y)::HA l m
noncomputable def GN (k:Nat):List Nat→List Nat
 |[]=>[]
 |x::l=>k*x::GN k l
noncomputable def zW:ZX→List Nat
 |.num n=>[n]
 |.var n=>0::JT n
 |.add x y=>HA (zW x) (zW y)
 |.mulL n x=>GN n (zW x)
 |.mulR x n=>GN n (zW x)
noncomputable def Dk:List Nat→List Nat→Nat
 |[],_=>0
 |_::_,[]=>0
 |x::l,n::c=>x*n+Dk l c
theorem DB:∀(l m c:List Nat),Dk (HA l m) c=Dk l c+Dk m c
 |[],m,c=>(Nat.zero_add _).symm
 |x::l,[],c=>rfl
 |x::l,y::m,[]=>rfl
 |x::l,y::m,n::c=>(congr (congrArg _ (Nat.add_mul x y n)) (DB l m c)).trans (Nat.add_add_add_comm ..)
theorem CH (k:Nat):∀(l c:List Nat),Dk (GN k l) c=k*Dk l c
 |[],c=>rfl
 |x::l,[]=>rfl
 |x::l,n::c=>(congr (congrArg _ (Nat.mul_assoc k x n)) (CH k l c)).trans (Nat.mul_add ..).symm
theorem FQ:∀(n:Nat) (c:List Nat),Dk (JT n) c=M2 c n
 |0,[]=>rfl
 |n+1,[]=>rfl
 |0,x::c=>Nat.one_mul x
 |n+1,x::c=>(congrArg (·+_) (Nat.zero_mul x)).trans ((Nat.zero_add _).trans (FQ n c))
theorem Ed (c:List Nat):∀x:ZX,Dk (zW x) (1::c)=zD c x
 |.num n=>Nat.mul_one n
 |.var n=>(Nat.zero_add _).trans (FQ n c)
 |.add x y=>(DB _ _ _).trans (congr (congrArg _ (Ed c x)) (Ed c y))
 |.mulL n x=>(CH _ _ _).trans (congrArg _ (Ed c x))
 |.mulR x n=>(CH _ _ _).trans ((congrArg _ (Ed c x)).trans (Nat.mul_comm ..))
abbrev ZC:=Nat×ZX×ZX
noncomputable def Gw (c:List Nat) (g:Prop):List ZC→Prop
 |[]=>g
 |x::l=>zD c x.2.1≤zD c x.2.2→Gw c g l
noncomputable def Nh:List ZC→List Nat
 |[]=>[]
 |x::l=>HA (GN x.1 (zW x.2.1)) (Nh l)
noncomputable def Ng:List ZC→List Nat
 |[]=>[]
 |x::l=>HA (GN x.1 (zW x.2.2)) (Ng l)
noncomputable def M3:List Nat→List Nat→Bool
 |[],_=>true
 |x::l,[]=>x.ble 0&&M3 l []
 |x::l,y::m=>x.ble y&&M3 l m
noncomputable def L1:List Nat→List Nat→Bool
 |[],_=>false
 |x::l,[]=>Nat.ble 1 x
 |x::l,y::m=>Nat.ble (y+1) x&&M3 m l
theorem Gu:∀{l m:List Nat} (c:List Nat),M3 l m=true→Dk l c≤Dk m c
 |[],m,c,_=>Nat.zero_le _
 |x::l,m,[],_=>Nat.zero_le _
 |x::l,[],n::c,h=>by
  have h:=Bool.and_eq_true_iff.mp (show (x.ble 0&&M3 l [])=true from h)
  cases Nat.le_zero.mp (Nat.le_of_ble_eq_true h.1)
  exact Nat.le_trans (Nat.le_of_eq ((congrArg (·+_) (Nat.zero_mul n)).trans (Nat.zero_add _))) (Gu c h.2)
 |x::l,y::m,n::c,h=>
  have h:=Bool.and_eq_true_iff.mp (show (x.ble y&&M3 l m)=true from h)
  Nat.add_le_add (Nat.mul_le_mul_right n (Nat.le_of_ble_eq_true h.1)) (Gu c h.2)
theorem JU {c:List Nat}:∀{l m:List Nat},L1 l m=true→¬Dk l (1::c)≤Dk m (1::c)
 |[],_,h=>nomatch h
 |x::l,[],h=>Nat.not_le_of_lt (Nat.lt_of_lt_of_le (Nat.le_of_ble_eq_true h) (Nat.le_trans (Nat.le_of_eq (Nat.mul_one x).symm) (Nat.le_add_right ..)))
 |x::l,y::m,h=>
  have h:=Bool.and_eq_true_iff.mp (show (Nat.ble (y+1) x&&M3 m l)=true from h)
  Nat.not_le_of_lt (Nat.add_lt_add_of_lt_of_le (Nat.mul_lt_mul_of_pos_right (Nat.le_of_ble_eq_true h.1) Nat.one_pos) (Gu c h.2))
theorem Iv {c:List Nat} {g:Prop}:∀{l:List ZC},(Dk (Nh l) (1::c)≤Dk (Ng l) (1::c)→g)→Gw c g l
 |[],h=>h (Nat.le_refl 0)
 |x::l,h=>fun d=>Iv fun e=>h (by
   show Dk (HA (GN x.1 (zW x.2.1)) (Nh l)) _≤Dk (HA (GN x.1 (zW x.2.2)) (Ng l)) _
   rw [DB,DB,CH,CH,Ed,Ed]
   exact Nat.add_le_add (Nat.mul_le_mul_left _ d) e)
theorem IU (c:List Nat) (l:List ZC) (h:L1 (Nh l) (Ng l)=true):Gw c False l:=Iv (JU h)
theorem ES {c:List Nat} {f g:Prop} (k:f→g):∀{l:List ZC},Gw c f l→Gw c g l
 |[],h=>k h
 |x::l,h=>fun d=>ES k (h d)
theorem Gv {c:List Nat} {p f:Prop}:∀{l:List ZC},(p→Gw c f l)→Gw c (p→f) l
 |[],h=>h
 |x::l,h=>fun d=>Gv fun a=>h a d
theorem Ax (c:List Nat) (l:List ZC) (x y:ZX) (h:L1 (Nh ((1,.add y (.num 1),x)::l)) (Ng ((1,.add y (.num 1),x)::l))=true):Gw c (zD c x≤zD c y) l:=
 ES Nat.le_of_not_lt (Gv (IU c ((1,.add y (.num 1),x)::l) h))
theorem BV (c:List Nat) (l:List ZC) (x y:ZX) (h:L1 (Nh ((1,y,x)::l)) (Ng ((1,y,x)::l))=true):Gw c (zD c x<zD c y) l:=
 ES Nat.lt_of_not_le (Gv (IU c ((1,y,x)::l) h))
theorem CG (a b:Nat):a≤a - b+b:=Nat.sub_le_iff_le_add.mp (Nat.le_refl _)
theorem cps {G:Prop} (h:∀P:Prop,(G→P)→P):G:=h G id
universe u1 u2 u3 u4 u5 u6 u7 u8 u9
theorem xa0_2 {p1 p2:Prop} {P:Prop} (h:p1∧p2) (k:p1→p2→P):P:=k h.1 h.2
theorem xa0_3 {p1 p2 p3:Prop} {P:Prop} (h:p1∧p2∧p3) (k:p1→p2→p3→P):P:=k h.1 h.2.1 h.2.2
theorem xa0_4 {p1 p2 p3 p4:Prop} {P:Prop} (h:p1∧p2∧p3∧p4) (k:p1→p2→p3→p4→P):P:=k h.1 h.2.1 h.2.2.1 h.2.2.2
theorem xa0_5 {p1 p2 p3 p4 p5:Prop} {P:Prop} (h:p1∧p2∧p3∧p4∧p5) (k:p1→p2→p3→p4→p5→P):P:=k h.1 h.2.1 h.2.2.1 h.2.2.2.1 h.2.2.2.2
theorem xa0_6 {p1 p2 p3 p4 p5 p6:Prop} {P:Prop} (h:p1∧p2∧p3∧p4∧p5∧p6) (k:p1→p2→p3→p4→p5→p6→P):P:=k h.1 h.2.1 h.2.2.1 h.2.2.2.1 h.2.2.2.2.1 h.2.2.2.2.2
theorem xa0_7 {p1 p2 p3 p4 p5 p6 p7:Prop} {P:Prop} (h:p1∧p2∧p3∧p4∧p5∧p6∧p7) (k:p1→p2→p3→p4→p5→p6→p7→P):P:=k h.1 h.2.1 h.2.2.1 h.2.2.2.1 h.2.2.2.2.1 h.2.2.2.2.2.1 h.2.2.2.2.2.2
theorem xa0_8 {p1 p2 p3 p4 p5 p6 p7 p8:Prop} {P:Prop} (h:p1∧p2∧p3∧p4∧p5∧p6∧p7∧p8) (k:p1→p2→p3→p4→p5→p6→p7→p8→P):P:=k h.1 h.2.1 h.2.2.1 h.2.2.2.1 h.2.2.2.2.1 h.2.2.2.2.2.1 h.2.2.2.2.2.2.1 h.2.2.2.2.2.2.2
theorem xa0_9 {p1 p2 p3 p4 p5 p6 p7 p8 p9:Prop} {P:Prop} (h:p1∧p2∧p3∧p4∧p5∧p6∧p7∧p8∧p9) (k:p1→p2→p3→p4→p5→p6→p7→p8→p9→P):P:=k h.1 h.2.1 h.2.2.1 h.2.2.2.1 h.2.2.2.2.1 h.2.2.2.2.2.1 h.2.2.2.2.2.2.1 h.2.2.2.2.2.2.2.1 h.2.2.2.2.2.2.2.2
theorem xa0_10 {p1 p2 p3 p4 p5 p6 p7 p8 p9 p10:Prop} {P:Prop} (h:p1∧p2∧p3∧p4∧p5∧p6∧p7∧p8∧p9∧p10) (k:p1→p2→p3→p4→p5→p6→p7→p8→p9→p10→P):P:=k h.1 h.2.1 h.2.2.1 h.2.2.2.1 h.2.2.2.2.1 h.2.2.2.2.2.1 h.2.2.2.2.2.2.1 h.2.2.2.2.2.2.2.1 h.2.2.2.2.2.2.2.2.1 h.2.2.2.2.2.2.2.2.2
theorem xa0_11 {p1 p2 p3 p4 p5 p6 p7 p8 p9 p10 p11:Prop} {P:Prop} (h:p1∧p2∧p3∧p4∧p5∧p6∧p7∧p8∧p9∧p10∧p11) (k:p1→p2→p3→p4→p5→p6→p7→p8→p9→p10→p11→P):P:=k h.1 h.2.1 h.2.2.1 h.2.2.2.1 h.2.2.2.2.1 h.2.2.2.2.2.1 h.2.2.2.2.2.2.1 h.2.2.2.2.2.2.2.1 h.2.2.2.2.2.2.2.2.1 h.2.2.2.2.2.2.2.2.2.1 h.2.2.2.2.2.2.2.2.2.2
theorem xa0_12 {p1 p2 p3 p4 p5 p6 p7 p8 p9 p10 p11 p12:Prop} {P:Prop} (h:p1∧p2∧p3∧p4∧p5∧p6∧p7∧p8∧p9∧p10∧p11∧p12) (k:p1→p2→p3→p4→p5→p6→p7→p8→p9→p10→p11→p12→P):P:=k h.1 h.2.1 h.2.2.1 h.2.2.2.1 h.2.2.2.2.1 h.2.2.2.2.2.1 h.2.2.2.2.2.2.1 h.2.2.2.2.2.2.2.1 h.2.2.2.2.2.2.2.2.1 h.2.2.2.2.2.2.2.2.2.1 h.2.2.2.2.2.2.2.2.2.2.1 h.2.2.2.2.2.2.2.2.2.2.2
theorem xa1_1 {α1:Sort u1} {p1:α1→Prop} {P:Prop} (h:∃a1,p1 a1) (k:∀a1,p1 a1→P):P:=h.elim fun a1 h=>k a1 h
theorem xa1_2 {α1:Sort u1} {p1 p2:α1→Prop} {P:Prop} (h:∃a1,p1 a1∧p2 a1) (k:∀a1,p1 a1→p2 a1→P):P:=h.elim fun a1 h=>k a1 h.1 h.2
theorem xa1_3 {α1:Sort u1} {p1 p2 p3:α1→Prop} {P:Prop} (h:∃a1,p1 a1∧p2 a1∧p3 a1) (k:∀a1,p1 a1→p2 a1→p3 a1→P):P:=h.elim fun a1 h=>k a1 h.1 h.2.1 h.2.2
theorem xa1_4 {α1:Sort u1} {p1 p2 p3 p4:α1→Prop} {P:Prop} (h:∃a1,p1 a1∧p2 a1∧p3 a1∧p4 a1) (k:∀a1,p1 a1→p2 a1→p3 a1→p4 a1→P):P:=h.elim fun a1 h=>k a1 h.1 h.2.1 h.2.2.1 h.2.2.2
theorem xa1_5 {α1:Sort u1} {p1 p2 p3 p4 p5:α1→Prop} {P:Prop} (h:∃a1,p1 a1∧p2 a1∧p3 a1∧p4 a1∧p5 a1) (k:∀a1,p1 a1→p2 a1→p3 a1→p4 a1→p5 a1→P):P:=h.elim fun a1 h=>k a1 h.1 h.2.1 h.2.2.1 h.2.2.2.1 h.2.2.2.2
theorem xa1_6 {α1:Sort u1} {p1 p2 p3 p4 p5 p6:α1→Prop} {P:Prop} (h:∃a1,p1 a1∧p2 a1∧p3 a1∧p4 a1∧p5 a1∧p6 a1) (k:∀a1,p1 a1→p2 a1→p3 a1→p4 a1→p5 a1→p6 a1→P):P:=h.elim fun a1 h=>k a1 h.1 h.2.1 h.2.2.1 h.2.2.2.1 h.2.2.2.2.1 h.2.2.2.2.2
theorem xa1_7 {α1:Sort u1} {p1 p2 p3 p4 p5 p6 p7:α1→Prop} {P:Prop} (h:∃a1,p1 a1∧p2 a1∧p3 a1∧p4 a1∧p5 a1∧p6 a1∧p7 a1) (k:∀a1,p1 a1→p2 a1→p3 a1→p4 a1→p5 a1→p6 a1→p7 a1→P):P:=h.elim fun a1 h=>k a1 h.1 h.2.1 h.2.2.1 h.2.2.2.1 h.2.2.2.2.1 h.2.2.2.2.2.1 h.2.2.2.2.2.2
theorem xa1_8 {α1:Sort u1} {p1 p2 p3 p4 p5 p6 p7 p8:α1→Prop} {P:Prop} (h:∃a1,p1 a1∧p2 a1∧p3 a1∧p4 a1∧p5 a1∧p6 a1∧p7 a1∧p8 a1) (k:∀a1,p1 a1→p2 a1→p3 a1→p4 a1→p5 a1→p6 a1→p7 a1→p8 a1→P):P:=h.elim fun a1 h=>k a1 h.1 h.2.1 h.2.2.1 h.2.2.2.1 h.2.2.2.2.1 h.2.2.2.2.2.1 h.2.2.2.2.2.2.1 h.2.2.2.2.2.2.2
theorem xa1_9 {α1:Sort u1} {p1 p2 p3 p4 p5 p6 p7 p8 p9:α1→Prop} {P:Prop} (h:∃a1,p1 a1∧p2 a1∧p3 a1∧p4 a1∧p5 a1∧p6 a1∧p7 a1∧p8 a1∧p9 a1) (k:∀a1,p1 a1→p2 a1→p3 a1→p4 a1→p5 a1→p6 a1→p7 a1→p8 a1→p9 a1→P):P:=h.elim fun a1 h=>k a1 h.1 h.2.1 h.2.2.1 h.2.2.2.1 h.2.2.2.2.1 h.2.2.2.2.2.1 h.2.2.2.2.2.2.1 h.2.2.2.2.2.2.2.1 h.2.2.2.2.2.2.2.2
theorem xa1_10 {α1:Sort u1} {p1 p2 p3 p4 p5 p6 p7 p8 p9 p10:α1→Prop} {P:Prop} (h:∃a1,p1 a1∧p2 a1∧p3 a1∧p4 a1∧p5 a1∧p6 a1∧p7 a1∧p8 a1∧p9 a1∧p10 a1) (k:∀a1,p1 a1→p2 a1→p3 a1→p4 a1→p5 a1→p6 a1→p7 a1→p8 a1→p9 a1→p10 a1→P):P:=h.elim fun a1 h=>k a1 h.1 h.2.1 h.2.2.1 h.2.2.2.1 h.2.2.2.2.1 h.2.2.2.2.2.1 h.2.2.2.2.2.2.1 h.2.2.2.2.2.2.2.1 h.2.2.2.2.2.2.2.2.1 h.2.2.2.2.2.2.2.2.2
theorem xa1_11 {α1:Sort u1} {p1 p2 p3 p4 p5 p6 p7 p8 p9 p10 p11:α1→Prop} {P:Prop} (h:∃a1,p1 a1∧p2 a1∧p3 a1∧p4 a1∧p5 a1∧p6 a1∧p7 a1∧p8 a1∧p9 a1∧p10 a1∧p11 a1) (k:∀a1,p1 a1→p2 a1→p3 a1→p4 a1→p5 a1→p6 a1→p7 a1→p8 a1→p9 a1→p10 a1→p11 a1→P):P:=h.elim fun a1 h=>k a1 h.1 h.2.1 h.2.2.1 h.2.2.2.1 h.2.2.2.2.1 h.2.2.2.2.2.1 h.2.2.2.2.2.2.1 h.2.2.2.2.2.2.2.1 h.2.2.2.2.2.2.2.2.1 h.2.2.2.2.2.2.2.2.2.1 h.2.2.2.2.2.2.2.2.2.2
theorem xa1_12 {α1:Sort u1} {p1 p2 p3 p4 p5 p6 p7 p8 p9 p10 p11 p12:α1→Prop} {P:Prop} (h:∃a1,p1 a1∧p2 a1∧p3 a1∧p4 a1∧p5 a1∧p6 a1∧p7 a1∧p8 a1∧p9 a1∧p10 a1∧p11 a1∧p12 a1) (k:∀a1,p1 a1→p2 a1→p3 a1→p4 a1→p5 a1→p6 a1→p7 a1→p8 a1→p9 a1→p10 a1→p11 a1→p12 a1→P):P:=h.elim fun a1 h=>k a1 h.1 h.2.1 h.2.2.1 h.2.2.2.1 h.2.2.2.2.1 h.2.2.2.2.2.1 h.2.2.2.2.2.2.1 h.2.2.2.2.2.2.2.1 h.2.2.2.2.2.2.2.2.1 h.2.2.2.2.2.2.2.2.2.1 h.2.2.2.2.2.2.2.2.2.2.1 h.2.2.2.2.2.2.2.2.2.2.2
theorem xa2_1 {α1:Sort u1} {α2:Sort u2} {p1:α1→α2→Prop} {P:Prop} (h:∃a1 a2,p1 a1 a2) (k:∀a1 a2,p1 a1 a2→P):P:=h.elim fun a1 h=>h.elim fun a2 h=>k a1 a2 h
theorem xa2_2 {α1:Sort u1} {α2:Sort u2} {p1 p2:α1→α2→Prop} {P:Prop} (h:∃a1 a2,p1 a1 a2∧p2 a1 a2) (k:∀a1 a2,p1 a1 a2→p2 a1 a2→P):P:=h.elim fun a1 h=>h.elim fun a2 h=>k a1 a2 h.1 h.2
theorem xa2_3 {α1:Sort u1} {α2:Sort u2} {p1 p2 p3:α1→α2→Prop} {P:Prop} (h:∃a1 a2,p1 a1 a2∧p2 a1 a2∧p3 a1 a2) (k:∀a1 a2,p1 a1 a2→p2 a1 a2→p3 a1 a2→P):P:=h.elim fun a1 h=>h.elim fun a2 h=>k a1 a2 h.1 h.2.1 h.2.2
theorem xa2_4 {α1:Sort u1} {α2:Sort u2} {p1 p2 p3 p4:α1→α2→Prop} {P:Prop} (h:∃a1 a2,p1 a1 a2∧p2 a1 a2∧p3 a1 a2∧p4 a1 a2) (k:∀a1 a2,p1 a1 a2→p2 a1 a2→p3 a1 a2→p4 a1 a2→P):P:=h.elim fun a1 h=>h.elim fun a2 h=>k a1 a2 h.1 h.2.1 h.2.2.1 h.2.2.2
theorem xa2_5 {α1:Sort u1} {α2:Sort u2} {p1 p2 p3 p4 p5:α1→α2→Prop} {P:Prop} (h:∃a1 a2,p1 a1 a2∧p2 a1 a2∧p3 a1 a2∧p4 a1 a2∧p5 a1 a2) (k:∀a1 a2,p1 a1 a2→p2 a1 a2→p3 a1 a2→p4 a1 a2→p5 a1 a2→P):P:=h.elim fun a1 h=>h.elim fun a2 h=>k a1 a2 h.1 h.2.1 h.2.2.1 h.2.2.2.1 h.2.2.2.2
theorem xa2_6 {α1:Sort u1} {α2:Sort u2} {p1 p2 p3 p4 p5 p6:α1→α2→Prop} {P:Prop} (h:∃a1 a2,p1 a1 a2∧p2 a1 a2∧p3 a1 a2∧p4 a1 a2∧p5 a1 a2∧p6 a1 a2) (k:∀a1 a2,p1 a1 a2→p2 a1 a2→p3 a1 a2→p4 a1 a2→p5 a1 a2→p6 a1 a2→P):P:=h.elim fun a1 h=>h.elim fun a2 h=>k a1 a2 h.1 h.2.1 h.2.2.1 h.2.2.2.1 h.2.2.2.2.1 h.2.2.2.2.2
theorem xa2_7 {α1:Sort u1} {α2:Sort u2} {p1 p2 p3 p4 p5 p6 p7:α1→α2→Prop} {P:Prop} (h:∃a1 a2,p1 a1 a2∧p2 a1 a2∧p3 a1 a2∧p4 a1 a2∧p5 a1 a2∧p6 a1 a2∧p7 a1 a2) (k:∀a1 a2,p1 a1 a2→p2 a1 a2→p3 a1 a2→p4 a1 a2→p5 a1 a2→p6 a1 a2→p7 a1 a2→P):P:=h.elim fun a1 h=>h.elim fun a2 h=>k a1 a2 h.1 h.2.1 h.2.2.1 h.2.2.2.1 h.2.2.2.2.1 h.2.2.2.2.2.1 h.2.2.2.2.2.2
theorem xa2_8 {α1:Sort u1} {α2:Sort u2} {p1 p2 p3 p4 p5 p6 p7 p8:α1→α2→Prop} {P:Prop} (h:∃a1 a2,p1 a1 a2∧p2 a1 a2∧p3 a1 a2∧p4 a1 a2∧p5 a1 a2∧p6 a1 a2∧p7 a1 a2∧p8 a1 a2) (k:∀a1 a2,p1 a1 a2→p2 a1 a2→p3 a1 a2→p4 a1 a2→p5 a1 a2→p6 a1 a2→p7 a1 a2→p8 a1 a2→P):P:=h.elim fun a1 h=>h.elim fun a2 h=>k a1 a2 h.1 h.2.1 h.2.2.1 h.2.2.2.1 h.2.2.2.2.1 h.2.2.2.2.2.1 h.2.2.2.2.2.2.1 h.2.2.2.2.2.2.2
theorem xa2_9 {α1:Sort u1} {α2:Sort u2} {p1 p2 p3 p4 p5 p6 p7 p8 p9:α1→α2→Prop} {P:Prop} (h:∃a1 a2,p1 a1 a2∧p2 a1 a2∧p3 a1 a2∧p4 a1 a2∧p5 a1 a2∧p6 a1 a2∧p7 a1 a2∧p8 a1 a2∧p9 a1 a2) (k:∀a1 a2,p1 a1 a2→p2 a1 a2→p3 a1 a2→p4 a1 a2→p5 a1 a2→p6 a1 a2→p7 a1 a2→p8 a1 a2→p9 a1 a2→P):P:=h.elim fun a1 h=>h.elim fun a2 h=>k a1 a2 h.1 h.2.1 h.2.2.1 h.2.2.2.1 h.2.2.2.2.1 h.2.2.2.2.2.1 h.2.2.2.2.2.2.1 h.2.2.2.2.2.2.2.1 h.2.2.2.2.2.2.2.2
theorem xa2_10 {α1:Sort u1} {α2:Sort u2} {p1 p2 p3 p4 p5 p6 p7 p8 p9 p10:α1→α2→Prop} {P:Prop} (h:∃a1 a2,p1 a1 a2∧p2 a1 a2∧p3 a1 a2∧p4 a1 a2∧p5 a1 a2∧p6 a1 a2∧p7 a1 a2∧p8 a1 a2∧p9 a1 a2∧p10 a1 a2) (k:∀a1 a2,p1 a1 a2→p2 a1 a2→p3 a1 a2→p4 a1 a2→p5 a1 a2→p6 a1 a2→p7 a1 a2→p8 a1 a2→p9 a1 a2→p10 a1 a2→P):P:=h.elim fun a1 h=>h.elim fun a2 h=>k a1 a2 h.1 h.2.1 h.2.2.1 h.2.2.2.1 h.2.2.2.2.1 h.2.2.2.2.2.1 h.2.2.2.2.2.2.1 h.2.2.2.2.2.2.2.1 h.2.2.2.2.2.2.2.2.1 h.2.2.2.2.2.2.2.2.2
theorem xa2_11 {α1:Sort u1} {α2:Sort u2} {p1 p2 p3 p4 p5 p6 p7 p8 p9 p10 p11:α1→α2→Prop} {P:Prop} (h:∃a1 a2,p1 a1 a2∧p2 a1 a2∧p3 a1 a2∧p4 a1 a2∧p5 a1 a2∧p6 a1 a2∧p7 a1 a2∧p8 a1 a2∧p9 a1 a2∧p10 a1 a2∧p11 a1 a2) (k:∀a1 a2,p1 a1 a2→p2 a1 a2→p3 a1 a2→p4 a1 a2→p5 a1 a2→p6 a1 a2→p7 a1 a2→p8 a1 a2→p9 a1 a2→p10 a1 a2→p11 a1 a2→P):P:=h.elim fun a1 h=>h.elim fun a2 h=>k a1 a2 h.1 h.2.1 h.2.2.1 h.2.2.2.1 h.2.2.2.2.1 h.2.2.2.2.2.1 h.2.2.2.2.2.2.1 h.2.2.2.2.2.2.2.1 h.2.2.2.2.2.2.2.2.1 h.2.2.2.2.2.2.2.2.2.1 h.2.2.2.2.2.2.2.2.2.2
theorem xa2_12 {α1:Sort u1} {α2:Sort u2} {p1 p2 p3 p4 p5 p6 p7 p8 p9 p10 p11 p12:α1→α2→Prop} {P:Prop} (h:∃a1 a2,p1 a1 a2∧p2 a1 a2∧p3 a1 a2∧p4 a1 a2∧p5 a1 a2∧p6 a1 a2∧p7 a1 a2∧p8 a1 a2∧p9 a1 a2∧p10 a1 a2∧p11 a1 a2∧p12 a1 a2) (k:∀a1 a2,p1 a1 a2→p2 a1 a2→p3 a1 a2→p4 a1 a2→p5 a1 a2→p6 a1 a2→p7 a1 a2→p8 a1 a2→p9 a1 a2→p10 a1 a2→p11 a1 a2→p12 a1 a2→P):P:=h.elim fun a1 h=>h.elim fun a2 h=>k a1 a2 h.1 h.2.1 h.2.2.1 h.2.2.2.1 h.2.2.2.2.1 h.2.2.2.2.2.1 h.2.2.2.2.2.2.1 h.2.2.2.2.2.2.2.1 h.2.2.2.2.2.2.2.2.1 h.2.2.2.2.2.2.2.2.2.1 h.2.2.2.2.2.2.2.2.2.2.1 h.2.2.2.2.2.2.2.2.2.2.2
theorem xa3_1 {α1:Sort u1} {α2:Sort u2} {α3:Sort u3} {p1:α1→α2→α3→Prop} {P:Prop} (h:∃a1 a2 a3,p1 a1 a2 a3) (k:∀a1 a2 a3,p1 a1 a2 a3→P):P:=h.elim fun a1 h=>h.elim fun a2 h=>h.elim fun a3 h=>k a1 a2 a3 h
theorem xa3_2 {α1:Sort u1} {α2:Sort u2} {α3:Sort u3} {p1 p2:α1→α2→α3→Prop} {P:Prop} (h:∃a1 a2 a3,p1 a1 a2 a3∧p2 a1 a2 a3) (k:∀a1 a2 a3,p1 a1 a2 a3→p2 a1 a2 a3→P):P:=h.elim fun a1 h=>h.elim fun a2 h=>h.elim fun a3 h=>k a1 a2 a3 h.1 h.2
theorem xa3_3 {α1:Sort u1} {α2:Sort u2} {α3:Sort u3} {p1 p2 p3:α1→α2→α3→Prop} {P:Prop} (h:∃a1 a2 a3,p1 a1 a2 a3∧p2 a1 a2 a3∧p3 a1 a2 a3) (k:∀a1 a2 a3,p1 a1 a2 a3→p2 a1 a2 a3→p3 a1 a2 a3→P):P:=h.elim fun a1 h=>h.elim fun a2 h=>h.elim fun a3 h=>k a1 a2 a3 h.1 h.2.1 h.2.2
theorem xa3_4 {α1:Sort u1} {α2:Sort u2} {α3:Sort u3} {p1 p2 p3 p4:α1→α2→α3→Prop} {P:Prop} (h:∃a1 a2 a3,p1 a1 a2 a3∧p2 a1 a2 a3∧p3 a1 a2 a3∧p4 a1 a2 a3) (k:∀a1 a2 a3,p1 a1 a2 a3→p2 a1 a2 a3→p3 a1 a2 a3→p4 a1 a2 a3→P):P:=h.elim fun a1 h=>h.elim fun a2 h=>h.elim fun a3 h=>k a1 a2 a3 h.1 h.2.1 h.2.2.1 h.2.2.2
theorem xa3_5 {α1:Sort u1} {α2:Sort u2} {α3:Sort u3} {p1 p2 p3 p4 p5:α1→α2→α3→Prop} {P:Prop} (h:∃a1 a2 a3,p1 a1 a2 a3∧p2 a1 a2 a3∧p3 a1 a2 a3∧p4 a1 a2 a3∧p5 a1 a2 a3) (k:∀a1 a2 a3,p1 a1 a2 a3→p2 a1 a2 a3→p3 a1 a2 a3→p4 a1 a2 a3→p5 a1 a2 a3→P):P:=h.elim fun a1 h=>h.elim fun a2 h=>h.elim fun a3 h=>k a1 a2 a3 h.1 h.2.1 h.2.2.1 h.2.2.2.1 h.2.2.2.2
theorem xa3_6 {α1:Sort u1} {α2:Sort u2} {α3:Sort u3} {p1 p2 p3 p4 p5 p6:α1→α2→α3→Prop} {P:Prop} (h:∃a1 a2 a3,p1 a1 a2 a3∧p2 a1 a2 a3∧p3 a1 a2 a3∧p4 a1 a2 a3∧p5 a1 a2 a3∧p6 a1 a2 a3) (k:∀a1 a2 a3,p1 a1 a2 a3→p2 a1 a2 a3→p3 a1 a2 a3→p4 a1 a2 a3→p5 a1 a2 a3→p6 a1 a2 a3→P):P:=h.elim fun a1 h=>h.elim fun a2 h=>h.elim fun a3 h=>k a1 a2 a3 h.1 h.2.1 h.2.2.1 h.2.2.2.1 h.2.2.2.2.1 h.2.2.2.2.2
theorem xa3_7 {α1:Sort u1} {α2:Sort u2} {α3:Sort u3} {p1 p2 p3 p4 p5 p6 p7:α1→α2→α3→Prop} {P:Prop} (h:∃a1 a2 a3,p1 a1 a2 a3∧p2 a1 a2 a3∧p3 a1 a2 a3∧p4 a1 a2 a3∧p5 a1 a2 a3∧p6 a1 a2 a3∧p7 a1 a2 a3) (k:∀a1 a2 a3,p1 a1 a2 a3→p2 a1 a2 a3→p3 a1 a2 a3→p4 a1 a2 a3→p5 a1 a2 a3→p6 a1 a2 a3→p7 a1 a2 a3→P):P:=h.elim fun a1 h=>h.elim fun a2 h=>h.elim fun a3 h=>k a1 a2 a3 h.1 h.2.1 h.2.2.1 h.2.2.2.1 h.2.2.2.2.1 h.2.2.2.2.2.1 h.2.2.2.2.2.2
theorem xa3_8 {α1:Sort u1} {α2:Sort u2} {α3:Sort u3} {p1 p2 p3 p4 p5 p6 p7 p8:α1→α2→α3→Prop} {P:Prop} (h:∃a1 a2 a3,p1 a1 a2 a3∧p2 a1 a2 a3∧p3 a1 a2 a3∧p4 a1 a2 a3∧p5 a1 a2 a3∧p6 a1 a2 a3∧p7 a1 a2 a3∧p8 a1 a2 a3) (k:∀a1 a2 a3,p1 a1 a2 a3→p2 a1 a2 a3→p3 a1 a2 a3→p4 a1 a2 a3→p5 a1 a2 a3→p6 a1 a2 a3→p7 a1 a2 a3→p8 a1 a2 a3→P):P:=h.elim fun a1 h=>h.elim fun a2 h=>h.elim fun a3 h=>k a1 a2 a3 h.1 h.2.1 h.2.2.1 h.2.2.2.1 h.2.2.2.2.1 h.2.2.2.2.2.1 h.2.2.2.2.2.2.1 h.2.2.2.2.2.2.2
theorem xa3_9 {α1:Sort u1} {α2:Sort u2} {α3:Sort u3} {p1 p2 p3 p4 p5 p6 p7 p8 p9:α1→α2→α3→Prop} {P:Prop} (h:∃a1 a2 a3,p1 a1 a2 a3∧p2 a1 a2 a3∧p3 a1 a2 a3∧p4 a1 a2 a3∧p5 a1 a2 a3∧p6 a1 a2 a3∧p7 a1 a2 a3∧p8 a1 a2 a3∧p9 a1 a2 a3) (k:∀a1 a2 a3,p1 a1 a2 a3→p2 a1 a2 a3→p3 a1 a2 a3→p4 a1 a2 a3→p5 a1 a2 a3→p6 a1 a2 a3→p7 a1 a2 a3→p8 a1 a2 a3→p9 a1 a2 a3→P):P:=h.elim fun a1 h=>h.elim fun a2 h=>h.elim fun a3 h=>k a1 a2 a3 h.1 h.2.1 h.2.2.1 h.2.2.2.1 h.2.2.2.2.1 h.2.2.2.2.2.1 h.2.2.2.2.2.2.1 h.2.2.2.2.2.2.2.1 h.2.2.2.2.2.2.2.2
theorem xa3_10 {α1:Sort u1} {α2:Sort u2} {α3:Sort u3} {p1 p2 p3 p4 p5 p6 p7 p8 p9 p10:α1→α2→α3→Prop} {P:Prop} (h:∃a1 a2 a3,p1 a1 a2 a3∧p2 a1 a2 a3∧p3 a1 a2 a3∧p4 a1 a2 a3∧p5 a1 a2 a3∧p6 a1 a2 a3∧p7 a1 a2 a3∧p8 a1 a2 a3∧p9 a1 a2 a3∧p10 a1 a2 a3) (k:∀a1 a2 a3,p1 a1 a2 a3→p2 a1 a2 a3→p3 a1 a2 a3→p4 a1 a2 a3→p5 a1 a2 a3→p6 a1 a2 a3→p7 a1 a2 a3→p8 a1 a2 a3→p9 a1 a2 a3→p10 a1 a2 a3→P):P:=h.elim fun a1 h=>h.elim fun a2 h=>h.elim fun a3 h=>k a1 a2 a3 h.1 h.2.1 h.2.2.1 h.2.2.2.1 h.2.2.2.2.1 h.2.2.2.2.2.1 h.2.2.2.2.2.2.1 h.2.2.2.2.2.2.2.1 h.2.2.2.2.2.2.2.2.1 h.2.2.2.2.2.2.2.2.2
theorem xa3_11 {α1:Sort u1} {α2:Sort u2} {α3:Sort u3} {p1 p2 p3 p4 p5 p6 p7 p8 p9 p10 p11:α1→α2→α3→Prop} {P:Prop} (h:∃a1 a2 a3,p1 a1 a2 a3∧p2 a1 a2 a3∧p3 a1 a2 a3∧p4 a1 a2 a3∧p5 a1 a2 a3∧p6 a1 a2 a3∧p7 a1 a2 a3∧p8 a1 a2 a3∧p9 a1 a2 a3∧p10 a1 a2 a3∧p11 a1 a2 a3) (k:∀a1 a2 a3,p1 a1 a2 a3→p2 a1 a2 a3→p3 a1 a2 a3→p4 a1 a2 a3→p5 a1 a2 a3→p6 a1 a2 a3→p7 a1 a2 a3→p8 a1 a2 a3→p9 a1 a2 a3→p10 a1 a2 a3→p11 a1 a2 a3→P):P:=h.elim fun a1 h=>h.elim fun a2 h=>h.elim fun a3 h=>k a1 a2 a3 h.1 h.2.1 h.2.2.1 h.2.2.2.1 h.2.2.2.2.1 h.2.2.2.2.2.1 h.2.2.2.2.2.2.1 h.2.2.2.2.2.2.2.1 h.2.2.2.2.2.2.2.2.1 h.2.2.2.2.2.2.2.2.2.1 h.2.2.2.2.2.2.2.2.2.2
theorem xa3_12 {α1:Sort u1} {α2:Sort u2} {α3:Sort u3} {p1 p2 p3 p4 p5 p6 p7 p8 p9 p10 p11 p12:α1→α2→α3→Prop} {P:Prop} (h:∃a1 a2 a3,p1 a1 a2 a3∧p2 a1 a2 a3∧p3 a1 a2 a3∧p4 a1 a2 a3∧p5 a1 a2 a3∧p6 a1 a2 a3∧p7 a1 a2 a3∧p8 a1 a2 a3∧p9 a1 a2 a3∧p10 a1 a2 a3∧p11 a1 a2 a3∧p12 a1 a2 a3) (k:∀a1 a2 a3,p1 a1 a2 a3→p2 a1 a2 a3→p3 a1 a2 a3→p4 a1 a2 a3→p5 a1 a2 a3→p6 a1 a2 a3→p7 a1 a2 a3→p8 a1 a2 a3→p9 a1 a2 a3→p10 a1 a2 a3→p11 a1 a2 a3→p12 a1 a2 a3→P):P:=h.elim fun a1 h=>h.elim fun a2 h=>h.elim fun a3 h=>k a1 a2 a3 h.1 h.2.1 h.2.2.1 h.2.2.2.1 h.2.2.2.2.1 h.2.2.2.2.2.1 h.2.2.2.2.2.2.1 h.2.2.2.2.2.2.2.1 h.2.2.2.2.2.2.2.2.1 h.2.2.2.2.2.2.2.2.2.1 h.2.2.2.2.2.2.2.2.2.2.1 h.2.2.2.2.2.2.2.2.2.2.2
theorem xa4_1 {α1:Sort u1} {α2:Sort u2} {α3:Sort u3} {α4:Sort u4} {p1:α1→α2→α3→α4→Prop} {P:Prop} (h:∃a1 a2 a3 a4,p1 a1 a2 a3 a4) (k:∀a1 a2 a3 a4,p1 a1 a2 a3 a4→P):P:=h.elim fun a1 h=>h.elim fun a2 h=>h.elim fun a3 h=>h.elim fun a4 h=>k a1 a2 a3 a4 h
theorem xa4_2 {α1:Sort u1} {α2:Sort u2} {α3:Sort u3} {α4:Sort u4} {p1 p2:α1→α2→α3→α4→Prop} {P:Prop} (h:∃a1 a2 a3 a4,p1 a1 a2 a3 a4∧p2 a1 a2 a3 a4) (k:∀a1 a2 a3 a4,p1 a1 a2 a3 a4→p2 a1 a2 a3 a4→P):P:=h.elim fun a1 h=>h.elim fun a2 h=>h.elim fun a3 h=>h.elim fun a4 h=>k a1 a2 a3 a4 h.1 h.2
theorem xa4_3 {α1:Sort u1} {α2:Sort u2} {α3:Sort u3} {α4:Sort u4} {p1 p2 p3:α1→α2→α3→α4→Prop} {P:Prop} (h:∃a1 a2 a3 a4,p1 a1 a2 a3 a4∧p2 a1 a2 a3 a4∧p3 a1 a2 a3 a4) (k:∀a1 a2 a3 a4,p1 a1 a2 a3 a4→p2 a1 a2 a3 a4→p3 a1 a2 a3 a4→P):P:=h.elim fun a1 h=>h.elim fun a2 h=>h.elim fun a3 h=>h.elim fun a4 h=>k a1 a2 a3 a4 h.1 h.2.1 h.2.2
theorem xa4_4 {α1:Sort u1} {α2:Sort u2} {α3:Sort u3} {α4:Sort u4} {p1 p2 p3 p4:α1→α2→α3→α4→Prop} {P:Prop} (h:∃a1 a2 a3 a4,p1 a1 a2 a3 a4∧p2 a1 a2 a3 a4∧p3 a1 a2 a3 a4∧p4 a1 a2 a3 a4) (k:∀a1 a2 a3 a4,p1 a1 a2 a3 a4→p2 a1 a2 a3 a4→p3 a1 a2 a3 a4→p4 a1 a2 a3 a4→P):P:=h.elim fun a1 h=>h.elim fun a2 h=>h.elim fun a3 h=>h.elim fun a4 h=>k a1 a2 a3 a4 h.1 h.2.1 h.2.2.1 h.2.2.2
theorem xa4_5 {α1:Sort u1} {α2:Sort u2} {α3:Sort u3} {α4:Sort u4} {p1 p2 p3 p4 p5:α1→α2→α3→α4→Prop} {P:Prop} (h:∃a1 a2 a3 a4,p1 a1 a2 a3 a4∧p2 a1 a2 a3 a4∧p3 a1 a2 a3 a4∧p4 a1 a2 a3 a4∧p5 a1 a2 a3 a4) (k:∀a1 a2 a3 a4,p1 a1 a2 a3 a4→p2 a1 a2 a3 a4→p3 a1 a2 a3 a4→p4 a1 a2 a3 a4→p5 a1 a2 a3 a4→P):P:=h.elim fun a1 h=>h.elim fun a2 h=>h.elim fun a3 h=>h.elim fun a4 h=>k a1 a2 a3 a4 h.1 h.2.1 h.2.2.1 h.2.2.2.1 h.2.2.2.2
theorem xa4_6 {α1:Sort u1} {α2:Sort u2} {α3:Sort u3} {α4:Sort u4} {p1 p2 p3 p4 p5 p6:α1→α2→α3→α4→Prop} {P:Prop} (h:∃a1 a2 a3 a4,p1 a1 a2 a3 a4∧p2 a1 a2 a3 a4∧p3 a1 a2 a3 a4∧p4 a1 a2 a3 a4∧p5 a1 a2 a3 a4∧p6 a1 a2 a3 a4) (k:∀a1 a2 a3 a4,p1 a1 a2 a3 a4→p2 a1 a2 a3 a4→p3 a1 a2 a3 a4→p4 a1 a2 a3 a4→p5 a1 a2 a3 a4→p6 a1 a2 a3 a4→P):P:=h.elim fun a1 h=>h.elim fun a2 h=>h.elim fun a3 h=>h.elim fun a4 h=>k a1 a2 a3 a4 h.1 h.2.1 h.2.2.1 h.2.2.2.1 h.2.2.2.2.1 h.2.2.2.2.2
theorem xa4_7 {α1:Sort u1} {α2:Sort u2} {α3:Sort u3} {α4:Sort u4} {p1 p2 p3 p4 p5 p6 p7:α1→α2→α3→α4→Prop} {P:Prop} (h:∃a1 a2 a3 a4,p1 a1 a2 a3 a4∧p2 a1 a2 a3 a4∧p3 a1 a2 a3 a4∧p4 a1 a2 a3 a4∧p5 a1 a2 a3 a4∧p6 a1 a2 a3 a4∧p7 a1 a2 a3 a4) (k:∀a1 a2 a3 a4,p1 a1 a2 a3 a4→p2 a1 a2 a3 a4→p3 a1 a2 a3 a4→p4 a1 a2 a3 a4→p5 a1 a2 a3 a4→p6 a1 a2 a3 a4→p7 a1 a2 a3 a4→P):P:=h.elim fun a1 h=>h.elim fun a2 h=>h.elim fun a3 h=>h.elim fun a4 h=>k a1 a2 a3 a4 h.1 h.2.1 h.2.2.1 h.2.2.2.1 h.2.2.2.2.1 h.2.2.2.2.2.1 h.2.2.2.2.2.2
theorem xa4_8 {α1:Sort u1} {α2:Sort u2} {α3:Sort u3} {α4:Sort u4} {p1 p2 p3 p4 p5 p6 p7 p8:α1→α2→α3→α4→Prop} {P:Prop} (h:∃a1 a2 a3 a4,p1 a1 a2 a3 a4∧p2 a1 a2 a3 a4∧p3 a1 a2 a3 a4∧p4 a1 a2 a3 a4∧p5 a1 a2 a3 a4∧p6 a1 a2 a3 a4∧p7 a1 a2 a3 a4∧p8 a1 a2 a3 a4) (k:∀a1 a2 a3 a4,p1 a1 a2 a3 a4→p2 a1 a2 a3 a4→p3 a1 a2 a3 a4→p4 a1 a2 a3 a4→p5 a1 a2 a3 a4→p6 a1 a2 a3 a4→p7 a1 a2 a3 a4→p8 a1 a2 a3 a4→P):P:=h.elim fun a1 h=>h.elim fun a2 h=>h.elim fun a3 h=>h.elim fun a4 h=>k a1 a2 a3 a4 h.1 h.2.1 h.2.2.1 h.2.2.2.1 h.2.2.2.2.1 h.2.2.2.2.2.1 h.2.2.2.2.2.2.1 h.2.2.2.2.2.2.2
theorem xa4_9 {α1:Sort u1} {α2:Sort u2} {α3:Sort u3} {α4:Sort u4} {p1 p2 p3 p4 p5 p6 p7 p8 p9:α1→α2→α3→α4→Prop} {P:Prop} (h:∃a1 a2 a3 a4,p1 a1 a2 a3 a4∧p2 a1 a2 a3 a4∧p3 a1 a2 a3 a4∧p4 a1 a2 a3 a4∧p5 a1 a2 a3 a4∧p6 a1 a2 a3 a4∧p7 a1 a2 a3 a4∧p8 a1 a2 a3 a4∧p9 a1 a2 a3 a4) (k:∀a1 a2 a3 a4,p1 a1 a2 a3 a4→p2 a1 a2 a3 a4→p3 a1 a2 a3 a4→p4 a1 a2 a3 a4→p5 a1 a2 a3 a4→p6 a1 a2 a3 a4→p7 a1 a2 a3 a4→p8 a1 a2 a3 a4→p9 a1 a2 a3 a4→P):P:=h.elim fun a1 h=>h.elim fun a2 h=>h.elim fun a3 h=>h.elim fun a4 h=>k a1 a2 a3 a4 h.1 h.2.1 h.2.2.1 h.2.2.2.1 h.2.2.2.2.1 h.2.2.2.2.2.1 h.2.2.2.2.2.2.1 h.2.2.2.2.2.2.2.1 h.2.2.2.2.2.2.2.2
theorem xa4_10 {α1:Sort u1} {α2:Sort u2} {α3:Sort u3} {α4:Sort u4} {p1 p2 p3 p4 p5 p6 p7 p8 p9 p10:α1→α2→α3→α4→Prop} {P:Prop} (h:∃a1 a2 a3 a4,p1 a1 a2 a3 a4∧p2 a1 a2 a3 a4∧p3 a1 a2 a3 a4∧p4 a1 a2 a3 a4∧p5 a1 a2 a3 a4∧p6 a1 a2 a3 a4∧p7 a1 a2 a3 a4∧p8 a1 a2 a3 a4∧p9 a1 a2 a3 a4∧p10 a1 a2 a3 a4) (k:∀a1 a2 a3 a4,p1 a1 a2 a3 a4→p2 a1 a2 a3 a4→p3 a1 a2 a3 a4→p4 a1 a2 a3 a4→p5 a1 a2 a3 a4→p6 a1 a2 a3 a4→p7 a1 a2 a3 a4→p8 a1 a2 a3 a4→p9 a1 a2 a3 a4→p10 a1 a2 a3 a4→P):P:=h.elim fun a1 h=>h.elim fun a2 h=>h.elim fun a3 h=>h.elim fun a4 h=>k a1 a2 a3 a4 h.1 h.2.1 h.2.2.1 h.2.2.2.1 h.2.2.2.2.1 h.2.2.2.2.2.1 h.2.2.2.2.2.2.1 h.2.2.2.2.2.2.2.1 h.2.2.2.2.2.2.2.2.1 h.2.2.2.2.2.2.2.2.2
theorem xa4_11 {α1:Sort u1} {α2:Sort u2} {α3:Sort u3} {α4:Sort u4} {p1 p2 p3 p4 p5 p6 p7 p8 p9 p10 p11:α1→α2→α3→α4→Prop} {P:Prop} (h:∃a1 a2 a3 a4,p1 a1 a2 a3 a4∧p2 a1 a2 a3 a4∧p3 a1 a2 a3 a4∧p4 a1 a2 a3 a4∧p5 a1 a2 a3 a4∧p6 a1 a2 a3 a4∧p7 a1 a2 a3 a4∧p8 a1 a2 a3 a4∧p9 a1 a2 a3 a4∧p10 a1 a2 a3 a4∧p11 a1 a2 a3 a4) (k:∀a1 a2 a3 a4,p1 a1 a2 a3 a4→p2 a1 a2 a3 a4→p3 a1 a2 a3 a4→p4 a1 a2 a3 a4→p5 a1 a2 a3 a4→p6 a1 a2 a3 a4→p7 a1 a2 a3 a4→p8 a1 a2 a3 a4→p9 a1 a2 a3 a4→p10 a1 a2 a3 a4→p11 a1 a2 a3 a4→P):P:=h.elim fun a1 h=>h.elim fun a2 h=>h.elim fun a3 h=>h.elim fun a4 h=>k a1 a2 a3 a4 h.1 h.2.1 h.2.2.1 h.2.2.2.1 h.2.2.2.2.1 h.2.2.2.2.2.1 h.2.2.2.2.2.2.1 h.2.2.2.2.2.2.2.1 h.2.2.2.2.2.2.2.2.1 h.2.2.2.2.2.2.2.2.2.1 h.2.2.2.2.2.2.2.2.2.2
theorem xa4_12 {α1:Sort u1} {α2:Sort u2} {α3:Sort u3} {α4:Sort u4} {p1 p2 p3 p4 p5 p6 p7 p8 p9 p10 p11 p12:α1→α2→α3→α4→Prop} {P:Prop} (h:∃a1 a2 a3 a4,p1 a1 a2 a3 a4∧p2 a1 a2 a3 a4∧p3 a1 a2 a3 a4∧p4 a1 a2 a3 a4∧p5 a1 a2 a3 a4∧p6 a1 a2 a3 a4∧p7 a1 a2 a3 a4∧p8 a1 a2 a3 a4∧p9 a1 a2 a3 a4∧p10 a1 a2 a3 a4∧p11 a1 a2 a3 a4∧p12 a1 a2 a3 a4) (k:∀a1 a2 a3 a4,p1 a1 a2 a3 a4→p2 a1 a2 a3 a4→p3 a1 a2 a3 a4→p4 a1 a2 a3 a4→p5 a1 a2 a3 a4→p6 a1 a2 a3 a4→p7 a1 a2 a3 a4→p8 a1 a2 a3 a4→p9 a1 a2 a3 a4→p10 a1 a2 a3 a4→p11 a1 a2 a3 a4→p12 a1 a2 a3 a4→P):P:=h.elim fun a1 h=>h.elim fun a2 h=>h.elim fun a3 h=>h.elim fun a4 h=>k a1 a2 a3 a4 h.1 h.2.1 h.2.2.1 h.2.2.2.1 h.2.2.2.2.1 h.2.2.2.2.2.1 h.2.2.2.2.2.2.1 h.2.2.2.2.2.2.2.1 h.2.2.2.2.2.2.2.2.1 h.2.2.2.2.2.2.2.2.2.1 h.2.2.2.2.2.2.2.2.2.2.1 h.2.2.2.2.2.2.2.2.2.2.2
theorem xa5_1 {α1:Sort u1} {α2:Sort u2} {α3:Sort u3} {α4:Sort u4} {α5:Sort u5} {p1:α1→α2→α3→α4→α5→Prop} {P:Prop} (h:∃a1 a2 a3 a4 a5,p1 a1 a2 a3 a4 a5) (k:∀a1 a2 a3 a4 a5,p1 a1 a2 a3 a4 a5→P):P:=h.elim fun a1 h=>h.elim fun a2 h=>h.elim fun a3 h=>h.elim fun a4 h=>h.elim fun a5 h=>k a1 a2 a3 a4 a5 h
theorem xa5_2 {α1:Sort u1} {α2:Sort u2} {α3:Sort u3} {α4:Sort u4} {α5:Sort u5} {p1 p2:α1→α2→α3→α4→α5→Prop} {P:Prop} (h:∃a1 a2 a3 a4 a5,p1 a1 a2 a3 a4 a5∧p2 a1 a2 a3 a4 a5) (k:∀a1 a2 a3 a4 a5,p1 a1 a2 a3 a4 a5→p2 a1 a2 a3 a4 a5→P):P:=h.elim fun a1 h=>h.elim fun a2 h=>h.elim fun a3 h=>h.elim fun a4 h=>h.elim fun a5 h=>k a1 a2 a3 a4 a5 h.1 h.2
theorem xa5_3 {α1:Sort u1} {α2:Sort u2} {α3:Sort u3} {α4:Sort u4} {α5:Sort u5} {p1 p2 p3:α1→α2→α3→α4→α5→Prop} {P:Prop} (h:∃a1 a2 a3 a4 a5,p1 a1 a2 a3 a4 a5∧p2 a1 a2 a3 a4 a5∧p3 a1 a2 a3 a4 a5) (k:∀a1 a2 a3 a4 a5,p1 a1 a2 a3 a4 a5→p2 a1 a2 a3 a4 a5→p3 a1 a2 a3 a4 a5→P):P:=h.elim fun a1 h=>h.elim fun a2 h=>h.elim fun a3 h=>h.elim fun a4 h=>h.elim fun a5 h=>k a1 a2 a3 a4 a5 h.1 h.2.1 h.2.2
theorem xa5_4 {α1:Sort u1} {α2:Sort u2} {α3:Sort u3} {α4:Sort u4} {α5:Sort u5} {p1 p2 p3 p4:α1→α2→α3→α4→α5→Prop} {P:Prop} (h:∃a1 a2 a3 a4 a5,p1 a1 a2 a3 a4 a5∧p2 a1 a2 a3 a4 a5∧p3 a1 a2 a3 a4 a5∧p4 a1 a2 a3 a4 a5) (k:∀a1 a2 a3 a4 a5,p1 a1 a2 a3 a4 a5→p2 a1 a2 a3 a4 a5→p3 a1 a2 a3 a4 a5→p4 a1 a2 a3 a4 a5→P):P:=h.elim fun a1 h=>h.elim fun a2 h=>h.elim fun a3 h=>h.elim fun a4 h=>h.elim fun a5 h=>k a1 a2 a3 a4 a5 h.1 h.2.1 h.2.2.1 h.2.2.2
theorem xa5_5 {α1:Sort u1} {α2:Sort u2} {α3:Sort u3} {α4:Sort u4} {α5:Sort u5} {p1 p2 p3 p4 p5:α1→α2→α3→α4→α5→Prop} {P:Prop} (h:∃a1 a2 a3 a4 a5,p1 a1 a2 a3 a4 a5∧p2 a1 a2 a3 a4 a5∧p3 a1 a2 a3 a4 a5∧p4 a1 a2 a3 a4 a5∧p5 a1 a2 a3 a4 a5) (k:∀a1 a2 a3 a4 a5,p1 a1 a2 a3 a4 a5→p2 a1 a2 a3 a4 a5→p3 a1 a2 a3 a4 a5→p4 a1 a2 a3 a4 a5→p5 a1 a2 a3 a4 a5→P):P:=h.elim fun a1 h=>h.elim fun a2 h=>h.elim fun a3 h=>h.elim fun a4 h=>h.elim fun a5 h=>k a1 a2 a3 a4 a5 h.1 h.2.1 h.2.2.1 h.2.2.2.1 h.2.2.2.2
theorem xa5_6 {α1:Sort u1} {α2:Sort u2} {α3:Sort u3} {α4:Sort u4} {α5:Sort u5} {p1 p2 p3 p4 p5 p6:α1→α2→α3→α4→α5→Prop} {P:Prop} (h:∃a1 a2 a3 a4 a5,p1 a1 a2 a3 a4 a5∧p2 a1 a2 a3 a4 a5∧p3 a1 a2 a3 a4 a5∧p4 a1 a2 a3 a4 a5∧p5 a1 a2 a3 a4 a5∧p6 a1 a2 a3 a4 a5) (k:∀a1 a2 a3 a4 a5,p1 a1 a2 a3 a4 a5→p2 a1 a2 a3 a4 a5→p3 a1 a2 a3 a4 a5→p4 a1 a2 a3 a4 a5→p5 a1 a2 a3 a4 a5→p6 a1 a2 a3 a4 a5→P):P:=h.elim fun a1 h=>h.elim fun a2 h=>h.elim fun a3 h=>h.elim fun a4 h=>h.elim fun a5 h=>k a1 a2 a3 a4 a5 h.1 h.2.1 h.2.2.1 h.2.2.2.1 h.2.2.2.2.1 h.2.2.2.2.2
theorem xa5_7 {α1:Sort u1} {α2:Sort u2} {α3:Sort u3} {α4:Sort u4} {α5:Sort u5} {p1 p2 p3 p4 p5 p6 p7:α1→α2→α3→α4→α5→Prop} {P:Prop} (h:∃a1 a2 a3 a4 a5,p1 a1 a2 a3 a4 a5∧p2 a1 a2 a3 a4 a5∧p3 a1 a2 a3 a4 a5∧p4 a1 a2 a3 a4 a5∧p5 a1 a2 a3 a4 a5∧p6 a1 a2 a3 a4 a5∧p7 a1 a2 a3 a4 a5) (k:∀a1 a2 a3 a4 a5,p1 a1 a2 a3 a4 a5→p2 a1 a2 a3 a4 a5→p3 a1 a2 a3 a4 a5→p4 a1 a2 a3 a4 a5→p5 a1 a2 a3 a4 a5→p6 a1 a2 a3 a4 a5→p7 a1 a2 a3 a4 a5→P):P:=h.elim fun a1 h=>h.elim fun a2 h=>h.elim fun a3 h=>h.elim fun a4 h=>h.elim fun a5 h=>k a1 a2 a3 a4 a5 h.1 h.2.1 h.2.2.1 h.2.2.2.1 h.2.2.2.2.1 h.2.2.2.2.2.1 h.2.2.2.2.2.2
theorem xa5_8 {α1:Sort u1} {α2:Sort u2} {α3:Sort u3} {α4:Sort u4} {α5:Sort u5} {p1 p2 p3 p4 p5 p6 p7 p8:α1→α2→α3→α4→α5→Prop} {P:Prop} (h:∃a1 a2 a3 a4 a5,p1 a1 a2 a3 a4 a5∧p2 a1 a2 a3 a4 a5∧p3 a1 a2 a3 a4 a5∧p4 a1 a2 a3 a4 a5∧p5 a1 a2 a3 a4 a5∧p6 a1 a2 a3 a4 a5∧p7 a1 a2 a3 a4 a5∧p8 a1 a2 a3 a4 a5) (k:∀a1 a2 a3 a4 a5,p1 a1 a2 a3 a4 a5→p2 a1 a2 a3 a4 a5→p3 a1 a2 a3 a4 a5→p4 a1 a2 a3 a4 a5→p5 a1 a2 a3 a4 a5→p6 a1 a2 a3 a4 a5→p7 a1 a2 a3 a4 a5→p8 a1 a2 a3 a4 a5→P):P:=h.elim fun a1 h=>h.elim fun a2 h=>h.elim fun a3 h=>h.elim fun a4 h=>h.elim fun a5 h=>k a1 a2 a3 a4 a5 h.1 h.2.1 h.2.2.1 h.2.2.2.1 h.2.2.2.2.1 h.2.2.2.2.2.1 h.2.2.2.2.2.2.1 h.2.2.2.2.2.2.2
theorem xa5_9 {α1:Sort u1} {α2:Sort u2} {α3:Sort u3} {α4:Sort u4} {α5:Sort u5} {p1 p2 p3 p4 p5 p6 p7 p8 p9:α1→α2→α3→α4→α5→Prop} {P:Prop} (h:∃a1 a2 a3 a4 a5,p1 a1 a2 a3 a4 a5∧p2 a1 a2 a3 a4 a5∧p3 a1 a2 a3 a4 a5∧p4 a1 a2 a3 a4 a5∧p5 a1 a2 a3 a4 a5∧p6 a1 a2 a3 a4 a5∧p7 a1 a2 a3 a4 a5∧p8 a1 a2 a3 a4 a5∧p9 a1 a2 a3 a4 a5) (k:∀a1 a2 a3 a4 a5,p1 a1 a2 a3 a4 a5→p2 a1 a2 a3 a4 a5→p3 a1 a2 a3 a4 a5→p4 a1 a2 a3 a4 a5→p5 a1 a2 a3 a4 a5→p6 a1 a2 a3 a4 a5→p7 a1 a2 a3 a4 a5→p8 a1 a2 a3 a4 a5→p9 a1 a2 a3 a4 a5→P):P:=h.elim fun a1 h=>h.elim fun a2 h=>h.elim fun a3 h=>h.elim fun a4 h=>h.elim fun a5 h=>k a1 a2 a3 a4 a5 h.1 h.2.1 h.2.2.1 h.2.2.2.1 h.2.2.2.2.1 h.2.2.2.2.2.1 h.2.2.2.2.2.2.1 h.2.2.2.2.2.2.2.1 h.2.2.2.2.2.2.2.2
theorem xa5_10 {α1:Sort u1} {α2:Sort u2} {α3:Sort u3} {α4:Sort u4} {α5:Sort u5} {p1 p2 p3 p4 p5 p6 p7 p8 p9 p10:α1→α2→α3→α4→α5→Prop} {P:Prop} (h:∃a1 a2 a3 a4 a5,p1 a1 a2 a3 a4 a5∧p2 a1 a2 a3 a4 a5∧p3 a1 a2 a3 a4 a5∧p4 a1 a2 a3 a4 a5∧p5 a1 a2 a3 a4 a5∧p6 a1 a2 a3 a4 a5∧p7 a1 a2 a3 a4 a5∧p8 a1 a2 a3 a4 a5∧p9 a1 a2 a3 a4 a5∧p10 a1 a2 a3 a4 a5) (k:∀a1 a2 a3 a4 a5,p1 a1 a2 a3 a4 a5→p2 a1 a2 a3 a4 a5→p3 a1 a2 a3 a4 a5→p4 a1 a2 a3 a4 a5→p5 a1 a2 a3 a4 a5→p6 a1 a2 a3 a4 a5→p7 a1 a2 a3 a4 a5→p8 a1 a2 a3 a4 a5→p9 a1 a2 a3 a4 a5→p10 a1 a2 a3 a4 a5→P):P:=h.elim fun a1 h=>h.elim fun a2 h=>h.elim fun a3 h=>h.elim fun a4 h=>h.elim fun a5 h=>k a1 a2 a3 a4 a5 h.1 h.2.1 h.2.2.1 h.2.2.2.1 h.2.2.2.2.1 h.2.2.2.2.2.1 h.2.2.2.2.2.2.1 h.2.2.2.2.2.2.2.1 h.2.2.2.2.2.2.2.2.1 h.2.2.2.2.2.2.2.2.2
theorem xa5_11 {α1:Sort u1} {α2:Sort u2} {α3:Sort u3} {α4:Sort u4} {α5:Sort u5} {p1 p2 p3 p4 p5 p6 p7 p8 p9 p10 p11:α1→α2→α3→α4→α5→Prop} {P:Prop} (h:∃a1 a2 a3 a4 a5,p1 a1 a2 a3 a4 a5∧p2 a1 a2 a3 a4 a5∧p3 a1 a2 a3 a4 a5∧p4 a1 a2 a3 a4 a5∧p5 a1 a2 a3 a4 a5∧p6 a1 a2 a3 a4 a5∧p7 a1 a2 a3 a4 a5∧p8 a1 a2 a3 a4 a5∧p9 a1 a2 a3 a4 a5∧p10 a1 a2 a3 a4 a5∧p11 a1 a2 a3 a4 a5) (k:∀a1 a2 a3 a4 a5,p1 a1 a2 a3 a4 a5→p2 a1 a2 a3 a4 a5→p3 a1 a2 a3 a4 a5→p4 a1 a2 a3 a4 a5→p5 a1 a2 a3 a4 a5→p6 a1 a2 a3 a4 a5→p7 a1 a2 a3 a4 a5→p8 a1 a2 a3 a4 a5→p9 a1 a2 a3 a4 a5→p10 a1 a2 a3 a4 a5→p11 a1 a2 a3 a4 a5→P):P:=h.elim fun a1 h=>h.elim fun a2 h=>h.elim fun a3 h=>h.elim fun a4 h=>h.elim fun a5 h=>k a1 a2 a3 a4 a5 h.1 h.2.1 h.2.2.1 h.2.2.2.1 h.2.2.2.2.1 h.2.2.2.2.2.1 h.2.2.2.2.2.2.1 h.2.2.2.2.2.2.2.1 h.2.2.2.2.2.2.2.2.1 h.2.2.2.2.2.2.2.2.2.1 h.2.2.2.2.2.2.2.2.2.2
theorem xa6_1 {α1:Sort u1} {α2:Sort u2} {α3:Sort u3} {α4:Sort u4} {α5:Sort u5} {α6:Sort u6} {p1:α1→α2→α3→α4→α5→α6→Prop} {P:Prop} (h:∃a1 a2 a3 a4 a5 a6,p1 a1 a2 a3 a4 a5 a6) (k:∀a1 a2 a3 a4 a5 a6,p1 a1 a2 a3 a4 a5 a6→P):P:=h.elim fun a1 h=>h.elim fun a2 h=>h.elim fun a3 h=>h.elim fun a4 h=>h.elim fun a5 h=>h.elim fun a6 h=>k a1 a2 a3 a4 a5 a6 h
theorem xa6_2 {α1:Sort u1} {α2:Sort u2} {α3:Sort u3} {α4:Sort u4} {α5:Sort u5} {α6:Sort u6} {p1 p2:α1→α2→α3→α4→α5→α6→Prop} {P:Prop} (h:∃a1 a2 a3 a4 a5 a6,p1 a1 a2 a3 a4 a5 a6∧p2 a1 a2 a3 a4 a5 a6) (k:∀a1 a2 a3 a4 a5 a6,p1 a1 a2 a3 a4 a5 a6→p2 a1 a2 a3 a4 a5 a6→P):P:=h.elim fun a1 h=>h.elim fun a2 h=>h.elim fun a3 h=>h.elim fun a4 h=>h.elim fun a5 h=>h.elim fun a6 h=>k a1 a2 a3 a4 a5 a6 h.1 h.2
theorem xa6_3 {α1:Sort u1} {α2:Sort u2} {α3:Sort u3} {α4:Sort u4} {α5:Sort u5} {α6:Sort u6} {p1 p2 p3:α1→α2→α3→α4→α5→α6→Prop} {P:Prop} (h:∃a1 a2 a3 a4 a5 a6,p1 a1 a2 a3 a4 a5 a6∧p2 a1 a2 a3 a4 a5 a6∧p3 a1 a2 a3 a4 a5 a6) (k:∀a1 a2 a3 a4 a5 a6,p1 a1 a2 a3 a4 a5 a6→p2 a1 a2 a3 a4 a5 a6→p3 a1 a2 a3 a4 a5 a6→P):P:=h.elim fun a1 h=>h.elim fun a2 h=>h.elim fun a3 h=>h.elim fun a4 h=>h.elim fun a5 h=>h.elim fun a6 h=>k a1 a2 a3 a4 a5 a6 h.1 h.2.1 h.2.2
theorem xa6_4 {α1:Sort u1} {α2:Sort u2} {α3:Sort u3} {α4:Sort u4} {α5:Sort u5} {α6:Sort u6} {p1 p2 p3 p4:α1→α2→α3→α4→α5→α6→Prop} {P:Prop} (h:∃a1 a2 a3 a4 a5 a6,p1 a1 a2 a3 a4 a5 a6∧p2 a1 a2 a3 a4 a5 a6∧p3 a1 a2 a3 a4 a5 a6∧p4 a1 a2 a3 a4 a5 a6) (k:∀a1 a2 a3 a4 a5 a6,p1 a1 a2 a3 a4 a5 a6→p2 a1 a2 a3 a4 a5 a6→p3 a1 a2 a3 a4 a5 a6→p4 a1 a2 a3 a4 a5 a6→P):P:=h.elim fun a1 h=>h.elim fun a2 h=>h.elim fun a3 h=>h.elim fun a4 h=>h.elim fun a5 h=>h.elim fun a6 h=>k a1 a2 a3 a4 a5 a6 h.1 h.2.1 h.2.2.1 h.2.2.2
theorem xa6_5 {α1:Sort u1} {α2:Sort u2} {α3:Sort u3} {α4:Sort u4} {α5:Sort u5} {α6:Sort u6} {p1 p2 p3 p4 p5:α1→α2→α3→α4→α5→α6→Prop} {P:Prop} (h:∃a1 a2 a3 a4 a5 a6,p1 a1 a2 a3 a4 a5 a6∧p2 a1 a2 a3 a4 a5 a6∧p3 a1 a2 a3 a4 a5 a6∧p4 a1 a2 a3 a4 a5 a6∧p5 a1 a2 a3 a4 a5 a6) (k:∀a1 a2 a3 a4 a5 a6,p1 a1 a2 a3 a4 a5 a6→p2 a1 a2 a3 a4 a5 a6→p3 a1 a2 a3 a4 a5 a6→p4 a1 a2 a3 a4 a5 a6→p5 a1 a2 a3 a4 a5 a6→P):P:=h.elim fun a1 h=>h.elim fun a2 h=>h.elim fun a3 h=>h.elim fun a4 h=>h.elim fun a5 h=>h.elim fun a6 h=>k a1 a2 a3 a4 a5 a6 h.1 h.2.1 h.2.2.1 h.2.2.2.1 h.2.2.2.2
theorem xa6_6 {α1:Sort u1} {α2:Sort u2} {α3:Sort u3} {α4:Sort u4} {α5:Sort u5} {α6:Sort u6} {p1 p2 p3 p4 p5 p6:α1→α2→α3→α4→α5→α6→Prop} {P:Prop} (h:∃a1 a2 a3 a4 a5 a6,p1 a1 a2 a3 a4 a5 a6∧p2 a1 a2 a3 a4 a5 a6∧p3 a1 a2 a3 a4 a5 a6∧p4 a1 a2 a3 a4 a5 a6∧p5 a1 a2 a3 a4 a5 a6∧p6 a1 a2 a3 a4 a5 a6) (k:∀a1 a2 a3 a4 a5 a6,p1 a1 a2 a3 a4 a5 a6→p2 a1 a2 a3 a4 a5 a6→p3 a1 a2 a3 a4 a5 a6→p4 a1 a2 a3 a4 a5 a6→p5 a1 a2 a3 a4 a5 a6→p6 a1 a2 a3 a4 a5 a6→P):P:=h.elim fun a1 h=>h.elim fun a2 h=>h.elim fun a3 h=>h.elim fun a4 h=>h.elim fun a5 h=>h.elim fun a6 h=>k a1 a2 a3 a4 a5 a6 h.1 h.2.1 h.2.2.1 h.2.2.2.1 h.2.2.2.2.1 h.2.2.2.2.2
theorem xa6_7 {α1:Sort u1} {α2:Sort u2} {α3:Sort u3} {α4:Sort u4} {α5:Sort u5} {α6:Sort u6} {p1 p2 p3 p4 p5 p6 p7:α1→α2→α3→α4→α5→α6→Prop} {P:Prop} (h:∃a1 a2 a3 a4 a5 a6,p1 a1 a2 a3 a4 a5 a6∧p2 a1 a2 a3 a4 a5 a6∧p3 a1 a2 a3 a4 a5 a6∧p4 a1 a2 a3 a4 a5 a6∧p5 a1 a2 a3 a4 a5 a6∧p6 a1 a2 a3 a4 a5 a6∧p7 a1 a2 a3 a4 a5 a6) (k:∀a1 a2 a3 a4 a5 a6,p1 a1 a2 a3 a4 a5 a6→p2 a1 a2 a3 a4 a5 a6→p3 a1 a2 a3 a4 a5 a6→p4 a1 a2 a3 a4 a5 a6→p5 a1 a2 a3 a4 a5 a6→p6 a1 a2 a3 a4 a5 a6→p7 a1 a2 a3 a4 a5 a6→P):P:=h.elim fun a1 h=>h.elim fun a2 h=>h.elim fun a3 h=>h.elim fun a4 h=>h.elim fun a5 h=>h.elim fun a6 h=>k a1 a2 a3 a4 a5 a6 h.1 h.2.1 h.2.2.1 h.2.2.2.1 h.2.2.2.2.1 h.2.2.2.2.2.1 h.2.2.2.2.2.2
theorem xa6_8 {α1:Sort u1} {α2:Sort u2} {α3:Sort u3} {α4:Sort u4} {α5:Sort u5} {α6:Sort u6} {p1 p2 p3 p4 p5 p6 p7 p8:α1→α2→α3→α4→α5→α6→Prop} {P:Prop} (h:∃a1 a2 a3 a4 a5 a6,p1 a1 a2 a3 a4 a5 a6∧p2 a1 a2 a3 a4 a5 a6∧p3 a1 a2 a3 a4 a5 a6∧p4 a1 a2 a3 a4 a5 a6∧p5 a1 a2 a3 a4 a5 a6∧p6 a1 a2 a3 a4 a5 a6∧p7 a1 a2 a3 a4 a5 a6∧p8 a1 a2 a3 a4 a5 a6) (k:∀a1 a2 a3 a4 a5 a6,p1 a1 a2 a3 a4 a5 a6→p2 a1 a2 a3 a4 a5 a6→p3 a1 a2 a3 a4 a5 a6→p4 a1 a2 a3 a4 a5 a6→p5 a1 a2 a3 a4 a5 a6→p6 a1 a2 a3 a4 a5 a6→p7 a1 a2 a3 a4 a5 a6→p8 a1 a2 a3 a4 a5 a6→P):P:=h.elim fun a1 h=>h.elim fun a2 h=>h.elim fun a3 h=>h.elim fun a4 h=>h.elim fun a5 h=>h.elim fun a6 h=>k a1 a2 a3 a4 a5 a6 h.1 h.2.1 h.2.2.1 h.2.2.2.1 h.2.2.2.2.1 h.2.2.2.2.2.1 h.2.2.2.2.2.2.1 h.2.2.2.2.2.2.2
theorem xa6_9 {α1:Sort u1} {α2:Sort u2} {α3:Sort u3} {α4:Sort u4} {α5:Sort u5} {α6:Sort u6} {p1 p2 p3 p4 p5 p6 p7 p8 p9:α1→α2→α3→α4→α5→α6→Prop} {P:Prop} (h:∃a1 a2 a3 a4 a5 a6,p1 a1 a2 a3 a4 a5 a6∧p2 a1 a2 a3 a4 a5 a6∧p3 a1 a2 a3 a4 a5 a6∧p4 a1 a2 a3 a4 a5 a6∧p5 a1 a2 a3 a4 a5 a6∧p6 a1 a2 a3 a4 a5 a6∧p7 a1 a2 a3 a4 a5 a6∧p8 a1 a2 a3 a4 a5 a6∧p9 a1 a2 a3 a4 a5 a6) (k:∀a1 a2 a3 a4 a5 a6,p1 a1 a2 a3 a4 a5 a6→p2 a1 a2 a3 a4 a5 a6→p3 a1 a2 a3 a4 a5 a6→p4 a1 a2 a3 a4 a5 a6→p5 a1 a2 a3 a4 a5 a6→p6 a1 a2 a3 a4 a5 a6→p7 a1 a2 a3 a4 a5 a6→p8 a1 a2 a3 a4 a5 a6→p9 a1 a2 a3 a4 a5 a6→P):P:=h.elim fun a1 h=>h.elim fun a2 h=>h.elim fun a3 h=>h.elim fun a4 h=>h.elim fun a5 h=>h.elim fun a6 h=>k a1 a2 a3 a4 a5 a6 h.1 h.2.1 h.2.2.1 h.2.2.2.1 h.2.2.2.2.1 h.2.2.2.2.2.1 h.2.2.2.2.2.2.1 h.2.2.2.2.2.2.2.1 h.2.2.2.2.2.2.2.2
theorem xa6_10 {α1:Sort u1} {α2:Sort u2} {α3:Sort u3} {α4:Sort u4} {α5:Sort u5} {α6:Sort u6} {p1 p2 p3 p4 p5 p6 p7 p8 p9 p10:α1→α2→α3→α4→α5→α6→Prop} {P:Prop} (h:∃a1 a2 a3 a4 a5 a6,p1 a1 a2 a3 a4 a5 a6∧p2 a1 a2 a3 a4 a5 a6∧p3 a1 a2 a3 a4 a5 a6∧p4 a1 a2 a3 a4 a5 a6∧p5 a1 a2 a3 a4 a5 a6∧p6 a1 a2 a3 a4 a5 a6∧p7 a1 a2 a3 a4 a5 a6∧p8 a1 a2 a3 a4 a5 a6∧p9 a1 a2 a3 a4 a5 a6∧p10 a1 a2 a3 a4 a5 a6) (k:∀a1 a2 a3 a4 a5 a6,p1 a1 a2 a3 a4 a5 a6→p2 a1 a2 a3 a4 a5 a6→p3 a1 a2 a3 a4 a5 a6→p4 a1 a2 a3 a4 a5 a6→p5 a1 a2 a3 a4 a5 a6→p6 a1 a2 a3 a4 a5 a6→p7 a1 a2 a3 a4 a5 a6→p8 a1 a2 a3 a4 a5 a6→p9 a1 a2 a3 a4 a5 a6→p10 a1 a2 a3 a4 a5 a6→P):P:=h.elim fun a1 h=>h.elim fun a2 h=>h.elim fun a3 h=>h.elim fun a4 h=>h.elim fun a5 h=>h.elim fun a6 h=>k a1 a2 a3 a4 a5 a6 h.1 h.2.1 h.2.2.1 h.2.2.2.1 h.2.2.2.2.1 h.2.2.2.2.2.1 h.2.2.2.2.2.2.1 h.2.2.2.2.2.2.2.1 h.2.2.2.2.2.2.2.2.1 h.2.2.2.2.2.2.2.2.2
theorem xa7_1 {α1:Sort u1} {α2:Sort u2} {α3:Sort u3} {α4:Sort u4} {α5:Sort u5} {α6:Sort u6} {α7:Sort u7} {p1:α1→α2→α3→α4→α5→α6→α7→Prop} {P:Prop} (h:∃a1 a2 a3 a4 a5 a6 a7,p1 a1 a2 a3 a4 a5 a6 a7) (k:∀a1 a2 a3 a4 a5 a6 a7,p1 a1 a2 a3 a4 a5 a6 a7→P):P:=h.elim fun a1 h=>h.elim fun a2 h=>h.elim fun a3 h=>h.elim fun a4 h=>h.elim fun a5 h=>h.elim fun a6 h=>h.elim fun a7 h=>k a1 a2 a3 a4 a5 a6 a7 h
theorem xa7_2 {α1:Sort u1} {α2:Sort u2} {α3:Sort u3} {α4:Sort u4} {α5:Sort u5} {α6:Sort u6} {α7:Sort u7} {p1 p2:α1→α2→α3→α4→α5→α6→α7→Prop} {P:Prop} (h:∃a1 a2 a3 a4 a5 a6 a7,p1 a1 a2 a3 a4 a5 a6 a7∧p2 a1 a2 a3 a4 a5 a6 a7) (k:∀a1 a2 a3 a4 a5 a6 a7,p1 a1 a2 a3 a4 a5 a6 a7→p2 a1 a2 a3 a4 a5 a6 a7→P):P:=h.elim fun a1 h=>h.elim fun a2 h=>h.elim fun a3 h=>h.elim fun a4 h=>h.elim fun a5 h=>h.elim fun a6 h=>h.elim fun a7 h=>k a1 a2 a3 a4 a5 a6 a7 h.1 h.2
theorem xa7_3 {α1:Sort u1} {α2:Sort u2} {α3:Sort u3} {α4:Sort u4} {α5:Sort u5} {α6:Sort u6} {α7:Sort u7} {p1 p2 p3:α1→α2→α3→α4→α5→α6→α7→Prop} {P:Prop} (h:∃a1 a2 a3 a4 a5 a6 a7,p1 a1 a2 a3 a4 a5 a6 a7∧p2 a1 a2 a3 a4 a5 a6 a7∧p3 a1 a2 a3 a4 a5 a6 a7) (k:∀a1 a2 a3 a4 a5 a6 a7,p1 a1 a2 a3 a4 a5 a6 a7→p2 a1 a2 a3 a4 a5 a6 a7→p3 a1 a2 a3 a4 a5 a6 a7→P):P:=h.elim fun a1 h=>h.elim fun a2 h=>h.elim fun a3 h=>h.elim fun a4 h=>h.elim fun a5 h=>h.elim fun a6 h=>h.elim fun a7 h=>k a1 a2 a3 a4 a5 a6 a7 h.1 h.2.1 h.2.2
theorem xa7_4 {α1:Sort u1} {α2:Sort u2} {α3:Sort u3} {α4:Sort u4} {α5:Sort u5} {α6:Sort u6} {α7:Sort u7} {p1 p2 p3 p4:α1→α2→α3→α4→α5→α6→α7→Prop} {P:Prop} (h:∃a1 a2 a3 a4 a5 a6 a7,p1 a1 a2 a3 a4 a5 a6 a7∧p2 a1 a2 a3 a4 a5 a6 a7∧p3 a1 a2 a3 a4 a5 a6 a7∧p4 a1 a2 a3 a4 a5 a6 a7) (k:∀a1 a2 a3 a4 a5 a6 a7,p1 a1 a2 a3 a4 a5 a6 a7→p2 a1 a2 a3 a4 a5 a6 a7→p3 a1 a2 a3 a4 a5 a6 a7→p4 a1 a2 a3 a4 a5 a6 a7→P):P:=h.elim fun a1 h=>h.elim fun a2 h=>h.elim fun a3 h=>h.elim fun a4 h=>h.elim fun a5 h=>h.elim fun a6 h=>h.elim fun a7 h=>k a1 a2 a3 a4 a5 a6 a7 h.1 h.2.1 h.2.2.1 h.2.2.2
theorem xa7_5 {α1:Sort u1} {α2:Sort u2} {α3:Sort u3} {α4:Sort u4} {α5:Sort u5} {α6:Sort u6} {α7:Sort u7} {p1 p2 p3 p4 p5:α1→α2→α3→α4→α5→α6→α7→Prop} {P:Prop} (h:∃a1 a2 a3 a4 a5 a6 a7,p1 a1 a2 a3 a4 a5 a6 a7∧p2 a1 a2 a3 a4 a5 a6 a7∧p3 a1 a2 a3 a4 a5 a6 a7∧p4 a1 a2 a3 a4 a5 a6 a7∧p5 a1 a2 a3 a4 a5 a6 a7) (k:∀a1 a2 a3 a4 a5 a6 a7,p1 a1 a2 a3 a4 a5 a6 a7→p2 a1 a2 a3 a4 a5 a6 a7→p3 a1 a2 a3 a4 a5 a6 a7→p4 a1 a2 a3 a4 a5 a6 a7→p5 a1 a2 a3 a4 a5 a6 a7→P):P:=h.elim fun a1 h=>h.elim fun a2 h=>h.elim fun a3 h=>h.elim fun a4 h=>h.elim fun a5 h=>h.elim fun a6 h=>h.elim fun a7 h=>k a1 a2 a3 a4 a5 a6 a7 h.1 h.2.1 h.2.2.1 h.2.2.2.1 h.2.2.2.2
theorem xa7_6 {α1:Sort u1} {α2:Sort u2} {α3:Sort u3} {α4:Sort u4} {α5:Sort u5} {α6:Sort u6} {α7:Sort u7} {p1 p2 p3 p4 p5 p6:α1→α2→α3→α4→α5→α6→α7→Prop} {P:Prop} (h:∃a1 a2 a3 a4 a5 a6 a7,p1 a1 a2 a3 a4 a5 a6 a7∧p2 a1 a2 a3 a4 a5 a6 a7∧p3 a1 a2 a3 a4 a5 a6 a7∧p4 a1 a2 a3 a4 a5 a6 a7∧p5 a1 a2 a3 a4 a5 a6 a7∧p6 a1 a2 a3 a4 a5 a6 a7) (k:∀a1 a2 a3 a4 a5 a6 a7,p1 a1 a2 a3 a4 a5 a6 a7→p2 a1 a2 a3 a4 a5 a6 a7→p3 a1 a2 a3 a4 a5 a6 a7→p4 a1 a2 a3 a4 a5 a6 a7→p5 a1 a2 a3 a4 a5 a6 a7→p6 a1 a2 a3 a4 a5 a6 a7→P):P:=h.elim fun a1 h=>h.elim fun a2 h=>h.elim fun a3 h=>h.elim fun a4 h=>h.elim fun a5 h=>h.elim fun a6 h=>h.elim fun a7 h=>k a1 a2 a3 a4 a5 a6 a7 h.1 h.2.1 h.2.2.1 h.2.2.2.1 h.2.2.2.2.1 h.2.2.2.2.2
theorem xa7_7 {α1:Sort u1} {α2:Sort u2} {α3:Sort u3} {α4:Sort u4} {α5:Sort u5} {α6:Sort u6} {α7:Sort u7} {p1 p2 p3 p4 p5 p6 p7:α1→α2→α3→α4→α5→α6→α7→Prop} {P:Prop} (h:∃a1 a2 a3 a4 a5 a6 a7,p1 a1 a2 a3 a4 a5 a6 a7∧p2 a1 a2 a3 a4 a5 a6 a7∧p3 a1 a2 a3 a4 a5 a6 a7∧p4 a1 a2 a3 a4 a5 a6 a7∧p5 a1 a2 a3 a4 a5 a6 a7∧p6 a1 a2 a3 a4 a5 a6 a7∧p7 a1 a2 a3 a4 a5 a6 a7) (k:∀a1 a2 a3 a4 a5 a6 a7,p1 a1 a2 a3 a4 a5 a6 a7→p2 a1 a2 a3 a4 a5 a6 a7→p3 a1 a2 a3 a4 a5 a6 a7→p4 a1 a2 a3 a4 a5 a6 a7→p5 a1 a2 a3 a4 a5 a6 a7→p6 a1 a2 a3 a4 a5 a6 a7→p7 a1 a2 a3 a4 a5 a6 a7→P):P:=h.elim fun a1 h=>h.elim fun a2 h=>h.elim fun a3 h=>h.elim fun a4 h=>h.elim fun a5 h=>h.elim fun a6 h=>h.elim fun a7 h=>k a1 a2 a3 a4 a5 a6 a7 h.1 h.2.1 h.2.2.1 h.2.2.2.1 h.2.2.2.2.1 h.2.2.2.2.2.1 h.2.2.2.2.2.2
theorem xa7_8 {α1:Sort u1} {α2:Sort u2} {α3:Sort u3} {α4:Sort u4} {α5:Sort u5} {α6:Sort u6} {α7:Sort u7} {p1 p2 p3 p4 p5 p6 p7 p8:α1→α2→α3→α4→α5→α6→α7→Prop} {P:Prop} (h:∃a1 a2 a3 a4 a5 a6 a7,p1 a1 a2 a3 a4 a5 a6 a7∧p2 a1 a2 a3 a4 a5 a6 a7∧p3 a1 a2 a3 a4 a5 a6 a7∧p4 a1 a2 a3 a4 a5 a6 a7∧p5 a1 a2 a3 a4 a5 a6 a7∧p6 a1 a2 a3 a4 a5 a6 a7∧p7 a1 a2 a3 a4 a5 a6 a7∧p8 a1 a2 a3 a4 a5 a6 a7) (k:∀a1 a2 a3 a4 a5 a6 a7,p1 a1 a2 a3 a4 a5 a6 a7→p2 a1 a2 a3 a4 a5 a6 a7→p3 a1 a2 a3 a4 a5 a6 a7→p4 a1 a2 a3 a4 a5 a6 a7→p5 a1 a2 a3 a4 a5 a6 a7→p6 a1 a2 a3 a4 a5 a6 a7→p7 a1 a2 a3 a4 a5 a6 a7→p8 a1 a2 a3 a4 a5 a6 a7→P):P:=h.elim fun a1 h=>h.elim fun a2 h=>h.elim fun a3 h=>h.elim fun a4 h=>h.elim fun a5 h=>h.elim fun a6 h=>h.elim fun a7 h=>k a1 a2 a3 a4 a5 a6 a7 h.1 h.2.1 h.2.2.1 h.2.2.2.1 h.2.2.2.2.1 h.2.2.2.2.2.1 h.2.2.2.2.2.2.1 h.2.2.2.2.2.2.2
theorem xa7_9 {α1:Sort u1} {α2:Sort u2} {α3:Sort u3} {α4:Sort u4} {α5:Sort u5} {α6:Sort u6} {α7:Sort u7} {p1 p2 p3 p4 p5 p6 p7 p8 p9:α1→α2→α3→α4→α5→α6→α7→Prop} {P:Prop} (h:∃a1 a2 a3 a4 a5 a6 a7,p1 a1 a2 a3 a4 a5 a6 a7∧p2 a1 a2 a3 a4 a5 a6 a7∧p3 a1 a2 a3 a4 a5 a6 a7∧p4 a1 a2 a3 a4 a5 a6 a7∧p5 a1 a2 a3 a4 a5 a6 a7∧p6 a1 a2 a3 a4 a5 a6 a7∧p7 a1 a2 a3 a4 a5 a6 a7∧p8 a1 a2 a3 a4 a5 a6 a7∧p9 a1 a2 a3 a4 a5 a6 a7) (k:∀a1 a2 a3 a4 a5 a6 a7,p1 a1 a2 a3 a4 a5 a6 a7→p2 a1 a2 a3 a4 a5 a6 a7→p3 a1 a2 a3 a4 a5 a6 a7→p4 a1 a2 a3 a4 a5 a6 a7→p5 a1 a2 a3 a4 a5 a6 a7→p6 a1 a2 a3 a4 a5 a6 a7→p7 a1 a2 a3 a4 a5 a6 a7→p8 a1 a2 a3 a4 a5 a6 a7→p9 a1 a2 a3 a4 a5 a6 a7→P):P:=h.elim fun a1 h=>h.elim fun a2 h=>h.elim fun a3 h=>h.elim fun a4 h=>h.elim fun a5 h=>h.elim fun a6 h=>h.elim fun a7 h=>k a1 a2 a3 a4 a5 a6 a7 h.1 h.2.1 h.2.2.1 h.2.2.2.1 h.2.2.2.2.1 h.2.2.2.2.2.1 h.2.2.2.2.2.2.1 h.2.2.2.2.2.2.2.1 h.2.2.2.2.2.2.2.2
theorem xa8_1 {α1:Sort u1} {α2:Sort u2} {α3:Sort u3} {α4:Sort u4} {α5:Sort u5} {α6:Sort u6} {α7:Sort u7} {α8:Sort u8} {p1:α1→α2→α3→α4→α5→α6→α7→α8→Prop} {P:Prop} (h:∃a1 a2 a3 a4 a5 a6 a7 a8,p1 a1 a2 a3 a4 a5 a6 a7 a8) (k:∀a1 a2 a3 a4 a5 a6 a7 a8,p1 a1 a2 a3 a4 a5 a6 a7 a8→P):P:=h.elim fun a1 h=>h.elim fun a2 h=>h.elim fun a3 h=>h.elim fun a4 h=>h.elim fun a5 h=>h.elim fun a6 h=>h.elim fun a7 h=>h.elim fun a8 h=>k a1 a2 a3 a4 a5 a6 a7 a8 h
theorem xa8_2 {α1:Sort u1} {α2:Sort u2} {α3:Sort u3} {α4:Sort u4} {α5:Sort u5} {α6:Sort u6} {α7:Sort u7} {α8:Sort u8} {p1 p2:α1→α2→α3→α4→α5→α6→α7→α8→Prop} {P:Prop} (h:∃a1 a2 a3 a4 a5 a6 a7 a8,p1 a1 a2 a3 a4 a5 a6 a7 a8∧p2 a1 a2 a3 a4 a5 a6 a7 a8) (k:∀a1 a2 a3 a4 a5 a6 a7 a8,p1 a1 a2 a3 a4 a5 a6 a7 a8→p2 a1 a2 a3 a4 a5 a6 a7 a8→P):P:=h.elim fun a1 h=>h.elim fun a2 h=>h.elim fun a3 h=>h.elim fun a4 h=>h.elim fun a5 h=>h.elim fun a6 h=>h.elim fun a7 h=>h.elim fun a8 h=>k a1 a2 a3 a4 a5 a6 a7 a8 h.1 h.2
theorem xa8_3 {α1:Sort u1} {α2:Sort u2} {α3:Sort u3} {α4:Sort u4} {α5:Sort u5} {α6:Sort u6} {α7:Sort u7} {α8:Sort u8} {p1 p2 p3:α1→α2→α3→α4→α5→α6→α7→α8→Prop} {P:Prop} (h:∃a1 a2 a3 a4 a5 a6 a7 a8,p1 a1 a2 a3 a4 a5 a6 a7 a8∧p2 a1 a2 a3 a4 a5 a6 a7 a8∧p3 a1 a2 a3 a4 a5 a6 a7 a8) (k:∀a1 a2 a3 a4 a5 a6 a7 a8,p1 a1 a2 a3 a4 a5 a6 a7 a8→p2 a1 a2 a3 a4 a5 a6 a7 a8→p3 a1 a2 a3 a4 a5 a6 a7 a8→P):P:=h.elim fun a1 h=>h.elim fun a2 h=>h.elim fun a3 h=>h.elim fun a4 h=>h.elim fun a5 h=>h.elim fun a6 h=>h.elim fun a7 h=>h.elim fun a8 h=>k a1 a2 a3 a4 a5 a6 a7 a8 h.1 h.2.1 h.2.2
theorem xa8_4 {α1:Sort u1} {α2:Sort u2} {α3:Sort u3} {α4:Sort u4} {α5:Sort u5} {α6:Sort u6} {α7:Sort u7} {α8:Sort u8} {p1 p2 p3 p4:α1→α2→α3→α4→α5→α6→α7→α8→Prop} {P:Prop} (h:∃a1 a2 a3 a4 a5 a6 a7 a8,p1 a1 a2 a3 a4 a5 a6 a7 a8∧p2 a1 a2 a3 a4 a5 a6 a7 a8∧p3 a1 a2 a3 a4 a5 a6 a7 a8∧p4 a1 a2 a3 a4 a5 a6 a7 a8) (k:∀a1 a2 a3 a4 a5 a6 a7 a8,p1 a1 a2 a3 a4 a5 a6 a7 a8→p2 a1 a2 a3 a4 a5 a6 a7 a8→p3 a1 a2 a3 a4 a5 a6 a7 a8→p4 a1 a2 a3 a4 a5 a6 a7 a8→P):P:=h.elim fun a1 h=>h.elim fun a2 h=>h.elim fun a3 h=>h.elim fun a4 h=>h.elim fun a5 h=>h.elim fun a6 h=>h.elim fun a7 h=>h.elim fun a8 h=>k a1 a2 a3 a4 a5 a6 a7 a8 h.1 h.2.1 h.2.2.1 h.2.2.2
theorem xa8_5 {α1:Sort u1} {α2:Sort u2} {α3:Sort u3} {α4:Sort u4} {α5:Sort u5} {α6:Sort u6} {α7:Sort u7} {α8:Sort u8} {p1 p2 p3 p4 p5:α1→α2→α3→α4→α5→α6→α7→α8→Prop} {P:Prop} (h:∃a1 a2 a3 a4 a5 a6 a7 a8,p1 a1 a2 a3 a4 a5 a6 a7 a8∧p2 a1 a2 a3 a4 a5 a6 a7 a8∧p3 a1 a2 a3 a4 a5 a6 a7 a8∧p4 a1 a2 a3 a4 a5 a6 a7 a8∧p5 a1 a2 a3 a4 a5 a6 a7 a8) (k:∀a1 a2 a3 a4 a5 a6 a7 a8,p1 a1 a2 a3 a4 a5 a6 a7 a8→p2 a1 a2 a3 a4 a5 a6 a7 a8→p3 a1 a2 a3 a4 a5 a6 a7 a8→p4 a1 a2 a3 a4 a5 a6 a7 a8→p5 a1 a2 a3 a4 a5 a6 a7 a8→P):P:=h.elim fun a1 h=>h.elim fun a2 h=>h.elim fun a3 h=>h.elim fun a4 h=>h.elim fun a5 h=>h.elim fun a6 h=>h.elim fun a7 h=>h.elim fun a8 h=>k a1 a2 a3 a4 a5 a6 a7 a8 h.1 h.2.1 h.2.2.1 h.2.2.2.1 h.2.2.2.2
theorem xa8_6 {α1:Sort u1} {α2:Sort u2} {α3:Sort u3} {α4:Sort u4} {α5:Sort u5} {α6:Sort u6} {α7:Sort u7} {α8:Sort u8} {p1 p2 p3 p4 p5 p6:α1→α2→α3→α4→α5→α6→α7→α8→Prop} {P:Prop} (h:∃a1 a2 a3 a4 a5 a6 a7 a8,p1 a1 a2 a3 a4 a5 a6 a7 a8∧p2 a1 a2 a3 a4 a5 a6 a7 a8∧p3 a1 a2 a3 a4 a5 a6 a7 a8∧p4 a1 a2 a3 a4 a5 a6 a7 a8∧p5 a1 a2 a3 a4 a5 a6 a7 a8∧p6 a1 a2 a3 a4 a5 a6 a7 a8) (k:∀a1 a2 a3 a4 a5 a6 a7 a8,p1 a1 a2 a3 a4 a5 a6 a7 a8→p2 a1 a2 a3 a4 a5 a6 a7 a8→p3 a1 a2 a3 a4 a5 a6 a7 a8→p4 a1 a2 a3 a4 a5 a6 a7 a8→p5 a1 a2 a3 a4 a5 a6 a7 a8→p6 a1 a2 a3 a4 a5 a6 a7 a8→P):P:=h.elim fun a1 h=>h.elim fun a2 h=>h.elim fun a3 h=>h.elim fun a4 h=>h.elim fun a5 h=>h.elim fun a6 h=>h.elim fun a7 h=>h.elim fun a8 h=>k a1 a2 a3 a4 a5 a6 a7 a8 h.1 h.2.1 h.2.2.1 h.2.2.2.1 h.2.2.2.2.1 h.2.2.2.2.2
theorem xa8_7 {α1:Sort u1} {α2:Sort u2} {α3:Sort u3} {α4:Sort u4} {α5:Sort u5} {α6:Sort u6} {α7:Sort u7} {α8:Sort u8} {p1 p2 p3 p4 p5 p6 p7:α1→α2→α3→α4→α5→α6→α7→α8→Prop} {P:Prop} (h:∃a1 a2 a3 a4 a5 a6 a7 a8,p1 a1 a2 a3 a4 a5 a6 a7 a8∧p2 a1 a2 a3 a4 a5 a6 a7 a8∧p3 a1 a2 a3 a4 a5 a6 a7 a8∧p4 a1 a2 a3 a4 a5 a6 a7 a8∧p5 a1 a2 a3 a4 a5 a6 a7 a8∧p6 a1 a2 a3 a4 a5 a6 a7 a8∧p7 a1 a2 a3 a4 a5 a6 a7 a8) (k:∀a1 a2 a3 a4 a5 a6 a7 a8,p1 a1 a2 a3 a4 a5 a6 a7 a8→p2 a1 a2 a3 a4 a5 a6 a7 a8→p3 a1 a2 a3 a4 a5 a6 a7 a8→p4 a1 a2 a3 a4 a5 a6 a7 a8→p5 a1 a2 a3 a4 a5 a6 a7 a8→p6 a1 a2 a3 a4 a5 a6 a7 a8→p7 a1 a2 a3 a4 a5 a6 a7 a8→P):P:=h.elim fun a1 h=>h.elim fun a2 h=>h.elim fun a3 h=>h.elim fun a4 h=>h.elim fun a5 h=>h.elim fun a6 h=>h.elim fun a7 h=>h.elim fun a8 h=>k a1 a2 a3 a4 a5 a6 a7 a8 h.1 h.2.1 h.2.2.1 h.2.2.2.1 h.2.2.2.2.1 h.2.2.2.2.2.1 h.2.2.2.2.2.2
theorem xa8_8 {α1:Sort u1} {α2:Sort u2} {α3:Sort u3} {α4:Sort u4} {α5:Sort u5} {α6:Sort u6} {α7:Sort u7} {α8:Sort u8} {p1 p2 p3 p4 p5 p6 p7 p8:α1→α2→α3→α4→α5→α6→α7→α8→Prop} {P:Prop} (h:∃a1 a2 a3 a4 a5 a6 a7 a8,p1 a1 a2 a3 a4 a5 a6 a7 a8∧p2 a1 a2 a3 a4 a5 a6 a7 a8∧p3 a1 a2 a3 a4 a5 a6 a7 a8∧p4 a1 a2 a3 a4 a5 a6 a7 a8∧p5 a1 a2 a3 a4 a5 a6 a7 a8∧p6 a1 a2 a3 a4 a5 a6 a7 a8∧p7 a1 a2 a3 a4 a5 a6 a7 a8∧p8 a1 a2 a3 a4 a5 a6 a7 a8) (k:∀a1 a2 a3 a4 a5 a6 a7 a8,p1 a1 a2 a3 a4 a5 a6 a7 a8→p2 a1 a2 a3 a4 a5 a6 a7 a8→p3 a1 a2 a3 a4 a5 a6 a7 a8→p4 a1 a2 a3 a4 a5 a6 a7 a8→p5 a1 a2 a3 a4 a5 a6 a7 a8→p6 a1 a2 a3 a4 a5 a6 a7 a8→p7 a1 a2 a3 a4 a5 a6 a7 a8→p8 a1 a2 a3 a4 a5 a6 a7 a8→P):P:=h.elim fun a1 h=>h.elim fun a2 h=>h.elim fun a3 h=>h.elim fun a4 h=>h.elim fun a5 h=>h.elim fun a6 h=>h.elim fun a7 h=>h.elim fun a8 h=>k a1 a2 a3 a4 a5 a6 a7 a8 h.1 h.2.1 h.2.2.1 h.2.2.2.1 h.2.2.2.2.1 h.2.2.2.2.2.1 h.2.2.2.2.2.2.1 h.2.2.2.2.2.2.2
theorem xa9_1 {α1:Sort u1} {α2:Sort u2} {α3:Sort u3} {α4:Sort u4} {α5:Sort u5} {α6:Sort u6} {α7:Sort u7} {α8:Sort u8} {α9:Sort u9} {p1:α1→α2→α3→α4→α5→α6→α7→α8→α9→Prop} {P:Prop} (h:∃a1 a2 a3 a4 a5 a6 a7 a8 a9,p1 a1 a2 a3 a4 a5 a6 a7 a8 a9) (k:∀a1 a2 a3 a4 a5 a6 a7 a8 a9,p1 a1 a2 a3 a4 a5 a6 a7 a8 a9→P):P:=h.elim fun a1 h=>h.elim fun a2 h=>h.elim fun a3 h=>h.elim fun a4 h=>h.elim fun a5 h=>h.elim fun a6 h=>h.elim fun a7 h=>h.elim fun a8 h=>h.elim fun a9 h=>k a1 a2 a3 a4 a5 a6 a7 a8 a9 h
theorem xa9_2 {α1:Sort u1} {α2:Sort u2} {α3:Sort u3} {α4:Sort u4} {α5:Sort u5} {α6:Sort u6} {α7:Sort u7} {α8:Sort u8} {α9:Sort u9} {p1 p2:α1→α2→α3→α4→α5→α6→α7→α8→α9→Prop} {P:Prop} (h:∃a1 a2 a3 a4 a5 a6 a7 a8 a9,p1 a1 a2 a3 a4 a5 a6 a7 a8 a9∧p2 a1 a2 a3 a4 a5 a6 a7 a8 a9) (k:∀a1 a2 a3 a4 a5 a6 a7 a8 a9,p1 a1 a2 a3 a4 a5 a6 a7 a8 a9→p2 a1 a2 a3 a4 a5 a6 a7 a8 a9→P):P:=h.elim fun a1 h=>h.elim fun a2 h=>h.elim fun a3 h=>h.elim fun a4 h=>h.elim fun a5 h=>h.elim fun a6 h=>h.elim fun a7 h=>h.elim fun a8 h=>h.elim fun a9 h=>k a1 a2 a3 a4 a5 a6 a7 a8 a9 h.1 h.2
theorem xa9_3 {α1:Sort u1} {α2:Sort u2} {α3:Sort u3} {α4:Sort u4} {α5:Sort u5} {α6:Sort u6} {α7:Sort u7} {α8:Sort u8} {α9:Sort u9} {p1 p2 p3:α1→α2→α3→α4→α5→α6→α7→α8→α9→Prop} {P:Prop} (h:∃a1 a2 a3 a4 a5 a6 a7 a8 a9,p1 a1 a2 a3 a4 a5 a6 a7 a8 a9∧p2 a1 a2 a3 a4 a5 a6 a7 a8 a9∧p3 a1 a2 a3 a4 a5 a6 a7 a8 a9) (k:∀a1 a2 a3 a4 a5 a6 a7 a8 a9,p1 a1 a2 a3 a4 a5 a6 a7 a8 a9→p2 a1 a2 a3 a4 a5 a6 a7 a8 a9→p3 a1 a2 a3 a4 a5 a6 a7 a8 a9→P):P:=h.elim fun a1 h=>h.elim fun a2 h=>h.elim fun a3 h=>h.elim fun a4 h=>h.elim fun a5 h=>h.elim fun a6 h=>h.elim fun a7 h=>h.elim fun a8 h=>h.elim fun a9 h=>k a1 a2 a3 a4 a5 a6 a7 a8 a9 h.1 h.2.1 h.2.2
theorem xa9_4 {α1:Sort u1} {α2:Sort u2} {α3:Sort u3} {α4:Sort u4} {α5:Sort u5} {α6:Sort u6} {α7:Sort u7} {α8:Sort u8} {α9:Sort u9} {p1 p2 p3 p4:α1→α2→α3→α4→α5→α6→α7→α8→α9→Prop} {P:Prop} (h:∃a1 a2 a3 a4 a5 a6 a7 a8 a9,p1 a1 a2 a3 a4 a5 a6 a7 a8 a9∧p2 a1 a2 a3 a4 a5 a6 a7 a8 a9∧p3 a1 a2 a3 a4 a5 a6 a7 a8 a9∧p4 a1 a2 a3 a4 a5 a6 a7 a8 a9) (k:∀a1 a2 a3 a4 a5 a6 a7 a8 a9,p1 a1 a2 a3 a4 a5 a6 a7 a8 a9→p2 a1 a2 a3 a4 a5 a6 a7 a8 a9→p3 a1 a2 a3 a4 a5 a6 a7 a8 a9→p4 a1 a2 a3 a4 a5 a6 a7 a8 a9→P):P:=h.elim fun a1 h=>h.elim fun a2 h=>h.elim fun a3 h=>h.elim fun a4 h=>h.elim fun a5 h=>h.elim fun a6 h=>h.elim fun a7 h=>h.elim fun a8 h=>h.elim fun a9 h=>k a1 a2 a3 a4 a5 a6 a7 a8 a9 h.1 h.2.1 h.2.2.1 h.2.2.2
theorem xa9_5 {α1:Sort u1} {α2:Sort u2} {α3:Sort u3} {α4:Sort u4} {α5:Sort u5} {α6:Sort u6} {α7:Sort u7} {α8:Sort u8} {α9:Sort u9} {p1 p2 p3 p4 p5:α1→α2→α3→α4→α5→α6→α7→α8→α9→Prop} {P:Prop} (h:∃a1 a2 a3 a4 a5 a6 a7 a8 a9,p1 a1 a2 a3 a4 a5 a6 a7 a8 a9∧p2 a1 a2 a3 a4 a5 a6 a7 a8 a9∧p3 a1 a2 a3 a4 a5 a6 a7 a8 a9∧p4 a1 a2 a3 a4 a5 a6 a7 a8 a9∧p5 a1 a2 a3 a4 a5 a6 a7 a8 a9) (k:∀a1 a2 a3 a4 a5 a6 a7 a8 a9,p1 a1 a2 a3 a4 a5 a6 a7 a8 a9→p2 a1 a2 a3 a4 a5 a6 a7 a8 a9→p3 a1 a2 a3 a4 a5 a6 a7 a8 a9→p4 a1 a2 a3 a4 a5 a6 a7 a8 a9→p5 a1 a2 a3 a4 a5 a6 a7 a8 a9→P):P:=h.elim fun a1 h=>h.elim fun a2 h=>h.elim fun a3 h=>h.elim fun a4 h=>h.elim fun a5 h=>h.elim fun a6 h=>h.elim fun a7 h=>h.elim fun a8 h=>h.elim fun a9 h=>k a1 a2 a3 a4 a5 a6 a7 a8 a9 h.1 h.2.1 h.2.2.1 h.2.2.2.1 h.2.2.2.2
theorem xa9_6 {α1:Sort u1} {α2:Sort u2} {α3:Sort u3} {α4:Sort u4} {α5:Sort u5} {α6:Sort u6} {α7:Sort u7} {α8:Sort u8} {α9:Sort u9} {p1 p2 p3 p4 p5 p6:α1→α2→α3→α4→α5→α6→α7→α8→α9→Prop} {P:Prop} (h:∃a1 a2 a3 a4 a5 a6 a7 a8 a9,p1 a1 a2 a3 a4 a5 a6 a7 a8 a9∧p2 a1 a2 a3 a4 a5 a6 a7 a8 a9∧p3 a1 a2 a3 a4 a5 a6 a7 a8 a9∧p4 a1 a2 a3 a4 a5 a6 a7 a8 a9∧p5 a1 a2 a3 a4 a5 a6 a7 a8 a9∧p6 a1 a2 a3 a4 a5 a6 a7 a8 a9) (k:∀a1 a2 a3 a4 a5 a6 a7 a8 a9,p1 a1 a2 a3 a4 a5 a6 a7 a8 a9→p2 a1 a2 a3 a4 a5 a6 a7 a8 a9→p3 a1 a2 a3 a4 a5 a6 a7 a8 a9→p4 a1 a2 a3 a4 a5 a6 a7 a8 a9→p5 a1 a2 a3 a4 a5 a6 a7 a8 a9→p6 a1 a2 a3 a4 a5 a6 a7 a8 a9→P):P:=h.elim fun a1 h=>h.elim fun a2 h=>h.elim fun a3 h=>h.elim fun a4 h=>h.elim fun a5 h=>h.elim fun a6 h=>h.elim fun a7 h=>h.elim fun a8 h=>h.elim fun a9 h=>k a1 a2 a3 a4 a5 a6 a7 a8 a9 h.1 h.2.1 h.2.2.1 h.2.2.2.1 h.2.2.2.2.1 h.2.2.2.2.2
theorem xa9_7 {α1:Sort u1} {α2:Sort u2} {α3:Sort u3} {α4:Sort u4} {α5:Sort u5} {α6:Sort u6} {α7:Sort u7} {α8:Sort u8} {α9:Sort u9} {p1 p2 p3 p4 p5 p6 p7:α1→α2→α3→α4→α5→α6→α7→α8→α9→Prop} {P:Prop} (h:∃a1 a2 a3 a4 a5 a6 a7 a8 a9,p1 a1 a2 a3 a4 a5 a6 a7 a8 a9∧p2 a1 a2 a3 a4 a5 a6 a7 a8 a9∧p3 a1 a2 a3 a4 a5 a6 a7 a8 a9∧p4 a1 a2 a3 a4 a5 a6 a7 a8 a9∧p5 a1 a2 a3 a4 a5 a6 a7 a8 a9∧p6 a1 a2 a3 a4 a5 a6 a7 a8 a9∧p7 a1 a2 a3 a4 a5 a6 a7 a8 a9) (k:∀a1 a2 a3 a4 a5 a6 a7 a8 a9,p1 a1 a2 a3 a4 a5 a6 a7 a8 a9→p2 a1 a2 a3 a4 a5 a6 a7 a8 a9→p3 a1 a2 a3 a4 a5 a6 a7 a8 a9→p4 a1 a2 a3 a4 a5 a6 a7 a8 a9→p5 a1 a2 a3 a4 a5 a6 a7 a8 a9→p6 a1 a2 a3 a4 a5 a6 a7 a8 a9→p7 a1 a2 a3 a4 a5 a6 a7 a8 a9→P):P:=h.elim fun a1 h=>h.elim fun a2 h=>h.elim fun a3 h=>h.elim fun a4 h=>h.elim fun a5 h=>h.elim fun a6 h=>h.elim fun a7 h=>h.elim fun a8 h=>h.elim fun a9 h=>k a1 a2 a3 a4 a5 a6 a7 a8 a9 h.1 h.2.1 h.2.2.1 h.2.2.2.1 h.2.2.2.2.1 h.2.2.2.2.2.1 h.2.2.2.2.2.2
theorem Ff {a m r:Nat} (h:a+m<r):a<r:=Nat.lt_of_le_of_lt (Nat.le_add_right a m) h
theorem Ki {a b:Nat} (h:a<b):a≤b:=Nat.le_of_lt h
theorem No {a b:Nat} (h:a<b):a+1≤b:=h
theorem NS {a b:Nat} (h:a≤b):a<b+1:=Nat.lt_succ_of_le h
theorem NM {a b:Nat} (h:a<b):1≤b:=Nat.lt_of_le_of_lt (Nat.zero_le a) h
theorem CM {a b c:Nat} (h:a≤b) (k:b≤c):a≤c:=Nat.le_trans h k
theorem NV {a b c:Nat} (h:a=b) (k:b≤c):a≤c:=h▸k
theorem NU {a b c:Nat} (h:a<b) (k:b≤c):a<c:=Nat.lt_of_lt_of_le h k
theorem NC {a b c:Nat} (h:a≤b) (k:b<c):a<c:=Nat.lt_of_le_of_lt h k
theorem NB {a b c:Nat} (h:a<b) (k:b≤c):a≤c:=Nat.le_of_lt (Nat.lt_of_lt_of_le h k)
theorem Kj {a m k r:Nat} (h:a+m<r) (d:k≤m):a+k<r:=Nat.lt_of_le_of_lt (Nat.add_le_add_left d a) h
theorem I7 {a m k r:Nat} (h:a+m<r) (d:k+1≤m):a+k+1<r:=Nat.lt_of_le_of_lt (Nat.add_le_add_left d a) h
theorem NT {a b c:Nat} (h:a=b) (k:b≠c):a≠c:=h▸k
theorem Cs {a b c:Nat} (h:a≤b) (k:b≤c):a≤c:=Nat.le_trans h k
theorem ND {a b c:Nat} (h:a<b) (k:b≤c):a<c:=Nat.lt_of_lt_of_le h k
theorem NE {a b c:Nat} (h:a≤b) (k:b<c):a<c:=Nat.lt_of_le_of_lt h k
theorem Mp {a b c:Nat} (h:a<b) (k:b<c):a<c:=Nat.lt_trans h k
theorem NW {a b:Nat} (h:a≤b+1) (k:¬a=b+1):a≤b:=Nat.le_of_lt_succ (Nat.lt_of_le_of_ne h k)
theorem Ak {α:Type} {a:α} {P:Prop} (h:none=some a):P:=nomatch h
theorem Ao {α:Type} {a:α} {P:Prop} (h:some a=none):P:=nomatch h
theorem CJ {P:Prop} (h:true=false):P:=nomatch h
theorem By {P:Prop} (h:false=true):P:=nomatch h
section
noncomputable abbrev FH:=Addr→Option Obj
noncomputable def A6 (F F':FH):Prop:=∀b o,F b=some o→F' b=some o
theorem A6.refl (F:FH):A6 F F:=fun zu zu e=>e
theorem A6.trans {F F' F'':FH} (x:A6 F F') (y:A6 F' F''):A6 F F'':=fun b o e=>y b o (x b o e)
inductive AV where
 |none
 |bool (b:Bool)
 |int (i:Int)
 |str (s:Str)
 |bytes (b:Array UInt8)
 |tup (l:List AV)
 |lst (l:List AV)
 |ref (a:Addr)
 |val (v:Value)
 deriving Inhabited
mutual
inductive VR (F:FH):AV→Value→Prop
 |none:VR F .none .none
 |bool (b):VR F (.bool b) (.bool b)
 |int (i t):VR F (.int i) (.int i t)
 |str (s t):VR F (.str s) (.str s t)
 |bytes (b t):VR F (.bytes b) (.bytes b t)
 |tup {l vs a o n}:F a=some o→o.cls=.type "tuple"→o.data=.seq vs.toArray n→VRs F l vs→VR F (.tup l) (.ref a)
 |lst {l vs a o n}:F a=some o→o.cls=.type "list"→o.data=.seq vs.toArray n→VRs F l vs→VR F (.lst l) (.ref a)
 |ref (a):VR F (.ref a) (.ref a)
 |val (v):VR F (.val v) v
inductive VRs (F:FH):List AV→List Value→Prop
 |nil:VRs F [] []
 |cons {x xs v vs}:VR F x v→VRs F xs vs→VRs F (x::xs) (v::vs)
end
theorem VR.mono {F F':FH} (e:A6 F F') {x:AV} {v:Value} (h:VR F x v):VR F' x v:=
 VR.rec (motive_1:=fun x v zu=>VR F' x v) (motive_2:=fun x v zu=>VRs F' x v) .none (fun b=>.bool b) (fun i t=>.int i t) (fun s t=>.str s t) (fun b t=>.bytes b t) (fun a b c zu d=>.tup (e _ _ a) b c d) (fun a b c zu d=>.lst (e _ _ a) b c d) (fun a=>.ref a) (fun v=>.val v) .nil (fun zu zu a b=>.cons a b) h
theorem VRs.ind {F:FH} {M:List AV→List Value→Prop} (hn:M [] []) (hc:∀{x xs v vs},VR F x v→VRs F xs vs→M xs vs→M (x::xs) (v::vs)) {xs:List AV} {vs:List Value} (h:VRs F xs vs):M xs vs:=
 VRs.rec (motive_1:=fun zu zu zu=>True) (motive_2:=fun xs vs zu=>M xs vs) trivial (fun zu=>trivial) (fun zu zu=>trivial) (fun zu zu=>trivial) (fun zu zu=>trivial) (fun zu zu zu zu zu=>trivial) (fun zu zu zu zu zu=>trivial) (fun zu=>trivial) (fun zu=>trivial) hn (fun a b zu ih=>hc a b ih) h
theorem VRs.mono {F F':FH} (e:A6 F F') {x:List AV} {v:List Value} (h:VRs F x v):VRs F' x v:=VRs.ind (M:=fun x v=>VRs F' x v) .nil (fun a zu ih=>.cons (a.mono e) ih) h
noncomputable def VR.Sh (F:FH) (v:Value):AV→Prop
 |.none=>v=.none
 |.bool b=>v=.bool b
 |.int i=>∃t,v=.int i t
 |.str x=>∃t,v=.str x t
 |.bytes b=>∃t,v=.bytes b t
 |.tup l=>∃a o vs n,v=.ref a∧F a=some o∧o.cls=.type "tuple"∧o.data=.seq (List.toArray vs) n∧VRs F l vs
 |.lst l=>∃a o vs n,v=.ref a∧F a=some o∧o.cls=.type "list"∧o.data=.seq (List.toArray vs) n∧VRs F l vs
 |.ref a=>v=.ref a
 |.val u=>v=u
theorem VR.inv {F:FH} {x:AV} {v:Value} (h:VR F x v):VR.Sh F v x:=
 VR.casesOn (motive_1:=fun x v zu=>VR.Sh F v x) h rfl (fun b=>rfl) (fun i t=>⟨t,rfl⟩) (fun i t=>⟨t,rfl⟩) (fun i t=>⟨t,rfl⟩) (fun a b c d=>⟨_,_,_,_,rfl,a,b,c,d⟩) (fun a b c d=>⟨_,_,_,_,rfl,a,b,c,d⟩) (fun a=>rfl) (fun v=>rfl)
noncomputable def VRs.Sh (F:FH) (vs:List Value):List AV→Prop
 |[]=>vs=[]
 |x::xs=>∃v us,vs=v::us∧VR F x v∧VRs F xs us
theorem VRs.invS {F:FH} {x:List AV} {v:List Value} (h:VRs F x v):VRs.Sh F v x:=
 VRs.casesOn (motive_2:=fun x v zu=>VRs.Sh F v x) h rfl (fun a b=>⟨_,_,rfl,a,b⟩)
theorem VR.noneI {F:FH} {v:Value} (h:VR F .none v):v=.none:=h.inv
theorem VR.boolI {F:FH} {v:Value} {b:Bool} (h:VR F (.bool b) v):v=.bool b:=h.inv
theorem VR.refI {F:FH} {v:Value} {a:Addr} (h:VR F (.ref a) v):v=.ref a:=h.inv
theorem VR.valI {F:FH} {v u:Value} (h:VR F (.val u) v):v=u:=h.inv
theorem VR.intI {F:FH} {v:Value} {i:Int} (h:VR F (.int i) v):∃t,v=.int i t:=h.inv
theorem VR.strI {F:FH} {v:Value} {i:Str} (h:VR F (.str i) v):∃t,v=.str i t:=h.inv
theorem VR.lstInv {F:FH} {l:List AV} {v:Value} (h:VR F (.lst l) v):∃a o vs n,v=.ref a∧F a=some o∧o.cls=.type "list"∧o.data=.seq (List.toArray vs) n∧VRs F l vs:=h.inv
theorem VR.tupInv {F:FH} {l:List AV} {v:Value} (h:VR F (.tup l) v):∃a o vs n,v=.ref a∧F a=some o∧o.cls=.type "tuple"∧o.data=.seq (List.toArray vs) n∧VRs F l vs:=h.inv
theorem VR.tupC {F:FH} {l:List AV} {v:Value} {P:Prop} (h:VR F (.tup l) v) (k:∀(vs:List Value) (a:Addr) (o:Obj) (n:Nat) (zo:v=.ref a) (za:F a=some o) (zb:o.cls=.type "tuple") (zc:o.data=.seq vs.toArray n) (zd:VRs F l vs),P):P:=by
 refine xa4_5 h.inv ?_;intro a o vs n q1 q2 q3 q4 q5;exact k vs a o n q1 q2 q3 q4 q5
theorem VR.lstC {F:FH} {l:List AV} {v:Value} {P:Prop} (h:VR F (.lst l) v) (k:∀(vs:List Value) (a:Addr) (o:Obj) (n:Nat) (zo:v=.ref a) (za:F a=some o) (zb:o.cls=.type "list") (zc:o.data=.seq vs.toArray n) (zd:VRs F l vs),P):P:=by
 refine xa4_5 h.inv ?_;intro a o vs n q1 q2 q3 q4 q5;exact k vs a o n q1 q2 q3 q4 q5
theorem VRs.nilI {F:FH} {vs:List Value} (h:VRs F [] vs):vs=[]:=h.invS
theorem VRs.consC {F:FH} {x:AV} {xs:List AV} {vs:List Value} {P:Prop} (h:VRs F (x::xs) vs) (k:∀(v:Value) (us:List Value) (zo:vs=v::us) (za:VR F x v) (zb:VRs F xs us),P):P:=by
 refine xa2_3 h.invS ?_;intro v us q1 q2 q3;exact k v us q1 q2 q3
theorem VRs.length {F:FH} {xs:List AV} {vs:List Value} (h:VRs F xs vs):vs.length=xs.length:=VRs.ind (M:=fun xs vs=>vs.length=xs.length) rfl (fun zu zu ih=>congrArg (·+1) ih) h
theorem VRs.get {F:FH} {xs:List AV} {vs:List Value} {i:Nat} {x:AV} (h:VRs F xs vs) (e:xs[i]? = some x):∃v,vs[i]? = some v∧VR F x v:=
 VRs.ind (M:=fun xs vs=>∀i,xs[i]? = some x→∃v,vs[i]? = some v∧VR F x v) (fun zu e=>Ak e) (fun {y ys v vs} a zu ih i=>Nat.casesOn (motive:=fun i=>(y::ys)[i]? = some x→∃u,(v::vs)[i]? = some u∧VR F x u) i (fun e=>⟨v,rfl,Option.some.inj e▸a⟩) (fun i e=>ih i e)) h i e
theorem VRs.append {F:FH} {xs ys:List AV} {vs us:List Value} (h:VRs F xs vs) (k:VRs F ys us):VRs F (xs++ys) (vs++us):=VRs.ind (M:=fun xs vs=>VRs F (xs++ys) (vs++us)) k (fun a zu ih=>.cons a ih) h
theorem VRs.none {F:FH} {xs vs} {i:Nat} (h:VRs F xs vs) (e:xs[i]? = Option.none):vs[i]? = Option.none:=by
 rw [List.getElem?_eq_none_iff] at e ⊢
 rw [h.length];exact e
theorem VRs.take {F:FH} {xs:List AV} {vs:List Value} (n:Nat) (h:VRs F xs vs):VRs F (xs.take n) (vs.take n):=
 VRs.ind (M:=fun xs vs=>∀n,VRs F (xs.take n) (vs.take n)) (fun n=>by rw [List.take_nil,List.take_nil];exact .nil) (fun {y ys v vs} a zu ih n=>Nat.casesOn (motive:=fun n=>VRs F ((y::ys).take n) ((v::vs).take n)) n .nil (fun n=>.cons a (ih n))) h n
theorem VRs.drop {F:FH} {xs:List AV} {vs:List Value} (n:Nat) (h:VRs F xs vs):VRs F (xs.drop n) (vs.drop n):=
 VRs.ind (M:=fun xs vs=>∀n,VRs F (xs.drop n) (vs.drop n)) (fun n=>by rw [List.drop_nil,List.drop_nil];exact .nil) (fun {y ys v vs} a b ih n=>Nat.casesOn (motive:=fun n=>VRs F ((y::ys).drop n) ((v::vs).drop n)) n (.cons a b) (fun n=>ih n)) h n
inductive MU (F:FH):Option AV→Option Value→Prop
 |none:MU F Option.none Option.none
 |some {x v}:VR F x v→MU F (Option.some x) (Option.some v)
inductive B2 (F:FH):List (Option AV)→List (Option Value)→Prop
 |nil:B2 F [] []
 |cons {x xs v vs}:MU F x v→B2 F xs vs→B2 F (x::xs) (v::vs)
theorem MU.mono {F F':FH} (e:A6 F F') {x v} (h:MU F x v):MU F' x v:=by
 cases h with
 |none=>exact .none
 |some a=>exact .some (a.mono e)
theorem B2.mono {F F':FH} (e:A6 F F') {x v} (h:B2 F x v):B2 F' x v:=by
 induction h with
 |nil=>exact .nil
 |cons a zu ih=>exact .cons (a.mono e) ih
theorem B2.length {F:FH} {xs vs} (h:B2 F xs vs):vs.length=xs.length:=by
 induction h with
 |nil=>rfl
 |cons zu zu2 ih=>simp [ih]
theorem B2.get {F:FH} {xs vs} (h:B2 F xs vs) {i:Nat} {x} (e:xs[i]? = some (some x)):∃v,vs[i]? = some (some v)∧VR F x v:=by
 induction h generalizing i with
 |nil=>simp at e
 |cons a zu ih=>
  cases i with
  |zero=>simp at e;subst e;cases a with|some a=>exact ⟨_,rfl,a⟩
  |succ i=>simpa using ih (by simpa using e)
theorem B2.set {F:FH} {xs vs} (h:B2 F xs vs) (i:Nat) {x v} (hv:MU F x v):B2 F (xs.set i x) (vs.set i v):=by
 induction h generalizing i with
 |nil=>simpa using B2.nil
 |cons a b ih=>
  cases i with
  |zero=>simpa using B2.cons hv b
  |succ i=>simpa using B2.cons a (ih i)
inductive As where
 |i (k:Int)
 |s (x:Str)
 deriving DecidableEq,Inhabited
noncomputable def As.av:As→AV
 |.i k=>.int k
 |.s x=>.str x
noncomputable def As.is:As→Value→Bool
 |.i k,.int j _=>j == k
 |.s x,.str y _=>y == x
 |_,_=>false
noncomputable def As.hash (w:World):As→Int
 |.i k=>hashInt k
 |.s x=>hashStr w x
theorem As.is_shape {k:As} {v:Value} (h:k.is v=true):(∃i t,k=.i i∧v=.int i t)∨∃x t,k=.s x∧v=.str x t:=by
 cases k<;>cases v<;>simp_all [As.is]
noncomputable def Bh (prog:Program) (w:World):KeyKind prog w As where
 is:=As.is
 hash:=As.hash w
 inj:=fun v a b ha hb=>by
  rcases As.is_shape ha with ⟨i,t,rfl,rfl⟩|⟨x,t,rfl,rfl⟩
  ·rcases As.is_shape hb with ⟨j,u,rfl,h⟩|⟨y,u,rfl,h⟩<;>cases h;rfl
  ·rcases As.is_shape hb with ⟨j,u,rfl,h⟩|⟨y,u,rfl,h⟩<;>cases h;rfl
 byValue:=fun k v h=>by rcases As.is_shape h with ⟨i,t,rfl,rfl⟩|⟨x,t,rfl,rfl⟩<;>rfl
 pyHash:=fun hv h=>by
  rcases As.is_shape hv with ⟨i,t,rfl,rfl⟩|⟨x,t,rfl,rfl⟩
  ·exact wpAny_pyHash_int h
  ·exact wpAny_pyHash_str h
 eqBool:=fun hu hv h=>by
  rcases As.is_shape hu with ⟨i,t,rfl,rfl⟩|⟨x,t,rfl,rfl⟩
  ·rcases As.is_shape hv with ⟨j,u,rfl,rfl⟩|⟨y,u,rfl,rfl⟩
   ·refine wpAny_eqBool_int ?_
    have:(i == j)=decide (As.i i=As.i j):=by
     by_cases q:i=j
     ·subst q;simp
     ·simp [q]
    rw [this];exact h
   ·have e:PySem.eqBool (.int i t) (.str y u)=(do truthOfDropped (←richCompare .Eq (.int i t) (.str y u))):=by rfl
    rw [e]
    refine wpAny_bind (EqMixed.eq_int_str (wpAny_truthy_bool ?_))
    simpa using h
  ·rcases As.is_shape hv with ⟨j,u,rfl,rfl⟩|⟨y,u,rfl,rfl⟩
   ·have e:PySem.eqBool (.str x t) (.int j u)=(do truthOfDropped (←richCompare .Eq (.str x t) (.int j u))):=by rfl
    rw [e]
    refine wpAny_bind (EqMixed.eq_str_int (wpAny_truthy_bool ?_))
    simpa using h
   ·refine wpAny_eqBool_str ?_
    have:decide (x=y)=decide (As.s x=As.s y):=by
     by_cases q:x=y
     ·subst q;simp
     ·simp [q]
    rw [this];exact h
 «strs»:=fun k x t v h=>by
  rcases As.is_shape h with ⟨i,u,rfl,h'⟩|⟨y,u,rfl,h'⟩
  ·cases h'
  ·cases h'
   cases v<;>rfl
inductive SV (F:FH):List (As×AV)→List (As×Value)→Prop
 |nil:SV F [] []
 |cons {k x v xs vs}:VR F x v→SV F xs vs→SV F ((k,x)::xs) ((k,v)::vs)
theorem SV.mono {F F':FH} (e:A6 F F') {x v} (h:SV F x v):SV F' x v:=by
 induction h with
 |nil=>exact .nil
 |cons a zu ih=>exact .cons (a.mono e) ih
theorem SV.keys {F:FH} {x v} (h:SV F x v):v.map (·.1)=x.map (·.1):=by
 induction h with
 |nil=>rfl
 |cons a zu ih=>simp [ih]
theorem SV.length {F:FH} {x v} (h:SV F x v):v.length=x.length:=by
 induction h with
 |nil=>rfl
 |cons a zu ih=>simp [ih]
inductive NR (P:Params) (F:FH):List (Str×AV)→List DictEntry→Prop
 |nil:NR P F [] []
 |cons {k v es e ds t}:e.hash=PyData.keyHash P k→e.key=.str k t→VR F v e.val→NR P F es ds→NR P F ((k,v)::es) (e::ds)
theorem NR.mono {P:Params} {F F':FH} (e:A6 F F') {x v} (h:NR P F x v):NR P F' x v:=by
 induction h with
 |nil=>exact .nil
 |cons a b c zu ih=>exact .cons a b (c.mono e) ih
inductive AO where
 |list (xs:List AV)
 |dict (l:List (As×AV)) (ep:Nat)
 |iset (S:Int→Bool) (n:Nat)
 |ns (fs:List (Str×AV))
 |inst (C d:Addr)
 |slot (C:Addr) (vs:List (Option AV))
 |fields (cls:String) (vs:List AV)
 |itr (cls:String) (vs:List AV)
 |frame (loc:List (Str×AV))
 |gen (g:Nat) (gs:GenState)
theorem NY {a b:List AV} (h:some (AO.list a)=some (AO.list b)):a=b:=AO.list.inj (Option.some.inj h)
theorem Ol {a b:List (Str×AV)} (h:some (AO.ns a)=some (AO.ns b)):a=b:=AO.ns.inj (Option.some.inj h)
theorem NN {a b:List (Str×AV)} (h:some (AO.frame a)=some (AO.frame b)):a=b:=AO.frame.inj (Option.some.inj h)
theorem Oa {a b:List (As×AV)} {m n:Nat} (h:some (AO.dict a m)=some (AO.dict b n)):a=b∧m=n:=AO.dict.inj (Option.some.inj h)
theorem NZ {a b c d:Addr} (h:some (AO.inst a b)=some (AO.inst c d)):a=c∧b=d:=AO.inst.inj (Option.some.inj h)
theorem NX {a b:Addr} {c d:List (Option AV)} (h:some (AO.slot a c)=some (AO.slot b d)):a=b∧c=d:=AO.slot.inj (Option.some.inj h)
theorem Oh {a b:String} {c d:List AV} (h:some (AO.itr a c)=some (AO.itr b d)):a=b∧c=d:=AO.itr.inj (Option.some.inj h)
theorem L8 {a b:Nat} {c d:GenState} (h:some (AO.gen a c)=some (AO.gen b d)):a=b∧c=d:=AO.gen.inj (Option.some.inj h)
structure Cf where
 prog:Program
 w:World
 h0:Heap
 os:OsState
inductive OR (C:Cf) (F:FH) (gens:Array GenState):AO→Obj→Prop
 |list {xs o vs n}:o.cls=.type "list"→o.dict=none→o.slots=#[]→o.data=.seq vs.toArray n→VRs F xs vs→OR C F gens (.list xs) o
 |dict {l ep o es kvs}:o.ExactDict→o.data=.dict es ep→KeysOf (Bh C.prog C.w) es→Pairs (Bh C.prog C.w) es.toList kvs→(kvs.map (·.1)).Nodup→SV F l kvs→OR C F gens (.dict l ep) o
 |iset {S n o es ep t}:o.ExactSet→o.data=.set es ep t→ElemsOf (intKind C.prog C.w) es.toList→(∀k,S k=true↔∃e∈es.toList,(intKind C.prog C.w).is k e.2=true) →
   es.size<scanBound→t.fits es.size=true→es.size=n→OR C F gens (.iset S n) o
 |ns {fs o ds n}:o.ExactDict→o.data=.dict ds.toArray n→NR C.w.params F fs ds→OR C F gens (.ns fs) o
 |inst {K d}:OR C F gens (.inst K d) { cls:=.ref K,dict:=some d,data:=.plain }
 |slot {K vs us d}:F d=some emptyDict→B2 F vs us→OR C F gens (.slot K vs) { cls:=.ref K,dict:=some d,data:=.plain,slots:=us.toArray }
 |fields {c vs o us}:o.cls=.type c→o.dict=none→o.slots=#[]→o.data=.fields us.toArray→VRs F vs us→OR C F gens (.fields c vs) o
 |itr {c vs o us}:o.cls=.type c→o.data=.fields us.toArray→VRs F vs us→OR C F gens (.itr c vs) o
 |frame {loc o es ep}:o.data=.dict es ep→StrKeys es→(∀x av,loc.lookup x=some av→∃v,nsFind es x=some v∧VR F av v)→OR C F gens (.frame loc) o
 |gen {g gs o n q t u}:o.cls=.type "generator"→o.dict=none→o.slots=#[]→o.data=.fields #[.int g 0,.str n t,.str q u]→gens[g]? = some gs→OR C F gens (.gen g gs) o
noncomputable def OR.Sh (C:Cf) (F:FH) (gens:Array GenState) (o:Obj):AO→Prop
 |.list xs=>∃vs n,o.cls=.type "list"∧o.dict=none∧o.slots=#[]∧o.data=.seq vs.toArray n∧VRs F xs vs
 |.dict l ep=>∃es kvs,o.ExactDict∧o.data=.dict es ep∧KeysOf (Bh C.prog C.w) es∧Pairs (Bh C.prog C.w) es.toList kvs∧(kvs.map (·.1)).Nodup∧SV F l kvs
 |.iset S n=>∃es ep t,o.ExactSet∧o.data=.set es ep t∧ElemsOf (intKind C.prog C.w) es.toList∧(∀k,S k=true↔∃e∈es.toList,(intKind C.prog C.w).is k e.2=true)∧es.size<scanBound∧t.fits es.size=true∧es.size=n
 |.ns fs=>∃ds n,o.ExactDict∧o.data=.dict (List.toArray ds) n∧NR C.w.params F fs ds
 |.inst K d=>o={ cls:=.ref K,dict:=some d,data:=.plain }
 |.slot K vs=>∃us d,o={ cls:=.ref K,dict:=some d,data:=.plain,slots:=List.toArray us }∧F d=some emptyDict∧B2 F vs us
 |.fields c vs=>∃us,o.cls=.type c∧o.dict=none∧o.slots=#[]∧o.data=.fields (List.toArray us)∧VRs F vs us
 |.itr c vs=>∃us,o.cls=.type c∧o.data=.fields (List.toArray us)∧VRs F vs us
 |.frame loc=>∃es ep,o.data=.dict es ep∧StrKeys es∧∀x av,loc.lookup x=some av→∃v,nsFind es x=some v∧VR F av v
 |.gen g gs=>∃n q t u,o.cls=.type "generator"∧o.dict=none∧o.slots=#[]∧o.data=.fields #[.int g 0,.str n t,.str q u]∧gens[g]? = some gs
theorem OR.inv {C:Cf} {F:FH} {gens:Array GenState} {x:AO} {o:Obj} (h:OR C F gens x o):OR.Sh C F gens o x:=
 OR.casesOn (motive:=fun x o zu=>OR.Sh C F gens o x) h (fun a b c d e=>⟨_,_,a,b,c,d,e⟩) (fun a b c d e f=>⟨_,_,a,b,c,d,e,f⟩) (fun a b c d e f g=>⟨_,_,_,a,b,c,d,e,f,g⟩) (fun a b c=>⟨_,_,a,b,c⟩)
  rfl (fun a b=>⟨_,_,rfl,a,b⟩) (fun a b c d e=>⟨_,a,b,c,d,e⟩) (fun a b c=>⟨_,a,b,c⟩) (fun a b c=>⟨_,_,a,b,c⟩) (fun a b c d e=>⟨_,_,_,_,a,b,c,d,e⟩)
section
variable {C:Cf} {F:FH} {gens:Array GenState} {o:Obj} {P:Prop}
theorem OR.listC {xs:List AV} (h:OR C F gens (.list xs) o) (k:∀(vs:List Value) (n:Nat) (za:o.cls=.type "list") (zb:o.dict=none) (zc:o.slots=#[]) (zd:o.data=.seq vs.toArray n) (ze:VRs F xs vs),P):P:=by
 refine xa2_5 h.inv ?_;intro vs n a b c d e;exact k vs n a b c d e
theorem OR.dictC {l:List (As×AV)} {ep:Nat} (h:OR C F gens (.dict l ep) o) (k:∀(es:Array DictEntry) (kvs:List (As×Value)) (za:o.ExactDict) (zb:o.data=.dict es ep) (zc:KeysOf (Bh C.prog C.w) es) (zd:Pairs (Bh C.prog C.w) es.toList kvs) (ze:(kvs.map (·.1)).Nodup) (zf:SV F l kvs),P):P:=by
 refine xa2_6 h.inv ?_;intro vs n a b c d e f;exact k vs n a b c d e f
theorem OR.isetC {S:Int→Bool} {n:Nat} (h:OR C F gens (.iset S n) o) (k:∀(es ep t) (za:o.ExactSet) (zb:o.data=.set es ep t) (zc:ElemsOf (intKind C.prog C.w) es.toList) (zd:∀k,S k=true↔∃e∈es.toList,(intKind C.prog C.w).is k e.2=true) (ze:es.size<scanBound) (zf:t.fits es.size=true) (zg:es.size=n),P):P:=by
 refine xa3_7 h.inv ?_;intro vs m t a b c d e f g;exact k vs m t a b c d e f g
theorem OR.nsC {fs:List (Str×AV)} (h:OR C F gens (.ns fs) o) (k:∀(ds:List DictEntry) (n:Nat) (za:o.ExactDict) (zb:o.data=.dict ds.toArray n) (zc:NR C.w.params F fs ds),P):P:=by
 refine xa2_3 h.inv ?_;intro vs n a b c;exact k vs n a b c
theorem OR.instC {K d:Addr} (h:OR C F gens (.inst K d) o) (k:∀zo:o={ cls:=.ref K,dict:=some d,data:=.plain },P):P:=k h.inv
theorem OR.slotC {K:Addr} {vs:List (Option AV)} (h:OR C F gens (.slot K vs) o) (k:∀(us:List (Option Value)) (d:Addr) (zo:o={ cls:=.ref K,dict:=some d,data:=.plain,slots:=us.toArray }) (za:F d=some emptyDict) (zb:B2 F vs us),P):P:=by
 refine xa2_3 h.inv ?_;intro us d a b c;exact k us d a b c
theorem OR.fieldsC {c:String} {vs:List AV} (h:OR C F gens (.fields c vs) o) (k:∀(us:List Value) (za:o.cls=.type c) (zb:o.dict=none) (zc:o.slots=#[]) (zd:o.data=.fields us.toArray) (ze:VRs F vs us),P):P:=by
 refine xa1_5 h.inv ?_;intro us a b c d e;exact k us a b c d e
theorem OR.itrC {c:String} {vs:List AV} (h:OR C F gens (.itr c vs) o) (k:∀(us:List Value) (za:o.cls=.type c) (zb:o.data=.fields us.toArray) (zc:VRs F vs us),P):P:=by
 refine xa1_3 h.inv ?_;intro us a b c;exact k us a b c
theorem OR.frameC {loc:List (Str×AV)} (h:OR C F gens (.frame loc) o) (k:∀(es:Array DictEntry) (ep:Nat) (za:o.data=.dict es ep) (zb:StrKeys es) (zc:∀x av,loc.lookup x=some av→∃v,nsFind es x=some v∧VR F av v),P):P:=by
 refine xa2_3 h.inv ?_;intro es ep a b c;exact k es ep a b c
theorem OR.genC {g:Nat} {gs:GenState} (h:OR C F gens (.gen g gs) o) (k:∀(n q t u) (za:o.cls=.type "generator") (zb:o.dict=none) (zc:o.slots=#[]) (zd:o.data=.fields #[.int g 0,.str n t,.str q u]) (ze:gens[g]? = some gs),P):P:=by
 refine xa4_5 h.inv ?_;intro n q t u a b c d e;exact k n q t u a b c d e
end
end
section
noncomputable abbrev HP:=Addr→Option AO
noncomputable def upd (hp:HP) (a:Addr) (x:AO):HP:=fun b=>if b=a then some x else hp b
@[simp] theorem Ae (hp:HP) (a:Addr) (x:AO):upd hp a x a=some x:=by simp [upd]
theorem Ac (hp:HP) {a b:Addr} (x:AO) (h:b≠a):upd hp a x b=hp b:=by simp [upd,h]
theorem OR.mono {C:Cf} {F F':FH} {gens:Array GenState} (e:A6 F F') {x:AO} {o:Obj} (h:OR C F gens x o):OR C F' gens x o:=by
 cases h with
 |list a a1 a2 b c=>exact .list a a1 a2 b (c.mono e)
 |dict a b c d f g=>exact .dict a b c d f (g.mono e)
 |iset a b c d f g i=>exact .iset a b c d f g i
 |ns a b c=>exact .ns a b (c.mono e)
 |inst=>exact .inst
 |slot d a=>exact .slot (e _ _ d) (a.mono e)
 |fields a a1 a2 b c=>exact .fields a a1 a2 b (c.mono e)
 |itr a b c=>exact .itr a b (c.mono e)
 |frame a b c=>exact .frame a b fun x av h=>let ⟨v,q,r⟩:=c x av h;⟨v,q,r.mono e⟩
 |gen a a1 a2 b c=>exact .gen a a1 a2 b c
theorem AH {α:Type} {m:Addr→Option α} {c:Addr} (hm:m c=none) {b:Addr} {o:α} (e:m b=some o):b≠c:=by rintro rfl;rw [hm] at e;exact Ak e
noncomputable def EP (o o':Obj):Prop:=o'=o∨((∃es ep,o.data=.dict es ep)∧∃sl,o'={ o with slots:=sl })
theorem EP.rfl' (o:Obj):EP o o:=.inl rfl
theorem EP.data {o o':Obj} (h:EP o o'):o'.data=o.data:=by
 rcases h with rfl|⟨zu,sl,rfl⟩<;>rfl
theorem EP.exact {o o':Obj} (h:EP o o') (hd:∀es ep,o.data≠.dict es ep):o'=o:=by
 rcases h with rfl|⟨⟨es,ep,e⟩,zu⟩
 ·rfl
 ·exact absurd e (hd es ep)
structure Wd (C:Cf) (F G:FH) (hp:HP) (s:Shared):Prop where
 base:∀b o,C.h0.get? b=some o→F b=some o
 fz:∀b o,F b=some o→s.heap.get? b=some o
 gz:∀b o,G b=some o→∃o',s.heap.get? b=some o'∧EP o o'
 ob:∀a x,hp a=some x→F a=none∧G a=none∧∃o,s.heap.get? a=some o∧OR C F s.gens x o
 os:s.os=C.os
 bare:AllBare s.gens
 gi:∀a b g gs gs',hp a=some (.gen g gs)→hp b=some (.gen g gs')→a=b
 fg:∀b o,F b=some o→G b=none
noncomputable def CA:AO→Bool
 |.gen ..=>true
 |_=>false
theorem OR.gens {C:Cf} {F:FH} {g g':Array GenState} {x:AO} {o:Obj} (hx:CA x=false) (h:OR C F g x o):OR C F g' x o:=by
 cases h with
 |list a a1 a2 b c=>exact .list a a1 a2 b c
 |dict a b c d f g=>exact .dict a b c d f g
 |iset a b c d f g i=>exact .iset a b c d f g i
 |ns a b c=>exact .ns a b c
 |inst=>exact .inst
 |slot d a=>exact .slot d a
 |fields a a1 a2 b c=>exact .fields a a1 a2 b c
 |itr a b c=>exact .itr a b c
 |frame a b c=>exact .frame a b c
 |gen a b c=>exact CJ hx
section
variable {C:Cf} {F G:FH} {hp:HP} {s:Shared}
theorem Wd.lt (W:Wd C F G hp s) {b:Addr} (h:s.heap.objs.size≤b):F b=none∧G b=none∧hp b=none:=by
 refine ⟨?_,?_,?_⟩
 ·cases e:F b with
  |none=>rfl
  |some o=>exact absurd (Heap.lt_size (W.fz b o e)) (Nat.not_lt.mpr h)
 ·cases e:G b with
  |none=>rfl
  |some o=>refine xa1_2 (W.gz b o e) ?_;intro o' ho zu;exact absurd (Heap.lt_size ho) (Nat.not_lt.mpr h)
 ·cases e:hp b with
  |none=>rfl
  |some x=>
   refine cps fun zP zk=>?_;(rcases W.ob b x e with ⟨zu,zu,o,ho,zu⟩)<;>(refine zk ?_;clear zk zP)
   exact absurd (Heap.lt_size ho) (Nat.not_lt.mpr h)
theorem Wd.keep (W:Wd C F G hp s) {h':Heap} {t:Nat} (k:∀b o,s.heap.get? b=some o→h'.get? b=some o):Wd C F G hp ⟨h',s.gens,s.drawn,t,s.os⟩:=
 ⟨W.base,fun b o e=>k _ _ (W.fz b o e),fun b o e=>let ⟨o',q,r⟩:=W.gz b o e;⟨o',k _ _ q,r⟩,fun a x e=>let ⟨p,q,o,ho,r⟩:=W.ob a x e;⟨p,q,o,k _ _ ho,r⟩,W.os,W.bare,W.gi,W.fg⟩
theorem Wd.keepBut (W:Wd C F G hp s) {h':Heap} {t:Nat} {c:Addr} (hF:F c=none) (hG:G c=none) (hh:hp c=none) (k:∀b o,b≠c→s.heap.get? b=some o→h'.get? b=some o):Wd C F G hp ⟨h',s.gens,s.drawn,t,s.os⟩:=by
 exact ⟨W.base,fun b o e=>k _ _ (AH hF e) (W.fz b o e),fun b o e=>let ⟨o',q,r⟩:=W.gz b o e;⟨o',k _ _ (AH hG e) q,r⟩,fun a x e=>let ⟨p,q,o,ho,r⟩:=W.ob a x e;⟨p,q,o,k _ _ (AH hh e) ho,r⟩,W.os,W.bare,W.gi,W.fg⟩
theorem Wd.change (W:Wd C F G hp s) {h':Heap} {t:Nat} {c:Addr} {x x':AO} {o':Obj} (e:hp c=some x) (hx:CA x'=false) (ho:h'.get? c=some o') (r:OR C F s.gens x' o')
  (k:∀b o,b≠c→s.heap.get? b=some o→h'.get? b=some o):Wd C F G (upd hp c x') ⟨h',s.gens,s.drawn,t,s.os⟩:=by
 refine xa0_3 (W.ob c x e) ?_;intro hF hG zu
 refine ⟨W.base,fun b o e=>k _ _ (AH hF e) (W.fz b o e),fun b o e=>let ⟨o',q,r⟩:=W.gz b o e;⟨o',k _ _ (AH hG e) q,r⟩,fun a y e'=>?_,W.os,W.bare,fun a b g gs gs' ea eb=>?_,W.fg⟩
 ·by_cases h:a=c
  ·subst h
   rw [Ae] at e';(have zc:=Option.some.inj e';clear e';subst zc)
   exact ⟨hF,hG,o',ho,r⟩
  ·rw [Ac _ _ h] at e'
   refine cps fun zP zk=>?_;(rcases W.ob a y e' with ⟨p,q,o,ho',r'⟩)<;>(refine zk ?_;clear zk zP)
   exact ⟨p,q,o,k _ _ h ho',r'⟩
 ·have na:a≠c:=by rintro rfl;rw [Ae] at ea;(have zc:=Option.some.inj ea;clear ea;subst zc);exact CJ hx
  have nb:b≠c:=by rintro rfl;rw [Ae] at eb;(have zc:=Option.some.inj eb;clear eb;subst zc);exact CJ hx
  rw [Ac _ _ na] at ea
  rw [Ac _ _ nb] at eb
  exact W.gi _ _ _ _ _ ea eb
theorem Wd.alloc (W:Wd C F G hp s) {t:Nat} {x':AO} {o':Obj} (hx:CA x'=false) (hf:o'.isFreed=false) (r:OR C F s.gens x' o') :
  Wd C F G (upd hp s.heap.objs.size x') ⟨s.heap.push o',s.gens,s.drawn,t,s.os⟩:=by
 refine xa0_3 (W.lt (Nat.le_refl _)) ?_;intro hF hG hh
 have k:∀b o,s.heap.get? b=some o→(s.heap.push o').get? b=some o:=fun b o e=>Heap.get?_push_of_some _ e
 refine ⟨W.base,fun b o e=>k _ _ (W.fz b o e),fun b o e=>let ⟨o',q,r⟩:=W.gz b o e;⟨o',k _ _ q,r⟩,fun a y e'=>?_,W.os,W.bare,fun a b g gs gs' ea eb=>?_,W.fg⟩
 ·by_cases h:a=s.heap.objs.size
  ·subst h
   rw [Ae] at e';(have zc:=Option.some.inj e';clear e';subst zc)
   exact ⟨hF,hG,o',Heap.get?_push_size _ hf,r⟩
  ·rw [Ac _ _ h] at e'
   refine cps fun zP zk=>?_;(rcases W.ob a y e' with ⟨p,q,o,ho',r'⟩)<;>(refine zk ?_;clear zk zP)
   exact ⟨p,q,o,k _ _ ho',r'⟩
 ·have na:a≠s.heap.objs.size:=by rintro rfl;rw [Ae] at ea;(have zc:=Option.some.inj ea;clear ea;subst zc);exact CJ hx
  have nb:b≠s.heap.objs.size:=by rintro rfl;rw [Ae] at eb;(have zc:=Option.some.inj eb;clear eb;subst zc);exact CJ hx
  rw [Ac _ _ na] at ea
  rw [Ac _ _ nb] at eb
  exact W.gi _ _ _ _ _ ea eb
noncomputable def AR (F:FH) (a:Addr) (o:Obj):FH:=fun b=>if b=a then some o else F b
theorem Ar (F:FH) (a:Addr) (o:Obj):AR F a o a=some o:=by simp [AR]
theorem AQ {F:FH} {a:Addr} (o:Obj) (h:F a=none):A6 F (AR F a o):=fun b ob e=>by
 have:b≠a:=by rintro rfl;rw [h] at e;exact Ak e
 simp [AR,this,e]
theorem Wd.freeze (W:Wd C F G hp s) {t:Nat} {o':Obj} (hf:o'.isFreed=false) :
  Wd C (AR F s.heap.objs.size o') G hp ⟨s.heap.push o',s.gens,s.drawn,t,s.os⟩∧A6 F (AR F s.heap.objs.size o'):=by
 refine xa0_3 (W.lt (Nat.le_refl _)) ?_;intro hF hG hh
 have k:∀b o,s.heap.get? b=some o→(s.heap.push o').get? b=some o:=fun b o e=>Heap.get?_push_of_some _ e
 have ex:=AQ o' hF
 refine ⟨⟨fun b o e=>ex _ _ (W.base b o e),fun b o e=>?_,fun b o e=>let ⟨o',q,r⟩:=W.gz b o e;⟨o',k _ _ q,r⟩,fun a y e'=>?_,W.os,W.bare,W.gi,fun b o e=>?_⟩,ex⟩
 ·by_cases h:b=s.heap.objs.size
  ·subst h
   rw [Ar] at e;(have zc:=Option.some.inj e;clear e;subst zc)
   exact Heap.get?_push_size _ hf
  ·simp only [AR,h,if_false] at e
   exact k _ _ (W.fz b o e)
 ·refine cps fun zP zk=>?_;(rcases W.ob a y e' with ⟨p,q,o,ho',r'⟩)<;>(refine zk ?_;clear zk zP)
  have h:a≠s.heap.objs.size:=by rintro rfl;rw [hh] at e';exact Ak e'
  exact ⟨by simp [AR,h,p],q,o,k _ _ ho',r'.mono ex⟩
 ·by_cases h:b=s.heap.objs.size
  ·subst h;exact hG
  ·simp only [AR,h,if_false] at e
   exact W.fg b o e
end
structure Fm (F G:FH) (hp:HP) (env:Env) (loc:List (Str×AV)) (h:Heap):Prop where
 kind:env.scope.kind=.function
 ns:∃m,h.Ns env.locals m∧∀x av,loc.lookup x=some av→env.kindOf x=some .local→∃v,m x=some v∧VR F av v
 lo:F env.locals=none∧G env.locals=none∧hp env.locals=none
 co:∀x,env.kindOf x=some .cell→∃c,env.cells.lookup x=some c∧F c=none∧G c=none∧hp c=none∧c≠env.locals∧(∃v,h.IsCell c v)
 ci:∀x y c,env.kindOf x=some .cell→env.kindOf y=some .cell→env.cells.lookup x=some c→env.cells.lookup y=some c→x=y
 cv:∀x av c,loc.lookup x=some av→env.kindOf x=some .cell→env.cells.lookup x=some c→∃v,h.IsCell c (some v)∧VR F av v
 fv:∀x av,loc.lookup x=some av→env.kindOf x=some .free→∃c v o,env.cells.lookup x=some c∧G c=some o∧o.data=.cell (some v)∧VR F av v
structure Am where
 loc:List (Str×AV)
 hp:HP
noncomputable def Lq (G:FH) (e:Env):Prop:=e.scope.kind≠.module∧∃L o,e.frame=some L∧G L=some o∧∃es ep,o.data=.dict es ep
theorem Lq.mono {G G':FH} {e:Env} (x:A6 G G') (h:Lq G e):Lq G' e:=let ⟨a,L,o,b,c,d⟩:=h;⟨a,L,o,b,x _ _ c,d⟩
noncomputable def Fs (A:Around) (G:FH):Prop:=∃l,A.frames=some l∧∀e∈l,Lq G e
noncomputable def FP (A:Around) (G:FH) (env:Env):Prop:=∃e l,A.frames=some (e::l)∧e.scope.kind≠.module∧e.frame=env.frame∧((e=env∧env.frame=some env.locals)∨Lq G e)∧∀e'∈l,Lq G e'
theorem FP.mono {A:Around} {G G':FH} {env:Env} (x:A6 G G') (h:FP A G env):FP A G' env:=
 let ⟨e,l,a,b,c,d,f⟩:=h;⟨e,l,a,b,c,d.imp id (Lq.mono x),fun e' h'=>(f e' h').mono x⟩
structure Rp (C:Cf) (A:Around) (F G:FH) (env:Env) (σ:Am) (s:Shared):Prop where
 wd:Wd C F G σ.hp s
 fm:Fm F G σ.hp env σ.loc s.heap
 fs:FP A G env
section
variable {C:Cf} {F F' G:FH} {hp:HP} {env:Env} {loc:List (Str×AV)} {h h':Heap}
theorem Fm.keep (M:Fm F G hp env loc h) {F':FH} {hp':HP} (e:A6 F F') (k:∀b o,h.get? b=some o→F b=none→G b=none→hp b=none→h'.get? b=some o∧F' b=none∧hp' b=none):Fm F' G hp' env loc h':=by
 refine cps fun zP zk=>?_;(rcases M with ⟨kd,⟨m,hm,hv⟩,⟨l1,l2,l3⟩,co,ci,cv,fv⟩)<;>(refine zk ?_;clear zk zP)
 refine xa3_2 (id hm) ?_;intro o es ep ho r
 refine xa0_3 (k _ _ ho l1 l2 l3) ?_;intro z1 z2 z3
 refine ⟨kd,⟨m,⟨o,es,ep,z1,r⟩,fun x av h1 h2=>let ⟨v,a,b⟩:=hv x av h1 h2;⟨v,a,b.mono e⟩⟩,⟨z2,l2,z3⟩,fun x hx=>?_,ci,fun x av c h1 h2 h3=>?_,fun x av h1 h2=>?_⟩
 ·refine cps fun zP zk=>?_;(rcases co x hx with ⟨c,hc,c1,c2,c3,c4,v,o,ho,hd⟩)<;>(refine zk ?_;clear zk zP)
  refine xa0_3 (k _ _ ho c1 c2 c3) ?_;intro y1 y2 y3
  exact ⟨c,hc,y2,c2,y3,c4,v,o,y1,hd⟩
 ·refine xa1_2 (cv x av c h1 h2 h3) ?_;intro v;intro zq;refine xa1_2 zq ?_;(try clear zq);intro o ho hd;intro hvr
  refine xa1_5 (co x h2) ?_;intro c' hc' c1 c2 c3 zu
  rw [h3] at hc';(have zc:=Option.some.inj hc';clear hc';subst zc)
  exact ⟨v,⟨o,(k _ _ ho c1 c2 c3).1,hd⟩,hvr.mono e⟩
 ·refine xa3_4 (fv x av h1 h2) ?_;intro c v o a1 a2 a3 a4
  exact ⟨c,v,o,a1,a2,a3,a4.mono e⟩
end
section
variable {C:Cf} {A:Around} {F G:FH} {env:Env} {σ:Am} {s:Shared}
theorem Rp.keep (R:Rp C A F G env σ s) {h':Heap} {t:Nat} (k:∀b o,s.heap.get? b=some o→h'.get? b=some o):Rp C A F G env σ ⟨h',s.gens,s.drawn,t,s.os⟩:=
 ⟨R.wd.keep k,R.fm.keep (A6.refl F) fun b o e a b' c=>⟨k _ _ e,a,c⟩,R.fs⟩
theorem Rp.tok (R:Rp C A F G env σ s) (t:Nat):Rp C A F G env σ { s with toks:=t }:=R.keep fun zu zu e=>e
theorem Rp.change (R:Rp C A F G env σ s) {h':Heap} {t:Nat} {c:Addr} {x x':AO} {o':Obj} (e:σ.hp c=some x) (hx:CA x'=false) (ho:h'.get? c=some o') (r:OR C F s.gens x' o')
  (k:∀b o,b≠c→s.heap.get? b=some o→h'.get? b=some o):Rp C A F G env { σ with hp:=upd σ.hp c x' } ⟨h',s.gens,s.drawn,t,s.os⟩:=
 ⟨R.wd.change e hx ho r k,R.fm.keep (A6.refl F) fun b o e' a b' c'=>by
  have ne:b≠c:=by rintro rfl;rw [e] at c';exact Ao c'
  exact ⟨k _ _ ne e',a,by show upd σ.hp c x' b=none;rw [Ac _ _ ne];exact c'⟩,R.fs⟩
theorem Rp.alloc (R:Rp C A F G env σ s) {t:Nat} {x':AO} {o':Obj} (hx:CA x'=false) (hf:o'.isFreed=false) (r:OR C F s.gens x' o') :
  Rp C A F G env { σ with hp:=upd σ.hp s.heap.objs.size x' } ⟨s.heap.push o',s.gens,s.drawn,t,s.os⟩:=
 ⟨R.wd.alloc hx hf r,R.fm.keep (A6.refl F) fun b o e' a b' c'=>by
  have ne:b≠s.heap.objs.size:=Nat.ne_of_lt (Heap.lt_size e')
  exact ⟨Heap.get?_push_of_some _ e',a,by show upd σ.hp _ x' b=none;rw [Ac _ _ ne];exact c'⟩,R.fs⟩
theorem Rp.freeze (R:Rp C A F G env σ s) {t:Nat} {o':Obj} (hf:o'.isFreed=false) :
  Rp C A (AR F s.heap.objs.size o') G env σ ⟨s.heap.push o',s.gens,s.drawn,t,s.os⟩∧A6 F (AR F s.heap.objs.size o'):=by
 refine xa0_2 (R.wd.freeze (t:=t) hf) ?_;intro a e
 refine ⟨⟨a,R.fm.keep e fun b o e' a b' c'=>?_,R.fs⟩,e⟩
 have ne:b≠s.heap.objs.size:=Nat.ne_of_lt (Heap.lt_size e')
 exact ⟨Heap.get?_push_of_some _ e',by simp [AR,ne,a],c'⟩
theorem Rp.lt (R:Rp C A F G env σ s):σ.hp s.heap.objs.size=none:=(R.wd.lt (Nat.le_refl _)).2.2
end
inductive Av {α β:Type} (C:Cf) (A:Around) (G:FH) (env:Env) (R:FH→β→α→Prop) (Q:β→Am→Prop) (F:FH) (v:α) (s':Shared):Prop
 |intro (F':FH) (b:β) (σ':Am) (e:A6 F F') (r:R F' b v) (hR:Rp C A F' G env σ' s') (q:Q b σ')
noncomputable def Tr {α β:Type} (C:Cf) (A:Around) (E:Value→Shared→Prop) (env:Env) (R:FH→β→α→Prop) (t:Sem α) (σ:Am) (Q:β→Am→Prop):Prop:=
 ∀F G s,Rp C A F G env σ s→wpAny (model C.prog C.w) A t (Av C A G env R Q F) E s
inductive A5 where
 |next|brk|cont
 |ret (v:AV)
inductive Mf (F:FH):A5→Flow→Prop
 |next:Mf F .next .next
 |brk:Mf F .brk .brk
 |cont:Mf F .cont .cont
 |ret {a v}:VR F a v→Mf F (.ret a) (.ret v)
noncomputable abbrev Ev (C:Cf) (A:Around) (E:Value→Shared→Prop) (env:Env) (e:Expr) (σ:Am) (Q:AV→Am→Prop):Prop:=Tr C A E env VR (eval e env) σ Q
noncomputable abbrev Ex (C:Cf) (A:Around) (E:Value→Shared→Prop) (env:Env) (e:Stmt) (σ:Am) (Q:A5→Am→Prop):Prop:=Tr C A E env Mf (exec e env) σ Q
noncomputable abbrev Dn (C:Cf) (A:Around) (E:Value→Shared→Prop) (env:Env) (e:List Stmt) (σ:Am) (Q:A5→Am→Prop):Prop:=Tr C A E env Mf (execs e env) σ Q
noncomputable abbrev Et (C:Cf) (A:Around) (E:Value→Shared→Prop) (env:Env) (e:Expr) (σ:Am) (Q:Bool→Am→Prop):Prop:=Tr C A E env (fun zu b b'=>b=b') (isTrue e env (eval e env)) σ Q
section
variable {C:Cf} {A:Around} {E:Value→Shared→Prop} {env:Env} {σ:Am}
theorem Tr.mono {α β:Type} {R:FH→β→α→Prop} {t:Sem α} {Q Q':β→Am→Prop} (h:Tr C A E env R t σ Q) (k:∀b σ',Q b σ'→Q' b σ'):Tr C A E env R t σ Q':=
 fun F G s hR=>wpAny_mono (h F G s hR) (fun _ _ ⟨F',b,σ',a1,a2,a3,a4⟩=>⟨F',b,σ',a1,a2,a3,k _ _ a4⟩) fun zu zu x=>x
theorem Tr.gen {α β:Type} {R:FH→β→α→Prop} {t:Sem α} {Q:β→Am→Prop} (h:∀K:β→Am→Prop,(∀b σ',Q b σ'→K b σ')→Tr C A E env R t σ K):Tr C A E env R t σ Q:=
 h Q fun zu zu x=>x
theorem Al {Q:A5→Am→Prop} (h:Q .next σ):Dn C A E env [] σ Q:=
 fun F G s hR=>wpAny_execs_nil ⟨F,.next,σ,A6.refl F,.next,hR,h⟩
noncomputable def NK (C:Cf) (A:Around) (E:Value→Shared→Prop) (env:Env) (rest:List Stmt) (Q:A5→Am→Prop) (f:A5) (σ:Am):Prop:=
 match f with
 |.next=>Dn C A E env rest σ Q
 |f=>Q f σ
theorem Aa {st:Stmt} {rest:List Stmt} {Q:A5→Am→Prop}
  (h:Ex C A E env st σ (NK C A E env rest Q)):Dn C A E env (st::rest) σ Q:=by
 intro F G s hR
 refine wpAny_execs_cons (wpAny_mono (h F G s hR) ?_ fun zu zu x=>x)
 rintro f s' ⟨F',b,σ',e1,r,hR',hQ⟩
 cases r with
 |next=>exact wpAny_mono (hQ F' G s' hR') (fun _ _ ⟨F'',b,σ',a1,a2,a3,a4⟩=>⟨F'',b,σ',e1.trans a1,a2,a3,a4⟩) fun zu zu x=>x
 |brk=>exact ⟨F',_,σ',e1,.brk,hR',hQ⟩
 |cont=>exact ⟨F',_,σ',e1,.cont,hR',hQ⟩
 |ret r=>exact ⟨F',_,σ',e1,.ret r,hR',hQ⟩
theorem Bc {test:Expr} {body orelse:List Stmt} {pos:Pos} {Q:A5→Am→Prop}
  (h:Et C A E env test σ (fun b σ'=>if b then Dn C A E env body σ' Q else Dn C A E env orelse σ' Q)):Ex C A E env (.If test body orelse pos) σ Q:=by
 intro F G s hR
 refine wpAny_If (wpAny_mono (h F G s hR) ?_ fun zu zu x=>x)
 rintro f s' ⟨F',b,σ',e1,rfl,hR',hQ⟩
 cases b with
 |true=>exact wpAny_mono (hQ F' G s' hR') (fun _ _ ⟨F'',b,σ',a1,a2,a3,a4⟩=>⟨F'',b,σ',e1.trans a1,a2,a3,a4⟩) fun zu zu x=>x
 |false=>exact wpAny_mono (hQ F' G s' hR') (fun _ _ ⟨F'',b,σ',a1,a2,a3,a4⟩=>⟨F'',b,σ',e1.trans a1,a2,a3,a4⟩) fun zu zu x=>x
end
end
section
noncomputable def Eh:List (Str×AV)→Str→AV→List (Str×AV)
 |[],x,v=>[(x,v)]
 |(y,u)::r,x,v=>if y == x then (x,v)::r else (y,u)::Eh r x v
theorem A9 (l:List (Str×AV)) (x y:Str) (v:AV):(Eh l x v).lookup y=if y=x then some v else l.lookup y:=by
 induction l with
 |nil=>
  simp only [Eh,List.lookup]
  by_cases h:y=x
  ·subst h;simp
  ·simp [h,beq_eq_false_iff_ne.mpr h]
 |cons p r ih=>
  refine cps fun zP zk=>?_;(rcases p with ⟨k,u⟩)<;>(refine zk ?_;clear zk zP)
  simp only [Eh]
  by_cases hk:k=x
  ·subst hk
   simp only [beq_self_eq_true,if_true,List.lookup]
   by_cases h:y=k
   ·subst h;simp
   ·simp [h,beq_eq_false_iff_ne.mpr h]
  ·simp only [beq_eq_false_iff_ne.mpr hk,Bool.false_eq_true,if_false,List.lookup]
   by_cases h:y=k
   ·subst h;simp [hk]
   ·simp only [beq_eq_false_iff_ne.mpr h,ih]
@[reducible] noncomputable def Am.set (σ:Am) (x:Str) (v:AV):Am:={ σ with loc:=Eh σ.loc x v }
@[reducible] noncomputable def Am.put (σ:Am) (a:Addr) (x:AO):Am:={ σ with hp:=upd σ.hp a x }
section
variable {C:Cf} {A:Around} {E:Value→Shared→Prop} {env:Env} {σ:Am} {F G:FH} {s:Shared}
theorem Av.of {α β:Type} {R:FH→β→α→Prop} {Q:β→Am→Prop} {v:α} {b:β} (hr:R F b v) (hR:Rp C A F G env σ s) (q:Q b σ):Av C A G env R Q F v s:=
 ⟨F,b,σ,A6.refl F,hr,hR,q⟩
theorem Av.ext {α β:Type} {R:FH→β→α→Prop} {Q:β→Am→Prop} {v:α} {F₁:FH} (e:A6 F F₁) (h:Av C A G env R Q F₁ v s):Av C A G env R Q F v s:=by
 refine cps fun zP zk=>?_;(rcases h with ⟨F',b,σ',a1,a2,a3,a4⟩)<;>(refine zk ?_;clear zk zP)
 exact ⟨F',b,σ',e.trans a1,a2,a3,a4⟩
theorem Tr.use {α β:Type} {R:FH→β→α→Prop} {t:Sem α} {Q:β→Am→Prop} (h:Tr C A E env R t σ Q) (hR:Rp C A F G env σ s) {P:α→Shared→Prop}
  (k:∀F' b σ' v s',A6 F F'→R F' b v→Rp C A F' G env σ' s'→Q b σ'→P v s'):wpAny (model C.prog C.w) A t P E s:=
 wpAny_mono (h F G s hR) (fun v s' ⟨F',b,σ',a1,a2,a3,a4⟩=>k F' b σ' v s' a1 a2 a3 a4) fun zu zu x=>x
theorem Tr.go {α β:Type} {R:FH→β→α→Prop} {t:Sem α} {Q:β→Am→Prop} {F₀:FH} (h:Tr C A E env R t σ Q) (hR:Rp C A F G env σ s) (e:A6 F₀ F):wpAny (model C.prog C.w) A t (Av C A G env R Q F₀) E s:=
 wpAny_mono (h F G s hR) (fun v s' z=>Av.ext e z) fun zu zu x=>x
theorem Bv {k pos} {Q:AV→Am→Prop} (h:Q .none σ):Ev C A E env (.Constant .none k pos) σ Q:=fun F G s hR=>wpAny_pure (Av.of .none hR h)
theorem Ec {b k pos} {Q:AV→Am→Prop} (h:Q (.bool b) σ):Ev C A E env (.Constant (.bool b) k pos) σ Q:=fun F G s hR=>wpAny_pure (Av.of (.bool b) hR h)
theorem FE {i k pos} {Q:AV→Am→Prop} (h:Q (.int i) σ):Ev C A E env (.Constant (.int i) k pos) σ Q:=fun F G s hR=>wpAny_Constant_int (Av.of (.int i _) (hR.tok _) h)
theorem Wd.gzx {hp:HP} (W:Wd C F G hp s) {b:Addr} {o:Obj} (e:G b=some o) (hd:∀es ep,o.data≠.dict es ep):s.heap.get? b=some o:=by
 refine xa1_2 (W.gz b o e) ?_;intro o' h1 h2
 rw [←h2.exact hd];exact h1
noncomputable def C9:Option NameKind→Bool
 |some .local=>true
 |some .cell=>true
 |some .free=>true
 |_=>false
theorem Ku {x:Str} {av:AV} {Q:Value→Shared→Prop} (hR:Rp C A F G env σ s) (hv:σ.loc.lookup x=some av) (hk:C9 (env.kindOf x)=true) (hn:(x == ("__classdict__" : Str))=false)
  (h:∀v,VR F av v→Q v s):wpAny (model C.prog C.w) A (loadName env x) Q E s:=by
 cases q:env.kindOf x with
 |none=>rw [q] at hk;exact By hk
 |some kd=>
  rw [q] at hk
  cases kd<;>first|(first|exact By hk|cases hk)|skip
  ·refine xa1_2 hR.fm.ns ?_;intro m hm hv'
   refine xa1_2 (hv' x av hv q) ?_;intro v h1 h2
   exact wpAny_loadName_local hR.fm.kind q hm h1 (h v h2)
  ·refine xa1_2 (hR.fm.co x q) ?_;intro c hc zu
   refine xa1_2 (hR.fm.cv x av c hv q hc) ?_;intro v h1 h2
   exact wpAny_loadName_cell hR.fm.kind q hc h1 (h v h2)
  ·refine xa3_4 (hR.fm.fv x av hv q) ?_;intro c v o h1 h2 h3 h4
   exact wpAny_loadName_free hR.fm.kind q h1 ⟨o,hR.wd.gzx h2 (by intro es ep z;rw [h3] at z;cases z),h3⟩ (h v h4) hn
theorem Ab {x pos av} {Q:AV→Am→Prop} (hv:σ.loc.lookup x=some av) (h:Q av σ) (hk:C9 (env.kindOf x)=true:=by rfl)
  (hd:(x == ("__debug__" : Str))=false:=by decide) (hn:(x == ("__classdict__" : Str))=false:=by decide):Ev C A E env (.Name x pos) σ Q:=
 fun F G s hR=>wpAny_Name (Ku hR hv hk hn fun v hv=>Av.of hv hR h) hd
noncomputable def GL (C:Cf) (x:Str) (v:Value):Prop:=∀env:Env,env.globals=mainGlobals→env.builtins=builtinsNs→Looks (model C.prog C.w) C.h0 (loadGlobal env x) v
theorem Wd.old {hp:HP} (W:Wd C F G hp s):∀b o,C.h0.get? b=some o→s.heap.get? b=some o:=fun b o e=>W.fz _ _ (W.base _ _ e)
theorem Dc {env:Env} {x:Str} (hs:env.scope.kind=.function) (hk:env.kindOf x=some .globalImplicit):loadName env x=loadGlobal env x:=by
 unfold loadName
 simp only [Env.blockKind,hs,hk,ScopeKind.isAnnotationScope,Bool.false_and,Bool.false_eq_true,if_false]
theorem Gs {x pos v} {Q:AV→Am→Prop} (av:AV) (hg:GL C x v) (ha:∀F,VR F av v) (h:Q av σ) (hk:env.kindOf x=some .globalImplicit:=by rfl) (hs:env.scope.kind=.function:=by rfl) (h1:env.globals=mainGlobals:=by rfl) (h2:env.builtins=builtinsNs:=by rfl)
  (hd:(x == ("__debug__" : Str))=false:=by decide):Ev C A E env (.Name x pos) σ Q:=by
 intro F G s hR
 refine wpAny_Name ?_ hd
 rw [Dc hs hk]
 exact hg env h1 h2 A _ E s hR.wd.old (Av.of (ha F) hR h)
theorem GI {x pos a} {Q:AV→Am→Prop} (hg:GL C x (.ref a)) (h:Q (.ref a) σ) (hk:env.kindOf x=some .globalImplicit:=by rfl) (hs:env.scope.kind=.function:=by rfl) (h1:env.globals=mainGlobals:=by rfl) (h2:env.builtins=builtinsNs:=by rfl)
  (hd:(x == ("__debug__" : Str))=false:=by decide):Ev C A E env (.Name x pos) σ Q:=Gs _ hg (fun F=>.ref a) h hk hs h1 h2 hd
theorem C8 {x pos v} {Q:AV→Am→Prop} (hg:GL C x v) (h:Q (.val v) σ) (hk:env.kindOf x=some .globalImplicit:=by rfl) (hs:env.scope.kind=.function:=by rfl) (h1:env.globals=mainGlobals:=by rfl) (h2:env.builtins=builtinsNs:=by rfl)
  (hd:(x == ("__debug__" : Str))=false:=by decide):Ev C A E env (.Name x pos) σ Q:=Gs _ hg (fun F=>.val v) h hk hs h1 h2 hd
theorem Cq {x:Str} {av:AV} {v:Value} {Q:Unit→Shared→Prop} (hR:Rp C A F G env σ s) (hv:VR F av v) (hk:env.kindOf x=some .local∨env.kindOf x=some .cell)
  (h:∀s',Rp C A F G env (σ.set x av) s'→Q () s'):wpAny (model C.prog C.w) A (storeName env x v) Q E s:=by
 refine cps fun zP zk=>?_;(rcases hR.fm with ⟨kd,⟨m,hm,hmv⟩,⟨l1,l2,l3⟩,co,ci,cv,fv⟩)<;>(refine zk ?_;clear zk zP)
 have hfs:=hR.fs
 rcases hk with hk|hk
 ·refine wpAny_storeName_local hk hm (fun h' hn hs=>h _ ⟨?_,?_,hfs⟩) (by rw [kd];rfl)
  ·exact hR.wd.keepBut l1 l2 l3 fun b o ne e=>(hs.2 b ne).trans e
  ·refine ⟨kd,⟨_,hn,fun y aw hl hy=>?_⟩,⟨l1,l2,l3⟩,fun y hy=>?_,ci,fun y aw c hl hy hc=>?_,fun y aw hl hy=>?_⟩
   ·rw [A9] at hl
    by_cases e:y=x
    ·subst e;simp only [if_true] at hl ⊢;(have zc:=Option.some.inj hl;clear hl;subst zc);exact ⟨v,rfl,hv⟩
    ·simp only [e,if_false] at hl ⊢;exact hmv y aw hl hy
   ·refine cps fun zP zk=>?_;(rcases co y hy with ⟨c,h1,h2,h3,h4,h5,u,h6⟩)<;>(refine zk ?_;clear zk zP)
    exact ⟨c,h1,h2,h3,h4,h5,u,h6.sameBut hs h5⟩
   ·have e:y≠x:=by rintro rfl;rw [hk] at hy;cases hy
    rw [A9,if_neg e] at hl
    refine xa1_2 (cv y aw c hl hy hc) ?_;intro u h1 h2
    refine xa1_6 (co y hy) ?_;intro c' g1 zu zu zu g5 zu
    rw [hc] at g1;(have zc:=Option.some.inj g1;clear g1;subst zc)
    exact ⟨u,h1.sameBut hs g5,h2⟩
   ·have e:y≠x:=by rintro rfl;rw [hk] at hy;cases hy
    rw [A9,if_neg e] at hl
    exact fv y aw hl hy
 ·refine cps fun zP zk=>?_;(rcases co x hk with ⟨c,h1,h2,h3,h4,h5,u,h6⟩)<;>(refine zk ?_;clear zk zP)
  refine wpAny_storeName_cell kd hk h1 h6 fun h' hc' hs=>h _ ⟨?_,?_,hfs⟩
  ·exact hR.wd.keepBut h2 h3 h4 fun b o ne e=>(hs.2 b ne).trans e
  ·refine ⟨kd,⟨m,hm.sameBut hs h5.symm,fun y aw hl hy=>?_⟩,⟨l1,l2,l3⟩,fun y hy=>?_,ci,fun y aw d hl hy hd=>?_,fun y aw hl hy=>?_⟩
   ·have e:y≠x:=by rintro rfl;rw [hk] at hy;cases hy
    rw [A9,if_neg e] at hl
    exact hmv y aw hl hy
   ·refine cps fun zP zk=>?_;(rcases co y hy with ⟨d,g1,g2,g3,g4,g5,u',g6⟩)<;>(refine zk ?_;clear zk zP)
    by_cases e:d=c
    ·subst e;exact ⟨d,g1,g2,g3,g4,g5,_,hc'⟩
    ·exact ⟨d,g1,g2,g3,g4,g5,u',g6.sameBut hs e⟩
   ·rw [A9] at hl
    by_cases e:y=x
    ·subst e
     simp only [if_true] at hl;(have zc:=Option.some.inj hl;clear hl;subst zc)
     rw [h1] at hd;(have zc:=Option.some.inj hd;clear hd;subst zc)
     exact ⟨v,hc',hv⟩
    ·rw [if_neg e] at hl
     refine xa1_2 (cv y aw d hl hy hd) ?_;intro u' g1 g2
     have ne:d≠c:=by rintro rfl;exact e (ci y x d hy hk hd h1)
     exact ⟨u',g1.sameBut hs ne,g2⟩
   ·have e:y≠x:=by rintro rfl;rw [hk] at hy;cases hy
    rw [A9,if_neg e] at hl
    exact fv y aw hl hy
noncomputable def EA:Option NameKind→Bool
 |some .local=>true
 |some .cell=>true
 |_=>false
theorem CP {k:Option NameKind} (h:EA k=true):k=some .local∨k=some .cell:=by
 cases k with
 |none=>exact By h
 |some k=>cases k<;>first|exact .inl rfl|exact .inr rfl|(first|exact By h|cases h)
theorem Ai {x pos' value pos} {Q:A5→Am→Prop} (h:Ev C A E env value σ (fun v σ'=>Q .next (σ'.set x v))) (hk:EA (env.kindOf x)=true:=by rfl)
  (hs:swapsWith value (some (.Name x pos')) pos.line env=pure false:=by rfl):Ex C A E env (.Assign [.Name x pos'] value pos) σ Q:=by
 intro F G s hR
 refine wpAny_Assign_Name (h.use hR fun F' b σ' v s' e hv hR' hQ=>?_) hs
 exact Cq hR' hv (CP hk) fun s'' hR''=>Av.ext e (Av.of .next hR'' hQ)
theorem Dj {e pos} {Q:A5→Am→Prop} (h:Ev C A E env e σ (fun v σ'=>Q (.ret v) σ')):Ex C A E env (.Return (some e) pos) σ Q:=by
 intro F G s hR
 exact wpAny_Return_some (h.use hR fun F' b σ' v s' e hv hR' hQ=>Av.ext e (Av.of (.ret hv) hR' hQ))
theorem CY {pos} {Q:A5→Am→Prop} (h:Q (.ret .none) σ):Ex C A E env (.Return none pos) σ Q:=
 fun F G s hR=>wpAny_Return_none (Av.of (.ret .none) hR h)
theorem FD {pos} {Q:A5→Am→Prop} (h:Q .brk σ):Ex C A E env (.Break pos) σ Q:=fun F G s hR=>wpAny_Break (Av.of .brk hR h)
theorem ED {pos} {Q:A5→Am→Prop} (h:Q .cont σ):Ex C A E env (.Continue pos) σ Q:=fun F G s hR=>wpAny_Continue (Av.of .cont hR h)
end
end
section
section
variable {C:Cf} {A:Around} {E:Value→Shared→Prop} {env:Env} {σ:Am} {F G:FH} {s:Shared}
noncomputable def GE {α β:Type} (C:Cf) (A:Around) (E:Value→Shared→Prop) (env:Env) (R:FH→β→α→Prop) (f:Value→Sem α) (x:AV) (σ:Am) (Q:β→Am→Prop):Prop:=
 ∀F G s v,Rp C A F G env σ s→VR F x v→wpAny (model C.prog C.w) A (f v) (Av C A G env R Q F) E s
noncomputable def E0 {α β:Type} (C:Cf) (A:Around) (E:Value→Shared→Prop) (env:Env) (R:FH→β→α→Prop) (f:Value→Value→Sem α) (x y:AV) (σ:Am) (Q:β→Am→Prop):Prop:=
 ∀F G s v u,Rp C A F G env σ s→VR F x v→VR F y u→wpAny (model C.prog C.w) A (f v u) (Av C A G env R Q F) E s
theorem GE.at {α β:Type} {R:FH→β→α→Prop} {f:Value→Sem α} {x:AV} {Q:β→Am→Prop} (h:GE C A E env R f x σ Q) {F₀:FH} (e:A6 F₀ F) (hR:Rp C A F G env σ s) {v:Value} (hv:VR F x v) :
  wpAny (model C.prog C.w) A (f v) (Av C A G env R Q F₀) E s:=wpAny_mono (h F G s v hR hv) (fun zu zu z=>Av.ext e z) fun zu zu x=>x
theorem E0.at {α β:Type} {R:FH→β→α→Prop} {f:Value→Value→Sem α} {x y:AV} {Q:β→Am→Prop} (h:E0 C A E env R f x y σ Q) {F₀:FH} (e:A6 F₀ F) (hR:Rp C A F G env σ s) {v u:Value} (hv:VR F x v) (hu:VR F y u) :
  wpAny (model C.prog C.w) A (f v u) (Av C A G env R Q F₀) E s:=wpAny_mono (h F G s v u hR hv hu) (fun zu zu z=>Av.ext e z) fun zu zu x=>x
theorem Ap {value:Expr} {attr:Str} {pos:Pos} {Q:AV→Am→Prop} (h:Ev C A E env value σ (fun o σ'=>GE C A E env VR (fun v=>getAttr v attr true) o σ' Q))
  (hb:attributeBase value attr env (eval value env)=eval value env:=by rfl):Ev C A E env (.Attribute value attr pos) σ Q:=by
 intro F G s hR
 rw [arm_eval_Attribute,hb]
 refine wpAny_bind (h.use hR fun F' b σ' v s' e hv hR' hQ=>wpAny_bind (wpAny_standAt (wpAny_bind (wpAny_holding (wpAny_mono (hQ.at e hR' hv) (fun r s₂ z=>?_) fun zu zu x=>x)))))
 exact wpAny_bind (wpAny_letTemporaryGo (wpAny_pure z))
theorem Lv {l r:Expr} {op:Operator} {pos:Pos} {Q:AV→Am→Prop} (h:Ev C A E env l σ (fun a σ₁=>Ev C A E env r σ₁ (fun b σ₂=>E0 C A E env VR (binaryOp op) a b σ₂ Q))):Ev C A E env (.BinOp l op r pos) σ Q:=by
 intro F G s hR
 refine wpAny_BinOp (h.use hR fun F₁ a σ₁ va s₁ e₁ ha hR₁ h₁=>h₁.use hR₁ fun F₂ b σ₂ vb s₂ e₂ hb hR₂ h₂=>?_)
 exact h₂.at (e₁.trans e₂) hR₂ (ha.mono e₂) hb
theorem Bg {l r:Expr} {op:CmpOp} {pos:Pos} {Q:Bool→Am→Prop} (h:Ev C A E env l σ (fun a σ₁=>Ev C A E env r σ₁ (fun b σ₂=>E0 C A E env VR (compareOp op) a b σ₂ (fun c σ₃=>∃t,c=.bool t∧Q t σ₃))))
  (hm:behindInMarks op r=false:=by with_unfolding_all rfl):Et C A E env (.Compare l [op] [r] pos) σ Q:=by
 intro F G s hR
 refine wpAny_isTrue_Compare1 (h.use hR fun F₁ a σ₁ va s₁ e₁ ha hR₁ h₁=>h₁.use hR₁ fun F₂ b σ₂ vb s₂ e₂ hb hR₂ h₂=>?_) hm
 refine wpAny_mono (h₂.at (e₁.trans e₂) hR₂ (ha.mono e₂) hb) (fun c s₃ z=>?_) fun zu zu x=>x
 refine cps fun zP zk=>?_;(rcases z with ⟨F',b,σ',a1,a2,a3,t,rfl,a4⟩)<;>(refine zk ?_;clear zk zP)
 (have zc:=VR.boolI a2;clear a2;subst zc)
 exact wpAny_truthy_bool ⟨F',t,σ',a1,rfl,a3,a4⟩
theorem Nd {x:Expr} {pos:Pos} {Q:Bool→Am→Prop} (h:Et C A E env x σ (fun b σ'=>Q (!b) σ')):Et C A E env (.UnaryOp .Not x pos) σ Q:=by
 intro F G s hR
 show wpAny _ _ (do return !(←isTrue x env (eval x env))) _ _ _
 exact wpAny_bind (h.use hR fun F₁ b σ₁ v s₁ e₁ ha hR₁ h₁=>wpAny_pure ⟨F₁,_,σ₁,e₁,by rw [ha],hR₁,h₁⟩)
theorem Nf {x y:Expr} {pos:Pos} {Q:Bool→Am→Prop} (h:Et C A E env x σ (fun b σ'=>match b with|true=>Et C A E env y σ' Q|false=>Q false σ')):Et C A E env (.BoolOp .And [x,y] pos) σ Q:=by
 intro F G s hR
 show wpAny _ _ (do match BoolOp.And,←isTrue x env (eval x env) with|.And,false=>pure false|.Or,true=>pure true|_,_=>(do match BoolOp.And,←isTrue y env (eval y env) with|.And,false=>pure false|.Or,true=>pure true|_,_=>pure (BoolOp.And == BoolOp.And))) _ _ _
 refine wpAny_bind (h.use hR fun F₁ b σ₁ v s₁ e₁ ha hR₁ h₁=>?_)
 subst ha
 cases b with
 |false=>exact wpAny_pure ⟨F₁,_,σ₁,e₁,rfl,hR₁,h₁⟩
 |true=>
  refine wpAny_bind (h₁.use hR₁ fun F₂ b σ₂ v s₂ e₂ ha hR₂ h₂=>?_)
  subst ha
  cases b<;>exact wpAny_pure ⟨F₂,_,σ₂,e₁.trans e₂,rfl,hR₂,h₂⟩
noncomputable def Ej:Expr→Bool
 |.UnaryOp .Not ..=>false
 |.BoolOp ..=>false
 |.IfExp ..=>false
 |.Compare ..=>false
 |_=>true
theorem DS {x:Expr} (hp:Ej x=true):isTrue x env (eval x env)=(do let v ←eval x env;standAt x.pos;holding [v] (truthy v)):=by
 cases x<;>first|rfl|(first|exact By hp|cases hp)|(rename_i op _ _;cases op<;>first|rfl|(first|exact By hp|cases hp))
theorem Bd {x:Expr} {Q:Bool→Am→Prop} (h:Ev C A E env x σ (fun v σ'=>GE C A E env (fun zu b b'=>b=b') truthy v σ' Q)) (hp:Ej x=true:=by rfl):Et C A E env x σ Q:=by
 intro F G s hR
 rw [DS hp]
 exact wpAny_bind (h.use hR fun F₁ a σ₁ va s₁ e₁ ha hR₁ h₁=>wpAny_bind (wpAny_standAt (wpAny_holding (h₁.at e₁ hR₁ ha))))
theorem AK {b:Bool} {Q:Bool→Am→Prop} (h:Q b σ):GE C A E env (fun zu b b'=>b=b') truthy (.bool b) σ Q:=by
 intro F G s v hR hv
 (have zc:=VR.boolI hv;clear hv;subst zc)
 exact wpAny_truthy_bool (Av.of rfl hR h)
theorem EI {x:AV} {Q:AV→Am→Prop} (hx:∃a,x=.ref a) (h:Q (.bool false) σ):E0 C A E env VR (compareOp .Is) x .none σ Q:=by
 intro F G s v u hR hv hu
 refine xa1_1 hx ?_;(try clear hx);intro a;rintro rfl
 (have zc:=VR.refI hv;clear hv;subst zc);(have zc:=VR.noneI hu;clear hu;subst zc)
 exact is_ref_none (Av.of (.bool _) hR h)
theorem BW {Q:AV→Am→Prop} (h:Q (.bool true) σ):E0 C A E env VR (compareOp .Is) .none .none σ Q:=by
 intro F G s v u hR hv hu
 (have zc:=VR.noneI hv;clear hv;subst zc);(have zc:=VR.noneI hu;clear hu;subst zc)
 exact wpAny_is_self rfl (Av.of (.bool _) hR h)
theorem DV {gens} {x:AO} {o:Obj} (h:OR C F gens x o) (hx:∀loc,x≠.frame loc) (hf:∀c vs,(x=.fields c vs∨x=.itr c vs)→c≠"tuple"):o.cls≠.type "tuple":=by
 cases h with
 |list a=>rw [a];simp
 |dict a=>rw [a.1];simp
 |iset a=>rw [a.1];simp
 |ns a=>rw [a.1];simp
 |inst=>simp
 |slot=>simp
 |fields a=>rw [a];simpa using hf _ _ (.inl rfl)
 |itr a=>rw [a];simpa using hf _ _ (.inr rfl)
 |frame=>exact absurd rfl (hx _)
 |gen a=>rw [a];simp
theorem ML {a b:Addr} {x y:AO} {Q:AV→Am→Prop} (ha:σ.hp a=some x) (hb:σ.hp b=some y) (hx:(∃K vs,x=.slot K vs)∨∃K d,x=.inst K d) (h:Q (.bool (decide (a=b))) σ):E0 C A E env VR (compareOp .Is) (.ref a) (.ref b) σ Q:=by
 intro F G s v u hR hv hu
 (have zc:=VR.refI hv;clear hv;subst zc);(have zc:=VR.refI hu;clear hu;subst zc)
 by_cases e:a=b
 ·subst e
  exact wpAny_is_ref_self (Av.of (.bool _) hR (by simpa using h))
 ·refine cps fun zP zk=>?_;(rcases hR.wd.ob a x ha with ⟨zu,zu,o,ho,r⟩)<;>(refine zk ?_;clear zk zP)
  refine cps fun zP zk=>?_;(rcases hR.wd.ob b y hb with ⟨zu,zu,o',ho',r'⟩)<;>(refine zk ?_;clear zk zP)
  exact wpAny_is_ref_other e ho ho' (DV r (by rcases hx with ⟨zu,zu,rfl⟩|⟨zu,zu,rfl⟩<;>simp) (by rcases hx with ⟨zu,zu,rfl⟩|⟨zu,zu,rfl⟩<;>simp)) (Av.of (.bool _) hR (by simpa [e] using h))
theorem Jt {a b:Addr} {x y:AO} {Q:AV→Am→Prop} (ha:σ.hp a=some x) (hb:σ.hp b=some y) (hx:(∃K vs,x=.slot K vs)∨∃K d,x=.inst K d) (h:Q (.bool (!decide (a=b))) σ):E0 C A E env VR (compareOp .IsNot) (.ref a) (.ref b) σ Q:=by
 intro F G s v u hR hv hu
 (have zc:=VR.refI hv;clear hv;subst zc);(have zc:=VR.refI hu;clear hu;subst zc)
 by_cases e:a=b
 ·subst e
  exact wpAny_isNot_ref_self (Av.of (.bool _) hR (by simpa using h))
 ·refine cps fun zP zk=>?_;(rcases hR.wd.ob a x ha with ⟨zu,zu,o,ho,r⟩)<;>(refine zk ?_;clear zk zP)
  refine cps fun zP zk=>?_;(rcases hR.wd.ob b y hb with ⟨zu,zu,o',ho',r'⟩)<;>(refine zk ?_;clear zk zP)
  exact wpAny_isNot_ref_other e ho ho' (DV r (by rcases hx with ⟨zu,zu,rfl⟩|⟨zu,zu,rfl⟩<;>simp) (by rcases hx with ⟨zu,zu,rfl⟩|⟨zu,zu,rfl⟩<;>simp)) (Av.of (.bool _) hR (by simpa [e] using h))
end
end
section
noncomputable def Ci (C:Cf) (Cl:Addr) (name:Str) (i:Nat):Prop:=∃(K:Frag) (p:Addr),K.In C.h0 ∧
 findIn K (.ref Cl) "__getattribute__" = some (some (.builtin "object.__getattribute__"))∧findIn K (.ref Cl) "__getattr__" = some none ∧
 findObj K Cl (some emptyDict) name=some (.bind (.builtin "member_descriptor.__get__") (.ref p))∧slotIn K p Cl=some i ∧
 findIn K (.ref Cl) "__setattr__" = some (some (.builtin "object.__setattr__"))∧plainOver K Cl=true∧takerIn K Cl name=some (some (.ref p)) ∧
 typeIn K (.ref p)=some (.type "member_descriptor")∧i<1000
noncomputable def GF (C:Cf) (Cl:Addr) (name:Str):Prop:=∃(K:Frag) (cd:ClassData),K.In C.h0 ∧
 findIn K (.ref Cl) "__getattribute__" = some (some (.builtin "object.__getattribute__"))∧findIn K (.ref Cl) "__getattr__" = some none ∧
 clsIn K Cl=some cd∧cd.hasDict=true∧findIn K (.ref Cl) name=some none ∧
 findIn K (.ref Cl) "__setattr__" = some (some (.builtin "object.__setattr__"))∧plainOver K Cl=true∧takerIn K Cl name=some none
section
variable {C:Cf} {A:Around} {E:Value→Shared→Prop} {env:Env} {σ:Am} {F G:FH} {s:Shared}
theorem VR.handed {x:AV} {v:Value} (h:VR F x v) (hx:∀u,x≠.val u):handedIn v=true:=by
 cases h<;>first|rfl|exact absurd rfl (hx _)
theorem B2.join {xs vs} (h:B2 F xs vs) {i:Nat} {x} (e:xs[i]? = some (some x)):∃v,(vs.toArray[i]?).join=some v∧VR F x v:=by
 refine xa1_2 (h.get e) ?_;intro v h1 h2
 exact ⟨v,by rw [List.getElem?_toArray,h1];rfl,h2⟩
theorem Bs {a Cl:Addr} {name:Str} {i:Nat} {vs:List (Option AV)} {x:AV} {Q:AV→Am→Prop} (hs:Ci C Cl name i) (ha:σ.hp a=some (.slot Cl vs)) (hx:vs[i]? = some (some x)) (h:Q x σ)
  (hv:∀u,x≠.val u:=by intro u;simp):GE C A E env VR (fun v=>getAttr v name true) (.ref a) σ Q:=by
 intro F G s v hR hv'
 (have zc:=VR.refI hv';clear hv';subst zc)
 refine xa2_6 hs ?_;(try clear hs);intro K p X g1 g2 g3 g4 zu
 refine cps fun zP zk=>?_;(rcases hR.wd.ob a _ ha with ⟨zu,zu,o,ho,r⟩)<;>(refine zk ?_;clear zk zP)
 (refine OR.slotC r fun zv zv zo hd zs=>?_;clear r;subst zo)
 refine xa1_2 (zs.join hx) ?_;intro v j hvr
 have X':=X.keeps hR.wd.old
 have I:InstAt s.heap a _ Cl (some emptyDict):=⟨ho,rfl,rfl,hR.wd.fz _ _ hd⟩
 refine get_bind X' I g1 g3 g2 (wpAny_call (slot_get (s:={ s with toks:=s.toks+1 }) (od:=some emptyDict) X' ⟨ho,rfl,rfl,hR.wd.fz _ _ hd⟩ g4 j ?_))
 show wpAny _ _ (handedOut v) _ _ _
 rw [handedOut_of (hvr.handed hv)]
 exact wpAny_pure (Av.of hvr (hR.tok _) h)
theorem NR.look {P:Params} {fs:List (Str×AV)} {ds:List DictEntry} (h:NR P F fs ds) {name:Str} {x:AV} (e:fs.lookup name=some x):∃en,ds.find? (·.key.isStr name)=some en∧VR F x en.val:=by
 induction h with
 |nil=>exact Ak e
 |@cons k v es en ds t a b c zu ih=>
  simp only [List.lookup] at e
  by_cases q:name=k
  ·subst q
   simp only [beq_self_eq_true] at e;(have zc:=Option.some.inj e;clear e;subst zc)
   exact ⟨en,by simp [b,Value.isStr],c⟩
  ·simp only [beq_eq_false_iff_ne.mpr q] at e
   refine xa1_2 (ih e) ?_;intro en' h1 h2
   refine ⟨en',?_,h2⟩
   rw [List.find?_cons,b]
   have:(Value.str k t).isStr name=false:=by simp [Value.isStr,Ne.symm q]
   rw [this];exact h1
theorem NR.noRef {P:Params} {fs:List (Str×AV)} {ds:List DictEntry} (h:NR P F fs ds):ds.any (·.refKey)=false:=by
 induction h with
 |nil=>rfl
 |cons a b c zu ih=>rw [List.any_cons,ih];simp [DictEntry.refKey,b]
theorem Bp {a d Cl:Addr} {name:Str} {fs:List (Str×AV)} {x:AV} {Q:AV→Am→Prop} (hs:GF C Cl name) (ha:σ.hp a=some (.inst Cl d)) (hd:σ.hp d=some (.ns fs)) (hx:fs.lookup name=some x) (h:Q x σ)
  (hv:∀u,x≠.val u:=by intro u;simp):GE C A E env VR (fun v=>getAttr v name true) (.ref a) σ Q:=by
 intro F G s v hR hv'
 (have zc:=VR.refI hv';clear hv';subst zc)
 refine xa2_7 hs ?_;(try clear hs);intro K cd X g1 g2 g3 g4 g5 zu
 refine cps fun zP zk=>?_;(rcases hR.wd.ob a _ ha with ⟨zu,zu,o,ho,r⟩)<;>(refine zk ?_;clear zk zP)
 refine cps fun zP zk=>?_;(rcases hR.wd.ob d _ hd with ⟨zu,zu,od,hod,rd⟩)<;>(refine zk ?_;clear zk zP)
 (refine OR.instC r fun zo=>?_;clear r;subst zo)
 (refine OR.nsC rd fun zv zv hex hda hnr=>?_;clear rd)
 refine xa1_2 (hnr.look hx) ?_;intro en h1 h2
 have X':=X.keeps hR.wd.old
 have I:InstAt s.heap a _ Cl (some od):=⟨ho,rfl,rfl,hod⟩
 have hf:findObj K Cl (some od) name=some (.value en.val):=by
  unfold findObj
  rw [g3,Option.bind_some,g5]
  simp only [Option.bind_some,PySem.W.ownOf,g4,if_true,lookIn,hda,h1]
 exact get_value X' I g1 hf (h2.handed hv) (Av.of h2 (hR.tok _) h)
theorem An {o value:Expr} {attr:Str} {pos' pos:Pos} {Q:A5→Am→Prop}
  (h:Ev C A E env value σ (fun v σ₁=>Ev C A E env o σ₁ (fun b σ₂=>E0 C A E env (fun zu (zu:Unit) (zu:Unit)=>True) (fun u w=>setAttr w attr u) v b σ₂ (fun zu σ₃=>Q .next σ₃))))
  (hs:swapsWith value (some (.Attribute o attr pos')) pos.line env=pure false:=by rfl):Ex C A E env (.Assign [.Attribute o attr pos'] value pos) σ Q:=by
 intro F G s hR
 refine plainObj_wpAny_Assign_Attribute (h.use hR fun F₁ a σ₁ va s₁ e₁ ha hR₁ h₁=>h₁.use hR₁ fun F₂ b σ₂ vb s₂ e₂ hb hR₂ h₂=>?_) hs
 refine wpAny_mono (h₂.at (e₁.trans e₂) hR₂ (ha.mono e₂) hb) (fun c s₃ z=>?_) fun zu zu x=>x
 refine cps fun zP zk=>?_;(rcases z with ⟨F',b,σ',a1,zu,a3,a4⟩)<;>(refine zk ?_;clear zk zP)
 exact ⟨F',.next,σ',a1,.next,a3,a4⟩
noncomputable def setSlot (vs:List (Option AV)) (i:Nat) (x:AV):List (Option AV):=(vs++List.replicate (i+1 - vs.length) none).set i (some x)
theorem B2.append {xs vs ys us} (h:B2 F xs vs) (k:B2 F ys us):B2 F (xs++ys) (vs++us):=by
 induction h with
 |nil=>exact k
 |cons a zu ih=>exact .cons a ih
theorem B2.nones (n:Nat):B2 F (List.replicate n none) (List.replicate n none):=by
 induction n with
 |zero=>exact .nil
 |succ n ih=>exact .cons .none ih
theorem B2.setSlot {xs vs} (h:B2 F xs vs) (i:Nat) {x v} (hv:VR F x v) :
  B2 F (setSlot xs i x) ((vs++List.replicate (i+1 - vs.length) none).set i (some v)):=by
 unfold AC.setSlot
 rw [h.length]
 exact (h.append (.nones _)).set i (.some hv)
theorem Ka (us:List (Option Value)) (i:Nat) (v:Value):(us.toArray++Array.replicate (i+1 - us.toArray.size) none).setIfInBounds i (some v)=((us++List.replicate (i+1 - us.length) none).set i (some v)).toArray:=by
 apply Array.ext'
 simp [Array.toList_setIfInBounds]
theorem Rp.changeN (R:Rp C A F G env σ s) {h':Heap} {t:Nat} {c:Addr} {x x':AO} {o':Obj} (e:σ.hp c=some x) (hx:CA x'=false) (ho:h'.get? c=some o') (r:OR C F s.gens x' o')
  (k:∀b o,b≠c→b≠env.locals→s.heap.get? b=some o→h'.get? b=some o) (kn:∀m,s.heap.Ns env.locals m→h'.Ns env.locals m):Rp C A F G env { σ with hp:=upd σ.hp c x' } ⟨h',s.gens,s.drawn,t,s.os⟩:=by
 refine cps fun zP zk=>?_;(rcases R.fm with ⟨kd,⟨m,hm,hv⟩,⟨l1,l2,l3⟩,co,ci,cv,fv⟩)<;>(refine zk ?_;clear zk zP)
 refine xa0_3 (R.wd.ob c x e) ?_;intro hF hG zu
 have nc:env.locals≠c:=by rintro q;rw [q,e] at l3;exact Ao l3
 refine ⟨⟨R.wd.base,fun b o q=>k _ _ (AH hF q) (AH l1 q) (R.wd.fz b o q),fun b o q=>let ⟨o',z,r⟩:=R.wd.gz b o q;⟨o',k _ _ (AH hG q) (AH l2 q) z,r⟩,fun a y e'=>?_,R.wd.os,R.wd.bare,fun a b g gs gs' ea eb=>?_,R.wd.fg⟩,?_,R.fs⟩
 ·dsimp only at e'
  by_cases h:a=c
  ·subst h
   rw [Ae] at e';(have zc:=Option.some.inj e';clear e';subst zc)
   exact ⟨hF,hG,o',ho,r⟩
  ·rw [Ac _ _ h] at e'
   refine cps fun zP zk=>?_;(rcases R.wd.ob a y e' with ⟨p,q,o,ho',r'⟩)<;>(refine zk ?_;clear zk zP)
   exact ⟨p,q,o,k _ _ h (AH l3 e') ho',r'⟩
 ·dsimp only at ea eb
  have na:a≠c:=by rintro rfl;rw [Ae] at ea;(have zc:=Option.some.inj ea;clear ea;subst zc);exact CJ hx
  have nb:b≠c:=by rintro rfl;rw [Ae] at eb;(have zc:=Option.some.inj eb;clear eb;subst zc);exact CJ hx
  rw [Ac _ _ na] at ea
  rw [Ac _ _ nb] at eb
  exact R.wd.gi _ _ _ _ _ ea eb
 ·refine ⟨kd,⟨m,kn m hm,hv⟩,⟨l1,l2,by show upd σ.hp c x' _=none;rw [Ac _ _ nc];exact l3⟩,fun y hy=>?_,ci,fun y av d h1 h2 h3=>?_,fv⟩
  ·refine cps fun zP zk=>?_;(rcases co y hy with ⟨d,g1,g2,g3,g4,g5,v,o,g6,g7⟩)<;>(refine zk ?_;clear zk zP)
   have nd:d≠c:=by rintro q;rw [q,e] at g4;exact Ao g4
   exact ⟨d,g1,g2,g3,by show upd σ.hp c x' _=none;rw [Ac _ _ nd];exact g4,g5,v,o,k _ _ nd g5 g6,g7⟩
  ·refine xa1_6 (co y h2) ?_;intro d' g1 g2 g3 g4 g5 zu
   rw [h3] at g1;(have zc:=Option.some.inj g1;clear g1;subst zc)
   have nd:d≠c:=by rintro q;rw [q,e] at g4;exact Ao g4
   refine xa1_2 (cv y av d h1 h2 h3) ?_;intro v;intro zq;refine xa1_2 zq ?_;(try clear zq);intro o g6 g7;intro g8
   exact ⟨v,⟨o,k _ _ nd g5 g6,g7⟩,g8⟩
theorem Ky (hR:Rp C A F G env σ s) {a:Addr} {x:AO} {o:Obj} (ha:σ.hp a=some x) (ho:s.heap.get? a=some o) :
  ∃m oth,Fr {} env.locals s.heap m∧News {} env.locals s.heap ([]++(a,o)::oth)∧(∀q∈oth,q.1≠a) ∧
   ∀h' o',Fr {} env.locals h' m→News {} env.locals h' ([]++(a,o')::oth) →
    h'.get? a=some o'∧(∀m',s.heap.Ns env.locals m'→h'.Ns env.locals m')∧∀b ob,b≠a→b≠env.locals→s.heap.get? b=some ob→h'.get? b=some ob:=by
 refine xa1_2 hR.fm.ns ?_;intro m hm zu
 have hne:a≠env.locals:=by rintro rfl;rw [hR.fm.lo.2.2] at ha;exact Ak ha
 let oth:List (Addr×Obj):=(List.range s.heap.objs.size).filterMap fun b=>if b=a∨b=env.locals then none else (s.heap.get? b).map fun o=>(b,o)
 have hoth:∀q∈oth,q.1≠a∧q.1≠env.locals∧s.heap.get? q.1=some q.2:=by
  intro q hq
  refine xa1_2 (List.mem_filterMap.mp hq) ?_;intro b zu hb
  split at hb
  ·exact Ak hb
  ·rename_i hn
   refine xa1_2 (Option.map_eq_some_iff.mp hb) ?_;intro o' ho';rintro rfl
   simp only [not_or] at hn
   exact ⟨hn.1,hn.2,ho'⟩
 have hin:∀b o',s.heap.get? b=some o'→b≠a→b≠env.locals→(b,o')∈oth:=by
  intro b o' e h1 h2
  refine List.mem_filterMap.mpr ⟨b,List.mem_range.mpr (Heap.lt_size e),?_⟩
  rw [if_neg (by simp [h1,h2]),e];rfl
 refine ⟨m,oth,⟨hm,fun b o' e=>by simp [Heap.get?] at e,Nat.zero_le _⟩,?_,fun q hq=>(hoth q hq).1,fun h' o' F' N'=>⟨(N' (a,o') (List.mem_cons_self)).1,fun m' hm'=>?_,fun b ob h1 h2 e=>(N' (b,ob) (List.mem_cons_of_mem _ (hin b ob e h1 h2))).1⟩⟩
 ·intro q hq
  rcases List.mem_cons.mp hq with rfl|hq
  ·exact ⟨ho,hne,by simp [Heap.get?]⟩
  ·refine xa0_3 (hoth q hq) ?_;intro h1 h2 h3
   exact ⟨h3,h2,by simp [Heap.get?]⟩
 ·have:m'=m:=by
   refine xa3_4 hm ?_;(try clear hm);intro o1 es1 ep1 a1 a2 a3 a4
   refine xa3_4 hm' ?_;(try clear hm');intro o2 es2 ep2 b1 b2 b3 b4
   rw [a1] at b1;(have zc:=Option.some.inj b1;clear b1;subst zc)
   rw [a2] at b2;cases b2
   funext n;rw [←a4,←b4]
  rw [this];exact F'.ns
theorem Bk {a Cl:Addr} {name:Str} {i:Nat} {vs:List (Option AV)} {x:AV} {Q:Unit→Am→Prop} (hs:Ci C Cl name i) (ha:σ.hp a=some (.slot Cl vs)) (h:Q () (σ.put a (.slot Cl (setSlot vs i x)))) :
  E0 C A E env (fun zu (zu:Unit) (zu:Unit)=>True) (fun u w=>setAttr w name u) x (.ref a) σ Q:=by
 intro F G s v u hR hv hu
 (have zc:=VR.refI hu;clear hu;subst zc)
 refine xa2_10 hs ?_;(try clear hs);intro K p X g1 g2 g3 g4 g5 g6 g7 g8 g9
 refine cps fun zP zk=>?_;(rcases hR.wd.ob a _ ha with ⟨hF,hG,o,ho,r⟩)<;>(refine zk ?_;clear zk zP)
 (refine OR.slotC r fun us d zo hd zs=>?_;clear r;subst zo)
 have X':=X.keeps hR.wd.old
 have I:InstAt s.heap a _ Cl (some emptyDict):=⟨ho,rfl,rfl,hR.wd.fz _ _ hd⟩
 refine set_plain X' I g5 (osa_descr KF.slot_mset (s:={ s with toks:=s.toks+1 }) (od:=some emptyDict) X' ⟨ho,rfl,rfl,hR.wd.fz _ _ hd⟩ g6 g7 g8 ?_)
 refine xa2_4 (Ky hR ha ho) ?_;intro m oth Fr0 N0 h1 back
 refine slot_set (s:={ s with toks:=s.toks+1 }) (od:=some emptyDict) Fr0 N0 X' ⟨ho,rfl,rfl,hR.wd.fz _ _ hd⟩ g4 g9 (fun zu hq=>nomatch hq) h1 rfl rfl fun h' F' N'=>?_
 refine xa0_3 (back h' _ F' N') ?_;intro b1 b2 b3
 refine ⟨F,(),_,A6.refl F,trivial,hR.changeN ha rfl b1 ?_ b3 b2,h⟩
 rw [Ka]
 exact .slot hd (zs.setSlot i hv)
theorem NR.put {P:Params} {fs:List (Str×AV)} {ds:List DictEntry} (h:NR P F fs ds) {name:Str} {x:AV} {v:Value} (hv:VR F x v) (t:Tok) (f:Option DictEntry→DictEntry) (h1:∀e,f (some e)={ e with val:=v }) (h2:f none=⟨PyData.keyHash P name,.str name t,v⟩) :
  NR P F (Eh fs name x) (nsPutIn name.cps.size name.cps.toList f ds).1∧(nsPutIn name.cps.size name.cps.toList f ds).1.length≤ds.length+1:=by
 induction h with
 |nil=>exact ⟨by simp only [nsPutIn,Eh,h2];exact .cons rfl rfl hv .nil,Nat.le_refl _⟩
 |@cons k u es en ds t' a b c r ih=>
  simp only [Eh,nsPutIn,Value.isStrByCps_eq,b,Value.isStr]
  by_cases q:k=name
  ·subst q
   simp only [beq_self_eq_true,if_true,h1]
   exact ⟨.cons a b hv r,Nat.le_succ _⟩
  ·simp only [beq_eq_false_iff_ne.mpr q,Bool.false_eq_true,if_false]
   exact ⟨.cons a b c ih.1,Nat.succ_le_succ ih.2⟩
theorem NR.length {P:Params} {fs:List (Str×AV)} {ds:List DictEntry} (h:NR P F fs ds):ds.length=fs.length:=by
 induction h with
 |nil=>rfl
 |cons zu zu2 zu3 zu4 ih=>simp [ih]
theorem G0 {P:Params} {fs:List (Str×AV)} {name:Str} {t:Tok} {x:AV} {v:Value} {o:Obj} {ds:List DictEntry} {n:Nat} (hd:o.data=.dict ds.toArray n) (hex:o.ExactDict) (h:NR P F fs ds) (hv:VR F x v) :
  ∃es' n',(Obj.putName name (PyData.keyHash P name) (.str name t) v o).data=.dict (es':List DictEntry).toArray n'∧(Obj.putName name (PyData.keyHash P name) (.str name t) v o).ExactDict∧NR P F (Eh fs name x) es'∧es'.length≤ds.length+1:=by
 refine cps fun zP zk=>?_;(rcases o with ⟨c,d,dt,sl⟩)<;>(refine zk ?_;clear zk zP)
 dsimp only at hd
 subst hd
 unfold Obj.putName
 dsimp only
 split
 ·rename_i es' q
  have z:=h.put (name:=name) hv t (fun|some e=>{ e with val:=v }|none=>⟨PyData.keyHash P name,.str name t,v⟩) (fun zu=>rfl) rfl
  have q':nsPutIn name.cps.size name.cps.toList (fun|some e=>{ e with val:=v }|none=>⟨PyData.keyHash P name,.str name t,v⟩) ds=(es',false):=q
  rw [q'] at z
  exact ⟨_,_,rfl,hex,z⟩
 ·rename_i es' q
  have z:=h.put (name:=name) hv t (fun|some e=>{ e with val:=v }|none=>⟨PyData.keyHash P name,.str name t,v⟩) (fun zu=>rfl) rfl
  have q':nsPutIn name.cps.size name.cps.toList (fun|some e=>{ e with val:=v }|none=>⟨PyData.keyHash P name,.str name t,v⟩) ds=(es',true):=q
  rw [q'] at z
  exact ⟨_,_,rfl,hex,z⟩
theorem CK {a d Cl:Addr} {name:Str} {fs:List (Str×AV)} {x:AV} {Q:Unit→Am→Prop} (hs:GF C Cl name) (ha:σ.hp a=some (.inst Cl d)) (hd:σ.hp d=some (.ns fs))
  (h:Q () (σ.put d (.ns (Eh fs name x)))) (hz:fs.length≤900:=by decide) :
  E0 C A E env (fun zu (zu:Unit) (zu:Unit)=>True) (fun u w=>setAttr w name u) x (.ref a) σ Q:=by
 intro F G s v u hR hv hu
 (have zc:=VR.refI hu;clear hu;subst zc)
 refine xa2_9 hs ?_;(try clear hs);intro K cd X g1 g2 g3 g4 g5 g6 g7 g8
 refine cps fun zP zk=>?_;(rcases hR.wd.ob a _ ha with ⟨hF,hG,o,ho,r⟩)<;>(refine zk ?_;clear zk zP)
 refine cps fun zP zk=>?_;(rcases hR.wd.ob d _ hd with ⟨zu,zu,od,hod,rd⟩)<;>(refine zk ?_;clear zk zP)
 (refine OR.instC r fun zo=>?_;clear r;subst zo)
 (refine OR.nsC rd fun ds n hex hda hnr=>?_;clear rd)
 have X':=X.keeps hR.wd.old
 have I:InstAt s.heap a _ Cl (some od):=⟨ho,rfl,rfl,hod⟩
 refine xa2_4 (Ky hR hd hod) ?_;intro m oth Fr0 N0 h1 back
 refine xa2_4 (G0 (name:=name) (t:=s.toks+1) hda hex hnr hv) ?_;intro es' n' e' hex' r' rl
 refine set_plain X' I g6 (osa_dict (s:={ s with toks:=s.toks+1 }) Fr0 N0 X' ⟨ho,rfl,rfl,hod⟩ rfl g7 g8 (by rw [g3];exact g4) ?_ (fun zu hq=>nomatch hq) h1 rfl e' ?_ fun h' F' N'=>?_)
 ·unfold lookIn
  rw [hda]
  dsimp only
  cases ds.find? (·.key.isStr name) with
  |some e=>rfl
  |none=>rw [hnr.noRef];rfl
 ·have:=hnr.length;exact Ax [_,_,_] [(1,Z1,(Zn 900)),(1,Z0,(Zs Z2)),(1,Z2,Z1)] Z0 (Zn 1000) rfl hz rl (Nat.le_of_eq this)
 refine xa0_3 (back h' _ F' N') ?_;intro b1 b2 b3
 exact ⟨F,(),_,A6.refl F,trivial,hR.changeN hd rfl b1 (.ns hex' e' r') b3 b2,h⟩
noncomputable def L0 (C:Cf) (A:Around) (E:Value→Shared→Prop) (env:Env) (es:List (Bool×Sem Value)) (σ:Am) (Q:List AV→Am→Prop):Prop:=Tr C A E env VRs (spliced es) σ Q
theorem Mi {Q:List AV→Am→Prop} (h:Q [] σ):L0 C A E env [] σ Q:=fun F G s hR=>wpAny_pure (Av.of .nil hR h)
theorem Lw {t:Sem Value} {r:List (Bool×Sem Value)} {Q:List AV→Am→Prop} (h:Tr C A E env VR t σ (fun v σ₁=>L0 C A E env r σ₁ (fun vs σ₂=>Q (v::vs) σ₂))):L0 C A E env ((false,t)::r) σ Q:=by
 intro F G s hR
 show wpAny _ _ (do let v ←t;let here ←pure [v];return here++(←holding here (spliced r))) _ _ _
 refine wpAny_bind (h.use hR fun F₁ a σ₁ va s₁ e₁ ha hR₁ h₁=>wpAny_bind (wpAny_pure (wpAny_bind (wpAny_holding (h₁.use hR₁ fun F₂ vs σ₂ us s₂ e₂ hb hR₂ h₂=>?_)))))
 exact wpAny_pure (Av.ext (e₁.trans e₂) (Av.of (.cons (ha.mono e₂) hb) hR₂ h₂))
noncomputable def M0 (C:Cf) (A:Around) (E:Value→Shared→Prop) (env:Env) (es:List (Sem Value)) (σ:Am) (Q:List AV→Am→Prop):Prop:=Tr C A E env VRs (evalAll es) σ Q
theorem Mj {Q:List AV→Am→Prop} (h:Q [] σ):M0 C A E env [] σ Q:=fun F G s hR=>wpAny_pure (Av.of .nil hR h)
theorem Ly {t:Sem Value} {p:Pos} {r:List (Sem Value)} {Q:List AV→Am→Prop} (h:Tr C A E env VR t σ (fun v σ₁=>M0 C A E env r σ₁ (fun vs σ₂=>Q (v::vs) σ₂))):M0 C A E env ((do let v ←t;standAt p;pure v)::r) σ Q:=by
 intro F G s hR
 show wpAny _ _ (do let v ←(do let v ←t;standAt p;pure v);return v::(←holding [v] (evalAll r))) _ _ _
 refine wpAny_bind (wpAny_bind (h.use hR fun F₁ a σ₁ va s₁ e₁ ha hR₁ h₁=>wpAny_bind (wpAny_standAt (wpAny_pure (wpAny_bind (wpAny_holding (h₁.use hR₁ fun F₂ vs σ₂ us s₂ e₂ hb hR₂ h₂=>?_)))))))
 exact wpAny_pure (Av.ext (e₁.trans e₂) (Av.of (.cons (ha.mono e₂) hb) hR₂ h₂))
end
end
section
inductive Cm (F:FH):List (Str×AV)→List (Str×Value)→Prop
 |nil:Cm F [] []
 |cons {k x v xs vs}:VR F x v→Cm F xs vs→Cm F ((k,x)::xs) ((k,v)::vs)
theorem Cm.mono {F F':FH} (e:A6 F F') {x v} (h:Cm F x v):Cm F' x v:=by
 induction h with
 |nil=>exact .nil
 |cons a zu ih=>exact .cons (a.mono e) ih
theorem Cm.zip {F:FH}:∀{names:List Str} {xs:List AV} {vs:List Value},VRs F xs vs→Cm F (names.zip xs) (names.zip vs)
 |[],_,_,_=>.nil
 |_::_,_,_,.nil=>.nil
 |_::_,_,_,.cons a b=>.cons a (Cm.zip b)
noncomputable def NO (C:Cf) (G:FH) (Q:AV→HP→Prop) (F:FH) (r:Result) (s':Shared):Prop:=∃F' v av hp',r=.ok (.ret v)∧A6 F F'∧VR F' av v∧Wd C F' G hp' s'∧Q av hp'
noncomputable def Fn (C:Cf) (A:Around) (f:Value) (args:List AV) (kw:List (Str×AV)) (hp:HP) (Q:AV→HP→Prop):Prop:=
 ∀F G s vs kvs,Fs A G→Wd C F G hp s→VRs F args vs→Cm F kw kvs→codeAny (model C.prog C.w) A (.call f ⟨vs,kvs⟩) (NO C G Q F) s
theorem Fn.mono {C:Cf} {A:Around} {f:Value} {args:List AV} {kw:List (Str×AV)} {hp:HP} {Q Q':AV→HP→Prop} (h:Fn C A f args kw hp Q) (k:∀v hp',Q v hp'→Q' v hp'):Fn C A f args kw hp Q':=
 fun F G s vs kvs fs W a b=>codeAny_mono (h F G s vs kvs fs W a b) fun r s' ⟨F',v,av,hp',x1,x2,x3,x4,x5⟩=>⟨F',v,av,hp',x1,x2,x3,x4,k _ _ x5⟩
open Classical in
noncomputable def frz (G:FH) (env:Env) (h:Heap):FH:=fun b=>if b=env.locals∨(∃x,env.kindOf x=some .cell∧env.cells.lookup x=some b) then h.get? b else G b
section
variable {C:Cf} {A:Around} {E:Value→Shared→Prop} {env:Env} {σ:Am} {F G:FH} {s:Shared}
theorem G8 (hR:Rp C A F G env σ s):A6 G (frz G env s.heap):=by
 intro b o e
 have h1:b≠env.locals:=AH hR.fm.lo.2.1 e
 have h2:¬∃x,env.kindOf x=some .cell∧env.cells.lookup x=some b:=by
  rintro ⟨x,hx,hc⟩
  refine xa1_4 (hR.fm.co x hx) ?_;intro c g1 zu g3 zu
  rw [hc] at g1;(have zc:=Option.some.inj g1;clear g1;subst zc)
  rw [g3] at e;exact Ak e
 unfold frz
 rw [if_neg (by simp only [h1,h2,or_self,not_false_eq_true])]
 exact e
theorem KE (hR:Rp C A F G env σ s):Fs A (frz G env s.heap):=by
 have ex:=G8 hR
 refine xa2_5 hR.fs ?_;intro e l h1 h2 h3 h4 h5
 refine ⟨e::l,h1,fun e' he'=>?_⟩
 rcases List.mem_cons.mp he' with rfl|he'
 ·rcases h4 with h4|h4
  ·refine xa1_2 hR.fm.ns ?_;intro m;intro zq;refine xa3_3 zq ?_;(try clear zq);intro oL es ep hL r zu;intro zu
   exact ⟨h2,env.locals,oL,h3.trans h4.2,by unfold frz;rw [if_pos (.inl rfl)];exact hL,es,ep,r⟩
  ·exact h4.mono ex
 ·exact (h5 e' he').mono ex
theorem HV (hR:Rp C A F G env σ s) (hfr:Wd C F (frz G env s.heap) σ.hp s→True:=fun zu=>trivial):Wd C F (frz G env s.heap) σ.hp s:=by
 have W:=hR.wd
 have own:∀b,(b=env.locals∨∃x,env.kindOf x=some .cell∧env.cells.lookup x=some b)→F b=none∧σ.hp b=none:=by
  rintro b (rfl|⟨x,hx,hc⟩)
  ·exact ⟨hR.fm.lo.1,hR.fm.lo.2.2⟩
  ·refine xa1_5 (hR.fm.co x hx) ?_;intro c g1 g2 g3 g4 zu
   rw [hc] at g1;(have zc:=Option.some.inj g1;clear g1;subst zc)
   exact ⟨g2,g4⟩
 refine ⟨W.base,W.fz,fun b o e=>?_,fun a x e=>?_,W.os,W.bare,W.gi,fun b o e=>?_⟩
 ·unfold frz at e
  split at e
  ·exact ⟨o,e,EP.rfl' o⟩
  ·exact W.gz b o e
 ·refine cps fun zP zk=>?_;(rcases W.ob a x e with ⟨p,q,o,r⟩)<;>(refine zk ?_;clear zk zP)
  refine ⟨p,?_,o,r⟩
  unfold frz
  rw [if_neg]
  ·exact q
  ·intro h;have:=(own a h).2;rw [e] at this;exact Ao this
 ·unfold frz
  rw [if_neg]
  ·exact W.fg b o e
  ·intro h;have:=(own b h).1;rw [e] at this;exact Ao this
theorem G7 (hR:Rp C A F G env σ s) {F':FH} {hp':HP} {s':Shared} (e:A6 F F') (W:Wd C F' (frz G env s.heap) hp' s'):Rp C A F' G env { σ with hp:=hp' } s':=by
 have ex:=G8 hR
 refine cps fun zP zk=>?_;(rcases hR.fm with ⟨kd,⟨m,hm,hv⟩,⟨l1,l2,l3⟩,co,ci,cv,fv⟩)<;>(refine zk ?_;clear zk zP)
 have own:∀b o,(b=env.locals∨∃x,env.kindOf x=some .cell∧env.cells.lookup x=some b)→s.heap.get? b=some o→(∃o',s'.heap.get? b=some o'∧EP o o')∧F' b=none∧hp' b=none:=by
  intro b o h e'
  have g:frz G env s.heap b=some o:=by unfold frz;rw [if_pos h];exact e'
  refine ⟨W.gz _ _ g,?_,?_⟩
  ·cases q:F' b with
   |none=>rfl
   |some o'=>have:=W.fg b o' q;rw [g] at this;exact Ao this
  ·cases q:hp' b with
   |none=>rfl
   |some x=>have:=(W.ob b x q).2.1;rw [g] at this;exact Ao this
 have noG:∀{b},frz G env s.heap b=none→G b=none:=by
  intro b h
  cases q:G b with
  |none=>rfl
  |some o=>rw [ex b o q] at h;exact Ao h
 refine ⟨⟨W.base,W.fz,fun b o q=>W.gz _ _ (ex _ _ q),fun a x q=>?_,W.os,W.bare,W.gi,fun b o q=>noG (W.fg b o q)⟩,?_,hR.fs⟩
 ·refine cps fun zP zk=>?_;(rcases W.ob a x q with ⟨p,r,o,t⟩)<;>(refine zk ?_;clear zk zP)
  exact ⟨p,noG r,o,t⟩
 ·refine xa3_2 (id hm) ?_;intro oL es ep hL r
  refine xa0_3 (own _ _ (.inl rfl) hL) ?_;intro zq;refine xa1_2 zq ?_;(try clear zq);intro oL' z1 zg;intro z2 z3
  refine ⟨kd,⟨m,⟨oL',es,ep,z1,zg.data.trans r.1,r.2⟩,fun x av h1 h2=>let ⟨v,a,b⟩:=hv x av h1 h2;⟨v,a,b.mono e⟩⟩,⟨z2,l2,z3⟩,fun x hx=>?_,ci,fun x av c h1 h2 h3=>?_,fun x av h1 h2=>?_⟩
  ·refine cps fun zP zk=>?_;(rcases co x hx with ⟨c,hc,c1,c2,c3,c4,v,o,ho,hd⟩)<;>(refine zk ?_;clear zk zP)
   refine xa0_3 (own _ _ (.inr ⟨x,hx,hc⟩) ho) ?_;intro zq;refine xa1_2 zq ?_;(try clear zq);intro o' y1 yg;intro y2 y3
   exact ⟨c,hc,y2,c2,y3,c4,v,o',y1,yg.data.trans hd⟩
  ·refine xa1_2 (cv x av c h1 h2 h3) ?_;intro v;intro zq;refine xa1_2 zq ?_;(try clear zq);intro o ho hd;intro hvr
   refine xa0_2 (own _ _ (.inr ⟨x,h2,h3⟩) ho) ?_;intro zq;refine xa1_2 zq ?_;(try clear zq);intro o' y1 yg;intro zu
   exact ⟨v,⟨o',y1,yg.data.trans hd⟩,hvr.mono e⟩
  ·refine xa3_4 (fv x av h1 h2) ?_;intro c v o a1 a2 a3 a4
   exact ⟨c,v,o,a1,a2,a3,a4.mono e⟩
theorem Fn.call {f:Value} {args:List AV} {kw:List (Str×AV)} {Q:AV→HP→Prop} (h:Fn C A f args kw σ.hp Q) (hR:Rp C A F G env σ s) {vs:List Value} {kvs:List (Str×Value)} (hv:VRs F args vs) (hk:Cm F kw kvs) :
  wpAny (model C.prog C.w) A (PySem.call f vs kvs) (Av C A G env VR (fun v σ'=>σ'.loc=σ.loc∧Q v σ'.hp) F) E s:=by
 refine wpAny_call (codeAny_mono (h F _ s vs kvs (KE hR) (HV hR) hv hk) fun r s' z=>?_)
 refine xa4_5 z ?_;(try clear z);intro F' v av hp';rintro rfl;intro e hvr W q
 exact ⟨F',av,_,e,hvr,G7 hR e W,rfl,q⟩
noncomputable def CU (C:Cf) (h:Heap) (f:Value):Prop:=∃kp,Looks (model C.prog C.w) h (keeperOf f) kp
noncomputable def Bo (C:Cf) (A:Around) (E:Value→Shared→Prop) (env:Env) (f:AV) (first args:List AV) (kw:List (Str×AV)) (σ:Am) (Q:AV→Am→Prop):Prop:=
 ∀F G s fv us vs kvs,Rp C A F G env σ s→VR F f fv→VRs F first us→VRs F args vs→Cm F kw kvs→CU C s.heap fv∧wpAny (model C.prog C.w) A (PySem.call fv (us++vs) kvs) (Av C A G env VR Q F) E s
theorem AS {f:Value} {args:List (Bool×Sem Value)} {kws:List (Option Str×Sem Value)} (ha:args.all (!·.1)=true) (hk:kws.all (·.1.isSome)=true) {Q:Args→Shared→Prop}
  (h:wpAny (model C.prog C.w) A (spliced args) (fun vs s₁=>wpAny (model C.prog C.w) A (evalAll (kws.map (·.2))) (fun ks s₂=>Q ⟨vs,(kws.filterMap (·.1)).zip ks⟩ s₂) E s₁) E s) :
  wpAny (model C.prog C.w) A (evalArgs f true args kws) Q E s:=by
 match args with
 |[]=>
  refine evalArgs_kw_nil hk ?_
  intro Γ p hΓ
  have z:=h Γ p hΓ
  exact z Γ p hΓ
 |(false,t)::r=>exact evalArgs_kw hk h
 |(true,t)::r=>exact By ha
theorem Dz {α:Type} {M:Model} {vs:List Value} {m:Sem α} {Q:α→Shared→Prop} (h:wpAny M A m Q E s):wpAny M A (m.keep vs) Q E s:=fun Γ p hΓ=>by rw [Sem.wp_keep];exact h Γ p hΓ
theorem FI {M:Model} {vs:List Value} {m:Sem Value} {Q:Value→Shared→Prop} (h:wpAny M A m Q E s):wpAny M A (operate vs m) Q E s:=fun Γ p hΓ=>by rw [Sem.wp_operate];exact h Γ p hΓ
theorem Bn {pos:Pos} {f:Value} {first:List Value} {args:List (Bool×Sem Value)} {kws:List (Option Str×Sem Value)} {Q:Value→Shared→Prop}
  (h:wpAny (model C.prog C.w) A (evalArgs f true args kws) (fun a s₁=>CU C s₁.heap f∧wpAny (model C.prog C.w) A (PySem.call f (first++a.pos) a.kw) Q E s₁) E s) :
  wpAny (model C.prog C.w) A (callWith pos f first args kws) Q E s:=by
 unfold callWith
 refine wpAny_bind (wpAny_holding (wpAny_mono h (fun a s₁ z=>?_) fun zu zu x=>x))
 refine xa0_2 z ?_;(try clear z);intro zq;refine xa1_1 zq ?_;(try clear zq);intro kp hk;intro hc
 refine wpAny_bind (wpAny_standAt ?_)
 dsimp only
 refine wpAny_bind (hk.here ?_)
 have fin:wpAny (model C.prog C.w) A (PySem.call f (first++a.pos) a.kw) (fun r s'=>wpAny (model C.prog C.w) A (do holding [r] point;pure r) Q E s') E s₁:=
  wpAny_mono hc (fun r s' q=>wpAny_bind (wpAny_holding (wpAny_point (wpAny_pure q)))) fun zu zu x=>x
 split
 ·exact wpAny_bind (Dz fin)
 ·split
  ·exact wpAny_bind fin
  ·exact wpAny_bind (Dz fin)
 ·split
  ·exact wpAny_bind fin
  ·exact wpAny_bind (Dz fin)
 ·exact wpAny_bind fin
 ·exact wpAny_bind (FI fin)
theorem B7 {func:Expr} {args:List Expr} {kws:List Keyword} {pos:Pos} {Q:AV→Am→Prop}
  (h:Ev C A E env func σ (fun f σ₁=>L0 C A E env (backTo pos (starEach args env)) σ₁ (fun vs σ₂=>M0 C A E env ((backToKw pos (keywordEach kws env)).map (·.2)) σ₂ (fun ks σ₃=>Bo C A E env f [] vs (((backToKw pos (keywordEach kws env)).filterMap (·.1)).zip ks) σ₃ Q))))
  (he:eval (.Call func args kws pos) env=(do callWith pos (←eval func env) [] (backTo pos (starEach args env)) (backToKw pos (keywordEach kws env))):=by rfl)
  (ha:(backTo pos (starEach args env)).all (!·.1)=true:=by rfl) (hk:(backToKw pos (keywordEach kws env)).all (·.1.isSome)=true:=by rfl):Ev C A E env (.Call func args kws pos) σ Q:=by
 intro F G s hR
 rw [he]
 refine wpAny_bind (h.use hR fun F₁ f σ₁ vf s₁ e₁ hf hR₁ h₁=>Bn (AS ha hk (h₁.use hR₁ fun F₂ vs σ₂ us s₂ e₂ hvs hR₂ h₂=>h₂.use hR₂ fun F₃ ks σ₃ ws s₃ e₃ hks hR₃ h₃=>?_)))
 refine xa0_2 (h₃ F₃ G s₃ vf [] us _ hR₃ (hf.mono (e₂.trans e₃)) .nil (hvs.mono e₃) (Cm.zip hks)) ?_;intro a b
 exact ⟨a,wpAny_mono b (fun zu zu z=>Av.ext (e₁.trans (e₂.trans e₃)) z) fun zu zu x=>x⟩
noncomputable def Dx (C:Cf) (A:Around) (E:Value→Shared→Prop) (env:Env) (o:AV) (name:Str) (σ:Am) (Q:AV→List AV→Am→Prop):Prop:=
 ∀F G s v (pl:Sem Bool),Rp C A F G env σ s→VR F o v→wpAny (model C.prog C.w) A (getMethod v name pl) (fun r s'=>∃F' f first σ',A6 F F'∧VR F' f r.1∧VRs F' first r.2∧Rp C A F' G env σ' s'∧Q f first σ') E s
theorem A7 {o:Expr} {name:Str} {apos pos:Pos} {args:List Expr} {kws:List Keyword} {Q:AV→Am→Prop}
  (h:Ev C A E env o σ (fun ov σ₀=>Dx C A E env ov name σ₀ (fun f first σ₁=>L0 C A E env (backTo pos (starEach args env)) σ₁ (fun vs σ₂=>M0 C A E env ((backToKw pos (keywordEach kws env)).map (·.2)) σ₂ (fun ks σ₃=>Bo C A E env f first vs (((backToKw pos (keywordEach kws env)).filterMap (·.1)).zip ks) σ₃ Q)))))
  (hb:attributeBase o name env (eval o env)=eval o env:=by rfl) (hl:apos.endLine=pos.line:=by rfl)
  (hf:methodCallForm (args.length+kws.length) (backTo pos (starEach args env)) (backToKw pos (keywordEach kws env))=true:=by rfl)
  (ha:(backTo pos (starEach args env)).all (!·.1)=true:=by rfl) (hk:(backToKw pos (keywordEach kws env)).all (·.1.isSome)=true:=by rfl):Ev C A E env (.Call (.Attribute o name apos) args kws pos) σ Q:=by
 intro F G s hR
 show wpAny _ _ (do
  let ov ←attributeBase o name env (eval o env)
  standAt apos.atName
  methodCall o name apos pos env ov (args.length+kws.length) (backTo pos (starEach args env)) (backToKw pos (keywordEach kws env))) _ _ _
 rw [hb]
 refine wpAny_bind (h.use hR fun F₀ ov σ₀ vo s₀ e₀ ho hR₀ h₀=>wpAny_bind (wpAny_standAt ?_))
 unfold methodCall calleeOf methodCallPos
 rw [hf]
 simp only [if_true,Bool.not_true,Bool.false_or,hl,beq_self_eq_true]
 refine wpAny_bind (wpAny_holding (wpAny_mono (h₀ F₀ G s₀ vo _ hR₀ ho) (fun r s₁ z=>?_) fun zu zu x=>x))
 refine xa4_5 z ?_;(try clear z);intro F₁ f first σ₁ e₁ hf' hfi hR₁ h₁
 refine cps fun zP zk=>?_;(rcases r with ⟨rf,rfi⟩)<;>(refine zk ?_;clear zk zP)
 refine wpAny_bind (wpAny_pure (Bn (AS ha hk (h₁.use hR₁ fun F₂ vs σ₂ us s₂ e₂ hvs hR₂ h₂=>h₂.use hR₂ fun F₃ ks σ₃ ws s₃ e₃ hks hR₃ h₃=>?_))))
 refine xa0_2 (h₃ F₃ G s₃ rf rfi us _ hR₃ (hf'.mono (e₂.trans e₃)) (hfi.mono (e₂.trans e₃)) (hvs.mono e₃) (Cm.zip hks)) ?_;intro a b
 exact ⟨a,wpAny_mono b (fun zu zu z=>Av.ext (e₀.trans (e₁.trans (e₂.trans e₃))) z) fun zu zu x=>x⟩
structure FnAt (C:Cf) (f:Addr) (fd:FuncData):Prop where
 at_:∃o,C.h0.get? f=some o∧o.data=.func fd
 code:C.h0.CodeRec fd.code fd.qualname
 lim:C.h0.NoLimit
theorem FnAt.keep {f:Addr} {fd:FuncData} (h:FnAt C f fd) {h':Heap} (k:∀b o,C.h0.get? b=some o→h'.get? b=some o):CU C h' (.ref f):=by
 refine xa1_2 h.at_ ?_;intro o ho hd
 refine ⟨.frame,fun A Q E s k' q=>?_⟩
 unfold keeperOf
 refine wpAny_bind (wpAny_load (k' _ _ (k _ _ ho)) ?_)
 rw [hd]
 exact wpAny_pure q
inductive BR (F:FH):List (Str×AV)→List (Str×Value)→Prop
 |nil:BR F [] []
 |cons {k x v xs vs}:VR F x v→BR F xs vs→BR F ((k,x)::xs) ((k,v)::vs)
theorem BR.append {xs vs ys us} (h:BR F xs vs) (k:BR F ys us):BR F (xs++ys) (vs++us):=by
 induction h with
 |nil=>exact k
 |cons a zu ih=>exact .cons a ih
theorem BR.reverse {xs vs} (h:BR F xs vs):BR F xs.reverse vs.reverse:=by
 induction h with
 |nil=>exact .nil
 |cons a zu ih=>rw [List.reverse_cons,List.reverse_cons];exact ih.append (.cons a .nil)
theorem BR.look {xs vs} (h:BR F xs vs) {n:Str} {x:AV} (e:xs.lookup n=some x):∃v,vs.lookup n=some v∧VR F x v:=by
 induction h with
 |nil=>exact Ak e
 |@cons k y v xs vs a zu ih=>
  simp only [List.lookup] at e ⊢
  cases q:n == k with
  |true=>rw [q] at e;(have zc:=Option.some.inj e;clear e;subst zc);exact ⟨v,rfl,a⟩
  |false=>rw [q] at e;exact ih e
noncomputable def BE (C:Cf) (fd:FuncData) (args:List AV) (kw:List (Str×AV)) (loc:List (Str×AV)):Prop:=
 ∀F vs kvs,VRs F args vs→Cm F kw kvs→∃bs,Looks (model C.prog C.w) C.h0 (bindArgs fd ⟨vs,kvs⟩) bs∧BR F loc bs∧(bs.all fun x=>decide (fd.scope.names.lookup x.1=some .local))=true
theorem C7 {f:Addr} {fd:FuncData} {body:List Stmt} {args:List AV} {kw loc:List (Str×AV)} {hp:HP} {Q:AV→HP→Prop} (hf:FnAt C f fd) (hb:BE C fd args kw loc)
  (h:∀L,Dn C (A.deeper (callEnv fd L f)) (fun zu zu=>False) (callEnv fd L f) body ⟨loc.reverse,hp⟩ (fun fl σ'=>match fl with|.ret v=>Q v σ'.hp|.next=>Q .none σ'.hp|_=>False))
  (hroom:A.depth<recursionLimit) (hbody:fd.body=.stmts body:=by rfl) (hcell:(fd.scope.names.all fun x=>x.2 != .cell&&x.2 != .free)=true:=by rfl)
  (hco:fd.scope.isCoroutine=false:=by rfl) (hgen:fd.scope.isGenerator=false:=by rfl) (hk:fd.scope.kind=.function:=by rfl) :
  Fn C A (.ref f) args kw hp Q:=by
 intro F G s vs kvs fs W hv hkv
 refine xa1_2 hf.at_ ?_;intro o ho hd
 refine xa1_3 (hb F vs kvs hv hkv) ?_;intro bs hB hbr hl
 have hc:∀x∈fd.scope.names,x.2≠.cell∧x.2≠.free:=fun x hx=>by
  have:=List.all_eq_true.mp hcell x hx
  simpa using this
 have noK:∀L x,(callEnv fd L f).kindOf x≠some .cell∧(callEnv fd L f).kindOf x≠some .free:=by
  intro L x
  have key:∀kd,fd.scope.names.lookup x=some kd→(x,kd)∈fd.scope.names:=fun kd e=>by
   refine xa2_2 (List.lookup_eq_some_iff.mp e) ?_;intro l1 l2 e1 zu
   rw [e1];simp
  constructor
  ·intro e;exact (hc _ (key _ e)).1 rfl
  ·intro e;exact (hc _ (key _ e)).2 rfl
 refine codeAny_call_function hroom (W.old _ _ ho) hd hco hgen hbody (hf.code.keeps W.old) ?_
 refine hB _ _ _ s W.old (wpAny_newFunctionEnv (fun x hx=>(hc x hx).1) (fun x hx=>of_decide_eq_true (List.all_eq_true.mp hl x hx)) (fun h' hns hsb=>?_) hk)
 have kp:∀b o,s.heap.get? b=some o→h'.get? b=some o:=fun b o e=>hsb.extBut b o (Nat.ne_of_lt (Heap.lt_size e)) (Heap.get?_push_of_some _ e)
 refine ⟨hf.lim.keeps fun b o e=>kp _ _ (W.old _ _ e),codeAny_func ?_⟩
 refine xa0_3 (W.lt (Nat.le_refl s.heap.objs.size)) ?_;intro z1 z2 z3
 refine xa1_2 fs ?_;(try clear fs);intro fl fs1 fs2
 have hfs:FP (A.deeper (callEnv fd s.heap.objs.size f)) G (callEnv fd s.heap.objs.size f):=
  ⟨callEnv fd s.heap.objs.size f,fl,by simp only [Around.deeper,fs1,Option.map_some],by show fd.scope.kind≠_;rw [hk];decide,rfl,.inl ⟨rfl,rfl⟩,fs2⟩
 have hR:Rp C (A.deeper (callEnv fd s.heap.objs.size f)) F G (callEnv fd s.heap.objs.size f) ⟨loc.reverse,hp⟩ { s with heap:=h',toks:=s.toks+bs.length }:=by
  refine ⟨W.keep kp,⟨hk,⟨_,hns,fun x av hx zu=>hbr.reverse.look hx⟩,⟨z1,z2,z3⟩,fun x hx=>absurd hx (noK _ x).1,fun x zu zu hx=>absurd hx (noK _ x).1,fun x zu zu zu hx=>absurd hx (noK _ x).1,fun x zu zu hx=>absurd hx (noK _ x).2⟩,hfs⟩
 refine wpAny_mono ((h s.heap.objs.size).go hR (A6.refl F)) (fun fl s' z=>?_) fun zu zu x=>x.elim
 refine cps fun zP zk=>?_;(rcases z with ⟨F',b,σ',e1,r,hR',q⟩)<;>(refine zk ?_;clear zk zP)
 cases r with
 |next=>exact ⟨F',_,.none,σ'.hp,rfl,e1,.none,hR'.wd,q⟩
 |brk=>exact q.elim
 |cont=>exact q.elim
 |ret hvr=>exact ⟨F',_,_,σ'.hp,rfl,e1,hvr,hR'.wd,q⟩
theorem B8 {f:Addr} {fd:FuncData} {first args:List AV} {kw:List (Str×AV)} {Q:AV→Am→Prop} (hf:FnAt C f fd) (h:Fn C A (.ref f) (first++args) kw σ.hp (fun v hp'=>Q v { σ with hp:=hp' })) :
  Bo C A E env (.ref f) first args kw σ Q:=by
 intro F G s fv us vs kvs hR hfv hus hvs hk
 (have zc:=VR.refI hfv;clear hfv;subst zc)
 refine ⟨hf.keep hR.wd.old,wpAny_mono (h.call hR (hus.append hvs) hk) (fun v s' z=>?_) fun zu zu x=>x⟩
 refine cps fun zP zk=>?_;(rcases z with ⟨F',av,⟨l,h'⟩,e,hv,hR',hl,q⟩)<;>(refine zk ?_;clear zk zP)
 dsimp only at hl
 subst hl
 exact ⟨F',av,_,e,hv,hR',q⟩
end
end
section
noncomputable def BT (C:Cf) (Cl:Addr) (name:Str) (f:Addr):Prop:=∃K:Frag,K.In C.h0 ∧
 findIn K (.ref Cl) "__getattribute__" = some (some (.builtin "object.__getattribute__"))∧findIn K (.ref Cl) "__getattr__" = some none ∧
 findIn K (.ref Cl) name=some (some (.ref f))∧typeIn K (.ref f)=some (.type "function")
noncomputable def E1 (C:Cf) (Cl fI:Addr):Prop:=∃K:Frag,K.In C.h0∧makesIn K Cl=true∧findIn K (.ref Cl) "__init__" = some (some (.ref fI))∧typeIn K (.ref fI)=some (.type "function")
section
variable {C:Cf} {A:Around} {E:Value→Shared→Prop} {env:Env} {σ:Am} {F G:FH} {s:Shared}
theorem NR.noName {P:Params} {fs:List (Str×AV)} {ds:List DictEntry} (h:NR P F fs ds) {name:Str} (e:fs.lookup name=none):ds.find? (·.key.isStr name)=none:=by
 induction h with
 |nil=>rfl
 |@cons k v es en ds t a b c zu ih=>
  simp only [List.lookup] at e
  cases q:name == k with
  |true=>rw [q] at e;exact Ao e
  |false=>
   rw [q] at e
   rw [List.find?_cons,b]
   have:(Value.str k t).isStr name=false:=by
    simp only [Value.isStr,beq_eq_false_iff_ne,ne_eq]
    exact fun z=>(beq_eq_false_iff_ne.mp q) z.symm
   rw [this];exact ih e
theorem B0 {a d Cl f:Addr} {name:Str} {fs:List (Str×AV)} {Q:AV→List AV→Am→Prop} (hm:BT C Cl name f) (ha:σ.hp a=some (.inst Cl d)) (hd:σ.hp d=some (.ns fs)) (hn:fs.lookup name=none)
  (h:Q (.ref f) [.ref a] σ):Dx C A E env (.ref a) name σ Q:=by
 intro F G s v pl hR hv
 (have zc:=VR.refI hv;clear hv;subst zc)
 refine xa1_5 hm ?_;(try clear hm);intro K X g1 g2 g3 g4
 refine cps fun zP zk=>?_;(rcases hR.wd.ob a _ ha with ⟨zu,zu,o,ho,r⟩)<;>(refine zk ?_;clear zk zP)
 refine cps fun zP zk=>?_;(rcases hR.wd.ob d _ hd with ⟨zu,zu,od,hod,rd⟩)<;>(refine zk ?_;clear zk zP)
 (refine OR.instC r fun zo=>?_;clear r;subst zo)
 (refine OR.nsC rd fun ds n hex hda hnr=>?_;clear rd)
 refine method_fn (od:=some od) (X.keeps hR.wd.old) ⟨ho,rfl,rfl,hod⟩ g1 g2 g3 g4 ?_ ⟨F,.ref f,[.ref a],σ,A6.refl F,.ref f,.cons (.ref a) .nil,hR,h⟩
 simp only [shadowIn,lookIn,hda,hnr.noName hn,hnr.noRef,Bool.false_eq_true,if_false,Option.map_some,Option.isSome_none]
theorem Ir {Cl fI:Addr} (h:E1 C Cl fI) {h':Heap} (k:∀b o,C.h0.get? b=some o→h'.get? b=some o):CU C h' (.ref Cl):=by
 refine xa1_3 h ?_;(try clear h);intro K X g1 zu
 have Y:=makes_of (M:=model C.prog C.w) (X.keeps k) g1
 refine xa4_2 Y.obj ?_;intro oc od cd sl ho zu
 refine ⟨.machine,fun A Q E s k' q=>?_⟩
 unfold keeperOf
 refine wpAny_bind (wpAny_load (k' _ _ ho) ?_)
 refine wpAny_bind (Y.call A _ E s k' ?_)
 exact wpAny_pure q
theorem Lr {Cl fI:Addr} {args:List AV} {kw:List (Str×AV)} {hp:HP} {Q:AV→HP→Prop} (hm:E1 C Cl fI)
  (h:∀x vs kvs,hp x=none→Fn C (A.under (.builtin "type.__call__" ⟨.ref Cl::vs,kvs⟩)) (.ref fI) (.ref x::args) kw (upd hp x (.slot Cl [])) (fun v hp'=>v=.none∧Q (.ref x) hp')) :
  Fn C A (.ref Cl) args kw hp Q:=by
 intro F G s vs kvs fs W hv hk
 refine xa1_4 hm ?_;(try clear hm);intro K X g1 g2 g3
 refine cps fun zP zk=>?_;(rcases s with ⟨hh,g,d,t,os⟩)<;>(refine zk ?_;clear zk zP)
 have X':=X.keeps W.old
 refine make_core (makes_of X' g1) (looks_findIn X' g2) (fun self=>bind_fn X' self g3) (.inl rfl) ?_
 refine xa0_2 (W.freeze (t:=t) (o':=emptyDict) rfl) ?_;intro W1 e1
 have W2:=W1.alloc (t:=t) (x':=.slot Cl []) (o':=instObj Cl hh.objs.size) rfl rfl (.slot (us:=[]) (Ar F _ _) .nil)
 have z:hp (hh.objs.size+1)=none:=(W.lt (Nat.le_succ _)).2.2
 dsimp only at W2
 rw [Heap.size_push] at W2
 refine codeAny_mono (h (hh.objs.size+1) vs kvs z _ _ _ (.ref (hh.objs.size+1)::vs) kvs fs W2 (.cons (.ref _) (hv.mono e1)) (hk.mono e1)) fun r s' q=>?_
 refine xa4_6 q ?_;(try clear q);intro F' v av hp';rintro rfl;intro e2 hvr W';rintro rfl;intro q
 (have zc:=VR.noneI hvr;clear hvr;subst zc)
 exact ⟨rfl,F',_,.ref _,hp',rfl,e1.trans e2,.ref _,W',q⟩
theorem Ls {Cl fI:Addr} {args:List AV} {kw:List (Str×AV)} {hp:HP} {Q:AV→HP→Prop} (hm:E1 C Cl fI)
  (h:∀x d vs kvs,hp x=none→hp d=none→x≠d→Fn C (A.under (.builtin "type.__call__" ⟨.ref Cl::vs,kvs⟩)) (.ref fI) (.ref x::args) kw (upd (upd hp d (.ns [])) x (.inst Cl d)) (fun v hp'=>v=.none∧Q (.ref x) hp')) :
  Fn C A (.ref Cl) args kw hp Q:=by
 intro F G s vs kvs fs W hv hk
 refine xa1_4 hm ?_;(try clear hm);intro K X g1 g2 g3
 refine cps fun zP zk=>?_;(rcases s with ⟨hh,g,d,t,os⟩)<;>(refine zk ?_;clear zk zP)
 have X':=X.keeps W.old
 refine make_core (makes_of X' g1) (looks_findIn X' g2) (fun self=>bind_fn X' self g3) (.inl rfl) ?_
 have W1:=W.alloc (t:=t) (x':=.ns []) (o':=emptyDict) rfl rfl (.ns (ds:=[]) (n:=0) ⟨rfl,rfl,rfl⟩ rfl .nil)
 have W2:=W1.alloc (t:=t) (x':=.inst Cl hh.objs.size) (o':=instObj Cl hh.objs.size) rfl rfl .inst
 have z:hp (hh.objs.size+1)=none:=(W.lt (Nat.le_succ _)).2.2
 have z':hp hh.objs.size=none:=(W.lt (Nat.le_refl _)).2.2
 dsimp only at W2
 rw [Heap.size_push] at W2
 refine codeAny_mono (h (hh.objs.size+1) hh.objs.size vs kvs z z' (Nat.succ_ne_self _) _ _ _ (.ref (hh.objs.size+1)::vs) kvs fs W2 (.cons (.ref _) hv) hk) fun r s' q=>?_
 refine xa4_6 q ?_;(try clear q);intro F' v av hp';rintro rfl;intro e2 hvr W';rintro rfl;intro q
 (have zc:=VR.noneI hvr;clear hvr;subst zc)
 exact ⟨rfl,F',_,.ref _,hp',rfl,e2,.ref _,W',q⟩
theorem E2 {Cl fI:Addr} {args:List AV} {kw:List (Str×AV)} {Q:AV→Am→Prop} (hm:E1 C Cl fI) (h:Fn C A (.ref Cl) args kw σ.hp (fun v hp'=>Q v { σ with hp:=hp' })) :
  Bo C A E env (.ref Cl) [] args kw σ Q:=by
 intro F G s fv us vs kvs hR hfv hus hvs hk
 (have zc:=VR.refI hfv;clear hfv;subst zc)
 (have zc:=VRs.nilI hus;clear hus;subst zc)
 refine ⟨Ir hm hR.wd.old,wpAny_mono (h.call hR hvs hk) (fun v s' z=>?_) fun zu zu x=>x⟩
 refine cps fun zP zk=>?_;(rcases z with ⟨F',av,⟨l,h'⟩,e,hv,hR',hl,q⟩)<;>(refine zk ?_;clear zk zP)
 dsimp only at hl
 subst hl
 exact ⟨F',av,_,e,hv,hR',q⟩
theorem AG {h':Heap} {f:Value} (hf:∀a,f≠.ref a):CU C h' f:=by
 refine ⟨.machine,fun A Q E s k' q=>?_⟩
 unfold keeperOf
 cases f<;>first|exact wpAny_pure q|exact absurd rfl (hf _)
end
end
section
section
variable {C:Cf} {A:Around} {E:Value→Shared→Prop} {env:Env} {σ:Am} {F G:FH} {s:Shared}
theorem Lu {value slice:Expr} {pos:Pos} {Q:AV→Am→Prop} (h:Ev C A E env value σ (fun a σ₁=>Ev C A E env slice σ₁ (fun b σ₂=>E0 C A E env VR (subscriptTail value slice) a b σ₂ Q))):Ev C A E env (.Subscript value slice pos) σ Q:=by
 intro F G s hR
 refine Subscript_ (h.use hR fun F₁ a σ₁ va s₁ e₁ ha hR₁ h₁=>h₁.use hR₁ fun F₂ b σ₂ vb s₂ e₂ hb hR₂ h₂=>?_)
 exact h₂.at (e₁.trans e₂) hR₂ (ha.mono e₂) hb
theorem DF (slice:Expr) (o i:Value):∃ops,subscripted slice false o i=operate ops (getItem o i):=by
 unfold subscripted
 split
 ·exact ⟨_,rfl⟩
 ·rename_i h;exact By h
 ·exact ⟨_,rfl⟩
theorem B3 {value slice:Expr} {o i:Value} {T id:String} {Q:Value→Shared→Prop} (hT:s.TypeIs o T) (hl:typeLookup (.type T) "__getitem__" = pure (some (.builtin id)))
  (hg:wpAny (model C.prog C.w) A (getItem o i) Q E s):wpAny (model C.prog C.w) A (subscriptTail value slice o i) Q E s:=by
 refine xa1_1 (DF slice o i) ?_;intro ops h
 exact tail_any hT hl hg h
theorem Rp.list (hR:Rp C A F G env σ s) {a:Addr} {xs:List AV} (ha:σ.hp a=some (.list xs)):∃vs n,IsL s.heap a vs.toArray n∧VRs F xs vs:=by
 refine cps fun zP zk=>?_;(rcases hR.wd.ob a _ ha with ⟨zu,zu,o,ho,r⟩)<;>(refine zk ?_;clear zk zP)
 (refine OR.listC r fun vs n h1 h2 h3 h4 h5=>?_;clear r)
 refine ⟨vs,n,?_,h5⟩
 refine cps fun zP zk=>?_;(rcases o with ⟨c,d,dt,sl⟩)<;>(refine zk ?_;clear zk zP)
 dsimp only at h1 h2 h3 h4
 subst h1 h2 h3 h4
 exact ho
theorem OR.ofL {gens} {xs:List AV} {vs:List Value} {n:Nat} (h:VRs F xs vs):OR C F gens (.list xs) { cls:=.type "list",dict:=none,data:=.seq vs.toArray n,slots:=#[] }:=.list rfl rfl rfl rfl h
theorem Rp.dictOf (hR:Rp C A F G env σ s) {a:Addr} {l:List (As×AV)} {ep:Nat} (ha:σ.hp a=some (.dict l ep)):∃kvs,s.heap.DictOf (Bh C.prog C.w) a kvs∧SV F l kvs:=by
 refine cps fun zP zk=>?_;(rcases hR.wd.ob a _ ha with ⟨zu,zu,o,ho,r⟩)<;>(refine zk ?_;clear zk zP)
 (refine OR.dictC r fun zv zv a1 a2 a3 a4 a5 a6=>?_;clear r)
 exact ⟨_,⟨_,_,_,ho,a1,a2,a3,a4,a5⟩,a6⟩
theorem DictOf.or {gens} {h':Heap} {a:Addr} {kvs:List (As×Value)} {l:List (As×AV)} (hd:h'.DictOf (Bh C.prog C.w) a kvs) (hv:SV F l kvs):∃o ep,h'.get? a=some o∧OR C F gens (.dict l ep) o:=by
 refine xa3_6 hd ?_;(try clear hd);intro o es ep ho a1 a2 a3 a4 a5
 exact ⟨o,ep,ho,.dict a1 a2 a3 a4 a5 hv⟩
noncomputable def DA (l:List (As×AV)) (k:As):Option AV:=(l.find? fun p=>p.1=k).map (·.2)
theorem SV.at {l:List (As×AV)} {kvs:List (As×Value)} (h:SV F l kvs) (k:As):(∃x v,DA l k=some x∧valueAt kvs k=some v∧VR F x v)∨(DA l k=none∧valueAt kvs k=none):=by
 induction h with
 |nil=>exact .inr ⟨rfl,rfl⟩
 |@cons k' x v xs vs a zu ih=>
  by_cases q:k'=k
  ·subst q;exact .inl ⟨x,v,by simp [DA],by simp [valueAt],a⟩
  ·have e1:DA ((k',x)::xs) k=DA xs k:=by simp [DA,q]
   have e2:valueAt ((k',v)::vs) k=valueAt vs k:=by simp [valueAt,q]
   rw [e1,e2];exact ih
noncomputable def Cr (l:List (As×AV)) (k:As) (x:AV):List (As×AV):=if l.any (fun p=>p.1=k) then l.map (fun p=>if p.1=k then (p.1,x) else p) else l++[(k,x)]
theorem SV.append {x v y u} (h:SV F x v) (k:SV F y u):SV F (x++y) (v++u):=by
 induction h with
 |nil=>exact k
 |cons a zu ih=>exact .cons a ih
theorem SV.stored {l:List (As×AV)} {kvs:List (As×Value)} (h:SV F l kvs) {k:As} {x:AV} {v:Value} (hv:VR F x v):SV F (Cr l k x) (PySem.stored kvs k v):=by
 have e:l.any (fun p=>decide (p.1=k))=kvs.any (fun p=>decide (p.1=k)):=by
  have z:∀{α:Type} (m:List (As×α)),m.any (fun p=>decide (p.1=k))=(m.map (·.1)).any (fun q=>decide (q=k)):=fun m=>by rw [List.any_map];rfl
  rw [z,z,h.keys]
 unfold Cr PySem.stored
 rw [e]
 split
 ·rename_i z;clear z e
  induction h with
  |nil=>exact .nil
  |@cons k' y u xs vs a zu ih=>
   simp only [List.map_cons]
   split
   ·exact .cons hv ih
   ·exact .cons a ih
 ·exact h.append (.cons hv .nil)
theorem BZ {knd:KeyKind C.prog C.w As} {h:Heap} {a:Addr} {kvs:List (As×Value)} (hd:h.DictOf knd a kvs):h.MapOf knd a (valueAt kvs):=by
 refine xa3_6 hd ?_;(try clear hd);intro o es ep ho a1 a2 a3 a4 a5
 exact ⟨o,es,ep,ho,a1,a2,a3,fun k=>by rw [←a4.find k];unfold findBy;rw [Array.find?_toList]⟩
theorem As.is_of {k:As} {v:Value} (h:VR F k.av v):k.is v=true:=by
 cases k<;>(first|(have zc:=VR.intI h;clear h;rcases zc with ⟨zu,zc⟩;subst zc)|(have zc:=VR.strI h;clear h;rcases zc with ⟨zu,zc⟩;subst zc)|cases h)<;>simp [As.is]
theorem Rp.low (hR:Rp C A F G env σ s) {a:Addr} {x:AO} (ha:σ.hp a=some x) (hs:(C.h0.get? sysModules).isSome=true):(a == sysModules)=false:=by
 simp only [beq_eq_false_iff_ne,ne_eq]
 rintro rfl
 refine xa1_1 (Option.isSome_iff_exists.mp hs) ?_;intro o ho
 have:=(hR.wd.ob _ _ ha).1
 rw [hR.wd.base _ _ ho] at this;exact Ao this
variable (hs:(C.h0.get? sysModules).isSome=true)
theorem Gk {value slice:Expr} {a:Addr} {l:List (As×AV)} {ep:Nat} {k:As} {x:AV} {Q:AV→Am→Prop} (ha:σ.hp a=some (.dict l ep)) (hx:DA l k=some x) (h:Q x σ):E0 C A E env VR (subscriptTail value slice) (.ref a) k.av σ Q:=by
 intro F G s v u hR hv hu
 (have zc:=VR.refI hv;clear hv;subst zc)
 refine xa1_2 (hR.dictOf ha) ?_;intro kvs hd sv
 rcases sv.at k with ⟨x',v',h1,h2,h3⟩|⟨h1,zu⟩
 ·rw [hx] at h1;(have zc:=Option.some.inj h1;clear h1;subst zc)
  have hm:=BZ hd
  exact B3 hm.typeIs slot_dict_getitem.lookup (wpAny_getItem_of (As.is_of hu) hm h2 (Av.of h3 (hR.tok _) h))
 ·rw [hx] at h1;exact Ao h1
include hs in
theorem IM {a:Addr} {l:List (As×AV)} {ep:Nat} {k:As} {Q:AV→Am→Prop} (ha:σ.hp a=some (.dict l ep)) (h:Q (.bool (DA l k).isSome) σ):E0 C A E env VR (compareOp .In) k.av (.ref a) σ Q:=by
 intro F G s v u hR hv hu
 (have zc:=VR.refI hu;clear hu;subst zc)
 refine xa1_2 (hR.dictOf ha) ?_;intro kvs hd sv
 refine wpAny_in_of (As.is_of hv) (hR.low ha hs) (BZ hd) (Av.of ?_ (hR.tok _) h)
 rcases sv.at k with ⟨x',v',h1,h2,h3⟩|⟨h1,h2⟩
 ·rw [h1,h2];exact .bool _
 ·rw [h1,h2];exact .bool _
theorem Kk {a b:Value} {Q:Value→Shared→Prop} (h:wpAny (model C.prog C.w) A (compareOp .In a b) (fun v s'=>∃t,v=.bool t∧Q (.bool (!t)) s') E s):wpAny (model C.prog C.w) A (compareOp .NotIn a b) Q E s:=by
 have h':wpAny (model C.prog C.w) A (do return Value.bool (←contains b a)) (fun v s'=>∃t,v=.bool t∧Q (.bool (!t)) s') E s:=h
 show wpAny _ _ (do return Value.bool (!(←contains b a))) _ _ _
 intro Γ p hΓ
 have z:=h' Γ p hΓ
 rw [Sem.wp_bind'] at z ⊢
 refine Sem.wp_mono _ _ _ (fun t p' s' q=>?_) (fun zu zu zu q=>q) _ _ z
 refine xa1_2 q ?_;(try clear q);intro t' e q
 cases e
 exact q
theorem Fh {x y:AV} {Q:AV→Am→Prop} (h:E0 C A E env VR (compareOp .In) x y σ (fun v σ'=>∃t,v=.bool t∧Q (.bool (!t)) σ')):E0 C A E env VR (compareOp .NotIn) x y σ Q:=by
 intro F G s v u hR hv hu
 refine Kk (wpAny_mono (h F G s v u hR hv hu) (fun r s' z=>?_) fun zu zu x=>x)
 refine cps fun zP zk=>?_;(rcases z with ⟨F',b,σ',e,hb,hR',t,rfl,q⟩)<;>(refine zk ?_;clear zk zP)
 (have zc:=VR.boolI hb;clear hb;subst zc)
 exact ⟨t,rfl,F',_,σ',e,.bool _,hR',q⟩
theorem Co {o i value:Expr} {pos' pos:Pos} {Q:A5→Am→Prop}
  (h:Ev C A E env value σ (fun v σ₁=>Ev C A E env o σ₁ (fun b σ₂=>Ev C A E env i σ₂ (fun k σ₃=>∀F G s vv vb vk,Rp C A F G env σ₃ s→VR F v vv→VR F b vb→VR F k vk →
   wpAny (model C.prog C.w) A (setItem vb vk vv) (fun zu s'=>∃F' σ',A6 F F'∧Rp C A F' G env σ' s'∧Q .next σ') E s))))
  (hs:swapsWith value (some (.Subscript o i pos')) pos.line env=pure false:=by rfl):Ex C A E env (.Assign [.Subscript o i pos'] value pos) σ Q:=by
 intro F G s hR
 refine wpAny_Assign_Subscript (h.use hR fun F₁ a σ₁ va s₁ e₁ ha hR₁ h₁=>h₁.use hR₁ fun F₂ b σ₂ vb s₂ e₂ hb hR₂ h₂=>h₂.use hR₂ fun F₃ k σ₃ vk s₃ e₃ hk hR₃ h₃=>?_) hs
 refine wpAny_mono (h₃ F₃ G s₃ va vb vk hR₃ (ha.mono (e₂.trans e₃)) (hb.mono e₃) hk) (fun zu s' z=>?_) fun zu zu x=>x
 refine xa2_3 z ?_;(try clear z);intro F' σ' e hR' q
 exact ⟨F',.next,σ',e₁.trans (e₂.trans (e₃.trans e)),.next,hR',q⟩
theorem SameBut.rest {h h':Heap} {a:Addr} (hs:Heap.SameBut a h h'):∀b o,b≠a→h.get? b=some o→h'.get? b=some o:=fun b o ne e=>(hs.2 b ne).trans e
theorem Fo {a:Addr} {l:List (As×AV)} {ep:Nat} {k:As} {x:AV} {Q:Am→Prop} (ha:σ.hp a=some (.dict l ep)) (hz:l.length≤4096) (h:∀ep',Q (σ.put a (.dict (Cr l k x) ep'))) :
  ∀F G s vv vb vk,Rp C A F G env σ s→VR F x vv→VR F (.ref a) vb→VR F k.av vk→wpAny (model C.prog C.w) A (setItem vb vk vv) (fun zu s'=>∃F' σ',A6 F F'∧Rp C A F' G env σ' s'∧Q σ') E s:=by
 intro F G s vv vb vk hR hv hb hk
 (have zc:=VR.refI hb;clear hb;subst zc)
 refine xa1_2 (hR.dictOf ha) ?_;intro kvs hd sv
 refine wpAny_setItem_pairs (As.is_of hk) hd (fun h' hd' hsb=>?_) (by rw [sv.length,sizeLine_eq];with_reducible exact CM ‹_› (by decide))
 refine xa2_2 (DictOf.or (C:=C) (gens:=s.gens) hd' (sv.stored hv)) ?_;intro o ep' ho r
 exact ⟨F,_,A6.refl F,hR.change ha rfl ho r (SameBut.rest hsb),h ep'⟩
theorem A4 {id:String} {first args:List AV} {Q:AV→Am→Prop} (h:∀F G s us vs,Rp C A F G env σ s→VRs F first us→VRs F args vs→wpAny (model C.prog C.w) A (PySem.call (.builtin id) (us++vs)) (Av C A G env VR Q F) E s) :
  Bo C A E env (.val (.builtin id)) first args [] σ Q:=by
 intro F G s fv us vs kvs hR hf hus hvs hk
 (have zc:=VR.valI hf;clear hf;subst zc);cases hk
 exact ⟨AG (by intro a;simp),h F G s us vs hR hus hvs⟩
theorem D8 {T:String} {args:List AV} {Q:AV→Am→Prop} (h:∀F G s vs,Rp C A F G env σ s→VRs F args vs→wpAny (model C.prog C.w) A (PySem.call (.type T) vs) (Av C A G env VR Q F) E s) :
  Bo C A E env (.val (.type T)) [] args [] σ Q:=by
 intro F G s fv us vs kvs hR hf hus hvs hk
 (have zc:=VR.valI hf;clear hf;subst zc);cases hk;(have zc:=VRs.nilI hus;clear hus;subst zc)
 exact ⟨AG (by intro a;simp),h F G s vs hR hvs⟩
theorem Be {a:Addr} {x:AO} {T:String} {name:Str} {id:String} {Q:AV→List AV→Am→Prop} (ha:σ.hp a=some x) (hT:∀F gens o,OR C F gens x o→o.cls=.type T∧o.dict=none) (pa:PlainAttrs T) (slot:Slot T name id)
  (hty:typeOf (.builtin id)=pure (.type "method_descriptor")) (h:Q (.val (.builtin id)) [.ref a] σ):Dx C A E env (.ref a) name σ Q:=by
 intro F G s v pl hR hv
 (have zc:=VR.refI hv;clear hv;subst zc)
 refine cps fun zP zk=>?_;(rcases hR.wd.ob a _ ha with ⟨zu,zu,o,ho,r⟩)<;>(refine zk ?_;clear zk zP)
 refine xa0_2 (hT _ _ _ r) ?_;intro h1 h2
 exact getMethod_builtin ⟨o,ho,h1⟩ pa slot hty (fun b e=>by cases e;exact ⟨o,ho,h2⟩) ⟨F,_,_,σ,A6.refl F,.val _,.cons (.ref a) .nil,hR,h⟩
theorem OR.clsL {xs:List AV}:∀F gens o,OR C F gens (.list xs) o→o.cls=.type "list"∧o.dict=none:=by
 intro F gens o r;(refine OR.listC r fun zv zv a b zv zv zv=>?_;clear r);exact ⟨a,b⟩
theorem OR.clsD {l:List (As×AV)} {ep:Nat}:∀F gens o,OR C F gens (.dict l ep) o→o.cls=.type "dict"∧o.dict=none:=by
 intro F gens o r;(refine OR.dictC r fun zv zv a zv zv zv zv zv=>?_;clear r);exact ⟨a.1,a.2.1⟩
theorem list_append {a:Addr} {xs:List AV} {x:AV} {Q:AV→Am→Prop} (ha:σ.hp a=some (.list xs)) (hz:xs.length≤100000) (h:Q .none (σ.put a (.list (xs++[x])))):Bo C A E env (.val (.builtin "list.append")) [.ref a] [x] [] σ Q:=by
 refine A4 fun F G s us vs hR hus hvs=>?_
 refine VRs.consC hus fun zv zw zo q r=>?_;clear hus;subst zo;(have zc:=VR.refI q;clear q;subst zc);(have zc:=VRs.nilI r;clear r;subst zc);refine VRs.consC hvs fun v zw zo q2 r2=>?_;clear hvs;subst zo
 (have zc:=VRs.nilI r2;clear r2;subst zc)
 refine xa2_2 (hR.list ha) ?_;intro ws n hl hv
 refine call_meets PySem.F.slot_list_append ⟨_,hl,rfl⟩ PySem.F.entry_list_append (PySem.F.args_list_append_2 _ _) (PySem.list_append a ws.toArray n v (by rw [List.size_toArray,hv.length,sizeLine_eq];with_reducible exact CM ‹_› (by decide))) ⟨hl,?_⟩
 have hl':=hl.update (fun x=>x.push v)
 refine ⟨F,.none,_,A6.refl F,.none,hR.change ha rfl hl' ?_ (SameBut.rest (Heap.SameBut.update ..)),h⟩
 rw [List.push_toArray]
 exact OR.ofL (hv.append (.cons q2 .nil))
theorem Hg {a:Addr} {xs:List AV} {x:AV} {Q:AV→Am→Prop} (ha:σ.hp a=some (.list (xs++[x]))) (hz:xs.length≤100000) (h:Q x (σ.put a (.list xs))):Bo C A E env (.val (.builtin "list.pop")) [.ref a] [] [] σ Q:=by
 refine A4 fun F G s us vs hR hus hvs=>?_
 obtain rfl:us=[Value.ref a]:=by refine VRs.consC hus fun zv zw zo q r=>?_;clear hus;subst zo;(have zc:=VR.refI q;clear q;subst zc);(have zc:=VRs.nilI r;clear r;subst zc);rfl
 obtain rfl:vs=[]:=by (have zc:=VRs.nilI hvs;clear hvs;subst zc);rfl
 refine xa2_2 (hR.list ha) ?_;intro ws n hl hv
 have hlen:=hv.length
 rw [List.length_append,List.length_singleton] at hlen
 refine xa1_2 (hv.get (i:=xs.length) (x:=x) (by simp)) ?_;intro w hw hwv
 have hd:ws.take xs.length++[w]=ws:=by
  have e1:ws.drop xs.length=[w]:=by
   have:(ws.drop xs.length).length=1:=by rw [List.length_drop];exact Nat.le_antisymm (Ax [_,_,_] [(1,Z1,(Zs Z2)),(1,(Za Z0 Z2),Z1)] Z0 (Zn 1) rfl (Nat.le_of_eq hlen) (Nat.le_of_eq (Nat.sub_add_cancel (Ax [_,_] [(1,(Zs Z0),Z1)] Z0 Z1 rfl (Nat.le_of_eq (Eq.symm hlen)))))) (Ax [_,_,_] [(1,(Zs Z1),Z2),(1,Z2,(Za Z0 Z1))] (Zn 1) Z0 rfl (Nat.le_of_eq (Eq.symm hlen)) (CG _ _))
   refine xa1_1 (List.length_eq_one_iff.mp this) ?_;intro y hy
   have:(ws.drop xs.length)[0]? = some w:=by rw [List.getElem?_drop,Nat.add_zero];exact hw
   rw [hy] at this ⊢;simpa using this
  rw [←e1];exact List.take_append_drop _ _
 refine call_meets PySem.F.slot_list_pop ⟨_,hl,rfl⟩ PySem.F.entry_list_pop (PySem.F.args_list_pop_1 _) (MeetsSeq.list_pop_last a ws.toArray n w (by rw [List.size_toArray,List.getElem?_toArray,hlen];exact hw) (by rw [List.size_toArray,hlen,sizeLine_eq];exact Ax [_] [(1,Z0,(Zn 100000))] (Zs Z0) (Zn 16777216) rfl hz)) ⟨hl,?_⟩
 have hl':=hl.update (fun y=>y.eraseIdxIfInBounds (ws.toArray.size - 1))
 have ee:(ws.toArray.eraseIdxIfInBounds (ws.toArray.size - 1))=(ws.take xs.length).toArray:=by
  apply Array.ext'
  simp only [List.size_toArray,hlen,Nat.add_sub_cancel]
  rw [Array.toList_eraseIdxIfInBounds]
  show ws.eraseIdx xs.length=_
  conv=>lhs;rw [←hd]
  rw [List.eraseIdx_append_of_length_le (by rw [List.length_take];omega)]
  simp [List.length_take,hlen]
 refine ⟨F,x,_,A6.refl F,hwv,hR.change ha rfl hl' ?_ (SameBut.rest (Heap.SameBut.update ..)),h⟩
 rw [ee]
 have:=hv.take xs.length
 rw [List.take_left] at this
 exact OR.ofL this
theorem E4 {a:Addr} {xs:List AV} {Q:Bool→Am→Prop} (ha:σ.hp a=some (.list xs)) (hz:xs.length≤100000) (h:Q (!xs.isEmpty) σ):GE C A E env (fun zu b b'=>b=b') truthy (.ref a) σ Q:=by
 intro F G s v hR hv
 (have zc:=VR.refI hv;clear hv;subst zc)
 refine xa2_2 (hR.list ha) ?_;intro ws n hl hv
 refine wpAny_truthy_list hl.isList (by rw [List.size_toArray,hv.length];omega) (Av.of ?_ (hR.tok _) h)
 rw [List.isEmpty_toArray]
 cases hv<;>rfl
end
end
section
section
variable {C:Cf} {A:Around} {E:Value→Shared→Prop} {env:Env} {σ:Am} {F G:FH} {s:Shared}
theorem LN {a b:Int} {Q:AV→Am→Prop} (h:Q (.int (a+b)) σ):E0 C A E env VR (binaryOp .Add) (.int a) (.int b) σ Q:=by
 intro F G s v u hR hv hu;(have zc:=VR.intI hv;clear hv;rcases zc with ⟨zu,zc⟩;subst zc);(have zc:=VR.intI hu;clear hu;rcases zc with ⟨zu,zc⟩;subst zc);exact add_int (Av.of (.int _ _) (hR.tok _) h)
theorem LM {a b:Int} {Q:AV→Am→Prop} (h:Q (.int (a - b)) σ):E0 C A E env VR (binaryOp .Sub) (.int a) (.int b) σ Q:=by
 intro F G s v u hR hv hu;(have zc:=VR.intI hv;clear hv;rcases zc with ⟨zu,zc⟩;subst zc);(have zc:=VR.intI hu;clear hu;rcases zc with ⟨zu,zc⟩;subst zc);exact PyProof.Rows.sub_int (Av.of (.int _ _) (hR.tok _) h)
theorem MM {a b:Int} {Q:AV→Am→Prop} (h:Q (.bool (decide (a≤b))) σ):E0 C A E env VR (compareOp .LtE) (.int a) (.int b) σ Q:=by
 intro F G s v u hR hv hu;(have zc:=VR.intI hv;clear hv;rcases zc with ⟨zu,zc⟩;subst zc);(have zc:=VR.intI hu;clear hu;rcases zc with ⟨zu,zc⟩;subst zc);exact le_int (Av.of (.bool _) hR h)
theorem FF {elts:List Expr} {k:Nat} {pos:Pos} {Q:AV→Am→Prop} (h:L0 C A E env (backTo pos (starEach elts env)) σ (fun vs σ'=>vs.length≤100000∧Q (.tup vs) σ')):Ev C A E env (.Tuple elts k pos) σ Q:=by
 intro F G s hR
 refine Tuple_ (h.use hR fun F₁ vs σ₁ us s₁ e₁ hv hR₁ h₁=>?_)
 have hz:us.length≤sizeLine:=by rw [hv.length,sizeLine_eq];exact Ax [_] [(1,Z0,(Zn 100000))] Z0 (Zn 16777216) rfl h₁.1
 unfold newTuple
 refine wpAny_newObj_type ?_ (by show us.toArray.size≤sizeLine;rw [List.size_toArray];exact hz)
 refine xa0_2 (hR₁.freeze (t:=s₁.toks) (o':={ cls:=.type "tuple",data:=.seq us.toArray }) rfl) ?_;intro hR₂ e₂
 exact Av.ext (e₁.trans e₂) (Av.of (.tup (Ar _ _ _) rfl rfl (hv.mono e₂)) hR₂ h₁.2)
theorem ER {elts:List Expr} {pos:Pos} {Q:AV→Am→Prop} (h:L0 C A E env (backTo pos (starEach elts env)) σ (fun vs σ'=>vs.length≤100000∧∀a,σ'.hp a=none→Q (.ref a) (σ'.put a (.list vs)))):Ev C A E env (.List elts pos) σ Q:=by
 intro F G s hR
 refine List_ (h.use hR fun F₁ vs σ₁ us s₁ e₁ hv hR₁ h₁=>?_)
 have hz:us.length≤sizeLine:=by rw [hv.length,sizeLine_eq];exact Ax [_] [(1,Z0,(Zn 100000))] Z0 (Zn 16777216) rfl h₁.1
 unfold newList
 refine wpAny_newObj_type ?_ (by show us.toArray.size≤sizeLine;rw [List.size_toArray];exact hz)
 exact Av.ext e₁ (Av.of (.ref _) (hR₁.alloc (t:=s₁.toks) rfl rfl (OR.ofL (n:=0) hv)) (h₁.2 _ hR₁.lt))
theorem H8 {pos:Pos} {Q:AV→Am→Prop} (h:∀a,σ.hp a=none→Q (.ref a) (σ.put a (.dict [] 0))):Ev C A E env (.Dict [] [] pos) σ Q:=by
 intro F G s hR
 refine wpAny_Dict_empty ?_
 exact Av.of (.ref _) (hR.alloc (t:=s.toks) rfl rfl (.dict (es:=#[]) (kvs:=[]) ⟨rfl,rfl,rfl⟩ rfl (fun zu he=>by simp at he) .nil (by simp) .nil)) (h _ hR.lt)
theorem Rp.setOf (hR:Rp C A F G env σ s) {a:Addr} {S:Int→Bool} {n:Nat} (ha:σ.hp a=some (.iset S n)):s.heap.SetOf (intKind C.prog C.w) a S n:=by
 refine cps fun zP zk=>?_;(rcases hR.wd.ob a _ ha with ⟨zu,zu,o,ho,r⟩)<;>(refine zk ?_;clear zk zP)
 (refine OR.isetC r fun zv zv zv a1 a2 a3 a4 a5 a6 a7=>?_;clear r)
 exact ⟨_,_,_,_,ho,a1,a2,a3,a4,a5,a6,a7⟩
theorem SetOf.or {gens} {h':Heap} {a:Addr} {S:Int→Bool} {n:Nat} (hd:h'.SetOf (intKind C.prog C.w) a S n):∃o,h'.get? a=some o∧OR C F gens (.iset S n) o:=by
 refine xa4_8 hd ?_;(try clear hd);intro o es ep t ho a1 a2 a3 a4 a5 a6 a7
 exact ⟨o,ho,.iset a1 a2 a3 a4 a5 a6 a7⟩
theorem I1 {Q:AV→Am→Prop} (h:∀a,σ.hp a=none→Q (.ref a) (σ.put a (.iset (fun zu=>false) 0))):Bo C A E env (.val (.type "set")) [] [] [] σ Q:=by
 refine D8 fun F G s vs hR hvs=>?_
 obtain rfl:vs=[]:=by (have zc:=VRs.nilI hvs;clear hvs;subst zc);rfl
 refine call_set_0 fun led=>Av.of (.ref _) (hR.alloc (t:=s.toks) rfl rfl (.iset ⟨rfl,rfl,rfl⟩ rfl (fun e he=>by simp at he) (fun k=>by simp) (by simp;decide) (by rfl) rfl)) (h _ hR.lt)
theorem I2 {a:Addr} {S:Int→Bool} {n:Nat} {k:Int} {Q:AV→Am→Prop} (ha:σ.hp a=some (.iset S n)) (hn:n+1<4096) (h:Q .none (σ.put a (.iset (fun j=>S j||decide (j=k)) (if S k then n else n+1)))) :
  Bo C A E env (.val (.builtin "set.add")) [.ref a] [.int k] [] σ Q:=by
 refine A4 fun F G s us vs hR hus hvs=>?_
 obtain rfl:us=[Value.ref a]:=by refine VRs.consC hus fun zv zw zo q r=>?_;clear hus;subst zo;(have zc:=VR.refI q;clear q;subst zc);(have zc:=VRs.nilI r;clear r;subst zc);rfl
 obtain ⟨t,rfl⟩:∃t,vs=[Value.int k t]:=by refine VRs.consC hvs fun zv zw zo q r=>?_;clear hvs;subst zo;(have zc:=VR.intI q;clear q;rcases zc with ⟨zu,zc⟩;subst zc);(have zc:=VRs.nilI r;clear r;subst zc);exact ⟨_,rfl⟩
 refine call_set_add (knd:=intKind C.prog C.w) (k:=k) (by simp [intKind,Value.isInt]) rfl (hR.setOf ha) hn fun h' hsb hS=>?_
 refine xa1_2 (SetOf.or (C:=C) (F:=F) (gens:=s.gens) hS) ?_;intro o ho r
 exact Av.of .none (hR.change ha rfl ho r (SameBut.rest hsb)) h
theorem Kd {a:Addr} {S:Int→Bool} {n:Nat} {k:Int} {Q:AV→Am→Prop} (ha:σ.hp a=some (.iset S n)) (h:Q (.bool (S k)) σ):E0 C A E env VR (compareOp .In) (.int k) (.ref a) σ Q:=by
 intro F G s v u hR hv hu
 (have zc:=VR.intI hv;clear hv;rcases zc with ⟨zu,zc⟩;subst zc);(have zc:=VR.refI hu;clear hu;subst zc)
 exact wpAny_inSet_of (knd:=intKind C.prog C.w) (k:=k) (by simp [intKind,Value.isInt]) rfl (hR.setOf ha) (Av.of (.bool _) (hR.tok _) h)
theorem OR.clsS {S:Int→Bool} {n:Nat}:∀F gens o,OR C F gens (.iset S n) o→o.cls=.type "set"∧o.dict=none:=by
 intro F gens o r;(refine OR.isetC r fun zv zv zv a zv zv zv zv zv zv=>?_;clear r);exact ⟨a.1,a.2.1⟩
theorem HB {a:Addr} {xs:List AV} {Q:AV→Am→Prop} (ha:σ.hp a=some (.list xs)) (hz:xs.length≤100000) (h:Q (.tup xs) σ):Bo C A E env (.val (.type "tuple")) [] [.ref a] [] σ Q:=by
 refine D8 fun F G s vs hR hvs=>?_
 obtain rfl:vs=[Value.ref a]:=by refine VRs.consC hvs fun zv zw zo q r=>?_;clear hvs;subst zo;(have zc:=VR.refI q;clear q;subst zc);(have zc:=VRs.nilI r;clear r;subst zc);rfl
 refine xa2_2 (hR.list ha) ?_;intro ws n hl hv
 refine call_tuple_list hl.isList (fun h' hk=>?_) (by rw [List.size_toArray,hv.length,sizeLine_eq];with_reducible exact CM ‹_› (by decide))
 refine xa0_2 ((hR.keep (t:=s.toks) hk).freeze (t:=s.toks) (o':={ cls:=.type "tuple",data:=.seq ws.toArray }) rfl) ?_;intro hR₂ e₂
 exact Av.ext e₂ (Av.of (.tup (Ar _ _ _) rfl rfl (hv.mono e₂)) hR₂ h)
theorem LG {xs:List AV} {Q:AV→Am→Prop} (hz:xs.length≤100000) (h:Q (.int xs.length) σ):Bo C A E env (.val (.builtin "len")) [] [.tup xs] [] σ Q:=by
 refine A4 fun F G s us vs hR hus hvs=>?_
 obtain rfl:us=[]:=by (have zc:=VRs.nilI hus;clear hus;subst zc);rfl
 refine VRs.consC hvs fun zv zw zo q r=>?_;clear hvs;subst zo;(have zc:=VRs.nilI r;clear r;subst zc);refine VR.tupC q fun zs za zw zn zo q1 q2 q3 q4=>?_;clear q;subst zo
 refine PyProof.Rows.len_tuple ⟨_,hR.wd.fz _ _ q1,q2,_,q3⟩ (by rw [List.size_toArray,q4.length];omega) (Av.of ?_ (hR.tok _) h)
 rw [List.size_toArray,q4.length];exact .int _ _
theorem Jp {a:Addr} {xs:List AV} {Q:AV→Am→Prop} (ha:σ.hp a=some (.list xs)) (hz:xs.length≤100000) (h:Q (.int xs.length) σ):Bo C A E env (.val (.builtin "len")) [] [.ref a] [] σ Q:=by
 refine A4 fun F G s us vs hR hus hvs=>?_
 obtain rfl:us=[]:=by (have zc:=VRs.nilI hus;clear hus;subst zc);rfl
 obtain rfl:vs=[Value.ref a]:=by refine VRs.consC hvs fun zv zw zo q r=>?_;clear hvs;subst zo;(have zc:=VR.refI q;clear q;subst zc);(have zc:=VRs.nilI r;clear r;subst zc);rfl
 refine xa2_2 (hR.list ha) ?_;intro ws n hl hv
 refine PyProof.Rows.len_list hl.isList (by rw [List.size_toArray,hv.length];omega) (Av.of ?_ (hR.tok _) h)
 rw [List.size_toArray,hv.length];exact .int _ _
theorem Kx {x:Str} {Q:AV→Am→Prop} (hz:x.length≤100000) (h:Q (.int x.length) σ):Bo C A E env (.val (.builtin "len")) [] [.str x] [] σ Q:=by
 refine A4 fun F G s us vs hR hus hvs=>?_
 obtain rfl:us=[]:=by (have zc:=VRs.nilI hus;clear hus;subst zc);rfl
 obtain ⟨t,rfl⟩:∃t,vs=[Value.str x t]:=by refine VRs.consC hvs fun zv zw zo q r=>?_;clear hvs;subst zo;(have zc:=VR.strI q;clear q;rcases zc with ⟨zu,zc⟩;subst zc);(have zc:=VRs.nilI r;clear r;subst zc);exact ⟨_,rfl⟩
 exact PyProof.Rows.len_str (by omega) (Av.of (.int _ _) (hR.tok _) h)
theorem HD {xs:List AV} {Q:Bool→Am→Prop} (hz:xs.length≤100000) (h:Q (!xs.isEmpty) σ):GE C A E env (fun zu b b'=>b=b') truthy (.tup xs) σ Q:=by
 intro F G s v hR hv
 refine VR.tupC hv fun zs za zw zn zo q1 q2 q3 q4=>?_;clear hv;subst zo
 refine truthy_tuple ⟨_,hR.wd.fz _ _ q1,q2,_,q3⟩ (by rw [List.size_toArray,q4.length];omega) (Av.of ?_ (hR.tok _) h)
 rw [List.isEmpty_toArray]
 cases q4<;>rfl
theorem Bu {e:Expr} {pos:Pos} {Q:A5→Am→Prop} (h:Ev C A E env e σ (fun zu σ'=>Q .next σ')) (hi:interactive env=false:=by rfl) (hs:swapsWith e none pos.line env=pure false:=by rfl):Ex C A E env (.Expr e pos) σ Q:=by
 intro F G s hR
 rw [exec_Expr env e pos hi hs]
 exact wpAny_bind (wpAny_standAt (wpAny_bind (h.use hR fun F₁ v σ₁ vv s₁ e₁ hv hR₁ h₁=>wpAny_dropValue (Av.ext e₁ (Av.of .next hR₁ h₁)))))
theorem H7 {o value:Expr} {attr:Str} {tpos pos:Pos} {op:Operator} {Q:A5→Am→Prop}
  (h:Ev C A E env o σ (fun ov σ₁=>GE C A E env VR (fun v=>getAttr v attr true) ov σ₁ (fun old σ₂=>Ev C A E env value σ₂ (fun v σ₃=>E0 C A E env VR (inplaceOp op) old v σ₃ (fun new σ₄=>
   E0 C A E env (fun zu (zu:Unit) (zu:Unit)=>True) (fun u w=>setAttr w attr u) new ov σ₄ (fun zu σ₅=>Q .next σ₅)))))):Ex C A E env (.AugAssign (.Attribute o attr tpos) op value pos) σ Q:=by
 intro F G s hR
 refine wpAny_AugAssign_AttributeAny (h.use hR fun F₁ ov σ₁ vo s₁ e₁ ho hR₁ h₁=>wpAny_mono (h₁ F₁ G s₁ vo hR₁ ho) (fun old s₂ z=>?_) fun zu zu x=>x)
 refine cps fun zP zk=>?_;(rcases z with ⟨F₂,oldv,σ₂,e₂,hold,hR₂,h₂⟩)<;>(refine zk ?_;clear zk zP)
 refine h₂.use hR₂ fun F₃ vv σ₃ v s₃ e₃ hv hR₃ h₃=>wpAny_mono (h₃ F₃ G s₃ old v hR₃ (hold.mono e₃) hv) (fun new s₄ z=>?_) fun zu zu x=>x
 refine cps fun zP zk=>?_;(rcases z with ⟨F₄,nv,σ₄,e₄,hn,hR₄,h₄⟩)<;>(refine zk ?_;clear zk zP)
 refine wpAny_mono (h₄ F₄ G s₄ new vo hR₄ hn (ho.mono (e₂.trans (e₃.trans e₄)))) (fun zu s₅ z=>?_) fun zu zu x=>x
 refine cps fun zP zk=>?_;(rcases z with ⟨F₅,b,σ₅,e₅,zu,hR₅,h₅⟩)<;>(refine zk ?_;clear zk zP)
 exact ⟨F₅,.next,σ₅,e₁.trans (e₂.trans (e₃.trans (e₄.trans e₅))),.next,hR₅,h₅⟩
theorem K8 {a b:Int} {Q:AV→Am→Prop} (h:Q (.int (a+b)) σ):E0 C A E env VR (inplaceOp .Add) (.int a) (.int b) σ Q:=by
 intro F G s v u hR hv hu;(have zc:=VR.intI hv;clear hv;rcases zc with ⟨zu,zc⟩;subst zc);(have zc:=VR.intI hu;clear hu;rcases zc with ⟨zu,zc⟩;subst zc);exact iadd_int (Av.of (.int _ _) (hR.tok _) h)
end
end
section
noncomputable abbrev Bz:Value→Shared→Prop:=fun zu zu=>False
section
variable {C:Cf} {A:Around} {E:Value→Shared→Prop} {env:Env} {σ:Am} {F G:FH} {s:Shared}
theorem Eb {test:Expr} {body:List Stmt} {pos:Pos} {Q:A5→Am→Prop} (I:Nat→Am→Prop)
  (turn:∀n σ,I n σ→Et C A Bz env test σ (fun b σ₁=>match b with
   |true=>Dn C A Bz env body σ₁ (fun f σ₂=>match f with
    |.next=>∃m,m<n∧I m σ₂
    |.cont=>∃m,m<n∧I m σ₂
    |.brk=>Q .next σ₂
    |.ret v=>Q (.ret v) σ₂)
   |false=>Q .next σ₁)) (n:Nat) (h:I n σ):Ex C A E env (.While test body [] pos) σ Q:=by
 intro F G s hR
 refine wpAny_While (codeAny_whileLoop (fun n s'=>∃F' σ',A6 F F'∧Rp C A F' G env σ' s'∧I n σ') (fun n s' hI=>?_) n ⟨F,σ,A6.refl F,hR,h⟩)
 refine xa2_3 hI ?_;(try clear hI);intro F' σ' e hR' hI
 refine wpAny_mono (turn n σ' hI F' G s' hR') (fun b s₁ z=>?_) fun zu zu x=>x.elim
 refine cps fun zP zk=>?_;(rcases z with ⟨F₁,b',σ₁,e₁,rfl,hR₁,h₁⟩)<;>(refine zk ?_;clear zk zP)
 cases b' with
 |true=>
  refine wpAny_mono (h₁ F₁ G s₁ hR₁) (fun f s₂ z=>?_) fun zu zu x=>x.elim
  refine cps fun zP zk=>?_;(rcases z with ⟨F₂,fl,σ₂,e₂,r,hR₂,h₂⟩)<;>(refine zk ?_;clear zk zP)
  have ee:=e.trans (e₁.trans e₂)
  cases r with
  |next=>refine xa1_2 h₂ ?_;(try clear h₂);intro m hm hi;exact ⟨m,hm,F₂,σ₂,ee,hR₂,hi⟩
  |cont=>refine xa1_2 h₂ ?_;(try clear h₂);intro m hm hi;exact ⟨m,hm,F₂,σ₂,ee,hR₂,hi⟩
  |brk=>exact ⟨F₂,.next,σ₂,ee,.next,hR₂,h₂⟩
  |ret hv=>exact ⟨F₂,_,σ₂,ee,.ret hv,hR₂,h₂⟩
 |false=>exact wpAny_execs_nil ⟨F₁,.next,σ₁,e.trans e₁,.next,hR₁,h₁⟩
theorem Az (F:FH) {a b:Addr} (o:Obj) (h:b≠a):AR F a o b=F b:=by simp [AR,h]
noncomputable def CF (G m:FH):FH:=fun b=>match m b with|some o=>some o|none=>G b
noncomputable def sg (a:Addr) (o:Obj):FH:=fun b=>if b=a then some o else none
noncomputable def Ea (o:Obj):Prop:=(∀v,o.data≠.cell v)∧∀es ep,o.data≠.dict es ep
noncomputable def Dw (m:FH):Prop:=∀b o,m b=some o→Ea o
noncomputable def CD (m G:FH):Prop:=∀b o,m b=some o→G b=none
theorem Bl {m:FH} {b:Addr} {o:Obj} (h:m b=some o):CF G m b=some o:=by unfold CF;rw [h]
theorem A8 {m:FH} {b:Addr} (h:m b=none):CF G m b=G b:=by unfold CF;rw [h]
theorem AW (a:Addr) (o:Obj):sg a o a=some o:=by simp [sg]
theorem Iz {a b:Addr} (o:Obj) (h:b≠a):sg a o b=none:=by simp [sg,h]
theorem B5 {a:Addr} {o:Obj} (h:Ea o):Dw (sg a o):=fun b o' e=>by
 unfold sg at e
 split at e
 ·(have zc:=Option.some.inj e;clear e;subst zc);exact h
 ·exact Ak e
theorem CZ {a:Addr} {o:Obj} (h:G a=none):CD (sg a o) G:=fun b o' e=>by
 unfold sg at e
 split at e
 ·rename_i q;subst q;exact h
 ·exact Ak e
theorem C0 {m:FH} (h:CD m G):A6 G (CF G m):=fun b o e=>by
 cases q:m b with
 |none=>rw [A8 q];exact e
 |some o'=>rw [h b o' q] at e;exact Ak e
theorem G1 {m:FH} (h:CD m G) {b:Addr} (e:CF G m b=none):G b=none∧m b=none:=by
 cases q:m b with
 |none=>rw [A8 q] at e;exact ⟨e,rfl⟩
 |some o'=>rw [Bl q] at e;exact Ao e
theorem Lq.offM {m:FH} (hq:Dw m) {e:Env} (h:Lq (CF G m) e):Lq G e:=by
 refine cps fun zP zk=>?_;(rcases h with ⟨a,L,o,b,c,es,ep,d⟩)<;>(refine zk ?_;clear zk zP)
 refine ⟨a,L,o,b,?_,es,ep,d⟩
 cases q:m L with
 |none=>rw [A8 q] at c;exact c
 |some o'=>rw [Bl q] at c;(have zc:=Option.some.inj c;clear c;subst zc);exact absurd d ((hq _ _ q).2 es ep)
theorem FP.offM {m:FH} (hq:Dw m) (h:FP A (CF G m) env):FP A G env:=
 let ⟨e,l,a,b,c,d,f⟩:=h
 ⟨e,l,a,b,c,d.imp id (fun z=>z.offM hq),fun e' h'=>(f e' h').offM hq⟩
theorem Rp.ochange {m m':FH} (hR:Rp C A F (CF G m) env σ s) (hq:Dw m) (hq':Dw m') (hd:CD m G) (hdom:∀b,m b=none→m' b=none) {h':Heap} {t:Nat}
  (ho:∀b o,m' b=some o→h'.get? b=some o) (k:∀b ob,m b=none→s.heap.get? b=some ob→h'.get? b=some ob):Rp C A F (CF G m') env σ ⟨h',s.gens,s.drawn,t,s.os⟩:=by
 refine cps fun zP zk=>?_;(rcases hR with ⟨⟨w1,w2,w3,w4,w5,w6,w7,w8⟩,⟨kd,⟨n,hn,hnv⟩,⟨l1,l2,l3⟩,co,ci,cv,fv⟩,hfs⟩)<;>(refine zk ?_;clear zk zP)
 have hd':CD m' G:=fun b o e=>by
  cases q:m b with
  |none=>rw [hdom b q] at e;exact Ak e
  |some o'=>exact hd b o' q
 have mn:∀{b},CF G m b=none→m b=none:=fun e=>(G1 hd e).2
 have on:∀{b},CF G m b=none→CF G m' b=none:=fun e=>by rw [A8 (hdom _ (mn e))];exact (G1 hd e).1
 refine ⟨⟨w1,fun b ob e=>k _ _ (mn (w8 b ob e)) (w2 b ob e),fun b ob e=>?_,fun b x e=>?_,w5,w6,w7,fun b ob e=>on (w8 b ob e)⟩,⟨kd,⟨n,?_,hnv⟩,⟨l1,on l2,l3⟩,fun x hx=>?_,ci,fun x av c h1 h2 h3=>?_,fun x av h1 h2=>?_⟩,(hfs.offM hq).mono (C0 hd')⟩
 ·cases q:m' b with
  |some o'=>rw [Bl q] at e;(have zc:=Option.some.inj e;clear e;subst zc);exact ⟨_,ho _ _ q,EP.rfl' _⟩
  |none=>
   rw [A8 q] at e
   have qm:m b=none:=by
    cases q2:m b with
    |none=>rfl
    |some o2=>rw [hd b o2 q2] at e;exact Ak e
   refine xa1_2 (w3 b ob (by rw [A8 qm];exact e)) ?_;intro ob' z1 z2
   exact ⟨ob',k _ _ qm z1,z2⟩
 ·refine cps fun zP zk=>?_;(rcases w4 b x e with ⟨p,q,ob,hob,r⟩)<;>(refine zk ?_;clear zk zP)
  exact ⟨p,on q,ob,k _ _ (mn q) hob,r⟩
 ·refine xa3_2 hn ?_;(try clear hn);intro oL es ep hL r
  exact ⟨oL,es,ep,k _ _ (mn l2) hL,r⟩
 ·refine cps fun zP zk=>?_;(rcases co x hx with ⟨c,g1,g2,g3,g4,g5,v,ob,g6,g7⟩)<;>(refine zk ?_;clear zk zP)
  exact ⟨c,g1,g2,on g3,g4,g5,v,ob,k _ _ (mn g3) g6,g7⟩
 ·refine xa1_4 (co x h2) ?_;intro c' g1 g2 g3 zu
  rw [h3] at g1;(have zc:=Option.some.inj g1;clear g1;subst zc)
  refine xa1_2 (cv x av c h1 h2 h3) ?_;intro v;intro zq;refine xa1_2 zq ?_;(try clear zq);intro ob g6 g7;intro g8
  exact ⟨v,⟨ob,k _ _ (mn g3) g6,g7⟩,g8⟩
 ·refine xa3_4 (fv x av h1 h2) ?_;intro c v ob a1 a2 a3 a4
  refine ⟨c,v,ob,a1,?_,a3,a4⟩
  cases q:m c with
  |none=>rw [A8 q] at a2;rw [A8 (hdom _ q)];exact a2
  |some o'=>rw [Bl q] at a2;(have zc:=Option.some.inj a2;clear a2;subst zc);exact absurd a3 ((hq _ _ q).1 _)
theorem L7:CF G (fun zu=>none)=G:=rfl
theorem Rp.odrop {m:FH} (hR:Rp C A F (CF G m) env σ s) (hq:Dw m) (hd:CD m G) {h':Heap} {t:Nat} (k:∀b ob,m b=none→s.heap.get? b=some ob→h'.get? b=some ob):Rp C A F G env σ ⟨h',s.gens,s.drawn,t,s.os⟩:=by
 have:=Rp.ochange (m':=fun zu=>none) (t:=t) hR hq (fun zu zu e=>by exact Ak e) hd (fun zu zu=>rfl) (fun zu zu e=>by exact Ak e) k
 rwa [L7] at this
theorem Rp.odrop0 {m:FH} (hR:Rp C A F (CF G m) env σ s) (hq:Dw m) (hd:CD m G):Rp C A F G env σ s:=hR.odrop hq hd (t:=s.toks) fun zu zu zu e=>e
theorem Rp.freezeAt (hR:Rp C A F G env σ s) {a:Addr} {o:Obj} (ho:s.heap.get? a=some o) (hF:F a=none) (hG:G a=none) (hp:σ.hp a=none) (hl:a≠env.locals) (hc:∀x c,env.kindOf x=some .cell→env.cells.lookup x=some c→a≠c) :
  Rp C A (AR F a o) G env σ s∧A6 F (AR F a o):=by
 have ex:=AQ o hF
 refine cps fun zP zk=>?_;(rcases hR with ⟨⟨w1,w2,w3,w4,w5,w6,w7,w8⟩,⟨kd,⟨m,hm,hmv⟩,⟨l1,l2,l3⟩,co,ci,cv,fv⟩,hfs⟩)<;>(refine zk ?_;clear zk zP)
 refine ⟨⟨⟨fun b o e=>ex _ _ (w1 b o e),fun b ob e=>?_,w3,fun b x e=>?_,w5,w6,w7,fun b ob e=>?_⟩,⟨kd,⟨m,hm,fun x av h1 h2=>let ⟨v,p,q⟩:=hmv x av h1 h2;⟨v,p,q.mono ex⟩⟩,⟨by rw [Az _ _ hl.symm];exact l1,l2,l3⟩,fun x hx=>?_,ci,fun x av c h1 h2 h3=>let ⟨v,p,q⟩:=cv x av c h1 h2 h3;⟨v,p,q.mono ex⟩,fun x av h1 h2=>let ⟨c,v,o,p,q,r,t⟩:=fv x av h1 h2;⟨c,v,o,p,q,r,t.mono ex⟩⟩,hfs⟩,ex⟩
 ·by_cases q:b=a
  ·subst q;rw [Ar] at e;(have zc:=Option.some.inj e;clear e;subst zc);exact ho
  ·rw [Az _ _ q] at e;exact w2 b ob e
 ·refine cps fun zP zk=>?_;(rcases w4 b x e with ⟨p,q,ob,hob,r⟩)<;>(refine zk ?_;clear zk zP)
  have n:b≠a:=by rintro rfl;rw [hp] at e;exact Ak e
  exact ⟨by rw [Az _ _ n];exact p,q,ob,hob,r.mono ex⟩
 ·by_cases q:b=a
  ·subst q;exact hG
  ·rw [Az _ _ q] at e;exact w8 b ob e
 ·refine xa1_3 (co x hx) ?_;intro c g1 g2 r
  exact ⟨c,g1,by rw [Az _ _ (hc x c hx g1).symm];exact g2,r⟩
theorem Rp.oput {m:FH} (hR:Rp C A F G env σ s) (hm:∀b o,m b=some o→s.heap.objs.size≤b) {h':Heap} {t:Nat} (ho:∀b o,m b=some o→h'.get? b=some o) (k:∀b ob,s.heap.get? b=some ob→h'.get? b=some ob) :
  CD m G∧Rp C A F (CF G m) env σ ⟨h',s.gens,s.drawn,t,s.os⟩:=by
 have lt:=fun b o (e:m b=some o)=>hR.wd.lt (hm b o e)
 have dj:CD m G:=fun b o e=>(lt b o e).2.1
 have low:∀{b o},s.heap.get? b=some o→∀x,¬m b=some x:=fun e x q=>Nat.not_lt.mpr (hm _ _ q) (Heap.lt_size e)
 have on:∀{b},(∀x,¬m b=some x)→G b=none→CF G m b=none:=fun {b} h e=>by
  cases q:m b with
  |none=>rw [A8 q];exact e
  |some x=>exact absurd q (h x)
 have hK:=hR.keep (t:=t) k
 refine ⟨dj,⟨⟨hK.wd.base,hK.wd.fz,fun b o e=>?_,fun a x e=>?_,hK.wd.os,hK.wd.bare,hK.wd.gi,fun b o e=>?_⟩,⟨hK.fm.kind,hK.fm.ns,⟨hK.fm.lo.1,on ?_ hK.fm.lo.2.1,hK.fm.lo.2.2⟩,fun x hx=>?_,hK.fm.ci,hK.fm.cv,fun x av a b=>?_⟩,hR.fs.mono (C0 dj)⟩⟩
 ·cases q:m b with
  |none=>rw [A8 q] at e;exact hK.wd.gz b o e
  |some x=>rw [Bl q] at e;(have zc:=Option.some.inj e;clear e;subst zc);exact ⟨_,ho _ _ q,EP.rfl' _⟩
 ·refine cps fun zP zk=>?_;(rcases hK.wd.ob a x e with ⟨p,q,o,w⟩)<;>(refine zk ?_;clear zk zP)
  refine cps fun zP zk=>?_;(rcases hR.wd.ob a x e with ⟨zu,zu,o',h',zu⟩)<;>(refine zk ?_;clear zk zP)
  exact ⟨p,on (low h') q,o,w⟩
 ·exact on (low (hR.wd.fz b o e)) (hK.wd.fg b o e)
 ·refine xa1_2 hR.fm.ns ?_;intro m;intro zq;refine xa3_2 zq ?_;(try clear zq);intro oL es ep hL zu;intro zu
  exact low hL
 ·refine xa1_6 (hK.fm.co x hx) ?_;intro c g1 g2 g3 g4 g5 g6
  refine cps fun zP zk=>?_;(rcases hR.fm.co x hx with ⟨c',g1',zu,zu,zu,zu,v,o',ho',zu⟩)<;>(refine zk ?_;clear zk zP)
  rw [g1] at g1';(have zc:=Option.some.inj g1';clear g1';subst zc)
  exact ⟨c,g1,g2,on (low ho') g3,g4,g5,g6⟩
 ·refine xa3_4 (hK.fm.fv x av a b) ?_;intro c v o' a1 a2 a3 a4
  exact ⟨c,v,o',a1,C0 dj _ _ a2,a3,a4⟩
theorem Rp.oat {m:FH} (hR:Rp C A F (CF G m) env σ s) (hq:Dw m) {b:Addr} {o:Obj} (e:m b=some o):s.heap.get? b=some o:=hR.wd.gzx (Bl e) (hq _ _ e).2
theorem Kc {a b:Addr} {o o':Obj} (h:sg a o b=some o'):b=a∧o'=o:=by
 unfold sg at h
 split at h
 ·(have zc:=Option.some.inj h;clear h;subst zc);exact ⟨by assumption,rfl⟩
 ·exact Ak h
theorem HG {a b:Addr} {o o':Obj} (h:sg a o b=none):sg a o' b=none:=by
 unfold sg at h ⊢
 split at h
 ·exact Ao h
 ·rename_i q;rw [if_neg q]
theorem A0 {o:Obj} {vs:Array Value} (h:o.data=.fields vs):Ea o:=⟨fun v e=>(by rw [h] at e;cases e),fun es ep e=>(by rw [h] at e;cases e)⟩
theorem Rp.put1 (hR:Rp C A F G env σ s) {o:Obj} {t:Nat} (hf:o.isFreed=false):G s.heap.objs.size=none∧Rp C A F (CF G (sg s.heap.objs.size o)) env σ ⟨s.heap.push o,s.gens,s.drawn,t,s.os⟩:=by
 refine xa0_2 (hR.oput (m:=sg s.heap.objs.size o) (t:=t) (h':=s.heap.push o) (fun b o' e=>by rw [(Kc e).1];exact Nat.le_refl _) (fun b o' e=>by refine xa0_2 (Kc e) ?_;rintro rfl;rintro rfl;exact Heap.get?_push_size _ hf) fun b ob e=>Heap.get?_push_of_some _ e) ?_;intro a b
 exact ⟨a _ _ (AW _ _),b⟩
theorem Rp.turn1 {a:Addr} {o o':Obj} (hR:Rp C A F (CF G (sg a o)) env σ s) (hg:G a=none) (hq:Ea o) (hq':Ea o') {h':Heap} {t:Nat} (ho:h'.get? a=some o') (k:∀b ob,b≠a→s.heap.get? b=some ob→h'.get? b=some ob) :
  Rp C A F (CF G (sg a o')) env σ ⟨h',s.gens,s.drawn,t,s.os⟩:=
 hR.ochange (B5 hq) (B5 hq') (CZ hg) (fun b e=>HG e) (fun b ob e=>by refine xa0_2 (Kc e) ?_;rintro rfl;rintro rfl;exact ho) fun b ob e=>k b ob fun q=>by subst q;rw [AW] at e;exact Ao e
theorem Rp.drop1 {a:Addr} {o:Obj} (hR:Rp C A F (CF G (sg a o)) env σ s) (hg:G a=none) (hq:Ea o) {h':Heap} {t:Nat} (k:Heap.ExtBut a s.heap h'):Rp C A F G env σ ⟨h',s.gens,s.drawn,t,s.os⟩:=
 hR.odrop (B5 hq) (CZ hg) fun b ob e=>k b ob fun q=>by subst q;rw [AW] at e;exact Ao e
noncomputable def Iu (C:Cf) (A:Around) (env:Env) (target:Expr) (x:AV) (σ:Am) (Q:Am→Prop):Prop:=
 ∀F G s v,Rp C A F G env σ s→VR F x v→wpAny (model C.prog C.w) A (assign target env v) (fun zu s'=>∃F' σ',A6 F F'∧Rp C A F' G env σ' s'∧Q σ') Bz s
theorem B9 {x:Str} {pos:Pos} {v:AV} {Q:Am→Prop} (h:Q (σ.set x v)) (hk:EA (env.kindOf x)=true:=by rfl):Iu C A env (.Name x pos) v σ Q:=by
 intro F G s u hR hu
 exact wpAny_assign_Name (Cq hR hu (CP hk) fun s' hR'=>⟨F,_,A6.refl F,hR',h⟩)
inductive N5 (C:Cf) (A:Around) (F G m:FH) (env:Env) (σ:Am) (x:AV) (xs:List AV) (P:FH→List AV→FH→Prop) (v:Value) (s₂:Shared):Prop
 |mk (F' m':FH) (e:A6 F F') (hv:VR F' x v) (hP:P F' xs m') (dom:∀b,m b=none→m' b=none) (hR:Rp C A F' (CF G m') env σ s₂)
structure Ce (C:Cf) (A:Around) (target:Expr) (it:Addr) (K:HP→Prop) (P:FH→List AV→FH→Prop):Prop where
 quiet:∀F xs m,P F xs m→Dw m
 mono:∀F F' xs m,A6 F F'→P F xs m→P F' xs m
 more:∀env F G s σ x xs m,Rp C A F (CF G m) env σ s→CD m G→K σ.hp→P F (x::xs) m →
  wpAny (model C.prog C.w) A (pyNext (.ref it)) (fun r s₁=>∃v,r=some v∧wpAny (model C.prog C.w) A (letOwnedTupleGo target (.ref it) v) (fun zu s₂=>N5 C A F G m env σ x xs P v s₂) Bz s₁) Bz s
 done:∀env F G s σ m,Rp C A F (CF G m) env σ s→CD m G→K σ.hp→P F [] m →
  wpAny (model C.prog C.w) A (pyNext (.ref it)) (fun r s₁=>r=none∧Rp C A F G env σ s₁) Bz s
theorem Ce.weak {target:Expr} {it:Addr} {K K':HP→Prop} {P:FH→List AV→FH→Prop} (h:Ce C A target it K P) (k:∀σ,K' σ→K σ):Ce C A target it K' P:=
 ⟨h.quiet,h.mono,fun env F G s σ x xs m a b c d=>h.more env F G s σ x xs m a b (k _ c) d,fun env F G s σ m a b c d=>h.done env F G s σ m a b (k _ c) d⟩
noncomputable def Mm (Q:A5→Am→Prop) (I:Am→Prop) (f:A5) (σ:Am):Prop:=
 match f with
 |.next=>I σ
 |.cont=>I σ
 |.brk=>Q .next σ
 |.ret v=>Q (.ret v) σ
inductive Mx (C:Cf) (A:Around) (F₀ G:FH) (env:Env) (P:FH→List AV→FH→Prop) (I:List AV→Am→Prop) (n:Nat) (s:Shared):Prop
 |mk (F:FH) (σ:Am) (m:FH) (xs:List AV) (e:A6 F₀ F) (dj:CD m G) (hR:Rp C A F (CF G m) env σ s) (hP:P F xs m) (hI:I xs σ) (hl:xs.length=n)
theorem CD.dom {m m':FH} (h:CD m G) (k:∀b,m b=none→m' b=none):CD m' G:=fun b o e=>by
 cases q:m b with
 |none=>rw [k b q] at e;exact Ak e
 |some o'=>exact h b o' q
theorem Hm {target:Expr} {it:Addr} {body:List Stmt} {K:HP→Prop} {P:FH→List AV→FH→Prop} (T:Ce C A target it K P) {Q:A5→Am→Prop} (I:List AV→Am→Prop) (hK:∀xs σ,I xs σ→K σ.hp)
  (turn:∀x xs σ,I (x::xs) σ→Iu C A env target x σ (fun σ₁=>Dn C A Bz env body σ₁ (Mm Q (I xs)))) (fin:∀σ,I [] σ→Q .next σ)
  {xs:List AV} {F₀:FH} (h0:Mx C A F₀ G env P I xs.length s) {R:Result→Shared→Prop}
  (hQ:∀f s',Av C A G env Mf Q F₀ f s'→R (.ok f) s'):codeAny (model C.prog C.w) A (.forLoop target (.ref it) body [] env) R s:=by
 refine codeAny_loop' rfl (Mx C A F₀ G env P I) (fun n s' hI=>?_) xs.length h0
 refine cps fun zP zk=>?_;(rcases hI with ⟨F',σ',m,xs',e,dj,hR',hP',hI',hl⟩)<;>(refine zk ?_;clear zk zP)
 show wpAny _ _ ((forTurn target (.ref it) body [] env).onRaise (fun x=>do noteFrame x env;theTreesLotGoes x)) _ _ s'
 refine wpAny_onRaise ?_
 simp only [forTurn]
 refine wpAny_bind (wpAny_standAt (wpAny_bind (wpAny_onRaise ?_)))
 cases xs' with
 |nil=>
  refine wpAny_mono (T.done env F' G s' σ' m hR' dj (hK _ _ hI') hP') (fun r s₁ z=>?_) fun zu zu x=>x.elim
  refine xa0_2 z ?_;(try clear z);rintro rfl;intro hR₁
  exact wpAny_pure (.inr ⟨rfl,codeAny_block (wpAny_execs_nil (hQ _ _ ⟨F',.next,σ',e,.next,hR₁,fin _ hI'⟩))⟩)
 |cons x xs'=>
  refine wpAny_mono (T.more env F' G s' σ' x xs' m hR' dj (hK _ _ hI') hP') (fun r s₁ z=>?_) fun zu zu x=>x.elim
  refine xa1_2 z ?_;(try clear z);intro v;rintro rfl;intro z
  refine wpAny_bind (wpAny_mono z (fun zu s₂ z=>?_) fun zu zu x=>x.elim)
  refine cps fun zP zk=>?_;(rcases z with ⟨F₂,m₂,e₂,hv,hP₂,dom,hR₂⟩)<;>(refine zk ?_;clear zk zP)
  refine wpAny_bind (wpAny_mono (turn x xs' σ' hI' F₂ _ s₂ v hR₂ hv) (fun zu s₃ z=>?_) fun zu zu x=>x.elim)
  refine xa2_3 z ?_;(try clear z);intro F₃ σ₃ e₃ hR₃ h₃
  refine wpAny_bind (wpAny_mono (h₃ F₃ _ s₃ hR₃) (fun f s₄ z=>?_) fun zu zu x=>x.elim)
  refine cps fun zP zk=>?_;(rcases z with ⟨F₄,fl,σ₄,e₄,r,hR₄,h₄⟩)<;>(refine zk ?_;clear zk zP)
  have ee:=e.trans (e₂.trans (e₃.trans e₄))
  have hl':xs'.length<n:=by rw [←hl];exact Nat.lt_succ_self _
  have hP₄:=T.mono _ _ _ _ (e₃.trans e₄) hP₂
  have dj₂:=dj.dom dom
  cases r with
  |next=>exact wpAny_pure (.inl ⟨rfl,_,hl',F₄,σ₄,m₂,xs',ee,dj₂,hR₄,hP₄,h₄,rfl⟩)
  |cont=>exact wpAny_pure (.inl ⟨rfl,_,hl',F₄,σ₄,m₂,xs',ee,dj₂,hR₄,hP₄,h₄,rfl⟩)
  |brk=>exact wpAny_pure (hQ _ _ ⟨F₄,.next,σ₄,ee,.next,hR₄.odrop0 (T.quiet _ _ _ hP₂) dj₂,h₄⟩)
  |ret hv=>exact wpAny_pure (hQ _ _ ⟨F₄,_,σ₄,ee,.ret hv,hR₄.odrop0 (T.quiet _ _ _ hP₂) dj₂,h₄⟩)
inductive Cg (C:Cf) (A:Around) (F G:FH) (env:Env) (σ:Am) (target:Expr) (xs:List AV) (K:HP→Prop) (iv:Value) (s:Shared):Prop
 |mk (it:Addr) (m:FH) (P:FH→List AV→FH→Prop) (e:iv=.ref it) (dj:CD m G) (hR:Rp C A F (CF G m) env σ s) (hP:P F xs m) (T:Ce C A target it K P)
noncomputable def CV (C:Cf) (A:Around) (E:Value→Shared→Prop) (env:Env) (target:Expr) (x:AV) (xs:List AV) (K:HP→Prop) (σ:Am):Prop:=
 ∀F G s v,Rp C A F G env σ s→VR F x v→wpAny (model C.prog C.w) A (pyIter v) (Cg C A F G env σ target xs K) E s
theorem CV.weak {target:Expr} {x:AV} {xs:List AV} {K K':HP→Prop} (h:CV C A E env target x xs K σ) (k:∀σ,K' σ→K σ):CV C A E env target x xs K' σ:=fun F G s v hR hv=>
 wpAny_mono (h F G s v hR hv) (fun _ _ ⟨it,m,P,h1,h2,h3,h4,h5⟩=>⟨it,m,P,h1,h2,h3,h4,h5.weak k⟩) fun zu zu x=>x
theorem GH {target iter:Expr} {body:List Stmt} {pos:Pos} {Q:A5→Am→Prop} (K:AV→Am→HP→Prop) (I:AV→Am→List AV→Am→Prop)
  (h:Ev C A E env iter σ (fun a σ₁=>∃xs,CV C A E env target a xs (K a σ₁) σ₁∧I a σ₁ xs σ₁))
  (hK:∀a σ₁ xs σ,I a σ₁ xs σ→K a σ₁ σ.hp)
  (turn:∀a σ₁ x xs σ,I a σ₁ (x::xs) σ→Iu C A env target x σ (fun σ₂=>Dn C A Bz env body σ₂ (Mm Q (I a σ₁ xs)))) (fin:∀a σ₁ σ,I a σ₁ [] σ→Q .next σ)
  (hs:∀x,foldedSetIterable iter env x=pure x:=by intro zu;rfl):Ex C A E env (.For target iter body [] pos) σ Q:=by
 intro F G s hR
 refine wpAny_For (h.use hR fun F₁ a σ₁ va s₁ e₁ ha hR₁ h₁=>?_) hs
 refine xa1_2 h₁ ?_;(try clear h₁);intro xs hit hI
 refine wpAny_mono (hit F₁ G s₁ va hR₁ ha) (fun iv s₂ z=>?_) fun zu zu x=>x
 refine cps fun zP zk=>?_;(rcases z with ⟨it,m,P,rfl,dj,hR₂,hP,T⟩)<;>(refine zk ?_;clear zk zP)
 exact Hm T (I a σ₁) (hK a σ₁) (turn a σ₁) (fin a σ₁) ⟨F₁,σ₁,m,xs,e₁,dj,hR₂,hP,hI,rfl⟩ fun f s' z=>z
noncomputable def BI (target:Expr):Prop:=∀it v,letOwnedTupleGo target it v=pure ()
theorem D2 {x:Str} {pos:Pos}:BI (.Name x pos):=fun zu zu=>rfl
inductive N9 (F:FH) (x:AV) (v:Value) (n:Nat) (h:Heap):Prop
 |old (hv:VR F x v)
 |tup (T:Addr) (o:Obj) (vs:List Value) (k:Nat) (xs:List AV) (e:v=.ref T) (hT:n≤T) (ho:h.get? T=some o) (hc:o.cls=.type "tuple") (hd:o.data=.seq vs.toArray k) (hv:VRs F xs vs) (ex:x=.tup xs)
inductive Oi (wr:List Addr) (F:FH) (x:AV) (St:Heap→Prop) (v:Value) (s s₂:Shared):Prop
 |mk (h':Heap) (tk:Nat) (es:s₂=⟨h',s.gens,s.drawn,tk,s.os⟩) (st:St h') (k:∀b o,b∉wr→s.heap.get? b=some o→h'.get? b=some o) (hv:N9 F x v s.heap.objs.size h')
structure Wk (C:Cf) (A:Around) (target:Expr) (I:Addr) (fp wr:List Addr) (St:Nat→Heap→Prop) (xs:List AV) (FK F:FH):Prop where
 frame:∀i h h',St i h→(∀b∈fp,∀o,h.get? b=some o→h'.get? b=some o)→St i h'
 frz:∀b∈fp,b∈wr∨∃o,FK b=some o
 inert:∀i h,St i h→∀b∈wr,∃o,h.get? b=some o∧Ea o
 more:∀i x (s:Shared),xs[i]? = some x→St i s.heap→wpAny (model C.prog C.w) A (pyNext (.ref I)) (fun r s₁=>∃v,r=some v∧wpAny (model C.prog C.w) A (letOwnedTupleGo target (.ref I) v) (fun zu s₂=>Oi wr F x (St (i+1)) v s s₂) Bz s₁) Bz s
 done:∀(s:Shared),St xs.length s.heap→wpAny (model C.prog C.w) A (pyNext (.ref I)) (fun r s₁=>r=none∧∃h' tk,s₁=⟨h',s.gens,s.drawn,tk,s.os⟩∧∀b o,b∉wr→s.heap.get? b=some o→h'.get? b=some o) Bz s
 self:∀i (s:Shared) (Q:Value→Shared→Prop) (E:Value→Shared→Prop),St i s.heap→Q (.ref I) s→wpAny (model C.prog C.w) A (pyIter (.ref I)) Q E s
noncomputable def AY (h:Heap) (wr:List Addr):FH:=fun b=>if b∈wr then h.get? b else none
theorem Bx {h:Heap} {wr:List Addr} {b:Addr} {o:Obj} (e:AY h wr b=some o):b∈wr∧h.get? b=some o:=by
 unfold AY at e
 split at e
 ·exact ⟨by assumption,e⟩
 ·exact Ak e
theorem E7 {h:Heap} {wr:List Addr} {b:Addr} (hb:b∈wr):AY h wr b=h.get? b:=if_pos hb
theorem Gy {h:Heap} {wr:List Addr} {b:Addr} (hb:b∉wr):AY h wr b=none:=if_neg hb
inductive Oj (St:Nat→Heap→Prop) (wr:List Addr) (F₀:FH) (xs:List AV) (F:FH) (ys:List AV) (m:FH):Prop
 |mk (i:Nat) (h:Heap) (e:A6 F₀ F) (hF:∀b o,F₀ b=some o→h.get? b=some o) (st:St i h) (em:m=AY h wr) (ey:ys=xs.drop i) (hi:i≤xs.length)
theorem Wk.quiet {target:Expr} {I:Addr} {fp wr:List Addr} {St:Nat→Heap→Prop} {xs:List AV} {F₀:FH} (W:Wk C A target I fp wr St xs F₀ F₀) {i:Nat} {h:Heap} (st:St i h):Dw (AY h wr):=fun b o e=>by
 refine xa0_2 (Bx e) ?_;intro hb ho
 refine xa1_2 (W.inert i h st b hb) ?_;intro o' h1 h2
 rw [ho] at h1;(have zc:=Option.some.inj h1;clear h1;subst zc);exact h2
theorem Wk.at {target:Expr} {I:Addr} {fp wr:List Addr} {St:Nat→Heap→Prop} {xs:List AV} {F₀:FH} (W:Wk C A target I fp wr St xs F₀ F₀) {i:Nat} {h:Heap} (st:St i h) (e:A6 F₀ F) (hF:∀b o,F₀ b=some o→h.get? b=some o) (hR:Rp C A F (CF G (AY h wr)) env σ s):St i s.heap:=by
 refine W.frame i h _ st fun b hb o ho=>?_
 rcases W.frz b hb with h1|⟨o',h1⟩
 ·exact hR.oat (W.quiet st) ((E7 h1).trans ho)
 ·have:=hF b o' h1
  rw [ho] at this;(have zc:=Option.some.inj this;clear this;subst zc)
  exact hR.wd.fz _ _ (e _ _ h1)
theorem Df {xs ys:List AV} {y:AV} {i:Nat} (h:y::ys=xs.drop i):xs[i]? = some y∧ys=xs.drop (i+1):=by
 constructor
 ·have:=congrArg (fun l=>l[0]?) h
  simp only [List.getElem?_cons_zero,List.getElem?_drop,Nat.add_zero] at this
  exact this.symm
 ·have:=congrArg List.tail h
  simp only [List.tail_cons,List.tail_drop] at this
  exact this
theorem DU {xs:List AV} {i:Nat} (h:[]=xs.drop i):xs[i]? = none:=by
 rw [List.getElem?_eq_none_iff]
 exact List.drop_eq_nil_iff.mp h.symm
theorem Rp.fresh (hR:Rp C A F G env σ s) {T:Addr} (hT:s.heap.objs.size≤T):T≠env.locals∧∀x c,env.kindOf x=some .cell→env.cells.lookup x=some c→T≠c:=by
 refine ⟨fun e=>?_,fun x c hx hc e=>?_⟩
 ·refine xa1_2 hR.fm.ns ?_;intro m;intro zq;refine xa3_2 zq ?_;(try clear zq);intro oL es ep hL zu;intro zu
  exact Nat.not_lt.mpr hT (e▸Heap.lt_size hL)
 ·refine cps fun zP zk=>?_;(rcases hR.fm.co x hx with ⟨c',g1,zu,zu,zu,zu,v',o',ho',zu⟩)<;>(refine zk ?_;clear zk zP)
  rw [hc] at g1;(have zc:=Option.some.inj g1;clear g1;subst zc)
  exact Nat.not_lt.mpr hT (e▸Heap.lt_size ho')
theorem Wk.dom {target:Expr} {I:Addr} {fp wr:List Addr} {St:Nat→Heap→Prop} {xs:List AV} {F₀:FH} (W:Wk C A target I fp wr St xs F₀ F₀) {i:Nat} {h:Heap} (st:St i h) {b:Addr} (e:AY h wr b=none):b∉wr:=fun hb=>by
 refine xa1_2 (W.inert i h st b hb) ?_;intro o h1 zu
 rw [E7 hb,h1] at e;exact Ao e
theorem Ce.ofWk {target:Expr} {I:Addr} {fp wr:List Addr} {St:Nat→Heap→Prop} {xs:List AV} {F₀:FH} (W:Wk C A target I fp wr St xs F₀ F₀):Ce C A target I (fun zu=>True) (Oj St wr F₀ xs) where
 quiet:=by
  rintro F ys m ⟨i,h,e,hF,st,rfl,ey,hi⟩
  exact W.quiet st
 mono:=by
  rintro F F' ys m ex ⟨i,h,e,hF,st,rfl,ey,hi⟩
  exact ⟨i,h,e.trans ex,hF,st,rfl,ey,hi⟩
 more:=by
  rintro env F G s σ x ys m hR dj - ⟨i,h,e,hF,st,rfl,ey,hi⟩
  refine xa0_2 (Df ey) ?_;intro hx ey2
  clear ey
  refine wpAny_mono (W.more i x s hx (W.at st e hF hR)) (fun r s₁ z=>?_) fun zu zu x=>x
  refine xa1_2 z ?_;(try clear z);intro v;rintro rfl;intro z
  refine ⟨v,rfl,wpAny_mono z (fun zu s₂ z=>?_) fun zu zu x=>x⟩
  refine cps fun zP zk=>?_;(rcases z with ⟨h',tk,rfl,st',k,hv⟩)<;>(refine zk ?_;clear zk zP)
  have dom:∀b,AY h wr b=none→AY h' wr b=none:=fun b q=>Gy (W.dom st q)
  have hR':=hR.ochange (t:=tk) (W.quiet st) (W.quiet st') dj dom (fun b o q=>(Bx q).2) fun b ob q=>k b ob (W.dom st q)
  have hi':i+1≤xs.length:=by refine xa1_1 (List.getElem?_eq_some_iff.mp hx) ?_;intro q zu;exact q
  have hF2:∀b o,F₀ b=some o→h'.get? b=some o:=fun b o q=>hR'.wd.fz b o (e b o q)
  cases hv with
  |old hv=>exact ⟨F,_,A6.refl F,hv.mono e,⟨i+1,h',e,hF2,st',rfl,ey2,hi'⟩,dom,hR'⟩
  |tup T o vs kk cs ev hT ho hc hd hv ex=>
   refine xa0_3 (hR.wd.lt hT) ?_;intro z1 z2 z3
   refine xa0_2 (hR.fresh hT) ?_;intro z4 z5
   refine xa0_2 (G1 dj z2) ?_;intro g1 g2
   refine xa0_2 (hR'.freezeAt ho z1 (by rw [A8 (dom _ g2)];exact g1) z3 z4 z5) ?_;intro hR2 e2
   subst ev ex
   exact ⟨_,_,e2,.tup (Ar _ _ _) hc hd ((hv.mono e).mono e2),⟨i+1,h',e.trans e2,hF2,st',rfl,ey2,hi'⟩,dom,hR2⟩
 done:=by
  rintro env F G s σ m hR dj - ⟨i,h,e,hF,st,rfl,ey,hi⟩
  have hx:=DU ey
  have hi':i=xs.length:=Nat.le_antisymm hi (List.getElem?_eq_none_iff.mp hx)
  subst hi'
  refine wpAny_mono (W.done s (W.at st e hF hR)) (fun r s₁ z=>?_) fun zu zu x=>x
  refine cps fun zP zk=>?_;(rcases z with ⟨rfl,h',tk,rfl,k⟩)<;>(refine zk ?_;clear zk zP)
  exact ⟨rfl,hR.odrop (W.quiet st) dj fun b ob q=>k b ob (W.dom st q)⟩
theorem Cg.ofWk {target:Expr} {I:Addr} {fp wr:List Addr} {St:Nat→Heap→Prop} {xs:List AV} (W:Wk C A target I fp wr St xs F F) (hR:Rp C A F G env σ s) {h':Heap} {t:Nat} (st:St 0 h') (hw:∀b∈wr,s.heap.objs.size≤b) (k:∀b ob,s.heap.get? b=some ob→h'.get? b=some ob) :
  Cg C A F G env σ target xs (fun zu=>True) (.ref I) ⟨h',s.gens,s.drawn,t,s.os⟩:=by
 refine xa0_2 (hR.oput (m:=AY h' wr) (t:=t) (fun b o e=>hw b (Bx e).1) (fun b o e=>(Bx e).2) k) ?_;intro dj hR'
 exact ⟨I,_,_,rfl,dj,hR',⟨0,h',A6.refl F,fun b o e=>k _ _ (hR.wd.fz b o e),st,rfl,rfl,Nat.zero_le _⟩,Ce.ofWk W⟩
noncomputable def Db:List String:=["enumerate", "zip", "dict_itemiterator", "dict_reverseitemiterator", "odict_iterator", "itertools.zip_longest", "itertools.pairwise"]
theorem Kw {M:Model} {target:Expr} {it:Addr} {v:Value} {o:Obj} {n:String} {Q:Unit→Shared→Prop} (ho:s.heap.get? it=some o) (hc:o.cls=.type n) (hn:Db.contains n=false) (h:Q () s) :
  wpAny M A (letOwnedTupleGo target (.ref it) v) Q E s:=by
 have key:∀t,(∃a b c,t=Expr.Tuple a b c)∨(∃a b,t=Expr.List a b)→wpAny M A (letOwnedTupleGo t (.ref it) v) Q E s:=by
  intro t ht
  cases v with
  |ref a=>
   have e:letOwnedTupleGo t (.ref it) (.ref a)=(do
     let o ←load it
     match o.cls,o.data with
     |.type n,.fields vs=>
      if Db.contains n&&vs[0]? == some (rawInt a) then
       rule "for.unpacks-the-owned-tuple"
       updateField it 0 .none
     |_,_=>pure ()):=by
    rcases ht with ⟨zu,zu,zu,rfl⟩|⟨zu,zu,rfl⟩<;>rfl
   rw [e]
   refine wpAny_bind (wpAny_load ho ?_)
   rw [hc]
   cases q:o.data with
   |fields vs=>
    show wpAny _ _ (if (_:Bool)=true then _ else _) _ _ _
    rw [if_neg (by rw [hn];simp)]
    exact wpAny_pure h
   |_=>exact wpAny_pure h
  |_=>rcases ht with ⟨zu,zu,zu,rfl⟩|⟨zu,zu,rfl⟩<;>exact wpAny_pure h
 cases target with
 |Tuple a b c=>exact key _ (.inl ⟨_,_,_,rfl⟩)
 |List a b=>exact key _ (.inr ⟨_,_,rfl⟩)
 |_=>exact wpAny_pure h
theorem Wk.ofWalks {FK:FH} {target:Expr} {I:Addr} {fp wr:List Addr} {n:Nat} {P:Nat→Value→Prop} {St:Nat→Heap→Prop} {xs:List AV} (W:Walks C.prog C.w A I fp wr n P St) (hn:xs.length=n) (hv:∀i x v,xs[i]? = some x→P i v→VR F x v)
  (frz:∀b∈fp,b∈wr∨∃o,FK b=some o) (inert:∀i h,St i h→∀b∈wr,∃o,h.get? b=some o∧Ea o) (c:String) (hc:Db.contains c=false) (cls:∀i h,St i h→∃o,h.get? I=some o∧o.cls=.type c):Wk C A target I fp wr St xs FK F where
 frame:=W.frame
 frz:=frz
 inert:=inert
 more:=fun i x s hx st=>W.item i s _ _ (by subst hn;exact (List.getElem?_eq_some_iff.mp hx).1) st fun v h' tk hP st' k=>⟨v,rfl,by
  refine xa1_2 (cls _ _ st') ?_;intro o ho h1
  exact Kw (s:=⟨h',s.gens,s.drawn,tk,s.os⟩) ho h1 hc ⟨h',tk,rfl,st',k,.old (hv i x v hx hP)⟩⟩
 done:=fun s st=>W.done s _ _ (by subst hn;exact st) fun h' tk k=>⟨rfl,h',tk,rfl,k⟩
 self:=W.self
theorem VRs.arr {xs:List AV} {vs:List Value} (h:VRs F xs vs):∀(i:Nat) x v,xs[i]? = some x→vs.toArray[i]? = some v→VR F x v:=fun i x v hx hv=>by
 refine xa1_2 (h.get hx) ?_;intro u hu hr
 rw [List.getElem?_toArray,hu] at hv;(have zc:=Option.some.inj hv;clear hv;subst zc);exact hr
theorem Rp.ne_top (hR:Rp C A F G env σ s) {a:Addr} {o:Obj} (h:F a=some o):a≠s.heap.objs.size:=Nat.ne_of_lt (Heap.lt_size (hR.wd.fz _ _ h))
theorem K4 {target:Expr} {l:List AV} (hA:A.handled=none):CV C A E env target (.tup l) l (fun zu=>True) σ:=by
 intro F G s v hR hv
 refine xa4_5 hv.tupInv ?_;intro t ot vs n;rintro rfl;intro q1 q2 q3 q4
 refine wpAny_pyIter_tuple ⟨ot,hR.wd.fz _ _ q1,q2,n,q3⟩ (Cg.ofWk (Wk.ofWalks (Walks.tuple hA s.heap.objs.size t (hR.ne_top q1) vs.toArray) (by rw [List.size_toArray,q4.length]) q4.arr (fun b hb=>?_) (fun i h st b hb=>?_) "tuple_iterator" (by decide) fun i h st=>?_) hR ⟨⟨_,Heap.get?_push_size _ rfl,rfl,rfl⟩,⟨ot,Heap.get?_push_of_some _ (hR.wd.fz _ _ q1),q2,n,q3⟩⟩ (fun b hb=>?_) fun b ob e=>Heap.get?_push_of_some _ e)
 ·rcases List.mem_cons.mp hb with rfl|hb
  ·exact .inl (List.mem_singleton_self _)
  ·rw [List.mem_singleton.mp hb];exact .inr ⟨_,q1⟩
 ·rw [List.mem_singleton.mp hb]
  refine xa0_2 st ?_;(try clear st);intro zq;refine xa1_3 zq ?_;(try clear zq);intro o ho h1 h2;intro zu
  exact ⟨o,ho,A0 h2⟩
 ·refine xa0_2 st ?_;(try clear st);intro zq;refine xa1_3 zq ?_;(try clear zq);intro o ho h1 h2;intro zu
  exact ⟨o,ho,h1⟩
 ·rw [List.mem_singleton.mp hb];exact Nat.le_refl _
theorem K7 {target:Expr} {l:List AV} (hA:A.handled=none):CV C A E env target (.lst l) l (fun zu=>True) σ:=by
 intro F G s v hR hv
 refine xa4_5 hv.lstInv ?_;intro t ot vs n;rintro rfl;intro q1 q2 q3 q4
 refine wpAny_pyIter_list ⟨ot,hR.wd.fz _ _ q1,q2,n,q3⟩ (Cg.ofWk (Wk.ofWalks (Walks.list hA s.heap.objs.size t (hR.ne_top q1) vs.toArray) (by rw [List.size_toArray,q4.length]) q4.arr (fun b hb=>?_) (fun i h st b hb=>?_) "list_iterator" (by decide) fun i h st=>?_) hR ⟨⟨_,Heap.get?_push_size _ rfl,rfl,rfl⟩,⟨ot,Heap.get?_push_of_some _ (hR.wd.fz _ _ q1),q2,n,q3⟩⟩ (fun b hb=>?_) fun b ob e=>Heap.get?_push_of_some _ e)
 ·rcases List.mem_cons.mp hb with rfl|hb
  ·exact .inl (List.mem_singleton_self _)
  ·rw [List.mem_singleton.mp hb];exact .inr ⟨_,q1⟩
 ·rw [List.mem_singleton.mp hb]
  refine xa0_2 st ?_;(try clear st);intro zq;refine xa1_3 zq ?_;(try clear zq);intro o ho h1 h2;intro zu
  exact ⟨o,ho,A0 h2⟩
 ·refine xa0_2 st ?_;(try clear st);intro zq;refine xa1_3 zq ?_;(try clear zq);intro o ho h1 h2;intro zu
  exact ⟨o,ho,h1⟩
 ·rw [List.mem_singleton.mp hb];exact Nat.le_refl _
inductive N3 (it:Addr) (ST:Nat→Obj→Prop) (L:List AV) (F:FH) (xs:List AV) (m:FH):Prop
 |mk (i:Nat) (o:Obj) (st:ST i o) (ex:xs=L.drop i) (em:m=sg it o)
inductive NP (it:Addr) (F:FH) (x:AV) (ST:Obj→Prop) (s:Shared) (r:Option Value) (s₁:Shared):Prop
 |mk (v:Value) (h':Heap) (t:Nat) (o':Obj) (er:r=some v) (hv:VR F x v) (es:s₁=⟨h',s.gens,s.drawn,t,s.os⟩) (ho:h'.get? it=some o') (st:ST o') (k:∀b ob,b≠it→s.heap.get? b=some ob→h'.get? b=some ob)
theorem Ce.one {target:Expr} {it:Addr} {K:HP→Prop} (ht:BI target) (ST:Nat→Obj→Prop) (L:List AV) (inert:∀i o,ST i o→Ea o)
  (more:∀env F G s σ i x o,Rp C A F G env σ s→K σ.hp→L[i]? = some x→ST i o→s.heap.get? it=some o→wpAny (model C.prog C.w) A (pyNext (.ref it)) (NP it F x (ST (i+1)) s) Bz s)
  (done:∀env F G s σ i o,Rp C A F G env σ s→K σ.hp→L[i]? = none→ST i o→s.heap.get? it=some o→wpAny (model C.prog C.w) A (pyNext (.ref it)) (fun r s₁=>r=none∧∃h',s₁={ s with heap:=h' }∧Heap.ExtBut it s.heap h') Bz s):Ce C A target it K (N3 it ST L) where
 quiet:=by
  rintro F xs m ⟨i,o,st,ex,rfl⟩
  exact B5 (inert _ _ st)
 mono:=by
  rintro F F' xs m e ⟨i,o,st,ex,em⟩
  exact ⟨i,o,st,ex,em⟩
 more:=by
  rintro env F G s σ x xs m hR dj hK ⟨i,o,st,ex,rfl⟩
  refine xa0_2 (Df ex) ?_;intro hx ex2
  have hg:=dj _ _ (AW it o)
  refine wpAny_mono (more env F _ s σ i x o hR hK hx st (hR.oat (B5 (inert _ _ st)) (AW _ _))) (fun r s₁ z=>?_) fun zu zu x=>x
  refine cps fun zP zk=>?_;(rcases z with ⟨v,h',t,o',rfl,hv,rfl,ho,st',k⟩)<;>(refine zk ?_;clear zk zP)
  refine ⟨v,rfl,?_⟩
  rw [ht]
  exact wpAny_pure ⟨F,_,A6.refl F,hv,⟨i+1,o',st',ex2,rfl⟩,fun b q=>HG q,hR.turn1 hg (inert _ _ st) (inert _ _ st') ho k⟩
 done:=by
  rintro env F G s σ m hR dj hK ⟨i,o,st,ex,rfl⟩
  refine wpAny_mono (done env F _ s σ i o hR hK (DU ex) st (hR.oat (B5 (inert _ _ st)) (AW _ _))) (fun r s₁ z=>?_) fun zu zu x=>x
  refine cps fun zP zk=>?_;(rcases z with ⟨rfl,h',rfl,k⟩)<;>(refine zk ?_;clear zk zP)
  exact ⟨rfl,hR.drop1 (dj _ _ (AW it o)) (inert _ _ st) k⟩
theorem Cg.one {target:Expr} {K:HP→Prop} {ST:Nat→Obj→Prop} {L:List AV} (T:Ce C A target s.heap.objs.size K (N3 s.heap.objs.size ST L)) (hR:Rp C A F G env σ s) {o:Obj} {t:Nat} (hf:o.isFreed=false) (st:ST 0 o):Cg C A F G env σ target L K (.ref s.heap.objs.size) ⟨s.heap.push o,s.gens,s.drawn,t,s.os⟩:=by
 refine xa0_2 (hR.put1 (t:=t) hf) ?_;intro hg hR'
 exact ⟨_,_,_,rfl,CZ hg,hR',⟨0,o,st,rfl,rfl⟩,T⟩
theorem Js {target:Expr} {a:Addr} {l:List AV} (ht:BI target) (hA:A.handled=none) (ha:σ.hp a=some (.list l)):CV C A E env target (.ref a) l (fun hp=>hp a=some (.list l)) σ:=by
 intro F G s v hR hv
 obtain rfl:=hv.refI
 refine xa2_2 (hR.list ha) ?_;intro vs n hl hvs
 refine wpAny_pyIter_list hl.isList (Cg.one (ST:=fun i o=>o.cls=.type "list_iterator"∧o.data=.fields #[.ref a,.int (i:Nat) 0]) (Ce.one ht _ _ (fun i o h=>A0 h.2) (fun env F G s σ i x o hR hK hx st ho=>?_) (fun env F G s σ i o hR hK hx st ho=>?_)) hR rfl ⟨rfl,rfl⟩)
 ·refine xa2_2 (hR.list hK) ?_;intro vs n hl hvs
  refine xa1_2 (hvs.get hx) ?_;intro u hu hr
  refine wpAny_pyNext_list_item (x:=u) ⟨o,ho,st⟩ hl.isList (by rw [List.getElem?_toArray];exact hu) fun h' hit hsb=>?_
  refine xa1_2 hit ?_;(try clear hit);intro o' ho' st'
  exact ⟨u,h',s.toks,o',rfl,hr,rfl,ho',st',SameBut.rest hsb⟩
 ·refine xa2_2 (hR.list hK) ?_;intro vs n hl hvs
  exact wpAny_pyNext_list_end hA ⟨o,ho,st⟩ hl.isList (by rw [List.getElem?_toArray];exact hvs.none hx) fun h' hx=>⟨rfl,h',rfl,hx⟩
theorem Rp.dictAt (hR:Rp C A F G env σ s) {a:Addr} {l:List (As×AV)} {ep:Nat} (ha:σ.hp a=some (.dict l ep)):∃kvs,s.heap.DictAt (Bh C.prog C.w) a kvs ep∧SV F l kvs:=by
 refine cps fun zP zk=>?_;(rcases hR.wd.ob a _ ha with ⟨zu,zu,o,ho,r⟩)<;>(refine zk ?_;clear zk zP)
 (refine OR.dictC r fun zv zv a1 a2 a3 a4 a5 a6=>?_;clear r)
 exact ⟨_,⟨_,_,ho,a1,a2,a3,a4,a5⟩,a6⟩
theorem Rp.fields (hR:Rp C A F G env σ s) {a:Addr} {c:String} {vs:List AV} (ha:σ.hp a=some (.fields c vs)):∃o us,s.heap.get? a=some o∧o.cls=.type c∧o.data=.fields us.toArray∧VRs F vs us:=by
 refine cps fun zP zk=>?_;(rcases hR.wd.ob a _ ha with ⟨zu,zu,o,ho,r⟩)<;>(refine zk ?_;clear zk zP)
 (refine OR.fieldsC r fun zv a1 a2 as a3 a4=>?_;clear r)
 exact ⟨o,_,ho,a1,a3,a4⟩
theorem SV.get {l:List (As×AV)} {kvs:List (As×Value)} (h:SV F l kvs):∀{i:Nat},(∀{k x},l[i]? = some (k,x)→∃v,kvs[i]? = some (k,v)∧VR F x v)∧(l[i]? = none→kvs[i]? = none):=by
 induction h with
 |nil=>intro i;exact ⟨fun e=>by simp at e,fun zu=>by simp⟩
 |cons a zu ih=>
  intro i
  cases i with
  |zero=>exact ⟨fun e=>by simp at e;refine xa0_2 e ?_;(try clear e);rintro rfl;rintro rfl;exact ⟨_,rfl,a⟩,fun e=>by simp at e⟩
  |succ i=>exact ⟨fun e=>by simpa using ih.1 (by simpa using e),fun e=>by simpa using ih.2 (by simpa using e)⟩
theorem dict_values {d:Addr} {l:List (As×AV)} {ep:Nat} {Q:AV→Am→Prop} (hs:(C.h0.get? sysModules).isSome=true) (hd:σ.hp d=some (.dict l ep)) (h:∀v,σ.hp v=none→Q (.ref v) (σ.put v (.fields "dict_values" [.ref d]))) :
  Bo C A E env (.val (.builtin "dict.values")) [.ref d] [] [] σ Q:=by
 refine A4 fun F G s us vs hR hus hvs=>?_
 obtain rfl:us=[Value.ref d]:=by refine VRs.consC hus fun zv zw zo q r=>?_;clear hus;subst zo;(have zc:=VR.refI q;clear q;subst zc);(have zc:=VRs.nilI r;clear r;subst zc);rfl
 obtain rfl:vs=[]:=by (have zc:=VRs.nilI hvs;clear hvs;subst zc);rfl
 refine xa1_2 (hR.dictOf hd) ?_;intro kvs hm zu
 exact call_meetsIn PySem.F.slot_dict_values hm.typeIs PySem.F.entry_dict_values (PySem.F.args_dict_values_1 _) (meets_dict_values (Bh C.prog C.w) d (hR.low hd hs)) ⟨⟨kvs,hm⟩,
  Av.of (.ref _) (hR.alloc (t:=s.toks) rfl rfl (.fields (us:=[.ref d]) rfl rfl rfl rfl (.cons (.ref d) .nil))) (h _ hR.lt)⟩
theorem dict_items {d:Addr} {l:List (As×AV)} {ep:Nat} {Q:AV→Am→Prop} (hs:(C.h0.get? sysModules).isSome=true) (hd:σ.hp d=some (.dict l ep)) (h:∀v,σ.hp v=none→Q (.ref v) (σ.put v (.fields "dict_items" [.ref d]))) :
  Bo C A E env (.val (.builtin "dict.items")) [.ref d] [] [] σ Q:=by
 refine A4 fun F G s us vs hR hus hvs=>?_
 obtain rfl:us=[Value.ref d]:=by refine VRs.consC hus fun zv zw zo q r=>?_;clear hus;subst zo;(have zc:=VR.refI q;clear q;subst zc);(have zc:=VRs.nilI r;clear r;subst zc);rfl
 obtain rfl:vs=[]:=by (have zc:=VRs.nilI hvs;clear hvs;subst zc);rfl
 refine xa1_2 (hR.dictOf hd) ?_;intro kvs hm zu
 exact call_meetsIn PySem.F.slot_dict_items hm.typeIs PySem.F.entry_dict_items (PySem.F.args_dict_items_1 _) (meets_dict_items (Bh C.prog C.w) d (hR.low hd hs)) ⟨⟨kvs,hm⟩,
  Av.of (.ref _) (hR.alloc (t:=s.toks) rfl rfl (.fields (us:=[.ref d]) rfl rfl rfl rfl (.cons (.ref d) .nil))) (h _ hR.lt)⟩
theorem E9 {target:Expr} {v d:Addr} {l:List (As×AV)} {ep:Nat} (ht:BI target) (hA:A.handled=none) (hv:σ.hp v=some (.fields "dict_values" [.ref d])) (hd:σ.hp d=some (.dict l ep)) :
  CV C A E env target (.ref v) (l.map (·.2)) (fun hp=>hp d=some (.dict l ep)) σ:=by
 intro F G s v' hR hv'
 obtain rfl:=hv'.refI
 refine xa2_4 (hR.fields hv) ?_;intro ov us hov hc hda hus
 obtain rfl:us=[Value.ref d]:=by refine VRs.consC hus fun zv zw zo q r=>?_;clear hus;subst zo;(have zc:=VR.refI q;clear q;subst zc);(have zc:=VRs.nilI r;clear r;subst zc);rfl
 refine xa1_2 (hR.dictAt hd) ?_;intro kvs hm sv
 refine wpAny_pyIter_values ⟨ov,hov,hc,hda⟩ hm (Cg.one (ST:=fun i o=>o.cls=.type "dict_valueiterator"∧o.data=.fields #[.ref d,.int (i:Nat) 0,.int l.length 0,.int ep 0])
  (Ce.one ht _ _ (fun i o h=>A0 h.2) (fun env F G s σ i x o hR hK hx st ho=>?_) (fun env F G s σ i o hR hK hx st ho=>?_)) hR rfl ⟨rfl,by rw [sv.length];rfl⟩)
 ·refine xa1_2 (hR.dictAt hK) ?_;intro kvs hm sv
  rw [List.getElem?_map] at hx
  refine xa1_2 (Option.map_eq_some_iff.mp hx) ?_;intro zq;refine cps fun zP zk=>?_;(rcases zq with ⟨k,x⟩)<;>(refine zk ?_;clear zk zP);intro hk;rintro rfl
  refine xa1_2 (sv.get.1 hk) ?_;intro u hu hxu
  rw [←sv.length] at st
  refine wpAny_pyNext_values_item ⟨o,ho,st⟩ hm hu fun h' hit hsb=>?_
  refine xa1_2 hit ?_;(try clear hit);intro o' ho' st'
  exact ⟨u,h',s.toks,o',rfl,hxu,rfl,ho',by rw [←sv.length];exact st',SameBut.rest hsb⟩
 ·refine xa1_2 (hR.dictAt hK) ?_;intro kvs hm sv
  rw [List.getElem?_map,Option.map_eq_none_iff] at hx
  rw [←sv.length] at st
  exact wpAny_pyNext_values_end hA ⟨o,ho,st⟩ hm (sv.get.2 hx) fun h' hx=>⟨rfl,h',rfl,hx⟩
inductive N7 (it d:Addr) (l:List (As×AV)) (ep:Nat) (F:FH) (xs:List AV) (m:FH):Prop
 |mk (i:Nat) (ok ov:Value) (ex:xs=(l.map fun p=>AV.tup [p.1.av,p.2]).drop i) (em:m=sg it { cls:=.type "dict_itemiterator",dict:=none,data:=.fields #[.none,.bool false,.ref d,.int i 0,.int l.length 0,.int ep 0,ok,ov],slots:=#[] })
theorem HT {elts:List Expr} {tn:Nat} {tpos:Pos} {v d:Addr} {l:List (As×AV)} {ep:Nat} (hA:A.handled=none) (hv:σ.hp v=some (.fields "dict_items" [.ref d])) (hd:σ.hp d=some (.dict l ep)) :
  CV C A E env (.Tuple elts tn tpos) (.ref v) (l.map fun p=>.tup [p.1.av,p.2]) (fun hp=>hp d=some (.dict l ep)) σ:=by
 intro F G s v' hR hv'
 obtain rfl:=hv'.refI
 refine xa2_4 (hR.fields hv) ?_;intro ov us hov hc hda hus
 obtain rfl:us=[Value.ref d]:=by refine VRs.consC hus fun zv zw zo q r=>?_;clear hus;subst zo;(have zc:=VR.refI q;clear q;subst zc);(have zc:=VRs.nilI r;clear r;subst zc);rfl
 refine xa1_2 (hR.dictAt hd) ?_;intro kvs hm sv
 refine wpAny_pyIter_items ⟨ov,hov,hc,hda⟩ hm ?_
 refine xa0_2 (hR.put1 (t:=s.toks) (o:={ cls:=.type "dict_itemiterator",data:=.fields #[.none,.bool false,.ref d,.int 0 0,.int kvs.length 0,.int ep 0,.none,.none] }) rfl) ?_;intro hg hR'
 refine ⟨_,_,N7 s.heap.objs.size d l ep,rfl,CZ hg,hR',⟨0,.none,.none,rfl,by rw [sv.length];rfl⟩,?_⟩
 clear hR' hg sv hm hov hda hus hc hv hd hR
 generalize s.heap.objs.size=IT
 refine ⟨?_,?_,?_,?_⟩
 ·rintro F xs m ⟨i,ok,ov,ex,rfl⟩;exact B5 (A0 rfl)
 ·rintro F F' xs m e ⟨i,ok,ov,ex,em⟩;exact ⟨i,ok,ov,ex,em⟩
 ·rintro env F G s σ y ys m hR dj hK ⟨i,ok,ov,ex,rfl⟩
  refine xa0_2 (Df ex) ?_;intro hx ex2
  have hg:=dj _ _ (AW IT _)
  refine xa1_2 (hR.dictAt hK) ?_;intro kvs hm sv
  rw [List.getElem?_map] at hx
  refine xa1_2 (Option.map_eq_some_iff.mp hx) ?_;intro zq;refine cps fun zP zk=>?_;(rcases zq with ⟨k,x⟩)<;>(refine zk ?_;clear zk zP);intro hk;rintro rfl
  refine xa1_2 (sv.get.1 hk) ?_;intro u hu hxu
  have hat:=hR.oat (B5 (A0 rfl)) (AW IT _)
  have hit:IsItemIter s.heap IT d i kvs.length ep ok ov:=by rw [sv.length];exact hat
  refine wpAny_pyNext_items_item hit hm hu fun key h' hkey hout hnew hsz hkp=>⟨_,rfl,?_⟩
  refine wpAny_letOwnedTupleGo_items (s:={ s with heap:=h' }) hout fun h'' hit' hsb=>?_
  have nit:s.heap.objs.size≠IT:=(Nat.ne_of_lt (Heap.lt_size hat)).symm
  have hp2:h''.get? s.heap.objs.size=some { cls:=.type "tuple",data:=.seq #[key,u] }:=(hsb.2 _ nit).trans hnew
  have hR2:=hR.turn1 (t:=s.toks) hg (A0 rfl) (A0 rfl) hit' fun b ob n e=>(hsb.2 b n).trans (hkp b ob n e)
  refine xa0_3 (hR.wd.lt (Nat.le_refl s.heap.objs.size)) ?_;intro z1 z2 z3
  refine xa0_2 (hR.fresh (Nat.le_refl s.heap.objs.size)) ?_;intro z4 z5
  refine xa0_2 (hR2.freezeAt hp2 z1 (by rw [A8 (Iz _ nit)] at z2 ⊢;exact z2) z3 z4 z5) ?_;intro hR3 e3
  have hkv:VR F k.av key:=by
   rcases As.is_shape hkey with ⟨j,t,rfl,rfl⟩|⟨w,t,rfl,rfl⟩
   ·exact .int _ _
   ·exact .str _ _
  exact ⟨_,_,e3,.tup (vs:=[key,u]) (Ar _ _ _) rfl rfl (.cons (hkv.mono e3) (.cons (hxu.mono e3) .nil)),⟨i+1,key,u,ex2,by rw [sv.length]⟩,fun b q=>HG q,hR3⟩
 ·rintro env F G s σ m hR dj hK ⟨i,ok,ov,ex,rfl⟩
  refine xa1_2 (hR.dictAt hK) ?_;intro kvs hm sv
  have hx:=DU ex
  rw [List.getElem?_map,Option.map_eq_none_iff] at hx
  have hit:IsItemIter s.heap IT d i kvs.length ep ok ov:=by rw [sv.length];exact hR.oat (B5 (A0 rfl)) (AW IT _)
  exact wpAny_pyNext_items_end hA hit hm (sv.get.2 hx) fun h' hx=>⟨rfl,hR.drop1 (dj _ _ (AW IT _)) (A0 rfl) hx⟩
theorem FG {x y:Str} {p1 p2 pos:Pos} {tn:Nat} {a b:AV} {Q:Am→Prop} (hA:A.handled=none) (h:Q ((σ.set x a).set y b)) (hx:EA (env.kindOf x)=true:=by rfl) (hy:EA (env.kindOf y)=true:=by rfl) :
  Iu C A env (.Tuple [.Name x p1,.Name y p2] tn pos) (.tup [a,b]) σ Q:=by
 intro F G s v hR hv
 refine VR.tupC hv fun vs t ot n zo q1 q2 q3 q4=>?_;clear hv;subst zo
 refine VRs.consC q4 fun v1 zw zo r1 q4_a=>?_;clear q4;subst zo;refine VRs.consC q4_a fun v2 zw zo r2 q4_b=>?_;clear q4_a;subst zo
 (have zc:=VRs.nilI q4_b;clear q4_b;subst zc)
 refine wpAny_assign_Tuple hA ⟨ot,hR.wd.fz _ _ q1,q2,n,q3⟩ rfl rfl fun h' hk=>?_
 have hR':Rp C A F G env σ { s with heap:=h' }:=hR.keep (t:=s.toks) fun b o e=>hk b o (Nat.ne_of_lt (Heap.lt_size e)) e
 show wpAny _ _ (do holding [v2] (assign (.Name x p1) env v1);do holding [] (assign (.Name y p2) env v2);pure ()) _ _ _
 refine wpAny_bind (wpAny_holding (wpAny_assign_Name (Cq hR' r1 (CP hx) fun s₁ hR₁=>wpAny_bind (wpAny_holding (wpAny_assign_Name (Cq hR₁ r2 (CP hy) fun s₂ hR₂=>?_))))))
 exact wpAny_pure ⟨F,_,A6.refl F,hR₂,h⟩
end
end
section
noncomputable def Eu (h:Heap) (S:List Addr):Heap:={ h with objs:=h.objs.mapIdx fun i o=>if i∈S then { o with data:=.freed } else o }
theorem C3 (h:Heap) (S:List Addr) (b:Addr):(Eu h S).get? b=if b∈S then none else h.get? b:=by
 unfold Eu Heap.get?
 simp only [Array.getElem?_mapIdx]
 by_cases q:b∈S
 ·simp only [q,if_true]
  cases h.objs[b]?<;>rfl
 ·simp only [q,if_false]
  cases h.objs[b]?<;>rfl
theorem DH:isSubtype (.type "KeyError") (.type "BaseException")=pure true:=by rw [isSubtype_type];kernel_rfl
theorem DG:isSubtype (.type "KeyError") (.type "KeyError")=pure true:=by rw [isSubtype_type];kernel_rfl
theorem DL:isSubtype (.type ((Manifest.find? "KeyError").elim "type" fun y=>y.metatype)) (.type "tuple")=pure false:=by
 rw [find?_eq_fast]
 have e:(fastFind? "KeyError").elim "type" (fun y=>y.metatype) = "type":=by kernel_rfl
 rw [e,isSubtype_type];kernel_rfl
section
variable {C:Cf} {A:Around} {E:Value→Shared→Prop} {env:Env} {σ:Am} {F G:FH} {s:Shared}
theorem Rp.mark (hR:Rp C A F G env σ s) (h:Option Value):Rp C (A.mark h) F G env σ s:=⟨hR.wd,hR.fm,hR.fs⟩
theorem Rp.unmark {h:Option Value} (hR:Rp C (A.mark h) F G env σ s):Rp C A F G env σ s:=⟨hR.wd,hR.fm,hR.fs⟩
structure FA (F G:FH) (σ:Am) (env:Env) (a:Addr):Prop where
 f:F a=none
 g:G a=none
 h:σ.hp a=none
 l:a≠env.locals
 c:∀x,env.kindOf x=some .cell→env.cells.lookup x≠some a
theorem Rp.loose (hR:Rp C A F G env σ s) {a:Addr} (ha:s.heap.get? a=none):FA F G σ env a:=by
 refine ⟨?_,?_,?_,?_,fun x hx hc=>?_⟩
 ·cases e:F a with
  |none=>rfl
  |some o=>rw [hR.wd.fz a o e] at ha;exact Ao ha
 ·cases e:G a with
  |none=>rfl
  |some o=>refine xa1_2 (hR.wd.gz a o e) ?_;intro o' h zu;rw [h] at ha;exact Ao ha
 ·cases e:σ.hp a with
  |none=>rfl
  |some x=>refine cps fun zP zk=>?_;(rcases hR.wd.ob a x e with ⟨zu,zu,o,h,zu⟩)<;>(refine zk ?_;clear zk zP);rw [h] at ha;exact Ao ha
 ·rintro rfl
  refine xa1_2 hR.fm.ns ?_;intro m;intro zq;refine xa3_2 zq ?_;(try clear zq);intro oL es ep hL zu;intro zu
  rw [hL] at ha;exact Ao ha
 ·refine cps fun zP zk=>?_;(rcases hR.fm.co x hx with ⟨c,h1,zu,zu,zu,zu,v,o,ho,zu⟩)<;>(refine zk ?_;clear zk zP)
  rw [hc] at h1;(have zc:=Option.some.inj h1;clear h1;subst zc)
  rw [ho] at ha;exact Ao ha
theorem Rp.noted (hR:Rp C A F G env σ s) {h':Heap} {t:Nat} {S:List Addr} (hS:∀b∈S,FA F G σ env b∨(b=env.locals∨∃o es ep,G b=some o∧o.data=.dict es ep))
  (k:∀b o,b∉S→s.heap.get? b=some o→h'.get? b=some o) (kd:∀b o es ep,s.heap.get? b=some o→o.data=.dict es ep→∃sl,h'.get? b=some { o with slots:=sl }) :
  Rp C A F G env σ ⟨h',s.gens,s.drawn,t,s.os⟩:=by
 refine cps fun zP zk=>?_;(rcases hR with ⟨⟨w1,w2,w3,w4,w5,w6,w7,w8⟩,⟨kk,⟨m,hm,hmv⟩,⟨l1,l2,l3⟩,co,ci,cv,fv⟩,hfs⟩)<;>(refine zk ?_;clear zk zP)
 have nF:∀{b o},F b=some o→b∉S:=fun {b o} e hb=>by
  rcases hS b hb with h|rfl|⟨og,es,ep,h,zu⟩
  ·rw [h.f] at e;exact Ak e
  ·rw [l1] at e;exact Ak e
  ·rw [w8 b o e] at h;exact Ak h
 have nH:∀{b x},σ.hp b=some x→b∉S:=fun {b x} e hb=>by
  rcases hS b hb with h|rfl|⟨og,es,ep,h,zu⟩
  ·rw [h.h] at e;exact Ak e
  ·rw [l3] at e;exact Ak e
  ·have:=(w4 b x e).2.1;rw [h] at this;exact Ao this
 have nC:∀{x c},env.kindOf x=some .cell→env.cells.lookup x=some c→c∉S:=fun {x c} hx hc hb=>by
  refine xa1_6 (co x hx) ?_;intro c' g1 g2 g3 g4 g5 zu
  rw [hc] at g1;(have zc:=Option.some.inj g1;clear g1;subst zc)
  rcases hS c hb with h|h|⟨og,es,ep,h,zu⟩
  ·exact h.c x hx hc
  ·exact g5 h
  ·rw [g3] at h;exact Ak h
 refine ⟨⟨w1,fun b o e=>k _ _ (nF e) (w2 b o e),fun b o e=>?_,fun a x e=>?_,w5,w6,w7,w8⟩,⟨kk,⟨m,?_,hmv⟩,⟨l1,l2,l3⟩,fun x hx=>?_,ci,fun x av c h1 h2 h3=>?_,fv⟩,hfs⟩
 ·refine xa1_2 (w3 b o e) ?_;intro o' h1 h2
  by_cases hb:b∈S
  ·rcases hS b hb with h|rfl|⟨og,es,ep,h,hd⟩
   ·rw [h.g] at e;exact Ak e
   ·rw [l2] at e;exact Ak e
   ·rw [e] at h;(have zc:=Option.some.inj h;clear h;subst zc)
    refine xa1_1 (kd b o' es ep h1 (h2.data.trans hd)) ?_;intro sl z
    refine ⟨_,z,.inr ⟨⟨es,ep,hd⟩,sl,?_⟩⟩
    rcases h2 with rfl|⟨zu,sl',rfl⟩<;>rfl
  ·exact ⟨o',k _ _ hb h1,h2⟩
 ·refine cps fun zP zk=>?_;(rcases w4 a x e with ⟨p,q,o,ho,r⟩)<;>(refine zk ?_;clear zk zP)
  exact ⟨p,q,o,k _ _ (nH e) ho,r⟩
 ·refine xa3_3 hm ?_;(try clear hm);intro oL es ep hL r1 r2
  refine xa1_1 (kd _ oL es ep hL r1) ?_;intro sl z
  exact ⟨_,es,ep,z,r1,r2⟩
 ·refine cps fun zP zk=>?_;(rcases co x hx with ⟨c,g1,g2,g3,g4,g5,v,o,ho,hd⟩)<;>(refine zk ?_;clear zk zP)
  exact ⟨c,g1,g2,g3,g4,g5,v,o,k _ _ (nC hx g1) ho,hd⟩
 ·refine xa1_2 (cv x av c h1 h2 h3) ?_;intro v;intro zq;refine xa1_2 zq ?_;(try clear zq);intro o ho hd;intro r
  exact ⟨v,⟨o,k _ _ (nC h2 h3) ho,hd⟩,r⟩
theorem Rp.looseTurn (hR:Rp C A F G env σ s) {h':Heap} {t:Nat} {a:Addr} (ha:FA F G σ env a) (hd:∀o es ep,s.heap.get? a=some o→o.data≠.dict es ep) (hs:∀b o,b≠a→s.heap.get? b=some o→h'.get? b=some o):Rp C A F G env σ ⟨h',s.gens,s.drawn,t,s.os⟩:=by
 refine hR.noted (S:=[a]) (fun b hb=>?_) (fun b o hb e=>hs b o (by simpa using hb) e) fun b o es ep e hd'=>?_
 ·obtain rfl:b=a:=by simpa using hb
  exact .inl ha
 ·have n:b≠a:=by rintro rfl;exact hd o es ep e hd'
  exact ⟨o.slots,hs b o n e⟩
theorem KT {e:Addr} {X T:String} {oe:Obj} {vs:Array Value} {x:Str} {xp pos:Pos} {b₀:Stmt} {suite:List Stmt} {rest:List ExceptHandler} {Q:A5→Am→Prop}
  (hR:Rp C A F G env σ s) (hl:FA F G σ env e) (he:s.heap.get? e=some oe) (hc:oe.cls=.type X) (hd:oe.data=.fields vs) (h1:vs[1]? = some .none) (hfr:env.frame=some env.locals)
  (hexc:isSubtype (.type T) (.type "BaseException")=pure true) (hnt:isSubtype (.type ((Manifest.find? T).elim "type" fun y=>y.metatype)) (.type "tuple")=pure false) (hsub:isSubtype (.type X) (.type T)=pure true)
  (hg:GL C x (.type T)) (h:Dn C (A.mark (some (.ref e))) Bz env (b₀::suite) σ Q)
  (hk:env.kindOf x=some .globalImplicit) (hs:env.scope.kind=.function) (hgl:env.globals=mainGlobals) (hbl:env.builtins=builtinsNs) (hdbg:(x == ("__debug__" : Str))=false) :
  wpAny (model C.prog C.w) A (noteFrame (.ref e) env) (fun zu s₂=>wpAny (model C.prog C.w) A (setFlight (.ref e) none) (fun zu s₃=>
   wpAny (model C.prog C.w) A (handleBy (.ref e) env (.ExceptHandler (some (.Name x xp)) none (b₀::suite) pos::rest)) (Av C A G env Mf Q F) E s₃) E s₂) E s:=by
 refine xa2_5 hR.fs ?_;intro e' l f1 f2 f3 f4 f5
 have:e'=env:=by
  rcases f4 with f4|⟨zu,L,o,g1,g2,zu⟩
  ·exact f4.1
  ·rw [f3,hfr] at g1;(have zc:=Option.some.inj g1;clear g1;subst zc)
   rw [hR.fm.lo.2.1] at g2;exact Ak g2
 subst this
 let S:List Addr:=e::(e'::l).filterMap (·.frame)
 have hSf:∀b∈(e'::l).filterMap (·.frame),b=e'.locals∨∃o es ep,G b=some o∧o.data=.dict es ep:=by
  intro b hb
  refine xa1_2 (List.mem_filterMap.mp hb) ?_;intro en hen hfe
  rcases List.mem_cons.mp hen with rfl|hen
  ·rw [hfr] at hfe;(have zc:=Option.some.inj hfe;clear hfe;subst zc);exact .inl rfl
  ·refine cps fun zP zk=>?_;(rcases f5 en hen with ⟨zu,L,o,g1,g2,es,ep,g3⟩)<;>(refine zk ?_;clear zk zP)
   rw [g1] at hfe;(have zc:=Option.some.inj hfe;clear hfe;subst zc)
   exact .inr ⟨o,es,ep,g2,g3⟩
 have hS:∀b∈S,FA F G σ e' b∨(b=e'.locals∨∃o es ep,G b=some o∧o.data=.dict es ep):=by
  intro b hb
  rcases List.mem_cons.mp hb with rfl|hb
  ·exact .inl hl
  ·exact .inr (hSf b hb)
 have hfun:∀b∈(e'::l).filterMap (·.frame),∃o,s.heap.get? b=some o∧∃es ep,o.data=.dict es ep:=by
  intro b hb
  rcases hSf b hb with rfl|⟨o,es,ep,g1,g2⟩
  ·refine xa1_2 hR.fm.ns ?_;intro m;intro zq;refine xa3_3 zq ?_;(try clear zq);intro oL es ep hL r zu;intro zu
   exact ⟨oL,hL,es,ep,r⟩
  ·refine xa1_2 (hR.wd.gz _ _ g1) ?_;intro o' g3 g4
   exact ⟨o',g3,es,ep,g4.data.trans g2⟩
 have base_none:∀b∈S,(Eu s.heap S).get? b=none:=fun b hb=>by rw [C3,if_pos hb]
 have hff:s.heap.FunFrames (Eu s.heap S) (e'::l):=by
  have all:∀ll:List Env,(∀en∈ll,en∈e'::l)→s.heap.FunFrames (Eu s.heap S) ll:=by
   intro ll
   induction ll with
   |nil=>intro zu;trivial
   |cons en ll ih=>
    intro hsub'
    have hen:=hsub' en List.mem_cons_self
    obtain ⟨kd,L,hL⟩:en.scope.kind≠.module∧∃L,en.frame=some L:=by
     rcases List.mem_cons.mp hen with rfl|hen
     ·exact ⟨f2,_,hfr⟩
     ·refine cps fun zP zk=>?_;(rcases f5 en hen with ⟨g0,L,o,g1,zu⟩)<;>(refine zk ?_;clear zk zP)
      exact ⟨g0,L,g1⟩
    have hm:L∈(e'::l).filterMap (·.frame):=List.mem_filterMap.mpr ⟨en,hen,hL⟩
    refine cps fun zP zk=>?_;(rcases hfun L hm with ⟨o,ho,es,ep,hdd⟩)<;>(refine zk ?_;clear zk zP)
    exact ⟨kd,⟨L,o,hL,base_none _ (List.mem_cons_of_mem _ hm),ho,fun vs q=>by rw [hdd] at q;cases q⟩,ih fun en' h'=>hsub' en' (List.mem_cons_of_mem _ h')⟩
  exact all _ fun zu h=>h
 have hkb:(Eu s.heap S).StaysIn s.heap:=fun b o e=>by
  rw [C3] at e
  split at e
  ·exact Ak e
  ·exact e
 unfold noteFrame
 simp only [hfr]
 refine wpAny_bind (wpAny_field he hd h1 ?_)
 rw [if_neg (by decide)]
 refine wpAny_newEntry f1 hff hfr he hkb (base_none e List.mem_cons_self) hd (Array.getElem?_eq_some_iff.mp h1).1 fun h' hL=>?_
 refine xa0_4 hL ?_;(try clear hL);intro k1 k2;intro zq;refine xa5_9 zq ?_;(try clear zq);intro oe' vs' T' oT ts t1 t2 t3 t4 t5 t6 t7 t8 t9;intro k4
 have hR₁:Rp C A F G e' σ { s with heap:=h' }:=hR.noted (t:=s.toks) hS (fun b o hb q=>k1 b o (by rw [C3,if_neg hb];exact q)) fun b o es ep q hdd=>k4 b o q fun vs z=>by rw [hdd] at z;cases z
 have hT':s.heap.get? T'=none:=by
  rw [C3] at t5
  split at t5
  ·rename_i hm
   rcases List.mem_cons.mp hm with q|hm
   ·exact absurd q t6
   ·refine cps fun zP zk=>?_;(rcases hfun T' hm with ⟨o,ho,es,ep,hdd⟩)<;>(refine zk ?_;clear zk zP)
    refine xa1_1 (k4 T' o ho fun vs z=>by rw [hdd] at z;cases z) ?_;intro sl z
    rw [t7] at z;(have zc:=Option.some.inj z;clear z;subst zc)
    rw [hdd] at t8;cases t8
  ·exact t5
 have lT:FA F G σ e' T':=hR.loose hT'
 refine wpAny_handleBy_builtin (X:=X) (T:=T) (b:=true) hexc hnt hsub ?_
 refine wpAny_Name ?_ hdbg
 rw [Dc hs hk]
 refine hg e' hgl hbl _ _ _ _ hR₁.wd.old ⟨rfl,⟨oe',t1,t2.trans hc⟩,?_⟩
 rw [if_pos rfl]
 refine wpAny_setFlight_none t1 t3 t4 t7 t8 (Array.getElem?_eq_some_iff.mp t9).1 ?_
 have hR₂:Rp C A F G e' σ { s with heap:=h'.update T' (Obj.mapFields (·.setIfInBounds 3 .none)) }:=hR₁.looseTurn (t:=s.toks) lT (fun o es ep q z=>by dsimp only at q;rw [t7] at q;(have zc:=Option.some.inj q;clear q;subst zc);rw [t8] at z;cases z) fun b o n q=>(Heap.get?_update_ne _ _ _ _ n).trans q
 refine wpAny_mono (h F G _ (hR₂.mark _)) (fun f s' z=>?_) fun zu zu x=>x.elim
 refine cps fun zP zk=>?_;(rcases z with ⟨F',b,σ',e1,r,hR',q⟩)<;>(refine zk ?_;clear zk zP)
 exact ⟨F',b,σ',e1,r,hR'.unmark,q⟩
theorem It {x:Str} {px ps pa pos hpos kp:Pos} {value slice:Expr} {b₀:Stmt} {suite:List Stmt} {Q:A5→Am→Prop} (hs:(C.h0.get? sysModules).isSome=true) (hA:A.handled=none)
  (hg:GL C "KeyError" (.type "KeyError"))
  (h:Ev C A Bz env value σ (fun a σ₁=>Ev C A Bz env slice σ₁ (fun k σ₂=>∃d l ep ky,a=.ref d∧σ₂.hp d=some (.dict l ep)∧k=As.av ky ∧
   (∀v,DA l ky=some v→Q .next (σ₂.set x v))∧(DA l ky=none→∀e,Dn C (A.mark (some (.ref e))) Bz env (b₀::suite) σ₂ Q))))
  (hkx:EA (env.kindOf x)=true:=by rfl) (hfr:env.frame=some env.locals:=by rfl) (hk:env.kindOf "KeyError" = some .globalImplicit:=by rfl) (hsc:env.scope.kind=.function:=by rfl) (hgl:env.globals=mainGlobals:=by rfl) (hbl:env.builtins=builtinsNs:=by rfl)
  (hsw:swapsWith (.Subscript value slice ps) (some (.Name x px)) pa.line env=pure false:=by rfl) :
  Ex C A E env (.Try [.Assign [.Name x px] (.Subscript value slice ps) pa] [.ExceptHandler (some (.Name "KeyError" kp)) none (b₀::suite) hpos] [] [] pos) σ Q:=by
 intro F G s hR
 refine wpAny_Try_except (wpAny_execs_cons (wpAny_Assign_Name (Subscript_ (wpAny_mono (h F G s hR) (fun va s₁ z=>?_) fun zu zu x=>x.elim)) hsw))
 refine cps fun zP zk=>?_;(rcases z with ⟨F₁,a,σ₁,e₁,ha,hR₁,h₁⟩)<;>(refine zk ?_;clear zk zP)
 refine wpAny_mono (h₁ F₁ G s₁ hR₁) (fun vk s₂ z=>?_) fun zu zu x=>x.elim
 refine cps fun zP zk=>?_;(rcases z with ⟨F₂,k,σ₂,e₂,hkv,hR₂,d,l,ep,ky,rfl,hd,rfl,hyes,hno⟩)<;>(refine zk ?_;clear zk zP)
 (have zc:=VR.refI ha;clear ha;subst zc)
 refine xa1_2 (hR₂.dictOf hd) ?_;intro kvs hdo sv
 have hm:=BZ hdo
 refine B3 hm.typeIs slot_dict_getitem.lookup ?_
 rcases sv.at ky with ⟨xv,v,g1,g2,g3⟩|⟨g1,g2⟩
 ·refine wpAny_getItem_of (As.is_of hkv) hm g2 (Cq (hR₂.tok _) g3 (CP hkx) fun s₃ hR₃=>?_)
  exact wpAny_execs_nil (wpAny_execs_nil ⟨F₂,.next,_,e₁.trans e₂,.next,hR₃,hyes _ g1⟩)
 ·refine wpAny_getItem_missing_of (As.is_of hkv) (hR₂.low hd hs) hA hm g2 fun h' e hx=>?_
  refine xa2_3 hx.there ?_;intro oe t he hc hdt
  have hR₃:Rp C A F₂ G env σ₂ { s₂ with heap:=h',toks:=s₂.toks+1 }:=hR₂.keep hx.keeps
  have z:=KT (E:=E) (T:="KeyError") (xp:=kp) (pos:=hpos) (rest:=[]) hR₃ (hR₂.loose hx.new) he hc hdt rfl hfr DH DL DG hg (hno g1 e) hk hsc hgl hbl (by decide)
  exact wpAny_mono z (fun zu zu z=>wpAny_mono z (fun zu zu z=>wpAny_mono z (fun zu zu z=>Av.ext (e₁.trans e₂) z) fun zu zu x=>x) fun zu zu x=>x) fun zu zu x=>x
end
end
section
noncomputable abbrev FU:Program:=PySem.Challenge.pw_nc0002_09
structure BU where
 params:Arguments
 body:List Stmt
 scope:Scope
noncomputable def BU.nil:BU:=⟨⟨[],[],none,[],[],none,[]⟩,[],default⟩
noncomputable def IN (n:Str):List Stmt→BU
 |[]=>.nil
 |.FunctionDef m a b _ _ _ sc _ _ _::r=>if m == n then ⟨a,b,sc⟩ else IN n r
 |_::r=>IN n r
noncomputable def Ie (n:Str):List Stmt→List Stmt
 |[]=>[]
 |.ClassDef m _ _ b _ _ _ _ _ _ _::r=>if m == n then b else Ie n r
 |_::r=>Ie n r
noncomputable def CN (c m:Str):BU:=IN m (Ie c FU.main.body)
noncomputable def KP (m:Str):BU:=IN m FU.main.body
structure FdRest where
 name:Str
 qual:Str
 kwd:Value
 doc:Value
 pm:Value
 ann:Option Addr
 code:Value
 ct:Value
noncomputable def FdRest.fd (r:FdRest) (d:BU) (dflt:Value):FuncData:=
 { name:=r.name,qualname:=r.qual,params:=d.params,body:=.stmts d.body,scope:=d.scope,globals:=mainGlobals,closure:=[],defaults:=dflt,kwdefaults:=r.kwd,doc:=r.doc,pyModule:=r.pm,annotations:=r.ann,code:=r.code,closureTuple:=r.ct,builtins:=builtinsNs }
noncomputable abbrev H0:BU:=CN "KeywordTree" "add"
theorem VRs.inv {F:FH} {x:AV} {xs:List AV} {vs:List Value} (h:VRs F (x::xs) vs):∃v us,vs=v::us∧VR F x v∧VRs F xs us:=by
 cases h with
 |cons a b=>exact ⟨_,_,rfl,a,b⟩
theorem VRs.inv0 {F:FH} {vs:List Value} (h:VRs F [] vs):vs=[]:=by (have zc:=VRs.nilI h;clear h;subst zc);rfl
theorem Cm.inv {F:FH} {k:Str} {x:AV} {xs:List (Str×AV)} {vs:List (Str×Value)} (h:Cm F ((k,x)::xs) vs):∃v us,vs=(k,v)::us∧VR F x v∧Cm F xs us:=by
 cases h with
 |cons a b=>exact ⟨_,_,rfl,a,b⟩
theorem Cm.inv0 {F:FH} {vs:List (Str×Value)} (h:Cm F [] vs):vs=[]:=by cases h;rfl
theorem JG (C:Cf) (r:FdRest) (x y:AV):BE C (r.fd H0 .none) [x,y] [] [("self",x),("keyword",y)]:=by
 intro F vs kvs hv hk
 obtain rfl:=hk.inv0
 refine xa2_3 hv.inv ?_;intro v1 zu;rintro rfl;intro a hv
 refine xa2_3 hv.inv ?_;intro v2 zu;rintro rfl;intro b hv
 obtain rfl:=hv.inv0
 exact ⟨[("self",v1),("keyword",v2)],Looks.of_pure (by kernel_rfl),.cons a (.cons b .nil),by kernel_rfl⟩
noncomputable abbrev Fa:BU:=CN "State" "__init__"
noncomputable def Ef (vs:List Value):Obj:={ cls:=.type "tuple",data:=.seq vs.toArray }
theorem ID {C:Cf} {α:Type} {a:Addr} {o:Obj} (h:C.h0.get? a=some o) {t:Sem α} {r:α} (e:peek [(a,o)] ⟨C.prog,C.w.params⟩ t=some r):Looks (model C.prog C.w) C.h0 t r:=by
 refine Looks.of_peek (K:=[(a,o)]) (fun b ob hb=>?_) e
 simp only [List.lookup] at hb
 split at hb
 ·rename_i q
  (have zc:=Option.some.inj hb;clear hb;subst zc)
  rw [beq_iff_eq.mp q];exact h
 ·exact Ak hb
theorem Hv (C:Cf) (r:FdRest) (hd:C.h0.get? 23=some (Ef [.none,.none,.bool false])) (x i p s:AV) :
  BE C (r.fd Fa (.ref 23)) [x,i] [("parent",p),("symbol",s)] [("self",x),("identifier",i),("symbol",s),("parent",p),("success",.bool false)]:=by
 intro F vs kvs hv hk
 refine xa2_3 hk.inv ?_;intro v3 zu;rintro rfl;intro a3 hk
 refine xa2_3 hk.inv ?_;intro v4 zu;rintro rfl;intro a4 hk
 obtain rfl:=hk.inv0
 refine xa2_3 hv.inv ?_;intro v1 zu;rintro rfl;intro a hv
 refine xa2_3 hv.inv ?_;intro v2 zu;rintro rfl;intro b hv
 obtain rfl:=hv.inv0
 exact ⟨[("self",v1),("identifier",v2),("symbol",v4),("parent",v3),("success",.bool false)],ID hd (by kernel_rfl),.cons a (.cons b (.cons a4 (.cons a3 (.cons (.bool false) .nil)))),by kernel_rfl⟩
theorem GC (C:Cf) (r:FdRest) (hd:C.h0.get? 23=some (Ef [.none,.none,.bool false])) (x i:AV) :
  BE C (r.fd Fa (.ref 23)) [x,i] [] [("self",x),("identifier",i),("symbol",.none),("parent",.none),("success",.bool false)]:=by
 intro F vs kvs hv hk
 obtain rfl:=hk.inv0
 refine xa2_3 hv.inv ?_;intro v1 zu;rintro rfl;intro a hv
 refine xa2_3 hv.inv ?_;intro v2 zu;rintro rfl;intro b hv
 obtain rfl:=hv.inv0
 exact ⟨[("self",v1),("identifier",v2),("symbol",.none),("parent",.none),("success",.bool false)],ID hd (by kernel_rfl),.cons a (.cons b (.cons .none (.cons .none (.cons (.bool false) .nil)))),by kernel_rfl⟩
noncomputable abbrev ET:BU:=CN "KeywordTree" "__init__"
noncomputable abbrev I4:BU:=CN "KeywordTree" "search"
noncomputable abbrev Ji:BU:=CN "KeywordTree" "search_one"
noncomputable abbrev Le:BU:=CN "KeywordTree" "search_all"
noncomputable abbrev Hl:BU:=CN "KeywordTree" "_search_all_generic"
noncomputable abbrev J0:BU:=CN "KeywordTree" "finalize"
noncomputable abbrev Ke:BU:=CN "KeywordTree" "_precompute_outputs"
noncomputable abbrev Hi:BU:=CN "KeywordTree" "search_lss_for_children"
noncomputable abbrev DQ:BU:=CN "KeywordTree" "search_lss"
theorem GB (C:Cf) (r:FdRest) (hd:C.h0.get? 52=some (Ef [.bool false])) (x:AV) :
  BE C (r.fd ET (.ref 52)) [x] [] [("self",x),("case_insensitive",.bool false)]:=by
 intro F vs kvs hv hk
 obtain rfl:=hk.inv0
 refine xa2_3 hv.inv ?_;intro v1 zu;rintro rfl;intro a hv
 obtain rfl:=hv.inv0
 exact ⟨[("self",v1),("case_insensitive",.bool false)],ID hd (by kernel_rfl),.cons a (.cons (.bool false) .nil),by kernel_rfl⟩
theorem GA (C:Cf) (r:FdRest) (hd:C.h0.get? 52=some (Ef [.bool false])) (x y:AV) :
  BE C (r.fd ET (.ref 52)) [x] [("case_insensitive",y)] [("self",x),("case_insensitive",y)]:=by
 intro F vs kvs hv hk
 refine xa2_3 hk.inv ?_;intro v3 zu;rintro rfl;intro a3 hk
 obtain rfl:=hk.inv0
 refine xa2_3 hv.inv ?_;intro v1 zu;rintro rfl;intro a hv
 obtain rfl:=hv.inv0
 exact ⟨[("self",v1),("case_insensitive",v3)],ID hd (by kernel_rfl),.cons a (.cons a3 .nil),by kernel_rfl⟩
theorem Ft (C:Cf) (d:BU) (x1 x2:Str) (h:∀(r:FdRest) (S:Setting) (v1 v2:Value),peek [] S (bindArgs (r.fd d .none) ⟨[v1,v2],[]⟩)=some [(x1,v1),(x2,v2)])
  (hl:([x1,x2].all fun x=>decide (d.scope.names.lookup x=some .local))=true) (r:FdRest) (x y:AV):BE C (r.fd d .none) [x,y] [] [(x1,x),(x2,y)]:=by
 intro F vs kvs hv hk
 obtain rfl:=hk.inv0
 refine xa2_3 hv.inv ?_;intro v1 zu;rintro rfl;intro a hv
 refine xa2_3 hv.inv ?_;intro v2 zu;rintro rfl;intro b hv
 obtain rfl:=hv.inv0
 refine ⟨[(x1,v1),(x2,v2)],Looks.of_peek (K:=[]) (fun zu zu h=>by exact Ak h) (h r _ v1 v2),.cons a (.cons b .nil),?_⟩
 exact hl
theorem KV (C:Cf) (d:BU) (x1:Str) (h:∀(r:FdRest) (S:Setting) (v1:Value),peek [] S (bindArgs (r.fd d .none) ⟨[v1],[]⟩)=some [(x1,v1)])
  (hl:([x1].all fun x=>decide (d.scope.names.lookup x=some .local))=true) (r:FdRest) (x:AV):BE C (r.fd d .none) [x] [] [(x1,x)]:=by
 intro F vs kvs hv hk
 obtain rfl:=hk.inv0
 refine xa2_3 hv.inv ?_;intro v1 zu;rintro rfl;intro a hv
 obtain rfl:=hv.inv0
 refine ⟨[(x1,v1)],Looks.of_peek (K:=[]) (fun zu zu h=>by exact Ak h) (h r _ v1),.cons a .nil,?_⟩
 exact hl
theorem J9 (C:Cf):∀(r:FdRest) x y,BE C (r.fd Ji .none) [x,y] [] [("self",x),("text",y)]:=Ft C Ji "self" "text" (fun zu zu zu zu=>by kernel_rfl) (by kernel_rfl)
theorem JF (C:Cf):∀(r:FdRest) x y,BE C (r.fd Le .none) [x,y] [] [("self",x),("text",y)]:=Ft C Le "self" "text" (fun zu zu zu zu=>by kernel_rfl) (by kernel_rfl)
theorem JC (C:Cf):∀(r:FdRest) x y,BE C (r.fd Hl .none) [x,y] [] [("self",x),("text",y)]:=Ft C Hl "self" "text" (fun zu zu zu zu=>by kernel_rfl) (by kernel_rfl)
theorem JD (C:Cf):∀(r:FdRest) x,BE C (r.fd J0 .none) [x] [] [("self",x)]:=KV C J0 "self" (fun zu zu zu=>by kernel_rfl) (by kernel_rfl)
theorem J8 (C:Cf):∀(r:FdRest) x,BE C (r.fd Ke .none) [x] [] [("self",x)]:=KV C Ke "self" (fun zu zu zu=>by kernel_rfl) (by kernel_rfl)
theorem Ik (C:Cf):∀(r:FdRest) x y,BE C (r.fd Hi .none) [x,y] [] [("self",x),("zero_state",y)]:=Ft C Hi "self" "zero_state" (fun zu zu zu zu=>by kernel_rfl) (by kernel_rfl)
theorem JA (C:Cf):∀(r:FdRest) x y,BE C (r.fd DQ .none) [x,y] [] [("self",x),("state",y)]:=Ft C DQ "self" "state" (fun zu zu zu zu=>by kernel_rfl) (by kernel_rfl)
structure Tp (C:Cf):Prop where
 sysm:(C.h0.get? sysModules).isSome=true
 g_State:GL C "State" (.ref 34)
 g_VE:GL C "ValueError" (.type "ValueError")
 g_KE:GL C "KeyError" (.type "KeyError")
 g_SI:GL C "StopIteration" (.type "StopIteration")
 g_len:GL C "len" (.builtin "len")
 g_set:GL C "set" (.type "set")
 g_tuple:GL C "tuple" (.type "tuple")
 g_enum:GL C "enumerate" (.type "enumerate")
 g_next:GL C "next" (.builtin "next")
 s_id:Ci C 34 "identifier" 0
 s_lss:Ci C 34 "longest_strict_suffix" 1
 s_mk:Ci C 34 "matched_keyword" 2
 s_out:Ci C 34 "outputs" 3
 s_par:Ci C 34 "parent" 4
 s_suc:Ci C 34 "success" 5
 s_sym:Ci C 34 "symbol" 6
 s_tr:Ci C 34 "transitions" 7
 mkS:E1 C 34 30
 mkT:E1 C 125 59
 n_zero:GF C 125 "_zero_state"
 n_cnt:GF C 125 "_counter"
 n_fin:GF C 125 "_finalized"
 n_ci:GF C 125 "_case_insensitive"
 n_sp:GF C 125 "_skip_pattern"
 n_spt:GF C 125 "_skip_pattern_type"
 d23:C.h0.get? 23=some (Ef [.none,.none,.bool false])
 d52:C.h0.get? 52=some (Ef [.bool false])
 f_sInit:∃r:FdRest,FnAt C 30 (r.fd Fa (.ref 23))
 f_tInit:∃r:FdRest,FnAt C 59 (r.fd ET (.ref 52))
 f_add:∃r:FdRest,FnAt C 66 (r.fd H0 .none)
 f_search:∃r:FdRest,FnAt C 73 (r.fd I4 .none)
 f_one:∃r:FdRest,FnAt C 80 (r.fd Ji .none)
 f_all:∃r:FdRest,FnAt C 87 (r.fd Le .none)
 f_gen:∃r:FdRest,FnAt C 94 (r.fd Hl .none)
 f_fin:∃r:FdRest,FnAt C 101 (r.fd J0 .none)
 f_pre:∃r:FdRest,FnAt C 108 (r.fd Ke .none)
 f_kids:∃r:FdRest,FnAt C 115 (r.fd Hi .none)
 f_lss:∃r:FdRest,FnAt C 122 (r.fd DQ .none)
 m_add:BT C 125 "add" 66
 m_search:BT C 125 "search" 73
 m_one:BT C 125 "search_one" 80
 m_all:BT C 125 "search_all" 87
 m_gen:BT C 125 "_search_all_generic" 94
 m_fin:BT C 125 "finalize" 101
 m_pre:BT C 125 "_precompute_outputs" 108
 m_kids:BT C 125 "search_lss_for_children" 115
 m_lss:BT C 125 "search_lss" 122
end
section
variable {C:Cf} {A:Around} {E:Value→Shared→Prop}
theorem AM {env:Env} {σ:Am} {e:Expr} {r:List Expr} {pos:Pos} {Q:List AV→Am→Prop} (h:Ev C A E env e σ (fun v σ₁=>L0 C A E env (backTo pos (starEach r env)) σ₁ (fun vs σ₂=>Q (v::vs) σ₂)))
  (hs:starEach (e::r) env=(false,eval e env)::starEach r env:=by rfl):L0 C A E env (backTo pos (starEach (e::r) env)) σ Q:=by
 rw [hs];exact Lw h
theorem A3 {env:Env} {σ:Am} {pos:Pos} {Q:List AV→Am→Prop} (h:Q [] σ):L0 C A E env (backTo pos (starEach [] env)) σ Q:=Mi h
theorem Lx {env:Env} {σ:Am} {n:Option Str} {e:Expr} {kp:Pos} {r:List Keyword} {pos:Pos} {Q:List AV→Am→Prop} (h:Ev C A E env e σ (fun v σ₁=>M0 C A E env ((backToKw pos (keywordEach r env)).map (·.2)) σ₁ (fun vs σ₂=>Q (v::vs) σ₂))) :
  M0 C A E env ((backToKw pos (keywordEach (⟨n,e,kp⟩::r) env)).map (·.2)) σ Q:=Ly h
theorem AF {env:Env} {σ:Am} {pos:Pos} {Q:List AV→Am→Prop} (h:Q [] σ):M0 C A E env ((backToKw pos (keywordEach [] env)).map (·.2)) σ Q:=Mj h
noncomputable def DM (id:Int) (lss mk:AV) (out:Option AV) (par:AV) (suc:Bool) (sym:AV) (t:Addr):AO:=
 .slot 34 [some (.int id),some lss,some mk,out,some par,some (.bool suc),some sym,some (.ref t)]
theorem HF (T:Tp C) (hroom:A.depth<recursionLimit) {hp:HP} {x:Addr} {i:Int} {p s:AV} {kw:List (Str×AV)} {Q:AV→HP→Prop} (hx:hp x=some (.slot 34 []))
  (hkw:(kw=([("parent",p),("symbol",s)]:List (Str×AV)))∨(kw=[]∧p=.none∧s=.none))
  (h:∀d hp',hp d=none→d≠x→hp' x=some (DM i .none .none none p false s d)→hp' d=some (.dict [] 0)→(∀b,b≠x→b≠d→hp' b=hp b)→Q .none hp') :
  Fn C A (.ref 30) [.ref x,.int i] kw hp Q:=by
 refine xa1_1 T.f_sInit ?_;intro r hf
 have hb:BE C (r.fd Fa (.ref 23)) [.ref x,.int i] kw [("self",.ref x),("identifier",.int i),("symbol",s),("parent",p),("success",.bool false)]:=by
  rcases hkw with rfl|⟨rfl,rfl,rfl⟩
  ·exact Hv C r T.d23 _ _ _ _
  ·exact GC C r T.d23 _ _
 refine C7 (body:=Fa.body) hf hb (fun L=>?_) hroom (by kernel_rfl) (by kernel_rfl) (by kernel_rfl) (by kernel_rfl) (by kernel_rfl)
 refine Aa (An (Ab rfl (Ab rfl (Bk T.s_sym hx ?_))))
 refine Aa (An (Ab rfl (Ab rfl (Bk T.s_id (Ae _ _ _) ?_))))
 refine Aa (An (H8 (fun d hd=>Ab rfl (Bk (a:=x) (vs:=setSlot (setSlot [] 6 s) 0 (.int i)) T.s_tr ?_ ?_))))
 ·have:x≠d:=by rintro rfl;simp at hd
  simp [upd,this]
 have hdx:d≠x:=by rintro rfl;simp at hd
 have hd0:hp d=none:=by simpa [upd,hdx] using hd
 refine Aa (An (Ab rfl (Ab rfl (Bk T.s_par (Ae _ _ _) ?_))))
 refine Aa (An (Ab rfl (Ab rfl (Bk T.s_suc (Ae _ _ _) ?_))))
 refine Aa (An (Bv (Ab rfl (Bk T.s_mk (Ae _ _ _) ?_))))
 refine Aa (An (Bv (Ab rfl (Bk T.s_lss (Ae _ _ _) ?_))))
 refine Al ?_
 refine h d _ hd0 hdx ?_ ?_ ?_
 ·refine (Ae _ _ _).trans ?_
  simp [setSlot,DM,List.replicate]
 ·simp [upd,hdx]
 ·intro b h1 h2
  simp [upd,h1,h2]
theorem E3 (A:Around) (Cl:Addr) (vs:List Value) (kvs:List (Str×Value)):(A.under (.builtin "type.__call__" ⟨.ref Cl::vs,kvs⟩)).depth=A.depth+1:=rfl
theorem FZ (T:Tp C) (hroom:A.depth+1<recursionLimit) {hp:HP} {i:Int} {p s:AV} {kw:List (Str×AV)} {Q:AV→HP→Prop}
  (hkw:(kw=([("parent",p),("symbol",s)]:List (Str×AV)))∨(kw=[]∧p=.none∧s=.none))
  (h:∀x d hp',hp x=none→hp d=none→d≠x→hp' x=some (DM i .none .none none p false s d)→hp' d=some (.dict [] 0)→(∀b,b≠x→b≠d→hp' b=hp b)→Q (.ref x) hp') :
  Fn C A (.ref 34) [.int i] kw hp Q:=by
 refine Lr T.mkS (fun x vs kvs hx=>?_)
 refine HF T (by rw [E3];exact hroom) (Ae _ _ _) hkw (fun d hp' h1 h2 h3 h4 h5=>⟨rfl,h x d hp' hx ?_ h2 h3 h4 (fun b b1 b2=>?_)⟩)
 ·simpa [upd,h2] using h1
 ·rw [h5 b b1 b2];simp [upd,b1]
noncomputable def Eg (z:Addr) (n:Int) (fin ci:Bool):List (Str×AV):=
 [("_zero_state",.ref z),("_counter",.int n),("_finalized",.bool fin),("_case_insensitive",.bool ci),("_skip_pattern",.none),("_skip_pattern_type",.none)]
theorem Km (T:Tp C) (hroom:A.depth+4<recursionLimit) {hp:HP} {ci:Bool} {kw:List (Str×AV)} {Q:AV→HP→Prop}
  (hkw:(kw=([("case_insensitive",.bool ci)]:List (Str×AV)))∨(kw=[]∧ci=false))
  (h:∀t d z e hp',[t,d,z,e].Nodup→hp t=none→hp d=none→hp z=none→hp e=none→hp' t=some (.inst 125 d)→hp' d=some (.ns (Eg z 1 false ci)) →
   hp' z=some (DM 0 .none .none none .none false .none e)→hp' e=some (.dict [] 0)→(∀b,b≠t→b≠d→b≠z→b≠e→hp' b=hp b)→Q (.ref t) hp') :
  Fn C A (.ref 125) [] kw hp Q:=by
 refine Ls T.mkT (fun t d vs kvs ht hd htd=>?_)
 refine xa1_1 T.f_tInit ?_;intro r hf
 have hb:BE C (r.fd ET (.ref 52)) [.ref t] kw [("self",.ref t),("case_insensitive",.bool ci)]:=by
  rcases hkw with rfl|⟨rfl,rfl⟩
  ·exact GA C r T.d52 _ _
  ·exact GB C r T.d52 _
 refine C7 (body:=ET.body) hf hb (fun L=>?_) (by rw [E3];with_reducible exact Kj ‹_› (by decide)) (by kernel_rfl) (by kernel_rfl) (by kernel_rfl) (by kernel_rfl) (by kernel_rfl)
 have hdt:d≠t:=fun e=>htd e.symm
 refine Aa (An (B7 (GI T.g_State (AM (FE (A3 (AF (E2 T.mkS (FZ T ?_ (Or.inr ⟨rfl,rfl,rfl⟩) ?_)))))))))
 ·show A.depth+1+1+1<recursionLimit
  with_reducible exact I7 ‹_› (by decide)
 intro z e hp' hz he hez h1 h2 h3
 have hzt:z≠t:=by rintro rfl;simp [upd] at hz
 have hzd:z≠d:=by rintro rfl;simp [upd,hdt] at hz
 have het:e≠t:=by rintro rfl;simp [upd] at he
 have hed:e≠d:=by rintro rfl;simp [upd,hdt] at he
 have ht':hp' t=some (.inst 125 d):=by rw [h3 t hzt.symm het.symm];simp [upd]
 have hd':hp' d=some (.ns []):=by rw [h3 d hzd.symm hed.symm];simp [upd,hdt]
 refine Ab rfl (CK T.n_zero ht' hd' ?_)
 refine Aa (An (FE (Ab rfl (CK T.n_cnt (a:=t) (d:=d) ?_ (Ae _ _ _) ?_ (hz:=Nat.le_of_ble_eq_true (by rfl))))))
 ·simp [upd,htd,ht']
 refine Aa (An (Ec (Ab rfl (CK T.n_fin (a:=t) (d:=d) ?_ (Ae _ _ _) ?_ (hz:=Nat.le_of_ble_eq_true (by rfl))))))
 ·simp [upd,htd,ht']
 refine Aa (An (Ab rfl (Ab rfl (CK T.n_ci (a:=t) (d:=d) ?_ (Ae _ _ _) ?_ (hz:=Nat.le_of_ble_eq_true (by rfl))))))
 ·simp [upd,htd,ht']
 refine Aa (An (Bv (Ab rfl (CK T.n_sp (a:=t) (d:=d) ?_ (Ae _ _ _) ?_ (hz:=Nat.le_of_ble_eq_true (by rfl))))))
 ·simp [upd,htd,ht']
 refine Aa (An (Bv (Ab rfl (CK T.n_spt (a:=t) (d:=d) ?_ (Ae _ _ _) ?_ (hz:=Nat.le_of_ble_eq_true (by rfl))))))
 ·simp [upd,htd,ht']
 refine Al ⟨rfl,?_⟩
 refine h t d z e _ ?_ ht hd ?_ ?_ ?_ ?_ ?_ ?_ ?_
 ·simp [htd,hzt.symm,het.symm,hzd.symm,hed.symm,hez.symm]
 ·simpa [upd,hzt,hzd] using hz
 ·simpa [upd,het,hed] using he
 ·simp [upd,htd,ht']
 ·refine (Ae _ _ _).trans ?_
  rfl
 ·simp [upd,hzd,h1]
 ·simp [upd,hed,h2]
 ·intro b b1 b2 b3 b4
  simp [upd,b2]
  rw [h3 b b3 b4];simp [upd,b1,b2]
end
section
theorem BX {α:Type} [DecidableEq α]:∀{l m:List α},l.Nodup→(∀x∈l,x∈m)→l.length≤m.length
 |[],_,_,_=>Nat.zero_le _
 |x::l,m,hn,hs=>by
  have hx:=hs x (List.mem_cons_self ..)
  have hn':=List.nodup_cons.mp hn
  have:=BX (l:=l) (m:=m.erase x) hn'.2 (fun y hy=>by
   have hne:y≠x:=fun e=>hn'.1 (e▸hy)
   exact (List.mem_erase_of_ne hne).mpr (hs y (List.mem_cons_of_mem _ hy)))
  rw [List.length_erase_of_mem hx] at this
  have hpos:0<m.length:=List.length_pos_of_mem hx
  simp only [List.length_cons];exact Ax [_,_,_] [(1,Z0,Z2),(1,(Zs Z2),Z1)] (Zs Z0) Z1 rfl this (Nat.le_of_eq (Nat.sub_add_cancel (Ax [_] [(1,(Zs (Zn 0)),Z0)] (Zn 1) Z0 rfl hpos)))
noncomputable abbrev Aj:=List As
structure Ad where
 D:List Aj
 A:Aj→Addr
 T:Aj→Addr
 key:Aj→Option AV
 tr:Aj→List (As×Aj)
 lss:Aj→Option Aj
 out:Aj→Option AV
noncomputable def Ad.parv (X:Ad) (p:Aj):AV:=if p=[] then .none else .ref (X.A p.dropLast)
noncomputable def EU (p:Aj):AV:=match p.getLast? with|some c=>c.av|none=>.none
noncomputable def Ad.lssv (X:Ad) (p:Aj):AV:=match X.lss p with|some q=>.ref (X.A q)|none=>.none
noncomputable def Ad.nodeAO (X:Ad) (p:Aj):AO:=DM (X.D.idxOf p) (X.lssv p) ((X.key p).getD .none) (X.out p) (X.parv p) (X.key p).isSome (EU p) (X.T p)
noncomputable def Ad.trv (X:Ad) (p:Aj):List (As×AV):=(X.tr p).map fun e=>(e.1,.ref (X.A e.2))
noncomputable def Bi (l:List (As×Aj)) (c:As):Option Aj:=(l.find? fun e=>e.1=c).map (·.2)
noncomputable def Ad.look (X:Ad) (p:Aj) (c:As):Option Aj:=Bi (X.tr p) c
theorem La (l:List (As×Aj)) (f:Aj→Addr) (c:As):DA (l.map fun e=>(e.1,AV.ref (f e.2))) c=(Bi l c).map fun q=>.ref (f q):=by
 induction l with
 |nil=>rfl
 |cons e l ih=>
  simp only [DA,Bi,List.map_cons,List.find?_cons] at ih ⊢
  by_cases h:e.1=c
  ·simp [h]
  ·simp only [h,decide_false];exact ih
theorem Ad.at_trv (X:Ad) (p:Aj) (c:As):DA (X.trv p) c=(X.look p c).map fun q=>.ref (X.A q):=La _ _ _
theorem Ep {l:List (As×Aj)} {c:As} {q:Aj} (h:Bi l c=some q):(c,q)∈l:=by
 refine xa1_2 (Option.map_eq_some_iff.mp h) ?_;intro e he;rintro rfl
 have h1:=List.find?_some he
 have:=List.mem_of_find?_eq_some he
 simp at h1;subst h1;exact this
theorem Hf {l:List (As×Aj)} (hn:(l.map (·.1)).Nodup) {c:As} {q:Aj} (h:(c,q)∈l):Bi l c=some q:=by
 induction l with
 |nil=>cases h
 |cons e l ih=>
  simp only [List.map_cons,List.nodup_cons] at hn
  simp only [Bi,List.find?_cons]
  rcases List.mem_cons.mp h with rfl|h'
  ·simp
  ·have:e.1≠c:=fun x=>hn.1 (by rw [x];exact List.mem_map_of_mem (f:=(·.1)) h')
   simp only [this,decide_false];exact ih hn.2 h'
theorem C1 {l:List (As×Aj)} {c:As} (h:Bi l c=none):∀e∈l,e.1≠c:=by
 intro e he x
 have:=List.find?_eq_none.mp (Option.map_eq_none_iff.mp h) e he
 simp [x] at this
theorem B6 (l m:List (As×Aj)) (c:As):Bi (l++m) c=(Bi l c).or (Bi m c):=by
 simp only [Bi,List.find?_append]
 cases l.find? fun e=>decide (e.1=c)<;>simp
structure Ad.Wf (X:Ad):Prop where
 root:[]∈X.D
 nodup:X.D.Nodup
 closed:∀p c,p++[c]∈X.D→p∈X.D
 ti:∀p∈X.D,∀q∈X.D,X.T p=X.T q→p=q
 trD:∀p∈X.D,∀e∈X.tr p,e.2∈X.D
 trN:∀p∈X.D,((X.tr p).map (·.1)).Nodup
 trL:∀p∈X.D,∀e∈X.tr p,e.2.getLast? = some e.1
 mkD:∀p,p∉X.D→X.key p=none
 mkV:∀p v,X.key p=some v→∀u,v≠.val u
structure AJ (X:Ad) (t d:Addr) (fin ci:Bool) (hp:HP):Prop where
 tree:hp t=some (.inst 125 d)
 ns:hp d=some (.ns (Eg (X.A []) X.D.length fin ci))
 nd:∀p∈X.D,hp (X.A p)=some (X.nodeAO p)
 td:∀p∈X.D,∃ep,hp (X.T p)=some (.dict (X.trv p) ep)
noncomputable def Fp (X:Ad) (t d a:Addr):Prop:=a=t∨a=d∨∃p∈X.D,a=X.A p∨a=X.T p
structure BO (P:Addr→Prop) (h:HP) (P':Addr→Prop) (h':HP):Prop where
 keep:∀a,h a≠none→¬P a→h' a=h a
 grow:∀a,P' a→P a∨h a=none
theorem BO.refl (P:Addr→Prop) (h:HP):BO P h P h:=⟨fun zu zu zu=>rfl,fun zu x=>.inl x⟩
theorem BO.trans {P P' P'':Addr→Prop} {h h' h'':HP} (a:BO P h P' h') (b:BO P' h' P'' h''):BO P h P'' h'' where
 keep:=fun x hx np=>by
  have e:=a.keep x hx np
  rw [←e]
  refine b.keep x (by rw [e];exact hx) (fun p'=>?_)
  rcases a.grow x p' with q|q
  ·exact np q
  ·exact hx q
 grow:=fun x p''=>by
  rcases b.grow x p'' with q|q
  ·exact a.grow x q
  ·by_cases hx:h x=none
   ·exact .inr hx
   ·by_cases np:P x
    ·exact .inl np
    ·rw [a.keep x hx np] at q;exact absurd q hx
theorem Ad.Wf.dist {X:Ad} {t d:Addr} {fin ci:Bool} {hp:HP} (hr:AJ X t d fin ci hp) {p:Aj} (hp':p∈X.D) {q:Aj} (hq:q∈X.D) :
  X.A p≠X.T q∧X.A p≠t∧X.A p≠d∧X.T p≠t∧X.T p≠d∧t≠d:=by
 have h1:=hr.nd p hp'
 refine xa1_1 (hr.td q hq) ?_;intro ep h2
 refine xa1_1 (hr.td p hp') ?_;intro ep' h3
 have h4:=hr.tree
 have h5:=hr.ns
 refine ⟨?_,?_,?_,?_,?_,?_⟩<;>intro e
 ·rw [e,h2] at h1;exact AO.noConfusion (Option.some.inj h1)
 ·rw [e,h4] at h1;exact AO.noConfusion (Option.some.inj h1)
 ·rw [e,h5] at h1;exact AO.noConfusion (Option.some.inj h1)
 ·rw [e,h4] at h3;exact AO.noConfusion (Option.some.inj h3)
 ·rw [e,h5] at h3;exact AO.noConfusion (Option.some.inj h3)
 ·rw [e,h5] at h4;exact AO.noConfusion (Option.some.inj h4)
theorem IH {D:List Aj} {p q:Aj} (hp:p∈D) (h:D.idxOf p=D.idxOf q):p=q:=by
 have h1:D.idxOf p<D.length:=List.idxOf_lt_length_of_mem hp
 have h2:D.idxOf q<D.length:=h▸h1
 have e1:=List.getElem_idxOf h1
 have e2:=List.getElem_idxOf h2
 rw [←e1,←e2];congr 1
theorem AJ.ai {X:Ad} {t d:Addr} {fin ci:Bool} {hp:HP} (hr:AJ X t d fin ci hp) {p q:Aj} (h1:p∈X.D) (h2:q∈X.D) (e:X.A p=X.A q):p=q:=by
 have a:=hr.nd p h1
 rw [e,hr.nd q h2] at a
 simp only [Ad.nodeAO,DM,Option.some.injEq,AO.slot.injEq,List.cons.injEq,AV.int.injEq] at a
 refine IH h1 ?_
 have:=a.2.1
 omega
theorem Ad.Wf.trlen {X:Ad} (w:X.Wf) {p:Aj} (h:p∈X.D):(X.tr p).length≤X.D.length:=by
 have:((X.tr p).map (·.2)).Nodup:=by
  have hn:=w.trN p h
  have hl:=w.trL p h
  generalize X.tr p=l at hn hl
  induction l with
  |nil=>simp
  |cons e l ih=>
   simp only [List.map_cons,List.nodup_cons] at hn ⊢
   refine ⟨fun hm=>hn.1 ?_,ih hn.2 (fun e' he'=>hl e' (List.mem_cons_of_mem _ he'))⟩
   refine xa1_2 (List.mem_map.mp hm) ?_;intro e' he' x
   have l1:=hl e (List.mem_cons_self ..)
   have l2:=hl e' (List.mem_cons_of_mem _ he')
   rw [x,l1] at l2
   rw [Option.some.injEq] at l2
   rw [l2];exact List.mem_map_of_mem (f:=(·.1)) he'
 have:=BX this (m:=X.D) (fun x hx=>by refine xa1_2 (List.mem_map.mp hx) ?_;intro e he;rintro rfl;exact w.trD p h e he)
 simpa using this
structure Ad.Ph1 (X:Ad):Prop where
 wf:X.Wf
 kid1:∀p∈X.D,∀c,p++[c]∈X.D→X.look p c=some (p++[c])
 kid0:∀p∈X.D,∀c,p++[c]∉X.D→X.look p c=none
 lss:∀p∈X.D,X.lss p=none
 out:∀p∈X.D,X.out p=none
noncomputable def Ad.grow (X:Ad) (u:Aj) (c:As) (a b:Addr):Ad where
 D:=X.D++[u++[c]]
 A:=fun p=>if p=u++[c] then a else X.A p
 T:=fun p=>if p=u++[c] then b else X.T p
 key:=X.key
 tr:=fun p=>if p=u++[c] then [] else if p=u then X.tr u++[(c,u++[c])] else X.tr p
 lss:=fun p=>if p=u++[c] then none else X.lss p
 out:=fun p=>if p=u++[c] then none else X.out p
theorem L9 (u:Aj) (c:As):u≠u++[c]:=fun e=>by
 have:=congrArg List.length e
 simp at this
theorem Ad.grow_ph1 {X:Ad} (h:X.Ph1) {u:Aj} {c:As} {a b:Addr} (hu:u∈X.D) (hn:u++[c]∉X.D) (hb:∀p∈X.D,X.T p≠b):(X.grow u c a b).Ph1:=by
 have hne:∀p∈X.D,p≠u++[c]:=fun p hp e=>hn (e▸hp)
 have hl0:X.look u c=none:=h.kid0 u hu c hn
 refine ⟨⟨?_,?_,?_,?_,?_,?_,?_,?_,?_⟩,?_,?_,?_,?_⟩
 ·exact List.mem_append_left _ h.wf.root
 ·refine List.nodup_append.mpr ⟨h.wf.nodup,by simp,?_⟩
  intro x hx y hy
  simp at hy;subst hy;exact hne x hx
 ·intro p c' hp
  rcases List.mem_append.mp hp with h1|h1
  ·exact List.mem_append_left _ (h.wf.closed p c' h1)
  ·simp at h1
   refine xa0_2 h1 ?_;(try clear h1);rintro rfl;intro zu
   exact List.mem_append_left _ hu
 ·intro p hp q hq e
  simp only [Ad.grow] at e hp hq
  rcases List.mem_append.mp hp with h1|h1<;>rcases List.mem_append.mp hq with h2|h2
  ·rw [if_neg (hne p h1),if_neg (hne q h2)] at e;exact h.wf.ti p h1 q h2 e
  ·simp at h2;subst h2
   rw [if_neg (hne p h1),if_pos rfl] at e;exact absurd e (hb p h1)
  ·simp at h1;subst h1
   rw [if_neg (hne q h2),if_pos rfl] at e;exact absurd e.symm (hb q h2)
  ·simp at h1 h2;rw [h1,h2]
 ·intro p hp e he
  simp only [Ad.grow] at he hp ⊢
  by_cases e1:p=u++[c]
  ·simp [e1] at he
  ·rw [if_neg e1] at he
   have h1:p∈X.D:=by
    rcases List.mem_append.mp hp with x|x
    ·exact x
    ·simp at x;exact absurd x e1
   by_cases e2:p=u
   ·rw [if_pos e2] at he
    rcases List.mem_append.mp he with x|x
    ·exact List.mem_append_left _ (h.wf.trD u hu e x)
    ·simp at x;subst x;simp
   ·rw [if_neg e2] at he
    exact List.mem_append_left _ (h.wf.trD p h1 e he)
 ·intro p hp
  simp only [Ad.grow] at hp ⊢
  by_cases e1:p=u++[c]
  ·simp [e1]
  ·rw [if_neg e1]
   have h1:p∈X.D:=by
    rcases List.mem_append.mp hp with x|x
    ·exact x
    ·simp at x;exact absurd x e1
   by_cases e2:p=u
   ·rw [if_pos e2,List.map_append]
    refine List.nodup_append.mpr ⟨h.wf.trN u hu,by simp,?_⟩
    intro x hx y hy
    simp at hy;subst hy
    refine xa1_2 (List.mem_map.mp hx) ?_;intro e he;rintro rfl
    exact C1 hl0 e he
   ·rw [if_neg e2];exact h.wf.trN p h1
 ·intro p hp e he
  simp only [Ad.grow] at he hp ⊢
  by_cases e1:p=u++[c]
  ·simp [e1] at he
  ·rw [if_neg e1] at he
   have h1:p∈X.D:=by
    rcases List.mem_append.mp hp with x|x
    ·exact x
    ·simp at x;exact absurd x e1
   by_cases e2:p=u
   ·rw [if_pos e2] at he
    rcases List.mem_append.mp he with x|x
    ·exact h.wf.trL u hu e x
    ·simp at x;subst x;simp
   ·rw [if_neg e2] at he
    exact h.wf.trL p h1 e he
 ·intro p hp
  exact h.wf.mkD p (fun x=>hp (List.mem_append_left _ x))
 ·exact h.wf.mkV
 ·intro p hp c' hm
  simp only [Ad.grow,Ad.look] at hp hm ⊢
  by_cases e1:p=u++[c]
  ·exfalso
   rcases List.mem_append.mp hm with x|x
   ·exact hn (e1▸h.wf.closed _ _ x)
   ·simp [e1] at x
  ·rw [if_neg e1]
   have h1:p∈X.D:=by
    rcases List.mem_append.mp hp with x|x
    ·exact x
    ·simp at x;exact absurd x e1
   by_cases e2:p=u
   ·subst e2
    rw [if_pos rfl,B6]
    by_cases e3:p++[c']∈X.D
    ·have:=h.kid1 p h1 c' e3
     simp only [Ad.look] at this
     rw [this];rfl
    ·have:=h.kid0 p h1 c' e3
     simp only [Ad.look] at this
     rw [this]
     rcases List.mem_append.mp hm with x|x
     ·exact absurd x e3
     ·simp at x;subst x;simp [Bi]
   ·rw [if_neg e2]
    rcases List.mem_append.mp hm with x|x
    ·exact h.kid1 p h1 c' x
    ·simp at x
     exact absurd x.1 e2
 ·intro p hp c' hm
  simp only [Ad.grow,Ad.look] at hp hm ⊢
  by_cases e1:p=u++[c]
  ·rw [if_pos e1];rfl
  ·rw [if_neg e1]
   have h1:p∈X.D:=by
    rcases List.mem_append.mp hp with x|x
    ·exact x
    ·simp at x;exact absurd x e1
   have e3:p++[c']∉X.D:=fun x=>hm (List.mem_append_left _ x)
   have:=h.kid0 p h1 c' e3
   simp only [Ad.look] at this
   by_cases e2:p=u
   ·subst e2
    rw [if_pos rfl,B6,this]
    have:c≠c':=fun e=>hm (by simp [e])
    simp [Bi,this]
   ·rw [if_neg e2,this]
 ·intro p hp
  simp only [Ad.grow] at hp ⊢
  split
  ·rfl
  ·rename_i e1
   rcases List.mem_append.mp hp with x|x
   ·exact h.lss p x
   ·simp at x;exact absurd x e1
 ·intro p hp
  simp only [Ad.grow] at hp ⊢
  split
  ·rfl
  ·rename_i e1
   rcases List.mem_append.mp hp with x|x
   ·exact h.out p x
   ·simp at x;exact absurd x e1
end
section
variable {C:Cf} {A:Around} {E:Value→Shared→Prop}
theorem Au {l:List (Str×AV)} {x:Str} {v:AV}:(Eh l x v).lookup x=some v:=by rw [A9];simp
theorem Ah {l:List (Str×AV)} {x y:Str} {v:AV} {r:Option AV} (h:l.lookup y=r) (hn:y≠x:=by decide):(Eh l x v).lookup y=r:=by rw [A9,if_neg hn];exact h
noncomputable def AT (x:Str):List AV:=x.cps.toList.map fun c=>.str ⟨#[c]⟩
theorem Gn {x:Str} {i:Nat} {y:AV} (h:(AT x)[i]? = some y):∃c,x.cps[i]? = some c∧y=.str ⟨#[c]⟩:=by
 unfold AT at h
 rw [List.getElem?_map,Option.map_eq_some_iff] at h
 refine xa1_2 h ?_;(try clear h);intro c h1 h2
 exact ⟨c,by rw [←h1];simp,h2.symm⟩
theorem Ew (x:Str):(AT x).length=x.cps.size:=by simp [AT]
theorem E5 (x:Str):(strIterType x = "str_ascii_iterator")∨strIterType x = "str_iterator":=by
 unfold strIterType;split<;>simp
theorem K5 {σ:Am} {env:Env} {target:Expr} {x:Str} (hA:A.handled=none):CV C A E env target (.str x) (AT x) (fun zu=>True) σ:=by
 intro F G s v hR hv
 refine xa1_1 hv.strI ?_;intro t;rintro rfl
 refine wpAny_pyIter_strU ?_
 have key:∀c,strIterType x=c→Db.contains c=false→Walks C.prog C.w A s.heap.objs.size [s.heap.objs.size] [s.heap.objs.size] x.cps.size (SignAt x) (fun i h=>h.IsStrIter s.heap.objs.size c x t i) →
   Cg C A F G env σ target (AT x) (fun zu=>True) (.ref s.heap.objs.size) ⟨s.heap.push { cls:=.type (strIterType x),data:=.fields #[.str x t,.int 0 0] },s.gens,s.drawn,s.toks,s.os⟩:=fun c hc hn W=>by
  refine Cg.ofWk (Wk.ofWalks W (Ew x) (fun i y v hy hP=>?_) (fun b hb=>.inl hb) (fun i h st b hb=>?_) c hn fun i h st=>?_) hR ⟨_,Heap.get?_push_size _ rfl,by rw [hc],rfl⟩ (fun b hb=>?_) fun b ob e=>Heap.get?_push_of_some _ e
  ·refine xa1_2 (Gn hy) ?_;intro c hc;rintro rfl
   refine xa2_2 hP ?_;(try clear hP);intro c' u hc';rintro rfl
   rw [hc] at hc';(have zc:=Option.some.inj hc';clear hc';subst zc)
   exact .str _ _
  ·refine xa1_3 st ?_;(try clear st);intro o ho h1 h2
   rw [List.mem_singleton.mp hb]
   exact ⟨o,ho,A0 h2⟩
  ·refine xa1_3 st ?_;(try clear st);intro o ho h1 h2
   exact ⟨o,ho,h1⟩
  ·rw [List.mem_singleton.mp hb];exact Nat.le_refl _
 rcases E5 x with e|e
 ·exact key _ e (by decide) (Walks.strAscii hA _ x t)
 ·exact key _ e (by decide) (Walks.strWide hA _ x t)
theorem LH {σ:Am} {env:Env} {xs:List AV} {Q:AV→Am→Prop} (hz:xs.length≤100000) (h:Q (.int xs.length) σ):Bo C A E env (.val (.builtin "len")) [] [.lst xs] [] σ Q:=by
 refine A4 fun F G s us vs hR hus hvs=>?_
 obtain rfl:us=[]:=by (have zc:=VRs.nilI hus;clear hus;subst zc);rfl
 refine VRs.consC hvs fun zv zw zo q r=>?_;clear hvs;subst zo;(have zc:=VRs.nilI r;clear r;subst zc);refine VR.lstC q fun zs za zw zn zo q1 q2 q3 q4=>?_;clear q;subst zo
 refine PyProof.Rows.len_list ⟨_,hR.wd.fz _ _ q1,q2,_,q3⟩ (by rw [List.size_toArray,q4.length];omega) (Av.of ?_ (hR.tok _) h)
 rw [List.size_toArray,q4.length];exact .int _ _
inductive Bw:AV→List AV→HP→Prop
 |tup {xs hp}:xs.length≤100000→Bw (.tup xs) xs hp
 |list {a xs hp}:xs.length≤100000→hp a=some (.list xs)→Bw (.ref a) xs hp
 |lst {xs hp}:xs.length≤100000→Bw (.lst xs) xs hp
 |str {x hp}:x.length≤100000→Bw (.str x) (AT x) hp
theorem Bw.fr {P P':Addr→Prop} {hp hp':HP} {kw:AV} {xs:List AV} (h:Bw kw xs hp) (sep:∀a,kw=.ref a→¬P a) (f:BO P hp P' hp'):Bw kw xs hp':=by
 cases h with
 |tup h=>exact .tup h
 |lst h=>exact .lst h
 |str h=>exact .str h
 |list h ha=>
  exact .list h (by rw [f.keep _ (by rw [ha];simp) (sep _ rfl)];exact ha)
theorem K6 {env:Env} {target:Expr} {kw:AV} {xs:List AV} {σ:Am} (h:Bw kw xs σ.hp) (ht:BI target) (hA:A.handled=none) :
  CV C A E env target kw xs (fun hp=>Bw kw xs hp) σ:=by
 cases h with
 |tup h=>exact (K4 hA).weak fun zu zu=>trivial
 |lst h=>exact (K7 hA).weak fun zu zu=>trivial
 |str h=>exact (K5 hA).weak fun zu zu=>trivial
 |list h ha=>
  refine (Js ht hA ha).weak ?_
  intro σ' h'
  cases h' with
  |list zu h=>exact h
theorem IE {env:Env} {kw:AV} {xs:List AV} {σ:Am} {Q:AV→Am→Prop} (h:Bw kw xs σ.hp) (q:Q (.int xs.length) σ):Bo C A E env (.val (.builtin "len")) [] [kw] [] σ Q:=by
 cases h with
 |tup h=>exact LG h q
 |lst h=>exact LH h q
 |str h=>exact Kx h (by rw [Ew] at q;exact q)
 |list h ha=>exact Jp ha h q
noncomputable def GM (X:Ad) (w:Aj) (kw:AV) (t d:Addr) (ci:Bool) (hp hp':HP):Prop:=
 ∃X':Ad,X'.Ph1∧AJ X' t d false ci hp'∧BO (Fp X t d) hp (Fp X' t d) hp'∧(∀p,p∈X'.D↔p∈X.D∨p <+: w) ∧
  (∀p,X'.key p=if w≠[]∧p=w then some kw else X.key p)∧X'.D.length≤X.D.length+w.length∧X'.A []=X.A []
theorem K9 {X:Ad} {t d:Addr} {ci:Bool} {hp hp':HP} (h:X.Ph1) (hr:AJ X t d false ci hp) {u:Aj} {c:As} (hu:u∈X.D) (hn:u++[c]∉X.D) {a b:Addr} (ha:hp a=none) (hb:hp b=none) (hab:b≠a)
  (h1:hp' a=some (DM X.D.length .none .none none (.ref (X.A u)) false c.av b)) (h2:hp' b=some (.dict [] 0))
  (h3:hp' d=some (.ns (Eg (X.A []) (X.D.length+1) false ci))) (h4:∃ep,hp' (X.T u)=some (.dict (X.trv u++[(c,.ref a)]) ep))
  (h5:∀x,x≠a→x≠b→x≠d→x≠X.T u→hp' x=hp x) :
  (X.grow u c a b).Ph1∧AJ (X.grow u c a b) t d false ci hp'∧BO (Fp X t d) hp (Fp (X.grow u c a b) t d) hp':=by
 have hne:∀p∈X.D,p≠u++[c]:=fun p hp e=>hn (e▸hp)
 have hAa:∀p∈X.D,X.A p≠a:=fun p h e=>by rw [←e,hr.nd p h] at ha;exact Ao ha
 have hAb:∀p∈X.D,X.A p≠b:=fun p h e=>by rw [←e,hr.nd p h] at hb;exact Ao hb
 have hTa:∀p∈X.D,X.T p≠a:=fun p h e=>by refine xa1_1 (hr.td p h) ?_;intro ep x;rw [←e,x] at ha;exact Ao ha
 have hTb:∀p∈X.D,X.T p≠b:=fun p h e=>by refine xa1_1 (hr.td p h) ?_;intro ep x;rw [←e,x] at hb;exact Ao hb
 have hdl:∀p∈X.D,p.dropLast∈X.D:=fun p hp=>by
  rcases List.eq_nil_or_concat p with rfl|⟨q,e,rfl⟩
  ·exact hp
  ·simp only [List.concat_eq_append,List.dropLast_concat] at hp ⊢;exact h.wf.closed q e hp
 have hA:∀p∈X.D,(X.grow u c a b).A p=X.A p:=fun p hp=>if_neg (hne p hp)
 have hT:∀p∈X.D,(X.grow u c a b).T p=X.T p:=fun p hp=>if_neg (hne p hp)
 have hnd:∀p∈X.D,(X.grow u c a b).nodeAO p=X.nodeAO p:=fun p hp=>by
  have e1:(X.grow u c a b).D.idxOf p=X.D.idxOf p:=by
   simp only [Ad.grow];rw [List.idxOf_append,if_pos hp]
  have e2:(X.grow u c a b).lssv p=X.lssv p:=by
   have:(X.grow u c a b).lss p=X.lss p:=if_neg (hne p hp)
   simp only [Ad.lssv,this,h.lss p hp]
  have e3:(X.grow u c a b).parv p=X.parv p:=by
   simp only [Ad.parv]
   rw [hA _ (hdl p hp)]
  have e4:(X.grow u c a b).out p=X.out p:=if_neg (hne p hp)
  simp only [Ad.nodeAO,e1,e2,e3,e4,hT p hp]
  rfl
 have htr:∀p∈X.D,p≠u→(X.grow u c a b).trv p=X.trv p:=fun p hp hpu=>by
  have:(X.grow u c a b).tr p=X.tr p:=by simp only [Ad.grow];rw [if_neg (hne p hp),if_neg hpu]
  simp only [Ad.trv,this]
  exact List.map_congr_left (fun e he=>by rw [hA _ (h.wf.trD p hp e he)])
 refine ⟨Ad.grow_ph1 h hu hn hTb,⟨?_,?_,?_,?_⟩,⟨?_,?_⟩⟩
 ·rw [h5 t]
  ·exact hr.tree
  ·rintro rfl;rw [hr.tree] at ha;exact Ao ha
  ·rintro rfl;rw [hr.tree] at hb;exact Ao hb
  ·exact (Ad.Wf.dist hr hu hu).2.2.2.2.2
  ·exact (Ad.Wf.dist hr hu hu).2.2.2.1.symm
 ·rw [h3,hA _ h.wf.root]
  simp only [Ad.grow,List.length_append,List.length_singleton]
  rfl
 ·intro p hp
  rcases List.mem_append.mp hp with hp|hp
  ·rw [hA p hp,hnd p hp,h5 _ (hAa p hp) (hAb p hp) (Ad.Wf.dist hr hp hp).2.2.1 (Ad.Wf.dist hr hp hu).1]
   exact hr.nd p hp
  ·simp at hp;subst hp
   have e0:(X.grow u c a b).A (u++[c])=a:=if_pos rfl
   rw [e0,h1]
   have e1:(X.grow u c a b).D.idxOf (u++[c])=X.D.length:=by
    simp only [Ad.grow];rw [List.idxOf_append,if_neg hn];simp
   have e2:(X.grow u c a b).lssv (u++[c])=.none:=by
    have:(X.grow u c a b).lss (u++[c])=none:=if_pos rfl
    simp only [Ad.lssv,this]
   have e3:(X.grow u c a b).parv (u++[c])=.ref (X.A u):=by
    simp only [Ad.parv]
    rw [if_neg (by simp),List.dropLast_concat,hA u hu]
   have e4:(X.grow u c a b).out (u++[c])=none:=if_pos rfl
   have e5:(X.grow u c a b).T (u++[c])=b:=if_pos rfl
   have e6:(X.grow u c a b).key (u++[c])=none:=h.wf.mkD _ hn
   simp only [Ad.nodeAO,e1,e2,e3,e4,e5,e6,EU,List.getLast?_concat]
   rfl
 ·intro p hp
  rcases List.mem_append.mp hp with hp|hp
  ·rw [hT p hp]
   by_cases e:p=u
   ·subst e
    refine xa1_1 h4 ?_;(try clear h4);intro ep x
    refine ⟨ep,?_⟩
    rw [x]
    have:(X.grow p c a b).tr p=X.tr p++[(c,p++[c])]:=by simp only [Ad.grow];rw [if_neg (L9 p c)];simp
    simp only [Ad.trv,this,List.map_append]
    have e0:(X.grow p c a b).A (p++[c])=a:=if_pos rfl
    have:(X.tr p).map (fun e=>(e.1,AV.ref ((X.grow p c a b).A e.2)))=(X.tr p).map (fun e=>(e.1,AV.ref (X.A e.2))):=
     List.map_congr_left (fun e he=>by rw [hA _ (h.wf.trD p hu e he)])
    rw [this]
    simp only [List.map_cons,List.map_nil,e0]
   ·refine xa1_1 (hr.td p hp) ?_;intro ep x
    refine ⟨ep,?_⟩
    rw [htr p hp e,h5 _ (hTa p hp) (hTb p hp) (Ad.Wf.dist hr hp hp).2.2.2.2.1 (fun q=>e (h.wf.ti p hp u hu q))]
    exact x
  ·simp at hp;subst hp
   have e5:(X.grow u c a b).T (u++[c])=b:=if_pos rfl
   have:(X.grow u c a b).tr (u++[c])=[]:=if_pos rfl
   refine ⟨0,?_⟩
   rw [e5,h2];simp only [Ad.trv,this];rfl
 ·intro x hx hP
  refine h5 x ?_ ?_ ?_ ?_
  ·rintro rfl;exact hx ha
  ·rintro rfl;exact hx hb
  ·rintro rfl;exact hP (.inr (.inl rfl))
  ·rintro rfl;exact hP (.inr (.inr ⟨u,hu,.inr rfl⟩))
 ·rintro x (rfl|rfl|⟨p,hp,e⟩)
  ·exact .inl (.inl rfl)
  ·exact .inl (.inr (.inl rfl))
  ·rcases List.mem_append.mp hp with hp|hp
   ·rw [hA p hp,hT p hp] at e
    exact .inl (.inr (.inr ⟨p,hp,e⟩))
   ·simp at hp;subst hp
    have e0:(X.grow u c a b).A (u++[c])=a:=if_pos rfl
    have e5:(X.grow u c a b).T (u++[c])=b:=if_pos rfl
    rw [e0,e5] at e
    rcases e with rfl|rfl
    ·exact .inr ha
    ·exact .inr hb
noncomputable def Ad.setKey (X:Ad) (w:Aj) (kw:AV):Ad:={ X with key:=fun p=>if p=w then some kw else X.key p }
theorem HH {X:Ad} {t d:Addr} {ci:Bool} {hp:HP} (h:X.Ph1) (hr:AJ X t d false ci hp) {w:Aj} (hw:w∈X.D) {kw:AV} (hk:∀u,kw≠.val u) :
  (X.setKey w kw).Ph1∧AJ (X.setKey w kw) t d false ci (upd hp (X.A w) ((X.setKey w kw).nodeAO w)):=by
 refine ⟨⟨⟨h.wf.root,h.wf.nodup,h.wf.closed,h.wf.ti,h.wf.trD,h.wf.trN,h.wf.trL,?_,?_⟩,h.kid1,h.kid0,h.lss,h.out⟩,⟨?_,?_,?_,?_⟩⟩
 ·intro p hp
  simp only [Ad.setKey] at hp ⊢
  rw [if_neg (by rintro rfl;exact hp hw)];exact h.wf.mkD p hp
 ·intro p v hv
  simp only [Ad.setKey] at hv
  split at hv
  ·(have zc:=Option.some.inj hv;clear hv;subst zc);exact hk
  ·exact h.wf.mkV p v hv
 ·rw [Ac _ _ (Ad.Wf.dist hr hw hw).2.1.symm];exact hr.tree
 ·rw [Ac _ _ (Ad.Wf.dist hr hw hw).2.2.1.symm];exact hr.ns
 ·intro p hp
  by_cases e:p=w
  ·subst e;exact Ae _ _ _
  ·have:(X.setKey w kw).nodeAO p=X.nodeAO p:=by
    have:(X.setKey w kw).key p=X.key p:=if_neg e
    simp only [Ad.nodeAO,this];rfl
   rw [this]
   exact (Ac _ _ (fun q=>e (hr.ai hp hw q))).trans (hr.nd p hp)
 ·intro p hp
  refine xa1_1 (hr.td p hp) ?_;intro ep x
  exact ⟨ep,(Ac _ _ (Ad.Wf.dist hr hw hp).1.symm).trans x⟩
end
section
theorem EP.trans {a b c:Obj} (h:EP a b) (k:EP b c):EP a c:=by
 rcases h with rfl|⟨⟨es,ep,e⟩,sl,rfl⟩
 ·exact k
 ·rcases k with rfl|⟨zu,sl',rfl⟩
  ·exact .inr ⟨⟨es,ep,e⟩,sl,rfl⟩
  ·exact .inr ⟨⟨es,ep,e⟩,sl',rfl⟩
theorem EJ (h:Heap):h.get? h.objs.size=none:=by
 cases q:h.get? h.objs.size with
 |none=>rfl
 |some o=>exact absurd (Heap.lt_size q) (Nat.lt_irrefl _)
noncomputable def Oe (hp:HP) (F:FH) (h:Heap) (e:Env):Prop:=e.scope.kind≠.module∧∃L,e.frame=some L∧F L=none∧hp L=none∧∃o,h.get? L=some o∧∃es ep,o.data=.dict es ep
structure Wp (C:Cf) (A:Around) (hp:HP) (F:FH) (s:Shared):Prop where
 base:∀b o,C.h0.get? b=some o→F b=some o
 fz:∀b o,F b=some o→s.heap.get? b=some o
 ob:∀a x,hp a=some x→F a=none∧∃o,s.heap.get? a=some o∧OR C F s.gens x o
 os:s.os=C.os
 bare:AllBare s.gens
 gi:∀a b g gs gs',hp a=some (.gen g gs)→hp b=some (.gen g gs')→a=b
 fr:∃l,A.frames=some l∧∀e∈l,Oe hp F s.heap e
section
variable {C:Cf} {A:Around} {hp:HP} {s s':Shared} {env:Env} {F F':FH}
theorem Wp.old (w:Wp C A hp F s):∀b o,C.h0.get? b=some o→s.heap.get? b=some o:=fun b o e=>w.fz _ _ (w.base _ _ e)
theorem Wp.dead (w:Wp C A hp F s) {a:Addr} (hn:s.heap.get? a=none):F a=none∧hp a=none:=by
 refine ⟨?_,?_⟩
 ·cases q:F a with
  |none=>rfl
  |some o'=>have:=w.fz _ _ q;rw [hn] at this;exact Ak this
 ·cases q:hp a with
  |none=>rfl
  |some x=>refine cps fun zP zk=>?_;(rcases w.ob _ _ q with ⟨zu,o,h,zu⟩)<;>(refine zk ?_;clear zk zP);rw [hn] at h;exact Ak h
theorem Wp.turn (w:Wp C A hp F s) {h':Heap} {t:Nat} {X:Addr→Prop} (e:A6 F F') (hi:∀b o,F' b=some o→h'.get? b=some o) (hX:∀b x,X b→hp b≠some x) (hfr:∀b o,s.heap.get? b=some o→F b=none→F' b=none)
  (hf:∀l,A.frames=some l→∀e∈l,∀L,e.frame=some L→¬X L) (k:∀b o,¬X b→s.heap.get? b=some o→h'.get? b=some o):Wp C A hp F' ⟨h',s.gens,s.drawn,t,s.os⟩:=
 ⟨fun b o q=>e _ _ (w.base b o q),hi,fun a x q=>let ⟨p,o,ho,r⟩:=w.ob a x q;⟨hfr _ _ ho p,o,k _ _ (fun z=>hX a x z q) ho,r.mono e⟩,w.os,w.bare,w.gi,
  let ⟨l,a,b⟩:=w.fr;⟨l,a,fun y hy=>let ⟨p,L,q1,q2,q3,o,q4,q5⟩:=b y hy;⟨p,L,q1,hfr _ _ q4 q2,q3,o,k _ _ (hf l a y hy L q1) q4,q5⟩⟩⟩
theorem Wp.frOff (w:Wp C A hp F s) {X:Addr→Prop} (hX:∀b,X b→s.heap.get? b=none):∀l,A.frames=some l→∀e∈l,∀L,e.frame=some L→¬X L:=fun l hl e he L hL hx=>by
 refine xa1_2 w.fr ?_;intro l' a b
 rw [hl] at a;(have zc:=Option.some.inj a;clear a;subst zc)
 refine cps fun zP zk=>?_;(rcases b e he with ⟨zu,L',q1,zu,zu,o,q4,zu⟩)<;>(refine zk ?_;clear zk zP)
 rw [hL] at q1;(have zc:=Option.some.inj q1;clear q1;subst zc)
 rw [hX L hx] at q4;exact Ak q4
noncomputable abbrev PV:=AV×Bool
inductive BB (hp:HP) (F:FH):PV→Value→Prop
 |val {a v} (r:VR F a v):BB hp F (a,false) v
 |own {xs a} (ho:hp a=some (.list xs)):BB hp F (.lst xs,true) (.ref a)
theorem BB.out {a:AV} {v:Value} (r:BB hp F (a,false) v):VR F a v:=by
 cases r with|val r=>exact r
theorem BB.mono {pv:PV} {v:Value} (r:BB hp F pv v) (e:A6 F F'):BB hp F' pv v:=by
 cases r with
 |val r=>exact .val (r.mono e)
 |own ho=>exact .own ho
inductive Dm (hp:HP) (F:FH):List PV→List Value→Prop
 |nil:Dm hp F [] []
 |cons {x xs v vs} (a:BB hp F x v) (b:Dm hp F xs vs):Dm hp F (x::xs) (v::vs)
structure BD (C:Cf) (A:Around) (hp:HP) (F:FH) (s:Shared) (F':FH) (s':Shared):Prop where
 w:Wp C A hp F s
 w':Wp C A hp F' s'
 e:A6 F F'
 kg:∀b o,s.heap.get? b=some o→hp b=none→∃o',s'.heap.get? b=some o'∧EP o o'
 new:∀b o,F' b=some o→F b=some o∨s.heap.get? b=none
theorem BD.live (st:BD C A hp F s F' s') {b:Addr} {o:Obj} (h:s.heap.get? b=some o):∃o',s'.heap.get? b=some o':=by
 cases q:hp b with
 |none=>refine xa1_2 (st.kg b o h q) ?_;intro o' h zu;exact ⟨o',h⟩
 |some x=>refine cps fun zP zk=>?_;(rcases st.w'.ob b x q with ⟨zu,o',h,zu⟩)<;>(refine zk ?_;clear zk zP);exact ⟨o',h⟩
theorem BD.dead (st:BD C A hp F s F' s') {b:Addr} (h:s'.heap.get? b=none):s.heap.get? b=none:=by
 cases q:s.heap.get? b with
 |none=>rfl
 |some o=>refine xa1_1 (st.live q) ?_;intro o' z;rw [h] at z;exact Ak z
theorem BD.k (st:BD C A hp F s F' s') {b:Addr} {o:Obj} (h:s.heap.get? b=some o) (hb:hp b=none) (hd:∀es ep,o.data≠.dict es ep):s'.heap.get? b=some o:=by
 refine xa1_2 (st.kg b o h hb) ?_;intro o' h g
 rw [h,g.exact hd]
theorem BD.trans {F₁ F₂:FH} {s₁ s₂:Shared} (a:BD C A hp F s F₁ s₁) (b:BD C A hp F₁ s₁ F₂ s₂):BD C A hp F s F₂ s₂:=by
 refine ⟨a.w,b.w',a.e.trans b.e,fun x o e q=>?_,fun x o e=>?_⟩
 ·refine xa1_2 (a.kg x o e q) ?_;intro o' h g
  refine xa1_2 (b.kg x o' h q) ?_;intro o2 h g2
  exact ⟨o2,h,g.trans g2⟩
 ·rcases b.new x o e with q|q
  ·exact a.new x o q
  ·exact .inr (a.dead q)
theorem BD.mk' (w:Wp C A hp F s) {h':Heap} {t:Nat} (e:A6 F F') (k:∀b o,s.heap.get? b=some o→h'.get? b=some o) (new:∀b o,F' b=some o→F b=some o∨s.heap.get? b=none) (inn:∀b o,F' b=some o→h'.get? b=some o):BD C A hp F s F' ⟨h',s.gens,s.drawn,t,s.os⟩:=
 ⟨w,w.turn (X:=fun zu=>False) e inn (fun zu zu z=>z.elim) (fun b o ho hb=>by
  cases q:F' b with
  |none=>rfl
  |some o'=>
   rcases new b o' q with z|z
   ·rw [hb] at z;exact Ak z
   ·rw [ho] at z;exact Ao z) (fun zu zu zu zu zu zu=>id) (fun b o zu=>k b o),e,fun b o h zu=>⟨o,k _ _ h,.inl rfl⟩,new⟩
theorem BD.keep (w:Wp C A hp F s) {h':Heap} {t:Nat} (k:∀b o,s.heap.get? b=some o→h'.get? b=some o):BD C A hp F s F ⟨h',s.gens,s.drawn,t,s.os⟩:=
 .mk' w (A6.refl F) k (fun zu zu e=>.inl e) (fun b o e=>k _ _ (w.fz _ _ e))
theorem BD.refl (w:Wp C A hp F s):BD C A hp F s F s:=⟨w,w,A6.refl F,fun zu o h zu=>⟨o,h,.inl rfl⟩,fun zu zu e=>.inl e⟩
theorem BD.put (w:Wp C A hp F s) {h':Heap} {t:Nat} {a:Addr} {o:Obj} (k:∀b o,s.heap.get? b=some o→h'.get? b=some o) (ho:h'.get? a=some o) (hn:s.heap.get? a=none):BD C A hp F s (AR F a o) ⟨h',s.gens,s.drawn,t,s.os⟩:=by
 refine .mk' w (AQ o (w.dead hn).1) k (fun b o' e=>?_) (fun b o' e=>?_)
 ·by_cases q:b=a
  ·exact .inr (q▸hn)
  ·rw [Az _ _ q] at e;exact .inl e
 ·by_cases q:b=a
  ·subst q;rw [Ar] at e;(have zc:=Option.some.inj e;clear e;subst zc);exact ho
  ·rw [Az _ _ q] at e;exact k _ _ (w.fz _ _ e)
theorem BD.push (w:Wp C A hp F s) {t:Nat} {o:Obj} (hf:o.isFreed=false):BD C A hp F s (AR F s.heap.objs.size o) ⟨s.heap.push o,s.gens,s.drawn,t,s.os⟩:=
 .put w (fun zu zu e=>Heap.get?_push_of_some _ e) (Heap.get?_push_size _ hf) (EJ _)
theorem BB.step {pv:PV} {v:Value} (r:BB hp F pv v) (st:BD C A hp F s F' s'):BB hp F' pv v:=r.mono st.e
theorem Ns.geq {h h':Heap} {L:Addr} {m:Str→Option Value} (n:h.Ns L m) (k:∀o,h.get? L=some o→∃o',h'.get? L=some o'∧EP o o'):h'.Ns L m:=by
 refine xa3_3 n ?_;(try clear n);intro o es ep ho hd r
 refine xa1_2 (k o ho) ?_;intro o' ho' g
 exact ⟨o',es,ep,ho',g.data.trans hd,r⟩
inductive Lp (hp:HP) (h:Heap) (env:Env) (x:Str) (v:Value):Prop
 |loc {m} (hk:env.kindOf x=some .local) (hn:h.Ns env.locals m) (e:m x=some v) (ho:hp env.locals=none)
 |cell {c} (hk:env.kindOf x=some .cell) (hc:env.cells.lookup x=some c) (hi:h.IsCell c (some v)) (ho:hp c=none)
 |free {c} (hk:env.kindOf x=some .free) (hc:env.cells.lookup x=some c) (hi:h.IsCell c (some v)) (ho:hp c=none)
theorem Lp.step {x:Str} {v:Value} (n:Lp hp s.heap env x v) (st:BD C A hp F s F' s'):Lp hp s'.heap env x v:=by
 cases n with
 |loc hk hn e ho=>exact .loc hk (Ns.geq hn fun o h=>st.kg _ o h ho) e ho
 |cell hk hc hi ho=>refine xa1_2 hi ?_;(try clear hi);intro o h r;exact .cell hk hc ⟨o,st.k h ho (fun es ep q=>by rw [r] at q;cases q),r⟩ ho
 |free hk hc hi ho=>refine xa1_2 hi ?_;(try clear hi);intro o h r;exact .free hk hc ⟨o,st.k h ho (fun es ep q=>by rw [r] at q;cases q),r⟩ ho
noncomputable abbrev PL:=List (Str×PV)
structure CC (C:Cf) (A:Around) (hp:HP) (F:FH) (s:Shared) (env:Env) (loc:PL):Prop where
 wp:Wp C A hp F s
 kind:env.scope.kind=.function
 glob:env.globals=mainGlobals∧env.builtins=builtinsNs
 cells:∀x,env.kindOf x=some .cell→(env.cells.lookup x).isSome=true
 nm:∀x pv,loc.lookup x=some pv→∃v,BB hp F pv v∧Lp hp s.heap env x v
theorem CC.step {loc:PL} (c:CC C A hp F s env loc) (st:BD C A hp F s F' s'):CC C A hp F' s' env loc:=
 ⟨st.w',c.kind,c.glob,c.cells,fun x pv e=>let ⟨v,a,b⟩:=c.nm x pv e;⟨v,a.step st,b.step st⟩⟩
inductive BA {α:Type} (C:Cf) (A:Around) (hp:HP) (F:FH) (s:Shared) (R:FH→α→Prop) (v:α) (s':Shared):Prop
 |mk (F':FH) (st:BD C A hp F s F' s') (r:R F' v)
theorem BA.pre {α:Type} {R:FH→α→Prop} {v:α} {F₁:FH} {s₁:Shared} (st:BD C A hp F s F₁ s₁) (q:BA C A hp F₁ s₁ R v s'):BA C A hp F s R v s':=by
 refine cps fun zP zk=>?_;(rcases q with ⟨F',st',r⟩)<;>(refine zk ?_;clear zk zP)
 exact ⟨F',st.trans st',r⟩
structure PT {α β:Type} (C:Cf) (A:Around) (hp:HP) (env:Env) (loc:PL) (R:FH→β→α→Prop) (t:Sem α) (b:β):Prop where
 go:∀F s (E:Value→Shared→Prop),CC C A hp F s env loc→wpAny (model C.prog C.w) A t (BA C A hp F s fun F' v=>R F' b v) E s
theorem PT.use {α β:Type} {loc:PL} {R:FH→β→α→Prop} {t:Sem α} {b:β} (h:PT C A hp env loc R t b) (c:CC C A hp F s env loc) {E:Value→Shared→Prop} {P:α→Shared→Prop}
  (k:∀F' s' v,BD C A hp F s F' s'→CC C A hp F' s' env loc→R F' b v→P v s'):wpAny (model C.prog C.w) A t P E s:=
 wpAny_mono (h.go F s E c) (fun v s' ⟨F',st,r⟩=>k F' s' v st (c.step st) r) fun zu zu x=>x
noncomputable abbrev PE (C:Cf) (A:Around) (hp:HP) (env:Env) (loc:PL) (e:Expr) (pv:PV):Prop:=PT C A hp env loc (BB hp) (eval e env) pv
noncomputable abbrev PB (C:Cf) (A:Around) (hp:HP) (env:Env) (loc:PL) (e:Expr) (b:Bool):Prop:=PT C A hp env loc (fun zu b b'=>b=b') (isTrue e env (eval e env)) b
noncomputable def NG {α β:Type} (C:Cf) (A:Around) (hp:HP) (R:FH→β→α→Prop) (f:Value→Sem α) (x:PV) (b:β):Prop:=
 ∀F s (E:Value→Shared→Prop) v,Wp C A hp F s→BB hp F x v→wpAny (model C.prog C.w) A (f v) (BA C A hp F s fun F' v=>R F' b v) E s
noncomputable def Gq {α β:Type} (C:Cf) (A:Around) (hp:HP) (R:FH→β→α→Prop) (f:Value→Value→Sem α) (x y:PV) (b:β):Prop:=
 ∀F s (E:Value→Shared→Prop) v u,Wp C A hp F s→BB hp F x v→BB hp F y u→wpAny (model C.prog C.w) A (f v u) (BA C A hp F s fun F' v=>R F' b v) E s
section
variable {loc:PL}
theorem BA.here {α:Type} {R:FH→α→Prop} {v:α} (w:Wp C A hp F s) {t:Nat} (r:R F v):BA C A hp F s R v { s with toks:=t }:=⟨F,.keep (t:=t) w fun zu zu e=>e,r⟩
theorem LY {k pos}:PE C A hp env loc (.Constant .none k pos) (.none,false):=.mk fun F s E c=>wpAny_pure (BA.here (t:=s.toks) c.wp (.val .none))
theorem Aq {i k pos}:PE C A hp env loc (.Constant (.int i) k pos) (.int i,false):=.mk fun F s E c=>wpAny_Constant_int (BA.here c.wp (.val (.int i _)))
theorem Fz {x k pos}:PE C A hp env loc (.Constant (.str x) k pos) (.str x,false):=.mk fun F s E c=>wpAny_mkText (BA.here c.wp (.val (.str x _)))
theorem Af {x pos pv} (h:loc.lookup x=some pv) (hd:(x == ("__debug__" : Str))=false:=by decide) (hn:(x == ("__classdict__" : Str))=false:=by decide):PE C A hp env loc (.Name x pos) pv:=.mk fun F s E c=>by
 refine xa1_2 (c.nm x pv h) ?_;intro v r n
 have q:BA C A hp F s (fun F' v=>BB hp F' pv v) v s:=BA.here (t:=s.toks) c.wp r
 refine wpAny_Name ?_ hd
 cases n with
 |loc hk hn e zu=>exact wpAny_loadName_local c.kind hk hn e q
 |cell hk hc hi zu=>exact wpAny_loadName_cell c.kind hk hc hi q
 |free hk hc hi zu=>exact wpAny_loadName_free c.kind hk hc hi q hn
theorem A2 {l r:Expr} {op:Operator} {pos:Pos} {a b x:PV} (h1:PE C A hp env loc l a) (h2:PE C A hp env loc r b) (h:Gq C A hp (BB hp) (binaryOp op) a b x):PE C A hp env loc (.BinOp l op r pos) x:=.mk fun F s E c=>
 wpAny_BinOp (h1.use c fun F₁ s₁ v₁ st₁ c₁ r₁=>h2.use c₁ fun F₂ s₂ v₂ st₂ c₂ r₂=>wpAny_mono (h F₂ s₂ E v₁ v₂ c₂.wp (r₁.step st₂) r₂) (fun zu zu q=>q.pre (st₁.trans st₂)) fun zu zu x=>x)
theorem Lm {l r:Expr} {op:CmpOp} {pos:Pos} {a b x:PV} (h1:PE C A hp env loc l a) (h2:PE C A hp env loc r b) (h:Gq C A hp (BB hp) (compareOp op) a b x) (hm:behindInMarks op r=false:=by with_unfolding_all rfl):PE C A hp env loc (.Compare l [op] [r] pos) x:=.mk fun F s E c=>
 wpAny_Compare1 (h1.use c fun F₁ s₁ v₁ st₁ c₁ r₁=>h2.use c₁ fun F₂ s₂ v₂ st₂ c₂ r₂=>wpAny_mono (h F₂ s₂ E v₁ v₂ c₂.wp (r₁.step st₂) r₂) (fun zu zu q=>q.pre (st₁.trans st₂)) fun zu zu x=>x) hm
theorem C6 {l r:Expr} {op:CmpOp} {pos:Pos} {a b:PV} {x:Bool} (h1:PE C A hp env loc l a) (h2:PE C A hp env loc r b) (h:Gq C A hp (BB hp) (compareOp op) a b (.bool x,false)) (hm:behindInMarks op r=false:=by with_unfolding_all rfl):PB C A hp env loc (.Compare l [op] [r] pos) x:=.mk fun F s E c=>
 wpAny_isTrue_Compare1 (h1.use c fun F₁ s₁ v₁ st₁ c₁ r₁=>h2.use c₁ fun F₂ s₂ v₂ st₂ c₂ r₂=>wpAny_mono (h F₂ s₂ E v₁ v₂ c₂.wp (r₁.step st₂) r₂) (fun v s₃ q=>by
  refine cps fun zP zk=>?_;(rcases q with ⟨F₃,st₃,r₃⟩)<;>(refine zk ?_;clear zk zP)
  obtain rfl:=r₃.out.boolI
  exact wpAny_truthy_bool ⟨F₃,(st₁.trans st₂).trans st₃,rfl⟩) fun zu zu x=>x) hm
theorem Cj {value slice:Expr} {pos:Pos} {a b x:PV} (h1:PE C A hp env loc value a) (h2:PE C A hp env loc slice b) (h:Gq C A hp (BB hp) (subscriptTail value slice) a b x):PE C A hp env loc (.Subscript value slice pos) x:=.mk fun F s E c=>
 Subscript_ (h1.use c fun F₁ s₁ v₁ st₁ c₁ r₁=>h2.use c₁ fun F₂ s₂ v₂ st₂ c₂ r₂=>wpAny_mono (h F₂ s₂ E v₁ v₂ c₂.wp (r₁.step st₂) r₂) (fun zu zu q=>q.pre (st₁.trans st₂)) fun zu zu x=>x)
theorem Lo {x y:Expr} {pos:Pos} {a b:Bool} (h1:PB C A hp env loc x a) (h2:a=true→PB C A hp env loc y b) (hb:a=false→b=false:=by intro h;first|rfl|cases h):PB C A hp env loc (.BoolOp .And [x,y] pos) b:=.mk fun F s E c=>by
 show wpAny _ _ (do match BoolOp.And,←isTrue x env (eval x env) with|.And,false=>pure false|.Or,true=>pure true|_,_=>(do match BoolOp.And,←isTrue y env (eval y env) with|.And,false=>pure false|.Or,true=>pure true|_,_=>pure (BoolOp.And == BoolOp.And))) _ _ _
 refine wpAny_bind (h1.use c fun F₁ s₁ v st c₁ r=>?_)
 subst r
 cases a with
 |false=>exact wpAny_pure ⟨F₁,st,hb rfl⟩
 |true=>
  refine wpAny_bind ((h2 rfl).use c₁ fun F₂ s₂ v st₂ c₂ r=>?_)
  subst r
  cases b<;>exact wpAny_pure ⟨F₂,st.trans st₂,rfl⟩
theorem H6 {x:Expr} {pv:PV} {b:Bool} (h:PE C A hp env loc x pv) (ht:NG C A hp (fun zu b b'=>b=b') truthy pv b) (hpl:Ej x=true:=by rfl):PB C A hp env loc x b:=.mk fun F s E c=>by
 rw [DS hpl]
 exact wpAny_bind (h.use c fun F₁ s₁ v st c₁ r=>wpAny_bind (wpAny_standAt (wpAny_holding (wpAny_mono (ht F₁ s₁ E v c₁.wp r) (fun zu zu q=>q.pre st) fun zu zu x=>x))))
theorem Mw {t b o:Expr} {pos:Pos} {q:Bool} {pv:PV} (h:PB C A hp env loc t q) (h1:q=true→PE C A hp env loc b pv) (h2:q=false→PE C A hp env loc o pv):PE C A hp env loc (.IfExp t b o pos) pv:=.mk fun F s E c=>by
 show wpAny _ _ (do if ←isTrue t env (eval t env) then eval b env else eval o env) _ _ _
 refine wpAny_bind (h.use c fun F₁ s₁ v st c₁ r=>?_)
 subst r
 cases q with
 |true=>exact wpAny_mono ((h1 rfl).go F₁ s₁ E c₁) (fun zu zu q=>q.pre st) fun zu zu x=>x
 |false=>exact wpAny_mono ((h2 rfl).go F₁ s₁ E c₁) (fun zu zu q=>q.pre st) fun zu zu x=>x
noncomputable abbrev NH (C:Cf) (A:Around) (hp:HP) (env:Env) (loc:PL) (es:List (Bool×Sem Value)) (pvs:List PV):Prop:=PT C A hp env loc (Dm hp) (spliced es) pvs
theorem LX:NH C A hp env loc [] []:=.mk fun F s E c=>wpAny_pure (BA.here (t:=s.toks) c.wp .nil)
theorem Lj {t:Sem Value} {r:List (Bool×Sem Value)} {x:PV} {xs:List PV} (h:PT C A hp env loc (BB hp) t x) (h2:NH C A hp env loc r xs):NH C A hp env loc ((false,t)::r) (x::xs):=.mk fun F s E c=>by
 show wpAny _ _ (do let v ←t;let here ←pure [v];return here++(←holding here (spliced r))) _ _ _
 exact wpAny_bind (h.use c fun F₁ s₁ v st c₁ r₁=>wpAny_bind (wpAny_pure (wpAny_bind (wpAny_holding (h2.use c₁ fun F₂ s₂ vs st₂ c₂ r₂=>wpAny_pure ⟨F₂,st.trans st₂,.cons (r₁.step st₂) r₂⟩)))))
noncomputable abbrev AN (env:Env) (es:List Expr):List (Bool×Sem Value):=es.map fun e=>(false,eval e env)
theorem C5 (env:Env):∀es,(AN env es).all (!·.1)=true
 |[]=>rfl
 |_::es=>C5 env es
inductive H9 (C:Cf) (A:Around) (hp:HP) (env:Env) (loc:PL):List Expr→List PV→Prop
 |nil:H9 C A hp env loc [] []
 |cons {e es x xs} (h:PE C A hp env loc e x) (k:H9 C A hp env loc es xs):H9 C A hp env loc (e::es) (x::xs)
theorem H9.pes {es:List Expr} {xs:List PV} (h:H9 C A hp env loc es xs):NH C A hp env loc (AN env es) xs:=by
 induction h with
 |nil=>exact LX
 |cons h zu ih=>exact Lj h ih
end
end
end
section
section
variable {C:Cf} {A:Around} {hp:HP} {s s':Shared} {env:Env} {F F':FH} {E:Value→Shared→Prop}
theorem DR {α:Type}:∀{l:List (Str×α)} {x:Str} {v:α},l.lookup x=some v→(x,v)∈l
 |[],_,_,h=>by exact Ak h
 |(y,u)::l,x,v,h=>by
  simp only [List.lookup] at h
  split at h
  ·rename_i q;(have zc:=Option.some.inj h;clear h;subst zc);rw [beq_iff_eq.mp q];exact List.mem_cons_self ..
  ·exact List.mem_cons_of_mem _ (DR h)
theorem G5 {α:Type}:∀(l m:List (Str×α)) (x:Str),(l++m).lookup x=(l.lookup x).or (m.lookup x)
 |[],m,x=>by simp
 |(y,u)::l,m,x=>by
  simp only [List.cons_append,List.lookup]
  split
  ·simp
  ·exact G5 l m x
noncomputable def BS (env:Env):List (Str×NameKind)→List (Str×Addr)→List (Str×Addr)
 |[],acc=>acc
 |(n,k)::r,acc=>if k == .free then BS env r ((n,(env.cells.lookup n).getD 0)::acc) else BS env r acc
theorem CQ (env:Env):∀(names:List (Str×NameKind)) (acc:List (Str×Addr)) (x:Str),((x,NameKind.free)∈names∨acc.lookup x=some ((env.cells.lookup x).getD 0))→(BS env names acc).lookup x=some ((env.cells.lookup x).getD 0)
 |[],acc,x,h=>by
  rcases h with h|h
  ·cases h
  ·exact h
 |(y,k)::r,acc,x,h=>by
  unfold BS
  split
  ·rename_i hk
   refine CQ env r _ x ?_
   by_cases e:x=y
   ·subst e;right;simp [List.lookup]
   ·rcases h with h|h
    ·rcases List.mem_cons.mp h with q|q
     ·cases q;exact absurd rfl e
     ·exact .inl q
    ·right
     simp only [List.lookup,beq_eq_false_iff_ne.mpr e];exact h
  ·rename_i hk
   refine CQ env r _ x ?_
   rcases h with h|h
   ·rcases List.mem_cons.mp h with q|q
    ·cases q;simp at hk
    ·exact .inl q
   ·exact .inr h
theorem DW (env:Env) (f:Str×NameKind→List (Str×Addr)→Sem (ForInStep (List (Str×Addr)))) (hf:∀n k cs,f (n,k) cs=if (k == NameKind.free)=true then (do let c ←cellOf env n;pure (.yield ((n,c)::cs))) else pure (.yield cs)) :
  ∀(names:List (Str×NameKind)) (acc:List (Str×Addr)),(∀p∈names,p.2=.free→(env.cells.lookup p.1).isSome=true)→(forIn names acc f:Sem _)=pure (BS env names acc)
 |[],acc,_=>by rw [List.forIn_nil];rfl
 |(n,k)::r,acc,h=>by
  rw [List.forIn_cons,hf]
  unfold BS
  have hr:=DW env f hf r
  split
  ·rename_i hk
   have hk':k=.free:=by simpa using hk
   refine xa1_1 (Option.isSome_iff_exists.mp (h (n,k) List.mem_cons_self hk')) ?_;intro c hc
   have:cellOf env n=pure c:=by unfold cellOf;simp only at hc;rw [hc]
   rw [this,hc]
   exact hr _ (fun p hp=>h p (List.mem_cons_of_mem _ hp))
  ·exact hr _ (fun p hp=>h p (List.mem_cons_of_mem _ hp))
theorem FN {scope:Scope} (h:∀p∈scope.names,p.2=.free→(env.cells.lookup p.1).isSome=true):closureFor scope env=pure (BS env scope.names []):=by
 unfold closureFor
 dsimp only
 rw [DW env _ (fun n k cs=>?_) scope.names [] h]
 ·rfl
 ·rfl
noncomputable def md (scope:Scope):Bool:=scope.names.any fun p=>p.2 == .cell
theorem Ca:∀(names:List (Str×NameKind)) (n:Nat) (acc:List (Str×Addr)),(∀p∈names,p.2≠.cell)→cellsFrom n names acc=acc
 |[],_,_,_=>rfl
 |(y,k)::r,n,acc,h=>by
  have h1:¬(k == NameKind.cell)=true:=by simpa using h (y,k) (by simp)
  unfold cellsFrom
  rw [if_neg h1]
  exact Ca r n acc fun p hp=>h p (List.mem_cons_of_mem _ hp)
theorem Dv {y:Str}:∀(names:List (Str×NameKind)) (n:Nat) (acc:List (Str×Addr)),(names.filter fun p=>p.2 == .cell)=[(y,.cell)]→cellsFrom n names acc=(y,n)::acc
 |[],_,_,h=>by cases h
 |(x,k)::r,n,acc,h=>by
  unfold cellsFrom
  rw [List.filter_cons] at h
  split at h
  ·rename_i q
   dsimp only at q
   rw [if_pos q]
   have h1:=List.cons.inj h
   refine xa0_2 h1 ?_;(try clear h1);intro h2 h3
   cases h2
   exact Ca r _ _ fun p hp q=>by
    have:=List.filter_eq_nil_iff.mp h3 p hp
    simp [q] at this
  ·rename_i q
   dsimp only at q
   rw [if_neg q]
   exact Dv r n acc h
structure AU (env:Env) (scope:Scope):Prop where
 kind:scope.kind=.function
 ekind:env.scope.kind=.function
 fr:(scope.names.all fun p=>p.2 != .free||decide (env.kindOf p.1=some .cell))=true
 nc:(scope.names.filter fun p=>p.2 == .cell).length≤1
 nf:(scope.names.all fun p=>p.2 != .cell||scope.names.all fun q=>q.2 != .free||q.1 != p.1)=true
 lo:(scope.names.all fun p=>p.2 != .local||decide (scope.names.lookup p.1=some .local))=true
theorem Gm {scope:Scope} (h:(decide (scope.kind=.function)&&decide (env.scope.kind=.function)&&(scope.names.all fun p=>p.2 != .free||decide (env.kindOf p.1=some .cell))&&decide ((scope.names.filter fun p=>p.2 == .cell).length≤1)&&(scope.names.all fun p=>p.2 != .cell||scope.names.all fun q=>q.2 != .free||q.1 != p.1)&&(scope.names.all fun p=>p.2 != .local||decide (scope.names.lookup p.1=some .local)))=true):AU env scope:=by
 simp only [Bool.and_eq_true,decide_eq_true_eq] at h
 refine xa0_2 h ?_;(try clear h);intro zq;refine xa0_2 zq ?_;(try clear zq);intro zq;refine xa0_2 zq ?_;(try clear zq);intro zq;refine xa0_2 zq ?_;(try clear zq);intro zq;refine xa0_2 zq ?_;(try clear zq);intro a b;intro c;intro d;intro f;intro e
 exact ⟨a,b,c,d,f,e⟩
noncomputable abbrev LA:=Addr×Bool
noncomputable abbrev AB (env:Env) (scope:Scope) (Lc:LA):Env:=compEnvC scope (cellsFrom (Lc.1+1) scope.names (BS env scope.names [])) Lc.1 env
theorem AU.one {scope:Scope} (h:AU env scope) {y:Str} (hy:(y,NameKind.cell)∈scope.names) (n:Nat) (acc:List (Str×Addr)):cellsFrom n scope.names acc=(y,n)::acc:=by
 refine Dv _ n acc ?_
 have hm:(y,NameKind.cell)∈scope.names.filter fun p=>p.2 == .cell:=List.mem_filter.mpr ⟨hy,by rfl⟩
 have hl:=h.nc
 generalize (scope.names.filter fun p=>p.2 == .cell)=l at hm hl ⊢
 match l,hm,hl with
 |[p],hm,_=>rw [List.mem_singleton.mp hm]
 |p::q::r,_,hl=>simp at hl
theorem AU.none {scope:Scope} (h:md scope=false) (n:Nat) (acc:List (Str×Addr)):cellsFrom n scope.names acc=acc:=by
 refine Ca _ n acc fun p hp q=>?_
 have:=List.any_eq_false.mp h p hp
 simp [q] at this
theorem AU.freeCell {scope:Scope} (h:AU env scope) {x:Str} (hx:(x,NameKind.free)∈scope.names) (Lc:LA):(AB env scope Lc).cells.lookup x=some ((env.cells.lookup x).getD 0):=by
 show (cellsFrom (Lc.1+1) scope.names (BS env scope.names [])).lookup x=_
 have hl:=CQ env scope.names [] x (.inl hx)
 cases hm:md scope with
 |false=>rw [AU.none hm];exact hl
 |true=>
  refine xa1_2 (List.any_eq_true.mp hm) ?_;intro zq;refine cps fun zP zk=>?_;(rcases zq with ⟨y,k⟩)<;>(refine zk ?_;clear zk zP);intro hy hk
  have hk:k=.cell:=by simpa using hk
  subst hk
  rw [h.one hy]
  have:=List.all_eq_true.mp h.nf _ hy
  have this2:(scope.names.all fun q=>q.2 != .free||q.1 != y)=true:=by simpa using this
  have:=List.all_eq_true.mp this2 _ hx
  have hne:x≠y:=by simpa using this
  rw [List.lookup,beq_eq_false_iff_ne.mpr hne]
  exact hl
theorem AU.cell {scope:Scope} (h:AU env scope) {Lc:LA} {x:Str} (hx:(AB env scope Lc).kindOf x=some .cell):((AB env scope Lc).cells.lookup x).isSome=true:=by
 have hm:=DR (show (relabel scope env).names.lookup x=some .cell from hx)
 refine xa1_2 (List.mem_map.mp hm) ?_;intro zq;refine cps fun zP zk=>?_;(rcases zq with ⟨n,k⟩)<;>(refine zk ?_;clear zk zP);intro hnk e
 dsimp only at e
 split at e
 ·rename_i hk
  cases e
  simp only [Bool.and_eq_true,beq_iff_eq] at hk
  refine xa0_2 hk ?_;(try clear hk);intro zq;refine xa0_2 zq ?_;(try clear zq);rintro rfl;intro zu;intro h3
  rw [h.freeCell hnk];rfl
 ·cases e
  show ((cellsFrom (Lc.1+1) scope.names (BS env scope.names [])).lookup x).isSome=true
  rw [h.one hnk,List.lookup,beq_self_eq_true];rfl
theorem AU.ownCell {scope:Scope} (h:AU env scope) {Lc:LA} {x:Str} (hx:(x,NameKind.cell)∈scope.names):(AB env scope Lc).cells.lookup x=some (Lc.1+1):=by
 show (cellsFrom (Lc.1+1) scope.names (BS env scope.names [])).lookup x=_
 rw [h.one hx,List.lookup,beq_self_eq_true]
theorem AU.closure {scope:Scope} (h:AU env scope) (hc:∀x,env.kindOf x=some .cell→(env.cells.lookup x).isSome=true):closureFor scope env=pure (BS env scope.names []):=by
 refine FN fun p hp hf=>hc _ ?_
 have:=List.all_eq_true.mp h.fr _ hp
 rw [hf] at this
 simpa using this
noncomputable abbrev Gx (ifs:List Expr) (env:Env):Sem Bool:=forIn ifs true fun c r=>if r=true then do let ok ←isTrue c env (eval c env);pure (ForInStep.yield ok) else pure (ForInStep.yield r)
noncomputable abbrev MP (elt:Expr) (acc:Value) (env:Env):Sem Unit:=(eval elt env >>= fun x=>call (.builtin "list.append") [acc,x] >>= fun zu=>pure ())
noncomputable def Il (e:Expr) (d:Nat) (it acc:Value) (env:Env) (target iter:Expr) (ifs:List Expr) (rest:Sem Fin→Sem Fin):Prop:=
 compTurn e d it acc env=(standAt iter.pos >>= fun zu=>pyNext it >>= fun r=>match r with
   |none=>pure (.done .next)
   |some v=>letOwnedTupleGo target it v >>= fun zu=>assign target env v >>= fun zu=>Gx ifs env >>= fun ok=>
    if ok=true then rest (again (.compLoop e d it acc env)) else again (.compLoop e d it acc env))
noncomputable abbrev IK (elt:Expr) (acc:Value) (env:Env) (k:Sem Fin):Sem Fin:=MP elt acc env >>= fun zu=>k
theorem turn1 (elt target iter:Expr) (ifs:List Expr) (scope:Scope) (pos:Pos) (it acc:Value) (env:Env):Il (.ListComp elt [⟨target,iter,ifs,0⟩] scope pos) 0 it acc env target iter ifs (IK elt acc env):=rfl
theorem BD.mod {F₀:FH} {s₀:Shared} (st:BD C A hp F₀ s₀ F s) {X:Addr→Prop} (hX:∀b,X b→s₀.heap.get? b=none∧F b=none) {h':Heap} {t:Nat} (k:∀b o,¬X b→s.heap.get? b=some o→h'.get? b=some o):BD C A hp F₀ s₀ F ⟨h',s.gens,s.drawn,t,s.os⟩:=by
 refine ⟨st.w,st.w'.turn (X:=X) (A6.refl F) (fun b o e=>k b o (fun hb=>?_) (st.w'.fz _ _ e)) (fun b x hb q=>?_) (fun zu zu zu=>id) (st.w.frOff fun b hb=>(hX b hb).1) k,st.e,fun b o e q=>?_,st.new⟩
 ·rw [(hX b hb).2] at e;exact Ak e
 ·rw [(st.w.dead (hX b hb).1).2] at q;exact Ak q
 ·refine xa1_2 (st.kg b o e q) ?_;intro o' h1 g
  exact ⟨o',k b o' (fun hb=>by rw [(hX b hb).1] at e;exact Ak e) h1,g⟩
theorem BD.off (st:BD C A hp F s F' s') {b:Addr} {o:Obj} (hb:F b=none) (ho:s.heap.get? b=some o):F' b=none:=by
 cases q:F' b with
 |none=>rfl
 |some o'=>
  rcases st.new b o' q with h|h
  ·rw [hb] at h;exact Ak h
  ·rw [ho] at h;exact Ao h
inductive JQ (C:Cf) (A:Around) (hp:HP) (F:FH) (s:Shared) (target:Expr) (xs:List AV) (iv:Value) (s':Shared):Prop
 |mk (F':FH) (I:Addr) (fp wr:List Addr) (St:Nat→Heap→Prop) (st:BD C A hp F s F' s') (e:iv=.ref I) (W:Wk C A target I fp wr St xs F' F') (h0:St 0 s'.heap) (hw:∀b∈wr,s.heap.get? b=none∧F' b=none)
noncomputable def PI (C:Cf) (A:Around) (hp:HP) (env:Env) (loc:PL) (target iter:Expr) (xs:List AV):Prop:=
 ∀F s (E:Value→Shared→Prop),CC C A hp F s env loc→wpAny (model C.prog C.w) A (eval iter env) (fun v s₁=>wpAny (model C.prog C.w) A (pyIter v) (JQ C A hp F s target xs) E s₁) E s
noncomputable def Dy (F:FH) (h:Heap) (acc:Addr) (ys:List AV):Prop:=∃(vs:List Value) (n:Nat),h.get? acc=some { cls:=.type "list",dict:=none,data:=.seq vs.toArray n,slots:=#[] }∧VRs F ys vs
noncomputable abbrev BL:=List (Str×AV)
noncomputable def IS (F:FH) (h:Heap) (Lc:LA) (bl:BL):Prop:=∃m c,h.Ns Lc.1 m∧(Lc.2=true→h.IsCell (Lc.1+1) c)∧∀x a,bl.lookup x=some a→∃v,(if Lc.2=true then c=some v else m x=some v)∧VR F a v
noncomputable def XL (Lc:LA) (b:Addr):Prop:=b=Lc.1∨(Lc.2=true∧b=Lc.1+1)
theorem IsCell.geq {h h':Heap} {a:Addr} {v:Option Value} (n:h.IsCell a v) (k:∀o,h.get? a=some o→∃o',h'.get? a=some o'∧EP o o'):h'.IsCell a v:=by
 refine xa1_2 n ?_;(try clear n);intro o h1 h2
 refine xa1_2 (k o h1) ?_;intro o' h3 g
 exact ⟨o',h3,g.data.trans h2⟩
theorem IS.keepG {h h':Heap} {Lc:LA} {bl:BL} (b:IS F h Lc bl) (e:A6 F F') (k:∀a,XL Lc a→∀o,h.get? a=some o→∃o',h'.get? a=some o'∧EP o o'):IS F' h' Lc bl:=by
 refine xa2_3 b ?_;(try clear b);intro m c hn hc hb
 exact ⟨m,c,Ns.geq hn (k _ (.inl rfl)),fun q=>IsCell.geq (hc q) (k _ (.inr ⟨q,rfl⟩)),fun x a q=>let ⟨v,z1,z2⟩:=hb x a q;⟨v,z1,z2.mono e⟩⟩
theorem IS.keep {h h':Heap} {Lc:LA} {bl:BL} (b:IS F h Lc bl) (e:A6 F F') (k:∀a,XL Lc a→∀o,h.get? a=some o→h'.get? a=some o):IS F' h' Lc bl:=b.keepG e fun a x o q=>⟨o,k a x o q,.inl rfl⟩
structure CS (C:Cf) (A:Around) (hp:HP) (F₀:FH) (s₀:Shared) (acc:Addr) (Lc:LA) (bl:BL) (ys:List AV) (F:FH) (s:Shared):Prop where
 st:BD C A hp F₀ s₀ F s
 ac:Dy F s.heap acc ys
 fr:IS F s.heap Lc bl
 oa:F acc=none
 oL:∀b,XL Lc b→F b=none
 na:s₀.heap.get? acc=none
 nL:∀b,XL Lc b→s₀.heap.get? b=none
 ne:¬XL Lc acc
structure Ck (C:Cf) (A:Around) (hp:HP) (X:Addr→Prop) (F:FH) (s:Shared) (F':FH) (s':Shared):Prop where
 w':Wp C A hp F' s'
 e:A6 F F'
 kg:∀b o,¬X b→s.heap.get? b=some o→hp b=none→∃o',s'.heap.get? b=some o'∧EP o o'
 new:∀b o,F' b=some o→F b=some o∨s.heap.get? b=none
theorem BD.kept (st:BD C A hp F s F' s') (X:Addr→Prop):Ck C A hp X F s F' s':=⟨st.w',st.e,fun b o zu e=>st.kg b o e,st.new⟩
theorem Ck.off {X:Addr→Prop} (st:Ck C A hp X F s F' s') {b:Addr} {o:Obj} (hb:F b=none) (ho:s.heap.get? b=some o):F' b=none:=by
 cases q:F' b with
 |none=>rfl
 |some o'=>
  rcases st.new b o' q with h|h
  ·rw [hb] at h;exact Ak h
  ·rw [ho] at h;exact Ao h
theorem Ck.k {X:Addr→Prop} (st:Ck C A hp X F s F' s') {b:Addr} {o:Obj} (hx:¬X b) (h:s.heap.get? b=some o) (hb:hp b=none) (hd:∀es ep,o.data≠.dict es ep):s'.heap.get? b=some o:=by
 refine xa1_2 (st.kg b o hx h hb) ?_;intro o' h g
 rw [h,g.exact hd]
theorem Ck.dead {X:Addr→Prop} (a:Ck C A hp X F s F' s') {b:Addr} (hx:¬X b) (h:s'.heap.get? b=none):s.heap.get? b=none:=by
 cases z:s.heap.get? b with
 |none=>rfl
 |some o=>
  refine xa1_2 (a.kg b o hx z (a.w'.dead h).2) ?_;intro o' q zu
  rw [h] at q;exact Ak q
theorem Ck.trans {X:Addr→Prop} {F₁ F₂:FH} {s₁ s₂:Shared} (a:Ck C A hp X F s F₁ s₁) (b:Ck C A hp X F₁ s₁ F₂ s₂) (hX:∀b,X b→F₂ b=none):Ck C A hp X F s F₂ s₂:=by
 refine ⟨b.w',a.e.trans b.e,fun x o hx e q=>?_,fun x o e=>?_⟩
 ·refine xa1_2 (a.kg x o hx e q) ?_;intro o' h g
  refine xa1_2 (b.kg x o' hx h q) ?_;intro o2 h g2
  exact ⟨o2,h,g.trans g2⟩
 ·rcases b.new x o e with q|q
  ·exact a.new x o q
  ·exact .inr (a.dead (fun hx=>by rw [hX x hx] at e;exact Ak e) q)
noncomputable abbrev XP (acc:Addr) (Lc:LA):Addr→Prop:=fun b=>b=acc∨XL Lc b
noncomputable def MR (scope:Scope) (loc:PL):PL:=loc.filter fun p=>decide (scope.names.lookup p.1=some .free)
noncomputable abbrev J7 (scope:Scope) (loc:PL) (bl:BL):PL:=bl.map (fun p=>(p.1,(p.2,false)))++MR scope loc
theorem Ey {scope:Scope}:∀{loc:PL} {x:Str} {pv:PV},(MR scope loc).lookup x=some pv→scope.names.lookup x=some .free∧loc.lookup x=some pv
 |[],_,_,h=>by exact Ak h
 |(y,u)::l,x,pv,h=>by
  unfold MR at h
  simp only [List.filter,List.lookup] at h ⊢
  split at h
  ·rename_i q
   simp only [List.lookup] at h
   split at h
   ·rename_i z
    (have zc:=Option.some.inj h;clear h;subst zc)
    rw [beq_iff_eq.mp z]
    exact ⟨of_decide_eq_true q,rfl⟩
   ·rename_i z
    exact Ey h
  ·rename_i q
   have hx:=Ey (loc:=l) h
   have:(x == y)=false:=by
    apply beq_eq_false_iff_ne.mpr
    rintro rfl
    exact absurd hx.1 (of_decide_eq_false q)
   rw [this];exact hx
theorem Gz {names:List (Str×NameKind)} {x:Str} (h1:env.scope.kind=.function) (h2:env.kindOf x=some .cell):names.lookup x=some .free →
  (names.map fun (n,k)=>if (k == NameKind.free&&env.scope.kind == .function&&env.kindOf n == some .cell) then (n,NameKind.cell) else (n,k)).lookup x=some .cell:=by
 induction names with
 |nil=>intro h;exact Ak h
 |cons p r ih=>
  refine cps fun zP zk=>?_;(rcases p with ⟨n,k⟩)<;>(refine zk ?_;clear zk zP)
  intro h
  simp only [List.lookup] at h
  split at h
  ·rename_i q
   (have zc:=Option.some.inj h;clear h;subst zc)
   have:=beq_iff_eq.mp q
   subst this
   simp [h1,h2]
  ·rename_i q
   rw [List.map_cons]
   by_cases z:(k == NameKind.free&&env.scope.kind == .function&&env.kindOf n == some .cell)=true
   ·simp only [z,if_true,List.lookup,q];exact ih h
   ·have z':=Bool.eq_false_iff.mpr z
    simp only [z',Bool.false_eq_true,if_false,List.lookup,q];exact ih h
theorem IP:∀{bl:BL} {x:Str},(bl.map fun p=>(p.1,((p.2,false):PV))).lookup x=(bl.lookup x).map fun a=>(a,false)
 |[],_=>rfl
 |(y,a)::bl,x=>by
  simp only [List.map_cons,List.lookup]
  split
  ·rfl
  ·exact IP
noncomputable def NJ (env:Env) (scope:Scope) (Lc:LA) (bl:BL):Prop:=∀x a,bl.lookup x=some a→(Lc.2=false∧(AB env scope Lc).kindOf x=some .local)∨(Lc.2=true∧(x,NameKind.cell)∈scope.names∧(AB env scope Lc).kindOf x=some .cell)
theorem CS.ctx {scope:Scope} {loc:PL} {F₀:FH} {s₀:Shared} {acc:Addr} {Lc:LA} {bl:BL} {ys:List AV} (c:CC C A hp F₀ s₀ env loc) (cs:AU env scope) (h:CS C A hp F₀ s₀ acc Lc bl ys F s) (hk:NJ env scope Lc bl):CC C A hp F s (AB env scope Lc) (J7 scope loc bl):=by
 have c':=c.step h.st
 refine ⟨c'.wp,cs.kind,c.glob,fun x hx=>cs.cell hx,fun x pv e=>?_⟩
 rw [G5,IP] at e
 cases q:bl.lookup x with
 |some a=>
  rw [q] at e;(have zc:=Option.some.inj e;clear e;subst zc)
  refine xa2_3 h.fr ?_;intro m cv hm hc hb
  refine xa1_2 (hb x a q) ?_;intro v h1 h2
  rcases hk x a q with ⟨z1,z2⟩|⟨z1,z2,z3⟩
  ·rw [if_neg (by rw [z1];exact Bool.false_ne_true)] at h1
   exact ⟨v,.val h2,.loc z2 hm h1 (h.st.w.dead (h.nL _ (.inl rfl))).2⟩
  ·rw [if_pos z1] at h1
   subst h1
   exact ⟨v,.val h2,.cell z3 (cs.ownCell z2) (hc z1) (h.st.w.dead (h.nL _ (.inr ⟨z1,rfl⟩))).2⟩
 |none=>
  rw [q] at e
  refine xa0_2 (Ey e) ?_;intro h1 h2
  refine xa1_2 (c'.nm x pv h2) ?_;intro v r n
  have hm:=DR h1
  have hcell:env.kindOf x=some .cell:=by
   have:=List.all_eq_true.mp cs.fr _ hm
   simpa using this
  cases n with
  |loc hk zu zu2 zu3=>rw [hcell] at hk;cases hk
  |free hk zu zu2 zu3=>rw [hcell] at hk;cases hk
  |cell hk hc hi hh=>
   refine ⟨v,r,.cell (Gz cs.ekind hcell h1) ?_ hi hh⟩
   have:=cs.freeCell hm Lc
   rw [hc] at this;exact this
noncomputable def Mv (C:Cf) (A:Around) (hp:HP) (F₀:FH) (s₀:Shared) (acc:Addr) (Lc:LA) (bl:BL) (rest:Sem Fin→Sem Fin) (zs:List AV):Prop:=
 ∀F s ys (k:Sem Fin) (R:Fin→Shared→Prop),CS C A hp F₀ s₀ acc Lc bl ys F s→ys.length+zs.length≤100000 →
  (∀F' s',CS C A hp F₀ s₀ acc Lc bl (ys++zs) F' s'→Ck C A hp (XP acc Lc) F s F' s'→wpAny (model C.prog C.w) A k R Bz s')→wpAny (model C.prog C.w) A (rest k) R Bz s
noncomputable def Mc (C:Cf) (A:Around) (cenv:Env) (Lc:LA) (target:Expr) (x:AV) (bl bl':BL):Prop:=
 ∀F s v,(∀b o,F b=some o→s.heap.get? b=some o)→IS F s.heap Lc bl→VR F x v→wpAny (model C.prog C.w) A (assign target cenv v) (fun zu s'=>∃h' t,s'=⟨h',s.gens,s.drawn,t,s.os⟩∧IS F h' Lc bl'∧∀b o,¬XL Lc b→s.heap.get? b=some o→h'.get? b=some o) Bz s
theorem D7 {cenv:Env} {Lc:LA} {x:Str} {px:Pos} {a:AV} {bl:BL} (hf:cenv.scope.kind=.function) (hL:cenv.locals=Lc.1) (h2:Lc.2=false) (hk:cenv.kindOf x=some .local) (F:FH) (s:Shared) (v:Value) (b:IS F s.heap Lc bl) (hv:VR F a v) :
  wpAny (model C.prog C.w) A (assign (.Name x px) cenv v) (fun zu s'=>∃h' t,s'=⟨h',s.gens,s.drawn,t,s.os⟩∧IS F h' Lc ((x,a)::bl)∧∀b o,¬XL Lc b→s.heap.get? b=some o→h'.get? b=some o) Bz s:=by
 refine xa2_3 b ?_;(try clear b);intro m c hm hc hb
 rw [←hL] at hm
 have hn2:¬Lc.2=true:=by rw [h2];exact Bool.false_ne_true
 refine wpAny_assign_Name (wpAny_storeName_local hk hm (fun h' hn hs=>⟨h',s.toks+1,rfl,⟨_,c,hL▸hn,fun q=>absurd q hn2,fun y a' e=>?_⟩,fun b o n q=>SameBut.rest hs b o (fun z=>n (.inl (z.trans hL))) q⟩) (by rw [hf];rfl))
 simp only [List.lookup] at e
 split at e
 ·rename_i q
  (have zc:=Option.some.inj e;clear e;subst zc)
  exact ⟨v,by rw [if_neg hn2];exact if_pos (beq_iff_eq.mp q),hv⟩
 ·rename_i q
  refine xa1_2 (hb y a' e) ?_;intro v' z1 z2
  rw [if_neg hn2] at z1
  exact ⟨v',by rw [if_neg hn2];exact (if_neg (beq_eq_false_iff_ne.mp q)).trans z1,z2⟩
theorem JP {cenv:Env} {Lc:LA} {x:Str} {px:Pos} {a:AV} {bl:BL} (hf:cenv.scope.kind=.function) (hL:cenv.locals=Lc.1) (h2:Lc.2=false) (hk:cenv.kindOf x=some .local):Mc C A cenv Lc (.Name x px) a bl ((x,a)::bl):=fun F s v zu b hv=>D7 hf hL h2 hk F s v b hv
theorem VRs.inv' {x:AV} {xs:List AV} {vs:List Value} (h:VRs F (x::xs) vs):∃v us,vs=v::us∧VR F x v∧VRs F xs us:=by
 cases h with
 |cons a b=>exact ⟨_,_,rfl,a,b⟩
theorem JO {cenv:Env} {Lc:LA} {x y:Str} {p1 p2 pos:Pos} {tn:Nat} {a b:AV} {bl:BL} (hA:A.handled=none) (hf:cenv.scope.kind=.function) (hL:cenv.locals=Lc.1) (h2:Lc.2=false) (hx:cenv.kindOf x=some .local) (hy:cenv.kindOf y=some .local) :
  Mc C A cenv Lc (.Tuple [.Name x p1,.Name y p2] tn pos) (.tup [a,b]) bl ((y,b)::(x,a)::bl):=fun F s v hin bd hv=>by
 refine xa4_5 hv.tupInv ?_;intro t ot vs n;rintro rfl;intro q1 q2 q3 q4
 refine xa2_3 q4.inv' ?_;intro v1 us;rintro rfl;intro r1 q4
 refine xa2_3 q4.inv' ?_;intro v2 us;rintro rfl;intro r2 q4
 obtain rfl:=q4.nilI
 refine wpAny_assign_Tuple hA ⟨ot,hin _ _ q1,q2,n,q3⟩ rfl rfl fun h' hk=>?_
 have kp:∀b o,s.heap.get? b=some o→h'.get? b=some o:=fun b o e=>hk b o (Nat.ne_of_lt (Heap.lt_size e)) e
 show wpAny _ _ (do holding [v2] (assign (.Name x p1) cenv v1);do holding [] (assign (.Name y p2) cenv v2);pure ()) _ _ _
 refine wpAny_bind (wpAny_holding (wpAny_mono (D7 (C:=C) (A:=A) (px:=p1) (bl:=bl) hf hL h2 hx F { s with heap:=h' } v1 (bd.keep (A6.refl F) fun _ _ o e=>kp _ _ e) r1) (fun zu s₁ z=>?_) fun zu zu x=>x))
 refine xa2_3 z ?_;(try clear z);intro h1 t1;rintro rfl;intro b1 k1
 refine wpAny_bind (wpAny_holding (wpAny_mono (D7 (C:=C) (A:=A) (px:=p2) hf hL h2 hy F ⟨h1,s.gens,s.drawn,t1,s.os⟩ v2 b1 r2) (fun zu s₂ z=>?_) fun zu zu x=>x))
 refine xa2_3 z ?_;(try clear z);intro h2' t2;rintro rfl;intro b2 k2
 exact wpAny_pure ⟨h2',t2,rfl,b2,fun b o n e=>k2 b o n (k1 b o n (kp _ _ e))⟩
end
end
section
section
variable {C:Cf} {A:Around} {hp:HP} {s s':Shared} {env:Env} {F F':FH} {E:Value→Shared→Prop}
section
variable {F₀:FH} {s₀:Shared} {acc:Addr} {Lc:LA} {bl bl':BL} {ys zs:List AV}
theorem BD.add (st:BD C A hp F₀ s₀ F s) {T:Addr} {o:Obj} (ho:s.heap.get? T=some o) (hF:F T=none) (hn:s₀.heap.get? T=none):BD C A hp F₀ s₀ (AR F T o) s:=by
 have hi:∀b o',AR F T o b=some o'→s.heap.get? b=some o':=fun b o' e=>by
  by_cases q:b=T
  ·subst q;rw [Ar] at e;(have zc:=Option.some.inj e;clear e;subst zc);exact ho
  ·rw [Az _ _ q] at e;exact st.w'.fz b o' e
 have ex:=AQ o hF
 have off:∀{b},s₀.heap.get? b≠none→F b=none→AR F T o b=none:=fun {b} h1 h2=>by rw [Az];exact h2;rintro rfl;exact h1 hn
 refine ⟨st.w,⟨fun b o q=>ex _ _ (st.w'.base b o q),hi,fun a x q=>?_,st.w'.os,st.w'.bare,st.w'.gi,?_⟩,st.e.trans ex,st.kg,fun b o' e=>?_⟩
 ·refine cps fun zP zk=>?_;(rcases st.w'.ob a x q with ⟨p,o,ho',r⟩)<;>(refine zk ?_;clear zk zP)
  refine cps fun zP zk=>?_;(rcases st.w.ob a x q with ⟨zu,o2,h2,zu⟩)<;>(refine zk ?_;clear zk zP)
  exact ⟨off (by rw [h2];exact fun z=>nomatch z) p,o,ho',r.mono ex⟩
 ·refine xa1_2 st.w'.fr ?_;intro l a b
  refine ⟨l,a,fun y hy=>?_⟩
  refine cps fun zP zk=>?_;(rcases b y hy with ⟨p,L,q1,q2,q3,q4⟩)<;>(refine zk ?_;clear zk zP)
  refine ⟨p,L,q1,off (fun z=>st.w.frOff (X:=(·=L)) (fun b hb=>by rw [hb];exact z) l a y hy L q1 rfl) q2,q3,q4⟩
 ·by_cases q:b=T
  ·exact .inr (q▸hn)
  ·rw [Az _ _ q] at e;exact st.new b o' e
theorem Dy.live {h:Heap} (a:Dy F h acc ys):∃o,h.get? acc=some o:=let ⟨_,_,e,_⟩:=a;⟨_,e⟩
theorem Dy.keep {h h':Heap} (a:Dy F h acc ys) (e:A6 F F') (k:∀o,h.get? acc=some o→h'.get? acc=some o):Dy F' h' acc ys:=by
 refine xa2_2 a ?_;(try clear a);intro vs n h1 h2
 exact ⟨vs,n,k _ h1,h2.mono e⟩
theorem Dy.keepG {h h':Heap} (a:Dy F h acc ys) (e:A6 F F') (k:∀o,h.get? acc=some o→∃o',h'.get? acc=some o'∧EP o o'):Dy F' h' acc ys:=a.keep e fun o ho=>by
 refine xa2_2 a ?_;(try clear a);intro vs n h1 h2
 rw [ho] at h1;(have zc:=Option.some.inj h1;clear h1;subst zc)
 refine xa1_2 (k _ ho) ?_;intro o' q g
 rw [q,g.exact (fun zu zu z=>nomatch z)]
theorem IS.live {h:Heap} (b:IS F h Lc bl):∀a,XL Lc a→∃o,h.get? a=some o:=fun a hx=>by
 refine xa2_3 b ?_;(try clear b);intro m c hn hc zu
 rcases hx with rfl|⟨q,rfl⟩
 ·refine xa3_2 hn ?_;(try clear hn);intro o zu zu e zu;exact ⟨o,e⟩
 ·refine xa1_2 (hc q) ?_;intro o e zu;exact ⟨o,e⟩
theorem CS.step (h:CS C A hp F₀ s₀ acc Lc bl ys F s) (st:BD C A hp F s F' s'):CS C A hp F₀ s₀ acc Lc bl ys F' s':=by
 refine xa1_1 h.ac.live ?_;intro oa ha
 exact ⟨h.st.trans st,h.ac.keepG st.e fun o e=>st.kg _ o e (h.st.w.dead h.na).2,h.fr.keepG st.e fun a x o e=>st.kg _ o e (h.st.w.dead (h.nL a x)).2,st.off h.oa ha,fun b x=>let ⟨_,hL⟩:=h.fr.live b x;st.off (h.oL b x) hL,h.na,h.nL,h.ne⟩
theorem CS.modw (h:CS C A hp F₀ s₀ acc Lc bl ys F s) {wr:List Addr} (hw:∀b∈wr,s₀.heap.get? b=none∧F b=none∧¬XP acc Lc b) {h':Heap} {t:Nat} (k:∀b o,b∉wr→s.heap.get? b=some o→h'.get? b=some o):CS C A hp F₀ s₀ acc Lc bl ys F ⟨h',s.gens,s.drawn,t,s.os⟩:=
 ⟨h.st.mod (X:=(·∈wr)) (fun b hb=>⟨(hw b hb).1,(hw b hb).2.1⟩) k,h.ac.keep (A6.refl F) fun o=>k _ o fun hb=>(hw _ hb).2.2 (.inl rfl),h.fr.keep (A6.refl F) fun a x o=>k _ o fun hb=>(hw _ hb).2.2 (.inr x),h.oa,h.oL,h.na,h.nL,h.ne⟩
theorem CS.add (h:CS C A hp F₀ s₀ acc Lc bl ys F s) {T:Addr} {o:Obj} (ho:s.heap.get? T=some o) (hF:F T=none) (hn:s₀.heap.get? T=none) (hx:¬XP acc Lc T):CS C A hp F₀ s₀ acc Lc bl ys (AR F T o) s:=
 ⟨h.st.add ho hF hn,h.ac.keep (AQ o hF) fun zu e=>e,h.fr.keep (AQ o hF) fun zu zu zu e=>e,by rw [Az _ _ (fun q=>hx (.inl q.symm))];exact h.oa,fun b x=>by rw [Az _ _ (fun q=>hx (.inr (by rw [←q];exact x)))];exact h.oL b x,h.na,h.nL,h.ne⟩
theorem CS.asg (h:CS C A hp F₀ s₀ acc Lc bl ys F s) {h':Heap} {t:Nat} (b:IS F h' Lc bl') (k:∀b o,¬XL Lc b→s.heap.get? b=some o→h'.get? b=some o):CS C A hp F₀ s₀ acc Lc bl' ys F ⟨h',s.gens,s.drawn,t,s.os⟩:=
 ⟨h.st.mod (X:=XL Lc) (fun b hb=>⟨h.nL b hb,h.oL b hb⟩) k,h.ac.keep (A6.refl F) fun o=>k _ o h.ne,b,h.oa,h.oL,h.na,h.nL,h.ne⟩
noncomputable def My (bl bl':BL):Prop:=∀y a,bl.lookup y=some a→bl'.lookup y=some a
theorem CS.weak (h:CS C A hp F₀ s₀ acc Lc bl' ys F s) (k:My bl bl'):CS C A hp F₀ s₀ acc Lc bl ys F s:=
 ⟨h.st,h.ac,let ⟨m,c,hm,hc,hb⟩:=h.fr;⟨m,c,hm,hc,fun x a e=>hb x a (k x a e)⟩,h.oa,h.oL,h.na,h.nL,h.ne⟩
theorem CS.off (h:CS C A hp F₀ s₀ acc Lc bl ys F s):∀b,XP acc Lc b→F b=none:=by
 rintro b (rfl|hx)
 ·exact h.oa
 ·exact h.oL b hx
inductive MV (C:Cf) (A:Around) (hp:HP) (env:Env) (scope:Scope) (loc:PL) (F₀:FH) (s₀:Shared) (acc:Addr) (Lc:LA) (target:Expr) (ifs:List Expr) (rest:Sem Fin→Sem Fin) (bl:BL) (x:AV) (zs:List AV):Prop
 |mk (bl':BL) (ok:Bool) (ha:Mc C A (AB env scope Lc) Lc target x bl bl') (hl:My bl bl') (hk:NJ env scope Lc bl')
   (ht:PT C A hp (AB env scope Lc) (J7 scope loc bl') (fun zu b b'=>b=b') (Gx ifs (AB env scope Lc)) ok) (h1:ok=true→Mv C A hp F₀ s₀ acc Lc bl' rest zs) (h0:ok=false→zs=[])
inductive Og (C:Cf) (A:Around) (hp:HP) (F₀:FH) (s₀:Shared) (acc:Addr) (Lc:LA) (bl:BL) (wr:List Addr) (St:Nat→Heap→Prop) (F₁ Fe:FH) (se:Shared) (xs:List AV) (out:Nat→List AV) (n:Nat) (s:Shared):Prop
 |mk (i:Nat) (F:FH) (cs:CS C A hp F₀ s₀ acc Lc bl (out i) F s) (e:A6 F₁ F) (st:St i s.heap) (hn:i+n=xs.length) (hw:∀b∈wr,F b=none) (kp:Ck C A hp (XP acc Lc) Fe se F s)
theorem Ck.step {X:Addr→Prop} (a:Ck C A hp X F s F' s') {F₂:FH} {s₂:Shared} (b:BD C A hp F' s' F₂ s₂) (hX:∀b,X b→F₂ b=none):Ck C A hp X F s F₂ s₂:=a.trans (b.kept X) hX
theorem Ck.mod {X:Addr→Prop} (a:Ck C A hp X F s F' s') {h':Heap} {t:Nat} (w:Wp C A hp F' ⟨h',s'.gens,s'.drawn,t,s'.os⟩) (k:∀b o o',¬X b→s.heap.get? b=some o→s'.heap.get? b=some o'→h'.get? b=some o'):Ck C A hp X F s F' ⟨h',s'.gens,s'.drawn,t,s'.os⟩:=
 ⟨w,a.e,fun b o hb e q=>let ⟨o',h,g⟩:=a.kg b o hb e q;⟨o',k b o o' hb e h,g⟩,a.new⟩
theorem Ic {elt:Expr} {gens:List Comprehension} {scope:Scope} {pos:Pos} {d:Nat} {target iter:Expr} {ifs:List Expr} {rest:Sem Fin→Sem Fin} {I:Addr} {loc:PL} {fp wr:List Addr} {St:Nat→Heap→Prop} {F₁ Fe:FH} {se:Shared} {α:Type} {l:List α} {g:α→AV}
  (teq:Il (.ListComp elt gens scope pos) d (.ref I) (.ref acc) (AB env scope Lc) target iter ifs rest) (W:Wk C A target I fp wr St (l.map g) F₁ F₁) (c:CC C A hp F₀ s₀ env loc) (cs:AU env scope) (em:α→List AV)
  (turn:∀a∈l,MV C A hp env scope loc F₀ s₀ acc Lc target ifs rest bl (g a) (em a)) (hz:ys.length+(l.flatMap em).length≤100000) (hw:∀b∈wr,s₀.heap.get? b=none∧se.heap.get? b=none∧¬XP acc Lc b)
  (h0:Og C A hp F₀ s₀ acc Lc bl wr St F₁ Fe se (l.map g) (fun i=>ys++(l.take i).flatMap em) l.length s) {R:Result→Shared→Prop}
  (hQ:∀F' s',CS C A hp F₀ s₀ acc Lc bl (ys++l.flatMap em) F' s'→Ck C A hp (XP acc Lc) Fe se F' s'→R (.ok .next) s'):codeAny (model C.prog C.w) A (.compLoop (.ListComp elt gens scope pos) d (.ref I) (.ref acc) (AB env scope Lc)) R s:=by
 refine codeAny_loop' rfl (Og C A hp F₀ s₀ acc Lc bl wr St F₁ Fe se (l.map g) (fun i=>ys++(l.take i).flatMap em)) (fun n s' hI=>?_) l.length h0
 refine cps fun zP zk=>?_;(rcases hI with ⟨i,F,hcs,e,st,hn,hwF,kp⟩)<;>(refine zk ?_;clear zk zP)
 show wpAny _ _ ((compTurn (.ListComp elt gens scope pos) d (.ref I) (.ref acc) (AB env scope Lc)).onRaise (fun x=>do noteFrame x (AB env scope Lc);theTreesLotGoes x)) _ _ s'
 refine wpAny_onRaise ?_
 rw [teq]
 refine wpAny_bind (wpAny_standAt (wpAny_bind ?_))
 have hw3:∀b∈wr,s₀.heap.get? b=none∧F b=none∧¬XP acc Lc b:=fun b hb=>⟨(hw b hb).1,hwF b hb,(hw b hb).2.2⟩
 rw [List.length_map] at hn
 cases hx:l[i]? with
 |none=>
  have hi:i=l.length:=Nat.le_antisymm (by exact Ax [_,_,_] [(1,(Za Z0 Z2),Z1)] Z0 Z1 rfl (Nat.le_of_eq hn)) (List.getElem?_eq_none_iff.mp hx)
  subst hi
  refine wpAny_mono (W.done s' (by rw [List.length_map];exact st)) (fun r s₁ z=>?_) fun zu zu x=>x.elim
  refine cps fun zP zk=>?_;(rcases z with ⟨rfl,h',tk,rfl,k⟩)<;>(refine zk ?_;clear zk zP)
  have hcs':=hcs.modw (t:=tk) hw3 k
  simp only [List.take_length] at hcs'
  exact wpAny_pure (hQ F _ hcs' (kp.mod hcs'.st.w' fun b o o' zu e1 e2=>k b o' (fun hb=>by rw [(hw b hb).2.1] at e1;exact Ak e1) e2))
 |some a=>
  have hlt:=(List.getElem?_eq_some_iff.mp hx).1
  have hxm:a∈l:=List.mem_of_getElem? hx
  have hx2:(l.map g)[i]? = some (g a):=by rw [List.getElem?_map,hx];rfl
  refine wpAny_mono (W.more i (g a) s' hx2 st) (fun r s₁ z=>?_) fun zu zu x=>x.elim
  refine xa1_2 z ?_;(try clear z);intro v;rintro rfl;intro z
  refine wpAny_bind (wpAny_mono z (fun zu s₂ z=>?_) fun zu zu x=>x.elim)
  refine cps fun zP zk=>?_;(rcases z with ⟨h',tk,rfl,st',k,hv⟩)<;>(refine zk ?_;clear zk zP)
  have key:∃F₂,A6 F F₂∧VR F₂ (g a) v∧CS C A hp F₀ s₀ acc Lc bl (ys++(l.take i).flatMap em) F₂ ⟨h',s'.gens,s'.drawn,tk,s'.os⟩∧(∀b∈wr,F₂ b=none)∧Ck C A hp (XP acc Lc) Fe se F₂ ⟨h',s'.gens,s'.drawn,tk,s'.os⟩:=by
   have hcs':=hcs.modw (t:=tk) hw3 k
   have kp':=kp.mod (t:=tk) hcs'.st.w' fun b o o' zu e1 e2=>k b o' (fun hb=>by rw [(hw b hb).2.1] at e1;exact Ak e1) e2
   cases hv with
   |old hv=>exact ⟨F,A6.refl F,hv.mono e,hcs',hwF,kp'⟩
   |tup T o vs kk cs ev hT ho hc hd hv ex=>
    have hT':s'.heap.get? T=none:=by
     cases q:s'.heap.get? T with
     |none=>rfl
     |some o'=>exact absurd (Heap.lt_size q) (Nat.not_lt.mpr hT)
    have hFT:F T=none:=(hcs.st.w'.dead hT').1
    have hX:¬XP acc Lc T:=by
     rintro (rfl|hx)
     ·refine xa1_1 hcs.ac.live ?_;intro o' h1;rw [hT'] at h1;exact Ak h1
     ·refine xa1_1 (hcs.fr.live _ hx) ?_;intro o' h1;rw [hT'] at h1;exact Ak h1
    subst ev
    rw [ex]
    refine ⟨_,AQ o hFT,.tup (Ar _ _ _) hc hd ((hv.mono e).mono (AQ o hFT)),hcs'.add ho hFT (hcs.st.dead hT') hX,fun b hb=>?_,⟨(hcs'.add ho hFT (hcs.st.dead hT') hX).st.w',kp'.e.trans (AQ o hFT),kp'.kg,fun b o' q=>?_⟩⟩
    ·rw [Az]
     ·exact hwF b hb
     ·rintro rfl
      refine xa1_2 (W.inert i _ st b hb) ?_;intro o' h1 zu
      rw [hT'] at h1;exact Ak h1
    ·by_cases z:b=T
     ·subst z
      exact .inr (kp.dead hX hT')
     ·rw [Az _ _ z] at q;exact kp'.new b o' q
  clear hv kp hcs hw3
  refine xa1_5 key ?_;(try clear key);intro F₂ e₂ hv hcs hwF kp
  refine cps fun zP zk=>?_;(rcases turn a hxm with ⟨bl',ok,ha,hl,hk,ht,h1,h2⟩)<;>(refine zk ?_;clear zk zP)
  refine wpAny_bind (wpAny_mono (ha F₂ _ v hcs.st.w'.fz hcs.fr hv) (fun zu s₃ z=>?_) fun zu zu x=>x.elim)
  refine xa2_3 z ?_;(try clear z);intro h3 t3;rintro rfl;intro b3 k3
  have hcs3:=hcs.asg (t:=t3) b3 k3
  have wL:∀b∈wr,¬XL Lc b:=fun b hb q=>(hw b hb).2.2 (.inr q)
  have fpk:∀{F4:FH} {s4:Shared},A6 F₂ F4→Wp C A hp F4 s4→(∀b∈wr,∀o,h'.get? b=some o→s4.heap.get? b=some o)→St (i+1) s4.heap:=fun {F4 s4} e4 w4 hwk=>W.frame _ _ _ st' fun b hb o ho=>by
   rcases W.frz b hb with q|⟨o',q⟩
   ·exact hwk b q o ho
   ·have q3:=hcs.st.w'.fz b o' (e₂ _ _ (e _ _ q))
    dsimp only at q3
    rw [ho] at q3;(have zc:=Option.some.inj q3;clear q3;subst zc)
    exact w4.fz _ _ (e4 _ _ (e₂ _ _ (e _ _ q)))
  have kp3:=kp.mod (h':=h3) (t:=t3) hcs3.st.w' fun b o o' hb zu e2=>k3 b o' (fun q=>hb (.inr q)) e2
  have wh:∀b∈wr,hp b=none:=fun b hb=>(hcs.st.w.dead (hw b hb).1).2
  refine wpAny_bind (ht.use (hcs3.ctx c cs hk) fun F₃ s₄ ok' st4 c4 r4=>?_)
  subst r4
  have hcs4:=hcs3.step st4
  have kp4:=kp3.step st4 hcs4.off
  have ind:∀b∈wr,∀o,h'.get? b=some o→∀es ep,o.data≠.dict es ep:=fun b hb o ho=>by
   refine xa1_2 (W.inert _ _ st' b hb) ?_;intro o' h1 h2
   rw [ho] at h1;(have zc:=Option.some.inj h1;clear h1;subst zc);exact h2.2
  have wr4:∀b∈wr,∀o,h'.get? b=some o→s₄.heap.get? b=some o:=fun b hb o ho=>st4.k (k3 b o (wL b hb) ho) (wh b hb) (ind b hb o ho)
  have hwF4:∀b∈wr,F₃ b=none:=fun b hb=>by
   refine xa1_2 (W.inert _ _ st' b hb) ?_;intro o ho zu
   exact st4.off (hwF b hb) (k3 b o (wL b hb) ho)
  have out:(ys++(l.take i).flatMap em)++em a=ys++(l.take (i+1)).flatMap em:=by
   rw [List.take_add_one,hx];simp
  cases ok with
  |false=>
   simp only [Bool.false_eq_true,if_false]
   have:ys++(l.take (i+1)).flatMap em=ys++(l.take i).flatMap em:=by rw [←out,h2 rfl,List.append_nil]
   exact wpAny_pure (.inl ⟨rfl,n - 1,by exact BV [_,_] [(1,(Zs Z0),Z1)] Z0 Z1 rfl (Nat.le_of_eq (Nat.sub_add_cancel (Ax [_,_,_] [(1,Z1,(Za Z2 Z0)),(1,(Zs Z2),Z1)] (Zn 1) Z0 rfl (Nat.le_of_eq (Eq.symm hn)) hlt))),i+1,F₃,by rw [this];exact hcs4.weak hl,e.trans (e₂.trans st4.e),fpk st4.e hcs4.st.w' wr4,by rw [List.length_map];exact Nat.le_antisymm (Ax [_,_,_,_] [(1,(Za Z0 Z3),Z2),(1,(Zs Z1),Z3)] (Za (Zs Z0) Z1) Z2 rfl (Nat.le_of_eq hn) (Nat.le_of_eq (Nat.sub_add_cancel (Ax [_,_,_] [(1,Z1,(Za Z2 Z0)),(1,(Zs Z2),Z1)] (Zn 1) Z0 rfl (Nat.le_of_eq (Eq.symm hn)) hlt)))) (Ax [_,_,_,_] [(1,Z0,(Za Z1 Z3)),(1,Z3,(Zs Z2))] Z0 (Za (Zs Z1) Z2) rfl (Nat.le_of_eq (Eq.symm hn)) (CG _ _)),hwF4,kp4⟩)
  |true=>
   simp only [if_true]
   refine wpAny_mono (h1 rfl F₃ s₄ _ _ _ hcs4 ?_ fun F₅ s₅ hcs5 kp5=>?_) (fun zu zu z=>z) fun zu zu x=>x.elim
   ·have e1:(ys++l.flatMap em)=((ys++(l.take i).flatMap em)++em a)++(l.drop (i+1)).flatMap em:=by
     rw [out,List.append_assoc,←List.flatMap_append,List.take_append_drop]
    have:=congrArg List.length e1
    simp only [List.length_append] at this hz ⊢
    exact Ax [_,_,_,_,_] [(1,(Za Z0 Z3),(Zn 100000)),(1,(Za (Za (Za Z0 Z1) Z2) Z4),(Za Z0 Z3))] (Za (Za Z0 Z1) Z2) (Zn 100000) rfl hz (Nat.le_of_eq (Eq.symm this))
   ·rw [out] at hcs5
    have wr5:∀b∈wr,∀o,h'.get? b=some o→s₅.heap.get? b=some o:=fun b hb o ho=>kp5.k (hw b hb).2.2 (wr4 b hb o ho) (wh b hb) (ind b hb o ho)
    exact wpAny_pure (.inl ⟨rfl,n - 1,by exact BV [_,_] [(1,(Zs Z0),Z1)] Z0 Z1 rfl (Nat.le_of_eq (Nat.sub_add_cancel (Ax [_,_,_] [(1,Z1,(Za Z2 Z0)),(1,(Zs Z2),Z1)] (Zn 1) Z0 rfl (Nat.le_of_eq (Eq.symm hn)) hlt))),i+1,F₅,hcs5.weak hl,e.trans (e₂.trans (st4.e.trans kp5.e)),fpk (st4.e.trans kp5.e) hcs5.st.w' wr5,by rw [List.length_map];exact Nat.le_antisymm (Ax [_,_,_,_] [(1,(Za Z0 Z3),Z2),(1,(Zs Z1),Z3)] (Za (Zs Z0) Z1) Z2 rfl (Nat.le_of_eq hn) (Nat.le_of_eq (Nat.sub_add_cancel (Ax [_,_,_] [(1,Z1,(Za Z2 Z0)),(1,(Zs Z2),Z1)] (Zn 1) Z0 rfl (Nat.le_of_eq (Eq.symm hn)) hlt)))) (Ax [_,_,_,_] [(1,Z0,(Za Z1 Z3)),(1,Z3,(Zs Z2))] Z0 (Za (Zs Z1) Z2) rfl (Nat.le_of_eq (Eq.symm hn)) (CG _ _)),fun b hb=>by
     refine xa1_2 (W.inert _ _ st' b hb) ?_;intro o ho zu
     exact kp5.off (hwF4 b hb) (wr4 b hb o ho),kp4.trans kp5 hcs5.off⟩)
end
end
end
section
section
variable {C:Cf} {A:Around} {hp:HP} {s s':Shared} {env:Env} {F F':FH} {E:Value→Shared→Prop}
theorem HN {scope:Scope} {globals:Addr} {cl:List (Str×Addr)} {qual:Str} {M:Model} {Q:Env→Shared→Prop}
  (h:Q { scope,locals:=s.heap.objs.size,globals,cells:=cellsFrom (s.heap.objs.size+1) scope.names cl,qual,func:=none,code:=env.code,frame:=env.frame,builtins:=env.builtins } { s with heap:=pushCells (s.heap.push { cls:=.type "dict",data:=.dict #[] }) scope.names }) :
  wpAny M A (newFunctionEnv scope globals cl [] qual none .none (some env)) Q E s:=by
 simp only [newFunctionEnv,Option.isSome_some,if_true]
 refine wpAny_bind (wpAny_alloc ?_)
 refine wpAny_bind (wpAny_layCells _ (fun name kind cells=>by cases hkc:kind == NameKind.cell<;>simp [hkc]) _ _ _ _ ?_)
 rw [show ({ s with heap:=s.heap.push { cls:=.type "dict",data:=.dict #[] } }:Shared).heap.objs.size=s.heap.objs.size+1 from Heap.size_push ..]
 exact wpAny_bind (wpAny_pure (wpAny_pure h))
theorem Ib {elt:Expr} {gens:List Comprehension} {scope:Scope} {pos:Pos} {d:Nat} {target iter:Expr} {ifs:List Expr} {it:Addr} {acc:Value} {cenv:Env} {R:Result→Shared→Prop} (hg:gens[d]? = some ⟨target,iter,ifs,0⟩)
  (hself:∀(Q:Value→Shared→Prop) (E:Value→Shared→Prop),Q (.ref it) s→wpAny (model C.prog C.w) A (pyIter (.ref it)) Q E s)
  (h0:codeAny (model C.prog C.w) A (.compLoop (.ListComp elt gens scope pos) d (.ref it) acc cenv) R s):codeAny (model C.prog C.w) A (.compStart (.ListComp elt gens scope pos) d (.ref it) acc cenv) R s:=by
 refine codeAny_of_tree ?_
 show wpAny _ _ ((compStart (.ListComp elt gens scope pos) d (.ref it) acc cenv).onRaise (fun x=>do noteFrame x cenv;standAt theWindowsPlace)) _ _ s
 refine wpAny_notedAt ?_
 have hc:(clausesOf (.ListComp elt gens scope pos))[d]? = some ⟨target,iter,ifs,0⟩:=hg
 unfold compStart
 rw [hc]
 show wpAny _ _ (ask >>= _) _ _ s
 refine wpAny_bind (wpAny_askSetting (wpAny_ite ?_))
 split
 ·first
   |exact wpAny_bind (wpAny_pure (wpAny_pure (And.intro rfl h0)))
   |exact wpAny_pure (And.intro rfl h0)
 ·first
   |exact wpAny_bind (wpAny_rule (wpAny_bind (wpAny_standAt (wpAny_bind (hself _ _ (wpAny_pure (And.intro rfl h0)))))))
   |(refine wpAny_bind (wpAny_rule ?_);show wpAny _ _ (standAt iter.pos >>= _) _ _ s;exact wpAny_bind (wpAny_standAt (wpAny_bind (hself _ _ (wpAny_pure (And.intro rfl h0))))))
theorem CS.app {F₀:FH} {s₀:Shared} {acc:Addr} {Lc:LA} {bl:BL} {ys zs:List AV} (h:CS C A hp F₀ s₀ acc Lc bl ys F s) {h':Heap} {t:Nat} (a:Dy F h' acc zs) (k:∀b o,b≠acc→s.heap.get? b=some o→h'.get? b=some o):CS C A hp F₀ s₀ acc Lc bl zs F ⟨h',s.gens,s.drawn,t,s.os⟩:=
 ⟨h.st.mod (X:=(·=acc)) (fun b hb=>by subst hb;exact ⟨h.na,h.oa⟩) k,a,h.fr.keep (A6.refl F) fun a x o=>k _ o (fun q=>h.ne (by rw [←q];exact x)),h.oa,h.oL,h.na,h.nL,h.ne⟩
theorem Im {scope:Scope} {loc:PL} {F₀:FH} {s₀:Shared} {acc:Addr} {Lc:LA} {bl:BL} {elt:Expr} {v:AV} (c:CC C A hp F₀ s₀ env loc) (cs:AU env scope) (hk:NJ env scope Lc bl)
  (h:PE C A hp (AB env scope Lc) (J7 scope loc bl) elt (v,false)):Mv C A hp F₀ s₀ acc Lc bl (IK elt (.ref acc) (AB env scope Lc)) [v]:=by
 intro F s ys k R hcs hlen hgo
 refine wpAny_bind (wpAny_bind (h.use (hcs.ctx c cs hk) fun F₁ s₁ vv st c₁ r=>wpAny_bind ?_))
 have hcs₁:=hcs.step st
 refine xa2_2 hcs₁.ac ?_;intro ws n hl hv
 refine call_meets PySem.F.slot_list_append ⟨_,hl,rfl⟩ PySem.F.entry_list_append (PySem.F.args_list_append_2 _ _) (PySem.list_append acc ws.toArray n vv (by rw [List.size_toArray,hv.length,sizeLine_eq];simp at hlen;with_reducible exact CM ‹_› (by decide))) ⟨hl,wpAny_pure ?_⟩
 have hl2:IsL s₁.heap acc ws.toArray n:=hl
 have hl':=hl2.update (fun x=>x.push vv)
 rw [List.push_toArray] at hl'
 have kk:=SameBut.rest (Heap.SameBut.update s₁.heap acc (Obj.mapSeq fun x=>x.push vv))
 have hcs2:=hcs₁.app (t:=s₁.toks) ⟨_,_,hl',hv.append (.cons r.out .nil)⟩ kk
 exact hgo F₁ _ hcs2 ((st.kept _).mod hcs2.st.w' fun b o o' hb zu e=>kk b o' (fun q=>hb (.inl q)) e)
theorem J6 {elt:Expr} {gens gs:List Comprehension} {scope:Scope} {pos:Pos} {target iter:Expr} {ifs:List Expr} {rest:Addr→Env→Sem Fin→Sem Fin} (hgens:gens=⟨target,iter,ifs,0⟩::gs)
  (teq:∀it acc cenv,Il (.ListComp elt gens scope pos) 0 (.ref it) (.ref acc) cenv target iter ifs (rest acc cenv)) (cs:AU env scope) {loc:PL} {α:Type} {l:List α} {g:α→AV} (hi:PI C A hp env loc target iter (l.map g)) (em:α→List AV) (c:CC C A hp F s env loc)
  (turn:∀acc L,∀a∈l,MV C A hp env scope loc F s acc (L,md scope) target ifs (rest acc (AB env scope (L,md scope))) [] (g a) (em a)) (hz:(l.flatMap em).length≤100000) {use:Option (Value→Sem Unit)} {Q:Value→Shared→Prop}
  (hQ:∀F' s' acc Lc,CS C A hp F s acc Lc [] (l.flatMap em) F' s'→compPost (model C.prog C.w) A E use Q (.ref acc) Lc.1 (.ok .next) s')
  (hs:∀x,foldedSetIterable iter env x=pure x:=by intro zu;rfl) :
  wpAny (model C.prog C.w) A (comprehension (.ListComp elt gens scope pos) scope env (firstIterPos gens pos) (newList []) (firstAsync gens) (firstIter gens env) use) Q E s:=by
 subst hgens
 refine wpAny_comprehension_free (use:=use) (g:=⟨target,iter,ifs,0⟩) (gs:=gs) rfl hs (cs.closure fun x hx=>c.cells x hx) cs.kind (fun x hx hl=>?_) ?_
 ·have:=List.all_eq_true.mp cs.lo _ hx
  rw [hl] at this
  simpa using this
 show wpAny _ A (eval iter env) _ _ s
 refine wpAny_mono (hi F s E c) (fun v s₁ z=>wpAny_mono z (fun iv s₂ z=>?_) fun zu zu x=>x) fun zu zu x=>x
 refine cps fun zP zk=>?_;(rcases z with ⟨F₂,I,fp,wr,St,st,rfl,W,h0,hw⟩)<;>(refine zk ?_;clear zk zP)
 refine wpAny_newList ?_
 generalize hacc:s₂.heap.objs.size=acc
 have a0:s₂.heap.get? acc=none:=by rw [←hacc];exact EJ _
 refine HN ?_
 have hL0:(s₂.heap.push { cls:=.type "list",data:=.seq ([]:List Value).toArray }).objs.size=acc+1:=by rw [←hacc,Heap.size_push]
 generalize hh0:s₂.heap.push { cls:=.type "list",data:=.seq ([]:List Value).toArray }=h₀' at hL0 ⊢
 dsimp only
 have kh0:∀b o,s₂.heap.get? b=some o→h₀'.get? b=some o:=fun b o e=>by rw [←hh0];exact Heap.get?_push_of_some _ e
 have hacc':h₀'.get? acc=some { cls:=.type "list",data:=.seq ([]:List Value).toArray }:=by rw [←hh0,←hacc];exact Heap.get?_push_size _ rfl
 rw [hL0]
 generalize hh1:pushCells (h₀'.push { cls:=.type "dict",data:=.dict #[] }) scope.names=h₁
 have k₁:∀b o,h₀'.get? b=some o→h₁.get? b=some o:=fun b o e=>by rw [←hh1];exact pushCells_keeps _ _ _ _ (Heap.get?_push_of_some _ e)
 have k₂:∀b o,s₂.heap.get? b=some o→h₁.get? b=some o:=fun b o e=>k₁ b o (kh0 b o e)
 have dead:∀b,acc<b→s₂.heap.get? b=none:=fun b hb=>by
  cases q:s₂.heap.get? b with
  |none=>rfl
  |some o=>have:=Heap.lt_size q;rw [hacc] at this;exact absurd this (Nat.not_lt.mpr (Nat.le_of_lt hb))
 have dX:∀b,XL (acc+1,md scope) b→acc<b:=fun b hb=>by
  rcases hb with rfl|⟨_,rfl⟩
  ·exact Nat.lt_succ_self _
  ·exact Nat.lt_succ_of_lt (Nat.lt_succ_self _)
 have hns:h₁.Ns (acc+1) (fun _=>none):=by
  rw [←hh1,←hL0]
  exact (Heap.Ns.new h₀' (.type "dict")).keeps (pushCells_keeps _ _)
 have hcl:md scope=true→h₁.IsCell (acc+1+1) none:=fun hm=>by
  refine xa1_2 (List.any_eq_true.mp hm) ?_;intro zq;refine cps fun zP zk=>?_;(rcases zq with ⟨y,kd⟩)<;>(refine zk ?_;clear zk zP);intro hy hk
  have hk:kd=.cell:=by simpa using hk
  subst hk
  have ok:=cellsFrom_ok scope.names (h₀'.push { cls:=.type "dict",data:=.dict #[] }) (acc+1) [] ⟨fun _ _ hm=>(nomatch hm),List.Pairwise.nil⟩ (by rw [Heap.size_push,hL0];exact Nat.le_succ _)
  rw [Heap.size_push,hL0] at ok
  rw [←hh1]
  exact (ok.empty y (acc+1+1) (by rw [cs.one hy];simp)).1
 generalize hs4:(⟨h₁,s₂.gens,s₂.drawn,s₂.toks,s₂.os⟩:Shared)=s₄
 have st4:BD C A hp F₂ s₂ F₂ s₄:=hs4▸BD.keep (t:=s₂.toks) st.w' k₂
 have hcs:CS C A hp F s acc (acc+1,md scope) [] [] F₂ s₄:=by
  refine ⟨st.trans st4,⟨[],0,?_,.nil⟩,⟨_,none,by rw [←hs4];exact hns,fun q=>by rw [←hs4];exact hcl q,fun x a e=>by exact Ak e⟩,(st.w'.dead a0).1,fun b hb=>(st.w'.dead (dead b (dX b hb))).1,st.dead a0,fun b hb=>st.dead (dead b (dX b hb)),fun q=>absurd (dX _ q) (Nat.lt_irrefl _)⟩
  rw [←hs4]
  exact k₁ _ _ hacc'
 have hw':∀b∈wr,s.heap.get? b=none∧s.heap.get? b=none∧¬XP acc (acc+1,md scope) b:=fun b hb=>⟨(hw b hb).1,(hw b hb).1,by
  refine xa1_2 (W.inert _ _ h0 b hb) ?_;intro o ho zu
  rintro (rfl|hx)
  ·rw [a0] at ho;exact Ak ho
  ·rw [dead b (dX b hx)] at ho;exact Ak ho⟩
 have st0:St 0 s₄.heap:=W.frame _ _ _ h0 fun b zu o e=>by rw [←hs4];exact k₂ b o e
 show codeAny _ A (.compStart _ 0 (.ref I) (.ref acc) (AB env scope (acc+1,md scope))) _ _
 refine Ib (d:=0) (target:=target) (iter:=iter) (ifs:=ifs) rfl (fun Q E q=>W.self 0 s₄ Q E st0 q) ?_
 refine Ic (teq _ _ _) W c cs em (turn acc (acc+1)) (ys:=[]) (by simpa using hz) hw' ⟨0,F₂,by simpa using hcs,A6.refl F₂,st0,by simp,fun b hb=>(hw b hb).2,(st.trans st4).kept _⟩ fun F' s' h' kp=>hQ F' s' acc (acc+1,md scope) (by simpa using h')
theorem KR {F₀:FH} {s₀:Shared} {acc:Addr} {Lc:LA} {bl:BL} {ys:List AV} (h:CS C A hp F₀ s₀ acc Lc bl ys F s):compPost (model C.prog C.w) A E none (BA C A hp F₀ s₀ fun F' v=>BB hp F' (.lst ys,false) v) (.ref acc) Lc.1 (.ok .next) s:=by
 refine xa2_2 h.fr ?_;intro m c hm zu
 refine ⟨m,hm,fun h' hs'=>?_⟩
 have k:=SameBut.rest hs'
 refine xa2_2 h.ac ?_;intro vs n hl hv
 have ha:=k _ _ (fun q=>h.ne (.inl q)) hl
 have st:=(h.st.mod (X:=(·=Lc.1)) (fun b hb=>by subst hb;exact ⟨h.nL _ (.inl rfl),h.oL _ (.inl rfl)⟩) k (t:=s.toks)).add ha h.oa h.na
 exact ⟨_,st,.val (.lst (Ar _ _ _) rfl rfl (hv.mono (AQ _ h.oa)))⟩
noncomputable def Mb (C:Cf) (A:Around) (hp:HP) (env:Env) (loc:PL) (elt:Expr) (gens:List Comprehension) (scope:Scope) (pos:Pos) (res:List AV):Prop:=
 ∀F s (E:Value→Shared→Prop) (use:Option (Value→Sem Unit)) (Q:Value→Shared→Prop),CC C A hp F s env loc→(∀F' s' acc Lc,CS C A hp F s acc Lc [] res F' s'→compPost (model C.prog C.w) A E use Q (.ref acc) Lc.1 (.ok .next) s') →
  wpAny (model C.prog C.w) A (comprehension (.ListComp elt gens scope pos) scope env (firstIterPos gens pos) (newList []) (firstAsync gens) (firstIter gens env) use) Q E s
theorem H5 {loc:PL} {elt:Expr} {gens:List Comprehension} {scope:Scope} {pos:Pos} {res:List AV} (h:Mb C A hp env loc elt gens scope pos res):PE C A hp env loc (.ListComp elt gens scope pos) (.lst res,false):=.mk fun F s E c=>by
 rw [eval_ListComp]
 exact h F s E none _ c fun F' s' acc Lc h=>KR h
theorem N2 {elt target iter:Expr} {ifs:List Expr} {scope:Scope} {pos:Pos} {loc:PL} {α:Type} {l:List α} {g:α→AV} (cs:AU env scope) (hi:PI C A hp env loc target iter (l.map g)) (em:α→List AV)
  (turn:∀F s acc L,CC C A hp F s env loc→∀a∈l,MV C A hp env scope loc F s acc (L,md scope) target ifs (IK elt (.ref acc) (AB env scope (L,md scope))) [] (g a) (em a)) (hz:(l.flatMap em).length≤100000)
  (hs:∀x,foldedSetIterable iter env x=pure x:=by intro zu;rfl):Mb C A hp env loc elt [⟨target,iter,ifs,0⟩] scope pos (l.flatMap em):=by
 intro F s E use Q c hQ
 exact J6 (gs:=[]) (rest:=fun acc cenv=>IK elt (.ref acc) cenv) rfl (fun it acc cenv=>turn1 ..) cs hi em c (fun acc L=>turn F s acc L c) hz hQ hs
end
end
section
section
variable {C:Cf} {A:Around} {hp:HP} {s s':Shared} {env:Env} {F F':FH} {E:Value→Shared→Prop} {loc:PL}
theorem DX {x:Str} {px pos:Pos} {args:List Expr} {f:Value} {pvs:List PV} {Q:Value→Shared→Prop} (hg:GL C x f) (hf:∀h':Heap,(∀b o,C.h0.get? b=some o→h'.get? b=some o)→CU C h' f) (hv:H9 C A hp env loc args pvs) (c:CC C A hp F s env loc)
  (k:∀F₁ s₁ us,BD C A hp F s F₁ s₁→CC C A hp F₁ s₁ env loc→Dm hp F₁ pvs us→wpAny (model C.prog C.w) A (PySem.call f us) Q E s₁) (hk:env.kindOf x=some .globalImplicit:=by rfl)
  (he:eval (.Call (.Name x px) args [] pos) env=(do callWith pos (←eval (.Name x px) env) [] (AN env args) []):=by rfl) (hd:(x == ("__debug__" : Str))=false:=by decide):wpAny (model C.prog C.w) A (eval (.Call (.Name x px) args [] pos) env) Q E s:=by
 rw [he]
 refine wpAny_bind (wpAny_Name ?_ hd)
 rw [Dc c.kind hk]
 refine hg env c.glob.1 c.glob.2 A _ E s c.wp.old (Bn (AS (C5 env args) rfl (hv.pes.use c fun F₁ s₁ us st c₁ r=>?_)))
 exact wpAny_pure ⟨hf _ c₁.wp.old,k F₁ s₁ us st c₁ r⟩
noncomputable def PK (C:Cf) (A:Around) (hp:HP) (f:Value) (pvs:List PV) (pv:PV):Prop:=
 ∀F s (E:Value→Shared→Prop) us,Wp C A hp F s→Dm hp F pvs us→wpAny (model C.prog C.w) A (PySem.call f us) (BA C A hp F s fun F' v=>BB hp F' pv v) E s
theorem AX {x:Str} {px pos:Pos} {args:List Expr} {f:Value} {pvs:List PV} {pv:PV} (hg:GL C x f) (hv:H9 C A hp env loc args pvs) (h:PK C A hp f pvs pv) (hf:∀h':Heap,(∀b o,C.h0.get? b=some o→h'.get? b=some o)→CU C h' f:=by exact fun zu zu=>AG (by intro a;simp)) (hk:env.kindOf x=some .globalImplicit:=by rfl)
  (he:eval (.Call (.Name x px) args [] pos) env=(do callWith pos (←eval (.Name x px) env) [] (AN env args) []):=by rfl) (hd:(x == ("__debug__" : Str))=false:=by decide):PE C A hp env loc (.Call (.Name x px) args [] pos) pv:=.mk fun F s E c=>
 DX hg hf hv c (fun F₁ s₁ us st c₁ r=>wpAny_mono (h F₁ s₁ E us c₁.wp r) (fun zu zu q=>q.pre st) fun zu zu x=>x) hk he hd
theorem BB.lstI {xs:List AV} {b:Bool} {v:Value} (r:BB hp F (.lst xs,b) v) (w:Wp C A hp F s):∃a o vs n,v=.ref a∧s.heap.get? a=some o∧o.cls=.type "list"∧o.data=.seq vs.toArray n∧VRs F xs vs∧(b=false→F a=some o):=by
 cases r with
 |val r=>
  refine xa4_5 r.lstInv ?_;intro a o vs n;rintro rfl;intro h1 h2 h3 h4
  exact ⟨a,o,vs,n,rfl,w.fz _ _ h1,h2,h3,h4,fun zu=>h1⟩
 |own h1=>
  refine cps fun zP zk=>?_;(rcases w.ob _ _ h1 with ⟨zu,o,h2,r⟩)<;>(refine zk ?_;clear zk zP)
  (refine OR.listC r fun zv zv q1 q2 q3 q4 q5=>?_;clear r)
  exact ⟨_,o,_,_,rfl,h2,q1,q4,q5,fun q=>nomatch q⟩
theorem BB.tupI {xs:List AV} {v:Value} (r:BB hp F (.tup xs,false) v) (w:Wp C A hp F s):∃a o vs n,v=.ref a∧s.heap.get? a=some o∧o.cls=.type "tuple"∧o.data=.seq vs.toArray n∧VRs F xs vs∧F a=some o:=by
 refine xa4_5 r.out.tupInv ?_;intro a o vs n;rintro rfl;intro h1 h2 h3 h4
 exact ⟨a,o,vs,n,rfl,w.fz _ _ h1,h2,h3,h4,h1⟩
theorem JQ.one {target:Expr} {xs:List AV} {fp:List Addr} {n:Nat} {P:Nat→Value→Prop} {St:Nat→Heap→Prop} {c:String} (w:Wp C A hp F s) (W:Walks C.prog C.w A s.heap.objs.size fp [s.heap.objs.size] n P St) (hn:xs.length=n) (hv:∀i x v,xs[i]? = some x→P i v→VR F x v) (hc:Db.contains c=false)
  (cls:∀i h,St i h→∃o vs,h.get? s.heap.objs.size=some o∧o.cls=.type c∧o.data=.fields vs) {o:Obj} {t:Nat} (hf:o.isFreed=false) (h0:St 0 (s.heap.push o)) (hfp:∀b∈fp,b=s.heap.objs.size∨∃o,F b=some o) :
  JQ C A hp F s target xs (.ref s.heap.objs.size) ⟨s.heap.push o,s.gens,s.drawn,t,s.os⟩:=by
 refine ⟨F,_,fp,_,St,.keep w fun b ob e=>Heap.get?_push_of_some _ e,rfl,Wk.ofWalks W hn hv (fun b hb=>?_) (fun i h st b hb=>?_) c hc (fun i h st=>let ⟨o,vs,h1,h2,_⟩:=cls i h st;⟨o,h1,h2⟩),h0,fun b hb=>?_⟩
 ·rcases hfp b hb with rfl|h1
  ·exact .inl (List.mem_singleton_self _)
  ·exact .inr h1
 ·refine xa2_3 (cls i h st) ?_;intro o vs h1 zu h3
  rw [List.mem_singleton.mp hb]
  exact ⟨o,h1,A0 h3⟩
 ·rw [List.mem_singleton.mp hb]
  exact ⟨EJ _,(w.dead (EJ _)).1⟩
inductive JJ:PV→List AV→Prop
 |lst {xs b}:JJ (.lst xs,b) xs
 |tup {xs}:JJ (.tup xs,false) xs
 |str {x}:JJ (.str x,false) (AT x)
inductive Nz (F:FH) (h:Heap) (xs:List AV) (q:Bool) (v:Value):Prop
 |lst (a:Addr) (o:Obj) (vs:List Value) (n:Nat) (e:v=.ref a) (h1:h.get? a=some o) (h2:o.cls=.type "list") (h3:o.data=.seq vs.toArray n) (h4:VRs F xs vs) (hq:q=false→F a=some o)
 |tup (a:Addr) (o:Obj) (vs:List Value) (n:Nat) (e:v=.ref a) (h1:h.get? a=some o) (h2:o.cls=.type "tuple") (h3:o.data=.seq vs.toArray n) (h4:VRs F xs vs) (hq:q=false→F a=some o)
 |str (x:Str) (t:Tok) (e:v=.str x t) (ex:xs=AT x)
theorem JJ.at {pv:PV} {xs:List AV} {v:Value} (hs:JJ pv xs) (r:BB hp F pv v) (w:Wp C A hp F s):Nz F s.heap xs pv.2 v:=by
 cases hs with
 |lst=>
  refine xa4_6 (r.lstI w) ?_;intro a o vs n;rintro rfl;intro h1 h2 h3 h4 h5
  exact .lst a o vs n rfl h1 h2 h3 h4 h5
 |tup=>
  refine xa4_6 (r.tupI w) ?_;intro a o vs n;rintro rfl;intro h1 h2 h3 h4 h5
  exact .tup a o vs n rfl h1 h2 h3 h4 fun zu=>h5
 |str=>
  refine xa1_1 r.out.strI ?_;intro t;rintro rfl
  exact .str _ t rfl rfl
theorem JQ.pre {target:Expr} {xs:List AV} {F₁:FH} {s₁:Shared} {iv:Value} (st:BD C A hp F s F₁ s₁) (z:JQ C A hp F₁ s₁ target xs iv s'):JQ C A hp F s target xs iv s':=by
 refine cps fun zP zk=>?_;(rcases z with ⟨F',I,fp,wr,St,st',e,W,h0,hw⟩)<;>(refine zk ?_;clear zk zP)
 exact ⟨F',I,fp,wr,St,st.trans st',e,W,h0,fun b hb=>⟨st.dead (hw b hb).1,(hw b hb).2⟩⟩
theorem D6 {target iter:Expr} {pv:PV} {xs:List AV} (hA:A.handled=none) (h:PE C A hp env loc iter pv) (hs:JJ pv xs) (hb:pv.2=false:=by rfl):PI C A hp env loc target iter xs:=fun F s E c=>by
 refine h.use c fun F₁ s₁ v st₁ c₁ r=>?_
 have ntop:∀{a o},s₁.heap.get? a=some o→a≠s₁.heap.objs.size:=fun e=>Nat.ne_of_lt (Heap.lt_size e)
 cases hs.at r c₁.wp with
 |lst a o vs n e h1 h2 h3 h4 hq=>
  subst e
  refine wpAny_pyIter_list ⟨o,h1,h2,n,h3⟩ ((JQ.one c₁.wp (Walks.list hA s₁.heap.objs.size a (ntop h1) vs.toArray) (by rw [List.size_toArray,h4.length]) h4.arr (c:="list_iterator") (by decide) (fun i h st=>?_) rfl ⟨⟨_,Heap.get?_push_size _ rfl,rfl,rfl⟩,⟨o,Heap.get?_push_of_some _ h1,h2,n,h3⟩⟩ fun b hb'=>?_).pre st₁)
  ·refine xa0_2 st ?_;(try clear st);intro zq;refine xa1_3 zq ?_;(try clear zq);intro o q1 q2 q3;intro zu;exact ⟨o,_,q1,q2,q3⟩
  ·rcases List.mem_cons.mp hb' with rfl|hb'
   ·exact .inl rfl
   ·rw [List.mem_singleton.mp hb'];exact .inr ⟨_,hq hb⟩
 |tup a o vs n e h1 h2 h3 h4 hq=>
  subst e
  refine wpAny_pyIter_tuple ⟨o,h1,h2,n,h3⟩ ((JQ.one c₁.wp (Walks.tuple hA s₁.heap.objs.size a (ntop h1) vs.toArray) (by rw [List.size_toArray,h4.length]) h4.arr (c:="tuple_iterator") (by decide) (fun i h st=>?_) rfl ⟨⟨_,Heap.get?_push_size _ rfl,rfl,rfl⟩,⟨o,Heap.get?_push_of_some _ h1,h2,n,h3⟩⟩ fun b hb'=>?_).pre st₁)
  ·refine xa0_2 st ?_;(try clear st);intro zq;refine xa1_3 zq ?_;(try clear zq);intro o q1 q2 q3;intro zu;exact ⟨o,_,q1,q2,q3⟩
  ·rcases List.mem_cons.mp hb' with rfl|hb'
   ·exact .inl rfl
   ·rw [List.mem_singleton.mp hb'];exact .inr ⟨_,hq hb⟩
 |str x t e ex=>
  subst e ex
  refine wpAny_pyIter_strU ?_
  have key:∀c,strIterType x=c→Db.contains c=false→Walks C.prog C.w A s₁.heap.objs.size [s₁.heap.objs.size] [s₁.heap.objs.size] x.cps.size (SignAt x) (fun i h=>h.IsStrIter s₁.heap.objs.size c x t i) →
    JQ C A hp F₁ s₁ target (AT x) (.ref s₁.heap.objs.size) ⟨s₁.heap.push { cls:=.type (strIterType x),data:=.fields #[.str x t,.int 0 0] },s₁.gens,s₁.drawn,s₁.toks,s₁.os⟩:=fun c hc hn W=>by
   refine JQ.one c₁.wp W (Ew x) (fun i y v hy hP=>?_) hn (fun i h st=>?_) rfl ⟨_,Heap.get?_push_size _ rfl,by rw [hc],rfl⟩ fun b hb=>.inl (List.mem_singleton.mp hb)
   ·refine xa1_2 (Gn hy) ?_;intro c hc;rintro rfl
    refine xa2_2 hP ?_;(try clear hP);intro c' u hc';rintro rfl
    rw [hc] at hc';(have zc:=Option.some.inj hc';clear hc';subst zc)
    exact .str _ _
   ·refine xa1_3 st ?_;(try clear st);intro o q1 q2 q3;exact ⟨o,_,q1,q2,q3⟩
  rcases E5 x with e|e
  ·exact (key _ e (by decide) (Walks.strAscii hA _ x t)).pre st₁
  ·exact (key _ e (by decide) (Walks.strWide hA _ x t)).pre st₁
end
end
section
section
variable {C:Cf} {A:Around} {hp:HP} {s s':Shared} {env:Env} {F F':FH} {E:Value→Shared→Prop} {loc:PL}
noncomputable def BP (a c:Int) (n:Nat):List AV:=(List.range n).map fun (i:Nat)=>.int (a+(i:Int)*c)
theorem HK {a c:Int} {n i:Nat} {y:AV} (h:(BP a c n)[i]? = some y):i<n∧y=.int (a+i*c):=by
 unfold BP at h
 rw [List.getElem?_map,Option.map_eq_some_iff] at h
 refine xa1_2 h ?_;(try clear h);intro j h1 h2
 refine xa1_1 (List.getElem?_eq_some_iff.mp h1) ?_;intro h3 h4
 simp at h3 h4
 subst h4;exact ⟨h3,h2.symm⟩
theorem D4 {target:Expr} {r:Addr} {a b c:Int} {t u v:Tok} {n:Nat} (hA:A.handled=none) (w:Wp C A hp F s) (hr:s.heap.get? r=some { cls:=.type "range",data:=.fields #[.int a t,.int b u,.int c v] }) (hsm:Builtin.Range.small a b c=true) (hn:Builtin.Range.rangeSize a b c=n) :
  wpAny (model C.prog C.w) A (pyIter (.ref r)) (JQ C A hp F s target (BP a c n)) E s:=by
 refine wpAny_pyIter_range (t:=t) (u:=u) (v:=v) hr hsm ?_
 rw [hn]
 refine JQ.one w (Walks.range hA s.heap.objs.size a c n) (by simp [BP]) (fun i x v hx hP=>?_) (c:="range_iterator") (by decide) (fun i h st=>⟨_,_,st,rfl,rfl⟩) rfl ?_ fun b hb=>.inl (List.mem_singleton.mp hb)
 ·refine xa0_2 (HK hx) ?_;intro zu;rintro rfl
  refine xa1_1 hP ?_;(try clear hP);intro t;rintro rfl
  exact .int _ _
 ·have e1:a+((0:Nat):Int)*c=a:=by simp
  have e2:(n:Int) - ((0:Nat):Int)=n:=by simp
  show IsRangeIter _ _ _ _ _
  rw [e1,e2]
  exact Heap.get?_push_size _ rfl
theorem Dm.inv {x:PV} {xs:List PV} {vs:List Value} (r:Dm hp F (x::xs) vs):∃v us,vs=v::us∧BB hp F x v∧Dm hp F xs us:=by
 cases r with
 |cons a b=>exact ⟨_,_,rfl,a,b⟩
theorem Dm.nilI {vs:List Value} (r:Dm hp F [] vs):vs=[]:=by cases (r);rfl
theorem JM {target:Expr} {x:Str} {px pos:Pos} {args:List Expr} {b:Int} {n:Nat} (hA:A.handled=none) (hg:GL C x (.type "range")) (hv:H9 C A hp env loc args [(.int b,false)]) (hsm:Builtin.Range.small 0 b 1=true) (hn:Builtin.Range.rangeSize 0 b 1=n) (hk:env.kindOf x=some .globalImplicit:=by rfl)
  (he:eval (.Call (.Name x px) args [] pos) env=(do callWith pos (←eval (.Name x px) env) [] (AN env args) []):=by rfl) (hd:(x == ("__debug__" : Str))=false:=by decide):PI C A hp env loc target (.Call (.Name x px) args [] pos) (BP 0 1 n):=fun F s E c=>
 DX hg (fun zu zu=>AG (by intro a;simp)) hv c (fun F₁ s₁ us st c₁ r=>by
  refine xa2_3 r.inv ?_;intro v us;rintro rfl;intro r1 r
  obtain rfl:=r.nilI
  refine xa1_1 r1.out.intI ?_;intro t;rintro rfl
  refine call_range_1 (wpAny_mono (D4 (F:=F₁) hA (BD.keep c₁.wp fun zu zu e=>Heap.get?_push_of_some _ e).w' (Heap.get?_push_size _ rfl) hsm hn) (fun zu zu q=>(q.pre (.keep c₁.wp fun zu zu e=>Heap.get?_push_of_some _ e)).pre st) fun zu zu x=>x)) hk he hd
theorem JL {target:Expr} {x:Str} {px pos:Pos} {args:List Expr} {a b:Int} {n:Nat} (hA:A.handled=none) (hg:GL C x (.type "range")) (hv:H9 C A hp env loc args [(.int a,false),(.int b,false)]) (hsm:Builtin.Range.small a b 1=true) (hn:Builtin.Range.rangeSize a b 1=n) (hk:env.kindOf x=some .globalImplicit:=by rfl)
  (he:eval (.Call (.Name x px) args [] pos) env=(do callWith pos (←eval (.Name x px) env) [] (AN env args) []):=by rfl) (hd:(x == ("__debug__" : Str))=false:=by decide):PI C A hp env loc target (.Call (.Name x px) args [] pos) (BP a 1 n):=fun F s E c=>
 DX hg (fun zu zu=>AG (by intro a;simp)) hv c (fun F₁ s₁ us st c₁ r=>by
  refine xa2_3 r.inv ?_;intro v us;rintro rfl;intro r1 r
  refine xa2_3 r.inv ?_;intro v2 us;rintro rfl;intro r2 r
  obtain rfl:=r.nilI
  refine xa1_1 r1.out.intI ?_;intro t;rintro rfl
  refine xa1_1 r2.out.intI ?_;intro t2;rintro rfl
  refine call_range_2 (wpAny_mono (D4 (F:=F₁) hA (BD.keep c₁.wp fun zu zu e=>Heap.get?_push_of_some _ e).w' (Heap.get?_push_size _ rfl) hsm hn) (fun zu zu q=>(q.pre (.keep c₁.wp fun zu zu e=>Heap.get?_push_of_some _ e)).pre st) fun zu zu x=>x)) hk he hd
theorem JK {target:Expr} {x:Str} {px pos:Pos} {args:List Expr} {a b d:Int} {n:Nat} (hA:A.handled=none) (hg:GL C x (.type "range")) (hv:H9 C A hp env loc args [(.int a,false),(.int b,false),(.int d,false)]) (hc:d≠0) (hpy:Builtin.divisionGoesByPylong (b - a) d=false) (hsm:Builtin.Range.small a b d=true) (hn:Builtin.Range.rangeSize a b d=n) (hk:env.kindOf x=some .globalImplicit:=by rfl)
  (he:eval (.Call (.Name x px) args [] pos) env=(do callWith pos (←eval (.Name x px) env) [] (AN env args) []):=by rfl) (hd:(x == ("__debug__" : Str))=false:=by decide):PI C A hp env loc target (.Call (.Name x px) args [] pos) (BP a d n):=fun F s E c=>
 DX hg (fun zu zu=>AG (by intro a;simp)) hv c (fun F₁ s₁ us st c₁ r=>by
  refine xa2_3 r.inv ?_;intro v us;rintro rfl;intro r1 r
  refine xa2_3 r.inv ?_;intro v2 us;rintro rfl;intro r2 r
  refine xa2_3 r.inv ?_;intro v3 us;rintro rfl;intro r3 r
  obtain rfl:=r.nilI
  refine xa1_1 r1.out.intI ?_;intro t;rintro rfl
  refine xa1_1 r2.out.intI ?_;intro t2;rintro rfl
  refine xa1_1 r3.out.intI ?_;intro t3;rintro rfl
  refine call_range_3 hc (wpAny_mono (D4 (F:=F₁) hA (BD.keep c₁.wp fun zu zu e=>Heap.get?_push_of_some _ e).w' (Heap.get?_push_size _ rfl) hsm hn) (fun zu zu q=>(q.pre (.keep c₁.wp fun zu zu e=>Heap.get?_push_of_some _ e)).pre st) fun zu zu x=>x) (.inl hpy)) hk he hd
end
end
section
section
variable {prog:Program} {w:World} {A:Around} {E:Value→Shared→Prop} {s:Shared}
theorem DO {it l:Addr} {i:Nat} {items} {x:Value} {Q:Value→Shared→Prop} (hit:s.heap.IsTupleIter it l i)
  (hl:s.heap.IsTuple l items) (hx:items[i]? = some x)
  (hQ:∀h',h'.IsTupleIter it l (i+1)→Heap.SameBut it s.heap h'→Q x { s with heap:=h' }) :
  wpAny (model prog w) A (Builtin.SmallTypes.nextOf (.ref it)) Q E s:=by
 refine xa1_3 (id hit) ?_;intro o ho hc hd
 refine cps fun zP zk=>?_;(rcases hl with ⟨ol,hol,zu,nl,hdl⟩)<;>(refine zk ?_;clear zk zP)
 unfold Builtin.SmallTypes.nextOf
 refine wpAny_bind (wpAny_callSpecial?_slot (name:=Str.ofString "__next__") hit.typeIs F.slot_tuple_iterator_next
  (wpAny_call_entry F.slot_tuple_iterator_next hit.typeIs F.entry_tuple_iterator_next ?_ (F.args_tuple_iterator_next_1 _)))
 show wpAny _ _ (field (.ref it) 0 >>= _) _ _ s
 refine wpAny_bind (wpAny_field ho hd (x:=.ref l) rfl ?_)
 show wpAny _ _ (if (Value.ref l == Value.none)=true then _ else _) _ _ s
 rw [if_neg (show ¬((Value.ref l == Value.none)=true) from Bool.false_ne_true)]
 show wpAny _ _ (field (.ref it) 1 >>= _) _ _ s
 refine wpAny_bind (wpAny_field ho hd (x:=.int i 0) rfl ?_)
 show wpAny _ _ (seqItems? (.ref l) >>= _) _ _ s
 refine wpAny_bind (wpAny_seqItems hol hdl ?_)
 simp only [Int.toNat_natCast,hx]
 refine wpAny_bind (wpAny_setField ho hd (by simp) (wpAny_pure ⟨x,rfl,wpAny_pure (hQ _ ?_ (Heap.SameBut.update ..))⟩))
 exact ⟨_,Heap.get?_update_self _ ho (Obj.isFreed_of_fields (Obj.data_mapFields hd _)),(Obj.cls_mapFields ..).trans hc,by
  rw [Obj.data_mapFields hd];simp [rawInt]⟩
theorem Em {it l:Addr} {i:Nat} {items} {Q:Value→Shared→Prop} (hh:A.handled=none)
  (hit:s.heap.IsTupleIter it l i) (hl:s.heap.IsTuple l items) (hx:items[i]? = none)
  (hE:∀h' e,Heap.ExtBut it s.heap h'→(∃o,h'.get? e=some o∧o.cls=.type "StopIteration")→E (.ref e) { s with heap:=h' }) :
  wpAny (model prog w) A (Builtin.SmallTypes.nextOf (.ref it)) Q E s:=by
 refine xa1_3 (id hit) ?_;intro o ho hc hd
 refine cps fun zP zk=>?_;(rcases hl with ⟨ol,hol,zu,nl,hdl⟩)<;>(refine zk ?_;clear zk zP)
 unfold Builtin.SmallTypes.nextOf
 refine wpAny_bind (wpAny_callSpecial?_slot (name:=Str.ofString "__next__") hit.typeIs F.slot_tuple_iterator_next
  (wpAny_call_entry F.slot_tuple_iterator_next hit.typeIs F.entry_tuple_iterator_next ?_ (F.args_tuple_iterator_next_1 _)))
 show wpAny _ _ (field (.ref it) 0 >>= _) _ _ s
 refine wpAny_bind (wpAny_field ho hd (x:=.ref l) rfl ?_)
 show wpAny _ _ (if (Value.ref l == Value.none)=true then _ else _) _ _ s
 rw [if_neg (show ¬((Value.ref l == Value.none)=true) from Bool.false_ne_true)]
 show wpAny _ _ (field (.ref it) 1 >>= _) _ _ s
 refine wpAny_bind (wpAny_field ho hd (x:=.int i 0) rfl ?_)
 show wpAny _ _ (seqItems? (.ref l) >>= _) _ _ s
 refine wpAny_bind (wpAny_seqItems hol hdl ?_)
 simp only [Int.toNat_natCast,hx]
 refine wpAny_bind (wpAny_rule (wpAny_bind (wpAny_setField ho hd (by simp) ?_)))
 show wpAny _ _ (newExc (.type "StopIteration") [] >>= _) _ _ _
 refine wpAny_bind ?_
 simp only [newExc,newTuple]
 refine wpAny_bind (wpAny_newObj_type ?_ (by size_fits))
 refine wpAny_bind (m:=firstArgMember _ _) (wpAny_of_eq (a:=Value.none) (by first|rfl|(simp only [firstArgMember];rfl)) ?_)
 refine wpAny_newObj_type ?_ (by size_fits)
 simp only [raiseNew]
 refine wpAny_bind (wpAny_handled ?_)
 first|rw [show A.in1.handled=none from hh]|rw [hh]
 refine wpAny_bind (wpAny_pure (wpAny_throw ?_))
 exact hE _ _ (((Heap.SameBut.update ..).extBut.push _).push _) ⟨_,Heap.get?_push_size _ rfl,rfl⟩
theorem Hq (hh:A.handled=none) (it l:Addr) (hne:l≠it) (items:Array Value) :
  Draws prog w A it [it,l] items.size (fun i v=>items[i]? = some v) (fun i h=>h.IsTupleIter it l i∧h.IsTuple l items) where
 live:=fun zu zu st=>let ⟨o,ho,_⟩:=st.1;⟨o,ho⟩
 frame:=fun zu zu zu st hk=>⟨let ⟨o,ho,r⟩:=st.1;⟨o,hk it (by simp) o ho,r⟩,let ⟨o,ho,r⟩:=st.2;⟨o,hk l (by simp) o ho,r⟩⟩
 item:=fun i s Q E hi st hQ=>by
  refine DO st.1 st.2 (x:=items[i]) (by simp [hi]) fun h' hit' hs'=>?_
  exact hQ _ h' s.toks (by simp [hi]) ⟨hit',st.2.extBut hs'.extBut hne⟩ hs'
 done:=fun s Q E st hE=>Em hh st.1 st.2 (by simp) hE
theorem Ha (l:Addr) (items:Array Value) (n:Nat) (c:Value) (dct:Option Addr) (sl:Array (Option Value)) (hc:c=.type "tuple") :
  Meets (Builtin.«enumerate.__new__» ⟨[.type "enumerate",.ref l],[]⟩) (fun zu R s=>s.heap.get? l=some { cls:=c,dict:=dct,data:=.seq items n,slots:=sl } ∧
   R (.ok (.ret (.ref (s.heap.push { cls:=.type "tuple_iterator",data:=.fields #[.ref l,.int 0 0] }).objs.size)))
    { s with heap:=(s.heap.push { cls:=.type "tuple_iterator",data:=.fields #[.ref l,.int 0 0] }).push { cls:=.type "enumerate",data:=.fields #[.none,.bool false,.ref s.heap.objs.size,rawInt 0,.none,.none] } }):=
 .of_wp fun prog w A R s h=>by
  subst hc
  refine cps fun zP zk=>?_;(rcases s with ⟨hp,g,d,tk,os⟩)<;>(refine zk ?_;clear zk zP);refine xa0_2 h ?_;(try clear h);intro hl h
  have hsub:=sub_enumerate
  have hL:Heap.IsTuple (Shared.heap ⟨hp,g,d,tk,os⟩) l items:=⟨_,hl,rfl,n,rfl⟩
  wp_walk using AutoSeq1.wpAny_loadPart' hl
  refine wpAny_stack_any fun st=>wpAny_pure ?_
  split
  ·rename_i c _ _ _ _ _
   cases (c == Value.type "enumerate")
   ·wp_walk using AutoSeq1.wpAny_loadPart' hl,wpAny_pyIter_tuple hL
    exact ⟨_,rfl,h⟩
   ·wp_walk using AutoSeq1.wpAny_loadPart' hl,wpAny_pyIter_tuple hL
    exact ⟨_,rfl,h⟩
  ·wp_walk using AutoSeq1.wpAny_loadPart' hl,wpAny_pyIter_tuple hL
   exact ⟨_,rfl,h⟩
theorem EH {l:Addr} {items:Array Value} {Q:Value→Shared→Prop} (hL:s.heap.IsTuple l items)
  (h:∀h',IsEnum h' (s.heap.objs.size+1) s.heap.objs.size 0 .none→h'.IsTupleIter s.heap.objs.size l 0→h'.objs.size=s.heap.objs.size+2 →
   (∀b o,s.heap.get? b=some o→h'.get? b=some o)→Q (.ref (s.heap.objs.size+1)) { s with heap:=h' }) :
  wpAny (model prog w) A (call (.type "enumerate") [.ref l]) Q E s:=by
 refine cps fun zP zk=>?_;(rcases hL with ⟨⟨c,dct,dt,sl⟩,hl,hc,n,hd⟩)<;>(refine zk ?_;clear zk zP)
 replace hc:c=.type "tuple":=hc
 replace hd:dt=.seq items n:=hd
 subst hd
 refine callType_new F.called_enumerate (by decide) (F.typeCall_enumerate_1 _) (F.newCall_enumerate_1 _) (fun obj=>F.args_object_init_2 obj _) F.entry_enumerate_new
  (Ha l items n c dct sl hc) ⟨hl,?_⟩
 have hz:(s.heap.push { cls:=.type "tuple_iterator",data:=.fields #[.ref l,.int 0 0] }).objs.size=s.heap.objs.size+1:=Heap.size_push ..
 show _∧_
 rw [hz]
 have he:IsEnum ((s.heap.push { cls:=.type "tuple_iterator",data:=.fields #[.ref l,.int 0 0] }).push
   { cls:=.type "enumerate",data:=.fields #[.none,.bool false,.ref s.heap.objs.size,rawInt 0,.none,.none] }) (s.heap.objs.size+1) s.heap.objs.size 0 .none:=by
  have:=Heap.get?_push_size (s.heap.push { cls:=.type "tuple_iterator",data:=.fields #[.ref l,.int 0 0] })
   (o:={ cls:=.type "enumerate",data:=.fields #[.none,.bool false,.ref s.heap.objs.size,rawInt 0,.none,.none] }) rfl
  rw [hz] at this;exact this
 refine ⟨⟨_,he,rfl⟩,h _ he ⟨_,Heap.get?_push_of_some _ (Heap.get?_push_size _ rfl),rfl,rfl⟩ (by rw [Heap.size_push,hz]) fun b o x=>Heap.get?_push_of_some _ (Heap.get?_push_of_some _ x)⟩
end
end
section
section
variable {C:Cf} {A:Around} {hp:HP} {s s':Shared} {env:Env} {F F':FH} {E:Value→Shared→Prop} {loc:PL}
end
end
section
section
variable {C:Cf} {A:Around} {hp:HP} {s s':Shared} {env:Env} {F F':FH} {E:Value→Shared→Prop} {loc:PL}
noncomputable abbrev Oc (C:Cf) (A:Around) (hp:HP) (cenv:Env) (l:PL) (ifs:List Expr) (ok:Bool):Prop:=PT C A hp cenv l (fun zu b b'=>b=b') (Gx ifs cenv) ok
theorem LT {cenv:Env} {l:PL}:Oc C A hp cenv l [] true:=.mk fun F s E c=>wpAny_tests_nil (BA.here (t:=s.toks) c.wp rfl)
theorem Ih {cenv:Env} {x:Str} {v:AV} {bl:BL} (hk:cenv.kindOf x=some .local) (h:∀y a,bl.lookup y=some a→cenv.kindOf y=some .local):∀y a,((x,v)::bl).lookup y=some a→cenv.kindOf y=some .local:=fun y a e=>by
 simp only [List.lookup] at e
 split at e
 ·rename_i q;rw [beq_iff_eq.mp q];exact hk
 ·exact h y a e
theorem HQ {x:Str} {v:AV} {bl:BL} (h:bl.lookup x=none):My bl ((x,v)::bl):=fun y a e=>by
 simp only [List.lookup]
 split
 ·rename_i q;rw [beq_iff_eq.mp q,h] at e;exact Ak e
 ·exact e
theorem My.trans {a b c:BL} (h:My a b) (k:My b c):My a c:=fun y v e=>k y v (h y v e)
theorem KU {cenv:Env}:∀y a,([]:BL).lookup y=some a→cenv.kindOf y=some .local:=fun y a e=>by exact Ak e
inductive GK (A:Around) (cenv:Env):Expr→AV→BL→BL→Prop
 |name {x px v bl} (hk:cenv.kindOf x=some .local) (hn:bl.lookup x=none):GK A cenv (.Name x px) v bl ((x,v)::bl)
 |pair {x y p1 p2 tn pos a b bl} (hA:A.handled=none) (hx:cenv.kindOf x=some .local) (hy:cenv.kindOf y=some .local) (hn:bl.lookup x=none) (hn2:((x,a)::bl).lookup y=none):GK A cenv (.Tuple [.Name x p1,.Name y p2] tn pos) (.tup [a,b]) bl ((y,b)::(x,a)::bl)
theorem GK.asg {cenv:Env} {target:Expr} {v:AV} {bl bl':BL} (h:GK A cenv target v bl bl') {Lc:LA} (hf:cenv.scope.kind=.function) (hL:cenv.locals=Lc.1) (h2:Lc.2=false):Mc C A cenv Lc target v bl bl':=by
 cases h with
 |name hk hn=>exact JP hf hL h2 hk
 |pair hA hx hy hn hn2=>exact JO hA hf hL h2 hx hy
theorem GK.le {cenv:Env} {target:Expr} {v:AV} {bl bl':BL} (h:GK A cenv target v bl bl'):My bl bl':=by
 cases h with
 |name hk hn=>exact HQ hn
 |pair hA hx hy hn hn2=>exact (HQ hn).trans (HQ hn2)
theorem GK.ok {cenv:Env} {target:Expr} {v:AV} {bl bl':BL} (h:GK A cenv target v bl bl') (k:∀y a,bl.lookup y=some a→cenv.kindOf y=some .local):∀y a,bl'.lookup y=some a→cenv.kindOf y=some .local:=by
 cases h with
 |name hk hn=>exact Ih hk k
 |pair hA hx hy hn hn2=>exact Ih hy (Ih hx k)
theorem Ob {scope:Scope} {Lc:LA} {bl:BL} (h2:Lc.2=false) (h:∀y a,bl.lookup y=some a→(AB env scope Lc).kindOf y=some .local):NJ env scope Lc bl:=fun x a q=>.inl ⟨h2,h x a q⟩
theorem Ln {elt target iter:Expr} {ifs:List Expr} {scope:Scope} {pos:Pos} {α:Type} (l:List α) (g f:α→AV) (p:α→Bool) (B:α→BL) (hi:PI C A hp env loc target iter (l.map g)) (hz:l.length≤100000)
  (hb:∀Lc a,a∈l→GK A (AB env scope Lc) target (g a) [] (B a)) (ht:∀Lc a,a∈l→Oc C A hp (AB env scope Lc) (J7 scope loc (B a)) ifs (p a)) (h:∀Lc a,a∈l→p a=true→PE C A hp (AB env scope Lc) (J7 scope loc (B a)) elt (f a,false))
  (cs:AU env scope:=by exact Gm (by rfl)) (hs:∀x,foldedSetIterable iter env x=pure x:=by intro zu;rfl) (hmd:md scope=false:=by rfl):Mb C A hp env loc elt [⟨target,iter,ifs,0⟩] scope pos ((l.filter p).map f):=by
 have e:∀l:List α,(l.filter p).map f=l.flatMap fun a=>if p a=true then [f a] else []:=fun l=>by
  induction l with
  |nil=>rfl
  |cons a l ih=>rw [List.flatMap_cons,List.filter_cons,←ih];split<;>rfl
 have hz':(l.flatMap fun a=>if p a=true then [f a] else []).length≤100000:=by
  rw [←e,List.length_map];exact Nat.le_trans (List.length_filter_le _ _) hz
 rw [e]
 exact N2 cs hi _ (fun F s acc L c a ha=>⟨B a,p a,(hb (L,md scope) a ha).asg cs.kind rfl hmd,(hb (L,md scope) a ha).le,Ob hmd ((hb (L,md scope) a ha).ok KU),ht _ a ha,fun z=>by
  rw [if_pos z];exact Im c cs (Ob hmd ((hb (L,md scope) a ha).ok KU)) (h _ a ha z),fun z=>by rw [z];rfl⟩) hz' hs
theorem Dh {elt iter:Expr} {scope:Scope} {pos px:Pos} {x:Str} {α:Type} (l:List α) (g f:α→AV) (hi:PI C A hp env loc (.Name x px) iter (l.map g)) (hz:l.length≤100000)
  (h:∀Lc a,a∈l→PE C A hp (AB env scope Lc) (J7 scope loc [(x,g a)]) elt (f a,false)) (hk:∀Lc,(AB env scope Lc).kindOf x=some .local:=by intro zu;rfl)
  (cs:AU env scope:=by exact Gm (by rfl)) (hs:∀x,foldedSetIterable iter env x=pure x:=by intro zu;rfl) (hmd:md scope=false:=by rfl):Mb C A hp env loc elt [⟨.Name x px,iter,[],0⟩] scope pos (l.map f):=by
 have:=Ln (pos:=pos) l g f (fun zu=>true) (fun a=>[(x,g a)]) hi hz (fun Lc a zu=>.name (hk Lc) rfl) (fun Lc a ha=>LT) (fun Lc a ha zu=>h Lc a ha) cs hs hmd
 rwa [(List.filter_eq_self.mpr fun zu zu=>rfl:l.filter (fun zu=>true)=l)] at this
end
end
section
section
variable {hp:HP} {C:Cf} {A:Around} {s s':Shared} {env:Env} {F F':FH} {E:Value→Shared→Prop} {loc:PL}
theorem Fy {a b:Int}:Gq C A hp (BB hp) (binaryOp .Add) (.int a,false) (.int b,false) (.int (a+b),false):=fun F s E v u hin hv hu=>by
 refine xa1_1 hv.out.intI ?_;intro t;rintro rfl;refine xa1_1 hu.out.intI ?_;intro t';rintro rfl;exact add_int (BA.here hin (.val (.int _ _)))
theorem Hx {a b:Int}:Gq C A hp (BB hp) (binaryOp .Sub) (.int a,false) (.int b,false) (.int (a - b),false):=fun F s E v u hin hv hu=>by
 refine xa1_1 hv.out.intI ?_;intro t;rintro rfl;refine xa1_1 hu.out.intI ?_;intro t';rintro rfl;exact PyProof.Rows.sub_int (BA.here hin (.val (.int _ _)))
theorem EC {a b:Int} (hb:b≠0):Gq C A hp (BB hp) (binaryOp .Mod) (.int a,false) (.int b,false) (.int (a.fmod b),false):=fun F s E v u hin hv hu=>by
 refine xa1_1 hv.out.intI ?_;intro t;rintro rfl;refine xa1_1 hu.out.intI ?_;intro t';rintro rfl;exact mod_int hb (BA.here hin (.val (.int _ _)))
noncomputable def LS (C:Cf) (A:Around):Prop:=∀s:Shared,(∃l,A.frames=some l)→(∀b o,C.h0.get? b=some o→s.heap.get? b=some o)→PylongRoom (model C.prog C.w) A s
theorem Ez {a b:Int} (pl:LS C A) (hb:b≠0):Gq C A hp (BB hp) (binaryOp .FloorDiv) (.int a,false) (.int b,false) (.int (a.fdiv b),false):=fun F s E v u hin hv hu=>by
 refine xa1_1 hv.out.intI ?_;intro t;rintro rfl;refine xa1_1 hu.out.intI ?_;intro t';rintro rfl;exact floordiv_int hb (BA.here hin (.val (.int _ _))) (.inr (pl s (let ⟨l,a,_⟩:=hin.fr;⟨l,a⟩) hin.old))
theorem Nx {a n:Int} (hn:0≤n) (hn2:n≤1000000) (ha:a.natAbs<2 ^ 64):Gq C A hp (BB hp) (binaryOp .Pow) (.int a,false) (.int n,false) (.int (a ^ n.toNat),false):=fun F s E v u hin hv hu=>by
 refine xa1_1 hv.out.intI ?_;intro t;rintro rfl;refine xa1_1 hu.out.intI ?_;intro t';rintro rfl;exact pow_int_small hn hn2 ha (BA.here hin (.val (.int _ _)))
theorem Nv {a b:Int}:Gq C A hp (BB hp) (compareOp .Lt) (.int a,false) (.int b,false) (.bool (decide (a<b)),false):=fun F s E v u hin hv hu=>by
 refine xa1_1 hv.out.intI ?_;intro t;rintro rfl;refine xa1_1 hu.out.intI ?_;intro t';rintro rfl;exact lt_int (BA.here (t:=s.toks) hin (.val (.bool _)))
theorem Nw {a b:Int}:Gq C A hp (BB hp) (compareOp .Gt) (.int a,false) (.int b,false) (.bool (decide (b<a)),false):=fun F s E v u hin hv hu=>by
 refine xa1_1 hv.out.intI ?_;intro t;rintro rfl;refine xa1_1 hu.out.intI ?_;intro t';rintro rfl;exact gt_int (BA.here (t:=s.toks) hin (.val (.bool _)))
theorem Io {x:Expr} {pos:Pos} {a:Int} (h:PE C A hp env loc x (.int a,false)):PE C A hp env loc (.UnaryOp .USub x pos) (.int (-a),false):=.mk fun F s E c=>
 UnaryOp_ (h.use c fun F₁ s₁ v st c₁ r=>by refine xa1_1 r.out.intI ?_;intro t;rintro rfl;exact PyProof.Rows.neg_int ((BA.here c₁.wp (.val (.int _ _))).pre st))
theorem M4 {b:Bool}:NG C A hp (fun zu b b'=>b=b') truthy (.bool b,false) b:=fun F s E v hin hv=>by
 obtain rfl:=hv.out.boolI;exact wpAny_truthy_bool (BA.here (t:=s.toks) hin rfl)
theorem BA.newL {xs:List AV} {vs:List Value} {t n:Nat} (hin:Wp C A hp F s) (hv:VRs F xs vs):BA C A hp F s (fun F' v=>BB hp F' (.lst xs,false) v) (.ref s.heap.objs.size) ⟨s.heap.push { cls:=.type "list",data:=.seq vs.toArray n },s.gens,s.drawn,t,s.os⟩:=by
 have st:=BD.push (t:=t) hin (o:={ cls:=.type "list",data:=.seq vs.toArray n }) rfl
 exact ⟨_,st,.val (.lst (Ar _ _ _) rfl rfl (hv.mono st.e))⟩
theorem BA.newT {xs:List AV} {vs:List Value} {t n:Nat} (hin:Wp C A hp F s) (hv:VRs F xs vs):BA C A hp F s (fun F' v=>BB hp F' (.tup xs,false) v) (.ref s.heap.objs.size) ⟨s.heap.push { cls:=.type "tuple",data:=.seq vs.toArray n },s.gens,s.drawn,t,s.os⟩:=by
 have st:=BD.push (t:=t) hin (o:={ cls:=.type "tuple",data:=.seq vs.toArray n }) rfl
 exact ⟨_,st,.val (.tup (Ar _ _ _) rfl rfl (hv.mono st.e))⟩
noncomputable abbrev vals (xs:List AV):List PV:=xs.map fun x=>(x,false)
theorem Dm.outs {xs:List AV} {vs:List Value} (r:Dm hp F (vals xs) vs):VRs F xs vs:=by
 induction xs generalizing vs with
 |nil=>rw [r.nilI];exact .nil
 |cons x xs ih=>
  refine xa2_3 r.inv ?_;intro v us;rintro rfl;intro a b
  exact .cons a.out (ih b)
theorem Ll {elts:List Expr} {k:Nat} {pos:Pos} (xs:List AV) (h:H9 C A hp env loc elts (vals xs)) (hz:xs.length≤100000) (ht:backTo pos (starEach elts env)=AN env elts:=by rfl):PE C A hp env loc (.Tuple elts k pos) (.tup xs,false):=.mk fun F s E c=>
 Tuple_ (ht▸h.pes.use c fun F₁ s₁ us st c₁ r=>by
  have hv:=r.outs
  unfold newTuple
  exact wpAny_newObj_type ((BA.newT c₁.wp hv).pre st) (by show us.toArray.size≤sizeLine;rw [List.size_toArray,hv.length,sizeLine_eq];with_reducible exact CM ‹_› (by decide)))
theorem EN {elts:List Expr} {pos:Pos} (xs:List AV) (h:H9 C A hp env loc elts (vals xs)) (hz:xs.length≤100000) (ht:backTo pos (starEach elts env)=AN env elts:=by rfl):PE C A hp env loc (.List elts pos) (.lst xs,false):=.mk fun F s E c=>
 List_ (ht▸h.pes.use c fun F₁ s₁ us st c₁ r=>by
  have hv:=r.outs
  unfold newList
  exact wpAny_newObj_type ((BA.newL c₁.wp hv).pre st) (by show us.toArray.size≤sizeLine;rw [List.size_toArray,hv.length,sizeLine_eq];with_reducible exact CM ‹_› (by decide)))
theorem KY {xs ys:List AV} {p q:Bool} (hz:xs.length+ys.length≤100000):Gq C A hp (BB hp) (binaryOp .Add) (.lst xs,p) (.lst ys,q) (.lst (xs++ys),false):=fun F s E v u hin hv hu=>by
 refine xa4_6 (hv.lstI hin) ?_;intro a;intro zq;refine cps fun zP zk=>?_;(rcases zq with ⟨cls,dd,data,sl⟩)<;>(refine zk ?_;clear zk zP);intro vs n;rintro rfl;intro ho hc hd hvs zu
 refine xa4_6 (hu.lstI hin) ?_;intro b;intro zq;refine cps fun zP zk=>?_;(rcases zq with ⟨cls2,dd2,data2,sl2⟩)<;>(refine zk ?_;clear zk zP);intro us n2;rintro rfl;intro ho2 hc2 hd2 hus zu
 dsimp only at hc hd hc2 hd2
 subst hc hd hc2 hd2
 have e:vs.toArray++us.toArray=(vs++us).toArray:=by simp
 refine concat_meets ⟨_,ho,rfl⟩ ⟨_,ho2,rfl⟩ noFill_list_add seq_list_add PySem.F.slot_list_add PySem.F.entry_list_add (PySem.F.args_list_add_2 _ _) (list_addW a b vs.toArray us.toArray n n2 dd dd2 sl sl2 (by simp only [List.size_toArray,hvs.length,hus.length,sizeLine_eq];with_reducible exact CM ‹_› (by decide))) ⟨ho,ho2,?_⟩
 rw [e]
 exact BA.newL hin (hvs.append hus)
noncomputable abbrev H3 (C:Cf) (A:Around) (hp:HP) (env:Env) (loc:PL) (x:Option Expr) (o:Option Int):Prop:=PT C A hp env loc (fun zu o v=>IsPart v o) (evalPart x env) o
theorem Bt:H3 C A hp env loc none none:=.mk fun F s E c=>by rw [evalPart_none];exact wpAny_pure (BA.here (t:=s.toks) c.wp .none)
theorem AZ {e:Expr} {i:Int} (h:PE C A hp env loc e (.int i,false)):H3 C A hp env loc (some e) (some i):=.mk fun F s E c=>h.use c fun F₁ s₁ v st c₁ r=>by
 refine xa1_1 r.out.intI ?_;intro t;rintro rfl
 exact (BA.here (t:=s₁.toks) c₁.wp (.int _ _)).pre st
noncomputable def NF (C:Cf) (A:Around) (hp:HP) (pv:PV) (lo hi st:Option Int) (res:PV):Prop:=
 ∀F s (E:Value→Shared→Prop) v (a:Addr) (l u w:Value),Wp C A hp F s→BB hp F pv v→s.heap.IsSliceOf a l u w→IsPart l lo→IsPart u hi→IsPart w st→∀value slice,wpAny (model C.prog C.w) A (subscriptTail value slice v (.ref a)) (BA C A hp F s fun F' v=>BB hp F' res v) E s
theorem BM {value:Expr} {lower upper step:Option Expr} {p pos:Pos} {pv res:PV} {lo hi st:Option Int} (h:PE C A hp env loc value pv) (h1:H3 C A hp env loc lower lo) (h2:H3 C A hp env loc upper hi) (h3:H3 C A hp env loc step st) (hs:NF C A hp pv lo hi st res) :
  PE C A hp env loc (.Subscript value (.Slice lower upper step p) pos) res:=.mk fun F s E c=>
 Subscript_ (h.use c fun F₁ s₁ v st₁ c₁ r=>wpAny_Slice (h1.use c₁ fun F₂ s₂ l st₂ c₂ r1=>h2.use c₂ fun F₃ s₃ u st₃ c₃ r2=>h3.use c₃ fun F₄ s₄ w st₄ c₄ r3=>by
  have st5:BD C A hp F₄ s₄ F₄ { s₄ with heap:=s₄.heap.push { cls:=.type "slice",data:=.fields #[l,u,w] } }:=.keep c₄.wp fun zu zu e=>Heap.get?_push_of_some _ e
  exact wpAny_mono (hs F₄ _ E v _ l u w st5.w' ((((r.step st₂).step st₃).step st₄).step st5) ⟨_,Heap.get?_push_size _ rfl,rfl,rfl⟩ r1 r2 r3 _ _) (fun zu zu q=>q.pre (st₁.trans (st₂.trans (st₃.trans (st₄.trans st5))))) fun zu zu x=>x))
noncomputable def Cv {α:Type} (xs:List α) (lo hi:Option Int):List α:=(xs.drop (lo.elim 0 (clipAt xs.length))).take (hi.elim xs.length (clipAt xs.length) - lo.elim 0 (clipAt xs.length))
theorem Hu {α β:Type} (f:α→β) (xs:List α) (lo hi:Option Int):Cv (xs.map f) lo hi=(Cv xs lo hi).map f:=by
 unfold Cv;simp [List.map_take,List.map_drop]
theorem KQ {α:Type} (xs:List α) (lo hi:Option Int):(Cv xs lo hi).length≤xs.length:=by
 unfold Cv;simp;omega
theorem J5 {α:Type} (xs:List α) (a:Nat):Cv xs (some a) none=xs.drop a:=by
 unfold Cv
 simp only [Option.elim,clipAt_nat]
 rcases Nat.le_total a xs.length with h|h
 ·rw [Nat.min_eq_left h,List.take_of_length_le (by simp)]
 ·rw [Nat.min_eq_right h,List.drop_of_length_le (by simp),List.drop_of_length_le h];simp
theorem Gl {α:Type} (xs:List α) (b:Nat):Cv xs none (some b)=xs.take b:=by
 unfold Cv
 simp only [Option.elim,clipAt_nat,List.drop_zero,Nat.sub_zero]
 rcases Nat.le_total b xs.length with h|h
 ·rw [Nat.min_eq_left h]
 ·rw [Nat.min_eq_right h,List.take_of_length_le (by simp),List.take_of_length_le h]
theorem VRs.cut {xs:List AV} {vs:List Value} (h:VRs F xs vs) (lo hi:Option Int):VRs F (Cv xs lo hi) (Cv vs lo hi):=by
 unfold Cv
 rw [h.length]
 exact (h.drop _).take _
theorem Kf (vs:List Value) (lo hi:Option Int):slicePick vs.toArray lo hi none=(Cv vs lo hi).toArray:=by
 rw [slicePick_plain];simp [Cv]
theorem EL {xs:List AV} {p:Bool} {lo hi:Option Int} (hz:xs.length≤100000):NF C A hp (.lst xs,p) lo hi none (.lst (Cv xs lo hi),false):=fun F s E v a l u w hin hv hs pl pu pw value slice=>by
 refine xa4_6 (hv.lstI hin) ?_;intro b o vs n;rintro rfl;intro ho hc hd hvs zu
 have ha:s.heap.IsList b vs.toArray:=⟨o,ho,hc,n,hd⟩
 refine B3 ha.typeIs list_getitem_lookup (wpAny_getItem_list_slice ha hs pl pu pw (by simp) ?_ (by rw [List.size_toArray,hvs.length,sizeLine_eq];with_reducible exact CM ‹_› (by decide)))
 rw [Kf]
 exact BA.newL hin (hvs.cut lo hi)
theorem Ei {value slice:Expr} {xs:List AV} {p:Bool} {k:Int} {x:AV} (h0:0≤k) (hx:xs[k.toNat]? = some x) (hz:xs.length≤100000):Gq C A hp (BB hp) (subscriptTail value slice) (.lst xs,p) (.int k,false) (x,false):=fun F s E v w hin hv hw=>by
 refine xa1_1 hw.out.intI ?_;intro t;rintro rfl
 refine xa4_6 (hv.lstI hin) ?_;intro a o vs n;rintro rfl;intro ho hc hd hvs zu
 refine xa1_2 (hvs.get hx) ?_;intro u hu hvu
 have ha:s.heap.IsList a vs.toArray:=⟨o,ho,hc,n,hd⟩
 have hlt:=(List.getElem?_eq_some_iff.mp hx).1
 exact B3 ha.typeIs list_getitem_lookup (wpAny_getItem_list ha h0 (by omega) (by rw [List.getElem?_toArray];exact hu) (BA.here (t:=s.toks) hin (.val hvu)))
theorem HI {value slice:Expr} {xs:List AV} {p:Bool} {k:Int} {x:AV} (h0:k<0) (h1:-(xs.length:Int)≤k) (hx:xs[(k+xs.length).toNat]? = some x) (hz:xs.length≤100000):Gq C A hp (BB hp) (subscriptTail value slice) (.lst xs,p) (.int k,false) (x,false):=fun F s E v w hin hv hw=>by
 refine xa1_1 hw.out.intI ?_;intro t;rintro rfl
 refine xa4_6 (hv.lstI hin) ?_;intro a o vs n;rintro rfl;intro ho hc hd hvs zu
 refine xa1_2 (hvs.get hx) ?_;intro u hu hvu
 have ha:s.heap.IsList a vs.toArray:=⟨o,ho,hc,n,hd⟩
 have e:=hvs.length
 exact B3 ha.typeIs list_getitem_lookup (wpAny_getItem_list_neg ha h0 (by simp only [List.size_toArray,e];exact h1) (by omega) (by simp only [List.size_toArray,e,List.getElem?_toArray];exact hu) (BA.here (t:=s.toks) hin (.val hvu)))
theorem Nt {xs:List AV} {p:Bool} (hz:xs.length≤100000):PK C A hp (.builtin "len") [(.lst xs,p)] (.int xs.length,false):=fun F s E us hin r=>by
 refine xa2_3 r.inv ?_;intro v us;rintro rfl;intro r1 r
 obtain rfl:=r.nilI
 refine xa4_6 (r1.lstI hin) ?_;intro a o vs n;rintro rfl;intro ho hc hd hvs zu
 refine PyProof.Rows.len_list ⟨o,ho,hc,n,hd⟩ (by rw [List.size_toArray,hvs.length];omega) (BA.here hin (.val ?_))
 rw [List.size_toArray,hvs.length];exact .int _ _
theorem MK {x:Str} (hz:x.length≤100000):PK C A hp (.builtin "len") [(.str x,false)] (.int x.length,false):=fun F s E us hin r=>by
 refine xa2_3 r.inv ?_;intro v us;rintro rfl;intro r1 r
 obtain rfl:=r.nilI
 refine xa1_1 r1.out.strI ?_;intro t;rintro rfl
 exact PyProof.Rows.len_str (by omega) (BA.here hin (.val (.int _ _)))
end
end
section
section
variable {G:FH} {σ:Am} {C:Cf} {A:Around} {s s':Shared} {env:Env} {F F':FH} {E:Value→Shared→Prop} {loc:PL}
theorem Wd.dead {hp:HP} (W:Wd C F G hp s) {b:Addr} (h:s.heap.get? b=none):F b=none∧G b=none∧hp b=none:=by
 refine ⟨?_,?_,?_⟩
 ·cases e:F b with
  |none=>rfl
  |some o=>rw [W.fz b o e] at h;exact Ao h
 ·cases e:G b with
  |none=>rfl
  |some o=>refine xa1_2 (W.gz b o e) ?_;intro o' ho zu;rw [ho] at h;exact Ao h
 ·cases e:hp b with
  |none=>rfl
  |some x=>refine cps fun zP zk=>?_;(rcases W.ob b x e with ⟨zu,zu,o,ho,zu⟩)<;>(refine zk ?_;clear zk zP);rw [ho] at h;exact Ao h
theorem Wd.frp {hp:HP} (W:Wd C F G hp s) {e:Env} (h:Lq G e):Oe hp F s.heap e:=by
 refine cps fun zP zk=>?_;(rcases h with ⟨p,L,o,a,b,es,ep,d⟩)<;>(refine zk ?_;clear zk zP)
 refine xa1_2 (W.gz _ _ b) ?_;intro o' h1 g
 refine ⟨p,L,a,?_,?_,o',h1,es,ep,g.data.trans d⟩
 ·cases q:F L with
  |none=>rfl
  |some o2=>rw [W.fg _ _ q] at b;exact Ak b
 ·cases q:hp L with
  |none=>rfl
  |some x=>rw [(W.ob _ _ q).2.1] at b;exact Ak b
theorem Rp.wp (hR:Rp C A F G env σ s):Wp C A σ.hp F s:=by
 refine ⟨hR.wd.base,hR.wd.fz,fun a x q=>⟨(hR.wd.ob a x q).1,(hR.wd.ob a x q).2.2⟩,hR.wd.os,hR.wd.bare,hR.wd.gi,?_⟩
 refine xa2_5 hR.fs ?_;intro e l a b c d f
 refine ⟨e::l,a,fun y hy=>?_⟩
 rcases List.mem_cons.mp hy with rfl|hy
 ·rcases d with ⟨rfl,d⟩|d
  ·refine xa1_2 hR.fm.ns ?_;intro m;intro zq;refine xa3_3 zq ?_;(try clear zq);intro o es ep h1 h2 zu;intro zu
   exact ⟨b,y.locals,d,hR.fm.lo.1,hR.fm.lo.2.2,o,h1,es,ep,h2⟩
  ·exact hR.wd.frp d
 ·exact hR.wd.frp (f y hy)
theorem Rp.pure (hR:Rp C A F G env σ s) (st:BD C A σ.hp F s F' s'):Rp C A F' G env σ s':=by
 have dead:∀{b o},s.heap.get? b=some o→F b=none→F' b=none:=fun {b o} e q=>st.off q e
 have ghp:∀{b o},G b=some o→σ.hp b=none:=fun {b o} e=>by
  cases q:σ.hp b with
  |none=>rfl
  |some x=>rw [(hR.wd.ob _ _ q).2.1] at e;exact Ak e
 have ck:∀{c v},σ.hp c=none→s.heap.IsCell c v→s'.heap.IsCell c v:=fun {c v} e ⟨o,h1,h2⟩=>⟨o,st.k h1 e (fun es ep q=>by rw [h2] at q;cases q),h2⟩
 refine ⟨⟨st.w'.base,st.w'.fz,fun b o e=>?_,fun a x e=>⟨(st.w'.ob a x e).1,(hR.wd.ob a x e).2.1,(st.w'.ob a x e).2⟩,st.w'.os,st.w'.bare,st.w'.gi,fun b o e=>?_⟩,⟨hR.fm.kind,?_,⟨?_,hR.fm.lo.2⟩,fun x hx=>?_,hR.fm.ci,fun x av c a b d=>?_,fun x av a b=>?_⟩,hR.fs⟩
 ·refine xa1_2 (hR.wd.gz b o e) ?_;intro o' h1 g
  refine xa1_2 (st.kg b o' h1 (ghp e)) ?_;intro o2 h2 g2
  exact ⟨o2,h2,g.trans g2⟩
 ·rcases st.new b o e with q|q
  ·exact hR.wd.fg b o q
  ·exact (hR.wd.dead q).2.1
 ·refine xa1_2 hR.fm.ns ?_;intro m hm hv
  exact ⟨m,Ns.geq hm fun o h=>st.kg _ o h hR.fm.lo.2.2,fun x av a b=>let ⟨v,p,q⟩:=hv x av a b;⟨v,p,q.mono st.e⟩⟩
 ·refine xa1_2 hR.fm.ns ?_;intro m;intro zq;refine xa3_2 zq ?_;(try clear zq);intro oL es ep hL zu;intro zu
  exact dead hL hR.fm.lo.1
 ·refine cps fun zP zk=>?_;(rcases hR.fm.co x hx with ⟨c,g1,g2,g3,g4,g5,v,g6⟩)<;>(refine zk ?_;clear zk zP)
  refine xa1_2 g6 ?_;(try clear g6);intro o' ho' zu
  exact ⟨c,g1,dead ho' g2,g3,g4,g5,v,ck g4 ⟨o',ho',by assumption⟩⟩
 ·refine xa1_2 (hR.fm.cv x av c a b d) ?_;intro v p q
  refine xa1_5 (hR.fm.co x b) ?_;intro c' g1 zu zu g4 zu
  rw [d] at g1;(have zc:=Option.some.inj g1;clear g1;subst zc)
  exact ⟨v,ck g4 p,q.mono st.e⟩
 ·refine xa3_4 (hR.fm.fv x av a b) ?_;intro c v o a1 a2 a3 a4
  exact ⟨c,v,o,a1,a2,a3,a4.mono st.e⟩
noncomputable def G6 (own:List (Str×List AV)) (l:List (Str×AV)):PL:=own.map (fun p=>(p.1,(.lst p.2,true)))++l.map fun p=>(p.1,(p.2,false))
noncomputable def BN (σ:Am) (own:List (Str×List AV)):Prop:=∀p∈own,∃a,σ.loc.lookup p.1=some (.ref a)∧σ.hp a=some (.list p.2)
theorem BN.nil:BN σ []:=fun p h=>by cases h
theorem Fi {α β:Type} (f:α→β):∀{l:List (Str×α)} {x:Str},(l.map fun p=>(p.1,f p.2)).lookup x=(l.lookup x).map f
 |[],_=>rfl
 |(y,a)::l,x=>by
  simp only [List.map_cons,List.lookup]
  split
  ·rfl
  ·exact Fi f
theorem Fm.nmAt {hp:HP} {l:List (Str×AV)} (M:Fm F G hp env l s.heap) (hG:∀b o,G b=some o→(∀es ep,o.data≠.dict es ep)→s.heap.get? b=some o) (hGh:∀b o,G b=some o→hp b=none) {x:Str} {av:AV} (h:l.lookup x=some av) (hk:C9 (env.kindOf x)=true):∃v,VR F av v∧Lp hp s.heap env x v:=by
 cases q:env.kindOf x with
 |none=>rw [q] at hk;exact By hk
 |some kd=>
  rw [q] at hk
  cases kd<;>first|(first|exact By hk|cases hk)|skip
  ·refine xa1_2 M.ns ?_;intro m hm hv
   refine xa1_2 (hv x av h q) ?_;intro v h1 h2
   exact ⟨v,h2,.loc q hm h1 M.lo.2.2⟩
  ·refine xa1_5 (M.co x q) ?_;intro c hc zu zu hh zu
   refine xa1_2 (M.cv x av c h q hc) ?_;intro v h1 h2
   exact ⟨v,h2,.cell q hc h1 hh⟩
  ·refine xa3_4 (M.fv x av h q) ?_;intro c v o h1 h2 h3 h4
   exact ⟨v,h4,.free q h1 ⟨o,hG _ _ h2 (by intro es ep z;rw [h3] at z;cases z),h3⟩ (hGh _ _ h2)⟩
theorem Rp.pctx {own:List (Str×List AV)} (hR:Rp C A F G env σ s) (ho:BN σ own) (hk:(σ.loc.all fun p=>C9 (env.kindOf p.1))=true) (hg:env.globals=mainGlobals∧env.builtins=builtinsNs):CC C A σ.hp F s env (G6 own σ.loc):=by
 have var:∀{x av},σ.loc.lookup x=some av→C9 (env.kindOf x)=true:=fun {x av} e=>List.all_eq_true.mp hk _ (DR e)
 have gz:=fun b o e hd=>hR.wd.gzx (b:=b) (o:=o) e hd
 have gh:∀b o,G b=some o→σ.hp b=none:=fun b o e=>by
  cases q:σ.hp b with
  |none=>rfl
  |some x=>rw [(hR.wd.ob _ _ q).2.1] at e;exact Ak e
 refine ⟨hR.wp,hR.fm.kind,hg,fun x hx=>let ⟨c,hc,_⟩:=hR.fm.co x hx;by rw [hc];rfl,fun x pv e=>?_⟩
 unfold G6 at e
 rw [G5,Fi (fun a=>((.lst a,true):PV)),Fi (fun a=>((a,false):PV))] at e
 cases q:own.lookup x with
 |some xs=>
  rw [q] at e;(have zc:=Option.some.inj e;clear e;subst zc)
  refine xa1_2 (ho _ (DR q)) ?_;intro a h1 h2
  refine xa1_2 (hR.fm.nmAt gz gh h1 (var h1)) ?_;intro v hv n
  obtain rfl:=hv.refI
  exact ⟨_,.own h2,n⟩
 |none=>
  rw [q] at e
  refine xa1_2 (Option.map_eq_some_iff.mp e) ?_;intro av h1;rintro rfl
  refine xa1_2 (hR.fm.nmAt gz gh h1 (var h1)) ?_;intro v hv n
  exact ⟨v,.val hv,n⟩
theorem EQ {E:Value→Shared→Prop} {e:Expr} {Q:AV→Am→Prop} (own:List (Str×List AV)) (v:AV) (h:PE C A σ.hp env (G6 own σ.loc) e (v,false)) (q:Q v σ) (ho:BN σ own:=by exact BN.nil) (hk:(σ.loc.all fun p=>C9 (env.kindOf p.1))=true:=by rfl)
  (hg:env.globals=mainGlobals∧env.builtins=builtinsNs:=by exact ⟨rfl,rfl⟩):Ev C A E env e σ Q:=fun F G s hR=>
 h.use (hR.pctx ho hk hg) fun F' s' w st c r=>⟨F',v,σ,st.e,r.out,hR.pure st,q⟩
theorem Mk {E:Value→Shared→Prop} {e:Expr} {b:Bool} {Q:Bool→Am→Prop} (own:List (Str×List AV)) (h:PB C A σ.hp env (G6 own σ.loc) e b) (q:Q b σ) (ho:BN σ own:=by exact BN.nil) (hk:(σ.loc.all fun p=>C9 (env.kindOf p.1))=true:=by rfl)
  (hg:env.globals=mainGlobals∧env.builtins=builtinsNs:=by exact ⟨rfl,rfl⟩):Et C A E env e σ Q:=fun F G s hR=>
 h.use (hR.pctx ho hk hg) fun F' s' w st c r=>⟨F',b,σ,st.e,r,hR.pure st,q⟩
theorem Br {E:Value→Shared→Prop} {x:Str} {px pos:Pos} {e:Expr} {Q:A5→Am→Prop} (own:List (Str×List AV)) (v:AV) (h:PE C A σ.hp env (G6 own σ.loc) e (v,false)) (q:Q .next (σ.set x v)) (ho:BN σ own:=by exact BN.nil) (hk:(σ.loc.all fun p=>C9 (env.kindOf p.1))=true:=by rfl)
  (hg:env.globals=mainGlobals∧env.builtins=builtinsNs:=by exact ⟨rfl,rfl⟩) (hx:EA (env.kindOf x)=true:=by rfl) (hs:swapsWith e (some (.Name x px)) pos.line env=Pure.pure false:=by rfl):Ex C A E env (.Assign [.Name x px] e pos) σ Q:=
 Ai (EQ own v h q ho hk hg) hx hs
theorem CX {E:Value→Shared→Prop} {pos:Pos} {e:Expr} {Q:A5→Am→Prop} (own:List (Str×List AV)) (v:AV) (h:PE C A σ.hp env (G6 own σ.loc) e (v,false)) (q:Q (.ret v) σ) (ho:BN σ own:=by exact BN.nil) (hk:(σ.loc.all fun p=>C9 (env.kindOf p.1))=true:=by rfl)
  (hg:env.globals=mainGlobals∧env.builtins=builtinsNs:=by exact ⟨rfl,rfl⟩):Ex C A E env (.Return (some e) pos) σ Q:=Dj (EQ own v h q ho hk hg)
theorem FC {E:Value→Shared→Prop} {test:Expr} {body orelse:List Stmt} {pos:Pos} {b:Bool} {Q:A5→Am→Prop} (own:List (Str×List AV)) (h:PB C A σ.hp env (G6 own σ.loc) test b) (q1:b=true→Dn C A E env body σ Q) (q2:b=false→Dn C A E env orelse σ Q) (ho:BN σ own:=by exact BN.nil) (hk:(σ.loc.all fun p=>C9 (env.kindOf p.1))=true:=by rfl)
  (hg:env.globals=mainGlobals∧env.builtins=builtinsNs:=by exact ⟨rfl,rfl⟩):Ex C A E env (.If test body orelse pos) σ Q:=Bc (Mk own h (by
 cases b with
 |true=>exact q1 rfl
 |false=>exact q2 rfl) ho hk hg)
theorem Rp.holdDict {Lc:Addr} {o:Obj} (hR:Rp C A F G env σ s) (ho:s.heap.get? Lc=some o) (h1:F Lc=none) (h2:G Lc=none) (h3:σ.hp Lc=none) (h4:Lc≠env.locals) (h5:∀x c,env.kindOf x=some .cell→env.cells.lookup x=some c→Lc≠c) :
  Rp C A F (CF G (sg Lc o)) env σ s:=by
 have dj:=CZ (o:=o) h2
 have ex:=C0 dj
 have W:=hR.wd
 have on:∀{b},b≠Lc→G b=none→CF G (sg Lc o) b=none:=fun n e=>by rw [A8 (Iz _ n)];exact e
 refine ⟨⟨W.base,W.fz,fun b ob e=>?_,fun a x e=>?_,W.os,W.bare,W.gi,fun b ob e=>?_⟩,⟨hR.fm.kind,hR.fm.ns,⟨hR.fm.lo.1,on h4.symm hR.fm.lo.2.1,hR.fm.lo.2.2⟩,fun x hx=>?_,hR.fm.ci,hR.fm.cv,fun x av a b=>?_⟩,hR.fs.mono ex⟩
 ·by_cases q:b=Lc
  ·subst q;rw [Bl (AW _ _)] at e;(have zc:=Option.some.inj e;clear e;subst zc);exact ⟨_,ho,EP.rfl' _⟩
  ·rw [A8 (Iz _ q)] at e;exact W.gz b ob e
 ·refine xa0_3 (W.ob a x e) ?_;intro p q r
  exact ⟨p,on (by rintro rfl;rw [h3] at e;exact Ak e) q,r⟩
 ·exact on (by rintro rfl;rw [h1] at e;exact Ak e) (W.fg b ob e)
 ·refine xa1_4 (hR.fm.co x hx) ?_;intro c g1 g2 g3 g4
  exact ⟨c,g1,g2,on (h5 x c hx g1).symm g3,g4⟩
 ·refine xa3_4 (hR.fm.fv x av a b) ?_;intro c v ob a1 a2 a3 a4
  exact ⟨c,v,ob,a1,ex _ _ a2,a3,a4⟩
theorem Rp.dropDict {Lc:Addr} {o:Obj} (hR:Rp C A F (CF G (sg Lc o)) env σ s) (hf:FP A G env) (h2:G Lc=none) (hc:∀v,o.data≠.cell v) {h':Heap} {t:Nat} (k:∀b ob,b≠Lc→s.heap.get? b=some ob→h'.get? b=some ob):Rp C A F G env σ ⟨h',s.gens,s.drawn,t,s.os⟩:=by
 have dj:=CZ (o:=o) h2
 have ex:=C0 dj
 have W:=hR.wd
 have nL:∀{b},CF G (sg Lc o) b=none→b≠Lc:=fun e q=>by subst q;rw [Bl (AW _ _)] at e;exact Ao e
 have no:∀{b},CF G (sg Lc o) b=none→G b=none:=fun e=>(G1 dj e).1
 refine ⟨⟨W.base,fun b ob e=>k _ _ (nL (W.fg b ob e)) (W.fz b ob e),fun b ob e=>?_,fun a x e=>?_,W.os,W.bare,W.gi,fun b ob e=>no (W.fg b ob e)⟩,⟨hR.fm.kind,?_,⟨hR.fm.lo.1,no hR.fm.lo.2.1,hR.fm.lo.2.2⟩,fun x hx=>?_,hR.fm.ci,fun x av c a b d=>?_,fun x av a b=>?_⟩,hf⟩
 ·refine xa1_2 (W.gz b ob (ex _ _ e)) ?_;intro o' z1 z2
  exact ⟨o',k _ _ (fun q=>by subst q;rw [h2] at e;exact Ak e) z1,z2⟩
 ·refine cps fun zP zk=>?_;(rcases W.ob a x e with ⟨p,q,o,ho,r⟩)<;>(refine zk ?_;clear zk zP)
  exact ⟨p,no q,o,k _ _ (nL q) ho,r⟩
 ·refine xa1_2 hR.fm.ns ?_;intro m;intro zq;refine xa3_2 zq ?_;(try clear zq);intro oL es ep hL r;intro hv
  exact ⟨m,⟨oL,es,ep,k _ _ (nL hR.fm.lo.2.1) hL,r⟩,hv⟩
 ·refine cps fun zP zk=>?_;(rcases hR.fm.co x hx with ⟨c,g1,g2,g3,g4,g5,v,ob,g6,g7⟩)<;>(refine zk ?_;clear zk zP)
  exact ⟨c,g1,g2,no g3,g4,g5,v,ob,k _ _ (nL g3) g6,g7⟩
 ·refine xa1_2 (hR.fm.cv x av c a b d) ?_;intro v;intro zq;refine xa1_2 zq ?_;(try clear zq);intro ob g6 g7;intro g8
  refine xa1_4 (hR.fm.co x b) ?_;intro c' g1 zu g3 zu
  rw [d] at g1;(have zc:=Option.some.inj g1;clear g1;subst zc)
  exact ⟨v,⟨ob,k _ _ (nL g3) g6,g7⟩,g8⟩
 ·refine xa3_4 (hR.fm.fv x av a b) ?_;intro c v ob a1 a2 a3 a4
  refine ⟨c,v,ob,a1,?_,a3,a4⟩
  by_cases q:c=Lc
  ·subst q;rw [Bl (AW _ _)] at a2;(have zc:=Option.some.inj a2;clear a2;subst zc);exact absurd a3 (hc _)
  ·rw [A8 (Iz _ q)] at a2;exact a2
theorem Mh {E:Value→Shared→Prop} {y:Str} {py spos pos:Pos} {elt:Expr} {gens:List Comprehension} {scope:Scope} {Q:A5→Am→Prop} (own:List (Str×List AV)) (res:List AV) (h:Mb C A σ.hp env (G6 own σ.loc) elt gens scope pos res) (q:Q .next (σ.set y (.lst res))) (ho:BN σ own:=by exact BN.nil) (hk:(σ.loc.all fun p=>C9 (env.kindOf p.1))=true:=by rfl)
  (hg:env.globals=mainGlobals∧env.builtins=builtinsNs:=by exact ⟨rfl,rfl⟩) (hy:EA (env.kindOf y)=true:=by rfl) (hsw:swapsWith (.ListComp elt gens scope pos) (some (.Name y py)) spos.line env=Pure.pure true:=by rfl):Ex C A E env (.Assign [.Name y py] (.ListComp elt gens scope pos) spos) σ Q:=by
 intro F G s hR
 rw [exec_Assign_Name_used _ _ _ _ hsw]
 refine wpAny_bind (wpAny_standAt (wpAny_bind ?_))
 show wpAny _ A (do let _ ←comprehension (.ListComp elt gens scope pos) scope env (firstIterPos gens pos) (newList []) (firstAsync gens) (firstIter gens env) (some (assign (.Name y py) env))) _ _ s
 refine wpAny_bind (wpAny_mono (h F s E (some (assign (.Name y py) env)) (fun zu s'=>Av C A G env Mf Q F Flow.next s') (hR.pctx ho hk hg) fun F' s' acc Lc hcs=>?_) (fun zu s' hq=>wpAny_pure (wpAny_pure hq)) fun zu zu x=>x)
 refine cps fun zP zk=>?_;(rcases Lc with ⟨L,cm⟩)<;>(refine zk ?_;clear zk zP)
 have nL:=hcs.nL L (.inl rfl)
 have oL0:=hcs.oL L (.inl rfl)
 have ne0:acc≠L:=fun q=>hcs.ne (.inl q)
 refine xa2_2 hcs.ac ?_;intro vs n hl hv
 have st:=hcs.st.add hl hcs.oa hcs.na
 have hR₂:=hR.pure st
 refine xa2_2 hcs.fr ?_;intro m zu hm zu
 refine xa3_3 hm ?_;(try clear hm);intro oL es ep hL hdL hkL
 dsimp only at hL
 refine xa0_3 (hR.wd.dead nL) ?_;intro z1 z2 z3
 have f2:AR F' acc { cls:=.type "list",dict:=none,data:=.seq vs.toArray n,slots:=#[] } L=none:=by rw [Az _ _ ne0.symm];exact oL0
 have a4:L≠env.locals:=by
  rintro rfl
  refine xa1_2 hR.fm.ns ?_;intro m;intro zq;refine xa3_2 zq ?_;(try clear zq);intro o zu zu hL zu;intro zu
  rw [nL] at hL;exact Ak hL
 have a5:∀x c,env.kindOf x=some .cell→env.cells.lookup x=some c→L≠c:=by
  rintro x c hx hc rfl
  refine cps fun zP zk=>?_;(rcases hR.fm.co x hx with ⟨c',g1,zu,zu,zu,zu,v,o,ho,zu⟩)<;>(refine zk ?_;clear zk zP)
  rw [hc] at g1;(have zc:=Option.some.inj g1;clear g1;subst zc)
  rw [nL] at ho;exact Ak ho
 have hR₃:=hR₂.holdDict hL f2 z2 z3 a4 a5
 show wpAny _ A (assign (.Name y py) env (.ref acc)) _ E s'
 refine wpAny_mono (B9 (x:=y) (pos:=py) (v:=.lst res) (Q:=fun σ₄=>σ₄=σ.set y (.lst res)) rfl hy _ _ s' (.ref acc) hR₃ (.lst (Ar _ _ _) rfl rfl (hv.mono (AQ _ hcs.oa)))) (fun zu s₄ z=>?_) fun zu zu x=>x.elim
 refine xa2_3 z ?_;(try clear z);intro F₄ σ₄ e₄ hR₄;rintro rfl
 refine xa1_2 (hR₄.wd.gz L oL (Bl (AW _ _))) ?_;intro oL' g1 g2
 refine ⟨m,⟨oL',es,ep,g1,g2.data.trans hdL,hkL⟩,fun h' hs'=>?_⟩
 exact ⟨F₄,.next,_,st.e.trans e₄,.next,hR₄.dropDict (t:=s₄.toks) hR.fs z2 (fun v=>by rw [hdL];simp) (SameBut.rest hs'),q⟩
end
end
section
section
variable {G:FH} {σ:Am} {C:Cf} {A:Around} {s s':Shared} {env:Env} {F F':FH} {E:Value→Shared→Prop} {loc:PL}
theorem Rp.oput' {m:FH} (hR:Rp C A F G env σ s) (hm:∀b o,m b=some o→F b=none∧G b=none∧σ.hp b=none∧b≠env.locals∧∀x c,env.kindOf x=some .cell→env.cells.lookup x=some c→b≠c) (ho:∀b o,m b=some o→s.heap.get? b=some o):CD m G∧Rp C A F (CF G m) env σ s:=by
 have dj:CD m G:=fun b o e=>(hm b o e).2.1
 have on:∀{b},(∀x,¬m b=some x)→G b=none→CF G m b=none:=fun {b} h e=>by
  cases q:m b with
  |none=>rw [A8 q];exact e
  |some x=>exact absurd q (h x)
 refine ⟨dj,⟨⟨hR.wd.base,hR.wd.fz,fun b o e=>?_,fun a x e=>?_,hR.wd.os,hR.wd.bare,hR.wd.gi,fun b o e=>?_⟩,⟨hR.fm.kind,hR.fm.ns,⟨hR.fm.lo.1,on (fun x q=>(hm _ _ q).2.2.2.1 rfl) hR.fm.lo.2.1,hR.fm.lo.2.2⟩,fun x hx=>?_,hR.fm.ci,hR.fm.cv,fun x av a b=>?_⟩,hR.fs.mono (C0 dj)⟩⟩
 ·cases q:m b with
  |none=>rw [A8 q] at e;exact hR.wd.gz b o e
  |some x=>rw [Bl q] at e;(have zc:=Option.some.inj e;clear e;subst zc);exact ⟨_,ho _ _ q,EP.rfl' _⟩
 ·refine cps fun zP zk=>?_;(rcases hR.wd.ob a x e with ⟨p,q,o,w⟩)<;>(refine zk ?_;clear zk zP)
  exact ⟨p,on (fun y z=>by rw [(hm _ _ z).2.2.1] at e;exact Ak e) q,o,w⟩
 ·exact on (fun y z=>by rw [(hm _ _ z).1] at e;exact Ak e) (hR.wd.fg b o e)
 ·refine xa1_6 (hR.fm.co x hx) ?_;intro c g1 g2 g3 g4 g5 g6
  exact ⟨c,g1,g2,on (fun y z=>(hm _ _ z).2.2.2.2 x c hx g1 rfl) g3,g4,g5,g6⟩
 ·refine xa3_4 (hR.fm.fv x av a b) ?_;intro c v o' a1 a2 a3 a4
  exact ⟨c,v,o',a1,C0 dj _ _ a2,a3,a4⟩
theorem Rp.deadApart (hR:Rp C A F G env σ s) {b:Addr} (h:s.heap.get? b=none):b≠env.locals∧∀x c,env.kindOf x=some .cell→env.cells.lookup x=some c→b≠c:=by
 refine ⟨?_,?_⟩
 ·rintro rfl
  refine xa1_2 hR.fm.ns ?_;intro m;intro zq;refine xa3_2 zq ?_;(try clear zq);intro o zu zu hL zu;intro zu
  rw [h] at hL;exact Ak hL
 ·rintro x c hx hc rfl
  refine cps fun zP zk=>?_;(rcases hR.fm.co x hx with ⟨c',g1,zu,zu,zu,zu,v,o,ho,zu⟩)<;>(refine zk ?_;clear zk zP)
  rw [hc] at g1;(have zc:=Option.some.inj g1;clear g1;subst zc)
  rw [h] at ho;exact Ak ho
theorem Cg.ofItQ {target:Expr} {xs:List AV} {iv:Value} (hR:Rp C A F G env σ s) (z:JQ C A σ.hp F s target xs iv s'):∃F',A6 F F'∧Cg C A F' G env σ target xs (fun zu=>True) iv s':=by
 refine cps fun zP zk=>?_;(rcases z with ⟨F',I,fp,wr,St,st,e,W,h0,hw⟩)<;>(refine zk ?_;clear zk zP)
 have hR':=hR.pure st
 refine xa0_2 (hR'.oput' (m:=AY s'.heap wr) (fun b o q=>by
  refine xa0_2 (Bx q) ?_;intro hb zu
  refine xa0_2 (hw b hb) ?_;intro d1 d2
  refine xa0_3 (hR.wd.dead d1) ?_;intro zu z2 z3
  exact ⟨d2,z2,z3,hR.deadApart d1⟩) fun b o q=>(Bx q).2) ?_;intro dj hR2
 exact ⟨F',st.e,I,_,_,e,dj,hR2,⟨0,s'.heap,A6.refl F',hR'.wd.fz,h0,rfl,rfl,Nat.zero_le _⟩,Ce.ofWk W⟩
noncomputable def CT (l l':List (Str×AV)):Prop:=∀x av,l.lookup x=some av→l'.lookup x=some av
theorem CT.refl (l:List (Str×AV)):CT l l:=fun zu zu e=>e
theorem Rp.weakLoc (hR:Rp C A F G env σ s) {loc:List (Str×AV)} (h:CT loc σ.loc):Rp C A F G env ⟨loc,σ.hp⟩ s:=by
 refine cps fun zP zk=>?_;(rcases hR with ⟨W,⟨kd,⟨m,hm,hv⟩,lo,co,ci,cv,fv⟩,fs⟩)<;>(refine zk ?_;clear zk zP)
 exact ⟨W,⟨kd,⟨m,hm,fun x av a b=>hv x av (h x av a) b⟩,lo,co,ci,fun x av c a=>cv x av c (h x av a),fun x av a=>fv x av (h x av a)⟩,fs⟩
noncomputable def Md (I:List (Str×AV)→HP→Prop) (σ:Am):Prop:=∃loc,CT loc σ.loc∧I loc σ.hp
noncomputable def N6 (Q:A5→Am→Prop) (I:List (Str×AV)→HP→Prop) (f:A5) (σ:Am):Prop:=
 match f with
 |.next=>Md I σ
 |.cont=>Md I σ
 |.brk=>∃loc,CT loc σ.loc∧Q .next ⟨loc,σ.hp⟩
 |.ret v=>Q (.ret v) σ
theorem GG {E:Value→Shared→Prop} {target iter:Expr} {body:List Stmt} {pos:Pos} {xs:List AV} {Q:A5→Am→Prop} (own:List (Str×List AV)) (I:List AV→List (Str×AV)→HP→Prop) (h:PI C A σ.hp env (G6 own σ.loc) target iter xs) (h0:Md (I xs) σ)
  (turn:∀x xs loc hp,I (x::xs) loc hp→Iu C A env target x ⟨loc,hp⟩ (fun σ₁=>Dn C A Bz env body σ₁ (N6 Q (I xs)))) (fin:∀loc hp,I [] loc hp→Q .next ⟨loc,hp⟩) (ho:BN σ own:=by exact BN.nil) (hk:(σ.loc.all fun p=>C9 (env.kindOf p.1))=true:=by rfl)
  (hg:env.globals=mainGlobals∧env.builtins=builtinsNs:=by exact ⟨rfl,rfl⟩) (hs:∀x,foldedSetIterable iter env x=Pure.pure x:=by intro zu;rfl):Ex C A E env (.For target iter body [] pos) σ Q:=by
 have key:Ex C A E env (.For target iter body [] pos) σ (fun f σ'=>∃loc,CT loc σ'.loc∧Q f ⟨loc,σ'.hp⟩):=by
  intro F G s hR
  refine wpAny_For (wpAny_mono (h F s E (hR.pctx ho hk hg)) (fun v s₁ z=>wpAny_mono z (fun iv s₂ z=>?_) fun zu zu x=>x) fun zu zu x=>x) hs
  refine cps fun zP zk=>?_;(rcases Cg.ofItQ hR z with ⟨F',e,it,m,P,rfl,dj,hR₂,hP,T⟩)<;>(refine zk ?_;clear zk zP)
  refine Hm T (fun xs σ=>Md (I xs) σ) (fun zu zu zu=>trivial) (fun x xs σ ⟨loc,hl,hi⟩ F G s v hR hv=>?_) (fun σ ⟨loc,hl,hi⟩=>⟨loc,hl,fin _ _ hi⟩) ⟨F',σ,m,xs,e,dj,hR₂,hP,h0,rfl⟩ fun f s' z=>z
  refine wpAny_mono (turn x xs loc σ.hp hi F G s v (hR.weakLoc hl) hv) (fun zu s' z=>?_) fun zu zu x=>x
  refine xa2_3 z ?_;(try clear z);intro F' σ' e hR' hb
  refine ⟨F',σ',e,hR',hb.mono fun f σ₃ hf=>?_⟩
  cases f with
  |next=>exact hf
  |cont=>exact hf
  |brk=>exact hf
  |ret v=>exact ⟨σ₃.loc,CT.refl _,hf⟩
 intro F G s hR
 refine wpAny_mono (key F G s hR) (fun v s' z=>?_) fun zu zu x=>x
 refine cps fun zP zk=>?_;(rcases z with ⟨F',b,σ',e,r,hR',loc,hl,hq⟩)<;>(refine zk ?_;clear zk zP)
 exact ⟨F',b,⟨loc,σ'.hp⟩,e,r,hR'.weakLoc hl,hq⟩
end
end
section
section
variable {C:Cf} {A:Around} {hp:HP} {s s':Shared} {env:Env} {F F':FH} {E:Value→Shared→Prop} {loc:PL}
mutual
noncomputable def AV.pd:AV→PyData
 |.int i=>.int i
 |.str s=>.str s
 |.tup l=>.tuple (pds l)
 |.lst l=>.list (pds l)
 |.none=>.none
 |.bool b=>.bool b
 |.bytes _=>.none
 |.ref _=>.none
 |.val _=>.none
noncomputable def pds:List AV→List PyData
 |[]=>[]
 |x::xs=>x.pd::pds xs
end
mutual
inductive Cw:AV→Prop
 |none:Cw .none
 |int (i):Cw (.int i)
 |str {x}:PyData.strOk x=true→Cw (.str x)
 |tup {l}:Plns l→Cw (.tup l)
 |lst {l}:Plns l→Cw (.lst l)
inductive Plns:List AV→Prop
 |nil:Plns []
 |cons {x xs}:Cw x→Plns xs→Plns (x::xs)
end
theorem Plns.of {l:List AV} (h:∀x∈l,Cw x):Plns l:=by
 induction l with
 |nil=>exact .nil
 |cons x l ih=>exact .cons (h x (by simp)) (ih fun y hy=>h y (by simp [hy]))
theorem Cw.tupI {l:List AV} (h:Cw (.tup l)):Plns l:=by cases h with|tup h=>exact h
theorem Cw.lstI {l:List AV} (h:Cw (.lst l)):Plns l:=by cases h with|lst h=>exact h
theorem Cw.lay {x:AV} (h:Cw x):x.pd.canLay0=true:=
 Cw.rec (motive_1:=fun x zu=>x.pd.canLay0=true) (motive_2:=fun l zu=>PyData.canLayAll0 (pds l)=true) rfl (fun zu=>rfl) (fun h=>h) (fun zu ih=>ih) (fun zu ih=>ih) rfl (fun {x xs} zu zu ih1 ih2=>show (x.pd.canLay0&&PyData.canLayAll0 (pds xs))=true by rw [ih1,ih2];rfl) h
noncomputable def Ml (x:AV):Prop:=∀y,Cw y→(PyData.eqv x.pd y.pd=true↔x=y)
noncomputable def M1 (l:List AV):Prop:=∀m,Plns m→(PyData.eqvAll (pds l) (pds m)=true↔l=m)
theorem IJ {l:List AV} (ih:M1 l):Ml (.tup l)∧Ml (.lst l):=by
 refine ⟨fun y q=>?_,fun y q=>?_⟩
 ·cases q with
  |tup q=>simp only [AV.pd,PyData.eqv,AV.tup.injEq];exact ih _ q
  |_=>simp [AV.pd,PyData.eqv]
 ·cases q with
  |lst q=>simp only [AV.pd,PyData.eqv,AV.lst.injEq];exact ih _ q
  |_=>simp [AV.pd,PyData.eqv]
theorem Cw.eqvM {x:AV} (h:Cw x):Ml x:=
 Cw.rec (motive_1:=fun x zu=>Ml x) (motive_2:=fun l zu=>M1 l) (fun y q=>by cases (q)<;>simp [AV.pd,PyData.eqv]) (fun i y q=>by cases (q)<;>simp [AV.pd,PyData.eqv]) (fun {x} zu y q=>by cases (q)<;>simp [AV.pd,PyData.eqv])
  (fun zu ih=>(IJ ih).1) (fun zu ih=>(IJ ih).2) (fun m q=>by cases (q)<;>simp [pds,PyData.eqvAll]) (fun {x xs} zu zu ih1 ih2 m q=>by
   cases q with
   |nil=>simp [pds,PyData.eqvAll]
   |cons c d=>
    simp only [pds,PyData.eqvAll,Bool.and_eq_true,List.cons.injEq]
    rw [ih1 _ c,ih2 _ d]) h
theorem Cw.eqv {x y:AV} (p:Cw x) (q:Cw y):PyData.eqv x.pd y.pd=true↔x=y:=p.eqvM y q
theorem Plns.inv {x:AV} {l:List AV} (h:Plns (x::l)):Cw x∧Plns l:=by cases h with|cons a b=>exact ⟨a,b⟩
theorem Cw.noBool {b:Bool} {P:Prop} (h:Cw (.bool b)):P:=by cases (h)
theorem Cw.noBytes {b:Array UInt8} {P:Prop} (h:Cw (.bytes b)):P:=by cases (h)
theorem Cw.noRef {b:Addr} {P:Prop} (h:Cw (.ref b)):P:=by cases (h)
theorem Cw.noVal {b:Value} {P:Prop} (h:Cw (.val b)):P:=by cases (h)
theorem VR.reads {h:Heap} (hF:∀b o,F b=some o→h.get? b=some o) {x:AV} {v:Value} (p:Cw x) (r:VR F x v):∃as,Reads h v x.pd as:=
 VR.rec (motive_1:=fun x v zu=>Cw x→∃as,Reads h v x.pd as) (motive_2:=fun l vs zu=>Plns l→∃as,ReadsAll h vs (pds l) as) (fun zu=>⟨_,.none⟩) (fun zu p=>p.noBool) (fun i t zu=>⟨_,.int i t⟩) (fun x t zu=>⟨_,.str x t⟩) (fun zu zu p=>p.noBytes)
  (fun a b c zu ih p=>(ih p.tupI).elim fun as r=>⟨_,.tuple (hF _ _ a) b c r⟩) (fun a b c zu ih p=>(ih p.lstI).elim fun as r=>⟨_,.list (hF _ _ a) b c r⟩) (fun zu p=>p.noRef) (fun zu p=>p.noVal) (fun zu=>⟨_,.nil⟩) (fun zu zu i1 i2 p=>(i1 p.inv.1).elim fun as r=>(i2 p.inv.2).elim fun bs t=>⟨_,.cons r t⟩) r p
theorem VRs.reads {h:Heap} (hF:∀b o,F b=some o→h.get? b=some o) {x:List AV} {v:List Value} (p:Plns x) (r:VRs F x v):∃as,ReadsAll h v (pds x) as:=
 VRs.ind (M:=fun l vs=>Plns l→∃as,ReadsAll h vs (pds l) as) (fun zu=>⟨_,.nil⟩) (fun a zu ih p=>(VR.reads hF p.inv.1 a).elim fun as r=>(ih p.inv.2).elim fun bs t=>⟨_,.cons r t⟩) r p
noncomputable def Dp (n:Nat) (x:AV):Prop:=x.pd.depth≤n
theorem KL {n:Nat}:∀{l:List AV},(∀x∈l,Dp n x)→PyData.depthAll (pds l)≤n
 |[],_=>by simp [pds,PyData.depthAll]
 |x::l,h=>by
  simp only [pds,PyData.depthAll]
  have h1:=h x (by simp)
  have h2:=KL (l:=l) fun y hy=>h y (by simp [hy])
  unfold Dp at h1
  omega
theorem Dp.int (n:Nat) (i:Int):Dp n (.int i):=Nat.zero_le _
theorem Dp.str (n:Nat) (i:Str):Dp n (.str i):=Nat.zero_le _
theorem Dp.none (n:Nat):Dp n .none:=Nat.zero_le _
theorem Dp.tup {n:Nat} {l:List AV} (h:∀x∈l,Dp n x):Dp (n+1) (.tup l):=Nat.succ_le_succ (KL h)
theorem Dp.lst {n:Nat} {l:List AV} (h:∀x∈l,Dp n x):Dp (n+1) (.lst l):=Nat.succ_le_succ (KL h)
theorem BB.reads {x:AV} {b:Bool} {v:Value} (r:BB hp F (x,b) v) (p:Cw x) (w:Wp C A hp F s):∃as,Reads s.heap v x.pd as:=by
 cases r with
 |val r=>exact r.reads w.fz p
 |own h1=>
  cases p with|lst p=>
  refine cps fun zP zk=>?_;(rcases w.ob _ _ h1 with ⟨zu,o,h1,r⟩)<;>(refine zk ?_;clear zk zP)
  (refine OR.listC r fun zv zv q1 q2 q3 q4 q5=>?_;clear r)
  refine xa1_1 (q5.reads w.fz p) ?_;intro as r
  exact ⟨_,.list h1 q1 q4 r⟩
open Classical in
theorem MS {x y:AV} {a b:Bool} (p:Cw x) (q:Cw y) (hd:Dp 60 x) (hu:A.units≤9000):Gq C A hp (BB hp) (compareOp .Eq) (x,a) (y,b) (.bool (decide (x=y)),false):=fun F s E v u hin hv hw=>by
 refine xa1_1 (hv.reads p hin) ?_;intro as ra
 refine xa1_1 (hw.reads q hin) ?_;intro bs rb
 refine SeqAt.compareEq_reads ra rb p.lay q.lay (by unfold Dp at hd;have:cLine=9900:=rfl;omega) (BA.here (t:=s.toks) hin (.val ?_))
 rw [show PyData.eqv x.pd y.pd=decide (x=y) from by rw [Bool.eq_iff_iff,p.eqv q,decide_eq_true_iff]]
 exact .bool _
open Classical in
theorem Nu {x y:AV} {a b:Bool} (p:Cw x) (q:Cw y) (hd:Dp 60 x) (hu:A.units≤9000):Gq C A hp (BB hp) (compareOp .NotEq) (x,a) (y,b) (.bool (!decide (x=y)),false):=fun F s E v u hin hv hw=>by
 refine xa1_1 (hv.reads p hin) ?_;intro as ra
 refine xa1_1 (hw.reads q hin) ?_;intro bs rb
 refine SeqAt.compareNe_reads ra rb p.lay q.lay (by unfold Dp at hd;have:cLine=9900:=rfl;omega) (BA.here (t:=s.toks) hin (.val ?_))
 rw [show PyData.eqv x.pd y.pd=decide (x=y) from by rw [Bool.eq_iff_iff,p.eqv q,decide_eq_true_iff]]
 exact .bool _
theorem MJ {a b:Int} (hA:A.handled=none):PK C A hp (.builtin "min") [(.int a,false),(.int b,false)] (.int (min a b),false):=fun F s E us hin r=>by
 refine xa2_3 r.inv ?_;intro v us;rintro rfl;intro r1 r
 refine xa2_3 r.inv ?_;intro v2 us;rintro rfl;intro r2 r
 obtain rfl:=r.nilI
 refine xa1_1 r1.out.intI ?_;intro t;rintro rfl
 refine xa1_1 r2.out.intI ?_;intro t2;rintro rfl
 refine min_two_ints hA fun h' tk hk=>?_
 have st:=BD.keep (t:=tk) hin hk
 split
 ·rename_i q;rw [Int.min_eq_right (by omega)];exact ⟨F,st,.val (.int _ _)⟩
 ·rename_i q;rw [Int.min_eq_left (by omega)];exact ⟨F,st,.val (.int _ _)⟩
end
end
section
section
variable {C:Cf} {A:Around} {s:Shared} {F G:FH} {env:Env} {E:Value→Shared→Prop} {hp:HP} {loc:PL}
theorem H4 {o:Expr} {apos pos:Pos} {x:Str} (h:PE C A hp env loc o (.str x,false)) (hz:x.length≤100000) (hb:attributeBase o "lower" env (eval o env)=eval o env:=by rfl)
  (hfew:((backTo pos (starEach [] env)).all (fun x=>!x.1)&&(backToKw pos (keywordEach [] env)).all (fun x=>x.1.isSome)&&decide (([]:List Expr).length+([]:List Keyword).length+(if ([]:List Keyword).isEmpty then 0 else 1)<30))=true:=by rfl)
  (hl:(apos.endLine == pos.line)=true:=by rfl) (ht:backTo pos (starEach [] env)=[]:=by rfl):PE C A hp env loc (.Call (.Attribute o "lower" apos) [] [] pos) (.str (Txt.lower x),false):=.mk fun F s E c=>by
 refine wpAny_Call_method_lateS hb hfew hl ?_
 rw [ht]
 refine h.use c fun F₁ s₁ v st₁ c₁ r=>?_
 refine xa1_1 r.out.strI ?_;intro t;rintro rfl
 exact SB.lower (fit_lower (by exact Ax [_] [(1,Z0,(Zn 100000))] Z0 (Zn 5592405) rfl hz)) ((BA.here (t:=s₁.toks+1) c₁.wp (.val (.str _ _))).pre st₁)
inductive Iq:Bool→AV→AV→Prop
 |no {v}:Iq false v v
 |yes {x} (h:x.length≤100000):Iq true (.str x) (.str (Txt.lower x))
end
end
section
variable {C:Cf} {A:Around} {E:Value→Shared→Prop}
@[reducible] noncomputable def Am.v (σ:Am) (x:Str):Option AV:=σ.loc.lookup x
theorem MC {X:Ad} (h:X.Ph1) {u:Aj} (hu:u∈X.D) {c:As} {q:Aj} (e:X.look u c=some q):q=u++[c]∧q∈X.D:=by
 by_cases m:u++[c]∈X.D
 ·rw [h.kid1 u hu c m] at e;(have zc:=Option.some.inj e;clear e;subst zc);exact ⟨rfl,m⟩
 ·rw [h.kid0 u hu c m] at e;exact Ak e
theorem Hz (T:Tp C) {r:FdRest} {L:Addr} {X:Ad} {t d:Addr} {ci:Bool} {kw kw':AV} {w:Aj} {σ:Am} (hA:A.handled=none) (hroom:A.depth+1<recursionLimit)
  (hX:X.Ph1) (hr:AJ X t d false ci σ.hp) (hs:Bw kw' (w.map As.av) σ.hp) (sep:∀a,kw'=.ref a→¬Fp X t d a) (hz:X.D.length+w.length≤4000) (hk:∀u,kw≠.val u)
  (l1:σ.v "self" = some (.ref t)) (l2:σ.v "keyword" = some kw') (l3:σ.v "original_keyword" = some kw) {Q:A5→Am→Prop}
  (h1:∀σ',GM X w kw t d ci σ.hp σ'.hp→Q .next σ') (h2:∀σ',GM X w kw t d ci σ.hp σ'.hp→Q (.ret .none) σ') :
  Dn C A Bz (callEnv (r.fd H0 .none) L 66) (H0.body.drop 3) σ Q:=by
 have hw0:(w.map As.av).length=w.length:=List.length_map ..
 refine Aa (Bc (Bg (B7 (C8 T.g_len (AM (Ab l2 (A3 (AF (IE hs (FE (MM ⟨_,rfl,?_⟩)))))))))))
 rw [hw0]
 by_cases hwn:w=[]
 ·subst hwn
  rw [if_pos (by simp)]
  refine Aa (CY ?_)
  refine h2 σ ⟨X,hX,hr,BO.refl _ _,fun p=>?_,fun p=>?_,Nat.le_refl _,rfl⟩
  ·constructor
   ·exact .inl
   ·rintro (x|x)
    ·exact x
    ·simp at x;subst x;exact hX.wf.root
  ·simp
 rw [if_neg (by
  have:0<w.length:=List.length_pos_iff.mpr hwn
  simp;assumption)]
 refine Al ?_
 refine Aa (Ai (Ap (Ab l1 (Bp T.n_zero hr.tree hr.ns rfl ?_))))
 refine Aa (GH (fun zu zu hp=>Bw kw' (w.map As.av) hp)
  (fun zu zu xs σ'=>∃(u rest:Aj) (X':Ad),xs=rest.map As.av∧w=u++rest∧X'.Ph1∧AJ X' t d false ci σ'.hp∧BO (Fp X t d) σ.hp (Fp X' t d) σ'.hp∧(∀p,p∈X'.D↔p∈X.D∨p <+: u) ∧
   X'.key=X.key∧X'.D.length≤X.D.length+u.length∧X'.A []=X.A []∧σ'.v "self" = some (.ref t)∧σ'.v "original_keyword" = some kw∧σ'.v "current_state" = some (.ref (X'.A u)))
  (Ab (Ah l2) ⟨w.map As.av,K6 hs D2 hA,?_⟩) ?_ ?_ ?_)
 ·exact ⟨[],w,X,rfl,rfl,hX,hr,BO.refl _ _,fun p=>⟨.inl,fun x=>x.elim id (fun y=>by simp at y;subst y;exact hX.wf.root)⟩,rfl,Nat.le_refl _,rfl,Ah l1,Ah l3,Au⟩
 ·rintro zu zu xs σ' ⟨u,rest,X',h⟩
  exact hs.fr sep h.2.2.2.2.1
 ·rintro zu zu x xs σ' ⟨u,rest,X',e1,e2,hX',hr',hf',hD',hk',hz',ha',m1,m3,m4⟩
  obtain ⟨c,rest',rfl,rfl,rfl⟩:∃c rest',rest=c::rest'∧x=c.av∧xs=rest'.map As.av:=by
   cases rest with
   |nil=>cases e1
   |cons c rest'=>simp only [List.map_cons,List.cons.injEq] at e1;exact ⟨c,rest',rfl,e1.1,e1.2⟩
  have hu:u∈X'.D:=(hD' u).mpr (.inr (List.prefix_refl u))
  refine xa1_1 (hr'.td u hu) ?_;intro ep htd
  refine B9 ?_
  refine Tr.gen fun K hK=>?_
  refine Aa (It T.sysm hA T.g_KE (Ap (Ab (Ah m4) (Bs T.s_tr (hr'.nd u hu) rfl (Ab Au ⟨_,_,ep,c,rfl,htd,rfl,?_,?_⟩)))))
  ·intro v hv
   rw [Ad.at_trv] at hv
   refine xa1_2 (Option.map_eq_some_iff.mp hv) ?_;intro q hq;rintro rfl
   refine xa0_2 (MC hX' hu hq) ?_;rintro rfl;intro hqD
   refine Al (hK _ _ ?_)
   refine ⟨u++[c],rest',X',rfl,by simp [e2],hX',hr',hf',fun p=>?_,hk',?_,ha',Ah (Ah m1),Ah (Ah m3),Au⟩
   ·rw [hD' p]
    constructor
    ·exact Or.imp_right (fun x=>x.trans (List.prefix_append ..))
    ·rintro (x|x)
     ·exact .inl x
     ·rcases List.prefix_concat_iff.mp x with rfl|y
      ·exact (hD' _).mp hqD
      ·exact .inr y
   ·simp;exact Ax [_,_,_] [(1,Z0,(Za Z1 Z2))] Z0 (Za Z1 (Zs Z2)) rfl hz'
  ·intro hn e
   rw [Ad.at_trv] at hn
   have hlk:=Option.map_eq_none_iff.mp hn
   have hnD:u++[c]∉X'.D:=fun m=>by rw [hX'.kid1 u hu c m] at hlk;exact Ao hlk
   refine Aa (Ai (B7 (GI T.g_State (AM (Ap (Ab (Ah m1) (Bp T.n_cnt hr'.tree hr'.ns rfl (A3 (Lx (Ab (Ah m4) (Lx (Ab Au (AF (E2 T.mkS (FZ T (by exact hroom) (.inl rfl) ?_)))))))))))))))
   intro a b hp1 ha hb hba q1 q2 q3
   have hta:t≠a:=by rintro rfl;rw [show (σ'.set "char" c.av).hp=σ'.hp from rfl,hr'.tree] at ha;exact Ao ha
   have htb:t≠b:=by rintro rfl;rw [show (σ'.set "char" c.av).hp=σ'.hp from rfl,hr'.tree] at hb;exact Ao hb
   have hda:d≠a:=by rintro rfl;rw [show (σ'.set "char" c.av).hp=σ'.hp from rfl,hr'.ns] at ha;exact Ao ha
   have hdb:d≠b:=by rintro rfl;rw [show (σ'.set "char" c.av).hp=σ'.hp from rfl,hr'.ns] at hb;exact Ao hb
   have hAa:X'.A u≠a:=fun e=>by rw [←e,show (σ'.set "char" c.av).hp=σ'.hp from rfl,hr'.nd u hu] at ha;exact Ao ha
   have hAb:X'.A u≠b:=fun e=>by rw [←e,show (σ'.set "char" c.av).hp=σ'.hp from rfl,hr'.nd u hu] at hb;exact Ao hb
   have hTa:X'.T u≠a:=fun e=>by rw [←e,show (σ'.set "char" c.av).hp=σ'.hp from rfl,htd] at ha;exact Ao ha
   have hTb:X'.T u≠b:=fun e=>by rw [←e,show (σ'.set "char" c.av).hp=σ'.hp from rfl,htd] at hb;exact Ao hb
   refine xa0_6 (Ad.Wf.dist hr' hu hu) ?_;intro d1 d2 d3 d4 d5 d6
   have g1:hp1 t=some (.inst 125 d):=(q3 t hta htb).trans hr'.tree
   have g2:hp1 d=some (.ns (Eg (X'.A []) X'.D.length false ci)):=(q3 d hda hdb).trans hr'.ns
   have g3:hp1 (X'.A u)=some (X'.nodeAO u):=(q3 _ hAa hAb).trans (hr'.nd u hu)
   have g4:hp1 (X'.T u)=some (.dict (X'.trv u) ep):=(q3 _ hTa hTb).trans htd
   refine Aa (H7 (Ab (Ah (Ah m1)) (Bp T.n_cnt g1 g2 rfl (FE (K8 (CK T.n_cnt g1 g2 ?_ (hz:=Nat.le_of_ble_eq_true (by rfl))))))))
   refine Aa (Co (Ab Au (Ap (Ab (Ah (Ah m4)) (Bs T.s_tr ((Ac _ _ d3).trans g3) rfl (Ab (Ah Au) (Fo ((Ac _ _ d5).trans g4) ?_ ?_)))))))
   ·have:=hX'.wf.trlen hu
    simp only [Ad.trv,List.length_map]
    have:u.length≤w.length:=by rw [e2];simp
    exact Ax [_,_,_,_,_] [(1,(Za Z1 Z2),(Zn 4000)),(1,Z3,(Za Z1 Z4)),(1,Z0,Z3),(1,Z4,Z2)] Z0 (Zn 4096) rfl hz hz' (by assumption) this
   intro ep'
   refine Aa (Ai (Ab Au (Al (Al (hK _ _ ?_)))))
   have hst:Cr (X'.trv u) c (.ref a)=X'.trv u++[(c,.ref a)]:=by
    have:(X'.trv u).any (fun p=>p.1=c)=false:=by
     rw [List.any_eq_false]
     intro p hp
     refine xa1_2 (List.mem_map.mp hp) ?_;intro e' he';rintro rfl
     simpa using C1 hlk e' he'
    simp only [Cr,this];rfl
   refine xa0_3 (K9 (hp':=upd (upd hp1 d (.ns (Eg (X'.A []) (X'.D.length+1) false ci))) (X'.T u) (.dict (X'.trv u++[(c,.ref a)]) ep')) hX' hr' hu hnD ha hb hba
    (by rw [Ac _ _ hTa.symm,Ac _ _ hda.symm];exact q1) (by rw [Ac _ _ hTb.symm,Ac _ _ hdb.symm];exact q2) (by rw [Ac _ _ d5.symm,Ae]) ⟨ep',Ae _ _ _⟩
    (fun x x1 x2 x3 x4=>by rw [Ac _ _ x4,Ac _ _ x3];exact q3 x x1 x2)) ?_;intro w1 w2 w3
   refine ⟨u++[c],rest',X'.grow u c a b,rfl,by simp [e2],w1,?_,hf'.trans ?_,fun p=>?_,hk',?_,?_,?_,?_,?_⟩
   ·rw [hst];exact w2
   ·rw [hst];exact w3
   ·simp only [Ad.grow,List.mem_append,List.mem_singleton,hD' p]
    constructor
    ·rintro ((x|x)|x)
     ·exact .inl x
     ·exact .inr (x.trans (List.prefix_append ..))
     ·rw [x];exact .inr (List.prefix_refl _)
    ·rintro (x|x)
     ·exact .inl (.inl x)
     ·rcases List.prefix_concat_iff.mp x with y|y
      ·exact .inr y
      ·exact .inl (.inr y)
   ·simp only [Ad.grow,List.length_append,List.length_singleton];exact Ax [_,_,_] [(1,Z0,(Za Z1 Z2))] (Zs Z0) (Za Z1 (Zs Z2)) rfl hz'
   ·rw [←ha'];exact if_neg (by simp)
   ·exact Ah (Ah (Ah m1))
   ·exact Ah (Ah (Ah m3))
   ·rw [show (X'.grow u c a b).A (u++[c])=a from if_pos rfl];exact Au
 ·rintro zu zu σ' ⟨u,rest,X',e1,e2,hX',hr',hf',hD',hk',hz',ha',m1,m3,m4⟩
  have:rest=[]:=by cases rest with|nil=>rfl|cons=>cases e1
  subst this
  simp at e2;subst e2
  have hw:w∈X'.D:=(hD' w).mpr (.inr (List.prefix_refl w))
  refine Aa (An (Ec (Ab m4 (Bk T.s_suc (hr'.nd w hw) ?_))))
  refine Aa (An (Ab m3 (Ab m4 (Bk T.s_mk (Ae _ _ _) ?_))))
  refine Al (h1 _ ?_)
  refine xa0_2 (HH hX' hr' hw hk) ?_;intro w1 w2
  have hn:AO.slot 34 (setSlot (setSlot [some (.int (X'.D.idxOf w)),some (X'.lssv w),some ((X'.key w).getD .none),X'.out w,some (X'.parv w),some (.bool (X'.key w).isSome),some (EU w),some (.ref (X'.T w))] 5 (.bool true)) 2 kw)=(X'.setKey w kw).nodeAO w:=by
   have:(X'.setKey w kw).key w=some kw:=if_pos rfl
   simp only [Ad.nodeAO,this]
   simp [setSlot,DM,Ad.setKey,Ad.lssv,Ad.parv]
  refine ⟨X'.setKey w kw,w1,?_,⟨fun x hx hP=>?_,hf'.grow⟩,hD',fun p=>?_,hz',ha'⟩
  ·have:upd (upd σ'.hp (X'.A w) (.slot 34 (setSlot [some (.int (X'.D.idxOf w)),some (X'.lssv w),some ((X'.key w).getD .none),X'.out w,some (X'.parv w),some (.bool (X'.key w).isSome),some (EU w),some (.ref (X'.T w))] 5 (.bool true)))) (X'.A w)
     (.slot 34 (setSlot (setSlot [some (.int (X'.D.idxOf w)),some (X'.lssv w),some ((X'.key w).getD .none),X'.out w,some (X'.parv w),some (.bool (X'.key w).isSome),some (EU w),some (.ref (X'.T w))] 5 (.bool true)) 2 kw))=upd σ'.hp (X'.A w) ((X'.setKey w kw).nodeAO w):=by
    rw [hn];funext b;simp only [upd];split<;>rfl
   have w2:=w2
   rw [←this] at w2
   exact w2
  ·have:x≠X'.A w:=by
    rintro rfl
    rcases hf'.grow _ (.inr (.inr ⟨w,hw,.inl rfl⟩)) with q|q
    ·exact hP q
    ·exact hx q
   exact ((Ac _ _ this).trans (Ac _ _ this)).trans (hf'.keep x hx hP)
  ·simp only [Ad.setKey,hk']
   simp [hwn]
theorem MT (T:Tp C) {X:Ad} {t d:Addr} {ci:Bool} {kw kw':AV} {w:Aj} {hp:HP} (hA:A.handled=none) (hroom:A.depth+2<recursionLimit)
  (hX:X.Ph1) (hr:AJ X t d false ci hp) (hlo:Iq ci kw kw') (hs:Bw kw' (w.map As.av) hp) (sep:∀a,kw'=.ref a→¬Fp X t d a) (hz:X.D.length+w.length≤4000) (hk:∀u,kw≠.val u) :
  Fn C A (.ref 66) [.ref t,kw] [] hp (fun v hp'=>v=.none∧GM X w kw t d ci hp hp'):=by
 refine xa1_1 T.f_add ?_;intro r hf
 refine C7 (body:=H0.body) hf (JG C r _ _) (fun L=>?_) (by with_reducible exact Ff ‹_›) (by kernel_rfl) (by kernel_rfl) (by kernel_rfl) (by kernel_rfl) (by kernel_rfl)
 refine Aa (Bc (Bd (Ap (Ab rfl (Bp T.n_fin hr.tree hr.ns rfl (AK (Al ?_)))))))
 refine Aa (Ai (Ab rfl ?_))
 cases hlo with
 |no=>
  refine Aa (Bc (Bd (Ap (Ab rfl (Bp T.n_ci hr.tree hr.ns rfl (AK (Al ?_)))))))
  show Dn C _ Bz _ (H0.body.drop 3) _ _
  refine Hz T ?_ ?_ hX hr hs sep hz hk ?_ ?_ ?_ (fun σ' h=>⟨rfl,h⟩) (fun σ' h=>⟨rfl,h⟩)
  ·exact hA
  ·exact hroom
  ·rfl
  ·rfl
  ·rfl
 |@yes x hx=>
  refine Aa (Bc (Bd (Ap (Ab rfl (Bp T.n_ci hr.tree hr.ns rfl (AK (Aa (Br [] (.str (Txt.lower x)) (H4 (Af rfl) hx) (Al ?_)))))))))
  show Dn C _ Bz _ (H0.body.drop 3) _ _
  refine Hz T ?_ ?_ hX hr hs sep hz hk ?_ ?_ ?_ (fun σ' h=>⟨rfl,h⟩) (fun σ' h=>⟨rfl,h⟩)
  ·exact hA
  ·exact hroom
  ·rfl
  ·rfl
  ·rfl
end
section
noncomputable def BG (D:List Aj):Aj→Aj
 |[]=>[]
 |c::p=>if (c::p)∈D then c::p else BG D p
noncomputable def BY (D:List Aj) (p:Aj):Aj:=BG D p.tail
noncomputable def BK (D:List Aj):Aj→As→Option Aj
 |[],_=>none
 |x::p,c=>if (x::p)++[c]∈D then some ((x::p)++[c]) else BK D p c
noncomputable def D3 (D:List Aj) (p:Aj) (c:As):Option Aj:=if p++[c]∈D then some (p++[c]) else none
noncomputable def Bq (D:List Aj) (p:Aj) (c:As):Option Aj:=if p=[] then D3 D [] c else BK D p c
structure PC (D:List Aj):Prop where
 root:[]∈D
 closed:∀p c,p++[c]∈D→p∈D
theorem Ad.Wf.pc {X:Ad} (h:X.Wf):PC X.D:=⟨h.root,h.closed⟩
variable {D:List Aj}
theorem Cb (h:PC D):∀p,BG D p∈D
 |[]=>h.root
 |c::p=>by
  simp only [BG];split
  ·assumption
  ·exact Cb h p
theorem D0:∀p,BG D p <:+ p
 |[]=>List.suffix_refl _
 |c::p=>by
  simp only [BG];split
  ·exact List.suffix_refl _
  ·exact (D0 p).trans (List.suffix_cons ..)
theorem Iy:∀p q,q∈D→q <:+ p→q <:+ BG D p
 |[],q,_,h=>by simp at h;subst h;exact List.suffix_refl _
 |c::p,q,hq,h=>by
  simp only [BG];split
  ·exact h
  ·rename_i hn
   rcases List.suffix_cons_iff.mp h with rfl|h'
   ·exact absurd hq hn
   ·exact Iy p q hq h'
theorem EV {p:Aj} (h:p∈D):BG D p=p:=by
 cases p with
 |nil=>rfl
 |cons c p=>simp [BG,h]
theorem Dd (h:PC D) (c:As):∀p,BK D p c=BK D (BG D p) c
 |[]=>rfl
 |x::p=>by
  by_cases hm:(x::p)∈D
  ·rw [EV hm]
  ·have:(x::p)++[c]∉D:=fun q=>hm (h.closed _ _ q)
   rw [show BG D (x::p)=BG D p by simp [BG,hm],←Dd h c p]
   simp only [BK];rw [if_neg this]
theorem B4 (c:As):∀p,BG D (p++[c])=(BK D p c).getD (if [c]∈D then [c] else [])
 |[]=>by simp [BG,BK]
 |x::p=>by
  have e:(x::p)++[c]=x::(p++[c]):=rfl
  simp only [BK]
  by_cases hm:(x::p)++[c]∈D
  ·rw [if_pos hm,EV hm];rfl
  ·rw [if_neg hm,←B4 c p,e,BG,if_neg (by rw [←e];exact hm)]
theorem Ix (h:PC D) (p:Aj) (c:As):BG D (p++[c])=BG D (BG D p++[c]):=by
 rw [B4,B4,←Dd h]
theorem HU {p:Aj} {c:As} {q:Aj} (h:BK D p c=some q):q∈D∧∃r,q=r++[c]∧r <:+ p∧r≠[]:=by
 induction p with
 |nil=>exact Ak h
 |cons x p ih=>
  simp only [BK] at h
  split at h
  ·(have zc:=Option.some.inj h;clear h;subst zc);rename_i hm;exact ⟨hm,x::p,rfl,List.suffix_refl _,by simp⟩
  ·refine cps fun zP zk=>?_;(rcases ih h with ⟨a,r,b,d,e⟩)<;>(refine zk ?_;clear zk zP)
   exact ⟨a,r,b,d.trans (List.suffix_cons ..),e⟩
theorem Es {p:Aj} {c:As} {q:Aj} (h:Bq D p c=some q):q∈D∧∃r,q=r++[c]∧r <:+ p:=by
 simp only [Bq] at h
 split at h
 ·simp only [D3] at h
  split at h
  ·(have zc:=Option.some.inj h;clear h;subst zc);rename_i hm;exact ⟨hm,[],rfl,List.nil_suffix⟩
  ·exact Ak h
 ·refine cps fun zP zk=>?_;(rcases HU h with ⟨a,r,b,d,zu⟩)<;>(refine zk ?_;clear zk zP)
  exact ⟨a,r,b,d⟩
theorem Jy (h:PC D) {p:Aj} (hp:p≠[]) (c:As):Bq D p c=(D3 D p c).or (if BY D p=[] then none else Bq D (BY D p) c):=by
 obtain ⟨x,q,rfl⟩:∃x q,p=x::q:=by
  cases p with
  |nil=>exact absurd rfl hp
  |cons x q=>exact ⟨x,q,rfl⟩
 simp only [Bq,BY,List.tail_cons,D3,if_neg hp,BK]
 by_cases hm:(x::q)++[c]∈D
 ·rw [if_pos hm];simp only [if_pos hm];rfl
 ·rw [if_neg hm];simp only [if_neg hm]
  rw [Dd h]
  by_cases hs:BG D q=[]
  ·simp [hs,BK]
  ·simp [hs]
theorem D1 {p:Aj}:BY D p <:+ p:=(D0 p.tail).trans (List.tail_suffix p)
theorem Da {p:Aj} (hp:p≠[]):(BY D p).length<p.length:=by
 have h1:=(D0 (D:=D) p.tail).length_le
 have h2:0<p.length:=List.length_pos_iff.mpr hp
 simp only [BY]
 rw [List.length_tail] at h1;exact BV [_,_,_] [(1,Z0,Z2),(1,(Zs Z2),Z1)] Z0 Z1 rfl h1 (Nat.le_of_eq (Nat.sub_add_cancel (Ax [_] [(1,(Zs (Zn 0)),Z0)] (Zn 1) Z0 rfl h2)))
theorem I0 {p q:Aj} (hq:q∈D) (h:q <:+ p) (hne:q≠p):q <:+ BY D p:=by
 cases p with
 |nil=>simp at h;exact absurd h hne
 |cons x p=>
  rcases List.suffix_cons_iff.mp h with e|e
  ·exact absurd e hne
  ·exact Iy p q hq e
theorem Jn (h:PC D) {q:Aj} (hq:q≠[]) (c:As):BY D (q++[c])=BG D (BY D q++[c]):=by
 obtain ⟨x,q,rfl⟩:∃x q',q=x::q':=by
  cases q with
  |nil=>exact absurd rfl hq
  |cons x q=>exact ⟨x,q,rfl⟩
 simp only [BY,List.cons_append,List.tail_cons]
 exact Ix h q c
theorem G4 {r:Aj} {c:As} {x:Aj} (h:Bq D r c=some x):BG D (r++[c])=x:=by
 rw [B4]
 simp only [Bq] at h
 split at h
 ·rename_i e;subst e
  simp only [D3] at h
  split at h
  ·(have zc:=Option.some.inj h;clear h;subst zc);rename_i hm;simp only [BK,Option.getD_none];exact if_pos hm
  ·exact Ak h
 ·rw [h];rfl
theorem Hc {c:As} (h:Bq D [] c=none):BG D ([]++[c])=[]:=by
 rw [B4]
 simp only [Bq,D3] at h
 simp only [BK,Option.getD_none]
 rw [if_neg]
 intro hm
 simp [hm] at h
theorem Kr (hc:PC D) {r:Aj} {c:As} (hr:r≠[]) (h:Bq D r c=none):BG D (r++[c])=BG D (BY D r++[c]):=by
 obtain ⟨x,r,rfl⟩:∃x r',r=x::r':=by
  cases r with
  |nil=>exact absurd rfl hr
  |cons x q=>exact ⟨x,q,rfl⟩
 rw [B4,B4]
 simp only [BY,List.tail_cons]
 rw [←Dd hc]
 simp only [Bq,if_neg hr] at h
 rw [h]
 simp only [BK] at h
 split at h
 ·exact Ao h
 ·rw [h]
noncomputable def Ad.UD (X:Ad) (p:Aj):Prop:=X.lss p=none∧∀c,X.look p c=D3 X.D p c
noncomputable def Ad.DN (X:Ad) (p:Aj):Prop:=X.lss p=some (BY X.D p)∧∀c,X.look p c=Bq X.D p c
noncomputable def Ad.AD (X:Ad) (p:Aj):Prop:=∀r,r <:+ p→r∈X.D→X.DN r
structure Ad.Same (X X':Ad):Prop where
 D:X'.D=X.D
 A:X'.A=X.A
 T:X'.T=X.T
 key:X'.key=X.key
 out:X'.out=X.out
theorem Ad.Same.refl (X:Ad):X.Same X:=⟨rfl,rfl,rfl,rfl,rfl⟩
theorem Ad.Same.trans {X Y Z:Ad} (a:X.Same Y) (b:Y.Same Z):X.Same Z:=⟨b.D.trans a.D,b.A.trans a.A,b.T.trans a.T,b.key.trans a.key,b.out.trans a.out⟩
theorem Ad.Same.fp {X Y:Ad} (a:X.Same Y) (t d:Addr):Fp Y t d=Fp X t d:=by
 funext x;simp only [Fp,a.D,a.A,a.T]
noncomputable def Ad.Stay (X X':Ad) (x:Aj):Prop:=X'.lss x=X.lss x∧X'.tr x=X.tr x
theorem Ad.Stay.dn {X X':Ad} (s:X.Same X') {x:Aj} (h:X.Stay X' x) (hd:X.DN x):X'.DN x:=by
 refine ⟨by rw [h.1,s.D];exact hd.1,fun c=>?_⟩
 rw [s.D,←hd.2 c];simp only [Ad.look,h.2]
theorem Ad.Stay.ud {X X':Ad} (s:X.Same X') {x:Aj} (h:X.Stay X' x) (hd:X.UD x):X'.UD x:=by
 refine ⟨by rw [h.1];exact hd.1,fun c=>?_⟩
 rw [s.D,←hd.2 c];simp only [Ad.look,h.2]
structure Ad.Step (X X':Ad):Prop where
 same:X.Same X'
 all:∀x∈X.D,X.Stay X' x∨X'.AD x
theorem Ad.Step.refl (X:Ad):X.Step X:=⟨.refl X,fun zu zu=>.inl ⟨rfl,rfl⟩⟩
theorem Ad.Step.dn {X X':Ad} (s:X.Step X') {x:Aj} (hx:x∈X.D) (h:X.DN x):X'.DN x:=by
 rcases s.all x hx with a|a
 ·exact a.dn s.same h
 ·exact a x (List.suffix_refl x) (s.same.D▸hx)
theorem Ad.Step.ad {X X':Ad} (s:X.Step X') {x:Aj} (h:X.AD x):X'.AD x:=fun r hr hD=>by
 have hD':r∈X.D:=s.same.D▸hD
 exact s.dn hD' (h r hr hD')
theorem Ad.Step.trans {X Y Z:Ad} (a:X.Step Y) (b:Y.Step Z):X.Step Z:=by
 refine ⟨a.same.trans b.same,fun x hx=>?_⟩
 rcases b.all x (a.same.D▸hx) with h|h
 ·rcases a.all x hx with h'|h'
  ·exact .inl ⟨h.1.trans h'.1,h.2.trans h'.2⟩
  ·exact .inr (b.ad h')
 ·exact .inr h
noncomputable def Ad.setLss (X:Ad) (p q:Aj):Ad:={ X with lss:=fun x=>if x=p then some q else X.lss x }
noncomputable def Ad.setTr (X:Ad) (p:Aj) (m:List (As×Aj)):Ad:={ X with tr:=fun x=>if x=p then m else X.tr x }
noncomputable def Ad.setOut (X:Ad) (p:Aj) (v:AV):Ad:={ X with out:=fun x=>if x=p then some v else X.out x }
theorem I8 {X X':Ad} {t d:Addr} {fin ci:Bool} {hp:HP} (hr:AJ X t d fin ci hp) {p:Aj} (hp':p∈X.D) (hD:X'.D=X.D) (hA:X'.A=X.A) (hT:X'.T=X.T) (htr:X'.tr=X.tr)
  (hn:∀x∈X.D,x≠p→X'.nodeAO x=X.nodeAO x):AJ X' t d fin ci (upd hp (X.A p) (X'.nodeAO p)):=by
 have ds:=fun q hq=>Ad.Wf.dist hr hp' (q:=q) hq
 refine ⟨?_,?_,?_,?_⟩
 ·rw [Ac _ _ (ds p hp').2.1.symm];exact hr.tree
 ·rw [Ac _ _ (ds p hp').2.2.1.symm,hA,hD];exact hr.ns
 ·intro x hx
  rw [hD] at hx
  rw [hA]
  by_cases e:x=p
  ·subst e;exact Ae _ _ _
  ·rw [Ac _ _ (fun q=>e (hr.ai hx hp' q)),hn x hx e];exact hr.nd x hx
 ·intro x hx
  rw [hD] at hx
  refine xa1_1 (hr.td x hx) ?_;intro ep q
  refine ⟨ep,?_⟩
  rw [hT,Ac _ _ (ds x hx).1.symm,q]
  simp only [Ad.trv,htr,hA]
theorem EZ {X:Ad} {t d:Addr} {fin ci:Bool} {hp:HP} (hr:AJ X t d fin ci hp) {p q:Aj} (hp':p∈X.D):AJ (X.setLss p q) t d fin ci (upd hp (X.A p) ((X.setLss p q).nodeAO p)):=by
 refine I8 hr hp' rfl rfl rfl rfl (fun x zu hx=>?_)
 have:(X.setLss p q).lss x=X.lss x:=if_neg hx
 simp only [Ad.nodeAO,Ad.lssv,this];rfl
theorem EY {X:Ad} {t d:Addr} {fin ci:Bool} {hp:HP} (hr:AJ X t d fin ci hp) {p:Aj} {v:AV} (hp':p∈X.D):AJ (X.setOut p v) t d fin ci (upd hp (X.A p) ((X.setOut p v).nodeAO p)):=by
 refine I8 hr hp' rfl rfl rfl rfl (fun x zu hx=>?_)
 have:(X.setOut p v).out x=X.out x:=if_neg hx
 simp only [Ad.nodeAO,this];rfl
theorem Jc {X:Ad} {t d:Addr} {fin ci:Bool} {hp:HP} (hw:X.Wf) (hr:AJ X t d fin ci hp) {p:Aj} {m:List (As×Aj)} {ep:Nat} (hp':p∈X.D) :
  AJ (X.setTr p m) t d fin ci (upd hp (X.T p) (.dict (m.map fun e=>(e.1,.ref (X.A e.2))) ep)):=by
 have ds:=fun q hq=>Ad.Wf.dist hr (p:=q) hq hp'
 refine ⟨?_,?_,?_,?_⟩
 ·rw [Ac _ _ (ds p hp').2.2.2.1.symm];exact hr.tree
 ·rw [Ac _ _ (ds p hp').2.2.2.2.1.symm];exact hr.ns
 ·intro x hx
  exact (Ac _ _ (ds x hx).1).trans (hr.nd x hx)
 ·intro x hx
  by_cases e:x=p
  ·subst e
   refine ⟨ep,(Ae _ _ _).trans ?_⟩
   simp only [Ad.trv,Ad.setTr,if_true]
  ·refine xa1_1 (hr.td x hx) ?_;intro ep' q
   refine ⟨ep',((Ac _ _ (fun q=>e (hw.ti x hx p hp' q))).trans q).trans ?_⟩
   simp only [Ad.trv,Ad.setTr,if_neg e]
theorem BO.upd {P:Addr→Prop} {h:HP} {a:Addr} (x:AO) (ha:P a):BO P h P (AC.upd h a x):=⟨fun b zu hb=>Ac _ _ (by rintro rfl;exact hb ha),fun zu q=>.inl q⟩
theorem BO.new {P:Addr→Prop} {h:HP} {a:Addr} (x:AO) (ha:h a=none):BO P h P (AC.upd h a x):=⟨fun b hb zu=>Ac _ _ (by rintro rfl;exact hb ha),fun zu q=>.inl q⟩
theorem AJ.new {X:Ad} {t d:Addr} {fin ci:Bool} {hp:HP} (hr:AJ X t d fin ci hp) {a:Addr} {x:AO} (ha:hp a=none):AJ X t d fin ci (AC.upd hp a x):=by
 have ne:∀b y,hp b=some y→AC.upd hp a x b=some y:=fun b y e=>(Ac _ _ (by rintro rfl;rw [ha] at e;exact Ak e)).trans e
 exact ⟨ne _ _ hr.tree,ne _ _ hr.ns,fun p h=>ne _ _ (hr.nd p h),fun p h=>by refine xa1_1 (hr.td p h) ?_;intro ep q;exact ⟨ep,ne _ _ q⟩⟩
theorem AJ.off {X:Ad} {t d:Addr} {fin ci:Bool} {hp hp':HP} (hr:AJ X t d fin ci hp) (h:∀a,Fp X t d a→hp' a=hp a):AJ X t d fin ci hp':=
 ⟨(h _ (.inl rfl)).trans hr.tree,(h _ (.inr (.inl rfl))).trans hr.ns,fun p m=>(h _ (.inr (.inr ⟨p,m,.inl rfl⟩))).trans (hr.nd p m),fun p m=>by refine xa1_1 (hr.td p m) ?_;intro ep q;exact ⟨ep,(h _ (.inr (.inr ⟨p,m,.inr rfl⟩))).trans q⟩⟩
theorem AJ.some {X:Ad} {t d:Addr} {fin ci:Bool} {hp:HP} (hr:AJ X t d fin ci hp) {a:Addr} (h:Fp X t d a):hp a≠none:=by
 rcases h with rfl|rfl|⟨p,m,rfl|rfl⟩
 ·rw [hr.tree];simp
 ·rw [hr.ns];simp
 ·rw [hr.nd p m];simp
 ·refine xa1_1 (hr.td p m) ?_;intro ep q;rw [q];simp
theorem Lh {X:Ad} (h:X.Wf) {p:Aj} {m:List (As×Aj)} (h1:∀e∈m,e.2∈X.D) (h2:(m.map (·.1)).Nodup) (h3:∀e∈m,e.2.getLast? = some e.1):(X.setTr p m).Wf:=by
 refine ⟨h.root,h.nodup,h.closed,h.ti,?_,?_,?_,h.mkD,h.mkV⟩
 ·intro x hx e he
  simp only [Ad.setTr] at he
  split at he
  ·exact h1 e he
  ·exact h.trD x hx e he
 ·intro x hx
  simp only [Ad.setTr]
  split
  ·exact h2
  ·exact h.trN x hx
 ·intro x hx e he
  simp only [Ad.setTr] at he
  split at he
  ·exact h3 e he
  ·exact h.trL x hx e he
theorem Gp {X:Ad} (h:X.Wf) {p q:Aj}:(X.setLss p q).Wf:=⟨h.root,h.nodup,h.closed,h.ti,h.trD,h.trN,h.trL,h.mkD,h.mkV⟩
end
section
variable {C:Cf} {A:Around} {E:Value→Shared→Prop} {env:Env} {σ:Am}
theorem LF {a:Addr} {l:List (As×AV)} {ep:Nat} {Q:AV→List AV→Am→Prop} (hd:σ.hp a=some (.dict l ep)) (h:Q (.val (.builtin "dict.items")) [.ref a] σ):Dx C A E env (.ref a) "items" σ Q:=
 Be hd OR.clsD F.plainAttrs_dict F.slot_dict_items F.type_dict_items h
theorem Hb {a:Addr} {l:List (As×AV)} {ep:Nat} {Q:AV→List AV→Am→Prop} (hd:σ.hp a=some (.dict l ep)) (h:Q (.val (.builtin "dict.values")) [.ref a] σ):Dx C A E env (.ref a) "values" σ Q:=
 Be hd OR.clsD F.plainAttrs_dict F.slot_dict_values F.type_dict_values h
theorem DP {a:Addr} {l:List AV} {Q:AV→List AV→Am→Prop} (hd:σ.hp a=some (.list l)) (h:Q (.val (.builtin "list.append")) [.ref a] σ):Dx C A E env (.ref a) "append" σ Q:=
 Be hd OR.clsL F.plainAttrs_list F.slot_list_append F.type_list_append h
theorem Mq {a:Addr} {l:List AV} {Q:AV→List AV→Am→Prop} (hd:σ.hp a=some (.list l)) (h:Q (.val (.builtin "list.pop")) [.ref a] σ):Dx C A E env (.ref a) "pop" σ Q:=
 Be hd OR.clsL F.plainAttrs_list F.slot_list_pop F.type_list_pop h
theorem Kq {a:Addr} {S:Int→Bool} {n:Nat} {Q:AV→List AV→Am→Prop} (hd:σ.hp a=some (.iset S n)) (h:Q (.val (.builtin "set.add")) [.ref a] σ):Dx C A E env (.ref a) "add" σ Q:=
 Be hd OR.clsS F.plainAttrs_set F.slot_set_add F.type_set_add h
section DM
variable {X:Ad} {t d:Addr} {fin ci:Bool} {p:Aj}
theorem I9 {Q:AV→Am→Prop} (T:Tp C) (hr:AJ X t d fin ci σ.hp) (hp:p∈X.D) (h:Q (.int (X.D.idxOf p)) σ):GE C A E env VR (fun v=>getAttr v "identifier" true) (.ref (X.A p)) σ Q:=Bs T.s_id (hr.nd p hp) rfl h
theorem Dr {Q:AV→Am→Prop} (T:Tp C) (hr:AJ X t d fin ci σ.hp) (hp:p∈X.D) (h:Q (.ref (X.T p)) σ):GE C A E env VR (fun v=>getAttr v "transitions" true) (.ref (X.A p)) σ Q:=Bs T.s_tr (hr.nd p hp) rfl h
theorem El {Q:AV→Am→Prop} (T:Tp C) (hr:AJ X t d fin ci σ.hp) (hp:p∈X.D) (h:Q (X.lssv p) σ):GE C A E env VR (fun v=>getAttr v "longest_strict_suffix" true) (.ref (X.A p)) σ Q:=
 Bs T.s_lss (hr.nd p hp) rfl h (by intro u;simp only [Ad.lssv];split<;>simp)
theorem M9 {Q:AV→Am→Prop} (T:Tp C) (hr:AJ X t d fin ci σ.hp) (hp:p∈X.D) (h:Q (X.parv p) σ):GE C A E env VR (fun v=>getAttr v "parent" true) (.ref (X.A p)) σ Q:=
 Bs T.s_par (hr.nd p hp) rfl h (by intro u;simp only [Ad.parv];split<;>simp)
theorem HL {Q:AV→Am→Prop} (T:Tp C) (hr:AJ X t d fin ci σ.hp) (hp:p∈X.D) (h:Q (EU p) σ):GE C A E env VR (fun v=>getAttr v "symbol" true) (.ref (X.A p)) σ Q:=
 Bs T.s_sym (hr.nd p hp) rfl h (by
  intro u;simp only [EU];split
  ·rename_i c _;cases c<;>simp [As.av]
  ·simp)
theorem M8 {Q:AV→Am→Prop} (T:Tp C) (hr:AJ X t d fin ci σ.hp) (hp:p∈X.D) (h:Q (.bool (X.key p).isSome) σ):GE C A E env VR (fun v=>getAttr v "success" true) (.ref (X.A p)) σ Q:=Bs T.s_suc (hr.nd p hp) rfl h
theorem MB {Q:AV→Am→Prop} (T:Tp C) (hw:X.Wf) (hr:AJ X t d fin ci σ.hp) (hp:p∈X.D) {v:AV} (hv:X.key p=some v) (h:Q v σ):GE C A E env VR (fun v=>getAttr v "matched_keyword" true) (.ref (X.A p)) σ Q:=
 Bs (x:=v) T.s_mk (hr.nd p hp) (by simp [hv]) h (hw.mkV p v hv)
theorem MA {Q:AV→Am→Prop} (T:Tp C) (hr:AJ X t d fin ci σ.hp) (hp:p∈X.D) {v:AV} (hv:X.out p=some v) (h:Q v σ) (hu:∀u,v≠.val u):GE C A E env VR (fun v=>getAttr v "outputs" true) (.ref (X.A p)) σ Q:=
 Bs (x:=v) T.s_out (hr.nd p hp) (by simp [hv]) h hu
theorem DK {q:Aj} {Q:Unit→Am→Prop} (T:Tp C) (hr:AJ X t d fin ci σ.hp) (hp:p∈X.D) (h:Q () (σ.put (X.A p) ((X.setLss p q).nodeAO p))) :
  E0 C A E env (fun zu (zu:Unit) (zu:Unit)=>True) (fun u w=>setAttr w "longest_strict_suffix" u) (.ref (X.A q)) (.ref (X.A p)) σ Q:=by
 refine Bk T.s_lss (hr.nd p hp) ?_
 have:AO.slot 34 (setSlot [some (.int (X.D.idxOf p)),some (X.lssv p),some ((X.key p).getD .none),X.out p,some (X.parv p),some (.bool (X.key p).isSome),some (EU p),some (.ref (X.T p))] 1 (.ref (X.A q)))=(X.setLss p q).nodeAO p:=by
  have e:(X.setLss p q).lss p=some q:=if_pos rfl
  simp only [Ad.nodeAO,Ad.lssv,e]
  simp [setSlot,DM,Ad.setLss,Ad.parv]
 rw [this];exact h
theorem GX {v:AV} {Q:Unit→Am→Prop} (T:Tp C) (hr:AJ X t d fin ci σ.hp) (hp:p∈X.D) (h:Q () (σ.put (X.A p) ((X.setOut p v).nodeAO p))) :
  E0 C A E env (fun zu (zu:Unit) (zu:Unit)=>True) (fun u w=>setAttr w "outputs" u) v (.ref (X.A p)) σ Q:=by
 refine Bk T.s_out (hr.nd p hp) ?_
 have:AO.slot 34 (setSlot [some (.int (X.D.idxOf p)),some (X.lssv p),some ((X.key p).getD .none),X.out p,some (X.parv p),some (.bool (X.key p).isSome),some (EU p),some (.ref (X.T p))] 3 v)=(X.setOut p v).nodeAO p:=by
  have e:(X.setOut p v).out p=some v:=if_pos rfl
  simp only [Ad.nodeAO,e]
  simp [setSlot,DM,Ad.setOut,Ad.lssv,Ad.parv]
 rw [this];exact h
theorem LB {q:Aj} {Q:AV→Am→Prop} (hr:AJ X t d fin ci σ.hp) (hp:p∈X.D) (hq:q∈X.D) (h:Q (.bool (decide (p=q))) σ):E0 C A E env VR (compareOp .Is) (.ref (X.A p)) (.ref (X.A q)) σ Q:=by
 refine ML (hr.nd p hp) (hr.nd q hq) (.inl ⟨_,_,rfl⟩) ?_
 have:decide (X.A p=X.A q)=decide (p=q):=by
  by_cases e:p=q
  ·simp [e]
  ·have:X.A p≠X.A q:=fun x=>e (hr.ai hp hq x)
   simp [e,this]
 rw [this];exact h
theorem IB {q:Aj} {Q:AV→Am→Prop} (hr:AJ X t d fin ci σ.hp) (hp:p∈X.D) (hq:q∈X.D) (h:Q (.bool (!decide (p=q))) σ):E0 C A E env VR (compareOp .IsNot) (.ref (X.A p)) (.ref (X.A q)) σ Q:=by
 refine Jt (hr.nd p hp) (hr.nd q hq) (.inl ⟨_,_,rfl⟩) ?_
 have:decide (X.A p=X.A q)=decide (p=q):=by
  by_cases e:p=q
  ·simp [e]
  ·have:X.A p≠X.A q:=fun x=>e (hr.ai hp hq x)
   simp [e,this]
 rw [this];exact h
end DM
theorem Ks (T:Tp C) {r₀:FdRest} {L:Addr} {X:Ad} {t d:Addr} {ci:Bool} {q:Aj} {c:As} (hw:X.Wf) (hr:AJ X t d false ci σ.hp) (hp:q++[c]∈X.D) (had:X.AD q)
  {test:Expr} {body:List Stmt} {pos:Pos} (hst:(DQ.body.drop 3).head? = some (.While test body [] pos)) (l1:σ.v "self" = some (.ref t)) (l2:σ.v "state" = some (.ref (X.A (q++[c])))) (l3:σ.v "zero_state" = some (.ref (X.A []))) (l4:σ.v "traversed" = some (.ref (X.A (BY X.D q)))) :
  Ex C A Bz (callEnv (r₀.fd DQ .none) L 122) (.While test body [] pos) σ (fun f σ'=>f=.next∧σ'.hp=upd σ.hp (X.A (q++[c])) ((X.setLss (q++[c]) (BY X.D (q++[c]))).nodeAO (q++[c])) ∧
   σ'.v "self" = some (.ref t)∧σ'.v "state" = some (.ref (X.A (q++[c])))∧σ'.v "zero_state" = some (.ref (X.A []))):=by
 have hq:q∈X.D:=hw.closed q c hp
 have hsym:EU (q++[c])=c.av:=by simp [EU]
 cases hst
 refine Eb (fun n σ'=>σ'.hp=σ.hp∧σ'.v "self" = some (.ref t)∧σ'.v "state" = some (.ref (X.A (q++[c])))∧σ'.v "zero_state" = some (.ref (X.A [])) ∧
  ∃r,r∈X.D∧n=r.length∧r <:+ q∧σ'.v "traversed" = some (.ref (X.A r))∧((q=[]∧r=[])∨(r.length<q.length∧BY X.D (q++[c])=BG X.D (r++[c])))) ?_ (BY X.D q).length ?_
 ·rintro n σ' ⟨he,m1,m2,m3,r,hrD,rfl,hrq,m4,hcase⟩
  have hr':AJ X t d false ci σ'.hp:=he▸hr
  refine xa1_1 (hr'.td r hrD) ?_;intro ep htd
  have hdn:=had r hrq hrD
  refine Bd (Ec (AK ?_))
  refine Tr.gen fun K hK=>?_
  have hat:DA (X.trv r) c=(Bq X.D r c).map fun x=>.ref (X.A x):=by rw [Ad.at_trv,hdn.2 c]
  refine Aa (Bc (Nf (Bg (Ap (Ab m2 (HL T hr' hp (Ap (Ab m4 (Dr T hr' hrD ?_)))))))))
  rw [hsym]
  refine IM T.sysm htd ⟨_,rfl,?_⟩
  rw [hat]
  cases hf:Bq X.D r c with
  |some x=>
   refine cps fun zP zk=>?_;(rcases Es hf with ⟨hxD,r',rfl,hr'r⟩)<;>(refine zk ?_;clear zk zP)
   simp only [Option.map_some,Option.isSome_some]
   refine Bg (Lu (Ap (Ab m4 (Dr T hr' hrD (Ap (Ab m2 (HL T hr' hp ?_)))))))
   rw [hsym]
   refine Gk (x:=.ref (X.A (r'++[c]))) htd (by rw [hat,hf];rfl) (Ab m2 (IB hr' hxD hp ⟨_,rfl,?_⟩))
   by_cases hx:r'++[c]=q++[c]
   ·rw [hx]
    simp only [decide_true,Bool.not_true]
    have hr'q:r'=q:=List.append_cancel_right hx
    subst hr'q
    have h1:=hr'r.length_le
    rcases hcase with ⟨rfl,rfl⟩|⟨h2,zu⟩
    ·refine Aa (Bc (Bg (Ab m4 (Ab m3 (LB hr' hrD hw.root ⟨_,rfl,?_⟩)))))
     simp only [decide_true,if_true]
     refine Aa (An (Ab m3 (Ab m2 (DK T hr' hp ?_))))
     refine Aa (FD (hK _ _ ?_))
     have e:BY X.D ([]++[c])=[]:=rfl
     rw [e]
     exact ⟨rfl,by rw [←he],m1,m2,m3⟩
    ·omega
   ·simp only [hx,decide_false,Bool.not_false]
    refine Aa (An (Lu (Ap (Ab m4 (Dr T hr' hrD (Ap (Ab m2 (HL T hr' hp ?_))))))))
    rw [hsym]
    refine Gk (x:=.ref (X.A (r'++[c]))) htd (by rw [hat,hf];rfl) (Ab m2 (DK T hr' hp ?_))
    refine Aa (FD (hK _ _ ?_))
    have e:BY X.D (q++[c])=r'++[c]:=by
     rcases hcase with ⟨rfl,rfl⟩|⟨zu,h2⟩
     ·simp at hr'r;subst hr'r;exact absurd rfl hx
     ·rw [h2,G4 hf]
    rw [e]
    exact ⟨rfl,by rw [←he],m1,m2,m3⟩
  |none=>
   simp only [Option.map_none,Option.isSome_none]
   refine Aa (Bc (Bg (Ab m4 (Ab m3 (LB hr' hrD hw.root ⟨_,rfl,?_⟩)))))
   by_cases hr0:r=[]
   ·subst hr0
    simp only [decide_true,if_true]
    refine Aa (An (Ab m3 (Ab m2 (DK T hr' hp ?_))))
    refine Aa (FD (hK _ _ ?_))
    have e:BY X.D (q++[c])=[]:=by
     rcases hcase with ⟨rfl,zu⟩|⟨zu,h2⟩
     ·rfl
     ·rw [h2,Hc hf]
    rw [e]
    exact ⟨rfl,by rw [←he],m1,m2,m3⟩
   ·simp only [hr0,decide_false]
    refine Aa (Ai (Ap (Ab m4 (El T hr' hrD ?_))))
    refine Al (Al (Al (hK _ _ ?_)))
    have hl:X.lssv r=.ref (X.A (BY X.D r)):=by simp only [Ad.lssv,hdn.1]
    rw [hl]
    refine ⟨(BY X.D r).length,Da hr0,he,Ah m1,Ah m2,Ah m3,BY X.D r,Cb hw.pc _,rfl,D1.trans hrq,Au,.inr ?_⟩
    rcases hcase with ⟨zu,rfl⟩|⟨h1,h2⟩
    ·exact absurd rfl hr0
    ·exact ⟨Nat.lt_trans (Da hr0) h1,h2.trans (Kr hw.pc hr0 hf)⟩
 ·refine ⟨rfl,l1,l2,l3,BY X.D q,Cb hw.pc _,rfl,D1,l4,?_⟩
  by_cases hq0:q=[]
  ·subst hq0;exact .inl ⟨rfl,rfl⟩
  ·exact .inr ⟨Da hq0,Jn hw.pc hq0 c⟩
end
section
variable {C:Cf} {A:Around} {E:Value→Shared→Prop} {env:Env} {σ:Am}
theorem EX (X:Ad) (p:Aj):X.setTr p (X.tr p)=X:=by
 have:(fun x=>if x=p then X.tr p else X.tr x)=X.tr:=by funext x;split<;>simp_all
 simp only [Ad.setTr,this]
theorem GS (X:Ad) (p:Aj) (m m':List (As×Aj)):(X.setTr p m).setTr p m'=X.setTr p m':=by
 have:(fun x=>if x=p then m' else if x=p then m else X.tr x)=fun x=>if x=p then m' else X.tr x:=by funext x;split<;>rfl
 simp only [Ad.setTr,this]
theorem Ja {l:List (As×Aj)} {f:Aj→Addr} {c:As} {a:Addr} (h:Bi l c=none):Cr (l.map fun e=>(e.1,AV.ref (f e.2))) c (.ref a)=(l.map fun e=>(e.1,AV.ref (f e.2)))++[(c,.ref a)]:=by
 have:(l.map fun e=>(e.1,AV.ref (f e.2))).any (fun p=>p.1=c)=false:=by
  rw [List.any_eq_false]
  intro p hp
  refine xa1_2 (List.mem_map.mp hp) ?_;intro e' he';rintro rfl
  simpa using C1 h e' he'
 simp only [Cr,this];rfl
theorem BO.wide {P Q:Addr→Prop} {h h':HP} (f:BO P h P h') (w:∀a,P a→Q a):BO Q h Q h':=⟨fun a x n=>f.keep a x (fun p=>n (w a p)),fun zu q=>.inl q⟩
theorem Jo (T:Tp C) {r₀:FdRest} {L:Addr} {X:Ad} {t d:Addr} {ci:Bool} {p s:Aj} (hA:A.handled=none) (hw:X.Wf) (hr:AJ X t d false ci σ.hp) (hp:p∈X.D) (hs:s∈X.D) (hps:p≠s) (hz:X.D.length≤4000)
  {target iter:Expr} {body:List Stmt} {pos:Pos} (hst:(DQ.body.drop 7).head? = some (.For target iter body [] pos)) (l2:σ.v "state" = some (.ref (X.A p))) (l3:σ.v "suffix" = some (.ref (X.A s))) :
  Ex C A Bz (callEnv (r₀.fd DQ .none) L 122) (.For target iter body [] pos) σ (fun f σ'=>f=.next∧∃m,(X.setTr p m).Wf∧AJ (X.setTr p m) t d false ci σ'.hp∧BO (·=X.T p) σ.hp (·=X.T p) σ'.hp ∧
   ∀c,Bi m c=(X.look p c).or (X.look s c)):=by
 refine xa1_1 (hr.td s hs) ?_;intro ep htd
 cases hst
 refine GH (fun zu zu hp=>hp (X.T s)=some (.dict (X.trv s) ep))
  (fun zu zu xs σ'=>∃dn rest m,X.tr s=dn++rest∧xs=rest.map (fun e=>AV.tup [e.1.av,.ref (X.A e.2)])∧(X.setTr p m).Wf∧AJ (X.setTr p m) t d false ci σ'.hp∧BO (·=X.T p) σ.hp (·=X.T p) σ'.hp ∧
   (∀c,Bi m c=(X.look p c).or (Bi dn c))∧σ'.v "state" = some (.ref (X.A p))∧σ'.hp (X.T s)=some (.dict (X.trv s) ep))
  (A7 (Ap (Ab l3 (Dr T hr hs (LF htd (A3 (AF (dict_items T.sysm htd (fun v hv=>⟨_,HT hA (Ae _ _ _) ?_,?_⟩))))))))) ?_ ?_ ?_
 ·exact (Ac _ _ (by rintro e;rw [←e,htd] at hv;exact Ao hv)).trans htd
 ·refine ⟨[],X.tr s,X.tr p,rfl,?_,by rw [EX];exact hw,by rw [EX];exact hr.new hv,BO.new _ hv,fun c=>by simp [Bi,Ad.look],l2,(Ac _ _ (by rintro e;rw [←e,htd] at hv;exact Ao hv)).trans htd⟩
  simp [Ad.trv]
 ·rintro zu zu xs σ' ⟨zu,zu,zu,zu,zu,zu,zu,zu,zu,zu,h⟩
  exact h
 ·rintro zu zu x xs σ' ⟨dn,rest,m,e1,e2,hw',hr',hf',hl',m2,m5⟩
  obtain ⟨c,y,rest',rfl,rfl,rfl⟩:∃c y rest',rest=(c,y)::rest'∧x=.tup [c.av,.ref (X.A y)]∧xs=rest'.map (fun e=>AV.tup [e.1.av,.ref (X.A e.2)]):=by
   cases rest with
   |nil=>cases e2
   |cons e rest'=>simp only [List.map_cons,List.cons.injEq] at e2;exact ⟨e.1,e.2,rest',rfl,e2.1,e2.2⟩
  have hcy:(c,y)∈X.tr s:=by rw [e1];simp
  have hyD:=hw.trD s hs _ hcy
  have hyL:=hw.trL s hs _ hcy
  have hdn:Bi dn c=none:=by
   have hn:=hw.trN s hs
   rw [e1,List.map_append,List.nodup_append] at hn
   cases h:Bi dn c with
   |none=>rfl
   |some z=>
    have:=Ep h
    exact absurd rfl (hn.2.2 c (List.mem_map_of_mem (f:=(·.1)) this) c (by simp))
  refine xa1_1 (hr'.td p hp) ?_;intro ep' htp
  have htp:σ'.hp (X.T p)=some (.dict (m.map fun e=>(e.1,AV.ref (X.A e.2))) ep'):=by
   rw [show (X.setTr p m).trv p=m.map fun e=>(e.1,AV.ref (X.A e.2)) by simp only [Ad.trv,Ad.setTr,if_true]] at htp
   exact htp
  refine FG hA ?_
  refine Tr.gen fun K hK=>?_
  refine Aa (Bc (Bg (Ab (Ah Au) (Ap (Ab (Ah (Ah m2)) (Dr (X:=X.setTr p m) T hr' hp (Fh (IM T.sysm htp ⟨_,rfl,_,rfl,?_⟩))))))))
  rw [La]
  cases hm:Bi m c with
  |some z=>
   simp only [Option.map_some,Option.isSome_some,Bool.not_true]
   refine Al (Al (hK _ _ ?_))
   refine ⟨dn++[(c,y)],rest',m,by simp [e1],rfl,hw',hr',hf',fun c'=>?_,Ah (Ah m2),m5⟩
   rw [hl' c',B6]
   by_cases e:c'=c
   ·subst e
    rw [hl' c',hdn] at hm
    cases hx:X.look p c' with
    |none=>rw [hx] at hm;exact Ak hm
    |some zu=>rfl
   ·have:Bi [(c,y)] c'=none:=by
     have e':¬c=c':=fun x=>e x.symm
     simp [Bi,e']
    rw [this];simp
  |none=>
   simp only [Option.map_none,Option.isSome_none,Bool.not_false,if_true]
   refine Aa (Co (Ab Au (Ap (Ab (Ah (Ah m2)) (Dr (X:=X.setTr p m) T hr' hp (Ab (Ah Au) (Fo htp ?_ ?_)))))))
   ·have:=hw'.trlen hp
    have e:(X.setTr p m).tr p=m:=if_pos rfl
    rw [e] at this
    simp only [List.length_map]
    exact Nat.le_trans this (Nat.le_trans hz (by exact Ax [] [] (Zn 4000) (Zn 4096) rfl))
   intro ep''
   refine Al (Al (hK _ _ ?_))
   rw [Ja hm]
   have hmap:(m.map fun e=>(e.1,AV.ref (X.A e.2)))++[(c,.ref (X.A y))]=(m++[(c,y)]).map fun e=>(e.1,AV.ref (X.A e.2)):=by simp
   rw [hmap]
   have hmW:∀e∈m,e.2∈X.D:=fun e he=>hw'.trD p hp e (by rw [show (X.setTr p m).tr p=m from if_pos rfl];exact he)
   have hmN:(m.map (·.1)).Nodup:=by have:=hw'.trN p hp;rw [show (X.setTr p m).tr p=m from if_pos rfl] at this;exact this
   have hmL:∀e∈m,e.2.getLast? = some e.1:=fun e he=>hw'.trL p hp e (by rw [show (X.setTr p m).tr p=m from if_pos rfl];exact he)
   refine ⟨dn++[(c,y)],rest',m++[(c,y)],by simp [e1],rfl,Lh hw ?_ ?_ ?_,?_,hf'.trans (BO.upd _ rfl),fun c'=>?_,Ah (Ah m2),?_⟩
   ·intro e he
    rcases List.mem_append.mp he with q|q
    ·exact hmW e q
    ·simp at q;subst q;exact hyD
   ·rw [List.map_append,List.nodup_append]
    refine ⟨hmN,by simp,?_⟩
    intro a ha b hb
    simp at hb;subst hb
    refine xa1_2 (List.mem_map.mp ha) ?_;intro e he;rintro rfl
    exact C1 hm e he
   ·intro e he
    rcases List.mem_append.mp he with q|q
    ·exact hmL e q
    ·simp at q;subst q;exact hyL
   ·have:=Jc (p:=p) (m:=m++[(c,y)]) (ep:=ep'') hw' hr' hp
    rw [GS] at this
    exact this
   ·rw [B6,B6,hl' c']
    cases X.look p c'<;>simp
   ·exact (Ac _ _ (fun e=>hps (hw.ti s hs p hp e).symm)).trans m5
 ·rintro zu zu σ' ⟨dn,rest,m,e1,e2,hw',hr',hf',hl',m2,m5⟩
  have:rest=[]:=by cases rest with|nil=>rfl|cons=>cases e2
  subst this
  simp at e1;subst e1
  exact ⟨rfl,m,hw',hr',hf',hl'⟩
theorem GP {s q:Aj} {c:As} (h:s <:+ q++[c]) (hs:s≠[]):∃q',s=q'++[c]∧q' <:+ q:=by
 refine xa1_1 h ?_;(try clear h);intro z hz
 rcases List.eq_nil_or_concat s with rfl|⟨s',x,rfl⟩
 ·exact absurd rfl hs
 ·rw [List.concat_eq_append] at hz ⊢
  rw [←List.append_assoc] at hz
  have h1:=List.append_inj' hz rfl
  refine xa0_2 h1 ?_;(try clear h1);intro h2 h3
  simp at h3;subst h3
  exact ⟨s',rfl,z,h2⟩
noncomputable def EO (X:Ad) (p:Aj) (t d:Addr) (ci:Bool) (hp hp':HP):Prop:=
 ∃X':Ad,X'.Wf∧AJ X' t d false ci hp'∧BO (Fp X t d) hp (Fp X t d) hp'∧X.Step X'∧X'.AD p∧(∀x∈X.D,p.length<x.length→X.Stay X' x)∧∀x∈X.D,x≠p→X.lss x≠none→hp' (X.T x)=hp (X.T x)
theorem MD (T:Tp C):∀(n:Nat) (A:Around) (X:Ad) (t d:Addr) (ci:Bool) (hp:HP) (q:Aj) (c:As),(q++[c]).length≤n→A.handled=none→A.depth+n<recursionLimit→X.Wf→AJ X t d false ci hp →
  q++[c]∈X.D→X.AD q→(∀x∈X.D,x.length<(q++[c]).length→X.UD x∨X.AD x)→(X.UD (q++[c])∨X.DN (q++[c]))→X.D.length≤4000 →
  Fn C A (.ref 122) [.ref t,.ref (X.A (q++[c]))] [] hp (fun v hp'=>v=.none∧EO X (q++[c]) t d ci hp hp'):=by
 intro n
 induction n with
 |zero=>intro A X t d ci hp q c hn;simp at hn
 |succ n ih=>
  intro A X t d ci hp q c hn hA hroom hw hr hpD had hsh hcur hz
  refine xa1_1 T.f_lss ?_;intro r₀ hf
  have hq:q∈X.D:=hw.closed q c hpD
  have hne:q++[c]≠[]:=by simp
  refine C7 (body:=DQ.body) hf (JA C r₀ _ _) (fun L=>?_) (by with_reducible exact Ff ‹_›) (by kernel_rfl) (by kernel_rfl) (by kernel_rfl) (by kernel_rfl) (by kernel_rfl)
  have hpar:X.parv (q++[c])=.ref (X.A q):=by simp only [Ad.parv];rw [if_neg hne,List.dropLast_concat]
  have hdq:=had q (List.suffix_refl q) hq
  have hlq:X.lssv q=.ref (X.A (BY X.D q)):=by simp only [Ad.lssv,hdq.1]
  refine Aa (Ai (Ap (Ab rfl (Bp T.n_zero hr.tree hr.ns rfl ?_))))
  refine Aa (Ai (Ap (Ab rfl (M9 T hr hpD ?_))))
  rw [hpar]
  refine Aa (Ai (Ap (Ab rfl (El T hr hq ?_))))
  rw [hlq]
  refine Aa (Tr.mono (Ks (σ:=(Am.set (Am.set (Am.set ⟨_,hp⟩ "zero_state" _) "parent" _) "traversed" _)) T hw hr hpD had rfl rfl rfl rfl rfl) ?_)
  rintro f σ₁ ⟨rfl,e₁,m1,m2,m3⟩
  have hsD:BY X.D (q++[c])∈X.D:=Cb hw.pc _
  have hslt:(BY X.D (q++[c])).length<(q++[c]).length:=Da hne
  have hw1:(X.setLss (q++[c]) (BY X.D (q++[c]))).Wf:=Gp hw
  have hr1:AJ (X.setLss (q++[c]) (BY X.D (q++[c]))) t d false ci σ₁.hp:=e₁▸EZ hr hpD
  have hfr1:BO (Fp X t d) hp (Fp X t d) σ₁.hp:=by rw [e₁];exact BO.upd _ (.inr (.inr ⟨q++[c],hpD,.inl rfl⟩))
  have hlp:(X.setLss (q++[c]) (BY X.D (q++[c]))).lss (q++[c])=some (BY X.D (q++[c])):=if_pos rfl
  have same1:X.Same (X.setLss (q++[c]) (BY X.D (q++[c]))):=⟨rfl,rfl,rfl,rfl,rfl⟩
  have stay1:∀x,x≠q++[c]→X.Stay (X.setLss (q++[c]) (BY X.D (q++[c]))) x:=fun x hx=>⟨if_neg hx,rfl⟩
  have hlook:∀c',(X.setLss (q++[c]) (BY X.D (q++[c]))).look (q++[c]) c'=X.look (q++[c]) c':=fun zu=>rfl
  have hT1:∀x∈X.D,σ₁.hp (X.T x)=hp (X.T x):=fun x hx=>by
   rw [e₁];exact Ac _ _ (Ad.Wf.dist hr hpD hx).1.symm
  generalize hs:BY X.D (q++[c])=s at *
  have hlv:(X.setLss (q++[c]) s).lssv (q++[c])=.ref (X.A s):=by simp only [Ad.lssv,hlp];rfl
  refine Aa (Ai (Ap (Ab m2 (El (X:=X.setLss (q++[c]) s) T hr1 hpD ?_))))
  rw [hlv]
  have hfull:∀c',(D3 X.D (q++[c]) c').or (if s=[] then none else Bq X.D s c')=Bq X.D (q++[c]) c':=fun c'=>by rw [Jy hw.pc hne,hs]
  have rest:∀(σ₂:Am) (X2:Ad),s≠[]→X2.Wf→AJ X2 t d false ci σ₂.hp→BO (Fp X t d) hp (Fp X t d) σ₂.hp→(X.setLss (q++[c]) s).Step X2→X2.AD s→(∀x∈X.D,s.length<x.length→(X.setLss (q++[c]) s).Stay X2 x)→(∀x∈X.D,x≠q++[c]→X.lss x≠none→σ₂.hp (X.T x)=hp (X.T x)) →
    σ₂.v "state" = some (.ref (X.A (q++[c])))→σ₂.v "suffix" = some (.ref (X.A s)) →
    Dn C (A.deeper (callEnv (r₀.fd DQ .none) L 122)) Bz (callEnv (r₀.fd DQ .none) L 122) (DQ.body.drop 7) σ₂ (fun fl σ'=>match fl with|.ret v=>v=.none∧EO X (q++[c]) t d ci hp σ'.hp|.next=>True∧EO X (q++[c]) t d ci hp σ'.hp|_=>False):=by
   intro σ₂ X2 hs0 hw2 hr2 hfr2 st2 ad2 lo2 kt2 k2 k3
   have hD2:X2.D=X.D:=st2.same.D
   have hA2:X2.A=X.A:=st2.same.A
   have hfp:Fp X2 t d=Fp X t d:=st2.same.fp t d
   have hsp:q++[c]≠s:=fun e=>by rw [←e] at hslt;exact IU [_] [(1,(Zs Z0),Z0)] rfl hslt
   refine Aa (Tr.mono (Jo T (by exact hA) hw2 hr2 (hD2▸hpD) (hD2▸hsD) hsp (by rw [hD2];exact hz) rfl (by rw [hA2];exact k2) (by rw [hA2];exact k3)) ?_)
   rintro f σ₃ ⟨rfl,m,hw3,hr3,hfr3,hm⟩
   refine Al ⟨trivial,X2.setTr (q++[c]) m,hw3,hr3,hfr2.trans (hfr3.wide (fun a e=>.inr (.inr ⟨q++[c],hpD,.inr (by rw [e,st2.same.T];rfl)⟩))),?_⟩
   have same3:X2.Same (X2.setTr (q++[c]) m):=⟨rfl,rfl,rfl,rfl,rfl⟩
   have stay3:∀x,x≠q++[c]→X2.Stay (X2.setTr (q++[c]) m) x:=fun x hx=>⟨rfl,if_neg hx⟩
   have hstp:=lo2 _ hpD hslt
   have dn3:(X2.setTr (q++[c]) m).DN (q++[c]):=by
    refine ⟨?_,fun c'=>?_⟩
    ·show X2.lss (q++[c])=some (BY X2.D (q++[c]))
     rw [hstp.1,hlp,hD2,hs]
    ·show Bi (if q++[c]=q++[c] then m else X2.tr (q++[c])) c'=Bq X2.D (q++[c]) c'
     rw [if_pos rfl,hm c',hD2]
     have e1:X2.look (q++[c]) c'=X.look (q++[c]) c':=by simp only [Ad.look,hstp.2];rfl
     have e2:X2.look s c'=Bq X.D s c':=by rw [(ad2 s (List.suffix_refl s) (hD2▸hsD)).2 c',hD2]
     rw [e1,e2]
     have hfu:=hfull c'
     rw [if_neg hs0] at hfu
     rcases hcur with u|u
     ·rw [u.2 c',hfu]
     ·rw [u.2 c']
      cases hx:Bq X.D (q++[c]) c' with
      |some zu=>rfl
      |none=>
       rw [hx] at hfu
       cases hk:D3 X.D (q++[c]) c' with
       |some zu=>rw [hk] at hfu;exact Ao hfu
       |none=>rw [hk] at hfu;simpa using hfu
   have ad3:(X2.setTr (q++[c]) m).AD (q++[c]):=by
    intro r hrs hrD
    by_cases e:r=q++[c]
    ·subst e;exact dn3
    ·have hrD':r∈X.D:=hD2▸hrD
     have h2:=I0 hrD' hrs e
     rw [hs] at h2
     exact (stay3 r e).dn same3 (ad2 r h2 hrD)
   refine ⟨⟨same1.trans (st2.same.trans same3),fun x hx=>?_⟩,ad3,fun x hx hl=>?_,fun x hx hxp hxl=>?_⟩
   ·by_cases e:x=q++[c]
    ·subst e;exact .inr ad3
    ·rcases st2.all x hx with a|a
     ·exact .inl ⟨(a.1.trans (stay1 x e).1),(stay3 x e).2.trans (a.2.trans (stay1 x e).2)⟩
     ·by_cases hl:x.length≤s.length
      ·refine .inr (fun r hrs hrD=>?_)
       refine (stay3 r ?_).dn same3 (a r hrs hrD)
       rintro rfl
       have:=hrs.length_le
       exact IU [_,_,_] [(1,(Zs Z0),Z1),(1,Z2,Z0),(1,Z1,Z2)] rfl hslt hl this
      ·have a:=lo2 x hx (by exact BV [_,_] [(1,(Zs Z0),Z1)] Z0 Z1 rfl (Nat.lt_of_not_le hl))
       exact .inl ⟨(a.1.trans (stay1 x e).1),(stay3 x e).2.trans (a.2.trans (stay1 x e).2)⟩
   ·have e:x≠q++[c]:=by rintro rfl;exact IU [_] [(1,(Zs Z0),Z0)] rfl hl
    have a:=lo2 x hx (by with_reducible exact Mp ‹_› ‹_›)
    exact ⟨(a.1.trans (stay1 x e).1),(stay3 x e).2.trans (a.2.trans (stay1 x e).2)⟩
   ·rw [←kt2 x hx hxp hxl]
    have hT2:X2.T=X.T:=st2.same.T
    refine xa1_1 (hr2.td x (hD2▸hx)) ?_;intro ep hx2
    rw [hT2] at hx2
    refine hfr3.keep _ (by rw [hx2];simp) (fun e=>hxp (hw2.ti x (hD2▸hx) _ (hD2▸hpD) ?_))
    rw [←e,hT2]
  refine Aa (Bc (Bg (Ab Au (Ab (Ah m3) (LB (X:=X.setLss (q++[c]) s) hr1 hsD hw.root ⟨_,rfl,?_⟩)))))
  by_cases hs0:s=[]
  ·subst hs0
   simp only [decide_true,if_true]
   refine Aa (CY ⟨rfl,X.setLss (q++[c]) [],hw1,hr1,hfr1,?_⟩)
   have dn1:(X.setLss (q++[c]) []).DN (q++[c]):=by
    refine ⟨hlp.trans (congrArg some hs.symm),fun c'=>?_⟩
    show X.look (q++[c]) c'=Bq X.D (q++[c]) c'
    have hfu:=hfull c'
    rw [if_pos rfl] at hfu
    rcases hcur with u|u
    ·rw [u.2 c',←hfu];simp
    ·exact u.2 c'
   have ad1:(X.setLss (q++[c]) []).AD (q++[c]):=by
    intro r hrs hrD
    by_cases e:r=q++[c]
    ·subst e;exact dn1
    ·have h2:=I0 hrD hrs e
     rw [show BY (X.setLss (q++[c]) []).D (q++[c])=[] from hs] at h2
     simp at h2;subst h2
     exact (stay1 [] e).dn same1 (had [] List.nil_suffix hw.root)
   refine ⟨⟨same1,fun x hx=>?_⟩,ad1,fun x hx hl=>stay1 x (by rintro rfl;exact IU [_] [(1,(Zs Z0),Z0)] rfl hl),fun x hx zu zu=>hT1 x hx⟩
   by_cases e:x=q++[c]
   ·subst e;exact .inr ad1
   ·exact .inl (stay1 x e)
  ·simp only [hs0,decide_false]
   refine Al ?_
   have hsx:s <:+ q++[c]:=hs▸D1
   refine xa1_2 (GP hsx hs0) ?_;intro q' hq' hq'q
   have hnp:s≠q++[c]:=by rintro rfl;exact IU [_] [(1,(Zs Z0),Z0)] rfl hslt
   have stay1':∀x,x.length≤s.length→X.Stay (X.setLss (q++[c]) s) x:=fun x hx=>stay1 x (by rintro rfl;exact IU [_,_] [(1,(Zs Z0),Z1),(1,Z1,Z0)] rfl hslt hx)
   have ad1:∀x,x.length≤s.length→X.AD x→(X.setLss (q++[c]) s).AD x:=fun x hx h r hrs hrD=>by
    have:=hrs.length_le
    exact (stay1' r (by with_reducible exact Cs ‹_› ‹_›)).dn same1 (h r hrs hrD)
   refine Aa (Bc (Bg (Ap (Ab Au (El (X:=X.setLss (q++[c]) s) T hr1 hsD (Bv ?_))))))
   rcases hsh s hsD hslt with u|u
   ·have e:(X.setLss (q++[c]) s).lssv s=.none:=by
     have:(X.setLss (q++[c]) s).lss s=none:=(stay1 s hnp).1.trans u.1
     simp only [Ad.lssv,this]
    rw [e]
    refine BW ⟨_,rfl,?_⟩
    simp only [if_true]
    refine Aa (Bu (A7 (Ab (Ah m1) (B0 T.m_lss hr1.tree hr1.ns rfl (AM (Ab Au (A3 (AF (B8 hf (Fn.mono (Q:=fun v hp'=>v=.none∧EO (X.setLss (q++[c]) s) s t d ci σ₁.hp hp') ?_ ?_))))))))))
    ·have hlen:q'.length<s.length:=by rw [hq'];simp
     have:=ih (A.deeper (callEnv (r₀.fd DQ .none) L 122)) (X.setLss (q++[c]) s) t d ci σ₁.hp q' c (by rw [←hq'];exact Ax [_,_,_] [(1,Z2,(Zs Z1)),(1,(Zs Z0),Z2)] Z0 Z1 rfl hn hslt) hA (by show A.depth+1+n<recursionLimit;exact BV [_,_,_] [(1,(Zs (Za Z0 (Zs Z1))),Z2)] (Za (Zs Z0) Z1) Z2 rfl hroom) hw1 hr1 (by rw [←hq'];exact hsD)
      (ad1 q' (by with_reducible exact Ki ‹_›) (fun r hrs hrD=>had r (hrs.trans hq'q) hrD))
      (fun x hx hl=>by
       rw [←hq'] at hl
       rcases hsh x hx (by with_reducible exact Mp ‹_› ‹_›) with v|v
       ·exact .inl ((stay1' x (by with_reducible exact Ki ‹_›)).ud same1 v)
       ·exact .inr (ad1 x (by with_reducible exact Ki ‹_›) v))
      (by rw [←hq'];exact .inl ((stay1 s hnp).ud same1 u)) hz
     rw [←hq'] at this
     exact this
    ·rintro v hp' ⟨zu,X2,hw2,hr2,hfr2,st2,ad2,lo2,kt2⟩
     refine Al ?_
     show Dn C _ Bz _ (DQ.body.drop 7) _ _
     refine rest _ X2 hs0 hw2 ?_ ?_ st2 ad2 lo2 ?_ ?_ ?_
     ·exact hr2
     ·exact hfr1.trans hfr2
     ·intro x hx hxp hxl
      rw [←hT1 x hx]
      exact kt2 x hx (by rintro rfl;exact hxl u.1) (by rw [(stay1 x hxp).1];exact hxl)
     ·exact Ah m2
     ·exact Au
   ·have e:(X.setLss (q++[c]) s).lssv s=.ref (X.A (BY X.D s)):=by
     have:(X.setLss (q++[c]) s).lss s=some (BY X.D s):=(stay1 s hnp).1.trans (u s (List.suffix_refl s) hsD).1
     simp only [Ad.lssv,this];rfl
    rw [e]
    refine EI ⟨_,rfl⟩ ⟨_,rfl,?_⟩
    refine Al ?_
    show Dn C _ Bz _ (DQ.body.drop 7) _ _
    refine rest _ _ hs0 hw1 ?_ ?_ (.refl _) (ad1 s (Nat.le_refl _) u) (fun zu zu zu=>⟨rfl,rfl⟩) ?_ ?_ ?_
    ·exact hr1
    ·exact hfr1
    ·exact fun x hx zu zu=>hT1 x hx
    ·exact Ah m2
    ·exact Au
end
section
noncomputable def Ch (D:List Aj) (x y:Aj):Prop:=∃c,Bq D x c=some y
structure GJ (D st pl:List Aj) (x:Aj) (ys:List Aj):Prop where
 sD:∀z∈st,z∈D
 pD:∀z∈pl,z∈D
 pn:pl.Nodup
 rt:[]∈pl∨[]∈st
 cl:∀z∈pl,∀y,Ch D z y→y∈pl∨y∈st∨(z=x∧y∈ys)
 tp:∀l z r,st=l++z::r→z∈pl→∀y,Ch D z y→y∈pl∨y∈r∨(z=x∧y∈ys)
noncomputable def EF (pl:List Aj) (x:Aj):List Aj:=if x∈pl then pl else pl++[x]
theorem AP {pl:List Aj} {x z:Aj}:z∈EF pl x↔z∈pl∨z=x:=by
 simp only [EF];split
 ·rename_i h
  constructor
  ·exact .inl
  ·rintro (q|rfl)
   ·exact q
   ·exact h
 ·simp
variable {D st pl:List Aj} {x:Aj} {ys:List Aj}
theorem GJ.init (h:[]∈D) (x:Aj):GJ D [[]] [] x []:=⟨by simpa using h,by simp,List.nodup_nil,.inr (by simp),by simp,by simp⟩
theorem GJ.pop {x₀:Aj} (h:GJ D (st++[x]) pl x₀ []) (hy:∀y,Ch D x y→y∈ys):GJ D st (EF pl x) x ys where
 sD:=fun z hz=>h.sD z (List.mem_append_left _ hz)
 pD:=fun z hz=>by
  rcases AP.mp hz with q|rfl
  ·exact h.pD z q
  ·exact h.sD z (by simp)
 pn:=by
  simp only [EF];split
  ·exact h.pn
  ·rename_i hn
   refine List.nodup_append.mpr ⟨h.pn,by simp,?_⟩
   intro a ha b hb e
   simp at hb;subst hb;subst e;exact hn ha
 rt:=by
  rcases h.rt with q|q
  ·exact .inl (AP.mpr (.inl q))
  ·rcases List.mem_append.mp q with q|q
   ·exact .inr q
   ·simp at q;exact .inl (AP.mpr (.inr q.symm))
 cl:=fun z hz y hc=>by
  rcases AP.mp hz with q|rfl
  ·rcases h.cl z q y hc with a|a|a
   ·exact .inl (AP.mpr (.inl a))
   ·rcases List.mem_append.mp a with a|a
    ·exact .inr (.inl a)
    ·simp at a;exact .inl (AP.mpr (.inr a))
   ·simp at a
  ·exact .inr (.inr ⟨rfl,hy y hc⟩)
 tp:=fun l z r e hz y hc=>by
  rcases AP.mp hz with q|rfl
  ·rcases h.tp l z (r++[x]) (by rw [e];simp) q y hc with a|a|a
   ·exact .inl (AP.mpr (.inl a))
   ·rcases List.mem_append.mp a with a|a
    ·exact .inr (.inl a)
    ·simp at a;exact .inl (AP.mpr (.inr a))
   ·simp at a
  ·exact .inr (.inr ⟨rfl,hy y hc⟩)
theorem GJ.known {x₀:Aj} (h:GJ D (st++[x]) pl x₀ []) (hx:x∈pl):∀y,Ch D x y→y∈pl:=fun y hc=>by
 rcases h.tp st x [] rfl hx y hc with a|a|a
 ·exact a
 ·simp at a
 ·simp at a
theorem GJ.skip {y:Aj} (h:GJ D st pl x (y::ys)) (hy:y∈pl):GJ D st pl x ys where
 sD:=h.sD
 pD:=h.pD
 pn:=h.pn
 rt:=h.rt
 cl:=fun z hz y' hc=>by
  rcases h.cl z hz y' hc with a|a|⟨a,b⟩
  ·exact .inl a
  ·exact .inr (.inl a)
  ·rcases List.mem_cons.mp b with rfl|b
   ·exact .inl hy
   ·exact .inr (.inr ⟨a,b⟩)
 tp:=fun l z r e hz y' hc=>by
  rcases h.tp l z r e hz y' hc with a|a|⟨a,b⟩
  ·exact .inl a
  ·exact .inr (.inl a)
  ·rcases List.mem_cons.mp b with rfl|b
   ·exact .inl hy
   ·exact .inr (.inr ⟨a,b⟩)
theorem GJ.push {y:Aj} (h:GJ D st pl x (y::ys)) (hy:y∉pl) (hD:y∈D):GJ D (st++[y]) pl x ys where
 sD:=fun z hz=>by
  rcases List.mem_append.mp hz with q|q
  ·exact h.sD z q
  ·simp at q;subst q;exact hD
 pD:=h.pD
 pn:=h.pn
 rt:=h.rt.imp_right (List.mem_append_left _)
 cl:=fun z hz y' hc=>by
  rcases h.cl z hz y' hc with a|a|⟨a,b⟩
  ·exact .inl a
  ·exact .inr (.inl (List.mem_append_left _ a))
  ·rcases List.mem_cons.mp b with rfl|b
   ·exact .inr (.inl (by simp))
   ·exact .inr (.inr ⟨a,b⟩)
 tp:=fun l z r e hz y' hc=>by
  rcases List.eq_nil_or_concat r with rfl|⟨r',w,rfl⟩
  ·have:=List.append_inj' (s₁:=st) (t₁:=[y]) (s₂:=l) (t₂:=[z]) e rfl
   simp at this
   exact absurd (this.2▸hz) hy
  ·rw [List.concat_eq_append] at e ⊢
   have e':st++[y]=(l++z::r')++[w]:=by rw [e];simp
   refine xa0_2 (List.append_inj' e' rfl) ?_;intro e1 e2
   simp at e2;subst e2
   rcases h.tp l z r' e1 hz y' hc with a|a|⟨a,b⟩
   ·exact .inl a
   ·exact .inr (.inl (List.mem_append_left _ a))
   ·rcases List.mem_cons.mp b with rfl|b
    ·exact .inr (.inl (by simp))
    ·exact .inr (.inr ⟨a,b⟩)
theorem Ch.kid {q:Aj} {c:As} (h:q++[c]∈D):Ch D q (q++[c]):=by
 refine ⟨c,?_⟩
 cases q with
 |nil=>simp only [Bq,D3,if_true];rw [if_pos h]
 |cons a q=>
  simp only [Bq,BK];rw [if_neg (by simp),if_pos h]
theorem GJ.all (h:GJ D [] pl x []) (hc:PC D):∀p∈D,p∈pl:=by
 intro p
 have:∀n (p:Aj),p.length=n→p∈D→p∈pl:=by
  intro n
  induction n with
  |zero=>
   intro p hn hp
   have:p=[]:=List.length_eq_zero_iff.mp hn
   subst this
   exact h.rt.resolve_right (by simp)
  |succ n ih=>
   intro p hn hp
   rcases List.eq_nil_or_concat p with rfl|⟨q,c,rfl⟩
   ·cases hn
   ·rw [List.concat_eq_append] at hn hp ⊢
    have hq:=ih q (by simpa using hn) (hc.closed q c hp)
    rcases h.cl q hq _ (Ch.kid hp) with a|a|a
    ·exact a
    ·simp at a
    ·simp at a
 exact this p.length p rfl
noncomputable def Gr (D pl:List Aj) (S:Int→Bool):Prop:=∀p∈D,S (D.idxOf p)=true↔p∈pl
theorem Gr.add {S:Int→Bool} (h:Gr D pl S) (hx:x∈D):Gr D (EF pl x) (fun j=>S j||decide (j=(D.idxOf x:Int))):=by
 intro p hp
 rw [AP,Bool.or_eq_true,h p hp,decide_eq_true_iff]
 constructor
 ·exact Or.imp_right (fun e=>IH hp (by omega))
 ·exact Or.imp_right (fun e=>by rw [e])
theorem IG (pl:List Aj) (x:Aj) {S:Int→Bool} (h:Gr D pl S) (hx:x∈D):(if S (D.idxOf x) then pl.length else pl.length+1)=(EF pl x).length:=by
 by_cases e:x∈pl
 ·rw [if_pos ((h x hx).mpr e)];simp [EF,e]
 ·rw [if_neg (fun q=>e ((h x hx).mp q))];simp [EF,e]
theorem EB {N a b c c':Nat} (h1:a+1≤N) (h2:c'≤c+N):(N - (a+1))*(N+1)+c'<(N - a)*(N+1)+(c+1):=by
 obtain ⟨k,rfl⟩:∃k,N=a+1+k:=⟨N - (a+1),by exact Nat.le_antisymm (Ax [_,_,_] [(1,Z0,(Za Z2 (Zs Z1)))] Z0 (Za (Zs Z1) Z2) rfl (CG _ _)) (Ax [_,_,_] [(1,(Za Z1 (Zs Z0)),Z2)] (Za (Zs Z0) Z1) Z2 rfl (Nat.le_of_eq (Nat.sub_add_cancel (Ax [_,_] [(1,(Zs Z0),Z1)] (Zs Z0) Z1 rfl h1))))⟩
 have e1:a+1+k - (a+1)=k:=by exact Nat.le_antisymm (Ax [_,_,_] [(1,(Za Z0 (Zs Z2)),(Za (Zs Z2) Z1))] Z0 Z1 rfl (Nat.le_of_eq (Nat.sub_add_cancel (Ax [_,_] [] (Zs Z0) (Za (Zs Z0) Z1) rfl)))) (Ax [_,_,_] [(1,(Za (Zs Z2) Z0),(Za Z1 (Zs Z2)))] Z0 Z1 rfl (CG _ _))
 have e2:a+1+k - a=k+1:=by exact Nat.le_antisymm (Ax [_,_,_] [(1,(Za Z0 Z2),(Za (Zs Z2) Z1))] Z0 (Zs Z1) rfl (Nat.le_of_eq (Nat.sub_add_cancel (Ax [_,_] [] Z0 (Za (Zs Z0) Z1) rfl)))) (Ax [_,_,_] [(1,(Za (Zs Z2) Z0),(Za Z1 Z2))] (Zs Z0) Z1 rfl (CG _ _))
 rw [e1,e2,Nat.succ_mul];exact BV [_,_,_,_,_] [(1,Z1,(Za Z4 (Za (Zs Z2) Z3)))] (Za Z0 Z1) (Za (Za Z0 (Zs (Za (Zs Z2) Z3))) (Zs Z4)) rfl h2
theorem BO.upd0 {P:Addr→Prop} {h h':HP} {a:Addr} (x:AO) (f:BO P h P h') (ha:h a=none):BO P h P (AC.upd h' a x):=
 ⟨fun b hb nb=>(Ac _ _ (by rintro rfl;exact hb ha)).trans (f.keep b hb nb),fun zu q=>.inl q⟩
theorem AJ.updOff {X:Ad} {t d:Addr} {fin ci:Bool} {hp:HP} (hr:AJ X t d fin ci hp) {a:Addr} {x:AO} (ha:¬Fp X t d a):AJ X t d fin ci (AC.upd hp a x):=
 hr.off (fun b hb=>Ac _ _ (by rintro rfl;exact ha hb))
end
section
variable {C:Cf} {A:Around} {E:Value→Shared→Prop} {env:Env} {σ:Am}
theorem Cn {hp:HP} {a b:Addr} {x:AO} (h1:hp a=some x) (h2:hp b=none):a≠b:=by rintro rfl;rw [h1] at h2;exact Ao h2
theorem NA {X:Ad} {p q:Aj} (h:X.AD p) (hs:q <:+ p):X.AD q:=fun r hr hD=>h r (hr.trans hs) hD
structure Mz (X:Ad) (t d:Addr) (ci:Bool) (hp:HP) (pa wa:Addr) (st pl:List Aj) (x:Aj) (ys:List Aj) (X':Ad) (σ:Am):Prop where
 wf:X'.Wf
 rep:AJ X' t d false ci σ.hp
 fr:BO (Fp X t d) hp (Fp X t d) σ.hp
 step:X.Step X'
 all:∀p∈X'.D,X'.UD p∨X'.AD p
 sad:∀p∈st,X'.AD p
 pad:∀p∈pl,X'.AD p
 dfs:GJ X'.D st pl x ys
 set:∃S,σ.hp pa=some (.iset S pl.length)∧Gr X'.D pl S
 stk:σ.hp wa=some (.list (st.map fun p=>.ref (X'.A p)))
 l1:σ.v "self" = some (.ref t)
 l2:σ.v "processed" = some (.ref pa)
 l3:σ.v "to_process" = some (.ref wa)
theorem LJ (T:Tp C) {X:Ad} {t d:Addr} {ci:Bool} {hp:HP} {N:Nat} (hA:A.handled=none) (hroom:A.depth+N+2<recursionLimit) (hw:X.Wf) (hr:AJ X t d false ci hp) (had:X.AD []) (hall:∀p∈X.D,X.UD p∨X.AD p)
  (hz:X.D.length≤300) (hN:∀p∈X.D,p.length≤N) :
  Fn C A (.ref 115) [.ref t,.ref (X.A [])] [] hp (fun v hp'=>v=.none∧∃X',X'.Wf∧AJ X' t d false ci hp'∧BO (Fp X t d) hp (Fp X t d) hp'∧X.Step X'∧∀p∈X.D,X'.DN p):=by
 refine xa1_1 T.f_kids ?_;intro r₀ hf
 refine xa1_1 T.f_lss ?_;intro r₁ hfl
 refine C7 (body:=Hi.body) hf (Ik C r₀ _ _) (fun L=>?_) (by exact BV [_,_,_] [(1,(Zs (Za (Za Z0 Z2) (Zn 2))),Z1)] Z0 Z1 rfl hroom) (by kernel_rfl) (by kernel_rfl) (by kernel_rfl) (by kernel_rfl) (by kernel_rfl)
 refine Tr.gen fun K0 hK0=>?_
 refine Aa (Ai (B7 (C8 T.g_set (A3 (AF (I1 (fun pa hpa=>?_)))))))
 refine Aa (Ai (ER (AM (Ab rfl (A3 ⟨by simp,fun wa hwa=>?_⟩)))))
 have hwp:wa≠pa:=by rintro rfl;simp at hwa
 have hwa0:hp wa=none:=by simpa [upd,hwp] using hwa
 have hpa0:hp pa=none:=hpa
 have npa:¬Fp X t d pa:=fun h=>hr.some h hpa0
 have nwa:¬Fp X t d wa:=fun h=>hr.some h hwa0
 refine Aa (Eb (fun m σ'=>∃st pl X',m=(X.D.length - pl.length)*(X.D.length+1)+st.length∧st.length≤pl.length*X.D.length+1∧Mz X t d ci hp pa wa st pl [] [] X' σ') ?_ ((X.D.length - 0)*(X.D.length+1)+1) ?_)
 ·rintro m σ' ⟨st,pl,X',rfl,hlen0,I⟩
  have hD':X'.D=X.D:=I.step.same.D
  have hfp:Fp X' t d=Fp X t d:=I.step.same.fp t d
  have hpc:PC X'.D:=I.wf.pc
  rw [←hD'] at hz hN hlen0 ⊢
  have hplD:pl.length≤X'.D.length:=BX I.dfs.pn I.dfs.pD
  have hlen:(st.map fun p=>AV.ref (X'.A p)).length≤100000:=by
   have h2:pl.length*X'.D.length≤300*300:=Nat.mul_le_mul (by with_reducible exact Cs ‹_› ‹_›) hz
   simp;exact Ax [_,_] [(1,Z0,(Zs Z1)),(1,Z1,(.mulL 300 (Zn 300)))] Z0 (Zn 100000) rfl hlen0 h2
  refine Bd (Ab I.l3 (E4 I.stk hlen ?_))
  rcases List.eq_nil_or_concat st with rfl|⟨st,x,rfl⟩
  ·simp only [List.map_nil,List.isEmpty_nil,Bool.not_true]
   exact Al (hK0 _ _ ⟨rfl,X',I.wf,I.rep,I.fr,I.step,fun p hp=>I.pad p (I.dfs.all hpc p (hD'.symm▸hp)) p (List.suffix_refl p) (hD'.symm▸hp)⟩)
  ·rw [List.concat_eq_append] at *
   simp only [List.map_append,List.map_cons,List.map_nil] at hlen ⊢
   have hne:(!(st.map (fun p=>AV.ref (X'.A p))++[AV.ref (X'.A x)]).isEmpty)=true:=by simp
   rw [hne]
   refine Tr.gen fun K1 hK1=>?_
   have hstk:=I.stk
   simp only [List.map_append,List.map_cons,List.map_nil] at hstk
   have hxD:x∈X'.D:=I.dfs.sD x (by simp)
   have hx:X'.AD x:=I.sad x (by simp)
   have hxn:X'.DN x:=hx x (List.suffix_refl x) hxD
   refine xa1_2 I.set ?_;intro S hS hM
   refine Aa (Ai (A7 (Ab I.l3 (Mq hstk (A3 (AF (Hg hstk (by simp at hlen ⊢;with_reducible exact CM ‹_› (by decide)) ?_)))))))
   have hr1:AJ X' t d false ci (upd σ'.hp wa (.list (st.map fun p=>.ref (X'.A p)))):=I.rep.updOff (by rw [hfp];exact nwa)
   refine Aa (Bu (A7 (Ab (Ah I.l2) (Kq ((Ac _ _ hwp.symm).trans hS) (AM (Ap (Ab Au (I9 (X:=X') T hr1 hxD (A3 (AF (I2 ((Ac _ _ hwp.symm).trans hS) (by exact BV [_,_] [(1,Z1,(Zn 300)),(1,Z0,Z1)] (Zs Z0) (Zn 4096) rfl hz hplD) ?_)))))))))))
   have hr2:AJ X' t d false ci (upd (upd σ'.hp wa (.list (st.map fun p=>.ref (X'.A p)))) pa (.iset (fun j=>S j||decide (j=(X'.D.idxOf x:Int))) (if S (X'.D.idxOf x) then pl.length else pl.length+1))):=hr1.updOff (by rw [hfp];exact npa)
   refine xa1_1 (hr2.td x hxD) ?_;intro ep htd
   have hkeep:∀a,Fp X' t d a→a≠wa∧a≠pa:=fun a ha=>⟨by rintro rfl;exact nwa (hfp▸ha),by rintro rfl;exact npa (hfp▸ha)⟩
   have htx:Fp X' t d (X'.T x):=.inr (.inr ⟨x,hxD,.inr rfl⟩)
   refine Aa (GH (fun zu zu hp=>hp (X'.T x)=some (.dict (X'.trv x) ep))
    (fun zu zu xs σ''=>∃st' ys X'',xs=ys.map (fun y=>AV.ref (X'.A y))∧X'.Step X''∧Mz X t d ci hp pa wa st' (EF pl x) x ys X'' σ''∧(∀y∈ys,Ch X'.D x y)∧(x∈pl→st'=st)∧st'.length+ys.length≤st.length+X'.D.length∧σ''.hp (X'.T x)=some (.dict (X'.trv x) ep))
    (A7 (Ap (Ab Au (Dr (X:=X') T hr2 hxD (Hb htd (A3 (AF (dict_values T.sysm htd (fun v hv=>⟨_,E9 D2 hA (Ae _ _ _) ?_,?_⟩))))))))) ?_ ?_ ?_)
   ·exact (Ac _ _ (Cn htd hv)).trans htd
   ·have hvw:v≠wa:=by rintro rfl;simp [upd,hwp] at hv
    have hvp:v≠pa:=by rintro rfl;simp [upd] at hv
    have hv0:σ'.hp v=none:=by simpa [upd,hvw,hvp] using hv
    have hvh:hp v=none:=by
     cases e:hp v with
     |none=>rfl
     |some o=>
      have nf:¬Fp X t d v:=fun q=>I.rep.some (hfp▸q) hv0
      rw [I.fr.keep v (by rw [e];simp) nf,e] at hv0;exact Ao hv0
    refine ⟨st,(X'.tr x).map (·.2),X',by simp [Ad.trv],.refl X',⟨I.wf,hr2.new hv,((I.fr.upd0 _ hwa0).upd0 _ hpa0).upd0 _ hvh,I.step,I.all,fun p hp=>I.sad p (by simp [hp]),fun p hp=>?_,I.dfs.pop (fun y hc=>?_),?_,?_,Ah I.l1,Ah I.l2,Ah I.l3⟩,?_,fun zu=>rfl,?_,?_⟩
    ·rcases AP.mp hp with q|rfl
     ·exact I.pad p q
     ·exact hx
    ·refine xa1_1 hc ?_;(try clear hc);intro c hc
     rw [←hxn.2 c] at hc
     exact List.mem_map.mpr ⟨(c,y),Ep hc,rfl⟩
    ·refine ⟨_,?_,hM.add hxD⟩
     rw [←IG pl x hM hxD]
     exact (Ac _ _ hvp.symm).trans (Ae _ _ _)
    ·exact (Ac _ _ hvw.symm).trans ((Ac _ _ hwp).trans (Ae _ _ _))
    ·intro y hy
     refine xa1_2 (List.mem_map.mp hy) ?_;intro e he;rintro rfl
     exact ⟨e.1,by rw [←hxn.2 e.1];exact Hf (I.wf.trN x hxD) he⟩
    ·have:=I.wf.trlen hxD
     simp;assumption
    ·exact (Ac _ _ (Cn htd hv)).trans htd
   ·rintro zu zu xs σ'' ⟨zu,zu,zu,zu,zu,zu,zu,zu,zu,h⟩
    exact h
   ·rintro zu zu z xs σ'' ⟨st',ys,X'',e1,hst,J,hch,hnp,hln,htk⟩
    obtain ⟨y,ys,rfl,rfl,rfl⟩:∃y ys',ys=y::ys'∧z=.ref (X'.A y)∧xs=ys'.map (fun y=>AV.ref (X'.A y)):=by
     cases ys with
     |nil=>cases e1
     |cons y ys'=>simp only [List.map_cons,List.cons.injEq] at e1;exact ⟨y,ys',rfl,e1.1,e1.2⟩
    have hD2:X''.D=X'.D:=hst.same.D
    have hA2:X''.A=X'.A:=hst.same.A
    have hT2:X''.T=X'.T:=hst.same.T
    have hfp2:Fp X'' t d=Fp X t d:=(hst.same.fp t d).trans hfp
    refine xa1_1 (hch y (by simp)) ?_;intro c hc
    refine cps fun zP zk=>?_;(rcases Es hc with ⟨hyD,r',rfl,hr'x⟩)<;>(refine zk ?_;clear zk zP)
    rw [←hA2]
    rw [←hD2] at hyD
    refine xa1_2 J.set ?_;intro S2 hS2 hM2
    refine B9 ?_
    refine Tr.gen fun K2 hK2=>?_
    refine Aa (Bc (Bg (Ap (Ab Au (I9 (X:=X'') T J.rep hyD (Ab (Ah J.l2) (Fh (Kd hS2 ⟨_,rfl,_,rfl,?_⟩))))))))
    have hlen2:(st'.map fun p=>AV.ref (X''.A p)).length≤100000:=by
     have h2:pl.length*X'.D.length≤300*300:=Nat.mul_le_mul (by with_reducible exact Cs ‹_› ‹_›) hz
     simp at hlen0 hln ⊢;exact Ax [_,_,_,_,_] [(1,Z1,(Zn 300)),(1,(Za Z0 (Zs Z2)),(Za Z3 Z1)),(1,Z4,(.mulL 300 (Zn 300))),(1,Z3,Z4)] Z0 (Zn 100000) rfl hz hln h2 hlen0
    by_cases hy:r'++[c]∈EF pl x
    ·rw [(hM2 _ hyD).mpr hy]
     simp only [Bool.not_true]
     exact Al (Al (hK2 _ _ ⟨st',ys,X'',by rw [hA2],hst,⟨J.wf,J.rep,J.fr,J.step,J.all,J.sad,J.pad,J.dfs.skip hy,⟨S2,hS2,hM2⟩,J.stk,Ah J.l1,Ah J.l2,Ah J.l3⟩,fun y' hy'=>hch y' (by simp [hy']),hnp,by simp at hln;exact Ax [_,_,_,_] [(1,(Za Z0 (Zs Z1)),(Za Z2 Z3))] (Za Z0 Z1) (Za Z2 Z3) rfl hln,htk⟩))
    ·have hSf:S2 (X''.D.idxOf (r'++[c]))=false:=by
      cases e:S2 (X''.D.idxOf (r'++[c])) with
      |false=>rfl
      |true=>exact absurd ((hM2 _ hyD).mp e) hy
     rw [hSf]
     simp only [Bool.not_false,if_true]
     have hxJ:X''.AD x:=J.pad x (AP.mpr (.inr rfl))
     have hxD2:x∈X''.D:=hD2▸hxD
     have hcur:X''.UD (r'++[c])∨X''.DN (r'++[c]):=(J.all _ hyD).imp_right (fun a=>a _ (List.suffix_refl _) hyD)
     refine Aa (Bu (A7 (Ab (Ah J.l1) (B0 T.m_lss J.rep.tree J.rep.ns rfl (AM (Ab Au (A3 (AF (B8 hfl (Fn.mono
      (MD T N (A.deeper (callEnv (r₀.fd Hi .none) L 115)) X'' t d ci σ''.hp r' c (hN _ (hD2▸hyD)) hA (by show A.depth+1+N<recursionLimit;exact BV [_,_,_] [(1,(Zs (Za (Za Z0 Z1) (Zn 2))),Z2)] (Za (Zs Z0) Z1) Z2 rfl hroom) J.wf J.rep hyD (NA hxJ hr'x) (fun p hp zu=>J.all p hp) hcur (by rw [hD2];with_reducible exact CM ‹_› (by decide))) ?_))))))))))
     rintro v hp3 ⟨zu,X3,hw3,hr3,hfr3,st3,ad3,zu,kt3⟩
     have hD3:X3.D=X''.D:=st3.same.D
     have hA3:X3.A=X''.A:=st3.same.A
     have hfp3:Fp X3 t d=Fp X t d:=(st3.same.fp t d).trans hfp2
     have hwk:hp3 wa=some (.list (st'.map fun p=>.ref (X''.A p))):=(hfr3.keep wa (by rw [J.stk];simp) (by rw [hfp2];exact nwa)).trans J.stk
     have hpk:hp3 pa=some (.iset S2 (EF pl x).length):=(hfr3.keep pa (by rw [hS2];simp) (by rw [hfp2];exact npa)).trans hS2
     refine Aa (Bu (A7 (Ab (Ah J.l3) (DP hwk (AM (Ab Au (A3 (AF (list_append hwk hlen2 ?_)))))))))
     refine Al (Al (hK2 _ _ ⟨st'++[r'++[c]],ys,X3,by rw [hA2],hst.trans st3,⟨hw3,AJ.updOff hr3 (by rw [hfp3];exact nwa),(J.fr.trans (hfp2▸hfr3)).upd0 _ hwa0,J.step.trans st3,?_,?_,fun p hp=>st3.ad (J.pad p hp),?_,?_,?_,Ah J.l1,Ah J.l2,Ah J.l3⟩,fun y' hy'=>hch y' (by simp [hy']),?_,?_,?_⟩))
     ·intro p hp
      rw [hD3] at hp
      rcases st3.all p hp with a|a
      ·rcases J.all p hp with b|b
       ·exact .inl (a.ud st3.same b)
       ·exact .inr (st3.ad b)
      ·exact .inr a
     ·intro p hp
      rcases List.mem_append.mp hp with q|q
      ·exact st3.ad (J.sad p q)
      ·simp at q;subst q;exact ad3
     ·rw [hD3];exact J.dfs.push hy hyD
     ·exact ⟨S2,(Ac _ _ hwp.symm).trans hpk,by rw [hD3];exact hM2⟩
     ·rw [hA3];refine (Ae _ _ _).trans ?_;simp
     ·intro q
      exact absurd (AP.mpr (.inl (I.dfs.known q _ ⟨c,hc⟩))) hy
     ·simp at hln ⊢;exact Ax [_,_,_,_] [(1,(Za Z0 (Zs Z1)),(Za Z2 Z3))] (Za (Zs Z0) Z1) (Za Z2 Z3) rfl hln
     ·have hxy:x≠r'++[c]:=by rintro rfl;exact hy (AP.mpr (.inr rfl))
      have:=kt3 x hxD2 hxy (by rw [(hxJ x (List.suffix_refl x) hxD2).1];simp)
      rw [hT2] at this
      exact (Ac _ _ (hkeep _ htx).1).trans (this.trans htk)
   ·rintro zu zu σ'' ⟨st',ys,X'',e1,hst,J,hch,hnp,hln,htk⟩
    have:ys=[]:=by cases ys with|nil=>rfl|cons=>cases e1
    subst this
    have hD2:X''.D=X'.D:=hst.same.D
    refine Al (hK1 _ _ ?_)
    by_cases hxp:x∈pl
    ·have e:=hnp hxp
     subst e
     have hi:EF pl x=pl:=by simp [EF,hxp]
     rw [hi] at J
     refine ⟨_,?_,st',pl,X'',rfl,?_,⟨J.wf,J.rep,J.fr,J.step,J.all,J.sad,J.pad,⟨J.dfs.sD,J.dfs.pD,J.dfs.pn,J.dfs.rt,fun z hz y hc=>?_,fun l z r e hz y hc=>?_⟩,J.set,J.stk,J.l1,J.l2,J.l3⟩⟩
     ·simp
     ·simp at hlen0;exact Ax [_,_] [(1,Z0,Z1)] Z0 (Zs Z1) rfl hlen0
     ·rcases J.dfs.cl z hz y hc with a|a|a
      ·exact .inl a
      ·exact .inr (.inl a)
      ·simp at a
     ·rcases J.dfs.tp l z r e hz y hc with a|a|a
      ·exact .inl a
      ·exact .inr (.inl a)
      ·simp at a
    ·have hi:(EF pl x).length=pl.length+1:=by simp [EF,hxp]
     have hle:(EF pl x).length≤X'.D.length:=by rw [←hD2];exact BX J.dfs.pn J.dfs.pD
     refine ⟨_,?_,st',EF pl x,X'',rfl,?_,⟨J.wf,J.rep,J.fr,J.step,J.all,J.sad,J.pad,⟨J.dfs.sD,J.dfs.pD,J.dfs.pn,J.dfs.rt,fun z hz y hc=>?_,fun l z r e hz y hc=>?_⟩,J.set,J.stk,J.l1,J.l2,J.l3⟩⟩
     ·rw [hi,List.length_append]
      exact EB (b:=0) (by exact Ax [_,_,_] [(1,(Zs Z0),Z2),(1,Z2,Z1)] (Zs Z0) Z1 rfl (Nat.le_of_eq (Eq.symm hi)) hle) (by simpa using hln)
     ·rw [hi,Nat.succ_mul]
      simp at hln hlen0;exact Ax [_,_,_,_] [(1,Z0,(Za Z3 Z2)),(1,Z3,Z1)] Z0 (Zs (Za Z1 Z2)) rfl hln hlen0
     ·rcases J.dfs.cl z hz y hc with a|a|a
      ·exact .inl a
      ·exact .inr (.inl a)
      ·simp at a
     ·rcases J.dfs.tp l z r e hz y hc with a|a|a
      ·exact .inl a
      ·exact .inr (.inl a)
      ·simp at a
 ·refine ⟨[[]],[],X,by simp,by simp,⟨hw,(hr.new hpa0).updOff nwa,((BO.new _ hpa0).upd0 _ hwa0),.refl X,hall,?_,by simp,GJ.init hw.root [],⟨fun zu=>false,(Ac _ _ hwp.symm).trans (Ae _ _ _),fun p zu=>by simp⟩,Ae _ _ _,rfl,rfl,rfl⟩⟩
  intro p hp;simp at hp;subst hp;exact had
end
section
variable {C:Cf} {A:Around} {E:Value→Shared→Prop} {env:Env} {σ:Am}
noncomputable def outs (key:Aj→Option AV):Aj→List AV
 |[]=>[]
 |c::p=>(match key (c::p) with|some v=>[.tup [v,.int ((c::p).length:Nat)]]|none=>[])++outs key p
theorem DJ (key:Aj→Option AV):∀p,(outs key p).length≤p.length
 |[]=>Nat.le_refl _
 |c::p=>by
  have:=DJ key p
  simp only [outs,List.length_append,List.length_cons]
  split<;>simp<;>omega
theorem Fc {D:List Aj} {key:Aj→Option AV} (hk:∀p,p∉D→key p=none):∀p,outs key p=outs key (BG D p)
 |[]=>rfl
 |c::p=>by
  by_cases h:(c::p)∈D
  ·rw [EV h]
  ·rw [show BG D (c::p)=BG D p by simp [BG,h],←Fc hk p]
   simp [outs,hk _ h]
theorem Jh {D:List Aj} {key:Aj→Option AV} (hk:∀p,p∉D→key p=none) {p:Aj} (hp:p≠[]) :
  outs key p=(match key p with|some v=>[.tup [v,.int (p.length:Nat)]]|none=>[])++outs key (BY D p):=by
 cases p with
 |nil=>exact absurd rfl hp
 |cons c p=>simp only [outs,BY,List.tail_cons,←Fc hk p]
noncomputable def Ad.wo (X:Ad) (o:Aj→Option AV):Ad:={ X with out:=o }
theorem Mu {X:Ad} (h:X.Wf) (o:Aj→Option AV):(X.wo o).Wf:=⟨h.root,h.nodup,h.closed,h.ti,h.trD,h.trN,h.trL,h.mkD,h.mkV⟩
noncomputable def MZ (X:Ad) (t d:Addr) (hp:HP):Prop:=∀p v,X.key p=some v→∃xs,xs.length=p.length∧Bw v xs hp∧∀a,v=.ref a→¬Fp X t d a
structure N1 (X:Ad) (t d:Addr) (ci:Bool) (hp:HP) (pa wa:Addr) (st pl:List Aj) (x:Aj) (ys:List Aj) (o:Aj→Option AV) (σ:Am):Prop where
 rep:AJ (X.wo o) t d false ci σ.hp
 fr:BO (Fp X t d) hp (Fp X t d) σ.hp
 sad:∀p∈st,o p=some (.tup (outs X.key p))
 pad:∀p∈pl,o p=some (.tup (outs X.key p))
 dfs:GJ X.D st pl x ys
 set:∃S,σ.hp pa=some (.iset S pl.length)∧Gr X.D pl S
 stk:σ.hp wa=some (.list (st.map fun p=>.ref (X.A p)))
 l1:σ.v "zero_state" = some (.ref (X.A []))
 l2:σ.v "processed" = some (.ref pa)
 l3:σ.v "to_process" = some (.ref wa)
theorem M6 (T:Tp C) {X:Ad} {t d:Addr} {ci:Bool} {hp:HP} {N:Nat} (hA:A.handled=none) (hroom:A.depth+2<recursionLimit) (hw:X.Wf) (hr:AJ X t d false ci hp) (hdn:∀p∈X.D,X.DN p)
  (hz:X.D.length≤300) (hN:∀p∈X.D,p.length≤1000) (hk:MZ X t d hp) :
  Fn C A (.ref 108) [.ref t] [] hp (fun v hp'=>v=.none∧∃o,AJ (X.wo o) t d false ci hp'∧BO (Fp X t d) hp (Fp X t d) hp'∧∀p∈X.D,o p=some (.tup (outs X.key p))):=by
 refine xa1_1 T.f_pre ?_;intro r₀ hf
 refine C7 (body:=Ke.body) hf (J8 C r₀ _) (fun L=>?_) (by with_reducible exact Ff ‹_›) (by kernel_rfl) (by kernel_rfl) (by kernel_rfl) (by kernel_rfl) (by kernel_rfl)
 refine Tr.gen fun K0 hK0=>?_
 refine Aa (Ai (Ap (Ab rfl (Bp T.n_zero hr.tree hr.ns rfl ?_))))
 refine Aa (An (FF (A3 ⟨by decide,Ab rfl (GX T hr hw.root ?_)⟩)))
 have hr0:AJ (X.wo (fun x=>if x=[] then some (.tup []) else X.out x)) t d false ci (upd hp (X.A []) ((X.setOut [] (.tup [])).nodeAO [])):=EY hr hw.root
 have hf0:BO (Fp X t d) hp (Fp X t d) (upd hp (X.A []) ((X.setOut [] (.tup [])).nodeAO [])):=BO.upd _ (.inr (.inr ⟨[],hw.root,.inl rfl⟩))
 generalize hp0e:upd hp (X.A []) ((X.setOut [] (.tup [])).nodeAO [])=hp0 at hr0 hf0
 show Dn C _ Bz _ (Ke.body.drop 2) ⟨_,upd hp (X.A []) ((X.setOut [] (.tup [])).nodeAO [])⟩ _
 rw [hp0e]
 refine Aa (Ai (B7 (C8 T.g_set (A3 (AF (I1 (fun pa hpa=>?_)))))))
 refine Aa (Ai (ER (AM (Ab rfl (A3 ⟨by simp,fun wa hwa=>?_⟩)))))
 have hwp:wa≠pa:=by rintro rfl;simp at hwa
 have hwa1:hp0 wa=none:=by simpa [upd,hwp] using hwa
 have hpa1:hp0 pa=none:=hpa
 have npa:¬Fp X t d pa:=fun h=>hr0.some h hpa1
 have nwa:¬Fp X t d wa:=fun h=>hr0.some h hwa1
 have hpa0:hp pa=none:=by
  cases e:hp pa with
  |none=>rfl
  |some o=>rw [hf0.keep pa (by rw [e];simp) npa,e] at hpa1;exact Ao hpa1
 have hwa0:hp wa=none:=by
  cases e:hp wa with
  |none=>rfl
  |some o=>rw [hf0.keep wa (by rw [e];simp) nwa,e] at hwa1;exact Ao hwa1
 refine Aa (Eb (fun m σ'=>∃st pl o,m=(X.D.length - pl.length)*(X.D.length+1)+st.length∧st.length≤pl.length*X.D.length+1∧N1 X t d ci hp pa wa st pl [] [] o σ') ?_ ((X.D.length - 0)*(X.D.length+1)+1) ?_)
 ·rintro m σ' ⟨st,pl,o,rfl,hlen0,I⟩
  have hplD:pl.length≤X.D.length:=BX I.dfs.pn I.dfs.pD
  have hlen:(st.map fun p=>AV.ref (X.A p)).length≤100000:=by
   have h2:pl.length*X.D.length≤300*300:=Nat.mul_le_mul (by with_reducible exact Cs ‹_› ‹_›) hz
   simp;exact Ax [_,_] [(1,Z0,(Zs Z1)),(1,Z1,(.mulL 300 (Zn 300)))] Z0 (Zn 100000) rfl hlen0 h2
  refine Bd (Ab I.l3 (E4 I.stk hlen ?_))
  rcases List.eq_nil_or_concat st with rfl|⟨st,x,rfl⟩
  ·simp only [List.map_nil,List.isEmpty_nil,Bool.not_true]
   exact Al (hK0 _ _ ⟨rfl,o,I.rep,I.fr,fun p hp=>I.pad p (I.dfs.all hw.pc p hp)⟩)
  ·rw [List.concat_eq_append] at *
   simp only [List.map_append,List.map_cons,List.map_nil] at hlen ⊢
   have hne:(!(st.map (fun p=>AV.ref (X.A p))++[AV.ref (X.A x)]).isEmpty)=true:=by simp
   rw [hne]
   refine Tr.gen fun K1 hK1=>?_
   have hstk:=I.stk
   simp only [List.map_append,List.map_cons,List.map_nil] at hstk
   have hxD:x∈X.D:=I.dfs.sD x (by simp)
   have hxn:X.DN x:=hdn x hxD
   refine xa1_2 I.set ?_;intro S hS hM
   refine Aa (Ai (A7 (Ab I.l3 (Mq hstk (A3 (AF (Hg hstk (by simp at hlen ⊢;with_reducible exact CM ‹_› (by decide)) ?_)))))))
   have hr1:AJ (X.wo o) t d false ci (upd σ'.hp wa (.list (st.map fun p=>.ref (X.A p)))):=I.rep.updOff nwa
   refine Aa (Bu (A7 (Ab (Ah I.l2) (Kq ((Ac _ _ hwp.symm).trans hS) (AM (Ap (Ab Au (I9 (X:=X.wo o) T hr1 hxD (A3 (AF (I2 ((Ac _ _ hwp.symm).trans hS) (by exact BV [_,_] [(1,Z1,(Zn 300)),(1,Z0,Z1)] (Zs Z0) (Zn 4096) rfl hz hplD) ?_)))))))))))
   have hr2:AJ (X.wo o) t d false ci (upd (upd σ'.hp wa (.list (st.map fun p=>.ref (X.A p)))) pa (.iset (fun j=>S j||decide (j=(X.D.idxOf x:Int))) (if S (X.D.idxOf x) then pl.length else pl.length+1))):=hr1.updOff npa
   refine xa1_1 (hr2.td x hxD) ?_;intro ep htd
   have hkeep:∀a,Fp X t d a→a≠wa∧a≠pa:=fun a ha=>⟨by rintro rfl;exact nwa ha,by rintro rfl;exact npa ha⟩
   have htx:Fp X t d (X.T x):=.inr (.inr ⟨x,hxD,.inr rfl⟩)
   refine Aa (GH (fun zu zu hp=>hp (X.T x)=some (.dict (X.trv x) ep))
    (fun zu zu xs σ''=>∃st' ys o',xs=ys.map (fun y=>AV.ref (X.A y))∧N1 X t d ci hp pa wa st' (EF pl x) x ys o' σ''∧(∀y∈ys,Ch X.D x y)∧(x∈pl→st'=st)∧st'.length+ys.length≤st.length+X.D.length∧σ''.hp (X.T x)=some (.dict (X.trv x) ep))
    (A7 (Ap (Ab Au (Dr (X:=X.wo o) T hr2 hxD (Hb htd (A3 (AF (dict_values T.sysm htd (fun v hv=>⟨_,E9 D2 hA (Ae _ _ _) ?_,?_⟩))))))))) ?_ ?_ ?_)
   ·exact (Ac _ _ (Cn htd hv)).trans htd
   ·have hvw:v≠wa:=by rintro rfl;simp [upd,hwp] at hv
    have hvp:v≠pa:=by rintro rfl;simp [upd] at hv
    have hv0:σ'.hp v=none:=by simpa [upd,hvw,hvp] using hv
    have hvh:hp v=none:=by
     cases e:hp v with
     |none=>rfl
     |some ob=>
      have nf:¬Fp X t d v:=fun q=>I.rep.some q hv0
      rw [I.fr.keep v (by rw [e];simp) nf,e] at hv0;exact Ao hv0
    refine ⟨st,(X.tr x).map (·.2),o,by simp [Ad.trv,Ad.wo],⟨hr2.new hv,((I.fr.upd0 _ hwa0).upd0 _ hpa0).upd0 _ hvh,fun p hp=>I.sad p (by simp [hp]),fun p hp=>?_,I.dfs.pop (fun y hc=>?_),?_,?_,Ah I.l1,Ah I.l2,Ah I.l3⟩,?_,fun zu=>rfl,?_,?_⟩
    ·rcases AP.mp hp with q|rfl
     ·exact I.pad p q
     ·exact I.sad p (by simp)
    ·refine xa1_1 hc ?_;(try clear hc);intro c hc
     rw [←hxn.2 c] at hc
     exact List.mem_map.mpr ⟨(c,y),Ep hc,rfl⟩
    ·refine ⟨_,?_,hM.add hxD⟩
     rw [←IG pl x hM hxD]
     exact (Ac _ _ hvp.symm).trans (Ae _ _ _)
    ·exact (Ac _ _ hvw.symm).trans ((Ac _ _ hwp).trans (Ae _ _ _))
    ·intro y hy
     refine xa1_2 (List.mem_map.mp hy) ?_;intro e he;rintro rfl
     exact ⟨e.1,by rw [←hxn.2 e.1];exact Hf (hw.trN x hxD) he⟩
    ·have:=hw.trlen hxD
     simp;assumption
    ·exact (Ac _ _ (Cn htd hv)).trans htd
   ·rintro zu zu xs σ'' ⟨zu,zu,zu,zu,zu,zu,zu,zu,h⟩
    exact h
   ·rintro zu zu z xs σ'' ⟨st',ys,o',e1,J,hch,hnp,hln,htk⟩
    obtain ⟨y,ys,rfl,rfl,rfl⟩:∃y ys',ys=y::ys'∧z=.ref (X.A y)∧xs=ys'.map (fun y=>AV.ref (X.A y)):=by
     cases ys with
     |nil=>cases e1
     |cons y ys'=>simp only [List.map_cons,List.cons.injEq] at e1;exact ⟨y,ys',rfl,e1.1,e1.2⟩
    refine xa1_1 (hch y (by simp)) ?_;intro c hc
    refine cps fun zP zk=>?_;(rcases Es hc with ⟨hyD,r',hyr,hr'x⟩)<;>(refine zk ?_;clear zk zP)
    refine xa1_2 J.set ?_;intro S2 hS2 hM2
    refine B9 ?_
    refine Tr.gen fun K2 hK2=>?_
    refine Aa (Bc (Bg (Ap (Ab Au (I9 (X:=X.wo o') T J.rep hyD (Ab (Ah J.l2) (Fh (Kd hS2 ⟨_,rfl,_,rfl,?_⟩))))))))
    have hlen2:(st'.map fun p=>AV.ref (X.A p)).length≤100000:=by
     have h2:pl.length*X.D.length≤300*300:=Nat.mul_le_mul (by with_reducible exact Cs ‹_› ‹_›) hz
     simp at hlen0 hln ⊢;exact Ax [_,_,_,_,_] [(1,Z1,(Zn 300)),(1,(Za Z0 (Zs Z2)),(Za Z3 Z1)),(1,Z4,(.mulL 300 (Zn 300))),(1,Z3,Z4)] Z0 (Zn 100000) rfl hz hln h2 hlen0
    by_cases hy:y∈EF pl x
    ·have hSt:S2 ((X.wo o').D.idxOf y)=true:=(hM2 _ hyD).mpr hy
     rw [hSt]
     simp only [Bool.not_true]
     exact Al (Al (hK2 _ _ ⟨st',ys,o',rfl,⟨J.rep,J.fr,J.sad,J.pad,J.dfs.skip hy,⟨S2,hS2,hM2⟩,J.stk,Ah J.l1,Ah J.l2,Ah J.l3⟩,fun y' hy'=>hch y' (by simp [hy']),hnp,by simp at hln;exact Ax [_,_,_,_] [(1,(Za Z0 (Zs Z1)),(Za Z2 Z3))] (Za Z0 Z1) (Za Z2 Z3) rfl hln,htk⟩))
    ·have hSf:S2 ((X.wo o').D.idxOf y)=false:=by
      cases e:S2 ((X.wo o').D.idxOf y) with
      |false=>rfl
      |true=>exact absurd ((hM2 _ hyD).mp e) hy
     rw [hSf]
     simp only [Bool.not_false,if_true]
     refine Aa (Ai (ER (A3 ⟨by decide,fun oa hoa=>?_⟩)))
     have hoa':σ''.hp oa=none:=hoa
     have nof:¬Fp X t d oa:=fun q=>J.rep.some q hoa'
     have hoh:hp oa=none:=by
      cases e:hp oa with
      |none=>rfl
      |some ob=>rw [J.fr.keep oa (by rw [e];simp) nof,e] at hoa';exact Ao hoa'
     have hop:oa≠pa:=by rintro rfl;rw [hS2] at hoa';exact Ao hoa'
     have how:oa≠wa:=by rintro rfl;rw [J.stk] at hoa';exact Ao hoa'
     refine Aa (Ai (Ab (Ah Au) ?_))
     refine Aa (Tr.mono (Eb (Q:=fun f σ₃=>f=.next∧σ₃.hp=upd σ''.hp oa (.list (outs X.key y))∧σ₃.v "zero_state" = some (.ref (X.A []))∧σ₃.v "processed" = some (.ref pa)∧σ₃.v "to_process" = some (.ref wa)∧σ₃.v "child" = some (.ref (X.A y))∧σ₃.v "outputs" = some (.ref oa))
      (fun n σ₃=>∃s acc,s∈X.D∧n=s.length∧outs X.key y=acc++outs X.key s∧σ₃.hp=upd σ''.hp oa (.list acc)∧σ₃.v "zero_state" = some (.ref (X.A []))∧σ₃.v "processed" = some (.ref pa)∧σ₃.v "to_process" = some (.ref wa)∧σ₃.v "child" = some (.ref (X.A y))∧σ₃.v "outputs" = some (.ref oa)∧σ₃.v "suffix" = some (.ref (X.A s))) ?_ y.length ?_) ?_)
     ·rintro n σ₃ ⟨s,acc,hsD,rfl,hacc,he,k1,k2,k3,k4,k5,k6⟩
      have hr3:AJ (X.wo o') t d false ci σ₃.hp:=he▸J.rep.updOff nof
      have hacl:acc.length≤100000:=by
       have h1:=DJ X.key y
       rw [hacc,List.length_append] at h1
       have:=hN y hyD
       omega
      refine Bg (Ab k6 (Ab k1 (IB (X:=X.wo o') hr3 hsD hw.root ⟨_,rfl,?_⟩)))
      by_cases hs0:s=[]
      ·subst hs0
       simp only [decide_true,Bool.not_true]
       have:acc=outs X.key y:=by rw [hacc];simp [outs]
       exact ⟨trivial,this▸he,k1,k2,k3,k4,k5⟩
      ·simp only [hs0,decide_false,Bool.not_false]
       refine Tr.gen fun K3 hK3=>?_
       have hsn:=hdn s hsD
       have hlv:(X.wo o').lssv s=.ref (X.A (BY X.D s)):=by
        have:(X.wo o').lss s=some (BY X.D s):=hsn.1
        simp only [Ad.lssv,this];rfl
       have hst:=Jh hw.mkD hs0
       refine Aa (Bc (Bd (Ap (Ab k6 (M8 (X:=X.wo o') T hr3 hsD (AK ?_))))))
       cases hkey:X.key s with
       |none=>
        have:((X.wo o').key s).isSome=false:=by show (X.key s).isSome=false;rw [hkey];rfl
        rw [this]
        refine Al ?_
        refine Aa (Ai (Ap (Ab k6 (El (X:=X.wo o') T hr3 hsD ?_))))
        rw [hlv]
        refine Al (hK3 _ _ ⟨(BY X.D s).length,Da hs0,BY X.D s,acc,Cb hw.pc _,rfl,?_,he,Ah k1,Ah k2,Ah k3,Ah k4,Ah k5,Au⟩)
        rw [hacc,hst,hkey];rfl
       |some v=>
        have:((X.wo o').key s).isSome=true:=by show (X.key s).isSome=true;rw [hkey];rfl
        rw [this]
        refine xa1_3 (hk s v hkey) ?_;intro xs hxl hsv hsep
        have hsv3:Bw v xs σ₃.hp:=hsv.fr hsep (he▸J.fr.upd0 _ hoh)
        have hoc:σ₃.hp oa=some (.list acc):=by rw [he];exact Ae _ _ _
        simp only [if_true]
        refine Aa (Ai (Ap (Ab k6 (MB (X:=X.wo o') T (Mu hw o') hr3 hsD hkey ?_))))
        refine Aa (Bu (A7 (Ab (Ah k5) (DP hoc (AM (FF (AM (Ab Au (AM (B7 (C8 T.g_len (AM (Ab Au (A3 (AF (IE hsv3 (A3 ⟨by simp,A3 (AF (list_append hoc hacl ?_))⟩)))))))))))))))))
        refine Al ?_
        refine Aa (Ai (Ap (Ab (Ah k6) (El (X:=X.wo o') T (AJ.updOff hr3 nof) hsD ?_))))
        rw [hlv,hxl]
        refine Al (hK3 _ _ ⟨(BY X.D s).length,Da hs0,BY X.D s,acc++[.tup [v,.int (s.length:Nat)]],Cb hw.pc _,rfl,?_,?_,Ah (Ah k1),Ah (Ah k2),Ah (Ah k3),Ah (Ah k4),Ah (Ah k5),Au⟩)
        ·rw [hacc,hst,hkey];simp
        ·show upd σ₃.hp oa _=_
         rw [he];funext b;simp only [upd];split<;>rfl
     ·exact ⟨y,[],hyD,rfl,rfl,rfl,Ah (Ah (Ah J.l1)),Ah (Ah (Ah J.l2)),Ah (Ah (Ah J.l3)),Ah (Ah Au),Ah Au,Au⟩
     ·rintro f σ₃ ⟨rfl,he,k1,k2,k3,k4,k5⟩
      have hr3:AJ (X.wo o') t d false ci σ₃.hp:=he▸J.rep.updOff nof
      have hoc:σ₃.hp oa=some (.list (outs X.key y)):=by rw [he];exact Ae _ _ _
      have hol:(outs X.key y).length≤100000:=by
       have h1:=DJ X.key y
       have:=hN y hyD
       omega
      refine Aa (An (B7 (C8 T.g_tuple (AM (Ab k5 (A3 (AF (HB hoc hol (Ab k4 (GX (X:=X.wo o') T hr3 hyD ?_))))))))))
      have hAy:X.A y≠wa:=(hkeep _ (.inr (.inr ⟨y,hyD,.inl rfl⟩))).1
      have hAp:X.A y≠pa:=(hkeep _ (.inr (.inr ⟨y,hyD,.inl rfl⟩))).2
      have hwk:(upd σ₃.hp (X.A y) (((X.wo o').setOut y (.tup (outs X.key y))).nodeAO y)) wa=some (.list (st'.map fun p=>.ref (X.A p))):=by
       rw [Ac _ _ hAy.symm,he,Ac _ _ how.symm];exact J.stk
      refine Aa (Bu (A7 (Ab k3 (DP hwk (AM (Ab k4 (A3 (AF (list_append hwk hlen2 ?_)))))))))
      refine Al (Al (hK2 _ _ ⟨st'++[y],ys,fun z=>if z=y then some (.tup (outs X.key y)) else o' z,rfl,⟨AJ.updOff (EY hr3 hyD) nwa,?_,?_,?_,J.dfs.push hy hyD,?_,?_,k1,k2,k3⟩,fun y' hy'=>hch y' (by simp [hy']),?_,?_,?_⟩))
      ·refine BO.upd0 _ ?_ hwa0
       refine BO.trans (he▸J.fr.upd0 _ hoh) (BO.upd _ (.inr (.inr ⟨y,hyD,.inl rfl⟩)))
      ·intro p hp
       rcases List.mem_append.mp hp with q|q
       ·show (if p=y then _ else o' p)=_
        split
        ·rename_i e;rw [e]
        ·exact J.sad p q
       ·simp at q;subst q;exact if_pos rfl
      ·intro p hp
       show (if p=y then _ else o' p)=_
       split
       ·rename_i e;rw [e]
       ·exact J.pad p hp
      ·refine ⟨S2,?_,hM2⟩
       exact (Ac _ _ hwp.symm).trans ((Ac _ _ hAp.symm).trans (by rw [he];exact (Ac _ _ hop.symm).trans hS2))
      ·refine (Ae _ _ _).trans ?_;simp
      ·intro q
       exact absurd (AP.mpr (.inl (I.dfs.known q _ ⟨c,hc⟩))) hy
      ·simp at hln ⊢;exact Ax [_,_,_,_] [(1,(Za Z0 (Zs Z1)),(Za Z2 Z3))] (Za (Zs Z0) Z1) (Za Z2 Z3) rfl hln
      ·refine (Ac _ _ (hkeep _ htx).1).trans ((Ac _ _ (Ad.Wf.dist J.rep hyD hxD).1.symm).trans ?_)
       rw [he]
       exact (Ac _ _ (by rintro e;exact nof (e▸htx))).trans htk
   ·rintro zu zu σ'' ⟨st',ys,o',e1,J,hch,hnp,hln,htk⟩
    have:ys=[]:=by cases ys with|nil=>rfl|cons=>cases e1
    subst this
    refine Al (hK1 _ _ ?_)
    by_cases hxp:x∈pl
    ·have e:=hnp hxp
     subst e
     have hi:EF pl x=pl:=by simp [EF,hxp]
     rw [hi] at J
     refine ⟨_,?_,st',pl,o',rfl,?_,⟨J.rep,J.fr,J.sad,J.pad,⟨J.dfs.sD,J.dfs.pD,J.dfs.pn,J.dfs.rt,fun z hz y hc=>?_,fun l z r e hz y hc=>?_⟩,J.set,J.stk,J.l1,J.l2,J.l3⟩⟩
     ·simp
     ·simp at hlen0;exact Ax [_,_] [(1,Z0,Z1)] Z0 (Zs Z1) rfl hlen0
     ·rcases J.dfs.cl z hz y hc with a|a|a
      ·exact .inl a
      ·exact .inr (.inl a)
      ·simp at a
     ·rcases J.dfs.tp l z r e hz y hc with a|a|a
      ·exact .inl a
      ·exact .inr (.inl a)
      ·simp at a
    ·have hi:(EF pl x).length=pl.length+1:=by simp [EF,hxp]
     have hle:(EF pl x).length≤X.D.length:=BX J.dfs.pn J.dfs.pD
     refine ⟨_,?_,st',EF pl x,o',rfl,?_,⟨J.rep,J.fr,J.sad,J.pad,⟨J.dfs.sD,J.dfs.pD,J.dfs.pn,J.dfs.rt,fun z hz y hc=>?_,fun l z r e hz y hc=>?_⟩,J.set,J.stk,J.l1,J.l2,J.l3⟩⟩
     ·rw [hi,List.length_append]
      exact EB (b:=0) (by exact Ax [_,_,_] [(1,(Zs Z0),Z2),(1,Z2,Z1)] (Zs Z0) Z1 rfl (Nat.le_of_eq (Eq.symm hi)) hle) (by simpa using hln)
     ·rw [hi,Nat.succ_mul]
      simp at hln hlen0;exact Ax [_,_,_,_] [(1,Z0,(Za Z3 Z2)),(1,Z3,Z1)] Z0 (Zs (Za Z1 Z2)) rfl hln hlen0
     ·rcases J.dfs.cl z hz y hc with a|a|a
      ·exact .inl a
      ·exact .inr (.inl a)
      ·simp at a
     ·rcases J.dfs.tp l z r e hz y hc with a|a|a
      ·exact .inl a
      ·exact .inr (.inl a)
      ·simp at a
 ·refine ⟨[[]],[],_,by simp,by simp,⟨(hr0.new hpa1).updOff nwa,((hf0.upd0 _ hpa0).upd0 _ hwa0),?_,by simp,GJ.init hw.root [],⟨fun zu=>false,(Ac _ _ hwp.symm).trans (Ae _ _ _),fun p zu=>by simp⟩,Ae _ _ _,rfl,rfl,rfl⟩⟩
  intro p hp;simp at hp;subst hp;rfl
end
section
variable {C:Cf} {A:Around} {E:Value→Shared→Prop} {env:Env} {σ:Am}
structure Ad.Ph3 (X:Ad):Prop where
 wf:X.Wf
 dn:∀p∈X.D,X.DN p
 out:∀p∈X.D,X.out p=some (.tup (outs X.key p))
noncomputable def Mg (X:Ad) (t d:Addr) (ci:Bool) (hp hp':HP):Prop:=
 ∃X':Ad,X'.Ph3∧AJ X' t d true ci hp'∧BO (Fp X t d) hp (Fp X t d) hp'∧X'.D=X.D∧X'.A=X.A∧X'.T=X.T∧X'.key=X.key
theorem MO (T:Tp C) {X:Ad} {t d:Addr} {ci:Bool} {hp:HP} {N:Nat} (hA:A.handled=none) (hroom:A.depth+N+4<recursionLimit) (hX:X.Ph1) (hr:AJ X t d false ci hp)
  (hz:X.D.length≤300) (hN:∀p∈X.D,p.length≤N) (hk:MZ X t d hp) :
  Fn C A (.ref 101) [.ref t] [] hp (fun v hp'=>v=.none∧Mg X t d ci hp hp'):=by
 refine xa1_1 T.f_fin ?_;intro r₀ hf
 refine xa1_1 T.f_kids ?_;intro r₁ hf1
 refine xa1_1 T.f_pre ?_;intro r₂ hf2
 have hw:=hX.wf
 refine C7 (body:=J0.body) hf (JD C r₀ _) (fun L=>?_) (by exact BV [_,_,_] [(1,(Zs (Za (Za Z0 Z2) (Zn 4))),Z1)] Z0 Z1 rfl hroom) (by kernel_rfl) (by kernel_rfl) (by kernel_rfl) (by kernel_rfl) (by kernel_rfl)
 refine Aa (Bc (Bd (Ap (Ab rfl (Bp T.n_fin hr.tree hr.ns rfl (AK (Al ?_)))))))
 refine Aa (An (Ap (Ab rfl (Bp T.n_zero hr.tree hr.ns rfl (Ap (Ab rfl (Bp T.n_zero hr.tree hr.ns rfl (DK T hr hw.root ?_))))))))
 have hr1:AJ (X.setLss [] []) t d false ci (upd hp (X.A []) ((X.setLss [] []).nodeAO [])):=EZ hr hw.root
 have hf1':BO (Fp X t d) hp (Fp X t d) (upd hp (X.A []) ((X.setLss [] []).nodeAO [])):=BO.upd _ (.inr (.inr ⟨[],hw.root,.inl rfl⟩))
 have hw1:(X.setLss [] []).Wf:=Gp hw
 have hkid:∀p∈X.D,∀c,X.look p c=D3 X.D p c:=fun p hp c=>by
  by_cases m:p++[c]∈X.D
  ·rw [hX.kid1 p hp c m];simp [D3,m]
  ·rw [hX.kid0 p hp c m];simp [D3,m]
 have had:(X.setLss [] []).AD []:=by
  intro r hrs hrD
  simp at hrs;subst hrs
  refine ⟨rfl,fun c=>?_⟩
  show X.look [] c=Bq X.D [] c
  rw [hkid [] hw.root c];simp [Bq]
 have hall:∀p∈X.D,(X.setLss [] []).UD p∨(X.setLss [] []).AD p:=fun p hp=>by
  by_cases e:p=[]
  ·subst e;exact .inr had
  ·refine .inl ⟨?_,fun c=>hkid p hp c⟩
   show (if p=[] then some [] else X.lss p)=none
   rw [if_neg e];exact hX.lss p hp
 have c1:=LJ (A:=A.deeper (callEnv (r₀.fd J0 .none) L 101)) (N:=N) T (by exact hA) (by show A.depth+1+N+2<recursionLimit;exact BV [_,_,_] [(1,(Zs (Za (Za Z0 Z1) (Zn 4))),Z2)] (Za (Za (Zs Z0) Z1) (Zn 2)) Z2 rfl hroom) hw1 hr1 had hall hz hN
 refine Aa (Bu (A7 (Ab rfl (B0 T.m_kids hr1.tree hr1.ns rfl (AM (Ap (Ab rfl (Bp T.n_zero hr1.tree hr1.ns rfl (A3 (AF (B8 hf1 (Fn.mono c1 ?_))))))))))))
 rintro v hp2 ⟨rfl,X2,hw2,hr2,hfr2,st2,hd2⟩
 have hD2:X2.D=X.D:=st2.same.D
 have hA2:X2.A=X.A:=st2.same.A
 have hT2:X2.T=X.T:=st2.same.T
 have hk2:X2.key=X.key:=st2.same.key
 have hfp2:Fp X2 t d=Fp X t d:=st2.same.fp t d
 have hF2:BO (Fp X t d) hp (Fp X t d) hp2:=hf1'.trans hfr2
 have hkl:MZ X2 t d hp2:=by
  intro p v hv
  rw [hk2] at hv
  refine xa1_3 (hk p v hv) ?_;intro xs h1 h2 h3
  exact ⟨xs,h1,h2.fr h3 hF2,fun a e=>by rw [hfp2];exact h3 a e⟩
 have c2:=M6 (A:=A.deeper (callEnv (r₀.fd J0 .none) L 101)) (N:=N) T (by exact hA) (by show A.depth+1+2<recursionLimit;exact BV [_,_,_] [(1,(Zs (Za (Za Z0 Z2) (Zn 4))),Z1)] (Za (Zs Z0) (Zn 2)) Z1 rfl hroom) hw2 hr2 (by rw [hD2];exact hd2) (by rw [hD2];exact hz) (fun p hp=>by
  have h1:=hN p (hD2▸hp)
  have:recursionLimit=1000:=rfl
  exact Ax [_,_,_,_] [(1,(Zs (Za (Za Z1 Z2) (Zn 4))),Z3),(1,Z0,Z2),(1,Z3,(Zn 1000))] Z0 (Zn 1000) rfl hroom h1 (Nat.le_of_eq this)) hkl
 refine Aa (Bu (A7 (Ab rfl (B0 T.m_pre hr2.tree hr2.ns rfl (A3 (AF (B8 hf2 (Fn.mono c2 ?_))))))))
 rintro v hp3 ⟨rfl,o,hr3,hfr3,ho⟩
 refine Aa (An (Ec (Ab rfl (CK T.n_fin hr3.tree hr3.ns ?_ (hz:=Nat.le_of_ble_eq_true (by rfl))))))
 refine Al ⟨rfl,X2.wo o,⟨Mu hw2 o,fun p hp=>?_,ho⟩,?_,?_,hD2,hA2,hT2,hk2⟩
 ·have:=hd2 p (hD2▸hp)
  exact this
 ·have hd:∀p∈X2.D,X2.A p≠d∧X2.T p≠d:=fun p hp=>⟨(Ad.Wf.dist hr3 hp hp).2.2.1,(Ad.Wf.dist hr3 hp hp).2.2.2.2.1⟩
  have htd:t≠d:=(Ad.Wf.dist hr3 (p:=[]) hw2.root hw2.root).2.2.2.2.2
  refine ⟨(Ac _ _ htd).trans hr3.tree,(Ae _ _ _).trans rfl,fun p hp=>(Ac _ _ (hd p hp).1).trans (hr3.nd p hp),fun p hp=>?_⟩
  refine xa1_1 (hr3.td p hp) ?_;intro ep e
  exact ⟨ep,(Ac _ _ (hd p hp).2).trans e⟩
 ·exact (hF2.trans (hfp2▸hfr3)).trans (BO.upd _ (.inr (.inl rfl)))
end
section
variable {C:Cf} {A:Around} {c:Code} {fs:List Frame} {P:End→Shared→Prop} {s:Shared} {env:Env} {σ:Am} {F G:FH}
 {K:Flow→Sem Fin} {H:Value→Sem Fin} {gd:Bool→Bool} {lv:List Value→List Value}
theorem Cx {α:Type} {m:Sem α} {K:α→Sem Fin} {H:Value→Sem Fin}
  (h:wpAny (model C.prog C.w) (A.over c fs) m (fun a s'=>SegX (model C.prog C.w) A c (K a) fs s' P) (fun x s'=>SegX (model C.prog C.w) A c (H x) fs s' P) s):SegX (model C.prog C.w) A c (m.wrap K H gd lv) fs s P:=by
 rintro Γ p rfl hΓ
 refine xa2_2 (runs_wrap_of_wp (Φ:=fun e s'=>e.quiet=true∧P e s') K H gd lv m (h (Γ.over fs) p (hΓ.over fs)) (fun a p' s' h'=>h' Γ p' rfl hΓ) (fun x p' s' h'=>h' Γ p' rfl hΓ)) ?_;intro e s' hr hq
 exact ⟨e,s',hr,hq⟩
theorem DD {α β:Type} {R:FH→β→α→Prop} {m:Sem α} {K:α→Sem Fin} {H:Value→Sem Fin} {Q:β→Am→Prop} (h:Tr C (A.over c fs) Bz env R m σ Q) (hR:Rp C (A.over c fs) F G env σ s)
  (k:∀F' b σ' v s',A6 F F'→R F' b v→Rp C (A.over c fs) F' G env σ' s'→Q b σ'→SegX (model C.prog C.w) A c (K v) fs s' P):SegX (model C.prog C.w) A c (m.wrap K H gd lv) fs s P:=by
 refine Cx (wpAny_mono (h F G s hR) (fun v s' z=>?_) fun zu zu x=>x.elim)
 refine cps fun zP zk=>?_;(rcases z with ⟨F',b,σ',e,r,hR',q⟩)<;>(refine zk ?_;clear zk zP)
 exact k F' b σ' v s' e r hR' q
theorem BF {st:Stmt} {rest:List Stmt} (h:SegX (model C.prog C.w) A c ((exec st env).wrap (fun f=>match f with|.next=>(execs rest env).wrap K H gd lv|f=>K f) H gd lv) fs s P) :
  SegX (model C.prog C.w) A c ((execs (st::rest) env).wrap K H gd lv) fs s P:=by rw [execs_cons_wrap];exact h
theorem FW {p':Pos} {k:Unit→Sem Fin} (h:SegX (model C.prog C.w) A c (k ()) fs s P):SegX (model C.prog C.w) A c (.at p' k) fs s P:=
 Cx (m:=standAt p') (K:=k) (H:=.raise) (gd:=id) (lv:=id) (wpAny_standAt h)
theorem JW {l:List Value} {k:Unit→Sem Fin} (h:SegX (model C.prog C.w) A c (k ()) fs s P):SegX (model C.prog C.w) A c (.point l k) fs s P:=
 Cx (m:=point) (K:=k) (H:=.raise) (gd:=id) (lv:=fun zu=>l) (wpAny_point h)
theorem Nl {test:Expr} {body orelse:List Stmt} {pos:Pos} {Q:Bool→Am→Prop} (h:Et C (A.over c fs) Bz env test σ Q) (hR:Rp C (A.over c fs) F G env σ s)
  (k:∀F' b σ' s',A6 F F'→Rp C (A.over c fs) F' G env σ' s'→Q b σ'→SegX (model C.prog C.w) A c ((execs (if b then body else orelse) env).wrap K H gd lv) fs s' P) :
  SegX (model C.prog C.w) A c ((exec (.If test body orelse pos) env).wrap K H gd lv) fs s P:=by
 show SegX _ A c (.at pos fun zu=>((isTrue test env (eval test env)) >>= fun b=>if b=true then execs body env else execs orelse env).wrap K H gd lv) fs s P
 refine FW ?_
 rw [Sem.bind_eq_wrap',Sem.wrap_wrap]
 refine DD h hR (fun F' b σ' v s' e r hR' q=>?_)
 subst r
 have:=k F' b σ' s' e hR' q
 cases b
 ·exact this
 ·exact this
theorem L5 {body:List Stmt}
  (h:SegX (model C.prog C.w) A (.func body env) ((execs body env).wrap (fun f=>.pure (.done (.ret (match f with|.ret v=>v|_=>.none)))) (fun e=>(leaving env e).wrap (fun zu=>.raise e) .raise id id) id id) fs s P) :
  SegX (model C.prog C.w) A (.func body env) (denote table (.func body env)) fs s P:=by
 show SegX _ A _ (.point [] fun zu=>((execs body env).onRaise (leaving env)) >>= _) fs s P
 refine JW ?_
 rw [Sem.onRaise_eq_wrap,Sem.bind_eq_wrap',Sem.wrap_wrap]
 rw [Sem.wrap_congr (execs body env) _ _ (K':=fun f=>.pure (.done (.ret (match f with|.ret v=>v|_=>.none))))
  (H':=fun e=>(leaving env e).wrap (fun zu=>.raise e) .raise id id) (fun f=>by cases f<;>rfl)
  (fun e=>by rw [Sem.bind_eq_wrap,Sem.wrap_wrap];rfl)]
 exact h
theorem JX {target iter:Expr} {body:List Stmt} {pos:Pos} {Q:AV→Am→Prop} (h:Ev C (A.over c fs) Bz env iter σ Q) (hR:Rp C (A.over c fs) F G env σ s) (J:FH→AV→Am→Value→Shared→Prop)
  (hi:∀F' a σ' v s',A6 F F'→VR F' a v→Rp C (A.over c fs) F' G env σ' s'→Q a σ'→wpAny (model C.prog C.w) (A.over c fs) (pyIter v) (fun it s''=>J F' a σ' it s'') Bz s')
  (k:∀F' a σ' it s',A6 F F'→J F' a σ' it s'→∀kf l p,(∀f,kf (.ok f)=K f)→SegX (model C.prog C.w) A (.forLoop target it body [] env) (denote table (.forLoop target it body [] env)) (.ret kf none (gd false) l c p []::fs) s' P)
  (hs:∀x,foldedSetIterable iter env x=pure x:=by intro zu;rfl):SegX (model C.prog C.w) A c ((exec (.For target iter body [] pos) env).wrap K H gd lv) fs s P:=by
 rw [exec_For]
 show SegX _ A c (.at pos fun zu=>(eval iter env >>= fun x=>foldedSetIterable iter env x >>= fun x=>standAt iter.pos >>= fun zu=>holding [x] (pyIter x) >>= fun it=>runOwn (.forLoop target it body [] env) env).wrap K H gd lv) fs s P
 refine FW ?_
 rw [Sem.bind_eq_wrap',Sem.wrap_wrap]
 refine DD h hR (fun F' a σ' v s' e hv hR' q=>?_)
 rw [hs v]
 show SegX _ A c (.at iter.pos fun zu=>(holding [v] (pyIter v) >>= fun it=>runOwn (.forLoop target it body [] env) env).wrap K H gd lv) fs s' P
 refine FW ?_
 rw [Sem.bind_eq_wrap',Sem.wrap_wrap]
 refine Cx (wpAny_holding (wpAny_mono (hi F' a σ' v s' e hv hR' q) (fun it s'' z=>?_) fun zu zu x=>x.elim))
 refine s_call C.prog C.w A c fs P s'' _ _ _ _ _ (fun p=>?_)
 exact k F' a σ' it s'' e z _ _ p (fun f=>rfl)
theorem Cy {target:Expr} {it:Value} {body:List Stmt}
  (h:wpAny (model C.prog C.w) (A.over (.forLoop target it body [] env) fs) (pyNext it) (fun r s₁=>match r with
   |none=>SegX (model C.prog C.w) A (.block [] env) (.pure (.done .next)) fs s₁ P
   |some v=>wpAny (model C.prog C.w) (A.over (.forLoop target it body [] env) fs) (letOwnedTupleGo target it v) (fun zu s₂=>wpAny (model C.prog C.w) (A.over (.forLoop target it body [] env) fs) (assign target env v) (fun zu s₃=>
     SegX (model C.prog C.w) A (.forLoop target it body [] env) ((execs body env).wrap (fun f=>match f with
      |.next|.cont=>.pure (.again (.forLoop target it body [] env))
      |.brk=>.pure (.done .next)
      |.ret v=>.pure (.done (.ret v))) (fun e=>(do noteFrame e env;theTreesLotGoes e:Sem Unit).wrap (fun zu=>.raise e) .raise id id) id id) fs s₃ P) Bz s₂) Bz s₁) Bz s) :
  SegX (model C.prog C.w) A (.forLoop target it body [] env) (denote table (.forLoop target it body [] env)) fs s P:=by
 show SegX _ A _ ((forTurn target it body [] env).onRaise (fun x=>do noteFrame x env;theTreesLotGoes x)) fs s P
 unfold forTurn
 rw [Sem.onRaise_eq_wrap]
 show SegX _ A _ (.at target.pos fun zu=>(((pyNext it).onRaise (fun zu=>standAt { target.pos with line:=0 })) >>= _).wrap _ _ _ _) fs s P
 refine FW ?_
 rw [Sem.bind_eq_wrap',Sem.wrap_wrap]
 refine Cx (wpAny_onRaise (wpAny_mono h (fun r s₁ z=>?_) fun zu zu x=>x.elim))
 cases r with
 |none=>
  refine s_again C.prog C.w A _ fs P s₁ (.block [] env) rfl ?_
  exact z
 |some v=>
  show SegX _ A _ ((letOwnedTupleGo target it v >>= fun zu=>assign target env v >>= fun zu=>execs body env >>= _).wrap _ _ _ _) fs s₁ P
  rw [Sem.bind_eq_wrap',Sem.wrap_wrap]
  refine Cx (wpAny_mono z (fun zu s₂ z=>?_) fun zu zu x=>x.elim)
  rw [Sem.bind_eq_wrap',Sem.wrap_wrap]
  refine Cx (wpAny_mono z (fun zu s₃ z=>?_) fun zu zu x=>x.elim)
  rw [Sem.bind_eq_wrap',Sem.wrap_wrap]
  rw [Sem.wrap_congr (execs body env) _ _ (K':=fun f=>match f with
      |.next|.cont=>.pure (.again (.forLoop target it body [] env))
      |.brk=>.pure (.done .next)
      |.ret v=>.pure (.done (.ret v))) (H':=(fun e=>(do noteFrame e env;theTreesLotGoes e:Sem Unit).wrap (fun zu=>.raise e) .raise id id))
    (fun f=>by cases f<;>rfl)
    (fun e=>by first|exact Sem.bind_eq_wrap _ _|(show (do noteFrame e env;theTreesLotGoes e:Sem Unit).bind (fun zu=>.raise e)=_;rw [Sem.bind_eq_wrap]))]
  exact z
theorem JV {e:Expr} {ypos pos:Pos} {Q:AV→Am→Prop} (hfs:splitAtGen fs=none) (hgd:gd false=false) (hfg:fs.any Frame.guarded=false) (h:Ev C (A.over c fs) Bz env e σ Q) (hR:Rp C (A.over c fs) F G env σ s)
  (k:∀F' a σ' v s',A6 F F'→VR F' a v→Rp C (A.over c fs) F' G env σ' s'→Q a σ'→∀kf l p,(∀A' s'' P',SegX (model C.prog C.w) A' c (K .next) fs s'' P'→SegX (model C.prog C.w) A' c (kf (.send .none)) fs s'' P')→P (.susp v false l kf c p fs) s')
  (hco:env.scope.isCoroutine=false:=by rfl) (hi:interactive env=false:=by rfl):SegX (model C.prog C.w) A c ((exec (.Expr (.Yield (some e) ypos) pos) env).wrap K H gd lv) fs s P:=by
 rw [exec_Expr env _ pos hi rfl]
 show SegX _ A c (.at pos fun zu=>((eval e env >>= fun v=>(standAt ypos >>= fun zu=>yieldOut env v)) >>= fun x=>dropValue (.Yield (some e) ypos) pos x).wrap K H gd lv) fs s P
 have hy:∀v,yieldOut env v=yieldValue v:=fun v=>by simp only [yieldOut,hco,Bool.false_eq_true,if_false]
 simp only [hy]
 refine FW ?_
 rw [Sem.bind_eq_wrap',Sem.bind_eq_wrap',Sem.wrap_wrap,Sem.wrap_wrap]
 refine DD h hR (fun F' a σ' v s' e' hv hR' q=>?_)
 refine FW ?_
 show SegX _ A c (.yield v (gd false) _ _) fs s' P
 rw [hgd]
 refine s_yield C.prog C.w A c fs P s' v _ _ hfs hfg (fun p=>?_)
 refine k F' a σ' v s' e' hv hR' q _ _ p (fun A' s'' P' hx=>?_)
 exact hx
end
section
variable {C:Cf} {A:Around} {s:Shared} {env:Env} {σ:Am} {F G:FH} {hp:HP}
theorem OR.gensOf {g':Array GenState} {gens:Array GenState} {x:AO} {o:Obj} (h:OR C F gens x o) (hg:∀g gs,x=.gen g gs→gens[g]? = some gs→g'[g]? = some gs):OR C F g' x o:=by
 by_cases hx:CA x=false
 ·exact h.gens hx
 ·cases h with
  |gen a a1 a2 b c=>exact .gen a a1 a2 b (hg _ _ rfl c)
  |_=>exact absurd rfl hx
theorem Wd.gen (W:Wd C F G hp s) {ga:Addr} {g:Nat} {gs:GenState} (e:hp ga=some (.gen g gs)):s.gens[g]? = some gs∧s.heap.IsGen ga g:=by
 refine cps fun zP zk=>?_;(rcases W.ob ga _ e with ⟨zu,zu,o,ho,r⟩)<;>(refine zk ?_;clear zk zP)
 (refine OR.genC r fun zv zv zv zv a a1 a2 b c=>?_;clear r)
 exact ⟨c,o,_,_,ho,a,b,a2⟩
theorem Wd.setGen (W:Wd C F G hp s) {ga:Addr} {g:Nat} {gs gs':GenState} (e:hp ga=some (.gen g gs)) (hb:gs'.bare=true):Wd C F G (upd hp ga (.gen g gs')) (s.setGen g gs'):=by
 have hg:=(W.gen e).1
 have hlt:g<s.gens.size:=by
  rcases Nat.lt_or_ge g s.gens.size with h|h
  ·exact h
  ·rw [Array.getElem?_eq_none h] at hg;exact Ak hg
 refine ⟨W.base,W.fz,W.gz,fun a x hx=>?_,W.os,fun y hy=>?_,fun a b g1 gs1 gs2 h1 h2=>?_,W.fg⟩
 ·by_cases ha:a=ga
  ·subst ha
   rw [Ae] at hx;(have zc:=Option.some.inj hx;clear hx;subst zc)
   refine cps fun zP zk=>?_;(rcases W.ob a _ e with ⟨p,q,o,ho,r⟩)<;>(refine zk ?_;clear zk zP)
   refine ⟨p,q,o,ho,?_⟩
   (refine OR.genC r fun zv zv zv zv a a1 a2 b c=>?_;clear r)
   exact .gen a a1 a2 b (by simp [Shared.setGen,hlt])
  ·rw [Ac _ _ ha] at hx
   refine cps fun zP zk=>?_;(rcases W.ob a _ hx with ⟨p,q,o,ho,r⟩)<;>(refine zk ?_;clear zk zP)
   refine ⟨p,q,o,ho,r.gensOf (fun g1 gs1 e1 h1=>?_)⟩
   subst e1
   have hne:g≠g1:=by rintro rfl;exact ha (W.gi _ _ _ _ _ hx e)
   simp only [Shared.setGen,Array.getElem?_setIfInBounds_ne hne];exact h1
 ·simp only [Shared.setGen] at hy
  rcases Array.mem_or_eq_of_mem_setIfInBounds hy with h|h
  ·exact W.bare y h
  ·rw [h];exact hb
 ·by_cases ha:a=ga<;>by_cases hbq:b=ga
  ·rw [ha,hbq]
  ·subst ha
   rw [Ae] at h1;(have zc:=L8 h1;clear h1;rcases zc with ⟨zc,zd⟩;subst zc;subst zd)
   rw [Ac _ _ hbq] at h2
   exact absurd (W.gi _ _ _ _ _ h2 e) hbq
  ·subst hbq
   rw [Ae] at h2;(have zc:=L8 h2;clear h2;rcases zc with ⟨zc,zd⟩;subst zc;subst zd)
   rw [Ac _ _ ha] at h1
   exact absurd (W.gi _ _ _ _ _ h1 e) ha
  ·rw [Ac _ _ ha] at h1;rw [Ac _ _ hbq] at h2
   exact W.gi _ _ _ _ _ h1 h2
noncomputable def Cd (env:Env):Prop:=∀x,env.kindOf x≠some .cell∧env.kindOf x≠some .free
theorem Wd.thaw (W:Wd C F G hp s) {loc:List (Str×AV)} (e:hp env.locals=some (.frame loc)) (hk:env.scope.kind=.function) (hn:Cd env) (hfs:FP A G env) :
  Rp C A F G env ⟨loc,fun b=>if b=env.locals then none else hp b⟩ s:=by
 refine cps fun zP zk=>?_;(rcases W.ob _ _ e with ⟨p,q,o,ho,r⟩)<;>(refine zk ?_;clear zk zP)
 refine ⟨⟨W.base,W.fz,W.gz,fun a x hx=>?_,W.os,W.bare,fun a b g1 gs1 gs2 h1 h2=>?_,W.fg⟩,⟨hk,?_,⟨p,q,if_pos rfl⟩,fun x hx=>absurd hx (hn x).1,fun x zu zu hx=>absurd hx (hn x).1,fun x zu zu zu hx=>absurd hx (hn x).1,fun x zu zu hx=>absurd hx (hn x).2⟩,hfs⟩
 ·dsimp only at hx
  split at hx
  ·exact Ak hx
  ·exact W.ob a x hx
 ·dsimp only at h1 h2
  split at h1
  ·exact Ak h1
  ·split at h2
   ·exact Ak h2
   ·exact W.gi _ _ _ _ _ h1 h2
 ·(refine OR.frameC r fun es ep a b c=>?_;clear r)
  refine ⟨fun x=>nsFind es x,⟨o,es,ep,ho,a,b,fun zu=>rfl⟩,fun x av hx zu=>c x av hx⟩
theorem Rp.susp (hR:Rp C A F G env σ s) {loc:List (Str×AV)} (hl:∀x av,loc.lookup x=some av→σ.loc.lookup x=some av∧env.kindOf x=some .local):Wd C F G (upd σ.hp env.locals (.frame loc)) s:=by
 have W:=hR.wd
 refine xa1_2 hR.fm.ns ?_;intro m;intro zq;refine xa3_4 zq ?_;(try clear zq);intro o es ep ho hd hs hm;intro hmv
 refine xa0_3 hR.fm.lo ?_;intro l1 l2 l3
 refine ⟨W.base,W.fz,W.gz,fun a x hx=>?_,W.os,W.bare,fun a b g1 gs1 gs2 h1 h2=>?_,W.fg⟩
 ·by_cases ha:a=env.locals
  ·subst ha
   rw [Ae] at hx;(have zc:=Option.some.inj hx;clear hx;subst zc)
   refine ⟨l1,l2,o,ho,.frame hd hs (fun x av hx=>?_)⟩
   refine xa0_2 (hl x av hx) ?_;intro h1 h2
   refine xa1_2 (hmv x av h1 h2) ?_;intro v hv r
   exact ⟨v,by rw [hm];exact hv,r⟩
  ·rw [Ac _ _ ha] at hx;exact W.ob a x hx
 ·have ne:∀c g gs,upd σ.hp env.locals (.frame loc) c=some (.gen g gs)→σ.hp c=some (.gen g gs):=fun c g gs e=>by
   by_cases hc:c=env.locals
   ·subst hc;rw [Ae] at e;exact AO.noConfusion (Option.some.inj e)
   ·rw [Ac _ _ hc] at e;exact e
  exact W.gi _ _ _ _ _ (ne _ _ _ h1) (ne _ _ _ h2)
theorem Wd.newGen (W:Wd C F G hp s) {c:Code} {n q:Str} {t u:Tok} {tk:Nat} :
  Wd C F G (upd hp s.heap.objs.size (.gen s.gens.size (.fresh c))) ⟨s.heap.push { cls:=.type "generator",data:=.fields #[.int s.gens.size 0,.str n t,.str q u] },s.gens.push (.fresh c),s.drawn,tk,s.os⟩:=by
 have kp:∀b o,s.heap.get? b=some o→(s.heap.push { cls:=.type "generator",data:=.fields #[.int s.gens.size 0,.str n t,.str q u] }).get? b=some o:=fun b o e=>Heap.get?_push_of_some _ e
 refine xa0_3 (W.lt (Nat.le_refl s.heap.objs.size)) ?_;intro z1 z2 z3
 have lt:∀a g gs,hp a=some (.gen g gs)→g<s.gens.size:=fun a g gs e=>by
  have:=(W.gen e).1
  rcases Nat.lt_or_ge g s.gens.size with h|h
  ·exact h
  ·rw [Array.getElem?_eq_none h] at this;exact Ak this
 refine ⟨W.base,fun b o e=>kp _ _ (W.fz b o e),fun b o e=>?_,fun a x hx=>?_,W.os,W.bare.push rfl,fun a b g1 gs1 gs2 h1 h2=>?_,W.fg⟩
 ·refine xa1_2 (W.gz b o e) ?_;intro o' a b'
  exact ⟨o',kp _ _ a,b'⟩
 ·by_cases ha:a=s.heap.objs.size
  ·subst ha
   rw [Ae] at hx;(have zc:=Option.some.inj hx;clear hx;subst zc)
   exact ⟨z1,z2,_,Heap.get?_push_size _ rfl,.gen rfl rfl rfl rfl (by simp)⟩
  ·rw [Ac _ _ ha] at hx
   refine cps fun zP zk=>?_;(rcases W.ob a x hx with ⟨p,q,o,ho,r⟩)<;>(refine zk ?_;clear zk zP)
   refine ⟨p,q,o,kp _ _ ho,r.gensOf (fun g gs e1 h1=>?_)⟩
   subst e1
   have:=lt _ _ _ hx
   dsimp only
   rw [Array.getElem?_push_lt this]
   rw [Array.getElem?_eq_getElem this] at h1
   exact h1
 ·by_cases ha:a=s.heap.objs.size<;>by_cases hb:b=s.heap.objs.size
  ·rw [ha,hb]
  ·subst ha
   rw [Ae] at h1;(have zc:=L8 h1;clear h1;rcases zc with ⟨zc,zd⟩;subst zc;subst zd)
   rw [Ac _ _ hb] at h2
   have:=lt _ _ _ h2;exact False.elim (IU [_] [(1,(Zs Z0),Z0)] rfl this)
  ·subst hb
   rw [Ae] at h2;(have zc:=L8 h2;clear h2;rcases zc with ⟨zc,zd⟩;subst zc;subst zd)
   rw [Ac _ _ ha] at h1
   have:=lt _ _ _ h1;exact False.elim (IU [_] [(1,(Zs Z0),Z0)] rfl this)
  ·rw [Ac _ _ ha] at h1;rw [Ac _ _ hb] at h2
   exact W.gi _ _ _ _ _ h1 h2
theorem Nc {f:Addr} {fd:FuncData} {body:List Stmt} {args:List AV} {kw loc:List (Str×AV)} {Q:AV→HP→Prop} (hf:FnAt C f fd) (hb:BE C fd args kw loc)
  (h:∀L ga g,hp L=none→hp ga=none→L≠ga→Cd (callEnv fd L f)→Q (.ref ga) (upd (upd hp L (.frame loc.reverse)) ga (.gen g (.fresh (.func body (callEnv fd L f))))))
  (hroom:A.depth<recursionLimit) (hbody:fd.body=.stmts body:=by rfl) (hcell:(fd.scope.names.all fun x=>x.2 != .cell&&x.2 != .free)=true:=by rfl)
  (hco:fd.scope.isCoroutine=false:=by rfl) (hgen:fd.scope.isGenerator=true:=by rfl) (hk:fd.scope.kind=.function:=by rfl) :
  Fn C A (.ref f) args kw hp Q:=by
 intro F G s vs kvs fs W hv hkv
 refine xa1_2 hf.at_ ?_;intro o ho hd
 refine xa1_3 (hb F vs kvs hv hkv) ?_;intro bs hB hbr hl
 have hc:∀x∈fd.scope.names,x.2≠.cell∧x.2≠.free:=fun x hx=>by
  have:=List.all_eq_true.mp hcell x hx
  simpa using this
 have noK:∀L,Cd (callEnv fd L f):=by
  intro L x
  have key:∀kd,fd.scope.names.lookup x=some kd→(x,kd)∈fd.scope.names:=fun kd e=>by
   refine xa2_2 (List.lookup_eq_some_iff.mp e) ?_;intro l1 l2 e1 zu
   rw [e1];simp
  constructor
  ·intro e;exact (hc _ (key _ e)).1 rfl
  ·intro e;exact (hc _ (key _ e)).2 rfl
 refine codeAny_call_generator hroom (W.old _ _ ho) hd hco hgen hbody (hf.code.keeps W.old) ?_
 refine hB _ _ _ s W.old (wpAny_newFunctionEnv (fun x hx=>(hc x hx).1) (fun x hx=>of_decide_eq_true (List.all_eq_true.mp hl x hx)) (fun h' hns hsb=>?_) hk)
 have kp:∀b o,s.heap.get? b=some o→h'.get? b=some o:=fun b o e=>hsb.extBut b o (Nat.ne_of_lt (Heap.lt_size e)) (Heap.get?_push_of_some _ e)
 refine ⟨hf.lim.keeps fun b o e=>kp _ _ (W.old _ _ e),?_⟩
 refine xa0_3 (W.lt (Nat.le_refl s.heap.objs.size)) ?_;intro z1 z2 z3
 have W1:Wd C F G (upd hp s.heap.objs.size (.frame loc.reverse)) { s with heap:=h',toks:=s.toks+bs.length }:=by
  have W0:=W.keep (t:=s.toks+bs.length) kp
  refine ⟨W0.base,W0.fz,W0.gz,fun a x hx=>?_,W0.os,W0.bare,fun a b g1 gs1 gs2 h1 h2=>?_,W0.fg⟩
  ·by_cases ha:a=s.heap.objs.size
   ·subst ha
    rw [Ae] at hx;(have zc:=Option.some.inj hx;clear hx;subst zc)
    refine xa3_4 hns ?_;(try clear hns);intro o es ep ho hd hs hm
    refine ⟨z1,z2,o,ho,.frame hd hs (fun x av hx=>?_)⟩
    refine xa1_2 (hbr.reverse.look hx) ?_;intro v hv r
    exact ⟨v,by rw [hm];exact hv,r⟩
   ·rw [Ac _ _ ha] at hx;exact W0.ob a x hx
  ·have ne:∀c g gs,upd hp s.heap.objs.size (.frame loc.reverse) c=some (.gen g gs)→hp c=some (.gen g gs):=fun c g gs e=>by
    by_cases hc:c=s.heap.objs.size
    ·subst hc;rw [Ae] at e;exact AO.noConfusion (Option.some.inj e)
    ·rw [Ac _ _ hc] at e;exact e
   exact W.gi _ _ _ _ _ (ne _ _ _ h1) (ne _ _ _ h2)
 have hlt:s.heap.objs.size<h'.objs.size:=hns.lt
 refine ⟨F,_,.ref h'.objs.size,_,rfl,A6.refl F,.ref _,W1.newGen,?_⟩
 have z4:=(W1.lt (Nat.le_refl h'.objs.size)).2.2
 rw [Ac _ _ (Nat.ne_of_gt hlt)] at z4
 exact h _ _ _ z3 z4 (Nat.ne_of_lt hlt) (noK _)
end
section
section
variable {C:Cf} {A:Around} {s:Shared} {env:Env} {σ:Am} {F G:FH} {hp:HP} {E:Value→Shared→Prop}
theorem Rp.loosen (hR:Rp C A F G env σ s) (S:List Addr) (hS:∀a∈S,∃x,σ.hp a=some x) {h':Heap} {t:Nat} (k:∀b o,b∉S→s.heap.get? b=some o→h'.get? b=some o) :
  Rp C A F G env { σ with hp:=fun b=>if b∈S then none else σ.hp b } ⟨h',s.gens,s.drawn,t,s.os⟩:=by
 refine cps fun zP zk=>?_;(rcases hR with ⟨⟨w1,w2,w3,w4,w5,w6,w7,w8⟩,⟨kd,⟨m,hm,hmv⟩,⟨l1,l2,l3⟩,co,ci,cv,fv⟩,hfs⟩)<;>(refine zk ?_;clear zk zP)
 have nF:∀{b o},F b=some o→b∉S:=fun e hb=>by
  refine xa1_1 (hS _ hb) ?_;intro x hx
  rw [(w4 _ _ hx).1] at e;exact Ak e
 have nG:∀{b o},G b=some o→b∉S:=fun e hb=>by
  refine xa1_1 (hS _ hb) ?_;intro x hx
  rw [(w4 _ _ hx).2.1] at e;exact Ak e
 have nH:∀{b},σ.hp b=none→b∉S:=fun e hb=>by
  refine xa1_1 (hS _ hb) ?_;intro x hx
  rw [hx] at e;exact Ao e
 refine ⟨⟨w1,fun b o e=>k _ _ (nF e) (w2 b o e),fun b o e=>?_,fun b x e=>?_,w5,w6,fun a b g gs gs' h1 h2=>?_,w8⟩,⟨kd,⟨m,?_,hmv⟩,⟨l1,l2,?_⟩,fun x hx=>?_,ci,fun x av c h1 h2 h3=>?_,fv⟩,hfs⟩
 ·refine xa1_2 (w3 b o e) ?_;intro o' z1 z2
  exact ⟨o',k _ _ (nG e) z1,z2⟩
 ·dsimp only at e
  split at e
  ·exact Ak e
  ·rename_i hb
   refine cps fun zP zk=>?_;(rcases w4 b x e with ⟨p,q,o,ho,r⟩)<;>(refine zk ?_;clear zk zP)
   exact ⟨p,q,o,k _ _ hb ho,r⟩
 ·dsimp only at h1 h2
  split at h1
  ·exact Ak h1
  ·split at h2
   ·exact Ak h2
   ·exact w7 _ _ _ _ _ h1 h2
 ·refine xa3_2 hm ?_;(try clear hm);intro oL es ep hL r
  exact ⟨oL,es,ep,k _ _ (nH l3) hL,r⟩
 ·dsimp only;split
  ·rfl
  ·exact l3
 ·refine cps fun zP zk=>?_;(rcases co x hx with ⟨c,g1,g2,g3,g4,g5,v,o,g6,g7⟩)<;>(refine zk ?_;clear zk zP)
  refine ⟨c,g1,g2,g3,?_,g5,v,o,k _ _ (nH g4) g6,g7⟩
  dsimp only;split
  ·rfl
  ·exact g4
 ·refine xa1_2 (cv x av c h1 h2 h3) ?_;intro v;intro zq;refine xa1_2 zq ?_;(try clear zq);intro o g6 g7;intro g8
  refine xa1_5 (co x h2) ?_;intro c' z1 z2 z3 z4 zu
  rw [h3] at z1;(have zc:=Option.some.inj z1;clear z1;subst zc)
  exact ⟨v,⟨o,k _ _ (nH z4) g6,g7⟩,g8⟩
theorem Rp.track (hR:Rp C A F G env σ s) {a:Addr} {x:AO} {o:Obj} (ho:s.heap.get? a=some o) (hF:F a=none) (hG:G a=none) (hp:σ.hp a=none) (hl:a≠env.locals) (hc:∀x c,env.kindOf x=some .cell→env.cells.lookup x=some c→a≠c)
  (hx:CA x=false) (r:OR C F s.gens x o):Rp C A F G env { σ with hp:=upd σ.hp a x } s:=by
 refine cps fun zP zk=>?_;(rcases hR with ⟨⟨w1,w2,w3,w4,w5,w6,w7,w8⟩,⟨kd,⟨m,hm,hmv⟩,⟨l1,l2,l3⟩,co,ci,cv,fv⟩,hfs⟩)<;>(refine zk ?_;clear zk zP)
 have ne:∀c g gs,upd σ.hp a x c=some (.gen g gs)→σ.hp c=some (.gen g gs):=fun c g gs e=>by
  by_cases hc:c=a
  ·subst hc;rw [Ae] at e;(have zc:=Option.some.inj e;clear e;subst zc);exact CJ hx
  ·rw [Ac _ _ hc] at e;exact e
 refine ⟨⟨w1,w2,w3,fun b y e=>?_,w5,w6,fun b b' g gs gs' h1 h2=>w7 _ _ _ _ _ (ne _ _ _ h1) (ne _ _ _ h2),w8⟩,⟨kd,⟨m,hm,hmv⟩,⟨l1,l2,(Ac _ _ (Ne.symm hl)).trans l3⟩,fun y hy=>?_,ci,cv,fv⟩,hfs⟩
 ·dsimp only at e
  by_cases hb:b=a
  ·subst hb;rw [Ae] at e;(have zc:=Option.some.inj e;clear e;subst zc);exact ⟨hF,hG,o,ho,r⟩
  ·rw [Ac _ _ hb] at e;exact w4 b y e
 ·refine xa1_5 (co y hy) ?_;intro c g1 g2 g3 g4 g5
  exact ⟨c,g1,g2,g3,(Ac _ _ (Ne.symm (hc y c hy g1))).trans g4,g5⟩
theorem Rp.apart (hR:Rp C A F G env σ s) {a:Addr} {x:AO} (ha:σ.hp a=some x):F a=none∧G a=none∧a≠env.locals∧(∀y c,env.kindOf y=some .cell→env.cells.lookup y=some c→a≠c):=by
 refine xa0_3 (hR.wd.ob a x ha) ?_;intro p q zu
 refine ⟨p,q,?_,fun y c hy hc e=>?_⟩
 ·rintro rfl;rw [hR.fm.lo.2.2] at ha;exact Ak ha
 ·subst e
  refine xa1_5 (hR.fm.co y hy) ?_;intro c' g1 zu zu g4 zu
  rw [hc] at g1;(have zc:=Option.some.inj g1;clear g1;subst zc)
  rw [g4] at ha;exact Ak ha
inductive DY:Addr→Nat→List AV→HP→Prop
 |tup {ia i xs hp}:hp ia=some (.itr "tuple_iterator" [.tup xs,.val (.int i 0)])→i≤xs.length→DY ia i (xs.drop i) hp
 |list {ia i xs l hp}:hp ia=some (.itr "list_iterator" [.ref l,.val (.int i 0)])→hp l=some (.list xs)→i≤xs.length→DY ia i (xs.drop i) hp
 |lst {ia i xs hp}:hp ia=some (.itr "list_iterator" [.lst xs,.val (.int i 0)])→i≤xs.length→DY ia i (xs.drop i) hp
 |str {ia i x hp}:hp ia=some (.itr (strIterType x) [.str x,.val (.int i 0)])→i≤x.cps.size→DY ia i ((AT x).drop i) hp
noncomputable def Od (hp:HP) (ia:Addr) (i:Nat) (y:AO):Prop:=(∃c vs,y=.itr c vs)∧∀c u,hp ia=some (.itr c [u,.val (.int i 0)])→y=.itr c [u,.val (.int (i+1:Nat) 0)]
structure Ok (C:Cf) (A:Around) (F:FH) (G:FH) (ia:Addr) (i:Nat) (rest:List AV) (hp:HP) (s:Shared):Prop where
 ex:∃fp n P St,Draws C.prog C.w A ia fp n P St∧St i s.heap∧i+rest.length=n∧ia∈fp∧(∀b∈fp,b=ia∨(F b).isSome=true∨∃xs,hp b=some (.list xs)) ∧
  ∀v h' gens,P i v→St (i+1) h'→∃x xs o' y,rest=x::xs∧VR F x v∧h'.get? ia=some o'∧OR C F gens y o'∧CA y=false∧Od hp ia i y∧∀hp',hp' ia=some y→(∀l zs,hp l=some (.list zs)→hp' l=some (.list zs))→DY ia (i+1) xs hp'
theorem DY.drw {ia:Addr} {i:Nat} {rest:List AV} (h:DY ia i rest σ.hp) (hA:A.handled=none) (hR:Rp C A F G env σ s):Ok C A.in1 F G ia i rest σ.hp s:=by
 generalize hhp:σ.hp=hp at h
 cases h with
 |tup e hle=>
  rename_i xs
  subst hhp
  refine cps fun zP zk=>?_;(rcases hR.wd.ob _ _ e with ⟨p,q,o,ho,r⟩)<;>(refine zk ?_;clear zk zP)
  (refine OR.itrC r fun us r1 r2 r3=>?_;clear r)
  refine VRs.consC r3 fun zv zw zo a1 a2=>?_;clear r3;subst zo
  refine VRs.consC a2 fun zv zw zo b1 b2=>?_;clear a2;subst zo
  (have zc:=VRs.nilI b2;clear b2;subst zc);(have zc:=VR.valI b1;clear b1;subst zc)
  refine VR.tupC a1 fun vs l ol n zo q1 q2 q3 q4=>?_;clear a1;subst zo
  have hlen:=q4.length
  have hli:l≠ia:=by rintro rfl;rw [p] at q1;exact Ak q1
  refine ⟨[ia,l],_,_,_,Hq (A:=A.in1) hA ia l hli vs.toArray,⟨⟨o,ho,r1,r2⟩,⟨ol,hR.wd.fz _ _ q1,q2,n,q3⟩⟩,?_,by simp,?_,?_⟩
  ·simp [hlen];exact Nat.le_antisymm (Ax [_,_,_] [(1,(Za Z1 Z0),Z2)] (Za Z0 Z1) Z2 rfl (Nat.le_of_eq (Nat.sub_add_cancel (Ax [_,_] [(1,Z0,Z1)] Z0 Z1 rfl hle)))) (Ax [_,_,_] [(1,Z0,(Za Z2 Z1))] Z0 (Za Z1 Z2) rfl (CG _ _))
  ·intro b hb
   simp at hb
   rcases hb with rfl|rfl
   ·exact .inl rfl
   ·exact .inr (.inl (by rw [q1];rfl))
  ·rintro v h' gens hv ⟨⟨o',ho',c1,c2⟩,zu⟩
   rw [List.getElem?_toArray] at hv
   have hlt:i<xs.length:=by rw [←hlen];exact (List.getElem?_eq_some_iff.mp hv).1
   refine xa1_2 (q4.get (i:=i) (x:=xs[i]) (by simp [hlt])) ?_;intro u hu hr
   rw [hv] at hu;(have zc:=Option.some.inj hu;clear hu;subst zc)
   refine ⟨xs[i],xs.drop (i+1),o',.itr "tuple_iterator" [.tup xs,.val (.int (i+1:Nat) 0)],(List.drop_eq_getElem_cons hlt),hr,ho',.itr (us:=[.ref l,.int (i+1:Nat) 0]) c1 c2 (.cons (.tup q1 q2 q3 q4) (.cons (.val _) .nil)),rfl,⟨⟨_,_,rfl⟩,fun c u q=>by rw [e] at q;cases q;rfl⟩,fun hp' e' zu=>.tup e' hlt⟩
 |lst e hle=>
  rename_i xs
  subst hhp
  refine cps fun zP zk=>?_;(rcases hR.wd.ob _ _ e with ⟨p,q,o,ho,r⟩)<;>(refine zk ?_;clear zk zP)
  (refine OR.itrC r fun us r1 r2 r3=>?_;clear r)
  refine VRs.consC r3 fun zv zw zo a1 a2=>?_;clear r3;subst zo
  refine VRs.consC a2 fun zv zw zo b1 b2=>?_;clear a2;subst zo
  (have zc:=VRs.nilI b2;clear b2;subst zc);(have zc:=VR.valI b1;clear b1;subst zc)
  refine VR.lstC a1 fun vs l ol n zo q1 q2 q3 q4=>?_;clear a1;subst zo
  have hlen:=q4.length
  have hli:l≠ia:=by rintro rfl;rw [p] at q1;exact Ak q1
  refine ⟨[ia,l],_,_,_,Draws.list (A:=A.in1) hA ia l hli vs.toArray,⟨⟨o,ho,r1,r2⟩,⟨ol,hR.wd.fz _ _ q1,q2,n,q3⟩⟩,?_,by simp,?_,?_⟩
  ·simp [hlen];exact Nat.le_antisymm (Ax [_,_,_] [(1,(Za Z1 Z0),Z2)] (Za Z0 Z1) Z2 rfl (Nat.le_of_eq (Nat.sub_add_cancel (Ax [_,_] [(1,Z0,Z1)] Z0 Z1 rfl hle)))) (Ax [_,_,_] [(1,Z0,(Za Z2 Z1))] Z0 (Za Z1 Z2) rfl (CG _ _))
  ·intro b hb
   simp at hb
   rcases hb with rfl|rfl
   ·exact .inl rfl
   ·exact .inr (.inl (by rw [q1];rfl))
  ·rintro v h' gens hv ⟨⟨o',ho',c1,c2⟩,zu⟩
   rw [List.getElem?_toArray] at hv
   have hlt:i<xs.length:=by rw [←hlen];exact (List.getElem?_eq_some_iff.mp hv).1
   refine xa1_2 (q4.get (i:=i) (x:=xs[i]) (by simp [hlt])) ?_;intro u hu hr
   rw [hv] at hu;(have zc:=Option.some.inj hu;clear hu;subst zc)
   refine ⟨xs[i],xs.drop (i+1),o',.itr "list_iterator" [.lst xs,.val (.int (i+1:Nat) 0)],(List.drop_eq_getElem_cons hlt),hr,ho',.itr (us:=[.ref l,.int (i+1:Nat) 0]) c1 c2 (.cons (.lst q1 q2 q3 q4) (.cons (.val _) .nil)),rfl,⟨⟨_,_,rfl⟩,fun c u q=>by rw [e] at q;cases q;rfl⟩,fun hp' e' zu=>.lst e' hlt⟩
 |list e el hle=>
  rename_i xs l
  subst hhp
  refine cps fun zP zk=>?_;(rcases hR.wd.ob _ _ e with ⟨p,q,o,ho,r⟩)<;>(refine zk ?_;clear zk zP)
  refine xa2_2 (hR.list el) ?_;intro vs n hL hvs
  (refine OR.itrC r fun us r1 r2 r3=>?_;clear r)
  refine VRs.consC r3 fun zv zw zo a1 a2=>?_;clear r3;subst zo
  refine VRs.consC a2 fun zv zw zo b1 b2=>?_;clear a2;subst zo
  (have zc:=VRs.nilI b2;clear b2;subst zc);(have zc:=VR.valI b1;clear b1;subst zc);(have zc:=VR.refI a1;clear a1;subst zc)
  have hlen:=hvs.length
  have hli:l≠ia:=by rintro rfl;rw [e] at el;exact AO.noConfusion (Option.some.inj el)
  refine ⟨[ia,l],_,_,_,Draws.list (A:=A.in1) hA ia l hli vs.toArray,⟨⟨o,ho,r1,r2⟩,⟨_,hL,rfl,n,rfl⟩⟩,?_,by simp,?_,?_⟩
  ·simp [hlen];exact Nat.le_antisymm (Ax [_,_,_] [(1,(Za Z1 Z0),Z2)] (Za Z0 Z1) Z2 rfl (Nat.le_of_eq (Nat.sub_add_cancel (Ax [_,_] [(1,Z0,Z1)] Z0 Z1 rfl hle)))) (Ax [_,_,_] [(1,Z0,(Za Z2 Z1))] Z0 (Za Z1 Z2) rfl (CG _ _))
  ·intro b hb
   simp at hb
   rcases hb with rfl|rfl
   ·exact .inl rfl
   ·exact .inr (.inr ⟨xs,el⟩)
  ·rintro v h' gens hv ⟨⟨o',ho',c1,c2⟩,zu⟩
   rw [List.getElem?_toArray] at hv
   have hlt:i<xs.length:=by rw [←hlen];exact (List.getElem?_eq_some_iff.mp hv).1
   refine xa1_2 (hvs.get (i:=i) (x:=xs[i]) (by simp [hlt])) ?_;intro u hu hr
   rw [hv] at hu;(have zc:=Option.some.inj hu;clear hu;subst zc)
   refine ⟨xs[i],xs.drop (i+1),o',.itr "list_iterator" [.ref l,.val (.int (i+1:Nat) 0)],(List.drop_eq_getElem_cons hlt),hr,ho',.itr (us:=[.ref l,.int (i+1:Nat) 0]) c1 c2 (.cons (.ref l) (.cons (.val _) .nil)),rfl,⟨⟨_,_,rfl⟩,fun c u q=>by rw [e] at q;cases q;rfl⟩,fun hp' e' k'=>.list e' (k' _ _ el) hlt⟩
 |str e hle=>
  rename_i x
  subst hhp
  refine cps fun zP zk=>?_;(rcases hR.wd.ob _ _ e with ⟨p,q,o,ho,r⟩)<;>(refine zk ?_;clear zk zP)
  (refine OR.itrC r fun us r1 r2 r3=>?_;clear r)
  refine VRs.consC r3 fun zv zw zo a1 a2=>?_;clear r3;subst zo
  refine VRs.consC a2 fun zv zw zo b1 b2=>?_;clear a2;subst zo
  (have zc:=VRs.nilI b2;clear b2;subst zc);(have zc:=VR.valI b1;clear b1;subst zc)
  refine xa1_1 a1.strI ?_;intro t zo;clear a1;subst zo
  have hD:Draws C.prog C.w A.in1 ia [ia] x.cps.size (fun i v=>∃c u,x.cps[i]? = some c∧v=.str ⟨#[c]⟩ u) (fun i h=>h.IsStrIter ia (strIterType x) x t i):=by
   cases ha:x.cps.all (·<128)
   ·have:strIterType x = "str_iterator":=by simp [strIterType,ha]
    rw [this];exact Draws.strWide (A:=A.in1) hA ia x t
   ·have:strIterType x = "str_ascii_iterator":=by simp [strIterType,ha]
    rw [this];exact Draws.strAscii (A:=A.in1) hA ia x t
  refine ⟨[ia],_,_,_,hD,⟨o,ho,r1,r2⟩,?_,by simp,?_,?_⟩
  ·simp [AT];exact Nat.le_antisymm (Ax [_,_,_] [(1,(Za Z1 Z0),Z2)] (Za Z0 Z1) Z2 rfl (Nat.le_of_eq (Nat.sub_add_cancel (Ax [_,_] [(1,Z0,Z1)] Z0 Z1 rfl hle)))) (Ax [_,_,_] [(1,Z0,(Za Z2 Z1))] Z0 (Za Z1 Z2) rfl (CG _ _))
  ·intro b hb
   simp at hb;exact .inl hb
  ·rintro v h' gens ⟨c,u,hc,rfl⟩ ⟨o',ho',c1,c2⟩
   have hlt:i<x.cps.size:=by
    rcases Nat.lt_or_ge i x.cps.size with h|h
    ·exact h
    ·rw [Array.getElem?_eq_none h] at hc;exact Ak hc
   have hlt':i<(AT x).length:=by simp [AT,hlt]
   have hci:(AT x)[i]=.str ⟨#[c]⟩:=by
    rw [Array.getElem?_eq_getElem hlt] at hc;(have zc:=Option.some.inj hc;clear hc;subst zc)
    simp [AT]
   refine ⟨(AT x)[i],(AT x).drop (i+1),o',.itr (strIterType x) [.str x,.val (.int (i+1:Nat) 0)],(List.drop_eq_getElem_cons hlt'),?_,ho',.itr (us:=[.str x t,.int (i+1:Nat) 0]) c1 c2 (.cons (.str x t) (.cons (.val _) .nil)),rfl,⟨⟨_,_,rfl⟩,fun c u q=>by rw [e] at q;cases q;rfl⟩,fun hp' e' zu=>.str e' hlt⟩
   rw [hci];exact .str _ _
end
end
section
variable {C:Cf} {A:Around} {s:Shared} {env:Env} {σ:Am} {F G:FH} {hp:HP} {E:Value→Shared→Prop}
noncomputable def AI (ia:Addr) (i:Nat) (old:AV):AO:=.fields "enumerate" [.none,.bool false,.ref ia,.val (rawInt i),.none,old]
theorem DY.at {ia:Addr} {i:Nat} {rest:List AV} (h:DY ia i rest hp):∃c vs,hp ia=some (.itr c vs):=by
 cases h with
 |tup e zu=>exact ⟨_,_,e⟩
 |lst e zu=>exact ⟨_,_,e⟩
 |list e zu zu2=>exact ⟨_,_,e⟩
 |str e zu=>exact ⟨_,_,e⟩
theorem Rp.isEnum (hR:Rp C A F G env σ s) {ea ia:Addr} {i:Nat} {old:AV} (he:σ.hp ea=some (AI ia i old)):∃ov,IsEnum s.heap ea ia i ov∧VR F old ov:=by
 refine cps fun zP zk=>?_;(rcases hR.wd.ob _ _ he with ⟨zu,zu,o,ho,r⟩)<;>(refine zk ?_;clear zk zP)
 (refine OR.fieldsC r fun us r1 r2 r3 r4 r5=>?_;clear r)
 refine VRs.consC r5 fun zv zw zo a1 r5_a=>?_;clear r5;subst zo
 refine VRs.consC r5_a fun zv zw zo a2 r5_b=>?_;clear r5_a;subst zo
 refine VRs.consC r5_b fun zv zw zo a3 r5_c=>?_;clear r5_b;subst zo
 refine VRs.consC r5_c fun zv zw zo a4 r5_d=>?_;clear r5_c;subst zo
 refine VRs.consC r5_d fun zv zw zo a5 r5_e=>?_;clear r5_d;subst zo
 refine VRs.consC r5_e fun zv zw zo a6 r5_f=>?_;clear r5_e;subst zo
 (have zc:=VRs.nilI r5_f;clear r5_f;subst zc);(have zc:=VR.noneI a1;clear a1;subst zc);(have zc:=VR.boolI a2;clear a2;subst zc);(have zc:=VR.refI a3;clear a3;subst zc);(have zc:=VR.valI a4;clear a4;subst zc);(have zc:=VR.noneI a5;clear a5;subst zc)
 refine cps fun zP zk=>?_;(rcases o with ⟨c,dd,da,sl⟩)<;>(refine zk ?_;clear zk zP)
 dsimp only at r1 r2 r3 r4
 subst r1 r2 r3 r4
 exact ⟨_,ho,a6⟩
theorem Rp.top (hR:Rp C A F G env σ s):F s.heap.objs.size=none∧G s.heap.objs.size=none∧σ.hp s.heap.objs.size=none∧s.heap.objs.size≠env.locals∧(∀y c,env.kindOf y=some .cell→env.cells.lookup y=some c→s.heap.objs.size≠c):=by
 refine xa0_3 (hR.wd.lt (Nat.le_refl s.heap.objs.size)) ?_;intro z1 z2 z3
 refine ⟨z1,z2,z3,Nat.ne_of_gt (by refine xa1_2 hR.fm.ns ?_;intro m;intro zq;refine xa3_2 zq ?_;(try clear zq);intro oL es ep' hL zu;intro zu;exact Heap.lt_size hL),fun x c hx hc=>?_⟩
 refine cps fun zP zk=>?_;(rcases hR.fm.co x hx with ⟨c',g1,zu,zu,zu,zu,v',o',ho',zu⟩)<;>(refine zk ?_;clear zk zP)
 rw [hc] at g1;(have zc:=Option.some.inj g1;clear g1;subst zc)
 exact Nat.ne_of_gt (Heap.lt_size ho')
theorem HZ (hA:A.handled=none) (hR:Rp C A F G env σ s) {ea ia:Addr} {i:Nat} {old x:AV} {rest:List AV} (he:σ.hp ea=some (AI ia i old)) (hs:DY ia i (x::rest) σ.hp) {elts:List Expr} {tn:Nat} {tpos:Pos} :
  wpAny (model C.prog C.w) A (pyNext (.ref ea)) (fun r s₁=>∃v,r=some v∧wpAny (model C.prog C.w) A (letOwnedTupleGo (.Tuple elts tn tpos) (.ref ea) v) (fun zu s₂=>
   ∃F' y,A6 F F'∧VR F' (.tup [.int i,x]) v∧Od σ.hp ia i y∧DY ia (i+1) rest (upd (upd σ.hp ia y) ea (AI ia (i+1) x))∧Rp C A F' G env { σ with hp:=upd (upd σ.hp ia y) ea (AI ia (i+1) x) } s₂) Bz s₁) Bz s:=by
 refine xa4_6 ((hs.drw hA hR).ex) ?_;intro fp n P St D hst hn hifp hfp hfin
 refine xa2_1 hs.at ?_;intro ci vi hia
 refine xa1_2 (hR.isEnum he) ?_;intro ov hE hov
 have hne:ea≠ia:=by rintro rfl;rw [he] at hia;exact AO.noConfusion (Option.some.inj hia)
 have hef:ea∉fp:=fun hb=>by
  rcases hfp ea hb with h|h|⟨xs,h⟩
  ·exact hne h
  ·rw [(hR.apart he).1] at h;exact By h
  ·rw [he] at h;exact AO.noConfusion (Option.some.inj h)
 refine wpAny_pyNext_enum_itemD D hE hst (by rw [←hn];simp) hne hef (fun xv h' tk hP hout hst' htup hsz hk=>⟨_,rfl,?_⟩)
 refine wpAny_letOwnedTupleGo_enum (s:={ s with heap:=h',toks:=tk+1 }) hout (fun h'' hen hsb=>?_)
 refine xa4_7 (hfin xv h' s.gens hP hst') ?_;intro x' xs' o' y e1 hxv ho' hor hng hy hsrc
 cases e1
 have ho'':h''.get? ia=some o':=(hsb.2 ia hne.symm).trans ho'
 have hall:∀b o,b∉[ia,ea]→s.heap.get? b=some o→h''.get? b=some o:=fun b o hb e=>by
  simp at hb
  exact (hsb.2 b hb.2).trans (hk b o hb.2 hb.1 e)
 have hR1:=hR.loosen [ia,ea] (fun a ha=>by
  simp at ha
  rcases ha with rfl|rfl
  ·exact ⟨_,hia⟩
  ·exact ⟨_,he⟩) (h':=h'') (t:=tk+1) hall
 refine xa0_4 (hR.apart hia) ?_;intro i1 i2 i3 i4
 refine xa0_4 (hR.apart he) ?_;intro e1 e2 e3 e4
 have hR2:=hR1.track (a:=ia) (x:=y) ho'' i1 i2 (by simp) i3 i4 hng hor
 have hR3:=hR2.track (a:=ea) (x:=AI ia (i+1) x) hen e1 e2 (by
  show upd _ ia y ea=none
  rw [Ac _ _ hne];simp) e3 e4 rfl (.fields (us:=[.none,.bool false,.ref ia,rawInt (i+1:Nat),.none,xv]) rfl rfl rfl rfl (.cons .none (.cons (.bool _) (.cons (.ref _) (.cons (.val _) (.cons .none (.cons hxv .nil)))))))
 refine xa0_5 hR.top ?_;intro t1 t2 t3 t4 t5
 have nta:s.heap.objs.size≠ia:=by rintro e;rw [e,hia] at t3;exact Ao t3
 have nte:s.heap.objs.size≠ea:=by rintro e;rw [e,he] at t3;exact Ao t3
 have htup':h''.get? s.heap.objs.size=some { cls:=.type "tuple",data:=.seq #[.int i tk,xv] }:=(hsb.2 _ nte).trans htup
 have hpe:upd (upd (fun b=>if b∈[ia,ea] then none else σ.hp b) ia y) ea (AI ia (i+1) x)=upd (upd σ.hp ia y) ea (AI ia (i+1) x):=by
  funext b
  by_cases h1:b=ea
  ·subst h1;rw [Ae,Ae]
  ·rw [Ac _ _ h1,Ac _ _ h1]
   by_cases h2:b=ia
   ·subst h2;rw [Ae,Ae]
   ·rw [Ac _ _ h2,Ac _ _ h2];simp [h1,h2]
 have hR3:Rp C A F G env { σ with hp:=upd (upd σ.hp ia y) ea (AI ia (i+1) x) } ⟨h'',s.gens,s.drawn,tk+1,s.os⟩:=hpe▸hR3
 refine xa0_2 (hR3.freezeAt (a:=s.heap.objs.size) htup' t1 t2 (by
  show upd _ ea _ _=none
  rw [Ac _ _ nte,Ac _ _ nta];exact t3) t4 t5) ?_;intro hR4 ex
 refine ⟨_,y,ex,.tup (vs:=[.int i tk,xv]) (Ar _ _ _) rfl rfl (.cons (.int _ _) (.cons (hxv.mono ex) .nil)),hy,hsrc _ ?_ ?_,hR4⟩
 ·rw [Ac _ _ hne.symm,Ae]
 ·intro l zs hl
  have h1:l≠ea:=by rintro rfl;rw [he] at hl;exact AO.noConfusion (Option.some.inj hl)
  have h2:l≠ia:=by rintro rfl;rw [hia] at hl;exact AO.noConfusion (Option.some.inj hl)
  rw [Ac _ _ h1,Ac _ _ h2];exact hl
theorem J1 (hA:A.handled=none) (hR:Rp C A F G env σ s) {ea ia:Addr} {i:Nat} {old x:AV} {rest:List AV} (he:σ.hp ea=some (AI ia i old)) (hs:DY ia i (x::rest) σ.hp) {elts:List Expr} {tn:Nat} {tpos:Pos} :
  wpAny (model C.prog C.w) A (pyNext (.ref ea)) (fun r s₁=>∃v,r=some v∧wpAny (model C.prog C.w) A (letOwnedTupleGo (.Tuple elts tn tpos) (.ref ea) v) (fun zu s₂=>
   ∃F' y,A6 F F'∧VR F' (.tup [.int i,x]) v∧(∃c vs,y=.itr c vs)∧DY ia (i+1) rest (upd (upd σ.hp ia y) ea (AI ia (i+1) x))∧Rp C A F' G env { σ with hp:=upd (upd σ.hp ia y) ea (AI ia (i+1) x) } s₂) Bz s₁) Bz s:=by
 refine wpAny_mono (HZ hA hR he hs (elts:=elts) (tn:=tn) (tpos:=tpos)) (fun r s₁ z=>?_) fun zu zu x=>x
 refine xa1_2 z ?_;(try clear z);intro v h1 h2
 refine ⟨v,h1,wpAny_mono h2 (fun zu s₂ z=>?_) fun zu zu x=>x⟩
 refine xa2_5 z ?_;(try clear z);intro F' y a b c d e
 exact ⟨F',y,a,b,c.1,d,e⟩
theorem KK (hA:A.handled=none) (hR:Rp C A F G env σ s) {ea ia:Addr} {i:Nat} {old:AV} (he:σ.hp ea=some (AI ia i old)) (hs:DY ia i [] σ.hp) :
  wpAny (model C.prog C.w) A (pyNext (.ref ea)) (fun r s₁=>r=none∧Rp C A F G env { σ with hp:=fun b=>if b∈[ia] then none else σ.hp b } s₁) Bz s:=by
 refine xa4_6 ((hs.drw hA hR).ex) ?_;intro fp n P St D hst hn hifp hfp hfin
 refine xa2_1 hs.at ?_;intro ci vi hia
 refine xa1_2 (hR.isEnum he) ?_;intro ov hE hov
 simp at hn;subst hn
 refine wpAny_pyNext_enum_endD D hE hst (fun h' hx=>⟨rfl,?_⟩)
 refine hR.loosen [ia] (fun a ha=>by simp at ha;subst ha;exact ⟨_,hia⟩) (h':=h') (t:=s.toks) (fun b o hb e=>hx b o (by simpa using hb) e)
theorem HC (hA:A.handled=none) (hR:Rp C A F G env σ s) {ja:Addr} {i:Nat} {xs:List AV} {x:AV} (he:σ.hp ja=some (.itr "tuple_iterator" [.tup xs,.val (.int i 0)])) (hx:xs[i]? = some x) {elts:List Expr} {tn:Nat} {tpos:Pos} :
  wpAny (model C.prog C.w) A (pyNext (.ref ja)) (fun r s₁=>∃v,r=some v∧wpAny (model C.prog C.w) A (letOwnedTupleGo (.Tuple elts tn tpos) (.ref ja) v) (fun zu s₂=>
   VR F x v∧Rp C A F G env (σ.put ja (.itr "tuple_iterator" [.tup xs,.val (.int (i+1:Nat) 0)])) s₂) Bz s₁) Bz s:=by
 refine cps fun zP zk=>?_;(rcases hR.wd.ob _ _ he with ⟨p,q,o,ho,r⟩)<;>(refine zk ?_;clear zk zP)
 (refine OR.itrC r fun us r1 r2 r3=>?_;clear r)
 refine VRs.consC r3 fun zv zw zo a1 a2=>?_;clear r3;subst zo
 refine VRs.consC a2 fun zv zw zo b1 b2=>?_;clear a2;subst zo
 (have zc:=VRs.nilI b2;clear b2;subst zc);(have zc:=VR.valI b1;clear b1;subst zc)
 refine VR.tupC a1 fun vs l ol n zo q1 q2 q3 q4=>?_;clear a1;subst zo
 refine xa1_2 (q4.get hx) ?_;intro u hu hr
 refine wpAny_pyNext_tuple_item (x:=u) ⟨o,ho,r1,r2⟩ ⟨ol,hR.wd.fz _ _ q1,q2,n,q3⟩ (by rw [List.getElem?_toArray];exact hu) fun h' hit hsb=>⟨u,rfl,?_⟩
 refine xa1_3 hit ?_;(try clear hit);intro o' ho' c1 c2
 have hR':Rp C A F G env (σ.put ja (.itr "tuple_iterator" [.tup xs,.val (.int (i+1:Nat) 0)])) ⟨h',s.gens,s.drawn,s.toks,s.os⟩:=
  hR.change he rfl ho' (.itr (us:=[.ref l,.int (i+1:Nat) 0]) c1 c2 (.cons (.tup q1 q2 q3 q4) (.cons (.val _) .nil))) (SameBut.rest hsb)
 cases u with
 |ref a=>
  unfold letOwnedTupleGo
  refine wpAny_bind (wpAny_load (s:={ s with heap:=h' }) ho' ?_)
  rw [c1,c2]
  show wpAny _ _ (if (_:Bool)=true then _ else _) _ _ _
  rw [if_neg (by simp)]
  exact wpAny_pure ⟨hr,hR'⟩
 |_=>exact wpAny_pure ⟨hr,hR'⟩
theorem IW (hA:A.handled=none) (hR:Rp C A F G env σ s) {ja:Addr} {i:Nat} {xs:List AV} (he:σ.hp ja=some (.itr "tuple_iterator" [.tup xs,.val (.int i 0)])) (hx:xs[i]? = none) :
  wpAny (model C.prog C.w) A (pyNext (.ref ja)) (fun r s₁=>r=none∧Rp C A F G env { σ with hp:=fun b=>if b∈[ja] then none else σ.hp b } s₁) Bz s:=by
 refine cps fun zP zk=>?_;(rcases hR.wd.ob _ _ he with ⟨p,q,o,ho,r⟩)<;>(refine zk ?_;clear zk zP)
 (refine OR.itrC r fun us r1 r2 r3=>?_;clear r)
 refine VRs.consC r3 fun zv zw zo a1 a2=>?_;clear r3;subst zo
 refine VRs.consC a2 fun zv zw zo b1 b2=>?_;clear a2;subst zo
 (have zc:=VRs.nilI b2;clear b2;subst zc);(have zc:=VR.valI b1;clear b1;subst zc)
 refine VR.tupC a1 fun vs l ol n zo q1 q2 q3 q4=>?_;clear a1;subst zo
 refine wpAny_pyNext_tuple_end hA ⟨o,ho,r1,r2⟩ ⟨ol,hR.wd.fz _ _ q1,q2,n,q3⟩ (by rw [List.getElem?_toArray];exact q4.none hx) fun h' hxx=>⟨rfl,?_⟩
 exact hR.loosen [ja] (fun a ha=>by simp at ha;subst ha;exact ⟨_,he⟩) (h':=h') (t:=s.toks) (fun b o hb e=>hxx b o (by simpa using hb) e)
theorem IV (hR:Rp C A F G env σ s) {xs:List AV} {v:Value} (hv:VR F (.tup xs) v) :
  wpAny (model C.prog C.w) A (pyIter v) (fun it s'=>∃ja,it=.ref ja∧σ.hp ja=none∧Rp C A F G env (σ.put ja (.itr "tuple_iterator" [.tup xs,.val (.int 0 0)])) s') Bz s:=by
 refine VR.tupC hv fun vs t ot n zo q1 q2 q3 q4=>?_;clear hv;subst zo
 refine wpAny_pyIter_tuple ⟨ot,hR.wd.fz _ _ q1,q2,n,q3⟩ ⟨_,rfl,hR.lt,?_⟩
 exact hR.alloc (t:=s.toks) rfl rfl (.itr (us:=[.ref t,.int 0 0]) rfl rfl (.cons (.tup q1 q2 q3 q4) (.cons (.val _) .nil)))
theorem Bw.keep {hp hp':HP} {v:AV} {xs:List AV} (h:Bw v xs hp) (k:∀l zs,hp l=some (.list zs)→hp' l=some (.list zs)):Bw v xs hp':=by
 cases h with
 |tup a=>exact .tup a
 |lst a=>exact .lst a
 |str a=>exact .str a
 |list a b=>exact .list a (k _ _ b)
theorem J2 {v:AV} {xs:List AV} {Q:AV→Am→Prop} (hv:Bw v xs σ.hp)
  (h:∀ea ia y,σ.hp ea=none→σ.hp ia=none→ea≠ia→(∃c u,y=.itr c [u,.val (.int (0:Nat) 0)])→(∀hp',hp' ia=some y→Bw v xs hp'→DY ia 0 xs hp')→Q (.ref ea) { σ with hp:=upd (upd σ.hp ia y) ea (AI ia 0 .none) }) :
  Bo C A E env (.val (.type "enumerate")) [] [v] [] σ Q:=by
 refine D8 (fun F G s vs hR hvs=>?_)
 refine VRs.consC hvs fun zv zw zo a b=>?_;clear hvs;subst zo
 (have zc:=VRs.nilI b;clear b;subst zc)
 refine xa0_5 hR.top ?_;intro t1 t2 t3 t4 t5
 have z:=hR.wd.lt (Nat.le_succ s.heap.objs.size)
 have key:∀(v':Value) (y:AO) (o:Obj),(∀(h':Heap),IsEnum h' (s.heap.objs.size+1) s.heap.objs.size 0 .none→h'.get? s.heap.objs.size=some o→OR C F s.gens y o→CA y=false→(∃c u,y=.itr c [u,.val (.int (0:Nat) 0)]) →
   (∀hp',hp' s.heap.objs.size=some y→Bw v xs hp'→DY s.heap.objs.size 0 xs hp')→(∀b o,s.heap.get? b=some o→h'.get? b=some o) →
   Av C A G env VR Q F (.ref (s.heap.objs.size+1)) { s with heap:=h' }):=by
  intro v' y o h' hE ho hor hng hy hsrc hk
  have hlt:∀x c,env.kindOf x=some .cell→env.cells.lookup x=some c→c<s.heap.objs.size:=fun x c hx hc=>by
   refine cps fun zP zk=>?_;(rcases hR.fm.co x hx with ⟨c',g1,zu,zu,zu,zu,v',o',ho',zu⟩)<;>(refine zk ?_;clear zk zP)
   rw [hc] at g1;(have zc:=Option.some.inj g1;clear g1;subst zc)
   exact Heap.lt_size ho'
  have hL:env.locals<s.heap.objs.size:=by refine xa1_2 hR.fm.ns ?_;intro m;intro zq;refine xa3_2 zq ?_;(try clear zq);intro oL es ep' hL zu;intro zu;exact Heap.lt_size hL
  have hR1:=hR.keep (t:=s.toks) hk
  have hR2:=hR1.track (a:=s.heap.objs.size) (x:=y) ho t1 t2 t3 t4 t5 hng hor
  have hR3:=hR2.track (a:=s.heap.objs.size+1) (x:=AI s.heap.objs.size 0 .none) hE z.1 z.2.1 ((Ac _ _ (Nat.succ_ne_self _)).trans z.2.2) (Nat.ne_of_gt (Nat.lt_succ_of_lt hL)) (fun x c hx hc=>Nat.ne_of_gt (Nat.lt_succ_of_lt (hlt x c hx hc))) rfl
   (.fields (us:=[.none,.bool false,.ref s.heap.objs.size,rawInt 0,.none,.none]) rfl rfl rfl rfl (.cons .none (.cons (.bool _) (.cons (.ref _) (.cons (.val _) (.cons .none (.cons .none .nil)))))))
  refine Av.of (.ref _) hR3 (h _ _ y z.2.2 t3 (Nat.succ_ne_self _) hy hsrc)
 cases hv with
 |tup hz=>
  refine VR.tupC a fun vs t ot n zo q1 q2 q3 q4=>?_;clear a;subst zo
  refine EH ⟨ot,hR.wd.fz _ _ q1,q2,n,q3⟩ (fun h' hE hit hsz hk=>?_)
  refine xa1_3 hit ?_;(try clear hit);intro o ho c1 c2
  refine key (.ref t) (.itr "tuple_iterator" [.tup xs,.val (.int 0 0)]) o h' hE ho (.itr (us:=[.ref t,.int 0 0]) c1 c2 (.cons (.tup q1 q2 q3 q4) (.cons (.val _) .nil))) rfl ⟨_,_,rfl⟩ (fun hp' e zu=>?_) hk
  have:=DY.tup (i:=0) (xs:=xs) e (Nat.zero_le _)
  simpa using this
 |lst hz=>
  refine VR.lstC a fun vs t ot n zo q1 q2 q3 q4=>?_;clear a;subst zo
  refine call_enumerate_list ⟨ot,hR.wd.fz _ _ q1,q2,n,q3⟩ (fun h' hE hit hsz hk=>?_)
  refine xa1_3 hit ?_;(try clear hit);intro o ho c1 c2
  refine key (.ref t) (.itr "list_iterator" [.lst xs,.val (.int 0 0)]) o h' hE ho (.itr (us:=[.ref t,.int 0 0]) c1 c2 (.cons (.lst q1 q2 q3 q4) (.cons (.val _) .nil))) rfl ⟨_,_,rfl⟩ (fun hp' e zu=>?_) hk
  have:=DY.lst (i:=0) (xs:=xs) e (Nat.zero_le _)
  simpa using this
 |@str x zu hz=>
  refine xa1_1 a.strI ?_;intro t zo;clear a;subst zo
  refine call_enumerate_str (fun h' hE hit hsz hk=>?_)
  refine xa1_3 hit ?_;(try clear hit);intro o ho c1 c2
  refine key (.str x t) (.itr (strIterType x) [.str x,.val (.int 0 0)]) o h' hE ho (.itr (us:=[.str x t,.int 0 0]) c1 c2 (.cons (.str x t) (.cons (.val _) .nil))) rfl ⟨_,_,rfl⟩ (fun hp' e zu=>?_) hk
  have:=DY.str (i:=0) (x:=x) e (Nat.zero_le _)
  simpa using this
 |@list l zu zu2 hz hl=>
  (have zc:=VR.refI a;clear a;subst zc)
  refine xa2_2 (hR.list hl) ?_;intro vs n hL hvs
  refine call_enumerate_list ⟨_,hL,rfl,n,rfl⟩ (fun h' hE hit hsz hk=>?_)
  refine xa1_3 hit ?_;(try clear hit);intro o ho c1 c2
  refine key (.ref l) (.itr "list_iterator" [.ref l,.val (.int 0 0)]) o h' hE ho (.itr (us:=[.ref l,.int 0 0]) c1 c2 (.cons (.ref l) (.cons (.val _) .nil))) rfl ⟨_,_,rfl⟩ (fun hp' e k'=>?_) hk
  have:=DY.list (i:=0) (xs:=xs) e (by cases k' with|list _ k=>exact k) (Nat.zero_le _)
  simpa using this
theorem KJ {v:AV} {xs:List AV} {Q:AV→Am→Prop} (hv:Bw v xs σ.hp)
  (h:∀ea ia y,σ.hp ea=none→σ.hp ia=none→ea≠ia→(∃c vs,y=.itr c vs)→DY ia 0 xs (upd (upd σ.hp ia y) ea (AI ia 0 .none))→Q (.ref ea) { σ with hp:=upd (upd σ.hp ia y) ea (AI ia 0 .none) }) :
  Bo C A E env (.val (.type "enumerate")) [] [v] [] σ Q:=by
 refine J2 hv (fun ea ia y h1 h2 h3 h4 h5=>h ea ia y h1 h2 h3 (let ⟨c,u,e⟩:=h4;⟨c,_,e⟩) (h5 _ (by rw [Ac _ _ h3.symm,Ae]) (hv.keep fun l zs hl=>?_)))
 have n1:l≠ea:=by rintro rfl;rw [h1] at hl;exact Ak hl
 have n2:l≠ia:=by rintro rfl;rw [h2] at hl;exact Ak hl
 rw [Ac _ _ n1,Ac _ _ n2];exact hl
end
section
theorem Ds:typeLookup (.type "method_descriptor") "__get__" = pure (some (.builtin "method_descriptor.__get__")):=by rw [typeLookup_type,builtinLookup_eq_fast];kernel_rfl
theorem FL:typeLookup (.type "method_descriptor") "__set__" = pure none:=by rw [typeLookup_type,builtinLookup_eq_fast];kernel_rfl
theorem FM:typeLookup (.type "method_descriptor") "__delete__" = pure none:=by rw [typeLookup_type,builtinLookup_eq_fast];kernel_rfl
theorem E8:typeOf (.builtin "dict.get")=pure (.type "method_descriptor"):=F.type_dict_get
theorem IC:Slot "method_descriptor" "__get__" "method_descriptor.__get__":=
 .of (owner:="method_descriptor") (n:="__get__") Ds (by decide +kernel) (by decide +kernel) (by decide +kernel)
  (by first|exact .inl (by decide +kernel)|exact .inr (by decide +kernel)) (by rw [isSubtype_type];kernel_rfl)
theorem Ko:entryFor table "method_descriptor.__get__" = some Builtin.«method_descriptor.__get__»:=entryFor_of_tree (by kernel_rfl)
theorem LE (a b c:Value):argsOk "method_descriptor.__get__" ⟨[a,b,c],[]⟩:=by unfold argsOk;kernel_rfl
theorem Kn (a:Addr) (es:Array DictEntry) (k:Nat) (sl:Array (Option Value)) :
  Meets (Builtin.«method_descriptor.__get__» ⟨[.builtin "dict.get",.ref a,.type "dict"],[]⟩) (fun A R s=>s.heap.get? a=some { cls:=.type "dict",dict:=none,data:=.dict es k,slots:=sl } ∧
   R (.ok (.ret (.ref s.heap.objs.size))) { s with heap:=s.heap.push { cls:=.type "builtin_function_or_method",data:=.fields #[.builtin "dict.get",.ref a] } }):=
 Meets.of_wp fun prog w A R s hs=>by
  refine cps fun zP zk=>?_;(rcases s with ⟨hp,g,d,tk,os⟩)<;>(refine zk ?_;clear zk zP)
  refine xa0_2 hs ?_;(try clear hs);intro hx hs
  have hT:(⟨hp,g,d,tk,os⟩:Shared).TypeIs (.ref a) "dict":=⟨_,hx,rfl⟩
  have f1:isSubtype (.type "dict") (.type "dict")=pure true:=by rw [isSubtype_type];kernel_rfl
  unfold Builtin.«method_descriptor.__get__»
  repeat (any_goals (first|assumption|k_node|wp_step))
  exact ⟨_,rfl,hs⟩
theorem G3 (a:Addr) (es:Array DictEntry) (k:Nat) (sl:Array (Option Value)) (u:Tok) :
  Meets (Builtin.«object.__getattribute__» ⟨[.ref a,.str "get" u],[]⟩) (fun A R s=>s.heap.get? a=some { cls:=.type "dict",dict:=none,data:=.dict es k,slots:=sl } ∧
   R (.ok (.ret (.ref s.heap.objs.size))) { s with heap:=s.heap.push { cls:=.type "builtin_function_or_method",data:=.fields #[.builtin "dict.get",.ref a] } }):=
 Meets.of_wp fun prog w A R s hs=>by
  refine cps fun zP zk=>?_;(rcases s with ⟨hp,g,d,tk,os⟩)<;>(refine zk ?_;clear zk zP)
  refine xa0_2 hs ?_;(try clear hs);intro hx hs
  have hT:(⟨hp,g,d,tk,os⟩:Shared).TypeIs (.ref a) "dict":=⟨_,hx,rfl⟩
  have f1:=F.slot_dict_get.lookup
  have f2:=Ds
  have f3:=FL
  have f4:=FM
  have f5:=E8
  unfold Builtin.«object.__getattribute__»
  repeat (any_goals (first|assumption|wp_step))
  have key:∀(A':Around) (R':Result→Shared→Prop),R' (.ok (.ret (.ref hp.objs.size))) ⟨hp.push { cls:=.type "builtin_function_or_method",data:=.fields #[.builtin "dict.get",.ref a] },g,d,tk,os⟩ →
    codeAny (model prog w) A' (.call (.builtin "method_descriptor.__get__") ⟨[.builtin "dict.get",.ref a,.type "dict"],[]⟩) R' ⟨hp,g,d,tk,os⟩:=fun A' R' h'=>
   codeAny_call_builtin IC.plain Ko (IC.check _ _ _ _ _ _ _ _ (show Shared.TypeIs _ (.builtin "dict.get") "method_descriptor" from E8) (LE _ _ _) (Kn a es k sl prog w A' R' _ ⟨hx,h'⟩))
  exact key _ _ (wpAny_pure ⟨_,rfl,hs⟩)
section
variable {prog:Program} {w:World} {A:Around} {E:Value→Shared→Prop} {s:Shared}
theorem Er {a:Addr} {o:Obj} {es:Array DictEntry} {k:Nat} {Q:Value→Shared→Prop}
  (hx:s.heap.get? a=some o) (hc:o.cls=.type "dict") (hdat:o.data=.dict es k) (hd:o.dict=none)
  (h:Q (.ref s.heap.objs.size) { s with heap:=s.heap.push { cls:=.type "builtin_function_or_method",data:=.fields #[.builtin "dict.get",.ref a] },toks:=s.toks+1 }) :
  wpAny (model prog w) A (getAttr (.ref a) "get" true) Q E s:=by
 refine cps fun zP zk=>?_;(rcases o with ⟨c,dct,dat,sl⟩)<;>(refine zk ?_;clear zk zP)
 simp only at hc hdat hd
 subst hc hdat hd
 refine cps fun zP zk=>?_;(rcases s with ⟨hp,g,d,tk,os⟩)<;>(refine zk ?_;clear zk zP)
 have hT:∀tk',(⟨hp,g,d,tk',os⟩:Shared).TypeIs (.ref a) "dict":=fun zu=>⟨_,hx,rfl⟩
 have f3:=F.slot_dict_getattribute.lookup
 have f4:=F.slot_dict_getattribute.bind (.ref a)
 have f5:=am_dict_getattr_none
 unfold getAttr getAttrBy
 repeat (any_goals (first|assumption|exact hT _|((with_reducible show wpAny _ _ (call (Value.builtin "dict.__getattribute__") _ _) _ _ _);refine call_meets F.slot_dict_getattribute (hT _) am_entry_dict_getattribute (F.args_dict_getattribute_2 _ _) (G3 a es k sl _) ⟨hx,?_⟩)|wp_step))
 show wpAny _ _ (handedOut (.ref _)) Q E _
 rw [handedOut_of rfl];exact wpAny_pure h
theorem Fq {b d:Addr} {o od:Obj} {k:Value} {R:Result→Shared→Prop} (ho:s.heap.get? b=some o) (hc:o.cls=.type "builtin_function_or_method") (hdt:o.data=.fields #[.builtin "dict.get",.ref d])
  (hd:s.heap.get? d=some od) (hcd:od.cls=.type "dict") {es:Array DictEntry} {ep:Nat} (hdd:od.data=.dict es ep)
  (h:codeAny (model prog w) A (.builtin "dict.get" ⟨[.ref d,k],[]⟩) R s):codeAny (model prog w) A (.call (.ref b) ⟨[k],[]⟩) R s:=by
 refine cps fun zP zk=>?_;(rcases o with ⟨c,dct,dat,sl⟩)<;>(refine zk ?_;clear zk zP)
 simp only at hc hdt
 subst hc hdt
 refine cps fun zP zk=>?_;(rcases od with ⟨c,dct',dat',sl'⟩)<;>(refine zk ?_;clear zk zP)
 simp only at hcd hdd
 subst hcd hdd
 refine cps fun zP zk=>?_;(rcases s with ⟨hp,g,dr,t,os⟩)<;>(refine zk ?_;clear zk zP)
 have hT:(⟨hp,g,dr,t,os⟩:Shared).TypeIs (.ref d) "dict":=⟨_,hd,rfl⟩
 have f1:isSubtype (.type "dict") (.type "module")=pure false:=by rw [isSubtype_type];kernel_rfl
 have f2:isSubtype (.type "dict") (.type "type")=pure false:=by rw [isSubtype_type];kernel_rfl
 refine codeAny_of_tree ?_
 show wpAny _ _ (callAny (.ref b) _) _ _ _
 dsimp only at ho hd
 refine nd_load ho ?_
 show wpAny _ _ (checkBoundCall "dict.get" ⟨[.ref d,k],[]⟩ >>= fun zu=>_) _ _ _
 unfold checkBoundCall
 repeat (any_goals (first|assumption|k_node|wp_step))
 exact ⟨rfl,h⟩
end
section
variable {C:Cf} {A:Around} {E:Value→Shared→Prop} {env:Env} {σ:Am} {F G:FH} {s:Shared}
noncomputable def BC (d:Addr):AO:=.fields "builtin_function_or_method" [.val (.builtin "dict.get"),.ref d]
theorem OR.dictObj {gens:Array GenState} {l:List (As×AV)} {ep:Nat} {o:Obj} (r:OR C F gens (.dict l ep) o):o.cls=.type "dict"∧o.dict=none∧∃es,o.data=.dict es ep:=by
 have h:=OR.clsD F gens o r
 (refine OR.dictC r fun zv zv a b zv zv zv zv=>?_;clear r)
 exact ⟨h.1,h.2,_,b⟩
theorem Np {a:Addr} {l:List (As×AV)} {ep:Nat} {Q:AV→List AV→Am→Prop} (hd:σ.hp a=some (.dict l ep)) (h:Q (.val (.builtin "dict.get")) [.ref a] σ):Dx C A E env (.ref a) "get" σ Q:=
 Be hd OR.clsD F.plainAttrs_dict F.slot_dict_get F.type_dict_get h
theorem II {l:List (As×AV)} {kvs:List (As×Value)} (sv:SV F l kvs) (k:As):VR F ((DA l k).getD .none) ((valueAt kvs k).getD .none):=by
 rcases sv.at k with ⟨x,v,h1,h2,h3⟩|⟨h1,h2⟩
 ·rw [h1,h2];exact h3
 ·rw [h1,h2];exact .none
theorem KM (hs:(C.h0.get? sysModules).isSome=true) {d:Addr} {l:List (As×AV)} {ep:Nat} {k:As} {Q:AV→Am→Prop} (hd:σ.hp d=some (.dict l ep)) (h:Q ((DA l k).getD .none) σ) :
  Bo C A E env (.val (.builtin "dict.get")) [.ref d] [k.av] [] σ Q:=by
 refine A4 fun F G s us vs hR hus hvs=>?_
 obtain rfl:us=[Value.ref d]:=by refine VRs.consC hus fun zv zw zo q r=>?_;clear hus;subst zo;(have zc:=VR.refI q;clear q;subst zc);(have zc:=VRs.nilI r;clear r;subst zc);rfl
 refine VRs.consC hvs fun zv zw zo q r=>?_;clear hvs;subst zo
 (have zc:=VRs.nilI r;clear r;subst zc)
 refine xa1_2 (hR.dictOf hd) ?_;intro kvs hm sv
 exact call_meetsIn PySem.F.slot_dict_get hm.typeIs PySem.F.entry_dict_get (PySem.F.args_dict_get_2 _ _) (meets_dict_get (Bh C.prog C.w) d (As.is_of q) (hR.low hd hs)) ⟨_,BZ hm,Av.of (II sv k) (hR.tok _) h⟩
theorem Jv {d:Addr} {l:List (As×AV)} {ep:Nat} {Q:AV→Am→Prop} (hd:σ.hp d=some (.dict l ep)) (h:∀b,σ.hp b=none→Q (.ref b) (σ.put b (BC d))) :
  GE C A E env VR (fun v=>getAttr v "get" true) (.ref d) σ Q:=by
 intro F G s v hR hv
 (have zc:=VR.refI hv;clear hv;subst zc)
 refine cps fun zP zk=>?_;(rcases hR.wd.ob _ _ hd with ⟨zu,zu,o,ho,r⟩)<;>(refine zk ?_;clear zk zP)
 refine cps fun zP zk=>?_;(rcases r.dictObj with ⟨h1,h2,es,h3⟩)<;>(refine zk ?_;clear zk zP)
 refine Er ho h1 h3 h2 ?_
 exact Av.of (.ref _) (hR.alloc (t:=s.toks+1) rfl rfl (.fields (us:=[.builtin "dict.get",.ref d]) rfl rfl rfl rfl (.cons (.val _) (.cons (.ref d) .nil)))) (h _ hR.lt)
theorem Go (hs:(C.h0.get? sysModules).isSome=true) {b d:Addr} {l:List (As×AV)} {ep:Nat} {k:As} {Q:AV→Am→Prop} (hb:σ.hp b=some (BC d)) (hd:σ.hp d=some (.dict l ep)) (h:Q ((DA l k).getD .none) σ) :
  Bo C A E env (.ref b) [] [k.av] [] σ Q:=by
 intro F G s fv us vs kvs hR hf hus hvs hk
 (have zc:=VR.refI hf;clear hf;subst zc);(have zc:=VRs.nilI hus;clear hus;subst zc);cases hk
 refine VRs.consC hvs fun zv zw zo q r=>?_;clear hvs;subst zo
 (have zc:=VRs.nilI r;clear r;subst zc)
 refine cps fun zP zk=>?_;(rcases hR.wd.ob _ _ hb with ⟨zu,zu,o,ho,r⟩)<;>(refine zk ?_;clear zk zP)
 refine cps fun zP zk=>?_;(rcases hR.wd.ob _ _ hd with ⟨zu,zu,od,hod,rd⟩)<;>(refine zk ?_;clear zk zP)
 refine xa1_2 (hR.dictOf hd) ?_;intro kvs hm sv
 refine cps fun zP zk=>?_;(rcases rd.dictObj with ⟨h1,h2,es,h3⟩)<;>(refine zk ?_;clear zk zP)
 (refine OR.fieldsC r fun us r1 r2 r3 r4 r5=>?_;clear r)
 refine VRs.consC r5 fun zv zw zo a1 r5_a=>?_;clear r5;subst zo
 refine VRs.consC r5_a fun zv zw zo a2 r5_b=>?_;clear r5_a;subst zo
 (have zc:=VRs.nilI r5_b;clear r5_b;subst zc);(have zc:=VR.valI a1;clear a1;subst zc);(have zc:=VR.refI a2;clear a2;subst zc)
 refine ⟨⟨.machine,?_⟩,?_⟩
 ·refine cps fun zP zk=>?_;(rcases o with ⟨c,dct,dat,sl⟩)<;>(refine zk ?_;clear zk zP)
  dsimp only at r1 r2 r3 r4
  subst r1 r2 r3 r4
  exact (Looks.ld ho).andThen (Looks.of_pure rfl)
 ·refine wpAny_call (Fq ho r1 r4 hod h1 h3 ?_)
  have key:∀R':Result→Shared→Prop,R' (.ok (.ret ((valueAt kvs k).getD .none))) { s with toks:=s.toks+1 }→codeAny (model C.prog C.w) A (.builtin "dict.get" ⟨[.ref d,_],[]⟩) R' s:=fun R' h'=>
   codeAny_builtin PySem.F.entry_dict_get (by
    rw [Around.under_plainId (show plainId "dict.get" = true by decide +kernel)]
    exact meets_dict_get (Bh C.prog C.w) d (As.is_of q) (hR.low hd hs) A R' s ⟨_,BZ hm,h'⟩)
  exact key _ (Av.of (II sv k) (hR.tok _) h)
end
end
section
noncomputable abbrev Aw (r:FdRest) (L:Addr):Env:=callEnv (r.fd Hl .none) L 94
variable {C:Cf} {A:Around} {s:Shared} {env:Env} {σ:Am} {F G:FH} {hp:HP}
noncomputable def NL:Pos:=⟨0,0,0,0⟩
noncomputable def Hn:List Stmt→Expr×List Stmt
 |.For t _ b _ _::_=>(t,b)
 |_=>(.Name "x" NL,[])
noncomputable def Kz:List Stmt→List Stmt
 |[.If _ b _ _]=>b
 |_::r=>Kz r
 |[]=>[]
noncomputable def Fd:Expr×List Stmt:=Hn (Hl.body.drop 3)
noncomputable def Hj:Expr×List Stmt:=Hn (Kz Fd.2)
noncomputable def Dl (env:Env) (ea:Addr):Code:=.forLoop Fd.1 (.ref ea) Fd.2 [] env
noncomputable def C2 (env:Env) (ja:Addr):Code:=.forLoop Hj.1 (.ref ja) Hj.2 [] env
noncomputable def EG (env:Env):Code:=.func Hl.body env
noncomputable def EW (n:Int):AV→AV
 |.tup [v,.int len]=>.tup [v,.int (n - len)]
 |x=>x
theorem GV {key:Aj→Option AV} {x:AV}:∀{p:Aj},x∈outs key p→∃v len,x=.tup [v,.int len]
 |[],h=>by simp [outs] at h
 |c::p,h=>by
  simp only [outs,List.mem_append] at h
  rcases h with h|h
  ·split at h
   ·simp at h;exact ⟨_,_,h⟩
   ·simp at h
  ·exact GV h
noncomputable def B1 (key:Aj→Option AV) (u:Aj):Aj→List AV
 |[]=>[]
 |c::r=>(outs key (u++[c])).map (EW (u++[c]).length)++B1 key (u++[c]) r
noncomputable def DI (key:Aj→Option AV) (u:Aj) (k:Nat) (rest:Aj):List AV:=((outs key u).drop k).map (EW u.length)++B1 key u rest
theorem Rp.around {A':Around} (hR:Rp C A F G env σ s) (h:FP A' G env):Rp C A' F G env σ s:=⟨hR.wd,hR.fm,h⟩
noncomputable def Nb (env:Env) (f:Frame):Prop:=∃kf l p,f=.ret kf none false l (EG env) p []∧kf (.ok .next)=.pure (.done (.ret .none))
noncomputable def N8 (env:Env) (ea:Addr) (f:Frame):Prop:=∃kf l p,f=.ret kf none false l (Dl env ea) p []∧kf (.ok .next)=.pure (.again (Dl env ea))
theorem Kg (A:Around) {ea:Addr} {f:Frame} (h:Nb env f):(A.over (Dl env ea) [f]).handled=A.handled∧(A.over (Dl env ea) [f]).depth=A.depth+1∧(A.over (Dl env ea) [f]).frames=A.frames.map (env::·):=by
 refine xa3_2 h ?_;(try clear h);intro kf l p;rintro rfl;intro zu
 refine ⟨rfl,?_,?_⟩
 ·rfl
 ·refine cps fun zP zk=>?_;(rcases A with ⟨hd,dp,fr,gu,un⟩)<;>(refine zk ?_;clear zk zP);cases fr<;>rfl
theorem I6 (A:Around) {ea ja:Addr} {f f':Frame} (h1:N8 env ea f) (h:Nb env f'):(A.over (C2 env ja) [f,f']).handled=A.handled∧(A.over (C2 env ja) [f,f']).depth=A.depth+1∧(A.over (C2 env ja) [f,f']).frames=A.frames.map (env::·):=by
 refine xa3_2 h ?_;(try clear h);intro kf l p;rintro rfl;intro zu
 refine xa3_2 h1 ?_;(try clear h1);intro kf1 l1 p1;rintro rfl;intro zu
 refine ⟨rfl,?_,?_⟩
 ·rfl
 ·refine cps fun zP zk=>?_;(rcases A with ⟨hd,dp,fr,gu,un⟩)<;>(refine zk ?_;clear zk zP);cases fr<;>rfl
theorem Nn (A:Around):(A.over (EG env) []).handled=A.handled∧(A.over (EG env) []).depth=A.depth+1∧(A.over (EG env) []).frames=A.frames.map (env::·):=by
 refine ⟨rfl,?_,?_⟩
 ·rfl
 ·refine cps fun zP zk=>?_;(rcases A with ⟨hd,dp,fr,gu,un⟩)<;>(refine zk ?_;clear zk zP);cases fr<;>rfl
theorem FP.mk {A':Around} (h:A'.frames=A.frames.map (env::·)) (hf:Fs A G) (hk:env.scope.kind=.function) (hl:env.frame=some env.locals):FP A' G env:=by
 refine xa1_2 hf ?_;(try clear hf);intro l h1 h2
 exact ⟨env,l,by rw [h,h1];rfl,by rw [hk];decide,rfl,.inl ⟨rfl,hl⟩,h2⟩
noncomputable def Ny (C:Cf) (env:Env) (ea ja:Addr) (gs:GenState):Prop:=
 ∃k l p f1 f2,gs=.suspended k l (C2 env ja) p [f1,f2] false∧N8 env ea f1∧Nb env f2 ∧
  ∀A s P,SegX (model C.prog C.w) A (C2 env ja) (.pure (.again (C2 env ja))) [f1,f2] s P→SegX (model C.prog C.w) A (C2 env ja) (k (.send .none)) [f1,f2] s P
structure Me (C:Cf) (X:Ad) (env:Env) (hp:HP) (ga ea ia ba ja:Addr) (g:Nat) (u:Aj) (k:Nat) (rest:Aj):Prop where
 gen:∃gs,hp ga=some (.gen g gs)∧Ny C env ea ja gs
 frm:hp env.locals=some (.frame [("zero_state",.ref (X.A [])),("zero_transitions_get",.ref ba),("current_state",.ref (X.A (BG X.D u))),("idx",.int ((u.length:Int) - 1))])
 bnd:hp ba=some (BC (X.T []))
 enm:∃old,hp ea=some (AI ia u.length old)
 src:DY ia u.length (rest.map As.av) hp
 itr:hp ja=some (.itr "tuple_iterator" [.tup (outs X.key u),.val (.int k 0)])
 nji:ja≠ia
noncomputable def FB (C:Cf) (X:Ad) (env:Env) (G F₀:FH) (hp₀:HP) (ga ea ia ba jx:Addr) (g:Nat) (rem:List AV) (e:End) (s':Shared):Prop:=
 ∃F' hp',A6 F₀ F'∧Wd C F' G hp' (s'.setGen g e.genState)∧(∀a,hp₀ a≠none→a≠ga→a≠ea→a≠ia→a≠env.locals→a≠jx→hp' a=hp₀ a) ∧
  match rem with
  |[]=>e=.ret (.ok (.ret .none))
  |y::ys=>∃v u k rest ja,e.result=.yielded v∧VR F' y v∧Me C X env hp' ga ea ia ba ja g u k rest∧ys=DI X.key u k rest∧(hp₀ ja=none∨ja=jx)
theorem JH (T:Tp C) {r:FdRest} {L:Addr} {X:Ad} {t d:Addr} {ci:Bool} {ba:Addr} {u:Aj} {c:As} (hX:X.Ph3) (hr:AJ X t d true ci σ.hp) (hb:σ.hp ba=some (BC (X.T [])))
  (l1:σ.v "zero_state" = some (.ref (X.A []))) (l2:σ.v "zero_transitions_get" = some (.ref ba)) (l3:σ.v "current_state" = some (.ref (X.A (BG X.D u)))) (l4:σ.v "symbol" = some c.av)
  {Q:A5→Am→Prop} {st:Stmt} (hst:Fd.2.head? = some st)
  (h1:∀σ',σ'.hp=σ.hp→σ'.v "zero_state" = some (.ref (X.A []))→σ'.v "zero_transitions_get" = some (.ref ba)→σ'.v "idx" = σ.v "idx"→σ'.v "current_state" = some (.ref (X.A []))→BG X.D (u++[c])=[]→Q .cont σ')
  (h2:∀σ',σ'.hp=σ.hp→σ'.v "zero_state" = some (.ref (X.A []))→σ'.v "zero_transitions_get" = some (.ref ba)→σ'.v "idx" = σ.v "idx"→σ'.v "next_state" = some (.ref (X.A (BG X.D (u++[c]))))→Q .next σ') :
  Ex C A Bz (Aw r L) st σ Q:=by
 have hw:=hX.wf
 have hpD:=Cb hw.pc u
 have hroot:=hX.dn [] hw.root
 refine xa1_1 (hr.td [] hw.root) ?_;intro ep0 ht0
 have hz:DA (X.trv []) c=(Bq X.D [] c).map fun q=>.ref (X.A q):=by rw [Ad.at_trv,hroot.2 c]
 have hsuf:BG X.D (u++[c])=BG X.D (BG X.D u++[c]):=Ix hw.pc u c
 generalize hp:BG X.D u=p at *
 (have zc:=Option.some.inj hst;clear hst;subst zc)
 refine Bc (Bg (Ab l3 (Ab l1 (LB hr hpD hw.root ⟨_,rfl,?_⟩))))
 by_cases h0:p=[]
 ·subst h0
  simp only [decide_true,if_true]
  refine Aa (Ai (B7 (Ab l2 (AM (Ab l4 (A3 (AF (Go T.sysm hb ht0 ?_))))))))
  rw [hz]
  cases hf:Bq X.D [] c with
  |none=>
   refine Aa (Bc (Bg (Ab Au (Bv (BW ⟨_,rfl,?_⟩)))))
   simp only [if_true]
   exact Aa (ED (h1 _ rfl (Ah l1) (Ah l2) (Ah rfl) (Ah l3) (by rw [hsuf];exact Hc hf)))
  |some q=>
   refine Aa (Bc (Bg (Ab Au (Bv (EI ⟨_,rfl⟩ ⟨_,rfl,?_⟩)))))
   refine Al (Al (h2 _ rfl (Ah l1) (Ah l2) (Ah rfl) ?_))
   rw [hsuf,G4 hf];exact Au
 ·simp only [h0,decide_false]
  refine xa1_1 (hr.td p hpD) ?_;intro ep htp
  have hat:DA (X.trv p) c=(Bq X.D p c).map fun q=>.ref (X.A q):=by rw [Ad.at_trv,(hX.dn p hpD).2 c]
  refine Aa (Ai (A7 (Ap (Ab l3 (Dr T hr hpD (Np htp (AM (Ab l4 (A3 (AF (KM T.sysm htp ?_)))))))))))
  rw [hat]
  cases hf:Bq X.D p c with
  |some q=>
   refine Aa (Bc (Bg (Ab Au (Bv (EI ⟨_,rfl⟩ ⟨_,rfl,?_⟩)))))
   refine Al (Al (h2 _ rfl (Ah l1) (Ah l2) (Ah rfl) ?_))
   rw [hsuf,G4 hf];exact Au
  |none=>
   refine Aa (Bc (Bg (Ab Au (Bv (BW ⟨_,rfl,?_⟩)))))
   simp only [if_true]
   refine Aa (Ai (B7 (Ab (Ah l2) (AM (Ab (Ah l4) (A3 (AF (Go T.sysm hb ht0 ?_))))))))
   rw [hz]
   have hN:BK X.D p c=none:=by simpa [Bq,h0] using hf
   cases hg:Bq X.D [] c with
   |none=>
    refine Aa (Bc (Bg (Ab Au (Bv (BW ⟨_,rfl,?_⟩)))))
    simp only [if_true]
    refine Aa (Ai (Ab (Ah (Ah l1)) ?_))
    have:[c]∉X.D:=by
     intro hm
     simp [Bq,D3,hm] at hg
    exact Aa (ED (h1 _ rfl (Ah (Ah (Ah l1))) (Ah (Ah (Ah l2))) (Ah (Ah (Ah rfl))) Au (by rw [hsuf,B4,hN];simp [this])))
   |some q=>
    have hm:[c]∈X.D∧q=[c]:=by
     simp only [Bq,D3,if_true,List.nil_append] at hg
     split at hg
     ·(have zc:=Option.some.inj hg;clear hg;subst zc);rename_i hm;exact ⟨hm,rfl⟩
     ·exact Ak hg
    refine Aa (Bc (Bg (Ab Au (Bv (EI ⟨_,rfl⟩ ⟨_,rfl,?_⟩)))))
    refine Al (Al (Al (h2 _ rfl (Ah (Ah l1)) (Ah (Ah l2)) (Ah (Ah rfl)) ?_)))
    rw [hsuf,B4,hN,Option.getD_none,if_pos hm.1,hm.2];exact Au
theorem DY.keep {ia:Addr} {i:Nat} {rest:List AV} {hp':HP} (h:DY ia i rest hp) (e:hp' ia=hp ia) (k:∀l zs,hp l=some (.list zs)→hp' l=some (.list zs)):DY ia i rest hp':=by
 cases h with
 |tup a b=>exact .tup (e.trans a) b
 |lst a b=>exact .lst (e.trans a) b
 |list a b c=>exact .list (e.trans a) (k _ _ b) c
 |str a b=>exact .str (e.trans a) b
theorem Fj:∀{l:List (Str×AV)} {x:Str} {v:AV},l.lookup x=some v→(x,v)∈l
 |[],_,_,h=>by exact Ak h
 |(y,u)::l,x,v,h=>by
  simp only [List.lookup] at h
  split at h
  ·rename_i q;(have zc:=Option.some.inj h;clear h;subst zc);rw [beq_iff_eq.mp q];exact List.mem_cons_self ..
  ·exact List.mem_cons_of_mem _ (Fj h)
theorem Je {key:Aj→Option AV} {u:Aj} {k:Nat} {rest:Aj} {x:AV} (h:(outs key u)[k]? = some x):DI key u k rest=EW u.length x::DI key u (k+1) rest:=by
 refine xa1_1 (List.getElem?_eq_some_iff.mp h) ?_;intro hlt;rintro rfl
 simp only [DI]
 rw [List.drop_eq_getElem_cons hlt];rfl
theorem Ge:∃p1 p2 tn tp b,Hj=(Expr.Tuple [.Name "keyword" p1,.Name "keyword_length" p2] tn tp,b):=⟨_,_,_,_,_,rfl⟩
theorem FY:∃p1 p2 tn tp b,Fd=(Expr.Tuple [.Name "idx" p1,.Name "symbol" p2] tn tp,b):=⟨_,_,_,_,_,rfl⟩
structure NI (X:Ad) (t d:Addr) (ci:Bool) (env:Env) (hp₀:HP) (ga ea ia ba jx:Addr) (g:Nat) (u rest:Aj) (σ:Am):Prop where
 rep:AJ X t d true ci σ.hp
 gen:σ.hp ga=some (.gen g .running)
 bnd:σ.hp ba=some (BC (X.T []))
 enm:∃old,σ.hp ea=some (AI ia u.length old)
 src:DY ia u.length (rest.map As.av) σ.hp
 l1:σ.v "zero_state" = some (.ref (X.A []))
 l2:σ.v "zero_transitions_get" = some (.ref ba)
 l3:σ.v "current_state" = some (.ref (X.A (BG X.D u)))
 fr:∀a,hp₀ a≠none→a≠ga→a≠ea→a≠ia→a≠env.locals→a≠jx→σ.hp a=hp₀ a
theorem Gf (T:Tp C) {r:FdRest} {L:Addr} {X:Ad} {t d:Addr} {ci:Bool} {hp₀:HP} {F₀:FH} {ga ea ia ba ja jx:Addr} {g:Nat} {u rest:Aj} {k:Nat} {x:AV} {f1 f2:Frame} (hA:A.handled=none)
  (hf1:N8 (Aw r L) ea f1) (hf2:Nb (Aw r L) f2) (e₀:A6 F₀ F) (hR:Rp C (A.over (C2 (Aw r L) ja) [f1,f2]) F G (Aw r L) σ s)
  (I:NI X t d ci (Aw r L) hp₀ ga ea ia ba jx g u rest σ) (hi:σ.v "idx" = some (.int ((u.length:Int) - 1))) (hja:σ.hp ja=some (.itr "tuple_iterator" [.tup (outs X.key u),.val (.int k 0)])) (hx:(outs X.key u)[k]? = some x) (hj0:hp₀ ja=none∨ja=jx) (hji:ja≠ia) :
  SegX (model C.prog C.w) A (C2 (Aw r L) ja) (denote table (C2 (Aw r L) ja)) [f1,f2] s (FB C X (Aw r L) G F₀ hp₀ ga ea ia ba jx g (DI X.key u k rest)):=by
 refine xa0_3 (I6 (env:=Aw r L) (ea:=ea) (ja:=ja) A hf1 hf2) ?_;intro o1 o2 o3
 have hA':(A.over (C2 (Aw r L) ja) [f1,f2]).handled=none:=o1.trans hA
 refine xa2_1 (GV (List.mem_of_getElem? hx)) ?_;intro v len;rintro rfl
 refine xa5_1 Ge ?_;(try clear Ge);intro p1 p2 tn tp b hsh
 have hlt:∀it v,letOwnedTupleGo Hj.1 it v=letOwnedTupleGo (.Tuple [.Name "keyword" p1,.Name "keyword_length" p2] tn tp) it v:=fun zu zu=>by rw [hsh]
 have has:∀env v,assign Hj.1 env v=assign (.Tuple [.Name "keyword" p1,.Name "keyword_length" p2] tn tp) env v:=fun zu zu=>by rw [hsh]
 refine Cy (wpAny_mono (HC (elts:=[.Name "keyword" p1,.Name "keyword_length" p2]) (tn:=tn) (tpos:=tp) hA' hR hja hx) (fun res s₁ z=>?_) fun zu zu x=>x.elim)
 refine xa1_2 z ?_;(try clear z);intro pv;rintro rfl;intro z
 dsimp only
 rw [hlt]
 refine wpAny_mono z (fun zu s₂ z=>?_) fun zu zu x=>x.elim
 refine xa0_2 z ?_;(try clear z);intro hpv hR2
 rw [has]
 have hasg:Iu C (A.over (C2 (Aw r L) ja) [f1,f2]) (Aw r L) (.Tuple [.Name "keyword" p1,.Name "keyword_length" p2] tn tp) (.tup [v,.int len]) (σ.put ja (.itr "tuple_iterator" [.tup (outs X.key u),.val (.int (k+1:Nat) 0)]))
  (fun σ'=>σ'=(Am.set (Am.set (σ.put ja (.itr "tuple_iterator" [.tup (outs X.key u),.val (.int (k+1:Nat) 0)])) "keyword" v) "keyword_length" (.int len))):=FG hA' rfl
 refine wpAny_mono (hasg F G s₂ pv hR2 hpv) (fun zu s₃ z=>?_) fun zu zu x=>x.elim
 refine xa2_3 z ?_;(try clear z);intro F3 σ3 e3 hR3;rintro rfl
 have hgl:ga≠L:=Cn I.gen (show σ.hp L=none from hR.fm.lo.2.2)
 have hsplit:splitAtGen [f1,f2]=none:=by
  refine xa3_2 hf2 ?_;(try clear hf2);intro kf l p;rintro rfl;intro zu
  refine xa3_2 hf1 ?_;(try clear hf1);intro kf1 l1 p1;rintro rfl;intro zu
  rfl
 have hgd:[f1,f2].any Frame.guarded=false:=by
  refine xa3_2 hf2 ?_;(try clear hf2);intro kf l p;rintro rfl;intro zu
  refine xa3_2 hf1 ?_;(try clear hf1);intro kf1 l1 p1;rintro rfl;intro zu
  rfl
 have hσ3:NI X t d ci (Aw r L) hp₀ ga ea ia ba jx g u rest (Am.set (Am.set (σ.put ja (.itr "tuple_iterator" [.tup (outs X.key u),.val (.int (k+1:Nat) 0)])) "keyword" v) "keyword_length" (.int len)):=by
  have hne:∀{a y},σ.hp a=some y→(∀c vs,y≠.itr c vs)→a≠ja:=fun e h=>by rintro rfl;rw [hja] at e;(have zc:=Option.some.inj e;clear e;subst zc);exact h _ _ rfl
  have hjF:¬Fp X t d ja:=fun hF=>by
   rcases hF with e|e|⟨p,hp,e|e⟩
   ·rw [e,I.rep.tree] at hja;exact AO.noConfusion (Option.some.inj hja)
   ·rw [e,I.rep.ns] at hja;exact AO.noConfusion (Option.some.inj hja)
   ·rw [e,I.rep.nd p hp] at hja;exact AO.noConfusion (Option.some.inj hja)
   ·refine xa1_1 (I.rep.td p hp) ?_;intro ep q
    rw [e,q] at hja;exact AO.noConfusion (Option.some.inj hja)
  refine xa1_1 I.enm ?_;intro old he
  refine ⟨I.rep.updOff hjF,?_,?_,⟨old,?_⟩,?_,Ah (Ah I.l1),Ah (Ah I.l2),Ah (Ah I.l3),?_⟩
  ·exact (Ac _ _ (hne I.gen (by simp))).trans I.gen
  ·exact (Ac _ _ (hne I.bnd (by simp [BC]))).trans I.bnd
  ·exact (Ac _ _ (hne he (by simp [AI]))).trans he
  ·refine xa2_1 I.src.at ?_;intro ci' vs' hia
   exact I.src.keep (Ac _ _ hji.symm) (fun l zs hl=>(Ac _ _ (hne hl (by simp))).trans hl)
  ·intro a h1 h2 h3 h4 h5 h6
   have:a≠ja:=by
    rintro rfl
    rcases hj0 with q|q
    ·exact h1 q
    ·exact h6 q
   exact (Ac _ _ this).trans (I.fr a h1 h2 h3 h4 h5 h6)
 refine BF (JV (Q:=fun a σ'=>a=.tup [v,.int ((u.length:Int) - len)]∧σ'=(Am.set (Am.set (σ.put ja (.itr "tuple_iterator" [.tup (outs X.key u),.val (.int (k+1:Nat) 0)])) "keyword" v) "keyword_length" (.int len))) hsplit rfl hgd ?_ hR3 ?_)
 ·refine FF (AM (Ab (Ah Au) (AM (Lv (Lv (Ab (Ah (Ah hi)) (FE (LN (Ab Au (LM (A3 ⟨by simp,?_,rfl⟩)))))))))))
  rw [show (u.length:Int) - 1+1 - len=u.length - len by omega]
 rintro F4 a σ4 vy s4 e4 hvy hR4 ⟨rfl,rfl⟩ kf l p hk
 have W1:=hR4.susp (loc:=[("zero_state",.ref (X.A [])),("zero_transitions_get",.ref ba),("current_state",.ref (X.A (BG X.D u))),("idx",.int ((u.length:Int) - 1))]) (fun x av hx=>by
  have:=Fj hx
  simp only [List.mem_cons,Prod.mk.injEq,List.not_mem_nil,or_false] at this
  rcases this with ⟨rfl,rfl⟩|⟨rfl,rfl⟩|⟨rfl,rfl⟩|⟨rfl,rfl⟩
  ·exact ⟨hσ3.l1,by rfl⟩
  ·exact ⟨hσ3.l2,by rfl⟩
  ·exact ⟨hσ3.l3,by rfl⟩
  ·exact ⟨Ah (Ah hi),by rfl⟩)
 have hge:(End.susp vy false l kf (C2 (Aw r L) ja) p [f1,f2]).genState=.suspended kf l (C2 (Aw r L) ja) p [f1,f2] false:=by
  simp only [End.genState,hgd,Bool.or_false]
 have W2:=W1.setGen (ga:=ga) (g:=g) (gs':=.suspended kf l (C2 (Aw r L) ja) p [f1,f2] false) ((Ac _ _ hgl).trans hσ3.gen) rfl
 have hLn:∀{a y},(Am.set (Am.set (σ.put ja (.itr "tuple_iterator" [.tup (outs X.key u),.val (.int (k+1:Nat) 0)])) "keyword" v) "keyword_length" (.int len)).hp a=some y→a≠L:=fun e=>Cn e (show _=none from hR3.fm.lo.2.2)
 refine ⟨F4,_,e₀.trans (e3.trans e4),(congrArg (fun z=>Wd C F4 G _ (s4.setGen g z)) hge).mpr W2,?_,?_⟩
 ·intro a h1 h2 h3 h4 h5 h6
  rw [Ac _ _ h2,Ac _ _ h5]
  exact hσ3.fr a h1 h2 h3 h4 h5 h6
 ·rw [Je hx]
  refine ⟨vy,u,k+1,rest,ja,rfl,hvy,⟨⟨_,Ae _ _ _,kf,l,p,f1,f2,rfl,hf1,hf2,hk⟩,?_,?_,?_,?_,?_,hji⟩,rfl,hj0⟩
  ·exact (Ac _ _ hgl.symm).trans (Ae _ _ _)
  ·have h1:ba≠ga:=by rintro rfl;have:=hσ3.bnd;rw [hσ3.gen] at this;exact AO.noConfusion (Option.some.inj this)
   exact (Ac _ _ h1).trans ((Ac _ _ (hLn hσ3.bnd)).trans hσ3.bnd)
  ·refine xa1_1 hσ3.enm ?_;intro old he
   have h1:ea≠ga:=by rintro rfl;rw [hσ3.gen] at he;exact AO.noConfusion (Option.some.inj he)
   exact ⟨old,(Ac _ _ h1).trans ((Ac _ _ (hLn he)).trans he)⟩
  ·refine xa2_1 hσ3.src.at ?_;intro c' vs' hia
   have h1:ia≠ga:=by rintro rfl;rw [hσ3.gen] at hia;exact AO.noConfusion (Option.some.inj hia)
   refine hσ3.src.keep ((Ac _ _ h1).trans (Ac _ _ (hLn hia))) (fun l zs hl=>?_)
   have h2:l≠ga:=by rintro rfl;rw [hσ3.gen] at hl;exact AO.noConfusion (Option.some.inj hl)
   exact (Ac _ _ h2).trans ((Ac _ _ (hLn hl)).trans hl)
  ·have hj:(Am.set (Am.set (σ.put ja (.itr "tuple_iterator" [.tup (outs X.key u),.val (.int (k+1:Nat) 0)])) "keyword" v) "keyword_length" (.int len)).hp ja=some (.itr "tuple_iterator" [.tup (outs X.key u),.val (.int (k+1:Nat) 0)]):=Ae _ _ _
   have h1:ja≠ga:=by rintro rfl;rw [hσ3.gen] at hj;exact AO.noConfusion (Option.some.inj hj)
   exact (Ac _ _ h1).trans ((Ac _ _ (hLn hj)).trans hj)
end
section
variable {C:Cf} {A:Around} {s:Shared} {σ:Am} {F G:FH}
theorem Gg (T:Tp C) {r:FdRest} {L:Addr} {X:Ad} {t d:Addr} {ci:Bool} {hp₀:HP} {F₀:FH} {ga ea ia ba jx:Addr} {g:Nat} {f2:Frame} (hA:A.handled=none) (hFs:Fs A G) (hX:X.Ph3) (hz:∀p∈X.D,p.length≤1000)
  (hf2:Nb (Aw r L) f2):∀(rest u:Aj) (F:FH) (σ:Am) (s:Shared),A6 F₀ F→Rp C (A.over (Dl (Aw r L) ea) [f2]) F G (Aw r L) σ s →
  NI X t d ci (Aw r L) hp₀ ga ea ia ba jx g u rest σ →
  SegX (model C.prog C.w) A (Dl (Aw r L) ea) (denote table (Dl (Aw r L) ea)) [f2] s (FB C X (Aw r L) G F₀ hp₀ ga ea ia ba jx g (B1 X.key u rest)):=by
 refine xa0_3 (Kg (env:=Aw r L) (ea:=ea) A hf2) ?_;intro o1 o2 o3
 have hA':(A.over (Dl (Aw r L) ea) [f2]).handled=none:=o1.trans hA
 have hfsO:FP (A.over (Dl (Aw r L) ea) [f2]) G (Aw r L):=FP.mk o3 hFs (by rfl) (by rfl)
 refine xa5_1 FY ?_;(try clear FY);intro p1 p2 tn tp b hsh
 have hlt:∀it v,letOwnedTupleGo Fd.1 it v=letOwnedTupleGo (.Tuple [.Name "idx" p1,.Name "symbol" p2] tn tp) it v:=fun zu zu=>by rw [hsh]
 have has:∀env v,assign Fd.1 env v=assign (.Tuple [.Name "idx" p1,.Name "symbol" p2] tn tp) env v:=fun zu zu=>by rw [hsh]
 intro rest
 induction rest with
 |nil=>
  intro u F σ s e₀ hR I
  refine xa1_1 I.enm ?_;intro old he
  refine Cy (wpAny_mono (KK hA' hR he I.src) (fun res s₁ z=>?_) fun zu zu x=>x.elim)
  refine xa0_2 z ?_;(try clear z);rintro rfl;intro hR1
  refine xa2_1 I.src.at ?_;intro ci' vi' hia
  have hgi:ga≠ia:=by rintro rfl;rw [I.gen] at hia;exact AO.noConfusion (Option.some.inj hia)
  refine xa3_2 hf2 ?_;(try clear hf2);intro kf l p;rintro rfl;intro hk
  refine s_pop C.prog C.w A _ [] _ s₁ (.ok .next) _ rfl kf none false l _ p [] ?_
  rw [hk]
  refine s_end C.prog C.w A _ _ s₁ (.ok (.ret .none)) _ rfl ?_
  refine ⟨F,_,e₀,hR1.wd.setGen (ga:=ga) (g:=g) (gs':=.finished) (show (if ga∈[ia] then none else σ.hp ga)=_ by rw [if_neg (by simpa using hgi)];exact I.gen) rfl,?_,rfl⟩
  intro a h1 h2 h3 h4 h5 h6
  rw [Ac _ _ h2]
  show (if a∈[ia] then none else σ.hp a)=_
  rw [if_neg (by simpa using h4)]
  exact I.fr a h1 h2 h3 h4 h5 h6
 |cons c rest ih=>
  intro u F σ s e₀ hR I
  refine xa1_1 I.enm ?_;intro old he
  refine xa2_1 I.src.at ?_;intro ci' vi' hia
  have hgi:ga≠ia:=by rintro rfl;rw [I.gen] at hia;exact AO.noConfusion (Option.some.inj hia)
  have hge:ga≠ea:=by rintro rfl;rw [I.gen] at he;exact AO.noConfusion (Option.some.inj he)
  have hbe:ba≠ea:=by rintro rfl;have:=I.bnd;rw [he] at this;simp [AI,BC] at this
  have hbi:ba≠ia:=by rintro rfl;have:=I.bnd;rw [hia] at this;exact AO.noConfusion (Option.some.inj this)
  have hul:(u++[c]).length=u.length+1:=by simp
  refine Cy (wpAny_mono (J1 (elts:=[.Name "idx" p1,.Name "symbol" p2]) (tn:=tn) (tpos:=tp) hA' hR he (x:=c.av) (rest:=rest.map As.av) I.src) (fun res s₁ z=>?_) fun zu zu x=>x.elim)
  refine xa1_2 z ?_;(try clear z);intro pv;rintro rfl;intro z
  dsimp only
  rw [hlt]
  refine wpAny_mono z (fun zu s₂ z=>?_) fun zu zu x=>x.elim
  refine xa2_5 z ?_;(try clear z);intro F2 y e2 hpv;intro zq;refine xa2_1 zq ?_;(try clear zq);intro yc yv;rintro rfl;intro hsrc hR2
  rw [has]
  generalize hhp:upd (upd σ.hp ia (.itr yc yv)) ea (AI ia (u.length+1) c.av)=hp2 at hR2 hsrc
  have hasg:Iu C (A.over (Dl (Aw r L) ea) [f2]) (Aw r L) (.Tuple [.Name "idx" p1,.Name "symbol" p2] tn tp) (.tup [.int u.length,c.av]) { σ with hp:=hp2 }
   (fun σ'=>σ'=(Am.set (Am.set { σ with hp:=hp2 } "idx" (.int u.length)) "symbol" c.av)):=FG hA' rfl
  refine wpAny_mono (hasg F2 G s₂ pv hR2 hpv) (fun zu s₃ z=>?_) fun zu zu x=>x.elim
  refine xa2_3 z ?_;(try clear z);intro F3 σ3 e3 hR3;rintro rfl
  have nF:∀{a},Fp X t d a→a≠ia∧a≠ea:=fun {a} hF=>by
   have hs:=I.rep
   constructor<;>rintro rfl
   ·rcases hF with e|e|⟨p,hp,e|e⟩
    ·rw [e,hs.tree] at hia;exact AO.noConfusion (Option.some.inj hia)
    ·rw [e,hs.ns] at hia;exact AO.noConfusion (Option.some.inj hia)
    ·rw [e,hs.nd p hp] at hia;exact AO.noConfusion (Option.some.inj hia)
    ·refine xa1_1 (hs.td p hp) ?_;intro ep q
     rw [e,q] at hia;exact AO.noConfusion (Option.some.inj hia)
   ·rcases hF with e|e|⟨p,hp,e|e⟩
    ·rw [e,hs.tree] at he;exact AO.noConfusion (Option.some.inj he)
    ·rw [e,hs.ns] at he;exact AO.noConfusion (Option.some.inj he)
    ·rw [e,hs.nd p hp] at he;exact AO.noConfusion (Option.some.inj he)
    ·refine xa1_1 (hs.td p hp) ?_;intro ep q
     rw [e,q] at he;exact AO.noConfusion (Option.some.inj he)
  have hr2:AJ X t d true ci hp2:=hhp▸I.rep.off (fun a hF=>(Ac _ _ (nF hF).2).trans (Ac _ _ (nF hF).1))
  have hg2:hp2 ga=some (.gen g .running):=hhp▸(Ac _ _ hge).trans ((Ac _ _ hgi).trans I.gen)
  have hb2:hp2 ba=some (BC (X.T [])):=hhp▸(Ac _ _ hbe).trans ((Ac _ _ hbi).trans I.bnd)
  have he2:hp2 ea=some (AI ia (u++[c]).length c.av):=by rw [hul];exact hhp▸Ae _ _ _
  have hs2:DY ia (u++[c]).length (rest.map As.av) hp2:=by rw [hul];exact hsrc
  have hfr2:∀a,hp₀ a≠none→a≠ga→a≠ea→a≠ia→a≠L→a≠jx→hp2 a=hp₀ a:=fun a h1 h2 h3 h4 h5 h6=>hhp▸(Ac _ _ h3).trans ((Ac _ _ h4).trans (I.fr a h1 h2 h3 h4 h5 h6))
  have hou:outs X.key (u++[c])=outs X.key (BG X.D (u++[c])):=Fc hX.wf.mkD _
  have again:∀(σ':Am) (F':FH) (s':Shared),A6 F₀ F'→Rp C (A.over (Dl (Aw r L) ea) [f2]) F' G (Aw r L) σ' s'→σ'.hp=hp2→σ'.v "zero_state" = some (.ref (X.A []))→σ'.v "zero_transitions_get" = some (.ref ba) →
    σ'.v "current_state" = some (.ref (X.A (BG X.D (u++[c]))))→outs X.key (u++[c])=[] →
    SegX (model C.prog C.w) A (Dl (Aw r L) ea) (.pure (.again (Dl (Aw r L) ea))) [f2] s' (FB C X (Aw r L) G F₀ hp₀ ga ea ia ba jx g (B1 X.key u (c::rest))):=by
   intro σ' F' s' e' hR' eh k1 k2 k3 ho
   refine s_again C.prog C.w A _ [f2] _ s' _ rfl ?_
   have:B1 X.key u (c::rest)=B1 X.key (u++[c]) rest:=by simp only [B1,ho,List.map_nil,List.nil_append]
   rw [this]
   exact ih (u++[c]) F' σ' s' e' hR' ⟨eh▸hr2,eh▸hg2,eh▸hb2,⟨_,eh▸he2⟩,eh▸hs2,k1,k2,k3,eh▸hfr2⟩
  refine BF (DD (JH (σ:=(Am.set (Am.set { σ with hp:=hp2 } "idx" (.int u.length)) "symbol" c.av)) (Q:=fun f σ'=>(f=.cont∧σ'.hp=hp2∧σ'.v "zero_state" = some (.ref (X.A []))∧σ'.v "zero_transitions_get" = some (.ref ba)∧σ'.v "current_state" = some (.ref (X.A []))∧BG X.D (u++[c])=[]) ∨
    (f=.next∧σ'.hp=hp2∧σ'.v "zero_state" = some (.ref (X.A []))∧σ'.v "zero_transitions_get" = some (.ref ba)∧σ'.v "idx" = some (.int u.length)∧σ'.v "next_state" = some (.ref (X.A (BG X.D (u++[c]))))))
   T (ba:=ba) (u:=u) (c:=c) hX hr2 hb2 (Ah (Ah I.l1)) (Ah (Ah I.l2)) (Ah (Ah I.l3)) Au rfl (fun σ' a1 a2 a3 zu a4 a5=>.inl ⟨rfl,a1,a2,a3,a4,a5⟩) (fun σ' a1 a2 a3 a4 a5=>.inr ⟨rfl,a1,a2,a3,a4.trans (Ah Au),a5⟩)) hR3 ?_)
  rintro F4 f σ4 v4 s4 e4 hfl hR4 q
  have ex4:=e₀.trans (e2.trans (e3.trans e4))
  rcases q with ⟨rfl,a1,a2,a3,a4,a5⟩|⟨rfl,a1,a2,a3,a4,a5⟩
  ·cases hfl
   exact again σ4 F4 s4 ex4 hR4 a1 a2 a3 (by rw [a5];exact a4) (by rw [hou,a5];rfl)
  ·cases hfl
   have hsD:=Cb hX.wf.pc (u++[c])
   have hout:X.out (BG X.D (u++[c]))=some (.tup (outs X.key (u++[c]))):=by rw [hX.out _ hsD,←hou]
   have hol:(outs X.key (u++[c])).length≤100000:=by
    rw [hou]
    have h1:=DJ X.key (BG X.D (u++[c]))
    have h2:=hz _ hsD
    exact Ax [_,_] [(1,Z0,Z1),(1,Z1,(Zn 1000))] Z0 (Zn 100000) rfl h1 h2
   have hr4:AJ X t d true ci σ4.hp:=a1▸hr2
   refine BF (DD (Ai (Q:=fun f σ'=>f=.next∧σ'=σ4.set "current_state" (.ref (X.A (BG X.D (u++[c]))))) (Ab a5 ⟨rfl,rfl⟩)) hR4 ?_)
   rintro F5 f σ5 v5 s5 e5 hfl hR5 ⟨rfl,rfl⟩
   cases hfl
   refine BF (DD (Ai (Q:=fun f σ'=>f=.next∧σ'=Am.set (σ4.set "current_state" (.ref (X.A (BG X.D (u++[c]))))) "outputs" (.tup (outs X.key (u++[c])))) (Ap (Ab Au (MA (σ:=σ4.set "current_state" (.ref (X.A (BG X.D (u++[c]))))) T hr4 hsD hout ⟨rfl,rfl⟩ (by simp))))) hR5 ?_)
   rintro F6 f σ6 v6 s6 e6 hfl hR6 ⟨rfl,rfl⟩
   cases hfl
   have ex6:=ex4.trans (e5.trans e6)
   refine BF (Nl (Q:=fun b σ'=>b=(!(outs X.key (u++[c])).isEmpty)∧σ'=Am.set (σ4.set "current_state" (.ref (X.A (BG X.D (u++[c]))))) "outputs" (.tup (outs X.key (u++[c])))) (Bd (Ab Au (HD hol ⟨rfl,rfl⟩))) hR6 ?_)
   rintro F7 bb σ7 s7 e7 hR7 ⟨rfl,rfl⟩
   have ex7:=ex6.trans e7
   cases hO:outs X.key (u++[c]) with
   |nil=>
    rw [hO] at hR7
    exact again _ F7 s7 ex7 hR7 a1 (Ah (Ah a2)) (Ah (Ah a3)) (Ah Au) hO
   |cons x os=>
    have hx0:(outs X.key (u++[c]))[0]? = some x:=by rw [hO];rfl
    show SegX _ A _ ((execs _ _).wrap _ _ _ _) _ _ _
    refine BF (JX (Q:=fun a σ'=>a=.tup (outs X.key (u++[c]))∧σ'=Am.set (σ4.set "current_state" (.ref (X.A (BG X.D (u++[c]))))) "outputs" (.tup (outs X.key (u++[c])))) (Ab Au ⟨rfl,rfl⟩) hR7
     (fun F' a σ' it s'=>∃ja,it=.ref ja∧hp2 ja=none∧Rp C (A.over (Dl (Aw r L) ea) [f2]) F' G (Aw r L) (Am.put (Am.set (σ4.set "current_state" (.ref (X.A (BG X.D (u++[c]))))) "outputs" (.tup (outs X.key (u++[c])))) ja (.itr "tuple_iterator" [.tup (outs X.key (u++[c])),.val (.int 0 0)])) s') ?_ ?_)
    ·rintro F8 a σ8 v8 s8 e8 hv8 hR8 ⟨rfl,rfl⟩
     refine wpAny_mono (IV hR8 hv8) (fun it s9 z=>?_) fun zu zu x=>x.elim
     refine xa1_3 z ?_;(try clear z);intro ja h1 h2 h3
     exact ⟨ja,h1,by rw [←a1];exact h2,h3⟩
    ·rintro F8 a σ8 it s8 e8 ⟨ja,rfl,hj2,hR8⟩ kf l p hk
     have hj8:(Am.put (Am.set (σ4.set "current_state" (.ref (X.A (BG X.D (u++[c]))))) "outputs" (.tup (outs X.key (u++[c])))) ja (.itr "tuple_iterator" [.tup (outs X.key (u++[c])),.val (.int 0 0)])).hp ja=some (.itr "tuple_iterator" [.tup (outs X.key (u++[c])),.val (.int 0 0)]):=Ae _ _ _
     have hjL:ja≠L:=Cn hj8 (show _=none from hR8.fm.lo.2.2)
     have hjg:ja≠ga:=(Cn hg2 hj2).symm
     have hje:ja≠ea:=(Cn he2 hj2).symm
     refine xa2_1 hs2.at ?_;intro c9 v9 hi2
     have hji:ja≠ia:=(Cn hi2 hj2).symm
     have hjb:ja≠ba:=(Cn hb2 hj2).symm
     have hjF:¬Fp X t d ja:=fun hF=>hr2.some hF hj2
     have hj0:hp₀ ja=none∨ja=jx:=by
      by_cases hjx:ja=jx
      ·exact .inr hjx
      cases e:hp₀ ja with
      |none=>exact .inl rfl
      |some o=>rw [hfr2 ja (by rw [e];simp) hjg hje hji hjL hjx,e] at hj2;exact Ao hj2
     have hF1:N8 (Aw r L) ea (.ret kf none false l (Dl (Aw r L) ea) p []):=⟨kf,l,p,rfl,(hk .next).trans rfl⟩
     refine xa0_3 (I6 (env:=Aw r L) (ea:=ea) (ja:=ja) A hF1 hf2) ?_;intro q1 q2 q3
     have hrem:B1 X.key u (c::rest)=DI X.key (u++[c]) 0 rest:=by simp only [B1,DI,List.drop_zero]
     rw [hrem]
     refine Gf T (t:=t) (d:=d) (ci:=ci) (k:=0) (x:=x) hA hF1 hf2 (ex7.trans e8) (hR8.around (FP.mk q3 hFs (by rfl) (by rfl))) ⟨?_,?_,?_,⟨c.av,?_⟩,?_,Ah (Ah a2),Ah (Ah a3),Ah Au,?_⟩ ?_ hj8 hx0 hj0 hji
     ·exact AJ.updOff hr4 hjF
     ·exact (Ac _ _ hjg.symm).trans (a1▸hg2)
     ·exact (Ac _ _ hjb.symm).trans (a1▸hb2)
     ·exact (Ac _ _ hje.symm).trans (a1▸he2)
     ·refine hs2.keep ((Ac _ _ hji.symm).trans (by rw [a1])) (fun l zs hl=>(Ac _ _ (Cn hl hj2)).trans (by rw [a1];exact hl))
     ·intro a h1 h2 h3 h4 h5 h6
      exact (Ac _ _ (by
       rintro rfl
       rcases hj0 with q|q
       ·exact h1 q
       ·exact h6 q)).trans (a1▸hfr2 a h1 h2 h3 h4 h5 h6)
     ·have:((u++[c]).length:Int) - 1=u.length:=by simp
      rw [this];exact Ah (Ah a4)
end
section
variable {C:Cf} {A:Around} {s:Shared} {σ:Am} {F G:FH}
theorem Jw (T:Tp C) {r:FdRest} {L:Addr} {X:Ad} {t d:Addr} {ci:Bool} {hp₀:HP} {F₀:FH} {ga ea ia ba ja:Addr} {g:Nat} {u rest:Aj} {k:Nat} {f1 f2:Frame} (hA:A.handled=none) (hFs:Fs A G) (hX:X.Ph3) (hz:∀p∈X.D,p.length≤1000)
  (hf1:N8 (Aw r L) ea f1) (hf2:Nb (Aw r L) f2) (e₀:A6 F₀ F) (hR:Rp C (A.over (C2 (Aw r L) ja) [f1,f2]) F G (Aw r L) σ s)
  (I:NI X t d ci (Aw r L) hp₀ ga ea ia ba ja g u rest σ) (hi:σ.v "idx" = some (.int ((u.length:Int) - 1))) (hja:σ.hp ja=some (.itr "tuple_iterator" [.tup (outs X.key u),.val (.int k 0)])) (hji:ja≠ia) :
  SegX (model C.prog C.w) A (C2 (Aw r L) ja) (denote table (C2 (Aw r L) ja)) [f1,f2] s (FB C X (Aw r L) G F₀ hp₀ ga ea ia ba ja g (DI X.key u k rest)):=by
 cases hx:(outs X.key u)[k]? with
 |some x=>exact Gf T hA hf1 hf2 e₀ hR I hi hja hx (.inr rfl) hji
 |none=>
  have hrem:DI X.key u k rest=B1 X.key u rest:=by
   have:(outs X.key u).drop k=[]:=List.drop_eq_nil_iff.mpr (List.getElem?_eq_none_iff.mp hx)
   simp only [DI,this,List.map_nil,List.nil_append]
  rw [hrem]
  refine xa0_3 (I6 (env:=Aw r L) (ea:=ea) (ja:=ja) A hf1 hf2) ?_;intro o1 o2 o3
  refine xa0_3 (Kg (env:=Aw r L) (ea:=ea) A hf2) ?_;intro q1 q2 q3
  refine Cy (wpAny_mono (IW (o1.trans hA) hR hja hx) (fun res s₁ z=>?_) fun zu zu x=>x.elim)
  refine xa0_2 z ?_;(try clear z);rintro rfl;intro hR1
  refine xa3_2 hf1 ?_;(try clear hf1);intro kf l p;rintro rfl;intro hk
  refine s_pop C.prog C.w A _ [f2] _ s₁ (.ok .next) _ rfl kf none false l _ p [] ?_
  rw [hk]
  refine s_again C.prog C.w A _ [f2] _ s₁ _ rfl ?_
  have hne:∀{a y},σ.hp a=some y→(∀c vs,y≠.itr c vs)→a≠ja:=fun e h=>by rintro rfl;rw [hja] at e;(have zc:=Option.some.inj e;clear e;subst zc);exact h _ _ rfl
  have hjF:¬Fp X t d ja:=fun hF=>by
   rcases hF with e|e|⟨p,hp,e|e⟩
   ·rw [e,I.rep.tree] at hja;exact AO.noConfusion (Option.some.inj hja)
   ·rw [e,I.rep.ns] at hja;exact AO.noConfusion (Option.some.inj hja)
   ·rw [e,I.rep.nd p hp] at hja;exact AO.noConfusion (Option.some.inj hja)
   ·refine xa1_1 (I.rep.td p hp) ?_;intro ep q
    rw [e,q] at hja;exact AO.noConfusion (Option.some.inj hja)
  have off:∀a,a≠ja→(if a∈[ja] then none else σ.hp a)=σ.hp a:=fun a h=>if_neg (by simpa using h)
  refine xa1_1 I.enm ?_;intro old he
  refine Gg T (t:=t) (d:=d) (ci:=ci) hA hFs hX hz hf2 rest u F _ s₁ e₀ (hR1.around (FP.mk q3 hFs (by rfl) (by rfl))) ⟨?_,?_,?_,⟨old,?_⟩,?_,I.l1,I.l2,I.l3,?_⟩
  ·exact I.rep.off (fun a hF=>off a (by rintro rfl;exact hjF hF))
  ·exact (off _ (hne I.gen (by simp))).trans I.gen
  ·exact (off _ (hne I.bnd (by simp [BC]))).trans I.bnd
  ·exact (off _ (hne he (by simp [AI]))).trans he
  ·exact I.src.keep (off _ hji.symm) (fun l zs hl=>(off _ (hne hl (by simp))).trans hl)
  ·intro a h1 h2 h3 h4 h5 h6
   exact (off _ h6).trans (I.fr a h1 h2 h3 h4 h5 h6)
theorem I5 {α:Type} {Q:α→Shared→Prop} {E:Value→Shared→Prop} {g:Nat} {gs:GenState} {rr:Resume} {l:List Value} {kk:GenResult→Sem α} {c₀:Code} {t₀:Sem Fin} {fs₀:List Frame} (hg:s.gens[g]? = some gs)
  (hgs:(gs=.fresh c₀∧rr=.send .none∧t₀=denote table c₀∧fs₀=[])∨(∃k₀ l₀ p₀ cl,gs=.suspended k₀ l₀ c₀ p₀ fs₀ cl∧t₀=k₀ rr))
  (x:SegX (model C.prog C.w) A c₀ t₀ fs₀ (s.setGen g .running) (fun e s₁=>wpAny (model C.prog C.w) A (kk e.result) Q E (s₁.setGen g e.genState))):wpAny (model C.prog C.w) A (.resume g rr l kk) Q E s:=
 fun Γ p hΓ=>wake_any α C.prog C.w hg hgs (fun Γ=>Γ.In A) (fun zu h=>h) (x.mono fun zu zu h Γ p hC=>h Γ p hC) Γ p hΓ
theorem L6 {ga:Addr} {g:Nat} {gs:GenState} {E:Value→Shared→Prop} {Q:Option Value→Shared→Prop} (hh:A.handled=none) (hl:s.heap.NoLimit) (hroom:A.depth<recursionLimit) (hg:s.heap.IsGen ga g) (hgs:s.gens[g]? = some gs) {c₀:Code} {t₀:Sem Fin} {fs₀:List Frame}
  (hst:(gs=.fresh c₀∧t₀=denote table c₀∧fs₀=[])∨(∃k₀ l₀ p₀ cl,gs=.suspended k₀ l₀ c₀ p₀ fs₀ cl∧t₀=k₀ (.send .none)))
  (x:SegX (model C.prog C.w) A.in1 c₀ t₀ fs₀ (s.setGen g .running) (fun (e:End) (s₁:Shared)=>match e with
   |.ret r=>r=.ok (.ret .none)∧∀h':Heap,(∀b o,s₁.heap.get? b=some o→h'.get? b=some o)→Q none { s₁.setGen g .finished with heap:=h' }
   |.susp v _ _ _ _ _ _=>Q (some v) (s₁.setGen g e.genState))):wpAny (model C.prog C.w) A (pyNext (.ref ga)) Q E s:=by
 unfold pyNext
 refine wpAny_bind (wpAny_attempt (wpAny_callSpecial?_slot (name:=Str.ofString "__next__") hg.typeIs slot_gen_next
  (wpAny_call_entry slot_gen_next hg.typeIs entry_gen_next ?_ (args_gen_next _))))
 show wpAny _ _ (Builtin.Generator.genWake (.ref ga) (.send .none)) _ _ s
 unfold Builtin.Generator.genWake
 refine wpAny_bind (wpAny_holding (wpAny_genNumber hg (wpAny_bind (wpAny_genState hgs ?_))))
 have hst':(gs=.fresh c₀∧Resume.send Value.none=.send .none∧t₀=denote table c₀∧fs₀=[])∨(∃k₀ l₀ p₀ cl,gs=.suspended k₀ l₀ c₀ p₀ fs₀ cl∧t₀=k₀ (.send .none)):=hst.imp_left (fun ⟨a,b,c⟩=>⟨a,rfl,b,c⟩)
 have fin:∀(kk:GenResult→Sem Fin) (Q':Fin→Shared→Prop) (E':Value→Shared→Prop),(∀v s',Q (some v) s'→wpAny (model C.prog C.w) A.in1 (kk (.yielded v)) Q' E' s') →
   (∀(s₁:Shared),(∀h':Heap,(∀b o,s₁.heap.get? b=some o→h'.get? b=some o)→Q none { s₁.setGen g .finished with heap:=h' })→wpAny (model C.prog C.w) A.in1 (kk (.returned .none)) Q' E' (s₁.setGen g .finished))→wpAny (model C.prog C.w) A.in1 (.resume g (.send .none) [] kk) Q' E' s:=by
  intro kk Q' E' h1 h2
  refine I5 hgs hst' (x.mono fun e s₁ h=>?_)
  cases e with
  |ret r=>refine xa0_2 h ?_;(try clear h);rintro rfl;intro h;exact h2 s₁ h
  |susp v a b c d e f=>exact h1 v _ h
 rcases hst with ⟨rfl,zu,zu⟩|⟨k₀,l₀,p₀,cl,rfl,zu⟩
 all_goals
  refine wpAny_bind (wpAny_roomToWake hl hroom ?_)
  show wpAny _ _ (.resume g (.send .none) [] _) _ _ s
  refine fin _ _ _ (fun v s' h=>wpAny_pure ⟨v,rfl,wpAny_pure h⟩) (fun s₁ hp=>?_)
  show wpAny _ _ (newExc (.type "StopIteration") [] >>= _) _ _ _
  refine wpAny_bind ?_
  simp only [newExc,newTuple]
  refine wpAny_bind (wpAny_newObj_type ?_ (by size_fits))
  refine wpAny_bind (m:=firstArgMember _ _) (wpAny_of_eq (a:=Value.none) (by first|rfl|(simp only [firstArgMember];rfl)) ?_)
  refine wpAny_newObj_type ?_ (by size_fits)
  simp only [raiseNew]
  refine wpAny_bind (wpAny_bind (wpAny_handled ?_))
  rw [show A.in1.handled=none from hh]
  refine wpAny_throw ?_
  refine wpAny_bind (wpAny_isInstance (T:="StopIteration") (b:=true) ⟨_,Heap.get?_push_size _ rfl,rfl⟩ isSubtype_stop ?_)
  exact wpAny_pure (hp _ fun b o hb=>Heap.get?_push_of_some _ (Heap.get?_push_of_some _ hb))
end
section
variable {C:Cf} {A:Around} {s:Shared} {F G:FH} {hp:HP}
noncomputable def IR (C:Cf) (F G:FH) (hp:HP) (X:Ad) (genv:Env) (ga:Addr) (g:Nat) (Pd:Addr→Addr→Addr→Addr→Prop) (rem:List AV) (r:Option Value) (s₁:Shared):Prop:=
 ∃F' hp' ea ia ba jx,Pd ea ia ba jx∧A6 F F'∧Wd C F' G hp' s₁∧(∀a,hp a≠none→a≠ga→a≠ea→a≠ia→a≠genv.locals→a≠jx→hp' a=hp a) ∧
  match rem with
  |[]=>r=none
  |y::ys=>∃v u k rest ja,r=some v∧VR F' y v∧Me C X genv hp' ga ea ia ba ja g u k rest∧ys=DI X.key u k rest∧(hp ja=none∨ja=jx)
theorem IA {ga:Addr} {g:Nat} {gs:GenState} {X:Ad} {genv:Env} {Pd:Addr→Addr→Addr→Addr→Prop} {rem:List AV} (hh:A.handled=none) (hl:C.h0.NoLimit) (hroom:A.depth<recursionLimit) (W:Wd C F G hp s) (hga:hp ga=some (.gen g gs)) {c₀:Code} {t₀:Sem Fin} {fs₀:List Frame}
  (hst:(gs=.fresh c₀∧t₀=denote table c₀∧fs₀=[])∨(∃k₀ l₀ p₀ cl,gs=.suspended k₀ l₀ c₀ p₀ fs₀ cl∧t₀=k₀ (.send .none)))
  (x:SegX (model C.prog C.w) A.in1 c₀ t₀ fs₀ (s.setGen g .running) (fun e s'=>∃ea ia ba jx,Pd ea ia ba jx∧FB C X genv G F hp ga ea ia ba jx g rem e s')) :
  wpAny (model C.prog C.w) A (pyNext (.ref ga)) (IR C F G hp X genv ga g Pd rem) Bz s:=by
 refine xa0_2 (W.gen hga) ?_;intro hgg hig
 refine L6 hh (hl.keeps W.old) hroom hig hgg hst (x.mono fun e s₁ h=>?_)
 refine cps fun zP zk=>?_;(rcases h with ⟨ea,ia,ba,jx,hpd,F',hp',ex,W',hfr,hm⟩)<;>(refine zk ?_;clear zk zP)
 cases rem with
 |nil=>
  dsimp only at hm
  subst hm
  refine ⟨rfl,fun h' hk=>⟨F',hp',ea,ia,ba,jx,hpd,ex,?_,hfr,rfl⟩⟩
  exact W'.keep hk
 |cons y ys=>
  dsimp only at hm
  refine xa5_4 hm ?_;(try clear hm);intro v u k rest ja hv h1 h2 h3
  cases e with
  |ret r=>
   rcases r with e|f
   ·cases hv
   ·cases f<;>cases hv
  |susp v' a b c d e f=>
   cases hv
   exact ⟨F',hp',ea,ia,ba,jx,hpd,ex,W',hfr,v,u,k,rest,ja,rfl,h1,h2,h3⟩
theorem KD (T:Tp C) {r:FdRest} {L:Addr} {X:Ad} {t d:Addr} {ci:Bool} {ga ea ia ba ja:Addr} {g:Nat} {u rest:Aj} {k:Nat} (hA:A.handled=none) (hl:C.h0.NoLimit) (hroom:A.depth<recursionLimit) (W:Wd C F G hp s) (hFs:Fs A G)
  (hX:X.Ph3) (hz:∀p∈X.D,p.length≤1000) (hr:AJ X t d true ci hp) (hnc:Cd (Aw r L)) (hS:Me C X (Aw r L) hp ga ea ia ba ja g u k rest) :
  wpAny (model C.prog C.w) A (pyNext (.ref ga)) (IR C F G hp X (Aw r L) ga g (fun a b c d=>a=ea∧b=ia∧c=ba∧d=ja) (DI X.key u k rest)) Bz s:=by
 refine cps fun zP zk=>?_;(rcases hS.gen with ⟨gs,hga,kk,l,p,f1,f2,rfl,hf1,hf2,hk⟩)<;>(refine zk ?_;clear zk zP)
 refine IA hA hl hroom W hga (.inr ⟨kk,l,p,false,rfl,rfl⟩) ?_
 refine (hk A.in1 _ _ (s_again C.prog C.w A.in1 _ [f1,f2] _ _ _ rfl (SegX.mono ?_ (fun e s' h=>⟨ea,ia,ba,ja,⟨rfl,rfl,rfl,rfl⟩,h⟩))))
 have W1:=W.setGen (ga:=ga) (g:=g) (gs':=.running) hga rfl
 have hLg:L≠ga:=by
  have:=hS.frm
  rintro rfl
  rw [show (Aw r L).locals=L from rfl,hga] at this;exact AO.noConfusion (Option.some.inj this)
 refine xa0_3 (I6 (env:=Aw r L) (ea:=ea) (ja:=ja) A.in1 hf1 hf2) ?_;intro o1 o2 o3
 have hR1:=W1.thaw (A:=A.in1.over (C2 (Aw r L) ja) [f1,f2]) (env:=Aw r L) ((Ac _ _ hLg).trans hS.frm) (by rfl) hnc (FP.mk o3 (show Fs A.in1 G from hFs) (by rfl) (by rfl))
 have hne:∀{a y},hp a=some y→(∀l,y≠.frame l)→a≠L:=fun {a y} e h=>by
  have:=hS.frm
  rintro rfl
  rw [show (callEnv (r.fd Hl .none) a 94).locals=a from rfl,e] at this;(have zc:=Option.some.inj this;clear this;subst zc);exact h _ rfl
 have hng:∀{a y},hp a=some y→CA y=false→a≠ga:=fun {a y} e h=>by rintro rfl;rw [hga] at e;(have zc:=Option.some.inj e;clear e;subst zc);exact CJ h
 have at':∀{a},a≠L→a≠ga→(if a=(Aw r L).locals then none else upd hp ga (.gen g .running) a)=hp a:=fun {a} h1 h2=>by
  show (if a=L then none else upd hp ga (.gen g .running) a)=hp a
  rw [if_neg h1,Ac _ _ h2]
 refine xa1_1 hS.enm ?_;intro old he
 refine xa2_1 hS.src.at ?_;intro c' vs' hia
 have hFp:∀a,Fp X t d a→a≠L∧a≠ga:=fun a hF=>by
  rcases hF with rfl|rfl|⟨p,hpD,rfl|rfl⟩
  ·exact ⟨hne hr.tree (by simp),hng hr.tree rfl⟩
  ·exact ⟨hne hr.ns (by simp),hng hr.ns rfl⟩
  ·exact ⟨hne (hr.nd p hpD) (by simp [Ad.nodeAO,DM]),hng (hr.nd p hpD) rfl⟩
  ·refine xa1_1 (hr.td p hpD) ?_;intro ep q
   exact ⟨hne q (by simp),hng q rfl⟩
 refine Jw T (t:=t) (d:=d) (ci:=ci) hA (show Fs A.in1 G from hFs) hX hz hf1 hf2 (A6.refl F) hR1 ⟨?_,?_,?_,⟨old,?_⟩,?_,rfl,rfl,rfl,?_⟩ rfl ?_ hS.nji
 ·exact hr.off (fun a hF=>at' (hFp a hF).1 (hFp a hF).2)
 ·show (if ga=L then none else upd hp ga (.gen g .running) ga)=_
  rw [if_neg hLg.symm,Ae]
 ·exact (at' (hne hS.bnd (by simp [BC])) (hng hS.bnd rfl)).trans hS.bnd
 ·exact (at' (hne he (by simp [AI])) (hng he rfl)).trans he
 ·exact hS.src.keep (at' (hne hia (by simp)) (hng hia rfl)) (fun l zs hl=>(at' (hne hl (by simp)) (hng hl rfl)).trans hl)
 ·intro a h1 h2 h3 h4 h5 h6
  exact at' h5 h2
 ·exact (at' (hne hS.itr (by simp)) (hng hS.itr rfl)).trans hS.itr
end
section
variable {C:Cf} {A:Around} {s:Shared} {σ:Am} {F G:FH} {env:Env}
theorem Gh (T:Tp C) {r:FdRest} {L:Addr} {X:Ad} {t d:Addr} {ci:Bool} {ga:Addr} {g:Nat} {w:Aj} {tv:AV} {hp:HP} (hA:A.handled=none) (W:Wd C F G hp s) (hFs:Fs A G)
  (hX:X.Ph3) (hz:∀p∈X.D,p.length≤1000) (hr:AJ X t d true ci hp) (hnc:Cd (Aw r L)) (hga:hp ga=some (.gen g (.fresh (EG (Aw r L)))))
  (hfm:hp L=some (.frame [("text",tv),("self",.ref t)])) (hsq:Bw tv (w.map As.av) hp) :
  SegX (model C.prog C.w) A (EG (Aw r L)) (denote table (EG (Aw r L))) [] (s.setGen g .running)
   (fun e s'=>∃ea ia ba jx,(hp ea=none∧hp ia=none∧hp ba=none∧jx=ga)∧FB C X (Aw r L) G F hp ga ea ia ba jx g (B1 X.key [] w) e s'):=by
 have W1:=W.setGen (ga:=ga) (g:=g) (gs':=.running) hga rfl
 have hLg:L≠ga:=by rintro rfl;rw [hga] at hfm;exact AO.noConfusion (Option.some.inj hfm)
 refine xa0_3 (Nn (env:=Aw r L) A) ?_;intro o1 o2 o3
 have hR1:=W1.thaw (A:=A.over (EG (Aw r L)) []) (env:=Aw r L) ((Ac _ _ hLg).trans hfm) (by rfl) hnc (FP.mk o3 hFs (by rfl) (by rfl))
 have hne:∀{a y},hp a=some y→(∀l,y≠.frame l)→a≠L:=fun {a y} e h=>by rintro rfl;rw [e] at hfm;(have zc:=Option.some.inj hfm;clear hfm;subst zc);exact h _ rfl
 have hng:∀{a y},hp a=some y→CA y=false→a≠ga:=fun {a y} e h=>by rintro rfl;rw [hga] at e;(have zc:=Option.some.inj e;clear e;subst zc);exact CJ h
 generalize hhp1:(fun b=>if b=(Aw r L).locals then none else upd hp ga (.gen g .running) b)=hp1 at hR1
 have at':∀{a},a≠L→a≠ga→hp1 a=hp a:=fun {a} h1 h2=>by
  rw [←hhp1]
  show (if a=L then none else upd hp ga (.gen g .running) a)=hp a
  rw [if_neg h1,Ac _ _ h2]
 have hg1:hp1 ga=some (.gen g .running):=by
  rw [←hhp1]
  show (if ga=L then none else upd hp ga (.gen g .running) ga)=_
  rw [if_neg hLg.symm,Ae]
 have hFp:∀a,Fp X t d a→a≠L∧a≠ga:=fun a hF=>by
  rcases hF with rfl|rfl|⟨p,hp,rfl|rfl⟩
  ·exact ⟨hne hr.tree (by simp),hng hr.tree rfl⟩
  ·exact ⟨hne hr.ns (by simp),hng hr.ns rfl⟩
  ·exact ⟨hne (hr.nd p hp) (by simp [Ad.nodeAO,DM]),hng (hr.nd p hp) rfl⟩
  ·refine xa1_1 (hr.td p hp) ?_;intro ep q
   exact ⟨hne q (by simp),hng q rfl⟩
 have hr1:AJ X t d true ci hp1:=hr.off (fun a hF=>at' (hFp a hF).1 (hFp a hF).2)
 have hw:=hX.wf
 have fresh:∀b,hp1 b=none→b≠L→hp b=none:=fun b hb hL=>by
  by_cases e:b=ga
  ·subst e;rw [hg1] at hb;exact Ao hb
  ·rw [←at' hL e];exact hb
 refine L5 ?_
 refine BF (DD (Ai (Q:=fun f σ'=>f=.next∧σ'=Am.set ⟨[("text",tv),("self",.ref t)],hp1⟩ "zero_state" (.ref (X.A []))) (Ap (Ab rfl (Bp (σ:=⟨[("text",tv),("self",.ref t)],hp1⟩) T.n_zero hr1.tree hr1.ns rfl ⟨rfl,rfl⟩)))) hR1 ?_)
 rintro F2 f σ2 v2 s2 e2 hfl hR2 ⟨rfl,rfl⟩
 cases hfl
 refine xa1_1 (hr1.td [] hw.root) ?_;intro ep htd
 refine BF (DD (Ai (Q:=fun f σ'=>f=.next∧∃b,hp1 b=none∧σ'=Am.set (Am.put (Am.set ⟨[("text",tv),("self",.ref t)],hp1⟩ "zero_state" (.ref (X.A []))) b (BC (X.T []))) "zero_transitions_get" (.ref b))
  (Ap (Ap (Ab Au (Dr (σ:=Am.set ⟨[("text",tv),("self",.ref t)],hp1⟩ "zero_state" (.ref (X.A []))) T hr1 hw.root (Jv htd (fun b hb=>⟨rfl,b,hb,rfl⟩))))))) hR2 ?_)
 rintro F3 f σ3 v3 s3 e3 hfl hR3 ⟨rfl,ba,hb1,rfl⟩
 cases hfl
 have hbL:ba≠L:=Cn (hp:=(Am.set (Am.put (Am.set ⟨[("text",tv),("self",.ref t)],hp1⟩ "zero_state" (.ref (X.A []))) ba (BC (X.T []))) "zero_transitions_get" (.ref ba)).hp) (Ae _ _ _) (show _=none from hR3.fm.lo.2.2)
 refine BF (DD (Ai (Q:=fun f σ'=>f=.next∧σ'=Am.set (Am.set (Am.put (Am.set ⟨[("text",tv),("self",.ref t)],hp1⟩ "zero_state" (.ref (X.A []))) ba (BC (X.T []))) "zero_transitions_get" (.ref ba)) "current_state" (.ref (X.A [])))
  (Ab (Ah Au) ⟨rfl,rfl⟩)) hR3 ?_)
 rintro F4 f σ4 v4 s4 e4 hfl hR4 ⟨rfl,rfl⟩
 cases hfl
 have hsq4:Bw tv (w.map As.av) (upd hp1 ba (BC (X.T []))):=hsq.keep (fun l zs hl=>by
  have h1:hp1 l=some (.list zs):=(at' (hne hl (by simp)) (hng hl rfl)).trans hl
  exact (Ac _ _ (Cn h1 hb1)).trans h1)
 refine BF (JX (Q:=fun a σ'=>∃ea ia y,a=.ref ea∧upd hp1 ba (BC (X.T [])) ea=none∧upd hp1 ba (BC (X.T [])) ia=none∧ea≠ia∧(∃c vs,y=.itr c vs)∧DY ia 0 (w.map As.av) (upd (upd (upd hp1 ba (BC (X.T []))) ia y) ea (AI ia 0 .none)) ∧
   σ'={ Am.set (Am.set (Am.put (Am.set ⟨[("text",tv),("self",.ref t)],hp1⟩ "zero_state" (.ref (X.A []))) ba (BC (X.T []))) "zero_transitions_get" (.ref ba)) "current_state" (.ref (X.A [])) with hp:=upd (upd (upd hp1 ba (BC (X.T []))) ia y) ea (AI ia 0 .none) })
  (B7 (C8 T.g_enum (AM (Ab rfl (A3 (AF (KJ hsq4 (fun ea ia y h1 h2 h3 h4 h5=>⟨ea,ia,y,rfl,h1,h2,h3,h4,h5,rfl⟩)))))))) hR4
  (fun F' a σ' it s'=>∃ea ia y,it=.ref ea∧upd hp1 ba (BC (X.T [])) ea=none∧upd hp1 ba (BC (X.T [])) ia=none∧ea≠ia∧(∃c vs,y=.itr c vs)∧DY ia 0 (w.map As.av) (upd (upd (upd hp1 ba (BC (X.T []))) ia y) ea (AI ia 0 .none)) ∧
   Rp C (A.over (EG (Aw r L)) []) F' G (Aw r L) { Am.set (Am.set (Am.put (Am.set ⟨[("text",tv),("self",.ref t)],hp1⟩ "zero_state" (.ref (X.A []))) ba (BC (X.T []))) "zero_transitions_get" (.ref ba)) "current_state" (.ref (X.A [])) with hp:=upd (upd (upd hp1 ba (BC (X.T []))) ia y) ea (AI ia 0 .none) } s') ?_ ?_)
 ·rintro F5 a σ5 v5 s5 e5 hv5 hR5 ⟨ea,ia,y,rfl,h1,h2,h3,h4,h5,rfl⟩
  (have zc:=VR.refI hv5;clear hv5;subst zc)
  refine xa1_2 (hR5.isEnum (ea:=ea) (Ae _ _ _)) ?_;intro ov hE zu
  exact wpAny_pyIter_enum hE ⟨ea,ia,y,rfl,h1,h2,h3,h4,h5,hR5⟩
 ·rintro F5 a σ5 it s5 e5 ⟨ea,ia,y,rfl,h1,h2,h3,⟨yc,yv,rfl⟩,h5,hR5⟩ kf l p hk
  have hF2:Nb (Aw r L) (.ret kf none false l (EG (Aw r L)) p []):=⟨kf,l,p,rfl,(hk .next).trans rfl⟩
  refine xa0_3 (Kg (env:=Aw r L) (ea:=ea) A hF2) ?_;intro q1 q2 q3
  have hbb:upd hp1 ba (BC (X.T [])) ba=some (BC (X.T [])):=Ae _ _ _
  have heb:ea≠ba:=(Cn hbb h1).symm
  have hib:ia≠ba:=(Cn hbb h2).symm
  have he1:hp1 ea=none:=(Ac _ _ heb).symm.trans h1
  have hi1:hp1 ia=none:=(Ac _ _ hib).symm.trans h2
  have hL5:upd (upd (upd hp1 ba (BC (X.T []))) ia (.itr yc yv)) ea (AI ia 0 .none) L=none:=hR5.fm.lo.2.2
  have heL:ea≠L:=Cn (Ae _ _ _) hL5
  have hiL:ia≠L:=Cn ((Ac _ _ h3.symm).trans (Ae _ _ _)) hL5
  have old:∀{a y},hp1 a=some y→upd (upd (upd hp1 ba (BC (X.T []))) ia (.itr yc yv)) ea (AI ia 0 .none) a=some y:=fun {a y} e=>
   (Ac _ _ (Cn e he1)).trans ((Ac _ _ (Cn e hi1)).trans ((Ac _ _ (Cn e hb1)).trans e))
  refine SegX.mono (Gg (A:=A) T (t:=t) (d:=d) (ci:=ci) (ga:=ga) (ea:=ea) (ia:=ia) (ba:=ba) (jx:=ga) (hp₀:=hp) (F₀:=F) (g:=g) hA hFs hX hz hF2 w [] F5 _ s5 (e2.trans (e3.trans (e4.trans e5))) (hR5.around (FP.mk q3 hFs (by rfl) (by rfl))) ⟨?_,?_,?_,⟨.none,?_⟩,?_,?_,?_,?_,?_⟩) (fun e s' h=>⟨ea,ia,ba,ga,⟨fresh _ he1 heL,fresh _ hi1 hiL,fresh _ hb1 hbL,rfl⟩,h⟩)
  ·exact hr1.off (fun a hF=>by
    cases e:hp1 a with
    |none=>exact absurd e (hr1.some hF)
    |some y=>exact old e)
  ·exact old hg1
  ·exact (Ac _ _ heb.symm).trans ((Ac _ _ hib.symm).trans hbb)
  ·exact Ae _ _ _
  ·exact h5
  ·exact Ah (Ah Au)
  ·exact Ah Au
  ·exact Au
  ·intro a g1 g2 g3 g4 g5 g6
   have:=at' (a:=a) g5 g2
   cases e:hp a with
   |none=>exact absurd e g1
   |some y=>rw [e] at this;exact old this
theorem Jx (T:Tp C) {r:FdRest} {L:Addr} {X:Ad} {t d:Addr} {ci:Bool} {ga:Addr} {g:Nat} {w:Aj} {tv:AV} {hp:HP} (hA:A.handled=none) (hl:C.h0.NoLimit) (hroom:A.depth<recursionLimit) (W:Wd C F G hp s) (hFs:Fs A G)
  (hX:X.Ph3) (hz:∀p∈X.D,p.length≤1000) (hr:AJ X t d true ci hp) (hnc:Cd (Aw r L)) (hga:hp ga=some (.gen g (.fresh (EG (Aw r L)))))
  (hfm:hp L=some (.frame [("text",tv),("self",.ref t)])) (hsq:Bw tv (w.map As.av) hp) :
  wpAny (model C.prog C.w) A (pyNext (.ref ga)) (IR C F G hp X (Aw r L) ga g (fun a b c d=>hp a=none∧hp b=none∧hp c=none∧d=ga) (B1 X.key [] w)) Bz s:=
 IA hA hl hroom W hga (.inl ⟨rfl,rfl,rfl⟩) (Gh T hA W (show Fs A.in1 G from hFs) hX hz hr hnc hga hfm hsq)
end
section
variable {C:Cf} {A:Around} {s:Shared} {σ:Am} {F G:FH} {env:Env}
structure Na (r:FdRest) (L:Addr) (t:Addr) (tv:AV) (hp:HP) (ga:Addr) (g:Nat):Prop where
 gen:hp ga=some (.gen g (.fresh (EG (Aw r L))))
 frm:hp L=some (.frame [("text",tv),("self",.ref t)])
 nc:Cd (Aw r L)
theorem MN (T:Tp C) {t:Addr} {tv:AV} {hp:HP} (hroom:A.depth<recursionLimit) :
  Fn C A (.ref 94) [.ref t,tv] [] hp (fun v hp'=>∃r L ga g,v=.ref ga∧Na r L t tv hp' ga g∧hp L=none∧hp ga=none∧(∀a,hp a≠none→hp' a=hp a)):=by
 refine xa1_1 T.f_gen ?_;intro r hf
 refine Nc (body:=Hl.body) hf (JC C r _ _) (fun L ga g h1 h2 h3 h4=>⟨r,L,ga,g,rfl,⟨Ae _ _ _,(Ac _ _ h3).trans (Ae _ _ _),h4⟩,h1,h2,fun a ha=>?_⟩) hroom (by kernel_rfl) (by kernel_rfl) (by kernel_rfl) (by kernel_rfl) (by kernel_rfl)
 exact (Ac _ _ (by rintro rfl;exact ha h2)).trans (Ac _ _ (by rintro rfl;exact ha h1))
theorem Ld (T:Tp C) {X:Ad} {t d:Addr} {ci:Bool} {tv tv2:AV} {hp:HP} (hroom:A.depth+1<recursionLimit) (hr:AJ X t d true ci hp) (hlo:Iq ci tv tv2) :
  Fn C A (.ref 87) [.ref t,tv] [] hp (fun v hp'=>∃r L ga g,v=.ref ga∧Na r L t tv2 hp' ga g∧hp L=none∧hp ga=none∧(∀a,hp a≠none→hp' a=hp a)):=by
 refine xa1_1 T.f_all ?_;intro r hf
 refine xa1_1 T.f_gen ?_;intro r' hf'
 refine C7 (body:=Le.body) hf (JF C r _ _) (fun L=>?_) (by with_reducible exact Ff ‹_›) (by kernel_rfl) (by kernel_rfl) (by kernel_rfl) (by kernel_rfl) (by kernel_rfl)
 refine Aa (Bc (Nd (Bd (Ap (Ab rfl (Bp T.n_fin hr.tree hr.ns rfl (AK (Al ?_))))))))
 have c1:=MN (A:=A.deeper (callEnv (r.fd Le .none) L 87)) (t:=t) (tv:=tv2) (hp:=hp) T (by exact hroom)
 cases hlo with
 |no=>
  refine Aa (Bc (Bd (Ap (Ab rfl (Bp T.n_ci hr.tree hr.ns rfl (AK (Al ?_)))))))
  refine Aa (Dj (A7 (Ab rfl (B0 T.m_gen hr.tree hr.ns rfl (AM (Ab rfl (A3 (AF (B8 hf' (Fn.mono c1 ?_))))))))))
  exact fun v hp' h=>h
 |@yes x hx=>
  refine Aa (Bc (Bd (Ap (Ab rfl (Bp T.n_ci hr.tree hr.ns rfl (AK (Aa (Br [] (.str (Txt.lower x)) (H4 (Af rfl) hx) (Al ?_)))))))))
  refine Aa (Dj (A7 (Ab rfl (B0 T.m_gen hr.tree hr.ns rfl (AM (Ab rfl (A3 (AF (B8 hf' (Fn.mono c1 ?_))))))))))
  exact fun v hp' h=>h
end
section
variable {C:Cf} {A:Around} {s:Shared} {σ:Am} {F G:FH} {env:Env}
theorem GR:isSubtype (.type "StopIteration") (.type "BaseException")=pure true:=by rw [isSubtype_type];kernel_rfl
theorem GQ:isSubtype (.type "StopIteration") (.type "StopIteration")=pure true:=by rw [isSubtype_type];kernel_rfl
theorem GY:isSubtype (.type ((Manifest.find? "StopIteration").elim "type" fun y=>y.metatype)) (.type "tuple")=pure false:=by
 rw [find?_eq_fast]
 have e:(fastFind? "StopIteration").elim "type" (fun y=>y.metatype) = "type":=by kernel_rfl
 rw [e,isSubtype_type];kernel_rfl
theorem KC {h:Heap} {e:Addr} (hle:h.objs.size≤e):h.get? e=none:=by
 cases x:h.get? e with
 |none=>rfl
 |some o=>exact absurd (Heap.lt_size x) (Nat.not_lt.mpr hle)
theorem Jl {ga:Addr} {g:Nat} {gs:GenState} {E:Value→Shared→Prop} {Q:Value→Shared→Prop} (hh:A.handled=none) (hl:s.heap.NoLimit) (hroom:A.depth<recursionLimit) (hg:s.heap.IsGen ga g) (hgs:s.gens[g]? = some gs) {c₀:Code} {t₀:Sem Fin} {fs₀:List Frame}
  (hst:(gs=.fresh c₀∧t₀=denote table c₀∧fs₀=[])∨(∃k₀ l₀ p₀ cl,gs=.suspended k₀ l₀ c₀ p₀ fs₀ cl∧t₀=k₀ (.send .none)))
  (x:SegX (model C.prog C.w) A.in1.in1 c₀ t₀ fs₀ (s.setGen g .running) (fun (e:End) (s₁:Shared)=>match e with
   |.ret r=>r=.ok (.ret .none)∧∀(h':Heap) (e:Addr),(∀b o,s₁.heap.get? b=some o→h'.get? b=some o)→s₁.heap.get? e=none→(∃oe vs,h'.get? e=some oe∧oe.cls=.type "StopIteration"∧oe.data=.fields vs∧vs[1]? = some .none)→E (.ref e) { s₁.setGen g .finished with heap:=h' }
   |.susp v _ _ _ _ _ _=>Q v (s₁.setGen g e.genState))):wpAny (model C.prog C.w) A (call (.builtin "next") [.ref ga]) Q E s:=by
 refine PySem.Calls.call_function_entry (by decide +kernel) (by decide +kernel) PySem.W.kdk_entry_next (PySem.W.kdk_args_next _) ?_
 unfold Builtin.«next»
 refine wpAny_bind (m:=someArgs "next" 1 2 _) (wpAny_of_eq (a:=[Value.ref ga]) (by first|rfl|kernel_rfl!) ?_)
 dsimp only
 refine wpAny_bind (wpAny_specialOf (name:=Str.ofString "__next__") hg.typeIs slot_gen_next.lookup ?_)
 refine wpAny_ite_split (fun hab=>absurd hab (by decide)) (fun zu=>?_)
 refine wpAny_bind (wpAny_callSpecial?_slot (name:=Str.ofString "__next__") hg.typeIs slot_gen_next
  (wpAny_call_entry slot_gen_next hg.typeIs entry_gen_next ?_ (args_gen_next _)))
 show wpAny _ _ (Builtin.Generator.genWake (.ref ga) (.send .none)) _ _ s
 unfold Builtin.Generator.genWake
 refine wpAny_bind (wpAny_holding (wpAny_genNumber hg (wpAny_bind (wpAny_genState hgs ?_))))
 have hst':(gs=.fresh c₀∧Resume.send Value.none=.send .none∧t₀=denote table c₀∧fs₀=[])∨(∃k₀ l₀ p₀ cl,gs=.suspended k₀ l₀ c₀ p₀ fs₀ cl∧t₀=k₀ (.send .none)):=hst.imp_left (fun ⟨a,b,c⟩=>⟨a,rfl,b,c⟩)
 have fin:∀(kk:GenResult→Sem Fin) (Q':Fin→Shared→Prop) (E':Value→Shared→Prop),(∀v s',Q v s'→wpAny (model C.prog C.w) A.in1.in1 (kk (.yielded v)) Q' E' s') →
   (∀(s₁:Shared),(∀(h':Heap) (e:Addr),(∀b o,s₁.heap.get? b=some o→h'.get? b=some o)→s₁.heap.get? e=none→(∃oe vs,h'.get? e=some oe∧oe.cls=.type "StopIteration"∧oe.data=.fields vs∧vs[1]? = some .none)→E (.ref e) { s₁.setGen g .finished with heap:=h' })→wpAny (model C.prog C.w) A.in1.in1 (kk (.returned .none)) Q' E' (s₁.setGen g .finished))→wpAny (model C.prog C.w) A.in1.in1 (.resume g (.send .none) [] kk) Q' E' s:=by
  intro kk Q' E' h1 h2
  refine I5 hgs hst' (x.mono fun e s₁ h=>?_)
  cases e with
  |ret r=>refine xa0_2 h ?_;(try clear h);rintro rfl;intro h;exact h2 s₁ h
  |susp v a b c d e f=>exact h1 v _ h
 rcases hst with ⟨rfl,zu,zu⟩|⟨k₀,l₀,p₀,cl,rfl,zu⟩
 all_goals
  refine wpAny_bind (wpAny_roomToWake (A:=A.in1.in1) hl hroom ?_)
  show wpAny _ _ (.resume g (.send .none) [] _) _ _ s
  refine fin _ _ _ (fun v s' h=>wpAny_pure ⟨v,rfl,wpAny_pure ⟨v,rfl,h⟩⟩) (fun s₁ hp=>?_)
  show wpAny _ _ (newExc (.type "StopIteration") [] >>= _) _ _ _
  refine wpAny_bind ?_
  simp only [newExc,newTuple]
  refine wpAny_bind (wpAny_newObj_type ?_ (by size_fits))
  refine wpAny_bind (m:=firstArgMember _ _) (wpAny_of_eq (a:=Value.none) (by first|rfl|(simp only [firstArgMember];rfl)) ?_)
  refine wpAny_newObj_type ?_ (by size_fits)
  simp only [raiseNew]
  refine wpAny_bind (wpAny_bind (wpAny_handled ?_))
  rw [show A.in1.in1.handled=none from hh]
  refine wpAny_throw ?_
  refine hp _ _ (fun b o hb=>Heap.get?_push_of_some _ (Heap.get?_push_of_some _ hb)) ?_ ⟨_,_,Heap.get?_push_size _ rfl,rfl,rfl,rfl⟩
  refine KC ?_
  rw [Heap.size_push];exact Nat.le_succ _
end
section
variable {C:Cf} {A:Around} {s:Shared} {hp:HP} {F G:FH}
theorem Wd.free (W:Wd C F G hp s) {b:Addr} (h:s.heap.get? b=none):F b=none∧G b=none∧hp b=none:=by
 refine ⟨?_,?_,?_⟩
 ·cases e:F b with
  |none=>rfl
  |some o=>rw [W.fz b o e] at h;exact Ao h
 ·cases e:G b with
  |none=>rfl
  |some o=>refine xa1_2 (W.gz b o e) ?_;intro o' ho zu;rw [ho] at h;exact Ao h
 ·cases e:hp b with
  |none=>rfl
  |some x=>refine cps fun zP zk=>?_;(rcases W.ob b x e with ⟨zu,zu,o,ho,zu⟩)<;>(refine zk ?_;clear zk zP);rw [ho] at h;exact Ao h
noncomputable def N4 (C:Cf) (F G:FH) (hp:HP) (genv:Env) (ga:Addr) (Pd:Addr→Addr→Addr→Addr→Prop) (e:Value) (s₁:Shared):Prop:=
 ∃x F' hp' ea ia ba jx,e=.ref x∧Pd ea ia ba jx∧A6 F F'∧Wd C F' G hp' s₁∧(F' x=none∧G x=none∧hp' x=none)∧(∃oe vs,s₁.heap.get? x=some oe∧oe.cls=.type "StopIteration"∧oe.data=.fields vs∧vs[1]? = some .none) ∧
  (∀a,hp a≠none→a≠ga→a≠ea→a≠ia→a≠genv.locals→a≠jx→hp' a=hp a)
theorem GZ {ga:Addr} {g:Nat} {gs:GenState} {X:Ad} {genv:Env} {Pd:Addr→Addr→Addr→Addr→Prop} {rem:List AV} (hh:A.handled=none) (hl:C.h0.NoLimit) (hroom:A.depth<recursionLimit) (W:Wd C F G hp s) (hga:hp ga=some (.gen g gs)) {c₀:Code} {t₀:Sem Fin} {fs₀:List Frame}
  (hst:(gs=.fresh c₀∧t₀=denote table c₀∧fs₀=[])∨(∃k₀ l₀ p₀ cl,gs=.suspended k₀ l₀ c₀ p₀ fs₀ cl∧t₀=k₀ (.send .none)))
  (x:SegX (model C.prog C.w) A.in1.in1 c₀ t₀ fs₀ (s.setGen g .running) (fun e s'=>∃ea ia ba jx,Pd ea ia ba jx∧FB C X genv G F hp ga ea ia ba jx g rem e s')) :
  wpAny (model C.prog C.w) A (call (.builtin "next") [.ref ga]) (fun v s₁=>(∃y ys,rem=y::ys)∧IR C F G hp X genv ga g Pd rem (some v) s₁) (fun e s₁=>rem=[]∧N4 C F G hp genv ga Pd e s₁) s:=by
 refine xa0_2 (W.gen hga) ?_;intro hgg hig
 refine Jl hh (hl.keeps W.old) hroom hig hgg hst (x.mono fun e s₁ h=>?_)
 refine cps fun zP zk=>?_;(rcases h with ⟨ea,ia,ba,jx,hpd,F',hp',ex,W',hfr,hm⟩)<;>(refine zk ?_;clear zk zP)
 cases rem with
 |nil=>
  dsimp only at hm
  subst hm
  exact ⟨rfl,fun h' x hk hx hox=>⟨rfl,x,F',hp',ea,ia,ba,jx,rfl,hpd,ex,W'.keep hk,W'.free hx,hox,hfr⟩⟩
 |cons y ys=>
  dsimp only at hm
  refine xa5_4 hm ?_;(try clear hm);intro v u k rest ja hv h1 h2 h3
  cases e with
  |ret r=>
   rcases r with e|f
   ·cases hv
   ·cases f<;>cases hv
  |susp v' a b c d e f=>
   cases hv
   exact ⟨⟨y,ys,rfl⟩,F',hp',ea,ia,ba,jx,hpd,ex,W',hfr,v,u,k,rest,ja,rfl,h1,h2,h3⟩
end
section
variable {C:Cf} {A:Around} {s:Shared} {σ:Am} {F G:FH} {env:Env}
noncomputable def AL:List AV→AV
 |[]=>.none
 |y::_=>y
theorem Jz {env:Env} {σ:Am} {F F' G:FH} {s:Shared} {hp':HP} (hR:Rp C A F G env σ s) {x:Addr} (h:F' x=none∧frz G env s.heap x=none∧hp' x=none):FA F' G { σ with hp:=hp' } env x:=by
 refine xa0_3 h ?_;(try clear h);intro h1 h2 h3
 refine ⟨h1,?_,h3,?_,?_⟩
 ·cases q:G x with
  |none=>rfl
  |some o=>rw [G8 hR x o q] at h2;exact Ao h2
 ·rintro rfl
  refine xa1_2 hR.fm.ns ?_;intro m;intro zq;refine xa3_2 zq ?_;(try clear zq);intro o zu zu hL zu;intro zu
  unfold frz at h2
  rw [if_pos (.inl rfl),hL] at h2;exact Ao h2
 ·intro y hy hc
  refine cps fun zP zk=>?_;(rcases hR.fm.co y hy with ⟨c',g1,zu,zu,zu,zu,v,o,ho,zu⟩)<;>(refine zk ?_;clear zk zP)
  rw [hc] at g1;(have zc:=Option.some.inj g1;clear g1;subst zc)
  unfold frz at h2
  rw [if_pos (.inr ⟨y,hy,hc⟩),ho] at h2;exact Ao h2
theorem M7 (T:Tp C) {X:Ad} {t d:Addr} {ci:Bool} {tv tv2:AV} {w:Aj} {hp:HP} (hA:A.handled=none) (hl:C.h0.NoLimit) (hroom:A.depth+3<recursionLimit) (hX:X.Ph3) (hz:∀p∈X.D,p.length≤1000) (hr:AJ X t d true ci hp) (hlo:Iq ci tv tv2) (hsq:Bw tv2 (w.map As.av) hp) :
  Fn C A (.ref 80) [.ref t,tv] [] hp (fun v hp'=>v=AL (B1 X.key [] w)∧∀a,hp a≠none→hp' a=hp a):=by
 refine xa1_1 T.f_one ?_;intro r hf
 refine xa1_1 T.f_all ?_;intro r' hf'
 refine C7 (body:=Ji.body) hf (J9 C r _ _) (fun L=>?_) (by with_reducible exact Ff ‹_›) (by kernel_rfl) (by kernel_rfl) (by kernel_rfl) (by kernel_rfl) (by kernel_rfl)
 have c1:=Ld (A:=A.deeper (callEnv (r.fd Ji .none) L 80)) (tv:=tv) T (by show A.depth+1+1<recursionLimit;with_reducible exact I7 ‹_› (by decide)) hr hlo
 refine Aa (Ai (A7 (Ab rfl (B0 T.m_all hr.tree hr.ns rfl (AM (Ab rfl (A3 (AF (B8 hf' (Fn.mono c1 ?_))))))))))
 rintro v hp1 ⟨rg,Lg,ga,g,rfl,hG,hL0,hg0,hk1⟩
 have hr1:AJ X t d true ci hp1:=hr.off (fun a hF=>hk1 a (hr.some hF))
 have hsq1:Bw tv2 (w.map As.av) hp1:=hsq.keep (fun l zs hl=>(hk1 l (by rw [hl];simp)).trans hl)
 refine Aa ?_
 intro F G s hR
 have hgl:(Am.set ⟨[("text",tv),("self",.ref t)],hp1⟩ "result_gen" (.ref ga)).v "result_gen" = some (.ref ga):=Au
 refine wpAny_Try_except (wpAny_execs_cons (wpAny_Return_some ?_))
 show wpAny _ _ (eval _ _ >>= fun f=>callWith _ f [] _ _) _ _ _
 refine wpAny_bind (Tr.use (C8 (Q:=fun v σ'=>v=.val (.builtin "next")∧σ'=Am.set ⟨[("text",tv),("self",.ref t)],hp1⟩ "result_gen" (.ref ga)) T.g_next ⟨rfl,rfl⟩) hR (fun F1 b σ1 v1 s1 e1 hv hR1 q=>?_))
 refine xa0_2 q ?_;(try clear q);rintro rfl;rintro rfl
 (have zc:=VR.valI hv;clear hv;subst zc)
 refine Bn (AS rfl rfl (Tr.use (AM (Q:=fun vs σ'=>vs=[.ref ga]∧σ'=Am.set ⟨[("text",tv),("self",.ref t)],hp1⟩ "result_gen" (.ref ga)) (Ab hgl (A3 ⟨rfl,rfl⟩))) hR1 (fun F2 b σ2 vs s2 e2 hvs hR2 q=>?_)))
 refine xa0_2 q ?_;(try clear q);rintro rfl;rintro rfl
 refine xa2_3 hvs.inv ?_;intro v3 zu;rintro rfl;intro hv3 hvs
 obtain rfl:=hvs.inv0
 (have zc:=VR.refI hv3;clear hv3;subst zc)
 refine Tr.use (AF (Q:=fun ks σ'=>ks=[]∧σ'=Am.set ⟨[("text",tv),("self",.ref t)],hp1⟩ "result_gen" (.ref ga)) ⟨rfl,rfl⟩) hR2 (fun F3 b σ3 ks s3 e3 hks hR3 q=>?_)
 refine xa0_2 q ?_;(try clear q);rintro rfl;rintro rfl
 obtain rfl:=hks.inv0
 refine ⟨AG (by intro a;simp),?_⟩
 have hfrm:∀{hp':HP} {ea ia ba jx:Addr},(hp1 ea=none∧hp1 ia=none∧hp1 ba=none∧jx=ga)→(∀a,hp1 a≠none→a≠ga→a≠ea→a≠ia→a≠Lg→a≠jx→hp' a=hp1 a)→∀a,hp a≠none→hp' a=hp a:=by
  intro hp' ea ia ba jx ⟨p1,p2,p3,p4⟩ h a ha
  have e:=hk1 a ha
  have h1:hp1 a≠none:=by rw [e];exact ha
  rw [←e]
  refine h a h1 ?_ ?_ ?_ ?_ ?_
  ·rintro rfl;exact ha hg0
  ·rintro rfl;exact h1 p1
  ·rintro rfl;exact h1 p2
  ·rintro rfl;exact ha hL0
  ·rw [p4];rintro rfl;exact ha hg0
 refine wpAny_mono (GZ (X:=X) (rem:=B1 X.key [] w) (A:=A.deeper (callEnv (r.fd Ji .none) L 80)) (by exact hA) hl (by show A.depth+1<recursionLimit;with_reducible exact Kj ‹_› (by decide)) (HV hR3) hG.gen (.inl ⟨rfl,rfl,rfl⟩) (Gh T (by exact hA) (HV hR3) (show Fs (A.deeper _) _ from KE hR3) hX hz hr1 hG.nc hG.gen hG.frm hsq1)) (fun v s4 z=>?_) (fun e s4 z=>?_)
 ·refine cps fun zP zk=>?_;(rcases z with ⟨⟨y,ys,hrem⟩,F4,hp4,ea,ia,ba,jx,hpd,ex,W4,hfr,hm⟩)<;>(refine zk ?_;clear zk zP)
  have hR4:=G7 hR3 ex W4
  rw [hrem] at hm ⊢
  refine xa5_4 hm ?_;(try clear hm);intro v' u k rest ja hv' hvr zu zu
  (have zc:=Option.some.inj hv';clear hv';subst zc)
  exact ⟨F4,.ret y,_,e1.trans (e2.trans (e3.trans ex)),.ret hvr,hR4,rfl,hfrm hpd hfr⟩
 ·refine cps fun zP zk=>?_;(rcases z with ⟨hrem,x,F4,hp4,ea,ia,ba,jx,rfl,hpd,ex,W4,hlo,⟨oe,vs,hoe,hc,hd,h1⟩,hfr⟩)<;>(refine zk ?_;clear zk zP)
  have hR4:=G7 hR3 ex W4
  replace hlo:=Jz hR3 hlo
  have ee:=e1.trans (e2.trans (e3.trans ex))
  have hq:AV.none=AL (B1 X.key [] w):=by rw [hrem];rfl
  refine wpAny_mono (KT (E:=Bz) (T:="StopIteration") (Q:=fun fl σ'=>match fl with|.ret v=>v=AL (B1 X.key [] w)∧∀a,hp a≠none→σ'.hp a=hp a|_=>False) hR4 hlo hoe hc hd h1 (by rfl) GR GY GQ T.g_SI (Aa (Dj (Bv ⟨hq,hfrm hpd hfr⟩))) (by rfl) (by rfl) (by rfl) (by rfl) (by decide)) (fun zu zu z=>wpAny_mono z (fun zu zu z=>wpAny_mono z (fun fl s5 z=>?_) fun zu zu x=>x) fun zu zu x=>x) fun zu zu x=>x
  refine cps fun zP zk=>?_;(rcases z with ⟨F5,b,σ5,e5,r5,hR5,q5⟩)<;>(refine zk ?_;clear zk zP)
  refine ⟨F5,b,σ5,ee.trans e5,r5,hR5,?_⟩
  cases b with
  |ret v=>exact q5
  |_=>exact q5.elim
end
section
section
variable {C:Cf} {A:Around} {s:Shared} {hp:HP} {F G:FH} {E:Value→Shared→Prop}
noncomputable abbrev Kt (vs:List Value) (n:Nat):Obj:={ cls:=.type "list",dict:=none,data:=.seq vs.toArray n,slots:=#[] }
theorem Hk {G:FH} {S:Addr} {o:Obj} (h:G S=none):A6 G (AR G S o):=AQ o h
theorem Fs.put {S:Addr} {o:Obj} (h:Fs A G) (hG:G S=none):Fs A (AR G S o):=let ⟨l,a,b⟩:=h;⟨l,a,fun e he=>(b e he).mono (Hk hG)⟩
theorem Wd.turnG {S:Addr} {o o':Obj} (W:Wd C F (AR G S o) hp s) {h':Heap} {t:Nat} (ho:h'.get? S=some o') (k:∀b ob,b≠S→s.heap.get? b=some ob→h'.get? b=some ob):Wd C F (AR G S o') hp ⟨h',s.gens,s.drawn,t,s.os⟩:=by
 have hS:AR G S o S=some o:=Ar _ _ _
 have no:∀{b},AR G S o b=none→b≠S∧AR G S o' b=none:=fun {b} e=>by
  have n:b≠S:=by rintro rfl;rw [hS] at e;exact Ao e
  rw [Az _ _ n] at e
  exact ⟨n,by rw [Az _ _ n];exact e⟩
 refine ⟨W.base,fun b ob e=>k b ob (no (W.fg b ob e)).1 (W.fz b ob e),fun b ob e=>?_,fun a x e=>?_,W.os,W.bare,W.gi,fun b ob e=>(no (W.fg b ob e)).2⟩
 ·by_cases q:b=S
  ·subst q;rw [Ar] at e;(have zc:=Option.some.inj e;clear e;subst zc);exact ⟨_,ho,.inl rfl⟩
  ·rw [Az _ _ q] at e
   refine xa1_2 (W.gz b ob (by rw [Az _ _ q];exact e)) ?_;intro o2 h1 h2
   exact ⟨o2,k _ _ q h1,h2⟩
 ·refine cps fun zP zk=>?_;(rcases W.ob a x e with ⟨p,q,o2,h1,r⟩)<;>(refine zk ?_;clear zk zP)
  exact ⟨p,(no q).2,o2,k _ _ (no q).1 h1,r⟩
theorem Wd.pushG (W:Wd C F G hp s) {t:Nat} {o:Obj} (hf:o.isFreed=false):Wd C F (AR G s.heap.objs.size o) hp ⟨s.heap.push o,s.gens,s.drawn,t,s.os⟩:=by
 refine xa0_3 (W.lt (Nat.le_refl _)) ?_;intro z1 z2 z3
 have k:∀b ob,s.heap.get? b=some ob→(s.heap.push o).get? b=some ob:=fun b ob e=>Heap.get?_push_of_some _ e
 refine ⟨W.base,fun b ob e=>k _ _ (W.fz b ob e),fun b ob e=>?_,fun a x e=>?_,W.os,W.bare,W.gi,fun b ob e=>?_⟩
 ·by_cases q:b=s.heap.objs.size
  ·subst q;rw [Ar] at e;(have zc:=Option.some.inj e;clear e;subst zc);exact ⟨_,Heap.get?_push_size _ hf,.inl rfl⟩
  ·rw [Az _ _ q] at e
   refine xa1_2 (W.gz b ob e) ?_;intro o2 h1 h2
   exact ⟨o2,k _ _ h1,h2⟩
 ·refine cps fun zP zk=>?_;(rcases W.ob a x e with ⟨p,q,o2,h1,r⟩)<;>(refine zk ?_;clear zk zP)
  exact ⟨p,(Az _ _ (by rintro rfl;rw [z3] at e;exact Ak e)).trans q,o2,k _ _ h1,r⟩
 ·rw [Az]
  ·exact W.fg b ob e
  ·rintro rfl;rw [z1] at e;exact Ak e
theorem Wd.heldAt {S:Addr} {o:Obj} (W:Wd C F (AR G S o) hp s) (hd:∀es ep,o.data≠.dict es ep):s.heap.get? S=some o:=by
 refine xa1_2 (W.gz S o (Ar _ _ _)) ?_;intro o' h1 g
 rw [h1,g.exact hd]
theorem Wd.heldOff {S:Addr} {o:Obj} (W:Wd C F (AR G S o) hp s):F S=none∧hp S=none:=by
 refine ⟨?_,?_⟩
 ·cases q:F S with
  |none=>rfl
  |some o'=>have:=W.fg S o' q;rw [Ar] at this;exact Ao this
 ·cases q:hp S with
  |none=>rfl
  |some o'=>have:=(W.ob S o' q).2.1;rw [Ar] at this;exact Ao this
theorem Wd.sealG {S:Addr} {o:Obj} (W:Wd C F (AR G S o) hp s) (hG:G S=none) (hd:∀es ep,o.data≠.dict es ep):Wd C (AR F S o) G hp s∧A6 F (AR F S o):=by
 refine xa0_2 W.heldOff ?_;intro z1 z3
 have ex:=AQ o z1
 have no:∀{b},AR G S o b=none→b≠S∧G b=none:=fun {b} e=>by
  have n:b≠S:=by rintro rfl;rw [Ar] at e;exact Ao e
  rw [Az _ _ n] at e
  exact ⟨n,e⟩
 refine ⟨⟨fun b ob e=>ex _ _ (W.base b ob e),fun b ob e=>?_,fun b ob e=>W.gz b ob (Hk hG _ _ e),fun a x e=>?_,W.os,W.bare,W.gi,fun b ob e=>?_⟩,ex⟩
 ·by_cases q:b=S
  ·subst q;rw [Ar] at e;(have zc:=Option.some.inj e;clear e;subst zc);exact W.heldAt hd
  ·rw [Az _ _ q] at e;exact W.fz b ob e
 ·refine cps fun zP zk=>?_;(rcases W.ob a x e with ⟨p,q,o2,h1,r⟩)<;>(refine zk ?_;clear zk zP)
  exact ⟨by rw [Az _ _ (no q).1];exact p,(no q).2,o2,h1,r.mono ex⟩
 ·by_cases q:b=S
  ·subst q;exact hG
  ·rw [Az _ _ q] at e;exact (no (W.fg b ob e)).2
noncomputable def Of (C:Cf) (G F:FH) (Q:AV→HP→Prop) (v:Value) (s':Shared):Prop:=∃F' av hp',A6 F F'∧VR F' av v∧Wd C F' G hp' s'∧Q av hp'
noncomputable def Cl (C:Cf) (A:Around) (f:Value) (args:List AV) (hp:HP) (Q:AV→HP→Prop):Prop:=
 ∀F G s vs (E:Value→Shared→Prop),Fs A G→Wd C F G hp s→VRs F args vs→wpAny (model C.prog C.w) A (PySem.call f vs) (Of C G F Q) E s
theorem Fn.cl {f:Value} {args:List AV} {Q:AV→HP→Prop} (h:Fn C A f args [] hp Q):Cl C A f args hp Q:=fun F G s vs E fs W hv=>
 wpAny_call (codeAny_mono (h F G s vs [] fs W hv .nil) fun r s' ⟨F',v,av,hp',a,b,c,d,q⟩=>by subst a;exact ⟨F',av,hp',b,c,d,q⟩)
theorem Cl.mono {f:Value} {args:List AV} {Q Q':AV→HP→Prop} (h:Cl C A f args hp Q) (k:∀v hp',Q v hp'→Q' v hp'):Cl C A f args hp Q':=fun F G s vs E fs W hv=>
 wpAny_mono (h F G s vs E fs W hv) (fun v s' ⟨F',av,hp',b,c,d,q⟩=>⟨F',av,hp',b,c,d,k _ _ q⟩) fun zu zu x=>x
inductive H2 (C:Cf) (X:Ad) (t d:Addr) (hp:HP) (ga:Addr):List AV→(Addr→Prop)→Prop
 |fresh {r:FdRest} {L:Addr} {tv:AV} {g:Nat} {w:Aj}:Na r L t tv hp ga g→Bw tv (w.map As.av) hp→(∀l,tv=.ref l→l≠ga∧l≠L)→¬Fp X t d ga→¬Fp X t d L→H2 C X t d hp ga (B1 X.key [] w) (fun a=>a=ga∨a=L)
 |susp {r:FdRest} {L ea ia ba ja:Addr} {g:Nat} {u rest:Aj} {k:Nat}:Cd (Aw r L)→Me C X (Aw r L) hp ga ea ia ba ja g u k rest →
   ¬Fp X t d ga→¬Fp X t d L→¬Fp X t d ea→¬Fp X t d ia→¬Fp X t d ja→H2 C X t d hp ga (DI X.key u k rest) (fun a=>a=ga∨a=L∨a=ea∨a=ia∨a=ba∨a=ja)
noncomputable def NQ (C:Cf) (F G:FH) (hp:HP) (X:Ad) (t d ga:Addr) (N:Addr→Prop) (rem:List AV) (r:Option Value) (s₁:Shared):Prop:=
 ∃F' hp',A6 F F'∧Wd C F' G hp' s₁∧(∀a,hp a≠none→¬N a→hp' a=hp a) ∧
  match rem with
  |[]=>r=none
  |y::ys=>∃v N',r=some v∧VR F' y v∧H2 C X t d hp' ga ys N'∧∀a,N' a→N a∨hp a=none
theorem H2.next (T:Tp C) {X:Ad} {t d ga:Addr} {ci:Bool} {rem:List AV} {N:Addr→Prop} (hA:A.handled=none) (hl:C.h0.NoLimit) (hroom:A.depth<recursionLimit) (W:Wd C F G hp s) (hFs:Fs A G) (hX:X.Ph3) (hz:∀p∈X.D,p.length≤1000) (hr:AJ X t d true ci hp) (hS:H2 C X t d hp ga rem N) :
  wpAny (model C.prog C.w) A (pyNext (.ref ga)) (NQ C F G hp X t d ga N rem) Bz s:=by
 cases hS with
 |@fresh r L tv g w hF hq hsep f1 f2=>
  refine wpAny_mono (Jx T hA hl hroom W hFs hX hz hr hF.nc hF.gen hF.frm hq) (fun res s₁ z=>?_) fun zu zu x=>x
  refine xa6_5 z ?_;(try clear z);intro F' hp' ea ia ba jx;intro zq;refine xa0_4 zq ?_;(try clear zq);intro p1 p2 p3;rintro rfl;intro e W' fr hm
  refine ⟨F',hp',e,W',fun a h1 h2=>fr a h1 (fun q=>h2 (.inl q)) (fun q=>h1 (q▸p1)) (fun q=>h1 (q▸p2)) (fun q=>h2 (.inr q)) (fun q=>h2 (.inl q)),?_⟩
  cases hrem:B1 X.key [] w with
  |nil=>rw [hrem] at hm;exact hm
  |cons y ys=>
   rw [hrem] at hm
   refine xa5_5 hm ?_;(try clear hm);intro v u k rest ja q1 q2 q3 q4 q5
   have nf:∀{a},hp a=none→¬Fp X t d a:=fun h hf=>hr.some hf h
   have fja:¬Fp X t d ja:=by
    rcases q5 with q5|q5
    ·exact nf q5
    ·rw [q5];exact f1
   subst q4
   refine ⟨v,_,q1,q2,H2.susp hF.nc q3 f1 f2 (nf p1) (nf p2) fja,fun a ha=>?_⟩
   rcases ha with rfl|rfl|rfl|rfl|rfl|rfl
   ·exact .inl (.inl rfl)
   ·exact .inl (.inr rfl)
   ·exact .inr p1
   ·exact .inr p2
   ·exact .inr p3
   ·rcases q5 with q5|q5
    ·exact .inr q5
    ·exact .inl (.inl q5)
 |@susp r L ea ia ba ja g u rest k nc hG f1 f2 f3 f4 f5=>
  refine wpAny_mono (KD T hA hl hroom W hFs hX hz hr nc hG) (fun res s₁ z=>?_) fun zu zu x=>x
  refine xa6_5 z ?_;(try clear z);intro F' hp' ea' ia' ba' jx;intro zq;refine xa0_4 zq ?_;(try clear zq);rintro rfl;rintro rfl;rintro rfl;rintro rfl;intro e W' fr hm
  refine ⟨F',hp',e,W',fun a h1 h2=>fr a h1 (fun q=>h2 (.inl q)) (fun q=>h2 (.inr (.inr (.inl q)))) (fun q=>h2 (.inr (.inr (.inr (.inl q))))) (fun q=>h2 (.inr (.inl q))) (fun q=>h2 (.inr (.inr (.inr (.inr (.inr q)))))),?_⟩
  cases hrem:DI X.key u k rest with
  |nil=>rw [hrem] at hm;exact hm
  |cons y ys=>
   rw [hrem] at hm
   refine xa5_5 hm ?_;(try clear hm);intro v u' k' rest' ja' q1 q2 q3 q4 q5
   have nf:∀{a},hp a=none→¬Fp X t d a:=fun h hf=>hr.some hf h
   have fja:¬Fp X t d ja':=by
    rcases q5 with q5|q5
    ·exact nf q5
    ·rw [q5];exact f5
   subst q4
   refine ⟨v,_,q1,q2,H2.susp nc q3 f1 f2 f3 f4 fja,fun a ha=>?_⟩
   rcases ha with rfl|rfl|rfl|rfl|rfl|rfl
   ·exact .inl (.inl rfl)
   ·exact .inl (.inr (.inl rfl))
   ·exact .inl (.inr (.inr (.inl rfl)))
   ·exact .inl (.inr (.inr (.inr (.inl rfl))))
   ·exact .inl (.inr (.inr (.inr (.inr (.inl rfl)))))
   ·rcases q5 with q5|q5
    ·exact .inr q5
    ·exact .inl (.inr (.inr (.inr (.inr (.inr q5)))))
theorem H2.gen {X:Ad} {t d ga:Addr} {hp:HP} {rem:List AV} {N:Addr→Prop} (h:H2 C X t d hp ga rem N):∃g gs,hp ga=some (.gen g gs):=by
 cases h with
 |fresh a=>exact ⟨_,_,a.gen⟩
 |susp zu a=>refine xa1_2 a.gen ?_;intro gs h zu;exact ⟨_,gs,h⟩
theorem H2.sep {X:Ad} {t d ga:Addr} {ci:Bool} {hp:HP} {rem:List AV} {N:Addr→Prop} (hr:AJ X t d true ci hp) (h:H2 C X t d hp ga rem N) {a:Addr} (hf:Fp X t d a):¬N a:=by
 cases h with
 |fresh g q sp f1 f2=>
  rintro (rfl|rfl)
  ·exact f1 hf
  ·exact f2 hf
 |susp nc g f1 f2 f3 f4 f5=>
  rintro (rfl|rfl|rfl|rfl|rfl|rfl)
  ·exact f1 hf
  ·exact f2 hf
  ·exact f3 hf
  ·exact f4 hf
  ·have hb:=g.bnd
   rcases hf with rfl|rfl|⟨p,hp',rfl|rfl⟩
   ·rw [hr.tree] at hb;exact AO.noConfusion (Option.some.inj hb)
   ·rw [hr.ns] at hb;exact AO.noConfusion (Option.some.inj hb)
   ·rw [hr.nd p hp'] at hb;exact AO.noConfusion (Option.some.inj hb)
   ·refine xa1_1 (hr.td p hp') ?_;intro ep h;rw [h] at hb;exact AO.noConfusion (Option.some.inj hb)
  ·exact f5 hf
theorem KI (T:Tp C) {X:Ad} {t d ga S:Addr} {ci:Bool} (hA:A.handled=none) (hl:C.h0.NoLimit) (hroom:A.depth+1<recursionLimit) (hFs:Fs A (AR G S (Kt [] 0))) (hG:G S=none) (hX:X.Ph3) (hz:∀p∈X.D,p.length≤1000) {F₀:FH} {hp₀:HP} {N₀:Addr→Prop} {R:Result→Shared→Prop} :
  ∀(rem:List AV) (ys:List AV) (vs:List Value) (n:Nat) (F:FH) (hp:HP) (s:Shared) (N:Addr→Prop),ys.length+rem.length≤100000→A6 F₀ F→VRs F ys vs→Wd C F (AR G S (Kt vs n)) hp s→AJ X t d true ci hp→H2 C X t d hp ga rem N →
   (∀a,hp₀ a≠none→¬N₀ a→hp a=hp₀ a)→(∀a,N a→N₀ a∨hp₀ a=none) →
   (∀F' hp' s' us m,A6 F₀ F'→VRs F' (ys++rem) us→Wd C F' (AR G S (Kt us m)) hp' s'→(∀a,hp₀ a≠none→¬N₀ a→hp' a=hp₀ a)→R (.ok (.ret .none)) s') →
   codeAny (model C.prog C.w) A (.builtin "list.extend.loop" ⟨[.ref S,.ref ga,.none],[]⟩) R s:=by
 intro rem
 have fsn:∀vs n,Fs A.in1 (AR G S (Kt vs n)):=fun vs n=>by
  refine xa1_2 hFs ?_;(try clear hFs);intro l a b
  refine ⟨l,a,fun e he=>?_⟩
  refine cps fun zP zk=>?_;(rcases b e he with ⟨p,L,o,h1,h2,es,ep,h3⟩)<;>(refine zk ?_;clear zk zP)
  refine ⟨p,L,o,h1,?_,es,ep,h3⟩
  by_cases q:L=S
  ·subst q;rw [Ar] at h2;(have zc:=Option.some.inj h2;clear h2;subst zc);cases h3
  ·rw [Az _ _ q] at h2 ⊢;exact h2
 induction rem with
 |nil=>
  intro ys vs n F hp s N hlen e hv W hr hS hfr hN hR'
  refine codeAny_builtin PySem.F.entry_extend_loop ?_
  rw [Around.under_plainId PySem.F.plain_extend_loop _]
  show wpAny _ A.in1 (pyNext (.ref ga) >>= _) _ _ s
  refine wpAny_bind (wpAny_mono (H2.next T (A:=A.in1) hA hl (Nat.lt_of_succ_lt hroom) W (fsn _ _) hX hz hr hS) (fun r s₁ z=>?_) fun zu zu x=>x.elim)
  refine xa2_4 z ?_;(try clear z);intro F' hp' e' W₁ fr;rintro rfl
  refine wpAny_pure (hR' F' hp' s₁ vs n (e.trans e') (by rw [List.append_nil];exact hv.mono e') W₁ (fun a h1 h2=>?_))
  rw [fr a (by rw [hfr a h1 h2];exact h1) (fun h=>by rcases hN a h with q|q;exact h2 q;exact h1 q)]
  exact hfr a h1 h2
 |cons y rem ih=>
  intro ys vs n F hp s N hlen e hv W hr hS hfr hN hR'
  refine codeAny_builtin PySem.F.entry_extend_loop ?_
  rw [Around.under_plainId PySem.F.plain_extend_loop _]
  show wpAny _ A.in1 (pyNext (.ref ga) >>= _) _ _ s
  refine wpAny_bind (wpAny_mono (H2.next T (A:=A.in1) hA hl (Nat.lt_of_succ_lt hroom) W (fsn _ _) hX hz hr hS) (fun r s₁ z=>?_) fun zu zu x=>x.elim)
  refine cps fun zP zk=>?_;(rcases z with ⟨F',hp',e',W₁,fr,v,N',rfl,hvy,hS',hN'⟩)<;>(refine zk ?_;clear zk zP)
  show wpAny _ A.in1 (updateSeq S (·.push v) >>= _) _ _ _
  refine wpAny_bind ?_
  have hL:=W₁.heldAt (fun zu zu z=>nomatch z)
  have hvs:=hv.mono e'
  have e1:=hvs.length
  have e2:ys.length+(rem.length+1)≤100000:=hlen
  have z1:vs.toArray.size<sizeLine:=by simp only [List.size_toArray,e1,sizeLine_eq];exact BV [_,_] [(1,(Za Z0 (Zs Z1)),(Zn 100000))] Z0 (Zn 16777216) rfl e2
  refine wpAny_updateSeq hL rfl (wpAny_pure ⟨plainId_quiet PySem.F.plain_extend_loop _,?_⟩) (Nat.le_of_lt z1) (by show (vs.toArray.push v).size≤sizeLine+1;rw [Array.size_push];exact Nat.succ_le_succ (Nat.le_of_lt z1))
  have hL2:IsL s₁.heap S vs.toArray n:=hL
  have hL':=hL2.update (fun x=>x.push v)
  rw [List.push_toArray] at hL'
  have W₂:=W₁.turnG (t:=s₁.toks) hL' (SameBut.rest (Heap.SameBut.update ..))
  have hr':AJ X t d true ci hp':=hr.off fun a ha=>fr a (hr.some ha) (hS.sep hr ha)
  have hfr':∀a,hp₀ a≠none→¬N₀ a→hp' a=hp₀ a:=fun a h1 h2=>by
   rw [fr a (by rw [hfr a h1 h2];exact h1) (fun h=>by rcases hN a h with q|q;exact h2 q;exact h1 q)]
   exact hfr a h1 h2
  refine ih (ys++[y]) (vs++[v]) _ F' hp' _ N' (by rw [List.length_append,Nat.add_assoc,Nat.add_comm _ rem.length];exact hlen) (e.trans e') (hvs.append (.cons hvy .nil)) W₂ hr' hS' hfr' (fun a ha=>?_) (fun F₅ hp₅ s₅ us m e₅ hv₅ W₅ hfr₅=>hR' F₅ hp₅ s₅ us m e₅ (by simpa using hv₅) W₅ hfr₅)
  rcases hN' a ha with h|h
  ·exact hN a h
  ·by_cases q:N₀ a
   ·exact .inl q
   ·right
    cases q2:hp₀ a with
    |none=>rfl
    |some x=>rw [hfr a (by rw [q2];exact fun z=>nomatch z) q,q2] at h;exact Ao h
theorem Kv (T:Tp C) {X:Ad} {t d ga:Addr} {ci:Bool} {rem:List AV} {N:Addr→Prop} (hA:A.handled=none) (hl:C.h0.NoLimit) (hroom:A.depth+2<recursionLimit) (hX:X.Ph3) (hz:∀p∈X.D,p.length≤1000) (hr:AJ X t d true ci hp) (hS:H2 C X t d hp ga rem N)
  (hlen:rem.length≤100000):Cl C A (.type "list") [.ref ga] hp (fun v hp'=>v=.lst rem∧∀a,hp a≠none→¬N a→hp' a=hp a):=by
 intro F G s vs E hFs W hvs
 refine xa2_3 hvs.inv ?_;intro v2 us2;rintro rfl;intro h3 h4
 obtain rfl:=h4.inv0
 obtain rfl:=h3.refI
 refine callType_codes (Q₁:=fun obj s₁=>obj=.ref s.heap.objs.size∧s₁={ s with heap:=s.heap.push { cls:=.type "list",data:=.seq #[] } }) PySem.F.called_list (PySem.F.typeCall_list_1 _) PySem.F.entry_list_init
  (code_list_new _ ⟨rfl,rfl⟩) fun obj s₁ h₁=>?_
 refine xa0_2 h₁ ?_;(try clear h₁);rintro rfl;rintro rfl
 have hS0:(s.heap.push { cls:=.type "list",data:=.seq #[] }).get? s.heap.objs.size=some { cls:=.type "list",data:=.seq #[] }:=Heap.get?_push_size _ rfl
 have hG:=(W.lt (Nat.le_refl s.heap.objs.size)).2.1
 have hd0:=(W.lt (Nat.le_refl s.heap.objs.size)).2.2
 have W1:=W.pushG (t:=s.toks) (o:=Kt [] 0) rfl
 refine xa2_1 hS.gen ?_;intro g0 gs0 hga
 generalize hSS:s.heap.objs.size=S at hS0 W1 hd0 hG ⊢
 have hne:S≠ga:=by rintro rfl;rw [hd0] at hga;exact Ak hga
 refine ⟨⟨_,hS0,rfl⟩,PySem.F.args_list_init_2 _ _,?_⟩
 show wpAny _ A.in1.in1 (do let old ←Builtin.List.listItems (.ref S);Builtin.List.listUpdate (.ref S) (fun zu=>#[]);letGo old.toList.reverse;Builtin.List.listExtendWith (.ref S) (.ref ga) .none) _ _ _
 refine wpAny_bind ?_
 unfold Builtin.List.listItems
 refine wpAny_bind (wpAny_seqItems hS0 rfl (wpAny_pure ?_))
 show wpAny _ A.in1.in1 (updateSeq S (fun zu=>#[]) >>= fun zu=>letGo (#[]:Array Value).toList.reverse >>= fun zu=>Builtin.List.listExtendWith (.ref S) (.ref ga) .none) _ _ _
 refine wpAny_bind (wpAny_updateSeq hS0 rfl ?_)
 have hS2:=Heap.get?_update_self (Obj.mapSeq (fun zu=>(#[]:Array Value))) hS0 rfl
 have W2:=W1.turnG (t:=s.toks) hS2 (SameBut.rest (Heap.SameBut.update ..))
 refine wpAny_bind (wpAny_letGo ?_)
 have hT:∀{s':Shared} {G':FH} {hp':HP} {F':FH},Wd C F' G' hp' s'→hp' ga=hp ga→s'.TypeIs (.ref ga) "generator":=fun W' e=>by
  refine cps fun zP zk=>?_;(rcases W'.ob ga _ (e.trans hga) with ⟨zu,zu,o,ho,r⟩)<;>(refine zk ?_;clear zk zP)
  (refine OR.genC r fun zv zv zv zv a zv zv zv zv=>?_;clear r);exact ⟨o,ho,a⟩
 unfold Builtin.List.listExtendWith
 refine wpAny_bind (wpAny_typeOf (hT W2 rfl) ?_)
 have h1:Builtin.List.listSameRef (.ref S) (.ref ga)=false:=by simp [Builtin.List.listSameRef,hne]
 have h2:(Value.type "generator" == Value.type "list")=false:=by decide
 have h3:(Value.type "generator" == Value.type "tuple")=false:=by decide
 simp only [h1,h2,h3,Bool.or_false,Bool.false_eq_true,if_false]
 refine wpAny_bind (wpAny_pyIter_gen (W2.gen hga).2 ?_)
 refine wpAny_bind (wpAny_holding ?_)
 unfold Builtin.List.listLengthHint
 refine wpAny_bind (wpAny_specialOf (hT W2 rfl) PySem.F.gen_no_len ?_)
 show wpAny _ A.in1.in1 (specialOf (Value.ref ga) (Str.ofString "__length_hint__") >>= _) _ _ _
 refine wpAny_bind (wpAny_specialOf (hT W2 rfl) PySem.F.gen_no_hint ?_)
 refine wpAny_pure ?_
 show wpAny _ A.in1.in1 (rule "list.extend.makes-room" >>= fun zu=>Builtin.List.listTouch (.ref S) >>= fun zu=>again (.builtin "list.extend.loop" ⟨[.ref S,.ref ga,.none],[]⟩)) _ _ _
 refine wpAny_bind (wpAny_rule ?_)
 refine wpAny_bind ?_
 show wpAny _ A.in1.in1 (updateSeq S (·.push .none) >>= fun zu=>updateSeq S (·.pop)) _ _ _
 refine wpAny_bind (wpAny_updateSeq hS2 rfl ?_)
 have hS3:=Heap.get?_update_self (Obj.mapSeq (·.push Value.none)) hS2 rfl
 refine wpAny_updateSeq (hz:=by seq_fits) hS3 rfl ?_
 have hS4:=Heap.get?_update_self (Obj.mapSeq (·.pop)) hS3 rfl
 have oth:∀(H:Heap) b o,b≠S→H.get? b=some o→((H.update S (Obj.mapSeq (·.push Value.none))).update S (Obj.mapSeq (·.pop))).get? b=some o:=
  fun H b o hb e=>(Heap.get?_update_other _ _ (Ne.symm hb)).trans ((Heap.get?_update_other _ _ (Ne.symm hb)).trans e)
 have W3:=W2.turnG (t:=s.toks) hS4 (oth _)
 refine wpAny_pure ⟨plainId_quiet PySem.F.plain_extend_loop _,?_⟩
 refine KI T (A:=A.in1) (G:=G) (F₀:=F) (hp₀:=hp) (N₀:=N) hA hl (by exact Nat.lt_of_succ_lt hroom) (Fs.put hFs hG) hG hX hz rem [] [] _ F hp _ N (by simpa using hlen) (A6.refl F) .nil W3 hr hS (fun zu zu zu=>rfl) (fun a ha=>.inl ha) (fun F' hp' s' us m e' hv' W' hfr=>?_)
 refine xa0_2 (W'.sealG hG (fun zu zu z=>nomatch z)) ?_;intro W5 e5
 exact ⟨rfl,_,.lst rem,hp',e'.trans e5,.lst (Ar _ _ _) rfl rfl (by simpa using hv'.mono e5),W5,rfl,hfr⟩
end
end
section
section
variable {C:Cf} {A:Around} {hp:HP} {s s':Shared} {env:Env} {F F':FH} {E:Value→Shared→Prop} {loc:PL}
noncomputable def Sub (hp hp':HP):Prop:=∀a x,hp a=some x→hp' a=some x
theorem Sub.refl (hp:HP):Sub hp hp:=fun zu zu e=>e
theorem Sub.of {hp hp':HP} (h:∀a,hp a≠none→hp' a=hp a):Sub hp hp':=fun a x e=>by rw [h a (by rw [e];exact fun z=>nomatch z)];exact e
noncomputable def Dq (F:FH) (hp:HP) (h:Heap):FH:=fun b=>match F b,hp b with|none,none=>h.get? b|_,_=>none
theorem GU {h:Heap} {b:Addr} {o:Obj} (e:Dq F hp h b=some o):F b=none∧hp b=none∧h.get? b=some o:=by
 unfold Dq at e
 split at e
 ·rename_i q1 q2;exact ⟨q1,q2,e⟩
 ·exact Ak e
theorem Fb {h:Heap} {b:Addr} (h1:F b=none) (h2:hp b=none):Dq F hp h b=h.get? b:=by
 unfold Dq
 rw [h1,h2]
theorem GT {h:Heap} {b:Addr} (k:F b=none→hp b=none→False):Dq F hp h b=none:=by
 cases q:Dq F hp h b with
 |none=>rfl
 |some o=>refine xa0_3 (GU q) ?_;intro h1 h2 zu;exact (k h1 h2).elim
theorem Wp.wd (w:Wp C A hp F s):Wd C F (Dq F hp s.heap) hp s:=
 ⟨w.base,w.fz,fun b o e=>⟨o,(GU e).2.2,.inl rfl⟩,fun a x e=>⟨(w.ob a x e).1,GT (fun zu q=>by rw [e] at q;exact Ao q),(w.ob a x e).2⟩,w.os,w.bare,w.gi,fun b o e=>GT (fun q zu=>by rw [e] at q;exact Ao q)⟩
theorem Wp.fs (w:Wp C A hp F s):Fs A (Dq F hp s.heap):=by
 refine xa1_2 w.fr ?_;intro l a b
 refine ⟨l,a,fun e he=>?_⟩
 refine cps fun zP zk=>?_;(rcases b e he with ⟨p,L,q1,q2,q3,o,q4,q5⟩)<;>(refine zk ?_;clear zk zP)
 exact ⟨p,L,o,q1,(Fb q2 q3).trans q4,q5⟩
theorem Wp.back (w:Wp C A hp F s) {hp':HP} (e:A6 F F') (W:Wd C F' (Dq F hp s.heap) hp' s') (hs:Sub hp hp'):BD C A hp F s F' s':=by
 have kg:∀b o,s.heap.get? b=some o→hp b=none→∃o',s'.heap.get? b=some o'∧EP o o':=fun b o h1 h2=>by
  cases q:F b with
  |none=>exact W.gz b o ((Fb q h2).trans h1)
  |some o'=>
   have:=w.fz _ _ q
   rw [h1] at this;(have zc:=Option.some.inj this;clear this;subst zc)
   exact ⟨o,W.fz _ _ (e _ _ q),.inl rfl⟩
 have off:∀{b o},s.heap.get? b=some o→F b=none→hp b=none→F' b=none:=fun {b o} h1 h2 h3=>by
  cases q:F' b with
  |none=>rfl
  |some o'=>have:=W.fg _ _ q;rw [Fb h2 h3,h1] at this;exact Ao this
 refine ⟨w,⟨W.base,W.fz,fun a x q=>⟨(W.ob a x (hs a x q)).1,(W.ob a x (hs a x q)).2.2⟩,W.os,W.bare,fun a b g gs gs' h1 h2=>W.gi a b g gs gs' (hs _ _ h1) (hs _ _ h2),?_⟩,e,kg,fun b o q=>?_⟩
 ·refine xa1_2 w.fr ?_;intro l a b
  refine ⟨l,a,fun y hy=>?_⟩
  refine cps fun zP zk=>?_;(rcases b y hy with ⟨p,L,q1,q2,q3,o,q4,es,ep,q5⟩)<;>(refine zk ?_;clear zk zP)
  refine xa1_2 (kg L o q4 q3) ?_;intro o' z1 z2
  exact ⟨p,L,q1,off q4 q2 q3,q3,o',z1,es,ep,z2.data.trans q5⟩
 ·cases z:s.heap.get? b with
  |none=>exact .inr rfl
  |some o'=>
   left
   cases z2:F b with
   |some o2=>have:=e _ _ z2;rw [q] at this;exact this.symm
   |none=>
    cases z3:hp b with
    |none=>rw [off z z2 z3] at q;exact Ak q
    |some x=>rw [(W.ob b x (hs _ _ z3)).1] at q;exact Ak q
inductive Args (hp:HP):List PV→List AV→Prop
 |nil:Args hp [] []
 |val {x pvs xs} (h:Args hp pvs xs):Args hp ((x,false)::pvs) (x::xs)
 |own {xs a pvs ys} (ho:hp a=some (.list xs)) (h:Args hp pvs ys):Args hp ((.lst xs,true)::pvs) (.ref a::ys)
theorem Dm.args {pvs:List PV} {us:List Value} (r:Dm hp F pvs us):∃xs,Args hp pvs xs∧VRs F xs us:=by
 induction r with
 |nil=>exact ⟨[],.nil,.nil⟩
 |cons a zu ih=>
  refine xa1_2 ih ?_;(try clear ih);intro ys h1 h2
  cases a with
  |val r=>exact ⟨_,.val h1,.cons r h2⟩
  |own ho=>exact ⟨_,.own ho h1,.cons (.ref _) h2⟩
noncomputable def MY (C:Cf) (A:Around) (hp:HP) (f:Value) (pvs:List PV) (Q:AV→HP→Prop):Prop:=∀xs,Args hp pvs xs→Cl C A f xs hp Q
inductive MW (C:Cf) (A:Around) (hp:HP) (F:FH) (s:Shared) (Q:AV→HP→Prop) (v:Value) (s':Shared):Prop
 |mk (F₁:FH) (s₁:Shared) (st:BD C A hp F s F₁ s₁) (h:Of C (Dq F₁ hp s₁.heap) F₁ Q v s')
theorem MW.pu {v':AV} {v:Value} (h:MW C A hp F s (fun v hp'=>v=v'∧Sub hp hp') v s'):BA C A hp F s (fun F' v=>BB hp F' (v',false) v) v s':=by
 refine cps fun zP zk=>?_;(rcases h with ⟨F₁,s₁,st,F',av,hp',e,hv,W,rfl,hs⟩)<;>(refine zk ?_;clear zk zP)
 exact ⟨F',st.trans (st.w'.back e W hs),.val hv⟩
theorem MY.use {f:Value} {pvs:List PV} {Q:AV→HP→Prop} (h:MY C A hp f pvs Q) (w:Wp C A hp F s) {us:List Value} (r:Dm hp F pvs us):wpAny (model C.prog C.w) A (PySem.call f us) (MW C A hp F s Q) E s:=by
 refine xa1_2 r.args ?_;intro xs h1 h2
 exact wpAny_mono (h xs h1 F _ s us E w.fs w.wd h2) (fun v s' z=>⟨F,s,.refl w,z⟩) fun zu zu x=>x
theorem MY.pc {f:Value} {pvs:List PV} {v:AV} (h:MY C A hp f pvs (fun v' hp'=>v'=v∧Sub hp hp')):PK C A hp f pvs (v,false):=fun F s E us w r=>
 wpAny_mono (h.use w r) (fun zu zu z=>z.pu) fun zu zu x=>x
noncomputable def PW (C:Cf) (A:Around) (hp:HP) (env:Env) (loc:PL) (e:Expr) (Q:AV→HP→Prop):Prop:=
 ∀F s (E:Value→Shared→Prop),CC C A hp F s env loc→wpAny (model C.prog C.w) A (eval e env) (MW C A hp F s Q) E s
theorem PW.pe {e:Expr} {v:AV} (h:PW C A hp env loc e (fun v' hp'=>v'=v∧Sub hp hp')):PE C A hp env loc e (v,false):=.mk fun F s E c=>
 wpAny_mono (h F s E c) (fun zu zu z=>z.pu) fun zu zu x=>x
theorem MW.pre {F₁:FH} {s₁:Shared} {Q:AV→HP→Prop} {v:Value} (st:BD C A hp F s F₁ s₁) (q:MW C A hp F₁ s₁ Q v s'):MW C A hp F s Q v s':=by
 refine cps fun zP zk=>?_;(rcases q with ⟨F2,s2,st2,h⟩)<;>(refine zk ?_;clear zk zP)
 exact ⟨F2,s2,st.trans st2,h⟩
theorem GD {o:Expr} {name:Str} {apos pos:Pos} {args:List Expr} {pvs:List PV} {Q:AV→HP→Prop} {a d Cl f:Addr} {fd:FuncData} {fs:List (Str×AV)} (h:PE C A hp env loc o (.ref a,false)) (hm:BT C Cl name f) (hf:FnAt C f fd) (ha:hp a=some (.inst Cl d)) (hd:hp d=some (.ns fs)) (hn:fs.lookup name=none)
  (hv:H9 C A hp env loc args pvs) (hc:MY C A hp (.ref f) ((.ref a,false)::pvs) Q)
  (hb:attributeBase o name env (eval o env)=eval o env:=by rfl) (hl:apos.endLine=pos.line:=by rfl)
  (hform:methodCallForm (args.length+0) (backTo pos (starEach args env)) (backToKw pos (keywordEach [] env))=true:=by rfl)
  (ht:backTo pos (starEach args env)=AN env args:=by rfl):PW C A hp env loc (.Call (.Attribute o name apos) args [] pos) Q:=fun F s E c=>by
 show wpAny _ _ (do
  let ov ←attributeBase o name env (eval o env)
  standAt apos.atName
  methodCall o name apos pos env ov (args.length+0) (backTo pos (starEach args env)) (backToKw pos (keywordEach [] env))) _ _ _
 rw [hb]
 refine wpAny_bind (h.use c fun F₀ s₀ vo st₀ c₀ r₀=>wpAny_bind (wpAny_standAt ?_))
 obtain rfl:=r₀.out.refI
 unfold methodCall calleeOf methodCallPos
 rw [hform]
 simp only [if_true,Bool.not_true,Bool.false_or,hl,beq_self_eq_true]
 rw [ht]
 refine wpAny_bind (wpAny_holding ?_)
 refine xa1_5 hm ?_;(try clear hm);intro K X g1 g2 g3 g4
 refine cps fun zP zk=>?_;(rcases c₀.wp.ob a _ ha with ⟨zu,o1,ho,r⟩)<;>(refine zk ?_;clear zk zP)
 refine cps fun zP zk=>?_;(rcases c₀.wp.ob d _ hd with ⟨zu,od,hod,rd⟩)<;>(refine zk ?_;clear zk zP)
 (refine OR.instC r fun zo=>?_;clear r;subst zo)
 (refine OR.nsC rd fun ds n hex hda hnr=>?_;clear rd)
 refine method_fn (od:=some od) (X.keeps c₀.wp.old) ⟨ho,rfl,rfl,hod⟩ g1 g2 g3 g4 (by simp only [shadowIn,lookIn,hda,hnr.noName hn,hnr.noRef,Bool.false_eq_true,if_false,Option.map_some,Option.isSome_none]) ?_
 refine wpAny_bind (wpAny_pure (Bn (AS (C5 env args) rfl (hv.pes.use c₀ fun F₂ s₂ us st₂ c₂ r₂=>wpAny_pure ⟨hf.keep c₂.wp.old,?_⟩))))
 exact wpAny_mono (hc.use c₂.wp (.cons (.val (.ref a)) r₂)) (fun zu zu z=>z.pre (st₀.trans st₂)) fun zu zu x=>x
theorem Li {x:Str} {px pos:Pos} {e:Expr} {f:Value} {Q Q':AV→HP→Prop} (hg:GL C x f) (h:PW C A hp env loc e Q) (hc:∀av hp',Q av hp'→Cl C A f [av] hp' Q') (hf:∀h':Heap,(∀b o,C.h0.get? b=some o→h'.get? b=some o)→CU C h' f:=by exact fun zu zu=>AG (by intro a;simp)) (hk:env.kindOf x=some .globalImplicit:=by rfl)
  (he:eval (.Call (.Name x px) [e] [] pos) env=(do callWith pos (←eval (.Name x px) env) [] [(false,eval e env)] []):=by rfl) (hd:(x == ("__debug__" : Str))=false:=by decide):PW C A hp env loc (.Call (.Name x px) [e] [] pos) Q':=fun F s E c=>by
 rw [he]
 refine wpAny_bind (wpAny_Name ?_ hd)
 rw [Dc c.kind hk]
 refine hg env c.glob.1 c.glob.2 A _ E s c.wp.old (Bn (AS rfl rfl ?_))
 show wpAny _ _ (do let v ←eval e env;let here ←pure [v];return here++(←holding here (spliced []))) _ _ _
 refine wpAny_bind (wpAny_mono (h F s E c) (fun v s' z=>wpAny_bind (wpAny_pure (wpAny_bind (wpAny_holding (wpAny_pure (wpAny_pure (wpAny_pure ?_))))))) fun zu zu x=>x)
 refine cps fun zP zk=>?_;(rcases z with ⟨F₁,s₁,st,F',av,hp',e1,hv,W,q⟩)<;>(refine zk ?_;clear zk zP)
 refine ⟨hf _ W.old,wpAny_mono (hc av hp' q F' _ s' [v] E st.w'.fs W (.cons hv .nil)) (fun u s2 z=>?_) fun zu zu x=>x⟩
 refine xa3_4 z ?_;(try clear z);intro F2 av2 hp2 e2 hv2 W2 q2
 exact ⟨F₁,s₁,st,F2,av2,hp2,e1.trans e2,hv2,W2,q2⟩
end
end
section
noncomputable def CL (K:Frag) (f:Addr):FdRest:=match K.lookup f with
 |some o=>(match o.data with|.func fd=>⟨fd.name,fd.qualname,fd.kwdefaults,fd.doc,fd.pyModule,fd.annotations,fd.code,fd.closureTuple⟩|_=>⟨"", "",.none,.none,.none,none,.none,.none⟩)
 |none=>⟨"", "",.none,.none,.none,none,.none,.none⟩
noncomputable def KS (K:Frag) (v:Value) (q:Str):Bool:=match v with
 |.ref c=>(match K.lookup c with
  |some o=>(match o.data with|.fields vs=>(match (vs[1]?:Option Value) with|some (.str q' _)=>q' == q|_=>false)|_=>false)
  |none=>false)
 |_=>false
theorem fnAt_of {C:Cf} {K:Frag} (X:K.In C.h0) (lim:C.h0.NoLimit) {f:Addr} {d:BU} {dflt:Value} (h:(K.lookup f).map (·.data)=some (.func ((CL K f).fd d dflt))) (hc:KS K (CL K f).code (CL K f).qual=true):∃r:FdRest,FnAt C f (r.fd d dflt):=by
 refine xa1_2 (Option.map_eq_some_iff.mp h) ?_;intro o ho hd
 refine ⟨CL K f,⟨o,X _ _ ho,hd⟩,?_,lim⟩
 show C.h0.CodeRec (CL K f).code (CL K f).qual
 generalize (CL K f).code=v at hc
 generalize (CL K f).qual=q at hc
 unfold KS at hc
 split at hc
 ·rename_i c
  split at hc
  ·rename_i oc hoc
   split at hc
   ·rename_i vs hvs
    split at hc
    ·rename_i q' t hq
     exact ⟨c,oc,vs,t,rfl,X _ _ hoc,hvs,by rw [hq,beq_iff_eq.mp hc]⟩
    ·exact By hc
   ·exact By hc
  ·exact By hc
 ·exact By hc
noncomputable def Ms:Env:=callEnv ((⟨"", "",.none,.none,.none,none,.none,.none⟩:FdRest).fd H0 .none) 0 66
theorem gl_of {C:Cf} {K:Frag} (X:K.In C.h0) {x:Str} {v:Value} (h:peek K ⟨C.prog,C.w.params⟩ (loadGlobal Ms x)=some v):GL C x v:=by
 intro env h1 h2
 have e:loadGlobal env x=loadGlobal Ms x:=by
  unfold loadGlobal
  rw [h1,h2];rfl
 rw [e]
 exact Looks.of_peek (M:=model C.prog C.w) X h
noncomputable def Mr (K:Frag):Bool:=match K.lookup cStatics with
 |some o=>(match o.data with|.dict es _=>(nsFind es "sys.recursionlimit").isNone&&es.toList.all (fun e=>match e.key with|.str ..=>true|_=>false)|_=>false)
 |none=>false
theorem lim_of {h:Heap} {K:Frag} (X:K.In h) (e:Mr K=true):h.NoLimit:=by
 unfold Mr at e
 split at e
 ·rename_i o ho
  split at e
  ·rename_i es ep hd
   rw [Bool.and_eq_true] at e
   refine ⟨fun x=>nsFind es x,⟨o,es,ep,X _ _ ho,hd,fun en hen=>?_,fun zu=>rfl⟩,by simpa using e.1⟩
   have:=List.all_eq_true.mp e.2 en (by simpa using hen)
   split at this
   ·rename_i n t hk;exact ⟨n,t,hk⟩
   ·exact By this
  ·exact By e
 ·exact By e
theorem ns_of {C:Cf} {K:Frag} (X:K.In C.h0) {Cl:Addr} {name:Str} (h1:findIn K (.ref Cl) "__getattribute__" = some (some (.builtin "object.__getattribute__"))) (h2:findIn K (.ref Cl) "__getattr__" = some none)
  (h3:(clsIn K Cl).map (·.hasDict)=some true) (h4:findIn K (.ref Cl) name=some none) (h5:findIn K (.ref Cl) "__setattr__" = some (some (.builtin "object.__setattr__"))) (h6:plainOver K Cl=true) (h7:takerIn K Cl name=some none):GF C Cl name:=by
 refine xa1_2 (Option.map_eq_some_iff.mp h3) ?_;intro cd hc hh
 exact ⟨K,cd,X,h1,h2,hc,hh,h4,h5,h6,h7⟩
end
section
variable {C:Cf} {A:Around} {s:Shared} {σ:Am} {F G:FH} {env:Env}
theorem BH:∀(names:List (Str×NameKind)) (n:Nat) (acc:List (Str×Addr)) (x:Str),((x,NameKind.cell)∈names∨(acc.lookup x).isSome=true)→((cellsFrom n names acc).lookup x).isSome=true
 |[],_,acc,x,h=>by
  rcases h with h|h
  ·cases h
  ·exact h
 |(y,k)::r,n,acc,x,h=>by
  unfold cellsFrom
  split
  ·rename_i hk
   refine BH r _ _ x ?_
   rcases h with h|h
   ·rcases List.mem_cons.mp h with e|h
    ·cases e;right;simp [List.lookup]
    ·exact .inl h
   ·right
    simp only [List.lookup]
    split
    ·rfl
    ·exact h
  ·rename_i hk
   refine BH r _ _ x ?_
   rcases h with h|h
   ·rcases List.mem_cons.mp h with e|h
    ·cases e;simp at hk
    ·exact .inl h
   ·exact .inr h
theorem Bm {α:Type}:∀{l:List (Str×α)} {x:Str} {v:α},l.lookup x=some v→(x,v)∈l
 |[],_,_,h=>by exact Ak h
 |(y,u)::l,x,v,h=>by
  simp only [List.lookup] at h
  split at h
  ·rename_i q;(have zc:=Option.some.inj h;clear h;subst zc);rw [beq_iff_eq.mp q];exact List.mem_cons_self ..
  ·exact List.mem_cons_of_mem _ (Bm h)
theorem BJ {α:Type}:∀(l m:List (Str×α)) (x:Str),(l++m).lookup x=(l.lookup x).or (m.lookup x)
 |[],m,x=>by simp
 |(y,u)::l,m,x=>by
  simp only [List.cons_append,List.lookup]
  split
  ·simp
  ·exact BJ l m x
theorem Fv (ko:Str→Option NameKind):∀(bs:List (Str×Value)) (m:Str→Option Value) (x:Str),bs.reverse.lookup x=none→bindL ko bs m x=m x
 |[],_,_,_=>rfl
 |(n,v)::r,m,x,h=>by
  rw [List.reverse_cons,BJ,Option.or_eq_none_iff] at h
  unfold bindL
  rw [Fv ko r _ x h.1]
  have hn:x≠n:=by rintro rfl;simp [List.lookup] at h
  split
  ·simp [hn]
  ·rfl
theorem Fu (ko:Str→Option NameKind):∀(bs:List (Str×Value)) (m:Str→Option Value) (x:Str) (v:Value),bs.reverse.lookup x=some v→ko x=some .local→bindL ko bs m x=some v
 |[],_,_,_,h,_=>by exact Ak h
 |(n,w)::r,m,x,v,h,hk=>by
  rw [List.reverse_cons,BJ] at h
  unfold bindL
  cases hr:r.reverse.lookup x with
  |some v'=>rw [hr] at h;(have zc:=Option.some.inj h;clear h;subst zc);exact Fu ko r _ x _ hr hk
  |none=>
   rw [hr,Option.none_or] at h
   simp only [List.lookup] at h
   split at h
   ·rename_i q
    (have zc:=Option.some.inj h;clear h;subst zc)
    rw [Fv ko r _ x hr]
    have:=beq_iff_eq.mp q
    subst this
    rw [if_pos hk];simp
   ·exact Ak h
theorem Fx (ko:Str→Option NameKind):∀(bs:List (Str×Value)) (m:Str→Option Value) (x:Str),bs.reverse.lookup x=none→bindC ko bs m x=m x
 |[],_,_,_=>rfl
 |(n,v)::r,m,x,h=>by
  rw [List.reverse_cons,BJ,Option.or_eq_none_iff] at h
  unfold bindC
  rw [Fx ko r _ x h.1]
  have hn:x≠n:=by rintro rfl;simp [List.lookup] at h
  split
  ·rfl
  ·simp [hn]
theorem Fw (ko:Str→Option NameKind):∀(bs:List (Str×Value)) (m:Str→Option Value) (x:Str) (v:Value),bs.reverse.lookup x=some v→ko x≠some .local→bindC ko bs m x=some v
 |[],_,_,_,h,_=>by exact Ak h
 |(n,w)::r,m,x,v,h,hk=>by
  rw [List.reverse_cons,BJ] at h
  unfold bindC
  cases hr:r.reverse.lookup x with
  |some v'=>rw [hr] at h;(have zc:=Option.some.inj h;clear h;subst zc);exact Fw ko r _ x _ hr hk
  |none=>
   rw [hr,Option.none_or] at h
   simp only [List.lookup] at h
   split at h
   ·rename_i q
    (have zc:=Option.some.inj h;clear h;subst zc)
    rw [Fx ko r _ x hr]
    have:=beq_iff_eq.mp q
    subst this
    rw [if_neg hk];simp
   ·exact Ak h
noncomputable def D9 (C:Cf) (fd:FuncData) (args:List AV) (kw:List (Str×AV)) (loc:List (Str×AV)):Prop:=
 ∀F vs kvs,VRs F args vs→Cm F kw kvs→∃bs,Looks (model C.prog C.w) C.h0 (bindArgs fd ⟨vs,kvs⟩) bs∧BR F loc bs∧(bs.all fun x=>decide (fd.scope.names.lookup x.1=some .local)||decide (fd.scope.names.lookup x.1=some .cell))=true
theorem Di {f:Addr} {fd:FuncData} {body:List Stmt} {args:List AV} {kw loc:List (Str×AV)} {hp:HP} {Q:AV→HP→Prop} (hf:FnAt C f fd) (hb:D9 C fd args kw loc)
  (h:∀L,Dn C (A.deeper (callEnvC fd L f)) (fun zu zu=>False) (callEnvC fd L f) body ⟨loc.reverse,hp⟩ (fun fl σ'=>match fl with|.ret v=>Q v σ'.hp|.next=>Q .none σ'.hp|_=>False))
  (hroom:A.depth<recursionLimit) (hbody:fd.body=.stmts body:=by rfl) (hclo:fd.closure=[]:=by rfl) (hfree:(fd.scope.names.all fun x=>x.2 != .free)=true:=by rfl)
  (hco:fd.scope.isCoroutine=false:=by rfl) (hgen:fd.scope.isGenerator=false:=by rfl) (hk:fd.scope.kind=.function:=by rfl) :
  Fn C A (.ref f) args kw hp Q:=by
 intro F G s vs kvs fs W hv hkv
 refine xa1_2 hf.at_ ?_;intro o ho hd
 refine xa1_3 (hb F vs kvs hv hkv) ?_;intro bs hB hbr hl
 have noF:∀L x,(callEnvC fd L f).kindOf x≠some .free:=by
  intro L x e
  have:=List.all_eq_true.mp hfree _ (Bm (show fd.scope.names.lookup x=some .free from e))
  simp at this
 refine codeAny_call_function hroom (W.old _ _ ho) hd hco hgen hbody (hf.code.keeps W.old) ?_
 refine hB _ _ _ s W.old ?_
 rw [hclo]
 refine wpAny_newFunctionEnv_cells hk (fun x hx=>?_) (fun env he s' X=>?_)
 ·have:=List.all_eq_true.mp hl x hx
  rw [Bool.or_eq_true,decide_eq_true_iff,decide_eq_true_iff] at this
  refine this.imp_right (fun e=>⟨e,BH _ _ _ _ (.inl (Bm e))⟩)
 ·subst he
  refine ⟨hf.lim.keeps fun b o e=>X.toInCall.keep _ _ (W.old _ _ e),codeAny_func ?_⟩
  refine xa0_3 (W.lt (Nat.le_refl s.heap.objs.size)) ?_;intro z1 z2 z3
  refine xa1_2 fs ?_;(try clear fs);intro fl fs1 fs2
  have hfs:FP (A.deeper (callEnvC fd s.heap.objs.size f)) G (callEnvC fd s.heap.objs.size f):=
   ⟨callEnvC fd s.heap.objs.size f,fl,by simp only [Around.deeper,fs1,Option.map_some],by show fd.scope.kind≠_;rw [hk];decide,rfl,.inl ⟨rfl,rfl⟩,fs2⟩
  have hR:Rp C (A.deeper (callEnvC fd s.heap.objs.size f)) F G (callEnvC fd s.heap.objs.size f) ⟨loc.reverse,hp⟩ s':=by
   refine cps fun zP zk=>?_;(rcases X with ⟨⟨⟨h',tk,rfl⟩,hns,hkp,hfr⟩,hcell,hap,hab⟩)<;>(refine zk ?_;clear zk zP)
   refine ⟨W.keep hkp,⟨hk,⟨_,hns,fun x av hx hkx=>?_⟩,⟨z1,z2,z3⟩,fun x hx=>?_,fun x y c hx hy h1 h2=>?_,fun x av c h1 h2 h3=>?_,fun x zu zu hx=>absurd hx (noF _ x)⟩,hfs⟩
   ·refine xa1_2 (hbr.reverse.look hx) ?_;intro v hv hr
    exact ⟨v,Fu _ bs _ x v hv hkx,hr⟩
   ·have hs:=BH fd.scope.names (s.heap.objs.size+1) [] x (.inl (Bm (show fd.scope.names.lookup x=some .cell from hx)))
    refine xa1_1 (Option.isSome_iff_exists.mp hs) ?_;intro c hc
    have hLc:=hab x c (Bm hc)
    refine xa0_3 (W.lt (Nat.le_of_lt hLc)) ?_;intro w1 w2 w3
    exact ⟨c,hc,w1,w2,w3,Nat.ne_of_gt hLc,_,hcell x c hc⟩
   ·exact name_of_addr hap (Bm h1) (Bm h2)
   ·refine xa1_2 (hbr.reverse.look h1) ?_;intro v hv hr
    have:=hcell x c h3
    rw [Fw _ bs _ x v hv (fun e=>by have e2:=(show (callEnvC fd s.heap.objs.size f).kindOf x=some .local from e);rw [h2] at e2;cases e2)] at this
    exact ⟨v,this,hr⟩
  refine wpAny_mono ((h s.heap.objs.size).go hR (A6.refl F)) (fun fl s' z=>?_) fun zu zu x=>x.elim
  refine cps fun zP zk=>?_;(rcases z with ⟨F',b,σ',e1,r,hR',q⟩)<;>(refine zk ?_;clear zk zP)
  cases r with
  |next=>exact ⟨F',_,.none,σ'.hp,rfl,e1,.none,hR'.wd,q⟩
  |brk=>exact q.elim
  |cont=>exact q.elim
  |ret hvr=>exact ⟨F',_,_,σ'.hp,rfl,e1,hvr,hR'.wd,q⟩
end
section
section
variable {C:Cf} {A:Around} {s:Shared} {σ:Am} {F G:FH} {env:Env} {E:Value→Shared→Prop}
theorem Iw (hp:HP) (a:Addr) (x y:AO):upd (upd hp a x) a y=upd hp a y:=by funext b;simp only [upd];split<;>rfl
theorem Rp.sub {hp:HP} (hR:Rp C A F G env σ s) (h:Sub hp σ.hp):Rp C A F G env { σ with hp:=hp } s:=by
 have W:=hR.wd
 have no:∀{b},σ.hp b=none→hp b=none:=fun {b} e=>by
  cases q:hp b with
  |none=>rfl
  |some x=>rw [h b x q] at e;exact Ao e
 refine cps fun zP zk=>?_;(rcases hR.fm with ⟨kd,ns,⟨l1,l2,l3⟩,co,ci,cv,fv⟩)<;>(refine zk ?_;clear zk zP)
 refine ⟨⟨W.base,W.fz,W.gz,fun a x e=>W.ob a x (h a x e),W.os,W.bare,fun a b g gs gs' ea eb=>W.gi _ _ _ _ _ (h _ _ ea) (h _ _ eb),W.fg⟩,⟨kd,ns,⟨l1,l2,no l3⟩,fun x hx=>?_,ci,cv,fv⟩,hR.fs⟩
 refine xa1_5 (co x hx) ?_;intro c g1 g2 g3 g4 g5
 exact ⟨c,g1,g2,g3,no g4,g5⟩
noncomputable def J3 (hp:HP) (a:Addr):HP:=fun b=>if b=a then none else hp b
theorem KO {hp:HP} {a:Addr}:Sub (J3 hp a) hp:=fun b x e=>by
 unfold J3 at e
 split at e
 ·exact Ak e
 ·exact e
theorem KN {hp:HP} {a:Addr} {x:AO} (h:hp a=none):J3 (upd hp a x) a=hp:=by
 funext b
 simp only [upd,J3]
 by_cases q:b=a
 ·simp [q,h]
 ·simp [q]
theorem Rp.freezeL {a:Addr} {xs:List AV} (hR:Rp C A F G env σ s) (ha:σ.hp a=some (.list xs)):∃F',A6 F F'∧VR F' (.lst xs) (.ref a)∧Rp C A F' G env ⟨σ.loc,J3 σ.hp a⟩ s:=by
 refine cps fun zP zk=>?_;(rcases hR.wd.ob a _ ha with ⟨p,q,o,ho,r⟩)<;>(refine zk ?_;clear zk zP)
 refine xa0_4 (hR.apart ha) ?_;intro zu zu a3 a4
 refine xa0_2 ((hR.sub (KO (a:=a))).freezeAt ho p q (if_pos rfl) a3 a4) ?_;intro hR₂ ex
 (refine OR.listC r fun zv zv b1 b2 b3 b4 b5=>?_;clear r)
 exact ⟨_,ex,.lst (Ar _ _ _) b1 b4 (b5.mono ex),hR₂⟩
theorem Rp.relist {x:Str} {a:Addr} {xs:List AV} (hR:Rp C A F G env σ s) (hx:σ.loc.lookup x=some (.ref a)) (hv:VR F (.lst xs) (.ref a)):Rp C A F G env (σ.set x (.lst xs)) s:=by
 refine cps fun zP zk=>?_;(rcases hR with ⟨W,⟨kd,⟨m,hm,hmv⟩,lo,co,ci,cv,fv⟩,fs⟩)<;>(refine zk ?_;clear zk zP)
 refine ⟨W,⟨kd,⟨m,hm,fun y av h1 h2=>?_⟩,lo,co,ci,fun y av c h1 h2 h3=>?_,fun y av h1 h2=>?_⟩,fs⟩
 ·rw [A9] at h1
  split at h1
  ·rename_i q;subst q;(have zc:=Option.some.inj h1;clear h1;subst zc)
   refine xa1_2 (hmv y _ hx h2) ?_;intro v a1 a2
   (have zc:=VR.refI a2;clear a2;subst zc);exact ⟨_,a1,hv⟩
  ·exact hmv y av h1 h2
 ·rw [A9] at h1
  split at h1
  ·rename_i q;subst q;(have zc:=Option.some.inj h1;clear h1;subst zc)
   refine xa1_2 (cv y _ c hx h2 h3) ?_;intro v a1 a2
   (have zc:=VR.refI a2;clear a2;subst zc);exact ⟨_,a1,hv⟩
  ·exact cv y av c h1 h2 h3
 ·rw [A9] at h1
  split at h1
  ·rename_i q;subst q;(have zc:=Option.some.inj h1;clear h1;subst zc)
   refine xa3_4 (fv y _ hx h2) ?_;intro c v o a1 a2 a3 a4
   (have zc:=VR.refI a4;clear a4;subst zc);exact ⟨c,_,o,a1,a2,a3,hv⟩
  ·exact fv y av h1 h2
theorem Tr.freeze {α β:Type} {R:FH→β→α→Prop} {t:Sem α} {Q:β→Am→Prop} (x:Str) (a:Addr) (xs:List AV) (ha:σ.hp a=some (.list xs)) (hx:σ.loc.lookup x=some (.ref a)) (h:Tr C A E env R t ⟨Eh σ.loc x (.lst xs),J3 σ.hp a⟩ Q):Tr C A E env R t σ Q:=by
 intro F G s hR
 refine xa1_3 (hR.freezeL ha) ?_;intro F' e hv hR₂
 exact h.go (hR₂.relist hx hv) e
theorem CW {body:List Stmt} {Q:A5→Am→Prop} {loc:List (Str×AV)} (hl:CT loc σ.loc) (h:Dn C A E env body ⟨loc,σ.hp⟩ Q):Dn C A E env body σ Q:=fun F G s hR=>h F G s (hR.weakLoc hl)
theorem AA {l:List (Str×AV)}:CT [] l:=fun x av h=>by exact Ak h
theorem Ag {x:Str} {v:AV} {r l:List (Str×AV)} (h:l.lookup x=some v) (k:CT r l):CT ((x,v)::r) l:=fun y av e=>by
 simp only [List.lookup] at e
 split at e
 ·rename_i q
  (have zc:=Option.some.inj e;clear e;subst zc)
  rw [beq_iff_eq.mp q];exact h
 ·exact k y av e
theorem LS.deeper {e:Env} (hN:C.h0.NoSeer) (hl:C.h0.NoLimit) (ht:C.prog.given.tree=none) (hd:A.depth+1+Builtin.pylongFrames<recursionLimit) (hgen:e.scope.isGenerator=false) (hco:e.scope.isCoroutine=false) (hb:e.builtins=builtinsNs) (hg:e.globals=mainGlobals):LS C (A.deeper e):=by
 intro s ⟨l,hfr⟩ hk
 obtain ⟨l',hl'⟩:∃l',(A.deeper e).frames=some (e::l'):=by
  unfold Around.deeper at hfr ⊢
  dsimp only at hfr ⊢
  cases q:A.frames with
  |none=>rw [q] at hfr;exact Ak hfr
  |some l'=>exact ⟨l',by simp⟩
 refine PylongRoom.of (hl.keeps hk) (by simpa [Around.deeper] using hd) (SeerAt.of (hN.keeps hk) ht hl' hgen hco hb hg)
end
end
section
section
variable {C:Cf} {A:Around} {s:Shared} {σ:Am} {F G:FH} {env:Env} {E:Value→Shared→Prop} {hp:HP} {loc:PL}
structure TpX (C:Cf):Prop where
 t:Tp C
 lim:C.h0.NoLimit
 seer:C.h0.NoSeer
 tree:C.prog.given.tree=none
 g_range:GL C "range" (.type "range")
 g_list:GL C "list" (.type "list")
 g_min:GL C "min" (.builtin "min")
 g_max:GL C "max" (.builtin "max")
 g_Tree:GL C "KeywordTree" (.ref 125)
theorem Gb {t d f:Addr} {name:Str} {X:Ad} {fin ci:Bool} {Q:AV→List AV→Am→Prop} (hm:BT C 125 name f) (hr:AJ X t d fin ci σ.hp) (h:Q (.ref f) [.ref t] σ) (hn:(Eg (X.A []) X.D.length fin ci).lookup name=none:=by rfl):Dx C A E env (.ref t) name σ Q:=
 B0 hm hr.tree hr.ns hn h
noncomputable def Ad.zero (z e:Addr):Ad:=⟨[[]],fun zu=>z,fun zu=>e,fun zu=>none,fun zu=>[],fun zu=>none,fun zu=>none⟩
theorem JS (z e:Addr):(Ad.zero z e).Ph1 where
 wf:=by
  constructor
  ·simp [Ad.zero]
  ·simp [Ad.zero]
  ·intro p c h;simp [Ad.zero] at h
  ·intro p hp q hq zu;simp [Ad.zero] at hp hq;rw [hp,hq]
  ·intro p hp x hx;simp [Ad.zero] at hx
  ·intro p hp;simp [Ad.zero]
  ·intro p hp x hx;simp [Ad.zero] at hx
  ·intro p zu;rfl
  ·intro p v h;exact Ak h
 kid1:=by intro p hp c h;simp [Ad.zero] at h
 kid0:=by intro p hp c h;rfl
 lss:=fun zu zu=>rfl
 out:=fun zu zu=>rfl
theorem HM (T:Tp C) (hroom:A.depth+4<recursionLimit) {hp:HP} {ci:Bool} {kw:List (Str×AV)} (hkw:(kw=([("case_insensitive",.bool ci)]:List (Str×AV)))∨(kw=[]∧ci=false)) :
  Fn C A (.ref 125) [] kw hp (fun v hp'=>∃t d z e,v=.ref t∧AJ (Ad.zero z e) t d false ci hp'∧BO (fun zu=>False) hp (Fp (Ad.zero z e) t d) hp'):=by
 refine Km T hroom hkw fun t d z e hp' hnd h1 h2 h3 h4 k1 k2 k3 k4 k5=>⟨t,d,z,e,rfl,⟨k1,k2,fun p hp=>?_,fun p hp=>?_⟩,⟨fun a ha zu=>k5 a (by rintro rfl;exact ha h1) (by rintro rfl;exact ha h2) (by rintro rfl;exact ha h3) (by rintro rfl;exact ha h4),fun a ha=>?_⟩⟩
 ·have:p=[]:=by simpa [Ad.zero] using hp
  subst this
  exact k3
 ·exact ⟨0,k4⟩
 ·rcases ha with rfl|rfl|⟨p,zu,rfl|rfl⟩
  ·exact .inr h1
  ·exact .inr h2
  ·exact .inr h3
  ·exact .inr h4
noncomputable abbrev Lf:=Aj×AV
structure LR (ci:Bool) (e:Lf):Prop where
 low:∀hp,∃v2,Iq ci e.2 v2∧Bw v2 (e.1.map As.av) hp∧∀a,v2≠.ref a
 len:∀hp,∃xs,Bw e.2 xs hp∧xs.length=e.1.length
 nref:∀a,e.2≠.ref a
 nval:∀v,e.2≠.val v
theorem L3 {x:Str} {w:Aj} (hx:x.length≤100000) (hw:w.map As.av=AT (Txt.lower x)) (hl:w.length=x.length):LR true (w,.str x) where
 low:=fun hp=>⟨_,.yes hx,by rw [hw];exact .str (by
  have:=congrArg List.length hw
  rw [List.length_map] at this
  have h2:(AT (Txt.lower x)).length=(Txt.lower x).length:=by simp [AT];rfl
  exact Ax [_,_,_,_] [(1,Z1,(Zn 100000)),(1,Z2,Z1),(1,Z3,Z2),(1,Z0,Z3)] Z0 (Zn 100000) rfl hx (Nat.le_of_eq hl) (Nat.le_of_eq (Eq.symm this)) (Nat.le_of_eq (Eq.symm h2))),fun a e=>by cases e⟩
 len:=fun hp=>⟨_,.str hx,by rw [hl];simp [AT];rfl⟩
 nref:=fun a e=>by cases e
 nval:=fun v e=>by cases e
noncomputable def Bj (ws:List Lf) (p:Aj):Option AV:=if p=[] then none else (ws.reverse.find? fun e=>e.1=p).map (·.2)
theorem Jr (ws:List Lf) (w:Aj) (v:AV) (p:Aj):Bj (ws++[(w,v)]) p=if w≠[]∧p=w then some v else Bj ws p:=by
 unfold Bj
 by_cases h:p=[]
 ·subst h
  simp only [if_true]
  split
  ·rename_i q;exact absurd q.2.symm q.1
  ·rfl
 ·simp only [h,if_false,List.reverse_append,List.reverse_cons,List.reverse_nil,List.nil_append,List.cons_append,List.find?_cons]
  by_cases q:w=p
  ·subst q;simp [h]
  ·simp [q,Ne.symm q]
theorem HR {ws:List Lf} {p:Aj} {v:AV} (h:Bj ws p=some v):p≠[]∧(p,v)∈ws:=by
 unfold Bj at h
 split at h
 ·exact Ak h
 ·rename_i hp
  rw [Option.map_eq_some_iff] at h
  refine xa1_2 h ?_;(try clear h);intro zq;refine cps fun zP zk=>?_;(rcases zq with ⟨q,u⟩)<;>(refine zk ?_;clear zk zP);intro h1;rintro rfl
  have h2:=List.mem_of_find?_eq_some h1
  have h3:=List.find?_some h1
  simp at h2 h3
  subst h3
  exact ⟨hp,h2⟩
structure TI where
 X:Ad
 t:Addr
 d:Addr
 fin:Bool
 ws:List Lf
 ci:Bool
noncomputable def TI.fp (e:TI) (a:Addr):Prop:=Fp e.X e.t e.d a
noncomputable def FJ (ws:List Lf):Nat:=(ws.map fun e=>e.1.length).sum
structure TI.ok (e:TI) (hp:HP):Prop where
 rep:AJ e.X e.t e.d e.fin e.ci hp
 key:∀p,e.X.key p=Bj e.ws p
 dom:∀p,p∈e.X.D↔p=[]∨∃w∈e.ws,p <+: w.1
 len:e.X.D.length≤1+FJ e.ws
 ph1:e.fin=false→e.X.Ph1
 ph3:e.fin=true→e.X.Ph3
 wok:∀w∈e.ws,LR e.ci w
structure Bf (l:List TI) (hp:HP):Prop where
 ok:∀e∈l,e.ok hp
 sep:∀(i j:Nat) (e e':TI),l[i]? = some e→l[j]? = some e'→i≠j→∀a,e.fp a→¬e'.fp a
noncomputable def CR (l:List TI) (a:Addr):Prop:=∃e∈l,e.fp a
theorem Bf.nil {hp:HP}:Bf [] hp:=⟨fun e h=>(by cases h),fun i j e e' h=>(by simp at h)⟩
theorem TI.ok.off {e:TI} {hp hp':HP} (h:e.ok hp) (k:∀a,e.fp a→hp' a=hp a):e.ok hp':=⟨h.rep.off k,h.key,h.dom,h.len,h.ph1,h.ph3,h.wok⟩
theorem Bf.off {l:List TI} {hp hp':HP} (h:Bf l hp) (k:∀a,CR l a→hp' a=hp a):Bf l hp':=⟨fun e he=>(h.ok e he).off fun a ha=>k a ⟨e,he,ha⟩,h.sep⟩
theorem Bf.live {l:List TI} {hp:HP} (h:Bf l hp) {a:Addr} (ha:CR l a):hp a≠none:=by
 refine xa1_2 ha ?_;(try clear ha);intro e he hf
 exact (h.ok e he).rep.some hf
theorem Bf.turn {l:List TI} {hp hp':HP} (h:Bf l hp) {j:Nat} {e e':TI} (hj:l[j]? = some e) (fr:BO e.fp hp e'.fp hp') (ok:e'.ok hp'):Bf (l.set j e') hp'∧BO (CR l) hp (CR (l.set j e')) hp':=by
 have hlt:j<l.length:=(List.getElem?_eq_some_iff.mp hj).1
 have he:e∈l:=List.mem_of_getElem? hj
 have new:∀a,e'.fp a→∀(i:Nat) (o:TI),l[i]? = some o→i≠j→¬o.fp a:=by
  intro a ha i o hi hne ho
  rcases fr.grow a ha with q|q
  ·exact h.sep i j o e hi hj hne a ho q
  ·exact (h.ok o (List.mem_of_getElem? hi)).rep.some ho q
 refine ⟨⟨fun o ho=>?_,fun i k o o' hi hk hne a ha hb=>?_⟩,⟨fun a ha hn=>fr.keep a ha (fun q=>hn ⟨e,he,q⟩),fun a ha=>?_⟩⟩
 ·refine xa1_1 (List.mem_iff_getElem?.mp ho) ?_;intro i hi
  by_cases q:j=i
  ·subst q
   rw [List.getElem?_set_self hlt] at hi;(have zc:=Option.some.inj hi;clear hi;subst zc);exact ok
  ·rw [List.getElem?_set_ne q] at hi
   have hoi:=List.mem_of_getElem? hi
   exact (h.ok o hoi).off fun a ha=>fr.keep a ((h.ok o hoi).rep.some ha) (h.sep i j o e hi hj (fun z=>q z.symm) a ha)
 ·by_cases q:j=i
  ·subst q
   rw [List.getElem?_set_self hlt] at hi;(have zc:=Option.some.inj hi;clear hi;subst zc)
   rw [List.getElem?_set_ne hne] at hk
   exact new a ha k o' hk (Ne.symm hne) hb
  ·rw [List.getElem?_set_ne q] at hi
   by_cases q2:j=k
   ·subst q2
    rw [List.getElem?_set_self hlt] at hk;(have zc:=Option.some.inj hk;clear hk;subst zc)
    exact new a hb i o hi (fun z=>q z.symm) ha
   ·rw [List.getElem?_set_ne q2] at hk
    exact h.sep i k o o' hi hk hne a ha hb
 ·refine xa1_2 ha ?_;(try clear ha);intro o ho hf
  refine xa1_1 (List.mem_iff_getElem?.mp ho) ?_;intro i hi
  by_cases q:j=i
  ·subst q
   rw [List.getElem?_set_self hlt] at hi;(have zc:=Option.some.inj hi;clear hi;subst zc)
   rcases fr.grow a hf with q|q
   ·exact .inl ⟨e,he,q⟩
   ·exact .inr q
  ·rw [List.getElem?_set_ne q] at hi
   exact .inl ⟨o,List.mem_of_getElem? hi,hf⟩
theorem HW (T:Tp C) (hroom:A.depth+4<recursionLimit) {l:List TI} {hp:HP} {ci:Bool} {kw:List (Str×AV)} (hkw:(kw=([("case_insensitive",.bool ci)]:List (Str×AV)))∨(kw=[]∧ci=false)) (h:Bf l hp) :
  Fn C A (.ref 125) [] kw hp (fun v hp'=>∃e:TI,v=.ref e.t∧e.fin=false∧e.ws=[]∧e.ci=ci∧Bf (l++[e]) hp'∧BO (CR l) hp (CR (l++[e])) hp'):=by
 refine (HM T hroom hkw).mono fun v hp' hq=>?_
 refine xa4_3 hq ?_;(try clear hq);intro t d z e;rintro rfl;intro hr hfr
 have new:∀a,Fp (Ad.zero z e) t d a→hp a=none:=fun a ha=>(hfr.grow a ha).resolve_left (fun q=>q)
 have old:∀a,CR l a→hp' a=hp a:=fun a ha=>hfr.keep a (h.live ha) (fun q=>q)
 refine ⟨⟨Ad.zero z e,t,d,false,[],ci⟩,rfl,rfl,rfl,rfl,⟨fun o ho=>?_,fun i j o o' hi hj hne a ha hb=>?_⟩,⟨fun a ha zu=>hfr.keep a ha (fun q=>q),fun a ha=>?_⟩⟩
 ·rcases List.mem_append.mp ho with ho|ho
  ·exact (h.off old).ok o ho
  ·simp at ho;subst ho
   refine ⟨hr,fun p=>by simp [Ad.zero,Bj],fun p=>by simp [Ad.zero],by simp [Ad.zero],fun zu=>JS z e,fun q=>(by exact By q),fun w hw=>(by cases hw)⟩
 ·have sp:∀(i:Nat) (o:TI),(l++[(⟨Ad.zero z e,t,d,false,[],ci⟩:TI)])[i]? = some o→l[i]? = some o∨(i=l.length∧o=⟨Ad.zero z e,t,d,false,[],ci⟩):=by
   intro i o hi
   rcases Nat.lt_or_ge i l.length with q|q
   ·rw [List.getElem?_append_left q] at hi;exact .inl hi
   ·rw [List.getElem?_append_right q] at hi
    right
    have:i - l.length=0:=by
     rcases Nat.eq_zero_or_pos (i - l.length) with z|z
     ·exact z
     ·rw [List.getElem?_eq_none (by simp;with_reducible exact No ‹_›)] at hi;exact Ak hi
    rw [this] at hi
    simp at hi
    exact ⟨by exact Nat.le_antisymm (Ax [_,_,_] [(1,Z2,(Zn 0)),(1,Z0,(Za Z2 Z1))] Z0 Z1 rfl (Nat.le_of_eq this) (CG _ _)) (Ax [_,_,_] [(1,(Za Z2 Z0),Z1)] Z0 Z1 rfl (Nat.le_of_eq (Nat.sub_add_cancel (Ax [_,_] [(1,Z0,Z1)] Z0 Z1 rfl q)))),hi.symm⟩
  rcases sp i o hi with h1|⟨h1,rfl⟩
  ·rcases sp j o' hj with h2|⟨h2,rfl⟩
   ·exact h.sep i j o o' h1 h2 hne a ha hb
   ·exact (h.ok o (List.mem_of_getElem? h1)).rep.some ha (new a hb)
  ·rcases sp j o' hj with h2|⟨h2,rfl⟩
   ·exact (h.ok o' (List.mem_of_getElem? h2)).rep.some hb (new a ha)
   ·exact hne (h1.trans h2.symm)
 ·refine xa1_2 ha ?_;(try clear ha);intro o ho hf
  rcases List.mem_append.mp ho with ho|ho
  ·exact .inl ⟨o,ho,hf⟩
  ·simp at ho;subst ho;exact .inr (new a hf)
theorem HY (T:Tp C) {l:List TI} {hp:HP} {j:Nat} {e:TI} {w:Lf} (hA:A.handled=none) (hroom:A.depth+2<recursionLimit) (h:Bf l hp) (hj:l[j]? = some e) (hf:e.fin=false) (hw:LR e.ci w) (hz:1+FJ e.ws+w.1.length≤4000) :
  Fn C A (.ref 66) [.ref e.t,w.2] [] hp (fun v hp'=>v=.none∧∃e':TI,e'.t=e.t∧e'.fin=false∧e'.ws=e.ws++[w]∧e'.ci=e.ci∧Bf (l.set j e') hp'∧BO (CR l) hp (CR (l.set j e')) hp'):=by
 have ok:=h.ok e (List.mem_of_getElem? hj)
 have hr:=ok.rep
 rw [hf] at hr
 have hlen:=ok.len
 refine xa1_3 (hw.low hp) ?_;intro v2 lo sq nr
 refine (MT T (w:=w.1) hA hroom (ok.ph1 hf) hr lo sq (fun a q=>absurd q (nr a)) (by exact Ax [_,_,_] [(1,(Za (Za (Zn 1) Z2) Z1),(Zn 4000)),(1,Z0,(Za (Zn 1) Z2))] (Za Z0 Z1) (Zn 4000) rfl hz hlen) hw.nval).mono fun v hp' hq=>?_
 refine cps fun zP zk=>?_;(rcases hq with ⟨rfl,X',k1,k2,k3,k4,k5,k6,k7⟩)<;>(refine zk ?_;clear zk zP)
 refine ⟨rfl,⟨X',e.t,e.d,false,e.ws++[w],e.ci⟩,rfl,rfl,rfl,rfl,h.turn hj k3 ⟨k2,fun p=>?_,fun p=>?_,?_,fun zu=>k1,fun q=>(by exact By q),fun u hu=>?_⟩⟩
 ·rw [k5 p,ok.key p,Jr]
 ·rw [k4 p,ok.dom p]
  simp only [List.mem_append,List.mem_singleton]
  constructor
  ·rintro ((q|⟨u,hu,q⟩)|q)
   ·exact .inl q
   ·exact .inr ⟨u,.inl hu,q⟩
   ·exact .inr ⟨w,.inr rfl,q⟩
  ·rintro (q|⟨u,hu|rfl,q⟩)
   ·exact .inl (.inl q)
   ·exact .inl (.inr ⟨u,hu,q⟩)
   ·exact .inr q
 ·show X'.D.length≤1+FJ (e.ws++[w])
  have:FJ (e.ws++[w])=FJ e.ws+w.1.length:=by simp [FJ]
  exact Ax [_,_,_,_,_] [(1,Z2,(Za (Zn 1) Z3)),(1,Z0,(Za Z2 Z4)),(1,(Za Z3 Z4),Z1)] Z0 (Za (Zn 1) Z1) rfl hlen k6 (Nat.le_of_eq (Eq.symm this))
 ·rcases List.mem_append.mp hu with q|q
  ·exact ok.wok u q
  ·simp at q;subst q;exact hw
theorem HX (T:Tp C) {l:List TI} {hp:HP} {j:Nat} {e:TI} {N:Nat} (hA:A.handled=none) (hroom:A.depth+N+4<recursionLimit) (h:Bf l hp) (hj:l[j]? = some e) (hf:e.fin=false) (hz:1+FJ e.ws≤300) (hN:∀w∈e.ws,w.1.length≤N) :
  Fn C A (.ref 101) [.ref e.t] [] hp (fun v hp'=>v=.none∧∃e':TI,e'.t=e.t∧e'.fin=true∧e'.ws=e.ws∧e'.ci=e.ci∧Bf (l.set j e') hp'∧BO (CR l) hp (CR (l.set j e')) hp'):=by
 have ok:=h.ok e (List.mem_of_getElem? hj)
 have hr:=ok.rep
 rw [hf] at hr
 have hlen:=ok.len
 have hle:∀p∈e.X.D,p.length≤N:=fun p hp=>by
  rcases (ok.dom p).mp hp with rfl|⟨w,hw,q⟩
  ·simp
  ·exact Nat.le_trans q.length_le (hN w hw)
 refine (MO T hA hroom (ok.ph1 hf) hr (by with_reducible exact Cs ‹_› ‹_›) hle (fun p v hv=>?_)).mono fun v hp' hq=>?_
 ·rw [ok.key p] at hv
  have hm:=(HR hv).2
  have wk:=ok.wok _ hm
  refine xa1_2 (wk.len hp) ?_;intro xs z1 z2
  exact ⟨xs,z2,z1,fun a q=>absurd q (wk.nref a)⟩
 ·refine cps fun zP zk=>?_;(rcases hq with ⟨rfl,X',k1,k2,k3,k4,k5,k6,k7⟩)<;>(refine zk ?_;clear zk zP)
  have hfp:(⟨X',e.t,e.d,true,e.ws,e.ci⟩:TI).fp=e.fp:=by
   funext a
   simp only [TI.fp,Fp,k4,k5,k6]
  have fr:BO e.fp hp (⟨X',e.t,e.d,true,e.ws,e.ci⟩:TI).fp hp':=by rw [hfp];exact k3
  refine ⟨rfl,⟨X',e.t,e.d,true,e.ws,e.ci⟩,rfl,rfl,rfl,rfl,h.turn hj fr ⟨k2,fun p=>?_,fun p=>?_,?_,fun q=>(by exact CJ q),fun zu=>k1,ok.wok⟩⟩
  ·show X'.key p=_
   rw [k7];exact ok.key p
  ·show p∈X'.D↔_
   rw [k4];exact ok.dom p
  ·show X'.D.length≤_
   rw [k4];exact hlen
theorem IF {e:TI} {hp:HP} (h:e.ok hp):e.X.key=Bj e.ws:=funext h.key
theorem TI.ok.words {e:TI} (h:e.ok hp) {N:Nat} (hN:∀w∈e.ws,w.1.length≤N):∀p∈e.X.D,p.length≤N:=fun p hp=>by
 rcases (h.dom p).mp hp with rfl|⟨w,hw,q⟩
 ·exact Nat.zero_le _
 ·exact Nat.le_trans q.length_le (hN w hw)
noncomputable def H1 (hp:HP) (ci:Bool) (pv:PV) (xs:List AV):Prop:=∀x,Args hp [pv] [x]→∃x2,Iq ci x x2∧Bw x2 xs hp
theorem H1.low {x:Str} (hz:x.length≤100000) (hz2:(Txt.lower x).length≤100000):H1 hp true (.str x,false) (AT (Txt.lower x)):=fun x h=>by
 cases h with|val h=>exact ⟨_,.yes hz,.str hz2⟩
theorem Args.inv2 {a:Addr} {pv:PV} {xs:List AV} (h:Args hp [(.ref a,false),pv] xs):∃x,xs=[.ref a,x]∧Args hp [pv] [x]:=by
 cases h with
 |val h=>
  cases h with
  |val h=>cases h with|nil=>exact ⟨_,rfl,.val .nil⟩
  |own ho h=>cases h with|nil=>exact ⟨_,rfl,.own ho .nil⟩
theorem Lk (T:Tp C) {o arg:Expr} {apos pos:Pos} {e:TI} {pv:PV} {w:Aj} (hA:A.handled=none) (hl:C.h0.NoLimit) (hroom:A.depth+3<recursionLimit) (ok:e.ok hp) (hf:e.fin=true) (hz:∀w∈e.ws,w.1.length≤1000)
  (ho:PE C A hp env loc o (.ref e.t,false)) (hv:PE C A hp env loc arg pv) (hsq:H1 hp e.ci pv (w.map As.av)) (hb:attributeBase o "search_one" env (eval o env)=eval o env:=by rfl) (hl':apos.endLine=pos.line:=by rfl)
  (hform:methodCallForm ([arg].length+0) (backTo pos (starEach [arg] env)) (backToKw pos (keywordEach [] env))=true:=by rfl)
  (ht:backTo pos (starEach [arg] env)=AN env [arg]:=by rfl):PE C A hp env loc (.Call (.Attribute o "search_one" apos) [arg] [] pos) (AL (B1 (Bj e.ws) [] w),false):=by
 have hr:=ok.rep
 rw [hf] at hr
 refine xa1_1 T.f_one ?_;intro r0 hfn
 refine PW.pe (GD ho T.m_one hfn hr.tree hr.ns rfl (.cons hv .nil) (fun xs h=>?_) hb hl' hform ht)
 refine xa1_2 h.inv2 ?_;intro x;rintro rfl;intro hx
 refine xa1_2 (hsq x hx) ?_;intro x2 lo sq
 exact (M7 T hA hl hroom (ok.ph3 hf) (ok.words hz) hr lo sq).cl.mono fun v hp' q=>⟨by rw [q.1,IF ok],Sub.of q.2⟩
theorem F0 (T:Tp C) {o arg:Expr} {apos pos lp lpos:Pos} {e:TI} {pv:PV} {w:Aj} (hA:A.handled=none) (hl:C.h0.NoLimit) (hroom:A.depth+3<recursionLimit) (ok:e.ok hp) (hf:e.fin=true) (hz:∀w∈e.ws,w.1.length≤1000)
  (hg:GL C "list" (.type "list")) (ho:PE C A hp env loc o (.ref e.t,false)) (hv:PE C A hp env loc arg pv) (hsq:H1 hp e.ci pv (w.map As.av)) (hlen:(B1 (Bj e.ws) [] w).length≤100000) (hb:attributeBase o "search_all" env (eval o env)=eval o env:=by rfl) (hl':apos.endLine=pos.line:=by rfl)
  (hform:methodCallForm ([arg].length+0) (backTo pos (starEach [arg] env)) (backToKw pos (keywordEach [] env))=true:=by rfl)
  (ht:backTo pos (starEach [arg] env)=AN env [arg]:=by rfl) (hk:env.kindOf "list" = some .globalImplicit:=by rfl)
  (he:eval (.Call (.Name "list" lp) [.Call (.Attribute o "search_all" apos) [arg] [] pos] [] lpos) env=(do callWith lpos (←eval (.Name "list" lp) env) [] [(false,eval (.Call (.Attribute o "search_all" apos) [arg] [] pos) env)] []):=by rfl) :
  PE C A hp env loc (.Call (.Name "list" lp) [.Call (.Attribute o "search_all" apos) [arg] [] pos] [] lpos) (.lst (B1 (Bj e.ws) [] w),false):=by
 have hr:=ok.rep
 rw [hf] at hr
 refine xa1_1 T.f_all ?_;intro r0 hfn
 have hX:=ok.ph3 hf
 have hD:=ok.words hz
 rw [←IF ok] at hlen ⊢
 refine PW.pe (Li (Q:=fun v hp'=>∃ga N,v=.ref ga∧Sub hp hp'∧AJ e.X e.t e.d true e.ci hp'∧H2 C e.X e.t e.d hp' ga (B1 e.X.key [] w) N∧∀a,N a→hp a=none) hg (GD ho T.m_all hfn hr.tree hr.ns rfl (.cons hv .nil) (fun xs h=>?_) hb hl' hform ht) (fun av hp' q=>?_) (fun zu zu=>AG (by intro a;simp)) hk he)
 ·refine xa1_2 h.inv2 ?_;intro x;rintro rfl;intro hx
  refine xa1_2 (hsq x hx) ?_;intro x2 lo hsx
  refine (Ld T (tv:=x) (Nat.lt_of_succ_lt (Nat.lt_of_succ_lt hroom)) hr lo).cl.mono fun v hp' hq=>?_
  refine xa4_5 hq ?_;(try clear hq);intro r L ga g;rintro rfl;intro hF h1 h2 hk
  have nf:∀{a},hp a=none→¬Fp e.X e.t e.d a:=fun e hf=>hr.some hf e
  have hr':AJ e.X e.t e.d true e.ci hp':=hr.off fun a ha=>hk a (hr.some ha)
  refine ⟨ga,_,rfl,Sub.of hk,hr',H2.fresh hF (hsx.keep fun l zs hl=>(hk l (by rw [hl];exact fun z=>nomatch z)).trans hl) (fun l e=>?_) (nf h2) (nf h1),fun a ha=>?_⟩
  ·subst e
   cases hsx with
   |list zu hl=>exact ⟨(by rintro rfl;rw [h2] at hl;exact Ak hl),(by rintro rfl;rw [h1] at hl;exact Ak hl)⟩
  ·rcases ha with rfl|rfl
   ·exact h2
   ·exact h1
 ·refine xa2_5 q ?_;(try clear q);intro ga N;rintro rfl;intro hs hr' hS hN
  exact (Kv T hA hl (Nat.lt_of_succ_lt hroom) hX hD hr' hS hlen).mono fun v hp'' q=>⟨q.1,fun a x hx=>by
   rw [←hs a x hx]
   exact q.2 a (by rw [hs a x hx];exact fun z=>nomatch z) fun hn=>by rw [hN a hn] at hx;exact Ak hx⟩
end
end
section
section
variable {C:Cf} {A:Around} {s:Shared} {σ:Am} {F G:FH} {env:Env} {E:Value→Shared→Prop} {hp:HP} {loc:PL}
theorem PT.eq {α β:Type} {R:FH→β→α→Prop} {t:Sem α} {b b':β} (h:PT C A hp env loc R t b) (e:b=b'):PT C A hp env loc R t b':=e▸h
theorem PE.eqv {e:Expr} {a b:AV} (h:PE C A hp env loc e (a,false)) (q:a=b):PE C A hp env loc e (b,false):=q▸h
theorem PI.eq {target iter:Expr} {xs ys:List AV} (h:PI C A hp env loc target iter xs) (e:xs=ys):PI C A hp env loc target iter ys:=e▸h
theorem Mb.eq {elt:Expr} {gens:List Comprehension} {scope:Scope} {pos:Pos} {xs ys:List AV} (h:Mb C A hp env loc elt gens scope pos xs) (e:xs=ys):Mb C A hp env loc elt gens scope pos ys:=e▸h
theorem Nj {xs:List AV} {p:Bool} (hz:xs.length≤100000):NG C A hp (fun zu b b'=>b=b') truthy (.lst xs,p) (!xs.isEmpty):=fun F s E v w hv=>by
 refine xa4_6 (hv.lstI w) ?_;intro a o vs n;rintro rfl;intro ho hc hd hvs zu
 refine wpAny_truthy_list ⟨o,ho,hc,n,hd⟩ (by rw [List.size_toArray,hvs.length];omega) (BA.here w ?_)
 rw [List.isEmpty_toArray]
 cases hvs<;>rfl
theorem Jf (n:Nat):BP 0 1 n=(List.range n).map fun (i:Nat)=>AV.int (i:Int):=by
 unfold BP
 apply List.map_congr_left
 intro i zu
 simp
theorem HJ (a:Int) (n:Nat):BP a 1 n=(List.range n).map fun (i:Nat)=>AV.int (a+(i:Int)):=by
 unfold BP
 apply List.map_congr_left
 intro i zu
 simp
theorem E6 {a b:Int} (h1:-1000000≤a) (h2:a≤1000000) (h3:-1000000≤b) (h4:b≤1000000):Builtin.Range.small a b 1=true:=small_one (by omega) (by omega) (by omega) (by omega)
theorem Mo {a b:Int} {n:Nat} (h:(n:Int)=b - a∨(b≤a∧n=0)):Builtin.Range.rangeSize a b 1=n:=by rw [rangeSize_one];split<;>omega
noncomputable abbrev lstI (l:List Int):AV:=.lst (l.map .int)
theorem MX {target:Expr} {x:Str} {px pos:Pos} {arg:Expr} {b:Int} {n:Nat} (hA:A.handled=none) (hg:GL C x (.type "range")) (hv:PE C A hp env loc arg (.int b,false)) (hb:b=n) (hn:n≤1000000) (hk:env.kindOf x=some .globalImplicit:=by rfl)
  (he:eval (.Call (.Name x px) [arg] [] pos) env=(do callWith pos (←eval (.Name x px) env) [] (AN env [arg]) []):=by rfl) (hd:(x == ("__debug__" : Str))=false:=by decide):PI C A hp env loc target (.Call (.Name x px) [arg] [] pos) ((List.range n).map fun (i:Nat)=>AV.int (i:Int)):=by
 subst hb
 refine (JM (n:=n) hA hg (.cons hv .nil) (E6 (by decide) (by decide) (by omega) (by omega)) (Mo (.inl (by simp))) hk he hd).eq (Jf n)
theorem LW {target:Expr} {x:Str} {px pos:Pos} {e1 e2:Expr} {a b:Int} {n:Nat} (hA:A.handled=none) (hg:GL C x (.type "range")) (hv:PE C A hp env loc e1 (.int a,false)) (hv2:PE C A hp env loc e2 (.int b,false)) (h1:-1000000≤a) (h2:a≤1000000) (h3:-1000000≤b) (h4:b≤1000000) (hn:(n:Int)=b - a∨(b≤a∧n=0)) (hk:env.kindOf x=some .globalImplicit:=by rfl)
  (he:eval (.Call (.Name x px) [e1,e2] [] pos) env=(do callWith pos (←eval (.Name x px) env) [] (AN env [e1,e2]) []):=by rfl) (hd:(x == ("__debug__" : Str))=false:=by decide):PI C A hp env loc target (.Call (.Name x px) [e1,e2] [] pos) ((List.range n).map fun (i:Nat)=>AV.int (a+(i:Int))):=
 (JL (n:=n) hA hg (.cons hv (.cons hv2 .nil)) (E6 h1 h2 h3 h4) (Mo hn) hk he hd).eq (HJ a n)
theorem Ip {x:Str} {px pos:Pos} {args:List Expr} {f:Addr} {fd:FuncData} {pvs:List PV} {v:AV} (hf:FnAt C f fd) (hg:GL C x (.ref f)) (hv:H9 C A hp env loc args pvs) (h:∀xs,Args hp pvs xs→Fn C A (.ref f) xs [] hp (fun v' hp'=>v'=v∧hp'=hp)) (hk:env.kindOf x=some .globalImplicit:=by rfl)
  (he:eval (.Call (.Name x px) args [] pos) env=(do callWith pos (←eval (.Name x px) env) [] (AN env args) []):=by rfl) (hd:(x == ("__debug__" : Str))=false:=by decide):PE C A hp env loc (.Call (.Name x px) args [] pos) (v,false):=
 AX hg hv (MY.pc fun xs hx=>(h xs hx).cl.mono fun v' hp' q=>⟨q.1,by rw [q.2];exact .refl _⟩) (fun zu k=>hf.keep k) hk he hd
theorem Args.vals {xs ys:List AV} (h:Args hp (vals xs) ys):ys=xs:=by
 induction xs generalizing ys with
 |nil=>cases h;rfl
 |cons x xs ih=>cases h with|val h=>rw [ih h]
end
end
section
section
variable {C:Cf} {A:Around} {s:Shared} {σ:Am} {F G:FH} {env:Env} {E:Value→Shared→Prop} {hp:HP} {loc:PL}
end
end
section
section
variable {C:Cf} {A:Around} {s:Shared} {F G:FH} {env:Env} {E:Value→Shared→Prop} {hp:HP} {loc:PL}
noncomputable def J4 {α:Type} (xs:List α) (lo hi:Option Nat):List α:=(xs.drop (lo.getD 0)).take (hi.getD xs.length - lo.getD 0)
end
end
section
section
variable {C:Cf} {A:Around} {s:Shared} {F G:FH} {env:Env} {E:Value→Shared→Prop} {hp:HP} {loc:PL}
noncomputable abbrev sS (l:List Nat):AV:=.str ⟨l.toArray⟩
theorem JZ (lo hi:Option Nat) (n:Nat):Builtin.Str.strSliceIndices (lo.map Int.ofNat) (hi.map Int.ofNat) 1 n=(List.range (min (hi.getD n) n - min (lo.getD 0) n)).map (min (lo.getD 0) n+·):=by
 rw [←sliceRange_one]
 unfold Builtin.Str.strSliceIndices
 have h1:(1:Int) > 0:=by omega
 cases lo<;>cases hi<;>simp only [Option.map_none,Option.map_some,Option.getD_none,Option.getD_some,h1,if_true]<;>congr 1<;>simp<;>omega
theorem Kb (l:List Nat) (lo hi:Option Nat):Txt.slice ⟨l.toArray⟩ (lo.map Int.ofNat) (hi.map Int.ofNat)=⟨(J4 l lo hi).toArray⟩:=by
 have hn:(⟨l.toArray⟩:Str).length=l.length:=rfl
 have key:((Builtin.Str.strSliceIndices (lo.map Int.ofNat) (hi.map Int.ofNat) 1 l.length).filterMap (l.toArray[·]?))=J4 l lo hi:=by
  rw [JZ,pick_run l.toArray]
  show List.take _ (List.drop _ l)=_
  unfold J4
  by_cases q:lo.getD 0≤l.length
  ·rw [Nat.min_eq_left q]
   by_cases q2:hi.getD l.length≤l.length
   ·rw [Nat.min_eq_left q2]
   ·rw [Nat.min_eq_right (show l.length≤hi.getD l.length by exact Ax [_,_] [(1,(Zs Z0),Z1)] Z0 Z1 rfl (Nat.lt_of_not_le q2)),List.take_of_length_le (by simp),List.take_of_length_le (by simp;exact Ax [_,_,_,_] [(1,(Zs Z0),Z3),(1,Z3,(Za Z1 Z2))] Z0 (Za Z1 Z2) rfl (Nat.lt_of_not_le q2) (CG _ _))]
  ·rw [Nat.min_eq_right (show l.length≤lo.getD 0 by exact Ax [_,_] [(1,(Zs Z0),Z1)] Z0 Z1 rfl (Nat.lt_of_not_le q)),List.drop_of_length_le (Nat.le_refl _),List.drop_of_length_le (show l.length≤lo.getD 0 by exact Ax [_,_] [(1,(Zs Z0),Z1)] Z0 Z1 rfl (Nat.lt_of_not_le q))];simp
 unfold Txt.slice
 rw [hn]
 split
 ·rename_i q
  simp only [beq_self_eq_true,Bool.true_and,beq_iff_eq] at q
  rw [JZ,List.length_map,List.length_range] at q
  congr 2
  unfold J4
  by_cases z:l.length=0
  ·rw [List.eq_nil_of_length_eq_zero z];simp
  ·have z1:lo.getD 0=0:=by omega
   rw [z1,List.drop_zero,List.take_of_length_le (by omega)]
 ·rw [key]
theorem LU {l:List Nat} {lo hi:Option Nat} (hz:l.length≤100000):NF C A hp (sS l,false) (lo.map Int.ofNat) (hi.map Int.ofNat) none (sS (J4 l lo hi),false):=fun F s E v a lv uv w hin hv hs pl pu pw value slice=>by
 refine xa1_1 hv.out.strI ?_;intro t;rintro rfl
 obtain rfl:w=.none:=by cases pw;rfl
 have hsz:(⟨l.toArray⟩:Str).length≤sizeLine:=by rw [sizeLine_eq];exact Nat.le_trans hz (by decide)
 have fin:∀t' k,BA C A hp F s (fun F' v=>BB hp F' (sS (J4 l lo hi),false) v) (.str (Txt.slice ⟨l.toArray⟩ (lo.map Int.ofNat) (hi.map Int.ofNat)) t') { s with toks:=k }:=fun t' k=>by
  rw [Kb];exact BA.here (t:=k) hin (.val (.str _ _))
 refine xa1_3 hs ?_;(try clear hs);intro o ho hc hd
 cases lo with
 |none=>
  cases pl
  cases hi with
  |none=>
   cases pu
   exact B3 (typeIs_str s _ t) PySem.F.slot_str_getitem.lookup (wpAny_getItem_str_slice (l:=none) (u:=none) (st:=none) ⟨o,ho,hc,hd⟩ rfl (post_val_or_str ⟨Nat.le_trans (Txt.slice_le _ none none) hsz,fin⟩))
  |some j=>
   cases pu with
   |int _ ju=>exact B3 (typeIs_str s _ t) PySem.F.slot_str_getitem.lookup (wpAny_getItem_str_slice (l:=none) (u:=some (_,ju)) (st:=none) ⟨o,ho,hc,hd⟩ rfl (post_val_or_str ⟨Nat.le_trans (Txt.slice_le _ none (some (Int.ofNat j))) hsz,fin⟩))
 |some i=>
  cases pl with
  |int _ iu=>
   cases hi with
   |none=>
    cases pu
    exact B3 (typeIs_str s _ t) PySem.F.slot_str_getitem.lookup (wpAny_getItem_str_slice (l:=some (_,iu)) (u:=none) (st:=none) ⟨o,ho,hc,hd⟩ rfl (post_val_or_str ⟨Nat.le_trans (Txt.slice_le _ (some (Int.ofNat i)) none) hsz,fin⟩))
   |some j=>
    cases pu with
    |int _ ju=>exact B3 (typeIs_str s _ t) PySem.F.slot_str_getitem.lookup (wpAny_getItem_str_slice (l:=some (_,iu)) (u:=some (_,ju)) (st:=none) ⟨o,ho,hc,hd⟩ rfl (post_val_or_str ⟨Nat.le_trans (Txt.slice_le _ (some (Int.ofNat i)) (some (Int.ofNat j))) hsz,fin⟩))
theorem Cc {l:List Nat} {a b:Nat} (hz:l.length≤100000):NF C A hp (sS l,false) (some (a:Int)) (some (b:Int)) none (sS ((l.drop a).take (b - a)),false):=LU (lo:=some a) (hi:=some b) hz
theorem Mn {value slice:Expr} {l:List Nat} {k c:Nat} (hk:l[k]? = some c) (hz:l.length≤100000):Gq C A hp (BB hp) (subscriptTail value slice) (sS l,false) (.int (k:Int),false) (sS [c],false):=fun F s E v w hin hv hw=>by
 refine xa1_1 hv.out.strI ?_;intro t;rintro rfl
 refine xa1_1 hw.out.intI ?_;intro u;rintro rfl
 have hlt:k<l.length:=(List.getElem?_eq_some_iff.mp hk).1
 refine B3 (typeIs_str s _ t) PySem.F.slot_str_getitem.lookup (P.getItem_str (c:=c) ?_ ?_ (BA.here (t:=s.toks+1) hin (.val (.str _ _))))
 ·simp;omega
 ·have:seqIndex? (k:Int) (⟨l.toArray⟩:Str).length=some k:=by
   unfold seqIndex?
   have h2:(⟨l.toArray⟩:Str).length=l.length:=rfl
   rw [h2];simp;omega
  rw [this]
  show l.toArray[k]? = some c
  rw [List.getElem?_toArray];exact hk
theorem VRs.strs:∀{ys:List Str} {vs:List Value},VRs F (ys.map .str) vs→StrsAre vs ys
 |[],_,h=>by obtain rfl:=VRs.nilI h;exact .nil
 |y::ys,_,h=>by
  refine xa2_3 h.inv ?_;intro v us;rintro rfl;intro h1 h2
  refine xa1_1 h1.strI ?_;intro t;rintro rfl
  exact .cons y t h2.strs
theorem LL (ls:List (List Nat)):Txt.join ⟨#[]⟩ (ls.map fun l=>⟨l.toArray⟩)=⟨ls.flatten.toArray⟩:=by
 have key:∀(ls:List (List Nat)) (a:List Nat),(ls.map fun l=>(⟨l.toArray⟩:Str)).foldl (fun acc p=>acc++#[]++p.cps) a.toArray=(a++ls.flatten).toArray:=by
  intro ls
  induction ls with
  |nil=>intro a;simp
  |cons l ls ih=>
   intro a
   rw [List.map_cons,List.foldl_cons]
   have:a.toArray++#[]++(⟨l.toArray⟩:Str).cps=(a++l).toArray:=by simp
   rw [this,ih];simp
 unfold Txt.join Builtin.Str.glued
 cases ls with
 |nil=>rfl
 |cons l ls=>
  have:=key ls l
  simp only [List.map_cons,List.drop_succ_cons,List.drop_zero,List.headD_cons,List.flatten_cons]
  rw [this]
theorem DZ {sep arg:Expr} {apos pos:Pos} {ls:List (List Nat)} {p:Bool} (h:PE C A hp env loc sep (sS [],false)) (h2:PE C A hp env loc arg (.lst (ls.map sS),p)) (hz:(ls.map List.length).sum≤100000) (hb:attributeBase sep "join" env (eval sep env)=eval sep env:=by rfl)
  (hfew:((backTo pos (starEach [arg] env)).all (fun x=>!x.1)&&(backToKw pos (keywordEach [] env)).all (fun x=>x.1.isSome)&&decide ([arg].length+([]:List Keyword).length+(if ([]:List Keyword).isEmpty then 0 else 1)<30))=true:=by rfl)
  (hl:(apos.endLine == pos.line)=true:=by rfl) (ht:backTo pos (starEach [arg] env)=AN env [arg]:=by rfl):PE C A hp env loc (.Call (.Attribute sep "join" apos) [arg] [] pos) (sS ls.flatten,false):=.mk fun F s E c=>by
 refine wpAny_Call_method_lateS hb hfew hl ?_
 rw [ht]
 refine h.use c fun F₁ s₁ v st₁ c₁ r=>?_
 refine xa1_1 r.out.strI ?_;intro t;rintro rfl
 refine SB.join (h2.use c₁ fun F₂ s₂ v2 st₂ c₂ r2=>?_)
 refine xa4_6 (r2.lstI c₂.wp) ?_;intro a o vs n;rintro rfl;intro ho hc hd hvs zu
 have e:ls.map sS=(ls.map fun l=>(⟨l.toArray⟩:Str)).map AV.str:=by rw [List.map_map];rfl
 rw [e] at hvs
 refine xa1_2 (strsAre_values hvs.strs) ?_;intro l hv hx
 refine ⟨a,l,rfl,⟨o,ho,hc,n,by rw [hd,hv]⟩,_,hx,joinOk_of ?_,fun t' k=>?_⟩
 ·show ((ls.map fun l=>(⟨l.toArray⟩:Str)).map (·.length)).sum+_*0≤_
  rw [List.map_map]
  have:((fun x:Str=>x.length)∘fun l:List Nat=>(⟨l.toArray⟩:Str))=List.length:=rfl
  rw [this];exact Ax [_,_] [(1,Z0,(Zn 100000))] (Za Z0 (.mulR Z1 0)) (Zn 16777216) rfl hz
 ·have hje:Txt.join ⟨([]:List Nat).toArray⟩ (ls.map fun l=>⟨l.toArray⟩)=⟨ls.flatten.toArray⟩:=LL ls
  rw [hje]
  exact (BA.here (t:=k) c₂.wp (.val (.str _ _))).pre (st₁.trans st₂)
end
end
section
section
variable {C:Cf} {A:Around} {s:Shared} {F G:FH} {env:Env} {E:Value→Shared→Prop} {hp:HP} {loc:PL}
noncomputable abbrev iN (n:Nat):AV:=.int (n:Int)
theorem Nr {c:Nat}:PK C A hp (.builtin "ord") [(sS [c],false)] (iN c,false):=fun F s E us hin r=>by
 refine xa2_3 r.inv ?_;intro v us;rintro rfl;intro r1 r
 obtain rfl:=r.nilI
 refine xa1_1 r1.out.strI ?_;intro t;rintro rfl
 exact P.ord_of_char (BA.here (t:=s.toks+1) hin (.val (.int _ _)))
theorem Gd {n:Nat} (h:n≤1114111):PK C A hp (.builtin "chr") [(iN n,false)] (sS [n],false):=fun F s E us hin r=>by
 refine xa2_3 r.inv ?_;intro v us;rintro rfl;intro r1 r
 obtain rfl:=r.nilI
 refine xa1_1 r1.out.intI ?_;intro t;rintro rfl
 refine P.chr_of_int (by simp;omega) (BA.here (t:=s.toks+1) hin (.val ?_))
 have:((n:Int)).toNat=n:=Int.toNat_natCast n
 rw [this];exact .str _ _
theorem KW {a b:List Nat} (hz:a.length+b.length≤100000):Gq C A hp (BB hp) (binaryOp .Add) (sS a,false) (sS b,false) (sS (a++b),false):=fun F s E v u hin hv hu=>by
 refine xa1_1 hv.out.strI ?_;intro t;rintro rfl
 refine xa1_1 hu.out.strI ?_;intro t2;rintro rfl
 refine PyProof.Rows.add_str (fun t' tk=>?_) (by rw [sizeLine_eq];show a.length+b.length≤_;exact Nat.le_trans hz (by decide))
 have e:(⟨a.toArray⟩:Str)++⟨b.toArray⟩=⟨(a++b).toArray⟩:=by
  show (⟨a.toArray++b.toArray⟩:Str)=_
  simp
 rw [e]
 exact BA.here (t:=tk) hin (.val (.str _ _))
theorem Wp.dictOf (w:Wp C A hp F s) {a:Addr} {l:List (As×AV)} {ep:Nat} (ha:hp a=some (.dict l ep)):∃kvs,s.heap.DictOf (Bh C.prog C.w) a kvs∧SV F l kvs:=by
 refine cps fun zP zk=>?_;(rcases w.ob a _ ha with ⟨_,o,ho,r⟩)<;>(refine zk ?_;clear zk zP)
 (refine OR.dictC r fun es kvs a1 a2 a3 a4 a5 a6=>?_;clear r)
 exact ⟨_,⟨_,_,_,ho,a1,a2,a3,a4,a5⟩,a6⟩
theorem M5 {value slice:Expr} {a:Addr} {l:List (As×AV)} {ep:Nat} {k:As} {x:AV} (ha:hp a=some (.dict l ep)) (hx:DA l k=some x):Gq C A hp (BB hp) (subscriptTail value slice) (.ref a,false) (k.av,false) (x,false):=fun F s E v u hin hv hu=>by
 obtain rfl:=hv.out.refI
 refine xa1_2 (hin.dictOf ha) ?_;intro kvs hd sv
 rcases sv.at k with ⟨x',v',h1,h2,h3⟩|⟨h1,_⟩
 ·rw [hx] at h1;(have zc:=Option.some.inj h1;clear h1;subst zc)
  have hm:=BZ hd
  exact B3 hm.typeIs slot_dict_getitem.lookup (wpAny_getItem_of (As.is_of hu.out) hm h2 (show BA C A hp F s (fun F' v=>BB hp F' (x,false) v) _ _ from BA.here (t:=s.toks+1) hin (BB.val h3)))
 ·rw [hx] at h1;exact Ao h1
theorem Wp.low (w:Wp C A hp F s) {a:Addr} {x:AO} (ha:hp a=some x) (hs:(C.h0.get? sysModules).isSome=true):(a == sysModules)=false:=by
 simp only [beq_eq_false_iff_ne,ne_eq]
 rintro rfl
 refine xa1_1 (Option.isSome_iff_exists.mp hs) ?_;intro o ho
 have:=(w.ob _ _ ha).1
 rw [w.base _ _ ho] at this
 exact Ao this
theorem Mt (hs:(C.h0.get? sysModules).isSome=true) {a:Addr} {l:List (As×AV)} {ep:Nat} {k:As} (ha:hp a=some (.dict l ep)):Gq C A hp (BB hp) (compareOp .In) (k.av,false) (.ref a,false) (.bool (DA l k).isSome,false):=fun F s E v u hin hv hu=>by
 obtain rfl:=hu.out.refI
 refine xa1_2 (hin.dictOf ha) ?_;intro kvs hd sv
 refine wpAny_in_of (As.is_of hv.out) (hin.low ha hs) (BZ hd) (show BA C A hp F s (fun F' v=>BB hp F' (.bool (DA l k).isSome,false) v) _ _ from BA.here (t:=s.toks+1) hin (BB.val ?_))
 rcases sv.at k with ⟨x',v',h1,h2,h3⟩|⟨h1,h2⟩
 ·rw [h1,h2];exact .bool _
 ·rw [h1,h2];exact .bool _
theorem CmpOf.strs_lt {prog:Program} {w:World} {A:Around} {P:Nat→Value→Prop} (val:Nat→Str) (hval:∀i v,P i v→∃t,v=.str (val i) t):CmpOf prog w A .Lt P (fun i j=>decide ((val i).cps.toList<(val j).cps.toList)):=by
 intro i j vi vj s Q E hi hj hQ
 refine xa1_1 (hval i vi hi) ?_;intro t;rintro rfl
 refine xa1_1 (hval j vj hj) ?_;intro u;rintro rfl
 exact richCompare_gives (op:=.Lt) (typeIs_str s _ t) (typeIs_str s _ u) PySem.F.slot_str_lt PySem.F.entry_str_lt (PySem.F.args_str_lt_2 _ _) (gives_str_lt _ _ t u) (fun x=>nomatch x) hQ
theorem G2 {x y:Str} {t u:Tok} {Q:Value→Shared→Prop} (hh:A.handled=none)
  (h:∀h' tk,(∀c o,s.heap.get? c=some o→h'.get? c=some o)→Q (if y.cps.toList<x.cps.toList then .str y u else .str x t) { s with heap:=h',toks:=tk }) :
  wpAny (model C.prog C.w) A (PySem.call (.builtin "min") [.str x t,.str y u]) Q E s:=by
 have hT:(s.heap.push { cls:=.type "tuple",data:=.seq #[.str x t,.str y u] }).IsTuple s.heap.objs.size #[.str x t,.str y u]:=⟨_,Heap.get?_push_size _ rfl,rfl,0,rfl⟩
 refine call_min_two (wpAny_pyIter_tuple hT ?_)
 have hsz:(s.heap.push { cls:=.type "tuple",data:=.seq #[.str x t,.str y u] }).objs.size=s.heap.objs.size+1:=Heap.size_push ..
 refine ⟨_,[_,s.heap.objs.size],[_],_,_,_,_,rfl,Walks.tuple (A:=A.in1) hh _ s.heap.objs.size (by rw [hsz];exact Nat.ne_of_lt (Nat.lt_succ_self _)) #[.str x t,.str y u],
  ⟨⟨_,Heap.get?_push_size _ rfl,rfl,rfl⟩,hT.push _⟩,fun c hc=>?_,by simp,CmpOf.strs_lt (fun i=>if i=0 then x else y) (fun i v hi=>?_),fun v h' tk hP hk=>?_⟩
 ·show c<((s.heap.push _).push _).objs.size
  rw [Heap.size_push,hsz]
  rcases List.mem_cons.mp hc with rfl|hc
  ·rw [hsz];exact Nat.lt_succ_self _
  ·rcases List.mem_cons.mp hc with rfl|hc
   ·exact Nat.lt_succ_of_lt (Nat.lt_succ_self _)
   ·cases hc
 ·match i,hi with
  |0,hi=>exact ⟨t,(Option.some.inj hi).symm⟩
  |1,hi=>exact ⟨u,(Option.some.inj hi).symm⟩
 ·have hold:∀c o,s.heap.get? c=some o→h'.get? c=some o:=fun c o e=>by
   refine hk c o (fun hm=>?_) (Heap.get?_push_of_some _ (Heap.get?_push_of_some _ e))
   rcases List.mem_cons.mp hm with e1|hm
   ·have:=Heap.lt_size e;rw [e1,hsz] at this;exact Nat.lt_irrefl _ (Nat.lt_of_succ_lt this)
   ·cases hm
  have:=h h' tk hold
  have hv:v=if y.cps.toList<x.cps.toList then Value.str y u else Value.str x t:=by
   have hP':(#[.str x t,.str y u]:Array Value)[argBest (fun i j=>decide ((if i=0 then x else y).cps.toList<(if j=0 then x else y).cps.toList)) 1]? = some v:=hP
   by_cases hba:y.cps.toList<x.cps.toList
   ·have e:argBest (fun i j=>decide ((if i=0 then x else y).cps.toList<(if j=0 then x else y).cps.toList)) 1=1:=by simp [argBest,hba]
    rw [e] at hP'
    rw [if_pos hba];exact (Option.some.inj hP').symm
   ·have e:argBest (fun i j=>decide ((if i=0 then x else y).cps.toList<(if j=0 then x else y).cps.toList)) 1=0:=by simp [argBest,hba]
    rw [e] at hP'
    rw [if_neg hba];exact (Option.some.inj hP').symm
  rw [hv];exact this
theorem MI {c d:Nat} (hA:A.handled=none):PK C A hp (.builtin "min") [(sS [c],false),(sS [d],false)] (sS [min c d],false):=fun F s E us hin r=>by
 refine xa2_3 r.inv ?_;intro v us;rintro rfl;intro r1 r
 refine xa2_3 r.inv ?_;intro v2 us;rintro rfl;intro r2 r
 obtain rfl:=r.nilI
 refine xa1_1 r1.out.strI ?_;intro t;rintro rfl
 refine xa1_1 r2.out.strI ?_;intro t2;rintro rfl
 refine G2 hA fun h' tk hk=>?_
 have st:=BD.keep (t:=tk) hin hk
 have hlt:((⟨[d].toArray⟩:Str).cps.toList<(⟨[c].toArray⟩:Str).cps.toList)↔d<c:=by
  show ([d]<[c])↔_
  simp [List.cons_lt_cons_iff]
 by_cases q:d<c
 ·rw [if_pos (hlt.mpr q),Nat.min_eq_right (Nat.le_of_lt q)];exact ⟨F,st,.val (.str _ _)⟩
 ·rw [if_neg (fun z=>q (hlt.mp z)),Nat.min_eq_left (Nat.le_of_not_lt q)];exact ⟨F,st,.val (.str _ _)⟩
theorem Nk {i:Int}:NG C A hp (fun zu b b'=>b=b') truthy (.int i,false) (i != 0):=fun F s E v hin hv=>by
 refine xa1_1 hv.out.intI ?_;intro t;rintro rfl
 exact truthy_int (BA.here (t:=s.toks) hin rfl)
end
end
section
section
variable {C:Cf} {A:Around} {s s':Shared} {F F' G:FH} {env:Env} {E:Value→Shared→Prop} {hp hp':HP} {loc:PL} {σ:Am}
noncomputable abbrev lawP:BU:=KP "law"
noncomputable abbrev EE (r:FdRest) (L f:Addr):Env:=callEnvC (r.fd lawP .none) L f
theorem JB (C:Cf) (r:FdRest) (x:AV):D9 C (r.fd lawP .none) [x] [] [("script",x)]:=by
 intro F vs kvs h1 h2
 refine xa2_3 h1.inv ?_;intro v1 us1;rintro rfl;intro hv1 h1
 obtain rfl:=h1.inv0
 obtain rfl:=h2.inv0
 exact ⟨[("script",v1)],Looks.of_pure (by kernel_rfl),.cons hv1 .nil,by kernel_rfl⟩
theorem VRs.ofInts {F:FH}:∀{vs:List Value} {ns:List Int},IntsAre vs ns→VRs F (ns.map .int) vs
 |_,_,.nil=>.nil
 |_,_,.cons n t h=>.cons (.int n t) (VRs.ofInts h)
theorem finish {C:Cf} {f a:Addr} {vs:List Value} {ns:List Int} {s₁:Shared} {P E:Value→Shared→Prop}
  (h:∀ns:List Int,ns.length≤63→Fn C callerA (.ref f) [.lst (ns.map .int)] [] (fun zu=>none) (fun v zu=>v=.bool true)) (hl:C.h0.IsList a vs.toArray) (hi:IntsAre vs ns) (hlen:¬((63:Nat):Int)<(ns.length:Int))
  (hh:s₁.heap=C.h0) (hos:s₁.os=C.os) (hg:s₁.gens=#[]) (hP:∀s':Shared,OldK s₁.heap s'.heap→s'.os=s₁.os→AllBare s'.gens→P (.bool true) s'):wpAny (model C.prog C.w) callerA (call (.ref f) [.ref a]) P E s₁:=by
 refine cps fun zP zk=>?_;(rcases hl with ⟨o,ho,hc,n,hd⟩)<;>(refine zk ?_;clear zk zP)
 have W:Wd C (fun b=>C.h0.get? b) (fun zu=>none) (fun zu=>none) s₁:=⟨fun b o e=>e,fun b o e=>by rw [hh];exact e,fun b o e=>(by exact Ak e),fun b x e=>(by exact Ak e),hos,by rw [hg];exact .of_eq rfl,fun a b g gs gs' e=>(by exact Ak e),fun b o e=>rfl⟩
 refine wpAny_call (codeAny_mono (h ns (by omega) _ _ s₁ [.ref a] [] ⟨[],rfl,fun e he=>(by cases he)⟩ W (.cons (.lst ho hc hd (VRs.ofInts hi)) .nil) .nil) fun r s' hr=>?_)
 refine xa4_5 hr ?_;(try clear hr);intro F' v av hp';rintro rfl;intro e1 hv W';rintro rfl
 (have zc:=VR.boolI hv;clear hv;subst zc)
 exact hP s' (.of_keep fun b o e=>W'.old b o (by rw [←hh];exact e)) (by rw [W'.os,hos]) W'.bare
end
end
section
section
noncomputable def A1 (w:List Nat):Aj:=w.map fun c=>As.s ⟨#[c]⟩
theorem Cp (w:List Nat):(A1 w).length=w.length:=by simp [A1]
theorem GO (w:List Nat):(A1 w).map As.av=AT ⟨w.toArray⟩:=by simp [A1,AT,As.av]
theorem Ig (w:List Nat):AT ⟨w.toArray⟩=w.map fun c=>sS [c]:=by simp [AT]
theorem IZ {a b:List Nat} (h:A1 a=A1 b):a=b:=by
 refine (List.map_inj_right (fun x y e=>?_)).mp h
 have:=As.s.inj e
 have:=congrArg (fun s:Str=>s.cps.toList) this
 simpa using this
noncomputable def Cu:Nat→List Nat
 |0=>[]
 |m+1=>(m+1)::Cu m
noncomputable def Ba (e:List Nat×Nat):AV:=.tup [sS e.1,.int (e.2:Nat)]
theorem D5 {α β:Type} {l:List α} {f g:α→Option β} (h:∀a∈l,f a=g a):l.filterMap f=l.filterMap g:=by
 induction l with
 |nil=>rfl
 |cons a l ih=>rw [List.filterMap_cons,List.filterMap_cons,h a (by simp),ih fun b hb=>h b (by simp [hb])]
noncomputable def CE (w:List Nat):Prop:=∀c∈w,c<128
noncomputable def AE (c:Nat):Nat:=if 64<c∧c<91 then c+32 else if 96<c∧c<123 then c - 32 else c
noncomputable def BQ (c:Nat):Nat:=min c (AE c)
noncomputable def CB (c:Nat):Nat:=if 64<c∧c<91 then c+32 else c
theorem DC {c:Nat} (h:c<128):AE c<128:=by unfold AE;split<;>(try split)<;>omega
theorem KA {c:Nat} (h:c<128):BQ c<128:=by unfold BQ;omega
theorem He (c:Nat):CB (AE c)=CB c:=by unfold CB AE;(repeat' split)<;>omega
theorem Eo (c:Nat):CB (BQ c)=CB c:=by
 unfold BQ
 rcases Nat.le_total c (AE c) with h|h
 ·rw [Nat.min_eq_left h]
 ·rw [Nat.min_eq_right h];exact He c
theorem Fk (c:Nat):BQ (CB c)=BQ c:=by unfold BQ CB AE;(repeat' split)<;>omega
theorem Ju {c d:Nat}:CB c=CB d↔BQ c=BQ d:=
 ⟨fun h=>by rw [←Fk c,h,Fk d],fun h=>by rw [←Eo c,h,Eo d]⟩
noncomputable abbrev Ay (w:List Nat):List Nat:=w.map CB
noncomputable abbrev At (w:List Nat):List Nat:=w.map BQ
noncomputable abbrev Do (w:List Nat):List Nat:=w.map AE
theorem Dt:∀{a b:List Nat},Ay a=Ay b↔At a=At b
 |[],[]=>by simp
 |[],_::_=>by simp
 |_::_,[]=>by simp
 |c::a,d::b=>by
  have:=Dt (a:=a) (b:=b)
  simp only [Ay,At,List.map_cons,List.cons.injEq] at this ⊢
  rw [Ju,this]
theorem Gc (w:List Nat):Ay (Do w)=Ay w:=by
 simp only [Ay,Do,List.map_map]
 exact List.map_congr_left fun c _=>He c
theorem HO (w:List Nat):Ay (At w)=Ay w:=by
 simp only [Ay,At,List.map_map]
 exact List.map_congr_left fun c _=>Eo c
theorem Hd {c:Nat} (h:c<128):PySem.Unicode.lowerOf c=[CB c]:=by
 have:∀c:Fin 128,PySem.Unicode.lowerOf c.val=[CB c.val]:=by decide +kernel
 exact this ⟨c,h⟩
theorem En {w:List Nat} (h:CE w):Txt.lower ⟨w.toArray⟩=⟨(Ay w).toArray⟩:=by
 unfold Txt.lower
 congr 1
 show (w.toArray.mapIdx fun i c=>(PySem.Unicode.lowerAt w.toArray i).toArray).flatten=_
 have e:(w.toArray.mapIdx fun i c=>(PySem.Unicode.lowerAt w.toArray i).toArray)=(w.map fun c=>#[CB c]).toArray:=by
  apply Array.ext
  ·simp
  ·intro i h1 h2
   have hi:i<w.length:=by simpa using h1
   simp only [Array.getElem_mapIdx,List.getElem_toArray,List.getElem_map]
   unfold PySem.Unicode.lowerAt
   have hc:w[i]<128:=h _ (List.getElem_mem hi)
   have hg:w.toArray[i]? = some w[i]:=by rw [List.getElem?_toArray,List.getElem?_eq_getElem hi]
   rw [hg]
   dsimp only
   have h3:(w[i] == 0x3A3)=false:=by rw [beq_eq_false_iff_ne];exact fun zh=>IU [_] [(1,(Zs Z0),(Zn 128)),(1,(Zn 931),Z0)] rfl hc (Nat.le_of_eq (Eq.symm zh))
   rw [h3,Bool.false_and,if_neg Bool.false_ne_true,Hd hc]
 rw [e]
 have key:∀w:List Nat,((w.map fun c=>#[CB c]).toArray).flatten=(Ay w).toArray:=by
  intro w
  induction w with
  |nil=>rfl
  |cons c w ih=>
   rw [List.map_cons]
   apply Array.toList_inj.mp
   have ih:=congrArg Array.toList ih
   simp at ih ⊢
   exact ih
 exact key w
noncomputable def Bb (ws:List (List Nat)) (f:List Nat→List Nat) (k:List Nat):Option (List Nat):=ws.reverse.find? fun w=>decide (f w=k)
noncomputable def CI (w:List Nat):Lf:=(A1 (Ay w),sS w)
theorem LK (ws:List (List Nat)) {p:List Nat} (hp:p≠[]):Bj (ws.map CI) (A1 p)=(Bb ws Ay p).map sS:=by
 have h0:A1 p≠[]:=by simpa [A1] using hp
 unfold Bj Bb
 rw [if_neg h0,←List.map_reverse,List.find?_map,Option.map_map]
 have e:((fun e:Lf=>decide (e.1=A1 p))∘CI)=fun w=>decide (Ay w=p):=by
  funext w
  show decide (A1 (Ay w)=A1 p)=decide (Ay w=p)
  rw [decide_eq_decide]
  exact ⟨IZ,fun h=>by rw [h]⟩
 have e2:((fun e:Lf=>e.2)∘CI)=sS:=rfl
 rw [show ((fun e:Lf=>decide (e.1=A1 p))∘CI)=fun w=>decide (Ay w=p) from e]
 rfl
theorem LI (ws:List (List Nat)) (q:List Nat):Bb ws Ay (Ay q)=Bb ws At (At q):=by
 unfold Bb
 congr 1
 funext w
 rw [decide_eq_decide];exact Dt
theorem Hh {ws:List (List Nat)} {f:List Nat→List Nat} {k w:List Nat} (h:Bb ws f k=some w):w∈ws∧f w=k:=by
 unfold Bb at h
 have h1:=List.find?_some h
 have h2:=List.mem_of_find?_eq_some h
 exact ⟨List.mem_reverse.mp h2,by simpa using h1⟩
noncomputable def Du (ws:List (List Nat)) (t:List Nat) (m e:Nat):List (List Nat×Nat):=(Cu m).filterMap fun L=>(Bb ws Ay (Ay ((t.drop (e - L)).take L))).map fun w=>(w,e - L)
theorem Kh (ws:List (List Nat)):∀p:List Nat,outs (Bj (ws.map CI)) (A1 p)=(Cu p.length).filterMap fun L=>(Bb ws Ay (p.drop (p.length - L))).map fun w=>.tup [sS w,iN L]
 |[]=>rfl
 |c::p=>by
  have ih:=Kh ws p
  show outs (Bj (ws.map CI)) (As.s ⟨#[c]⟩::A1 p)=_
  have e:As.s ⟨#[c]⟩::A1 p=A1 (c::p):=rfl
  simp only [outs]
  rw [e,LK ws (by simp),ih,List.length_cons,Cu,List.filterMap_cons]
  have e3:(c::p).drop (p.length+1 - (p.length+1))=c::p:=by rw [Nat.sub_self];rfl
  have e4:((Cu p.length).filterMap fun L=>(Bb ws Ay (p.drop (p.length - L))).map fun w=>(.tup [sS w,iN L]:AV))=(Cu p.length).filterMap fun L=>(Bb ws Ay ((c::p).drop (p.length+1 - L))).map fun w=>.tup [sS w,iN L]:=by
   have hd:∀m L,L∈Cu m→L≤m:=by
    intro m
    induction m with
    |zero=>intro L h;cases h
    |succ m ih=>
     intro L h
     rcases List.mem_cons.mp h with rfl|h
     ·exact Nat.le_refl _
     ·exact Nat.le_succ_of_le (ih L h)
   refine D5 fun L hL=>?_
   have:=hd _ _ hL
   have:p.length+1 - L=(p.length - L)+1:=by exact Nat.le_antisymm (Ax [_,_,_,_] [(1,(Za Z0 Z2),(Zs Z3)),(1,Z3,(Za Z1 Z2))] Z0 (Zs Z1) rfl (Nat.le_of_eq (Nat.sub_add_cancel (Ax [_,_] [(1,Z0,Z1)] Z0 (Zs Z1) rfl this))) (CG _ _)) (Ax [_,_,_,_] [(1,(Za Z0 Z2),Z3),(1,(Zs Z3),(Za Z1 Z2))] (Zs Z0) Z1 rfl (Nat.le_of_eq (Nat.sub_add_cancel (Ax [_,_] [(1,Z0,Z1)] Z0 Z1 rfl this))) (CG _ _))
   rw [this];rfl
  rw [e4,e3]
  have hl:(A1 (c::p)).length=p.length+1:=by simp [A1]
  cases Bb ws Ay (c::p) with
  |none=>rfl
  |some w=>simp only [Option.map_some,hl];rfl
theorem KH (ws:List (List Nat)) (t:List Nat):∀(r u:List Nat),t=u++r→B1 (Bj (ws.map CI)) (A1 (Ay u)) (A1 (Ay r))=((List.range r.length).flatMap fun i=>Du ws t (u.length+i+1) (u.length+i+1)).map Ba
 |[],u,_=>rfl
 |c::r,u,ht=>by
  have ih:=KH ws t r (u++[c]) (by rw [ht];simp)
  have e:A1 (Ay u)++[As.s ⟨#[CB c]⟩]=A1 (Ay (u++[c])):=by simp [A1]
  show (outs (Bj (ws.map CI)) (A1 (Ay u)++[As.s ⟨#[CB c]⟩])).map (EW (A1 (Ay u)++[As.s ⟨#[CB c]⟩]).length)++B1 (Bj (ws.map CI)) (A1 (Ay u)++[As.s ⟨#[CB c]⟩]) (A1 (Ay r))=_
  rw [e,ih,Kh,List.length_cons,List.range_succ_eq_map,List.flatMap_cons,List.map_append,List.flatMap_map]
  have hul:(Ay (u++[c])).length=u.length+1:=by simp [Ay]
  have hsl:(A1 (Ay (u++[c]))).length=u.length+1:=by simp [A1,Ay]
  congr 1
  ·unfold Du
   rw [hul,hsl,List.map_filterMap,List.map_filterMap,Nat.add_zero]
   have hd:∀m L,L∈Cu m→L≤m:=by
    intro m
    induction m with
    |zero=>intro L h;cases h
    |succ m ih=>
     intro L h
     rcases List.mem_cons.mp h with rfl|h
     ·exact Nat.le_refl _
     ·exact Nat.le_succ_of_le (ih L h)
   refine D5 fun L hL=>?_
   have hL:=hd _ _ hL
   have hs:(Ay (u++[c])).drop (u.length+1 - L)=Ay ((t.drop (u.length+1 - L)).take L):=by
    have:t=(u++[c])++r:=by rw [ht];simp
    rw [this,List.drop_append_of_le_length (by simp<;>omega),List.take_append_of_le_length (by simp<;>exact Ax [_,_,_,_] [(1,(Zs Z2),(Za Z1 Z3)),(1,(Za Z3 Z0),(Zs Z2))] Z0 Z1 rfl (CG _ _) (Nat.le_of_eq (Nat.sub_add_cancel (Ax [_,_] [(1,Z0,(Zs Z1))] Z0 (Zs Z1) rfl hL)))),List.take_of_length_le (by simp<;>exact Ax [_,_,_] [(1,(Zs Z0),(Za Z2 Z1))] (Zs Z0) (Za Z1 Z2) rfl (CG _ _))]
    simp only [Ay,List.map_drop]
   rw [hs]
   cases Bb ws Ay (Ay ((t.drop (u.length+1 - L)).take L)) with
   |none=>rfl
   |some w=>
    simp only [Option.map_some,EW,Ba,iN]
    congr 4
    exact congrArg AV.int (Int.ofNat_sub hL).symm
  ·congr 2
   funext i
   simp only [List.length_append,List.length_cons,List.length_nil,Function.comp]
   rw [show u.length+(0+1)+i+1=u.length+(i+1)+1 by exact Nat.le_antisymm (Ax [_,_] [] (Zs (Za (Za Z0 (Zs (Zn 0))) Z1)) (Zs (Za Z0 (Zs Z1))) rfl) (Ax [_,_] [] (Zs (Za Z0 (Zs Z1))) (Zs (Za (Za Z0 (Zs (Zn 0))) Z1)) rfl)]
theorem LO {ws:List (List Nat)} (h4:∀w∈ws,w.length≤4) (t:List Nat) {e:Nat} (he:e≤t.length):Du ws t e e=Du ws t (min e 4) e:=by
 unfold Du
 by_cases q:e≤4
 ·rw [Nat.min_eq_left q]
 ·rw [Nat.min_eq_right (by exact Ax [_] [(1,(Zs (Zn 4)),Z0)] (Zn 4) Z0 rfl (Nat.lt_of_not_le q))]
  obtain ⟨k,rfl⟩:∃k,e=4+k:=⟨e - 4,by exact Nat.le_antisymm (Ax [_,_] [(1,Z0,(Za Z1 (Zn 4)))] Z0 (Za (Zn 4) Z1) rfl (CG _ _)) (Ax [_,_] [(1,(Za Z0 (Zn 4)),Z1)] (Za (Zn 4) Z0) Z1 rfl (Nat.le_of_eq (Nat.sub_add_cancel (Ax [_] [(1,(Zs (Zn 4)),Z0)] (Zn 4) Z0 rfl (Nat.lt_of_not_le q)))))⟩
  have:∀k,4+k≤4+k→∀E,4+k≤E→E≤t.length→((Cu (4+k)).filterMap fun L=>(Bb ws Ay (Ay ((t.drop (E - L)).take L))).map fun w=>(w,E - L))=(Cu 4).filterMap fun L=>(Bb ws Ay (Ay ((t.drop (E - L)).take L))).map fun w=>(w,E - L):=by
   intro k
   induction k with
   |zero=>intro _ E _ _;rfl
   |succ k ih=>
    intro _ E h1 h2
    show ((4+k+1)::Cu (4+k)).filterMap _=_
    rw [List.filterMap_cons]
    have hn:Bb ws Ay (Ay ((t.drop (E - (4+k+1))).take (4+k+1)))=none:=by
     cases z:Bb ws Ay (Ay ((t.drop (E - (4+k+1))).take (4+k+1))) with
     |none=>rfl
     |some w=>
      refine xa0_2 (Hh z) ?_;intro z1 z2
      have:=congrArg List.length z2
      simp only [Ay,List.length_map,List.length_take,List.length_drop] at this
      have:=h4 w z1
      omega
    rw [hn]
    exact ih (Nat.le_refl _) E (by exact Ax [_,_] [(1,(Za (Zn 4) (Zs Z0)),Z1)] (Za (Zn 4) Z0) Z1 rfl h1) h2
  exact this k (Nat.le_refl _) (4+k) (Nat.le_refl _) he
noncomputable def Ct (ws:List (List Nat)) (t:List Nat) (n:Nat):List (List Nat×Nat):=(List.range n).flatMap fun i=>Du ws t (min (i+1) 4) (i+1)
theorem KG {ws:List (List Nat)} (h4:∀w∈ws,w.length≤4) {t t':List Nat} (ht:Ay t'=Ay t):B1 (Bj (ws.map CI)) [] (A1 (Ay t'))=(Ct ws t t.length).map Ba:=by
 have:=KH ws t t [] rfl
 rw [ht]
 refine this.trans (congrArg (List.map Ba) ?_)
 unfold Ct
 rw [List.flatMap_def,List.flatMap_def]
 congr 1
 refine List.map_congr_left fun i hi=>?_
 have:=List.mem_range.mp hi
 rw [show ([]:List Nat).length+i+1=i+1 by simp]
 exact LO h4 t (by exact Ax [_,_] [(1,(Zs Z0),Z1)] (Zs Z0) Z1 rfl this)
end
end
section
section
variable {C:Cf} {A:Around} {s s':Shared} {F F' G:FH} {env:Env} {E:Value→Shared→Prop} {hp hp':HP} {loc:PL} {σ:Am}
theorem Kl {x y:Int} (h:y.natAbs<2 ^ 30):Builtin.divisionGoesByPylong x y=false:=by
 unfold Builtin.divisionGoesByPylong
 have h2:¬((if (y == 0)=true then 0 else y.natAbs.log2 / 30+1) > 300):=by
  split
  ·exact fun zh=>IU [] [(1,(Zs (Zn 300)),(Zn 0))] rfl zh
  ·rename_i q
   have h0:y.natAbs≠0:=by simpa using q
   have:=(Nat.log2_lt h0).mpr h
   exact fun zh=>IU [_,_] [(1,(Zs Z0),(Zn 30)),(30,(Zs (Zn 300)),(Zs Z1)),(1,(.mulL 30 Z1),Z0)] rfl this zh (Nat.mul_div_le _ _)
 simp only [h2,decide_false,Bool.false_and]
theorem C4:∀k,Cu k=(List.range k).map fun i=>k - i
 |0=>rfl
 |k+1=>by
  rw [Cu,C4 k,List.range_succ_eq_map,List.map_cons,List.map_map]
  congr 1
  exact List.map_congr_left fun i _=>by simp
theorem LV {target:Expr} {x:Str} {px pos:Pos} {args:List Expr} {k:Nat} (hA:A.handled=none) (hg:GL C x (.type "range")) (hv:H9 C A hp env loc args [(.int (k:Int),false),(.int 0,false),(.int (-1),false)]) (h1:k≤100000) (hk:env.kindOf x=some .globalImplicit:=by rfl)
  (he:eval (.Call (.Name x px) args [] pos) env=(do callWith pos (←eval (.Name x px) env) [] (AN env args) []):=by rfl) (hd:(x == ("__debug__" : Str))=false:=by decide):PI C A hp env loc target (.Call (.Name x px) args [] pos) ((Cu k).map fun (j:Nat)=>AV.int (j:Int)):=
 (JK (n:=k) hA hg hv (by decide) (Kl (by decide)) (small_down (by omega) (by omega) (by omega) (by omega)) (by rw [rangeSize_downNat];omega) hk he hd).eq (by
  rw [C4,List.map_map]
  unfold BP
  exact List.map_congr_left fun i hi=>congrArg AV.int (by have:=List.mem_range.mp hi;show (k:Int)+(i:Int)*(-1)=((k - i:Nat):Int);omega))
theorem Fl (v:Int) (m:Nat) (h:1≤m):∃k:Nat,v.fmod (m:Int)=(k:Int)∧k<m:=by
 have h1:=Int.fmod_nonneg_of_pos v (show (0:Int)<m by omega)
 have h2:=Int.fmod_lt_of_pos v (show (0:Int)<m by omega)
 exact ⟨(v.fmod m).toNat,by omega,by omega⟩
theorem HE {α:Type} (f:α→Nat) (m:Nat):∀l:List α,(∀a∈l,f a≤m)→(l.map f).sum≤l.length*m
 |[],_=>by simp
 |a::l,h=>by
  have h1:=h a (by simp)
  have h2:=HE f m l fun b hb=>h b (by simp [hb])
  rw [List.map_cons,List.sum_cons,List.length_cons,Nat.succ_mul];exact Ax [_,_,_,_] [(1,Z0,Z3),(1,Z1,Z2)] (Za Z0 Z1) (Za Z2 Z3) rfl h1 h2
theorem Hs (m:Nat):(Cu m).length=m:=by rw [C4];simp
theorem LQ {m j:Nat} (h:j∈Cu m):j≤m:=by
 rw [C4] at h
 refine xa1_2 (List.mem_map.mp h) ?_;intro i zu;rintro rfl
 exact Ax [_,_] [(1,Z0,Z1)] Z0 Z1 rfl (Nat.sub_le _ _)
theorem HS {w:List Nat} (hz:w.length≤100000):PK C A hp (.builtin "len") [(sS w,false)] (iN w.length,false):=MK (x:=⟨w.toArray⟩) hz
noncomputable abbrev Sg (w:List Nat):Prop:=CE w
theorem Nm {w:List Nat} (h:Sg w):Cw (sS w):=.str (by
 unfold PyData.strOk
 show w.toArray.all _=true
 rw [List.all_toArray]
 exact List.all_eq_true.mpr fun c hc=>decide_eq_true (Nat.lt_trans (h c hc) (by decide)))
theorem Jg {l:List (List Nat×Nat)} (h:∀e∈l,Sg e.1):Cw (.lst (l.map Ba)):=.lst (Plns.of (by
 intro x hx
 refine xa1_2 (List.mem_map.mp hx) ?_;intro e he;rintro rfl
 exact .tup (.cons (Nm (h e he)) (.cons (.int _) .nil))))
theorem Hr (l:List (List Nat×Nat)):Dp 60 (.lst (l.map Ba)):=Nat.le_trans (Dp.lst (n:=1) (by
 intro x hx
 refine xa1_2 (List.mem_map.mp hx) ?_;intro e zu;rintro rfl
 refine Dp.tup (n:=0) (fun y hy=>?_)
 rcases List.mem_cons.mp hy with rfl|hy
 ·exact Dp.str 0 _
 ·rw [List.mem_singleton.mp hy];exact Dp.int 0 _)) (by decide)
structure TpS (C:Cf):Prop where
 x:TpX C
 g_ord:GL C "ord" (.builtin "ord")
 g_chr:GL C "chr" (.builtin "chr")
noncomputable abbrev turnP:BU:=KP "_law_turn"
theorem Ij (C:Cf) (r:FdRest) (x:AV):D9 C (r.fd turnP .none) [x] [] [("sign",x)]:=by
 intro F vs kvs h1 h2
 refine xa2_3 h1.inv ?_;intro v1 us1;rintro rfl;intro hv1 h1
 obtain rfl:=h1.inv0
 obtain rfl:=h2.inv0
 exact ⟨[("sign",v1)],Looks.of_pure (by kernel_rfl),.cons hv1 .nil,by kernel_rfl⟩
theorem L4 (T:TpS C) {f:Addr} {r:FdRest} (hf:FnAt C f (r.fd turnP .none)) {hp:HP} {c:Nat} (hA:A.handled=none) (hroom:A.depth+1<recursionLimit) (hc:c<128) :
  Fn C A (.ref f) [sS [c]] [] hp (fun v hp'=>v=sS [AE c]∧hp'=hp):=by
 refine Di hf (Ij C r _) (fun L=>?_) (by exact BV [_,_] [(1,(Zs (Zs Z0)),Z1)] Z0 Z1 rfl hroom)
 refine Aa (Br [] (iN c) (AX T.g_ord (.cons (Af rfl) .nil) Nr) ?_)
 refine Aa (FC [] (Lo (a:=decide (64<c)) (b:=decide (64<c∧c<91)) (PT.eq (C6 (Af rfl) Aq Nw) (decide_eq_decide.mpr (by omega))) (fun h=>PT.eq (C6 (Af rfl) Aq Nv) (decide_eq_decide.mpr (by have:=of_decide_eq_true h;omega))) (fun h=>decide_eq_false (fun z=>absurd z.1 (of_decide_eq_false h)))) (fun h=>?_) (fun h=>Al ?_))
 ·have h:=of_decide_eq_true h
  exact Aa (CX [] (sS [AE c]) (PE.eqv (AX T.g_chr (.cons (PE.eqv (A2 (Af rfl) Aq Fy) (b:=iN (c+32)) (congrArg AV.int (by simp))) .nil) (Gd (by exact Ax [_] [(1,(Zs Z0),(Zn 91))] (Za Z0 (Zn 32)) (Zn 1114111) rfl h.2))) (by unfold AE;rw [if_pos h])) ⟨rfl,rfl⟩)
 have h:=of_decide_eq_false h
 refine Aa (FC [] (Lo (a:=decide (96<c)) (b:=decide (96<c∧c<123)) (PT.eq (C6 (Af rfl) Aq Nw) (decide_eq_decide.mpr (by omega))) (fun h=>PT.eq (C6 (Af rfl) Aq Nv) (decide_eq_decide.mpr (by have:=of_decide_eq_true h;omega))) (fun h=>decide_eq_false (fun z=>absurd z.1 (of_decide_eq_false h)))) (fun h2=>?_) (fun h2=>Al ?_))
 ·have h2:=of_decide_eq_true h2
  exact Aa (CX [] (sS [AE c]) (PE.eqv (AX T.g_chr (.cons (PE.eqv (A2 (Af rfl) Aq Hx) (b:=iN (c - 32)) (congrArg AV.int (by omega))) .nil) (Gd (by exact Ax [_,_] [(1,(Zs Z1),(Zn 123)),(1,(Za Z0 (Zn 32)),Z1)] Z0 (Zn 1114111) rfl h2.2 (Nat.le_of_eq (Nat.sub_add_cancel (Ax [_] [(1,(Zs (Zn 96)),Z0)] (Zn 32) Z0 rfl h2.1)))))) (by unfold AE;rw [if_neg h,if_pos h2])) ⟨rfl,rfl⟩)
 ·have h2:=of_decide_eq_false h2
  exact Aa (CX [] (sS [AE c]) (PE.eqv (Af rfl) (by unfold AE;rw [if_neg h,if_neg h2])) ⟨rfl,rfl⟩)
theorem Dg (T:TpS C) {ft:Addr} {rt:FdRest} (htn:FnAt C ft (rt.fd turnP .none)) (hgt:GL C "_law_turn" (.ref ft)) (hA:A.handled=none) (hroom:A.depth+1<recursionLimit) {c:Nat} (hc:c<128) {e1:Expr} {px pos:Pos} (h1:PE C A hp env loc e1 (sS [c],false))
  (hk:env.kindOf "_law_turn" = some .globalImplicit:=by rfl) (he:eval (.Call (.Name "_law_turn" px) [e1] [] pos) env=(do callWith pos (←eval (.Name "_law_turn" px) env) [] (AN env [e1]) []):=by rfl) :
  PE C A hp env loc (.Call (.Name "_law_turn" px) [e1] [] pos) (sS [AE c],false):=
 Ip (pvs:=vals [sS [c]]) htn hgt (.cons h1 .nil) (fun xs hx=>by
  obtain rfl:=hx.vals
  exact L4 T htn hA hroom hc) hk he
noncomputable abbrev greatP:BU:=KP "_law_great"
theorem Hw (C:Cf) (r:FdRest) (x:AV):D9 C (r.fd greatP .none) [x] [] [("text",x)]:=by
 intro F vs kvs h1 h2
 refine xa2_3 h1.inv ?_;intro v1 us1;rintro rfl;intro hv1 h1
 obtain rfl:=h1.inv0
 obtain rfl:=h2.inv0
 exact ⟨[("text",v1)],Looks.of_pure (by kernel_rfl),.cons hv1 .nil,by kernel_rfl⟩
theorem De {α β:Type} (l:List α) (f:α→β):(l.map fun a=>[f a]).flatten=l.map f:=by
 induction l with
 |nil=>rfl
 |cons a l ih=>rw [List.map_cons,List.flatten_cons,ih];rfl
theorem DE {α β:Type} (l:List α) (f:α→β):((l.map fun a=>[f a]).map List.length).sum=l.length:=by
 induction l with
 |nil=>rfl
 |cons a l ih=>simp only [List.map_cons,List.sum_cons,ih,List.length_cons,List.length_nil];exact Nat.le_antisymm (Ax [_] [] (Za (Zs (Zn 0)) Z0) (Zs Z0) rfl) (Ax [_] [] (Zs Z0) (Za (Zs (Zn 0)) Z0) rfl)
theorem KB (T:TpS C) {ft:Addr} {rt:FdRest} (htn:FnAt C ft (rt.fd turnP .none)) (hgt:GL C "_law_turn" (.ref ft)) {f:Addr} {r:FdRest} (hf:FnAt C f (r.fd greatP .none)) {hp:HP} {w:List Nat} (hA:A.handled=none) (hroom:A.depth+2<recursionLimit) (hw:CE w) (hl:w.length≤1000) :
  Fn C A (.ref f) [sS w] [] hp (fun v hp'=>v=sS (At w)∧hp'=hp):=by
 refine Di hf (Hw C r _) (fun L=>?_) (by exact BV [_,_] [(1,(Zs (Za Z0 (Zn 2))),Z1)] Z0 Z1 rfl hroom)
 have hA':(A.deeper (callEnvC (r.fd greatP .none) L f)).handled=none:=hA
 exact Aa (CX [] (sS (At w)) (PE.eqv (DZ (ls:=w.map fun c=>[BQ c]) (PE.eqv Fz (by kernel_rfl)) (PE.eqv (H5 (Dh w (fun c=>sS [c]) (fun c=>sS [BQ c]) ((D6 hA' (Af rfl) .str).eq (Ig w)) (by exact Ax [_] [(1,Z0,(Zn 1000))] Z0 (Zn 100000) rfl hl) fun Lc c hc=>AX T.x.g_min (.cons (Af rfl) (.cons (Dg T htn hgt hA' (by show A.depth+1+1<recursionLimit;exact BV [_,_] [(1,(Zs (Za Z0 (Zn 2))),Z1)] (Zs (Zs Z0)) Z1 rfl hroom) (hw c hc) (Af rfl)) .nil)) (MI hA'))) (congrArg AV.lst (by rw [List.map_map];rfl))) (by rw [DE];exact Ax [_] [(1,Z0,(Zn 1000))] Z0 (Zn 100000) rfl hl)) (congrArg sS (De _ _))) ⟨rfl,rfl⟩)
theorem F9 (T:TpS C) {ft fg:Addr} {rt rg:FdRest} (htn:FnAt C ft (rt.fd turnP .none)) (hgt:GL C "_law_turn" (.ref ft)) (hgr:FnAt C fg (rg.fd greatP .none)) (hgg:GL C "_law_great" (.ref fg)) (hA:A.handled=none) (hroom:A.depth+2<recursionLimit) {w:List Nat} (hw:CE w) (hl:w.length≤1000) {e1:Expr} {px pos:Pos} (h1:PE C A hp env loc e1 (sS w,false))
  (hk:env.kindOf "_law_great" = some .globalImplicit:=by rfl) (he:eval (.Call (.Name "_law_great" px) [e1] [] pos) env=(do callWith pos (←eval (.Name "_law_great" px) env) [] (AN env [e1]) []):=by rfl) :
  PE C A hp env loc (.Call (.Name "_law_great" px) [e1] [] pos) (sS (At w),false):=
 Ip (pvs:=vals [sS w]) hgr hgg (.cons h1 .nil) (fun xs hx=>by
  obtain rfl:=hx.vals
  exact KB T htn hgt hgr hA hroom hw hl) hk he
end
end
section
section
variable {C:Cf} {A:Around} {s s':Shared} {F F' G:FH} {env:Env} {E:Value→Shared→Prop} {hp hp':HP} {loc:PL} {σ:Am}
noncomputable abbrev FR (ws:List (List Nat)):AV:=.lst (ws.map sS)
theorem IQ (k k':As) (x:AV):∀l:List (As×AV),DA (l.map (fun p=>if p.1=k then (p.1,x) else p)) k'=if k'=k then (if l.any (fun p=>decide (p.1=k))=true then some x else none) else DA l k'
 |[]=>by simp [DA]
 |p::l=>by
  have ih:=IQ k k' x l
  unfold DA at ih ⊢
  by_cases q:p.1=k
  ·by_cases q2:k'=k
   ·subst q2;simp [q]
   ·have q3:¬k=k':=fun z=>q2 z.symm
    simp [q,q2,q3] at ih ⊢;exact ih
  ·by_cases q2:k'=k
   ·subst q2
    rw [if_pos rfl] at ih ⊢
    simp only [List.map_cons,if_neg q,List.find?_cons,decide_eq_false q,List.any_cons,Bool.false_or]
    exact ih
   ·by_cases q3:p.1=k'
    ·simp [q,q2,q3]
    ·simp [q,q2,q3] at ih ⊢;exact ih
theorem KZ (l:List (As×AV)) (k k':As) (x:AV):DA (Cr l k x) k'=if k'=k then some x else DA l k':=by
 unfold Cr
 split
 ·rename_i h
  rw [IQ,if_pos h]
 ·rename_i h
  unfold DA
  rw [List.find?_append]
  by_cases q:k'=k
  ·subst q
   have hn:l.find? (fun p=>decide (p.1=k'))=none:=List.find?_eq_none.mpr fun p hp z=>h (List.any_eq_true.mpr ⟨p,hp,z⟩)
   rw [hn,if_pos rfl];simp
  ·have q2:¬k=k':=fun z=>q z.symm
   rw [if_neg q];simp [q2]
theorem Jb (l:List (As×AV)) (k:As) (x:AV):(Cr l k x).length≤l.length+1:=by
 unfold Cr;split<;>simp
noncomputable def JR (ws:List (List Nat)):List (As×AV):=ws.foldl (fun l w=>Cr l (.s ⟨(At w).toArray⟩) (sS w)) []
theorem Ht (ws:List (List Nat)) (w:List Nat):JR (ws++[w])=Cr (JR ws) (.s ⟨(At w).toArray⟩) (sS w):=by unfold JR;rw [List.foldl_append];rfl
theorem Jq (ws:List (List Nat)) (w:List Nat) (f:List Nat→List Nat) (k:List Nat):Bb (ws++[w]) f k=if f w=k then some w else Bb ws f k:=by
 unfold Bb
 rw [List.reverse_append,List.reverse_cons,List.reverse_nil,List.nil_append,List.singleton_append,List.find?_cons]
 by_cases q:f w=k
 ·rw [decide_eq_true q,if_pos q]
 ·rw [decide_eq_false q,if_neg q]
theorem Ia (k:List Nat):∀(n:Nat) (ws:List (List Nat)),ws.length=n→DA (JR ws) (.s ⟨k.toArray⟩)=(Bb ws At k).map sS∧(JR ws).length≤n
 |0,ws,h=>by
  have:ws=[]:=List.length_eq_zero_iff.mp h
  subst this;exact ⟨rfl,Nat.le_refl _⟩
 |n+1,ws,h=>by
  obtain ⟨us,w,rfl⟩:∃us w,ws=us++[w]:=⟨ws.dropLast,ws.getLast (by intro e;rw [e] at h;cases h),(List.dropLast_concat_getLast _).symm⟩
  refine xa0_2 (Ia k n us (by simpa using h)) ?_;intro h1 h2
  rw [Ht,Jq,KZ,h1]
  refine ⟨?_,Nat.le_trans (Jb _ _ _) (Nat.succ_le_succ h2)⟩
  by_cases q:At w=k
  ·rw [if_pos q,q,if_pos rfl];rfl
  ·rw [if_neg q,if_neg (fun z=>q (by
    have:=congrArg (fun s:Str=>s.cps.toList) (As.s.inj z)
    simpa using this.symm))]
noncomputable abbrev dueP:BU:=KP "_law_due"
theorem JE (C:Cf) (r:FdRest) (x y:AV):D9 C (r.fd dueP .none) [x,y] [] [("words",x),("text",y)]:=by
 intro F vs kvs h1 h2
 refine xa2_3 h1.inv ?_;intro v1 us1;rintro rfl;intro hv1 h1
 refine xa2_3 h1.inv ?_;intro v2 us2;rintro rfl;intro hv2 h1
 obtain rfl:=h1.inv0
 obtain rfl:=h2.inv0
 exact ⟨[("words",v1),("text",v2)],Looks.of_pure (by kernel_rfl),.cons hv1 (.cons hv2 .nil),by kernel_rfl⟩
noncomputable def G9 (ws:List (List Nat)) (t:List Nat) (e:Nat) (l:List Nat):List (List Nat×Nat):=l.filterMap fun L=>(Bb ws At (At ((t.drop (e - L)).take L))).map fun w=>(w,e - L)
theorem IL (ws:List (List Nat)) (t:List Nat) (m e:Nat):Du ws t m e=G9 ws t e (Cu m):=by
 unfold Du G9
 exact D5 fun L _=>by rw [LI]
theorem Gi (ws:List (List Nat)) (t:List Nat) (e:Nat) (l:List Nat) (j:Nat):G9 ws t e (l++[j])=G9 ws t e l++((Bb ws At (At ((t.drop (e - j)).take j))).map fun w=>(w,e - j)).toList:=by
 unfold G9
 rw [List.filterMap_append]
 congr 1
theorem Ho (ws:List (List Nat)) (t:List Nat) (e:Nat) (l:List Nat):(G9 ws t e l).length≤l.length:=List.length_filterMap_le _ _
theorem Gj (ws:List (List Nat)) (t:List Nat) (i:Nat):Ct ws t (i+1)=Ct ws t i++Du ws t (min (i+1) 4) (i+1):=by
 unfold Ct;rw [List.range_succ,List.flatMap_append];simp
theorem Hp (ws:List (List Nat)) (t:List Nat) (i:Nat):(Ct ws t i).length≤i*4:=by
 induction i with
 |zero=>simp [Ct]
 |succ i ih=>
  rw [Gj,List.length_append,Nat.succ_mul,IL]
  have:=Ho ws t (i+1) (Cu (min (i+1) 4))
  rw [Hs] at this
  omega
theorem MQ (T:TpS C) {ft fg:Addr} {rt rg:FdRest} (htn:FnAt C ft (rt.fd turnP .none)) (hgt:GL C "_law_turn" (.ref ft)) (hgr:FnAt C fg (rg.fd greatP .none)) (hgg:GL C "_law_great" (.ref fg)) {f:Addr} {r:FdRest} (hf:FnAt C f (r.fd dueP .none)) {hp:HP} {ws:List (List Nat)} {t:List Nat} (hA:A.handled=none) (hroom:A.depth+3<recursionLimit) (hw:∀w∈ws,CE w∧w.length≤1000) (hws:ws.length≤100) (ht:CE t) (htl:t.length≤100) :
  Fn C A (.ref f) [FR ws,sS t] [] hp (fun v hp'=>v=.lst ((Ct ws t t.length).map Ba)∧Sub hp hp'):=by
 refine Di hf (JE C r _ _) (fun L=>?_) (by exact BV [_,_] [(1,(Zs (Za Z0 (Zn 3))),Z1)] Z0 Z1 rfl hroom)
 have hA':(A.deeper (callEnvC (r.fd dueP .none) L f)).handled=none:=hA
 have hr':(A.deeper (callEnvC (r.fd dueP .none) L f)).depth+2<recursionLimit:=by show A.depth+1+2<recursionLimit;exact BV [_,_] [(1,(Zs (Za Z0 (Zn 3))),Z1)] (Za (Zs Z0) (Zn 2)) Z1 rfl hroom
 have hgl:(At t).length≤100000:=by rw [List.length_map];exact Ax [_] [(1,Z0,(Zn 100))] Z0 (Zn 100000) rfl htl
 refine Aa (Ai (H8 fun a ha=>?_))
 refine Aa ?_
 refine GG [] (fun xs loc hp'=>∃done rest ep,ws=done++rest∧xs=rest.map sS∧loc=([("words",FR ws),("text",sS t),("last",.ref a)]:List (Str×AV))∧hp'=upd hp a (.dict (JR done) ep))
  (D6 hA' (Af rfl) .lst) ⟨[("words",FR ws),("text",sS t),("last",.ref a)],Ag rfl (Ag rfl (Ag rfl (AA))),[],ws,0,rfl,rfl,rfl,rfl⟩ ?_ ?_
 ·rintro x xs loc hp' ⟨done,rest,ep,e1,e2,rfl,rfl⟩
  cases rest with
  |nil=>cases e2
  |cons w rest=>
   cases e2
   refine xa0_2 (hw w (by rw [e1];simp)) ?_;intro h1 h2
   have hdl:=(Ia [] done.length done rfl).2
   have hdn:done.length≤100:=by
    have:=congrArg List.length e1
    rw [List.length_append] at this;exact Ax [_,_,_] [(1,Z1,(Zn 100)),(1,(Za Z0 Z2),Z1)] Z0 (Zn 100) rfl hws (Nat.le_of_eq (Eq.symm this))
   refine B9 (Aa (Co (Ab rfl (Ab rfl (EQ [] (sS (At w)) (F9 T htn hgt hgr hgg hA' hr' h1 h2 (Af rfl)) (Fo (k:=.s ⟨(At w).toArray⟩) (Ae _ _ _) (by exact Ax [_,_] [(1,Z0,Z1),(1,Z1,(Zn 100))] Z0 (Zn 4096) rfl hdl hdn) fun ep'=>Al ⟨[("words",FR ws),("text",sS t),("last",.ref a)],Ag rfl (Ag rfl (Ag rfl (AA))),done++[w],rest,ep',by rw [e1];simp,rfl,rfl,?_⟩))))))
   rw [Ht];exact Iw hp a _ _
 ·rintro loc hp' ⟨done,rest,ep,e1,e2,rfl,rfl⟩
  have:rest=[]:=by simpa using e2.symm
  subst this
  rw [List.append_nil] at e1
  subst e1
  have hdat:=fun k=>(Ia k ws.length ws rfl).1
  refine Aa (Br [] (sS (At t)) (F9 T htn hgt hgr hgg hA' hr' ht (by exact Ax [_] [(1,Z0,(Zn 100))] Z0 (Zn 1000) rfl htl) (Af rfl)) ?_)
  refine Aa (Ai (ER (A3 ⟨by decide,fun b hb=>?_⟩)))
  have hb':upd hp a (.dict (JR ws) ep) b=none:=hb
  have hab:b≠a:=by rintro rfl;rw [Ae] at hb';cases hb'
  refine Aa ?_
  refine GG [] (fun xs loc hp'=>∃i,i≤t.length∧xs=((List.range t.length).map fun j=>iN (j+1)).drop i∧loc=([("words",FR ws),("text",sS t),("last",.ref a),("great",sS (At t)),("due",.ref b)]:List (Str×AV))∧hp'=upd (upd hp a (.dict (JR ws) ep)) b (.list ((Ct ws t i).map Ba)))
   ((LW (n:=t.length) hA' T.x.g_range Aq (A2 (AX T.x.t.g_len (.cons (Af rfl) .nil) (HS (by exact Ax [_] [(1,Z0,(Zn 100))] Z0 (Zn 100000) rfl htl))) Aq Fy) (by decide) (by decide) (by show (-1000000:Int)≤(t.length:Int)+1;omega) (by show (t.length:Int)+1≤1000000;omega) (by left;show (t.length:Int)=(t.length:Int)+1 - 1;omega)).eq (List.map_congr_left fun i _=>congrArg AV.int (by omega)))
   ⟨[("words",FR ws),("text",sS t),("last",.ref a),("great",sS (At t)),("due",.ref b)],Ag rfl (Ag rfl (Ag rfl (Ag rfl (Ag rfl (AA))))),0,Nat.zero_le _,rfl,rfl,rfl⟩ ?_ ?_
  ·rintro x xs loc hp' ⟨i,hi,hxs,rfl,rfl⟩
   refine xa0_2 (Df hxs) ?_;intro hx hxs'
   have hi2:i<t.length:=by
    have:=(List.getElem?_eq_some_iff.mp hx).1
    simpa using this
   obtain rfl:x=iN (i+1):=by
    rw [List.getElem?_map,List.getElem?_range hi2] at hx
    exact (Option.some.inj hx).symm
   have hdl:=Hp ws t i
   refine B9 (Aa ?_)
   refine GG [] (fun xs loc hp'=>∃done rest,Cu (min (i+1) 4)=done++rest∧xs=rest.map iN∧loc=([("words",FR ws),("text",sS t),("last",.ref a),("great",sS (At t)),("due",.ref b),("end",iN (i+1))]:List (Str×AV))∧hp'=upd (upd hp a (.dict (JR ws) ep)) b (.list ((Ct ws t i++G9 ws t (i+1) done).map Ba)))
    (LV (k:=min (i+1) 4) hA' T.x.g_range (.cons (PE.eqv (AX T.x.g_min (.cons (Af rfl) (.cons Aq .nil)) (MJ hA')) (congrArg AV.int (by omega))) (.cons Aq (.cons (Io Aq) .nil))) (by omega))
    ⟨[("words",FR ws),("text",sS t),("last",.ref a),("great",sS (At t)),("due",.ref b),("end",iN (i+1))],Ag rfl (Ag rfl (Ag rfl (Ag rfl (Ag rfl (Ag rfl (AA)))))),[],Cu (min (i+1) 4),rfl,rfl,rfl,by simp [G9]⟩ ?_ ?_
   ·rintro x xs loc hp' ⟨done,rest,e1,e2,rfl,rfl⟩
    cases rest with
    |nil=>cases e2
    |cons j rest=>
     cases e2
     have hj:j≤min (i+1) 4:=LQ (by rw [e1];simp)
     have hq:j≤i+1:=by omega
     have hdl2:done.length≤4:=by
      have:=congrArg List.length e1
      rw [Hs,List.length_append] at this;omega
     have hql:=Ho ws t (i+1) done
     have hsub:(((i+1:Nat):Int) - (j:Int))=((i+1 - j:Nat):Int):=(Int.ofNat_sub hq).symm
     have hda:(upd (upd hp a (.dict (JR ws) ep)) b (.list ((Ct ws t i++G9 ws t (i+1) done).map Ba))) a=some (.dict (JR ws) ep):=(Ac _ _ hab.symm).trans (Ae _ _ _)
     have hkey:At ((t.drop (i+1 - j)).take j)=((At t).drop (i+1 - j)).take j:=by simp only [At,List.map_take,List.map_drop]
     cases hl:Bb ws At (At ((t.drop (i+1 - j)).take j)) with
     |none=>
      refine B9 (Aa (FC [] (PT.eq (C6 (PE.eqv (BM (Af rfl) (AZ (PE.eqv (A2 (Af rfl) (Af rfl) Hx) (b:=iN (i+1 - j)) (congrArg AV.int hsub))) (AZ (Af rfl)) Bt (Cc hgl)) (b:=sS (At ((t.drop (i+1 - j)).take j))) (by rw [Nat.sub_sub_self hq,hkey])) (Af rfl) (Mt (k:=.s ⟨(At ((t.drop (i+1 - j)).take j)).toArray⟩) T.x.t.sysm hda)) (b':=false) (by rw [hdat,hl];rfl)) (fun q=>absurd q (by simp)) (fun _=>Al (Al ⟨[("words",FR ws),("text",sS t),("last",.ref a),("great",sS (At t)),("due",.ref b),("end",iN (i+1))],Ag rfl (Ag rfl (Ag rfl (Ag rfl (Ag rfl (Ag rfl (AA)))))),done++[j],rest,by rw [e1];simp,rfl,rfl,by rw [Gi,hl];simp⟩))))
     |some w=>
      refine B9 (Aa (FC [] (PT.eq (C6 (PE.eqv (BM (Af rfl) (AZ (PE.eqv (A2 (Af rfl) (Af rfl) Hx) (b:=iN (i+1 - j)) (congrArg AV.int hsub))) (AZ (Af rfl)) Bt (Cc hgl)) (b:=sS (At ((t.drop (i+1 - j)).take j))) (by rw [Nat.sub_sub_self hq,hkey])) (Af rfl) (Mt (k:=.s ⟨(At ((t.drop (i+1 - j)).take j)).toArray⟩) T.x.t.sysm hda)) (b':=true) (by rw [hdat,hl];rfl)) (fun _=>?_) (fun q=>absurd q (by simp))))
      refine Aa (Bu (A7 (Ab rfl (DP (Ae _ _ _) (AM (EQ [] (Ba (w,i+1 - j)) (Ll [sS w,iN (i+1 - j)] (.cons (Cj (Af rfl) (PE.eqv (BM (Af rfl) (AZ (PE.eqv (A2 (Af rfl) (Af rfl) Hx) (b:=iN (i+1 - j)) (congrArg AV.int hsub))) (AZ (Af rfl)) Bt (Cc hgl)) (b:=sS (At ((t.drop (i+1 - j)).take j))) (by rw [Nat.sub_sub_self hq,hkey])) (M5 (k:=.s ⟨(At ((t.drop (i+1 - j)).take j)).toArray⟩) hda (by rw [hdat,hl];rfl))) (.cons (PE.eqv (A2 (Af rfl) (Af rfl) Hx) (congrArg AV.int hsub)) .nil)) (by simp)) (A3 (AF (list_append (Ae _ _ _) (by rw [List.length_map,List.length_append];exact Ax [_,_,_,_,_] [(4,Z2,(Zn 100)),(4,(Zs Z3),Z2),(1,Z0,(.mulR Z3 4)),(1,Z4,(Zn 4)),(1,Z1,Z4)] (Za Z0 Z1) (Zn 100000) rfl htl hi2 hdl hdl2 hql) (Al (Al ⟨[("words",FR ws),("text",sS t),("last",.ref a),("great",sS (At t)),("due",.ref b),("end",iN (i+1))],Ag rfl (Ag rfl (Ag rfl (Ag rfl (Ag rfl (Ag rfl (AA)))))),done++[j],rest,by rw [e1];simp,rfl,rfl,?_⟩)))))))))))
      exact (Iw _ b _ _).trans (congrArg (fun z=>upd (upd hp a (.dict (JR ws) ep)) b (AO.list z)) (by rw [Gi,hl];simp only [List.map_append,List.append_assoc];rfl))
   ·rintro loc hp' ⟨done,rest,e1,e2,rfl,rfl⟩
    have:rest=[]:=by simpa using e2.symm
    subst this
    rw [List.append_nil] at e1
    subst e1
    refine Al ⟨[("words",FR ws),("text",sS t),("last",.ref a),("great",sS (At t)),("due",.ref b)],Ag rfl (Ag rfl (Ag rfl (Ag rfl (Ag rfl (AA))))),i+1,hi2,hxs',rfl,?_⟩
    rw [Gj,IL]
  ·rintro loc hp' ⟨i,hi,hxs,rfl,rfl⟩
   have:=DU hxs
   rw [List.getElem?_eq_none_iff,List.length_map,List.length_range] at this
   obtain rfl:i=t.length:=by exact Nat.le_antisymm (Ax [_,_] [(1,Z0,Z1)] Z0 Z1 rfl hi) (Ax [_,_] [(1,Z0,Z1)] Z0 Z1 rfl this)
   refine Tr.freeze "due" b ((Ct ws t t.length).map Ba) (Ae _ _ _) rfl ?_
   rw [KN hb]
   exact Aa (CX [] (.lst ((Ct ws t t.length).map Ba)) (Af rfl) ⟨rfl,Sub.of fun z hz=>Ac _ _ (by rintro rfl;exact hz ha)⟩)
end
end
section
section
variable {C:Cf} {A:Around} {s s':Shared} {F F' G:FH} {env:Env} {E:Value→Shared→Prop} {hp hp':HP} {loc:PL} {σ:Am}
theorem LZ {x:Str} {px pos:Pos} {args:List Expr} {f:Addr} {fd:FuncData} {pvs:List PV} {v:AV} (hf:FnAt C f fd) (hg:GL C x (.ref f)) (hv:H9 C A hp env loc args pvs) (h:∀xs,Args hp pvs xs→Fn C A (.ref f) xs [] hp (fun v' hp'=>v'=v∧Sub hp hp')) (hk:env.kindOf x=some .globalImplicit:=by rfl)
  (he:eval (.Call (.Name x px) args [] pos) env=(do callWith pos (←eval (.Name x px) env) [] (AN env args) []):=by rfl) (hd:(x == ("__debug__" : Str))=false:=by decide):PE C A hp env loc (.Call (.Name x px) args [] pos) (v,false):=
 AX hg hv (MY.pc fun xs hx=>(h xs hx).cl) (fun zu k=>hf.keep k) hk he hd
theorem Ma {x y:Expr} {pos:Pos} {pv:PV} (h1:PE C A hp env loc x (.bool true,false)) (h2:PE C A hp env loc y pv):PE C A hp env loc (.BoolOp .And [x,y] pos) pv:=.mk fun F s E c=>by
 refine BoolOp_and (h1.use c fun F₁ s₁ v st c₁ r=>wpAny_mono (M4 F₁ s₁ E v c₁.wp r) (fun b s₂ q=>?_) fun zu zu x=>x)
 refine cps fun zP zk=>?_;(rcases q with ⟨F₂,st2,rfl⟩)<;>(refine zk ?_;clear zk zP)
 exact BoolOp_one (wpAny_mono (h2.go F₂ s₂ E (c₁.step st2)) (fun zu zu q=>(q.pre st2).pre st) fun zu zu x=>x)
theorem FO (C:Cf) (r:FdRest) (x y:AV):D9 C (r.fd I4 .none) [x,y] [] [("self",x),("text",y)]:=by
 intro F vs kvs h1 h2
 refine xa2_3 h1.inv ?_;intro v1 us1;rintro rfl;intro hv1 h1
 refine xa2_3 h1.inv ?_;intro v2 us2;rintro rfl;intro hv2 h1
 obtain rfl:=h1.inv0
 obtain rfl:=h2.inv0
 exact ⟨[("self",v1),("text",v2)],Looks.of_pure (by kernel_rfl),.cons hv1 (.cons hv2 .nil),by kernel_rfl⟩
theorem Jd (T:Tp C) {e:TI} {x:AV} {w:Aj} (hA:A.handled=none) (hl:C.h0.NoLimit) (hroom:A.depth+4<recursionLimit) (ok:e.ok hp) (hf:e.fin=true) (hz:∀w∈e.ws,w.1.length≤1000) (hsq:H1 hp e.ci (x,false) (w.map As.av)) :
  Fn C A (.ref 73) [.ref e.t,x] [] hp (fun v hp'=>v=AL (B1 (Bj e.ws) [] w)∧hp'=hp):=by
 refine xa1_1 T.f_search ?_;intro r hfn
 refine Di hfn (FO C r _ _) (fun L=>?_) (by exact BV [_,_] [(1,(Zs (Za Z0 (Zn 4))),Z1)] Z0 Z1 rfl hroom)
 exact Aa (CX [] (AL (B1 (Bj e.ws) [] w)) (Lk T hA hl (by show A.depth+1+3<recursionLimit;exact BV [_,_] [(1,(Zs (Za Z0 (Zn 4))),Z1)] (Za (Zs Z0) (Zn 3)) Z1 rfl hroom) ok hf hz (Af rfl) (Af rfl) hsq) ⟨rfl,rfl⟩)
theorem JN (T:Tp C) {o arg:Expr} {apos pos:Pos} {e:TI} {x:AV} {w:Aj} (hA:A.handled=none) (hl:C.h0.NoLimit) (hroom:A.depth+4<recursionLimit) (ok:e.ok hp) (hf:e.fin=true) (hz:∀w∈e.ws,w.1.length≤1000)
  (ho:PE C A hp env loc o (.ref e.t,false)) (hv:PE C A hp env loc arg (x,false)) (hsq:H1 hp e.ci (x,false) (w.map As.av)) (hb:attributeBase o "search" env (eval o env)=eval o env:=by rfl) (hl':apos.endLine=pos.line:=by rfl)
  (hform:methodCallForm ([arg].length+0) (backTo pos (starEach [arg] env)) (backToKw pos (keywordEach [] env))=true:=by rfl)
  (ht:backTo pos (starEach [arg] env)=AN env [arg]:=by rfl):PE C A hp env loc (.Call (.Attribute o "search" apos) [arg] [] pos) (AL (B1 (Bj e.ws) [] w),false):=by
 have hr:=ok.rep
 rw [hf] at hr
 refine xa1_1 T.f_search ?_;intro r0 hfn
 refine PW.pe (GD ho T.m_search hfn hr.tree hr.ns rfl (.cons hv .nil) (fun xs h=>?_) hb hl' hform ht)
 refine xa1_2 h.inv2 ?_;intro y;rintro rfl;intro hy
 cases hy with
 |val hy=>
  cases hy
  exact (Jd T hA hl hroom ok hf hz hsq).cl.mono fun v hp' q=>⟨q.1,by rw [q.2];exact .refl _⟩
noncomputable abbrev Lz (P:List Nat):AV:=.lst (P.map fun c=>sS [c])
noncomputable def Hy (P:List Nat) (z:Int):Nat:=P.getD (z.fmod 6).toNat 0
theorem DT {P:List Nat} (h:CE P) (i:Nat):P.getD i 0<128:=by
 rw [List.getD_eq_getElem?_getD]
 cases q:P[i]? with
 |none=>decide
 |some c=>exact h c (List.mem_of_getElem? q)
theorem EK {P:List Nat} (h:CE P) (z:Int):Hy P z<128:=DT h _
theorem EM {P:List Nat} (hP:P.length=6) {e1 e2:Expr} {k:Nat} {p1 p2 p3:Pos} {z:Int} (h:PE C A hp env loc e1 (Lz P,false)) (h2:PE C A hp env loc e2 (.int z,false)):PE C A hp env loc (.Subscript e1 (.BinOp e2 .Mod (.Constant (.int 6) k p1) p2) p3) (sS [Hy P z],false):=by
 refine xa1_2 (Fl z 6 (by decide)) ?_;intro i h3 h4
 refine Cj h (PE.eqv (A2 h2 Aq (EC (by decide))) (congrArg AV.int (show z.fmod 6=(i:Int) from h3))) (Ei (by omega) ?_ (by rw [List.length_map];exact Ax [_] [(1,Z0,(Zn 6))] Z0 (Zn 100000) rfl (Nat.le_of_eq hP)))
 have h5:z.fmod 6=(i:Int):=h3
 have h6:i<P.length:=by exact BV [_,_] [(1,(Zn 6),Z1),(1,(Zs Z0),(Zn 6))] Z0 Z1 rfl (Nat.le_of_eq (Eq.symm hP)) h4
 unfold Hy
 rw [List.getElem?_map,Int.toNat_natCast,h5,Int.toNat_natCast,List.getElem?_eq_getElem h6,List.getD_eq_getElem?_getD,List.getElem?_eq_getElem h6]
 rfl
noncomputable abbrev wordP:BU:=KP "_law_word"
theorem Ii (C:Cf) (r:FdRest) (x y z:AV):D9 C (r.fd wordP .none) [x,y,z] [] [("number",x),("text",y),("pool",z)]:=by
 intro F vs kvs h1 h2
 refine xa2_3 h1.inv ?_;intro v1 us1;rintro rfl;intro hv1 h1
 refine xa2_3 h1.inv ?_;intro v2 us2;rintro rfl;intro hv2 h1
 refine xa2_3 h1.inv ?_;intro v3 us3;rintro rfl;intro hv3 h1
 obtain rfl:=h1.inv0
 obtain rfl:=h2.inv0
 exact ⟨[("number",v1),("text",v2),("pool",v3)],Looks.of_pure (by kernel_rfl),.cons hv1 (.cons hv2 (.cons hv3 .nil)),by kernel_rfl⟩
noncomputable def Ga (n:Int) (pc:List Nat) (i:Nat):Nat:=if (((n.fdiv 7).fdiv (2 ^ i)).fmod 2 != 0)=true then AE (pc.getD i 0) else pc.getD i 0
noncomputable def Jm (n:Int) (pc:List Nat):List Nat:=(List.range pc.length).map (Ga n pc)
theorem LD {pc:List Nat} (h:CE pc) (n:Int):CE (Jm n pc):=fun c hc=>by
 refine xa1_2 (List.mem_map.mp hc) ?_;intro i zu;rintro rfl
 unfold Ga
 split
 ·exact DC (DT h i)
 ·exact DT h i
theorem LC (pc:List Nat) (n:Int):(Jm n pc).length=pc.length:=by simp [Jm]
theorem FS (T:TpS C) {ft:Addr} {rt:FdRest} (htn:FnAt C ft (rt.fd turnP .none)) (hgt:GL C "_law_turn" (.ref ft)) {r:FdRest} {L f:Addr} {n:Int} {t P pc:List Nat} {s0:AV} {Q:A5→Am→Prop} (hA:A.handled=none) (pl:LS C A) (hroom:A.depth+2<recursionLimit) (hp1:CE pc) (hp2:pc.length≤4)
  (h:Q (.ret (sS (Jm n pc))) ⟨[("number",.int n),("text",sS t),("pool",Lz P),("start",s0),("piece",sS pc)],hp⟩) :
  Dn C A Bz (callEnvC (r.fd wordP .none) L f) (wordP.body.drop 3) ⟨[("number",.int n),("text",sS t),("pool",Lz P),("start",s0),("piece",sS pc)],hp⟩ Q:=by
 refine Aa (CX [] (sS (Jm n pc)) (PE.eqv (DZ (ls:=(List.range pc.length).map fun i=>[Ga n pc i]) (PE.eqv Fz (by kernel_rfl)) (PE.eqv (H5 (Dh (List.range pc.length) iN (fun i=>sS [Ga n pc i]) (MX hA T.x.g_range (AX T.x.t.g_len (.cons (Af rfl) .nil) (HS (by exact Ax [_] [(1,Z0,(Zn 4))] Z0 (Zn 100000) rfl hp2))) rfl (by exact Ax [_] [(1,Z0,(Zn 4))] Z0 (Zn 1000000) rfl hp2)) (by simp;exact Ax [_] [(1,Z0,(Zn 4))] Z0 (Zn 100000) rfl hp2) fun Lc i hi=>?_)) (congrArg AV.lst (by rw [List.map_map];rfl))) (by rw [DE];simp;exact Ax [_] [(1,Z0,(Zn 4))] Z0 (Zn 100000) rfl hp2)) (congrArg sS (De _ _))) h)
 have hi:=List.mem_range.mp hi
 have hg:pc[i]? = some (pc.getD i 0):=by rw [List.getD_eq_getElem?_getD,List.getElem?_eq_getElem hi];rfl
 have hc:=DT hp1 i
 have h2i:(2:Int) ^ i≠0:=by
  have:(0:Int)<2 ^ i:=Int.pow_pos (by decide)
  omega
 refine Mw (q:=(((n.fdiv 7).fdiv (2 ^ i)).fmod 2 != 0)) (H6 (A2 (A2 (A2 (Af rfl) Aq (Ez pl (by decide))) (PE.eqv (A2 Aq (Af rfl) (Nx (by omega) (by omega) (by decide))) (b:=.int (2 ^ i)) (congrArg AV.int (by rw [Int.toNat_natCast]))) (Ez pl h2i)) Aq (EC (by decide))) Nk) (fun q=>?_) (fun q=>?_)
 ·refine PE.eqv (Dg T htn hgt hA (by exact BV [_,_] [(1,(Zs (Za Z0 (Zn 2))),Z1)] (Zs Z0) Z1 rfl hroom) hc (Cj (Af rfl) (Af rfl) (Mn hg (by exact Ax [_] [(1,Z0,(Zn 4))] Z0 (Zn 100000) rfl hp2)))) ?_
  unfold Ga;rw [if_pos q]
 ·refine PE.eqv (Cj (Af rfl) (Af rfl) (Mn hg (by exact Ax [_] [(1,Z0,(Zn 4))] Z0 (Zn 100000) rfl hp2))) ?_
  unfold Ga;rw [if_neg (by rw [q];decide)]
noncomputable def Cz (n:Int) (t P:List Nat):List Nat:=if n.fmod 7=6 then [Hy P (n.fdiv 7),Hy P (n.fdiv 42)] else (t.drop (n.fmod (t.length:Nat)).toNat).take ((n.fdiv 2).fmod 5).toNat
noncomputable def FT (n:Int) (t P:List Nat):List Nat:=Jm n (Cz n t P)
theorem Ek {t P:List Nat} (h1:CE t) (h2:CE P) (n:Int):CE (Cz n t P):=by
 unfold Cz
 split
 ·intro c hc
  rcases List.mem_cons.mp hc with rfl|hc
  ·exact EK h2 _
  ·rw [List.mem_singleton.mp hc];exact EK h2 _
 ·exact fun c hc=>h1 c (List.mem_of_mem_drop (List.mem_of_mem_take hc))
theorem FX (t P:List Nat) (n:Int):(Cz n t P).length≤4:=by
 unfold Cz
 split
 ·exact Nat.le_of_ble_eq_true rfl
 ·refine xa1_2 (Fl (n.fdiv 2) 5 (by decide)) ?_;intro k h1 h2
  have h3:(n.fdiv 2).fmod 5=(k:Int):=h1
  rw [List.length_take,h3,Int.toNat_natCast];omega
theorem L2 (T:TpS C) {ft:Addr} {rt:FdRest} (htn:FnAt C ft (rt.fd turnP .none)) (hgt:GL C "_law_turn" (.ref ft)) {f:Addr} {r:FdRest} (hf:FnAt C f (r.fd wordP .none)) {n:Int} {t P:List Nat} (hA:A.handled=none) (hu:A.units≤8500) (hroom:A.depth+2+Builtin.pylongFrames<recursionLimit) (hroom2:A.depth+3<recursionLimit) (ht:CE t) (ht0:1≤t.length) (htl:t.length≤100) (hP:P.length=6) (hPa:CE P) :
  Fn C A (.ref f) [.int n,sS t,Lz P] [] hp (fun v hp'=>v=sS (FT n t P)∧hp'=hp):=by
 refine Di hf (Ii C r _ _ _) (fun L=>?_) (by exact BV [_,_] [(1,(Zs (Za Z0 (Zn 3))),Z1)] Z0 Z1 rfl hroom2)
 have hA':(A.deeper (callEnvC (r.fd wordP .none) L f)).handled=none:=hA
 have pl:LS C (A.deeper (callEnvC (r.fd wordP .none) L f)):=LS.deeper T.x.seer T.x.lim T.x.tree (by exact BV [_,_,_] [(1,(Zs (Za (Za Z0 (Zn 2)) Z1)),Z2)] (Za (Zs Z0) Z1) Z2 rfl hroom) (by rfl) (by rfl) (by rfl) (by rfl)
 have hu':(A.deeper (callEnvC (r.fd wordP .none) L f)).units≤9000:=by show A.units+3≤9000;exact Ax [_] [(1,Z0,(Zn 8500))] (Za Z0 (Zn 3)) (Zn 9000) rfl hu
 have hr':(A.deeper (callEnvC (r.fd wordP .none) L f)).depth+2<recursionLimit:=by show A.depth+1+2<recursionLimit;exact BV [_,_] [(1,(Zs (Za Z0 (Zn 3))),Z1)] (Za (Zs Z0) (Zn 2)) Z1 rfl hroom2
 refine xa1_2 (Fl n t.length ht0) ?_;intro s0 h1 h2
 refine xa1_2 (Fl (n.fdiv 2) 5 (by decide)) ?_;intro k h3 h4
 have h3:(n.fdiv 2).fmod 5=(k:Int):=h3
 refine Aa (Br [] (iN s0) (PE.eqv (A2 (Af rfl) (AX T.x.t.g_len (.cons (Af rfl) .nil) (HS (by exact Ax [_] [(1,Z0,(Zn 100))] Z0 (Zn 100000) rfl htl))) (EC (by omega))) (congrArg AV.int h1)) ?_)
 refine Aa (Br [] (sS ((t.drop s0).take k)) (PE.eqv (BM (Af rfl) (AZ (Af rfl)) (AZ (PE.eqv (A2 (Af rfl) (A2 (A2 (Af rfl) Aq (Ez pl (by decide))) Aq (EC (by decide))) Fy) (b:=iN (s0+k)) (congrArg AV.int (by rw [h3];simp)))) Bt (Cc (by exact Ax [_] [(1,Z0,(Zn 100))] Z0 (Zn 100000) rfl htl))) (by rw [Nat.add_sub_cancel_left])) ?_)
 refine Aa (FC [] (PT.eq (C6 (A2 (Af rfl) Aq (EC (by decide))) Aq (MS (.int _) (.int _) (Dp.int _ _) hu')) (b':=decide (n.fmod 7=6)) (decide_eq_decide.mpr ⟨AV.int.inj,congrArg AV.int⟩)) (fun h=>?_) (fun h=>Al ?_))
 ·have h:=of_decide_eq_true h
  have e:Cz n t P=[Hy P (n.fdiv 7),Hy P (n.fdiv 42)]:=by unfold Cz;rw [if_pos h]
  refine Aa ?_
  refine Br [] (sS [Hy P (n.fdiv 7),Hy P (n.fdiv 42)]) (A2 (EM hP (Af rfl) (A2 (Af rfl) Aq (Ez pl (by decide)))) (EM hP (Af rfl) (A2 (Af rfl) Aq (Ez pl (by decide)))) (KW (Nat.le_of_ble_eq_true rfl))) (Al ?_)
  refine CW (loc:=[("number",.int n),("text",sS t),("pool",Lz P),("start",iN s0),("piece",sS [Hy P (n.fdiv 7),Hy P (n.fdiv 42)])]) (Ag rfl (Ag rfl (Ag rfl (Ag rfl (Ag rfl (AA)))))) ?_
  refine FS T htn hgt hA' pl hr' (by rw [←e];exact Ek ht hPa n) (Nat.le_of_ble_eq_true rfl) ⟨?_,rfl⟩
  unfold FT;rw [e]
 ·have h:=of_decide_eq_false h
  have e:Cz n t P=(t.drop s0).take k:=by unfold Cz;rw [if_neg h,h1,h3,Int.toNat_natCast,Int.toNat_natCast]
  refine CW (loc:=[("number",.int n),("text",sS t),("pool",Lz P),("start",iN s0),("piece",sS ((t.drop s0).take k))]) (Ag rfl (Ag rfl (Ag rfl (Ag rfl (Ag rfl (AA)))))) ?_
  refine FS T htn hgt hA' pl hr' (by rw [←e];exact Ek ht hPa n) (by rw [←e];exact FX t P n) ⟨?_,rfl⟩
  unfold FT;rw [e]
end
end
section
section
variable {C:Cf} {A:Around} {s s':Shared} {F F' G:FH} {env:Env} {E:Value→Shared→Prop} {hp hp':HP} {loc:PL} {σ:Am}
noncomputable def Fg (ns:List Int):List Int:=(ns++([1,8,27,64,115,204]:List Int).drop ns.length).take 20
theorem Jk (ns:List Int):Cv (ns.map AV.int++Cv [AV.int 1,AV.int 8,AV.int 27,AV.int 64,AV.int 115,AV.int 204] (some ((ns.map AV.int).length:Int)) none) none (some 20)=(Fg ns).map AV.int:=by
 rw [J5,show (some 20:Option Int)=some ((20:Nat):Int) from rfl,Gl,List.length_map]
 unfold Fg
 rw [List.map_take,List.map_append,List.map_drop];rfl
theorem Jj (ns:List Int):6≤(Fg ns).length∧(Fg ns).length≤20:=by unfold Fg;simp;omega
theorem GW {nl:List Int} (h:6≤nl.length):∃a b c l,nl=a::b::c::l:=
 match nl,h with
 |a::b::c::l,_=>⟨a,b,c,l,rfl⟩
theorem Kp {k:Nat} (h:k<6):∃z:Nat,z≤31∧([AV.int 28,AV.int 29,AV.int 30,AV.int 27,AV.int 31,AV.int 0]:List AV)[k]? = some (iN z):=by
 match k,h with
 |0,_=>exact ⟨28,by decide,rfl⟩
 |1,_=>exact ⟨29,by decide,rfl⟩
 |2,_=>exact ⟨30,by decide,rfl⟩
 |3,_=>exact ⟨27,by decide,rfl⟩
 |4,_=>exact ⟨31,by decide,rfl⟩
 |5,_=>exact ⟨0,by decide,rfl⟩
noncomputable def FV (nl:List Int) (P:List Nat):List Nat:=((nl.take 10).map fun n=>[Hy P n,Hy P (n.fdiv 6)]).flatten
theorem IY {P:List Nat} (h:CE P) (nl:List Int):CE (FV nl P):=fun c hc=>by
 refine xa1_2 (List.mem_flatten.mp hc) ?_;intro l hl hc
 refine xa1_2 (List.mem_map.mp hl) ?_;intro n zu;rintro rfl
 rcases List.mem_cons.mp hc with rfl|hc
 ·exact EK h _
 ·rw [List.mem_singleton.mp hc];exact EK h _
theorem IX (nl:List Int) (P:List Nat):(FV nl P).length=2*(nl.take 10).length:=by
 unfold FV
 induction nl.take 10 with
 |nil=>rfl
 |cons n l ih=>rw [List.map_cons,List.flatten_cons,List.length_append,ih,List.length_cons,List.length_cons,List.length_cons,List.length_nil];exact Nat.le_antisymm (Ax [_] [] (Za (Zs (Zs (Zn 0))) (.mulL 2 Z0)) (.mulL 2 (Zs Z0)) rfl) (Ax [_] [] (.mulL 2 (Zs Z0)) (Za (Zs (Zs (Zn 0))) (.mulL 2 Z0)) rfl)
theorem MH (T:TpS C) {ft:Addr} {rt:FdRest} (htn:FnAt C ft (rt.fd turnP .none)) (hgt:GL C "_law_turn" (.ref ft)) {r:FdRest} {L f:Addr} (hA:A.handled=none) (pl:LS C A) (hroom:A.depth+1<recursionLimit) {ns:List Int} {Q:A5→Am→Prop} (hlen:ns.length≤63)
  (h:∀(nl:List Int) (P t:List Nat),6≤nl.length→nl.length≤20→P.length=6→CE P→CE t→12≤t.length→t.length≤20→Dn C A Bz (EE r L f) (lawP.body.drop 6) ⟨[("numbers",lstI nl),("pool",Lz P),("text",sS t)],hp⟩ Q) :
  Dn C A Bz (EE r L f) lawP.body ⟨[("script",lstI ns)],hp⟩ Q:=by
 have hz:(Cv [AV.int 1,AV.int 8,AV.int 27,AV.int 64,AV.int 115,AV.int 204] (some ((ns.map AV.int).length:Int)) none).length≤6:=KQ _ _ _
 have hz1:(ns.map AV.int).length≤63:=by rw [List.length_map];exact hlen
 refine xa0_2 (Jj ns) ?_;intro hl1 hl2
 refine Aa ?_
 refine Br [] (lstI (Fg ns)) (PE.eqv (BM (A2 (Af rfl) (BM (EN [.int 1,.int 8,.int 27,.int 64,.int 115,.int 204] (.cons Aq (.cons Aq (.cons Aq (.cons Aq (.cons Aq (.cons Aq .nil)))))) (by decide)) (AZ (AX T.x.t.g_len (.cons (Af rfl) .nil) (Nt (by exact Ax [_] [(1,Z0,(Zn 63))] Z0 (Zn 100000) rfl hz1)))) Bt Bt (EL (by decide))) (KY (by exact Ax [_,_] [(1,Z1,(Zn 6)),(1,Z0,(Zn 63))] (Za Z0 Z1) (Zn 100000) rfl hz hz1))) Bt (AZ Aq) Bt (EL (by rw [List.length_append];exact Ax [_,_] [(1,Z1,(Zn 6)),(1,Z0,(Zn 63))] (Za Z0 Z1) (Zn 100000) rfl hz hz1))) (congrArg AV.lst (Jk ns))) ?_
 generalize Fg ns=nl at hl1 hl2
 refine xa4_1 (GW hl1) ?_;intro n0 n1 n2 l e3
 have lN:(nl.map AV.int).length≤100000:=by rw [List.length_map];exact Ax [_] [(1,Z0,(Zn 20))] Z0 (Zn 100000) rfl hl2
 have g0:(nl.map AV.int)[(0:Int).toNat]? = some (.int n0):=by rw [e3];rfl
 have g1:(nl.map AV.int)[(1:Int).toNat]? = some (.int n1):=by rw [e3];rfl
 have g2:(nl.map AV.int)[(2:Int).toNat]? = some (.int n2):=by rw [e3];rfl
 refine xa1_2 (Fl n0 26 (by decide)) ?_;intro a ha1 ha2
 refine xa1_2 (Fl n1 26 (by decide)) ?_;intro b hb1 hb2
 refine xa1_2 (Fl n2 6 (by decide)) ?_;intro k hk1 hk2
 refine xa1_2 (Kp hk2) ?_;intro z hz1 hz2
 have ha1:n0.fmod 26=(a:Int):=ha1
 have hb1:n1.fmod 26=(b:Int):=hb1
 have hk1:n2.fmod 6=(k:Int):=hk1
 refine Aa (Br [] (sS [97+a]) (AX T.g_chr (.cons (PE.eqv (A2 Aq (A2 (Cj (Af rfl) Aq (Ei (by decide) g0 lN)) Aq (EC (by decide))) Fy) (b:=iN (97+a)) (congrArg AV.int (by rw [ha1];simp))) .nil) (Gd (by exact Ax [_] [(1,(Zs Z0),(Zn 26))] (Za (Zn 97) Z0) (Zn 1114111) rfl ha2))) ?_)
 refine Aa (Br [] (sS [97+b]) (AX T.g_chr (.cons (PE.eqv (A2 Aq (A2 (Cj (Af rfl) Aq (Ei (by decide) g1 lN)) Aq (EC (by decide))) Fy) (b:=iN (97+b)) (congrArg AV.int (by rw [hb1];simp))) .nil) (Gd (by exact Ax [_] [(1,(Zs Z0),(Zn 26))] (Za (Zn 97) Z0) (Zn 1114111) rfl hb2))) ?_)
 refine Aa (Br [] (iN z) (Cj (EN [.int 28,.int 29,.int 30,.int 27,.int 31,.int 0] (.cons Aq (.cons Aq (.cons Aq (.cons Aq (.cons Aq (.cons Aq .nil)))))) (by decide)) (PE.eqv (A2 (Cj (Af rfl) Aq (Ei (by decide) g2 lN)) Aq (EC (by decide))) (b:=iN k) (congrArg AV.int hk1)) (Ei (by omega) (by rw [Int.toNat_natCast];exact hz2) (by decide))) ?_)
 refine Aa (Br [] (Lz [97+a,AE (97+a),97+b,AE (97+b),64+z,96+z]) (EN [sS [97+a],sS [AE (97+a)],sS [97+b],sS [AE (97+b)],sS [64+z],sS [96+z]] (.cons (Af rfl) (.cons (Dg T htn hgt hA hroom (by exact BV [_] [(1,(Zs Z0),(Zn 26))] (Za (Zn 97) Z0) (Zn 128) rfl ha2) (Af rfl)) (.cons (Af rfl) (.cons (Dg T htn hgt hA hroom (by exact BV [_] [(1,(Zs Z0),(Zn 26))] (Za (Zn 97) Z0) (Zn 128) rfl hb2) (Af rfl)) (.cons (AX T.g_chr (.cons (PE.eqv (A2 Aq (Af rfl) Fy) (b:=iN (64+z)) (congrArg AV.int (by simp))) .nil) (Gd (by exact Ax [_] [(1,Z0,(Zn 31))] (Za (Zn 64) Z0) (Zn 1114111) rfl hz1))) (.cons (AX T.g_chr (.cons (PE.eqv (A2 Aq (Af rfl) Fy) (b:=iN (96+z)) (congrArg AV.int (by simp))) .nil) (Gd (by exact Ax [_] [(1,Z0,(Zn 31))] (Za (Zn 96) Z0) (Zn 1114111) rfl hz1))) .nil)))))) (Nat.le_of_ble_eq_true rfl)) ?_)
 have hP:CE [97+a,AE (97+a),97+b,AE (97+b),64+z,96+z]:=fun c hc=>by
  have q1:AE (97+a)<128:=DC (by exact BV [_] [(1,(Zs Z0),(Zn 26))] (Za (Zn 97) Z0) (Zn 128) rfl ha2)
  have q2:AE (97+b)<128:=DC (by exact BV [_] [(1,(Zs Z0),(Zn 26))] (Za (Zn 97) Z0) (Zn 128) rfl hb2)
  simp only [List.mem_cons,List.not_mem_nil,or_false] at hc
  rcases hc with rfl|rfl|rfl|rfl|rfl|rfl<;>omega
 have hPl:[97+a,AE (97+a),97+b,AE (97+b),64+z,96+z].length=6:=rfl
 generalize [97+a,AE (97+a),97+b,AE (97+b),64+z,96+z]=P at hP hPl
 have htk:(nl.take 10).length≤10∧6≤(nl.take 10).length:=by rw [List.length_take];omega
 have htl:=IX nl P
 refine Aa (Br [] (sS (FV nl P)) (DZ (ls:=(nl.take 10).map fun n=>[Hy P n,Hy P (n.fdiv 6)]) (PE.eqv Fz (by kernel_rfl)) (PE.eqv (H5 (Dh (nl.take 10) .int (fun n=>sS [Hy P n,Hy P (n.fdiv 6)]) ((D6 hA (BM (Af rfl) Bt (AZ Aq) Bt (EL lN)) .lst).eq (by rw [Hu];exact congrArg (List.map AV.int) (Gl nl 10))) (by omega) fun Lc n hn=>A2 (EM hPl (Af rfl) (Af rfl)) (EM hPl (Af rfl) (A2 (Af rfl) Aq (Ez pl (by decide)))) (KW (Nat.le_of_ble_eq_true rfl)))) (congrArg AV.lst (by rw [List.map_map];rfl))) (by rw [←List.length_flatten];show (FV nl P).length≤100000;omega)) ?_)
 exact CW (Ag rfl (Ag rfl (Ag rfl (AA)))) (h nl P (FV nl P) hl1 hl2 hPl hP (IY hP nl) (by omega) (by omega))
noncomputable def Ee (nl:List Int) (t P:List Nat):List (List Nat):=(nl.drop (nl.length - 6)).map fun n=>FT n t P
theorem MG (T:TpS C) {ft:Addr} {rt:FdRest} (htn:FnAt C ft (rt.fd turnP .none)) (hgt:GL C "_law_turn" (.ref ft)) {fw:Addr} {rw:FdRest} (hwd:FnAt C fw (rw.fd wordP .none)) (hgw:GL C "_law_word" (.ref fw)) {r:FdRest} {L f:Addr} (hA:A.handled=none) (hu:A.units≤8500) (hroom:A.depth+10+Builtin.pylongFrames<recursionLimit) {nl:List Int} {P t:List Nat} {Q:A5→Am→Prop} (h1:6≤nl.length) (h2:nl.length≤20) (h3:P.length=6) (h4:CE P) (h5:CE t) (h6:12≤t.length) (h7:t.length≤20)
  (h:∀ws:List (List Nat),(∀w∈ws,CE w∧w.length≤4)→ws.length≤7→Dn C A Bz (EE r L f) (lawP.body.drop 8) ⟨[("text",sS t),("words",FR ws)],hp⟩ Q) :
  Dn C A Bz (EE r L f) (lawP.body.drop 6) ⟨[("numbers",lstI nl),("pool",Lz P),("text",sS t)],hp⟩ Q:=by
 have lN:(nl.map AV.int).length≤100000:=by rw [List.length_map];exact Ax [_] [(1,Z0,(Zn 20))] Z0 (Zn 100000) rfl h2
 have hpf:0≤Builtin.pylongFrames:=Nat.zero_le _
 have hd6:(nl.drop (nl.length - 6)).length=6:=by rw [List.length_drop];omega
 have hcut:Cv (nl.map AV.int) (some (-6)) none=(nl.drop (nl.length - 6)).map AV.int:=by
  rw [Hu]
  unfold Cv
  rw [show (some (-6:Int)).elim 0 (clipAt nl.length)=nl.length - 6 from clipAt_neg nl.length 6 (by decide)]
  show (List.take (nl.length - (nl.length - 6)) (nl.drop (nl.length - 6))).map AV.int=_
  rw [List.take_of_length_le (by rw [List.length_drop];exact Nat.le_refl _)]
 refine Aa (Mh [] ((Ee nl t P).map sS) (Mb.eq (Dh (nl.drop (nl.length - 6)) .int (fun n=>sS (FT n t P)) ((D6 hA (BM (Af rfl) (AZ (Io Aq)) Bt Bt (EL lN)) .lst).eq hcut) (by exact Ax [_] [(1,Z0,(Zn 6))] Z0 (Zn 100000) rfl (Nat.le_of_eq hd6)) fun Lc n hn=>Ip (pvs:=vals [.int n,sS t,Lz P]) hwd hgw (.cons (Af rfl) (.cons (Af rfl) (.cons (Af rfl) .nil))) (fun xs hx=>by obtain rfl:=hx.vals;exact L2 T htn hgt hwd hA hu (by exact BV [_,_,_] [(1,(Zs (Za (Za Z0 (Zn 10)) Z1)),Z2)] (Za (Za Z0 (Zn 2)) Z1) Z2 rfl hroom) (by exact BV [_,_,_] [(1,(Zs (Za (Za Z0 (Zn 10)) Z2)),Z1)] (Za Z0 (Zn 3)) Z1 rfl hroom) h5 (by exact Ax [_] [(1,(Zn 12),Z0)] (Zn 1) Z0 rfl h6) (by exact Ax [_] [(1,Z0,(Zn 20))] Z0 (Zn 100) rfl h7) h3 h4)) (by unfold Ee;rw [List.map_map];rfl)) ?_)
 have hwl:(Ee nl t P).length=6:=by unfold Ee;rw [List.length_map];exact hd6
 have hwa:∀w∈Ee nl t P,CE w∧w.length≤4:=fun w hw=>by
  refine xa1_2 (List.mem_map.mp hw) ?_;intro n zu;rintro rfl
  exact ⟨LD (Ek h5 h4 n) n,by unfold FT;rw [LC];exact FX t P n⟩
 generalize Ee nl t P=ws at hwl hwa
 obtain ⟨w,hw5⟩:∃w,ws[5]? = some w:=⟨_,List.getElem?_eq_getElem (by exact BV [_] [(1,(Zn 6),Z0)] (Zn 5) Z0 rfl (Nat.le_of_eq (Eq.symm hwl)))⟩
 refine xa0_2 (hwa w (List.mem_of_getElem? hw5)) ?_;intro hw1 hw2
 have hwt:CE (Do w):=fun c hc=>by
  refine xa1_2 (List.mem_map.mp hc) ?_;intro d hd;rintro rfl
  exact DC (hw1 d hd)
 refine Aa (Br [] (FR (Do w::ws)) (A2 (EN [sS (Do w)] (.cons (PE.eqv (DZ (ls:=w.map fun c=>[AE c]) (PE.eqv Fz (by kernel_rfl)) (PE.eqv (H5 (Dh w (fun c=>sS [c]) (fun c=>sS [AE c]) ((D6 hA (Cj (Af rfl) (Io Aq) (HI (x:=sS w) (by decide) (by rw [List.length_map,hwl];decide) (by rw [List.length_map,hwl,List.getElem?_map,show ((-1:Int)+((6:Nat):Int)).toNat=5 from rfl,hw5];rfl) (by rw [List.length_map];exact Ax [_] [(1,Z0,(Zn 6))] Z0 (Zn 100000) rfl (Nat.le_of_eq hwl)))) .str).eq (Ig w)) (by exact Ax [_] [(1,Z0,(Zn 4))] Z0 (Zn 100000) rfl hw2) fun Lc c hc=>Dg T htn hgt hA (by exact BV [_,_,_] [(1,(Zs (Za (Za Z0 (Zn 10)) Z2)),Z1)] (Zs Z0) Z1 rfl hroom) (hw1 c hc) (Af rfl))) (congrArg AV.lst (by rw [List.map_map];rfl))) (by rw [DE];exact Ax [_] [(1,Z0,(Zn 4))] Z0 (Zn 100000) rfl hw2)) (congrArg sS (De _ _))) .nil) (Nat.le_of_ble_eq_true rfl)) (Af rfl) (KY (by rw [List.length_map];simp;exact Ax [_] [(1,Z0,(Zn 6))] (Za (Zn 1) Z0) (Zn 100000) rfl (Nat.le_of_eq hwl)))) ?_)
 refine CW (Ag rfl (Ag rfl (AA))) (h (Do w::ws) (fun u hu=>?_) (by rw [List.length_cons];exact Ax [_] [(1,Z0,(Zn 6))] (Zs Z0) (Zn 7) rfl (Nat.le_of_eq hwl)))
 rcases List.mem_cons.mp hu with rfl|hu
 ·exact ⟨hwt,by rw [List.length_map];exact hw2⟩
 ·exact hwa u hu
end
end
section
section
variable {C:Cf} {A:Around} {s s':Shared} {F F' G:FH} {env:Env} {E:Value→Shared→Prop} {hp hp':HP} {loc:PL} {σ:Am}
theorem JY (ws:List (List Nat)):FJ (ws.map CI)=(ws.map List.length).sum:=by
 unfold FJ
 rw [List.map_map]
 congr 1
 exact List.map_congr_left fun w _=>(Cp _).trans (List.length_map ..)
theorem Ni {w:List Nat} (h:CE w) (hl:w.length≤100000):LR true (CI w):=
 L3 (x:=⟨w.toArray⟩) hl (by rw [En h];exact GO _) ((Cp _).trans (List.length_map ..))
theorem I3 {t:List Nat} (h:CE t) (hl:t.length≤100000):H1 hp true (sS t,false) ((A1 (Ay t)).map As.av):=by
 have q:=H1.low (hp:=hp) (x:=⟨t.toArray⟩) hl (by rw [En h];show (Ay t).length≤100000;rw [List.length_map];exact hl)
 rw [En h,←GO] at q
 exact q
theorem ME (T:TpS C) {rr:FdRest} {L f:Addr} (hA:A.handled=none) (hroom:A.depth+40<recursionLimit) {t:List Nat} {ws:List (List Nat)} {Q:A5→Am→Prop} (hw:∀w∈ws,CE w∧w.length≤4) (hl:ws.length≤7)
  (h:∀(e:TI) (hp':HP),e.ok hp'→e.fin=true→e.ci=true→e.ws=ws.map CI→Dn C A Bz (EE rr L f) (lawP.body.drop 11) ⟨[("text",sS t),("words",FR ws),("tree",.ref e.t)],hp'⟩ Q) :
  Dn C A Bz (EE rr L f) (lawP.body.drop 8) ⟨[("text",sS t),("words",FR ws)],hp⟩ Q:=by
 refine Aa (Ai (B7 (GI T.x.g_Tree (A3 (Lx (Ec (AF (E2 T.x.t.mkT ((HW T.x.t (by exact BV [_,_] [(1,(Zs (Za Z0 (Zn 40))),Z1)] (Za Z0 (Zn 4)) Z1 rfl hroom) (.inl rfl) Bf.nil).mono fun v0 hp0 ⟨e0,q1,q2,q3,q4,q5,q6⟩=>?_)))))))))
 subst q1
 refine Aa ?_
 refine GG [] (fun xs loc hp'=>∃done rest e,ws=done++rest∧e.fin=false∧e.ci=true∧e.ws=done.map CI∧Bf [e] hp'∧xs=rest.map sS∧loc=([("text",sS t),("words",FR ws),("tree",.ref e.t)]:List (Str×AV)))
  (D6 hA (Af rfl) .lst) ⟨[("text",sS t),("words",FR ws),("tree",.ref e0.t)],Ag rfl (Ag rfl (Ag rfl (AA))),[],ws,e0,rfl,q2,q4,q3,q5,rfl,rfl⟩ ?_ ?_
 ·rintro x xs loc hp' ⟨done,rest,e,e1,e2,e3,e4,e5,e7,rfl⟩
  cases rest with
  |nil=>cases e7
  |cons w rest=>
   cases e7
   refine xa0_2 (hw w (by rw [e1];simp)) ?_;intro hw1 hw2
   have hs:1+FJ e.ws+(CI w).1.length≤4000:=by
    have h1:=HE List.length 4 done (fun u hu=>(hw u (by rw [e1];exact List.mem_append_left _ hu)).2)
    have h2:=congrArg List.length e1
    rw [List.length_append] at h2
    rw [e4,JY]
    show 1+_+(A1 (Ay w)).length≤4000
    rw [Cp,List.length_map];exact Ax [_,_,_,_,_] [(4,Z2,(Zn 7)),(1,Z1,(Zn 4)),(1,Z0,(.mulR Z3 4)),(4,(Za Z3 Z4),Z2)] (Za (Za (Zn 1) Z0) Z1) (Zn 4000) rfl hl hw2 h1 (Nat.le_of_eq (Eq.symm h2))
   refine B9 ?_
   refine Aa (Bu (A7 (Ab rfl ?_)))
   refine Gb T.x.t.m_add (e5.ok e (by simp)).rep ?_
   refine AM (Ab rfl (A3 (AF ?_)))
   refine xa1_1 T.x.t.f_add ?_;intro ra hfa
   refine B8 hfa ((HY T.x.t (l:=[e]) (j:=0) (w:=CI w) hA (by exact BV [_,_] [(1,(Zs (Za Z0 (Zn 40))),Z1)] (Za Z0 (Zn 2)) Z1 rfl hroom) e5 rfl e2 (by rw [e3];exact Ni hw1 (by exact Ax [_] [(1,Z0,(Zn 4))] Z0 (Zn 100000) rfl hw2)) hs).mono fun v hp2 hq=>?_)
   refine cps fun zP zk=>?_;(rcases hq with ⟨_,e',k1,k2,k3,k4,k5,k6⟩)<;>(refine zk ?_;clear zk zP)
   exact Al ⟨[("text",sS t),("words",FR ws),("tree",.ref e.t)],Ag rfl (Ag rfl (Ag rfl (AA))),done++[w],rest,e',by rw [e1];simp,k2,by rw [k4,e3],by rw [k3,e4];simp,k5,rfl,by rw [k1]⟩
 ·rintro loc hp' ⟨done,rest,e,e1,e2,e3,e4,e5,e7,rfl⟩
  have hr0:rest=[]:=by simpa using e7.symm
  subst hr0
  rw [List.append_nil] at e1
  subst e1
  refine Aa (Bu (A7 (Ab rfl ?_)))
  refine Gb T.x.t.m_fin (e5.ok e (by simp)).rep ?_
  refine A3 (AF ?_)
  refine xa1_1 T.x.t.f_fin ?_;intro ra hfa
  refine B8 hfa ((HX T.x.t (l:=[e]) (j:=0) (N:=4) hA (by exact BV [_,_] [(1,(Zs (Za Z0 (Zn 40))),Z1)] (Za (Za Z0 (Zn 4)) (Zn 4)) Z1 rfl hroom) e5 rfl e2 (by rw [e4,JY];have:=HE List.length 4 ws (fun w h=>(hw w h).2);exact Ax [_,_] [(4,Z1,(Zn 7)),(1,Z0,(.mulR Z1 4))] (Za (Zn 1) Z0) (Zn 300) rfl hl this) (fun w hw'=>?_)).mono fun v hp2 hq=>?_)
  ·rw [e4] at hw'
   refine xa1_2 (List.mem_map.mp hw') ?_;intro u hu;rintro rfl
   show (A1 (Ay u)).length≤4
   rw [Cp,List.length_map];exact (hw u hu).2
  refine cps fun zP zk=>?_;(rcases hq with ⟨_,e',k1,k2,k3,k4,k5,k6⟩)<;>(refine zk ?_;clear zk zP)
  rw [←k1]
  exact CW (Ag rfl (Ag rfl (Ag rfl (AA)))) (h e' hp2 (k5.ok e' (by simp)) k2 (by rw [k4,e3]) (by rw [k3,e4]))
theorem LP {ws:List (List Nat)} (hw:∀w∈ws,CE w) (t:List Nat) (n:Nat):∀p∈Ct ws t n,CE p.1:=fun p hp=>by
 unfold Ct at hp
 refine xa1_2 (List.mem_flatMap.mp hp) ?_;intro i zu hp
 unfold Du at hp
 refine xa1_2 (List.mem_filterMap.mp hp) ?_;intro L zu hp
 cases z:Bb ws Ay (Ay ((t.drop (i+1 - L)).take L)) with
 |none=>rw [z] at hp;cases hp
 |some w=>
  rw [z] at hp
  cases hp
  exact hw _ (Hh z).1
theorem Lb {t:List Nat} (h:CE t):CE (Do t):=fun c hc=>by
 refine xa1_2 (List.mem_map.mp hc) ?_;intro d hd;rintro rfl
 exact DC (h d hd)
theorem JI {t:List Nat} (h:CE t):CE (At t):=fun c hc=>by
 refine xa1_2 (List.mem_map.mp hc) ?_;intro d hd;rintro rfl
 exact KA (h d hd)
theorem MF (T:TpS C) {ft:Addr} {rt:FdRest} (htn:FnAt C ft (rt.fd turnP .none)) (hgt:GL C "_law_turn" (.ref ft)) {fg:Addr} {rg:FdRest} (hgr:FnAt C fg (rg.fd greatP .none)) (hgg:GL C "_law_great" (.ref fg)) {fu:Addr} {ru:FdRest} (hdu:FnAt C fu (ru.fd dueP .none)) (hgd:GL C "_law_due" (.ref fu)) {rr:FdRest} {L f:Addr} (hA:A.handled=none) (hu:A.units≤9000) (hroom:A.depth+10<recursionLimit) {t:List Nat} {ws:List (List Nat)} {e:TI} {Q:A5→Am→Prop} (hw:∀w∈ws,CE w∧w.length≤4) (hl:ws.length≤7) (ht:CE t) (htl:t.length≤20) (ok:e.ok hp) (hf:e.fin=true) (hci:e.ci=true) (hws:e.ws=ws.map CI)
  (h:∀σ,Q (.ret (.bool true)) σ) :
  Dn C A Bz (EE rr L f) (lawP.body.drop 11) ⟨[("text",sS t),("words",FR ws),("tree",.ref e.t)],hp⟩ Q:=by
 have hz:∀w∈e.ws,w.1.length≤1000:=fun w hw'=>by
  rw [hws] at hw'
  refine xa1_2 (List.mem_map.mp hw') ?_;intro u hu';rintro rfl
  show (A1 (Ay u)).length≤1000
  rw [Cp,List.length_map]
  have:=(hw u hu').2
  exact Ax [_] [(1,Z0,(Zn 4))] Z0 (Zn 1000) rfl this
 have hfd:∀t',Ay t'=Ay t→B1 (Bj e.ws) [] (A1 (Ay t'))=(Ct ws t t.length).map Ba:=fun t' q=>by rw [hws];exact KG (fun w hw'=>(hw w hw').2) q
 have hdl:(Ct ws t t.length).length≤80:=Nat.le_trans (Hp ws t _) (by exact Ax [_] [(4,Z0,(Zn 20))] (.mulR Z0 4) (Zn 80) rfl htl)
 have hdm:((Ct ws t t.length).map Ba).length≤100000:=by rw [List.length_map];exact Ax [_] [(1,Z0,(Zn 80))] Z0 (Zn 100000) rfl hdl
 have hda:=LP (fun w hw'=>(hw w hw').1) t t.length
 have htt:(Do t).length≤100000:=by rw [List.length_map];exact Ax [_] [(1,Z0,(Zn 20))] Z0 (Zn 100000) rfl htl
 have hgl:(At t).length≤100000:=by rw [List.length_map];exact Ax [_] [(1,Z0,(Zn 20))] Z0 (Zn 100000) rfl htl
 refine Aa (Br [] (.lst ((Ct ws t t.length).map Ba)) (LZ (pvs:=vals [FR ws,sS t]) hdu hgd (.cons (Af rfl) (.cons (Af rfl) .nil)) (fun xs hx=>by obtain rfl:=hx.vals;exact MQ T htn hgt hgr hgg hdu hA (by exact BV [_,_] [(1,(Zs (Za Z0 (Zn 10))),Z1)] (Za Z0 (Zn 3)) Z1 rfl hroom) (fun w hw'=>⟨(hw w hw').1,by have:=(hw w hw').2;exact Ax [_] [(1,Z0,(Zn 4))] Z0 (Zn 1000) rfl this⟩) (by exact Ax [_] [(1,Z0,(Zn 7))] Z0 (Zn 100) rfl hl) ht (by exact Ax [_] [(1,Z0,(Zn 20))] Z0 (Zn 100) rfl htl))) ?_)
 generalize Ct ws t t.length=D at hfd hdl hdm hda
 have hpl:=Jg hda
 refine Aa (FC [] (PT.eq (C6 (PE.eqv (F0 T.x.t (w:=A1 (Ay t)) hA T.x.lim (by exact BV [_,_] [(1,(Zs (Za Z0 (Zn 10))),Z1)] (Za Z0 (Zn 3)) Z1 rfl hroom) ok hf hz T.x.g_list (Af rfl) (Af rfl) (by rw [hci];exact I3 ht (by exact Ax [_] [(1,Z0,(Zn 20))] Z0 (Zn 100000) rfl htl)) (by rw [hfd t rfl];exact hdm)) (congrArg AV.lst (hfd t rfl))) (Af rfl) (Nu hpl hpl (Hr _) hu)) (b':=false) (by simp)) (fun q=>absurd q (by simp)) (fun _=>Al ?_))
 refine Aa (FC [] (PT.eq (C6 (PE.eqv (F0 T.x.t (pv:=(sS (Do t),false)) (w:=A1 (Ay (Do t))) hA T.x.lim (by exact BV [_,_] [(1,(Zs (Za Z0 (Zn 10))),Z1)] (Za Z0 (Zn 3)) Z1 rfl hroom) ok hf hz T.x.g_list (Af rfl) (PE.eqv (DZ (ls:=t.map fun c=>[AE c]) (PE.eqv Fz (by kernel_rfl)) (PE.eqv (H5 (Dh t (fun c=>sS [c]) (fun c=>sS [AE c]) ((D6 hA (Af rfl) .str).eq (Ig t)) (by exact Ax [_] [(1,Z0,(Zn 20))] Z0 (Zn 100000) rfl htl) fun Lc c hc=>Dg T htn hgt hA (by exact BV [_,_] [(1,(Zs (Za Z0 (Zn 10))),Z1)] (Zs Z0) Z1 rfl hroom) (ht c hc) (Af rfl))) (congrArg AV.lst (by rw [List.map_map];rfl))) (by rw [DE];exact Ax [_] [(1,Z0,(Zn 20))] Z0 (Zn 100000) rfl htl)) (congrArg sS (De _ _))) (by rw [hci];exact I3 (Lb ht) htt) (by rw [hfd _ (Gc t)];exact hdm)) (congrArg AV.lst (hfd _ (Gc t)))) (Af rfl) (Nu hpl hpl (Hr _) hu)) (b':=false) (by simp)) (fun q=>absurd q (by simp)) (fun _=>Al ?_))
 have hpf:Cw (AL (D.map Ba))∧Dp 60 (AL (D.map Ba)):=by
  cases D with
  |nil=>exact ⟨.none,Dp.none _⟩
  |cons p D=>exact ⟨hpl.lstI.inv.1,Nat.le_trans (Dp.tup (n:=0) (fun y hy=>by
    rcases List.mem_cons.mp hy with rfl|hy
    ·exact Dp.str _ _
    ·rw [List.mem_singleton.mp hy];exact Dp.int _ _)) (by decide)⟩
 refine Aa (Br [] (AL (D.map Ba)) (Mw (q:=!(D.map Ba).isEmpty) (H6 (Af rfl) (Nj hdm)) (fun q=>?_) (fun q=>?_)) ?_)
 ·refine Cj (Af rfl) Aq (Ei (by decide) ?_ hdm)
  cases D with
  |nil=>cases q
  |cons p D=>rfl
 ·cases D with
  |nil=>exact LY
  |cons p D=>cases q
 have hfi:∀t',Ay t'=Ay t→AL (B1 (Bj e.ws) [] (A1 (Ay t')))=AL (D.map Ba):=fun t' q=>congrArg AL (hfd t' q)
 exact Aa (CX [] (.bool true) (Ma (PE.eqv (Lm (PE.eqv (Lk T.x.t (w:=A1 (Ay t)) hA T.x.lim (by exact BV [_,_] [(1,(Zs (Za Z0 (Zn 10))),Z1)] (Za Z0 (Zn 3)) Z1 rfl hroom) ok hf hz (Af rfl) (Af rfl) (by rw [hci];exact I3 ht (by exact Ax [_] [(1,Z0,(Zn 20))] Z0 (Zn 100000) rfl htl))) (hfi t rfl)) (Af rfl) (MS (x:=AL (D.map Ba)) (y:=AL (D.map Ba)) hpf.1 hpf.1 hpf.2 hu)) (congrArg AV.bool (by simp))) (PE.eqv (Lm (PE.eqv (JN T.x.t (x:=sS (At t)) (w:=A1 (Ay (At t))) hA T.x.lim (by exact BV [_,_] [(1,(Zs (Za Z0 (Zn 10))),Z1)] (Za Z0 (Zn 4)) Z1 rfl hroom) ok hf hz (Af rfl) (F9 T htn hgt hgr hgg hA (by exact BV [_,_] [(1,(Zs (Za Z0 (Zn 10))),Z1)] (Za Z0 (Zn 2)) Z1 rfl hroom) ht (by exact Ax [_] [(1,Z0,(Zn 20))] Z0 (Zn 1000) rfl htl) (Af rfl)) (by rw [hci];exact I3 (JI ht) hgl)) (hfi _ (HO t))) (Af rfl) (MS (x:=AL (D.map Ba)) (y:=AL (D.map Ba)) hpf.1 hpf.1 hpf.2 hu)) (congrArg AV.bool (by simp)))) (h _))
theorem law9_fn (T:TpS C) {r:FdRest} {f:Addr} (hf:FnAt C f (r.fd lawP .none)) {ft:Addr} {rt:FdRest} (htn:FnAt C ft (rt.fd turnP .none)) (hgt:GL C "_law_turn" (.ref ft)) {fg:Addr} {rg:FdRest} (hgr:FnAt C fg (rg.fd greatP .none)) (hgg:GL C "_law_great" (.ref fg)) {fw:Addr} {rw:FdRest} (hwd:FnAt C fw (rw.fd wordP .none)) (hgw:GL C "_law_word" (.ref fw)) {fu:Addr} {ru:FdRest} (hdu:FnAt C fu (ru.fd dueP .none)) (hgd:GL C "_law_due" (.ref fu)) (hA:A.handled=none) (hroom:A.depth+60+Builtin.pylongFrames<recursionLimit) (hu:A.units≤8000)
  {ns:List Int} (hlen:ns.length≤63):Fn C A (.ref f) [lstI ns] [] hp (fun v zu=>v=.bool true):=by
 refine Di hf (JB C r _) (fun L=>?_) (by exact BV [_,_,_] [(1,(Zs (Za (Za Z0 (Zn 60)) Z2)),Z1)] Z0 Z1 rfl hroom)
 have hA':(A.deeper (EE r L f)).handled=none:=hA
 have hd:(A.deeper (EE r L f)).depth=A.depth+1:=rfl
 have hu':(A.deeper (EE r L f)).units≤8500:=by show A.units+3≤8500;exact Ax [_] [(1,Z0,(Zn 8000))] (Za Z0 (Zn 3)) (Zn 8500) rfl hu
 have hpf:0≤Builtin.pylongFrames:=Nat.zero_le _
 have pl:LS C (A.deeper (EE r L f)):=LS.deeper T.x.seer T.x.lim T.x.tree (by exact BV [_,_,_] [(1,(Zs (Za (Za Z0 (Zn 60)) Z1)),Z2)] (Za (Zs Z0) Z1) Z2 rfl hroom) (by rfl) (by rfl) (by rfl) (by rfl)
 show Dn C _ _ (EE r L f) lawP.body ⟨[("script",lstI ns)],hp⟩ _
 refine MH T htn hgt hA' pl (by rw [hd];exact BV [_,_,_] [(1,(Zs (Za (Za Z0 (Zn 60)) Z2)),Z1)] (Zs (Zs Z0)) Z1 rfl hroom) hlen fun nl P t h1 h2 h3 h4 h5 h6 h7=>?_
 refine MG T htn hgt hwd hgw hA' hu' (by rw [hd];exact BV [_,_,_] [(1,(Zs (Za (Za Z0 (Zn 60)) Z1)),Z2)] (Za (Za (Zs Z0) (Zn 10)) Z1) Z2 rfl hroom) h1 h2 h3 h4 h5 h6 h7 fun ws hw hl=>?_
 refine ME T hA' (by rw [hd];exact BV [_,_,_] [(1,(Zs (Za (Za Z0 (Zn 60)) Z2)),Z1)] (Za (Zs Z0) (Zn 40)) Z1 rfl hroom) hw hl fun e hp1 ok hf hci hws=>?_
 exact MF T htn hgt hgr hgg hdu hgd hA' (by exact Ax [_] [(1,Z0,(Zn 8500))] Z0 (Zn 9000) rfl hu') (by rw [hd];exact BV [_,_,_] [(1,(Zs (Za (Za Z0 (Zn 60)) Z2)),Z1)] (Za (Zs Z0) (Zn 10)) Z1 rfl hroom) hw hl h5 h7 ok hf hci hws fun σ'=>rfl
end
end
end AC
namespace AC
noncomputable def Nq:Stmt→Bool
 |.ClassDef ..=>true
 |.FunctionDef ..=>true
 |_=>false
noncomputable def theQ:Program:={ FU with main:={ FU.main with body:=FU.main.body.filter Nq } }
noncomputable def endOf' (w:World):Option (Heap×Nat):=(openEnds treeTable FU w 2016).map fun s=>(s.heap,s.toks)
noncomputable def fragOf (n:Nat):Option (Heap×Nat)→Frag
 |some (h,_)=>(List.range n).filterMap fun a=>(h.get? a).map fun o=>(a,o)
 |none=>[]
theorem CO {h:Heap} {a:Addr} {o:Obj}:∀{l:List Nat},(l.filterMap fun a=>(h.get? a).map fun o=>(a,o)).lookup a=some o→h.get? a=some o
 |[],e=>by cases e
 |b::l,e=>by
  rw [List.filterMap_cons] at e
  cases q:h.get? b with
  |none=>rw [q] at e;exact CO e
  |some ob=>
   rw [q] at e
   simp only [Option.map_some,List.lookup_cons] at e
   split at e
   ·rename_i h1;cases e;rw [beq_iff_eq.mp h1];exact q
   ·exact CO e
theorem frag_in {h:Heap} {t n:Nat} {r:Option (Heap×Nat)} (e:some (h,t)=r):(fragOf n r).In h:=by
 subst e
 exact fun a o e=>CO e
theorem some_of {C:Cf} {K:Frag} (X:K.In C.h0) {a:Addr} (e:(K.lookup a).isSome=true):(C.h0.get? a).isSome=true:=by
 refine xa1_1 (Option.isSome_iff_exists.mp e) ?_;intro o ho
 rw [X _ _ ho];rfl
end AC
theorem PySem.Challenge.cw_nc0002_09_holds : PySem.Challenge.rw_nc0002_09.Holds := by
 w_on
 refine holds_law (by decide +kernel) fun said=>?_
 refine holds_openX (q:=AC.theQ) (loose:=["State", "KeywordTree"]) (Xt:=fun s=>xlAt AC.theQ [] s&&recOk [] s) (XP:=XL AC.theQ []) (Yf:=fun s=>some (s.heap,s.toks)) (Ya:=AC.endOf') (N:=2016) ?hl (fun s e=>xl_of s (Bool.and_eq_true_iff.mp e).1) XL.keeps (by rfl) (by rfl) (by rfl) (fun s e=>recFacts_of (Bool.and_eq_true_iff.mp e).2) (by rfl) (by first|assumption|decide +kernel) (by decide +kernel) ⟨rfl,rfl,rfl,rfl,rfl,by decide +kernel⟩ ?hw ?hc
 case hl=>intro w;kernel_rfl
 case hw=>w_witness2
 intro w s₀ s₁ mg mb G y fa o pm cd doc dV kV ho hd hcd hD hmg hg args vals as L hpre hlay hrd hwl hlo
 have KX:(AC.fragOf 160 (AC.endOf' w)).In s₁.heap:=Frag.In.keeps (AC.frag_in y) L.keeps
 refine Ground.open G ?_;intro T B D TE TW
 have seer:s₁.heap.NoSeer:=by first|exact PyProof.Rows.Glob.seer (by assumption)|exact PyProof.Rows.Top.seer (by assumption) (by decide +kernel)
 clear T B D TE TW
 obtain rfl:dV=.none:=by rcases hD.pos with ⟨zu,e⟩|⟨e,zu⟩;exact e;exact absurd rfl e
 clear hD
 wrow_args hpre hlay hrd hwl hlo
 all_lens
 have lim:s₁.heap.NoLimit:=AC.lim_of KX (by kernel_rfl)
 have TP:AC.Tp ⟨PySem.Challenge.pw_nc0002_09,w,s₁.heap,s₁.os⟩:=by
  constructor
  ·show (s₁.heap.get? sysModules).isSome=true
   exact AC.some_of (C:=⟨PySem.Challenge.pw_nc0002_09,w,s₁.heap,s₁.os⟩) KX (by kernel_rfl)
  ·exact AC.gl_of KX (by kernel_rfl)
  ·exact AC.gl_of KX (by kernel_rfl)
  ·exact AC.gl_of KX (by kernel_rfl)
  ·exact AC.gl_of KX (by kernel_rfl)
  ·exact AC.gl_of KX (by kernel_rfl)
  ·exact AC.gl_of KX (by kernel_rfl)
  ·exact AC.gl_of KX (by kernel_rfl)
  ·exact AC.gl_of KX (by kernel_rfl)
  ·exact AC.gl_of KX (by kernel_rfl)
  ·exact ⟨_,35,KX,by kernel_rfl,by kernel_rfl,by kernel_rfl,by kernel_rfl,by kernel_rfl,by kernel_rfl,by kernel_rfl,by kernel_rfl,by decide⟩
  ·exact ⟨_,36,KX,by kernel_rfl,by kernel_rfl,by kernel_rfl,by kernel_rfl,by kernel_rfl,by kernel_rfl,by kernel_rfl,by kernel_rfl,by decide⟩
  ·exact ⟨_,37,KX,by kernel_rfl,by kernel_rfl,by kernel_rfl,by kernel_rfl,by kernel_rfl,by kernel_rfl,by kernel_rfl,by kernel_rfl,by decide⟩
  ·exact ⟨_,38,KX,by kernel_rfl,by kernel_rfl,by kernel_rfl,by kernel_rfl,by kernel_rfl,by kernel_rfl,by kernel_rfl,by kernel_rfl,by decide⟩
  ·exact ⟨_,39,KX,by kernel_rfl,by kernel_rfl,by kernel_rfl,by kernel_rfl,by kernel_rfl,by kernel_rfl,by kernel_rfl,by kernel_rfl,by decide⟩
  ·exact ⟨_,40,KX,by kernel_rfl,by kernel_rfl,by kernel_rfl,by kernel_rfl,by kernel_rfl,by kernel_rfl,by kernel_rfl,by kernel_rfl,by decide⟩
  ·exact ⟨_,41,KX,by kernel_rfl,by kernel_rfl,by kernel_rfl,by kernel_rfl,by kernel_rfl,by kernel_rfl,by kernel_rfl,by kernel_rfl,by decide⟩
  ·exact ⟨_,42,KX,by kernel_rfl,by kernel_rfl,by kernel_rfl,by kernel_rfl,by kernel_rfl,by kernel_rfl,by kernel_rfl,by kernel_rfl,by decide⟩
  ·exact ⟨_,KX,by kernel_rfl,by kernel_rfl,by kernel_rfl⟩
  ·exact ⟨_,KX,by kernel_rfl,by kernel_rfl,by kernel_rfl⟩
  ·exact AC.ns_of KX (by kernel_rfl) (by kernel_rfl) (by kernel_rfl) (by kernel_rfl) (by kernel_rfl) (by kernel_rfl) (by kernel_rfl)
  ·exact AC.ns_of KX (by kernel_rfl) (by kernel_rfl) (by kernel_rfl) (by kernel_rfl) (by kernel_rfl) (by kernel_rfl) (by kernel_rfl)
  ·exact AC.ns_of KX (by kernel_rfl) (by kernel_rfl) (by kernel_rfl) (by kernel_rfl) (by kernel_rfl) (by kernel_rfl) (by kernel_rfl)
  ·exact AC.ns_of KX (by kernel_rfl) (by kernel_rfl) (by kernel_rfl) (by kernel_rfl) (by kernel_rfl) (by kernel_rfl) (by kernel_rfl)
  ·exact AC.ns_of KX (by kernel_rfl) (by kernel_rfl) (by kernel_rfl) (by kernel_rfl) (by kernel_rfl) (by kernel_rfl) (by kernel_rfl)
  ·exact AC.ns_of KX (by kernel_rfl) (by kernel_rfl) (by kernel_rfl) (by kernel_rfl) (by kernel_rfl) (by kernel_rfl) (by kernel_rfl)
  ·exact KX 23 _ (by kernel_rfl)
  ·exact KX 52 _ (by kernel_rfl)
  ·exact AC.fnAt_of KX lim (by kernel_rfl) (by kernel_rfl)
  ·exact AC.fnAt_of KX lim (by kernel_rfl) (by kernel_rfl)
  ·exact AC.fnAt_of KX lim (by kernel_rfl) (by kernel_rfl)
  ·exact AC.fnAt_of KX lim (by kernel_rfl) (by kernel_rfl)
  ·exact AC.fnAt_of KX lim (by kernel_rfl) (by kernel_rfl)
  ·exact AC.fnAt_of KX lim (by kernel_rfl) (by kernel_rfl)
  ·exact AC.fnAt_of KX lim (by kernel_rfl) (by kernel_rfl)
  ·exact AC.fnAt_of KX lim (by kernel_rfl) (by kernel_rfl)
  ·exact AC.fnAt_of KX lim (by kernel_rfl) (by kernel_rfl)
  ·exact AC.fnAt_of KX lim (by kernel_rfl) (by kernel_rfl)
  ·exact AC.fnAt_of KX lim (by kernel_rfl) (by kernel_rfl)
  ·exact ⟨_,KX,by kernel_rfl,by kernel_rfl,by kernel_rfl,by kernel_rfl⟩
  ·exact ⟨_,KX,by kernel_rfl,by kernel_rfl,by kernel_rfl,by kernel_rfl⟩
  ·exact ⟨_,KX,by kernel_rfl,by kernel_rfl,by kernel_rfl,by kernel_rfl⟩
  ·exact ⟨_,KX,by kernel_rfl,by kernel_rfl,by kernel_rfl,by kernel_rfl⟩
  ·exact ⟨_,KX,by kernel_rfl,by kernel_rfl,by kernel_rfl,by kernel_rfl⟩
  ·exact ⟨_,KX,by kernel_rfl,by kernel_rfl,by kernel_rfl,by kernel_rfl⟩
  ·exact ⟨_,KX,by kernel_rfl,by kernel_rfl,by kernel_rfl,by kernel_rfl⟩
  ·exact ⟨_,KX,by kernel_rfl,by kernel_rfl,by kernel_rfl,by kernel_rfl⟩
  ·exact ⟨_,KX,by kernel_rfl,by kernel_rfl,by kernel_rfl,by kernel_rfl⟩
 have TX:AC.TpX ⟨PySem.Challenge.pw_nc0002_09,w,s₁.heap,s₁.os⟩:=by
  refine ⟨TP,lim,?_,by rfl,?_,?_,?_,?_,?_⟩
  ·exact seer
  ·exact AC.gl_of KX (by kernel_rfl)
  ·exact AC.gl_of KX (by kernel_rfl)
  ·exact AC.gl_of KX (by kernel_rfl)
  ·exact AC.gl_of KX (by kernel_rfl)
  ·exact AC.gl_of KX (by kernel_rfl)
 have TS:AC.TpS ⟨PySem.Challenge.pw_nc0002_09,w,s₁.heap,s₁.os⟩:=⟨TX,AC.gl_of KX (by kernel_rfl),AC.gl_of KX (by kernel_rfl)⟩
 obtain ⟨r1,f1⟩:∃r:AC.FdRest,AC.FnAt ⟨PySem.Challenge.pw_nc0002_09,w,s₁.heap,s₁.os⟩ 136 (r.fd AC.turnP .none):=AC.fnAt_of KX lim (by kernel_rfl) (by kernel_rfl)
 have g1:AC.GL ⟨PySem.Challenge.pw_nc0002_09,w,s₁.heap,s₁.os⟩ "_law_turn" (.ref 136):=AC.gl_of KX (by kernel_rfl)
 obtain ⟨r3,f3⟩:∃r:AC.FdRest,AC.FnAt ⟨PySem.Challenge.pw_nc0002_09,w,s₁.heap,s₁.os⟩ 141 (r.fd AC.greatP .none):=AC.fnAt_of KX lim (by kernel_rfl) (by kernel_rfl)
 have g3:AC.GL ⟨PySem.Challenge.pw_nc0002_09,w,s₁.heap,s₁.os⟩ "_law_great" (.ref 141):=AC.gl_of KX (by kernel_rfl)
 obtain ⟨r4,f4⟩:∃r:AC.FdRest,AC.FnAt ⟨PySem.Challenge.pw_nc0002_09,w,s₁.heap,s₁.os⟩ 146 (r.fd AC.wordP .none):=AC.fnAt_of KX lim (by kernel_rfl) (by kernel_rfl)
 have g4:AC.GL ⟨PySem.Challenge.pw_nc0002_09,w,s₁.heap,s₁.os⟩ "_law_word" (.ref 146):=AC.gl_of KX (by kernel_rfl)
 obtain ⟨r5,f5⟩:∃r:AC.FdRest,AC.FnAt ⟨PySem.Challenge.pw_nc0002_09,w,s₁.heap,s₁.os⟩ 153 (r.fd AC.dueP .none):=AC.fnAt_of KX lim (by kernel_rfl) (by kernel_rfl)
 have g5:AC.GL ⟨PySem.Challenge.pw_nc0002_09,w,s₁.heap,s₁.os⟩ "_law_due" (.ref 153):=AC.gl_of KX (by kernel_rfl)
 obtain ⟨r2,f2⟩:∃r:AC.FdRest,AC.FnAt ⟨PySem.Challenge.pw_nc0002_09,w,s₁.heap,s₁.os⟩ fa (r.fd AC.lawP .none):=⟨⟨_,_,kV,doc,pm,_,cd,_⟩,⟨o,ho,hd⟩,hcd,lim⟩
 refine AC.finish (C:=⟨PySem.Challenge.pw_nc0002_09,w,s₁.heap,s₁.os⟩) (fun ns hn=>AC.law9_fn TS f2 f1 g1 f3 g3 f4 g4 f5 g5 rfl (by decide) (by decide) hn) (by assumption) (by assumption) (by assumption) rfl rfl hg ?_
 intro s' k1 k2 k3
 exact ⟨.inl ⟨.bool true,.bool true,[],rfl,fun cls=>rfl,.bool true,(by first|with_unfolding_all rfl|kernel_rfl),unshared_nil⟩,k1,k2,k3⟩
