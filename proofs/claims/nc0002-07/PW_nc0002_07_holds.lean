import PyProof.Rows.All
import PyProof.DictRoadsH
import Wide.All
import OpenK.AllK
import Wide.FinOn
import PySem.Challenge.RW_nc0002_07
open PySem PySem.W PySem.W.X PyProof.Rows
set_option compiler.extract_closed false
set_option genSizeOf false
set_option Elab.async false
set_option maxRecDepth 100000
set_option maxHeartbeats 0
set_option linter.unusedVariables false
set_option linter.unusedSimpArgs false
set_option linter.all false
set_option bootstrap.genMatcherCode false
namespace AC
abbrev ZX:=Nat.Internal.Linear.Expr
abbrev Z0:ZX:=.var 0
abbrev Z1:ZX:=.var 1
abbrev Z2:ZX:=.var 2
abbrev Z3:ZX:=.var 3
abbrev Z4:ZX:=.var 4
abbrev Z5:ZX:=.var 5
abbrev Z6:ZX:=.var 6
abbrev Z7:ZX:=.var 7
abbrev Zn (n:Nat):ZX:=.num n
abbrev Za (x y:ZX):ZX:=.add x y
abbrev Zs (x:ZX):ZX:=.add x (.num 1)
noncomputable def Oz:List Nat→Nat→Nat
 |[],_=>0
 |x::_,0=>x
 |_::l,n+1=>Oz l n
noncomputable def zD (c:List Nat):ZX→Nat
 |.num n=>n
 |.var n=>Oz c n
 |.add x y=>zD c x+zD c y
 |.mulL n x=>n*zD c x
 |.mulR x n=>zD c x*n
noncomputable def L3:Nat→List Nat
 |0=>[1]
 |n+1=>0::L3 n
noncomputable def IP:List Nat→List Nat→List Nat
 |[],l=>l
 |x::l,[]=>x::l
 |x::l,y::m=>(x+y)::IP l m
noncomputable def HH (k:Nat):List Nat→List Nat
 |[]=>[]
 |x::l=>k*x::HH k l
noncomputable def zW:ZX→List Nat
 |.num n=>[n]
 |.var n=>0::L3 n
 |.add x y=>IP (zW x) (zW y)
 |.mulL n x=>HH n (zW x)
 |.mulR x n=>HH n (zW x)
noncomputable def DJ:List Nat→List Nat→Nat
 |[],_=>0
 |_::_,[]=>0
 |x::l,n::c=>x*n+DJ l c
theorem Eh:∀(l m c:List Nat),DJ (IP l m) c=DJ l c+DJ m c
 |[],m,c=>(Nat.zero_add _).symm
 |x::l,[],c=>rfl
 |x::l,y::m,[]=>rfl
 |x::l,y::m,n::c=>(congr (congrArg _ (Nat.add_mul x y n)) (Eh l m c)).trans (Nat.add_add_add_comm ..)
theorem Dg (k:Nat):∀(l c:List Nat),DJ (HH k l) c=k*DJ l c
 |[],c=>rfl
 |x::l,[]=>rfl
 |x::l,n::c=>(congr (congrArg _ (Nat.mul_assoc k x n)) (Dg k l c)).trans (Nat.mul_add ..).symm
theorem GI:∀(n:Nat) (c:List Nat),DJ (L3 n) c=Oz c n
 |0,[]=>rfl
 |n+1,[]=>rfl
 |0,x::c=>Nat.one_mul x
 |n+1,x::c=>(congrArg (·+_) (Nat.zero_mul x)).trans ((Nat.zero_add _).trans (GI n c))
theorem EN (c:List Nat):∀x:ZX,DJ (zW x) (1::c)=zD c x
 |.num n=>Nat.mul_one n
 |.var n=>(Nat.zero_add _).trans (GI n c)
 |.add x y=>(Eh _ _ _).trans (congr (congrArg _ (EN c x)) (EN c y))
 |.mulL n x=>(Dg _ _ _).trans (congrArg _ (EN c x))
 |.mulR x n=>(Dg _ _ _).trans ((congrArg _ (EN c x)).trans (Nat.mul_comm ..))
abbrev ZC:=Nat×ZX×ZX
noncomputable def Hh (c:List Nat) (g:Prop):List ZC→Prop
 |[]=>g
 |x::l=>zD c x.2.1≤zD c x.2.2→Hh c g l
noncomputable def Po:List ZC→List Nat
 |[]=>[]
 |x::l=>IP (HH x.1 (zW x.2.1)) (Po l)
noncomputable def Pn:List ZC→List Nat
 |[]=>[]
 |x::l=>IP (HH x.1 (zW x.2.2)) (Pn l)
noncomputable def O0:List Nat→List Nat→Bool
 |[],_=>true
 |x::l,[]=>x.ble 0&&O0 l []
 |x::l,y::m=>x.ble y&&O0 l m
noncomputable def Nm:List Nat→List Nat→Bool
 |[],_=>false
 |x::l,[]=>Nat.ble 1 x
 |x::l,y::m=>Nat.ble (y+1) x&&O0 m l
theorem Hf:∀{l m:List Nat} (c:List Nat),O0 l m=true→DJ l c≤DJ m c
 |[],m,c,_=>Nat.zero_le _
 |x::l,m,[],_=>Nat.zero_le _
 |x::l,[],n::c,h=>by
  have h:=Bool.and_eq_true_iff.mp (show (x.ble 0&&O0 l [])=true from h)
  cases Nat.le_zero.mp (Nat.le_of_ble_eq_true h.1)
  exact Nat.le_trans (Nat.le_of_eq ((congrArg (·+_) (Nat.zero_mul n)).trans (Nat.zero_add _))) (Hf c h.2)
 |x::l,y::m,n::c,h=>
  have h:=Bool.and_eq_true_iff.mp (show (x.ble y&&O0 l m)=true from h)
  Nat.add_le_add (Nat.mul_le_mul_right n (Nat.le_of_ble_eq_true h.1)) (Hf c h.2)
theorem L4 {c:List Nat}:∀{l m:List Nat},Nm l m=true→¬DJ l (1::c)≤DJ m (1::c)
 |[],_,h=>nomatch h
 |x::l,[],h=>Nat.not_le_of_lt (Nat.lt_of_lt_of_le (Nat.le_of_ble_eq_true h) (Nat.le_trans (Nat.le_of_eq (Nat.mul_one x).symm) (Nat.le_add_right ..)))
 |x::l,y::m,h=>
  have h:=Bool.and_eq_true_iff.mp (show (Nat.ble (y+1) x&&O0 m l)=true from h)
  Nat.not_le_of_lt (Nat.add_lt_add_of_lt_of_le (Nat.mul_lt_mul_of_pos_right (Nat.le_of_ble_eq_true h.1) Nat.one_pos) (Hf c h.2))
theorem JI {c:List Nat} {g:Prop}:∀{l:List ZC},(DJ (Po l) (1::c)≤DJ (Pn l) (1::c)→g)→Hh c g l
 |[],h=>h (Nat.le_refl 0)
 |x::l,h=>fun d=>JI fun e=>h (by
   show DJ (IP (HH x.1 (zW x.2.1)) (Po l)) _≤DJ (IP (HH x.1 (zW x.2.2)) (Pn l)) _
   rw [Eh,Eh,Dg,Dg,EN,EN]
   exact Nat.add_le_add (Nat.mul_le_mul_left _ d) e)
theorem IN (c:List Nat) (l:List ZC) (h:Nm (Po l) (Pn l)=true):Hh c False l:=JI (L4 h)
theorem FR {c:List Nat} {f g:Prop} (k:f→g):∀{l:List ZC},Hh c f l→Hh c g l
 |[],h=>k h
 |x::l,h=>fun d=>FR k (h d)
theorem Hg {c:List Nat} {p f:Prop}:∀{l:List ZC},(p→Hh c f l)→Hh c (p→f) l
 |[],h=>h
 |x::l,h=>fun d=>Hg fun a=>h a d
theorem At (c:List Nat) (l:List ZC) (x y:ZX) (h:Nm (Po ((1,.add y (.num 1),x)::l)) (Pn ((1,.add y (.num 1),x)::l))=true):Hh c (zD c x≤zD c y) l:=
 FR Nat.le_of_not_lt (Hg (IN c ((1,.add y (.num 1),x)::l) h))
theorem B6 (c:List Nat) (l:List ZC) (x y:ZX) (h:Nm (Po ((1,y,x)::l)) (Pn ((1,y,x)::l))=true):Hh c (zD c x<zD c y) l:=
 FR Nat.lt_of_not_le (Hg (IN c ((1,y,x)::l) h))
theorem BP (a b:Nat):a≤a - b+b:=Nat.sub_le_iff_le_add.mp (Nat.le_refl _)
theorem aux0 (h:True:=by rfl):True:=h
theorem aux1 (h:True:=by decide):True:=h
theorem aux2 (h:True:=by with_unfolding_all rfl):True:=h
theorem aux3 (h:True:=by intro u;simp):True:=h
theorem aux4 (h:True:=by intro zu;rfl):True:=h
theorem aux5 (h:True:=by exact fun zu zu=>KeepOk_plain (by intro a;simp)):True:=h
theorem aux6 (h:True:=by exact cscope_of (by rfl)):True:=h
theorem aux7 (h:True:=by exact OwnOk.nil):True:=h
theorem aux8 (h:True:=by exact ⟨rfl,rfl⟩):True:=h
theorem aux9 (h:True:=by exact fun h=>PE_List _ h (Nat.le_of_ble_eq_true rfl)):True:=h
theorem cps {G:Prop} (h:∀P:Prop,(G→P)→P):G:=h G id
universe u1 u2 u3 u4 u5 u6 u7 u8 u9
theorem xa0_2 {p1 p2:Prop} {P:Prop} (h:p1∧p2) (k:p1→p2→P):P:=k h.1 h.2
theorem xa0_3 {p1 p2 p3:Prop} {P:Prop} (h:p1∧p2∧p3) (k:p1→p2→p3→P):P:=k h.1 h.2.1 h.2.2
theorem xa0_4 {p1 p2 p3 p4:Prop} {P:Prop} (h:p1∧p2∧p3∧p4) (k:p1→p2→p3→p4→P):P:=k h.1 h.2.1 h.2.2.1 h.2.2.2
theorem xa0_5 {p1 p2 p3 p4 p5:Prop} {P:Prop} (h:p1∧p2∧p3∧p4∧p5) (k:p1→p2→p3→p4→p5→P):P:=k h.1 h.2.1 h.2.2.1 h.2.2.2.1 h.2.2.2.2
theorem xa0_6 {p1 p2 p3 p4 p5 p6:Prop} {P:Prop} (h:p1∧p2∧p3∧p4∧p5∧p6) (k:p1→p2→p3→p4→p5→p6→P):P:=k h.1 h.2.1 h.2.2.1 h.2.2.2.1 h.2.2.2.2.1 h.2.2.2.2.2
theorem xa0_7 {p1 p2 p3 p4 p5 p6 p7:Prop} {P:Prop} (h:p1∧p2∧p3∧p4∧p5∧p6∧p7) (k:p1→p2→p3→p4→p5→p6→p7→P):P:=k h.1 h.2.1 h.2.2.1 h.2.2.2.1 h.2.2.2.2.1 h.2.2.2.2.2.1 h.2.2.2.2.2.2
theorem xa0_8 {p1 p2 p3 p4 p5 p6 p7 p8:Prop} {P:Prop} (h:p1∧p2∧p3∧p4∧p5∧p6∧p7∧p8) (k:p1→p2→p3→p4→p5→p6→p7→p8→P):P:=k h.1 h.2.1 h.2.2.1 h.2.2.2.1 h.2.2.2.2.1 h.2.2.2.2.2.1 h.2.2.2.2.2.2.1 h.2.2.2.2.2.2.2
theorem xa0_9 {p1 p2 p3 p4 p5 p6 p7 p8 p9:Prop} {P:Prop} (h:p1∧p2∧p3∧p4∧p5∧p6∧p7∧p8∧p9) (k:p1→p2→p3→p4→p5→p6→p7→p8→p9→P):P:=k h.1 h.2.1 h.2.2.1 h.2.2.2.1 h.2.2.2.2.1 h.2.2.2.2.2.1 h.2.2.2.2.2.2.1 h.2.2.2.2.2.2.2.1 h.2.2.2.2.2.2.2.2
theorem xa0_10 {p1 p2 p3 p4 p5 p6 p7 p8 p9 p10:Prop} {P:Prop} (h:p1∧p2∧p3∧p4∧p5∧p6∧p7∧p8∧p9∧p10) (k:p1→p2→p3→p4→p5→p6→p7→p8→p9→p10→P):P:=k h.1 h.2.1 h.2.2.1 h.2.2.2.1 h.2.2.2.2.1 h.2.2.2.2.2.1 h.2.2.2.2.2.2.1 h.2.2.2.2.2.2.2.1 h.2.2.2.2.2.2.2.2.1 h.2.2.2.2.2.2.2.2.2
theorem xa0_11 {p1 p2 p3 p4 p5 p6 p7 p8 p9 p10 p11:Prop} {P:Prop} (h:p1∧p2∧p3∧p4∧p5∧p6∧p7∧p8∧p9∧p10∧p11) (k:p1→p2→p3→p4→p5→p6→p7→p8→p9→p10→p11→P):P:=k h.1 h.2.1 h.2.2.1 h.2.2.2.1 h.2.2.2.2.1 h.2.2.2.2.2.1 h.2.2.2.2.2.2.1 h.2.2.2.2.2.2.2.1 h.2.2.2.2.2.2.2.2.1 h.2.2.2.2.2.2.2.2.2.1 h.2.2.2.2.2.2.2.2.2.2
theorem xa0_12 {p1 p2 p3 p4 p5 p6 p7 p8 p9 p10 p11 p12:Prop} {P:Prop} (h:p1∧p2∧p3∧p4∧p5∧p6∧p7∧p8∧p9∧p10∧p11∧p12) (k:p1→p2→p3→p4→p5→p6→p7→p8→p9→p10→p11→p12→P):P:=k h.1 h.2.1 h.2.2.1 h.2.2.2.1 h.2.2.2.2.1 h.2.2.2.2.2.1 h.2.2.2.2.2.2.1 h.2.2.2.2.2.2.2.1 h.2.2.2.2.2.2.2.2.1 h.2.2.2.2.2.2.2.2.2.1 h.2.2.2.2.2.2.2.2.2.2.1 h.2.2.2.2.2.2.2.2.2.2.2
theorem xa1_1 {α1:Sort u1} {p1:α1→Prop} {P:Prop} (h:∃a1,p1 a1) (k:∀a1,p1 a1→P):P:=h.elim fun a1 h=>k a1 h
theorem xa1_2 {α1:Sort u1} {p1 p2:α1→Prop} {P:Prop} (h:∃a1,p1 a1∧p2 a1) (k:∀a1,p1 a1→p2 a1→P):P:=h.elim fun a1 h=>k a1 h.1 h.2
theorem xa1_3 {α1:Sort u1} {p1 p2 p3:α1→Prop} {P:Prop} (h:∃a1,p1 a1∧p2 a1∧p3 a1) (k:∀a1,p1 a1→p2 a1→p3 a1→P):P:=h.elim fun a1 h=>k a1 h.1 h.2.1 h.2.2
theorem xa1_4 {α1:Sort u1} {p1 p2 p3 p4:α1→Prop} {P:Prop} (h:∃a1,p1 a1∧p2 a1∧p3 a1∧p4 a1) (k:∀a1,p1 a1→p2 a1→p3 a1→p4 a1→P):P:=h.elim fun a1 h=>k a1 h.1 h.2.1 h.2.2.1 h.2.2.2
theorem xa1_5 {α1:Sort u1} {p1 p2 p3 p4 p5:α1→Prop} {P:Prop} (h:∃a1,p1 a1∧p2 a1∧p3 a1∧p4 a1∧p5 a1) (k:∀a1,p1 a1→p2 a1→p3 a1→p4 a1→p5 a1→P):P:=h.elim fun a1 h=>k a1 h.1 h.2.1 h.2.2.1 h.2.2.2.1 h.2.2.2.2
theorem xa1_6 {α1:Sort u1} {p1 p2 p3 p4 p5 p6:α1→Prop} {P:Prop} (h:∃a1,p1 a1∧p2 a1∧p3 a1∧p4 a1∧p5 a1∧p6 a1) (k:∀a1,p1 a1→p2 a1→p3 a1→p4 a1→p5 a1→p6 a1→P):P:=h.elim fun a1 h=>k a1 h.1 h.2.1 h.2.2.1 h.2.2.2.1 h.2.2.2.2.1 h.2.2.2.2.2
theorem xa1_7 {α1:Sort u1} {p1 p2 p3 p4 p5 p6 p7:α1→Prop} {P:Prop} (h:∃a1,p1 a1∧p2 a1∧p3 a1∧p4 a1∧p5 a1∧p6 a1∧p7 a1) (k:∀a1,p1 a1→p2 a1→p3 a1→p4 a1→p5 a1→p6 a1→p7 a1→P):P:=h.elim fun a1 h=>k a1 h.1 h.2.1 h.2.2.1 h.2.2.2.1 h.2.2.2.2.1 h.2.2.2.2.2.1 h.2.2.2.2.2.2
theorem xa1_8 {α1:Sort u1} {p1 p2 p3 p4 p5 p6 p7 p8:α1→Prop} {P:Prop} (h:∃a1,p1 a1∧p2 a1∧p3 a1∧p4 a1∧p5 a1∧p6 a1∧p7 a1∧p8 a1) (k:∀a1,p1 a1→p2 a1→p3 a1→p4 a1→p5 a1→p6 a1→p7 a1→p8 a1→P):P:=h.elim fun a1 h=>k a1 h.1 h.2.1 h.2.2.1 h.2.2.2.1 h.2.2.2.2.1 h.2.2.2.2.2.1 h.2.2.2.2.2.2.1 h.2.2.2.2.2.2.2
theorem xa1_9 {α1:Sort u1} {p1 p2 p3 p4 p5 p6 p7 p8 p9:α1→Prop} {P:Prop} (h:∃a1,p1 a1∧p2 a1∧p3 a1∧p4 a1∧p5 a1∧p6 a1∧p7 a1∧p8 a1∧p9 a1) (k:∀a1,p1 a1→p2 a1→p3 a1→p4 a1→p5 a1→p6 a1→p7 a1→p8 a1→p9 a1→P):P:=h.elim fun a1 h=>k a1 h.1 h.2.1 h.2.2.1 h.2.2.2.1 h.2.2.2.2.1 h.2.2.2.2.2.1 h.2.2.2.2.2.2.1 h.2.2.2.2.2.2.2.1 h.2.2.2.2.2.2.2.2
theorem xa1_10 {α1:Sort u1} {p1 p2 p3 p4 p5 p6 p7 p8 p9 p10:α1→Prop} {P:Prop} (h:∃a1,p1 a1∧p2 a1∧p3 a1∧p4 a1∧p5 a1∧p6 a1∧p7 a1∧p8 a1∧p9 a1∧p10 a1) (k:∀a1,p1 a1→p2 a1→p3 a1→p4 a1→p5 a1→p6 a1→p7 a1→p8 a1→p9 a1→p10 a1→P):P:=h.elim fun a1 h=>k a1 h.1 h.2.1 h.2.2.1 h.2.2.2.1 h.2.2.2.2.1 h.2.2.2.2.2.1 h.2.2.2.2.2.2.1 h.2.2.2.2.2.2.2.1 h.2.2.2.2.2.2.2.2.1 h.2.2.2.2.2.2.2.2.2
theorem xa1_11 {α1:Sort u1} {p1 p2 p3 p4 p5 p6 p7 p8 p9 p10 p11:α1→Prop} {P:Prop} (h:∃a1,p1 a1∧p2 a1∧p3 a1∧p4 a1∧p5 a1∧p6 a1∧p7 a1∧p8 a1∧p9 a1∧p10 a1∧p11 a1) (k:∀a1,p1 a1→p2 a1→p3 a1→p4 a1→p5 a1→p6 a1→p7 a1→p8 a1→p9 a1→p10 a1→p11 a1→P):P:=h.elim fun a1 h=>k a1 h.1 h.2.1 h.2.2.1 h.2.2.2.1 h.2.2.2.2.1 h.2.2.2.2.2.1 h.2.2.2.2.2.2.1 h.2.2.2.2.2.2.2.1 h.2.2.2.2.2.2.2.2.1 h.2.2.2.2.2.2.2.2.2.1 h.2.2.2.2.2.2.2.2.2.2
theorem xa1_12 {α1:Sort u1} {p1 p2 p3 p4 p5 p6 p7 p8 p9 p10 p11 p12:α1→Prop} {P:Prop} (h:∃a1,p1 a1∧p2 a1∧p3 a1∧p4 a1∧p5 a1∧p6 a1∧p7 a1∧p8 a1∧p9 a1∧p10 a1∧p11 a1∧p12 a1) (k:∀a1,p1 a1→p2 a1→p3 a1→p4 a1→p5 a1→p6 a1→p7 a1→p8 a1→p9 a1→p10 a1→p11 a1→p12 a1→P):P:=h.elim fun a1 h=>k a1 h.1 h.2.1 h.2.2.1 h.2.2.2.1 h.2.2.2.2.1 h.2.2.2.2.2.1 h.2.2.2.2.2.2.1 h.2.2.2.2.2.2.2.1 h.2.2.2.2.2.2.2.2.1 h.2.2.2.2.2.2.2.2.2.1 h.2.2.2.2.2.2.2.2.2.2.1 h.2.2.2.2.2.2.2.2.2.2.2
theorem xa2_1 {α1:Sort u1} {α2:Sort u2} {p1:α1→α2→Prop} {P:Prop} (h:∃a1 a2,p1 a1 a2) (k:∀a1 a2,p1 a1 a2→P):P:=h.elim fun a1 h=>h.elim fun a2 h=>k a1 a2 h
theorem xa2_2 {α1:Sort u1} {α2:Sort u2} {p1 p2:α1→α2→Prop} {P:Prop} (h:∃a1 a2,p1 a1 a2∧p2 a1 a2) (k:∀a1 a2,p1 a1 a2→p2 a1 a2→P):P:=h.elim fun a1 h=>h.elim fun a2 h=>k a1 a2 h.1 h.2
theorem xa2_3 {α1:Sort u1} {α2:Sort u2} {p1 p2 p3:α1→α2→Prop} {P:Prop} (h:∃a1 a2,p1 a1 a2∧p2 a1 a2∧p3 a1 a2) (k:∀a1 a2,p1 a1 a2→p2 a1 a2→p3 a1 a2→P):P:=h.elim fun a1 h=>h.elim fun a2 h=>k a1 a2 h.1 h.2.1 h.2.2
theorem xa2_4 {α1:Sort u1} {α2:Sort u2} {p1 p2 p3 p4:α1→α2→Prop} {P:Prop} (h:∃a1 a2,p1 a1 a2∧p2 a1 a2∧p3 a1 a2∧p4 a1 a2) (k:∀a1 a2,p1 a1 a2→p2 a1 a2→p3 a1 a2→p4 a1 a2→P):P:=h.elim fun a1 h=>h.elim fun a2 h=>k a1 a2 h.1 h.2.1 h.2.2.1 h.2.2.2
theorem xa2_5 {α1:Sort u1} {α2:Sort u2} {p1 p2 p3 p4 p5:α1→α2→Prop} {P:Prop} (h:∃a1 a2,p1 a1 a2∧p2 a1 a2∧p3 a1 a2∧p4 a1 a2∧p5 a1 a2) (k:∀a1 a2,p1 a1 a2→p2 a1 a2→p3 a1 a2→p4 a1 a2→p5 a1 a2→P):P:=h.elim fun a1 h=>h.elim fun a2 h=>k a1 a2 h.1 h.2.1 h.2.2.1 h.2.2.2.1 h.2.2.2.2
theorem xa2_6 {α1:Sort u1} {α2:Sort u2} {p1 p2 p3 p4 p5 p6:α1→α2→Prop} {P:Prop} (h:∃a1 a2,p1 a1 a2∧p2 a1 a2∧p3 a1 a2∧p4 a1 a2∧p5 a1 a2∧p6 a1 a2) (k:∀a1 a2,p1 a1 a2→p2 a1 a2→p3 a1 a2→p4 a1 a2→p5 a1 a2→p6 a1 a2→P):P:=h.elim fun a1 h=>h.elim fun a2 h=>k a1 a2 h.1 h.2.1 h.2.2.1 h.2.2.2.1 h.2.2.2.2.1 h.2.2.2.2.2
theorem xa2_7 {α1:Sort u1} {α2:Sort u2} {p1 p2 p3 p4 p5 p6 p7:α1→α2→Prop} {P:Prop} (h:∃a1 a2,p1 a1 a2∧p2 a1 a2∧p3 a1 a2∧p4 a1 a2∧p5 a1 a2∧p6 a1 a2∧p7 a1 a2) (k:∀a1 a2,p1 a1 a2→p2 a1 a2→p3 a1 a2→p4 a1 a2→p5 a1 a2→p6 a1 a2→p7 a1 a2→P):P:=h.elim fun a1 h=>h.elim fun a2 h=>k a1 a2 h.1 h.2.1 h.2.2.1 h.2.2.2.1 h.2.2.2.2.1 h.2.2.2.2.2.1 h.2.2.2.2.2.2
theorem xa2_8 {α1:Sort u1} {α2:Sort u2} {p1 p2 p3 p4 p5 p6 p7 p8:α1→α2→Prop} {P:Prop} (h:∃a1 a2,p1 a1 a2∧p2 a1 a2∧p3 a1 a2∧p4 a1 a2∧p5 a1 a2∧p6 a1 a2∧p7 a1 a2∧p8 a1 a2) (k:∀a1 a2,p1 a1 a2→p2 a1 a2→p3 a1 a2→p4 a1 a2→p5 a1 a2→p6 a1 a2→p7 a1 a2→p8 a1 a2→P):P:=h.elim fun a1 h=>h.elim fun a2 h=>k a1 a2 h.1 h.2.1 h.2.2.1 h.2.2.2.1 h.2.2.2.2.1 h.2.2.2.2.2.1 h.2.2.2.2.2.2.1 h.2.2.2.2.2.2.2
theorem xa2_9 {α1:Sort u1} {α2:Sort u2} {p1 p2 p3 p4 p5 p6 p7 p8 p9:α1→α2→Prop} {P:Prop} (h:∃a1 a2,p1 a1 a2∧p2 a1 a2∧p3 a1 a2∧p4 a1 a2∧p5 a1 a2∧p6 a1 a2∧p7 a1 a2∧p8 a1 a2∧p9 a1 a2) (k:∀a1 a2,p1 a1 a2→p2 a1 a2→p3 a1 a2→p4 a1 a2→p5 a1 a2→p6 a1 a2→p7 a1 a2→p8 a1 a2→p9 a1 a2→P):P:=h.elim fun a1 h=>h.elim fun a2 h=>k a1 a2 h.1 h.2.1 h.2.2.1 h.2.2.2.1 h.2.2.2.2.1 h.2.2.2.2.2.1 h.2.2.2.2.2.2.1 h.2.2.2.2.2.2.2.1 h.2.2.2.2.2.2.2.2
theorem xa2_10 {α1:Sort u1} {α2:Sort u2} {p1 p2 p3 p4 p5 p6 p7 p8 p9 p10:α1→α2→Prop} {P:Prop} (h:∃a1 a2,p1 a1 a2∧p2 a1 a2∧p3 a1 a2∧p4 a1 a2∧p5 a1 a2∧p6 a1 a2∧p7 a1 a2∧p8 a1 a2∧p9 a1 a2∧p10 a1 a2) (k:∀a1 a2,p1 a1 a2→p2 a1 a2→p3 a1 a2→p4 a1 a2→p5 a1 a2→p6 a1 a2→p7 a1 a2→p8 a1 a2→p9 a1 a2→p10 a1 a2→P):P:=h.elim fun a1 h=>h.elim fun a2 h=>k a1 a2 h.1 h.2.1 h.2.2.1 h.2.2.2.1 h.2.2.2.2.1 h.2.2.2.2.2.1 h.2.2.2.2.2.2.1 h.2.2.2.2.2.2.2.1 h.2.2.2.2.2.2.2.2.1 h.2.2.2.2.2.2.2.2.2
theorem xa2_11 {α1:Sort u1} {α2:Sort u2} {p1 p2 p3 p4 p5 p6 p7 p8 p9 p10 p11:α1→α2→Prop} {P:Prop} (h:∃a1 a2,p1 a1 a2∧p2 a1 a2∧p3 a1 a2∧p4 a1 a2∧p5 a1 a2∧p6 a1 a2∧p7 a1 a2∧p8 a1 a2∧p9 a1 a2∧p10 a1 a2∧p11 a1 a2) (k:∀a1 a2,p1 a1 a2→p2 a1 a2→p3 a1 a2→p4 a1 a2→p5 a1 a2→p6 a1 a2→p7 a1 a2→p8 a1 a2→p9 a1 a2→p10 a1 a2→p11 a1 a2→P):P:=h.elim fun a1 h=>h.elim fun a2 h=>k a1 a2 h.1 h.2.1 h.2.2.1 h.2.2.2.1 h.2.2.2.2.1 h.2.2.2.2.2.1 h.2.2.2.2.2.2.1 h.2.2.2.2.2.2.2.1 h.2.2.2.2.2.2.2.2.1 h.2.2.2.2.2.2.2.2.2.1 h.2.2.2.2.2.2.2.2.2.2
theorem xa2_12 {α1:Sort u1} {α2:Sort u2} {p1 p2 p3 p4 p5 p6 p7 p8 p9 p10 p11 p12:α1→α2→Prop} {P:Prop} (h:∃a1 a2,p1 a1 a2∧p2 a1 a2∧p3 a1 a2∧p4 a1 a2∧p5 a1 a2∧p6 a1 a2∧p7 a1 a2∧p8 a1 a2∧p9 a1 a2∧p10 a1 a2∧p11 a1 a2∧p12 a1 a2) (k:∀a1 a2,p1 a1 a2→p2 a1 a2→p3 a1 a2→p4 a1 a2→p5 a1 a2→p6 a1 a2→p7 a1 a2→p8 a1 a2→p9 a1 a2→p10 a1 a2→p11 a1 a2→p12 a1 a2→P):P:=h.elim fun a1 h=>h.elim fun a2 h=>k a1 a2 h.1 h.2.1 h.2.2.1 h.2.2.2.1 h.2.2.2.2.1 h.2.2.2.2.2.1 h.2.2.2.2.2.2.1 h.2.2.2.2.2.2.2.1 h.2.2.2.2.2.2.2.2.1 h.2.2.2.2.2.2.2.2.2.1 h.2.2.2.2.2.2.2.2.2.2.1 h.2.2.2.2.2.2.2.2.2.2.2
theorem xa3_1 {α1:Sort u1} {α2:Sort u2} {α3:Sort u3} {p1:α1→α2→α3→Prop} {P:Prop} (h:∃a1 a2 a3,p1 a1 a2 a3) (k:∀a1 a2 a3,p1 a1 a2 a3→P):P:=h.elim fun a1 h=>h.elim fun a2 h=>h.elim fun a3 h=>k a1 a2 a3 h
theorem xa3_2 {α1:Sort u1} {α2:Sort u2} {α3:Sort u3} {p1 p2:α1→α2→α3→Prop} {P:Prop} (h:∃a1 a2 a3,p1 a1 a2 a3∧p2 a1 a2 a3) (k:∀a1 a2 a3,p1 a1 a2 a3→p2 a1 a2 a3→P):P:=h.elim fun a1 h=>h.elim fun a2 h=>h.elim fun a3 h=>k a1 a2 a3 h.1 h.2
theorem xa3_3 {α1:Sort u1} {α2:Sort u2} {α3:Sort u3} {p1 p2 p3:α1→α2→α3→Prop} {P:Prop} (h:∃a1 a2 a3,p1 a1 a2 a3∧p2 a1 a2 a3∧p3 a1 a2 a3) (k:∀a1 a2 a3,p1 a1 a2 a3→p2 a1 a2 a3→p3 a1 a2 a3→P):P:=h.elim fun a1 h=>h.elim fun a2 h=>h.elim fun a3 h=>k a1 a2 a3 h.1 h.2.1 h.2.2
theorem xa3_4 {α1:Sort u1} {α2:Sort u2} {α3:Sort u3} {p1 p2 p3 p4:α1→α2→α3→Prop} {P:Prop} (h:∃a1 a2 a3,p1 a1 a2 a3∧p2 a1 a2 a3∧p3 a1 a2 a3∧p4 a1 a2 a3) (k:∀a1 a2 a3,p1 a1 a2 a3→p2 a1 a2 a3→p3 a1 a2 a3→p4 a1 a2 a3→P):P:=h.elim fun a1 h=>h.elim fun a2 h=>h.elim fun a3 h=>k a1 a2 a3 h.1 h.2.1 h.2.2.1 h.2.2.2
theorem xa3_5 {α1:Sort u1} {α2:Sort u2} {α3:Sort u3} {p1 p2 p3 p4 p5:α1→α2→α3→Prop} {P:Prop} (h:∃a1 a2 a3,p1 a1 a2 a3∧p2 a1 a2 a3∧p3 a1 a2 a3∧p4 a1 a2 a3∧p5 a1 a2 a3) (k:∀a1 a2 a3,p1 a1 a2 a3→p2 a1 a2 a3→p3 a1 a2 a3→p4 a1 a2 a3→p5 a1 a2 a3→P):P:=h.elim fun a1 h=>h.elim fun a2 h=>h.elim fun a3 h=>k a1 a2 a3 h.1 h.2.1 h.2.2.1 h.2.2.2.1 h.2.2.2.2
theorem xa3_6 {α1:Sort u1} {α2:Sort u2} {α3:Sort u3} {p1 p2 p3 p4 p5 p6:α1→α2→α3→Prop} {P:Prop} (h:∃a1 a2 a3,p1 a1 a2 a3∧p2 a1 a2 a3∧p3 a1 a2 a3∧p4 a1 a2 a3∧p5 a1 a2 a3∧p6 a1 a2 a3) (k:∀a1 a2 a3,p1 a1 a2 a3→p2 a1 a2 a3→p3 a1 a2 a3→p4 a1 a2 a3→p5 a1 a2 a3→p6 a1 a2 a3→P):P:=h.elim fun a1 h=>h.elim fun a2 h=>h.elim fun a3 h=>k a1 a2 a3 h.1 h.2.1 h.2.2.1 h.2.2.2.1 h.2.2.2.2.1 h.2.2.2.2.2
theorem xa3_7 {α1:Sort u1} {α2:Sort u2} {α3:Sort u3} {p1 p2 p3 p4 p5 p6 p7:α1→α2→α3→Prop} {P:Prop} (h:∃a1 a2 a3,p1 a1 a2 a3∧p2 a1 a2 a3∧p3 a1 a2 a3∧p4 a1 a2 a3∧p5 a1 a2 a3∧p6 a1 a2 a3∧p7 a1 a2 a3) (k:∀a1 a2 a3,p1 a1 a2 a3→p2 a1 a2 a3→p3 a1 a2 a3→p4 a1 a2 a3→p5 a1 a2 a3→p6 a1 a2 a3→p7 a1 a2 a3→P):P:=h.elim fun a1 h=>h.elim fun a2 h=>h.elim fun a3 h=>k a1 a2 a3 h.1 h.2.1 h.2.2.1 h.2.2.2.1 h.2.2.2.2.1 h.2.2.2.2.2.1 h.2.2.2.2.2.2
theorem xa3_8 {α1:Sort u1} {α2:Sort u2} {α3:Sort u3} {p1 p2 p3 p4 p5 p6 p7 p8:α1→α2→α3→Prop} {P:Prop} (h:∃a1 a2 a3,p1 a1 a2 a3∧p2 a1 a2 a3∧p3 a1 a2 a3∧p4 a1 a2 a3∧p5 a1 a2 a3∧p6 a1 a2 a3∧p7 a1 a2 a3∧p8 a1 a2 a3) (k:∀a1 a2 a3,p1 a1 a2 a3→p2 a1 a2 a3→p3 a1 a2 a3→p4 a1 a2 a3→p5 a1 a2 a3→p6 a1 a2 a3→p7 a1 a2 a3→p8 a1 a2 a3→P):P:=h.elim fun a1 h=>h.elim fun a2 h=>h.elim fun a3 h=>k a1 a2 a3 h.1 h.2.1 h.2.2.1 h.2.2.2.1 h.2.2.2.2.1 h.2.2.2.2.2.1 h.2.2.2.2.2.2.1 h.2.2.2.2.2.2.2
theorem xa3_9 {α1:Sort u1} {α2:Sort u2} {α3:Sort u3} {p1 p2 p3 p4 p5 p6 p7 p8 p9:α1→α2→α3→Prop} {P:Prop} (h:∃a1 a2 a3,p1 a1 a2 a3∧p2 a1 a2 a3∧p3 a1 a2 a3∧p4 a1 a2 a3∧p5 a1 a2 a3∧p6 a1 a2 a3∧p7 a1 a2 a3∧p8 a1 a2 a3∧p9 a1 a2 a3) (k:∀a1 a2 a3,p1 a1 a2 a3→p2 a1 a2 a3→p3 a1 a2 a3→p4 a1 a2 a3→p5 a1 a2 a3→p6 a1 a2 a3→p7 a1 a2 a3→p8 a1 a2 a3→p9 a1 a2 a3→P):P:=h.elim fun a1 h=>h.elim fun a2 h=>h.elim fun a3 h=>k a1 a2 a3 h.1 h.2.1 h.2.2.1 h.2.2.2.1 h.2.2.2.2.1 h.2.2.2.2.2.1 h.2.2.2.2.2.2.1 h.2.2.2.2.2.2.2.1 h.2.2.2.2.2.2.2.2
theorem xa3_10 {α1:Sort u1} {α2:Sort u2} {α3:Sort u3} {p1 p2 p3 p4 p5 p6 p7 p8 p9 p10:α1→α2→α3→Prop} {P:Prop} (h:∃a1 a2 a3,p1 a1 a2 a3∧p2 a1 a2 a3∧p3 a1 a2 a3∧p4 a1 a2 a3∧p5 a1 a2 a3∧p6 a1 a2 a3∧p7 a1 a2 a3∧p8 a1 a2 a3∧p9 a1 a2 a3∧p10 a1 a2 a3) (k:∀a1 a2 a3,p1 a1 a2 a3→p2 a1 a2 a3→p3 a1 a2 a3→p4 a1 a2 a3→p5 a1 a2 a3→p6 a1 a2 a3→p7 a1 a2 a3→p8 a1 a2 a3→p9 a1 a2 a3→p10 a1 a2 a3→P):P:=h.elim fun a1 h=>h.elim fun a2 h=>h.elim fun a3 h=>k a1 a2 a3 h.1 h.2.1 h.2.2.1 h.2.2.2.1 h.2.2.2.2.1 h.2.2.2.2.2.1 h.2.2.2.2.2.2.1 h.2.2.2.2.2.2.2.1 h.2.2.2.2.2.2.2.2.1 h.2.2.2.2.2.2.2.2.2
theorem xa3_11 {α1:Sort u1} {α2:Sort u2} {α3:Sort u3} {p1 p2 p3 p4 p5 p6 p7 p8 p9 p10 p11:α1→α2→α3→Prop} {P:Prop} (h:∃a1 a2 a3,p1 a1 a2 a3∧p2 a1 a2 a3∧p3 a1 a2 a3∧p4 a1 a2 a3∧p5 a1 a2 a3∧p6 a1 a2 a3∧p7 a1 a2 a3∧p8 a1 a2 a3∧p9 a1 a2 a3∧p10 a1 a2 a3∧p11 a1 a2 a3) (k:∀a1 a2 a3,p1 a1 a2 a3→p2 a1 a2 a3→p3 a1 a2 a3→p4 a1 a2 a3→p5 a1 a2 a3→p6 a1 a2 a3→p7 a1 a2 a3→p8 a1 a2 a3→p9 a1 a2 a3→p10 a1 a2 a3→p11 a1 a2 a3→P):P:=h.elim fun a1 h=>h.elim fun a2 h=>h.elim fun a3 h=>k a1 a2 a3 h.1 h.2.1 h.2.2.1 h.2.2.2.1 h.2.2.2.2.1 h.2.2.2.2.2.1 h.2.2.2.2.2.2.1 h.2.2.2.2.2.2.2.1 h.2.2.2.2.2.2.2.2.1 h.2.2.2.2.2.2.2.2.2.1 h.2.2.2.2.2.2.2.2.2.2
theorem xa3_12 {α1:Sort u1} {α2:Sort u2} {α3:Sort u3} {p1 p2 p3 p4 p5 p6 p7 p8 p9 p10 p11 p12:α1→α2→α3→Prop} {P:Prop} (h:∃a1 a2 a3,p1 a1 a2 a3∧p2 a1 a2 a3∧p3 a1 a2 a3∧p4 a1 a2 a3∧p5 a1 a2 a3∧p6 a1 a2 a3∧p7 a1 a2 a3∧p8 a1 a2 a3∧p9 a1 a2 a3∧p10 a1 a2 a3∧p11 a1 a2 a3∧p12 a1 a2 a3) (k:∀a1 a2 a3,p1 a1 a2 a3→p2 a1 a2 a3→p3 a1 a2 a3→p4 a1 a2 a3→p5 a1 a2 a3→p6 a1 a2 a3→p7 a1 a2 a3→p8 a1 a2 a3→p9 a1 a2 a3→p10 a1 a2 a3→p11 a1 a2 a3→p12 a1 a2 a3→P):P:=h.elim fun a1 h=>h.elim fun a2 h=>h.elim fun a3 h=>k a1 a2 a3 h.1 h.2.1 h.2.2.1 h.2.2.2.1 h.2.2.2.2.1 h.2.2.2.2.2.1 h.2.2.2.2.2.2.1 h.2.2.2.2.2.2.2.1 h.2.2.2.2.2.2.2.2.1 h.2.2.2.2.2.2.2.2.2.1 h.2.2.2.2.2.2.2.2.2.2.1 h.2.2.2.2.2.2.2.2.2.2.2
theorem xa4_1 {α1:Sort u1} {α2:Sort u2} {α3:Sort u3} {α4:Sort u4} {p1:α1→α2→α3→α4→Prop} {P:Prop} (h:∃a1 a2 a3 a4,p1 a1 a2 a3 a4) (k:∀a1 a2 a3 a4,p1 a1 a2 a3 a4→P):P:=h.elim fun a1 h=>h.elim fun a2 h=>h.elim fun a3 h=>h.elim fun a4 h=>k a1 a2 a3 a4 h
theorem xa4_2 {α1:Sort u1} {α2:Sort u2} {α3:Sort u3} {α4:Sort u4} {p1 p2:α1→α2→α3→α4→Prop} {P:Prop} (h:∃a1 a2 a3 a4,p1 a1 a2 a3 a4∧p2 a1 a2 a3 a4) (k:∀a1 a2 a3 a4,p1 a1 a2 a3 a4→p2 a1 a2 a3 a4→P):P:=h.elim fun a1 h=>h.elim fun a2 h=>h.elim fun a3 h=>h.elim fun a4 h=>k a1 a2 a3 a4 h.1 h.2
theorem xa4_3 {α1:Sort u1} {α2:Sort u2} {α3:Sort u3} {α4:Sort u4} {p1 p2 p3:α1→α2→α3→α4→Prop} {P:Prop} (h:∃a1 a2 a3 a4,p1 a1 a2 a3 a4∧p2 a1 a2 a3 a4∧p3 a1 a2 a3 a4) (k:∀a1 a2 a3 a4,p1 a1 a2 a3 a4→p2 a1 a2 a3 a4→p3 a1 a2 a3 a4→P):P:=h.elim fun a1 h=>h.elim fun a2 h=>h.elim fun a3 h=>h.elim fun a4 h=>k a1 a2 a3 a4 h.1 h.2.1 h.2.2
theorem xa4_4 {α1:Sort u1} {α2:Sort u2} {α3:Sort u3} {α4:Sort u4} {p1 p2 p3 p4:α1→α2→α3→α4→Prop} {P:Prop} (h:∃a1 a2 a3 a4,p1 a1 a2 a3 a4∧p2 a1 a2 a3 a4∧p3 a1 a2 a3 a4∧p4 a1 a2 a3 a4) (k:∀a1 a2 a3 a4,p1 a1 a2 a3 a4→p2 a1 a2 a3 a4→p3 a1 a2 a3 a4→p4 a1 a2 a3 a4→P):P:=h.elim fun a1 h=>h.elim fun a2 h=>h.elim fun a3 h=>h.elim fun a4 h=>k a1 a2 a3 a4 h.1 h.2.1 h.2.2.1 h.2.2.2
theorem xa4_5 {α1:Sort u1} {α2:Sort u2} {α3:Sort u3} {α4:Sort u4} {p1 p2 p3 p4 p5:α1→α2→α3→α4→Prop} {P:Prop} (h:∃a1 a2 a3 a4,p1 a1 a2 a3 a4∧p2 a1 a2 a3 a4∧p3 a1 a2 a3 a4∧p4 a1 a2 a3 a4∧p5 a1 a2 a3 a4) (k:∀a1 a2 a3 a4,p1 a1 a2 a3 a4→p2 a1 a2 a3 a4→p3 a1 a2 a3 a4→p4 a1 a2 a3 a4→p5 a1 a2 a3 a4→P):P:=h.elim fun a1 h=>h.elim fun a2 h=>h.elim fun a3 h=>h.elim fun a4 h=>k a1 a2 a3 a4 h.1 h.2.1 h.2.2.1 h.2.2.2.1 h.2.2.2.2
theorem xa4_6 {α1:Sort u1} {α2:Sort u2} {α3:Sort u3} {α4:Sort u4} {p1 p2 p3 p4 p5 p6:α1→α2→α3→α4→Prop} {P:Prop} (h:∃a1 a2 a3 a4,p1 a1 a2 a3 a4∧p2 a1 a2 a3 a4∧p3 a1 a2 a3 a4∧p4 a1 a2 a3 a4∧p5 a1 a2 a3 a4∧p6 a1 a2 a3 a4) (k:∀a1 a2 a3 a4,p1 a1 a2 a3 a4→p2 a1 a2 a3 a4→p3 a1 a2 a3 a4→p4 a1 a2 a3 a4→p5 a1 a2 a3 a4→p6 a1 a2 a3 a4→P):P:=h.elim fun a1 h=>h.elim fun a2 h=>h.elim fun a3 h=>h.elim fun a4 h=>k a1 a2 a3 a4 h.1 h.2.1 h.2.2.1 h.2.2.2.1 h.2.2.2.2.1 h.2.2.2.2.2
theorem xa4_7 {α1:Sort u1} {α2:Sort u2} {α3:Sort u3} {α4:Sort u4} {p1 p2 p3 p4 p5 p6 p7:α1→α2→α3→α4→Prop} {P:Prop} (h:∃a1 a2 a3 a4,p1 a1 a2 a3 a4∧p2 a1 a2 a3 a4∧p3 a1 a2 a3 a4∧p4 a1 a2 a3 a4∧p5 a1 a2 a3 a4∧p6 a1 a2 a3 a4∧p7 a1 a2 a3 a4) (k:∀a1 a2 a3 a4,p1 a1 a2 a3 a4→p2 a1 a2 a3 a4→p3 a1 a2 a3 a4→p4 a1 a2 a3 a4→p5 a1 a2 a3 a4→p6 a1 a2 a3 a4→p7 a1 a2 a3 a4→P):P:=h.elim fun a1 h=>h.elim fun a2 h=>h.elim fun a3 h=>h.elim fun a4 h=>k a1 a2 a3 a4 h.1 h.2.1 h.2.2.1 h.2.2.2.1 h.2.2.2.2.1 h.2.2.2.2.2.1 h.2.2.2.2.2.2
theorem xa4_8 {α1:Sort u1} {α2:Sort u2} {α3:Sort u3} {α4:Sort u4} {p1 p2 p3 p4 p5 p6 p7 p8:α1→α2→α3→α4→Prop} {P:Prop} (h:∃a1 a2 a3 a4,p1 a1 a2 a3 a4∧p2 a1 a2 a3 a4∧p3 a1 a2 a3 a4∧p4 a1 a2 a3 a4∧p5 a1 a2 a3 a4∧p6 a1 a2 a3 a4∧p7 a1 a2 a3 a4∧p8 a1 a2 a3 a4) (k:∀a1 a2 a3 a4,p1 a1 a2 a3 a4→p2 a1 a2 a3 a4→p3 a1 a2 a3 a4→p4 a1 a2 a3 a4→p5 a1 a2 a3 a4→p6 a1 a2 a3 a4→p7 a1 a2 a3 a4→p8 a1 a2 a3 a4→P):P:=h.elim fun a1 h=>h.elim fun a2 h=>h.elim fun a3 h=>h.elim fun a4 h=>k a1 a2 a3 a4 h.1 h.2.1 h.2.2.1 h.2.2.2.1 h.2.2.2.2.1 h.2.2.2.2.2.1 h.2.2.2.2.2.2.1 h.2.2.2.2.2.2.2
theorem xa4_9 {α1:Sort u1} {α2:Sort u2} {α3:Sort u3} {α4:Sort u4} {p1 p2 p3 p4 p5 p6 p7 p8 p9:α1→α2→α3→α4→Prop} {P:Prop} (h:∃a1 a2 a3 a4,p1 a1 a2 a3 a4∧p2 a1 a2 a3 a4∧p3 a1 a2 a3 a4∧p4 a1 a2 a3 a4∧p5 a1 a2 a3 a4∧p6 a1 a2 a3 a4∧p7 a1 a2 a3 a4∧p8 a1 a2 a3 a4∧p9 a1 a2 a3 a4) (k:∀a1 a2 a3 a4,p1 a1 a2 a3 a4→p2 a1 a2 a3 a4→p3 a1 a2 a3 a4→p4 a1 a2 a3 a4→p5 a1 a2 a3 a4→p6 a1 a2 a3 a4→p7 a1 a2 a3 a4→p8 a1 a2 a3 a4→p9 a1 a2 a3 a4→P):P:=h.elim fun a1 h=>h.elim fun a2 h=>h.elim fun a3 h=>h.elim fun a4 h=>k a1 a2 a3 a4 h.1 h.2.1 h.2.2.1 h.2.2.2.1 h.2.2.2.2.1 h.2.2.2.2.2.1 h.2.2.2.2.2.2.1 h.2.2.2.2.2.2.2.1 h.2.2.2.2.2.2.2.2
theorem xa4_10 {α1:Sort u1} {α2:Sort u2} {α3:Sort u3} {α4:Sort u4} {p1 p2 p3 p4 p5 p6 p7 p8 p9 p10:α1→α2→α3→α4→Prop} {P:Prop} (h:∃a1 a2 a3 a4,p1 a1 a2 a3 a4∧p2 a1 a2 a3 a4∧p3 a1 a2 a3 a4∧p4 a1 a2 a3 a4∧p5 a1 a2 a3 a4∧p6 a1 a2 a3 a4∧p7 a1 a2 a3 a4∧p8 a1 a2 a3 a4∧p9 a1 a2 a3 a4∧p10 a1 a2 a3 a4) (k:∀a1 a2 a3 a4,p1 a1 a2 a3 a4→p2 a1 a2 a3 a4→p3 a1 a2 a3 a4→p4 a1 a2 a3 a4→p5 a1 a2 a3 a4→p6 a1 a2 a3 a4→p7 a1 a2 a3 a4→p8 a1 a2 a3 a4→p9 a1 a2 a3 a4→p10 a1 a2 a3 a4→P):P:=h.elim fun a1 h=>h.elim fun a2 h=>h.elim fun a3 h=>h.elim fun a4 h=>k a1 a2 a3 a4 h.1 h.2.1 h.2.2.1 h.2.2.2.1 h.2.2.2.2.1 h.2.2.2.2.2.1 h.2.2.2.2.2.2.1 h.2.2.2.2.2.2.2.1 h.2.2.2.2.2.2.2.2.1 h.2.2.2.2.2.2.2.2.2
theorem xa4_11 {α1:Sort u1} {α2:Sort u2} {α3:Sort u3} {α4:Sort u4} {p1 p2 p3 p4 p5 p6 p7 p8 p9 p10 p11:α1→α2→α3→α4→Prop} {P:Prop} (h:∃a1 a2 a3 a4,p1 a1 a2 a3 a4∧p2 a1 a2 a3 a4∧p3 a1 a2 a3 a4∧p4 a1 a2 a3 a4∧p5 a1 a2 a3 a4∧p6 a1 a2 a3 a4∧p7 a1 a2 a3 a4∧p8 a1 a2 a3 a4∧p9 a1 a2 a3 a4∧p10 a1 a2 a3 a4∧p11 a1 a2 a3 a4) (k:∀a1 a2 a3 a4,p1 a1 a2 a3 a4→p2 a1 a2 a3 a4→p3 a1 a2 a3 a4→p4 a1 a2 a3 a4→p5 a1 a2 a3 a4→p6 a1 a2 a3 a4→p7 a1 a2 a3 a4→p8 a1 a2 a3 a4→p9 a1 a2 a3 a4→p10 a1 a2 a3 a4→p11 a1 a2 a3 a4→P):P:=h.elim fun a1 h=>h.elim fun a2 h=>h.elim fun a3 h=>h.elim fun a4 h=>k a1 a2 a3 a4 h.1 h.2.1 h.2.2.1 h.2.2.2.1 h.2.2.2.2.1 h.2.2.2.2.2.1 h.2.2.2.2.2.2.1 h.2.2.2.2.2.2.2.1 h.2.2.2.2.2.2.2.2.1 h.2.2.2.2.2.2.2.2.2.1 h.2.2.2.2.2.2.2.2.2.2
theorem xa4_12 {α1:Sort u1} {α2:Sort u2} {α3:Sort u3} {α4:Sort u4} {p1 p2 p3 p4 p5 p6 p7 p8 p9 p10 p11 p12:α1→α2→α3→α4→Prop} {P:Prop} (h:∃a1 a2 a3 a4,p1 a1 a2 a3 a4∧p2 a1 a2 a3 a4∧p3 a1 a2 a3 a4∧p4 a1 a2 a3 a4∧p5 a1 a2 a3 a4∧p6 a1 a2 a3 a4∧p7 a1 a2 a3 a4∧p8 a1 a2 a3 a4∧p9 a1 a2 a3 a4∧p10 a1 a2 a3 a4∧p11 a1 a2 a3 a4∧p12 a1 a2 a3 a4) (k:∀a1 a2 a3 a4,p1 a1 a2 a3 a4→p2 a1 a2 a3 a4→p3 a1 a2 a3 a4→p4 a1 a2 a3 a4→p5 a1 a2 a3 a4→p6 a1 a2 a3 a4→p7 a1 a2 a3 a4→p8 a1 a2 a3 a4→p9 a1 a2 a3 a4→p10 a1 a2 a3 a4→p11 a1 a2 a3 a4→p12 a1 a2 a3 a4→P):P:=h.elim fun a1 h=>h.elim fun a2 h=>h.elim fun a3 h=>h.elim fun a4 h=>k a1 a2 a3 a4 h.1 h.2.1 h.2.2.1 h.2.2.2.1 h.2.2.2.2.1 h.2.2.2.2.2.1 h.2.2.2.2.2.2.1 h.2.2.2.2.2.2.2.1 h.2.2.2.2.2.2.2.2.1 h.2.2.2.2.2.2.2.2.2.1 h.2.2.2.2.2.2.2.2.2.2.1 h.2.2.2.2.2.2.2.2.2.2.2
theorem xa5_1 {α1:Sort u1} {α2:Sort u2} {α3:Sort u3} {α4:Sort u4} {α5:Sort u5} {p1:α1→α2→α3→α4→α5→Prop} {P:Prop} (h:∃a1 a2 a3 a4 a5,p1 a1 a2 a3 a4 a5) (k:∀a1 a2 a3 a4 a5,p1 a1 a2 a3 a4 a5→P):P:=h.elim fun a1 h=>h.elim fun a2 h=>h.elim fun a3 h=>h.elim fun a4 h=>h.elim fun a5 h=>k a1 a2 a3 a4 a5 h
theorem xa5_2 {α1:Sort u1} {α2:Sort u2} {α3:Sort u3} {α4:Sort u4} {α5:Sort u5} {p1 p2:α1→α2→α3→α4→α5→Prop} {P:Prop} (h:∃a1 a2 a3 a4 a5,p1 a1 a2 a3 a4 a5∧p2 a1 a2 a3 a4 a5) (k:∀a1 a2 a3 a4 a5,p1 a1 a2 a3 a4 a5→p2 a1 a2 a3 a4 a5→P):P:=h.elim fun a1 h=>h.elim fun a2 h=>h.elim fun a3 h=>h.elim fun a4 h=>h.elim fun a5 h=>k a1 a2 a3 a4 a5 h.1 h.2
theorem xa5_3 {α1:Sort u1} {α2:Sort u2} {α3:Sort u3} {α4:Sort u4} {α5:Sort u5} {p1 p2 p3:α1→α2→α3→α4→α5→Prop} {P:Prop} (h:∃a1 a2 a3 a4 a5,p1 a1 a2 a3 a4 a5∧p2 a1 a2 a3 a4 a5∧p3 a1 a2 a3 a4 a5) (k:∀a1 a2 a3 a4 a5,p1 a1 a2 a3 a4 a5→p2 a1 a2 a3 a4 a5→p3 a1 a2 a3 a4 a5→P):P:=h.elim fun a1 h=>h.elim fun a2 h=>h.elim fun a3 h=>h.elim fun a4 h=>h.elim fun a5 h=>k a1 a2 a3 a4 a5 h.1 h.2.1 h.2.2
theorem xa5_4 {α1:Sort u1} {α2:Sort u2} {α3:Sort u3} {α4:Sort u4} {α5:Sort u5} {p1 p2 p3 p4:α1→α2→α3→α4→α5→Prop} {P:Prop} (h:∃a1 a2 a3 a4 a5,p1 a1 a2 a3 a4 a5∧p2 a1 a2 a3 a4 a5∧p3 a1 a2 a3 a4 a5∧p4 a1 a2 a3 a4 a5) (k:∀a1 a2 a3 a4 a5,p1 a1 a2 a3 a4 a5→p2 a1 a2 a3 a4 a5→p3 a1 a2 a3 a4 a5→p4 a1 a2 a3 a4 a5→P):P:=h.elim fun a1 h=>h.elim fun a2 h=>h.elim fun a3 h=>h.elim fun a4 h=>h.elim fun a5 h=>k a1 a2 a3 a4 a5 h.1 h.2.1 h.2.2.1 h.2.2.2
theorem xa5_5 {α1:Sort u1} {α2:Sort u2} {α3:Sort u3} {α4:Sort u4} {α5:Sort u5} {p1 p2 p3 p4 p5:α1→α2→α3→α4→α5→Prop} {P:Prop} (h:∃a1 a2 a3 a4 a5,p1 a1 a2 a3 a4 a5∧p2 a1 a2 a3 a4 a5∧p3 a1 a2 a3 a4 a5∧p4 a1 a2 a3 a4 a5∧p5 a1 a2 a3 a4 a5) (k:∀a1 a2 a3 a4 a5,p1 a1 a2 a3 a4 a5→p2 a1 a2 a3 a4 a5→p3 a1 a2 a3 a4 a5→p4 a1 a2 a3 a4 a5→p5 a1 a2 a3 a4 a5→P):P:=h.elim fun a1 h=>h.elim fun a2 h=>h.elim fun a3 h=>h.elim fun a4 h=>h.elim fun a5 h=>k a1 a2 a3 a4 a5 h.1 h.2.1 h.2.2.1 h.2.2.2.1 h.2.2.2.2
theorem xa5_6 {α1:Sort u1} {α2:Sort u2} {α3:Sort u3} {α4:Sort u4} {α5:Sort u5} {p1 p2 p3 p4 p5 p6:α1→α2→α3→α4→α5→Prop} {P:Prop} (h:∃a1 a2 a3 a4 a5,p1 a1 a2 a3 a4 a5∧p2 a1 a2 a3 a4 a5∧p3 a1 a2 a3 a4 a5∧p4 a1 a2 a3 a4 a5∧p5 a1 a2 a3 a4 a5∧p6 a1 a2 a3 a4 a5) (k:∀a1 a2 a3 a4 a5,p1 a1 a2 a3 a4 a5→p2 a1 a2 a3 a4 a5→p3 a1 a2 a3 a4 a5→p4 a1 a2 a3 a4 a5→p5 a1 a2 a3 a4 a5→p6 a1 a2 a3 a4 a5→P):P:=h.elim fun a1 h=>h.elim fun a2 h=>h.elim fun a3 h=>h.elim fun a4 h=>h.elim fun a5 h=>k a1 a2 a3 a4 a5 h.1 h.2.1 h.2.2.1 h.2.2.2.1 h.2.2.2.2.1 h.2.2.2.2.2
theorem xa5_7 {α1:Sort u1} {α2:Sort u2} {α3:Sort u3} {α4:Sort u4} {α5:Sort u5} {p1 p2 p3 p4 p5 p6 p7:α1→α2→α3→α4→α5→Prop} {P:Prop} (h:∃a1 a2 a3 a4 a5,p1 a1 a2 a3 a4 a5∧p2 a1 a2 a3 a4 a5∧p3 a1 a2 a3 a4 a5∧p4 a1 a2 a3 a4 a5∧p5 a1 a2 a3 a4 a5∧p6 a1 a2 a3 a4 a5∧p7 a1 a2 a3 a4 a5) (k:∀a1 a2 a3 a4 a5,p1 a1 a2 a3 a4 a5→p2 a1 a2 a3 a4 a5→p3 a1 a2 a3 a4 a5→p4 a1 a2 a3 a4 a5→p5 a1 a2 a3 a4 a5→p6 a1 a2 a3 a4 a5→p7 a1 a2 a3 a4 a5→P):P:=h.elim fun a1 h=>h.elim fun a2 h=>h.elim fun a3 h=>h.elim fun a4 h=>h.elim fun a5 h=>k a1 a2 a3 a4 a5 h.1 h.2.1 h.2.2.1 h.2.2.2.1 h.2.2.2.2.1 h.2.2.2.2.2.1 h.2.2.2.2.2.2
theorem xa5_8 {α1:Sort u1} {α2:Sort u2} {α3:Sort u3} {α4:Sort u4} {α5:Sort u5} {p1 p2 p3 p4 p5 p6 p7 p8:α1→α2→α3→α4→α5→Prop} {P:Prop} (h:∃a1 a2 a3 a4 a5,p1 a1 a2 a3 a4 a5∧p2 a1 a2 a3 a4 a5∧p3 a1 a2 a3 a4 a5∧p4 a1 a2 a3 a4 a5∧p5 a1 a2 a3 a4 a5∧p6 a1 a2 a3 a4 a5∧p7 a1 a2 a3 a4 a5∧p8 a1 a2 a3 a4 a5) (k:∀a1 a2 a3 a4 a5,p1 a1 a2 a3 a4 a5→p2 a1 a2 a3 a4 a5→p3 a1 a2 a3 a4 a5→p4 a1 a2 a3 a4 a5→p5 a1 a2 a3 a4 a5→p6 a1 a2 a3 a4 a5→p7 a1 a2 a3 a4 a5→p8 a1 a2 a3 a4 a5→P):P:=h.elim fun a1 h=>h.elim fun a2 h=>h.elim fun a3 h=>h.elim fun a4 h=>h.elim fun a5 h=>k a1 a2 a3 a4 a5 h.1 h.2.1 h.2.2.1 h.2.2.2.1 h.2.2.2.2.1 h.2.2.2.2.2.1 h.2.2.2.2.2.2.1 h.2.2.2.2.2.2.2
theorem xa5_9 {α1:Sort u1} {α2:Sort u2} {α3:Sort u3} {α4:Sort u4} {α5:Sort u5} {p1 p2 p3 p4 p5 p6 p7 p8 p9:α1→α2→α3→α4→α5→Prop} {P:Prop} (h:∃a1 a2 a3 a4 a5,p1 a1 a2 a3 a4 a5∧p2 a1 a2 a3 a4 a5∧p3 a1 a2 a3 a4 a5∧p4 a1 a2 a3 a4 a5∧p5 a1 a2 a3 a4 a5∧p6 a1 a2 a3 a4 a5∧p7 a1 a2 a3 a4 a5∧p8 a1 a2 a3 a4 a5∧p9 a1 a2 a3 a4 a5) (k:∀a1 a2 a3 a4 a5,p1 a1 a2 a3 a4 a5→p2 a1 a2 a3 a4 a5→p3 a1 a2 a3 a4 a5→p4 a1 a2 a3 a4 a5→p5 a1 a2 a3 a4 a5→p6 a1 a2 a3 a4 a5→p7 a1 a2 a3 a4 a5→p8 a1 a2 a3 a4 a5→p9 a1 a2 a3 a4 a5→P):P:=h.elim fun a1 h=>h.elim fun a2 h=>h.elim fun a3 h=>h.elim fun a4 h=>h.elim fun a5 h=>k a1 a2 a3 a4 a5 h.1 h.2.1 h.2.2.1 h.2.2.2.1 h.2.2.2.2.1 h.2.2.2.2.2.1 h.2.2.2.2.2.2.1 h.2.2.2.2.2.2.2.1 h.2.2.2.2.2.2.2.2
theorem xa5_10 {α1:Sort u1} {α2:Sort u2} {α3:Sort u3} {α4:Sort u4} {α5:Sort u5} {p1 p2 p3 p4 p5 p6 p7 p8 p9 p10:α1→α2→α3→α4→α5→Prop} {P:Prop} (h:∃a1 a2 a3 a4 a5,p1 a1 a2 a3 a4 a5∧p2 a1 a2 a3 a4 a5∧p3 a1 a2 a3 a4 a5∧p4 a1 a2 a3 a4 a5∧p5 a1 a2 a3 a4 a5∧p6 a1 a2 a3 a4 a5∧p7 a1 a2 a3 a4 a5∧p8 a1 a2 a3 a4 a5∧p9 a1 a2 a3 a4 a5∧p10 a1 a2 a3 a4 a5) (k:∀a1 a2 a3 a4 a5,p1 a1 a2 a3 a4 a5→p2 a1 a2 a3 a4 a5→p3 a1 a2 a3 a4 a5→p4 a1 a2 a3 a4 a5→p5 a1 a2 a3 a4 a5→p6 a1 a2 a3 a4 a5→p7 a1 a2 a3 a4 a5→p8 a1 a2 a3 a4 a5→p9 a1 a2 a3 a4 a5→p10 a1 a2 a3 a4 a5→P):P:=h.elim fun a1 h=>h.elim fun a2 h=>h.elim fun a3 h=>h.elim fun a4 h=>h.elim fun a5 h=>k a1 a2 a3 a4 a5 h.1 h.2.1 h.2.2.1 h.2.2.2.1 h.2.2.2.2.1 h.2.2.2.2.2.1 h.2.2.2.2.2.2.1 h.2.2.2.2.2.2.2.1 h.2.2.2.2.2.2.2.2.1 h.2.2.2.2.2.2.2.2.2
theorem xa5_11 {α1:Sort u1} {α2:Sort u2} {α3:Sort u3} {α4:Sort u4} {α5:Sort u5} {p1 p2 p3 p4 p5 p6 p7 p8 p9 p10 p11:α1→α2→α3→α4→α5→Prop} {P:Prop} (h:∃a1 a2 a3 a4 a5,p1 a1 a2 a3 a4 a5∧p2 a1 a2 a3 a4 a5∧p3 a1 a2 a3 a4 a5∧p4 a1 a2 a3 a4 a5∧p5 a1 a2 a3 a4 a5∧p6 a1 a2 a3 a4 a5∧p7 a1 a2 a3 a4 a5∧p8 a1 a2 a3 a4 a5∧p9 a1 a2 a3 a4 a5∧p10 a1 a2 a3 a4 a5∧p11 a1 a2 a3 a4 a5) (k:∀a1 a2 a3 a4 a5,p1 a1 a2 a3 a4 a5→p2 a1 a2 a3 a4 a5→p3 a1 a2 a3 a4 a5→p4 a1 a2 a3 a4 a5→p5 a1 a2 a3 a4 a5→p6 a1 a2 a3 a4 a5→p7 a1 a2 a3 a4 a5→p8 a1 a2 a3 a4 a5→p9 a1 a2 a3 a4 a5→p10 a1 a2 a3 a4 a5→p11 a1 a2 a3 a4 a5→P):P:=h.elim fun a1 h=>h.elim fun a2 h=>h.elim fun a3 h=>h.elim fun a4 h=>h.elim fun a5 h=>k a1 a2 a3 a4 a5 h.1 h.2.1 h.2.2.1 h.2.2.2.1 h.2.2.2.2.1 h.2.2.2.2.2.1 h.2.2.2.2.2.2.1 h.2.2.2.2.2.2.2.1 h.2.2.2.2.2.2.2.2.1 h.2.2.2.2.2.2.2.2.2.1 h.2.2.2.2.2.2.2.2.2.2
theorem xa6_1 {α1:Sort u1} {α2:Sort u2} {α3:Sort u3} {α4:Sort u4} {α5:Sort u5} {α6:Sort u6} {p1:α1→α2→α3→α4→α5→α6→Prop} {P:Prop} (h:∃a1 a2 a3 a4 a5 a6,p1 a1 a2 a3 a4 a5 a6) (k:∀a1 a2 a3 a4 a5 a6,p1 a1 a2 a3 a4 a5 a6→P):P:=h.elim fun a1 h=>h.elim fun a2 h=>h.elim fun a3 h=>h.elim fun a4 h=>h.elim fun a5 h=>h.elim fun a6 h=>k a1 a2 a3 a4 a5 a6 h
theorem xa6_2 {α1:Sort u1} {α2:Sort u2} {α3:Sort u3} {α4:Sort u4} {α5:Sort u5} {α6:Sort u6} {p1 p2:α1→α2→α3→α4→α5→α6→Prop} {P:Prop} (h:∃a1 a2 a3 a4 a5 a6,p1 a1 a2 a3 a4 a5 a6∧p2 a1 a2 a3 a4 a5 a6) (k:∀a1 a2 a3 a4 a5 a6,p1 a1 a2 a3 a4 a5 a6→p2 a1 a2 a3 a4 a5 a6→P):P:=h.elim fun a1 h=>h.elim fun a2 h=>h.elim fun a3 h=>h.elim fun a4 h=>h.elim fun a5 h=>h.elim fun a6 h=>k a1 a2 a3 a4 a5 a6 h.1 h.2
theorem xa6_3 {α1:Sort u1} {α2:Sort u2} {α3:Sort u3} {α4:Sort u4} {α5:Sort u5} {α6:Sort u6} {p1 p2 p3:α1→α2→α3→α4→α5→α6→Prop} {P:Prop} (h:∃a1 a2 a3 a4 a5 a6,p1 a1 a2 a3 a4 a5 a6∧p2 a1 a2 a3 a4 a5 a6∧p3 a1 a2 a3 a4 a5 a6) (k:∀a1 a2 a3 a4 a5 a6,p1 a1 a2 a3 a4 a5 a6→p2 a1 a2 a3 a4 a5 a6→p3 a1 a2 a3 a4 a5 a6→P):P:=h.elim fun a1 h=>h.elim fun a2 h=>h.elim fun a3 h=>h.elim fun a4 h=>h.elim fun a5 h=>h.elim fun a6 h=>k a1 a2 a3 a4 a5 a6 h.1 h.2.1 h.2.2
theorem xa6_4 {α1:Sort u1} {α2:Sort u2} {α3:Sort u3} {α4:Sort u4} {α5:Sort u5} {α6:Sort u6} {p1 p2 p3 p4:α1→α2→α3→α4→α5→α6→Prop} {P:Prop} (h:∃a1 a2 a3 a4 a5 a6,p1 a1 a2 a3 a4 a5 a6∧p2 a1 a2 a3 a4 a5 a6∧p3 a1 a2 a3 a4 a5 a6∧p4 a1 a2 a3 a4 a5 a6) (k:∀a1 a2 a3 a4 a5 a6,p1 a1 a2 a3 a4 a5 a6→p2 a1 a2 a3 a4 a5 a6→p3 a1 a2 a3 a4 a5 a6→p4 a1 a2 a3 a4 a5 a6→P):P:=h.elim fun a1 h=>h.elim fun a2 h=>h.elim fun a3 h=>h.elim fun a4 h=>h.elim fun a5 h=>h.elim fun a6 h=>k a1 a2 a3 a4 a5 a6 h.1 h.2.1 h.2.2.1 h.2.2.2
theorem xa6_5 {α1:Sort u1} {α2:Sort u2} {α3:Sort u3} {α4:Sort u4} {α5:Sort u5} {α6:Sort u6} {p1 p2 p3 p4 p5:α1→α2→α3→α4→α5→α6→Prop} {P:Prop} (h:∃a1 a2 a3 a4 a5 a6,p1 a1 a2 a3 a4 a5 a6∧p2 a1 a2 a3 a4 a5 a6∧p3 a1 a2 a3 a4 a5 a6∧p4 a1 a2 a3 a4 a5 a6∧p5 a1 a2 a3 a4 a5 a6) (k:∀a1 a2 a3 a4 a5 a6,p1 a1 a2 a3 a4 a5 a6→p2 a1 a2 a3 a4 a5 a6→p3 a1 a2 a3 a4 a5 a6→p4 a1 a2 a3 a4 a5 a6→p5 a1 a2 a3 a4 a5 a6→P):P:=h.elim fun a1 h=>h.elim fun a2 h=>h.elim fun a3 h=>h.elim fun a4 h=>h.elim fun a5 h=>h.elim fun a6 h=>k a1 a2 a3 a4 a5 a6 h.1 h.2.1 h.2.2.1 h.2.2.2.1 h.2.2.2.2
theorem xa6_6 {α1:Sort u1} {α2:Sort u2} {α3:Sort u3} {α4:Sort u4} {α5:Sort u5} {α6:Sort u6} {p1 p2 p3 p4 p5 p6:α1→α2→α3→α4→α5→α6→Prop} {P:Prop} (h:∃a1 a2 a3 a4 a5 a6,p1 a1 a2 a3 a4 a5 a6∧p2 a1 a2 a3 a4 a5 a6∧p3 a1 a2 a3 a4 a5 a6∧p4 a1 a2 a3 a4 a5 a6∧p5 a1 a2 a3 a4 a5 a6∧p6 a1 a2 a3 a4 a5 a6) (k:∀a1 a2 a3 a4 a5 a6,p1 a1 a2 a3 a4 a5 a6→p2 a1 a2 a3 a4 a5 a6→p3 a1 a2 a3 a4 a5 a6→p4 a1 a2 a3 a4 a5 a6→p5 a1 a2 a3 a4 a5 a6→p6 a1 a2 a3 a4 a5 a6→P):P:=h.elim fun a1 h=>h.elim fun a2 h=>h.elim fun a3 h=>h.elim fun a4 h=>h.elim fun a5 h=>h.elim fun a6 h=>k a1 a2 a3 a4 a5 a6 h.1 h.2.1 h.2.2.1 h.2.2.2.1 h.2.2.2.2.1 h.2.2.2.2.2
theorem xa6_7 {α1:Sort u1} {α2:Sort u2} {α3:Sort u3} {α4:Sort u4} {α5:Sort u5} {α6:Sort u6} {p1 p2 p3 p4 p5 p6 p7:α1→α2→α3→α4→α5→α6→Prop} {P:Prop} (h:∃a1 a2 a3 a4 a5 a6,p1 a1 a2 a3 a4 a5 a6∧p2 a1 a2 a3 a4 a5 a6∧p3 a1 a2 a3 a4 a5 a6∧p4 a1 a2 a3 a4 a5 a6∧p5 a1 a2 a3 a4 a5 a6∧p6 a1 a2 a3 a4 a5 a6∧p7 a1 a2 a3 a4 a5 a6) (k:∀a1 a2 a3 a4 a5 a6,p1 a1 a2 a3 a4 a5 a6→p2 a1 a2 a3 a4 a5 a6→p3 a1 a2 a3 a4 a5 a6→p4 a1 a2 a3 a4 a5 a6→p5 a1 a2 a3 a4 a5 a6→p6 a1 a2 a3 a4 a5 a6→p7 a1 a2 a3 a4 a5 a6→P):P:=h.elim fun a1 h=>h.elim fun a2 h=>h.elim fun a3 h=>h.elim fun a4 h=>h.elim fun a5 h=>h.elim fun a6 h=>k a1 a2 a3 a4 a5 a6 h.1 h.2.1 h.2.2.1 h.2.2.2.1 h.2.2.2.2.1 h.2.2.2.2.2.1 h.2.2.2.2.2.2
theorem xa6_8 {α1:Sort u1} {α2:Sort u2} {α3:Sort u3} {α4:Sort u4} {α5:Sort u5} {α6:Sort u6} {p1 p2 p3 p4 p5 p6 p7 p8:α1→α2→α3→α4→α5→α6→Prop} {P:Prop} (h:∃a1 a2 a3 a4 a5 a6,p1 a1 a2 a3 a4 a5 a6∧p2 a1 a2 a3 a4 a5 a6∧p3 a1 a2 a3 a4 a5 a6∧p4 a1 a2 a3 a4 a5 a6∧p5 a1 a2 a3 a4 a5 a6∧p6 a1 a2 a3 a4 a5 a6∧p7 a1 a2 a3 a4 a5 a6∧p8 a1 a2 a3 a4 a5 a6) (k:∀a1 a2 a3 a4 a5 a6,p1 a1 a2 a3 a4 a5 a6→p2 a1 a2 a3 a4 a5 a6→p3 a1 a2 a3 a4 a5 a6→p4 a1 a2 a3 a4 a5 a6→p5 a1 a2 a3 a4 a5 a6→p6 a1 a2 a3 a4 a5 a6→p7 a1 a2 a3 a4 a5 a6→p8 a1 a2 a3 a4 a5 a6→P):P:=h.elim fun a1 h=>h.elim fun a2 h=>h.elim fun a3 h=>h.elim fun a4 h=>h.elim fun a5 h=>h.elim fun a6 h=>k a1 a2 a3 a4 a5 a6 h.1 h.2.1 h.2.2.1 h.2.2.2.1 h.2.2.2.2.1 h.2.2.2.2.2.1 h.2.2.2.2.2.2.1 h.2.2.2.2.2.2.2
theorem xa6_9 {α1:Sort u1} {α2:Sort u2} {α3:Sort u3} {α4:Sort u4} {α5:Sort u5} {α6:Sort u6} {p1 p2 p3 p4 p5 p6 p7 p8 p9:α1→α2→α3→α4→α5→α6→Prop} {P:Prop} (h:∃a1 a2 a3 a4 a5 a6,p1 a1 a2 a3 a4 a5 a6∧p2 a1 a2 a3 a4 a5 a6∧p3 a1 a2 a3 a4 a5 a6∧p4 a1 a2 a3 a4 a5 a6∧p5 a1 a2 a3 a4 a5 a6∧p6 a1 a2 a3 a4 a5 a6∧p7 a1 a2 a3 a4 a5 a6∧p8 a1 a2 a3 a4 a5 a6∧p9 a1 a2 a3 a4 a5 a6) (k:∀a1 a2 a3 a4 a5 a6,p1 a1 a2 a3 a4 a5 a6→p2 a1 a2 a3 a4 a5 a6→p3 a1 a2 a3 a4 a5 a6→p4 a1 a2 a3 a4 a5 a6→p5 a1 a2 a3 a4 a5 a6→p6 a1 a2 a3 a4 a5 a6→p7 a1 a2 a3 a4 a5 a6→p8 a1 a2 a3 a4 a5 a6→p9 a1 a2 a3 a4 a5 a6→P):P:=h.elim fun a1 h=>h.elim fun a2 h=>h.elim fun a3 h=>h.elim fun a4 h=>h.elim fun a5 h=>h.elim fun a6 h=>k a1 a2 a3 a4 a5 a6 h.1 h.2.1 h.2.2.1 h.2.2.2.1 h.2.2.2.2.1 h.2.2.2.2.2.1 h.2.2.2.2.2.2.1 h.2.2.2.2.2.2.2.1 h.2.2.2.2.2.2.2.2
theorem xa6_10 {α1:Sort u1} {α2:Sort u2} {α3:Sort u3} {α4:Sort u4} {α5:Sort u5} {α6:Sort u6} {p1 p2 p3 p4 p5 p6 p7 p8 p9 p10:α1→α2→α3→α4→α5→α6→Prop} {P:Prop} (h:∃a1 a2 a3 a4 a5 a6,p1 a1 a2 a3 a4 a5 a6∧p2 a1 a2 a3 a4 a5 a6∧p3 a1 a2 a3 a4 a5 a6∧p4 a1 a2 a3 a4 a5 a6∧p5 a1 a2 a3 a4 a5 a6∧p6 a1 a2 a3 a4 a5 a6∧p7 a1 a2 a3 a4 a5 a6∧p8 a1 a2 a3 a4 a5 a6∧p9 a1 a2 a3 a4 a5 a6∧p10 a1 a2 a3 a4 a5 a6) (k:∀a1 a2 a3 a4 a5 a6,p1 a1 a2 a3 a4 a5 a6→p2 a1 a2 a3 a4 a5 a6→p3 a1 a2 a3 a4 a5 a6→p4 a1 a2 a3 a4 a5 a6→p5 a1 a2 a3 a4 a5 a6→p6 a1 a2 a3 a4 a5 a6→p7 a1 a2 a3 a4 a5 a6→p8 a1 a2 a3 a4 a5 a6→p9 a1 a2 a3 a4 a5 a6→p10 a1 a2 a3 a4 a5 a6→P):P:=h.elim fun a1 h=>h.elim fun a2 h=>h.elim fun a3 h=>h.elim fun a4 h=>h.elim fun a5 h=>h.elim fun a6 h=>k a1 a2 a3 a4 a5 a6 h.1 h.2.1 h.2.2.1 h.2.2.2.1 h.2.2.2.2.1 h.2.2.2.2.2.1 h.2.2.2.2.2.2.1 h.2.2.2.2.2.2.2.1 h.2.2.2.2.2.2.2.2.1 h.2.2.2.2.2.2.2.2.2
theorem xa7_1 {α1:Sort u1} {α2:Sort u2} {α3:Sort u3} {α4:Sort u4} {α5:Sort u5} {α6:Sort u6} {α7:Sort u7} {p1:α1→α2→α3→α4→α5→α6→α7→Prop} {P:Prop} (h:∃a1 a2 a3 a4 a5 a6 a7,p1 a1 a2 a3 a4 a5 a6 a7) (k:∀a1 a2 a3 a4 a5 a6 a7,p1 a1 a2 a3 a4 a5 a6 a7→P):P:=h.elim fun a1 h=>h.elim fun a2 h=>h.elim fun a3 h=>h.elim fun a4 h=>h.elim fun a5 h=>h.elim fun a6 h=>h.elim fun a7 h=>k a1 a2 a3 a4 a5 a6 a7 h
theorem xa7_2 {α1:Sort u1} {α2:Sort u2} {α3:Sort u3} {α4:Sort u4} {α5:Sort u5} {α6:Sort u6} {α7:Sort u7} {p1 p2:α1→α2→α3→α4→α5→α6→α7→Prop} {P:Prop} (h:∃a1 a2 a3 a4 a5 a6 a7,p1 a1 a2 a3 a4 a5 a6 a7∧p2 a1 a2 a3 a4 a5 a6 a7) (k:∀a1 a2 a3 a4 a5 a6 a7,p1 a1 a2 a3 a4 a5 a6 a7→p2 a1 a2 a3 a4 a5 a6 a7→P):P:=h.elim fun a1 h=>h.elim fun a2 h=>h.elim fun a3 h=>h.elim fun a4 h=>h.elim fun a5 h=>h.elim fun a6 h=>h.elim fun a7 h=>k a1 a2 a3 a4 a5 a6 a7 h.1 h.2
theorem xa7_3 {α1:Sort u1} {α2:Sort u2} {α3:Sort u3} {α4:Sort u4} {α5:Sort u5} {α6:Sort u6} {α7:Sort u7} {p1 p2 p3:α1→α2→α3→α4→α5→α6→α7→Prop} {P:Prop} (h:∃a1 a2 a3 a4 a5 a6 a7,p1 a1 a2 a3 a4 a5 a6 a7∧p2 a1 a2 a3 a4 a5 a6 a7∧p3 a1 a2 a3 a4 a5 a6 a7) (k:∀a1 a2 a3 a4 a5 a6 a7,p1 a1 a2 a3 a4 a5 a6 a7→p2 a1 a2 a3 a4 a5 a6 a7→p3 a1 a2 a3 a4 a5 a6 a7→P):P:=h.elim fun a1 h=>h.elim fun a2 h=>h.elim fun a3 h=>h.elim fun a4 h=>h.elim fun a5 h=>h.elim fun a6 h=>h.elim fun a7 h=>k a1 a2 a3 a4 a5 a6 a7 h.1 h.2.1 h.2.2
theorem xa7_4 {α1:Sort u1} {α2:Sort u2} {α3:Sort u3} {α4:Sort u4} {α5:Sort u5} {α6:Sort u6} {α7:Sort u7} {p1 p2 p3 p4:α1→α2→α3→α4→α5→α6→α7→Prop} {P:Prop} (h:∃a1 a2 a3 a4 a5 a6 a7,p1 a1 a2 a3 a4 a5 a6 a7∧p2 a1 a2 a3 a4 a5 a6 a7∧p3 a1 a2 a3 a4 a5 a6 a7∧p4 a1 a2 a3 a4 a5 a6 a7) (k:∀a1 a2 a3 a4 a5 a6 a7,p1 a1 a2 a3 a4 a5 a6 a7→p2 a1 a2 a3 a4 a5 a6 a7→p3 a1 a2 a3 a4 a5 a6 a7→p4 a1 a2 a3 a4 a5 a6 a7→P):P:=h.elim fun a1 h=>h.elim fun a2 h=>h.elim fun a3 h=>h.elim fun a4 h=>h.elim fun a5 h=>h.elim fun a6 h=>h.elim fun a7 h=>k a1 a2 a3 a4 a5 a6 a7 h.1 h.2.1 h.2.2.1 h.2.2.2
theorem xa7_5 {α1:Sort u1} {α2:Sort u2} {α3:Sort u3} {α4:Sort u4} {α5:Sort u5} {α6:Sort u6} {α7:Sort u7} {p1 p2 p3 p4 p5:α1→α2→α3→α4→α5→α6→α7→Prop} {P:Prop} (h:∃a1 a2 a3 a4 a5 a6 a7,p1 a1 a2 a3 a4 a5 a6 a7∧p2 a1 a2 a3 a4 a5 a6 a7∧p3 a1 a2 a3 a4 a5 a6 a7∧p4 a1 a2 a3 a4 a5 a6 a7∧p5 a1 a2 a3 a4 a5 a6 a7) (k:∀a1 a2 a3 a4 a5 a6 a7,p1 a1 a2 a3 a4 a5 a6 a7→p2 a1 a2 a3 a4 a5 a6 a7→p3 a1 a2 a3 a4 a5 a6 a7→p4 a1 a2 a3 a4 a5 a6 a7→p5 a1 a2 a3 a4 a5 a6 a7→P):P:=h.elim fun a1 h=>h.elim fun a2 h=>h.elim fun a3 h=>h.elim fun a4 h=>h.elim fun a5 h=>h.elim fun a6 h=>h.elim fun a7 h=>k a1 a2 a3 a4 a5 a6 a7 h.1 h.2.1 h.2.2.1 h.2.2.2.1 h.2.2.2.2
theorem xa7_6 {α1:Sort u1} {α2:Sort u2} {α3:Sort u3} {α4:Sort u4} {α5:Sort u5} {α6:Sort u6} {α7:Sort u7} {p1 p2 p3 p4 p5 p6:α1→α2→α3→α4→α5→α6→α7→Prop} {P:Prop} (h:∃a1 a2 a3 a4 a5 a6 a7,p1 a1 a2 a3 a4 a5 a6 a7∧p2 a1 a2 a3 a4 a5 a6 a7∧p3 a1 a2 a3 a4 a5 a6 a7∧p4 a1 a2 a3 a4 a5 a6 a7∧p5 a1 a2 a3 a4 a5 a6 a7∧p6 a1 a2 a3 a4 a5 a6 a7) (k:∀a1 a2 a3 a4 a5 a6 a7,p1 a1 a2 a3 a4 a5 a6 a7→p2 a1 a2 a3 a4 a5 a6 a7→p3 a1 a2 a3 a4 a5 a6 a7→p4 a1 a2 a3 a4 a5 a6 a7→p5 a1 a2 a3 a4 a5 a6 a7→p6 a1 a2 a3 a4 a5 a6 a7→P):P:=h.elim fun a1 h=>h.elim fun a2 h=>h.elim fun a3 h=>h.elim fun a4 h=>h.elim fun a5 h=>h.elim fun a6 h=>h.elim fun a7 h=>k a1 a2 a3 a4 a5 a6 a7 h.1 h.2.1 h.2.2.1 h.2.2.2.1 h.2.2.2.2.1 h.2.2.2.2.2
theorem xa7_7 {α1:Sort u1} {α2:Sort u2} {α3:Sort u3} {α4:Sort u4} {α5:Sort u5} {α6:Sort u6} {α7:Sort u7} {p1 p2 p3 p4 p5 p6 p7:α1→α2→α3→α4→α5→α6→α7→Prop} {P:Prop} (h:∃a1 a2 a3 a4 a5 a6 a7,p1 a1 a2 a3 a4 a5 a6 a7∧p2 a1 a2 a3 a4 a5 a6 a7∧p3 a1 a2 a3 a4 a5 a6 a7∧p4 a1 a2 a3 a4 a5 a6 a7∧p5 a1 a2 a3 a4 a5 a6 a7∧p6 a1 a2 a3 a4 a5 a6 a7∧p7 a1 a2 a3 a4 a5 a6 a7) (k:∀a1 a2 a3 a4 a5 a6 a7,p1 a1 a2 a3 a4 a5 a6 a7→p2 a1 a2 a3 a4 a5 a6 a7→p3 a1 a2 a3 a4 a5 a6 a7→p4 a1 a2 a3 a4 a5 a6 a7→p5 a1 a2 a3 a4 a5 a6 a7→p6 a1 a2 a3 a4 a5 a6 a7→p7 a1 a2 a3 a4 a5 a6 a7→P):P:=h.elim fun a1 h=>h.elim fun a2 h=>h.elim fun a3 h=>h.elim fun a4 h=>h.elim fun a5 h=>h.elim fun a6 h=>h.elim fun a7 h=>k a1 a2 a3 a4 a5 a6 a7 h.1 h.2.1 h.2.2.1 h.2.2.2.1 h.2.2.2.2.1 h.2.2.2.2.2.1 h.2.2.2.2.2.2
theorem xa7_8 {α1:Sort u1} {α2:Sort u2} {α3:Sort u3} {α4:Sort u4} {α5:Sort u5} {α6:Sort u6} {α7:Sort u7} {p1 p2 p3 p4 p5 p6 p7 p8:α1→α2→α3→α4→α5→α6→α7→Prop} {P:Prop} (h:∃a1 a2 a3 a4 a5 a6 a7,p1 a1 a2 a3 a4 a5 a6 a7∧p2 a1 a2 a3 a4 a5 a6 a7∧p3 a1 a2 a3 a4 a5 a6 a7∧p4 a1 a2 a3 a4 a5 a6 a7∧p5 a1 a2 a3 a4 a5 a6 a7∧p6 a1 a2 a3 a4 a5 a6 a7∧p7 a1 a2 a3 a4 a5 a6 a7∧p8 a1 a2 a3 a4 a5 a6 a7) (k:∀a1 a2 a3 a4 a5 a6 a7,p1 a1 a2 a3 a4 a5 a6 a7→p2 a1 a2 a3 a4 a5 a6 a7→p3 a1 a2 a3 a4 a5 a6 a7→p4 a1 a2 a3 a4 a5 a6 a7→p5 a1 a2 a3 a4 a5 a6 a7→p6 a1 a2 a3 a4 a5 a6 a7→p7 a1 a2 a3 a4 a5 a6 a7→p8 a1 a2 a3 a4 a5 a6 a7→P):P:=h.elim fun a1 h=>h.elim fun a2 h=>h.elim fun a3 h=>h.elim fun a4 h=>h.elim fun a5 h=>h.elim fun a6 h=>h.elim fun a7 h=>k a1 a2 a3 a4 a5 a6 a7 h.1 h.2.1 h.2.2.1 h.2.2.2.1 h.2.2.2.2.1 h.2.2.2.2.2.1 h.2.2.2.2.2.2.1 h.2.2.2.2.2.2.2
theorem xa7_9 {α1:Sort u1} {α2:Sort u2} {α3:Sort u3} {α4:Sort u4} {α5:Sort u5} {α6:Sort u6} {α7:Sort u7} {p1 p2 p3 p4 p5 p6 p7 p8 p9:α1→α2→α3→α4→α5→α6→α7→Prop} {P:Prop} (h:∃a1 a2 a3 a4 a5 a6 a7,p1 a1 a2 a3 a4 a5 a6 a7∧p2 a1 a2 a3 a4 a5 a6 a7∧p3 a1 a2 a3 a4 a5 a6 a7∧p4 a1 a2 a3 a4 a5 a6 a7∧p5 a1 a2 a3 a4 a5 a6 a7∧p6 a1 a2 a3 a4 a5 a6 a7∧p7 a1 a2 a3 a4 a5 a6 a7∧p8 a1 a2 a3 a4 a5 a6 a7∧p9 a1 a2 a3 a4 a5 a6 a7) (k:∀a1 a2 a3 a4 a5 a6 a7,p1 a1 a2 a3 a4 a5 a6 a7→p2 a1 a2 a3 a4 a5 a6 a7→p3 a1 a2 a3 a4 a5 a6 a7→p4 a1 a2 a3 a4 a5 a6 a7→p5 a1 a2 a3 a4 a5 a6 a7→p6 a1 a2 a3 a4 a5 a6 a7→p7 a1 a2 a3 a4 a5 a6 a7→p8 a1 a2 a3 a4 a5 a6 a7→p9 a1 a2 a3 a4 a5 a6 a7→P):P:=h.elim fun a1 h=>h.elim fun a2 h=>h.elim fun a3 h=>h.elim fun a4 h=>h.elim fun a5 h=>h.elim fun a6 h=>h.elim fun a7 h=>k a1 a2 a3 a4 a5 a6 a7 h.1 h.2.1 h.2.2.1 h.2.2.2.1 h.2.2.2.2.1 h.2.2.2.2.2.1 h.2.2.2.2.2.2.1 h.2.2.2.2.2.2.2.1 h.2.2.2.2.2.2.2.2
theorem xa8_1 {α1:Sort u1} {α2:Sort u2} {α3:Sort u3} {α4:Sort u4} {α5:Sort u5} {α6:Sort u6} {α7:Sort u7} {α8:Sort u8} {p1:α1→α2→α3→α4→α5→α6→α7→α8→Prop} {P:Prop} (h:∃a1 a2 a3 a4 a5 a6 a7 a8,p1 a1 a2 a3 a4 a5 a6 a7 a8) (k:∀a1 a2 a3 a4 a5 a6 a7 a8,p1 a1 a2 a3 a4 a5 a6 a7 a8→P):P:=h.elim fun a1 h=>h.elim fun a2 h=>h.elim fun a3 h=>h.elim fun a4 h=>h.elim fun a5 h=>h.elim fun a6 h=>h.elim fun a7 h=>h.elim fun a8 h=>k a1 a2 a3 a4 a5 a6 a7 a8 h
theorem xa8_2 {α1:Sort u1} {α2:Sort u2} {α3:Sort u3} {α4:Sort u4} {α5:Sort u5} {α6:Sort u6} {α7:Sort u7} {α8:Sort u8} {p1 p2:α1→α2→α3→α4→α5→α6→α7→α8→Prop} {P:Prop} (h:∃a1 a2 a3 a4 a5 a6 a7 a8,p1 a1 a2 a3 a4 a5 a6 a7 a8∧p2 a1 a2 a3 a4 a5 a6 a7 a8) (k:∀a1 a2 a3 a4 a5 a6 a7 a8,p1 a1 a2 a3 a4 a5 a6 a7 a8→p2 a1 a2 a3 a4 a5 a6 a7 a8→P):P:=h.elim fun a1 h=>h.elim fun a2 h=>h.elim fun a3 h=>h.elim fun a4 h=>h.elim fun a5 h=>h.elim fun a6 h=>h.elim fun a7 h=>h.elim fun a8 h=>k a1 a2 a3 a4 a5 a6 a7 a8 h.1 h.2
theorem xa8_3 {α1:Sort u1} {α2:Sort u2} {α3:Sort u3} {α4:Sort u4} {α5:Sort u5} {α6:Sort u6} {α7:Sort u7} {α8:Sort u8} {p1 p2 p3:α1→α2→α3→α4→α5→α6→α7→α8→Prop} {P:Prop} (h:∃a1 a2 a3 a4 a5 a6 a7 a8,p1 a1 a2 a3 a4 a5 a6 a7 a8∧p2 a1 a2 a3 a4 a5 a6 a7 a8∧p3 a1 a2 a3 a4 a5 a6 a7 a8) (k:∀a1 a2 a3 a4 a5 a6 a7 a8,p1 a1 a2 a3 a4 a5 a6 a7 a8→p2 a1 a2 a3 a4 a5 a6 a7 a8→p3 a1 a2 a3 a4 a5 a6 a7 a8→P):P:=h.elim fun a1 h=>h.elim fun a2 h=>h.elim fun a3 h=>h.elim fun a4 h=>h.elim fun a5 h=>h.elim fun a6 h=>h.elim fun a7 h=>h.elim fun a8 h=>k a1 a2 a3 a4 a5 a6 a7 a8 h.1 h.2.1 h.2.2
theorem xa8_4 {α1:Sort u1} {α2:Sort u2} {α3:Sort u3} {α4:Sort u4} {α5:Sort u5} {α6:Sort u6} {α7:Sort u7} {α8:Sort u8} {p1 p2 p3 p4:α1→α2→α3→α4→α5→α6→α7→α8→Prop} {P:Prop} (h:∃a1 a2 a3 a4 a5 a6 a7 a8,p1 a1 a2 a3 a4 a5 a6 a7 a8∧p2 a1 a2 a3 a4 a5 a6 a7 a8∧p3 a1 a2 a3 a4 a5 a6 a7 a8∧p4 a1 a2 a3 a4 a5 a6 a7 a8) (k:∀a1 a2 a3 a4 a5 a6 a7 a8,p1 a1 a2 a3 a4 a5 a6 a7 a8→p2 a1 a2 a3 a4 a5 a6 a7 a8→p3 a1 a2 a3 a4 a5 a6 a7 a8→p4 a1 a2 a3 a4 a5 a6 a7 a8→P):P:=h.elim fun a1 h=>h.elim fun a2 h=>h.elim fun a3 h=>h.elim fun a4 h=>h.elim fun a5 h=>h.elim fun a6 h=>h.elim fun a7 h=>h.elim fun a8 h=>k a1 a2 a3 a4 a5 a6 a7 a8 h.1 h.2.1 h.2.2.1 h.2.2.2
theorem xa8_5 {α1:Sort u1} {α2:Sort u2} {α3:Sort u3} {α4:Sort u4} {α5:Sort u5} {α6:Sort u6} {α7:Sort u7} {α8:Sort u8} {p1 p2 p3 p4 p5:α1→α2→α3→α4→α5→α6→α7→α8→Prop} {P:Prop} (h:∃a1 a2 a3 a4 a5 a6 a7 a8,p1 a1 a2 a3 a4 a5 a6 a7 a8∧p2 a1 a2 a3 a4 a5 a6 a7 a8∧p3 a1 a2 a3 a4 a5 a6 a7 a8∧p4 a1 a2 a3 a4 a5 a6 a7 a8∧p5 a1 a2 a3 a4 a5 a6 a7 a8) (k:∀a1 a2 a3 a4 a5 a6 a7 a8,p1 a1 a2 a3 a4 a5 a6 a7 a8→p2 a1 a2 a3 a4 a5 a6 a7 a8→p3 a1 a2 a3 a4 a5 a6 a7 a8→p4 a1 a2 a3 a4 a5 a6 a7 a8→p5 a1 a2 a3 a4 a5 a6 a7 a8→P):P:=h.elim fun a1 h=>h.elim fun a2 h=>h.elim fun a3 h=>h.elim fun a4 h=>h.elim fun a5 h=>h.elim fun a6 h=>h.elim fun a7 h=>h.elim fun a8 h=>k a1 a2 a3 a4 a5 a6 a7 a8 h.1 h.2.1 h.2.2.1 h.2.2.2.1 h.2.2.2.2
theorem xa8_6 {α1:Sort u1} {α2:Sort u2} {α3:Sort u3} {α4:Sort u4} {α5:Sort u5} {α6:Sort u6} {α7:Sort u7} {α8:Sort u8} {p1 p2 p3 p4 p5 p6:α1→α2→α3→α4→α5→α6→α7→α8→Prop} {P:Prop} (h:∃a1 a2 a3 a4 a5 a6 a7 a8,p1 a1 a2 a3 a4 a5 a6 a7 a8∧p2 a1 a2 a3 a4 a5 a6 a7 a8∧p3 a1 a2 a3 a4 a5 a6 a7 a8∧p4 a1 a2 a3 a4 a5 a6 a7 a8∧p5 a1 a2 a3 a4 a5 a6 a7 a8∧p6 a1 a2 a3 a4 a5 a6 a7 a8) (k:∀a1 a2 a3 a4 a5 a6 a7 a8,p1 a1 a2 a3 a4 a5 a6 a7 a8→p2 a1 a2 a3 a4 a5 a6 a7 a8→p3 a1 a2 a3 a4 a5 a6 a7 a8→p4 a1 a2 a3 a4 a5 a6 a7 a8→p5 a1 a2 a3 a4 a5 a6 a7 a8→p6 a1 a2 a3 a4 a5 a6 a7 a8→P):P:=h.elim fun a1 h=>h.elim fun a2 h=>h.elim fun a3 h=>h.elim fun a4 h=>h.elim fun a5 h=>h.elim fun a6 h=>h.elim fun a7 h=>h.elim fun a8 h=>k a1 a2 a3 a4 a5 a6 a7 a8 h.1 h.2.1 h.2.2.1 h.2.2.2.1 h.2.2.2.2.1 h.2.2.2.2.2
theorem xa8_7 {α1:Sort u1} {α2:Sort u2} {α3:Sort u3} {α4:Sort u4} {α5:Sort u5} {α6:Sort u6} {α7:Sort u7} {α8:Sort u8} {p1 p2 p3 p4 p5 p6 p7:α1→α2→α3→α4→α5→α6→α7→α8→Prop} {P:Prop} (h:∃a1 a2 a3 a4 a5 a6 a7 a8,p1 a1 a2 a3 a4 a5 a6 a7 a8∧p2 a1 a2 a3 a4 a5 a6 a7 a8∧p3 a1 a2 a3 a4 a5 a6 a7 a8∧p4 a1 a2 a3 a4 a5 a6 a7 a8∧p5 a1 a2 a3 a4 a5 a6 a7 a8∧p6 a1 a2 a3 a4 a5 a6 a7 a8∧p7 a1 a2 a3 a4 a5 a6 a7 a8) (k:∀a1 a2 a3 a4 a5 a6 a7 a8,p1 a1 a2 a3 a4 a5 a6 a7 a8→p2 a1 a2 a3 a4 a5 a6 a7 a8→p3 a1 a2 a3 a4 a5 a6 a7 a8→p4 a1 a2 a3 a4 a5 a6 a7 a8→p5 a1 a2 a3 a4 a5 a6 a7 a8→p6 a1 a2 a3 a4 a5 a6 a7 a8→p7 a1 a2 a3 a4 a5 a6 a7 a8→P):P:=h.elim fun a1 h=>h.elim fun a2 h=>h.elim fun a3 h=>h.elim fun a4 h=>h.elim fun a5 h=>h.elim fun a6 h=>h.elim fun a7 h=>h.elim fun a8 h=>k a1 a2 a3 a4 a5 a6 a7 a8 h.1 h.2.1 h.2.2.1 h.2.2.2.1 h.2.2.2.2.1 h.2.2.2.2.2.1 h.2.2.2.2.2.2
theorem xa8_8 {α1:Sort u1} {α2:Sort u2} {α3:Sort u3} {α4:Sort u4} {α5:Sort u5} {α6:Sort u6} {α7:Sort u7} {α8:Sort u8} {p1 p2 p3 p4 p5 p6 p7 p8:α1→α2→α3→α4→α5→α6→α7→α8→Prop} {P:Prop} (h:∃a1 a2 a3 a4 a5 a6 a7 a8,p1 a1 a2 a3 a4 a5 a6 a7 a8∧p2 a1 a2 a3 a4 a5 a6 a7 a8∧p3 a1 a2 a3 a4 a5 a6 a7 a8∧p4 a1 a2 a3 a4 a5 a6 a7 a8∧p5 a1 a2 a3 a4 a5 a6 a7 a8∧p6 a1 a2 a3 a4 a5 a6 a7 a8∧p7 a1 a2 a3 a4 a5 a6 a7 a8∧p8 a1 a2 a3 a4 a5 a6 a7 a8) (k:∀a1 a2 a3 a4 a5 a6 a7 a8,p1 a1 a2 a3 a4 a5 a6 a7 a8→p2 a1 a2 a3 a4 a5 a6 a7 a8→p3 a1 a2 a3 a4 a5 a6 a7 a8→p4 a1 a2 a3 a4 a5 a6 a7 a8→p5 a1 a2 a3 a4 a5 a6 a7 a8→p6 a1 a2 a3 a4 a5 a6 a7 a8→p7 a1 a2 a3 a4 a5 a6 a7 a8→p8 a1 a2 a3 a4 a5 a6 a7 a8→P):P:=h.elim fun a1 h=>h.elim fun a2 h=>h.elim fun a3 h=>h.elim fun a4 h=>h.elim fun a5 h=>h.elim fun a6 h=>h.elim fun a7 h=>h.elim fun a8 h=>k a1 a2 a3 a4 a5 a6 a7 a8 h.1 h.2.1 h.2.2.1 h.2.2.2.1 h.2.2.2.2.1 h.2.2.2.2.2.1 h.2.2.2.2.2.2.1 h.2.2.2.2.2.2.2
theorem xa9_1 {α1:Sort u1} {α2:Sort u2} {α3:Sort u3} {α4:Sort u4} {α5:Sort u5} {α6:Sort u6} {α7:Sort u7} {α8:Sort u8} {α9:Sort u9} {p1:α1→α2→α3→α4→α5→α6→α7→α8→α9→Prop} {P:Prop} (h:∃a1 a2 a3 a4 a5 a6 a7 a8 a9,p1 a1 a2 a3 a4 a5 a6 a7 a8 a9) (k:∀a1 a2 a3 a4 a5 a6 a7 a8 a9,p1 a1 a2 a3 a4 a5 a6 a7 a8 a9→P):P:=h.elim fun a1 h=>h.elim fun a2 h=>h.elim fun a3 h=>h.elim fun a4 h=>h.elim fun a5 h=>h.elim fun a6 h=>h.elim fun a7 h=>h.elim fun a8 h=>h.elim fun a9 h=>k a1 a2 a3 a4 a5 a6 a7 a8 a9 h
theorem xa9_2 {α1:Sort u1} {α2:Sort u2} {α3:Sort u3} {α4:Sort u4} {α5:Sort u5} {α6:Sort u6} {α7:Sort u7} {α8:Sort u8} {α9:Sort u9} {p1 p2:α1→α2→α3→α4→α5→α6→α7→α8→α9→Prop} {P:Prop} (h:∃a1 a2 a3 a4 a5 a6 a7 a8 a9,p1 a1 a2 a3 a4 a5 a6 a7 a8 a9∧p2 a1 a2 a3 a4 a5 a6 a7 a8 a9) (k:∀a1 a2 a3 a4 a5 a6 a7 a8 a9,p1 a1 a2 a3 a4 a5 a6 a7 a8 a9→p2 a1 a2 a3 a4 a5 a6 a7 a8 a9→P):P:=h.elim fun a1 h=>h.elim fun a2 h=>h.elim fun a3 h=>h.elim fun a4 h=>h.elim fun a5 h=>h.elim fun a6 h=>h.elim fun a7 h=>h.elim fun a8 h=>h.elim fun a9 h=>k a1 a2 a3 a4 a5 a6 a7 a8 a9 h.1 h.2
theorem xa9_3 {α1:Sort u1} {α2:Sort u2} {α3:Sort u3} {α4:Sort u4} {α5:Sort u5} {α6:Sort u6} {α7:Sort u7} {α8:Sort u8} {α9:Sort u9} {p1 p2 p3:α1→α2→α3→α4→α5→α6→α7→α8→α9→Prop} {P:Prop} (h:∃a1 a2 a3 a4 a5 a6 a7 a8 a9,p1 a1 a2 a3 a4 a5 a6 a7 a8 a9∧p2 a1 a2 a3 a4 a5 a6 a7 a8 a9∧p3 a1 a2 a3 a4 a5 a6 a7 a8 a9) (k:∀a1 a2 a3 a4 a5 a6 a7 a8 a9,p1 a1 a2 a3 a4 a5 a6 a7 a8 a9→p2 a1 a2 a3 a4 a5 a6 a7 a8 a9→p3 a1 a2 a3 a4 a5 a6 a7 a8 a9→P):P:=h.elim fun a1 h=>h.elim fun a2 h=>h.elim fun a3 h=>h.elim fun a4 h=>h.elim fun a5 h=>h.elim fun a6 h=>h.elim fun a7 h=>h.elim fun a8 h=>h.elim fun a9 h=>k a1 a2 a3 a4 a5 a6 a7 a8 a9 h.1 h.2.1 h.2.2
theorem xa9_4 {α1:Sort u1} {α2:Sort u2} {α3:Sort u3} {α4:Sort u4} {α5:Sort u5} {α6:Sort u6} {α7:Sort u7} {α8:Sort u8} {α9:Sort u9} {p1 p2 p3 p4:α1→α2→α3→α4→α5→α6→α7→α8→α9→Prop} {P:Prop} (h:∃a1 a2 a3 a4 a5 a6 a7 a8 a9,p1 a1 a2 a3 a4 a5 a6 a7 a8 a9∧p2 a1 a2 a3 a4 a5 a6 a7 a8 a9∧p3 a1 a2 a3 a4 a5 a6 a7 a8 a9∧p4 a1 a2 a3 a4 a5 a6 a7 a8 a9) (k:∀a1 a2 a3 a4 a5 a6 a7 a8 a9,p1 a1 a2 a3 a4 a5 a6 a7 a8 a9→p2 a1 a2 a3 a4 a5 a6 a7 a8 a9→p3 a1 a2 a3 a4 a5 a6 a7 a8 a9→p4 a1 a2 a3 a4 a5 a6 a7 a8 a9→P):P:=h.elim fun a1 h=>h.elim fun a2 h=>h.elim fun a3 h=>h.elim fun a4 h=>h.elim fun a5 h=>h.elim fun a6 h=>h.elim fun a7 h=>h.elim fun a8 h=>h.elim fun a9 h=>k a1 a2 a3 a4 a5 a6 a7 a8 a9 h.1 h.2.1 h.2.2.1 h.2.2.2
theorem xa9_5 {α1:Sort u1} {α2:Sort u2} {α3:Sort u3} {α4:Sort u4} {α5:Sort u5} {α6:Sort u6} {α7:Sort u7} {α8:Sort u8} {α9:Sort u9} {p1 p2 p3 p4 p5:α1→α2→α3→α4→α5→α6→α7→α8→α9→Prop} {P:Prop} (h:∃a1 a2 a3 a4 a5 a6 a7 a8 a9,p1 a1 a2 a3 a4 a5 a6 a7 a8 a9∧p2 a1 a2 a3 a4 a5 a6 a7 a8 a9∧p3 a1 a2 a3 a4 a5 a6 a7 a8 a9∧p4 a1 a2 a3 a4 a5 a6 a7 a8 a9∧p5 a1 a2 a3 a4 a5 a6 a7 a8 a9) (k:∀a1 a2 a3 a4 a5 a6 a7 a8 a9,p1 a1 a2 a3 a4 a5 a6 a7 a8 a9→p2 a1 a2 a3 a4 a5 a6 a7 a8 a9→p3 a1 a2 a3 a4 a5 a6 a7 a8 a9→p4 a1 a2 a3 a4 a5 a6 a7 a8 a9→p5 a1 a2 a3 a4 a5 a6 a7 a8 a9→P):P:=h.elim fun a1 h=>h.elim fun a2 h=>h.elim fun a3 h=>h.elim fun a4 h=>h.elim fun a5 h=>h.elim fun a6 h=>h.elim fun a7 h=>h.elim fun a8 h=>h.elim fun a9 h=>k a1 a2 a3 a4 a5 a6 a7 a8 a9 h.1 h.2.1 h.2.2.1 h.2.2.2.1 h.2.2.2.2
theorem xa9_6 {α1:Sort u1} {α2:Sort u2} {α3:Sort u3} {α4:Sort u4} {α5:Sort u5} {α6:Sort u6} {α7:Sort u7} {α8:Sort u8} {α9:Sort u9} {p1 p2 p3 p4 p5 p6:α1→α2→α3→α4→α5→α6→α7→α8→α9→Prop} {P:Prop} (h:∃a1 a2 a3 a4 a5 a6 a7 a8 a9,p1 a1 a2 a3 a4 a5 a6 a7 a8 a9∧p2 a1 a2 a3 a4 a5 a6 a7 a8 a9∧p3 a1 a2 a3 a4 a5 a6 a7 a8 a9∧p4 a1 a2 a3 a4 a5 a6 a7 a8 a9∧p5 a1 a2 a3 a4 a5 a6 a7 a8 a9∧p6 a1 a2 a3 a4 a5 a6 a7 a8 a9) (k:∀a1 a2 a3 a4 a5 a6 a7 a8 a9,p1 a1 a2 a3 a4 a5 a6 a7 a8 a9→p2 a1 a2 a3 a4 a5 a6 a7 a8 a9→p3 a1 a2 a3 a4 a5 a6 a7 a8 a9→p4 a1 a2 a3 a4 a5 a6 a7 a8 a9→p5 a1 a2 a3 a4 a5 a6 a7 a8 a9→p6 a1 a2 a3 a4 a5 a6 a7 a8 a9→P):P:=h.elim fun a1 h=>h.elim fun a2 h=>h.elim fun a3 h=>h.elim fun a4 h=>h.elim fun a5 h=>h.elim fun a6 h=>h.elim fun a7 h=>h.elim fun a8 h=>h.elim fun a9 h=>k a1 a2 a3 a4 a5 a6 a7 a8 a9 h.1 h.2.1 h.2.2.1 h.2.2.2.1 h.2.2.2.2.1 h.2.2.2.2.2
theorem xa9_7 {α1:Sort u1} {α2:Sort u2} {α3:Sort u3} {α4:Sort u4} {α5:Sort u5} {α6:Sort u6} {α7:Sort u7} {α8:Sort u8} {α9:Sort u9} {p1 p2 p3 p4 p5 p6 p7:α1→α2→α3→α4→α5→α6→α7→α8→α9→Prop} {P:Prop} (h:∃a1 a2 a3 a4 a5 a6 a7 a8 a9,p1 a1 a2 a3 a4 a5 a6 a7 a8 a9∧p2 a1 a2 a3 a4 a5 a6 a7 a8 a9∧p3 a1 a2 a3 a4 a5 a6 a7 a8 a9∧p4 a1 a2 a3 a4 a5 a6 a7 a8 a9∧p5 a1 a2 a3 a4 a5 a6 a7 a8 a9∧p6 a1 a2 a3 a4 a5 a6 a7 a8 a9∧p7 a1 a2 a3 a4 a5 a6 a7 a8 a9) (k:∀a1 a2 a3 a4 a5 a6 a7 a8 a9,p1 a1 a2 a3 a4 a5 a6 a7 a8 a9→p2 a1 a2 a3 a4 a5 a6 a7 a8 a9→p3 a1 a2 a3 a4 a5 a6 a7 a8 a9→p4 a1 a2 a3 a4 a5 a6 a7 a8 a9→p5 a1 a2 a3 a4 a5 a6 a7 a8 a9→p6 a1 a2 a3 a4 a5 a6 a7 a8 a9→p7 a1 a2 a3 a4 a5 a6 a7 a8 a9→P):P:=h.elim fun a1 h=>h.elim fun a2 h=>h.elim fun a3 h=>h.elim fun a4 h=>h.elim fun a5 h=>h.elim fun a6 h=>h.elim fun a7 h=>h.elim fun a8 h=>h.elim fun a9 h=>k a1 a2 a3 a4 a5 a6 a7 a8 a9 h.1 h.2.1 h.2.2.1 h.2.2.2.1 h.2.2.2.2.1 h.2.2.2.2.2.1 h.2.2.2.2.2.2
theorem Gh {a m r:Nat} (h:a+m<r):a<r:=Nat.lt_of_le_of_lt (Nat.le_add_right a m) h
theorem LR {a b:Nat} (h:a<b):a≤b:=Nat.le_of_lt h
theorem P0 {a b:Nat} (h:a<b):a+1≤b:=h
theorem Q8 {a b:Nat} (h:a≤b):a<b+1:=Nat.lt_succ_of_le h
theorem Qv {a b:Nat} (h:a<b):1≤b:=Nat.lt_of_le_of_lt (Nat.zero_le a) h
theorem BX {a b c:Nat} (h:a≤b) (k:b≤c):a≤c:=Nat.le_trans h k
theorem QB {a b c:Nat} (h:a=b) (k:b≤c):a≤c:=h▸k
theorem QA {a b c:Nat} (h:a<b) (k:b≤c):a<c:=Nat.lt_of_lt_of_le h k
theorem Qk {a b c:Nat} (h:a≤b) (k:b<c):a<c:=Nat.lt_of_le_of_lt h k
theorem Qj {a b c:Nat} (h:a<b) (k:b≤c):a≤c:=Nat.le_of_lt (Nat.lt_of_lt_of_le h k)
theorem LS {a m k r:Nat} (h:a+m<r) (d:k≤m):a+k<r:=Nat.lt_of_le_of_lt (Nat.add_le_add_left d a) h
theorem JY {a m k r:Nat} (h:a+m<r) (d:k+1≤m):a+k+1<r:=Nat.lt_of_le_of_lt (Nat.add_le_add_left d a) h
theorem Q9 {a b c:Nat} (h:a=b) (k:b≠c):a≠c:=h▸k
theorem C8 {a b c:Nat} (h:a≤b) (k:b≤c):a≤c:=Nat.le_trans h k
theorem Ql {a b c:Nat} (h:a<b) (k:b≤c):a<c:=Nat.lt_of_lt_of_le h k
theorem Qm {a b c:Nat} (h:a≤b) (k:b<c):a<c:=Nat.lt_of_le_of_lt h k
theorem Og {a b c:Nat} (h:a<b) (k:b<c):a<c:=Nat.lt_trans h k
theorem QC {a b:Nat} (h:a≤b+1) (k:¬a=b+1):a≤b:=Nat.le_of_lt_succ (Nat.lt_of_le_of_ne h k)
theorem Ak {α:Type} {a:α} {P:Prop} (h:none=some a):P:=nomatch h
theorem Ap {α:Type} {a:α} {P:Prop} (h:some a=none):P:=nomatch h
theorem CZ {P:Prop} (h:true=false):P:=nomatch h
theorem Bu {P:Prop} (h:false=true):P:=nomatch h
section
noncomputable abbrev FH:=Addr→Option Obj
noncomputable def AG (F F':FH):Prop:=∀b o,F b=some o→F' b=some o
theorem AG.refl (F:FH):AG F F:=fun zu zu e=>e
theorem AG.trans {F F' F'':FH} (x:AG F F') (y:AG F' F''):AG F F'':=fun b o e=>y b o (x b o e)
inductive AV where
 |none
 |bool (b:Bool)
 |int (i:Int)
 |str (s:Str)
 |bytes (b:Array UInt8)
 |tup (l:List AV)
 |lst (l:List AV)
 |ref (a:Addr)
 |val (v:Value)
 deriving Inhabited
mutual
inductive VR (F:FH):AV→Value→Prop
 |none:VR F .none .none
 |bool (b):VR F (.bool b) (.bool b)
 |int (i t):VR F (.int i) (.int i t)
 |str (s t):VR F (.str s) (.str s t)
 |bytes (b t):VR F (.bytes b) (.bytes b t)
 |tup {l vs a o n}:F a=some o→o.cls=.type "tuple"→o.data=.seq vs.toArray n→VRs F l vs→VR F (.tup l) (.ref a)
 |lst {l vs a o n}:F a=some o→o.cls=.type "list"→o.data=.seq vs.toArray n→VRs F l vs→VR F (.lst l) (.ref a)
 |ref (a):VR F (.ref a) (.ref a)
 |val (v):VR F (.val v) v
inductive VRs (F:FH):List AV→List Value→Prop
 |nil:VRs F [] []
 |cons {x xs v vs}:VR F x v→VRs F xs vs→VRs F (x::xs) (v::vs)
end
theorem VR.mono {F F':FH} (e:AG F F') {x:AV} {v:Value} (h:VR F x v):VR F' x v:=
 VR.rec (motive_1:=fun x v zu=>VR F' x v) (motive_2:=fun x v zu=>VRs F' x v) .none (fun b=>.bool b) (fun i t=>.int i t) (fun s t=>.str s t) (fun b t=>.bytes b t) (fun a b c zu d=>.tup (e _ _ a) b c d) (fun a b c zu d=>.lst (e _ _ a) b c d) (fun a=>.ref a) (fun v=>.val v) .nil (fun zu zu a b=>.cons a b) h
theorem VRs.ind {F:FH} {M:List AV→List Value→Prop} (hn:M [] []) (hc:∀{x xs v vs},VR F x v→VRs F xs vs→M xs vs→M (x::xs) (v::vs)) {xs:List AV} {vs:List Value} (h:VRs F xs vs):M xs vs:=
 VRs.rec (motive_1:=fun zu zu zu=>True) (motive_2:=fun xs vs zu=>M xs vs) trivial (fun zu=>trivial) (fun zu zu=>trivial) (fun zu zu=>trivial) (fun zu zu=>trivial) (fun zu zu zu zu zu=>trivial) (fun zu zu zu zu zu=>trivial) (fun zu=>trivial) (fun zu=>trivial) hn (fun a b zu ih=>hc a b ih) h
theorem VRs.mono {F F':FH} (e:AG F F') {x:List AV} {v:List Value} (h:VRs F x v):VRs F' x v:=VRs.ind (M:=fun x v=>VRs F' x v) .nil (fun a zu ih=>.cons (a.mono e) ih) h
noncomputable def VR.Sh (F:FH) (v:Value):AV→Prop
 |.none=>v=.none
 |.bool b=>v=.bool b
 |.int i=>∃t,v=.int i t
 |.str x=>∃t,v=.str x t
 |.bytes b=>∃t,v=.bytes b t
 |.tup l=>∃a o vs n,v=.ref a∧F a=some o∧o.cls=.type "tuple"∧o.data=.seq (List.toArray vs) n∧VRs F l vs
 |.lst l=>∃a o vs n,v=.ref a∧F a=some o∧o.cls=.type "list"∧o.data=.seq (List.toArray vs) n∧VRs F l vs
 |.ref a=>v=.ref a
 |.val u=>v=u
theorem VR.inv {F:FH} {x:AV} {v:Value} (h:VR F x v):VR.Sh F v x:=
 VR.casesOn (motive_1:=fun x v zu=>VR.Sh F v x) h rfl (fun b=>rfl) (fun i t=>⟨t,rfl⟩) (fun i t=>⟨t,rfl⟩) (fun i t=>⟨t,rfl⟩) (fun a b c d=>⟨_,_,_,_,rfl,a,b,c,d⟩) (fun a b c d=>⟨_,_,_,_,rfl,a,b,c,d⟩) (fun a=>rfl) (fun v=>rfl)
noncomputable def VRs.Sh (F:FH) (vs:List Value):List AV→Prop
 |[]=>vs=[]
 |x::xs=>∃v us,vs=v::us∧VR F x v∧VRs F xs us
theorem VRs.invS {F:FH} {x:List AV} {v:List Value} (h:VRs F x v):VRs.Sh F v x:=
 VRs.casesOn (motive_2:=fun x v zu=>VRs.Sh F v x) h rfl (fun a b=>⟨_,_,rfl,a,b⟩)
theorem VR.noneI {F:FH} {v:Value} (h:VR F .none v):v=.none:=h.inv
theorem VR.boolI {F:FH} {v:Value} {b:Bool} (h:VR F (.bool b) v):v=.bool b:=h.inv
theorem VR.refI {F:FH} {v:Value} {a:Addr} (h:VR F (.ref a) v):v=.ref a:=h.inv
theorem VR.valI {F:FH} {v u:Value} (h:VR F (.val u) v):v=u:=h.inv
theorem VR.intI {F:FH} {v:Value} {i:Int} (h:VR F (.int i) v):∃t,v=.int i t:=h.inv
theorem VR.strI {F:FH} {v:Value} {i:Str} (h:VR F (.str i) v):∃t,v=.str i t:=h.inv
theorem VR.bytesI {F:FH} {v:Value} {i:Array UInt8} (h:VR F (.bytes i) v):∃t,v=.bytes i t:=h.inv
theorem VR.lstInv {F:FH} {l:List AV} {v:Value} (h:VR F (.lst l) v):∃a o vs n,v=.ref a∧F a=some o∧o.cls=.type "list"∧o.data=.seq (List.toArray vs) n∧VRs F l vs:=h.inv
theorem VR.tupInv {F:FH} {l:List AV} {v:Value} (h:VR F (.tup l) v):∃a o vs n,v=.ref a∧F a=some o∧o.cls=.type "tuple"∧o.data=.seq (List.toArray vs) n∧VRs F l vs:=h.inv
theorem VR.tupC {F:FH} {l:List AV} {v:Value} {P:Prop} (h:VR F (.tup l) v) (k:∀(vs:List Value) (a:Addr) (o:Obj) (n:Nat) (zo:v=.ref a) (za:F a=some o) (zb:o.cls=.type "tuple") (zc:o.data=.seq vs.toArray n) (zd:VRs F l vs),P):P:=by
 refine xa4_5 h.inv ?_;intro a o vs n q1 q2 q3 q4 q5;exact k vs a o n q1 q2 q3 q4 q5
theorem VR.lstC {F:FH} {l:List AV} {v:Value} {P:Prop} (h:VR F (.lst l) v) (k:∀(vs:List Value) (a:Addr) (o:Obj) (n:Nat) (zo:v=.ref a) (za:F a=some o) (zb:o.cls=.type "list") (zc:o.data=.seq vs.toArray n) (zd:VRs F l vs),P):P:=by
 refine xa4_5 h.inv ?_;intro a o vs n q1 q2 q3 q4 q5;exact k vs a o n q1 q2 q3 q4 q5
theorem VRs.nilI {F:FH} {vs:List Value} (h:VRs F [] vs):vs=[]:=h.invS
theorem VRs.consC {F:FH} {x:AV} {xs:List AV} {vs:List Value} {P:Prop} (h:VRs F (x::xs) vs) (k:∀(v:Value) (us:List Value) (zo:vs=v::us) (za:VR F x v) (zb:VRs F xs us),P):P:=by
 refine xa2_3 h.invS ?_;intro v us q1 q2 q3;exact k v us q1 q2 q3
theorem VRs.length {F:FH} {xs:List AV} {vs:List Value} (h:VRs F xs vs):vs.length=xs.length:=VRs.ind (M:=fun xs vs=>vs.length=xs.length) rfl (fun zu zu ih=>congrArg (·+1) ih) h
theorem VRs.get {F:FH} {xs:List AV} {vs:List Value} {i:Nat} {x:AV} (h:VRs F xs vs) (e:xs[i]? = some x):∃v,vs[i]? = some v∧VR F x v:=
 VRs.ind (M:=fun xs vs=>∀i,xs[i]? = some x→∃v,vs[i]? = some v∧VR F x v) (fun zu e=>Ak e) (fun {y ys v vs} a zu ih i=>Nat.casesOn (motive:=fun i=>(y::ys)[i]? = some x→∃u,(v::vs)[i]? = some u∧VR F x u) i (fun e=>⟨v,rfl,Option.some.inj e▸a⟩) (fun i e=>ih i e)) h i e
theorem VRs.append {F:FH} {xs ys:List AV} {vs us:List Value} (h:VRs F xs vs) (k:VRs F ys us):VRs F (xs++ys) (vs++us):=VRs.ind (M:=fun xs vs=>VRs F (xs++ys) (vs++us)) k (fun a zu ih=>.cons a ih) h
theorem VRs.none {F:FH} {xs vs} {i:Nat} (h:VRs F xs vs) (e:xs[i]? = Option.none):vs[i]? = Option.none:=by
 rw [List.getElem?_eq_none_iff] at e ⊢
 rw [h.length];exact e
theorem VRs.take {F:FH} {xs:List AV} {vs:List Value} (n:Nat) (h:VRs F xs vs):VRs F (xs.take n) (vs.take n):=
 VRs.ind (M:=fun xs vs=>∀n,VRs F (xs.take n) (vs.take n)) (fun n=>by rw [List.take_nil,List.take_nil];exact .nil) (fun {y ys v vs} a zu ih n=>Nat.casesOn (motive:=fun n=>VRs F ((y::ys).take n) ((v::vs).take n)) n .nil (fun n=>.cons a (ih n))) h n
theorem VRs.drop {F:FH} {xs:List AV} {vs:List Value} (n:Nat) (h:VRs F xs vs):VRs F (xs.drop n) (vs.drop n):=
 VRs.ind (M:=fun xs vs=>∀n,VRs F (xs.drop n) (vs.drop n)) (fun n=>by rw [List.drop_nil,List.drop_nil];exact .nil) (fun {y ys v vs} a b ih n=>Nat.casesOn (motive:=fun n=>VRs F ((y::ys).drop n) ((v::vs).drop n)) n (.cons a b) (fun n=>ih n)) h n
inductive Pc (F:FH):Option AV→Option Value→Prop
 |none:Pc F Option.none Option.none
 |some {x v}:VR F x v→Pc F (Option.some x) (Option.some v)
inductive B8 (F:FH):List (Option AV)→List (Option Value)→Prop
 |nil:B8 F [] []
 |cons {x xs v vs}:Pc F x v→B8 F xs vs→B8 F (x::xs) (v::vs)
theorem Pc.mono {F F':FH} (e:AG F F') {x v} (h:Pc F x v):Pc F' x v:=by
 cases h with
 |none=>exact .none
 |some a=>exact .some (a.mono e)
theorem B8.mono {F F':FH} (e:AG F F') {x v} (h:B8 F x v):B8 F' x v:=by
 induction h with
 |nil=>exact .nil
 |cons a zu ih=>exact .cons (a.mono e) ih
theorem B8.length {F:FH} {xs vs} (h:B8 F xs vs):vs.length=xs.length:=by
 induction h with
 |nil=>rfl
 |cons zu zu2 ih=>simp [ih]
theorem B8.get {F:FH} {xs vs} (h:B8 F xs vs) {i:Nat} {x} (e:xs[i]? = some (some x)):∃v,vs[i]? = some (some v)∧VR F x v:=by
 induction h generalizing i with
 |nil=>simp at e
 |cons a zu ih=>
  cases i with
  |zero=>simp at e;subst e;cases a with|some a=>exact ⟨_,rfl,a⟩
  |succ i=>simpa using ih (by simpa using e)
theorem B8.set {F:FH} {xs vs} (h:B8 F xs vs) (i:Nat) {x v} (hv:Pc F x v):B8 F (xs.set i x) (vs.set i v):=by
 induction h generalizing i with
 |nil=>simpa using B8.nil
 |cons a b ih=>
  cases i with
  |zero=>simpa using B8.cons hv b
  |succ i=>simpa using B8.cons a (ih i)
inductive Au where
 |i (k:Int)
 |s (x:Str)
 deriving DecidableEq,Inhabited
noncomputable def Au.av:Au→AV
 |.i k=>.int k
 |.s x=>.str x
noncomputable def Au.is:Au→Value→Bool
 |.i k,.int j _=>j == k
 |.s x,.str y _=>y == x
 |_,_=>false
noncomputable def Au.hash (w:World):Au→Int
 |.i k=>hashInt k
 |.s x=>hashStr w x
theorem Au.is_shape {k:Au} {v:Value} (h:k.is v=true):(∃i t,k=.i i∧v=.int i t)∨∃x t,k=.s x∧v=.str x t:=by
 cases k with
 |i k=>cases v with
  |int j t=>exact .inl ⟨k,t,rfl,by rw [beq_iff_eq.mp (show (j == k)=true from h)]⟩
  |_=>exact Bu h
 |s x=>cases v with
  |str y t=>exact .inr ⟨x,t,rfl,by rw [beq_iff_eq.mp (show (y == x)=true from h)]⟩
  |_=>exact Bu h
noncomputable def Bs (prog:Program) (w:World):KeyKind prog w Au where
 is:=Au.is
 hash:=Au.hash w
 inj:=fun v a b ha hb=>by
  rcases Au.is_shape ha with ⟨i,t,rfl,rfl⟩|⟨x,t,rfl,rfl⟩
  ·rcases Au.is_shape hb with ⟨j,u,rfl,h⟩|⟨y,u,rfl,h⟩<;>cases h;rfl
  ·rcases Au.is_shape hb with ⟨j,u,rfl,h⟩|⟨y,u,rfl,h⟩<;>cases h;rfl
 byValue:=fun k v h=>by rcases Au.is_shape h with ⟨i,t,rfl,rfl⟩|⟨x,t,rfl,rfl⟩<;>rfl
 pyHash:=fun hv h=>by
  rcases Au.is_shape hv with ⟨i,t,rfl,rfl⟩|⟨x,t,rfl,rfl⟩
  ·exact wpAny_pyHash_int h
  ·exact wpAny_pyHash_str h
 eqBool:=fun hu hv h=>by
  rcases Au.is_shape hu with ⟨i,t,rfl,rfl⟩|⟨x,t,rfl,rfl⟩
  ·rcases Au.is_shape hv with ⟨j,u,rfl,rfl⟩|⟨y,u,rfl,rfl⟩
   ·refine wpAny_eqBool_int ?_
    have:(i == j)=decide (Au.i i=Au.i j):=by
     by_cases q:i=j
     ·subst q;simp
     ·simp [q]
    rw [this];exact h
   ·have e:PySem.eqBool (.int i t) (.str y u)=(do truthOfDropped (←richCompare .Eq (.int i t) (.str y u))):=by rfl
    rw [e]
    refine wpAny_bind (EqMixed.eq_int_str (wpAny_truthy_bool ?_))
    simpa using h
  ·rcases Au.is_shape hv with ⟨j,u,rfl,rfl⟩|⟨y,u,rfl,rfl⟩
   ·have e:PySem.eqBool (.str x t) (.int j u)=(do truthOfDropped (←richCompare .Eq (.str x t) (.int j u))):=by rfl
    rw [e]
    refine wpAny_bind (EqMixed.eq_str_int (wpAny_truthy_bool ?_))
    simpa using h
   ·refine wpAny_eqBool_str ?_
    have:decide (x=y)=decide (Au.s x=Au.s y):=by
     by_cases q:x=y
     ·subst q;simp
     ·simp [q]
    rw [this];exact h
 «strs»:=fun k x t v h=>by
  rcases Au.is_shape h with ⟨i,u,rfl,h'⟩|⟨y,u,rfl,h'⟩
  ·cases h'
  ·cases h'
   cases v<;>rfl
inductive SV (F:FH):List (Au×AV)→List (Au×Value)→Prop
 |nil:SV F [] []
 |cons {k x v xs vs}:VR F x v→SV F xs vs→SV F ((k,x)::xs) ((k,v)::vs)
theorem SV.mono {F F':FH} (e:AG F F') {x v} (h:SV F x v):SV F' x v:=by
 induction h with
 |nil=>exact .nil
 |cons a zu ih=>exact .cons (a.mono e) ih
theorem SV.keys {F:FH} {x v} (h:SV F x v):v.map (·.1)=x.map (·.1):=by
 induction h with
 |nil=>rfl
 |cons a zu ih=>simp [ih]
theorem SV.length {F:FH} {x v} (h:SV F x v):v.length=x.length:=by
 induction h with
 |nil=>rfl
 |cons a zu ih=>simp [ih]
inductive NR (P:Params) (F:FH):List (Str×AV)→List DictEntry→Prop
 |nil:NR P F [] []
 |cons {k v es e ds t}:e.hash=PyData.keyHash P k→e.key=.str k t→VR F v e.val→NR P F es ds→NR P F ((k,v)::es) (e::ds)
theorem NR.mono {P:Params} {F F':FH} (e:AG F F') {x v} (h:NR P F x v):NR P F' x v:=by
 induction h with
 |nil=>exact .nil
 |cons a b c zu ih=>exact .cons a b (c.mono e) ih
inductive AO where
 |list (xs:List AV)
 |dict (l:List (Au×AV)) (ep:Nat)
 |tdict (l:List (List Int×AV)) (ep:Nat)
 |iset (S:Int→Bool) (n:Nat)
 |ns (fs:List (Str×AV))
 |inst (C d:Addr)
 |slot (C:Addr) (vs:List (Option AV))
 |fields (cls:String) (vs:List AV)
 |itr (cls:String) (vs:List AV)
 |frame (loc:List (Str×AV))
 |gen (g:Nat) (gs:GenState)
theorem QE {a b:List AV} (h:some (AO.list a)=some (AO.list b)):a=b:=AO.list.inj (Option.some.inj h)
theorem QU {a b:List (Str×AV)} (h:some (AO.ns a)=some (AO.ns b)):a=b:=AO.ns.inj (Option.some.inj h)
theorem Qw {a b:List (Str×AV)} (h:some (AO.frame a)=some (AO.frame b)):a=b:=AO.frame.inj (Option.some.inj h)
theorem QG {a b:List (Au×AV)} {m n:Nat} (h:some (AO.dict a m)=some (AO.dict b n)):a=b∧m=n:=AO.dict.inj (Option.some.inj h)
theorem QF {a b c d:Addr} (h:some (AO.inst a b)=some (AO.inst c d)):a=c∧b=d:=AO.inst.inj (Option.some.inj h)
theorem QD {a b:Addr} {c d:List (Option AV)} (h:some (AO.slot a c)=some (AO.slot b d)):a=b∧c=d:=AO.slot.inj (Option.some.inj h)
theorem QO {a b:String} {c d:List AV} (h:some (AO.itr a c)=some (AO.itr b d)):a=b∧c=d:=AO.itr.inj (Option.some.inj h)
theorem Nw {a b:Nat} {c d:GenState} (h:some (AO.gen a c)=some (AO.gen b d)):a=b∧c=d:=AO.gen.inj (Option.some.inj h)
structure Cf where
 prog:Program
 w:World
 h0:Heap
 os:OsState
inductive Fw (F:FH):List (List Int×AV)→List (List Int×Addr×Value)→Prop
 |nil:Fw F [] []
 |cons {k x a v l xs}:VR F (.tup (k.map .int)) (.ref a)→VR F x v→Fw F l xs→Fw F ((k,x)::l) ((k,a,v)::xs)
inductive OR (C:Cf) (F:FH) (gens:Array GenState):AO→Obj→Prop
 |list {xs o vs n}:o.cls=.type "list"→o.dict=none→o.slots=#[]→o.data=.seq vs.toArray n→VRs F xs vs→OR C F gens (.list xs) o
 |dict {l ep o es kvs}:o.ExactDict→o.data=.dict es ep→KeysOf (Bs C.prog C.w) es→Pairs (Bs C.prog C.w) es.toList kvs→(kvs.map (·.1)).Nodup→SV F l kvs→OR C F gens (.dict l ep) o
 |tdict {l ep o es xs}:o.ExactDict→o.data=.dict es ep→es.toList=xs.map (entryOfKey (tupleKind (intKind C.prog C.w)))→Fw F l xs→(xs.map (·.1)).Nodup→OR C F gens (.tdict l ep) o
 |iset {S n o es ep t}:o.ExactSet→o.data=.set es ep t→ElemsOf (intKind C.prog C.w) es.toList→(∀k,S k=true↔∃e∈es.toList,(intKind C.prog C.w).is k e.2=true) →
   es.size<scanBound→t.fits es.size=true→es.size=n→OR C F gens (.iset S n) o
 |ns {fs o ds n}:o.ExactDict→o.data=.dict ds.toArray n→NR C.w.params F fs ds→OR C F gens (.ns fs) o
 |inst {K d}:OR C F gens (.inst K d) { cls:=.ref K,dict:=some d,data:=.plain }
 |slot {K vs us d}:F d=some emptyDict→B8 F vs us→OR C F gens (.slot K vs) { cls:=.ref K,dict:=some d,data:=.plain,slots:=us.toArray }
 |fields {c vs o us}:o.cls=.type c→o.dict=none→o.slots=#[]→o.data=.fields us.toArray→VRs F vs us→OR C F gens (.fields c vs) o
 |itr {c vs o us}:o.cls=.type c→o.data=.fields us.toArray→VRs F vs us→OR C F gens (.itr c vs) o
 |frame {loc o es ep}:o.data=.dict es ep→StrKeys es→(∀x av,loc.lookup x=some av→∃v,nsFind es x=some v∧VR F av v)→OR C F gens (.frame loc) o
 |gen {g gs o n q t u}:o.cls=.type "generator"→o.dict=none→o.slots=#[]→o.data=.fields #[.int g 0,.str n t,.str q u]→gens[g]? = some gs→OR C F gens (.gen g gs) o
noncomputable def OR.Sh (C:Cf) (F:FH) (gens:Array GenState) (o:Obj):AO→Prop
 |.list xs=>∃vs n,o.cls=.type "list"∧o.dict=none∧o.slots=#[]∧o.data=.seq vs.toArray n∧VRs F xs vs
 |.dict l ep=>∃es kvs,o.ExactDict∧o.data=.dict es ep∧KeysOf (Bs C.prog C.w) es∧Pairs (Bs C.prog C.w) es.toList kvs∧(kvs.map (·.1)).Nodup∧SV F l kvs
 |.tdict l ep=>∃es xs,o.ExactDict∧o.data=.dict es ep∧es.toList=xs.map (entryOfKey (tupleKind (intKind C.prog C.w)))∧Fw F l xs∧(xs.map (·.1)).Nodup
 |.iset S n=>∃es ep t,o.ExactSet∧o.data=.set es ep t∧ElemsOf (intKind C.prog C.w) es.toList∧(∀k,S k=true↔∃e∈es.toList,(intKind C.prog C.w).is k e.2=true)∧es.size<scanBound∧t.fits es.size=true∧es.size=n
 |.ns fs=>∃ds n,o.ExactDict∧o.data=.dict (List.toArray ds) n∧NR C.w.params F fs ds
 |.inst K d=>o={ cls:=.ref K,dict:=some d,data:=.plain }
 |.slot K vs=>∃us d,o={ cls:=.ref K,dict:=some d,data:=.plain,slots:=List.toArray us }∧F d=some emptyDict∧B8 F vs us
 |.fields c vs=>∃us,o.cls=.type c∧o.dict=none∧o.slots=#[]∧o.data=.fields (List.toArray us)∧VRs F vs us
 |.itr c vs=>∃us,o.cls=.type c∧o.data=.fields (List.toArray us)∧VRs F vs us
 |.frame loc=>∃es ep,o.data=.dict es ep∧StrKeys es∧∀x av,loc.lookup x=some av→∃v,nsFind es x=some v∧VR F av v
 |.gen g gs=>∃n q t u,o.cls=.type "generator"∧o.dict=none∧o.slots=#[]∧o.data=.fields #[.int g 0,.str n t,.str q u]∧gens[g]? = some gs
theorem OR.inv {C:Cf} {F:FH} {gens:Array GenState} {x:AO} {o:Obj} (h:OR C F gens x o):OR.Sh C F gens o x:=
 OR.casesOn (motive:=fun x o zu=>OR.Sh C F gens o x) h (fun a b c d e=>⟨_,_,a,b,c,d,e⟩) (fun a b c d e f=>⟨_,_,a,b,c,d,e,f⟩) (fun a b c d e=>⟨_,_,a,b,c,d,e⟩) (fun a b c d e f g=>⟨_,_,_,a,b,c,d,e,f,g⟩) (fun a b c=>⟨_,_,a,b,c⟩)
  rfl (fun a b=>⟨_,_,rfl,a,b⟩) (fun a b c d e=>⟨_,a,b,c,d,e⟩) (fun a b c=>⟨_,a,b,c⟩) (fun a b c=>⟨_,_,a,b,c⟩) (fun a b c d e=>⟨_,_,_,_,a,b,c,d,e⟩)
section
variable {C:Cf} {F:FH} {gens:Array GenState} {o:Obj} {P:Prop}
theorem OR.listC {xs:List AV} (h:OR C F gens (.list xs) o) (k:∀(vs:List Value) (n:Nat) (za:o.cls=.type "list") (zb:o.dict=none) (zc:o.slots=#[]) (zd:o.data=.seq vs.toArray n) (ze:VRs F xs vs),P):P:=by
 refine xa2_5 h.inv ?_;intro vs n a b c d e;exact k vs n a b c d e
theorem OR.dictC {l:List (Au×AV)} {ep:Nat} (h:OR C F gens (.dict l ep) o) (k:∀(es:Array DictEntry) (kvs:List (Au×Value)) (za:o.ExactDict) (zb:o.data=.dict es ep) (zc:KeysOf (Bs C.prog C.w) es) (zd:Pairs (Bs C.prog C.w) es.toList kvs) (ze:(kvs.map (·.1)).Nodup) (zf:SV F l kvs),P):P:=by
 refine xa2_6 h.inv ?_;intro vs n a b c d e f;exact k vs n a b c d e f
theorem OR.isetC {S:Int→Bool} {n:Nat} (h:OR C F gens (.iset S n) o) (k:∀(es ep t) (za:o.ExactSet) (zb:o.data=.set es ep t) (zc:ElemsOf (intKind C.prog C.w) es.toList) (zd:∀k,S k=true↔∃e∈es.toList,(intKind C.prog C.w).is k e.2=true) (ze:es.size<scanBound) (zf:t.fits es.size=true) (zg:es.size=n),P):P:=by
 refine xa3_7 h.inv ?_;intro vs m t a b c d e f g;exact k vs m t a b c d e f g
theorem OR.nsC {fs:List (Str×AV)} (h:OR C F gens (.ns fs) o) (k:∀(ds:List DictEntry) (n:Nat) (za:o.ExactDict) (zb:o.data=.dict ds.toArray n) (zc:NR C.w.params F fs ds),P):P:=by
 refine xa2_3 h.inv ?_;intro vs n a b c;exact k vs n a b c
theorem OR.instC {K d:Addr} (h:OR C F gens (.inst K d) o) (k:∀zo:o={ cls:=.ref K,dict:=some d,data:=.plain },P):P:=k h.inv
theorem OR.slotC {K:Addr} {vs:List (Option AV)} (h:OR C F gens (.slot K vs) o) (k:∀(us:List (Option Value)) (d:Addr) (zo:o={ cls:=.ref K,dict:=some d,data:=.plain,slots:=us.toArray }) (za:F d=some emptyDict) (zb:B8 F vs us),P):P:=by
 refine xa2_3 h.inv ?_;intro us d a b c;exact k us d a b c
theorem OR.fieldsC {c:String} {vs:List AV} (h:OR C F gens (.fields c vs) o) (k:∀(us:List Value) (za:o.cls=.type c) (zb:o.dict=none) (zc:o.slots=#[]) (zd:o.data=.fields us.toArray) (ze:VRs F vs us),P):P:=by
 refine xa1_5 h.inv ?_;intro us a b c d e;exact k us a b c d e
theorem OR.itrC {c:String} {vs:List AV} (h:OR C F gens (.itr c vs) o) (k:∀(us:List Value) (za:o.cls=.type c) (zb:o.data=.fields us.toArray) (zc:VRs F vs us),P):P:=by
 refine xa1_3 h.inv ?_;intro us a b c;exact k us a b c
theorem OR.frameC {loc:List (Str×AV)} (h:OR C F gens (.frame loc) o) (k:∀(es:Array DictEntry) (ep:Nat) (za:o.data=.dict es ep) (zb:StrKeys es) (zc:∀x av,loc.lookup x=some av→∃v,nsFind es x=some v∧VR F av v),P):P:=by
 refine xa2_3 h.inv ?_;intro es ep a b c;exact k es ep a b c
theorem OR.genC {g:Nat} {gs:GenState} (h:OR C F gens (.gen g gs) o) (k:∀(n q t u) (za:o.cls=.type "generator") (zb:o.dict=none) (zc:o.slots=#[]) (zd:o.data=.fields #[.int g 0,.str n t,.str q u]) (ze:gens[g]? = some gs),P):P:=by
 refine xa4_5 h.inv ?_;intro n q t u a b c d e;exact k n q t u a b c d e
end
end
section
noncomputable abbrev HP:=Addr→Option AO
noncomputable def upd (hp:HP) (a:Addr) (x:AO):HP:=fun b=>if b=a then some x else hp b
@[simp] theorem Ae (hp:HP) (a:Addr) (x:AO):upd hp a x a=some x:=by simp [upd]
theorem Ad (hp:HP) {a b:Addr} (x:AO) (h:b≠a):upd hp a x b=hp b:=by simp [upd,h]
theorem Fw.mono {F F':FH} (e:AG F F') {l:List (List Int×AV)} {xs:List (List Int×Addr×Value)} (h:Fw F l xs):Fw F' l xs:=by
 induction h with
 |nil=>exact .nil
 |cons a b _ ih=>exact .cons (a.mono e) (b.mono e) ih
theorem OR.mono {C:Cf} {F F':FH} {gens:Array GenState} (e:AG F F') {x:AO} {o:Obj} (h:OR C F gens x o):OR C F' gens x o:=by
 cases h with
 |list a a1 a2 b c=>exact .list a a1 a2 b (c.mono e)
 |dict a b c d f g=>exact .dict a b c d f (g.mono e)
 |tdict a b c d f=>exact .tdict a b c (d.mono e) f
 |iset a b c d f g i=>exact .iset a b c d f g i
 |ns a b c=>exact .ns a b (c.mono e)
 |inst=>exact .inst
 |slot d a=>exact .slot (e _ _ d) (a.mono e)
 |fields a a1 a2 b c=>exact .fields a a1 a2 b (c.mono e)
 |itr a b c=>exact .itr a b (c.mono e)
 |frame a b c=>exact .frame a b fun x av h=>let ⟨v,q,r⟩:=c x av h;⟨v,q,r.mono e⟩
 |gen a a1 a2 b c=>exact .gen a a1 a2 b c
theorem AP {α:Type} {m:Addr→Option α} {c:Addr} (hm:m c=none) {b:Addr} {o:α} (e:m b=some o):b≠c:=fun zE=>by (first|rw [zE,hm] at e|rw [←zE,hm] at e);exact Ak e
noncomputable def FO (o o':Obj):Prop:=o'=o∨((∃es ep,o.data=.dict es ep)∧∃sl,o'={ o with slots:=sl })
theorem FO.rfl' (o:Obj):FO o o:=.inl rfl
theorem FO.data {o o':Obj} (h:FO o o'):o'.data=o.data:=by
 rcases h with rfl|⟨zu,sl,rfl⟩<;>rfl
theorem FO.exact {o o':Obj} (h:FO o o') (hd:∀es ep,o.data≠.dict es ep):o'=o:=by
 rcases h with rfl|⟨⟨es,ep,e⟩,zu⟩
 ·rfl
 ·exact absurd e (hd es ep)
structure Wd (C:Cf) (F G:FH) (hp:HP) (s:Shared):Prop where
 base:∀b o,C.h0.get? b=some o→F b=some o
 fz:∀b o,F b=some o→s.heap.get? b=some o
 gz:∀b o,G b=some o→∃o',s.heap.get? b=some o'∧FO o o'
 ob:∀a x,hp a=some x→F a=none∧G a=none∧∃o,s.heap.get? a=some o∧OR C F s.gens x o
 os:s.os=C.os
 bare:AllBare s.gens
 gi:∀a b g gs gs',hp a=some (.gen g gs)→hp b=some (.gen g gs')→a=b
 fg:∀b o,F b=some o→G b=none
noncomputable def Db:AO→Bool
 |.gen ..=>true
 |_=>false
theorem OR.gens {C:Cf} {F:FH} {g g':Array GenState} {x:AO} {o:Obj} (hx:Db x=false) (h:OR C F g x o):OR C F g' x o:=by
 cases h with
 |list a a1 a2 b c=>exact .list a a1 a2 b c
 |dict a b c d f g=>exact .dict a b c d f g
 |tdict a b c d f=>exact .tdict a b c d f
 |iset a b c d f g i=>exact .iset a b c d f g i
 |ns a b c=>exact .ns a b c
 |inst=>exact .inst
 |slot d a=>exact .slot d a
 |fields a a1 a2 b c=>exact .fields a a1 a2 b c
 |itr a b c=>exact .itr a b c
 |frame a b c=>exact .frame a b c
 |gen a b c=>exact CZ hx
section
variable {C:Cf} {F G:FH} {hp:HP} {s:Shared}
theorem Wd.lt (W:Wd C F G hp s) {b:Addr} (h:s.heap.objs.size≤b):F b=none∧G b=none∧hp b=none:=by
 refine ⟨?_,?_,?_⟩
 ·cases e:F b with
  |none=>rfl
  |some o=>exact absurd (Heap.lt_size (W.fz b o e)) (Nat.not_lt.mpr h)
 ·cases e:G b with
  |none=>rfl
  |some o=>refine xa1_2 (W.gz b o e) ?_;intro o' ho zu;exact absurd (Heap.lt_size ho) (Nat.not_lt.mpr h)
 ·cases e:hp b with
  |none=>rfl
  |some x=>
   refine cps fun zP zk=>?_;(rcases W.ob b x e with ⟨zu,zu,o,ho,zu⟩)<;>(refine zk ?_;clear zk zP)
   exact absurd (Heap.lt_size ho) (Nat.not_lt.mpr h)
theorem Wd.keep (W:Wd C F G hp s) {h':Heap} {t:Nat} (k:∀b o,s.heap.get? b=some o→h'.get? b=some o):Wd C F G hp ⟨h',s.gens,s.drawn,t,s.os⟩:=
 ⟨W.base,fun b o e=>k _ _ (W.fz b o e),fun b o e=>let ⟨o',q,r⟩:=W.gz b o e;⟨o',k _ _ q,r⟩,fun a x e=>let ⟨p,q,o,ho,r⟩:=W.ob a x e;⟨p,q,o,k _ _ ho,r⟩,W.os,W.bare,W.gi,W.fg⟩
theorem Wd.keepBut (W:Wd C F G hp s) {h':Heap} {t:Nat} {c:Addr} (hF:F c=none) (hG:G c=none) (hh:hp c=none) (k:∀b o,b≠c→s.heap.get? b=some o→h'.get? b=some o):Wd C F G hp ⟨h',s.gens,s.drawn,t,s.os⟩:=by
 exact ⟨W.base,fun b o e=>k _ _ (AP hF e) (W.fz b o e),fun b o e=>let ⟨o',q,r⟩:=W.gz b o e;⟨o',k _ _ (AP hG e) q,r⟩,fun a x e=>let ⟨p,q,o,ho,r⟩:=W.ob a x e;⟨p,q,o,k _ _ (AP hh e) ho,r⟩,W.os,W.bare,W.gi,W.fg⟩
theorem Wd.change (W:Wd C F G hp s) {h':Heap} {t:Nat} {c:Addr} {x x':AO} {o':Obj} (e:hp c=some x) (hx:Db x'=false) (ho:h'.get? c=some o') (r:OR C F s.gens x' o')
  (k:∀b o,b≠c→s.heap.get? b=some o→h'.get? b=some o):Wd C F G (upd hp c x') ⟨h',s.gens,s.drawn,t,s.os⟩:=by
 refine xa0_3 (W.ob c x e) ?_;intro hF hG zu
 refine ⟨W.base,fun b o e=>k _ _ (AP hF e) (W.fz b o e),fun b o e=>let ⟨o',q,r⟩:=W.gz b o e;⟨o',k _ _ (AP hG e) q,r⟩,fun a y e'=>?_,W.os,W.bare,fun a b g gs gs' ea eb=>?_,W.fg⟩
 ·by_cases h:a=c
  ·subst h
   rw [Ae] at e';(have zc:=Option.some.inj e';clear e';subst zc)
   exact ⟨hF,hG,o',ho,r⟩
  ·rw [Ad _ _ h] at e'
   refine cps fun zP zk=>?_;(rcases W.ob a y e' with ⟨p,q,o,ho',r'⟩)<;>(refine zk ?_;clear zk zP)
   exact ⟨p,q,o,k _ _ h ho',r'⟩
 ·have na:a≠c:=fun zE=>by (first|rw [zE,Ae] at ea|rw [←zE,Ae] at ea);(have zc:=Option.some.inj ea;clear ea;subst zc);exact CZ hx
  have nb:b≠c:=fun zE=>by (first|rw [zE,Ae] at eb|rw [←zE,Ae] at eb);(have zc:=Option.some.inj eb;clear eb;subst zc);exact CZ hx
  rw [Ad _ _ na] at ea
  rw [Ad _ _ nb] at eb
  exact W.gi _ _ _ _ _ ea eb
theorem Wd.alloc (W:Wd C F G hp s) {t:Nat} {x':AO} {o':Obj} (hx:Db x'=false) (hf:o'.isFreed=false) (r:OR C F s.gens x' o') :
  Wd C F G (upd hp s.heap.objs.size x') ⟨s.heap.push o',s.gens,s.drawn,t,s.os⟩:=by
 refine xa0_3 (W.lt (Nat.le_refl _)) ?_;intro hF hG hh
 have k:∀b o,s.heap.get? b=some o→(s.heap.push o').get? b=some o:=fun b o e=>Heap.get?_push_of_some _ e
 refine ⟨W.base,fun b o e=>k _ _ (W.fz b o e),fun b o e=>let ⟨o',q,r⟩:=W.gz b o e;⟨o',k _ _ q,r⟩,fun a y e'=>?_,W.os,W.bare,fun a b g gs gs' ea eb=>?_,W.fg⟩
 ·by_cases h:a=s.heap.objs.size
  ·subst h
   rw [Ae] at e';(have zc:=Option.some.inj e';clear e';subst zc)
   exact ⟨hF,hG,o',Heap.get?_push_size _ hf,r⟩
  ·rw [Ad _ _ h] at e'
   refine cps fun zP zk=>?_;(rcases W.ob a y e' with ⟨p,q,o,ho',r'⟩)<;>(refine zk ?_;clear zk zP)
   exact ⟨p,q,o,k _ _ ho',r'⟩
 ·have na:a≠s.heap.objs.size:=fun zE=>by (first|rw [zE,Ae] at ea|rw [←zE,Ae] at ea);(have zc:=Option.some.inj ea;clear ea;subst zc);exact CZ hx
  have nb:b≠s.heap.objs.size:=fun zE=>by (first|rw [zE,Ae] at eb|rw [←zE,Ae] at eb);(have zc:=Option.some.inj eb;clear eb;subst zc);exact CZ hx
  rw [Ad _ _ na] at ea
  rw [Ad _ _ nb] at eb
  exact W.gi _ _ _ _ _ ea eb
noncomputable def AM (F:FH) (a:Addr) (o:Obj):FH:=fun b=>if b=a then some o else F b
theorem Ar (F:FH) (a:Addr) (o:Obj):AM F a o a=some o:=by simp [AM]
theorem AR {F:FH} {a:Addr} (o:Obj) (h:F a=none):AG F (AM F a o):=fun b ob e=>by
 have:b≠a:=fun zE=>by (first|rw [zE,h] at e|rw [←zE,h] at e);exact Ak e
 simp [AM,this,e]
theorem Wd.freeze (W:Wd C F G hp s) {t:Nat} {o':Obj} (hf:o'.isFreed=false) :
  Wd C (AM F s.heap.objs.size o') G hp ⟨s.heap.push o',s.gens,s.drawn,t,s.os⟩∧AG F (AM F s.heap.objs.size o'):=by
 refine xa0_3 (W.lt (Nat.le_refl _)) ?_;intro hF hG hh
 have k:∀b o,s.heap.get? b=some o→(s.heap.push o').get? b=some o:=fun b o e=>Heap.get?_push_of_some _ e
 have ex:=AR o' hF
 refine ⟨⟨fun b o e=>ex _ _ (W.base b o e),fun b o e=>?_,fun b o e=>let ⟨o',q,r⟩:=W.gz b o e;⟨o',k _ _ q,r⟩,fun a y e'=>?_,W.os,W.bare,W.gi,fun b o e=>?_⟩,ex⟩
 ·by_cases h:b=s.heap.objs.size
  ·subst h
   rw [Ar] at e;(have zc:=Option.some.inj e;clear e;subst zc)
   exact Heap.get?_push_size _ hf
  ·simp only [AM,h,if_false] at e
   exact k _ _ (W.fz b o e)
 ·refine cps fun zP zk=>?_;(rcases W.ob a y e' with ⟨p,q,o,ho',r'⟩)<;>(refine zk ?_;clear zk zP)
  have h:a≠s.heap.objs.size:=fun zE=>by (first|rw [zE,hh] at e'|rw [←zE,hh] at e');exact Ak e'
  exact ⟨by simp [AM,h,p],q,o,k _ _ ho',r'.mono ex⟩
 ·by_cases h:b=s.heap.objs.size
  ·subst h;exact hG
  ·simp only [AM,h,if_false] at e
   exact W.fg b o e
end
structure Fm (F G:FH) (hp:HP) (env:Env) (loc:List (Str×AV)) (h:Heap):Prop where
 kind:env.scope.kind=.function
 ns:∃m,h.Ns env.locals m∧∀x av,loc.lookup x=some av→env.kindOf x=some .local→∃v,m x=some v∧VR F av v
 lo:F env.locals=none∧G env.locals=none∧hp env.locals=none
 co:∀x,env.kindOf x=some .cell→∃c,env.cells.lookup x=some c∧F c=none∧G c=none∧hp c=none∧c≠env.locals∧(∃v,h.IsCell c v)
 ci:∀x y c,env.kindOf x=some .cell→env.kindOf y=some .cell→env.cells.lookup x=some c→env.cells.lookup y=some c→x=y
 cv:∀x av c,loc.lookup x=some av→env.kindOf x=some .cell→env.cells.lookup x=some c→∃v,h.IsCell c (some v)∧VR F av v
 fv:∀x av,loc.lookup x=some av→env.kindOf x=some .free→∃c v o,env.cells.lookup x=some c∧G c=some o∧o.data=.cell (some v)∧VR F av v
structure Al where
 loc:List (Str×AV)
 hp:HP
noncomputable def MY (G:FH) (e:Env):Prop:=e.scope.kind≠.module∧∃L o,e.frame=some L∧G L=some o∧∃es ep,o.data=.dict es ep
theorem MY.mono {G G':FH} {e:Env} (x:AG G G') (h:MY G e):MY G' e:=let ⟨a,L,o,b,c,d⟩:=h;⟨a,L,o,b,x _ _ c,d⟩
noncomputable def Fs (A:Around) (G:FH):Prop:=∃l,A.frames=some l∧∀e∈l,MY G e
noncomputable def GG (A:Around) (G:FH) (env:Env):Prop:=∃e l,A.frames=some (e::l)∧e.scope.kind≠.module∧e.frame=env.frame∧((e=env∧env.frame=some env.locals)∨MY G e)∧∀e'∈l,MY G e'
theorem GG.mono {A:Around} {G G':FH} {env:Env} (x:AG G G') (h:GG A G env):GG A G' env:=
 let ⟨e,l,a,b,c,d,f⟩:=h;⟨e,l,a,b,c,d.imp id (MY.mono x),fun e' h'=>(f e' h').mono x⟩
structure Rp (C:Cf) (A:Around) (F G:FH) (env:Env) (σ:Al) (s:Shared):Prop where
 wd:Wd C F G σ.hp s
 fm:Fm F G σ.hp env σ.loc s.heap
 fs:GG A G env
section
variable {C:Cf} {F F' G:FH} {hp:HP} {env:Env} {loc:List (Str×AV)} {h h':Heap}
theorem Fm.keep (M:Fm F G hp env loc h) {F':FH} {hp':HP} (e:AG F F') (k:∀b o,h.get? b=some o→F b=none→G b=none→hp b=none→h'.get? b=some o∧F' b=none∧hp' b=none):Fm F' G hp' env loc h':=by
 refine cps fun zP zk=>?_;(rcases M with ⟨kd,⟨m,hm,hv⟩,⟨l1,l2,l3⟩,co,ci,cv,fv⟩)<;>(refine zk ?_;clear zk zP)
 refine xa3_2 (id hm) ?_;intro o es ep ho r
 refine xa0_3 (k _ _ ho l1 l2 l3) ?_;intro z1 z2 z3
 refine ⟨kd,⟨m,⟨o,es,ep,z1,r⟩,fun x av h1 h2=>let ⟨v,a,b⟩:=hv x av h1 h2;⟨v,a,b.mono e⟩⟩,⟨z2,l2,z3⟩,fun x hx=>?_,ci,fun x av c h1 h2 h3=>?_,fun x av h1 h2=>?_⟩
 ·refine cps fun zP zk=>?_;(rcases co x hx with ⟨c,hc,c1,c2,c3,c4,v,o,ho,hd⟩)<;>(refine zk ?_;clear zk zP)
  refine xa0_3 (k _ _ ho c1 c2 c3) ?_;intro y1 y2 y3
  exact ⟨c,hc,y2,c2,y3,c4,v,o,y1,hd⟩
 ·refine xa1_2 (cv x av c h1 h2 h3) ?_;intro v;intro zq;refine xa1_2 zq ?_;(try clear zq);intro o ho hd;intro hvr
  refine xa1_5 (co x h2) ?_;intro c' hc' c1 c2 c3 zu
  rw [h3] at hc';(have zc:=Option.some.inj hc';clear hc';subst zc)
  exact ⟨v,⟨o,(k _ _ ho c1 c2 c3).1,hd⟩,hvr.mono e⟩
 ·refine xa3_4 (fv x av h1 h2) ?_;intro c v o a1 a2 a3 a4
  exact ⟨c,v,o,a1,a2,a3,a4.mono e⟩
end
section
variable {C:Cf} {A:Around} {F G:FH} {env:Env} {σ:Al} {s:Shared}
theorem Rp.keep (R:Rp C A F G env σ s) {h':Heap} {t:Nat} (k:∀b o,s.heap.get? b=some o→h'.get? b=some o):Rp C A F G env σ ⟨h',s.gens,s.drawn,t,s.os⟩:=
 ⟨R.wd.keep k,R.fm.keep (AG.refl F) fun b o e a b' c=>⟨k _ _ e,a,c⟩,R.fs⟩
theorem Rp.tok (R:Rp C A F G env σ s) (t:Nat):Rp C A F G env σ { s with toks:=t }:=R.keep fun zu zu e=>e
theorem Rp.change (R:Rp C A F G env σ s) {h':Heap} {t:Nat} {c:Addr} {x x':AO} {o':Obj} (e:σ.hp c=some x) (hx:Db x'=false) (ho:h'.get? c=some o') (r:OR C F s.gens x' o')
  (k:∀b o,b≠c→s.heap.get? b=some o→h'.get? b=some o):Rp C A F G env { σ with hp:=upd σ.hp c x' } ⟨h',s.gens,s.drawn,t,s.os⟩:=
 ⟨R.wd.change e hx ho r k,R.fm.keep (AG.refl F) fun b o e' a b' c'=>by
  have ne:b≠c:=fun zE=>by (first|rw [zE,e] at c'|rw [←zE,e] at c');exact Ap c'
  exact ⟨k _ _ ne e',a,by show upd σ.hp c x' b=none;rw [Ad _ _ ne];exact c'⟩,R.fs⟩
theorem Rp.alloc (R:Rp C A F G env σ s) {t:Nat} {x':AO} {o':Obj} (hx:Db x'=false) (hf:o'.isFreed=false) (r:OR C F s.gens x' o') :
  Rp C A F G env { σ with hp:=upd σ.hp s.heap.objs.size x' } ⟨s.heap.push o',s.gens,s.drawn,t,s.os⟩:=
 ⟨R.wd.alloc hx hf r,R.fm.keep (AG.refl F) fun b o e' a b' c'=>by
  have ne:b≠s.heap.objs.size:=Nat.ne_of_lt (Heap.lt_size e')
  exact ⟨Heap.get?_push_of_some _ e',a,by show upd σ.hp _ x' b=none;rw [Ad _ _ ne];exact c'⟩,R.fs⟩
theorem Rp.freeze (R:Rp C A F G env σ s) {t:Nat} {o':Obj} (hf:o'.isFreed=false) :
  Rp C A (AM F s.heap.objs.size o') G env σ ⟨s.heap.push o',s.gens,s.drawn,t,s.os⟩∧AG F (AM F s.heap.objs.size o'):=by
 refine xa0_2 (R.wd.freeze (t:=t) hf) ?_;intro a e
 refine ⟨⟨a,R.fm.keep e fun b o e' a b' c'=>?_,R.fs⟩,e⟩
 have ne:b≠s.heap.objs.size:=Nat.ne_of_lt (Heap.lt_size e')
 exact ⟨Heap.get?_push_of_some _ e',by simp [AM,ne,a],c'⟩
theorem Rp.lt (R:Rp C A F G env σ s):σ.hp s.heap.objs.size=none:=(R.wd.lt (Nat.le_refl _)).2.2
end
inductive Aw {α β:Type} (C:Cf) (A:Around) (G:FH) (env:Env) (R:FH→β→α→Prop) (Q:β→Al→Prop) (F:FH) (v:α) (s':Shared):Prop
 |intro (F':FH) (b:β) (σ':Al) (e:AG F F') (r:R F' b v) (hR:Rp C A F' G env σ' s') (q:Q b σ')
noncomputable def Tr {α β:Type} (C:Cf) (A:Around) (E:Value→Shared→Prop) (env:Env) (R:FH→β→α→Prop) (t:Sem α) (σ:Al) (Q:β→Al→Prop):Prop:=
 ∀F G s,Rp C A F G env σ s→wpAny (model C.prog C.w) A t (Aw C A G env R Q F) E s
inductive A6 where
 |next|brk|cont
 |ret (v:AV)
inductive NW (F:FH):A6→Flow→Prop
 |next:NW F .next .next
 |brk:NW F .brk .brk
 |cont:NW F .cont .cont
 |ret {a v}:VR F a v→NW F (.ret a) (.ret v)
noncomputable abbrev Ev (C:Cf) (A:Around) (E:Value→Shared→Prop) (env:Env) (e:Expr) (σ:Al) (Q:AV→Al→Prop):Prop:=Tr C A E env VR (eval e env) σ Q
noncomputable abbrev Ex (C:Cf) (A:Around) (E:Value→Shared→Prop) (env:Env) (e:Stmt) (σ:Al) (Q:A6→Al→Prop):Prop:=Tr C A E env NW (exec e env) σ Q
noncomputable abbrev Cq (C:Cf) (A:Around) (E:Value→Shared→Prop) (env:Env) (e:List Stmt) (σ:Al) (Q:A6→Al→Prop):Prop:=Tr C A E env NW (execs e env) σ Q
noncomputable abbrev Et (C:Cf) (A:Around) (E:Value→Shared→Prop) (env:Env) (e:Expr) (σ:Al) (Q:Bool→Al→Prop):Prop:=Tr C A E env (fun zu b b'=>b=b') (isTrue e env (eval e env)) σ Q
section
variable {C:Cf} {A:Around} {E:Value→Shared→Prop} {env:Env} {σ:Al}
theorem Tr.mono {α β:Type} {R:FH→β→α→Prop} {t:Sem α} {Q Q':β→Al→Prop} (h:Tr C A E env R t σ Q) (k:∀b σ',Q b σ'→Q' b σ'):Tr C A E env R t σ Q':=
 fun F G s hR=>wpAny_mono (h F G s hR) (fun _ _ ⟨F',b,σ',a1,a2,a3,a4⟩=>⟨F',b,σ',a1,a2,a3,k _ _ a4⟩) fun zu zu x=>x
theorem Tr.gen {α β:Type} {R:FH→β→α→Prop} {t:Sem α} {Q:β→Al→Prop} (h:∀K:β→Al→Prop,(∀b σ',Q b σ'→K b σ')→Tr C A E env R t σ K):Tr C A E env R t σ Q:=
 h Q fun zu zu x=>x
theorem Am {Q:A6→Al→Prop} (h:Q .next σ):Cq C A E env [] σ Q:=
 fun F G s hR=>wpAny_execs_nil ⟨F,.next,σ,AG.refl F,.next,hR,h⟩
noncomputable def Qt (C:Cf) (A:Around) (E:Value→Shared→Prop) (env:Env) (rest:List Stmt) (Q:A6→Al→Prop) (f:A6) (σ:Al):Prop:=
 match f with
 |.next=>Cq C A E env rest σ Q
 |f=>Q f σ
theorem Ab {st:Stmt} {rest:List Stmt} {Q:A6→Al→Prop}
  (h:Ex C A E env st σ (Qt C A E env rest Q)):Cq C A E env (st::rest) σ Q:=by
 intro F G s hR
 refine wpAny_execs_cons (wpAny_mono (h F G s hR) ?_ fun zu zu x=>x)
 (rintro f s';intro zr;refine cps fun zP zk=>?_;(rcases zr with ⟨F',b,σ',e1,r,hR',hQ⟩)<;>(refine zk ?_;clear zk zP))
 cases r with
 |next=>exact wpAny_mono (hQ F' G s' hR') (fun _ _ ⟨F'',b,σ',a1,a2,a3,a4⟩=>⟨F'',b,σ',e1.trans a1,a2,a3,a4⟩) fun zu zu x=>x
 |brk=>exact ⟨F',_,σ',e1,.brk,hR',hQ⟩
 |cont=>exact ⟨F',_,σ',e1,.cont,hR',hQ⟩
 |ret r=>exact ⟨F',_,σ',e1,.ret r,hR',hQ⟩
theorem Bd {test:Expr} {body orelse:List Stmt} {pos:Pos} {Q:A6→Al→Prop}
  (h:Et C A E env test σ (fun b σ'=>if b then Cq C A E env body σ' Q else Cq C A E env orelse σ' Q)):Ex C A E env (.If test body orelse pos) σ Q:=by
 intro F G s hR
 refine wpAny_If (wpAny_mono (h F G s hR) ?_ fun zu zu x=>x)
 (rintro f s';intro zr;refine cps fun zP zk=>?_;(rcases zr with ⟨F',b,σ',e1,rfl,hR',hQ⟩)<;>(refine zk ?_;clear zk zP))
 cases b with
 |true=>exact wpAny_mono (hQ F' G s' hR') (fun _ _ ⟨F'',b,σ',a1,a2,a3,a4⟩=>⟨F'',b,σ',e1.trans a1,a2,a3,a4⟩) fun zu zu x=>x
 |false=>exact wpAny_mono (hQ F' G s' hR') (fun _ _ ⟨F'',b,σ',a1,a2,a3,a4⟩=>⟨F'',b,σ',e1.trans a1,a2,a3,a4⟩) fun zu zu x=>x
end
end
section
noncomputable def Fy:List (Str×AV)→Str→AV→List (Str×AV)
 |[],x,v=>[(x,v)]
 |(y,u)::r,x,v=>if y == x then (x,v)::r else (y,u)::Fy r x v
theorem Hk {x:Str} {v:AV}:Fy [] x v=[(x,v)]:=rfl
theorem Hj {x y:Str} {u v:AV} {r:List (Str×AV)}:Fy ((y,u)::r) x v=if y == x then (x,v)::r else (y,u)::Fy r x v:=rfl
theorem AI (l:List (Str×AV)) (x y:Str) (v:AV):(Fy l x v).lookup y=if y=x then some v else l.lookup y:=by
 induction l with
 |nil=>
  simp only [Hk,Hj,List.lookup]
  by_cases h:y=x
  ·subst h;simp
  ·simp [h,beq_eq_false_iff_ne.mpr h]
 |cons p r ih=>
  refine cps fun zP zk=>?_;(rcases p with ⟨k,u⟩)<;>(refine zk ?_;clear zk zP)
  simp only [Hk,Hj]
  by_cases hk:k=x
  ·subst hk
   simp only [beq_self_eq_true,if_true,List.lookup]
   by_cases h:y=k
   ·subst h;simp
   ·simp [h,beq_eq_false_iff_ne.mpr h]
  ·simp only [beq_eq_false_iff_ne.mpr hk,Bool.false_eq_true,if_false,List.lookup]
   by_cases h:y=k
   ·subst h;simp [hk]
   ·simp only [beq_eq_false_iff_ne.mpr h,ih]
@[reducible] noncomputable def Al.set (σ:Al) (x:Str) (v:AV):Al:={ σ with loc:=Fy σ.loc x v }
@[reducible] noncomputable def Al.put (σ:Al) (a:Addr) (x:AO):Al:={ σ with hp:=upd σ.hp a x }
section
variable {C:Cf} {A:Around} {E:Value→Shared→Prop} {env:Env} {σ:Al} {F G:FH} {s:Shared}
theorem Aw.of {α β:Type} {R:FH→β→α→Prop} {Q:β→Al→Prop} {v:α} {b:β} (hr:R F b v) (hR:Rp C A F G env σ s) (q:Q b σ):Aw C A G env R Q F v s:=
 ⟨F,b,σ,AG.refl F,hr,hR,q⟩
theorem Aw.ext {α β:Type} {R:FH→β→α→Prop} {Q:β→Al→Prop} {v:α} {F₁:FH} (e:AG F F₁) (h:Aw C A G env R Q F₁ v s):Aw C A G env R Q F v s:=by
 refine cps fun zP zk=>?_;(rcases h with ⟨F',b,σ',a1,a2,a3,a4⟩)<;>(refine zk ?_;clear zk zP)
 exact ⟨F',b,σ',e.trans a1,a2,a3,a4⟩
theorem Tr.use {α β:Type} {R:FH→β→α→Prop} {t:Sem α} {Q:β→Al→Prop} (h:Tr C A E env R t σ Q) (hR:Rp C A F G env σ s) {P:α→Shared→Prop}
  (k:∀F' b σ' v s',AG F F'→R F' b v→Rp C A F' G env σ' s'→Q b σ'→P v s'):wpAny (model C.prog C.w) A t P E s:=
 wpAny_mono (h F G s hR) (fun v s' ⟨F',b,σ',a1,a2,a3,a4⟩=>k F' b σ' v s' a1 a2 a3 a4) fun zu zu x=>x
theorem Tr.go {α β:Type} {R:FH→β→α→Prop} {t:Sem α} {Q:β→Al→Prop} {F₀:FH} (h:Tr C A E env R t σ Q) (hR:Rp C A F G env σ s) (e:AG F₀ F):wpAny (model C.prog C.w) A t (Aw C A G env R Q F₀) E s:=
 wpAny_mono (h F G s hR) (fun v s' z=>Aw.ext e z) fun zu zu x=>x
theorem B0 {k pos} {Q:AV→Al→Prop} (h:Q .none σ):Ev C A E env (.Constant .none k pos) σ Q:=fun F G s hR=>wpAny_pure (Aw.of .none hR h)
theorem FQ {b k pos} {Q:AV→Al→Prop} (h:Q (.bool b) σ):Ev C A E env (.Constant (.bool b) k pos) σ Q:=fun F G s hR=>wpAny_pure (Aw.of (.bool b) hR h)
theorem G1 {i k pos} {Q:AV→Al→Prop} (h:Q (.int i) σ):Ev C A E env (.Constant (.int i) k pos) σ Q:=fun F G s hR=>wpAny_Constant_int (Aw.of (.int i _) (hR.tok _) h)
theorem Wd.gzx {hp:HP} (W:Wd C F G hp s) {b:Addr} {o:Obj} (e:G b=some o) (hd:∀es ep,o.data≠.dict es ep):s.heap.get? b=some o:=by
 refine xa1_2 (W.gz b o e) ?_;intro o' h1 h2
 rw [←h2.exact hd];exact h1
noncomputable def CF:Option NameKind→Bool
 |some .local=>true
 |some .cell=>true
 |some .free=>true
 |_=>false
theorem Mg {x:Str} {av:AV} {Q:Value→Shared→Prop} (hR:Rp C A F G env σ s) (hv:σ.loc.lookup x=some av) (hk:CF (env.kindOf x)=true) (hn:(x == ("__classdict__" : Str))=false)
  (h:∀v,VR F av v→Q v s):wpAny (model C.prog C.w) A (loadName env x) Q E s:=by
 cases q:env.kindOf x with
 |none=>rw [q] at hk;exact Bu hk
 |some kd=>
  rw [q] at hk
  cases kd<;>first|(first|exact Bu hk|cases hk)|skip
  ·refine xa1_2 hR.fm.ns ?_;intro m hm hv'
   refine xa1_2 (hv' x av hv q) ?_;intro v h1 h2
   exact wpAny_loadName_local hR.fm.kind q hm h1 (h v h2)
  ·refine xa1_2 (hR.fm.co x q) ?_;intro c hc zu
   refine xa1_2 (hR.fm.cv x av c hv q hc) ?_;intro v h1 h2
   exact wpAny_loadName_cell hR.fm.kind q hc h1 (h v h2)
  ·refine xa3_4 (hR.fm.fv x av hv q) ?_;intro c v o h1 h2 h3 h4
   exact wpAny_loadName_free hR.fm.kind q h1 ⟨o,hR.wd.gzx h2 (by intro es ep z;rw [h3] at z;cases z),h3⟩ (h v h4) hn
theorem Ac {x pos av} {Q:AV→Al→Prop} (hv:σ.loc.lookup x=some av) (h:Q av σ) (hk:autoParam (CF (env.kindOf x)=true) AC.aux0._auto_1)
  (hd:autoParam ((x == ("__debug__" : Str))=false) AC.aux1._auto_1) (hn:autoParam ((x == ("__classdict__" : Str))=false) AC.aux1._auto_1):Ev C A E env (.Name x pos) σ Q:=
 fun F G s hR=>wpAny_Name (Mg hR hv hk hn fun v hv=>Aw.of hv hR h) hd
noncomputable def GL (C:Cf) (x:Str) (v:Value):Prop:=∀env:Env,env.globals=mainGlobals→env.builtins=builtinsNs→Looks (model C.prog C.w) C.h0 (loadGlobal env x) v
theorem Wd.old {hp:HP} (W:Wd C F G hp s):∀b o,C.h0.get? b=some o→s.heap.get? b=some o:=fun b o e=>W.fz _ _ (W.base _ _ e)
theorem EV {env:Env} {x:Str} (hs:env.scope.kind=.function) (hk:env.kindOf x=some .globalImplicit):loadName env x=loadGlobal env x:=by
 unfold loadName
 simp only [Env.blockKind,hs,hk,ScopeKind.isAnnotationScope,Bool.false_and,Bool.false_eq_true,if_false]
theorem He {x pos v} {Q:AV→Al→Prop} (av:AV) (hg:GL C x v) (ha:∀F,VR F av v) (h:Q av σ) (hk:autoParam (env.kindOf x=some .globalImplicit) AC.aux0._auto_1) (hs:autoParam (env.scope.kind=.function) AC.aux0._auto_1) (h1:autoParam (env.globals=mainGlobals) AC.aux0._auto_1) (h2:autoParam (env.builtins=builtinsNs) AC.aux0._auto_1)
  (hd:autoParam ((x == ("__debug__" : Str))=false) AC.aux1._auto_1):Ev C A E env (.Name x pos) σ Q:=by
 intro F G s hR
 refine wpAny_Name ?_ hd
 rw [EV hs hk]
 exact hg env h1 h2 A _ E s hR.wd.old (Aw.of (ha F) hR h)
theorem DI {x pos a} {Q:AV→Al→Prop} (hg:GL C x (.ref a)) (h:Q (.ref a) σ) (hk:autoParam (env.kindOf x=some .globalImplicit) AC.aux0._auto_1) (hs:autoParam (env.scope.kind=.function) AC.aux0._auto_1) (h1:autoParam (env.globals=mainGlobals) AC.aux0._auto_1) (h2:autoParam (env.builtins=builtinsNs) AC.aux0._auto_1)
  (hd:autoParam ((x == ("__debug__" : Str))=false) AC.aux1._auto_1):Ev C A E env (.Name x pos) σ Q:=He _ hg (fun F=>.ref a) h hk hs h1 h2 hd
theorem Bt {x pos v} {Q:AV→Al→Prop} (hg:GL C x v) (h:Q (.val v) σ) (hk:autoParam (env.kindOf x=some .globalImplicit) AC.aux0._auto_1) (hs:autoParam (env.scope.kind=.function) AC.aux0._auto_1) (h1:autoParam (env.globals=mainGlobals) AC.aux0._auto_1) (h2:autoParam (env.builtins=builtinsNs) AC.aux0._auto_1)
  (hd:autoParam ((x == ("__debug__" : Str))=false) AC.aux1._auto_1):Ev C A E env (.Name x pos) σ Q:=He _ hg (fun F=>.val v) h hk hs h1 h2 hd
theorem C6 {x:Str} {av:AV} {v:Value} {Q:Unit→Shared→Prop} (hR:Rp C A F G env σ s) (hv:VR F av v) (hk:env.kindOf x=some .local∨env.kindOf x=some .cell)
  (h:∀s',Rp C A F G env (σ.set x av) s'→Q () s'):wpAny (model C.prog C.w) A (storeName env x v) Q E s:=by
 refine cps fun zP zk=>?_;(rcases hR.fm with ⟨kd,⟨m,hm,hmv⟩,⟨l1,l2,l3⟩,co,ci,cv,fv⟩)<;>(refine zk ?_;clear zk zP)
 have hfs:=hR.fs
 rcases hk with hk|hk
 ·refine wpAny_storeName_local hk hm (fun h' hn hs=>h _ ⟨?_,?_,hfs⟩) (by rw [kd];rfl)
  ·exact hR.wd.keepBut l1 l2 l3 fun b o ne e=>(hs.2 b ne).trans e
  ·refine ⟨kd,⟨_,hn,fun y aw hl hy=>?_⟩,⟨l1,l2,l3⟩,fun y hy=>?_,ci,fun y aw c hl hy hc=>?_,fun y aw hl hy=>?_⟩
   ·rw [AI] at hl
    by_cases e:y=x
    ·subst e;simp only [if_true] at hl ⊢;(have zc:=Option.some.inj hl;clear hl;subst zc);exact ⟨v,rfl,hv⟩
    ·simp only [e,if_false] at hl ⊢;exact hmv y aw hl hy
   ·refine cps fun zP zk=>?_;(rcases co y hy with ⟨c,h1,h2,h3,h4,h5,u,h6⟩)<;>(refine zk ?_;clear zk zP)
    exact ⟨c,h1,h2,h3,h4,h5,u,h6.sameBut hs h5⟩
   ·have e:y≠x:=fun zE=>by (first|rw [zE,hk] at hy|rw [←zE,hk] at hy);cases hy
    rw [AI,if_neg e] at hl
    refine xa1_2 (cv y aw c hl hy hc) ?_;intro u h1 h2
    refine xa1_6 (co y hy) ?_;intro c' g1 zu zu zu g5 zu
    rw [hc] at g1;(have zc:=Option.some.inj g1;clear g1;subst zc)
    exact ⟨u,h1.sameBut hs g5,h2⟩
   ·have e:y≠x:=fun zE=>by (first|rw [zE,hk] at hy|rw [←zE,hk] at hy);cases hy
    rw [AI,if_neg e] at hl
    exact fv y aw hl hy
 ·refine cps fun zP zk=>?_;(rcases co x hk with ⟨c,h1,h2,h3,h4,h5,u,h6⟩)<;>(refine zk ?_;clear zk zP)
  refine wpAny_storeName_cell kd hk h1 h6 fun h' hc' hs=>h _ ⟨?_,?_,hfs⟩
  ·exact hR.wd.keepBut h2 h3 h4 fun b o ne e=>(hs.2 b ne).trans e
  ·refine ⟨kd,⟨m,hm.sameBut hs h5.symm,fun y aw hl hy=>?_⟩,⟨l1,l2,l3⟩,fun y hy=>?_,ci,fun y aw d hl hy hd=>?_,fun y aw hl hy=>?_⟩
   ·have e:y≠x:=fun zE=>by (first|rw [zE,hk] at hy|rw [←zE,hk] at hy);cases hy
    rw [AI,if_neg e] at hl
    exact hmv y aw hl hy
   ·refine cps fun zP zk=>?_;(rcases co y hy with ⟨d,g1,g2,g3,g4,g5,u',g6⟩)<;>(refine zk ?_;clear zk zP)
    by_cases e:d=c
    ·subst e;exact ⟨d,g1,g2,g3,g4,g5,_,hc'⟩
    ·exact ⟨d,g1,g2,g3,g4,g5,u',g6.sameBut hs e⟩
   ·rw [AI] at hl
    by_cases e:y=x
    ·subst e
     simp only [if_true] at hl;(have zc:=Option.some.inj hl;clear hl;subst zc)
     rw [h1] at hd;(have zc:=Option.some.inj hd;clear hd;subst zc)
     exact ⟨v,hc',hv⟩
    ·rw [if_neg e] at hl
     refine xa1_2 (cv y aw d hl hy hd) ?_;intro u' g1 g2
     have ne:d≠c:=by rintro rfl;exact e (ci y x d hy hk hd h1)
     exact ⟨u',g1.sameBut hs ne,g2⟩
   ·have e:y≠x:=fun zE=>by (first|rw [zE,hk] at hy|rw [←zE,hk] at hy);cases hy
    rw [AI,if_neg e] at hl
    exact fv y aw hl hy
noncomputable def DR:Option NameKind→Bool
 |some .local=>true
 |some .cell=>true
 |_=>false
theorem Ds {k:Option NameKind} (h:DR k=true):k=some .local∨k=some .cell:=by
 cases k with
 |none=>exact Bu h
 |some k=>cases k<;>first|exact .inl rfl|exact .inr rfl|(first|exact Bu h|cases h)
theorem Ai {x pos' value pos} {Q:A6→Al→Prop} (h:Ev C A E env value σ (fun v σ'=>Q .next (σ'.set x v))) (hk:autoParam (DR (env.kindOf x)=true) AC.aux0._auto_1)
  (hs:autoParam (swapsWith value (some (.Name x pos')) pos.line env=pure false) AC.aux0._auto_1):Ex C A E env (.Assign [.Name x pos'] value pos) σ Q:=by
 intro F G s hR
 refine wpAny_Assign_Name (h.use hR fun F' b σ' v s' e hv hR' hQ=>?_) hs
 exact C6 hR' hv (Ds hk) fun s'' hR''=>Aw.ext e (Aw.of .next hR'' hQ)
theorem Cg {e pos} {Q:A6→Al→Prop} (h:Ev C A E env e σ (fun v σ'=>Q (.ret v) σ')):Ex C A E env (.Return (some e) pos) σ Q:=by
 intro F G s hR
 exact wpAny_Return_some (h.use hR fun F' b σ' v s' e hv hR' hQ=>Aw.ext e (Aw.of (.ret hv) hR' hQ))
theorem D5 {pos} {Q:A6→Al→Prop} (h:Q (.ret .none) σ):Ex C A E env (.Return none pos) σ Q:=
 fun F G s hR=>wpAny_Return_none (Aw.of (.ret .none) hR h)
theorem G0 {pos} {Q:A6→Al→Prop} (h:Q .brk σ):Ex C A E env (.Break pos) σ Q:=fun F G s hR=>wpAny_Break (Aw.of .brk hR h)
theorem Fx {pos} {Q:A6→Al→Prop} (h:Q .cont σ):Ex C A E env (.Continue pos) σ Q:=fun F G s hR=>wpAny_Continue (Aw.of .cont hR h)
end
end
section
section
variable {C:Cf} {A:Around} {E:Value→Shared→Prop} {env:Env} {σ:Al} {F G:FH} {s:Shared}
noncomputable def H7 {α β:Type} (C:Cf) (A:Around) (E:Value→Shared→Prop) (env:Env) (R:FH→β→α→Prop) (f:Value→Sem α) (x:AV) (σ:Al) (Q:β→Al→Prop):Prop:=
 ∀F G s v,Rp C A F G env σ s→VR F x v→wpAny (model C.prog C.w) A (f v) (Aw C A G env R Q F) E s
noncomputable def EI {α β:Type} (C:Cf) (A:Around) (E:Value→Shared→Prop) (env:Env) (R:FH→β→α→Prop) (f:Value→Value→Sem α) (x y:AV) (σ:Al) (Q:β→Al→Prop):Prop:=
 ∀F G s v u,Rp C A F G env σ s→VR F x v→VR F y u→wpAny (model C.prog C.w) A (f v u) (Aw C A G env R Q F) E s
theorem H7.at {α β:Type} {R:FH→β→α→Prop} {f:Value→Sem α} {x:AV} {Q:β→Al→Prop} (h:H7 C A E env R f x σ Q) {F₀:FH} (e:AG F₀ F) (hR:Rp C A F G env σ s) {v:Value} (hv:VR F x v) :
  wpAny (model C.prog C.w) A (f v) (Aw C A G env R Q F₀) E s:=wpAny_mono (h F G s v hR hv) (fun zu zu z=>Aw.ext e z) fun zu zu x=>x
theorem EI.at {α β:Type} {R:FH→β→α→Prop} {f:Value→Value→Sem α} {x y:AV} {Q:β→Al→Prop} (h:EI C A E env R f x y σ Q) {F₀:FH} (e:AG F₀ F) (hR:Rp C A F G env σ s) {v u:Value} (hv:VR F x v) (hu:VR F y u) :
  wpAny (model C.prog C.w) A (f v u) (Aw C A G env R Q F₀) E s:=wpAny_mono (h F G s v u hR hv hu) (fun zu zu z=>Aw.ext e z) fun zu zu x=>x
theorem Aq {value:Expr} {attr:Str} {pos:Pos} {Q:AV→Al→Prop} (h:Ev C A E env value σ (fun o σ'=>H7 C A E env VR (fun v=>getAttr v attr true) o σ' Q))
  (hb:autoParam (attributeBase value attr env (eval value env)=eval value env) AC.aux0._auto_1):Ev C A E env (.Attribute value attr pos) σ Q:=by
 intro F G s hR
 rw [arm_eval_Attribute,hb]
 refine wpAny_bind (h.use hR fun F' b σ' v s' e hv hR' hQ=>wpAny_bind (wpAny_standAt (wpAny_bind (wpAny_holding (wpAny_mono (hQ.at e hR' hv) (fun r s₂ z=>?_) fun zu zu x=>x)))))
 exact wpAny_bind (wpAny_letTemporaryGo (wpAny_pure z))
theorem JE {l r:Expr} {op:Operator} {pos:Pos} {Q:AV→Al→Prop} (h:Ev C A E env l σ (fun a σ₁=>Ev C A E env r σ₁ (fun b σ₂=>EI C A E env VR (binaryOp op) a b σ₂ Q))):Ev C A E env (.BinOp l op r pos) σ Q:=by
 intro F G s hR
 refine wpAny_BinOp (h.use hR fun F₁ a σ₁ va s₁ e₁ ha hR₁ h₁=>h₁.use hR₁ fun F₂ b σ₂ vb s₂ e₂ hb hR₂ h₂=>?_)
 exact h₂.at (e₁.trans e₂) hR₂ (ha.mono e₂) hb
theorem Pj {l r:Expr} {op:CmpOp} {pos:Pos} {Q:AV→Al→Prop} (h:Ev C A E env l σ (fun a σ₁=>Ev C A E env r σ₁ (fun b σ₂=>EI C A E env VR (compareOp op) a b σ₂ Q)))
  (hm:autoParam (behindInMarks op r=false) AC.aux2._auto_1):Ev C A E env (.Compare l [op] [r] pos) σ Q:=by
 intro F G s hR
 refine wpAny_Compare1 (h.use hR fun F₁ a σ₁ va s₁ e₁ ha hR₁ h₁=>h₁.use hR₁ fun F₂ b σ₂ vb s₂ e₂ hb hR₂ h₂=>?_) hm
 exact h₂.at (e₁.trans e₂) hR₂ (ha.mono e₂) hb
theorem Be {l r:Expr} {op:CmpOp} {pos:Pos} {Q:Bool→Al→Prop} (h:Ev C A E env l σ (fun a σ₁=>Ev C A E env r σ₁ (fun b σ₂=>EI C A E env VR (compareOp op) a b σ₂ (fun c σ₃=>∃t,c=.bool t∧Q t σ₃))))
  (hm:autoParam (behindInMarks op r=false) AC.aux2._auto_1):Et C A E env (.Compare l [op] [r] pos) σ Q:=by
 intro F G s hR
 refine wpAny_isTrue_Compare1 (h.use hR fun F₁ a σ₁ va s₁ e₁ ha hR₁ h₁=>h₁.use hR₁ fun F₂ b σ₂ vb s₂ e₂ hb hR₂ h₂=>?_) hm
 refine wpAny_mono (h₂.at (e₁.trans e₂) hR₂ (ha.mono e₂) hb) (fun c s₃ z=>?_) fun zu zu x=>x
 refine cps fun zP zk=>?_;(rcases z with ⟨F',b,σ',a1,a2,a3,t,rfl,a4⟩)<;>(refine zk ?_;clear zk zP)
 (have zc:=VR.boolI a2;clear a2;subst zc)
 exact wpAny_truthy_bool ⟨F',t,σ',a1,rfl,a3,a4⟩
theorem Pk {x:Expr} {pos:Pos} {Q:Bool→Al→Prop} (h:Et C A E env x σ (fun b σ'=>Q (!b) σ')):Et C A E env (.UnaryOp .Not x pos) σ Q:=by
 intro F G s hR
 show wpAny _ _ (do return !(←isTrue x env (eval x env))) _ _ _
 exact wpAny_bind (h.use hR fun F₁ b σ₁ v s₁ e₁ ha hR₁ h₁=>wpAny_pure ⟨F₁,_,σ₁,e₁,by rw [ha],hR₁,h₁⟩)
theorem Pl {x y:Expr} {pos:Pos} {Q:Bool→Al→Prop} (h:Et C A E env x σ (fun b σ'=>match b with|true=>Et C A E env y σ' Q|false=>Q false σ')):Et C A E env (.BoolOp .And [x,y] pos) σ Q:=by
 intro F G s hR
 show wpAny _ _ (do match BoolOp.And,←isTrue x env (eval x env) with|.And,false=>pure false|.Or,true=>pure true|_,_=>(do match BoolOp.And,←isTrue y env (eval y env) with|.And,false=>pure false|.Or,true=>pure true|_,_=>pure (BoolOp.And == BoolOp.And))) _ _ _
 refine wpAny_bind (h.use hR fun F₁ b σ₁ v s₁ e₁ ha hR₁ h₁=>?_)
 subst ha
 cases b with
 |false=>exact wpAny_pure ⟨F₁,_,σ₁,e₁,rfl,hR₁,h₁⟩
 |true=>
  refine wpAny_bind (h₁.use hR₁ fun F₂ b σ₂ v s₂ e₂ ha hR₂ h₂=>?_)
  subst ha
  cases b<;>exact wpAny_pure ⟨F₂,_,σ₂,e₁.trans e₂,rfl,hR₂,h₂⟩
noncomputable def DC:Expr→Bool
 |.UnaryOp .Not ..=>false
 |.BoolOp ..=>false
 |.IfExp ..=>false
 |.Compare ..=>false
 |_=>true
theorem E5 {x:Expr} (hp:DC x=true):isTrue x env (eval x env)=(do let v ←eval x env;standAt x.pos;holding [v] (truthy v)):=by
 cases x<;>first|rfl|(first|exact Bu hp|cases hp)|(rename_i op _ _;cases op<;>first|rfl|(first|exact Bu hp|cases hp))
theorem Bl {x:Expr} {Q:Bool→Al→Prop} (h:Ev C A E env x σ (fun v σ'=>H7 C A E env (fun zu b b'=>b=b') truthy v σ' Q)) (hp:autoParam (DC x=true) AC.aux0._auto_1):Et C A E env x σ Q:=by
 intro F G s hR
 rw [E5 hp]
 exact wpAny_bind (h.use hR fun F₁ a σ₁ va s₁ e₁ ha hR₁ h₁=>wpAny_bind (wpAny_standAt (wpAny_holding (h₁.at e₁ hR₁ ha))))
theorem AQ {b:Bool} {Q:Bool→Al→Prop} (h:Q b σ):H7 C A E env (fun zu b b'=>b=b') truthy (.bool b) σ Q:=by
 intro F G s v hR hv
 (have zc:=VR.boolI hv;clear hv;subst zc)
 exact wpAny_truthy_bool (Aw.of rfl hR h)
theorem FG {x:AV} {Q:AV→Al→Prop} (hx:∃a,x=.ref a) (h:Q (.bool false) σ):EI C A E env VR (compareOp .Is) x .none σ Q:=by
 intro F G s v u hR hv hu
 refine xa1_1 hx ?_;(try clear hx);intro a;rintro rfl
 (have zc:=VR.refI hv;clear hv;subst zc);(have zc:=VR.noneI hu;clear hu;subst zc)
 exact is_ref_none (Aw.of (.bool _) hR h)
theorem Cb {Q:AV→Al→Prop} (h:Q (.bool true) σ):EI C A E env VR (compareOp .Is) .none .none σ Q:=by
 intro F G s v u hR hv hu
 (have zc:=VR.noneI hv;clear hv;subst zc);(have zc:=VR.noneI hu;clear hu;subst zc)
 exact wpAny_is_self rfl (Aw.of (.bool _) hR h)
theorem EA {gens} {x:AO} {o:Obj} (h:OR C F gens x o) (hx:∀loc,x≠.frame loc) (hf:∀c vs,(x=.fields c vs∨x=.itr c vs)→c≠"tuple"):o.cls≠.type "tuple":=by
 cases h with
 |list a=>rw [a];simp
 |dict a=>rw [a.1];simp
 |tdict a=>rw [a.1];simp
 |iset a=>rw [a.1];simp
 |ns a=>rw [a.1];simp
 |inst=>simp
 |slot=>simp
 |fields a=>rw [a];simpa using hf _ _ (.inl rfl)
 |itr a=>rw [a];simpa using hf _ _ (.inr rfl)
 |frame=>exact absurd rfl (hx _)
 |gen a=>rw [a];simp
theorem OP {a b:Addr} {x y:AO} {Q:AV→Al→Prop} (ha:σ.hp a=some x) (hb:σ.hp b=some y) (hx:(∃K vs,x=.slot K vs)∨∃K d,x=.inst K d) (h:Q (.bool (decide (a=b))) σ):EI C A E env VR (compareOp .Is) (.ref a) (.ref b) σ Q:=by
 intro F G s v u hR hv hu
 (have zc:=VR.refI hv;clear hv;subst zc);(have zc:=VR.refI hu;clear hu;subst zc)
 by_cases e:a=b
 ·subst e
  exact wpAny_is_ref_self (Aw.of (.bool _) hR (by simpa using h))
 ·refine cps fun zP zk=>?_;(rcases hR.wd.ob a x ha with ⟨zu,zu,o,ho,r⟩)<;>(refine zk ?_;clear zk zP)
  refine cps fun zP zk=>?_;(rcases hR.wd.ob b y hb with ⟨zu,zu,o',ho',r'⟩)<;>(refine zk ?_;clear zk zP)
  exact wpAny_is_ref_other e ho ho' (EA r (by rcases hx with ⟨zu,zu,rfl⟩|⟨zu,zu,rfl⟩<;>simp) (by rcases hx with ⟨zu,zu,rfl⟩|⟨zu,zu,rfl⟩<;>simp)) (Aw.of (.bool _) hR (by simpa [e] using h))
theorem KQ {a b:Addr} {x y:AO} {Q:AV→Al→Prop} (ha:σ.hp a=some x) (hb:σ.hp b=some y) (hx:(∃K vs,x=.slot K vs)∨∃K d,x=.inst K d) (h:Q (.bool (!decide (a=b))) σ):EI C A E env VR (compareOp .IsNot) (.ref a) (.ref b) σ Q:=by
 intro F G s v u hR hv hu
 (have zc:=VR.refI hv;clear hv;subst zc);(have zc:=VR.refI hu;clear hu;subst zc)
 by_cases e:a=b
 ·subst e
  exact wpAny_isNot_ref_self (Aw.of (.bool _) hR (by simpa using h))
 ·refine cps fun zP zk=>?_;(rcases hR.wd.ob a x ha with ⟨zu,zu,o,ho,r⟩)<;>(refine zk ?_;clear zk zP)
  refine cps fun zP zk=>?_;(rcases hR.wd.ob b y hb with ⟨zu,zu,o',ho',r'⟩)<;>(refine zk ?_;clear zk zP)
  exact wpAny_isNot_ref_other e ho ho' (EA r (by rcases hx with ⟨zu,zu,rfl⟩|⟨zu,zu,rfl⟩<;>simp) (by rcases hx with ⟨zu,zu,rfl⟩|⟨zu,zu,rfl⟩<;>simp)) (Aw.of (.bool _) hR (by simpa [e] using h))
end
end
section
noncomputable def C2 (C:Cf) (Cl:Addr) (name:Str) (i:Nat):Prop:=∃(K:Frag) (p:Addr),K.In C.h0 ∧
 findIn K (.ref Cl) "__getattribute__" = some (some (.builtin "object.__getattribute__"))∧findIn K (.ref Cl) "__getattr__" = some none ∧
 findObj K Cl (some emptyDict) name=some (.bind (.builtin "member_descriptor.__get__") (.ref p))∧slotIn K p Cl=some i ∧
 findIn K (.ref Cl) "__setattr__" = some (some (.builtin "object.__setattr__"))∧plainOver K Cl=true∧takerIn K Cl name=some (some (.ref p)) ∧
 typeIn K (.ref p)=some (.type "member_descriptor")∧i<1000
noncomputable def H8 (C:Cf) (Cl:Addr) (name:Str):Prop:=∃(K:Frag) (cd:ClassData),K.In C.h0 ∧
 findIn K (.ref Cl) "__getattribute__" = some (some (.builtin "object.__getattribute__"))∧findIn K (.ref Cl) "__getattr__" = some none ∧
 clsIn K Cl=some cd∧cd.hasDict=true∧findIn K (.ref Cl) name=some none ∧
 findIn K (.ref Cl) "__setattr__" = some (some (.builtin "object.__setattr__"))∧plainOver K Cl=true∧takerIn K Cl name=some none
section
variable {C:Cf} {A:Around} {E:Value→Shared→Prop} {env:Env} {σ:Al} {F G:FH} {s:Shared}
theorem VR.handed {x:AV} {v:Value} (h:VR F x v) (hx:∀u,x≠.val u):handedIn v=true:=by
 cases h<;>first|rfl|exact absurd rfl (hx _)
theorem B8.join {xs vs} (h:B8 F xs vs) {i:Nat} {x} (e:xs[i]? = some (some x)):∃v,(vs.toArray[i]?).join=some v∧VR F x v:=by
 refine xa1_2 (h.get e) ?_;intro v h1 h2
 exact ⟨v,by rw [List.getElem?_toArray,h1];rfl,h2⟩
theorem Bx {a Cl:Addr} {name:Str} {i:Nat} {vs:List (Option AV)} {x:AV} {Q:AV→Al→Prop} (hs:C2 C Cl name i) (ha:σ.hp a=some (.slot Cl vs)) (hx:vs[i]? = some (some x)) (h:Q x σ)
  (hv:autoParam (∀u,x≠.val u) AC.aux3._auto_1):H7 C A E env VR (fun v=>getAttr v name true) (.ref a) σ Q:=by
 intro F G s v hR hv'
 (have zc:=VR.refI hv';clear hv';subst zc)
 refine xa2_6 hs ?_;(try clear hs);intro K p X g1 g2 g3 g4 zu
 refine cps fun zP zk=>?_;(rcases hR.wd.ob a _ ha with ⟨zu,zu,o,ho,r⟩)<;>(refine zk ?_;clear zk zP)
 (refine OR.slotC r fun zv zv zo hd zs=>?_;clear r;subst zo)
 refine xa1_2 (zs.join hx) ?_;intro v j hvr
 have X':=X.keeps hR.wd.old
 have I:InstAt s.heap a _ Cl (some emptyDict):=⟨ho,rfl,rfl,hR.wd.fz _ _ hd⟩
 refine get_bind X' I g1 g3 g2 (wpAny_call (slot_get (s:={ s with toks:=s.toks+1 }) (od:=some emptyDict) X' ⟨ho,rfl,rfl,hR.wd.fz _ _ hd⟩ g4 j ?_))
 show wpAny _ _ (handedOut v) _ _ _
 rw [handedOut_of (hvr.handed hv)]
 exact wpAny_pure (Aw.of hvr (hR.tok _) h)
theorem NR.look {P:Params} {fs:List (Str×AV)} {ds:List DictEntry} (h:NR P F fs ds) {name:Str} {x:AV} (e:fs.lookup name=some x):∃en,ds.find? (·.key.isStr name)=some en∧VR F x en.val:=by
 induction h with
 |nil=>exact Ak e
 |@cons k v es en ds t a b c zu ih=>
  simp only [List.lookup] at e
  by_cases q:name=k
  ·subst q
   simp only [beq_self_eq_true] at e;(have zc:=Option.some.inj e;clear e;subst zc)
   exact ⟨en,by simp [b,Value.isStr],c⟩
  ·simp only [beq_eq_false_iff_ne.mpr q] at e
   refine xa1_2 (ih e) ?_;intro en' h1 h2
   refine ⟨en',?_,h2⟩
   rw [List.find?_cons,b]
   have:(Value.str k t).isStr name=false:=by simp [Value.isStr,Ne.symm q]
   rw [this];exact h1
theorem NR.noRef {P:Params} {fs:List (Str×AV)} {ds:List DictEntry} (h:NR P F fs ds):ds.any (·.refKey)=false:=by
 induction h with
 |nil=>rfl
 |cons a b c zu ih=>rw [List.any_cons,ih];simp [DictEntry.refKey,b]
theorem Bv {a d Cl:Addr} {name:Str} {fs:List (Str×AV)} {x:AV} {Q:AV→Al→Prop} (hs:H8 C Cl name) (ha:σ.hp a=some (.inst Cl d)) (hd:σ.hp d=some (.ns fs)) (hx:fs.lookup name=some x) (h:Q x σ)
  (hv:autoParam (∀u,x≠.val u) AC.aux3._auto_1):H7 C A E env VR (fun v=>getAttr v name true) (.ref a) σ Q:=by
 intro F G s v hR hv'
 (have zc:=VR.refI hv';clear hv';subst zc)
 refine xa2_7 hs ?_;(try clear hs);intro K cd X g1 g2 g3 g4 g5 zu
 refine cps fun zP zk=>?_;(rcases hR.wd.ob a _ ha with ⟨zu,zu,o,ho,r⟩)<;>(refine zk ?_;clear zk zP)
 refine cps fun zP zk=>?_;(rcases hR.wd.ob d _ hd with ⟨zu,zu,od,hod,rd⟩)<;>(refine zk ?_;clear zk zP)
 (refine OR.instC r fun zo=>?_;clear r;subst zo)
 (refine OR.nsC rd fun zv zv hex hda hnr=>?_;clear rd)
 refine xa1_2 (hnr.look hx) ?_;intro en h1 h2
 have X':=X.keeps hR.wd.old
 have I:InstAt s.heap a _ Cl (some od):=⟨ho,rfl,rfl,hod⟩
 have hf:findObj K Cl (some od) name=some (.value en.val):=by
  unfold findObj
  rw [g3,Option.bind_some,g5]
  simp only [Option.bind_some,PySem.W.ownOf,g4,if_true,lookIn,hda,h1]
 exact get_value X' I g1 hf (h2.handed hv) (Aw.of h2 (hR.tok _) h)
theorem An {o value:Expr} {attr:Str} {pos' pos:Pos} {Q:A6→Al→Prop}
  (h:Ev C A E env value σ (fun v σ₁=>Ev C A E env o σ₁ (fun b σ₂=>EI C A E env (fun zu (zu:Unit) (zu:Unit)=>True) (fun u w=>setAttr w attr u) v b σ₂ (fun zu σ₃=>Q .next σ₃))))
  (hs:autoParam (swapsWith value (some (.Attribute o attr pos')) pos.line env=pure false) AC.aux0._auto_1):Ex C A E env (.Assign [.Attribute o attr pos'] value pos) σ Q:=by
 intro F G s hR
 refine plainObj_wpAny_Assign_Attribute (h.use hR fun F₁ a σ₁ va s₁ e₁ ha hR₁ h₁=>h₁.use hR₁ fun F₂ b σ₂ vb s₂ e₂ hb hR₂ h₂=>?_) hs
 refine wpAny_mono (h₂.at (e₁.trans e₂) hR₂ (ha.mono e₂) hb) (fun c s₃ z=>?_) fun zu zu x=>x
 refine cps fun zP zk=>?_;(rcases z with ⟨F',b,σ',a1,zu,a3,a4⟩)<;>(refine zk ?_;clear zk zP)
 exact ⟨F',.next,σ',a1,.next,a3,a4⟩
noncomputable def setSlot (vs:List (Option AV)) (i:Nat) (x:AV):List (Option AV):=(vs++List.replicate (i+1 - vs.length) none).set i (some x)
theorem B8.append {xs vs ys us} (h:B8 F xs vs) (k:B8 F ys us):B8 F (xs++ys) (vs++us):=by
 induction h with
 |nil=>exact k
 |cons a zu ih=>exact .cons a ih
theorem B8.nones (n:Nat):B8 F (List.replicate n none) (List.replicate n none):=by
 induction n with
 |zero=>exact .nil
 |succ n ih=>exact .cons .none ih
theorem B8.setSlot {xs vs} (h:B8 F xs vs) (i:Nat) {x v} (hv:VR F x v) :
  B8 F (setSlot xs i x) ((vs++List.replicate (i+1 - vs.length) none).set i (some v)):=by
 unfold AC.setSlot
 rw [h.length]
 exact (h.append (.nones _)).set i (.some hv)
theorem LF (us:List (Option Value)) (i:Nat) (v:Value):(us.toArray++Array.replicate (i+1 - us.toArray.size) none).setIfInBounds i (some v)=((us++List.replicate (i+1 - us.length) none).set i (some v)).toArray:=by
 apply Array.ext'
 simp [Array.toList_setIfInBounds]
theorem Rp.changeN (R:Rp C A F G env σ s) {h':Heap} {t:Nat} {c:Addr} {x x':AO} {o':Obj} (e:σ.hp c=some x) (hx:Db x'=false) (ho:h'.get? c=some o') (r:OR C F s.gens x' o')
  (k:∀b o,b≠c→b≠env.locals→s.heap.get? b=some o→h'.get? b=some o) (kn:∀m,s.heap.Ns env.locals m→h'.Ns env.locals m):Rp C A F G env { σ with hp:=upd σ.hp c x' } ⟨h',s.gens,s.drawn,t,s.os⟩:=by
 refine cps fun zP zk=>?_;(rcases R.fm with ⟨kd,⟨m,hm,hv⟩,⟨l1,l2,l3⟩,co,ci,cv,fv⟩)<;>(refine zk ?_;clear zk zP)
 refine xa0_3 (R.wd.ob c x e) ?_;intro hF hG zu
 have nc:env.locals≠c:=by rintro q;rw [q,e] at l3;exact Ap l3
 refine ⟨⟨R.wd.base,fun b o q=>k _ _ (AP hF q) (AP l1 q) (R.wd.fz b o q),fun b o q=>let ⟨o',z,r⟩:=R.wd.gz b o q;⟨o',k _ _ (AP hG q) (AP l2 q) z,r⟩,fun a y e'=>?_,R.wd.os,R.wd.bare,fun a b g gs gs' ea eb=>?_,R.wd.fg⟩,?_,R.fs⟩
 ·dsimp only at e'
  by_cases h:a=c
  ·subst h
   rw [Ae] at e';(have zc:=Option.some.inj e';clear e';subst zc)
   exact ⟨hF,hG,o',ho,r⟩
  ·rw [Ad _ _ h] at e'
   refine cps fun zP zk=>?_;(rcases R.wd.ob a y e' with ⟨p,q,o,ho',r'⟩)<;>(refine zk ?_;clear zk zP)
   exact ⟨p,q,o,k _ _ h (AP l3 e') ho',r'⟩
 ·dsimp only at ea eb
  have na:a≠c:=fun zE=>by (first|rw [zE,Ae] at ea|rw [←zE,Ae] at ea);(have zc:=Option.some.inj ea;clear ea;subst zc);exact CZ hx
  have nb:b≠c:=fun zE=>by (first|rw [zE,Ae] at eb|rw [←zE,Ae] at eb);(have zc:=Option.some.inj eb;clear eb;subst zc);exact CZ hx
  rw [Ad _ _ na] at ea
  rw [Ad _ _ nb] at eb
  exact R.wd.gi _ _ _ _ _ ea eb
 ·refine ⟨kd,⟨m,kn m hm,hv⟩,⟨l1,l2,by show upd σ.hp c x' _=none;rw [Ad _ _ nc];exact l3⟩,fun y hy=>?_,ci,fun y av d h1 h2 h3=>?_,fv⟩
  ·refine cps fun zP zk=>?_;(rcases co y hy with ⟨d,g1,g2,g3,g4,g5,v,o,g6,g7⟩)<;>(refine zk ?_;clear zk zP)
   have nd:d≠c:=by rintro q;rw [q,e] at g4;exact Ap g4
   exact ⟨d,g1,g2,g3,by show upd σ.hp c x' _=none;rw [Ad _ _ nd];exact g4,g5,v,o,k _ _ nd g5 g6,g7⟩
  ·refine xa1_6 (co y h2) ?_;intro d' g1 g2 g3 g4 g5 zu
   rw [h3] at g1;(have zc:=Option.some.inj g1;clear g1;subst zc)
   have nd:d≠c:=by rintro q;rw [q,e] at g4;exact Ap g4
   refine xa1_2 (cv y av d h1 h2 h3) ?_;intro v;intro zq;refine xa1_2 zq ?_;(try clear zq);intro o g6 g7;intro g8
   exact ⟨v,⟨o,k _ _ nd g5 g6,g7⟩,g8⟩
theorem Mn (hR:Rp C A F G env σ s) {a:Addr} {x:AO} {o:Obj} (ha:σ.hp a=some x) (ho:s.heap.get? a=some o) :
  ∃m oth,Fr {} env.locals s.heap m∧News {} env.locals s.heap ([]++(a,o)::oth)∧(∀q∈oth,q.1≠a) ∧
   ∀h' o',Fr {} env.locals h' m→News {} env.locals h' ([]++(a,o')::oth) →
    h'.get? a=some o'∧(∀m',s.heap.Ns env.locals m'→h'.Ns env.locals m')∧∀b ob,b≠a→b≠env.locals→s.heap.get? b=some ob→h'.get? b=some ob:=by
 refine xa1_2 hR.fm.ns ?_;intro m hm zu
 have hne:a≠env.locals:=fun zE=>by (first|rw [zE,hR.fm.lo.2.2] at ha|rw [←zE,hR.fm.lo.2.2] at ha);exact Ak ha
 let oth:List (Addr×Obj):=(List.range s.heap.objs.size).filterMap fun b=>if b=a∨b=env.locals then none else (s.heap.get? b).map fun o=>(b,o)
 have hoth:∀q∈oth,q.1≠a∧q.1≠env.locals∧s.heap.get? q.1=some q.2:=by
  intro q hq
  refine xa1_2 (List.mem_filterMap.mp hq) ?_;intro b zu hb
  split at hb
  ·exact Ak hb
  ·rename_i hn
   refine xa1_2 (Option.map_eq_some_iff.mp hb) ?_;intro o' ho';rintro rfl
   simp only [not_or] at hn
   exact ⟨hn.1,hn.2,ho'⟩
 have hin:∀b o',s.heap.get? b=some o'→b≠a→b≠env.locals→(b,o')∈oth:=by
  intro b o' e h1 h2
  refine List.mem_filterMap.mpr ⟨b,List.mem_range.mpr (Heap.lt_size e),?_⟩
  rw [if_neg (by simp [h1,h2]),e];rfl
 refine ⟨m,oth,⟨hm,fun b o' e=>by simp [Heap.get?] at e,Nat.zero_le _⟩,?_,fun q hq=>(hoth q hq).1,fun h' o' F' N'=>⟨(N' (a,o') (List.mem_cons_self)).1,fun m' hm'=>?_,fun b ob h1 h2 e=>(N' (b,ob) (List.mem_cons_of_mem _ (hin b ob e h1 h2))).1⟩⟩
 ·intro q hq
  rcases List.mem_cons.mp hq with rfl|hq
  ·exact ⟨ho,hne,by simp [Heap.get?]⟩
  ·refine xa0_3 (hoth q hq) ?_;intro h1 h2 h3
   exact ⟨h3,h2,by simp [Heap.get?]⟩
 ·have:m'=m:=by
   refine xa3_4 hm ?_;(try clear hm);intro o1 es1 ep1 a1 a2 a3 a4
   refine xa3_4 hm' ?_;(try clear hm');intro o2 es2 ep2 b1 b2 b3 b4
   rw [a1] at b1;(have zc:=Option.some.inj b1;clear b1;subst zc)
   rw [a2] at b2;cases b2
   funext n;rw [←a4,←b4]
  rw [this];exact F'.ns
theorem Bo {a Cl:Addr} {name:Str} {i:Nat} {vs:List (Option AV)} {x:AV} {Q:Unit→Al→Prop} (hs:C2 C Cl name i) (ha:σ.hp a=some (.slot Cl vs)) (h:Q () (σ.put a (.slot Cl (setSlot vs i x)))) :
  EI C A E env (fun zu (zu:Unit) (zu:Unit)=>True) (fun u w=>setAttr w name u) x (.ref a) σ Q:=by
 intro F G s v u hR hv hu
 (have zc:=VR.refI hu;clear hu;subst zc)
 refine xa2_10 hs ?_;(try clear hs);intro K p X g1 g2 g3 g4 g5 g6 g7 g8 g9
 refine cps fun zP zk=>?_;(rcases hR.wd.ob a _ ha with ⟨hF,hG,o,ho,r⟩)<;>(refine zk ?_;clear zk zP)
 (refine OR.slotC r fun us d zo hd zs=>?_;clear r;subst zo)
 have X':=X.keeps hR.wd.old
 have I:InstAt s.heap a _ Cl (some emptyDict):=⟨ho,rfl,rfl,hR.wd.fz _ _ hd⟩
 refine set_plain X' I g5 (osa_descr KF.slot_mset (s:={ s with toks:=s.toks+1 }) (od:=some emptyDict) X' ⟨ho,rfl,rfl,hR.wd.fz _ _ hd⟩ g6 g7 g8 ?_)
 refine xa2_4 (Mn hR ha ho) ?_;intro m oth Fr0 N0 h1 back
 refine slot_set (s:={ s with toks:=s.toks+1 }) (od:=some emptyDict) Fr0 N0 X' ⟨ho,rfl,rfl,hR.wd.fz _ _ hd⟩ g4 g9 (fun zu hq=>nomatch hq) h1 rfl rfl fun h' F' N'=>?_
 refine xa0_3 (back h' _ F' N') ?_;intro b1 b2 b3
 refine ⟨F,(),_,AG.refl F,trivial,hR.changeN ha rfl b1 ?_ b3 b2,h⟩
 rw [LF]
 exact .slot hd (zs.setSlot i hv)
theorem NR.put {P:Params} {fs:List (Str×AV)} {ds:List DictEntry} (h:NR P F fs ds) {name:Str} {x:AV} {v:Value} (hv:VR F x v) (t:Tok) (f:Option DictEntry→DictEntry) (h1:∀e,f (some e)={ e with val:=v }) (h2:f none=⟨PyData.keyHash P name,.str name t,v⟩) :
  NR P F (Fy fs name x) (nsPutIn name.cps.size name.cps.toList f ds).1∧(nsPutIn name.cps.size name.cps.toList f ds).1.length≤ds.length+1:=by
 induction h with
 |nil=>exact ⟨by simp only [nsPutIn,Hk,Hj,h2];exact .cons rfl rfl hv .nil,Nat.le_refl _⟩
 |@cons k u es en ds t' a b c r ih=>
  simp only [Hk,Hj,nsPutIn,Value.isStrByCps_eq,b,Value.isStr]
  by_cases q:k=name
  ·subst q
   simp only [beq_self_eq_true,if_true,h1]
   exact ⟨.cons a b hv r,Nat.le_succ _⟩
  ·simp only [beq_eq_false_iff_ne.mpr q,Bool.false_eq_true,if_false]
   exact ⟨.cons a b c ih.1,Nat.succ_le_succ ih.2⟩
theorem NR.length {P:Params} {fs:List (Str×AV)} {ds:List DictEntry} (h:NR P F fs ds):ds.length=fs.length:=by
 induction h with
 |nil=>rfl
 |cons zu zu2 zu3 zu4 ih=>simp [ih]
theorem Hn {P:Params} {fs:List (Str×AV)} {name:Str} {t:Tok} {x:AV} {v:Value} {o:Obj} {ds:List DictEntry} {n:Nat} (hd:o.data=.dict ds.toArray n) (hex:o.ExactDict) (h:NR P F fs ds) (hv:VR F x v) :
  ∃es' n',(Obj.putName name (PyData.keyHash P name) (.str name t) v o).data=.dict (es':List DictEntry).toArray n'∧(Obj.putName name (PyData.keyHash P name) (.str name t) v o).ExactDict∧NR P F (Fy fs name x) es'∧es'.length≤ds.length+1:=by
 refine cps fun zP zk=>?_;(rcases o with ⟨c,d,dt,sl⟩)<;>(refine zk ?_;clear zk zP)
 dsimp only at hd
 subst hd
 unfold Obj.putName
 dsimp only
 split
 ·rename_i es' q
  have z:=h.put (name:=name) hv t (fun|some e=>{ e with val:=v }|none=>⟨PyData.keyHash P name,.str name t,v⟩) (fun zu=>rfl) rfl
  have q':nsPutIn name.cps.size name.cps.toList (fun|some e=>{ e with val:=v }|none=>⟨PyData.keyHash P name,.str name t,v⟩) ds=(es',false):=q
  rw [q'] at z
  exact ⟨_,_,rfl,hex,z⟩
 ·rename_i es' q
  have z:=h.put (name:=name) hv t (fun|some e=>{ e with val:=v }|none=>⟨PyData.keyHash P name,.str name t,v⟩) (fun zu=>rfl) rfl
  have q':nsPutIn name.cps.size name.cps.toList (fun|some e=>{ e with val:=v }|none=>⟨PyData.keyHash P name,.str name t,v⟩) ds=(es',true):=q
  rw [q'] at z
  exact ⟨_,_,rfl,hex,z⟩
theorem Dl {a d Cl:Addr} {name:Str} {fs:List (Str×AV)} {x:AV} {Q:Unit→Al→Prop} (hs:H8 C Cl name) (ha:σ.hp a=some (.inst Cl d)) (hd:σ.hp d=some (.ns fs))
  (h:Q () (σ.put d (.ns (Fy fs name x)))) (hz:autoParam (fs.length≤900) AC.aux1._auto_1) :
  EI C A E env (fun zu (zu:Unit) (zu:Unit)=>True) (fun u w=>setAttr w name u) x (.ref a) σ Q:=by
 intro F G s v u hR hv hu
 (have zc:=VR.refI hu;clear hu;subst zc)
 refine xa2_9 hs ?_;(try clear hs);intro K cd X g1 g2 g3 g4 g5 g6 g7 g8
 refine cps fun zP zk=>?_;(rcases hR.wd.ob a _ ha with ⟨hF,hG,o,ho,r⟩)<;>(refine zk ?_;clear zk zP)
 refine cps fun zP zk=>?_;(rcases hR.wd.ob d _ hd with ⟨zu,zu,od,hod,rd⟩)<;>(refine zk ?_;clear zk zP)
 (refine OR.instC r fun zo=>?_;clear r;subst zo)
 (refine OR.nsC rd fun ds n hex hda hnr=>?_;clear rd)
 have X':=X.keeps hR.wd.old
 have I:InstAt s.heap a _ Cl (some od):=⟨ho,rfl,rfl,hod⟩
 refine xa2_4 (Mn hR hd hod) ?_;intro m oth Fr0 N0 h1 back
 refine xa2_4 (Hn (name:=name) (t:=s.toks+1) hda hex hnr hv) ?_;intro es' n' e' hex' r' rl
 refine set_plain X' I g6 (osa_dict (s:={ s with toks:=s.toks+1 }) Fr0 N0 X' ⟨ho,rfl,rfl,hod⟩ rfl g7 g8 (by rw [g3];exact g4) ?_ (fun zu hq=>nomatch hq) h1 rfl e' ?_ fun h' F' N'=>?_)
 ·unfold lookIn
  rw [hda]
  dsimp only
  cases ds.find? (·.key.isStr name) with
  |some e=>rfl
  |none=>rw [hnr.noRef];rfl
 ·have:=hnr.length;exact At [_,_,_] [(1,Z1,(Zn 900)),(1,Z0,(Zs Z2)),(1,Z2,Z1)] Z0 (Zn 1000) rfl hz rl (Nat.le_of_eq this)
 refine xa0_3 (back h' _ F' N') ?_;intro b1 b2 b3
 exact ⟨F,(),_,AG.refl F,trivial,hR.changeN hd rfl b1 (.ns hex' e' r') b3 b2,h⟩
noncomputable def Ng (C:Cf) (A:Around) (E:Value→Shared→Prop) (env:Env) (es:List (Bool×Sem Value)) (σ:Al) (Q:List AV→Al→Prop):Prop:=Tr C A E env VRs (spliced es) σ Q
theorem NZ {Q:List AV→Al→Prop} (h:Q [] σ):Ng C A E env [] σ Q:=fun F G s hR=>wpAny_pure (Aw.of .nil hR h)
theorem Nf {t:Sem Value} {r:List (Bool×Sem Value)} {Q:List AV→Al→Prop} (h:Tr C A E env VR t σ (fun v σ₁=>Ng C A E env r σ₁ (fun vs σ₂=>Q (v::vs) σ₂))):Ng C A E env ((false,t)::r) σ Q:=by
 intro F G s hR
 show wpAny _ _ (do let v ←t;let here ←pure [v];return here++(←holding here (spliced r))) _ _ _
 refine wpAny_bind (h.use hR fun F₁ a σ₁ va s₁ e₁ ha hR₁ h₁=>wpAny_bind (wpAny_pure (wpAny_bind (wpAny_holding (h₁.use hR₁ fun F₂ vs σ₂ us s₂ e₂ hb hR₂ h₂=>?_)))))
 exact wpAny_pure (Aw.ext (e₁.trans e₂) (Aw.of (.cons (ha.mono e₂) hb) hR₂ h₂))
noncomputable def Ox (C:Cf) (A:Around) (E:Value→Shared→Prop) (env:Env) (es:List (Sem Value)) (σ:Al) (Q:List AV→Al→Prop):Prop:=Tr C A E env VRs (evalAll es) σ Q
theorem Oa {Q:List AV→Al→Prop} (h:Q [] σ):Ox C A E env [] σ Q:=fun F G s hR=>wpAny_pure (Aw.of .nil hR h)
theorem Nh {t:Sem Value} {p:Pos} {r:List (Sem Value)} {Q:List AV→Al→Prop} (h:Tr C A E env VR t σ (fun v σ₁=>Ox C A E env r σ₁ (fun vs σ₂=>Q (v::vs) σ₂))):Ox C A E env ((do let v ←t;standAt p;pure v)::r) σ Q:=by
 intro F G s hR
 show wpAny _ _ (do let v ←(do let v ←t;standAt p;pure v);return v::(←holding [v] (evalAll r))) _ _ _
 refine wpAny_bind (wpAny_bind (h.use hR fun F₁ a σ₁ va s₁ e₁ ha hR₁ h₁=>wpAny_bind (wpAny_standAt (wpAny_pure (wpAny_bind (wpAny_holding (h₁.use hR₁ fun F₂ vs σ₂ us s₂ e₂ hb hR₂ h₂=>?_)))))))
 exact wpAny_pure (Aw.ext (e₁.trans e₂) (Aw.of (.cons (ha.mono e₂) hb) hR₂ h₂))
end
end
section
inductive C5 (F:FH):List (Str×AV)→List (Str×Value)→Prop
 |nil:C5 F [] []
 |cons {k x v xs vs}:VR F x v→C5 F xs vs→C5 F ((k,x)::xs) ((k,v)::vs)
theorem C5.mono {F F':FH} (e:AG F F') {x v} (h:C5 F x v):C5 F' x v:=by
 induction h with
 |nil=>exact .nil
 |cons a zu ih=>exact .cons (a.mono e) ih
theorem C5.zip {F:FH}:∀{names:List Str} {xs:List AV} {vs:List Value},VRs F xs vs→C5 F (names.zip xs) (names.zip vs)
 |[],_,_,_=>.nil
 |_::_,_,_,.nil=>.nil
 |_::_,_,_,.cons a b=>.cons a (C5.zip b)
noncomputable def Q1 (C:Cf) (G:FH) (Q:AV→HP→Prop) (F:FH) (r:Result) (s':Shared):Prop:=∃F' v av hp',r=.ok (.ret v)∧AG F F'∧VR F' av v∧Wd C F' G hp' s'∧Q av hp'
noncomputable def Fn (C:Cf) (A:Around) (f:Value) (args:List AV) (kw:List (Str×AV)) (hp:HP) (Q:AV→HP→Prop):Prop:=
 ∀F G s vs kvs,Fs A G→Wd C F G hp s→VRs F args vs→C5 F kw kvs→codeAny (model C.prog C.w) A (.call f ⟨vs,kvs⟩) (Q1 C G Q F) s
theorem Fn.mono {C:Cf} {A:Around} {f:Value} {args:List AV} {kw:List (Str×AV)} {hp:HP} {Q Q':AV→HP→Prop} (h:Fn C A f args kw hp Q) (k:∀v hp',Q v hp'→Q' v hp'):Fn C A f args kw hp Q':=
 fun F G s vs kvs fs W a b=>codeAny_mono (h F G s vs kvs fs W a b) fun r s' ⟨F',v,av,hp',x1,x2,x3,x4,x5⟩=>⟨F',v,av,hp',x1,x2,x3,x4,k _ _ x5⟩
open Classical in
noncomputable def frz (G:FH) (env:Env) (h:Heap):FH:=fun b=>if b=env.locals∨(∃x,env.kindOf x=some .cell∧env.cells.lookup x=some b) then h.get? b else G b
section
variable {C:Cf} {A:Around} {E:Value→Shared→Prop} {env:Env} {σ:Al} {F G:FH} {s:Shared}
theorem Hw (hR:Rp C A F G env σ s):AG G (frz G env s.heap):=by
 intro b o e
 have h1:b≠env.locals:=AP hR.fm.lo.2.1 e
 have h2:¬∃x,env.kindOf x=some .cell∧env.cells.lookup x=some b:=by
  (intro zr;refine xa1_2 zr ?_;(try clear zr);intro x hx hc)
  refine xa1_4 (hR.fm.co x hx) ?_;intro c g1 zu g3 zu
  rw [hc] at g1;(have zc:=Option.some.inj g1;clear g1;subst zc)
  rw [g3] at e;exact Ak e
 unfold frz
 rw [if_neg (by simp only [h1,h2,or_self,not_false_eq_true])]
 exact e
theorem Jt (hR:Rp C A F G env σ s):Fs A (frz G env s.heap):=by
 have ex:=Hw hR
 refine xa2_5 hR.fs ?_;intro e l h1 h2 h3 h4 h5
 refine ⟨e::l,h1,fun e' he'=>?_⟩
 rcases List.mem_cons.mp he' with rfl|he'
 ·rcases h4 with h4|h4
  ·refine xa1_2 hR.fm.ns ?_;intro m;intro zq;refine xa3_3 zq ?_;(try clear zq);intro oL es ep hL r zu;intro zu
   exact ⟨h2,env.locals,oL,h3.trans h4.2,by unfold frz;rw [if_pos (.inl rfl)];exact hL,es,ep,r⟩
  ·exact h4.mono ex
 ·exact (h5 e' he').mono ex
theorem Hv (hR:Rp C A F G env σ s) (hfr:Wd C F (frz G env s.heap) σ.hp s→True:=fun zu=>trivial):Wd C F (frz G env s.heap) σ.hp s:=by
 have W:=hR.wd
 have own:∀b,(b=env.locals∨∃x,env.kindOf x=some .cell∧env.cells.lookup x=some b)→F b=none∧σ.hp b=none:=by
  rintro b (rfl|⟨x,hx,hc⟩)
  ·exact ⟨hR.fm.lo.1,hR.fm.lo.2.2⟩
  ·refine xa1_5 (hR.fm.co x hx) ?_;intro c g1 g2 g3 g4 zu
   rw [hc] at g1;(have zc:=Option.some.inj g1;clear g1;subst zc)
   exact ⟨g2,g4⟩
 refine ⟨W.base,W.fz,fun b o e=>?_,fun a x e=>?_,W.os,W.bare,W.gi,fun b o e=>?_⟩
 ·unfold frz at e
  split at e
  ·exact ⟨o,e,FO.rfl' o⟩
  ·exact W.gz b o e
 ·refine cps fun zP zk=>?_;(rcases W.ob a x e with ⟨p,q,o,r⟩)<;>(refine zk ?_;clear zk zP)
  refine ⟨p,?_,o,r⟩
  unfold frz
  rw [if_neg]
  ·exact q
  ·intro h;have:=(own a h).2;rw [e] at this;exact Ap this
 ·unfold frz
  rw [if_neg]
  ·exact W.fg b o e
  ·intro h;have:=(own b h).1;rw [e] at this;exact Ap this
theorem FI (hR:Rp C A F G env σ s) {F':FH} {hp':HP} {s':Shared} (e:AG F F') (W:Wd C F' (frz G env s.heap) hp' s'):Rp C A F' G env { σ with hp:=hp' } s':=by
 have ex:=Hw hR
 refine cps fun zP zk=>?_;(rcases hR.fm with ⟨kd,⟨m,hm,hv⟩,⟨l1,l2,l3⟩,co,ci,cv,fv⟩)<;>(refine zk ?_;clear zk zP)
 have own:∀b o,(b=env.locals∨∃x,env.kindOf x=some .cell∧env.cells.lookup x=some b)→s.heap.get? b=some o→(∃o',s'.heap.get? b=some o'∧FO o o')∧F' b=none∧hp' b=none:=by
  intro b o h e'
  have g:frz G env s.heap b=some o:=by unfold frz;rw [if_pos h];exact e'
  refine ⟨W.gz _ _ g,?_,?_⟩
  ·cases q:F' b with
   |none=>rfl
   |some o'=>have:=W.fg b o' q;rw [g] at this;exact Ap this
  ·cases q:hp' b with
   |none=>rfl
   |some x=>have:=(W.ob b x q).2.1;rw [g] at this;exact Ap this
 have noG:∀{b},frz G env s.heap b=none→G b=none:=by
  intro b h
  cases q:G b with
  |none=>rfl
  |some o=>rw [ex b o q] at h;exact Ap h
 refine ⟨⟨W.base,W.fz,fun b o q=>W.gz _ _ (ex _ _ q),fun a x q=>?_,W.os,W.bare,W.gi,fun b o q=>noG (W.fg b o q)⟩,?_,hR.fs⟩
 ·refine cps fun zP zk=>?_;(rcases W.ob a x q with ⟨p,r,o,t⟩)<;>(refine zk ?_;clear zk zP)
  exact ⟨p,noG r,o,t⟩
 ·refine xa3_2 (id hm) ?_;intro oL es ep hL r
  refine xa0_3 (own _ _ (.inl rfl) hL) ?_;intro zq;refine xa1_2 zq ?_;(try clear zq);intro oL' z1 zg;intro z2 z3
  refine ⟨kd,⟨m,⟨oL',es,ep,z1,zg.data.trans r.1,r.2⟩,fun x av h1 h2=>let ⟨v,a,b⟩:=hv x av h1 h2;⟨v,a,b.mono e⟩⟩,⟨z2,l2,z3⟩,fun x hx=>?_,ci,fun x av c h1 h2 h3=>?_,fun x av h1 h2=>?_⟩
  ·refine cps fun zP zk=>?_;(rcases co x hx with ⟨c,hc,c1,c2,c3,c4,v,o,ho,hd⟩)<;>(refine zk ?_;clear zk zP)
   refine xa0_3 (own _ _ (.inr ⟨x,hx,hc⟩) ho) ?_;intro zq;refine xa1_2 zq ?_;(try clear zq);intro o' y1 yg;intro y2 y3
   exact ⟨c,hc,y2,c2,y3,c4,v,o',y1,yg.data.trans hd⟩
  ·refine xa1_2 (cv x av c h1 h2 h3) ?_;intro v;intro zq;refine xa1_2 zq ?_;(try clear zq);intro o ho hd;intro hvr
   refine xa0_2 (own _ _ (.inr ⟨x,h2,h3⟩) ho) ?_;intro zq;refine xa1_2 zq ?_;(try clear zq);intro o' y1 yg;intro zu
   exact ⟨v,⟨o',y1,yg.data.trans hd⟩,hvr.mono e⟩
  ·refine xa3_4 (fv x av h1 h2) ?_;intro c v o a1 a2 a3 a4
   exact ⟨c,v,o,a1,a2,a3,a4.mono e⟩
theorem Fn.call {f:Value} {args:List AV} {kw:List (Str×AV)} {Q:AV→HP→Prop} (h:Fn C A f args kw σ.hp Q) (hR:Rp C A F G env σ s) {vs:List Value} {kvs:List (Str×Value)} (hv:VRs F args vs) (hk:C5 F kw kvs) :
  wpAny (model C.prog C.w) A (PySem.call f vs kvs) (Aw C A G env VR (fun v σ'=>σ'.loc=σ.loc∧Q v σ'.hp) F) E s:=by
 refine wpAny_call (codeAny_mono (h F _ s vs kvs (Jt hR) (Hv hR) hv hk) fun r s' z=>?_)
 refine xa4_5 z ?_;(try clear z);intro F' v av hp';rintro rfl;intro e hvr W q
 exact ⟨F',av,_,e,hvr,FI hR e W,rfl,q⟩
noncomputable def Ee (C:Cf) (h:Heap) (f:Value):Prop:=∃kp,Looks (model C.prog C.w) h (keeperOf f) kp
noncomputable def Bf (C:Cf) (A:Around) (E:Value→Shared→Prop) (env:Env) (f:AV) (first args:List AV) (kw:List (Str×AV)) (σ:Al) (Q:AV→Al→Prop):Prop:=
 ∀F G s fv us vs kvs,Rp C A F G env σ s→VR F f fv→VRs F first us→VRs F args vs→C5 F kw kvs→Ee C s.heap fv∧wpAny (model C.prog C.w) A (PySem.call fv (us++vs) kvs) (Aw C A G env VR Q F) E s
theorem BC {f:Value} {args:List (Bool×Sem Value)} {kws:List (Option Str×Sem Value)} (ha:args.all (!·.1)=true) (hk:kws.all (·.1.isSome)=true) {Q:Args→Shared→Prop}
  (h:wpAny (model C.prog C.w) A (spliced args) (fun vs s₁=>wpAny (model C.prog C.w) A (evalAll (kws.map (·.2))) (fun ks s₂=>Q ⟨vs,(kws.filterMap (·.1)).zip ks⟩ s₂) E s₁) E s) :
  wpAny (model C.prog C.w) A (evalArgs f true args kws) Q E s:=by
 match args with
 |[]=>
  refine evalArgs_kw_nil hk ?_
  intro Γ p hΓ
  have z:=h Γ p hΓ
  exact z Γ p hΓ
 |(false,t)::r=>exact evalArgs_kw hk h
 |(true,t)::r=>exact Bu ha
theorem DW {α:Type} {M:Model} {vs:List Value} {m:Sem α} {Q:α→Shared→Prop} (h:wpAny M A m Q E s):wpAny M A (m.keep vs) Q E s:=fun Γ p hΓ=>by rw [Sem.wp_keep];exact h Γ p hΓ
theorem G6 {M:Model} {vs:List Value} {m:Sem Value} {Q:Value→Shared→Prop} (h:wpAny M A m Q E s):wpAny M A (operate vs m) Q E s:=fun Γ p hΓ=>by rw [Sem.wp_operate];exact h Γ p hΓ
theorem P8 {P:Sem Value→Prop} {c:Prop} [Decidable c] {a b:Sem Value} (ha:P a) (hb:P b):P (if c then a else b):=by
 by_cases h:c
 ·rw [if_pos h];exact ha
 ·rw [if_neg h];exact hb
theorem P7 {P:Sem Value→Prop} {a b c d e:Sem Value} (ha:P a) (hb:P b) (hc:P c) (hd:P d) (he:P e) (k:Keeper) (st:Bool) :
  P (match k,st with|.frame,true=>a|.frame,false=>b|.boundFrame,false=>c|.machine,false=>d|_,_=>e):=by
 cases k<;>cases st<;>assumption
theorem Cc {pos:Pos} {f:Value} {first:List Value} {args:List (Bool×Sem Value)} {kws:List (Option Str×Sem Value)} {Q:Value→Shared→Prop}
  (h:wpAny (model C.prog C.w) A (evalArgs f true args kws) (fun a s₁=>Ee C s₁.heap f∧wpAny (model C.prog C.w) A (PySem.call f (first++a.pos) a.kw) Q E s₁) E s) :
  wpAny (model C.prog C.w) A (callWith pos f first args kws) Q E s:=by
 unfold callWith
 refine wpAny_bind (wpAny_holding (wpAny_mono h (fun a s₁ z=>?_) fun zu zu x=>x))
 refine xa0_2 z ?_;(try clear z);intro zq;refine xa1_1 zq ?_;(try clear zq);intro kp hk;intro hc
 refine wpAny_bind (wpAny_standAt ?_)
 dsimp only
 refine wpAny_bind (hk.here ?_)
 have fin:wpAny (model C.prog C.w) A (PySem.call f (first++a.pos) a.kw) (fun r s'=>wpAny (model C.prog C.w) A (do holding [r] point;pure r) Q E s') E s₁:=
  wpAny_mono hc (fun r s' q=>wpAny_bind (wpAny_holding (wpAny_point (wpAny_pure q)))) fun zu zu x=>x
 exact P7 (P:=fun m=>wpAny _ _ m _ _ _) (wpAny_bind (DW fin)) (P8 (P:=fun m=>wpAny _ _ m _ _ _) (wpAny_bind fin) (wpAny_bind (DW fin))) (P8 (P:=fun m=>wpAny _ _ m _ _ _) (wpAny_bind fin) (wpAny_bind (DW fin))) (wpAny_bind fin) (wpAny_bind (G6 fin)) _ _
theorem QP {few:Bool} {o:Expr} {env:Env} {apos pos:Pos} (h:apos.endLine=pos.line):methodCallPos few o env apos pos=pure pos:=if_pos (by rw [h,beq_self_eq_true,Bool.or_true])
theorem AJ {func:Expr} {args:List Expr} {kws:List Keyword} {pos:Pos} {Q:AV→Al→Prop}
  (h:Ev C A E env func σ (fun f σ₁=>Ng C A E env (backTo pos (starEach args env)) σ₁ (fun vs σ₂=>Ox C A E env ((backToKw pos (keywordEach kws env)).map (·.2)) σ₂ (fun ks σ₃=>Bf C A E env f [] vs (((backToKw pos (keywordEach kws env)).filterMap (·.1)).zip ks) σ₃ Q))))
  (he:autoParam (eval (.Call func args kws pos) env=(do callWith pos (←eval func env) [] (backTo pos (starEach args env)) (backToKw pos (keywordEach kws env)))) AC.aux0._auto_1)
  (ha:autoParam ((backTo pos (starEach args env)).all (!·.1)=true) AC.aux0._auto_1) (hk:autoParam ((backToKw pos (keywordEach kws env)).all (·.1.isSome)=true) AC.aux0._auto_1):Ev C A E env (.Call func args kws pos) σ Q:=by
 intro F G s hR
 rw [he]
 refine wpAny_bind (h.use hR fun F₁ f σ₁ vf s₁ e₁ hf hR₁ h₁=>Cc (BC ha hk (h₁.use hR₁ fun F₂ vs σ₂ us s₂ e₂ hvs hR₂ h₂=>h₂.use hR₂ fun F₃ ks σ₃ ws s₃ e₃ hks hR₃ h₃=>?_)))
 refine xa0_2 (h₃ F₃ G s₃ vf [] us _ hR₃ (hf.mono (e₂.trans e₃)) .nil (hvs.mono e₃) (C5.zip hks)) ?_;intro a b
 exact ⟨a,wpAny_mono b (fun zu zu z=>Aw.ext (e₁.trans (e₂.trans e₃)) z) fun zu zu x=>x⟩
noncomputable def Dw (C:Cf) (A:Around) (E:Value→Shared→Prop) (env:Env) (o:AV) (name:Str) (σ:Al) (Q:AV→List AV→Al→Prop):Prop:=
 ∀F G s v (pl:Sem Bool),Rp C A F G env σ s→VR F o v→wpAny (model C.prog C.w) A (getMethod v name pl) (fun r s'=>∃F' f first σ',AG F F'∧VR F' f r.1∧VRs F' first r.2∧Rp C A F' G env σ' s'∧Q f first σ') E s
theorem AA {o:Expr} {name:Str} {apos pos:Pos} {args:List Expr} {kws:List Keyword} {Q:AV→Al→Prop}
  (h:Ev C A E env o σ (fun ov σ₀=>Dw C A E env ov name σ₀ (fun f first σ₁=>Ng C A E env (backTo pos (starEach args env)) σ₁ (fun vs σ₂=>Ox C A E env ((backToKw pos (keywordEach kws env)).map (·.2)) σ₂ (fun ks σ₃=>Bf C A E env f first vs (((backToKw pos (keywordEach kws env)).filterMap (·.1)).zip ks) σ₃ Q)))))
  (hb:autoParam (attributeBase o name env (eval o env)=eval o env) AC.aux0._auto_1) (hl:autoParam (apos.endLine=pos.line) AC.aux0._auto_1)
  (hf:autoParam (methodCallForm (args.length+kws.length) (backTo pos (starEach args env)) (backToKw pos (keywordEach kws env))=true) AC.aux0._auto_1)
  (ha:autoParam ((backTo pos (starEach args env)).all (!·.1)=true) AC.aux0._auto_1) (hk:autoParam ((backToKw pos (keywordEach kws env)).all (·.1.isSome)=true) AC.aux0._auto_1):Ev C A E env (.Call (.Attribute o name apos) args kws pos) σ Q:=by
 intro F G s hR
 show wpAny _ _ (do
  let ov ←attributeBase o name env (eval o env)
  standAt apos.atName
  methodCall o name apos pos env ov (args.length+kws.length) (backTo pos (starEach args env)) (backToKw pos (keywordEach kws env))) _ _ _
 rw [hb]
 refine wpAny_bind (h.use hR fun F₀ ov σ₀ vo s₀ e₀ ho hR₀ h₀=>wpAny_bind (wpAny_standAt ?_))
 unfold methodCall
 rw [hf,QP hl]
 refine wpAny_bind (wpAny_holding (wpAny_mono (h₀ F₀ G s₀ vo _ hR₀ ho) (fun r s₁ z=>?_) fun zu zu x=>x))
 refine xa4_5 z ?_;(try clear z);intro F₁ f first σ₁ e₁ hf' hfi hR₁ h₁
 refine cps fun zP zk=>?_;(rcases r with ⟨rf,rfi⟩)<;>(refine zk ?_;clear zk zP)
 refine wpAny_bind (wpAny_pure (Cc (BC ha hk (h₁.use hR₁ fun F₂ vs σ₂ us s₂ e₂ hvs hR₂ h₂=>h₂.use hR₂ fun F₃ ks σ₃ ws s₃ e₃ hks hR₃ h₃=>?_))))
 refine xa0_2 (h₃ F₃ G s₃ rf rfi us _ hR₃ (hf'.mono (e₂.trans e₃)) (hfi.mono (e₂.trans e₃)) (hvs.mono e₃) (C5.zip hks)) ?_;intro a b
 exact ⟨a,wpAny_mono b (fun zu zu z=>Aw.ext (e₀.trans (e₁.trans (e₂.trans e₃))) z) fun zu zu x=>x⟩
structure FnAt (C:Cf) (f:Addr) (fd:FuncData):Prop where
 at_:∃o,C.h0.get? f=some o∧o.data=.func fd
 code:C.h0.CodeRec fd.code fd.qualname
 lim:C.h0.NoLimit
theorem FnAt.keep {f:Addr} {fd:FuncData} (h:FnAt C f fd) {h':Heap} (k:∀b o,C.h0.get? b=some o→h'.get? b=some o):Ee C h' (.ref f):=by
 refine xa1_2 h.at_ ?_;intro o ho hd
 refine ⟨.frame,fun A Q E s k' q=>?_⟩
 unfold keeperOf
 refine wpAny_bind (wpAny_load (k' _ _ (k _ _ ho)) ?_)
 rw [hd]
 exact wpAny_pure q
inductive BR (F:FH):List (Str×AV)→List (Str×Value)→Prop
 |nil:BR F [] []
 |cons {k x v xs vs}:VR F x v→BR F xs vs→BR F ((k,x)::xs) ((k,v)::vs)
theorem BR.append {xs vs ys us} (h:BR F xs vs) (k:BR F ys us):BR F (xs++ys) (vs++us):=by
 induction h with
 |nil=>exact k
 |cons a zu ih=>exact .cons a ih
theorem BR.reverse {xs vs} (h:BR F xs vs):BR F xs.reverse vs.reverse:=by
 induction h with
 |nil=>exact .nil
 |cons a zu ih=>rw [List.reverse_cons,List.reverse_cons];exact ih.append (.cons a .nil)
theorem BR.look {xs vs} (h:BR F xs vs) {n:Str} {x:AV} (e:xs.lookup n=some x):∃v,vs.lookup n=some v∧VR F x v:=by
 induction h with
 |nil=>exact Ak e
 |@cons k y v xs vs a zu ih=>
  simp only [List.lookup] at e ⊢
  cases q:n == k with
  |true=>rw [q] at e;(have zc:=Option.some.inj e;clear e;subst zc);exact ⟨v,rfl,a⟩
  |false=>rw [q] at e;exact ih e
noncomputable def BE (C:Cf) (fd:FuncData) (args:List AV) (kw:List (Str×AV)) (loc:List (Str×AV)):Prop:=
 ∀F vs kvs,VRs F args vs→C5 F kw kvs→∃bs,Looks (model C.prog C.w) C.h0 (bindArgs fd ⟨vs,kvs⟩) bs∧BR F loc bs∧(bs.all fun x=>decide (fd.scope.names.lookup x.1=some .local))=true
theorem CX {f:Addr} {fd:FuncData} {body:List Stmt} {args:List AV} {kw loc:List (Str×AV)} {hp:HP} {Q:AV→HP→Prop} (hf:FnAt C f fd) (hb:BE C fd args kw loc)
  (h:∀L,Cq C (A.deeper (callEnv fd L f)) (fun zu zu=>False) (callEnv fd L f) body ⟨loc.reverse,hp⟩ (fun fl σ'=>match fl with|.ret v=>Q v σ'.hp|.next=>Q .none σ'.hp|_=>False))
  (hroom:A.depth<recursionLimit) (hbody:autoParam (fd.body=.stmts body) AC.aux0._auto_1) (hcell:autoParam ((fd.scope.names.all fun x=>x.2 != .cell&&x.2 != .free)=true) AC.aux0._auto_1)
  (hco:autoParam (fd.scope.isCoroutine=false) AC.aux0._auto_1) (hgen:autoParam (fd.scope.isGenerator=false) AC.aux0._auto_1) (hk:autoParam (fd.scope.kind=.function) AC.aux0._auto_1) :
  Fn C A (.ref f) args kw hp Q:=by
 intro F G s vs kvs fs W hv hkv
 refine xa1_2 hf.at_ ?_;intro o ho hd
 refine xa1_3 (hb F vs kvs hv hkv) ?_;intro bs hB hbr hl
 have hc:∀x∈fd.scope.names,x.2≠.cell∧x.2≠.free:=fun x hx=>by
  have:=List.all_eq_true.mp hcell x hx
  simpa using this
 have noK:∀L x,(callEnv fd L f).kindOf x≠some .cell∧(callEnv fd L f).kindOf x≠some .free:=by
  intro L x
  have key:∀kd,fd.scope.names.lookup x=some kd→(x,kd)∈fd.scope.names:=fun kd e=>by
   refine xa2_2 (List.lookup_eq_some_iff.mp e) ?_;intro l1 l2 e1 zu
   rw [e1];simp
  constructor
  ·intro e;exact (hc _ (key _ e)).1 rfl
  ·intro e;exact (hc _ (key _ e)).2 rfl
 refine codeAny_call_function hroom (W.old _ _ ho) hd hco hgen hbody (hf.code.keeps W.old) ?_
 refine hB _ _ _ s W.old (wpAny_newFunctionEnv (fun x hx=>(hc x hx).1) (fun x hx=>of_decide_eq_true (List.all_eq_true.mp hl x hx)) (fun h' hns hsb=>?_) hk)
 have kp:∀b o,s.heap.get? b=some o→h'.get? b=some o:=fun b o e=>hsb.extBut b o (Nat.ne_of_lt (Heap.lt_size e)) (Heap.get?_push_of_some _ e)
 refine ⟨hf.lim.keeps fun b o e=>kp _ _ (W.old _ _ e),codeAny_func ?_⟩
 refine xa0_3 (W.lt (Nat.le_refl s.heap.objs.size)) ?_;intro z1 z2 z3
 refine xa1_2 fs ?_;(try clear fs);intro fl fs1 fs2
 have hfs:GG (A.deeper (callEnv fd s.heap.objs.size f)) G (callEnv fd s.heap.objs.size f):=
  ⟨callEnv fd s.heap.objs.size f,fl,by simp only [Around.deeper,fs1,Option.map_some],by show fd.scope.kind≠_;rw [hk];decide,rfl,.inl ⟨rfl,rfl⟩,fs2⟩
 have hR:Rp C (A.deeper (callEnv fd s.heap.objs.size f)) F G (callEnv fd s.heap.objs.size f) ⟨loc.reverse,hp⟩ { s with heap:=h',toks:=s.toks+bs.length }:=by
  refine ⟨W.keep kp,⟨hk,⟨_,hns,fun x av hx zu=>hbr.reverse.look hx⟩,⟨z1,z2,z3⟩,fun x hx=>absurd hx (noK _ x).1,fun x zu zu hx=>absurd hx (noK _ x).1,fun x zu zu zu hx=>absurd hx (noK _ x).1,fun x zu zu hx=>absurd hx (noK _ x).2⟩,hfs⟩
 refine wpAny_mono ((h s.heap.objs.size).go hR (AG.refl F)) (fun fl s' z=>?_) fun zu zu x=>x.elim
 refine cps fun zP zk=>?_;(rcases z with ⟨F',b,σ',e1,r,hR',q⟩)<;>(refine zk ?_;clear zk zP)
 cases r with
 |next=>exact ⟨F',_,.none,σ'.hp,rfl,e1,.none,hR'.wd,q⟩
 |brk=>exact q.elim
 |cont=>exact q.elim
 |ret hvr=>exact ⟨F',_,_,σ'.hp,rfl,e1,hvr,hR'.wd,q⟩
theorem AS {f:Addr} {fd:FuncData} {first args:List AV} {kw:List (Str×AV)} {Q:AV→Al→Prop} (hf:FnAt C f fd) (h:Fn C A (.ref f) (first++args) kw σ.hp (fun v hp'=>Q v { σ with hp:=hp' })) :
  Bf C A E env (.ref f) first args kw σ Q:=by
 intro F G s fv us vs kvs hR hfv hus hvs hk
 (have zc:=VR.refI hfv;clear hfv;subst zc)
 refine ⟨hf.keep hR.wd.old,wpAny_mono (h.call hR (hus.append hvs) hk) (fun v s' z=>?_) fun zu zu x=>x⟩
 refine cps fun zP zk=>?_;(rcases z with ⟨F',av,⟨l,h'⟩,e,hv,hR',hl,q⟩)<;>(refine zk ?_;clear zk zP)
 dsimp only at hl
 subst hl
 exact ⟨F',av,_,e,hv,hR',q⟩
end
end
section
noncomputable def Cp (C:Cf) (Cl:Addr) (name:Str) (f:Addr):Prop:=∃K:Frag,K.In C.h0 ∧
 findIn K (.ref Cl) "__getattribute__" = some (some (.builtin "object.__getattribute__"))∧findIn K (.ref Cl) "__getattr__" = some none ∧
 findIn K (.ref Cl) name=some (some (.ref f))∧typeIn K (.ref f)=some (.type "function")
noncomputable def Fc (C:Cf) (Cl fI:Addr):Prop:=∃K:Frag,K.In C.h0∧makesIn K Cl=true∧findIn K (.ref Cl) "__init__" = some (some (.ref fI))∧typeIn K (.ref fI)=some (.type "function")
section
variable {C:Cf} {A:Around} {E:Value→Shared→Prop} {env:Env} {σ:Al} {F G:FH} {s:Shared}
theorem NR.noName {P:Params} {fs:List (Str×AV)} {ds:List DictEntry} (h:NR P F fs ds) {name:Str} (e:fs.lookup name=none):ds.find? (·.key.isStr name)=none:=by
 induction h with
 |nil=>rfl
 |@cons k v es en ds t a b c zu ih=>
  simp only [List.lookup] at e
  cases q:name == k with
  |true=>rw [q] at e;exact Ap e
  |false=>
   rw [q] at e
   rw [List.find?_cons,b]
   have:(Value.str k t).isStr name=false:=by
    simp only [Value.isStr,beq_eq_false_iff_ne,ne_eq]
    exact fun z=>(beq_eq_false_iff_ne.mp q) z.symm
   rw [this];exact ih e
theorem B5 {a d Cl f:Addr} {name:Str} {fs:List (Str×AV)} {Q:AV→List AV→Al→Prop} (hm:Cp C Cl name f) (ha:σ.hp a=some (.inst Cl d)) (hd:σ.hp d=some (.ns fs)) (hn:fs.lookup name=none)
  (h:Q (.ref f) [.ref a] σ):Dw C A E env (.ref a) name σ Q:=by
 intro F G s v pl hR hv
 (have zc:=VR.refI hv;clear hv;subst zc)
 refine xa1_5 hm ?_;(try clear hm);intro K X g1 g2 g3 g4
 refine cps fun zP zk=>?_;(rcases hR.wd.ob a _ ha with ⟨zu,zu,o,ho,r⟩)<;>(refine zk ?_;clear zk zP)
 refine cps fun zP zk=>?_;(rcases hR.wd.ob d _ hd with ⟨zu,zu,od,hod,rd⟩)<;>(refine zk ?_;clear zk zP)
 (refine OR.instC r fun zo=>?_;clear r;subst zo)
 (refine OR.nsC rd fun ds n hex hda hnr=>?_;clear rd)
 refine method_fn (od:=some od) (X.keeps hR.wd.old) ⟨ho,rfl,rfl,hod⟩ g1 g2 g3 g4 ?_ ⟨F,.ref f,[.ref a],σ,AG.refl F,.ref f,.cons (.ref a) .nil,hR,h⟩
 simp only [shadowIn,lookIn,hda,hnr.noName hn,hnr.noRef,Bool.false_eq_true,if_false,Option.map_some,Option.isSome_none]
theorem JC {Cl fI:Addr} (h:Fc C Cl fI) {h':Heap} (k:∀b o,C.h0.get? b=some o→h'.get? b=some o):Ee C h' (.ref Cl):=by
 refine xa1_3 h ?_;(try clear h);intro K X g1 zu
 have Y:=makes_of (M:=model C.prog C.w) (X.keeps k) g1
 refine xa4_2 Y.obj ?_;intro oc od cd sl ho zu
 refine ⟨.machine,fun A Q E s k' q=>?_⟩
 unfold keeperOf
 refine wpAny_bind (wpAny_load (k' _ _ ho) ?_)
 refine wpAny_bind (Y.call A _ E s k' ?_)
 exact wpAny_pure q
theorem MZ {Cl fI:Addr} {args:List AV} {kw:List (Str×AV)} {hp:HP} {Q:AV→HP→Prop} (hm:Fc C Cl fI)
  (h:∀x vs kvs,hp x=none→Fn C (A.under (.builtin "type.__call__" ⟨.ref Cl::vs,kvs⟩)) (.ref fI) (.ref x::args) kw (upd hp x (.slot Cl [])) (fun v hp'=>v=.none∧Q (.ref x) hp')) :
  Fn C A (.ref Cl) args kw hp Q:=by
 intro F G s vs kvs fs W hv hk
 refine xa1_4 hm ?_;(try clear hm);intro K X g1 g2 g3
 refine cps fun zP zk=>?_;(rcases s with ⟨hh,g,d,t,os⟩)<;>(refine zk ?_;clear zk zP)
 have X':=X.keeps W.old
 refine make_core (makes_of X' g1) (looks_findIn X' g2) (fun self=>bind_fn X' self g3) (.inl rfl) ?_
 refine xa0_2 (W.freeze (t:=t) (o':=emptyDict) rfl) ?_;intro W1 e1
 have W2:=W1.alloc (t:=t) (x':=.slot Cl []) (o':=instObj Cl hh.objs.size) rfl rfl (.slot (us:=[]) (Ar F _ _) .nil)
 have z:hp (hh.objs.size+1)=none:=(W.lt (Nat.le_succ _)).2.2
 dsimp only at W2
 rw [Heap.size_push] at W2
 refine codeAny_mono (h (hh.objs.size+1) vs kvs z _ _ _ (.ref (hh.objs.size+1)::vs) kvs fs W2 (.cons (.ref _) (hv.mono e1)) (hk.mono e1)) fun r s' q=>?_
 refine xa4_6 q ?_;(try clear q);intro F' v av hp';rintro rfl;intro e2 hvr W';rintro rfl;intro q
 (have zc:=VR.noneI hvr;clear hvr;subst zc)
 exact ⟨rfl,F',_,.ref _,hp',rfl,e1.trans e2,.ref _,W',q⟩
theorem Na {Cl fI:Addr} {args:List AV} {kw:List (Str×AV)} {hp:HP} {Q:AV→HP→Prop} (hm:Fc C Cl fI)
  (h:∀x d vs kvs,hp x=none→hp d=none→x≠d→Fn C (A.under (.builtin "type.__call__" ⟨.ref Cl::vs,kvs⟩)) (.ref fI) (.ref x::args) kw (upd (upd hp d (.ns [])) x (.inst Cl d)) (fun v hp'=>v=.none∧Q (.ref x) hp')) :
  Fn C A (.ref Cl) args kw hp Q:=by
 intro F G s vs kvs fs W hv hk
 refine xa1_4 hm ?_;(try clear hm);intro K X g1 g2 g3
 refine cps fun zP zk=>?_;(rcases s with ⟨hh,g,d,t,os⟩)<;>(refine zk ?_;clear zk zP)
 have X':=X.keeps W.old
 refine make_core (makes_of X' g1) (looks_findIn X' g2) (fun self=>bind_fn X' self g3) (.inl rfl) ?_
 have W1:=W.alloc (t:=t) (x':=.ns []) (o':=emptyDict) rfl rfl (.ns (ds:=[]) (n:=0) ⟨rfl,rfl,rfl⟩ rfl .nil)
 have W2:=W1.alloc (t:=t) (x':=.inst Cl hh.objs.size) (o':=instObj Cl hh.objs.size) rfl rfl .inst
 have z:hp (hh.objs.size+1)=none:=(W.lt (Nat.le_succ _)).2.2
 have z':hp hh.objs.size=none:=(W.lt (Nat.le_refl _)).2.2
 dsimp only at W2
 rw [Heap.size_push] at W2
 refine codeAny_mono (h (hh.objs.size+1) hh.objs.size vs kvs z z' (Nat.succ_ne_self _) _ _ _ (.ref (hh.objs.size+1)::vs) kvs fs W2 (.cons (.ref _) hv) hk) fun r s' q=>?_
 refine xa4_6 q ?_;(try clear q);intro F' v av hp';rintro rfl;intro e2 hvr W';rintro rfl;intro q
 (have zc:=VR.noneI hvr;clear hvr;subst zc)
 exact ⟨rfl,F',_,.ref _,hp',rfl,e2,.ref _,W',q⟩
theorem Fd {Cl fI:Addr} {args:List AV} {kw:List (Str×AV)} {Q:AV→Al→Prop} (hm:Fc C Cl fI) (h:Fn C A (.ref Cl) args kw σ.hp (fun v hp'=>Q v { σ with hp:=hp' })) :
  Bf C A E env (.ref Cl) [] args kw σ Q:=by
 intro F G s fv us vs kvs hR hfv hus hvs hk
 (have zc:=VR.refI hfv;clear hfv;subst zc)
 (have zc:=VRs.nilI hus;clear hus;subst zc)
 refine ⟨JC hm hR.wd.old,wpAny_mono (h.call hR hvs hk) (fun v s' z=>?_) fun zu zu x=>x⟩
 refine cps fun zP zk=>?_;(rcases z with ⟨F',av,⟨l,h'⟩,e,hv,hR',hl,q⟩)<;>(refine zk ?_;clear zk zP)
 dsimp only at hl
 subst hl
 exact ⟨F',av,_,e,hv,hR',q⟩
theorem KeepOk_plain {h':Heap} {f:Value} (hf:∀a,f≠.ref a):Ee C h' f:=by
 refine ⟨.machine,fun A Q E s k' q=>?_⟩
 unfold keeperOf
 cases f<;>first|exact wpAny_pure q|exact absurd rfl (hf _)
end
end
section
section
variable {C:Cf} {A:Around} {E:Value→Shared→Prop} {env:Env} {σ:Al} {F G:FH} {s:Shared}
theorem Nc {value slice:Expr} {pos:Pos} {Q:AV→Al→Prop} (h:Ev C A E env value σ (fun a σ₁=>Ev C A E env slice σ₁ (fun b σ₂=>EI C A E env VR (subscriptTail value slice) a b σ₂ Q))):Ev C A E env (.Subscript value slice pos) σ Q:=by
 intro F G s hR
 refine Subscript_ (h.use hR fun F₁ a σ₁ va s₁ e₁ ha hR₁ h₁=>h₁.use hR₁ fun F₂ b σ₂ vb s₂ e₂ hb hR₂ h₂=>?_)
 exact h₂.at (e₁.trans e₂) hR₂ (ha.mono e₂) hb
theorem Ek (slice:Expr) (o i:Value):∃ops,subscripted slice false o i=operate ops (getItem o i):=by
 cases slice with
 |Slice a b c d=>cases c<;>exact ⟨_,rfl⟩
 |_=>exact ⟨_,rfl⟩
theorem Ei {value slice:Expr} {o i:Value} {T id:String} {Q:Value→Shared→Prop} (hT:s.TypeIs o T) (hl:typeLookup (.type T) "__getitem__" = pure (some (.builtin id)))
  (hg:wpAny (model C.prog C.w) A (getItem o i) Q E s):wpAny (model C.prog C.w) A (subscriptTail value slice o i) Q E s:=by
 refine xa1_1 (Ek slice o i) ?_;intro ops h
 exact tail_any hT hl hg h
theorem Rp.list (hR:Rp C A F G env σ s) {a:Addr} {xs:List AV} (ha:σ.hp a=some (.list xs)):∃vs n,IsL s.heap a vs.toArray n∧VRs F xs vs:=by
 refine cps fun zP zk=>?_;(rcases hR.wd.ob a _ ha with ⟨zu,zu,o,ho,r⟩)<;>(refine zk ?_;clear zk zP)
 (refine OR.listC r fun vs n h1 h2 h3 h4 h5=>?_;clear r)
 refine ⟨vs,n,?_,h5⟩
 refine cps fun zP zk=>?_;(rcases o with ⟨c,d,dt,sl⟩)<;>(refine zk ?_;clear zk zP)
 dsimp only at h1 h2 h3 h4
 subst h1 h2 h3 h4
 exact ho
theorem OR.ofL {gens} {xs:List AV} {vs:List Value} {n:Nat} (h:VRs F xs vs):OR C F gens (.list xs) { cls:=.type "list",dict:=none,data:=.seq vs.toArray n,slots:=#[] }:=.list rfl rfl rfl rfl h
theorem Rp.dictOf (hR:Rp C A F G env σ s) {a:Addr} {l:List (Au×AV)} {ep:Nat} (ha:σ.hp a=some (.dict l ep)):∃kvs,s.heap.DictOf (Bs C.prog C.w) a kvs∧SV F l kvs:=by
 refine cps fun zP zk=>?_;(rcases hR.wd.ob a _ ha with ⟨zu,zu,o,ho,r⟩)<;>(refine zk ?_;clear zk zP)
 (refine OR.dictC r fun zv zv a1 a2 a3 a4 a5 a6=>?_;clear r)
 exact ⟨_,⟨_,_,_,ho,a1,a2,a3,a4,a5⟩,a6⟩
theorem DictOf.or {gens} {h':Heap} {a:Addr} {kvs:List (Au×Value)} {l:List (Au×AV)} (hd:h'.DictOf (Bs C.prog C.w) a kvs) (hv:SV F l kvs):∃o ep,h'.get? a=some o∧OR C F gens (.dict l ep) o:=by
 refine xa3_6 hd ?_;(try clear hd);intro o es ep ho a1 a2 a3 a4 a5
 exact ⟨o,ep,ho,.dict a1 a2 a3 a4 a5 hv⟩
noncomputable def H6 (l:List (Au×AV)) (k:Au):Option AV:=(l.find? fun p=>p.1=k).map (·.2)
theorem SV.at {l:List (Au×AV)} {kvs:List (Au×Value)} (h:SV F l kvs) (k:Au):(∃x v,H6 l k=some x∧valueAt kvs k=some v∧VR F x v)∨(H6 l k=none∧valueAt kvs k=none):=by
 induction h with
 |nil=>exact .inr ⟨rfl,rfl⟩
 |@cons k' x v xs vs a zu ih=>
  by_cases q:k'=k
  ·subst q;exact .inl ⟨x,v,by simp [H6],by simp [valueAt],a⟩
  ·have e1:H6 ((k',x)::xs) k=H6 xs k:=by simp [H6,q]
   have e2:valueAt ((k',v)::vs) k=valueAt vs k:=by simp [valueAt,q]
   rw [e1,e2];exact ih
noncomputable def FY (l:List (Au×AV)) (k:Au) (x:AV):List (Au×AV):=if l.any (fun p=>p.1=k) then l.map (fun p=>if p.1=k then (p.1,x) else p) else l++[(k,x)]
theorem SV.append {x v y u} (h:SV F x v) (k:SV F y u):SV F (x++y) (v++u):=by
 induction h with
 |nil=>exact k
 |cons a zu ih=>exact .cons a ih
theorem SV.stored {l:List (Au×AV)} {kvs:List (Au×Value)} (h:SV F l kvs) {k:Au} {x:AV} {v:Value} (hv:VR F x v):SV F (FY l k x) (PySem.stored kvs k v):=by
 have e:l.any (fun p=>decide (p.1=k))=kvs.any (fun p=>decide (p.1=k)):=by
  have z:∀{α:Type} (m:List (Au×α)),m.any (fun p=>decide (p.1=k))=(m.map (·.1)).any (fun q=>decide (q=k)):=fun m=>by rw [List.any_map];rfl
  rw [z,z,h.keys]
 unfold FY PySem.stored
 rw [e]
 split
 ·rename_i z;clear z e
  induction h with
  |nil=>exact .nil
  |@cons k' y u xs vs a zu ih=>
   simp only [List.map_cons]
   split
   ·exact .cons hv ih
   ·exact .cons a ih
 ·exact h.append (.cons hv .nil)
theorem Dq {knd:KeyKind C.prog C.w Au} {h:Heap} {a:Addr} {kvs:List (Au×Value)} (hd:h.DictOf knd a kvs):h.MapOf knd a (valueAt kvs):=by
 refine xa3_6 hd ?_;(try clear hd);intro o es ep ho a1 a2 a3 a4 a5
 exact ⟨o,es,ep,ho,a1,a2,a3,fun k=>by rw [←a4.find k];unfold findBy;rw [Array.find?_toList]⟩
theorem Au.is_of {k:Au} {v:Value} (h:VR F k.av v):k.is v=true:=by
 cases k<;>(first|(have zc:=VR.intI h;clear h;rcases zc with ⟨zu,zc⟩;subst zc)|(have zc:=VR.strI h;clear h;rcases zc with ⟨zu,zc⟩;subst zc)|cases h)<;>simp [Au.is]
theorem Rp.low (hR:Rp C A F G env σ s) {a:Addr} {x:AO} (ha:σ.hp a=some x) (hs:(C.h0.get? sysModules).isSome=true):(a == sysModules)=false:=by
 simp only [beq_eq_false_iff_ne,ne_eq]
 rintro rfl
 refine xa1_1 (Option.isSome_iff_exists.mp hs) ?_;intro o ho
 have:=(hR.wd.ob _ _ ha).1
 rw [hR.wd.base _ _ ho] at this;exact Ap this
variable (hs:(C.h0.get? sysModules).isSome=true)
theorem GX {value slice:Expr} {a:Addr} {l:List (Au×AV)} {ep:Nat} {k:Au} {x:AV} {Q:AV→Al→Prop} (ha:σ.hp a=some (.dict l ep)) (hx:H6 l k=some x) (h:Q x σ):EI C A E env VR (subscriptTail value slice) (.ref a) k.av σ Q:=by
 intro F G s v u hR hv hu
 (have zc:=VR.refI hv;clear hv;subst zc)
 refine xa1_2 (hR.dictOf ha) ?_;intro kvs hd sv
 rcases sv.at k with ⟨x',v',h1,h2,h3⟩|⟨h1,zu⟩
 ·rw [hx] at h1;(have zc:=Option.some.inj h1;clear h1;subst zc)
  have hm:=Dq hd
  exact Ei hm.typeIs slot_dict_getitem.lookup (wpAny_getItem_of (Au.is_of hu) hm h2 (Aw.of h3 (hR.tok _) h))
 ·rw [hx] at h1;exact Ap h1
include hs in
theorem Kq {a:Addr} {l:List (Au×AV)} {ep:Nat} {k:Au} {Q:AV→Al→Prop} (ha:σ.hp a=some (.dict l ep)) (h:Q (.bool (H6 l k).isSome) σ):EI C A E env VR (compareOp .In) k.av (.ref a) σ Q:=by
 intro F G s v u hR hv hu
 (have zc:=VR.refI hu;clear hu;subst zc)
 refine xa1_2 (hR.dictOf ha) ?_;intro kvs hd sv
 refine wpAny_in_of (Au.is_of hv) (hR.low ha hs) (Dq hd) (Aw.of ?_ (hR.tok _) h)
 rcases sv.at k with ⟨x',v',h1,h2,h3⟩|⟨h1,h2⟩
 ·rw [h1,h2];exact .bool _
 ·rw [h1,h2];exact .bool _
theorem LW {a b:Value} {Q:Value→Shared→Prop} (h:wpAny (model C.prog C.w) A (compareOp .In a b) (fun v s'=>∃t,v=.bool t∧Q (.bool (!t)) s') E s):wpAny (model C.prog C.w) A (compareOp .NotIn a b) Q E s:=by
 have h':wpAny (model C.prog C.w) A (do return Value.bool (←contains b a)) (fun v s'=>∃t,v=.bool t∧Q (.bool (!t)) s') E s:=h
 show wpAny _ _ (do return Value.bool (!(←contains b a))) _ _ _
 intro Γ p hΓ
 have z:=h' Γ p hΓ
 rw [Sem.wp_bind'] at z ⊢
 refine Sem.wp_mono _ _ _ (fun t p' s' q=>?_) (fun zu zu zu q=>q) _ _ z
 refine xa1_2 q ?_;(try clear q);intro t' e q
 cases e
 exact q
theorem Gi {x y:AV} {Q:AV→Al→Prop} (h:EI C A E env VR (compareOp .In) x y σ (fun v σ'=>∃t,v=.bool t∧Q (.bool (!t)) σ')):EI C A E env VR (compareOp .NotIn) x y σ Q:=by
 intro F G s v u hR hv hu
 refine LW (wpAny_mono (h F G s v u hR hv hu) (fun r s' z=>?_) fun zu zu x=>x)
 refine cps fun zP zk=>?_;(rcases z with ⟨F',b,σ',e,hb,hR',t,rfl,q⟩)<;>(refine zk ?_;clear zk zP)
 (have zc:=VR.boolI hb;clear hb;subst zc)
 exact ⟨t,rfl,F',_,σ',e,.bool _,hR',q⟩
theorem BO {o i value:Expr} {pos' pos:Pos} {Q:A6→Al→Prop}
  (h:Ev C A E env value σ (fun v σ₁=>Ev C A E env o σ₁ (fun b σ₂=>Ev C A E env i σ₂ (fun k σ₃=>∀F G s vv vb vk,Rp C A F G env σ₃ s→VR F v vv→VR F b vb→VR F k vk →
   wpAny (model C.prog C.w) A (setItem vb vk vv) (fun zu s'=>∃F' σ',AG F F'∧Rp C A F' G env σ' s'∧Q .next σ') E s))))
  (hs:autoParam (swapsWith value (some (.Subscript o i pos')) pos.line env=pure false) AC.aux0._auto_1):Ex C A E env (.Assign [.Subscript o i pos'] value pos) σ Q:=by
 intro F G s hR
 refine wpAny_Assign_Subscript (h.use hR fun F₁ a σ₁ va s₁ e₁ ha hR₁ h₁=>h₁.use hR₁ fun F₂ b σ₂ vb s₂ e₂ hb hR₂ h₂=>h₂.use hR₂ fun F₃ k σ₃ vk s₃ e₃ hk hR₃ h₃=>?_) hs
 refine wpAny_mono (h₃ F₃ G s₃ va vb vk hR₃ (ha.mono (e₂.trans e₃)) (hb.mono e₃) hk) (fun zu s' z=>?_) fun zu zu x=>x
 refine xa2_3 z ?_;(try clear z);intro F' σ' e hR' q
 exact ⟨F',.next,σ',e₁.trans (e₂.trans (e₃.trans e)),.next,hR',q⟩
theorem SameBut.rest {h h':Heap} {a:Addr} (hs:Heap.SameBut a h h'):∀b o,b≠a→h.get? b=some o→h'.get? b=some o:=fun b o ne e=>(hs.2 b ne).trans e
theorem I3 {a:Addr} {l:List (Au×AV)} {ep:Nat} {k:Au} {x:AV} {Q:Al→Prop} (ha:σ.hp a=some (.dict l ep)) (hz:l.length≤4096) (h:∀ep',Q (σ.put a (.dict (FY l k x) ep'))) :
  ∀F G s vv vb vk,Rp C A F G env σ s→VR F x vv→VR F (.ref a) vb→VR F k.av vk→wpAny (model C.prog C.w) A (setItem vb vk vv) (fun zu s'=>∃F' σ',AG F F'∧Rp C A F' G env σ' s'∧Q σ') E s:=by
 intro F G s vv vb vk hR hv hb hk
 (have zc:=VR.refI hb;clear hb;subst zc)
 refine xa1_2 (hR.dictOf ha) ?_;intro kvs hd sv
 refine wpAny_setItem_pairs (Au.is_of hk) hd (fun h' hd' hsb=>?_) (by rw [sv.length,sizeLine_eq];with_reducible exact BX ‹_› (by decide))
 refine xa2_2 (DictOf.or (C:=C) (gens:=s.gens) hd' (sv.stored hv)) ?_;intro o ep' ho r
 exact ⟨F,_,AG.refl F,hR.change ha rfl ho r (SameBut.rest hsb),h ep'⟩
theorem A4 {id:String} {first args:List AV} {Q:AV→Al→Prop} (h:∀F G s us vs,Rp C A F G env σ s→VRs F first us→VRs F args vs→wpAny (model C.prog C.w) A (PySem.call (.builtin id) (us++vs)) (Aw C A G env VR Q F) E s) :
  Bf C A E env (.val (.builtin id)) first args [] σ Q:=by
 intro F G s fv us vs kvs hR hf hus hvs hk
 (have zc:=VR.valI hf;clear hf;subst zc);cases hk
 exact ⟨KeepOk_plain (by intro a;simp),h F G s us vs hR hus hvs⟩
theorem CY {T:String} {args:List AV} {Q:AV→Al→Prop} (h:∀F G s vs,Rp C A F G env σ s→VRs F args vs→wpAny (model C.prog C.w) A (PySem.call (.type T) vs) (Aw C A G env VR Q F) E s) :
  Bf C A E env (.val (.type T)) [] args [] σ Q:=by
 intro F G s fv us vs kvs hR hf hus hvs hk
 (have zc:=VR.valI hf;clear hf;subst zc);cases hk;(have zc:=VRs.nilI hus;clear hus;subst zc)
 exact ⟨KeepOk_plain (by intro a;simp),h F G s vs hR hvs⟩
theorem AU {a:Addr} {x:AO} {T:String} {name:Str} {id:String} {Q:AV→List AV→Al→Prop} (ha:σ.hp a=some x) (hT:∀F gens o,OR C F gens x o→o.cls=.type T∧o.dict=none) (pa:PlainAttrs T) (slot:Slot T name id)
  (hty:typeOf (.builtin id)=pure (.type "method_descriptor")) (h:Q (.val (.builtin id)) [.ref a] σ):Dw C A E env (.ref a) name σ Q:=by
 intro F G s v pl hR hv
 (have zc:=VR.refI hv;clear hv;subst zc)
 refine cps fun zP zk=>?_;(rcases hR.wd.ob a _ ha with ⟨zu,zu,o,ho,r⟩)<;>(refine zk ?_;clear zk zP)
 refine xa0_2 (hT _ _ _ r) ?_;intro h1 h2
 exact getMethod_builtin ⟨o,ho,h1⟩ pa slot hty (fun b e=>by cases e;exact ⟨o,ho,h2⟩) ⟨F,_,_,σ,AG.refl F,.val _,.cons (.ref a) .nil,hR,h⟩
theorem OR.clsL {xs:List AV}:∀F gens o,OR C F gens (.list xs) o→o.cls=.type "list"∧o.dict=none:=by
 intro F gens o r;(refine OR.listC r fun zv zv a b zv zv zv=>?_;clear r);exact ⟨a,b⟩
theorem OR.clsD {l:List (Au×AV)} {ep:Nat}:∀F gens o,OR C F gens (.dict l ep) o→o.cls=.type "dict"∧o.dict=none:=by
 intro F gens o r;(refine OR.dictC r fun zv zv a zv zv zv zv zv=>?_;clear r);exact ⟨a.1,a.2.1⟩
theorem list_append {a:Addr} {xs:List AV} {x:AV} {Q:AV→Al→Prop} (ha:σ.hp a=some (.list xs)) (hz:xs.length≤100000) (h:Q .none (σ.put a (.list (xs++[x])))):Bf C A E env (.val (.builtin "list.append")) [.ref a] [x] [] σ Q:=by
 refine A4 fun F G s us vs hR hus hvs=>?_
 refine VRs.consC hus fun zv zw zo q r=>?_;clear hus;subst zo;(have zc:=VR.refI q;clear q;subst zc);(have zc:=VRs.nilI r;clear r;subst zc);refine VRs.consC hvs fun v zw zo q2 r2=>?_;clear hvs;subst zo
 (have zc:=VRs.nilI r2;clear r2;subst zc)
 refine xa2_2 (hR.list ha) ?_;intro ws n hl hv
 refine call_meets PySem.F.slot_list_append ⟨_,hl,rfl⟩ PySem.F.entry_list_append (PySem.F.args_list_append_2 _ _) (PySem.list_append a ws.toArray n v (by rw [List.size_toArray,hv.length,sizeLine_eq];with_reducible exact BX ‹_› (by decide))) ⟨hl,?_⟩
 have hl':=hl.update (fun x=>x.push v)
 refine ⟨F,.none,_,AG.refl F,.none,hR.change ha rfl hl' ?_ (SameBut.rest (Heap.SameBut.update ..)),h⟩
 rw [List.push_toArray]
 exact OR.ofL (hv.append (.cons q2 .nil))
theorem Im {a:Addr} {xs:List AV} {x:AV} {Q:AV→Al→Prop} (ha:σ.hp a=some (.list (xs++[x]))) (hz:xs.length≤100000) (h:Q x (σ.put a (.list xs))):Bf C A E env (.val (.builtin "list.pop")) [.ref a] [] [] σ Q:=by
 refine A4 fun F G s us vs hR hus hvs=>?_
 obtain rfl:us=[Value.ref a]:=by refine VRs.consC hus fun zv zw zo q r=>?_;clear hus;subst zo;(have zc:=VR.refI q;clear q;subst zc);(have zc:=VRs.nilI r;clear r;subst zc);rfl
 obtain rfl:vs=[]:=by (have zc:=VRs.nilI hvs;clear hvs;subst zc);rfl
 refine xa2_2 (hR.list ha) ?_;intro ws n hl hv
 have hlen:=hv.length
 rw [List.length_append,List.length_singleton] at hlen
 refine xa1_2 (hv.get (i:=xs.length) (x:=x) (by simp)) ?_;intro w hw hwv
 have hd:ws.take xs.length++[w]=ws:=by
  have e1:ws.drop xs.length=[w]:=by
   have:(ws.drop xs.length).length=1:=by rw [List.length_drop];exact Nat.le_antisymm (At [_,_,_] [(1,Z1,(Zs Z2)),(1,(Za Z0 Z2),Z1)] Z0 (Zn 1) rfl (Nat.le_of_eq hlen) (Nat.le_of_eq (Nat.sub_add_cancel (At [_,_] [(1,(Zs Z0),Z1)] Z0 Z1 rfl (Nat.le_of_eq (Eq.symm hlen)))))) (At [_,_,_] [(1,(Zs Z1),Z2),(1,Z2,(Za Z0 Z1))] (Zn 1) Z0 rfl (Nat.le_of_eq (Eq.symm hlen)) (BP _ _))
   refine xa1_1 (List.length_eq_one_iff.mp this) ?_;intro y hy
   have:(ws.drop xs.length)[0]? = some w:=by rw [List.getElem?_drop,Nat.add_zero];exact hw
   rw [hy] at this ⊢;simpa using this
  rw [←e1];exact List.take_append_drop _ _
 refine call_meets PySem.F.slot_list_pop ⟨_,hl,rfl⟩ PySem.F.entry_list_pop (PySem.F.args_list_pop_1 _) (MeetsSeq.list_pop_last a ws.toArray n w (by rw [List.size_toArray,List.getElem?_toArray,hlen];exact hw) (by rw [List.size_toArray,hlen,sizeLine_eq];exact At [_] [(1,Z0,(Zn 100000))] (Zs Z0) (Zn 16777216) rfl hz)) ⟨hl,?_⟩
 have hl':=hl.update (fun y=>y.eraseIdxIfInBounds (ws.toArray.size - 1))
 have ee:(ws.toArray.eraseIdxIfInBounds (ws.toArray.size - 1))=(ws.take xs.length).toArray:=by
  apply Array.ext'
  simp only [List.size_toArray,hlen,Nat.add_sub_cancel]
  rw [Array.toList_eraseIdxIfInBounds]
  show ws.eraseIdx xs.length=_
  conv=>lhs;rw [←hd]
  rw [List.eraseIdx_append_of_length_le (by rw [List.length_take];omega)]
  simp [List.length_take,hlen]
 refine ⟨F,x,_,AG.refl F,hwv,hR.change ha rfl hl' ?_ (SameBut.rest (Heap.SameBut.update ..)),h⟩
 rw [ee]
 have:=hv.take xs.length
 rw [List.take_left] at this
 exact OR.ofL this
theorem Fh {a:Addr} {xs:List AV} {Q:Bool→Al→Prop} (ha:σ.hp a=some (.list xs)) (hz:xs.length≤100000) (h:Q (!xs.isEmpty) σ):H7 C A E env (fun zu b b'=>b=b') truthy (.ref a) σ Q:=by
 intro F G s v hR hv
 (have zc:=VR.refI hv;clear hv;subst zc)
 refine xa2_2 (hR.list ha) ?_;intro ws n hl hv
 refine wpAny_truthy_list hl.isList (by rw [List.size_toArray,hv.length];omega) (Aw.of ?_ (hR.tok _) h)
 rw [List.isEmpty_toArray]
 cases hv<;>rfl
end
end
section
section
variable {C:Cf} {A:Around} {E:Value→Shared→Prop} {env:Env} {σ:Al} {F G:FH} {s:Shared}
theorem NF {a b:Int} {Q:AV→Al→Prop} (h:Q (.int (a+b)) σ):EI C A E env VR (binaryOp .Add) (.int a) (.int b) σ Q:=by
 intro F G s v u hR hv hu;(have zc:=VR.intI hv;clear hv;rcases zc with ⟨zu,zc⟩;subst zc);(have zc:=VR.intI hu;clear hu;rcases zc with ⟨zu,zc⟩;subst zc);exact add_int (Aw.of (.int _ _) (hR.tok _) h)
theorem NE {a b:Int} {Q:AV→Al→Prop} (h:Q (.int (a - b)) σ):EI C A E env VR (binaryOp .Sub) (.int a) (.int b) σ Q:=by
 intro F G s v u hR hv hu;(have zc:=VR.intI hv;clear hv;rcases zc with ⟨zu,zc⟩;subst zc);(have zc:=VR.intI hu;clear hu;rcases zc with ⟨zu,zc⟩;subst zc);exact PyProof.Rows.sub_int (Aw.of (.int _ _) (hR.tok _) h)
theorem OQ {a b:Int} {Q:AV→Al→Prop} (h:Q (.bool (decide (a≤b))) σ):EI C A E env VR (compareOp .LtE) (.int a) (.int b) σ Q:=by
 intro F G s v u hR hv hu;(have zc:=VR.intI hv;clear hv;rcases zc with ⟨zu,zc⟩;subst zc);(have zc:=VR.intI hu;clear hu;rcases zc with ⟨zu,zc⟩;subst zc);exact le_int (Aw.of (.bool _) hR h)
theorem G2 {elts:List Expr} {k:Nat} {pos:Pos} {Q:AV→Al→Prop} (h:Ng C A E env (backTo pos (starEach elts env)) σ (fun vs σ'=>vs.length≤100000∧Q (.tup vs) σ')):Ev C A E env (.Tuple elts k pos) σ Q:=by
 intro F G s hR
 refine Tuple_ (h.use hR fun F₁ vs σ₁ us s₁ e₁ hv hR₁ h₁=>?_)
 have hz:us.length≤sizeLine:=by rw [hv.length,sizeLine_eq];exact At [_] [(1,Z0,(Zn 100000))] Z0 (Zn 16777216) rfl h₁.1
 unfold newTuple
 refine wpAny_newObj_type ?_ (by show us.toArray.size≤sizeLine;rw [List.size_toArray];exact hz)
 refine xa0_2 (hR₁.freeze (t:=s₁.toks) (o':={ cls:=.type "tuple",data:=.seq us.toArray }) rfl) ?_;intro hR₂ e₂
 exact Aw.ext (e₁.trans e₂) (Aw.of (.tup (Ar _ _ _) rfl rfl (hv.mono e₂)) hR₂ h₁.2)
theorem EM {elts:List Expr} {pos:Pos} {Q:AV→Al→Prop} (h:Ng C A E env (backTo pos (starEach elts env)) σ (fun vs σ'=>vs.length≤100000∧∀a,σ'.hp a=none→Q (.ref a) (σ'.put a (.list vs)))):Ev C A E env (.List elts pos) σ Q:=by
 intro F G s hR
 refine List_ (h.use hR fun F₁ vs σ₁ us s₁ e₁ hv hR₁ h₁=>?_)
 have hz:us.length≤sizeLine:=by rw [hv.length,sizeLine_eq];exact At [_] [(1,Z0,(Zn 100000))] Z0 (Zn 16777216) rfl h₁.1
 unfold newList
 refine wpAny_newObj_type ?_ (by show us.toArray.size≤sizeLine;rw [List.size_toArray];exact hz)
 exact Aw.ext e₁ (Aw.of (.ref _) (hR₁.alloc (t:=s₁.toks) rfl rfl (OR.ofL (n:=0) hv)) (h₁.2 _ hR₁.lt))
theorem G3 {pos:Pos} {Q:AV→Al→Prop} (h:∀a,σ.hp a=none→Q (.ref a) (σ.put a (.dict [] 0))):Ev C A E env (.Dict [] [] pos) σ Q:=by
 intro F G s hR
 refine wpAny_Dict_empty ?_
 exact Aw.of (.ref _) (hR.alloc (t:=s.toks) rfl rfl (.dict (es:=#[]) (kvs:=[]) ⟨rfl,rfl,rfl⟩ rfl (fun zu he=>by simp at he) .nil (by simp) .nil)) (h _ hR.lt)
theorem Rp.setOf (hR:Rp C A F G env σ s) {a:Addr} {S:Int→Bool} {n:Nat} (ha:σ.hp a=some (.iset S n)):s.heap.SetOf (intKind C.prog C.w) a S n:=by
 refine cps fun zP zk=>?_;(rcases hR.wd.ob a _ ha with ⟨zu,zu,o,ho,r⟩)<;>(refine zk ?_;clear zk zP)
 (refine OR.isetC r fun zv zv zv a1 a2 a3 a4 a5 a6 a7=>?_;clear r)
 exact ⟨_,_,_,_,ho,a1,a2,a3,a4,a5,a6,a7⟩
theorem SetOf.or {gens} {h':Heap} {a:Addr} {S:Int→Bool} {n:Nat} (hd:h'.SetOf (intKind C.prog C.w) a S n):∃o,h'.get? a=some o∧OR C F gens (.iset S n) o:=by
 refine xa4_8 hd ?_;(try clear hd);intro o es ep t ho a1 a2 a3 a4 a5 a6 a7
 exact ⟨o,ho,.iset a1 a2 a3 a4 a5 a6 a7⟩
theorem JR {Q:AV→Al→Prop} (h:∀a,σ.hp a=none→Q (.ref a) (σ.put a (.iset (fun zu=>false) 0))):Bf C A E env (.val (.type "set")) [] [] [] σ Q:=by
 refine CY fun F G s vs hR hvs=>?_
 obtain rfl:vs=[]:=by (have zc:=VRs.nilI hvs;clear hvs;subst zc);rfl
 refine call_set_0 fun led=>Aw.of (.ref _) (hR.alloc (t:=s.toks) rfl rfl (.iset ⟨rfl,rfl,rfl⟩ rfl (fun e he=>by simp at he) (fun k=>by simp) (by simp;decide) (by rfl) rfl)) (h _ hR.lt)
theorem JS {a:Addr} {S:Int→Bool} {n:Nat} {k:Int} {Q:AV→Al→Prop} (ha:σ.hp a=some (.iset S n)) (hn:n+1<4096) (h:Q .none (σ.put a (.iset (fun j=>S j||decide (j=k)) (if S k then n else n+1)))) :
  Bf C A E env (.val (.builtin "set.add")) [.ref a] [.int k] [] σ Q:=by
 refine A4 fun F G s us vs hR hus hvs=>?_
 obtain rfl:us=[Value.ref a]:=by refine VRs.consC hus fun zv zw zo q r=>?_;clear hus;subst zo;(have zc:=VR.refI q;clear q;subst zc);(have zc:=VRs.nilI r;clear r;subst zc);rfl
 obtain ⟨t,rfl⟩:∃t,vs=[Value.int k t]:=by refine VRs.consC hvs fun zv zw zo q r=>?_;clear hvs;subst zo;(have zc:=VR.intI q;clear q;rcases zc with ⟨zu,zc⟩;subst zc);(have zc:=VRs.nilI r;clear r;subst zc);exact ⟨_,rfl⟩
 refine call_set_add (knd:=intKind C.prog C.w) (k:=k) (by simp [intKind,Value.isInt]) rfl (hR.setOf ha) hn fun h' hsb hS=>?_
 refine xa1_2 (SetOf.or (C:=C) (F:=F) (gens:=s.gens) hS) ?_;intro o ho r
 exact Aw.of .none (hR.change ha rfl ho r (SameBut.rest hsb)) h
theorem LH {a:Addr} {S:Int→Bool} {n:Nat} {k:Int} {Q:AV→Al→Prop} (ha:σ.hp a=some (.iset S n)) (h:Q (.bool (S k)) σ):EI C A E env VR (compareOp .In) (.int k) (.ref a) σ Q:=by
 intro F G s v u hR hv hu
 (have zc:=VR.intI hv;clear hv;rcases zc with ⟨zu,zc⟩;subst zc);(have zc:=VR.refI hu;clear hu;subst zc)
 exact wpAny_inSet_of (knd:=intKind C.prog C.w) (k:=k) (by simp [intKind,Value.isInt]) rfl (hR.setOf ha) (Aw.of (.bool _) (hR.tok _) h)
theorem OR.clsS {S:Int→Bool} {n:Nat}:∀F gens o,OR C F gens (.iset S n) o→o.cls=.type "set"∧o.dict=none:=by
 intro F gens o r;(refine OR.isetC r fun zv zv zv a zv zv zv zv zv zv=>?_;clear r);exact ⟨a.1,a.2.1⟩
theorem IR {a:Addr} {xs:List AV} {Q:AV→Al→Prop} (ha:σ.hp a=some (.list xs)) (hz:xs.length≤100000) (h:Q (.tup xs) σ):Bf C A E env (.val (.type "tuple")) [] [.ref a] [] σ Q:=by
 refine CY fun F G s vs hR hvs=>?_
 obtain rfl:vs=[Value.ref a]:=by refine VRs.consC hvs fun zv zw zo q r=>?_;clear hvs;subst zo;(have zc:=VR.refI q;clear q;subst zc);(have zc:=VRs.nilI r;clear r;subst zc);rfl
 refine xa2_2 (hR.list ha) ?_;intro ws n hl hv
 refine call_tuple_list hl.isList (fun h' hk=>?_) (by rw [List.size_toArray,hv.length,sizeLine_eq];with_reducible exact BX ‹_› (by decide))
 refine xa0_2 ((hR.keep (t:=s.toks) hk).freeze (t:=s.toks) (o':={ cls:=.type "tuple",data:=.seq ws.toArray }) rfl) ?_;intro hR₂ e₂
 exact Aw.ext e₂ (Aw.of (.tup (Ar _ _ _) rfl rfl (hv.mono e₂)) hR₂ h)
theorem N5 {xs:List AV} {Q:AV→Al→Prop} (hz:xs.length≤100000) (h:Q (.int xs.length) σ):Bf C A E env (.val (.builtin "len")) [] [.tup xs] [] σ Q:=by
 refine A4 fun F G s us vs hR hus hvs=>?_
 obtain rfl:us=[]:=by (have zc:=VRs.nilI hus;clear hus;subst zc);rfl
 refine VRs.consC hvs fun zv zw zo q r=>?_;clear hvs;subst zo;(have zc:=VRs.nilI r;clear r;subst zc);refine VR.tupC q fun zs za zw zn zo q1 q2 q3 q4=>?_;clear q;subst zo
 refine PyProof.Rows.len_tuple ⟨_,hR.wd.fz _ _ q1,q2,_,q3⟩ (by rw [List.size_toArray,q4.length];omega) (Aw.of ?_ (hR.tok _) h)
 rw [List.size_toArray,q4.length];exact .int _ _
theorem Mm {x:Str} {Q:AV→Al→Prop} (hz:x.length≤100000) (h:Q (.int x.length) σ):Bf C A E env (.val (.builtin "len")) [] [.str x] [] σ Q:=by
 refine A4 fun F G s us vs hR hus hvs=>?_
 obtain rfl:us=[]:=by (have zc:=VRs.nilI hus;clear hus;subst zc);rfl
 obtain ⟨t,rfl⟩:∃t,vs=[Value.str x t]:=by refine VRs.consC hvs fun zv zw zo q r=>?_;clear hvs;subst zo;(have zc:=VR.strI q;clear q;rcases zc with ⟨zu,zc⟩;subst zc);(have zc:=VRs.nilI r;clear r;subst zc);exact ⟨_,rfl⟩
 exact PyProof.Rows.len_str (by omega) (Aw.of (.int _ _) (hR.tok _) h)
theorem IU {xs:List AV} {Q:Bool→Al→Prop} (hz:xs.length≤100000) (h:Q (!xs.isEmpty) σ):H7 C A E env (fun zu b b'=>b=b') truthy (.tup xs) σ Q:=by
 intro F G s v hR hv
 refine VR.tupC hv fun zs za zw zn zo q1 q2 q3 q4=>?_;clear hv;subst zo
 refine truthy_tuple ⟨_,hR.wd.fz _ _ q1,q2,_,q3⟩ (by rw [List.size_toArray,q4.length];omega) (Aw.of ?_ (hR.tok _) h)
 rw [List.isEmpty_toArray]
 cases q4<;>rfl
theorem Bn {e:Expr} {pos:Pos} {Q:A6→Al→Prop} (h:Ev C A E env e σ (fun zu σ'=>Q .next σ')) (hi:autoParam (interactive env=false) AC.aux0._auto_1) (hs:autoParam (swapsWith e none pos.line env=pure false) AC.aux0._auto_1):Ex C A E env (.Expr e pos) σ Q:=by
 intro F G s hR
 rw [exec_Expr env e pos hi hs]
 exact wpAny_bind (wpAny_standAt (wpAny_bind (h.use hR fun F₁ v σ₁ vv s₁ e₁ hv hR₁ h₁=>wpAny_dropValue (Aw.ext e₁ (Aw.of .next hR₁ h₁)))))
theorem II {o value:Expr} {attr:Str} {tpos pos:Pos} {op:Operator} {Q:A6→Al→Prop}
  (h:Ev C A E env o σ (fun ov σ₁=>H7 C A E env VR (fun v=>getAttr v attr true) ov σ₁ (fun old σ₂=>Ev C A E env value σ₂ (fun v σ₃=>EI C A E env VR (inplaceOp op) old v σ₃ (fun new σ₄=>
   EI C A E env (fun zu (zu:Unit) (zu:Unit)=>True) (fun u w=>setAttr w attr u) new ov σ₄ (fun zu σ₅=>Q .next σ₅)))))):Ex C A E env (.AugAssign (.Attribute o attr tpos) op value pos) σ Q:=by
 intro F G s hR
 refine wpAny_AugAssign_AttributeAny (h.use hR fun F₁ ov σ₁ vo s₁ e₁ ho hR₁ h₁=>wpAny_mono (h₁ F₁ G s₁ vo hR₁ ho) (fun old s₂ z=>?_) fun zu zu x=>x)
 refine cps fun zP zk=>?_;(rcases z with ⟨F₂,oldv,σ₂,e₂,hold,hR₂,h₂⟩)<;>(refine zk ?_;clear zk zP)
 refine h₂.use hR₂ fun F₃ vv σ₃ v s₃ e₃ hv hR₃ h₃=>wpAny_mono (h₃ F₃ G s₃ old v hR₃ (hold.mono e₃) hv) (fun new s₄ z=>?_) fun zu zu x=>x
 refine cps fun zP zk=>?_;(rcases z with ⟨F₄,nv,σ₄,e₄,hn,hR₄,h₄⟩)<;>(refine zk ?_;clear zk zP)
 refine wpAny_mono (h₄ F₄ G s₄ new vo hR₄ hn (ho.mono (e₂.trans (e₃.trans e₄)))) (fun zu s₅ z=>?_) fun zu zu x=>x
 refine cps fun zP zk=>?_;(rcases z with ⟨F₅,b,σ₅,e₅,zu,hR₅,h₅⟩)<;>(refine zk ?_;clear zk zP)
 exact ⟨F₅,.next,σ₅,e₁.trans (e₂.trans (e₃.trans (e₄.trans e₅))),.next,hR₅,h₅⟩
theorem My {a b:Int} {Q:AV→Al→Prop} (h:Q (.int (a+b)) σ):EI C A E env VR (inplaceOp .Add) (.int a) (.int b) σ Q:=by
 intro F G s v u hR hv hu;(have zc:=VR.intI hv;clear hv;rcases zc with ⟨zu,zc⟩;subst zc);(have zc:=VR.intI hu;clear hu;rcases zc with ⟨zu,zc⟩;subst zc);exact iadd_int (Aw.of (.int _ _) (hR.tok _) h)
end
end
section
noncomputable abbrev Bj:Value→Shared→Prop:=fun zu zu=>False
section
variable {C:Cf} {A:Around} {E:Value→Shared→Prop} {env:Env} {σ:Al} {F G:FH} {s:Shared}
theorem EL {test:Expr} {body:List Stmt} {pos:Pos} {Q:A6→Al→Prop} (I:Nat→Al→Prop)
  (turn:∀n σ,I n σ→Et C A Bj env test σ (fun b σ₁=>match b with
   |true=>Cq C A Bj env body σ₁ (fun f σ₂=>match f with
    |.next=>∃m,m<n∧I m σ₂
    |.cont=>∃m,m<n∧I m σ₂
    |.brk=>Q .next σ₂
    |.ret v=>Q (.ret v) σ₂)
   |false=>Q .next σ₁)) (n:Nat) (h:I n σ):Ex C A E env (.While test body [] pos) σ Q:=by
 intro F G s hR
 refine wpAny_While (codeAny_whileLoop (fun n s'=>∃F' σ',AG F F'∧Rp C A F' G env σ' s'∧I n σ') (fun n s' hI=>?_) n ⟨F,σ,AG.refl F,hR,h⟩)
 refine xa2_3 hI ?_;(try clear hI);intro F' σ' e hR' hI
 refine wpAny_mono (turn n σ' hI F' G s' hR') (fun b s₁ z=>?_) fun zu zu x=>x.elim
 refine cps fun zP zk=>?_;(rcases z with ⟨F₁,b',σ₁,e₁,rfl,hR₁,h₁⟩)<;>(refine zk ?_;clear zk zP)
 cases b' with
 |true=>
  refine wpAny_mono (h₁ F₁ G s₁ hR₁) (fun f s₂ z=>?_) fun zu zu x=>x.elim
  refine cps fun zP zk=>?_;(rcases z with ⟨F₂,fl,σ₂,e₂,r,hR₂,h₂⟩)<;>(refine zk ?_;clear zk zP)
  have ee:=e.trans (e₁.trans e₂)
  cases r with
  |next=>refine xa1_2 h₂ ?_;(try clear h₂);intro m hm hi;exact ⟨m,hm,F₂,σ₂,ee,hR₂,hi⟩
  |cont=>refine xa1_2 h₂ ?_;(try clear h₂);intro m hm hi;exact ⟨m,hm,F₂,σ₂,ee,hR₂,hi⟩
  |brk=>exact ⟨F₂,.next,σ₂,ee,.next,hR₂,h₂⟩
  |ret hv=>exact ⟨F₂,_,σ₂,ee,.ret hv,hR₂,h₂⟩
 |false=>exact wpAny_execs_nil ⟨F₁,.next,σ₁,e.trans e₁,.next,hR₁,h₁⟩
theorem A0 (F:FH) {a b:Addr} (o:Obj) (h:b≠a):AM F a o b=F b:=by simp [AM,h]
noncomputable def Df (G m:FH):FH:=fun b=>match m b with|some o=>some o|none=>G b
noncomputable def sg (a:Addr) (o:Obj):FH:=fun b=>if b=a then some o else none
noncomputable def Dz (o:Obj):Prop:=(∀v,o.data≠.cell v)∧∀es ep,o.data≠.dict es ep
noncomputable def DU (m:FH):Prop:=∀b o,m b=some o→Dz o
noncomputable def De (m G:FH):Prop:=∀b o,m b=some o→G b=none
theorem Bp {m:FH} {b:Addr} {o:Obj} (h:m b=some o):Df G m b=some o:=by unfold Df;rw [h]
theorem AH {m:FH} {b:Addr} (h:m b=none):Df G m b=G b:=by unfold Df;rw [h]
theorem Bg (a:Addr) (o:Obj):sg a o a=some o:=by simp [sg]
theorem JP {a b:Addr} (o:Obj) (h:b≠a):sg a o b=none:=by simp [sg,h]
theorem BA {a:Addr} {o:Obj} (h:Dz o):DU (sg a o):=fun b o' e=>by
 unfold sg at e
 split at e
 ·(have zc:=Option.some.inj e;clear e;subst zc);exact h
 ·exact Ak e
theorem DA {a:Addr} {o:Obj} (h:G a=none):De (sg a o) G:=fun b o' e=>by
 unfold sg at e
 split at e
 ·rename_i q;subst q;exact h
 ·exact Ak e
theorem CQ {m:FH} (h:De m G):AG G (Df G m):=fun b o e=>by
 cases q:m b with
 |none=>rw [AH q];exact e
 |some o'=>rw [h b o' q] at e;exact Ak e
theorem Ho {m:FH} (h:De m G) {b:Addr} (e:Df G m b=none):G b=none∧m b=none:=by
 cases q:m b with
 |none=>rw [AH q] at e;exact ⟨e,rfl⟩
 |some o'=>rw [Bp q] at e;exact Ap e
theorem MY.offM {m:FH} (hq:DU m) {e:Env} (h:MY (Df G m) e):MY G e:=by
 refine cps fun zP zk=>?_;(rcases h with ⟨a,L,o,b,c,es,ep,d⟩)<;>(refine zk ?_;clear zk zP)
 refine ⟨a,L,o,b,?_,es,ep,d⟩
 cases q:m L with
 |none=>rw [AH q] at c;exact c
 |some o'=>rw [Bp q] at c;(have zc:=Option.some.inj c;clear c;subst zc);exact absurd d ((hq _ _ q).2 es ep)
theorem GG.offM {m:FH} (hq:DU m) (h:GG A (Df G m) env):GG A G env:=
 let ⟨e,l,a,b,c,d,f⟩:=h
 ⟨e,l,a,b,c,d.imp id (fun z=>z.offM hq),fun e' h'=>(f e' h').offM hq⟩
theorem Rp.ochange {m m':FH} (hR:Rp C A F (Df G m) env σ s) (hq:DU m) (hq':DU m') (hd:De m G) (hdom:∀b,m b=none→m' b=none) {h':Heap} {t:Nat}
  (ho:∀b o,m' b=some o→h'.get? b=some o) (k:∀b ob,m b=none→s.heap.get? b=some ob→h'.get? b=some ob):Rp C A F (Df G m') env σ ⟨h',s.gens,s.drawn,t,s.os⟩:=by
 refine cps fun zP zk=>?_;(rcases hR with ⟨⟨w1,w2,w3,w4,w5,w6,w7,w8⟩,⟨kd,⟨n,hn,hnv⟩,⟨l1,l2,l3⟩,co,ci,cv,fv⟩,hfs⟩)<;>(refine zk ?_;clear zk zP)
 have hd':De m' G:=fun b o e=>by
  cases q:m b with
  |none=>rw [hdom b q] at e;exact Ak e
  |some o'=>exact hd b o' q
 have mn:∀{b},Df G m b=none→m b=none:=fun e=>(Ho hd e).2
 have on:∀{b},Df G m b=none→Df G m' b=none:=fun e=>by rw [AH (hdom _ (mn e))];exact (Ho hd e).1
 refine ⟨⟨w1,fun b ob e=>k _ _ (mn (w8 b ob e)) (w2 b ob e),fun b ob e=>?_,fun b x e=>?_,w5,w6,w7,fun b ob e=>on (w8 b ob e)⟩,⟨kd,⟨n,?_,hnv⟩,⟨l1,on l2,l3⟩,fun x hx=>?_,ci,fun x av c h1 h2 h3=>?_,fun x av h1 h2=>?_⟩,(hfs.offM hq).mono (CQ hd')⟩
 ·cases q:m' b with
  |some o'=>rw [Bp q] at e;(have zc:=Option.some.inj e;clear e;subst zc);exact ⟨_,ho _ _ q,FO.rfl' _⟩
  |none=>
   rw [AH q] at e
   have qm:m b=none:=by
    cases q2:m b with
    |none=>rfl
    |some o2=>rw [hd b o2 q2] at e;exact Ak e
   refine xa1_2 (w3 b ob (by rw [AH qm];exact e)) ?_;intro ob' z1 z2
   exact ⟨ob',k _ _ qm z1,z2⟩
 ·refine cps fun zP zk=>?_;(rcases w4 b x e with ⟨p,q,ob,hob,r⟩)<;>(refine zk ?_;clear zk zP)
  exact ⟨p,on q,ob,k _ _ (mn q) hob,r⟩
 ·refine xa3_2 hn ?_;(try clear hn);intro oL es ep hL r
  exact ⟨oL,es,ep,k _ _ (mn l2) hL,r⟩
 ·refine cps fun zP zk=>?_;(rcases co x hx with ⟨c,g1,g2,g3,g4,g5,v,ob,g6,g7⟩)<;>(refine zk ?_;clear zk zP)
  exact ⟨c,g1,g2,on g3,g4,g5,v,ob,k _ _ (mn g3) g6,g7⟩
 ·refine xa1_4 (co x h2) ?_;intro c' g1 g2 g3 zu
  rw [h3] at g1;(have zc:=Option.some.inj g1;clear g1;subst zc)
  refine xa1_2 (cv x av c h1 h2 h3) ?_;intro v;intro zq;refine xa1_2 zq ?_;(try clear zq);intro ob g6 g7;intro g8
  exact ⟨v,⟨ob,k _ _ (mn g3) g6,g7⟩,g8⟩
 ·refine xa3_4 (fv x av h1 h2) ?_;intro c v ob a1 a2 a3 a4
  refine ⟨c,v,ob,a1,?_,a3,a4⟩
  cases q:m c with
  |none=>rw [AH q] at a2;rw [AH (hdom _ q)];exact a2
  |some o'=>rw [Bp q] at a2;(have zc:=Option.some.inj a2;clear a2;subst zc);exact absurd a3 ((hq _ _ q).1 _)
theorem Nv:Df G (fun zu=>none)=G:=rfl
theorem Rp.odrop {m:FH} (hR:Rp C A F (Df G m) env σ s) (hq:DU m) (hd:De m G) {h':Heap} {t:Nat} (k:∀b ob,m b=none→s.heap.get? b=some ob→h'.get? b=some ob):Rp C A F G env σ ⟨h',s.gens,s.drawn,t,s.os⟩:=by
 have:=Rp.ochange (m':=fun zu=>none) (t:=t) hR hq (fun zu zu e=>by exact Ak e) hd (fun zu zu=>rfl) (fun zu zu e=>by exact Ak e) k
 rwa [Nv] at this
theorem Rp.odrop0 {m:FH} (hR:Rp C A F (Df G m) env σ s) (hq:DU m) (hd:De m G):Rp C A F G env σ s:=hR.odrop hq hd (t:=s.toks) fun zu zu zu e=>e
theorem Rp.freezeAt (hR:Rp C A F G env σ s) {a:Addr} {o:Obj} (ho:s.heap.get? a=some o) (hF:F a=none) (hG:G a=none) (hp:σ.hp a=none) (hl:a≠env.locals) (hc:∀x c,env.kindOf x=some .cell→env.cells.lookup x=some c→a≠c) :
  Rp C A (AM F a o) G env σ s∧AG F (AM F a o):=by
 have ex:=AR o hF
 refine cps fun zP zk=>?_;(rcases hR with ⟨⟨w1,w2,w3,w4,w5,w6,w7,w8⟩,⟨kd,⟨m,hm,hmv⟩,⟨l1,l2,l3⟩,co,ci,cv,fv⟩,hfs⟩)<;>(refine zk ?_;clear zk zP)
 refine ⟨⟨⟨fun b o e=>ex _ _ (w1 b o e),fun b ob e=>?_,w3,fun b x e=>?_,w5,w6,w7,fun b ob e=>?_⟩,⟨kd,⟨m,hm,fun x av h1 h2=>let ⟨v,p,q⟩:=hmv x av h1 h2;⟨v,p,q.mono ex⟩⟩,⟨by rw [A0 _ _ hl.symm];exact l1,l2,l3⟩,fun x hx=>?_,ci,fun x av c h1 h2 h3=>let ⟨v,p,q⟩:=cv x av c h1 h2 h3;⟨v,p,q.mono ex⟩,fun x av h1 h2=>let ⟨c,v,o,p,q,r,t⟩:=fv x av h1 h2;⟨c,v,o,p,q,r,t.mono ex⟩⟩,hfs⟩,ex⟩
 ·by_cases q:b=a
  ·subst q;rw [Ar] at e;(have zc:=Option.some.inj e;clear e;subst zc);exact ho
  ·rw [A0 _ _ q] at e;exact w2 b ob e
 ·refine cps fun zP zk=>?_;(rcases w4 b x e with ⟨p,q,ob,hob,r⟩)<;>(refine zk ?_;clear zk zP)
  have n:b≠a:=fun zE=>by (first|rw [zE,hp] at e|rw [←zE,hp] at e);exact Ak e
  exact ⟨by rw [A0 _ _ n];exact p,q,ob,hob,r.mono ex⟩
 ·by_cases q:b=a
  ·subst q;exact hG
  ·rw [A0 _ _ q] at e;exact w8 b ob e
 ·refine xa1_3 (co x hx) ?_;intro c g1 g2 r
  exact ⟨c,g1,by rw [A0 _ _ (hc x c hx g1).symm];exact g2,r⟩
theorem Rp.oput {m:FH} (hR:Rp C A F G env σ s) (hm:∀b o,m b=some o→s.heap.objs.size≤b) {h':Heap} {t:Nat} (ho:∀b o,m b=some o→h'.get? b=some o) (k:∀b ob,s.heap.get? b=some ob→h'.get? b=some ob) :
  De m G∧Rp C A F (Df G m) env σ ⟨h',s.gens,s.drawn,t,s.os⟩:=by
 have lt:=fun b o (e:m b=some o)=>hR.wd.lt (hm b o e)
 have dj:De m G:=fun b o e=>(lt b o e).2.1
 have low:∀{b o},s.heap.get? b=some o→∀x,¬m b=some x:=fun e x q=>Nat.not_lt.mpr (hm _ _ q) (Heap.lt_size e)
 have on:∀{b},(∀x,¬m b=some x)→G b=none→Df G m b=none:=fun {b} h e=>by
  cases q:m b with
  |none=>rw [AH q];exact e
  |some x=>exact absurd q (h x)
 have hK:=hR.keep (t:=t) k
 refine ⟨dj,⟨⟨hK.wd.base,hK.wd.fz,fun b o e=>?_,fun a x e=>?_,hK.wd.os,hK.wd.bare,hK.wd.gi,fun b o e=>?_⟩,⟨hK.fm.kind,hK.fm.ns,⟨hK.fm.lo.1,on ?_ hK.fm.lo.2.1,hK.fm.lo.2.2⟩,fun x hx=>?_,hK.fm.ci,hK.fm.cv,fun x av a b=>?_⟩,hR.fs.mono (CQ dj)⟩⟩
 ·cases q:m b with
  |none=>rw [AH q] at e;exact hK.wd.gz b o e
  |some x=>rw [Bp q] at e;(have zc:=Option.some.inj e;clear e;subst zc);exact ⟨_,ho _ _ q,FO.rfl' _⟩
 ·refine cps fun zP zk=>?_;(rcases hK.wd.ob a x e with ⟨p,q,o,w⟩)<;>(refine zk ?_;clear zk zP)
  refine cps fun zP zk=>?_;(rcases hR.wd.ob a x e with ⟨zu,zu,o',h',zu⟩)<;>(refine zk ?_;clear zk zP)
  exact ⟨p,on (low h') q,o,w⟩
 ·exact on (low (hR.wd.fz b o e)) (hK.wd.fg b o e)
 ·refine xa1_2 hR.fm.ns ?_;intro m;intro zq;refine xa3_2 zq ?_;(try clear zq);intro oL es ep hL zu;intro zu
  exact low hL
 ·refine xa1_6 (hK.fm.co x hx) ?_;intro c g1 g2 g3 g4 g5 g6
  refine cps fun zP zk=>?_;(rcases hR.fm.co x hx with ⟨c',g1',zu,zu,zu,zu,v,o',ho',zu⟩)<;>(refine zk ?_;clear zk zP)
  rw [g1] at g1';(have zc:=Option.some.inj g1';clear g1';subst zc)
  exact ⟨c,g1,g2,on (low ho') g3,g4,g5,g6⟩
 ·refine xa3_4 (hK.fm.fv x av a b) ?_;intro c v o' a1 a2 a3 a4
  exact ⟨c,v,o',a1,CQ dj _ _ a2,a3,a4⟩
theorem Rp.oat {m:FH} (hR:Rp C A F (Df G m) env σ s) (hq:DU m) {b:Addr} {o:Obj} (e:m b=some o):s.heap.get? b=some o:=hR.wd.gzx (Bp e) (hq _ _ e).2
theorem LG {a b:Addr} {o o':Obj} (h:sg a o b=some o'):b=a∧o'=o:=by
 unfold sg at h
 split at h
 ·(have zc:=Option.some.inj h;clear h;subst zc);exact ⟨by assumption,rfl⟩
 ·exact Ak h
theorem IX {a b:Addr} {o o':Obj} (h:sg a o b=none):sg a o' b=none:=by
 unfold sg at h ⊢
 split at h
 ·exact Ap h
 ·rename_i q;rw [if_neg q]
theorem As {o:Obj} {vs:Array Value} (h:o.data=.fields vs):Dz o:=⟨fun v e=>(by rw [h] at e;cases e),fun es ep e=>(by rw [h] at e;cases e)⟩
theorem Rp.put1 (hR:Rp C A F G env σ s) {o:Obj} {t:Nat} (hf:o.isFreed=false):G s.heap.objs.size=none∧Rp C A F (Df G (sg s.heap.objs.size o)) env σ ⟨s.heap.push o,s.gens,s.drawn,t,s.os⟩:=by
 refine xa0_2 (hR.oput (m:=sg s.heap.objs.size o) (t:=t) (h':=s.heap.push o) (fun b o' e=>by rw [(LG e).1];exact Nat.le_refl _) (fun b o' e=>by refine xa0_2 (LG e) ?_;rintro rfl;rintro rfl;exact Heap.get?_push_size _ hf) fun b ob e=>Heap.get?_push_of_some _ e) ?_;intro a b
 exact ⟨a _ _ (Bg _ _),b⟩
theorem Rp.turn1 {a:Addr} {o o':Obj} (hR:Rp C A F (Df G (sg a o)) env σ s) (hg:G a=none) (hq:Dz o) (hq':Dz o') {h':Heap} {t:Nat} (ho:h'.get? a=some o') (k:∀b ob,b≠a→s.heap.get? b=some ob→h'.get? b=some ob) :
  Rp C A F (Df G (sg a o')) env σ ⟨h',s.gens,s.drawn,t,s.os⟩:=
 hR.ochange (BA hq) (BA hq') (DA hg) (fun b e=>IX e) (fun b ob e=>by refine xa0_2 (LG e) ?_;rintro rfl;rintro rfl;exact ho) fun b ob e=>k b ob fun q=>by subst q;rw [Bg] at e;exact Ap e
theorem Rp.drop1 {a:Addr} {o:Obj} (hR:Rp C A F (Df G (sg a o)) env σ s) (hg:G a=none) (hq:Dz o) {h':Heap} {t:Nat} (k:Heap.ExtBut a s.heap h'):Rp C A F G env σ ⟨h',s.gens,s.drawn,t,s.os⟩:=
 hR.odrop (BA hq) (DA hg) fun b ob e=>k b ob fun q=>by subst q;rw [Bg] at e;exact Ap e
noncomputable def JH (C:Cf) (A:Around) (env:Env) (target:Expr) (x:AV) (σ:Al) (Q:Al→Prop):Prop:=
 ∀F G s v,Rp C A F G env σ s→VR F x v→wpAny (model C.prog C.w) A (assign target env v) (fun zu s'=>∃F' σ',AG F F'∧Rp C A F' G env σ' s'∧Q σ') Bj s
theorem By {x:Str} {pos:Pos} {v:AV} {Q:Al→Prop} (h:Q (σ.set x v)) (hk:autoParam (DR (env.kindOf x)=true) AC.aux0._auto_1):JH C A env (.Name x pos) v σ Q:=by
 intro F G s u hR hu
 exact wpAny_assign_Name (C6 hR hu (Ds hk) fun s' hR'=>⟨F,_,AG.refl F,hR',h⟩)
inductive PW (C:Cf) (A:Around) (F G m:FH) (env:Env) (σ:Al) (x:AV) (xs:List AV) (P:FH→List AV→FH→Prop) (v:Value) (s₂:Shared):Prop
 |mk (F' m':FH) (e:AG F F') (hv:VR F' x v) (hP:P F' xs m') (dom:∀b,m b=none→m' b=none) (hR:Rp C A F' (Df G m') env σ s₂)
structure CJ (C:Cf) (A:Around) (target:Expr) (it:Addr) (K:HP→Prop) (P:FH→List AV→FH→Prop):Prop where
 quiet:∀F xs m,P F xs m→DU m
 mono:∀F F' xs m,AG F F'→P F xs m→P F' xs m
 more:∀env F G s σ x xs m,Rp C A F (Df G m) env σ s→De m G→K σ.hp→P F (x::xs) m →
  wpAny (model C.prog C.w) A (pyNext (.ref it)) (fun r s₁=>∃v,r=some v∧wpAny (model C.prog C.w) A (letOwnedTupleGo target (.ref it) v) (fun zu s₂=>PW C A F G m env σ x xs P v s₂) Bj s₁) Bj s
 done:∀env F G s σ m,Rp C A F (Df G m) env σ s→De m G→K σ.hp→P F [] m →
  wpAny (model C.prog C.w) A (pyNext (.ref it)) (fun r s₁=>r=none∧Rp C A F G env σ s₁) Bj s
theorem CJ.weak {target:Expr} {it:Addr} {K K':HP→Prop} {P:FH→List AV→FH→Prop} (h:CJ C A target it K P) (k:∀σ,K' σ→K σ):CJ C A target it K' P:=
 ⟨h.quiet,h.mono,fun env F G s σ x xs m a b c d=>h.more env F G s σ x xs m a b (k _ c) d,fun env F G s σ m a b c d=>h.done env F G s σ m a b (k _ c) d⟩
noncomputable def Oe (Q:A6→Al→Prop) (I:Al→Prop) (f:A6) (σ:Al):Prop:=
 match f with
 |.next=>I σ
 |.cont=>I σ
 |.brk=>Q .next σ
 |.ret v=>Q (.ret v) σ
inductive Ot (C:Cf) (A:Around) (F₀ G:FH) (env:Env) (P:FH→List AV→FH→Prop) (I:List AV→Al→Prop) (n:Nat) (s:Shared):Prop
 |mk (F:FH) (σ:Al) (m:FH) (xs:List AV) (e:AG F₀ F) (dj:De m G) (hR:Rp C A F (Df G m) env σ s) (hP:P F xs m) (hI:I xs σ) (hl:xs.length=n)
theorem De.dom {m m':FH} (h:De m G) (k:∀b,m b=none→m' b=none):De m' G:=fun b o e=>by
 cases q:m b with
 |none=>rw [k b q] at e;exact Ak e
 |some o'=>exact h b o' q
theorem Iw {target:Expr} {it:Addr} {body:List Stmt} {K:HP→Prop} {P:FH→List AV→FH→Prop} (T:CJ C A target it K P) {Q:A6→Al→Prop} (I:List AV→Al→Prop) (hK:∀xs σ,I xs σ→K σ.hp)
  (turn:∀x xs σ,I (x::xs) σ→JH C A env target x σ (fun σ₁=>Cq C A Bj env body σ₁ (Oe Q (I xs)))) (fin:∀σ,I [] σ→Q .next σ)
  {xs:List AV} {F₀:FH} (h0:Ot C A F₀ G env P I xs.length s) {R:Result→Shared→Prop}
  (hQ:∀f s',Aw C A G env NW Q F₀ f s'→R (.ok f) s'):codeAny (model C.prog C.w) A (.forLoop target (.ref it) body [] env) R s:=by
 refine codeAny_loop' rfl (Ot C A F₀ G env P I) (fun n s' hI=>?_) xs.length h0
 refine cps fun zP zk=>?_;(rcases hI with ⟨F',σ',m,xs',e,dj,hR',hP',hI',hl⟩)<;>(refine zk ?_;clear zk zP)
 show wpAny _ _ ((forTurn target (.ref it) body [] env).onRaise (fun x=>do noteFrame x env;theTreesLotGoes x)) _ _ s'
 refine wpAny_onRaise ?_
 simp only [forTurn]
 refine wpAny_bind (wpAny_standAt (wpAny_bind (wpAny_onRaise ?_)))
 cases xs' with
 |nil=>
  refine wpAny_mono (T.done env F' G s' σ' m hR' dj (hK _ _ hI') hP') (fun r s₁ z=>?_) fun zu zu x=>x.elim
  refine xa0_2 z ?_;(try clear z);rintro rfl;intro hR₁
  exact wpAny_pure (.inr ⟨rfl,codeAny_block (wpAny_execs_nil (hQ _ _ ⟨F',.next,σ',e,.next,hR₁,fin _ hI'⟩))⟩)
 |cons x xs'=>
  refine wpAny_mono (T.more env F' G s' σ' x xs' m hR' dj (hK _ _ hI') hP') (fun r s₁ z=>?_) fun zu zu x=>x.elim
  refine xa1_2 z ?_;(try clear z);intro v;rintro rfl;intro z
  refine wpAny_bind (wpAny_mono z (fun zu s₂ z=>?_) fun zu zu x=>x.elim)
  refine cps fun zP zk=>?_;(rcases z with ⟨F₂,m₂,e₂,hv,hP₂,dom,hR₂⟩)<;>(refine zk ?_;clear zk zP)
  refine wpAny_bind (wpAny_mono (turn x xs' σ' hI' F₂ _ s₂ v hR₂ hv) (fun zu s₃ z=>?_) fun zu zu x=>x.elim)
  refine xa2_3 z ?_;(try clear z);intro F₃ σ₃ e₃ hR₃ h₃
  refine wpAny_bind (wpAny_mono (h₃ F₃ _ s₃ hR₃) (fun f s₄ z=>?_) fun zu zu x=>x.elim)
  refine cps fun zP zk=>?_;(rcases z with ⟨F₄,fl,σ₄,e₄,r,hR₄,h₄⟩)<;>(refine zk ?_;clear zk zP)
  have ee:=e.trans (e₂.trans (e₃.trans e₄))
  have hl':xs'.length<n:=by rw [←hl];exact Nat.lt_succ_self _
  have hP₄:=T.mono _ _ _ _ (e₃.trans e₄) hP₂
  have dj₂:=dj.dom dom
  cases r with
  |next=>exact wpAny_pure (.inl ⟨rfl,_,hl',F₄,σ₄,m₂,xs',ee,dj₂,hR₄,hP₄,h₄,rfl⟩)
  |cont=>exact wpAny_pure (.inl ⟨rfl,_,hl',F₄,σ₄,m₂,xs',ee,dj₂,hR₄,hP₄,h₄,rfl⟩)
  |brk=>exact wpAny_pure (hQ _ _ ⟨F₄,.next,σ₄,ee,.next,hR₄.odrop0 (T.quiet _ _ _ hP₂) dj₂,h₄⟩)
  |ret hv=>exact wpAny_pure (hQ _ _ ⟨F₄,_,σ₄,ee,.ret hv,hR₄.odrop0 (T.quiet _ _ _ hP₂) dj₂,h₄⟩)
inductive Cy (C:Cf) (A:Around) (F G:FH) (env:Env) (σ:Al) (target:Expr) (xs:List AV) (K:HP→Prop) (iv:Value) (s:Shared):Prop
 |mk (it:Addr) (m:FH) (P:FH→List AV→FH→Prop) (e:iv=.ref it) (dj:De m G) (hR:Rp C A F (Df G m) env σ s) (hP:P F xs m) (T:CJ C A target it K P)
noncomputable def Dy (C:Cf) (A:Around) (E:Value→Shared→Prop) (env:Env) (target:Expr) (x:AV) (xs:List AV) (K:HP→Prop) (σ:Al):Prop:=
 ∀F G s v,Rp C A F G env σ s→VR F x v→wpAny (model C.prog C.w) A (pyIter v) (Cy C A F G env σ target xs K) E s
theorem Dy.weak {target:Expr} {x:AV} {xs:List AV} {K K':HP→Prop} (h:Dy C A E env target x xs K σ) (k:∀σ,K' σ→K σ):Dy C A E env target x xs K' σ:=fun F G s v hR hv=>
 wpAny_mono (h F G s v hR hv) (fun _ _ ⟨it,m,P,h1,h2,h3,h4,h5⟩=>⟨it,m,P,h1,h2,h3,h4,h5.weak k⟩) fun zu zu x=>x
theorem HB {target iter:Expr} {body:List Stmt} {pos:Pos} {Q:A6→Al→Prop} (K:AV→Al→HP→Prop) (I:AV→Al→List AV→Al→Prop)
  (h:Ev C A E env iter σ (fun a σ₁=>∃xs,Dy C A E env target a xs (K a σ₁) σ₁∧I a σ₁ xs σ₁))
  (hK:∀a σ₁ xs σ,I a σ₁ xs σ→K a σ₁ σ.hp)
  (turn:∀a σ₁ x xs σ,I a σ₁ (x::xs) σ→JH C A env target x σ (fun σ₂=>Cq C A Bj env body σ₂ (Oe Q (I a σ₁ xs)))) (fin:∀a σ₁ σ,I a σ₁ [] σ→Q .next σ)
  (hs:autoParam (∀x,foldedSetIterable iter env x=pure x) AC.aux4._auto_1):Ex C A E env (.For target iter body [] pos) σ Q:=by
 intro F G s hR
 refine wpAny_For (h.use hR fun F₁ a σ₁ va s₁ e₁ ha hR₁ h₁=>?_) hs
 refine xa1_2 h₁ ?_;(try clear h₁);intro xs hit hI
 refine wpAny_mono (hit F₁ G s₁ va hR₁ ha) (fun iv s₂ z=>?_) fun zu zu x=>x
 refine cps fun zP zk=>?_;(rcases z with ⟨it,m,P,rfl,dj,hR₂,hP,T⟩)<;>(refine zk ?_;clear zk zP)
 exact Iw T (I a σ₁) (hK a σ₁) (turn a σ₁) (fin a σ₁) ⟨F₁,σ₁,m,xs,e₁,dj,hR₂,hP,hI,rfl⟩ fun f s' z=>z
noncomputable def Cv (target:Expr):Prop:=∀it v,letOwnedTupleGo target it v=pure ()
theorem Ea {x:Str} {pos:Pos}:Cv (.Name x pos):=fun zu zu=>rfl
inductive Qc (F:FH) (x:AV) (v:Value) (n:Nat) (h:Heap):Prop
 |old (hv:VR F x v)
 |tup (T:Addr) (o:Obj) (vs:List Value) (k:Nat) (xs:List AV) (e:v=.ref T) (hT:n≤T) (ho:h.get? T=some o) (hc:o.cls=.type "tuple") (hd:o.data=.seq vs.toArray k) (hv:VRs F xs vs) (ex:x=.tup xs)
inductive QR (wr:List Addr) (F:FH) (x:AV) (St:Heap→Prop) (v:Value) (s s₂:Shared):Prop
 |mk (h':Heap) (tk:Nat) (es:s₂=⟨h',s.gens,s.drawn,tk,s.os⟩) (st:St h') (k:∀b o,b∉wr→s.heap.get? b=some o→h'.get? b=some o) (hv:Qc F x v s.heap.objs.size h')
structure Wk (C:Cf) (A:Around) (target:Expr) (I:Addr) (fp wr:List Addr) (St:Nat→Heap→Prop) (xs:List AV) (FK F:FH):Prop where
 frame:∀i h h',St i h→(∀b∈fp,∀o,h.get? b=some o→h'.get? b=some o)→St i h'
 frz:∀b∈fp,b∈wr∨∃o,FK b=some o
 inert:∀i h,St i h→∀b∈wr,∃o,h.get? b=some o∧Dz o
 more:∀i x (s:Shared),xs[i]? = some x→St i s.heap→wpAny (model C.prog C.w) A (pyNext (.ref I)) (fun r s₁=>∃v,r=some v∧wpAny (model C.prog C.w) A (letOwnedTupleGo target (.ref I) v) (fun zu s₂=>QR wr F x (St (i+1)) v s s₂) Bj s₁) Bj s
 done:∀(s:Shared),St xs.length s.heap→wpAny (model C.prog C.w) A (pyNext (.ref I)) (fun r s₁=>r=none∧∃h' tk,s₁=⟨h',s.gens,s.drawn,tk,s.os⟩∧∀b o,b∉wr→s.heap.get? b=some o→h'.get? b=some o) Bj s
 self:∀i (s:Shared) (Q:Value→Shared→Prop) (E:Value→Shared→Prop),St i s.heap→Q (.ref I) s→wpAny (model C.prog C.w) A (pyIter (.ref I)) Q E s
noncomputable def Bk (h:Heap) (wr:List Addr):FH:=fun b=>if b∈wr then h.get? b else none
theorem B3 {h:Heap} {wr:List Addr} {b:Addr} {o:Obj} (e:Bk h wr b=some o):b∈wr∧h.get? b=some o:=by
 unfold Bk at e
 split at e
 ·exact ⟨by assumption,e⟩
 ·exact Ak e
theorem Fl {h:Heap} {wr:List Addr} {b:Addr} (hb:b∈wr):Bk h wr b=h.get? b:=if_pos hb
theorem Hl {h:Heap} {wr:List Addr} {b:Addr} (hb:b∉wr):Bk h wr b=none:=if_neg hb
inductive QS (St:Nat→Heap→Prop) (wr:List Addr) (F₀:FH) (xs:List AV) (F:FH) (ys:List AV) (m:FH):Prop
 |mk (i:Nat) (h:Heap) (e:AG F₀ F) (hF:∀b o,F₀ b=some o→h.get? b=some o) (st:St i h) (em:m=Bk h wr) (ey:ys=xs.drop i) (hi:i≤xs.length)
theorem Wk.quiet {target:Expr} {I:Addr} {fp wr:List Addr} {St:Nat→Heap→Prop} {xs:List AV} {F₀:FH} (W:Wk C A target I fp wr St xs F₀ F₀) {i:Nat} {h:Heap} (st:St i h):DU (Bk h wr):=fun b o e=>by
 refine xa0_2 (B3 e) ?_;intro hb ho
 refine xa1_2 (W.inert i h st b hb) ?_;intro o' h1 h2
 rw [ho] at h1;(have zc:=Option.some.inj h1;clear h1;subst zc);exact h2
theorem Wk.at {target:Expr} {I:Addr} {fp wr:List Addr} {St:Nat→Heap→Prop} {xs:List AV} {F₀:FH} (W:Wk C A target I fp wr St xs F₀ F₀) {i:Nat} {h:Heap} (st:St i h) (e:AG F₀ F) (hF:∀b o,F₀ b=some o→h.get? b=some o) (hR:Rp C A F (Df G (Bk h wr)) env σ s):St i s.heap:=by
 refine W.frame i h _ st fun b hb o ho=>?_
 rcases W.frz b hb with h1|⟨o',h1⟩
 ·exact hR.oat (W.quiet st) ((Fl h1).trans ho)
 ·have:=hF b o' h1
  rw [ho] at this;(have zc:=Option.some.inj this;clear this;subst zc)
  exact hR.wd.fz _ _ (e _ _ h1)
theorem DG {xs ys:List AV} {y:AV} {i:Nat} (h:y::ys=xs.drop i):xs[i]? = some y∧ys=xs.drop (i+1):=by
 constructor
 ·have:=congrArg (fun l=>l[0]?) h
  simp only [List.getElem?_cons_zero,List.getElem?_drop,Nat.add_zero] at this
  exact this.symm
 ·have:=congrArg List.tail h
  simp only [List.tail_cons,List.tail_drop] at this
  exact this
theorem E8 {xs:List AV} {i:Nat} (h:[]=xs.drop i):xs[i]? = none:=by
 rw [List.getElem?_eq_none_iff]
 exact List.drop_eq_nil_iff.mp h.symm
theorem Rp.fresh (hR:Rp C A F G env σ s) {T:Addr} (hT:s.heap.objs.size≤T):T≠env.locals∧∀x c,env.kindOf x=some .cell→env.cells.lookup x=some c→T≠c:=by
 refine ⟨fun e=>?_,fun x c hx hc e=>?_⟩
 ·refine xa1_2 hR.fm.ns ?_;intro m;intro zq;refine xa3_2 zq ?_;(try clear zq);intro oL es ep hL zu;intro zu
  exact Nat.not_lt.mpr hT (e▸Heap.lt_size hL)
 ·refine cps fun zP zk=>?_;(rcases hR.fm.co x hx with ⟨c',g1,zu,zu,zu,zu,v',o',ho',zu⟩)<;>(refine zk ?_;clear zk zP)
  rw [hc] at g1;(have zc:=Option.some.inj g1;clear g1;subst zc)
  exact Nat.not_lt.mpr hT (e▸Heap.lt_size ho')
theorem Wk.dom {target:Expr} {I:Addr} {fp wr:List Addr} {St:Nat→Heap→Prop} {xs:List AV} {F₀:FH} (W:Wk C A target I fp wr St xs F₀ F₀) {i:Nat} {h:Heap} (st:St i h) {b:Addr} (e:Bk h wr b=none):b∉wr:=fun hb=>by
 refine xa1_2 (W.inert i h st b hb) ?_;intro o h1 zu
 rw [Fl hb,h1] at e;exact Ap e
theorem CJ.ofWk {target:Expr} {I:Addr} {fp wr:List Addr} {St:Nat→Heap→Prop} {xs:List AV} {F₀:FH} (W:Wk C A target I fp wr St xs F₀ F₀):CJ C A target I (fun zu=>True) (QS St wr F₀ xs) where
 quiet:=by
  (rintro F ys m;intro zr;refine cps fun zP zk=>?_;(rcases zr with ⟨i,h,e,hF,st,rfl,ey,hi⟩)<;>(refine zk ?_;clear zk zP))
  exact W.quiet st
 mono:=by
  (rintro F F' ys m ex;intro zr;refine cps fun zP zk=>?_;(rcases zr with ⟨i,h,e,hF,st,rfl,ey,hi⟩)<;>(refine zk ?_;clear zk zP))
  exact ⟨i,h,e.trans ex,hF,st,rfl,ey,hi⟩
 more:=by
  (rintro env F G s σ x ys m hR dj -;intro zr;refine cps fun zP zk=>?_;(rcases zr with ⟨i,h,e,hF,st,rfl,ey,hi⟩)<;>(refine zk ?_;clear zk zP))
  refine xa0_2 (DG ey) ?_;intro hx ey2
  clear ey
  refine wpAny_mono (W.more i x s hx (W.at st e hF hR)) (fun r s₁ z=>?_) fun zu zu x=>x
  refine xa1_2 z ?_;(try clear z);intro v;rintro rfl;intro z
  refine ⟨v,rfl,wpAny_mono z (fun zu s₂ z=>?_) fun zu zu x=>x⟩
  refine cps fun zP zk=>?_;(rcases z with ⟨h',tk,rfl,st',k,hv⟩)<;>(refine zk ?_;clear zk zP)
  have dom:∀b,Bk h wr b=none→Bk h' wr b=none:=fun b q=>Hl (W.dom st q)
  have hR':=hR.ochange (t:=tk) (W.quiet st) (W.quiet st') dj dom (fun b o q=>(B3 q).2) fun b ob q=>k b ob (W.dom st q)
  have hi':i+1≤xs.length:=by refine xa1_1 (List.getElem?_eq_some_iff.mp hx) ?_;intro q zu;exact q
  have hF2:∀b o,F₀ b=some o→h'.get? b=some o:=fun b o q=>hR'.wd.fz b o (e b o q)
  cases hv with
  |old hv=>exact ⟨F,_,AG.refl F,hv.mono e,⟨i+1,h',e,hF2,st',rfl,ey2,hi'⟩,dom,hR'⟩
  |tup T o vs kk cs ev hT ho hc hd hv ex=>
   refine xa0_3 (hR.wd.lt hT) ?_;intro z1 z2 z3
   refine xa0_2 (hR.fresh hT) ?_;intro z4 z5
   refine xa0_2 (Ho dj z2) ?_;intro g1 g2
   refine xa0_2 (hR'.freezeAt ho z1 (by rw [AH (dom _ g2)];exact g1) z3 z4 z5) ?_;intro hR2 e2
   subst ev ex
   exact ⟨_,_,e2,.tup (Ar _ _ _) hc hd ((hv.mono e).mono e2),⟨i+1,h',e.trans e2,hF2,st',rfl,ey2,hi'⟩,dom,hR2⟩
 done:=by
  (rintro env F G s σ m hR dj -;intro zr;refine cps fun zP zk=>?_;(rcases zr with ⟨i,h,e,hF,st,rfl,ey,hi⟩)<;>(refine zk ?_;clear zk zP))
  have hx:=E8 ey
  have hi':i=xs.length:=Nat.le_antisymm hi (List.getElem?_eq_none_iff.mp hx)
  subst hi'
  refine wpAny_mono (W.done s (W.at st e hF hR)) (fun r s₁ z=>?_) fun zu zu x=>x
  refine cps fun zP zk=>?_;(rcases z with ⟨rfl,h',tk,rfl,k⟩)<;>(refine zk ?_;clear zk zP)
  exact ⟨rfl,hR.odrop (W.quiet st) dj fun b ob q=>k b ob (W.dom st q)⟩
theorem Cy.ofWk {target:Expr} {I:Addr} {fp wr:List Addr} {St:Nat→Heap→Prop} {xs:List AV} (W:Wk C A target I fp wr St xs F F) (hR:Rp C A F G env σ s) {h':Heap} {t:Nat} (st:St 0 h') (hw:∀b∈wr,s.heap.objs.size≤b) (k:∀b ob,s.heap.get? b=some ob→h'.get? b=some ob) :
  Cy C A F G env σ target xs (fun zu=>True) (.ref I) ⟨h',s.gens,s.drawn,t,s.os⟩:=by
 refine xa0_2 (hR.oput (m:=Bk h' wr) (t:=t) (fun b o e=>hw b (B3 e).1) (fun b o e=>(B3 e).2) k) ?_;intro dj hR'
 exact ⟨I,_,_,rfl,dj,hR',⟨0,h',AG.refl F,fun b o e=>k _ _ (hR.wd.fz b o e),st,rfl,rfl,Nat.zero_le _⟩,CJ.ofWk W⟩
noncomputable def DD:List String:=["enumerate", "zip", "dict_itemiterator", "dict_reverseitemiterator", "odict_iterator", "itertools.zip_longest", "itertools.pairwise"]
theorem Mj {M:Model} {target:Expr} {it:Addr} {v:Value} {o:Obj} {n:String} {Q:Unit→Shared→Prop} (ho:s.heap.get? it=some o) (hc:o.cls=.type n) (hn:DD.contains n=false) (h:Q () s) :
  wpAny M A (letOwnedTupleGo target (.ref it) v) Q E s:=by
 have key:∀t,(∃a b c,t=Expr.Tuple a b c)∨(∃a b,t=Expr.List a b)→wpAny M A (letOwnedTupleGo t (.ref it) v) Q E s:=by
  intro t ht
  cases v with
  |ref a=>
   have e:letOwnedTupleGo t (.ref it) (.ref a)=(do
     let o ←load it
     match o.cls,o.data with
     |.type n,.fields vs=>
      if DD.contains n&&vs[0]? == some (rawInt a) then
       rule "for.unpacks-the-owned-tuple"
       updateField it 0 .none
     |_,_=>pure ()):=by
    rcases ht with ⟨zu,zu,zu,rfl⟩|⟨zu,zu,rfl⟩<;>rfl
   rw [e]
   refine wpAny_bind (wpAny_load ho ?_)
   rw [hc]
   cases q:o.data with
   |fields vs=>
    show wpAny _ _ (if (_:Bool)=true then _ else _) _ _ _
    rw [if_neg (by rw [hn];simp)]
    exact wpAny_pure h
   |_=>exact wpAny_pure h
  |_=>rcases ht with ⟨zu,zu,zu,rfl⟩|⟨zu,zu,rfl⟩<;>exact wpAny_pure h
 cases target with
 |Tuple a b c=>exact key _ (.inl ⟨_,_,_,rfl⟩)
 |List a b=>exact key _ (.inr ⟨_,_,rfl⟩)
 |_=>exact wpAny_pure h
theorem Wk.ofWalks {FK:FH} {target:Expr} {I:Addr} {fp wr:List Addr} {n:Nat} {P:Nat→Value→Prop} {St:Nat→Heap→Prop} {xs:List AV} (W:Walks C.prog C.w A I fp wr n P St) (hn:xs.length=n) (hv:∀i x v,xs[i]? = some x→P i v→VR F x v)
  (frz:∀b∈fp,b∈wr∨∃o,FK b=some o) (inert:∀i h,St i h→∀b∈wr,∃o,h.get? b=some o∧Dz o) (c:String) (hc:DD.contains c=false) (cls:∀i h,St i h→∃o,h.get? I=some o∧o.cls=.type c):Wk C A target I fp wr St xs FK F where
 frame:=W.frame
 frz:=frz
 inert:=inert
 more:=fun i x s hx st=>W.item i s _ _ (by subst hn;exact (List.getElem?_eq_some_iff.mp hx).1) st fun v h' tk hP st' k=>⟨v,rfl,by
  refine xa1_2 (cls _ _ st') ?_;intro o ho h1
  exact Mj (s:=⟨h',s.gens,s.drawn,tk,s.os⟩) ho h1 hc ⟨h',tk,rfl,st',k,.old (hv i x v hx hP)⟩⟩
 done:=fun s st=>W.done s _ _ (by subst hn;exact st) fun h' tk k=>⟨rfl,h',tk,rfl,k⟩
 self:=W.self
theorem Wk.ofWalksT {FK:FH} {elts:List Expr} {k:Nat} {pos:Pos} {I:Addr} {fp wr:List Addr} {n:Nat} {Pt:Nat→Array Value→Prop} {St:Nat→Heap→Prop} {Mid:Nat→Addr→Heap→Prop} {xs:List AV} (W:WalksT C.prog C.w A I fp wr n Pt St Mid) (hn:xs.length=n)
  (hv:∀i x vals,xs[i]? = some x→Pt i vals→∃cs,x=.tup cs∧VRs F cs vals.toList) (frz:∀b∈fp,b∈wr∨∃o,FK b=some o) (inert:∀i h,St i h→∀b∈wr,∃o,h.get? b=some o∧Dz o):Wk C A (.Tuple elts k pos) I fp wr St xs FK F where
 frame:=W.frame
 frz:=frz
 inert:=inert
 more:=fun i x s hx st=>W.item i s _ _ (by subst hn;exact (List.getElem?_eq_some_iff.mp hx).1) st fun T vals h' tk hP hT hTt hM kp=>⟨.ref T,rfl,W.go elts k pos i T ⟨h',s.gens,s.drawn,tk,s.os⟩ _ _ hM fun h'' st' kp'=>by
  refine cps fun zP zk=>?_;(rcases hTt with ⟨o,ho,h1,n',h2⟩)<;>(refine zk ?_;clear zk zP)
  refine xa1_2 (hv i x vals hx hP) ?_;intro cs;rintro rfl;intro hcs
  exact ⟨h'',tk,rfl,st',fun b o hb e=>kp' b o hb (kp b o hb e),.tup T o vals.toList n' cs rfl hT (kp' _ _ (W.apart _ _ _ hM) ho) h1 h2 hcs rfl⟩⟩
 done:=fun s st=>W.done s _ _ (by subst hn;exact st) fun h' tk k=>⟨rfl,h',tk,rfl,k⟩
 self:=W.self
theorem VRs.arr {xs:List AV} {vs:List Value} (h:VRs F xs vs):∀(i:Nat) x v,xs[i]? = some x→vs.toArray[i]? = some v→VR F x v:=fun i x v hx hv=>by
 refine xa1_2 (h.get hx) ?_;intro u hu hr
 rw [List.getElem?_toArray,hu] at hv;(have zc:=Option.some.inj hv;clear hv;subst zc);exact hr
theorem Rp.ne_top (hR:Rp C A F G env σ s) {a:Addr} {o:Obj} (h:F a=some o):a≠s.heap.objs.size:=Nat.ne_of_lt (Heap.lt_size (hR.wd.fz _ _ h))
theorem Mt {target:Expr} {l:List AV} (hA:A.handled=none):Dy C A E env target (.tup l) l (fun zu=>True) σ:=by
 intro F G s v hR hv
 refine xa4_5 hv.tupInv ?_;intro t ot vs n;rintro rfl;intro q1 q2 q3 q4
 refine wpAny_pyIter_tuple ⟨ot,hR.wd.fz _ _ q1,q2,n,q3⟩ (Cy.ofWk (Wk.ofWalks (Walks.tuple hA s.heap.objs.size t (hR.ne_top q1) vs.toArray) (by rw [List.size_toArray,q4.length]) q4.arr (fun b hb=>?_) (fun i h st b hb=>?_) "tuple_iterator" (by decide) fun i h st=>?_) hR ⟨⟨_,Heap.get?_push_size _ rfl,rfl,rfl⟩,⟨ot,Heap.get?_push_of_some _ (hR.wd.fz _ _ q1),q2,n,q3⟩⟩ (fun b hb=>?_) fun b ob e=>Heap.get?_push_of_some _ e)
 ·rcases List.mem_cons.mp hb with rfl|hb
  ·exact .inl (List.mem_singleton_self _)
  ·rw [List.mem_singleton.mp hb];exact .inr ⟨_,q1⟩
 ·rw [List.mem_singleton.mp hb]
  refine xa0_2 st ?_;(try clear st);intro zq;refine xa1_3 zq ?_;(try clear zq);intro o ho h1 h2;intro zu
  exact ⟨o,ho,As h2⟩
 ·refine xa0_2 st ?_;(try clear st);intro zq;refine xa1_3 zq ?_;(try clear zq);intro o ho h1 h2;intro zu
  exact ⟨o,ho,h1⟩
 ·rw [List.mem_singleton.mp hb];exact Nat.le_refl _
theorem Mw {target:Expr} {l:List AV} (hA:A.handled=none):Dy C A E env target (.lst l) l (fun zu=>True) σ:=by
 intro F G s v hR hv
 refine xa4_5 hv.lstInv ?_;intro t ot vs n;rintro rfl;intro q1 q2 q3 q4
 refine wpAny_pyIter_list ⟨ot,hR.wd.fz _ _ q1,q2,n,q3⟩ (Cy.ofWk (Wk.ofWalks (Walks.list hA s.heap.objs.size t (hR.ne_top q1) vs.toArray) (by rw [List.size_toArray,q4.length]) q4.arr (fun b hb=>?_) (fun i h st b hb=>?_) "list_iterator" (by decide) fun i h st=>?_) hR ⟨⟨_,Heap.get?_push_size _ rfl,rfl,rfl⟩,⟨ot,Heap.get?_push_of_some _ (hR.wd.fz _ _ q1),q2,n,q3⟩⟩ (fun b hb=>?_) fun b ob e=>Heap.get?_push_of_some _ e)
 ·rcases List.mem_cons.mp hb with rfl|hb
  ·exact .inl (List.mem_singleton_self _)
  ·rw [List.mem_singleton.mp hb];exact .inr ⟨_,q1⟩
 ·rw [List.mem_singleton.mp hb]
  refine xa0_2 st ?_;(try clear st);intro zq;refine xa1_3 zq ?_;(try clear zq);intro o ho h1 h2;intro zu
  exact ⟨o,ho,As h2⟩
 ·refine xa0_2 st ?_;(try clear st);intro zq;refine xa1_3 zq ?_;(try clear zq);intro o ho h1 h2;intro zu
  exact ⟨o,ho,h1⟩
 ·rw [List.mem_singleton.mp hb];exact Nat.le_refl _
inductive PR (it:Addr) (ST:Nat→Obj→Prop) (L:List AV) (F:FH) (xs:List AV) (m:FH):Prop
 |mk (i:Nat) (o:Obj) (st:ST i o) (ex:xs=L.drop i) (em:m=sg it o)
inductive Q6 (it:Addr) (F:FH) (x:AV) (ST:Obj→Prop) (s:Shared) (r:Option Value) (s₁:Shared):Prop
 |mk (v:Value) (h':Heap) (t:Nat) (o':Obj) (er:r=some v) (hv:VR F x v) (es:s₁=⟨h',s.gens,s.drawn,t,s.os⟩) (ho:h'.get? it=some o') (st:ST o') (k:∀b ob,b≠it→s.heap.get? b=some ob→h'.get? b=some ob)
theorem CJ.one {target:Expr} {it:Addr} {K:HP→Prop} (ht:Cv target) (ST:Nat→Obj→Prop) (L:List AV) (inert:∀i o,ST i o→Dz o)
  (more:∀env F G s σ i x o,Rp C A F G env σ s→K σ.hp→L[i]? = some x→ST i o→s.heap.get? it=some o→wpAny (model C.prog C.w) A (pyNext (.ref it)) (Q6 it F x (ST (i+1)) s) Bj s)
  (done:∀env F G s σ i o,Rp C A F G env σ s→K σ.hp→L[i]? = none→ST i o→s.heap.get? it=some o→wpAny (model C.prog C.w) A (pyNext (.ref it)) (fun r s₁=>r=none∧∃h',s₁={ s with heap:=h' }∧Heap.ExtBut it s.heap h') Bj s):CJ C A target it K (PR it ST L) where
 quiet:=by
  (rintro F xs m;intro zr;refine cps fun zP zk=>?_;(rcases zr with ⟨i,o,st,ex,rfl⟩)<;>(refine zk ?_;clear zk zP))
  exact BA (inert _ _ st)
 mono:=by
  (rintro F F' xs m e;intro zr;refine cps fun zP zk=>?_;(rcases zr with ⟨i,o,st,ex,em⟩)<;>(refine zk ?_;clear zk zP))
  exact ⟨i,o,st,ex,em⟩
 more:=by
  (rintro env F G s σ x xs m hR dj hK;intro zr;refine cps fun zP zk=>?_;(rcases zr with ⟨i,o,st,ex,rfl⟩)<;>(refine zk ?_;clear zk zP))
  refine xa0_2 (DG ex) ?_;intro hx ex2
  have hg:=dj _ _ (Bg it o)
  refine wpAny_mono (more env F _ s σ i x o hR hK hx st (hR.oat (BA (inert _ _ st)) (Bg _ _))) (fun r s₁ z=>?_) fun zu zu x=>x
  refine cps fun zP zk=>?_;(rcases z with ⟨v,h',t,o',rfl,hv,rfl,ho,st',k⟩)<;>(refine zk ?_;clear zk zP)
  refine ⟨v,rfl,?_⟩
  rw [ht]
  exact wpAny_pure ⟨F,_,AG.refl F,hv,⟨i+1,o',st',ex2,rfl⟩,fun b q=>IX q,hR.turn1 hg (inert _ _ st) (inert _ _ st') ho k⟩
 done:=by
  (rintro env F G s σ m hR dj hK;intro zr;refine cps fun zP zk=>?_;(rcases zr with ⟨i,o,st,ex,rfl⟩)<;>(refine zk ?_;clear zk zP))
  refine wpAny_mono (done env F _ s σ i o hR hK (E8 ex) st (hR.oat (BA (inert _ _ st)) (Bg _ _))) (fun r s₁ z=>?_) fun zu zu x=>x
  refine cps fun zP zk=>?_;(rcases z with ⟨rfl,h',rfl,k⟩)<;>(refine zk ?_;clear zk zP)
  exact ⟨rfl,hR.drop1 (dj _ _ (Bg it o)) (inert _ _ st) k⟩
theorem Cy.one {target:Expr} {K:HP→Prop} {ST:Nat→Obj→Prop} {L:List AV} (T:CJ C A target s.heap.objs.size K (PR s.heap.objs.size ST L)) (hR:Rp C A F G env σ s) {o:Obj} {t:Nat} (hf:o.isFreed=false) (st:ST 0 o):Cy C A F G env σ target L K (.ref s.heap.objs.size) ⟨s.heap.push o,s.gens,s.drawn,t,s.os⟩:=by
 refine xa0_2 (hR.put1 (t:=t) hf) ?_;intro hg hR'
 exact ⟨_,_,_,rfl,DA hg,hR',⟨0,o,st,rfl,rfl⟩,T⟩
theorem Rp.dictAt (hR:Rp C A F G env σ s) {a:Addr} {l:List (Au×AV)} {ep:Nat} (ha:σ.hp a=some (.dict l ep)):∃kvs,s.heap.DictAt (Bs C.prog C.w) a kvs ep∧SV F l kvs:=by
 refine cps fun zP zk=>?_;(rcases hR.wd.ob a _ ha with ⟨zu,zu,o,ho,r⟩)<;>(refine zk ?_;clear zk zP)
 (refine OR.dictC r fun zv zv a1 a2 a3 a4 a5 a6=>?_;clear r)
 exact ⟨_,⟨_,_,ho,a1,a2,a3,a4,a5⟩,a6⟩
theorem Rp.fields (hR:Rp C A F G env σ s) {a:Addr} {c:String} {vs:List AV} (ha:σ.hp a=some (.fields c vs)):∃o us,s.heap.get? a=some o∧o.cls=.type c∧o.data=.fields us.toArray∧VRs F vs us:=by
 refine cps fun zP zk=>?_;(rcases hR.wd.ob a _ ha with ⟨zu,zu,o,ho,r⟩)<;>(refine zk ?_;clear zk zP)
 (refine OR.fieldsC r fun zv a1 a2 as a3 a4=>?_;clear r)
 exact ⟨o,_,ho,a1,a3,a4⟩
theorem SV.get {l:List (Au×AV)} {kvs:List (Au×Value)} (h:SV F l kvs):∀{i:Nat},(∀{k x},l[i]? = some (k,x)→∃v,kvs[i]? = some (k,v)∧VR F x v)∧(l[i]? = none→kvs[i]? = none):=by
 induction h with
 |nil=>intro i;exact ⟨fun e=>by simp at e,fun zu=>by simp⟩
 |cons a zu ih=>
  intro i
  cases i with
  |zero=>exact ⟨fun e=>by simp at e;refine xa0_2 e ?_;(try clear e);rintro rfl;rintro rfl;exact ⟨_,rfl,a⟩,fun e=>by simp at e⟩
  |succ i=>exact ⟨fun e=>by simpa using ih.1 (by simpa using e),fun e=>by simpa using ih.2 (by simpa using e)⟩
theorem dict_values {d:Addr} {l:List (Au×AV)} {ep:Nat} {Q:AV→Al→Prop} (hs:(C.h0.get? sysModules).isSome=true) (hd:σ.hp d=some (.dict l ep)) (h:∀v,σ.hp v=none→Q (.ref v) (σ.put v (.fields "dict_values" [.ref d]))) :
  Bf C A E env (.val (.builtin "dict.values")) [.ref d] [] [] σ Q:=by
 refine A4 fun F G s us vs hR hus hvs=>?_
 obtain rfl:us=[Value.ref d]:=by refine VRs.consC hus fun zv zw zo q r=>?_;clear hus;subst zo;(have zc:=VR.refI q;clear q;subst zc);(have zc:=VRs.nilI r;clear r;subst zc);rfl
 obtain rfl:vs=[]:=by (have zc:=VRs.nilI hvs;clear hvs;subst zc);rfl
 refine xa1_2 (hR.dictOf hd) ?_;intro kvs hm zu
 exact call_meetsIn PySem.F.slot_dict_values hm.typeIs PySem.F.entry_dict_values (PySem.F.args_dict_values_1 _) (meets_dict_values (Bs C.prog C.w) d (hR.low hd hs)) ⟨⟨kvs,hm⟩,
  Aw.of (.ref _) (hR.alloc (t:=s.toks) rfl rfl (.fields (us:=[.ref d]) rfl rfl rfl rfl (.cons (.ref d) .nil))) (h _ hR.lt)⟩
theorem dict_items {d:Addr} {l:List (Au×AV)} {ep:Nat} {Q:AV→Al→Prop} (hs:(C.h0.get? sysModules).isSome=true) (hd:σ.hp d=some (.dict l ep)) (h:∀v,σ.hp v=none→Q (.ref v) (σ.put v (.fields "dict_items" [.ref d]))) :
  Bf C A E env (.val (.builtin "dict.items")) [.ref d] [] [] σ Q:=by
 refine A4 fun F G s us vs hR hus hvs=>?_
 obtain rfl:us=[Value.ref d]:=by refine VRs.consC hus fun zv zw zo q r=>?_;clear hus;subst zo;(have zc:=VR.refI q;clear q;subst zc);(have zc:=VRs.nilI r;clear r;subst zc);rfl
 obtain rfl:vs=[]:=by (have zc:=VRs.nilI hvs;clear hvs;subst zc);rfl
 refine xa1_2 (hR.dictOf hd) ?_;intro kvs hm zu
 exact call_meetsIn PySem.F.slot_dict_items hm.typeIs PySem.F.entry_dict_items (PySem.F.args_dict_items_1 _) (meets_dict_items (Bs C.prog C.w) d (hR.low hd hs)) ⟨⟨kvs,hm⟩,
  Aw.of (.ref _) (hR.alloc (t:=s.toks) rfl rfl (.fields (us:=[.ref d]) rfl rfl rfl rfl (.cons (.ref d) .nil))) (h _ hR.lt)⟩
theorem Fq {target:Expr} {v d:Addr} {l:List (Au×AV)} {ep:Nat} (ht:Cv target) (hA:A.handled=none) (hv:σ.hp v=some (.fields "dict_values" [.ref d])) (hd:σ.hp d=some (.dict l ep)) :
  Dy C A E env target (.ref v) (l.map (·.2)) (fun hp=>hp d=some (.dict l ep)) σ:=by
 intro F G s v' hR hv'
 obtain rfl:=hv'.refI
 refine xa2_4 (hR.fields hv) ?_;intro ov us hov hc hda hus
 obtain rfl:us=[Value.ref d]:=by refine VRs.consC hus fun zv zw zo q r=>?_;clear hus;subst zo;(have zc:=VR.refI q;clear q;subst zc);(have zc:=VRs.nilI r;clear r;subst zc);rfl
 refine xa1_2 (hR.dictAt hd) ?_;intro kvs hm sv
 refine wpAny_pyIter_values ⟨ov,hov,hc,hda⟩ hm (Cy.one (ST:=fun i o=>o.cls=.type "dict_valueiterator"∧o.data=.fields #[.ref d,.int (i:Nat) 0,.int l.length 0,.int ep 0])
  (CJ.one ht _ _ (fun i o h=>As h.2) (fun env F G s σ i x o hR hK hx st ho=>?_) (fun env F G s σ i o hR hK hx st ho=>?_)) hR rfl ⟨rfl,by rw [sv.length];rfl⟩)
 ·refine xa1_2 (hR.dictAt hK) ?_;intro kvs hm sv
  rw [List.getElem?_map] at hx
  refine xa1_2 (Option.map_eq_some_iff.mp hx) ?_;intro zq;refine cps fun zP zk=>?_;(rcases zq with ⟨k,x⟩)<;>(refine zk ?_;clear zk zP);intro hk;rintro rfl
  refine xa1_2 (sv.get.1 hk) ?_;intro u hu hxu
  rw [←sv.length] at st
  refine wpAny_pyNext_values_item ⟨o,ho,st⟩ hm hu fun h' hit hsb=>?_
  refine xa1_2 hit ?_;(try clear hit);intro o' ho' st'
  exact ⟨u,h',s.toks,o',rfl,hxu,rfl,ho',by rw [←sv.length];exact st',SameBut.rest hsb⟩
 ·refine xa1_2 (hR.dictAt hK) ?_;intro kvs hm sv
  rw [List.getElem?_map,Option.map_eq_none_iff] at hx
  rw [←sv.length] at st
  exact wpAny_pyNext_values_end hA ⟨o,ho,st⟩ hm (sv.get.2 hx) fun h' hx=>⟨rfl,h',rfl,hx⟩
inductive Qa (it d:Addr) (l:List (Au×AV)) (ep:Nat) (F:FH) (xs:List AV) (m:FH):Prop
 |mk (i:Nat) (ok ov:Value) (ex:xs=(l.map fun p=>AV.tup [p.1.av,p.2]).drop i) (em:m=sg it { cls:=.type "dict_itemiterator",dict:=none,data:=.fields #[.none,.bool false,.ref d,.int i 0,.int l.length 0,.int ep 0,ok,ov],slots:=#[] })
theorem Jr {elts:List Expr} {tn:Nat} {tpos:Pos} {v d:Addr} {l:List (Au×AV)} {ep:Nat} (hA:A.handled=none) (hv:σ.hp v=some (.fields "dict_items" [.ref d])) (hd:σ.hp d=some (.dict l ep)) :
  Dy C A E env (.Tuple elts tn tpos) (.ref v) (l.map fun p=>.tup [p.1.av,p.2]) (fun hp=>hp d=some (.dict l ep)) σ:=by
 intro F G s v' hR hv'
 obtain rfl:=hv'.refI
 refine xa2_4 (hR.fields hv) ?_;intro ov us hov hc hda hus
 obtain rfl:us=[Value.ref d]:=by refine VRs.consC hus fun zv zw zo q r=>?_;clear hus;subst zo;(have zc:=VR.refI q;clear q;subst zc);(have zc:=VRs.nilI r;clear r;subst zc);rfl
 refine xa1_2 (hR.dictAt hd) ?_;intro kvs hm sv
 refine wpAny_pyIter_items ⟨ov,hov,hc,hda⟩ hm ?_
 refine xa0_2 (hR.put1 (t:=s.toks) (o:={ cls:=.type "dict_itemiterator",data:=.fields #[.none,.bool false,.ref d,.int 0 0,.int kvs.length 0,.int ep 0,.none,.none] }) rfl) ?_;intro hg hR'
 refine ⟨_,_,Qa s.heap.objs.size d l ep,rfl,DA hg,hR',⟨0,.none,.none,rfl,by rw [sv.length];rfl⟩,?_⟩
 clear hR' hg sv hm hov hda hus hc hv hd hR
 generalize s.heap.objs.size=IT
 refine ⟨?_,?_,?_,?_⟩
 ·(rintro F xs m;intro zr;refine cps fun zP zk=>?_;(rcases zr with ⟨i,ok,ov,ex,rfl⟩)<;>(refine zk ?_;clear zk zP));exact BA (As rfl)
 ·(rintro F F' xs m e;intro zr;refine cps fun zP zk=>?_;(rcases zr with ⟨i,ok,ov,ex,em⟩)<;>(refine zk ?_;clear zk zP));exact ⟨i,ok,ov,ex,em⟩
 ·(rintro env F G s σ y ys m hR dj hK;intro zr;refine cps fun zP zk=>?_;(rcases zr with ⟨i,ok,ov,ex,rfl⟩)<;>(refine zk ?_;clear zk zP))
  refine xa0_2 (DG ex) ?_;intro hx ex2
  have hg:=dj _ _ (Bg IT _)
  refine xa1_2 (hR.dictAt hK) ?_;intro kvs hm sv
  rw [List.getElem?_map] at hx
  refine xa1_2 (Option.map_eq_some_iff.mp hx) ?_;intro zq;refine cps fun zP zk=>?_;(rcases zq with ⟨k,x⟩)<;>(refine zk ?_;clear zk zP);intro hk;rintro rfl
  refine xa1_2 (sv.get.1 hk) ?_;intro u hu hxu
  have hat:=hR.oat (BA (As rfl)) (Bg IT _)
  have hit:IsItemIter s.heap IT d i kvs.length ep ok ov:=by rw [sv.length];exact hat
  refine wpAny_pyNext_items_item hit hm hu fun key h' hkey hout hnew hsz hkp=>⟨_,rfl,?_⟩
  refine wpAny_letOwnedTupleGo_items (s:={ s with heap:=h' }) hout fun h'' hit' hsb=>?_
  have nit:s.heap.objs.size≠IT:=(Nat.ne_of_lt (Heap.lt_size hat)).symm
  have hp2:h''.get? s.heap.objs.size=some { cls:=.type "tuple",data:=.seq #[key,u] }:=(hsb.2 _ nit).trans hnew
  have hR2:=hR.turn1 (t:=s.toks) hg (As rfl) (As rfl) hit' fun b ob n e=>(hsb.2 b n).trans (hkp b ob n e)
  refine xa0_3 (hR.wd.lt (Nat.le_refl s.heap.objs.size)) ?_;intro z1 z2 z3
  refine xa0_2 (hR.fresh (Nat.le_refl s.heap.objs.size)) ?_;intro z4 z5
  refine xa0_2 (hR2.freezeAt hp2 z1 (by rw [AH (JP _ nit)] at z2 ⊢;exact z2) z3 z4 z5) ?_;intro hR3 e3
  have hkv:VR F k.av key:=by
   rcases Au.is_shape hkey with ⟨j,t,rfl,rfl⟩|⟨w,t,rfl,rfl⟩
   ·exact .int _ _
   ·exact .str _ _
  exact ⟨_,_,e3,.tup (vs:=[key,u]) (Ar _ _ _) rfl rfl (.cons (hkv.mono e3) (.cons (hxu.mono e3) .nil)),⟨i+1,key,u,ex2,by rw [sv.length]⟩,fun b q=>IX q,hR3⟩
 ·(rintro env F G s σ m hR dj hK;intro zr;refine cps fun zP zk=>?_;(rcases zr with ⟨i,ok,ov,ex,rfl⟩)<;>(refine zk ?_;clear zk zP))
  refine xa1_2 (hR.dictAt hK) ?_;intro kvs hm sv
  have hx:=E8 ex
  rw [List.getElem?_map,Option.map_eq_none_iff] at hx
  have hit:IsItemIter s.heap IT d i kvs.length ep ok ov:=by rw [sv.length];exact hR.oat (BA (As rfl)) (Bg IT _)
  exact wpAny_pyNext_items_end hA hit hm (sv.get.2 hx) fun h' hx=>⟨rfl,hR.drop1 (dj _ _ (Bg IT _)) (As rfl) hx⟩
theorem D6 {x y:Str} {p1 p2 pos:Pos} {tn:Nat} {a b:AV} {Q:Al→Prop} (hA:A.handled=none) (h:Q ((σ.set x a).set y b)) (hx:autoParam (DR (env.kindOf x)=true) AC.aux0._auto_1) (hy:autoParam (DR (env.kindOf y)=true) AC.aux0._auto_1) :
  JH C A env (.Tuple [.Name x p1,.Name y p2] tn pos) (.tup [a,b]) σ Q:=by
 intro F G s v hR hv
 refine VR.tupC hv fun vs t ot n zo q1 q2 q3 q4=>?_;clear hv;subst zo
 refine VRs.consC q4 fun v1 zw zo r1 q4_a=>?_;clear q4;subst zo;refine VRs.consC q4_a fun v2 zw zo r2 q4_b=>?_;clear q4_a;subst zo
 (have zc:=VRs.nilI q4_b;clear q4_b;subst zc)
 refine wpAny_assign_Tuple hA ⟨ot,hR.wd.fz _ _ q1,q2,n,q3⟩ rfl rfl fun h' hk=>?_
 have hR':Rp C A F G env σ { s with heap:=h' }:=hR.keep (t:=s.toks) fun b o e=>hk b o (Nat.ne_of_lt (Heap.lt_size e)) e
 show wpAny _ _ (do holding [v2] (assign (.Name x p1) env v1);do holding [] (assign (.Name y p2) env v2);pure ()) _ _ _
 refine wpAny_bind (wpAny_holding (wpAny_assign_Name (C6 hR' r1 (Ds hx) fun s₁ hR₁=>wpAny_bind (wpAny_holding (wpAny_assign_Name (C6 hR₁ r2 (Ds hy) fun s₂ hR₂=>?_))))))
 exact wpAny_pure ⟨F,_,AG.refl F,hR₂,h⟩
end
end
section
noncomputable def EY (h:Heap) (S:List Addr):Heap:={ h with objs:=h.objs.mapIdx fun i o=>if i∈S then { o with data:=.freed } else o }
theorem CV (h:Heap) (S:List Addr) (b:Addr):(EY h S).get? b=if b∈S then none else h.get? b:=by
 unfold EY Heap.get?
 simp only [Array.getElem?_mapIdx]
 by_cases q:b∈S
 ·simp only [q,if_true]
  cases h.objs[b]?<;>rfl
 ·simp only [q,if_false]
  cases h.objs[b]?<;>rfl
theorem Em:isSubtype (.type "KeyError") (.type "BaseException")=pure true:=by rw [isSubtype_type];kernel_rfl
theorem El:isSubtype (.type "KeyError") (.type "KeyError")=pure true:=by rw [isSubtype_type];kernel_rfl
theorem Es:isSubtype (.type ((Manifest.find? "KeyError").elim "type" fun y=>y.metatype)) (.type "tuple")=pure false:=by
 rw [find?_eq_fast]
 have e:(fastFind? "KeyError").elim "type" (fun y=>y.metatype) = "type":=by kernel_rfl
 rw [e,isSubtype_type];kernel_rfl
section
variable {C:Cf} {A:Around} {E:Value→Shared→Prop} {env:Env} {σ:Al} {F G:FH} {s:Shared}
theorem Rp.mark (hR:Rp C A F G env σ s) (h:Option Value):Rp C (A.mark h) F G env σ s:=⟨hR.wd,hR.fm,hR.fs⟩
theorem Rp.unmark {h:Option Value} (hR:Rp C (A.mark h) F G env σ s):Rp C A F G env σ s:=⟨hR.wd,hR.fm,hR.fs⟩
structure Gy (F G:FH) (σ:Al) (env:Env) (a:Addr):Prop where
 f:F a=none
 g:G a=none
 h:σ.hp a=none
 l:a≠env.locals
 c:∀x,env.kindOf x=some .cell→env.cells.lookup x≠some a
theorem Rp.loose (hR:Rp C A F G env σ s) {a:Addr} (ha:s.heap.get? a=none):Gy F G σ env a:=by
 refine ⟨?_,?_,?_,?_,fun x hx hc=>?_⟩
 ·cases e:F a with
  |none=>rfl
  |some o=>rw [hR.wd.fz a o e] at ha;exact Ap ha
 ·cases e:G a with
  |none=>rfl
  |some o=>refine xa1_2 (hR.wd.gz a o e) ?_;intro o' h zu;rw [h] at ha;exact Ap ha
 ·cases e:σ.hp a with
  |none=>rfl
  |some x=>refine cps fun zP zk=>?_;(rcases hR.wd.ob a x e with ⟨zu,zu,o,h,zu⟩)<;>(refine zk ?_;clear zk zP);rw [h] at ha;exact Ap ha
 ·rintro rfl
  refine xa1_2 hR.fm.ns ?_;intro m;intro zq;refine xa3_2 zq ?_;(try clear zq);intro oL es ep hL zu;intro zu
  rw [hL] at ha;exact Ap ha
 ·refine cps fun zP zk=>?_;(rcases hR.fm.co x hx with ⟨c,h1,zu,zu,zu,zu,v,o,ho,zu⟩)<;>(refine zk ?_;clear zk zP)
  rw [hc] at h1;(have zc:=Option.some.inj h1;clear h1;subst zc)
  rw [ho] at ha;exact Ap ha
theorem Rp.noted (hR:Rp C A F G env σ s) {h':Heap} {t:Nat} {S:List Addr} (hS:∀b∈S,Gy F G σ env b∨(b=env.locals∨∃o es ep,G b=some o∧o.data=.dict es ep))
  (k:∀b o,b∉S→s.heap.get? b=some o→h'.get? b=some o) (kd:∀b o es ep,s.heap.get? b=some o→o.data=.dict es ep→∃sl,h'.get? b=some { o with slots:=sl }) :
  Rp C A F G env σ ⟨h',s.gens,s.drawn,t,s.os⟩:=by
 refine cps fun zP zk=>?_;(rcases hR with ⟨⟨w1,w2,w3,w4,w5,w6,w7,w8⟩,⟨kk,⟨m,hm,hmv⟩,⟨l1,l2,l3⟩,co,ci,cv,fv⟩,hfs⟩)<;>(refine zk ?_;clear zk zP)
 have nF:∀{b o},F b=some o→b∉S:=fun {b o} e hb=>by
  rcases hS b hb with h|rfl|⟨og,es,ep,h,zu⟩
  ·rw [h.f] at e;exact Ak e
  ·rw [l1] at e;exact Ak e
  ·rw [w8 b o e] at h;exact Ak h
 have nH:∀{b x},σ.hp b=some x→b∉S:=fun {b x} e hb=>by
  rcases hS b hb with h|rfl|⟨og,es,ep,h,zu⟩
  ·rw [h.h] at e;exact Ak e
  ·rw [l3] at e;exact Ak e
  ·have:=(w4 b x e).2.1;rw [h] at this;exact Ap this
 have nC:∀{x c},env.kindOf x=some .cell→env.cells.lookup x=some c→c∉S:=fun {x c} hx hc hb=>by
  refine xa1_6 (co x hx) ?_;intro c' g1 g2 g3 g4 g5 zu
  rw [hc] at g1;(have zc:=Option.some.inj g1;clear g1;subst zc)
  rcases hS c hb with h|h|⟨og,es,ep,h,zu⟩
  ·exact h.c x hx hc
  ·exact g5 h
  ·rw [g3] at h;exact Ak h
 refine ⟨⟨w1,fun b o e=>k _ _ (nF e) (w2 b o e),fun b o e=>?_,fun a x e=>?_,w5,w6,w7,w8⟩,⟨kk,⟨m,?_,hmv⟩,⟨l1,l2,l3⟩,fun x hx=>?_,ci,fun x av c h1 h2 h3=>?_,fv⟩,hfs⟩
 ·refine xa1_2 (w3 b o e) ?_;intro o' h1 h2
  by_cases hb:b∈S
  ·rcases hS b hb with h|rfl|⟨og,es,ep,h,hd⟩
   ·rw [h.g] at e;exact Ak e
   ·rw [l2] at e;exact Ak e
   ·rw [e] at h;(have zc:=Option.some.inj h;clear h;subst zc)
    refine xa1_1 (kd b o' es ep h1 (h2.data.trans hd)) ?_;intro sl z
    refine ⟨_,z,.inr ⟨⟨es,ep,hd⟩,sl,?_⟩⟩
    rcases h2 with rfl|⟨zu,sl',rfl⟩<;>rfl
  ·exact ⟨o',k _ _ hb h1,h2⟩
 ·refine cps fun zP zk=>?_;(rcases w4 a x e with ⟨p,q,o,ho,r⟩)<;>(refine zk ?_;clear zk zP)
  exact ⟨p,q,o,k _ _ (nH e) ho,r⟩
 ·refine xa3_3 hm ?_;(try clear hm);intro oL es ep hL r1 r2
  refine xa1_1 (kd _ oL es ep hL r1) ?_;intro sl z
  exact ⟨_,es,ep,z,r1,r2⟩
 ·refine cps fun zP zk=>?_;(rcases co x hx with ⟨c,g1,g2,g3,g4,g5,v,o,ho,hd⟩)<;>(refine zk ?_;clear zk zP)
  exact ⟨c,g1,g2,g3,g4,g5,v,o,k _ _ (nC hx g1) ho,hd⟩
 ·refine xa1_2 (cv x av c h1 h2 h3) ?_;intro v;intro zq;refine xa1_2 zq ?_;(try clear zq);intro o ho hd;intro r
  exact ⟨v,⟨o,k _ _ (nC h2 h3) ho,hd⟩,r⟩
theorem Rp.looseTurn (hR:Rp C A F G env σ s) {h':Heap} {t:Nat} {a:Addr} (ha:Gy F G σ env a) (hd:∀o es ep,s.heap.get? a=some o→o.data≠.dict es ep) (hs:∀b o,b≠a→s.heap.get? b=some o→h'.get? b=some o):Rp C A F G env σ ⟨h',s.gens,s.drawn,t,s.os⟩:=by
 refine hR.noted (S:=[a]) (fun b hb=>?_) (fun b o hb e=>hs b o (by simpa using hb) e) fun b o es ep e hd'=>?_
 ·obtain rfl:b=a:=by simpa using hb
  exact .inl ha
 ·have n:b≠a:=by rintro rfl;exact hd o es ep e hd'
  exact ⟨o.slots,hs b o n e⟩
theorem MG {e:Addr} {X T:String} {oe:Obj} {vs:Array Value} {x:Str} {xp pos:Pos} {b₀:Stmt} {suite:List Stmt} {rest:List ExceptHandler} {Q:A6→Al→Prop}
  (hR:Rp C A F G env σ s) (hl:Gy F G σ env e) (he:s.heap.get? e=some oe) (hc:oe.cls=.type X) (hd:oe.data=.fields vs) (h1:vs[1]? = some .none) (hfr:env.frame=some env.locals)
  (hexc:isSubtype (.type T) (.type "BaseException")=pure true) (hnt:isSubtype (.type ((Manifest.find? T).elim "type" fun y=>y.metatype)) (.type "tuple")=pure false) (hsub:isSubtype (.type X) (.type T)=pure true)
  (hg:GL C x (.type T)) (h:Cq C (A.mark (some (.ref e))) Bj env (b₀::suite) σ Q)
  (hk:env.kindOf x=some .globalImplicit) (hs:env.scope.kind=.function) (hgl:env.globals=mainGlobals) (hbl:env.builtins=builtinsNs) (hdbg:(x == ("__debug__" : Str))=false) :
  wpAny (model C.prog C.w) A (noteFrame (.ref e) env) (fun zu s₂=>wpAny (model C.prog C.w) A (setFlight (.ref e) none) (fun zu s₃=>
   wpAny (model C.prog C.w) A (handleBy (.ref e) env (.ExceptHandler (some (.Name x xp)) none (b₀::suite) pos::rest)) (Aw C A G env NW Q F) E s₃) E s₂) E s:=by
 refine xa2_5 hR.fs ?_;intro e' l f1 f2 f3 f4 f5
 have:e'=env:=by
  rcases f4 with f4|⟨zu,L,o,g1,g2,zu⟩
  ·exact f4.1
  ·rw [f3,hfr] at g1;(have zc:=Option.some.inj g1;clear g1;subst zc)
   rw [hR.fm.lo.2.1] at g2;exact Ak g2
 subst this
 let S:List Addr:=e::(e'::l).filterMap (·.frame)
 have hSf:∀b∈(e'::l).filterMap (·.frame),b=e'.locals∨∃o es ep,G b=some o∧o.data=.dict es ep:=by
  intro b hb
  refine xa1_2 (List.mem_filterMap.mp hb) ?_;intro en hen hfe
  rcases List.mem_cons.mp hen with rfl|hen
  ·rw [hfr] at hfe;(have zc:=Option.some.inj hfe;clear hfe;subst zc);exact .inl rfl
  ·refine cps fun zP zk=>?_;(rcases f5 en hen with ⟨zu,L,o,g1,g2,es,ep,g3⟩)<;>(refine zk ?_;clear zk zP)
   rw [g1] at hfe;(have zc:=Option.some.inj hfe;clear hfe;subst zc)
   exact .inr ⟨o,es,ep,g2,g3⟩
 have hS:∀b∈S,Gy F G σ e' b∨(b=e'.locals∨∃o es ep,G b=some o∧o.data=.dict es ep):=by
  intro b hb
  rcases List.mem_cons.mp hb with rfl|hb
  ·exact .inl hl
  ·exact .inr (hSf b hb)
 have hfun:∀b∈(e'::l).filterMap (·.frame),∃o,s.heap.get? b=some o∧∃es ep,o.data=.dict es ep:=by
  intro b hb
  rcases hSf b hb with rfl|⟨o,es,ep,g1,g2⟩
  ·refine xa1_2 hR.fm.ns ?_;intro m;intro zq;refine xa3_3 zq ?_;(try clear zq);intro oL es ep hL r zu;intro zu
   exact ⟨oL,hL,es,ep,r⟩
  ·refine xa1_2 (hR.wd.gz _ _ g1) ?_;intro o' g3 g4
   exact ⟨o',g3,es,ep,g4.data.trans g2⟩
 have base_none:∀b∈S,(EY s.heap S).get? b=none:=fun b hb=>by rw [CV,if_pos hb]
 have hff:s.heap.FunFrames (EY s.heap S) (e'::l):=by
  have all:∀ll:List Env,(∀en∈ll,en∈e'::l)→s.heap.FunFrames (EY s.heap S) ll:=by
   intro ll
   induction ll with
   |nil=>intro zu;trivial
   |cons en ll ih=>
    intro hsub'
    have hen:=hsub' en List.mem_cons_self
    obtain ⟨kd,L,hL⟩:en.scope.kind≠.module∧∃L,en.frame=some L:=by
     rcases List.mem_cons.mp hen with rfl|hen
     ·exact ⟨f2,_,hfr⟩
     ·refine cps fun zP zk=>?_;(rcases f5 en hen with ⟨g0,L,o,g1,zu⟩)<;>(refine zk ?_;clear zk zP)
      exact ⟨g0,L,g1⟩
    have hm:L∈(e'::l).filterMap (·.frame):=List.mem_filterMap.mpr ⟨en,hen,hL⟩
    refine cps fun zP zk=>?_;(rcases hfun L hm with ⟨o,ho,es,ep,hdd⟩)<;>(refine zk ?_;clear zk zP)
    exact ⟨kd,⟨L,o,hL,base_none _ (List.mem_cons_of_mem _ hm),ho,fun vs q=>by rw [hdd] at q;cases q⟩,ih fun en' h'=>hsub' en' (List.mem_cons_of_mem _ h')⟩
  exact all _ fun zu h=>h
 have hkb:(EY s.heap S).StaysIn s.heap:=fun b o e=>by
  rw [CV] at e
  split at e
  ·exact Ak e
  ·exact e
 unfold noteFrame
 simp only [hfr]
 refine wpAny_bind (wpAny_field he hd h1 ?_)
 rw [if_neg (by decide)]
 refine wpAny_newEntry f1 hff hfr he hkb (base_none e List.mem_cons_self) hd (Array.getElem?_eq_some_iff.mp h1).1 fun h' hL=>?_
 refine xa0_4 hL ?_;(try clear hL);intro k1 k2;intro zq;refine xa5_9 zq ?_;(try clear zq);intro oe' vs' T' oT ts t1 t2 t3 t4 t5 t6 t7 t8 t9;intro k4
 have hR₁:Rp C A F G e' σ { s with heap:=h' }:=hR.noted (t:=s.toks) hS (fun b o hb q=>k1 b o (by rw [CV,if_neg hb];exact q)) fun b o es ep q hdd=>k4 b o q fun vs z=>by rw [hdd] at z;cases z
 have hT':s.heap.get? T'=none:=by
  rw [CV] at t5
  split at t5
  ·rename_i hm
   rcases List.mem_cons.mp hm with q|hm
   ·exact absurd q t6
   ·refine cps fun zP zk=>?_;(rcases hfun T' hm with ⟨o,ho,es,ep,hdd⟩)<;>(refine zk ?_;clear zk zP)
    refine xa1_1 (k4 T' o ho fun vs z=>by rw [hdd] at z;cases z) ?_;intro sl z
    rw [t7] at z;(have zc:=Option.some.inj z;clear z;subst zc)
    rw [hdd] at t8;cases t8
  ·exact t5
 have lT:Gy F G σ e' T':=hR.loose hT'
 refine wpAny_handleBy_builtin (X:=X) (T:=T) (b:=true) hexc hnt hsub ?_
 refine wpAny_Name ?_ hdbg
 rw [EV hs hk]
 refine hg e' hgl hbl _ _ _ _ hR₁.wd.old ⟨rfl,⟨oe',t1,t2.trans hc⟩,?_⟩
 rw [if_pos rfl]
 refine wpAny_setFlight_none t1 t3 t4 t7 t8 (Array.getElem?_eq_some_iff.mp t9).1 ?_
 have hR₂:Rp C A F G e' σ { s with heap:=h'.update T' (Obj.mapFields (·.setIfInBounds 3 .none)) }:=hR₁.looseTurn (t:=s.toks) lT (fun o es ep q z=>by dsimp only at q;rw [t7] at q;(have zc:=Option.some.inj q;clear q;subst zc);rw [t8] at z;cases z) fun b o n q=>(Heap.get?_update_ne _ _ _ _ n).trans q
 refine wpAny_mono (h F G _ (hR₂.mark _)) (fun f s' z=>?_) fun zu zu x=>x.elim
 refine cps fun zP zk=>?_;(rcases z with ⟨F',b,σ',e1,r,hR',q⟩)<;>(refine zk ?_;clear zk zP)
 exact ⟨F',b,σ',e1,r,hR'.unmark,q⟩
theorem JD {x:Str} {px ps pa pos hpos kp:Pos} {value slice:Expr} {b₀:Stmt} {suite:List Stmt} {Q:A6→Al→Prop} (hs:(C.h0.get? sysModules).isSome=true) (hA:A.handled=none)
  (hg:GL C "KeyError" (.type "KeyError"))
  (h:Ev C A Bj env value σ (fun a σ₁=>Ev C A Bj env slice σ₁ (fun k σ₂=>∃d l ep ky,a=.ref d∧σ₂.hp d=some (.dict l ep)∧k=Au.av ky ∧
   (∀v,H6 l ky=some v→Q .next (σ₂.set x v))∧(H6 l ky=none→∀e,Cq C (A.mark (some (.ref e))) Bj env (b₀::suite) σ₂ Q))))
  (hkx:autoParam (DR (env.kindOf x)=true) AC.aux0._auto_1) (hfr:autoParam (env.frame=some env.locals) AC.aux0._auto_1) (hk:autoParam (env.kindOf "KeyError" = some .globalImplicit) AC.aux0._auto_1) (hsc:autoParam (env.scope.kind=.function) AC.aux0._auto_1) (hgl:autoParam (env.globals=mainGlobals) AC.aux0._auto_1) (hbl:autoParam (env.builtins=builtinsNs) AC.aux0._auto_1)
  (hsw:autoParam (swapsWith (.Subscript value slice ps) (some (.Name x px)) pa.line env=pure false) AC.aux0._auto_1) :
  Ex C A E env (.Try [.Assign [.Name x px] (.Subscript value slice ps) pa] [.ExceptHandler (some (.Name "KeyError" kp)) none (b₀::suite) hpos] [] [] pos) σ Q:=by
 intro F G s hR
 refine wpAny_Try_except (wpAny_execs_cons (wpAny_Assign_Name (Subscript_ (wpAny_mono (h F G s hR) (fun va s₁ z=>?_) fun zu zu x=>x.elim)) hsw))
 refine cps fun zP zk=>?_;(rcases z with ⟨F₁,a,σ₁,e₁,ha,hR₁,h₁⟩)<;>(refine zk ?_;clear zk zP)
 refine wpAny_mono (h₁ F₁ G s₁ hR₁) (fun vk s₂ z=>?_) fun zu zu x=>x.elim
 refine cps fun zP zk=>?_;(rcases z with ⟨F₂,k,σ₂,e₂,hkv,hR₂,d,l,ep,ky,rfl,hd,rfl,hyes,hno⟩)<;>(refine zk ?_;clear zk zP)
 (have zc:=VR.refI ha;clear ha;subst zc)
 refine xa1_2 (hR₂.dictOf hd) ?_;intro kvs hdo sv
 have hm:=Dq hdo
 refine Ei hm.typeIs slot_dict_getitem.lookup ?_
 rcases sv.at ky with ⟨xv,v,g1,g2,g3⟩|⟨g1,g2⟩
 ·refine wpAny_getItem_of (Au.is_of hkv) hm g2 (C6 (hR₂.tok _) g3 (Ds hkx) fun s₃ hR₃=>?_)
  exact wpAny_execs_nil (wpAny_execs_nil ⟨F₂,.next,_,e₁.trans e₂,.next,hR₃,hyes _ g1⟩)
 ·refine wpAny_getItem_missing_of (Au.is_of hkv) (hR₂.low hd hs) hA hm g2 fun h' e hx=>?_
  refine xa2_3 hx.there ?_;intro oe t he hc hdt
  have hR₃:Rp C A F₂ G env σ₂ { s₂ with heap:=h',toks:=s₂.toks+1 }:=hR₂.keep hx.keeps
  have z:=MG (E:=E) (T:="KeyError") (xp:=kp) (pos:=hpos) (rest:=[]) hR₃ (hR₂.loose hx.new) he hc hdt rfl hfr Em Es El hg (hno g1 e) hk hsc hgl hbl (by decide)
  exact wpAny_mono z (fun zu zu z=>wpAny_mono z (fun zu zu z=>wpAny_mono z (fun zu zu z=>Aw.ext (e₁.trans e₂) z) fun zu zu x=>x) fun zu zu x=>x) fun zu zu x=>x
end
end
section
noncomputable abbrev GJ:Program:=PySem.Challenge.pw_nc0002_07
structure BV where
 params:Arguments
 body:List Stmt
 scope:Scope
noncomputable def BV.nil:BV:=⟨⟨[],[],none,[],[],none,[]⟩,[],default⟩
noncomputable def Kr (n:Str):List Stmt→BV
 |[]=>.nil
 |.FunctionDef m a b _ _ _ sc _ _ _::r=>if m == n then ⟨a,b,sc⟩ else Kr n r
 |_::r=>Kr n r
noncomputable def Jz (n:Str):List Stmt→List Stmt
 |[]=>[]
 |.ClassDef m _ _ b _ _ _ _ _ _ _::r=>if m == n then b else Jz n r
 |_::r=>Jz n r
noncomputable def Do (c m:Str):BV:=Kr m (Jz c GJ.main.body)
noncomputable def MA (m:Str):BV:=Kr m GJ.main.body
structure FdRest where
 name:Str
 qual:Str
 kwd:Value
 doc:Value
 pm:Value
 ann:Option Addr
 code:Value
 ct:Value
noncomputable def FdRest.fd (r:FdRest) (d:BV) (dflt:Value):FuncData:=
 { name:=r.name,qualname:=r.qual,params:=d.params,body:=.stmts d.body,scope:=d.scope,globals:=mainGlobals,closure:=[],defaults:=dflt,kwdefaults:=r.kwd,doc:=r.doc,pyModule:=r.pm,annotations:=r.ann,code:=r.code,closureTuple:=r.ct,builtins:=builtinsNs }
noncomputable abbrev IC:BV:=Do "KeywordTree" "add"
theorem VRs.inv {F:FH} {x:AV} {xs:List AV} {vs:List Value} (h:VRs F (x::xs) vs):∃v us,vs=v::us∧VR F x v∧VRs F xs us:=by
 cases h with
 |cons a b=>exact ⟨_,_,rfl,a,b⟩
theorem VRs.inv0 {F:FH} {vs:List Value} (h:VRs F [] vs):vs=[]:=by (have zc:=VRs.nilI h;clear h;subst zc);rfl
theorem C5.inv {F:FH} {k:Str} {x:AV} {xs:List (Str×AV)} {vs:List (Str×Value)} (h:C5 F ((k,x)::xs) vs):∃v us,vs=(k,v)::us∧VR F x v∧C5 F xs us:=by
 cases h with
 |cons a b=>exact ⟨_,_,rfl,a,b⟩
theorem C5.inv0 {F:FH} {vs:List (Str×Value)} (h:C5 F [] vs):vs=[]:=by cases h;rfl
theorem Lr (C:Cf) (r:FdRest) (x y:AV):BE C (r.fd IC .none) [x,y] [] [("self",x),("keyword",y)]:=by
 intro F vs kvs hv hk
 obtain rfl:=hk.inv0
 refine xa2_3 hv.inv ?_;intro v1 zu;rintro rfl;intro a hv
 refine xa2_3 hv.inv ?_;intro v2 zu;rintro rfl;intro b hv
 obtain rfl:=hv.inv0
 exact ⟨[("self",v1),("keyword",v2)],Looks.of_pure (by kernel_rfl),.cons a (.cons b .nil),by kernel_rfl⟩
noncomputable abbrev Gd:BV:=Do "State" "__init__"
noncomputable def EP (vs:List Value):Obj:={ cls:=.type "tuple",data:=.seq vs.toArray }
theorem Ke {C:Cf} {α:Type} {a:Addr} {o:Obj} (h:C.h0.get? a=some o) {t:Sem α} {r:α} (e:peek [(a,o)] ⟨C.prog,C.w.params⟩ t=some r):Looks (model C.prog C.w) C.h0 t r:=by
 refine Looks.of_peek (K:=[(a,o)]) (fun b ob hb=>?_) e
 simp only [List.lookup] at hb
 split at hb
 ·rename_i q
  (have zc:=Option.some.inj hb;clear hb;subst zc)
  rw [beq_iff_eq.mp q];exact h
 ·exact Ak hb
theorem I9 (C:Cf) (r:FdRest) (hd:C.h0.get? 23=some (EP [.none,.none,.bool false])) (x i p s:AV) :
  BE C (r.fd Gd (.ref 23)) [x,i] [("parent",p),("symbol",s)] [("self",x),("identifier",i),("symbol",s),("parent",p),("success",.bool false)]:=by
 intro F vs kvs hv hk
 refine xa2_3 hk.inv ?_;intro v3 zu;rintro rfl;intro a3 hk
 refine xa2_3 hk.inv ?_;intro v4 zu;rintro rfl;intro a4 hk
 obtain rfl:=hk.inv0
 refine xa2_3 hv.inv ?_;intro v1 zu;rintro rfl;intro a hv
 refine xa2_3 hv.inv ?_;intro v2 zu;rintro rfl;intro b hv
 obtain rfl:=hv.inv0
 exact ⟨[("self",v1),("identifier",v2),("symbol",v4),("parent",v3),("success",.bool false)],Ke hd (by kernel_rfl),.cons a (.cons b (.cons a4 (.cons a3 (.cons (.bool false) .nil)))),by kernel_rfl⟩
theorem H5 (C:Cf) (r:FdRest) (hd:C.h0.get? 23=some (EP [.none,.none,.bool false])) (x i:AV) :
  BE C (r.fd Gd (.ref 23)) [x,i] [] [("self",x),("identifier",i),("symbol",.none),("parent",.none),("success",.bool false)]:=by
 intro F vs kvs hv hk
 obtain rfl:=hk.inv0
 refine xa2_3 hv.inv ?_;intro v1 zu;rintro rfl;intro a hv
 refine xa2_3 hv.inv ?_;intro v2 zu;rintro rfl;intro b hv
 obtain rfl:=hv.inv0
 exact ⟨[("self",v1),("identifier",v2),("symbol",.none),("parent",.none),("success",.bool false)],Ke hd (by kernel_rfl),.cons a (.cons b (.cons .none (.cons .none (.cons (.bool false) .nil)))),by kernel_rfl⟩
noncomputable abbrev FT:BV:=Do "KeywordTree" "__init__"
noncomputable abbrev Nq:BV:=Do "KeywordTree" "search"
noncomputable abbrev KK:BV:=Do "KeywordTree" "search_one"
noncomputable abbrev MQ:BV:=Do "KeywordTree" "search_all"
noncomputable abbrev Iv:BV:=Do "KeywordTree" "_search_all_generic"
noncomputable abbrev KW:BV:=Do "KeywordTree" "finalize"
noncomputable abbrev LN:BV:=Do "KeywordTree" "_precompute_outputs"
noncomputable abbrev Io:BV:=Do "KeywordTree" "search_lss_for_children"
noncomputable abbrev E1:BV:=Do "KeywordTree" "search_lss"
theorem H1 (C:Cf) (r:FdRest) (hd:C.h0.get? 52=some (EP [.bool false])) (x:AV) :
  BE C (r.fd FT (.ref 52)) [x] [] [("self",x),("case_insensitive",.bool false)]:=by
 intro F vs kvs hv hk
 obtain rfl:=hk.inv0
 refine xa2_3 hv.inv ?_;intro v1 zu;rintro rfl;intro a hv
 obtain rfl:=hv.inv0
 exact ⟨[("self",v1),("case_insensitive",.bool false)],Ke hd (by kernel_rfl),.cons a (.cons (.bool false) .nil),by kernel_rfl⟩
theorem H0 (C:Cf) (r:FdRest) (hd:C.h0.get? 52=some (EP [.bool false])) (x y:AV) :
  BE C (r.fd FT (.ref 52)) [x] [("case_insensitive",y)] [("self",x),("case_insensitive",y)]:=by
 intro F vs kvs hv hk
 refine xa2_3 hk.inv ?_;intro v3 zu;rintro rfl;intro a3 hk
 obtain rfl:=hk.inv0
 refine xa2_3 hv.inv ?_;intro v1 zu;rintro rfl;intro a hv
 obtain rfl:=hv.inv0
 exact ⟨[("self",v1),("case_insensitive",v3)],Ke hd (by kernel_rfl),.cons a (.cons a3 .nil),by kernel_rfl⟩
theorem Go (C:Cf) (d:BV) (x1 x2:Str) (h:∀(r:FdRest) (S:Setting) (v1 v2:Value),peek [] S (bindArgs (r.fd d .none) ⟨[v1,v2],[]⟩)=some [(x1,v1),(x2,v2)])
  (hl:([x1,x2].all fun x=>decide (d.scope.names.lookup x=some .local))=true) (r:FdRest) (x y:AV):BE C (r.fd d .none) [x,y] [] [(x1,x),(x2,y)]:=by
 intro F vs kvs hv hk
 obtain rfl:=hk.inv0
 refine xa2_3 hv.inv ?_;intro v1 zu;rintro rfl;intro a hv
 refine xa2_3 hv.inv ?_;intro v2 zu;rintro rfl;intro b hv
 obtain rfl:=hv.inv0
 refine ⟨[(x1,v1),(x2,v2)],Looks.of_peek (K:=[]) (fun zu zu h=>by exact Ak h) (h r _ v1 v2),.cons a (.cons b .nil),?_⟩
 exact hl
theorem ML (C:Cf) (d:BV) (x1:Str) (h:∀(r:FdRest) (S:Setting) (v1:Value),peek [] S (bindArgs (r.fd d .none) ⟨[v1],[]⟩)=some [(x1,v1)])
  (hl:([x1].all fun x=>decide (d.scope.names.lookup x=some .local))=true) (r:FdRest) (x:AV):BE C (r.fd d .none) [x] [] [(x1,x)]:=by
 intro F vs kvs hv hk
 obtain rfl:=hk.inv0
 refine xa2_3 hv.inv ?_;intro v1 zu;rintro rfl;intro a hv
 obtain rfl:=hv.inv0
 refine ⟨[(x1,v1)],Looks.of_peek (K:=[]) (fun zu zu h=>by exact Ak h) (h r _ v1),.cons a .nil,?_⟩
 exact hl
theorem Ll (C:Cf):∀(r:FdRest) x y,BE C (r.fd KK .none) [x,y] [] [("self",x),("text",y)]:=Go C KK "self" "text" (fun zu zu zu zu=>by kernel_rfl) (by kernel_rfl)
theorem Lq (C:Cf):∀(r:FdRest) x y,BE C (r.fd MQ .none) [x,y] [] [("self",x),("text",y)]:=Go C MQ "self" "text" (fun zu zu zu zu=>by kernel_rfl) (by kernel_rfl)
theorem Lo (C:Cf):∀(r:FdRest) x y,BE C (r.fd Iv .none) [x,y] [] [("self",x),("text",y)]:=Go C Iv "self" "text" (fun zu zu zu zu=>by kernel_rfl) (by kernel_rfl)
theorem Lp (C:Cf):∀(r:FdRest) x,BE C (r.fd KW .none) [x] [] [("self",x)]:=ML C KW "self" (fun zu zu zu=>by kernel_rfl) (by kernel_rfl)
theorem Lk (C:Cf):∀(r:FdRest) x,BE C (r.fd LN .none) [x] [] [("self",x)]:=ML C LN "self" (fun zu zu zu=>by kernel_rfl) (by kernel_rfl)
theorem J4 (C:Cf):∀(r:FdRest) x y,BE C (r.fd Io .none) [x,y] [] [("self",x),("zero_state",y)]:=Go C Io "self" "zero_state" (fun zu zu zu zu=>by kernel_rfl) (by kernel_rfl)
theorem Lm (C:Cf):∀(r:FdRest) x y,BE C (r.fd E1 .none) [x,y] [] [("self",x),("state",y)]:=Go C E1 "self" "state" (fun zu zu zu zu=>by kernel_rfl) (by kernel_rfl)
structure Tp (C:Cf):Prop where
 sysm:(C.h0.get? sysModules).isSome=true
 g_State:GL C "State" (.ref 34)
 g_VE:GL C "ValueError" (.type "ValueError")
 g_KE:GL C "KeyError" (.type "KeyError")
 g_SI:GL C "StopIteration" (.type "StopIteration")
 g_len:GL C "len" (.builtin "len")
 g_set:GL C "set" (.type "set")
 g_tuple:GL C "tuple" (.type "tuple")
 g_enum:GL C "enumerate" (.type "enumerate")
 g_next:GL C "next" (.builtin "next")
 s_id:C2 C 34 "identifier" 0
 s_lss:C2 C 34 "longest_strict_suffix" 1
 s_mk:C2 C 34 "matched_keyword" 2
 s_out:C2 C 34 "outputs" 3
 s_par:C2 C 34 "parent" 4
 s_suc:C2 C 34 "success" 5
 s_sym:C2 C 34 "symbol" 6
 s_tr:C2 C 34 "transitions" 7
 mkS:Fc C 34 30
 mkT:Fc C 125 59
 n_zero:H8 C 125 "_zero_state"
 n_cnt:H8 C 125 "_counter"
 n_fin:H8 C 125 "_finalized"
 n_ci:H8 C 125 "_case_insensitive"
 n_sp:H8 C 125 "_skip_pattern"
 n_spt:H8 C 125 "_skip_pattern_type"
 d23:C.h0.get? 23=some (EP [.none,.none,.bool false])
 d52:C.h0.get? 52=some (EP [.bool false])
 f_sInit:∃r:FdRest,FnAt C 30 (r.fd Gd (.ref 23))
 f_tInit:∃r:FdRest,FnAt C 59 (r.fd FT (.ref 52))
 f_add:∃r:FdRest,FnAt C 66 (r.fd IC .none)
 f_search:∃r:FdRest,FnAt C 73 (r.fd Nq .none)
 f_one:∃r:FdRest,FnAt C 80 (r.fd KK .none)
 f_all:∃r:FdRest,FnAt C 87 (r.fd MQ .none)
 f_gen:∃r:FdRest,FnAt C 94 (r.fd Iv .none)
 f_fin:∃r:FdRest,FnAt C 101 (r.fd KW .none)
 f_pre:∃r:FdRest,FnAt C 108 (r.fd LN .none)
 f_kids:∃r:FdRest,FnAt C 115 (r.fd Io .none)
 f_lss:∃r:FdRest,FnAt C 122 (r.fd E1 .none)
 m_add:Cp C 125 "add" 66
 m_search:Cp C 125 "search" 73
 m_one:Cp C 125 "search_one" 80
 m_all:Cp C 125 "search_all" 87
 m_gen:Cp C 125 "_search_all_generic" 94
 m_fin:Cp C 125 "finalize" 101
 m_pre:Cp C 125 "_precompute_outputs" 108
 m_kids:Cp C 125 "search_lss_for_children" 115
 m_lss:Cp C 125 "search_lss" 122
end
section
variable {C:Cf} {A:Around} {E:Value→Shared→Prop}
theorem A2 {env:Env} {σ:Al} {e:Expr} {r:List Expr} {pos:Pos} {Q:List AV→Al→Prop} (h:Ev C A E env e σ (fun v σ₁=>Ng C A E env (backTo pos (starEach r env)) σ₁ (fun vs σ₂=>Q (v::vs) σ₂)))
  (hs:autoParam (starEach (e::r) env=(false,eval e env)::starEach r env) AC.aux0._auto_1):Ng C A E env (backTo pos (starEach (e::r) env)) σ Q:=by
 rw [hs];exact Nf h
theorem Ax {env:Env} {σ:Al} {pos:Pos} {Q:List AV→Al→Prop} (h:Q [] σ):Ng C A E env (backTo pos (starEach [] env)) σ Q:=NZ h
theorem Ow {env:Env} {σ:Al} {n:Option Str} {e:Expr} {kp:Pos} {r:List Keyword} {pos:Pos} {Q:List AV→Al→Prop} (h:Ev C A E env e σ (fun v σ₁=>Ox C A E env ((backToKw pos (keywordEach r env)).map (·.2)) σ₁ (fun vs σ₂=>Q (v::vs) σ₂))) :
  Ox C A E env ((backToKw pos (keywordEach (⟨n,e,kp⟩::r) env)).map (·.2)) σ Q:=Nh h
theorem A5 {env:Env} {σ:Al} {pos:Pos} {Q:List AV→Al→Prop} (h:Q [] σ):Ox C A E env ((backToKw pos (keywordEach [] env)).map (·.2)) σ Q:=Oa h
noncomputable def Eu (id:Int) (lss mk:AV) (out:Option AV) (par:AV) (suc:Bool) (sym:AV) (t:Addr):AO:=
 .slot 34 [some (.int id),some lss,some mk,out,some par,some (.bool suc),some sym,some (.ref t)]
theorem IW (T:Tp C) (hroom:A.depth<recursionLimit) {hp:HP} {x:Addr} {i:Int} {p s:AV} {kw:List (Str×AV)} {Q:AV→HP→Prop} (hx:hp x=some (.slot 34 []))
  (hkw:(kw=([("parent",p),("symbol",s)]:List (Str×AV)))∨(kw=[]∧p=.none∧s=.none))
  (h:∀d hp',hp d=none→d≠x→hp' x=some (Eu i .none .none none p false s d)→hp' d=some (.dict [] 0)→(∀b,b≠x→b≠d→hp' b=hp b)→Q .none hp') :
  Fn C A (.ref 30) [.ref x,.int i] kw hp Q:=by
 refine xa1_1 T.f_sInit ?_;intro r hf
 have hb:BE C (r.fd Gd (.ref 23)) [.ref x,.int i] kw [("self",.ref x),("identifier",.int i),("symbol",s),("parent",p),("success",.bool false)]:=by
  rcases hkw with rfl|⟨rfl,rfl,rfl⟩
  ·exact I9 C r T.d23 _ _ _ _
  ·exact H5 C r T.d23 _ _
 refine CX (body:=Gd.body) hf hb (fun L=>?_) hroom (by kernel_rfl) (by kernel_rfl) (by kernel_rfl) (by kernel_rfl) (by kernel_rfl)
 refine Ab (An (Ac rfl (Ac rfl (Bo T.s_sym hx ?_))))
 refine Ab (An (Ac rfl (Ac rfl (Bo T.s_id (Ae _ _ _) ?_))))
 refine Ab (An (G3 (fun d hd=>Ac rfl (Bo (a:=x) (vs:=setSlot (setSlot [] 6 s) 0 (.int i)) T.s_tr ?_ ?_))))
 ·have:x≠d:=fun zE=>by (first|rw [zE] at hd|rw [←zE] at hd);simp at hd
  simp [upd,this]
 have hdx:d≠x:=fun zE=>by (first|rw [zE] at hd|rw [←zE] at hd);simp at hd
 have hd0:hp d=none:=by simpa [upd,hdx] using hd
 refine Ab (An (Ac rfl (Ac rfl (Bo T.s_par (Ae _ _ _) ?_))))
 refine Ab (An (Ac rfl (Ac rfl (Bo T.s_suc (Ae _ _ _) ?_))))
 refine Ab (An (B0 (Ac rfl (Bo T.s_mk (Ae _ _ _) ?_))))
 refine Ab (An (B0 (Ac rfl (Bo T.s_lss (Ae _ _ _) ?_))))
 refine Am ?_
 refine h d _ hd0 hdx ?_ ?_ ?_
 ·refine (Ae _ _ _).trans ?_
  simp [setSlot,Eu,List.replicate]
 ·simp [upd,hdx]
 ·intro b h1 h2
  simp [upd,h1,h2]
theorem Fg (A:Around) (Cl:Addr) (vs:List Value) (kvs:List (Str×Value)):(A.under (.builtin "type.__call__" ⟨.ref Cl::vs,kvs⟩)).depth=A.depth+1:=rfl
theorem GQ (T:Tp C) (hroom:A.depth+1<recursionLimit) {hp:HP} {i:Int} {p s:AV} {kw:List (Str×AV)} {Q:AV→HP→Prop}
  (hkw:(kw=([("parent",p),("symbol",s)]:List (Str×AV)))∨(kw=[]∧p=.none∧s=.none))
  (h:∀x d hp',hp x=none→hp d=none→d≠x→hp' x=some (Eu i .none .none none p false s d)→hp' d=some (.dict [] 0)→(∀b,b≠x→b≠d→hp' b=hp b)→Q (.ref x) hp') :
  Fn C A (.ref 34) [.int i] kw hp Q:=by
 refine MZ T.mkS (fun x vs kvs hx=>?_)
 refine IW T (by rw [Fg];exact hroom) (Ae _ _ _) hkw (fun d hp' h1 h2 h3 h4 h5=>⟨rfl,h x d hp' hx ?_ h2 h3 h4 (fun b b1 b2=>?_)⟩)
 ·simpa [upd,h2] using h1
 ·rw [h5 b b1 b2];simp [upd,b1]
noncomputable def EQ (z:Addr) (n:Int) (fin ci:Bool):List (Str×AV):=
 [("_zero_state",.ref z),("_counter",.int n),("_finalized",.bool fin),("_case_insensitive",.bool ci),("_skip_pattern",.none),("_skip_pattern_type",.none)]
theorem LY (T:Tp C) (hroom:A.depth+4<recursionLimit) {hp:HP} {ci:Bool} {kw:List (Str×AV)} {Q:AV→HP→Prop}
  (hkw:(kw=([("case_insensitive",.bool ci)]:List (Str×AV)))∨(kw=[]∧ci=false))
  (h:∀t d z e hp',[t,d,z,e].Nodup→hp t=none→hp d=none→hp z=none→hp e=none→hp' t=some (.inst 125 d)→hp' d=some (.ns (EQ z 1 false ci)) →
   hp' z=some (Eu 0 .none .none none .none false .none e)→hp' e=some (.dict [] 0)→(∀b,b≠t→b≠d→b≠z→b≠e→hp' b=hp b)→Q (.ref t) hp') :
  Fn C A (.ref 125) [] kw hp Q:=by
 refine Na T.mkT (fun t d vs kvs ht hd htd=>?_)
 refine xa1_1 T.f_tInit ?_;intro r hf
 have hb:BE C (r.fd FT (.ref 52)) [.ref t] kw [("self",.ref t),("case_insensitive",.bool ci)]:=by
  rcases hkw with rfl|⟨rfl,rfl⟩
  ·exact H0 C r T.d52 _ _
  ·exact H1 C r T.d52 _
 refine CX (body:=FT.body) hf hb (fun L=>?_) (by rw [Fg];with_reducible exact LS ‹_› (by decide)) (by kernel_rfl) (by kernel_rfl) (by kernel_rfl) (by kernel_rfl) (by kernel_rfl)
 have hdt:d≠t:=fun e=>htd e.symm
 refine Ab (An (AJ (DI T.g_State (A2 (G1 (Ax (A5 (Fd T.mkS (GQ T ?_ (Or.inr ⟨rfl,rfl,rfl⟩) ?_)))))))))
 ·show A.depth+1+1+1<recursionLimit
  with_reducible exact JY ‹_› (by decide)
 intro z e hp' hz he hez h1 h2 h3
 have hzt:z≠t:=fun zE=>by (first|rw [zE] at hz|rw [←zE] at hz);simp [upd] at hz
 have hzd:z≠d:=fun zE=>by (first|rw [zE] at hz|rw [←zE] at hz);simp [upd,hdt] at hz
 have het:e≠t:=fun zE=>by (first|rw [zE] at he|rw [←zE] at he);simp [upd] at he
 have hed:e≠d:=fun zE=>by (first|rw [zE] at he|rw [←zE] at he);simp [upd,hdt] at he
 have ht':hp' t=some (.inst 125 d):=by rw [h3 t hzt.symm het.symm];simp [upd]
 have hd':hp' d=some (.ns []):=by rw [h3 d hzd.symm hed.symm];simp [upd,hdt]
 refine Ac rfl (Dl T.n_zero ht' hd' ?_)
 refine Ab (An (G1 (Ac rfl (Dl T.n_cnt (a:=t) (d:=d) ?_ (Ae _ _ _) ?_ (hz:=Nat.le_of_ble_eq_true (by rfl))))))
 ·simp [upd,htd,ht']
 refine Ab (An (FQ (Ac rfl (Dl T.n_fin (a:=t) (d:=d) ?_ (Ae _ _ _) ?_ (hz:=Nat.le_of_ble_eq_true (by rfl))))))
 ·simp [upd,htd,ht']
 refine Ab (An (Ac rfl (Ac rfl (Dl T.n_ci (a:=t) (d:=d) ?_ (Ae _ _ _) ?_ (hz:=Nat.le_of_ble_eq_true (by rfl))))))
 ·simp [upd,htd,ht']
 refine Ab (An (B0 (Ac rfl (Dl T.n_sp (a:=t) (d:=d) ?_ (Ae _ _ _) ?_ (hz:=Nat.le_of_ble_eq_true (by rfl))))))
 ·simp [upd,htd,ht']
 refine Ab (An (B0 (Ac rfl (Dl T.n_spt (a:=t) (d:=d) ?_ (Ae _ _ _) ?_ (hz:=Nat.le_of_ble_eq_true (by rfl))))))
 ·simp [upd,htd,ht']
 refine Am ⟨rfl,?_⟩
 refine h t d z e _ ?_ ht hd ?_ ?_ ?_ ?_ ?_ ?_ ?_
 ·simp [htd,hzt.symm,het.symm,hzd.symm,hed.symm,hez.symm]
 ·simpa [upd,hzt,hzd] using hz
 ·simpa [upd,het,hed] using he
 ·simp [upd,htd,ht']
 ·refine (Ae _ _ _).trans ?_
  rfl
 ·simp [upd,hzd,h1]
 ·simp [upd,hed,h2]
 ·intro b b1 b2 b3 b4
  simp [upd,b2]
  rw [h3 b b3 b4];simp [upd,b1,b2]
end
section
theorem Cd {α:Type} [DecidableEq α]:∀{l m:List α},l.Nodup→(∀x∈l,x∈m)→l.length≤m.length
 |[],_,_,_=>Nat.zero_le _
 |x::l,m,hn,hs=>by
  have hx:=hs x (List.mem_cons_self ..)
  have hn':=List.nodup_cons.mp hn
  have:=Cd (l:=l) (m:=m.erase x) hn'.2 (fun y hy=>by
   have hne:y≠x:=fun e=>hn'.1 (e▸hy)
   exact (List.mem_erase_of_ne hne).mpr (hs y (List.mem_cons_of_mem _ hy)))
  rw [List.length_erase_of_mem hx] at this
  have hpos:0<m.length:=List.length_pos_of_mem hx
  simp only [List.length_cons];exact At [_,_,_] [(1,Z0,Z2),(1,(Zs Z2),Z1)] (Zs Z0) Z1 rfl this (Nat.le_of_eq (Nat.sub_add_cancel (At [_] [(1,(Zs (Zn 0)),Z0)] (Zn 1) Z0 rfl hpos)))
noncomputable abbrev Ag:=List Au
structure Af where
 D:List Ag
 A:Ag→Addr
 T:Ag→Addr
 key:Ag→Option AV
 tr:Ag→List (Au×Ag)
 lss:Ag→Option Ag
 out:Ag→Option AV
noncomputable def Af.parv (X:Af) (p:Ag):AV:=if p=[] then .none else .ref (X.A p.dropLast)
noncomputable def FU (p:Ag):AV:=match p.getLast? with|some c=>c.av|none=>.none
noncomputable def Af.lssv (X:Af) (p:Ag):AV:=match X.lss p with|some q=>.ref (X.A q)|none=>.none
noncomputable def Af.nodeAO (X:Af) (p:Ag):AO:=Eu (X.D.idxOf p) (X.lssv p) ((X.key p).getD .none) (X.out p) (X.parv p) (X.key p).isSome (FU p) (X.T p)
noncomputable def Af.trv (X:Af) (p:Ag):List (Au×AV):=(X.tr p).map fun e=>(e.1,.ref (X.A e.2))
noncomputable def Bm (l:List (Au×Ag)) (c:Au):Option Ag:=(l.find? fun e=>e.1=c).map (·.2)
noncomputable def Af.look (X:Af) (p:Ag) (c:Au):Option Ag:=Bm (X.tr p) c
theorem MN (l:List (Au×Ag)) (f:Ag→Addr) (c:Au):H6 (l.map fun e=>(e.1,AV.ref (f e.2))) c=(Bm l c).map fun q=>.ref (f q):=by
 induction l with
 |nil=>rfl
 |cons e l ih=>
  simp only [H6,Bm,List.map_cons,List.find?_cons] at ih ⊢
  by_cases h:e.1=c
  ·simp [h]
  ·simp only [h,decide_false];exact ih
theorem Af.at_trv (X:Af) (p:Ag) (c:Au):H6 (X.trv p) c=(X.look p c).map fun q=>.ref (X.A q):=MN _ _ _
theorem EU {l:List (Au×Ag)} {c:Au} {q:Ag} (h:Bm l c=some q):(c,q)∈l:=by
 refine xa1_2 (Option.map_eq_some_iff.mp h) ?_;intro e he;rintro rfl
 have h1:=List.find?_some he
 have:=List.mem_of_find?_eq_some he
 simp at h1;subst h1;exact this
theorem Il {l:List (Au×Ag)} (hn:(l.map (·.1)).Nodup) {c:Au} {q:Ag} (h:(c,q)∈l):Bm l c=some q:=by
 induction l with
 |nil=>cases h
 |cons e l ih=>
  simp only [List.map_cons,List.nodup_cons] at hn
  simp only [Bm,List.find?_cons]
  rcases List.mem_cons.mp h with rfl|h'
  ·simp
  ·have:e.1≠c:=fun x=>hn.1 (by rw [x];exact List.mem_map_of_mem (f:=(·.1)) h')
   simp only [this,decide_false];exact ih hn.2 h'
theorem CT {l:List (Au×Ag)} {c:Au} (h:Bm l c=none):∀e∈l,e.1≠c:=by
 intro e he x
 have:=List.find?_eq_none.mp (Option.map_eq_none_iff.mp h) e he
 simp [x] at this
theorem BB (l m:List (Au×Ag)) (c:Au):Bm (l++m) c=(Bm l c).or (Bm m c):=by
 simp only [Bm,List.find?_append]
 cases l.find? fun e=>decide (e.1=c)<;>simp
structure Af.Wf (X:Af):Prop where
 root:[]∈X.D
 nodup:X.D.Nodup
 closed:∀p c,p++[c]∈X.D→p∈X.D
 ti:∀p∈X.D,∀q∈X.D,X.T p=X.T q→p=q
 trD:∀p∈X.D,∀e∈X.tr p,e.2∈X.D
 trN:∀p∈X.D,((X.tr p).map (·.1)).Nodup
 trL:∀p∈X.D,∀e∈X.tr p,e.2.getLast? = some e.1
 mkD:∀p,p∉X.D→X.key p=none
 mkV:∀p v,X.key p=some v→∀u,v≠.val u
structure AN (X:Af) (t d:Addr) (fin ci:Bool) (hp:HP):Prop where
 tree:hp t=some (.inst 125 d)
 ns:hp d=some (.ns (EQ (X.A []) X.D.length fin ci))
 nd:∀p∈X.D,hp (X.A p)=some (X.nodeAO p)
 td:∀p∈X.D,∃ep,hp (X.T p)=some (.dict (X.trv p) ep)
noncomputable def Fp (X:Af) (t d a:Addr):Prop:=a=t∨a=d∨∃p∈X.D,a=X.A p∨a=X.T p
noncomputable def AO.kd:AO→Nat
 |.inst ..=>0
 |.ns _=>1
 |.slot ..=>2
 |.dict ..=>3
 |.list _=>4
 |.iset ..=>5
 |.fields ..=>6
 |.itr ..=>7
 |.frame _=>8
 |.gen ..=>9
 |.tdict ..=>10
theorem PJ {P:Prop} {o:Option AO} {x y:AO} (h1:o=some x) (h2:o=some y) (k:(x.kd == y.kd)=false):P:=by
 rw [Option.some.inj (h1.symm.trans h2),beq_self_eq_true] at k;exact CZ k
theorem Om {hp:HP} {a b:Addr} {x y:AO} (h1:hp a=some x) (h2:hp b=some y) (k:(x.kd == y.kd)=false):a≠b:=fun e=>PJ (o:=hp a) h1 ((congrArg hp e).trans h2) k
theorem AN.fpNo {P:Prop} {X:Af} {t d a:Addr} {fin ci:Bool} {hp:HP} {x:AO} (hr:AN X t d fin ci hp) (hF:Fp X t d a) (h:hp a=some x) (k:Nat.ble 4 x.kd=true):P:=by
 have key:∀{y},hp a=some y→Nat.ble 4 y.kd=false→P:=fun e z=>by rw [Option.some.inj (h.symm.trans e),z] at k;exact Bu k
 rcases hF with e|e|⟨p,hp',e|e⟩
 ·exact key (e▸hr.tree) rfl
 ·exact key (e▸hr.ns) rfl
 ·exact key (e▸hr.nd p hp') rfl
 ·refine xa1_1 (hr.td p hp') ?_;intro ep q
  exact key (e▸q) rfl
structure BS (P:Addr→Prop) (h:HP) (P':Addr→Prop) (h':HP):Prop where
 keep:∀a,h a≠none→¬P a→h' a=h a
 grow:∀a,P' a→P a∨h a=none
theorem BS.refl (P:Addr→Prop) (h:HP):BS P h P h:=⟨fun zu zu zu=>rfl,fun zu x=>.inl x⟩
theorem BS.trans {P P' P'':Addr→Prop} {h h' h'':HP} (a:BS P h P' h') (b:BS P' h' P'' h''):BS P h P'' h'' where
 keep:=fun x hx np=>by
  have e:=a.keep x hx np
  rw [←e]
  refine b.keep x (by rw [e];exact hx) (fun p'=>?_)
  rcases a.grow x p' with q|q
  ·exact np q
  ·exact hx q
 grow:=fun x p''=>by
  rcases b.grow x p'' with q|q
  ·exact a.grow x q
  ·by_cases hx:h x=none
   ·exact .inr hx
   ·by_cases np:P x
    ·exact .inl np
    ·rw [a.keep x hx np] at q;exact absurd q hx
theorem Af.Wf.dist {X:Af} {t d:Addr} {fin ci:Bool} {hp:HP} (hr:AN X t d fin ci hp) {p:Ag} (hp':p∈X.D) {q:Ag} (hq:q∈X.D) :
  X.A p≠X.T q∧X.A p≠t∧X.A p≠d∧X.T p≠t∧X.T p≠d∧t≠d:=by
 have h1:=hr.nd p hp'
 refine xa1_1 (hr.td q hq) ?_;intro ep h2
 refine xa1_1 (hr.td p hp') ?_;intro ep' h3
 have h4:=hr.tree
 have h5:=hr.ns
 refine ⟨?_,?_,?_,?_,?_,?_⟩<;>intro e
 ·rw [e,h2] at h1;exact AO.noConfusion (Option.some.inj h1)
 ·rw [e,h4] at h1;exact AO.noConfusion (Option.some.inj h1)
 ·rw [e,h5] at h1;exact AO.noConfusion (Option.some.inj h1)
 ·rw [e,h4] at h3;exact AO.noConfusion (Option.some.inj h3)
 ·rw [e,h5] at h3;exact AO.noConfusion (Option.some.inj h3)
 ·rw [e,h5] at h4;exact AO.noConfusion (Option.some.inj h4)
theorem Kj {D:List Ag} {p q:Ag} (hp:p∈D) (h:D.idxOf p=D.idxOf q):p=q:=by
 have h1:D.idxOf p<D.length:=List.idxOf_lt_length_of_mem hp
 have h2:D.idxOf q<D.length:=h▸h1
 have e1:=List.getElem_idxOf h1
 have e2:=List.getElem_idxOf h2
 rw [←e1,←e2];congr 1
theorem AN.ai {X:Af} {t d:Addr} {fin ci:Bool} {hp:HP} (hr:AN X t d fin ci hp) {p q:Ag} (h1:p∈X.D) (h2:q∈X.D) (e:X.A p=X.A q):p=q:=by
 have a:=hr.nd p h1
 rw [e,hr.nd q h2] at a
 simp only [Af.nodeAO,Eu,Option.some.injEq,AO.slot.injEq,List.cons.injEq,AV.int.injEq] at a
 refine Kj h1 ?_
 have:=a.2.1
 omega
theorem Af.Wf.trlen {X:Af} (w:X.Wf) {p:Ag} (h:p∈X.D):(X.tr p).length≤X.D.length:=by
 have:((X.tr p).map (·.2)).Nodup:=by
  have hn:=w.trN p h
  have hl:=w.trL p h
  generalize X.tr p=l at hn hl
  induction l with
  |nil=>simp
  |cons e l ih=>
   simp only [List.map_cons,List.nodup_cons] at hn ⊢
   refine ⟨fun hm=>hn.1 ?_,ih hn.2 (fun e' he'=>hl e' (List.mem_cons_of_mem _ he'))⟩
   refine xa1_2 (List.mem_map.mp hm) ?_;intro e' he' x
   have l1:=hl e (List.mem_cons_self ..)
   have l2:=hl e' (List.mem_cons_of_mem _ he')
   rw [x,l1] at l2
   rw [Option.some.injEq] at l2
   rw [l2];exact List.mem_map_of_mem (f:=(·.1)) he'
 have:=Cd this (m:=X.D) (fun x hx=>by refine xa1_2 (List.mem_map.mp hx) ?_;intro e he;rintro rfl;exact w.trD p h e he)
 simpa using this
structure Af.Ph1 (X:Af):Prop where
 wf:X.Wf
 kid1:∀p∈X.D,∀c,p++[c]∈X.D→X.look p c=some (p++[c])
 kid0:∀p∈X.D,∀c,p++[c]∉X.D→X.look p c=none
 lss:∀p∈X.D,X.lss p=none
 out:∀p∈X.D,X.out p=none
noncomputable def Af.grow (X:Af) (u:Ag) (c:Au) (a b:Addr):Af where
 D:=X.D++[u++[c]]
 A:=fun p=>if p=u++[c] then a else X.A p
 T:=fun p=>if p=u++[c] then b else X.T p
 key:=X.key
 tr:=fun p=>if p=u++[c] then [] else if p=u then X.tr u++[(c,u++[c])] else X.tr p
 lss:=fun p=>if p=u++[c] then none else X.lss p
 out:=fun p=>if p=u++[c] then none else X.out p
theorem Ny (u:Ag) (c:Au):u≠u++[c]:=fun e=>by
 have:=congrArg List.length e
 simp at this
theorem Af.grow_ph1 {X:Af} (h:X.Ph1) {u:Ag} {c:Au} {a b:Addr} (hu:u∈X.D) (hn:u++[c]∉X.D) (hb:∀p∈X.D,X.T p≠b):(X.grow u c a b).Ph1:=by
 have hne:∀p∈X.D,p≠u++[c]:=fun p hp e=>hn (e▸hp)
 have hl0:X.look u c=none:=h.kid0 u hu c hn
 refine ⟨⟨?_,?_,?_,?_,?_,?_,?_,?_,?_⟩,?_,?_,?_,?_⟩
 ·exact List.mem_append_left _ h.wf.root
 ·refine List.nodup_append.mpr ⟨h.wf.nodup,by simp,?_⟩
  intro x hx y hy
  simp at hy;subst hy;exact hne x hx
 ·intro p c' hp
  rcases List.mem_append.mp hp with h1|h1
  ·exact List.mem_append_left _ (h.wf.closed p c' h1)
  ·simp at h1
   refine xa0_2 h1 ?_;(try clear h1);rintro rfl;intro zu
   exact List.mem_append_left _ hu
 ·intro p hp q hq e
  simp only [Af.grow] at e hp hq
  rcases List.mem_append.mp hp with h1|h1<;>rcases List.mem_append.mp hq with h2|h2
  ·rw [if_neg (hne p h1),if_neg (hne q h2)] at e;exact h.wf.ti p h1 q h2 e
  ·simp at h2;subst h2
   rw [if_neg (hne p h1),if_pos rfl] at e;exact absurd e (hb p h1)
  ·simp at h1;subst h1
   rw [if_neg (hne q h2),if_pos rfl] at e;exact absurd e.symm (hb q h2)
  ·simp at h1 h2;rw [h1,h2]
 ·intro p hp e he
  simp only [Af.grow] at he hp ⊢
  by_cases e1:p=u++[c]
  ·simp [e1] at he
  ·rw [if_neg e1] at he
   have h1:p∈X.D:=by
    rcases List.mem_append.mp hp with x|x
    ·exact x
    ·simp at x;exact absurd x e1
   by_cases e2:p=u
   ·rw [if_pos e2] at he
    rcases List.mem_append.mp he with x|x
    ·exact List.mem_append_left _ (h.wf.trD u hu e x)
    ·simp at x;subst x;simp
   ·rw [if_neg e2] at he
    exact List.mem_append_left _ (h.wf.trD p h1 e he)
 ·intro p hp
  simp only [Af.grow] at hp ⊢
  by_cases e1:p=u++[c]
  ·simp [e1]
  ·rw [if_neg e1]
   have h1:p∈X.D:=by
    rcases List.mem_append.mp hp with x|x
    ·exact x
    ·simp at x;exact absurd x e1
   by_cases e2:p=u
   ·rw [if_pos e2,List.map_append]
    refine List.nodup_append.mpr ⟨h.wf.trN u hu,by simp,?_⟩
    intro x hx y hy
    simp at hy;subst hy
    refine xa1_2 (List.mem_map.mp hx) ?_;intro e he;rintro rfl
    exact CT hl0 e he
   ·rw [if_neg e2];exact h.wf.trN p h1
 ·intro p hp e he
  simp only [Af.grow] at he hp ⊢
  by_cases e1:p=u++[c]
  ·simp [e1] at he
  ·rw [if_neg e1] at he
   have h1:p∈X.D:=by
    rcases List.mem_append.mp hp with x|x
    ·exact x
    ·simp at x;exact absurd x e1
   by_cases e2:p=u
   ·rw [if_pos e2] at he
    rcases List.mem_append.mp he with x|x
    ·exact h.wf.trL u hu e x
    ·simp at x;subst x;simp
   ·rw [if_neg e2] at he
    exact h.wf.trL p h1 e he
 ·intro p hp
  exact h.wf.mkD p (fun x=>hp (List.mem_append_left _ x))
 ·exact h.wf.mkV
 ·intro p hp c' hm
  simp only [Af.grow,Af.look] at hp hm ⊢
  by_cases e1:p=u++[c]
  ·exfalso
   rcases List.mem_append.mp hm with x|x
   ·exact hn (e1▸h.wf.closed _ _ x)
   ·simp [e1] at x
  ·rw [if_neg e1]
   have h1:p∈X.D:=by
    rcases List.mem_append.mp hp with x|x
    ·exact x
    ·simp at x;exact absurd x e1
   by_cases e2:p=u
   ·subst e2
    rw [if_pos rfl,BB]
    by_cases e3:p++[c']∈X.D
    ·have:=h.kid1 p h1 c' e3
     simp only [Af.look] at this
     rw [this];rfl
    ·have:=h.kid0 p h1 c' e3
     simp only [Af.look] at this
     rw [this]
     rcases List.mem_append.mp hm with x|x
     ·exact absurd x e3
     ·simp at x;subst x;simp [Bm]
   ·rw [if_neg e2]
    rcases List.mem_append.mp hm with x|x
    ·exact h.kid1 p h1 c' x
    ·simp at x
     exact absurd x.1 e2
 ·intro p hp c' hm
  simp only [Af.grow,Af.look] at hp hm ⊢
  by_cases e1:p=u++[c]
  ·rw [if_pos e1];rfl
  ·rw [if_neg e1]
   have h1:p∈X.D:=by
    rcases List.mem_append.mp hp with x|x
    ·exact x
    ·simp at x;exact absurd x e1
   have e3:p++[c']∉X.D:=fun x=>hm (List.mem_append_left _ x)
   have:=h.kid0 p h1 c' e3
   simp only [Af.look] at this
   by_cases e2:p=u
   ·subst e2
    rw [if_pos rfl,BB,this]
    have:c≠c':=fun e=>hm (by simp [e])
    simp [Bm,this]
   ·rw [if_neg e2,this]
 ·intro p hp
  simp only [Af.grow] at hp ⊢
  split
  ·rfl
  ·rename_i e1
   rcases List.mem_append.mp hp with x|x
   ·exact h.lss p x
   ·simp at x;exact absurd x e1
 ·intro p hp
  simp only [Af.grow] at hp ⊢
  split
  ·rfl
  ·rename_i e1
   rcases List.mem_append.mp hp with x|x
   ·exact h.out p x
   ·simp at x;exact absurd x e1
end
section
variable {C:Cf} {A:Around} {E:Value→Shared→Prop}
theorem Av {l:List (Str×AV)} {x:Str} {v:AV}:(Fy l x v).lookup x=some v:=by rw [AI];simp
theorem Ah {l:List (Str×AV)} {x y:Str} {v:AV} {r:Option AV} (h:l.lookup y=r) (hn:autoParam (y≠x) AC.aux1._auto_1):(Fy l x v).lookup y=r:=by rw [AI,if_neg hn];exact h
noncomputable def B4 (x:Str):List AV:=x.cps.toList.map fun c=>.str ⟨#[c]⟩
theorem EZ {x:Str} {i:Nat} {y:AV} (h:(B4 x)[i]? = some y):∃c,x.cps[i]? = some c∧y=.str ⟨#[c]⟩:=by
 unfold B4 at h
 rw [List.getElem?_map,Option.map_eq_some_iff] at h
 refine xa1_2 h ?_;(try clear h);intro c h1 h2
 exact ⟨c,by rw [←h1];simp,h2.symm⟩
theorem DH (x:Str):(B4 x).length=x.cps.size:=by simp [B4]
theorem Dj (x:Str):(strIterType x = "str_ascii_iterator")∨strIterType x = "str_iterator":=by
 unfold strIterType;split<;>simp
theorem Mu {σ:Al} {env:Env} {target:Expr} {x:Str} (hA:A.handled=none):Dy C A E env target (.str x) (B4 x) (fun zu=>True) σ:=by
 intro F G s v hR hv
 refine xa1_1 hv.strI ?_;intro t;rintro rfl
 refine wpAny_pyIter_strU ?_
 have key:∀c,strIterType x=c→DD.contains c=false→Walks C.prog C.w A s.heap.objs.size [s.heap.objs.size] [s.heap.objs.size] x.cps.size (SignAt x) (fun i h=>h.IsStrIter s.heap.objs.size c x t i) →
   Cy C A F G env σ target (B4 x) (fun zu=>True) (.ref s.heap.objs.size) ⟨s.heap.push { cls:=.type (strIterType x),data:=.fields #[.str x t,.int 0 0] },s.gens,s.drawn,s.toks,s.os⟩:=fun c hc hn W=>by
  refine Cy.ofWk (Wk.ofWalks W (DH x) (fun i y v hy hP=>?_) (fun b hb=>.inl hb) (fun i h st b hb=>?_) c hn fun i h st=>?_) hR ⟨_,Heap.get?_push_size _ rfl,by rw [hc],rfl⟩ (fun b hb=>?_) fun b ob e=>Heap.get?_push_of_some _ e
  ·refine xa1_2 (EZ hy) ?_;intro c hc;rintro rfl
   refine xa2_2 hP ?_;(try clear hP);intro c' u hc';rintro rfl
   rw [hc] at hc';(have zc:=Option.some.inj hc';clear hc';subst zc)
   exact .str _ _
  ·refine xa1_3 st ?_;(try clear st);intro o ho h1 h2
   rw [List.mem_singleton.mp hb]
   exact ⟨o,ho,As h2⟩
  ·refine xa1_3 st ?_;(try clear st);intro o ho h1 h2
   exact ⟨o,ho,h1⟩
  ·rw [List.mem_singleton.mp hb];exact Nat.le_refl _
 rcases Dj x with e|e
 ·exact key _ e (by decide) (Walks.strAscii hA _ x t)
 ·exact key _ e (by decide) (Walks.strWide hA _ x t)
theorem N6 {σ:Al} {env:Env} {xs:List AV} {Q:AV→Al→Prop} (hz:xs.length≤100000) (h:Q (.int xs.length) σ):Bf C A E env (.val (.builtin "len")) [] [.lst xs] [] σ Q:=by
 refine A4 fun F G s us vs hR hus hvs=>?_
 obtain rfl:us=[]:=by (have zc:=VRs.nilI hus;clear hus;subst zc);rfl
 refine VRs.consC hvs fun zv zw zo q r=>?_;clear hvs;subst zo;(have zc:=VRs.nilI r;clear r;subst zc);refine VR.lstC q fun zs za zw zn zo q1 q2 q3 q4=>?_;clear q;subst zo
 refine PyProof.Rows.len_list ⟨_,hR.wd.fz _ _ q1,q2,_,q3⟩ (by rw [List.size_toArray,q4.length];omega) (Aw.of ?_ (hR.tok _) h)
 rw [List.size_toArray,q4.length];exact .int _ _
noncomputable def ED (b:Array UInt8):List AV:=b.toList.map fun c=>AV.int (c.toNat:Int)
theorem EC (b:Array UInt8):(ED b).length=b.size:=by simp [ED]
theorem MH {b:Array UInt8} {i:Nat} {y:AV} (h:(ED b)[i]? = some y):∃c,b[i]? = some c∧y=.int (c.toNat:Int):=by
 unfold ED at h
 rw [List.getElem?_map,Array.getElem?_toList] at h
 cases q:b[i]? with
 |none=>rw [q] at h;cases h
 |some c=>rw [q] at h;exact ⟨c,rfl,(Option.some.inj h).symm⟩
theorem Mx {σ:Al} {env:Env} {target:Expr} {b:Array UInt8} (hA:A.handled=none):Dy C A E env target (.bytes b) (ED b) (fun zu=>True) σ:=by
 intro F G s v hR hv
 refine xa1_1 hv.bytesI ?_;intro t;rintro rfl
 refine KBw.pyIter_bytes ?_
 refine Cy.ofWk (Wk.ofWalks (KBw.walks hA s.heap.objs.size b t) (EC b) (fun i y v hy hP=>?_) (fun b hb=>.inl hb) (fun i h st b hb=>?_) "bytes_iterator" (by decide) fun i h st=>?_) hR ⟨_,Heap.get?_push_size _ rfl,rfl,rfl⟩ (fun b hb=>?_) fun b ob e=>Heap.get?_push_of_some _ e
 ·refine xa1_2 (MH hy) ?_;intro c hc;rintro rfl
  refine xa2_2 hP ?_;(try clear hP);intro c' u hc';rintro rfl
  rw [hc] at hc';(have zc:=Option.some.inj hc';clear hc';subst zc)
  exact .int _ _
 ·refine xa1_3 st ?_;(try clear st);intro o ho h1 h2
  rw [List.mem_singleton.mp hb]
  exact ⟨o,ho,As h2⟩
 ·refine xa1_3 st ?_;(try clear st);intro o ho h1 h2
  exact ⟨o,ho,h1⟩
 ·rw [List.mem_singleton.mp hb];exact Nat.le_refl _
theorem N7 {σ:Al} {env:Env} {b:Array UInt8} {Q:AV→Al→Prop} (hz:b.size≤100000) (h:Q (.int b.size) σ):Bf C A E env (.val (.builtin "len")) [] [.bytes b] [] σ Q:=by
 refine A4 fun F G s us vs hR hus hvs=>?_
 obtain rfl:us=[]:=by (have zc:=VRs.nilI hus;clear hus;subst zc);rfl
 refine xa2_3 hvs.invS ?_;intro v us;rintro rfl;intro hv hvs
 (have zc:=VRs.nilI hvs;clear hvs;subst zc)
 refine xa1_1 hv.bytesI ?_;intro t;rintro rfl
 exact len_bytes (by exact At [_] [(1,Z0,(Zn 100000))] Z0 (Zn 1099511627776) rfl hz) (Aw.of (.int _ _) (hR.tok _) h)
inductive BI:AV→List AV→HP→Prop
 |tup {xs hp}:xs.length≤100000→BI (.tup xs) xs hp
 |lst {xs hp}:xs.length≤100000→BI (.lst xs) xs hp
 |str {x hp}:x.length≤100000→BI (.str x) (B4 x) hp
 |byt {b hp}:b.size≤100000→BI (.bytes b) (ED b) hp
theorem BI.fr {P P':Addr→Prop} {hp hp':HP} {kw:AV} {xs:List AV} (h:BI kw xs hp) (sep:∀a,kw=.ref a→¬P a) (f:BS P hp P' hp'):BI kw xs hp':=by
 cases h with
 |tup h=>exact .tup h
 |lst h=>exact .lst h
 |str h=>exact .str h
 |byt h=>exact .byt h
theorem Mv {env:Env} {target:Expr} {kw:AV} {xs:List AV} {σ:Al} (h:BI kw xs σ.hp) (ht:Cv target) (hA:A.handled=none) :
  Dy C A E env target kw xs (fun hp=>BI kw xs hp) σ:=by
 cases h with
 |tup h=>exact (Mt hA).weak fun zu zu=>trivial
 |lst h=>exact (Mw hA).weak fun zu zu=>trivial
 |str h=>exact (Mu hA).weak fun zu zu=>trivial
 |byt h=>exact (Mx hA).weak fun zu zu=>trivial
theorem Kf {env:Env} {kw:AV} {xs:List AV} {σ:Al} {Q:AV→Al→Prop} (h:BI kw xs σ.hp) (q:Q (.int xs.length) σ):Bf C A E env (.val (.builtin "len")) [] [kw] [] σ Q:=by
 cases h with
 |tup h=>exact N5 h q
 |lst h=>exact N6 h q
 |str h=>exact Mm h (by rw [DH] at q;exact q)
 |byt h=>exact N7 h (by rw [EC] at q;exact q)
noncomputable def HG (X:Af) (w:Ag) (kw:AV) (t d:Addr) (ci:Bool) (hp hp':HP):Prop:=
 ∃X':Af,X'.Ph1∧AN X' t d false ci hp'∧BS (Fp X t d) hp (Fp X' t d) hp'∧(∀p,p∈X'.D↔p∈X.D∨p <+: w) ∧
  (∀p,X'.key p=if w≠[]∧p=w then some kw else X.key p)∧X'.D.length≤X.D.length+w.length∧X'.A []=X.A []
theorem Mz {X:Af} {t d:Addr} {ci:Bool} {hp hp':HP} (h:X.Ph1) (hr:AN X t d false ci hp) {u:Ag} {c:Au} (hu:u∈X.D) (hn:u++[c]∉X.D) {a b:Addr} (ha:hp a=none) (hb:hp b=none) (hab:b≠a)
  (h1:hp' a=some (Eu X.D.length .none .none none (.ref (X.A u)) false c.av b)) (h2:hp' b=some (.dict [] 0))
  (h3:hp' d=some (.ns (EQ (X.A []) (X.D.length+1) false ci))) (h4:∃ep,hp' (X.T u)=some (.dict (X.trv u++[(c,.ref a)]) ep))
  (h5:∀x,x≠a→x≠b→x≠d→x≠X.T u→hp' x=hp x) :
  (X.grow u c a b).Ph1∧AN (X.grow u c a b) t d false ci hp'∧BS (Fp X t d) hp (Fp (X.grow u c a b) t d) hp':=by
 have hne:∀p∈X.D,p≠u++[c]:=fun p hp e=>hn (e▸hp)
 have hAa:∀p∈X.D,X.A p≠a:=fun p h e=>by rw [←e,hr.nd p h] at ha;exact Ap ha
 have hAb:∀p∈X.D,X.A p≠b:=fun p h e=>by rw [←e,hr.nd p h] at hb;exact Ap hb
 have hTa:∀p∈X.D,X.T p≠a:=fun p h e=>by refine xa1_1 (hr.td p h) ?_;intro ep x;rw [←e,x] at ha;exact Ap ha
 have hTb:∀p∈X.D,X.T p≠b:=fun p h e=>by refine xa1_1 (hr.td p h) ?_;intro ep x;rw [←e,x] at hb;exact Ap hb
 have hdl:∀p∈X.D,p.dropLast∈X.D:=fun p hp=>by
  rcases List.eq_nil_or_concat p with rfl|⟨q,e,rfl⟩
  ·exact hp
  ·simp only [List.concat_eq_append,List.dropLast_concat] at hp ⊢;exact h.wf.closed q e hp
 have hA:∀p∈X.D,(X.grow u c a b).A p=X.A p:=fun p hp=>if_neg (hne p hp)
 have hT:∀p∈X.D,(X.grow u c a b).T p=X.T p:=fun p hp=>if_neg (hne p hp)
 have hnd:∀p∈X.D,(X.grow u c a b).nodeAO p=X.nodeAO p:=fun p hp=>by
  have e1:(X.grow u c a b).D.idxOf p=X.D.idxOf p:=by
   simp only [Af.grow];rw [List.idxOf_append,if_pos hp]
  have e2:(X.grow u c a b).lssv p=X.lssv p:=by
   have:(X.grow u c a b).lss p=X.lss p:=if_neg (hne p hp)
   simp only [Af.lssv,this,h.lss p hp]
  have e3:(X.grow u c a b).parv p=X.parv p:=by
   simp only [Af.parv]
   rw [hA _ (hdl p hp)]
  have e4:(X.grow u c a b).out p=X.out p:=if_neg (hne p hp)
  simp only [Af.nodeAO,e1,e2,e3,e4,hT p hp]
  rfl
 have htr:∀p∈X.D,p≠u→(X.grow u c a b).trv p=X.trv p:=fun p hp hpu=>by
  have:(X.grow u c a b).tr p=X.tr p:=by simp only [Af.grow];rw [if_neg (hne p hp),if_neg hpu]
  simp only [Af.trv,this]
  exact List.map_congr_left (fun e he=>by rw [hA _ (h.wf.trD p hp e he)])
 refine ⟨Af.grow_ph1 h hu hn hTb,⟨?_,?_,?_,?_⟩,⟨?_,?_⟩⟩
 ·rw [h5 t]
  ·exact hr.tree
  ·rintro rfl;rw [hr.tree] at ha;exact Ap ha
  ·rintro rfl;rw [hr.tree] at hb;exact Ap hb
  ·exact (Af.Wf.dist hr hu hu).2.2.2.2.2
  ·exact (Af.Wf.dist hr hu hu).2.2.2.1.symm
 ·rw [h3,hA _ h.wf.root]
  simp only [Af.grow,List.length_append,List.length_singleton]
  rfl
 ·intro p hp
  rcases List.mem_append.mp hp with hp|hp
  ·rw [hA p hp,hnd p hp,h5 _ (hAa p hp) (hAb p hp) (Af.Wf.dist hr hp hp).2.2.1 (Af.Wf.dist hr hp hu).1]
   exact hr.nd p hp
  ·simp at hp;subst hp
   have e0:(X.grow u c a b).A (u++[c])=a:=if_pos rfl
   rw [e0,h1]
   have e1:(X.grow u c a b).D.idxOf (u++[c])=X.D.length:=by
    simp only [Af.grow];rw [List.idxOf_append,if_neg hn];simp
   have e2:(X.grow u c a b).lssv (u++[c])=.none:=by
    have:(X.grow u c a b).lss (u++[c])=none:=if_pos rfl
    simp only [Af.lssv,this]
   have e3:(X.grow u c a b).parv (u++[c])=.ref (X.A u):=by
    simp only [Af.parv]
    rw [if_neg (by simp),List.dropLast_concat,hA u hu]
   have e4:(X.grow u c a b).out (u++[c])=none:=if_pos rfl
   have e5:(X.grow u c a b).T (u++[c])=b:=if_pos rfl
   have e6:(X.grow u c a b).key (u++[c])=none:=h.wf.mkD _ hn
   simp only [Af.nodeAO,e1,e2,e3,e4,e5,e6,FU,List.getLast?_concat]
   rfl
 ·intro p hp
  rcases List.mem_append.mp hp with hp|hp
  ·rw [hT p hp]
   by_cases e:p=u
   ·subst e
    refine xa1_1 h4 ?_;(try clear h4);intro ep x
    refine ⟨ep,?_⟩
    rw [x]
    have:(X.grow p c a b).tr p=X.tr p++[(c,p++[c])]:=by simp only [Af.grow];rw [if_neg (Ny p c)];simp
    simp only [Af.trv,this,List.map_append]
    have e0:(X.grow p c a b).A (p++[c])=a:=if_pos rfl
    have:(X.tr p).map (fun e=>(e.1,AV.ref ((X.grow p c a b).A e.2)))=(X.tr p).map (fun e=>(e.1,AV.ref (X.A e.2))):=
     List.map_congr_left (fun e he=>by rw [hA _ (h.wf.trD p hu e he)])
    rw [this]
    simp only [List.map_cons,List.map_nil,e0]
   ·refine xa1_1 (hr.td p hp) ?_;intro ep x
    refine ⟨ep,?_⟩
    rw [htr p hp e,h5 _ (hTa p hp) (hTb p hp) (Af.Wf.dist hr hp hp).2.2.2.2.1 (fun q=>e (h.wf.ti p hp u hu q))]
    exact x
  ·simp at hp;subst hp
   have e5:(X.grow u c a b).T (u++[c])=b:=if_pos rfl
   have:(X.grow u c a b).tr (u++[c])=[]:=if_pos rfl
   refine ⟨0,?_⟩
   rw [e5,h2];simp only [Af.trv,this];rfl
 ·intro x hx hP
  refine h5 x ?_ ?_ ?_ ?_
  ·rintro rfl;exact hx ha
  ·rintro rfl;exact hx hb
  ·rintro rfl;exact hP (.inr (.inl rfl))
  ·rintro rfl;exact hP (.inr (.inr ⟨u,hu,.inr rfl⟩))
 ·rintro x (rfl|rfl|⟨p,hp,e⟩)
  ·exact .inl (.inl rfl)
  ·exact .inl (.inr (.inl rfl))
  ·rcases List.mem_append.mp hp with hp|hp
   ·rw [hA p hp,hT p hp] at e
    exact .inl (.inr (.inr ⟨p,hp,e⟩))
   ·simp at hp;subst hp
    have e0:(X.grow u c a b).A (u++[c])=a:=if_pos rfl
    have e5:(X.grow u c a b).T (u++[c])=b:=if_pos rfl
    rw [e0,e5] at e
    rcases e with rfl|rfl
    ·exact .inr ha
    ·exact .inr hb
noncomputable def Af.setKey (X:Af) (w:Ag) (kw:AV):Af:={ X with key:=fun p=>if p=w then some kw else X.key p }
theorem IY {X:Af} {t d:Addr} {ci:Bool} {hp:HP} (h:X.Ph1) (hr:AN X t d false ci hp) {w:Ag} (hw:w∈X.D) {kw:AV} (hk:∀u,kw≠.val u) :
  (X.setKey w kw).Ph1∧AN (X.setKey w kw) t d false ci (upd hp (X.A w) ((X.setKey w kw).nodeAO w)):=by
 refine ⟨⟨⟨h.wf.root,h.wf.nodup,h.wf.closed,h.wf.ti,h.wf.trD,h.wf.trN,h.wf.trL,?_,?_⟩,h.kid1,h.kid0,h.lss,h.out⟩,⟨?_,?_,?_,?_⟩⟩
 ·intro p hp
  simp only [Af.setKey] at hp ⊢
  rw [if_neg (by rintro rfl;exact hp hw)];exact h.wf.mkD p hp
 ·intro p v hv
  simp only [Af.setKey] at hv
  split at hv
  ·(have zc:=Option.some.inj hv;clear hv;subst zc);exact hk
  ·exact h.wf.mkV p v hv
 ·rw [Ad _ _ (Af.Wf.dist hr hw hw).2.1.symm];exact hr.tree
 ·rw [Ad _ _ (Af.Wf.dist hr hw hw).2.2.1.symm];exact hr.ns
 ·intro p hp
  by_cases e:p=w
  ·subst e;exact Ae _ _ _
  ·have:(X.setKey w kw).nodeAO p=X.nodeAO p:=by
    have:(X.setKey w kw).key p=X.key p:=if_neg e
    simp only [Af.nodeAO,this];rfl
   rw [this]
   exact (Ad _ _ (fun q=>e (hr.ai hp hw q))).trans (hr.nd p hp)
 ·intro p hp
  refine xa1_1 (hr.td p hp) ?_;intro ep x
  exact ⟨ep,(Ad _ _ (Af.Wf.dist hr hw hp).1.symm).trans x⟩
end
section
theorem FO.trans {a b c:Obj} (h:FO a b) (k:FO b c):FO a c:=by
 rcases h with rfl|⟨⟨es,ep,e⟩,sl,rfl⟩
 ·exact k
 ·rcases k with rfl|⟨zu,sl',rfl⟩
  ·exact .inr ⟨⟨es,ep,e⟩,sl,rfl⟩
  ·exact .inr ⟨⟨es,ep,e⟩,sl',rfl⟩
theorem DE (h:Heap):h.get? h.objs.size=none:=by
 cases q:h.get? h.objs.size with
 |none=>rfl
 |some o=>exact absurd (Heap.lt_size q) (Nat.lt_irrefl _)
noncomputable def QL (hp:HP) (F:FH) (h:Heap) (e:Env):Prop:=e.scope.kind≠.module∧∃L,e.frame=some L∧F L=none∧hp L=none∧∃o,h.get? L=some o∧∃es ep,o.data=.dict es ep
structure Wp (C:Cf) (A:Around) (hp:HP) (F:FH) (s:Shared):Prop where
 base:∀b o,C.h0.get? b=some o→F b=some o
 fz:∀b o,F b=some o→s.heap.get? b=some o
 ob:∀a x,hp a=some x→F a=none∧∃o,s.heap.get? a=some o∧OR C F s.gens x o
 os:s.os=C.os
 bare:AllBare s.gens
 gi:∀a b g gs gs',hp a=some (.gen g gs)→hp b=some (.gen g gs')→a=b
 fr:∃l,A.frames=some l∧∀e∈l,QL hp F s.heap e
section
variable {C:Cf} {A:Around} {hp:HP} {s s':Shared} {env:Env} {F F':FH}
theorem Wp.old (w:Wp C A hp F s):∀b o,C.h0.get? b=some o→s.heap.get? b=some o:=fun b o e=>w.fz _ _ (w.base _ _ e)
theorem Wp.dead (w:Wp C A hp F s) {a:Addr} (hn:s.heap.get? a=none):F a=none∧hp a=none:=by
 refine ⟨?_,?_⟩
 ·cases q:F a with
  |none=>rfl
  |some o'=>have:=w.fz _ _ q;rw [hn] at this;exact Ak this
 ·cases q:hp a with
  |none=>rfl
  |some x=>refine cps fun zP zk=>?_;(rcases w.ob _ _ q with ⟨zu,o,h,zu⟩)<;>(refine zk ?_;clear zk zP);rw [hn] at h;exact Ak h
theorem Wp.turn (w:Wp C A hp F s) {h':Heap} {t:Nat} {X:Addr→Prop} (e:AG F F') (hi:∀b o,F' b=some o→h'.get? b=some o) (hX:∀b x,X b→hp b≠some x) (hfr:∀b o,s.heap.get? b=some o→F b=none→F' b=none)
  (hf:∀l,A.frames=some l→∀e∈l,∀L,e.frame=some L→¬X L) (k:∀b o,¬X b→s.heap.get? b=some o→h'.get? b=some o):Wp C A hp F' ⟨h',s.gens,s.drawn,t,s.os⟩:=
 ⟨fun b o q=>e _ _ (w.base b o q),hi,fun a x q=>let ⟨p,o,ho,r⟩:=w.ob a x q;⟨hfr _ _ ho p,o,k _ _ (fun z=>hX a x z q) ho,r.mono e⟩,w.os,w.bare,w.gi,
  let ⟨l,a,b⟩:=w.fr;⟨l,a,fun y hy=>let ⟨p,L,q1,q2,q3,o,q4,q5⟩:=b y hy;⟨p,L,q1,hfr _ _ q4 q2,q3,o,k _ _ (hf l a y hy L q1) q4,q5⟩⟩⟩
theorem Wp.frOff (w:Wp C A hp F s) {X:Addr→Prop} (hX:∀b,X b→s.heap.get? b=none):∀l,A.frames=some l→∀e∈l,∀L,e.frame=some L→¬X L:=fun l hl e he L hL hx=>by
 refine xa1_2 w.fr ?_;intro l' a b
 rw [hl] at a;(have zc:=Option.some.inj a;clear a;subst zc)
 refine cps fun zP zk=>?_;(rcases b e he with ⟨zu,L',q1,zu,zu,o,q4,zu⟩)<;>(refine zk ?_;clear zk zP)
 rw [hL] at q1;(have zc:=Option.some.inj q1;clear q1;subst zc)
 rw [hX L hx] at q4;exact Ak q4
noncomputable abbrev PV:=AV×Bool
inductive BY (hp:HP) (F:FH):PV→Value→Prop
 |val {a v} (r:VR F a v):BY hp F (a,false) v
 |own {xs a} (ho:hp a=some (.list xs)):BY hp F (.lst xs,true) (.ref a)
theorem BY.out {a:AV} {v:Value} (r:BY hp F (a,false) v):VR F a v:=by
 cases r with|val r=>exact r
theorem BY.mono {pv:PV} {v:Value} (r:BY hp F pv v) (e:AG F F'):BY hp F' pv v:=by
 cases r with
 |val r=>exact .val (r.mono e)
 |own ho=>exact .own ho
inductive DM (hp:HP) (F:FH):List PV→List Value→Prop
 |nil:DM hp F [] []
 |cons {x xs v vs} (a:BY hp F x v) (b:DM hp F xs vs):DM hp F (x::xs) (v::vs)
structure BH (C:Cf) (A:Around) (hp:HP) (F:FH) (s:Shared) (F':FH) (s':Shared):Prop where
 w:Wp C A hp F s
 w':Wp C A hp F' s'
 e:AG F F'
 kg:∀b o,s.heap.get? b=some o→hp b=none→∃o',s'.heap.get? b=some o'∧FO o o'
 new:∀b o,F' b=some o→F b=some o∨s.heap.get? b=none
theorem BH.live (st:BH C A hp F s F' s') {b:Addr} {o:Obj} (h:s.heap.get? b=some o):∃o',s'.heap.get? b=some o':=by
 cases q:hp b with
 |none=>refine xa1_2 (st.kg b o h q) ?_;intro o' h zu;exact ⟨o',h⟩
 |some x=>refine cps fun zP zk=>?_;(rcases st.w'.ob b x q with ⟨zu,o',h,zu⟩)<;>(refine zk ?_;clear zk zP);exact ⟨o',h⟩
theorem BH.dead (st:BH C A hp F s F' s') {b:Addr} (h:s'.heap.get? b=none):s.heap.get? b=none:=by
 cases q:s.heap.get? b with
 |none=>rfl
 |some o=>refine xa1_1 (st.live q) ?_;intro o' z;rw [h] at z;exact Ak z
theorem BH.k (st:BH C A hp F s F' s') {b:Addr} {o:Obj} (h:s.heap.get? b=some o) (hb:hp b=none) (hd:∀es ep,o.data≠.dict es ep):s'.heap.get? b=some o:=by
 refine xa1_2 (st.kg b o h hb) ?_;intro o' h g
 rw [h,g.exact hd]
theorem BH.trans {F₁ F₂:FH} {s₁ s₂:Shared} (a:BH C A hp F s F₁ s₁) (b:BH C A hp F₁ s₁ F₂ s₂):BH C A hp F s F₂ s₂:=by
 refine ⟨a.w,b.w',a.e.trans b.e,fun x o e q=>?_,fun x o e=>?_⟩
 ·refine xa1_2 (a.kg x o e q) ?_;intro o' h g
  refine xa1_2 (b.kg x o' h q) ?_;intro o2 h g2
  exact ⟨o2,h,g.trans g2⟩
 ·rcases b.new x o e with q|q
  ·exact a.new x o q
  ·exact .inr (a.dead q)
theorem BH.mk' (w:Wp C A hp F s) {h':Heap} {t:Nat} (e:AG F F') (k:∀b o,s.heap.get? b=some o→h'.get? b=some o) (new:∀b o,F' b=some o→F b=some o∨s.heap.get? b=none) (inn:∀b o,F' b=some o→h'.get? b=some o):BH C A hp F s F' ⟨h',s.gens,s.drawn,t,s.os⟩:=
 ⟨w,w.turn (X:=fun zu=>False) e inn (fun zu zu z=>z.elim) (fun b o ho hb=>by
  cases q:F' b with
  |none=>rfl
  |some o'=>
   rcases new b o' q with z|z
   ·rw [hb] at z;exact Ak z
   ·rw [ho] at z;exact Ap z) (fun zu zu zu zu zu zu=>id) (fun b o zu=>k b o),e,fun b o h zu=>⟨o,k _ _ h,.inl rfl⟩,new⟩
theorem BH.keep (w:Wp C A hp F s) {h':Heap} {t:Nat} (k:∀b o,s.heap.get? b=some o→h'.get? b=some o):BH C A hp F s F ⟨h',s.gens,s.drawn,t,s.os⟩:=
 .mk' w (AG.refl F) k (fun zu zu e=>.inl e) (fun b o e=>k _ _ (w.fz _ _ e))
theorem BH.refl (w:Wp C A hp F s):BH C A hp F s F s:=⟨w,w,AG.refl F,fun zu o h zu=>⟨o,h,.inl rfl⟩,fun zu zu e=>.inl e⟩
theorem BH.put (w:Wp C A hp F s) {h':Heap} {t:Nat} {a:Addr} {o:Obj} (k:∀b o,s.heap.get? b=some o→h'.get? b=some o) (ho:h'.get? a=some o) (hn:s.heap.get? a=none):BH C A hp F s (AM F a o) ⟨h',s.gens,s.drawn,t,s.os⟩:=by
 refine .mk' w (AR o (w.dead hn).1) k (fun b o' e=>?_) (fun b o' e=>?_)
 ·by_cases q:b=a
  ·exact .inr (q▸hn)
  ·rw [A0 _ _ q] at e;exact .inl e
 ·by_cases q:b=a
  ·subst q;rw [Ar] at e;(have zc:=Option.some.inj e;clear e;subst zc);exact ho
  ·rw [A0 _ _ q] at e;exact k _ _ (w.fz _ _ e)
theorem BH.push (w:Wp C A hp F s) {t:Nat} {o:Obj} (hf:o.isFreed=false):BH C A hp F s (AM F s.heap.objs.size o) ⟨s.heap.push o,s.gens,s.drawn,t,s.os⟩:=
 .put w (fun zu zu e=>Heap.get?_push_of_some _ e) (Heap.get?_push_size _ hf) (DE _)
theorem BY.step {pv:PV} {v:Value} (r:BY hp F pv v) (st:BH C A hp F s F' s'):BY hp F' pv v:=r.mono st.e
theorem Ns.geq {h h':Heap} {L:Addr} {m:Str→Option Value} (n:h.Ns L m) (k:∀o,h.get? L=some o→∃o',h'.get? L=some o'∧FO o o'):h'.Ns L m:=by
 refine xa3_3 n ?_;(try clear n);intro o es ep ho hd r
 refine xa1_2 (k o ho) ?_;intro o' ho' g
 exact ⟨o',es,ep,ho',g.data.trans hd,r⟩
inductive MX (hp:HP) (h:Heap) (env:Env) (x:Str) (v:Value):Prop
 |loc {m} (hk:env.kindOf x=some .local) (hn:h.Ns env.locals m) (e:m x=some v) (ho:hp env.locals=none)
 |cell {c} (hk:env.kindOf x=some .cell) (hc:env.cells.lookup x=some c) (hi:h.IsCell c (some v)) (ho:hp c=none)
 |free {c} (hk:env.kindOf x=some .free) (hc:env.cells.lookup x=some c) (hi:h.IsCell c (some v)) (ho:hp c=none)
theorem MX.step {x:Str} {v:Value} (n:MX hp s.heap env x v) (st:BH C A hp F s F' s'):MX hp s'.heap env x v:=by
 cases n with
 |loc hk hn e ho=>exact .loc hk (Ns.geq hn fun o h=>st.kg _ o h ho) e ho
 |cell hk hc hi ho=>refine xa1_2 hi ?_;(try clear hi);intro o h r;exact .cell hk hc ⟨o,st.k h ho (fun es ep q=>by rw [r] at q;cases q),r⟩ ho
 |free hk hc hi ho=>refine xa1_2 hi ?_;(try clear hi);intro o h r;exact .free hk hc ⟨o,st.k h ho (fun es ep q=>by rw [r] at q;cases q),r⟩ ho
noncomputable abbrev PL:=List (Str×PV)
structure Dv (C:Cf) (A:Around) (hp:HP) (F:FH) (s:Shared) (env:Env) (loc:PL):Prop where
 wp:Wp C A hp F s
 kind:env.scope.kind=.function
 glob:env.globals=mainGlobals∧env.builtins=builtinsNs
 cells:∀x,env.kindOf x=some .cell→(env.cells.lookup x).isSome=true
 nm:∀x pv,loc.lookup x=some pv→∃v,BY hp F pv v∧MX hp s.heap env x v
theorem Dv.step {loc:PL} (c:Dv C A hp F s env loc) (st:BH C A hp F s F' s'):Dv C A hp F' s' env loc:=
 ⟨st.w',c.kind,c.glob,c.cells,fun x pv e=>let ⟨v,a,b⟩:=c.nm x pv e;⟨v,a.step st,b.step st⟩⟩
inductive Cr {α:Type} (C:Cf) (A:Around) (hp:HP) (F:FH) (s:Shared) (R:FH→α→Prop) (v:α) (s':Shared):Prop
 |mk (F':FH) (st:BH C A hp F s F' s') (r:R F' v)
theorem Cr.pre {α:Type} {R:FH→α→Prop} {v:α} {F₁:FH} {s₁:Shared} (st:BH C A hp F s F₁ s₁) (q:Cr C A hp F₁ s₁ R v s'):Cr C A hp F s R v s':=by
 refine cps fun zP zk=>?_;(rcases q with ⟨F',st',r⟩)<;>(refine zk ?_;clear zk zP)
 exact ⟨F',st.trans st',r⟩
structure PT {α β:Type} (C:Cf) (A:Around) (hp:HP) (env:Env) (loc:PL) (R:FH→β→α→Prop) (t:Sem α) (b:β):Prop where
 go:∀F s (E:Value→Shared→Prop),Dv C A hp F s env loc→wpAny (model C.prog C.w) A t (Cr C A hp F s fun F' v=>R F' b v) E s
theorem PT.use {α β:Type} {loc:PL} {R:FH→β→α→Prop} {t:Sem α} {b:β} (h:PT C A hp env loc R t b) (c:Dv C A hp F s env loc) {E:Value→Shared→Prop} {P:α→Shared→Prop}
  (k:∀F' s' v,BH C A hp F s F' s'→Dv C A hp F' s' env loc→R F' b v→P v s'):wpAny (model C.prog C.w) A t P E s:=
 wpAny_mono (h.go F s E c) (fun v s' ⟨F',st,r⟩=>k F' s' v st (c.step st) r) fun zu zu x=>x
noncomputable abbrev PE (C:Cf) (A:Around) (hp:HP) (env:Env) (loc:PL) (e:Expr) (pv:PV):Prop:=PT C A hp env loc (BY hp) (eval e env) pv
noncomputable abbrev PB (C:Cf) (A:Around) (hp:HP) (env:Env) (loc:PL) (e:Expr) (b:Bool):Prop:=PT C A hp env loc (fun zu b b'=>b=b') (isTrue e env (eval e env)) b
noncomputable def QK {α β:Type} (C:Cf) (A:Around) (hp:HP) (R:FH→β→α→Prop) (f:Value→Sem α) (x:PV) (b:β):Prop:=
 ∀F s (E:Value→Shared→Prop) v,Wp C A hp F s→BY hp F x v→wpAny (model C.prog C.w) A (f v) (Cr C A hp F s fun F' v=>R F' b v) E s
noncomputable def J8 {α β:Type} (C:Cf) (A:Around) (hp:HP) (R:FH→β→α→Prop) (f:Value→Value→Sem α) (x y:PV) (b:β):Prop:=
 ∀F s (E:Value→Shared→Prop) v u,Wp C A hp F s→BY hp F x v→BY hp F y u→wpAny (model C.prog C.w) A (f v u) (Cr C A hp F s fun F' v=>R F' b v) E s
section
variable {loc:PL}
theorem Cr.here {α:Type} {R:FH→α→Prop} {v:α} (w:Wp C A hp F s) {t:Nat} (r:R F v):Cr C A hp F s R v { s with toks:=t }:=⟨F,.keep (t:=t) w fun zu zu e=>e,r⟩
theorem NO {k pos}:PE C A hp env loc (.Constant .none k pos) (.none,false):=.mk fun F s E c=>wpAny_pure (Cr.here (t:=s.toks) c.wp (.val .none))
theorem AB {i k pos}:PE C A hp env loc (.Constant (.int i) k pos) (.int i,false):=.mk fun F s E c=>wpAny_Constant_int (Cr.here c.wp (.val (.int i _)))
theorem MU {x k pos}:PE C A hp env loc (.Constant (.str x) k pos) (.str x,false):=.mk fun F s E c=>wpAny_mkText (Cr.here c.wp (.val (.str x _)))
theorem Aj {x pos pv} (h:loc.lookup x=some pv) (hd:autoParam ((x == ("__debug__" : Str))=false) AC.aux1._auto_1) (hn:autoParam ((x == ("__classdict__" : Str))=false) AC.aux1._auto_1):PE C A hp env loc (.Name x pos) pv:=.mk fun F s E c=>by
 refine xa1_2 (c.nm x pv h) ?_;intro v r n
 have q:Cr C A hp F s (fun F' v=>BY hp F' pv v) v s:=Cr.here (t:=s.toks) c.wp r
 refine wpAny_Name ?_ hd
 cases n with
 |loc hk hn e zu=>exact wpAny_loadName_local c.kind hk hn e q
 |cell hk hc hi zu=>exact wpAny_loadName_cell c.kind hk hc hi q
 |free hk hc hi zu=>exact wpAny_loadName_free c.kind hk hc hi q hn
theorem Bi {l r:Expr} {op:Operator} {pos:Pos} {a b x:PV} (h1:PE C A hp env loc l a) (h2:PE C A hp env loc r b) (h:J8 C A hp (BY hp) (binaryOp op) a b x):PE C A hp env loc (.BinOp l op r pos) x:=.mk fun F s E c=>
 wpAny_BinOp (h1.use c fun F₁ s₁ v₁ st₁ c₁ r₁=>h2.use c₁ fun F₂ s₂ v₂ st₂ c₂ r₂=>wpAny_mono (h F₂ s₂ E v₁ v₂ c₂.wp (r₁.step st₂) r₂) (fun zu zu q=>q.pre (st₁.trans st₂)) fun zu zu x=>x)
theorem JB {l r:Expr} {op:CmpOp} {pos:Pos} {a b:PV} {x:Bool} (h1:PE C A hp env loc l a) (h2:PE C A hp env loc r b) (h:J8 C A hp (BY hp) (compareOp op) a b (.bool x,false)) (hm:autoParam (behindInMarks op r=false) AC.aux2._auto_1):PB C A hp env loc (.Compare l [op] [r] pos) x:=.mk fun F s E c=>
 wpAny_isTrue_Compare1 (h1.use c fun F₁ s₁ v₁ st₁ c₁ r₁=>h2.use c₁ fun F₂ s₂ v₂ st₂ c₂ r₂=>wpAny_mono (h F₂ s₂ E v₁ v₂ c₂.wp (r₁.step st₂) r₂) (fun v s₃ q=>by
  refine cps fun zP zk=>?_;(rcases q with ⟨F₃,st₃,r₃⟩)<;>(refine zk ?_;clear zk zP)
  obtain rfl:=r₃.out.boolI
  exact wpAny_truthy_bool ⟨F₃,(st₁.trans st₂).trans st₃,rfl⟩) fun zu zu x=>x) hm
theorem Gx {value slice:Expr} {pos:Pos} {a b x:PV} (h1:PE C A hp env loc value a) (h2:PE C A hp env loc slice b) (h:J8 C A hp (BY hp) (subscriptTail value slice) a b x):PE C A hp env loc (.Subscript value slice pos) x:=.mk fun F s E c=>
 Subscript_ (h1.use c fun F₁ s₁ v₁ st₁ c₁ r₁=>h2.use c₁ fun F₂ s₂ v₂ st₂ c₂ r₂=>wpAny_mono (h F₂ s₂ E v₁ v₂ c₂.wp (r₁.step st₂) r₂) (fun zu zu q=>q.pre (st₁.trans st₂)) fun zu zu x=>x)
theorem MW {x:Expr} {pv:PV} {b:Bool} (h:PE C A hp env loc x pv) (ht:QK C A hp (fun zu b b'=>b=b') truthy pv b) (hpl:autoParam (DC x=true) AC.aux0._auto_1):PB C A hp env loc x b:=.mk fun F s E c=>by
 rw [E5 hpl]
 exact wpAny_bind (h.use c fun F₁ s₁ v st c₁ r=>wpAny_bind (wpAny_standAt (wpAny_holding (wpAny_mono (ht F₁ s₁ E v c₁.wp r) (fun zu zu q=>q.pre st) fun zu zu x=>x))))
theorem PP {t b o:Expr} {pos:Pos} {q:Bool} {pv:PV} (h:PB C A hp env loc t q) (h1:q=true→PE C A hp env loc b pv) (h2:q=false→PE C A hp env loc o pv):PE C A hp env loc (.IfExp t b o pos) pv:=.mk fun F s E c=>by
 show wpAny _ _ (do if ←isTrue t env (eval t env) then eval b env else eval o env) _ _ _
 refine wpAny_bind (h.use c fun F₁ s₁ v st c₁ r=>?_)
 subst r
 cases q with
 |true=>exact wpAny_mono ((h1 rfl).go F₁ s₁ E c₁) (fun zu zu q=>q.pre st) fun zu zu x=>x
 |false=>exact wpAny_mono ((h2 rfl).go F₁ s₁ E c₁) (fun zu zu q=>q.pre st) fun zu zu x=>x
noncomputable abbrev Qp (C:Cf) (A:Around) (hp:HP) (env:Env) (loc:PL) (es:List (Bool×Sem Value)) (pvs:List PV):Prop:=PT C A hp env loc (DM hp) (spliced es) pvs
theorem NN:Qp C A hp env loc [] []:=.mk fun F s E c=>wpAny_pure (Cr.here (t:=s.toks) c.wp .nil)
theorem MT {t:Sem Value} {r:List (Bool×Sem Value)} {x:PV} {xs:List PV} (h:PT C A hp env loc (BY hp) t x) (h2:Qp C A hp env loc r xs):Qp C A hp env loc ((false,t)::r) (x::xs):=.mk fun F s E c=>by
 show wpAny _ _ (do let v ←t;let here ←pure [v];return here++(←holding here (spliced r))) _ _ _
 exact wpAny_bind (h.use c fun F₁ s₁ v st c₁ r₁=>wpAny_bind (wpAny_pure (wpAny_bind (wpAny_holding (h2.use c₁ fun F₂ s₂ vs st₂ c₂ r₂=>wpAny_pure ⟨F₂,st.trans st₂,.cons (r₁.step st₂) r₂⟩)))))
noncomputable abbrev AT (env:Env) (es:List Expr):List (Bool×Sem Value):=es.map fun e=>(false,eval e env)
theorem EE (env:Env):∀es,(AT env es).all (!·.1)=true
 |[]=>rfl
 |_::es=>EE env es
inductive IM (C:Cf) (A:Around) (hp:HP) (env:Env) (loc:PL):List Expr→List PV→Prop
 |nil:IM C A hp env loc [] []
 |cons {e es x xs} (h:PE C A hp env loc e x) (k:IM C A hp env loc es xs):IM C A hp env loc (e::es) (x::xs)
theorem IM.pes {es:List Expr} {xs:List PV} (h:IM C A hp env loc es xs):Qp C A hp env loc (AT env es) xs:=by
 induction h with
 |nil=>exact NN
 |cons h zu ih=>exact MT h ih
end
end
end
section
section
variable {C:Cf} {A:Around} {hp:HP} {s s':Shared} {env:Env} {F F':FH} {E:Value→Shared→Prop}
theorem E2 {α:Type}:∀{l:List (Str×α)} {x:Str} {v:α},l.lookup x=some v→(x,v)∈l
 |[],_,_,h=>by exact Ak h
 |(y,u)::l,x,v,h=>by
  simp only [List.lookup] at h
  split at h
  ·rename_i q;(have zc:=Option.some.inj h;clear h;subst zc);rw [beq_iff_eq.mp q];exact List.mem_cons_self ..
  ·exact List.mem_cons_of_mem _ (E2 h)
theorem Hu {α:Type}:∀(l m:List (Str×α)) (x:Str),(l++m).lookup x=(l.lookup x).or (m.lookup x)
 |[],m,x=>by simp
 |(y,u)::l,m,x=>by
  simp only [List.cons_append,List.lookup]
  split
  ·simp
  ·exact Hu l m x
noncomputable def BG (env:Env):List (Str×NameKind)→List (Str×Addr)→List (Str×Addr)
 |[],acc=>acc
 |(n,k)::r,acc=>if k == .free then BG env r ((n,(env.cells.lookup n).getD 0)::acc) else BG env r acc
theorem I6 {env:Env} {n:Str} {k:NameKind} {r:List (Str×NameKind)} {acc:List (Str×Addr)}:BG env ((n,k)::r) acc=if k == .free then BG env r ((n,(env.cells.lookup n).getD 0)::acc) else BG env r acc:=rfl
theorem Dt (env:Env):∀(names:List (Str×NameKind)) (acc:List (Str×Addr)) (x:Str),((x,NameKind.free)∈names∨acc.lookup x=some ((env.cells.lookup x).getD 0))→(BG env names acc).lookup x=some ((env.cells.lookup x).getD 0)
 |[],acc,x,h=>by
  rcases h with h|h
  ·cases h
  ·exact h
 |(y,k)::r,acc,x,h=>by
  rw [I6]
  split
  ·rename_i hk
   refine Dt env r _ x ?_
   by_cases e:x=y
   ·subst e;right;simp [List.lookup]
   ·rcases h with h|h
    ·rcases List.mem_cons.mp h with q|q
     ·cases q;exact absurd rfl e
     ·exact .inl q
    ·right
     simp only [List.lookup,beq_eq_false_iff_ne.mpr e];exact h
  ·rename_i hk
   refine Dt env r _ x ?_
   rcases h with h|h
   ·rcases List.mem_cons.mp h with q|q
    ·cases q;simp at hk
    ·exact .inl q
   ·exact .inr h
theorem EB (env:Env) (f:Str×NameKind→List (Str×Addr)→Sem (ForInStep (List (Str×Addr)))) (hf:∀n k cs,f (n,k) cs=if (k == NameKind.free)=true then (do let c ←cellOf env n;pure (.yield ((n,c)::cs))) else pure (.yield cs)) :
  ∀(names:List (Str×NameKind)) (acc:List (Str×Addr)),(∀p∈names,p.2=.free→(env.cells.lookup p.1).isSome=true)→(forIn names acc f:Sem _)=pure (BG env names acc)
 |[],acc,_=>by rw [List.forIn_nil];rfl
 |(n,k)::r,acc,h=>by
  rw [List.forIn_cons,hf]
  rw [I6]
  have hr:=EB env f hf r
  split
  ·rename_i hk
   have hk':k=.free:=by simpa using hk
   refine xa1_1 (Option.isSome_iff_exists.mp (h (n,k) List.mem_cons_self hk')) ?_;intro c hc
   have:cellOf env n=pure c:=by unfold cellOf;simp only at hc;rw [hc]
   rw [this,hc]
   exact hr _ (fun p hp=>h p (List.mem_cons_of_mem _ hp))
  ·exact hr _ (fun p hp=>h p (List.mem_cons_of_mem _ hp))
theorem GD {scope:Scope} (h:∀p∈scope.names,p.2=.free→(env.cells.lookup p.1).isSome=true):closureFor scope env=pure (BG env scope.names []):=by
 unfold closureFor
 dsimp only
 rw [EB env _ (fun n k cs=>?_) scope.names [] h]
 ·rfl
 ·rfl
noncomputable def md (scope:Scope):Bool:=scope.names.any fun p=>p.2 == .cell
theorem Ck:∀(names:List (Str×NameKind)) (n:Nat) (acc:List (Str×Addr)),(∀p∈names,p.2≠.cell)→cellsFrom n names acc=acc
 |[],_,_,_=>rfl
 |(y,k)::r,n,acc,h=>by
  have h1:¬(k == NameKind.cell)=true:=by simpa using h (y,k) (by simp)
  unfold cellsFrom
  rw [if_neg h1]
  exact Ck r n acc fun p hp=>h p (List.mem_cons_of_mem _ hp)
theorem DT {y:Str}:∀(names:List (Str×NameKind)) (n:Nat) (acc:List (Str×Addr)),(names.filter fun p=>p.2 == .cell)=[(y,.cell)]→cellsFrom n names acc=(y,n)::acc
 |[],_,_,h=>by cases h
 |(x,k)::r,n,acc,h=>by
  unfold cellsFrom
  rw [List.filter_cons] at h
  split at h
  ·rename_i q
   dsimp only at q
   rw [if_pos q]
   have h1:=List.cons.inj h
   refine xa0_2 h1 ?_;(try clear h1);intro h2 h3
   cases h2
   exact Ck r _ _ fun p hp q=>by
    have:=List.filter_eq_nil_iff.mp h3 p hp
    simp [q] at this
  ·rename_i q
   dsimp only at q
   rw [if_neg q]
   exact DT r n acc h
structure AW (env:Env) (scope:Scope):Prop where
 kind:scope.kind=.function
 ekind:env.scope.kind=.function
 fr:(scope.names.all fun p=>p.2 != .free||decide (env.kindOf p.1=some .cell))=true
 nc:(scope.names.filter fun p=>p.2 == .cell).length≤1
 nf:(scope.names.all fun p=>p.2 != .cell||scope.names.all fun q=>q.2 != .free||q.1 != p.1)=true
 lo:(scope.names.all fun p=>p.2 != .local||decide (scope.names.lookup p.1=some .local))=true
theorem cscope_of {scope:Scope} (h:(decide (scope.kind=.function)&&decide (env.scope.kind=.function)&&(scope.names.all fun p=>p.2 != .free||decide (env.kindOf p.1=some .cell))&&decide ((scope.names.filter fun p=>p.2 == .cell).length≤1)&&(scope.names.all fun p=>p.2 != .cell||scope.names.all fun q=>q.2 != .free||q.1 != p.1)&&(scope.names.all fun p=>p.2 != .local||decide (scope.names.lookup p.1=some .local)))=true):AW env scope:=by
 simp only [Bool.and_eq_true,decide_eq_true_eq] at h
 refine xa0_2 h ?_;(try clear h);intro zq;refine xa0_2 zq ?_;(try clear zq);intro zq;refine xa0_2 zq ?_;(try clear zq);intro zq;refine xa0_2 zq ?_;(try clear zq);intro zq;refine xa0_2 zq ?_;(try clear zq);intro a b;intro c;intro d;intro f;intro e
 exact ⟨a,b,c,d,f,e⟩
noncomputable abbrev LA:=Addr×Bool
noncomputable abbrev AF (env:Env) (scope:Scope) (Lc:LA):Env:=compEnvC scope (cellsFrom (Lc.1+1) scope.names (BG env scope.names [])) Lc.1 env
theorem AW.one {scope:Scope} (h:AW env scope) {y:Str} (hy:(y,NameKind.cell)∈scope.names) (n:Nat) (acc:List (Str×Addr)):cellsFrom n scope.names acc=(y,n)::acc:=by
 refine DT _ n acc ?_
 have hm:(y,NameKind.cell)∈scope.names.filter fun p=>p.2 == .cell:=List.mem_filter.mpr ⟨hy,by rfl⟩
 have hl:=h.nc
 generalize (scope.names.filter fun p=>p.2 == .cell)=l at hm hl ⊢
 match l,hm,hl with
 |[p],hm,_=>rw [List.mem_singleton.mp hm]
 |p::q::r,_,hl=>simp at hl
theorem AW.none {scope:Scope} (h:md scope=false) (n:Nat) (acc:List (Str×Addr)):cellsFrom n scope.names acc=acc:=by
 refine Ck _ n acc fun p hp q=>?_
 have:=List.any_eq_false.mp h p hp
 simp [q] at this
theorem AW.freeCell {scope:Scope} (h:AW env scope) {x:Str} (hx:(x,NameKind.free)∈scope.names) (Lc:LA):(AF env scope Lc).cells.lookup x=some ((env.cells.lookup x).getD 0):=by
 show (cellsFrom (Lc.1+1) scope.names (BG env scope.names [])).lookup x=_
 have hl:=Dt env scope.names [] x (.inl hx)
 cases hm:md scope with
 |false=>rw [AW.none hm];exact hl
 |true=>
  refine xa1_2 (List.any_eq_true.mp hm) ?_;intro zq;refine cps fun zP zk=>?_;(rcases zq with ⟨y,k⟩)<;>(refine zk ?_;clear zk zP);intro hy hk
  have hk:k=.cell:=by simpa using hk
  subst hk
  rw [h.one hy]
  have:=List.all_eq_true.mp h.nf _ hy
  have this2:(scope.names.all fun q=>q.2 != .free||q.1 != y)=true:=by simpa using this
  have:=List.all_eq_true.mp this2 _ hx
  have hne:x≠y:=by simpa using this
  rw [List.lookup,beq_eq_false_iff_ne.mpr hne]
  exact hl
theorem AW.cell {scope:Scope} (h:AW env scope) {Lc:LA} {x:Str} (hx:(AF env scope Lc).kindOf x=some .cell):((AF env scope Lc).cells.lookup x).isSome=true:=by
 have hm:=E2 (show (relabel scope env).names.lookup x=some .cell from hx)
 refine xa1_2 (List.mem_map.mp hm) ?_;intro zq;refine cps fun zP zk=>?_;(rcases zq with ⟨n,k⟩)<;>(refine zk ?_;clear zk zP);intro hnk e
 dsimp only at e
 split at e
 ·rename_i hk
  cases e
  simp only [Bool.and_eq_true,beq_iff_eq] at hk
  refine xa0_2 hk ?_;(try clear hk);intro zq;refine xa0_2 zq ?_;(try clear zq);rintro rfl;intro zu;intro h3
  rw [h.freeCell hnk];rfl
 ·cases e
  show ((cellsFrom (Lc.1+1) scope.names (BG env scope.names [])).lookup x).isSome=true
  rw [h.one hnk,List.lookup,beq_self_eq_true];rfl
theorem AW.ownCell {scope:Scope} (h:AW env scope) {Lc:LA} {x:Str} (hx:(x,NameKind.cell)∈scope.names):(AF env scope Lc).cells.lookup x=some (Lc.1+1):=by
 show (cellsFrom (Lc.1+1) scope.names (BG env scope.names [])).lookup x=_
 rw [h.one hx,List.lookup,beq_self_eq_true]
theorem AW.closure {scope:Scope} (h:AW env scope) (hc:∀x,env.kindOf x=some .cell→(env.cells.lookup x).isSome=true):closureFor scope env=pure (BG env scope.names []):=by
 refine GD fun p hp hf=>hc _ ?_
 have:=List.all_eq_true.mp h.fr _ hp
 rw [hf] at this
 simpa using this
noncomputable abbrev Hi (ifs:List Expr) (env:Env):Sem Bool:=forIn ifs true fun c r=>if r=true then do let ok ←isTrue c env (eval c env);pure (ForInStep.yield ok) else pure (ForInStep.yield r)
noncomputable abbrev OU (elt:Expr) (acc:Value) (env:Env):Sem Unit:=(eval elt env >>= fun x=>call (.builtin "list.append") [acc,x] >>= fun zu=>pure ())
noncomputable def J5 (e:Expr) (d:Nat) (it acc:Value) (env:Env) (target iter:Expr) (ifs:List Expr) (rest:Sem Fin→Sem Fin):Prop:=
 compTurn e d it acc env=(standAt iter.pos >>= fun zu=>pyNext it >>= fun r=>match r with
   |none=>pure (.done .next)
   |some v=>letOwnedTupleGo target it v >>= fun zu=>assign target env v >>= fun zu=>Hi ifs env >>= fun ok=>
    if ok=true then rest (again (.compLoop e d it acc env)) else again (.compLoop e d it acc env))
noncomputable abbrev Kn (elt:Expr) (acc:Value) (env:Env) (k:Sem Fin):Sem Fin:=OU elt acc env >>= fun zu=>k
theorem turn1 (elt target iter:Expr) (ifs:List Expr) (scope:Scope) (pos:Pos) (it acc:Value) (env:Env):J5 (.ListComp elt [⟨target,iter,ifs,0⟩] scope pos) 0 it acc env target iter ifs (Kn elt acc env):=rfl
theorem BH.mod {F₀:FH} {s₀:Shared} (st:BH C A hp F₀ s₀ F s) {X:Addr→Prop} (hX:∀b,X b→s₀.heap.get? b=none∧F b=none) {h':Heap} {t:Nat} (k:∀b o,¬X b→s.heap.get? b=some o→h'.get? b=some o):BH C A hp F₀ s₀ F ⟨h',s.gens,s.drawn,t,s.os⟩:=by
 refine ⟨st.w,st.w'.turn (X:=X) (AG.refl F) (fun b o e=>k b o (fun hb=>?_) (st.w'.fz _ _ e)) (fun b x hb q=>?_) (fun zu zu zu=>id) (st.w.frOff fun b hb=>(hX b hb).1) k,st.e,fun b o e q=>?_,st.new⟩
 ·rw [(hX b hb).2] at e;exact Ak e
 ·rw [(st.w.dead (hX b hb).1).2] at q;exact Ak q
 ·refine xa1_2 (st.kg b o e q) ?_;intro o' h1 g
  exact ⟨o',k b o' (fun hb=>by rw [(hX b hb).1] at e;exact Ak e) h1,g⟩
theorem BH.off (st:BH C A hp F s F' s') {b:Addr} {o:Obj} (hb:F b=none) (ho:s.heap.get? b=some o):F' b=none:=by
 cases q:F' b with
 |none=>rfl
 |some o'=>
  rcases st.new b o' q with h|h
  ·rw [hb] at h;exact Ak h
  ·rw [ho] at h;exact Ap h
inductive H9 (C:Cf) (A:Around) (hp:HP) (F:FH) (s:Shared) (target:Expr) (xs:List AV) (iv:Value) (s':Shared):Prop
 |mk (F':FH) (I:Addr) (fp wr:List Addr) (St:Nat→Heap→Prop) (st:BH C A hp F s F' s') (e:iv=.ref I) (W:Wk C A target I fp wr St xs F' F') (h0:St 0 s'.heap) (hw:∀b∈wr,s.heap.get? b=none∧F' b=none)
noncomputable def PI (C:Cf) (A:Around) (hp:HP) (env:Env) (loc:PL) (target iter:Expr) (xs:List AV):Prop:=
 ∀F s (E:Value→Shared→Prop),Dv C A hp F s env loc→wpAny (model C.prog C.w) A (eval iter env) (fun v s₁=>wpAny (model C.prog C.w) A (pyIter v) (H9 C A hp F s target xs) E s₁) E s
noncomputable def DV (F:FH) (h:Heap) (acc:Addr) (ys:List AV):Prop:=∃(vs:List Value) (n:Nat),h.get? acc=some { cls:=.type "list",dict:=none,data:=.seq vs.toArray n,slots:=#[] }∧VRs F ys vs
noncomputable abbrev BL:=List (Str×AV)
noncomputable def K4 (F:FH) (h:Heap) (Lc:LA) (bl:BL):Prop:=∃m c,h.Ns Lc.1 m∧(Lc.2=true→h.IsCell (Lc.1+1) c)∧∀x a,bl.lookup x=some a→∃v,(if Lc.2=true then c=some v else m x=some v)∧VR F a v
noncomputable def XL (Lc:LA) (b:Addr):Prop:=b=Lc.1∨(Lc.2=true∧b=Lc.1+1)
theorem IsCell.geq {h h':Heap} {a:Addr} {v:Option Value} (n:h.IsCell a v) (k:∀o,h.get? a=some o→∃o',h'.get? a=some o'∧FO o o'):h'.IsCell a v:=by
 refine xa1_2 n ?_;(try clear n);intro o h1 h2
 refine xa1_2 (k o h1) ?_;intro o' h3 g
 exact ⟨o',h3,g.data.trans h2⟩
theorem K4.keepG {h h':Heap} {Lc:LA} {bl:BL} (b:K4 F h Lc bl) (e:AG F F') (k:∀a,XL Lc a→∀o,h.get? a=some o→∃o',h'.get? a=some o'∧FO o o'):K4 F' h' Lc bl:=by
 refine xa2_3 b ?_;(try clear b);intro m c hn hc hb
 exact ⟨m,c,Ns.geq hn (k _ (.inl rfl)),fun q=>IsCell.geq (hc q) (k _ (.inr ⟨q,rfl⟩)),fun x a q=>let ⟨v,z1,z2⟩:=hb x a q;⟨v,z1,z2.mono e⟩⟩
theorem K4.keep {h h':Heap} {Lc:LA} {bl:BL} (b:K4 F h Lc bl) (e:AG F F') (k:∀a,XL Lc a→∀o,h.get? a=some o→h'.get? a=some o):K4 F' h' Lc bl:=b.keepG e fun a x o q=>⟨o,k a x o q,.inl rfl⟩
structure CS (C:Cf) (A:Around) (hp:HP) (F₀:FH) (s₀:Shared) (acc:Addr) (Lc:LA) (bl:BL) (ys:List AV) (F:FH) (s:Shared):Prop where
 st:BH C A hp F₀ s₀ F s
 ac:DV F s.heap acc ys
 fr:K4 F s.heap Lc bl
 oa:F acc=none
 oL:∀b,XL Lc b→F b=none
 na:s₀.heap.get? acc=none
 nL:∀b,XL Lc b→s₀.heap.get? b=none
 ne:¬XL Lc acc
structure C4 (C:Cf) (A:Around) (hp:HP) (X:Addr→Prop) (F:FH) (s:Shared) (F':FH) (s':Shared):Prop where
 w':Wp C A hp F' s'
 e:AG F F'
 kg:∀b o,¬X b→s.heap.get? b=some o→hp b=none→∃o',s'.heap.get? b=some o'∧FO o o'
 new:∀b o,F' b=some o→F b=some o∨s.heap.get? b=none
theorem BH.kept (st:BH C A hp F s F' s') (X:Addr→Prop):C4 C A hp X F s F' s':=⟨st.w',st.e,fun b o zu e=>st.kg b o e,st.new⟩
theorem C4.off {X:Addr→Prop} (st:C4 C A hp X F s F' s') {b:Addr} {o:Obj} (hb:F b=none) (ho:s.heap.get? b=some o):F' b=none:=by
 cases q:F' b with
 |none=>rfl
 |some o'=>
  rcases st.new b o' q with h|h
  ·rw [hb] at h;exact Ak h
  ·rw [ho] at h;exact Ap h
theorem C4.k {X:Addr→Prop} (st:C4 C A hp X F s F' s') {b:Addr} {o:Obj} (hx:¬X b) (h:s.heap.get? b=some o) (hb:hp b=none) (hd:∀es ep,o.data≠.dict es ep):s'.heap.get? b=some o:=by
 refine xa1_2 (st.kg b o hx h hb) ?_;intro o' h g
 rw [h,g.exact hd]
theorem C4.dead {X:Addr→Prop} (a:C4 C A hp X F s F' s') {b:Addr} (hx:¬X b) (h:s'.heap.get? b=none):s.heap.get? b=none:=by
 cases z:s.heap.get? b with
 |none=>rfl
 |some o=>
  refine xa1_2 (a.kg b o hx z (a.w'.dead h).2) ?_;intro o' q zu
  rw [h] at q;exact Ak q
theorem C4.trans {X:Addr→Prop} {F₁ F₂:FH} {s₁ s₂:Shared} (a:C4 C A hp X F s F₁ s₁) (b:C4 C A hp X F₁ s₁ F₂ s₂) (hX:∀b,X b→F₂ b=none):C4 C A hp X F s F₂ s₂:=by
 refine ⟨b.w',a.e.trans b.e,fun x o hx e q=>?_,fun x o e=>?_⟩
 ·refine xa1_2 (a.kg x o hx e q) ?_;intro o' h g
  refine xa1_2 (b.kg x o' hx h q) ?_;intro o2 h g2
  exact ⟨o2,h,g.trans g2⟩
 ·rcases b.new x o e with q|q
  ·exact a.new x o q
  ·exact .inr (a.dead (fun hx=>by rw [hX x hx] at e;exact Ak e) q)
noncomputable abbrev XP (acc:Addr) (Lc:LA):Addr→Prop:=fun b=>b=acc∨XL Lc b
noncomputable def OW (scope:Scope) (loc:PL):PL:=loc.filter fun p=>decide (scope.names.lookup p.1=some .free)
noncomputable abbrev J0 (scope:Scope) (loc:PL) (bl:BL):PL:=bl.map (fun p=>(p.1,(p.2,false)))++OW scope loc
theorem Fa {scope:Scope}:∀{loc:PL} {x:Str} {pv:PV},(OW scope loc).lookup x=some pv→scope.names.lookup x=some .free∧loc.lookup x=some pv
 |[],_,_,h=>by exact Ak h
 |(y,u)::l,x,pv,h=>by
  unfold OW at h
  simp only [List.filter,List.lookup] at h ⊢
  split at h
  ·rename_i q
   simp only [List.lookup] at h
   split at h
   ·rename_i z
    (have zc:=Option.some.inj h;clear h;subst zc)
    rw [beq_iff_eq.mp z]
    exact ⟨of_decide_eq_true q,rfl⟩
   ·rename_i z
    exact Fa h
  ·rename_i q
   have hx:=Fa (loc:=l) h
   have:(x == y)=false:=by
    apply beq_eq_false_iff_ne.mpr
    rintro rfl
    exact absurd hx.1 (of_decide_eq_false q)
   rw [this];exact hx
theorem Hm {names:List (Str×NameKind)} {x:Str} (h1:env.scope.kind=.function) (h2:env.kindOf x=some .cell):names.lookup x=some .free →
  (names.map fun (n,k)=>if (k == NameKind.free&&env.scope.kind == .function&&env.kindOf n == some .cell) then (n,NameKind.cell) else (n,k)).lookup x=some .cell:=by
 induction names with
 |nil=>intro h;exact Ak h
 |cons p r ih=>
  refine cps fun zP zk=>?_;(rcases p with ⟨n,k⟩)<;>(refine zk ?_;clear zk zP)
  intro h
  simp only [List.lookup] at h
  split at h
  ·rename_i q
   (have zc:=Option.some.inj h;clear h;subst zc)
   have:=beq_iff_eq.mp q
   subst this
   simp [h1,h2]
  ·rename_i q
   rw [List.map_cons]
   by_cases z:(k == NameKind.free&&env.scope.kind == .function&&env.kindOf n == some .cell)=true
   ·simp only [z,if_true,List.lookup,q];exact ih h
   ·have z':=Bool.eq_false_iff.mpr z
    simp only [z',Bool.false_eq_true,if_false,List.lookup,q];exact ih h
theorem Ks:∀{bl:BL} {x:Str},(bl.map fun p=>(p.1,((p.2,false):PV))).lookup x=(bl.lookup x).map fun a=>(a,false)
 |[],_=>rfl
 |(y,a)::bl,x=>by
  simp only [List.map_cons,List.lookup]
  split
  ·rfl
  ·exact Ks
noncomputable def Qr (env:Env) (scope:Scope) (Lc:LA) (bl:BL):Prop:=∀x a,bl.lookup x=some a→(Lc.2=false∧(AF env scope Lc).kindOf x=some .local)∨(Lc.2=true∧(x,NameKind.cell)∈scope.names∧(AF env scope Lc).kindOf x=some .cell)
theorem CS.ctx {scope:Scope} {loc:PL} {F₀:FH} {s₀:Shared} {acc:Addr} {Lc:LA} {bl:BL} {ys:List AV} (c:Dv C A hp F₀ s₀ env loc) (cs:AW env scope) (h:CS C A hp F₀ s₀ acc Lc bl ys F s) (hk:Qr env scope Lc bl):Dv C A hp F s (AF env scope Lc) (J0 scope loc bl):=by
 have c':=c.step h.st
 refine ⟨c'.wp,cs.kind,c.glob,fun x hx=>cs.cell hx,fun x pv e=>?_⟩
 rw [Hu,Ks] at e
 cases q:bl.lookup x with
 |some a=>
  rw [q] at e;(have zc:=Option.some.inj e;clear e;subst zc)
  refine xa2_3 h.fr ?_;intro m cv hm hc hb
  refine xa1_2 (hb x a q) ?_;intro v h1 h2
  rcases hk x a q with ⟨z1,z2⟩|⟨z1,z2,z3⟩
  ·rw [if_neg (by rw [z1];exact Bool.false_ne_true)] at h1
   exact ⟨v,.val h2,.loc z2 hm h1 (h.st.w.dead (h.nL _ (.inl rfl))).2⟩
  ·rw [if_pos z1] at h1
   subst h1
   exact ⟨v,.val h2,.cell z3 (cs.ownCell z2) (hc z1) (h.st.w.dead (h.nL _ (.inr ⟨z1,rfl⟩))).2⟩
 |none=>
  rw [q] at e
  refine xa0_2 (Fa e) ?_;intro h1 h2
  refine xa1_2 (c'.nm x pv h2) ?_;intro v r n
  have hm:=E2 h1
  have hcell:env.kindOf x=some .cell:=by
   have:=List.all_eq_true.mp cs.fr _ hm
   simpa using this
  cases n with
  |loc hk zu zu2 zu3=>rw [hcell] at hk;cases hk
  |free hk zu zu2 zu3=>rw [hcell] at hk;cases hk
  |cell hk hc hi hh=>
   refine ⟨v,r,.cell (Hm cs.ekind hcell h1) ?_ hi hh⟩
   have:=cs.freeCell hm Lc
   rw [hc] at this;exact this
noncomputable def Os (C:Cf) (A:Around) (hp:HP) (F₀:FH) (s₀:Shared) (acc:Addr) (Lc:LA) (bl:BL) (rest:Sem Fin→Sem Fin) (zs:List AV):Prop:=
 ∀F s ys (k:Sem Fin) (R:Fin→Shared→Prop),CS C A hp F₀ s₀ acc Lc bl ys F s→ys.length+zs.length≤100000 →
  (∀F' s',CS C A hp F₀ s₀ acc Lc bl (ys++zs) F' s'→C4 C A hp (XP acc Lc) F s F' s'→wpAny (model C.prog C.w) A k R Bj s')→wpAny (model C.prog C.w) A (rest k) R Bj s
noncomputable def NS (C:Cf) (A:Around) (cenv:Env) (Lc:LA) (target:Expr) (x:AV) (bl bl':BL):Prop:=
 ∀F s v,(∀b o,F b=some o→s.heap.get? b=some o)→K4 F s.heap Lc bl→VR F x v→wpAny (model C.prog C.w) A (assign target cenv v) (fun zu s'=>∃h' t,s'=⟨h',s.gens,s.drawn,t,s.os⟩∧K4 F h' Lc bl'∧∀b o,¬XL Lc b→s.heap.get? b=some o→h'.get? b=some o) Bj s
theorem Ed {cenv:Env} {Lc:LA} {x:Str} {px:Pos} {a:AV} {bl:BL} (hf:cenv.scope.kind=.function) (hL:cenv.locals=Lc.1) (h2:Lc.2=false) (hk:cenv.kindOf x=some .local) (F:FH) (s:Shared) (v:Value) (b:K4 F s.heap Lc bl) (hv:VR F a v) :
  wpAny (model C.prog C.w) A (assign (.Name x px) cenv v) (fun zu s'=>∃h' t,s'=⟨h',s.gens,s.drawn,t,s.os⟩∧K4 F h' Lc ((x,a)::bl)∧∀b o,¬XL Lc b→s.heap.get? b=some o→h'.get? b=some o) Bj s:=by
 refine xa2_3 b ?_;(try clear b);intro m c hm hc hb
 rw [←hL] at hm
 have hn2:¬Lc.2=true:=by rw [h2];exact Bool.false_ne_true
 refine wpAny_assign_Name (wpAny_storeName_local hk hm (fun h' hn hs=>⟨h',s.toks+1,rfl,⟨_,c,hL▸hn,fun q=>absurd q hn2,fun y a' e=>?_⟩,fun b o n q=>SameBut.rest hs b o (fun z=>n (.inl (z.trans hL))) q⟩) (by rw [hf];rfl))
 simp only [List.lookup] at e
 split at e
 ·rename_i q
  (have zc:=Option.some.inj e;clear e;subst zc)
  exact ⟨v,by rw [if_neg hn2];exact if_pos (beq_iff_eq.mp q),hv⟩
 ·rename_i q
  refine xa1_2 (hb y a' e) ?_;intro v' z1 z2
  rw [if_neg hn2] at z1
  exact ⟨v',by rw [if_neg hn2];exact (if_neg (beq_eq_false_iff_ne.mp q)).trans z1,z2⟩
theorem Lx {cenv:Env} {Lc:LA} {x:Str} {px:Pos} {a:AV} {bl:BL} (hf:cenv.scope.kind=.function) (hL:cenv.locals=Lc.1) (h2:Lc.2=false) (hk:cenv.kindOf x=some .local):NS C A cenv Lc (.Name x px) a bl ((x,a)::bl):=fun F s v zu b hv=>Ed hf hL h2 hk F s v b hv
theorem VRs.inv' {x:AV} {xs:List AV} {vs:List Value} (h:VRs F (x::xs) vs):∃v us,vs=v::us∧VR F x v∧VRs F xs us:=by
 cases h with
 |cons a b=>exact ⟨_,_,rfl,a,b⟩
theorem Lw {cenv:Env} {Lc:LA} {x y:Str} {p1 p2 pos:Pos} {tn:Nat} {a b:AV} {bl:BL} (hA:A.handled=none) (hf:cenv.scope.kind=.function) (hL:cenv.locals=Lc.1) (h2:Lc.2=false) (hx:cenv.kindOf x=some .local) (hy:cenv.kindOf y=some .local) :
  NS C A cenv Lc (.Tuple [.Name x p1,.Name y p2] tn pos) (.tup [a,b]) bl ((y,b)::(x,a)::bl):=fun F s v hin bd hv=>by
 refine xa4_5 hv.tupInv ?_;intro t ot vs n;rintro rfl;intro q1 q2 q3 q4
 refine xa2_3 q4.inv' ?_;intro v1 us;rintro rfl;intro r1 q4
 refine xa2_3 q4.inv' ?_;intro v2 us;rintro rfl;intro r2 q4
 obtain rfl:=q4.nilI
 refine wpAny_assign_Tuple hA ⟨ot,hin _ _ q1,q2,n,q3⟩ rfl rfl fun h' hk=>?_
 have kp:∀b o,s.heap.get? b=some o→h'.get? b=some o:=fun b o e=>hk b o (Nat.ne_of_lt (Heap.lt_size e)) e
 show wpAny _ _ (do holding [v2] (assign (.Name x p1) cenv v1);do holding [] (assign (.Name y p2) cenv v2);pure ()) _ _ _
 refine wpAny_bind (wpAny_holding (wpAny_mono (Ed (C:=C) (A:=A) (px:=p1) (bl:=bl) hf hL h2 hx F { s with heap:=h' } v1 (bd.keep (AG.refl F) fun _ _ o e=>kp _ _ e) r1) (fun zu s₁ z=>?_) fun zu zu x=>x))
 refine xa2_3 z ?_;(try clear z);intro h1 t1;rintro rfl;intro b1 k1
 refine wpAny_bind (wpAny_holding (wpAny_mono (Ed (C:=C) (A:=A) (px:=p2) hf hL h2 hy F ⟨h1,s.gens,s.drawn,t1,s.os⟩ v2 b1 r2) (fun zu s₂ z=>?_) fun zu zu x=>x))
 refine xa2_3 z ?_;(try clear z);intro h2' t2;rintro rfl;intro b2 k2
 exact wpAny_pure ⟨h2',t2,rfl,b2,fun b o n e=>k2 b o n (k1 b o n (kp _ _ e))⟩
end
end
section
section
variable {C:Cf} {A:Around} {hp:HP} {s s':Shared} {env:Env} {F F':FH} {E:Value→Shared→Prop}
section
variable {F₀:FH} {s₀:Shared} {acc:Addr} {Lc:LA} {bl bl':BL} {ys zs:List AV}
theorem BH.add (st:BH C A hp F₀ s₀ F s) {T:Addr} {o:Obj} (ho:s.heap.get? T=some o) (hF:F T=none) (hn:s₀.heap.get? T=none):BH C A hp F₀ s₀ (AM F T o) s:=by
 have hi:∀b o',AM F T o b=some o'→s.heap.get? b=some o':=fun b o' e=>by
  by_cases q:b=T
  ·subst q;rw [Ar] at e;(have zc:=Option.some.inj e;clear e;subst zc);exact ho
  ·rw [A0 _ _ q] at e;exact st.w'.fz b o' e
 have ex:=AR o hF
 have off:∀{b},s₀.heap.get? b≠none→F b=none→AM F T o b=none:=fun {b} h1 h2=>by rw [A0];exact h2;rintro rfl;exact h1 hn
 refine ⟨st.w,⟨fun b o q=>ex _ _ (st.w'.base b o q),hi,fun a x q=>?_,st.w'.os,st.w'.bare,st.w'.gi,?_⟩,st.e.trans ex,st.kg,fun b o' e=>?_⟩
 ·refine cps fun zP zk=>?_;(rcases st.w'.ob a x q with ⟨p,o,ho',r⟩)<;>(refine zk ?_;clear zk zP)
  refine cps fun zP zk=>?_;(rcases st.w.ob a x q with ⟨zu,o2,h2,zu⟩)<;>(refine zk ?_;clear zk zP)
  exact ⟨off (by rw [h2];exact fun z=>nomatch z) p,o,ho',r.mono ex⟩
 ·refine xa1_2 st.w'.fr ?_;intro l a b
  refine ⟨l,a,fun y hy=>?_⟩
  refine cps fun zP zk=>?_;(rcases b y hy with ⟨p,L,q1,q2,q3,q4⟩)<;>(refine zk ?_;clear zk zP)
  refine ⟨p,L,q1,off (fun z=>st.w.frOff (X:=(·=L)) (fun b hb=>by rw [hb];exact z) l a y hy L q1 rfl) q2,q3,q4⟩
 ·by_cases q:b=T
  ·exact .inr (q▸hn)
  ·rw [A0 _ _ q] at e;exact st.new b o' e
theorem DV.live {h:Heap} (a:DV F h acc ys):∃o,h.get? acc=some o:=let ⟨_,_,e,_⟩:=a;⟨_,e⟩
theorem DV.keep {h h':Heap} (a:DV F h acc ys) (e:AG F F') (k:∀o,h.get? acc=some o→h'.get? acc=some o):DV F' h' acc ys:=by
 refine xa2_2 a ?_;(try clear a);intro vs n h1 h2
 exact ⟨vs,n,k _ h1,h2.mono e⟩
theorem DV.keepG {h h':Heap} (a:DV F h acc ys) (e:AG F F') (k:∀o,h.get? acc=some o→∃o',h'.get? acc=some o'∧FO o o'):DV F' h' acc ys:=a.keep e fun o ho=>by
 refine xa2_2 a ?_;(try clear a);intro vs n h1 h2
 rw [ho] at h1;(have zc:=Option.some.inj h1;clear h1;subst zc)
 refine xa1_2 (k _ ho) ?_;intro o' q g
 rw [q,g.exact (fun zu zu z=>nomatch z)]
theorem K4.live {h:Heap} (b:K4 F h Lc bl):∀a,XL Lc a→∃o,h.get? a=some o:=fun a hx=>by
 refine xa2_3 b ?_;(try clear b);intro m c hn hc zu
 rcases hx with rfl|⟨q,rfl⟩
 ·refine xa3_2 hn ?_;(try clear hn);intro o zu zu e zu;exact ⟨o,e⟩
 ·refine xa1_2 (hc q) ?_;intro o e zu;exact ⟨o,e⟩
theorem CS.step (h:CS C A hp F₀ s₀ acc Lc bl ys F s) (st:BH C A hp F s F' s'):CS C A hp F₀ s₀ acc Lc bl ys F' s':=by
 refine xa1_1 h.ac.live ?_;intro oa ha
 exact ⟨h.st.trans st,h.ac.keepG st.e fun o e=>st.kg _ o e (h.st.w.dead h.na).2,h.fr.keepG st.e fun a x o e=>st.kg _ o e (h.st.w.dead (h.nL a x)).2,st.off h.oa ha,fun b x=>let ⟨_,hL⟩:=h.fr.live b x;st.off (h.oL b x) hL,h.na,h.nL,h.ne⟩
theorem CS.modw (h:CS C A hp F₀ s₀ acc Lc bl ys F s) {wr:List Addr} (hw:∀b∈wr,s₀.heap.get? b=none∧F b=none∧¬XP acc Lc b) {h':Heap} {t:Nat} (k:∀b o,b∉wr→s.heap.get? b=some o→h'.get? b=some o):CS C A hp F₀ s₀ acc Lc bl ys F ⟨h',s.gens,s.drawn,t,s.os⟩:=
 ⟨h.st.mod (X:=(·∈wr)) (fun b hb=>⟨(hw b hb).1,(hw b hb).2.1⟩) k,h.ac.keep (AG.refl F) fun o=>k _ o fun hb=>(hw _ hb).2.2 (.inl rfl),h.fr.keep (AG.refl F) fun a x o=>k _ o fun hb=>(hw _ hb).2.2 (.inr x),h.oa,h.oL,h.na,h.nL,h.ne⟩
theorem CS.add (h:CS C A hp F₀ s₀ acc Lc bl ys F s) {T:Addr} {o:Obj} (ho:s.heap.get? T=some o) (hF:F T=none) (hn:s₀.heap.get? T=none) (hx:¬XP acc Lc T):CS C A hp F₀ s₀ acc Lc bl ys (AM F T o) s:=
 ⟨h.st.add ho hF hn,h.ac.keep (AR o hF) fun zu e=>e,h.fr.keep (AR o hF) fun zu zu zu e=>e,by rw [A0 _ _ (fun q=>hx (.inl q.symm))];exact h.oa,fun b x=>by rw [A0 _ _ (fun q=>hx (.inr (by rw [←q];exact x)))];exact h.oL b x,h.na,h.nL,h.ne⟩
theorem CS.asg (h:CS C A hp F₀ s₀ acc Lc bl ys F s) {h':Heap} {t:Nat} (b:K4 F h' Lc bl') (k:∀b o,¬XL Lc b→s.heap.get? b=some o→h'.get? b=some o):CS C A hp F₀ s₀ acc Lc bl' ys F ⟨h',s.gens,s.drawn,t,s.os⟩:=
 ⟨h.st.mod (X:=XL Lc) (fun b hb=>⟨h.nL b hb,h.oL b hb⟩) k,h.ac.keep (AG.refl F) fun o=>k _ o h.ne,b,h.oa,h.oL,h.na,h.nL,h.ne⟩
noncomputable def Ou (bl bl':BL):Prop:=∀y a,bl.lookup y=some a→bl'.lookup y=some a
theorem CS.weak (h:CS C A hp F₀ s₀ acc Lc bl' ys F s) (k:Ou bl bl'):CS C A hp F₀ s₀ acc Lc bl ys F s:=
 ⟨h.st,h.ac,let ⟨m,c,hm,hc,hb⟩:=h.fr;⟨m,c,hm,hc,fun x a e=>hb x a (k x a e)⟩,h.oa,h.oL,h.na,h.nL,h.ne⟩
theorem CS.off (h:CS C A hp F₀ s₀ acc Lc bl ys F s):∀b,XP acc Lc b→F b=none:=by
 rintro b (rfl|hx)
 ·exact h.oa
 ·exact h.oL b hx
inductive Pe (C:Cf) (A:Around) (hp:HP) (env:Env) (scope:Scope) (loc:PL) (F₀:FH) (s₀:Shared) (acc:Addr) (Lc:LA) (target:Expr) (ifs:List Expr) (rest:Sem Fin→Sem Fin) (bl:BL) (x:AV) (zs:List AV):Prop
 |mk (bl':BL) (ok:Bool) (ha:NS C A (AF env scope Lc) Lc target x bl bl') (hl:Ou bl bl') (hk:Qr env scope Lc bl')
   (ht:PT C A hp (AF env scope Lc) (J0 scope loc bl') (fun zu b b'=>b=b') (Hi ifs (AF env scope Lc)) ok) (h1:ok=true→Os C A hp F₀ s₀ acc Lc bl' rest zs) (h0:ok=false→zs=[])
inductive QN (C:Cf) (A:Around) (hp:HP) (F₀:FH) (s₀:Shared) (acc:Addr) (Lc:LA) (bl:BL) (wr:List Addr) (St:Nat→Heap→Prop) (F₁ Fe:FH) (se:Shared) (xs:List AV) (out:Nat→List AV) (n:Nat) (s:Shared):Prop
 |mk (i:Nat) (F:FH) (cs:CS C A hp F₀ s₀ acc Lc bl (out i) F s) (e:AG F₁ F) (st:St i s.heap) (hn:i+n=xs.length) (hw:∀b∈wr,F b=none) (kp:C4 C A hp (XP acc Lc) Fe se F s)
theorem C4.step {X:Addr→Prop} (a:C4 C A hp X F s F' s') {F₂:FH} {s₂:Shared} (b:BH C A hp F' s' F₂ s₂) (hX:∀b,X b→F₂ b=none):C4 C A hp X F s F₂ s₂:=a.trans (b.kept X) hX
theorem C4.mod {X:Addr→Prop} (a:C4 C A hp X F s F' s') {h':Heap} {t:Nat} (w:Wp C A hp F' ⟨h',s'.gens,s'.drawn,t,s'.os⟩) (k:∀b o o',¬X b→s.heap.get? b=some o→s'.heap.get? b=some o'→h'.get? b=some o'):C4 C A hp X F s F' ⟨h',s'.gens,s'.drawn,t,s'.os⟩:=
 ⟨w,a.e,fun b o hb e q=>let ⟨o',h,g⟩:=a.kg b o hb e q;⟨o',k b o o' hb e h,g⟩,a.new⟩
theorem Jy {elt:Expr} {gens:List Comprehension} {scope:Scope} {pos:Pos} {d:Nat} {target iter:Expr} {ifs:List Expr} {rest:Sem Fin→Sem Fin} {I:Addr} {loc:PL} {fp wr:List Addr} {St:Nat→Heap→Prop} {F₁ Fe:FH} {se:Shared} {α:Type} {l:List α} {g:α→AV}
  (teq:J5 (.ListComp elt gens scope pos) d (.ref I) (.ref acc) (AF env scope Lc) target iter ifs rest) (W:Wk C A target I fp wr St (l.map g) F₁ F₁) (c:Dv C A hp F₀ s₀ env loc) (cs:AW env scope) (em:α→List AV)
  (turn:∀a∈l,Pe C A hp env scope loc F₀ s₀ acc Lc target ifs rest bl (g a) (em a)) (hz:ys.length+(l.flatMap em).length≤100000) (hw:∀b∈wr,s₀.heap.get? b=none∧se.heap.get? b=none∧¬XP acc Lc b)
  (h0:QN C A hp F₀ s₀ acc Lc bl wr St F₁ Fe se (l.map g) (fun i=>ys++(l.take i).flatMap em) l.length s) {R:Result→Shared→Prop}
  (hQ:∀F' s',CS C A hp F₀ s₀ acc Lc bl (ys++l.flatMap em) F' s'→C4 C A hp (XP acc Lc) Fe se F' s'→R (.ok .next) s'):codeAny (model C.prog C.w) A (.compLoop (.ListComp elt gens scope pos) d (.ref I) (.ref acc) (AF env scope Lc)) R s:=by
 refine codeAny_loop' rfl (QN C A hp F₀ s₀ acc Lc bl wr St F₁ Fe se (l.map g) (fun i=>ys++(l.take i).flatMap em)) (fun n s' hI=>?_) l.length h0
 refine cps fun zP zk=>?_;(rcases hI with ⟨i,F,hcs,e,st,hn,hwF,kp⟩)<;>(refine zk ?_;clear zk zP)
 show wpAny _ _ ((compTurn (.ListComp elt gens scope pos) d (.ref I) (.ref acc) (AF env scope Lc)).onRaise (fun x=>do noteFrame x (AF env scope Lc);theTreesLotGoes x)) _ _ s'
 refine wpAny_onRaise ?_
 rw [teq]
 refine wpAny_bind (wpAny_standAt (wpAny_bind ?_))
 have hw3:∀b∈wr,s₀.heap.get? b=none∧F b=none∧¬XP acc Lc b:=fun b hb=>⟨(hw b hb).1,hwF b hb,(hw b hb).2.2⟩
 rw [List.length_map] at hn
 cases hx:l[i]? with
 |none=>
  have hi:i=l.length:=Nat.le_antisymm (by exact At [_,_,_] [(1,(Za Z0 Z2),Z1)] Z0 Z1 rfl (Nat.le_of_eq hn)) (List.getElem?_eq_none_iff.mp hx)
  subst hi
  refine wpAny_mono (W.done s' (by rw [List.length_map];exact st)) (fun r s₁ z=>?_) fun zu zu x=>x.elim
  refine cps fun zP zk=>?_;(rcases z with ⟨rfl,h',tk,rfl,k⟩)<;>(refine zk ?_;clear zk zP)
  have hcs':=hcs.modw (t:=tk) hw3 k
  simp only [List.take_length] at hcs'
  exact wpAny_pure (hQ F _ hcs' (kp.mod hcs'.st.w' fun b o o' zu e1 e2=>k b o' (fun hb=>by rw [(hw b hb).2.1] at e1;exact Ak e1) e2))
 |some a=>
  have hlt:=(List.getElem?_eq_some_iff.mp hx).1
  have hxm:a∈l:=List.mem_of_getElem? hx
  have hx2:(l.map g)[i]? = some (g a):=by rw [List.getElem?_map,hx];rfl
  refine wpAny_mono (W.more i (g a) s' hx2 st) (fun r s₁ z=>?_) fun zu zu x=>x.elim
  refine xa1_2 z ?_;(try clear z);intro v;rintro rfl;intro z
  refine wpAny_bind (wpAny_mono z (fun zu s₂ z=>?_) fun zu zu x=>x.elim)
  refine cps fun zP zk=>?_;(rcases z with ⟨h',tk,rfl,st',k,hv⟩)<;>(refine zk ?_;clear zk zP)
  have key:∃F₂,AG F F₂∧VR F₂ (g a) v∧CS C A hp F₀ s₀ acc Lc bl (ys++(l.take i).flatMap em) F₂ ⟨h',s'.gens,s'.drawn,tk,s'.os⟩∧(∀b∈wr,F₂ b=none)∧C4 C A hp (XP acc Lc) Fe se F₂ ⟨h',s'.gens,s'.drawn,tk,s'.os⟩:=by
   have hcs':=hcs.modw (t:=tk) hw3 k
   have kp':=kp.mod (t:=tk) hcs'.st.w' fun b o o' zu e1 e2=>k b o' (fun hb=>by rw [(hw b hb).2.1] at e1;exact Ak e1) e2
   cases hv with
   |old hv=>exact ⟨F,AG.refl F,hv.mono e,hcs',hwF,kp'⟩
   |tup T o vs kk cs ev hT ho hc hd hv ex=>
    have hT':s'.heap.get? T=none:=by
     cases q:s'.heap.get? T with
     |none=>rfl
     |some o'=>exact absurd (Heap.lt_size q) (Nat.not_lt.mpr hT)
    have hFT:F T=none:=(hcs.st.w'.dead hT').1
    have hX:¬XP acc Lc T:=by
     rintro (rfl|hx)
     ·refine xa1_1 hcs.ac.live ?_;intro o' h1;rw [hT'] at h1;exact Ak h1
     ·refine xa1_1 (hcs.fr.live _ hx) ?_;intro o' h1;rw [hT'] at h1;exact Ak h1
    subst ev
    rw [ex]
    refine ⟨_,AR o hFT,.tup (Ar _ _ _) hc hd ((hv.mono e).mono (AR o hFT)),hcs'.add ho hFT (hcs.st.dead hT') hX,fun b hb=>?_,⟨(hcs'.add ho hFT (hcs.st.dead hT') hX).st.w',kp'.e.trans (AR o hFT),kp'.kg,fun b o' q=>?_⟩⟩
    ·rw [A0]
     ·exact hwF b hb
     ·rintro rfl
      refine xa1_2 (W.inert i _ st b hb) ?_;intro o' h1 zu
      rw [hT'] at h1;exact Ak h1
    ·by_cases z:b=T
     ·subst z
      exact .inr (kp.dead hX hT')
     ·rw [A0 _ _ z] at q;exact kp'.new b o' q
  clear hv kp hcs hw3
  refine xa1_5 key ?_;(try clear key);intro F₂ e₂ hv hcs hwF kp
  refine cps fun zP zk=>?_;(rcases turn a hxm with ⟨bl',ok,ha,hl,hk,ht,h1,h2⟩)<;>(refine zk ?_;clear zk zP)
  refine wpAny_bind (wpAny_mono (ha F₂ _ v hcs.st.w'.fz hcs.fr hv) (fun zu s₃ z=>?_) fun zu zu x=>x.elim)
  refine xa2_3 z ?_;(try clear z);intro h3 t3;rintro rfl;intro b3 k3
  have hcs3:=hcs.asg (t:=t3) b3 k3
  have wL:∀b∈wr,¬XL Lc b:=fun b hb q=>(hw b hb).2.2 (.inr q)
  have fpk:∀{F4:FH} {s4:Shared},AG F₂ F4→Wp C A hp F4 s4→(∀b∈wr,∀o,h'.get? b=some o→s4.heap.get? b=some o)→St (i+1) s4.heap:=fun {F4 s4} e4 w4 hwk=>W.frame _ _ _ st' fun b hb o ho=>by
   rcases W.frz b hb with q|⟨o',q⟩
   ·exact hwk b q o ho
   ·have q3:=hcs.st.w'.fz b o' (e₂ _ _ (e _ _ q))
    dsimp only at q3
    rw [ho] at q3;(have zc:=Option.some.inj q3;clear q3;subst zc)
    exact w4.fz _ _ (e4 _ _ (e₂ _ _ (e _ _ q)))
  have kp3:=kp.mod (h':=h3) (t:=t3) hcs3.st.w' fun b o o' hb zu e2=>k3 b o' (fun q=>hb (.inr q)) e2
  have wh:∀b∈wr,hp b=none:=fun b hb=>(hcs.st.w.dead (hw b hb).1).2
  refine wpAny_bind (ht.use (hcs3.ctx c cs hk) fun F₃ s₄ ok' st4 c4 r4=>?_)
  subst r4
  have hcs4:=hcs3.step st4
  have kp4:=kp3.step st4 hcs4.off
  have ind:∀b∈wr,∀o,h'.get? b=some o→∀es ep,o.data≠.dict es ep:=fun b hb o ho=>by
   refine xa1_2 (W.inert _ _ st' b hb) ?_;intro o' h1 h2
   rw [ho] at h1;(have zc:=Option.some.inj h1;clear h1;subst zc);exact h2.2
  have wr4:∀b∈wr,∀o,h'.get? b=some o→s₄.heap.get? b=some o:=fun b hb o ho=>st4.k (k3 b o (wL b hb) ho) (wh b hb) (ind b hb o ho)
  have hwF4:∀b∈wr,F₃ b=none:=fun b hb=>by
   refine xa1_2 (W.inert _ _ st' b hb) ?_;intro o ho zu
   exact st4.off (hwF b hb) (k3 b o (wL b hb) ho)
  have out:(ys++(l.take i).flatMap em)++em a=ys++(l.take (i+1)).flatMap em:=by
   rw [List.take_add_one,hx];simp
  cases ok with
  |false=>
   simp only [Bool.false_eq_true,if_false]
   have:ys++(l.take (i+1)).flatMap em=ys++(l.take i).flatMap em:=by rw [←out,h2 rfl,List.append_nil]
   exact wpAny_pure (.inl ⟨rfl,n - 1,by exact B6 [_,_] [(1,(Zs Z0),Z1)] Z0 Z1 rfl (Nat.le_of_eq (Nat.sub_add_cancel (At [_,_,_] [(1,Z1,(Za Z2 Z0)),(1,(Zs Z2),Z1)] (Zn 1) Z0 rfl (Nat.le_of_eq (Eq.symm hn)) hlt))),i+1,F₃,by rw [this];exact hcs4.weak hl,e.trans (e₂.trans st4.e),fpk st4.e hcs4.st.w' wr4,by rw [List.length_map];exact Nat.le_antisymm (At [_,_,_,_] [(1,(Za Z0 Z3),Z2),(1,(Zs Z1),Z3)] (Za (Zs Z0) Z1) Z2 rfl (Nat.le_of_eq hn) (Nat.le_of_eq (Nat.sub_add_cancel (At [_,_,_] [(1,Z1,(Za Z2 Z0)),(1,(Zs Z2),Z1)] (Zn 1) Z0 rfl (Nat.le_of_eq (Eq.symm hn)) hlt)))) (At [_,_,_,_] [(1,Z0,(Za Z1 Z3)),(1,Z3,(Zs Z2))] Z0 (Za (Zs Z1) Z2) rfl (Nat.le_of_eq (Eq.symm hn)) (BP _ _)),hwF4,kp4⟩)
  |true=>
   simp only [if_true]
   refine wpAny_mono (h1 rfl F₃ s₄ _ _ _ hcs4 ?_ fun F₅ s₅ hcs5 kp5=>?_) (fun zu zu z=>z) fun zu zu x=>x.elim
   ·have e1:(ys++l.flatMap em)=((ys++(l.take i).flatMap em)++em a)++(l.drop (i+1)).flatMap em:=by
     rw [out,List.append_assoc,←List.flatMap_append,List.take_append_drop]
    have:=congrArg List.length e1
    simp only [List.length_append] at this hz ⊢
    exact At [_,_,_,_,_] [(1,(Za Z0 Z3),(Zn 100000)),(1,(Za (Za (Za Z0 Z1) Z2) Z4),(Za Z0 Z3))] (Za (Za Z0 Z1) Z2) (Zn 100000) rfl hz (Nat.le_of_eq (Eq.symm this))
   ·rw [out] at hcs5
    have wr5:∀b∈wr,∀o,h'.get? b=some o→s₅.heap.get? b=some o:=fun b hb o ho=>kp5.k (hw b hb).2.2 (wr4 b hb o ho) (wh b hb) (ind b hb o ho)
    exact wpAny_pure (.inl ⟨rfl,n - 1,by exact B6 [_,_] [(1,(Zs Z0),Z1)] Z0 Z1 rfl (Nat.le_of_eq (Nat.sub_add_cancel (At [_,_,_] [(1,Z1,(Za Z2 Z0)),(1,(Zs Z2),Z1)] (Zn 1) Z0 rfl (Nat.le_of_eq (Eq.symm hn)) hlt))),i+1,F₅,hcs5.weak hl,e.trans (e₂.trans (st4.e.trans kp5.e)),fpk (st4.e.trans kp5.e) hcs5.st.w' wr5,by rw [List.length_map];exact Nat.le_antisymm (At [_,_,_,_] [(1,(Za Z0 Z3),Z2),(1,(Zs Z1),Z3)] (Za (Zs Z0) Z1) Z2 rfl (Nat.le_of_eq hn) (Nat.le_of_eq (Nat.sub_add_cancel (At [_,_,_] [(1,Z1,(Za Z2 Z0)),(1,(Zs Z2),Z1)] (Zn 1) Z0 rfl (Nat.le_of_eq (Eq.symm hn)) hlt)))) (At [_,_,_,_] [(1,Z0,(Za Z1 Z3)),(1,Z3,(Zs Z2))] Z0 (Za (Zs Z1) Z2) rfl (Nat.le_of_eq (Eq.symm hn)) (BP _ _)),fun b hb=>by
     refine xa1_2 (W.inert _ _ st' b hb) ?_;intro o ho zu
     exact kp5.off (hwF4 b hb) (wr4 b hb o ho),kp4.trans kp5 hcs5.off⟩)
end
end
end
section
section
variable {C:Cf} {A:Around} {hp:HP} {s s':Shared} {env:Env} {F F':FH} {E:Value→Shared→Prop}
theorem Jm {scope:Scope} {globals:Addr} {cl:List (Str×Addr)} {qual:Str} {M:Model} {Q:Env→Shared→Prop}
  (h:Q { scope,locals:=s.heap.objs.size,globals,cells:=cellsFrom (s.heap.objs.size+1) scope.names cl,qual,func:=none,code:=env.code,frame:=env.frame,builtins:=env.builtins } { s with heap:=pushCells (s.heap.push { cls:=.type "dict",data:=.dict #[] }) scope.names }) :
  wpAny M A (newFunctionEnv scope globals cl [] qual none .none (some env)) Q E s:=by
 simp only [newFunctionEnv,Option.isSome_some,if_true]
 refine wpAny_bind (wpAny_alloc ?_)
 refine wpAny_bind (wpAny_layCells _ (fun name kind cells=>by cases hkc:kind == NameKind.cell<;>simp [hkc]) _ _ _ _ ?_)
 rw [show ({ s with heap:=s.heap.push { cls:=.type "dict",data:=.dict #[] } }:Shared).heap.objs.size=s.heap.objs.size+1 from Heap.size_push ..]
 exact wpAny_bind (wpAny_pure (wpAny_pure h))
theorem Jx {elt:Expr} {gens:List Comprehension} {scope:Scope} {pos:Pos} {d:Nat} {target iter:Expr} {ifs:List Expr} {it:Addr} {acc:Value} {cenv:Env} {R:Result→Shared→Prop} (hg:gens[d]? = some ⟨target,iter,ifs,0⟩)
  (hself:∀(Q:Value→Shared→Prop) (E:Value→Shared→Prop),Q (.ref it) s→wpAny (model C.prog C.w) A (pyIter (.ref it)) Q E s)
  (h0:codeAny (model C.prog C.w) A (.compLoop (.ListComp elt gens scope pos) d (.ref it) acc cenv) R s):codeAny (model C.prog C.w) A (.compStart (.ListComp elt gens scope pos) d (.ref it) acc cenv) R s:=by
 refine codeAny_of_tree ?_
 show wpAny _ _ ((compStart (.ListComp elt gens scope pos) d (.ref it) acc cenv).onRaise (fun x=>do noteFrame x cenv;standAt theWindowsPlace)) _ _ s
 refine wpAny_notedAt ?_
 have hc:(clausesOf (.ListComp elt gens scope pos))[d]? = some ⟨target,iter,ifs,0⟩:=hg
 unfold compStart
 rw [hc]
 show wpAny _ _ (ask >>= _) _ _ s
 refine wpAny_bind (wpAny_askSetting (wpAny_ite ?_))
 split
 ·first
   |exact wpAny_bind (wpAny_pure (wpAny_pure (And.intro rfl h0)))
   |exact wpAny_pure (And.intro rfl h0)
 ·first
   |exact wpAny_bind (wpAny_rule (wpAny_bind (wpAny_standAt (wpAny_bind (hself _ _ (wpAny_pure (And.intro rfl h0)))))))
   |(refine wpAny_bind (wpAny_rule ?_);show wpAny _ _ (standAt iter.pos >>= _) _ _ s;exact wpAny_bind (wpAny_standAt (wpAny_bind (hself _ _ (wpAny_pure (And.intro rfl h0))))))
theorem CS.app {F₀:FH} {s₀:Shared} {acc:Addr} {Lc:LA} {bl:BL} {ys zs:List AV} (h:CS C A hp F₀ s₀ acc Lc bl ys F s) {h':Heap} {t:Nat} (a:DV F h' acc zs) (k:∀b o,b≠acc→s.heap.get? b=some o→h'.get? b=some o):CS C A hp F₀ s₀ acc Lc bl zs F ⟨h',s.gens,s.drawn,t,s.os⟩:=
 ⟨h.st.mod (X:=(·=acc)) (fun b hb=>by subst hb;exact ⟨h.na,h.oa⟩) k,a,h.fr.keep (AG.refl F) fun a x o=>k _ o (fun q=>h.ne (by rw [←q];exact x)),h.oa,h.oL,h.na,h.nL,h.ne⟩
theorem J7 {scope:Scope} {loc:PL} {F₀:FH} {s₀:Shared} {acc:Addr} {Lc:LA} {bl:BL} {elt:Expr} {v:AV} (c:Dv C A hp F₀ s₀ env loc) (cs:AW env scope) (hk:Qr env scope Lc bl)
  (h:PE C A hp (AF env scope Lc) (J0 scope loc bl) elt (v,false)):Os C A hp F₀ s₀ acc Lc bl (Kn elt (.ref acc) (AF env scope Lc)) [v]:=by
 intro F s ys k R hcs hlen hgo
 refine wpAny_bind (wpAny_bind (h.use (hcs.ctx c cs hk) fun F₁ s₁ vv st c₁ r=>wpAny_bind ?_))
 have hcs₁:=hcs.step st
 refine xa2_2 hcs₁.ac ?_;intro ws n hl hv
 refine call_meets PySem.F.slot_list_append ⟨_,hl,rfl⟩ PySem.F.entry_list_append (PySem.F.args_list_append_2 _ _) (PySem.list_append acc ws.toArray n vv (by rw [List.size_toArray,hv.length,sizeLine_eq];simp at hlen;with_reducible exact BX ‹_› (by decide))) ⟨hl,wpAny_pure ?_⟩
 have hl2:IsL s₁.heap acc ws.toArray n:=hl
 have hl':=hl2.update (fun x=>x.push vv)
 rw [List.push_toArray] at hl'
 have kk:=SameBut.rest (Heap.SameBut.update s₁.heap acc (Obj.mapSeq fun x=>x.push vv))
 have hcs2:=hcs₁.app (t:=s₁.toks) ⟨_,_,hl',hv.append (.cons r.out .nil)⟩ kk
 exact hgo F₁ _ hcs2 ((st.kept _).mod hcs2.st.w' fun b o o' hb zu e=>kk b o' (fun q=>hb (.inl q)) e)
theorem Li {elt:Expr} {gens gs:List Comprehension} {scope:Scope} {pos:Pos} {target iter:Expr} {ifs:List Expr} {rest:Addr→Env→Sem Fin→Sem Fin} (hgens:gens=⟨target,iter,ifs,0⟩::gs)
  (teq:∀it acc cenv,J5 (.ListComp elt gens scope pos) 0 (.ref it) (.ref acc) cenv target iter ifs (rest acc cenv)) (cs:AW env scope) {loc:PL} {α:Type} {l:List α} {g:α→AV} (hi:PI C A hp env loc target iter (l.map g)) (em:α→List AV) (c:Dv C A hp F s env loc)
  (turn:∀acc L,∀a∈l,Pe C A hp env scope loc F s acc (L,md scope) target ifs (rest acc (AF env scope (L,md scope))) [] (g a) (em a)) (hz:(l.flatMap em).length≤100000) {use:Option (Value→Sem Unit)} {Q:Value→Shared→Prop}
  (hQ:∀F' s' acc Lc,CS C A hp F s acc Lc [] (l.flatMap em) F' s'→compPost (model C.prog C.w) A E use Q (.ref acc) Lc.1 (.ok .next) s')
  (hs:autoParam (∀x,foldedSetIterable iter env x=pure x) AC.aux4._auto_1) :
  wpAny (model C.prog C.w) A (comprehension (.ListComp elt gens scope pos) scope env (firstIterPos gens pos) (newList []) (firstAsync gens) (firstIter gens env) use) Q E s:=by
 subst hgens
 refine wpAny_comprehension_free (use:=use) (g:=⟨target,iter,ifs,0⟩) (gs:=gs) rfl hs (cs.closure fun x hx=>c.cells x hx) cs.kind (fun x hx hl=>?_) ?_
 ·have:=List.all_eq_true.mp cs.lo _ hx
  rw [hl] at this
  simpa using this
 show wpAny _ A (eval iter env) _ _ s
 refine wpAny_mono (hi F s E c) (fun v s₁ z=>wpAny_mono z (fun iv s₂ z=>?_) fun zu zu x=>x) fun zu zu x=>x
 refine cps fun zP zk=>?_;(rcases z with ⟨F₂,I,fp,wr,St,st,rfl,W,h0,hw⟩)<;>(refine zk ?_;clear zk zP)
 refine wpAny_newList ?_
 generalize hacc:s₂.heap.objs.size=acc
 have a0:s₂.heap.get? acc=none:=by rw [←hacc];exact DE _
 refine Jm ?_
 have hL0:(s₂.heap.push { cls:=.type "list",data:=.seq ([]:List Value).toArray }).objs.size=acc+1:=by rw [←hacc,Heap.size_push]
 generalize hh0:s₂.heap.push { cls:=.type "list",data:=.seq ([]:List Value).toArray }=h₀' at hL0 ⊢
 dsimp only
 have kh0:∀b o,s₂.heap.get? b=some o→h₀'.get? b=some o:=fun b o e=>by rw [←hh0];exact Heap.get?_push_of_some _ e
 have hacc':h₀'.get? acc=some { cls:=.type "list",data:=.seq ([]:List Value).toArray }:=by rw [←hh0,←hacc];exact Heap.get?_push_size _ rfl
 rw [hL0]
 generalize hh1:pushCells (h₀'.push { cls:=.type "dict",data:=.dict #[] }) scope.names=h₁
 have k₁:∀b o,h₀'.get? b=some o→h₁.get? b=some o:=fun b o e=>by rw [←hh1];exact pushCells_keeps _ _ _ _ (Heap.get?_push_of_some _ e)
 have k₂:∀b o,s₂.heap.get? b=some o→h₁.get? b=some o:=fun b o e=>k₁ b o (kh0 b o e)
 have dead:∀b,acc<b→s₂.heap.get? b=none:=fun b hb=>by
  cases q:s₂.heap.get? b with
  |none=>rfl
  |some o=>have:=Heap.lt_size q;rw [hacc] at this;exact absurd this (Nat.not_lt.mpr (Nat.le_of_lt hb))
 have dX:∀b,XL (acc+1,md scope) b→acc<b:=fun b hb=>by
  rcases hb with rfl|⟨_,rfl⟩
  ·exact Nat.lt_succ_self _
  ·exact Nat.lt_succ_of_lt (Nat.lt_succ_self _)
 have hns:h₁.Ns (acc+1) (fun _=>none):=by
  rw [←hh1,←hL0]
  exact (Heap.Ns.new h₀' (.type "dict")).keeps (pushCells_keeps _ _)
 have hcl:md scope=true→h₁.IsCell (acc+1+1) none:=fun hm=>by
  refine xa1_2 (List.any_eq_true.mp hm) ?_;intro zq;refine cps fun zP zk=>?_;(rcases zq with ⟨y,kd⟩)<;>(refine zk ?_;clear zk zP);intro hy hk
  have hk:kd=.cell:=by simpa using hk
  subst hk
  have ok:=cellsFrom_ok scope.names (h₀'.push { cls:=.type "dict",data:=.dict #[] }) (acc+1) [] ⟨fun _ _ hm=>(nomatch hm),List.Pairwise.nil⟩ (by rw [Heap.size_push,hL0];exact Nat.le_succ _)
  rw [Heap.size_push,hL0] at ok
  rw [←hh1]
  exact (ok.empty y (acc+1+1) (by rw [cs.one hy];simp)).1
 generalize hs4:(⟨h₁,s₂.gens,s₂.drawn,s₂.toks,s₂.os⟩:Shared)=s₄
 have st4:BH C A hp F₂ s₂ F₂ s₄:=hs4▸BH.keep (t:=s₂.toks) st.w' k₂
 have hcs:CS C A hp F s acc (acc+1,md scope) [] [] F₂ s₄:=by
  refine ⟨st.trans st4,⟨[],0,?_,.nil⟩,⟨_,none,by rw [←hs4];exact hns,fun q=>by rw [←hs4];exact hcl q,fun x a e=>by exact Ak e⟩,(st.w'.dead a0).1,fun b hb=>(st.w'.dead (dead b (dX b hb))).1,st.dead a0,fun b hb=>st.dead (dead b (dX b hb)),fun q=>absurd (dX _ q) (Nat.lt_irrefl _)⟩
  rw [←hs4]
  exact k₁ _ _ hacc'
 have hw':∀b∈wr,s.heap.get? b=none∧s.heap.get? b=none∧¬XP acc (acc+1,md scope) b:=fun b hb=>⟨(hw b hb).1,(hw b hb).1,by
  refine xa1_2 (W.inert _ _ h0 b hb) ?_;intro o ho zu
  rintro (rfl|hx)
  ·rw [a0] at ho;exact Ak ho
  ·rw [dead b (dX b hx)] at ho;exact Ak ho⟩
 have st0:St 0 s₄.heap:=W.frame _ _ _ h0 fun b zu o e=>by rw [←hs4];exact k₂ b o e
 show codeAny _ A (.compStart _ 0 (.ref I) (.ref acc) (AF env scope (acc+1,md scope))) _ _
 refine Jx (d:=0) (target:=target) (iter:=iter) (ifs:=ifs) rfl (fun Q E q=>W.self 0 s₄ Q E st0 q) ?_
 refine Jy (teq _ _ _) W c cs em (turn acc (acc+1)) (ys:=[]) (by simpa using hz) hw' ⟨0,F₂,by simpa using hcs,AG.refl F₂,st0,by simp,fun b hb=>(hw b hb).2,(st.trans st4).kept _⟩ fun F' s' h' kp=>hQ F' s' acc (acc+1,md scope) (by simpa using h')
theorem ME {F₀:FH} {s₀:Shared} {acc:Addr} {Lc:LA} {bl:BL} {ys:List AV} (h:CS C A hp F₀ s₀ acc Lc bl ys F s):compPost (model C.prog C.w) A E none (Cr C A hp F₀ s₀ fun F' v=>BY hp F' (.lst ys,false) v) (.ref acc) Lc.1 (.ok .next) s:=by
 refine xa2_2 h.fr ?_;intro m c hm zu
 refine ⟨m,hm,fun h' hs'=>?_⟩
 have k:=SameBut.rest hs'
 refine xa2_2 h.ac ?_;intro vs n hl hv
 have ha:=k _ _ (fun q=>h.ne (.inl q)) hl
 have st:=(h.st.mod (X:=(·=Lc.1)) (fun b hb=>by subst hb;exact ⟨h.nL _ (.inl rfl),h.oL _ (.inl rfl)⟩) k (t:=s.toks)).add ha h.oa h.na
 exact ⟨_,st,.val (.lst (Ar _ _ _) rfl rfl (hv.mono (AR _ h.oa)))⟩
noncomputable def NQ (C:Cf) (A:Around) (hp:HP) (env:Env) (loc:PL) (elt:Expr) (gens:List Comprehension) (scope:Scope) (pos:Pos) (res:List AV):Prop:=
 ∀F s (E:Value→Shared→Prop) (use:Option (Value→Sem Unit)) (Q:Value→Shared→Prop),Dv C A hp F s env loc→(∀F' s' acc Lc,CS C A hp F s acc Lc [] res F' s'→compPost (model C.prog C.w) A E use Q (.ref acc) Lc.1 (.ok .next) s') →
  wpAny (model C.prog C.w) A (comprehension (.ListComp elt gens scope pos) scope env (firstIterPos gens pos) (newList []) (firstAsync gens) (firstIter gens env) use) Q E s
theorem Ky {loc:PL} {elt:Expr} {gens:List Comprehension} {scope:Scope} {pos:Pos} {res:List AV} (h:NQ C A hp env loc elt gens scope pos res):PE C A hp env loc (.ListComp elt gens scope pos) (.lst res,false):=.mk fun F s E c=>by
 rw [eval_ListComp]
 exact h F s E none _ c fun F' s' acc Lc h=>ME h
theorem PQ {elt target iter:Expr} {ifs:List Expr} {scope:Scope} {pos:Pos} {loc:PL} {α:Type} {l:List α} {g:α→AV} (cs:AW env scope) (hi:PI C A hp env loc target iter (l.map g)) (em:α→List AV)
  (turn:∀F s acc L,Dv C A hp F s env loc→∀a∈l,Pe C A hp env scope loc F s acc (L,md scope) target ifs (Kn elt (.ref acc) (AF env scope (L,md scope))) [] (g a) (em a)) (hz:(l.flatMap em).length≤100000)
  (hs:autoParam (∀x,foldedSetIterable iter env x=pure x) AC.aux4._auto_1):NQ C A hp env loc elt [⟨target,iter,ifs,0⟩] scope pos (l.flatMap em):=by
 intro F s E use Q c hQ
 exact Li (gs:=[]) (rest:=fun acc cenv=>Kn elt (.ref acc) cenv) rfl (fun it acc cenv=>turn1 ..) cs hi em c (fun acc L=>turn F s acc L c) hz hQ hs
end
end
section
section
variable {C:Cf} {A:Around} {hp:HP} {s s':Shared} {env:Env} {F F':FH} {E:Value→Shared→Prop} {loc:PL}
theorem Du {x:Str} {px pos:Pos} {args:List Expr} {f:Value} {pvs:List PV} {Q:Value→Shared→Prop} (hg:GL C x f) (hf:∀h':Heap,(∀b o,C.h0.get? b=some o→h'.get? b=some o)→Ee C h' f) (hv:IM C A hp env loc args pvs) (c:Dv C A hp F s env loc)
  (k:∀F₁ s₁ us,BH C A hp F s F₁ s₁→Dv C A hp F₁ s₁ env loc→DM hp F₁ pvs us→wpAny (model C.prog C.w) A (PySem.call f us) Q E s₁) (hk:autoParam (env.kindOf x=some .globalImplicit) AC.aux0._auto_1)
  (he:autoParam (eval (.Call (.Name x px) args [] pos) env=(do callWith pos (←eval (.Name x px) env) [] (AT env args) [])) AC.aux0._auto_1) (hd:autoParam ((x == ("__debug__" : Str))=false) AC.aux1._auto_1):wpAny (model C.prog C.w) A (eval (.Call (.Name x px) args [] pos) env) Q E s:=by
 rw [he]
 refine wpAny_bind (wpAny_Name ?_ hd)
 rw [EV c.kind hk]
 refine hg env c.glob.1 c.glob.2 A _ E s c.wp.old (Cc (BC (EE env args) rfl (hv.pes.use c fun F₁ s₁ us st c₁ r=>?_)))
 exact wpAny_pure ⟨hf _ c₁.wp.old,k F₁ s₁ us st c₁ r⟩
noncomputable def PK (C:Cf) (A:Around) (hp:HP) (f:Value) (pvs:List PV) (pv:PV):Prop:=
 ∀F s (E:Value→Shared→Prop) us,Wp C A hp F s→DM hp F pvs us→wpAny (model C.prog C.w) A (PySem.call f us) (Cr C A hp F s fun F' v=>BY hp F' pv v) E s
theorem AZ {x:Str} {px pos:Pos} {args:List Expr} {f:Value} {pvs:List PV} {pv:PV} (hg:GL C x f) (hv:IM C A hp env loc args pvs) (h:PK C A hp f pvs pv) (hf:autoParam (∀h':Heap,(∀b o,C.h0.get? b=some o→h'.get? b=some o)→Ee C h' f) AC.aux5._auto_1) (hk:autoParam (env.kindOf x=some .globalImplicit) AC.aux0._auto_1)
  (he:autoParam (eval (.Call (.Name x px) args [] pos) env=(do callWith pos (←eval (.Name x px) env) [] (AT env args) [])) AC.aux0._auto_1) (hd:autoParam ((x == ("__debug__" : Str))=false) AC.aux1._auto_1):PE C A hp env loc (.Call (.Name x px) args [] pos) pv:=.mk fun F s E c=>
 Du hg hf hv c (fun F₁ s₁ us st c₁ r=>wpAny_mono (h F₁ s₁ E us c₁.wp r) (fun zu zu q=>q.pre st) fun zu zu x=>x) hk he hd
theorem BY.lstI {xs:List AV} {b:Bool} {v:Value} (r:BY hp F (.lst xs,b) v) (w:Wp C A hp F s):∃a o vs n,v=.ref a∧s.heap.get? a=some o∧o.cls=.type "list"∧o.data=.seq vs.toArray n∧VRs F xs vs∧(b=false→F a=some o):=by
 cases r with
 |val r=>
  refine xa4_5 r.lstInv ?_;intro a o vs n;rintro rfl;intro h1 h2 h3 h4
  exact ⟨a,o,vs,n,rfl,w.fz _ _ h1,h2,h3,h4,fun zu=>h1⟩
 |own h1=>
  refine cps fun zP zk=>?_;(rcases w.ob _ _ h1 with ⟨zu,o,h2,r⟩)<;>(refine zk ?_;clear zk zP)
  (refine OR.listC r fun zv zv q1 q2 q3 q4 q5=>?_;clear r)
  exact ⟨_,o,_,_,rfl,h2,q1,q4,q5,fun q=>nomatch q⟩
theorem BY.tupI {xs:List AV} {v:Value} (r:BY hp F (.tup xs,false) v) (w:Wp C A hp F s):∃a o vs n,v=.ref a∧s.heap.get? a=some o∧o.cls=.type "tuple"∧o.data=.seq vs.toArray n∧VRs F xs vs∧F a=some o:=by
 refine xa4_5 r.out.tupInv ?_;intro a o vs n;rintro rfl;intro h1 h2 h3 h4
 exact ⟨a,o,vs,n,rfl,w.fz _ _ h1,h2,h3,h4,h1⟩
theorem H9.one {target:Expr} {xs:List AV} {fp:List Addr} {n:Nat} {P:Nat→Value→Prop} {St:Nat→Heap→Prop} {c:String} (w:Wp C A hp F s) (W:Walks C.prog C.w A s.heap.objs.size fp [s.heap.objs.size] n P St) (hn:xs.length=n) (hv:∀i x v,xs[i]? = some x→P i v→VR F x v) (hc:DD.contains c=false)
  (cls:∀i h,St i h→∃o vs,h.get? s.heap.objs.size=some o∧o.cls=.type c∧o.data=.fields vs) {o:Obj} {t:Nat} (hf:o.isFreed=false) (h0:St 0 (s.heap.push o)) (hfp:∀b∈fp,b=s.heap.objs.size∨∃o,F b=some o) :
  H9 C A hp F s target xs (.ref s.heap.objs.size) ⟨s.heap.push o,s.gens,s.drawn,t,s.os⟩:=by
 refine ⟨F,_,fp,_,St,.keep w fun b ob e=>Heap.get?_push_of_some _ e,rfl,Wk.ofWalks W hn hv (fun b hb=>?_) (fun i h st b hb=>?_) c hc (fun i h st=>let ⟨o,vs,h1,h2,_⟩:=cls i h st;⟨o,h1,h2⟩),h0,fun b hb=>?_⟩
 ·rcases hfp b hb with rfl|h1
  ·exact .inl (List.mem_singleton_self _)
  ·exact .inr h1
 ·refine xa2_3 (cls i h st) ?_;intro o vs h1 zu h3
  rw [List.mem_singleton.mp hb]
  exact ⟨o,h1,As h3⟩
 ·rw [List.mem_singleton.mp hb]
  exact ⟨DE _,(w.dead (DE _)).1⟩
inductive J6:PV→List AV→Prop
 |lst {xs b}:J6 (.lst xs,b) xs
 |tup {xs}:J6 (.tup xs,false) xs
 |str {x}:J6 (.str x,false) (B4 x)
inductive PN (F:FH) (h:Heap) (xs:List AV) (q:Bool) (v:Value):Prop
 |lst (a:Addr) (o:Obj) (vs:List Value) (n:Nat) (e:v=.ref a) (h1:h.get? a=some o) (h2:o.cls=.type "list") (h3:o.data=.seq vs.toArray n) (h4:VRs F xs vs) (hq:q=false→F a=some o)
 |tup (a:Addr) (o:Obj) (vs:List Value) (n:Nat) (e:v=.ref a) (h1:h.get? a=some o) (h2:o.cls=.type "tuple") (h3:o.data=.seq vs.toArray n) (h4:VRs F xs vs) (hq:q=false→F a=some o)
 |str (x:Str) (t:Tok) (e:v=.str x t) (ex:xs=B4 x)
theorem J6.at {pv:PV} {xs:List AV} {v:Value} (hs:J6 pv xs) (r:BY hp F pv v) (w:Wp C A hp F s):PN F s.heap xs pv.2 v:=by
 cases hs with
 |lst=>
  refine xa4_6 (r.lstI w) ?_;intro a o vs n;rintro rfl;intro h1 h2 h3 h4 h5
  exact .lst a o vs n rfl h1 h2 h3 h4 h5
 |tup=>
  refine xa4_6 (r.tupI w) ?_;intro a o vs n;rintro rfl;intro h1 h2 h3 h4 h5
  exact .tup a o vs n rfl h1 h2 h3 h4 fun zu=>h5
 |str=>
  refine xa1_1 r.out.strI ?_;intro t;rintro rfl
  exact .str _ t rfl rfl
theorem H9.pre {target:Expr} {xs:List AV} {F₁:FH} {s₁:Shared} {iv:Value} (st:BH C A hp F s F₁ s₁) (z:H9 C A hp F₁ s₁ target xs iv s'):H9 C A hp F s target xs iv s':=by
 refine cps fun zP zk=>?_;(rcases z with ⟨F',I,fp,wr,St,st',e,W,h0,hw⟩)<;>(refine zk ?_;clear zk zP)
 exact ⟨F',I,fp,wr,St,st.trans st',e,W,h0,fun b hb=>⟨st.dead (hw b hb).1,(hw b hb).2⟩⟩
theorem C3 {target iter:Expr} {pv:PV} {xs:List AV} (hA:A.handled=none) (h:PE C A hp env loc iter pv) (hs:J6 pv xs) (hb:autoParam (pv.2=false) AC.aux0._auto_1):PI C A hp env loc target iter xs:=fun F s E c=>by
 refine h.use c fun F₁ s₁ v st₁ c₁ r=>?_
 have ntop:∀{a o},s₁.heap.get? a=some o→a≠s₁.heap.objs.size:=fun e=>Nat.ne_of_lt (Heap.lt_size e)
 cases hs.at r c₁.wp with
 |lst a o vs n e h1 h2 h3 h4 hq=>
  subst e
  refine wpAny_pyIter_list ⟨o,h1,h2,n,h3⟩ ((H9.one c₁.wp (Walks.list hA s₁.heap.objs.size a (ntop h1) vs.toArray) (by rw [List.size_toArray,h4.length]) h4.arr (c:="list_iterator") (by decide) (fun i h st=>?_) rfl ⟨⟨_,Heap.get?_push_size _ rfl,rfl,rfl⟩,⟨o,Heap.get?_push_of_some _ h1,h2,n,h3⟩⟩ fun b hb'=>?_).pre st₁)
  ·refine xa0_2 st ?_;(try clear st);intro zq;refine xa1_3 zq ?_;(try clear zq);intro o q1 q2 q3;intro zu;exact ⟨o,_,q1,q2,q3⟩
  ·rcases List.mem_cons.mp hb' with rfl|hb'
   ·exact .inl rfl
   ·rw [List.mem_singleton.mp hb'];exact .inr ⟨_,hq hb⟩
 |tup a o vs n e h1 h2 h3 h4 hq=>
  subst e
  refine wpAny_pyIter_tuple ⟨o,h1,h2,n,h3⟩ ((H9.one c₁.wp (Walks.tuple hA s₁.heap.objs.size a (ntop h1) vs.toArray) (by rw [List.size_toArray,h4.length]) h4.arr (c:="tuple_iterator") (by decide) (fun i h st=>?_) rfl ⟨⟨_,Heap.get?_push_size _ rfl,rfl,rfl⟩,⟨o,Heap.get?_push_of_some _ h1,h2,n,h3⟩⟩ fun b hb'=>?_).pre st₁)
  ·refine xa0_2 st ?_;(try clear st);intro zq;refine xa1_3 zq ?_;(try clear zq);intro o q1 q2 q3;intro zu;exact ⟨o,_,q1,q2,q3⟩
  ·rcases List.mem_cons.mp hb' with rfl|hb'
   ·exact .inl rfl
   ·rw [List.mem_singleton.mp hb'];exact .inr ⟨_,hq hb⟩
 |str x t e ex=>
  subst e ex
  refine wpAny_pyIter_strU ?_
  have key:∀c,strIterType x=c→DD.contains c=false→Walks C.prog C.w A s₁.heap.objs.size [s₁.heap.objs.size] [s₁.heap.objs.size] x.cps.size (SignAt x) (fun i h=>h.IsStrIter s₁.heap.objs.size c x t i) →
    H9 C A hp F₁ s₁ target (B4 x) (.ref s₁.heap.objs.size) ⟨s₁.heap.push { cls:=.type (strIterType x),data:=.fields #[.str x t,.int 0 0] },s₁.gens,s₁.drawn,s₁.toks,s₁.os⟩:=fun c hc hn W=>by
   refine H9.one c₁.wp W (DH x) (fun i y v hy hP=>?_) hn (fun i h st=>?_) rfl ⟨_,Heap.get?_push_size _ rfl,by rw [hc],rfl⟩ fun b hb=>.inl (List.mem_singleton.mp hb)
   ·refine xa1_2 (EZ hy) ?_;intro c hc;rintro rfl
    refine xa2_2 hP ?_;(try clear hP);intro c' u hc';rintro rfl
    rw [hc] at hc';(have zc:=Option.some.inj hc';clear hc';subst zc)
    exact .str _ _
   ·refine xa1_3 st ?_;(try clear st);intro o q1 q2 q3;exact ⟨o,_,q1,q2,q3⟩
  rcases Dj x with e|e
  ·exact (key _ e (by decide) (Walks.strAscii hA _ x t)).pre st₁
  ·exact (key _ e (by decide) (Walks.strWide hA _ x t)).pre st₁
end
end
section
section
variable {C:Cf} {A:Around} {hp:HP} {s s':Shared} {env:Env} {F F':FH} {E:Value→Shared→Prop} {loc:PL}
noncomputable def C0 (a c:Int) (n:Nat):List AV:=(List.range n).map fun (i:Nat)=>.int (a+(i:Int)*c)
theorem Jd {a c:Int} {n i:Nat} {y:AV} (h:(C0 a c n)[i]? = some y):i<n∧y=.int (a+i*c):=by
 unfold C0 at h
 rw [List.getElem?_map,Option.map_eq_some_iff] at h
 refine xa1_2 h ?_;(try clear h);intro j h1 h2
 refine xa1_1 (List.getElem?_eq_some_iff.mp h1) ?_;intro h3 h4
 simp at h3 h4
 subst h4;exact ⟨h3,h2.symm⟩
theorem Gl {target:Expr} {r:Addr} {a b c:Int} {t u v:Tok} {n:Nat} (hA:A.handled=none) (w:Wp C A hp F s) (hr:s.heap.get? r=some { cls:=.type "range",data:=.fields #[.int a t,.int b u,.int c v] }) (hsm:Builtin.Range.small a b c=true) (hn:Builtin.Range.rangeSize a b c=n) :
  wpAny (model C.prog C.w) A (pyIter (.ref r)) (H9 C A hp F s target (C0 a c n)) E s:=by
 refine wpAny_pyIter_range (t:=t) (u:=u) (v:=v) hr hsm ?_
 rw [hn]
 refine H9.one w (Walks.range hA s.heap.objs.size a c n) (by simp [C0]) (fun i x v hx hP=>?_) (c:="range_iterator") (by decide) (fun i h st=>⟨_,_,st,rfl,rfl⟩) rfl ?_ fun b hb=>.inl (List.mem_singleton.mp hb)
 ·refine xa0_2 (Jd hx) ?_;intro zu;rintro rfl
  refine xa1_1 hP ?_;(try clear hP);intro t;rintro rfl
  exact .int _ _
 ·have e1:a+((0:Nat):Int)*c=a:=by simp
  have e2:(n:Int) - ((0:Nat):Int)=n:=by simp
  show IsRangeIter _ _ _ _ _
  rw [e1,e2]
  exact Heap.get?_push_size _ rfl
theorem DM.inv {x:PV} {xs:List PV} {vs:List Value} (r:DM hp F (x::xs) vs):∃v us,vs=v::us∧BY hp F x v∧DM hp F xs us:=by
 cases r with
 |cons a b=>exact ⟨_,_,rfl,a,b⟩
theorem DM.nilI {vs:List Value} (r:DM hp F [] vs):vs=[]:=by cases (r);rfl
theorem Lv {target:Expr} {x:Str} {px pos:Pos} {args:List Expr} {b:Int} {n:Nat} (hA:A.handled=none) (hg:GL C x (.type "range")) (hv:IM C A hp env loc args [(.int b,false)]) (hsm:Builtin.Range.small 0 b 1=true) (hn:Builtin.Range.rangeSize 0 b 1=n) (hk:autoParam (env.kindOf x=some .globalImplicit) AC.aux0._auto_1)
  (he:autoParam (eval (.Call (.Name x px) args [] pos) env=(do callWith pos (←eval (.Name x px) env) [] (AT env args) [])) AC.aux0._auto_1) (hd:autoParam ((x == ("__debug__" : Str))=false) AC.aux1._auto_1):PI C A hp env loc target (.Call (.Name x px) args [] pos) (C0 0 1 n):=fun F s E c=>
 Du hg (fun zu zu=>KeepOk_plain (by intro a;simp)) hv c (fun F₁ s₁ us st c₁ r=>by
  refine xa2_3 r.inv ?_;intro v us;rintro rfl;intro r1 r
  obtain rfl:=r.nilI
  refine xa1_1 r1.out.intI ?_;intro t;rintro rfl
  refine call_range_1 (wpAny_mono (Gl (F:=F₁) hA (BH.keep c₁.wp fun zu zu e=>Heap.get?_push_of_some _ e).w' (Heap.get?_push_size _ rfl) hsm hn) (fun zu zu q=>(q.pre (.keep c₁.wp fun zu zu e=>Heap.get?_push_of_some _ e)).pre st) fun zu zu x=>x)) hk he hd
theorem Lu {target:Expr} {x:Str} {px pos:Pos} {args:List Expr} {a b:Int} {n:Nat} (hA:A.handled=none) (hg:GL C x (.type "range")) (hv:IM C A hp env loc args [(.int a,false),(.int b,false)]) (hsm:Builtin.Range.small a b 1=true) (hn:Builtin.Range.rangeSize a b 1=n) (hk:autoParam (env.kindOf x=some .globalImplicit) AC.aux0._auto_1)
  (he:autoParam (eval (.Call (.Name x px) args [] pos) env=(do callWith pos (←eval (.Name x px) env) [] (AT env args) [])) AC.aux0._auto_1) (hd:autoParam ((x == ("__debug__" : Str))=false) AC.aux1._auto_1):PI C A hp env loc target (.Call (.Name x px) args [] pos) (C0 a 1 n):=fun F s E c=>
 Du hg (fun zu zu=>KeepOk_plain (by intro a;simp)) hv c (fun F₁ s₁ us st c₁ r=>by
  refine xa2_3 r.inv ?_;intro v us;rintro rfl;intro r1 r
  refine xa2_3 r.inv ?_;intro v2 us;rintro rfl;intro r2 r
  obtain rfl:=r.nilI
  refine xa1_1 r1.out.intI ?_;intro t;rintro rfl
  refine xa1_1 r2.out.intI ?_;intro t2;rintro rfl
  refine call_range_2 (wpAny_mono (Gl (F:=F₁) hA (BH.keep c₁.wp fun zu zu e=>Heap.get?_push_of_some _ e).w' (Heap.get?_push_size _ rfl) hsm hn) (fun zu zu q=>(q.pre (.keep c₁.wp fun zu zu e=>Heap.get?_push_of_some _ e)).pre st) fun zu zu x=>x)) hk he hd
end
end
section
section
variable {prog:Program} {w:World} {A:Around} {E:Value→Shared→Prop} {s:Shared}
theorem Ew {it l:Addr} {i:Nat} {items} {x:Value} {Q:Value→Shared→Prop} (hit:s.heap.IsTupleIter it l i)
  (hl:s.heap.IsTuple l items) (hx:items[i]? = some x)
  (hQ:∀h',h'.IsTupleIter it l (i+1)→Heap.SameBut it s.heap h'→Q x { s with heap:=h' }) :
  wpAny (model prog w) A (Builtin.SmallTypes.nextOf (.ref it)) Q E s:=by
 refine xa1_3 (id hit) ?_;intro o ho hc hd
 refine cps fun zP zk=>?_;(rcases hl with ⟨ol,hol,zu,nl,hdl⟩)<;>(refine zk ?_;clear zk zP)
 unfold Builtin.SmallTypes.nextOf
 refine wpAny_bind (wpAny_callSpecial?_slot (name:=Str.ofString "__next__") hit.typeIs F.slot_tuple_iterator_next
  (wpAny_call_entry F.slot_tuple_iterator_next hit.typeIs F.entry_tuple_iterator_next ?_ (F.args_tuple_iterator_next_1 _)))
 show wpAny _ _ (field (.ref it) 0 >>= _) _ _ s
 refine wpAny_bind (wpAny_field ho hd (x:=.ref l) rfl ?_)
 show wpAny _ _ (if (Value.ref l == Value.none)=true then _ else _) _ _ s
 rw [if_neg (show ¬((Value.ref l == Value.none)=true) from Bool.false_ne_true)]
 show wpAny _ _ (field (.ref it) 1 >>= _) _ _ s
 refine wpAny_bind (wpAny_field ho hd (x:=.int i 0) rfl ?_)
 show wpAny _ _ (seqItems? (.ref l) >>= _) _ _ s
 refine wpAny_bind (wpAny_seqItems hol hdl ?_)
 simp only [Int.toNat_natCast,hx]
 refine wpAny_bind (wpAny_setField ho hd (by simp) (wpAny_pure ⟨x,rfl,wpAny_pure (hQ _ ?_ (Heap.SameBut.update ..))⟩))
 exact ⟨_,Heap.get?_update_self _ ho (Obj.isFreed_of_fields (Obj.data_mapFields hd _)),(Obj.cls_mapFields ..).trans hc,by
  rw [Obj.data_mapFields hd];simp [rawInt]⟩
theorem En {M:Model} {A:Around} {E:Value→Shared→Prop} {s:Shared} {Q:Value→Shared→Prop} (h:∀(h':Heap) (e:Addr),(∀b o,s.heap.get? b=some o→h'.get? b=some o)→s.heap.get? e=none →
  (∃oe vs,h'.get? e=some oe∧oe.cls=.type "StopIteration"∧oe.data=.fields vs∧vs[1]? = some .none)→Q (.ref e) { s with heap:=h' }):wpAny M A (newExc (.type "StopIteration") []) Q E s:=by
 unfold newExc newTuple
 refine wpAny_bind (wpAny_newObj_type ?_ (by size_fits))
 refine wpAny_bind (m:=firstArgMember _ _) (wpAny_of_eq (a:=Value.none) (by first|rfl|(simp only [firstArgMember];rfl)) ?_)
 refine wpAny_newObj_type (h _ _ (fun b o hb=>Heap.get?_push_of_some _ (Heap.get?_push_of_some _ hb)) (Heap.get?_none_of_le ?_) ⟨_,_,Heap.get?_push_size _ rfl,rfl,rfl,rfl⟩) (by size_fits)
 rw [Heap.size_push];exact Nat.le_succ _
theorem ET {it l:Addr} {i:Nat} {items} {Q:Value→Shared→Prop} (hh:A.handled=none)
  (hit:s.heap.IsTupleIter it l i) (hl:s.heap.IsTuple l items) (hx:items[i]? = none)
  (hE:∀h' e,Heap.ExtBut it s.heap h'→(∃o,h'.get? e=some o∧o.cls=.type "StopIteration")→E (.ref e) { s with heap:=h' }) :
  wpAny (model prog w) A (Builtin.SmallTypes.nextOf (.ref it)) Q E s:=by
 refine xa1_3 (id hit) ?_;intro o ho hc hd
 refine cps fun zP zk=>?_;(rcases hl with ⟨ol,hol,zu,nl,hdl⟩)<;>(refine zk ?_;clear zk zP)
 unfold Builtin.SmallTypes.nextOf
 refine wpAny_bind (wpAny_callSpecial?_slot (name:=Str.ofString "__next__") hit.typeIs F.slot_tuple_iterator_next
  (wpAny_call_entry F.slot_tuple_iterator_next hit.typeIs F.entry_tuple_iterator_next ?_ (F.args_tuple_iterator_next_1 _)))
 show wpAny _ _ (field (.ref it) 0 >>= _) _ _ s
 refine wpAny_bind (wpAny_field ho hd (x:=.ref l) rfl ?_)
 show wpAny _ _ (if (Value.ref l == Value.none)=true then _ else _) _ _ s
 rw [if_neg (show ¬((Value.ref l == Value.none)=true) from Bool.false_ne_true)]
 show wpAny _ _ (field (.ref it) 1 >>= _) _ _ s
 refine wpAny_bind (wpAny_field ho hd (x:=.int i 0) rfl ?_)
 show wpAny _ _ (seqItems? (.ref l) >>= _) _ _ s
 refine wpAny_bind (wpAny_seqItems hol hdl ?_)
 simp only [Int.toNat_natCast,hx]
 refine wpAny_bind (wpAny_rule (wpAny_bind (wpAny_setField ho hd (by simp) ?_)))
 show wpAny _ _ (newExc (.type "StopIteration") [] >>= _) _ _ _
 refine wpAny_bind (En fun h' e k _ ⟨oe,vs,q,c,_⟩=>wpAny_raiseNew_none hh (hE _ _ (fun b o hb g=>k b o ((Heap.SameBut.update ..).extBut b o hb g)) ⟨oe,q,c⟩))
theorem Fu (hh:A.handled=none) (it l:Addr) (hne:l≠it) (items:Array Value) :
  Draws prog w A it [it,l] items.size (fun i v=>items[i]? = some v) (fun i h=>h.IsTupleIter it l i∧h.IsTuple l items) where
 live:=fun zu zu st=>let ⟨o,ho,_⟩:=st.1;⟨o,ho⟩
 frame:=fun zu zu zu st hk=>⟨let ⟨o,ho,r⟩:=st.1;⟨o,hk it (by simp) o ho,r⟩,let ⟨o,ho,r⟩:=st.2;⟨o,hk l (by simp) o ho,r⟩⟩
 item:=fun i s Q E hi st hQ=>by
  refine Ew st.1 st.2 (x:=items[i]) (by simp [hi]) fun h' hit' hs'=>?_
  exact hQ _ h' s.toks (by simp [hi]) ⟨hit',st.2.extBut hs'.extBut hne⟩ hs'
 done:=fun s Q E st hE=>ET hh st.1 st.2 (by simp) hE
theorem LL {M:Model} {A:Around} {Q:Bool→Shared→Prop} {E:Value→Shared→Prop} {s:Shared} {b:Bool} (h:∀b,Q b s):wpAny M A (pure b) Q E s:=wpAny_pure (h b)
theorem Ig (l:Addr) (items:Array Value) (n:Nat) (c:Value) (dct:Option Addr) (sl:Array (Option Value)) (hc:c=.type "tuple") :
  Meets (Builtin.«enumerate.__new__» ⟨[.type "enumerate",.ref l],[]⟩) (fun zu R s=>s.heap.get? l=some { cls:=c,dict:=dct,data:=.seq items n,slots:=sl } ∧
   R (.ok (.ret (.ref (s.heap.push { cls:=.type "tuple_iterator",data:=.fields #[.ref l,.int 0 0] }).objs.size)))
    { s with heap:=(s.heap.push { cls:=.type "tuple_iterator",data:=.fields #[.ref l,.int 0 0] }).push { cls:=.type "enumerate",data:=.fields #[.none,.bool false,.ref s.heap.objs.size,rawInt 0,.none,.none] } }):=
 .of_wp fun prog w A R s h=>by
  subst hc
  refine cps fun zP zk=>?_;(rcases s with ⟨hp,g,d,tk,os⟩)<;>(refine zk ?_;clear zk zP);refine xa0_2 h ?_;(try clear h);intro hl h
  have hsub:=sub_enumerate
  have hL:Heap.IsTuple (Shared.heap ⟨hp,g,d,tk,os⟩) l items:=⟨_,hl,rfl,n,rfl⟩
  wp_walk using AutoSeq1.wpAny_loadPart' hl
  refine wpAny_stack_any fun st=>LL fun b=>?_
  cases b
  ·wp_walk using AutoSeq1.wpAny_loadPart' hl,wpAny_pyIter_tuple hL
   exact ⟨_,rfl,h⟩
  ·wp_walk using AutoSeq1.wpAny_loadPart' hl,wpAny_pyIter_tuple hL
   exact ⟨_,rfl,h⟩
theorem Dc {l:Addr} {items:Array Value} {Q:Value→Shared→Prop} (hL:s.heap.IsTuple l items)
  (h:∀h',IsEnum h' (s.heap.objs.size+1) s.heap.objs.size 0 .none→h'.IsTupleIter s.heap.objs.size l 0→h'.objs.size=s.heap.objs.size+2 →
   (∀b o,s.heap.get? b=some o→h'.get? b=some o)→Q (.ref (s.heap.objs.size+1)) { s with heap:=h' }) :
  wpAny (model prog w) A (call (.type "enumerate") [.ref l]) Q E s:=by
 refine cps fun zP zk=>?_;(rcases hL with ⟨⟨c,dct,dt,sl⟩,hl,hc,n,hd⟩)<;>(refine zk ?_;clear zk zP)
 replace hc:c=.type "tuple":=hc
 replace hd:dt=.seq items n:=hd
 subst hd
 refine callType_new F.called_enumerate (by decide) (F.typeCall_enumerate_1 _) (F.newCall_enumerate_1 _) (fun obj=>F.args_object_init_2 obj _) F.entry_enumerate_new
  (Ig l items n c dct sl hc) ⟨hl,?_⟩
 have hz:(s.heap.push { cls:=.type "tuple_iterator",data:=.fields #[.ref l,.int 0 0] }).objs.size=s.heap.objs.size+1:=Heap.size_push ..
 show _∧_
 rw [hz]
 have he:IsEnum ((s.heap.push { cls:=.type "tuple_iterator",data:=.fields #[.ref l,.int 0 0] }).push
   { cls:=.type "enumerate",data:=.fields #[.none,.bool false,.ref s.heap.objs.size,rawInt 0,.none,.none] }) (s.heap.objs.size+1) s.heap.objs.size 0 .none:=by
  have:=Heap.get?_push_size (s.heap.push { cls:=.type "tuple_iterator",data:=.fields #[.ref l,.int 0 0] })
   (o:={ cls:=.type "enumerate",data:=.fields #[.none,.bool false,.ref s.heap.objs.size,rawInt 0,.none,.none] }) rfl
  rw [hz] at this;exact this
 refine ⟨⟨_,he,rfl⟩,h _ he ⟨_,Heap.get?_push_of_some _ (Heap.get?_push_size _ rfl),rfl,rfl⟩ (by rw [Heap.size_push,hz]) fun b o x=>Heap.get?_push_of_some _ (Heap.get?_push_of_some _ x)⟩
end
end
section
section
variable {C:Cf} {A:Around} {hp:HP} {s s':Shared} {env:Env} {F F':FH} {E:Value→Shared→Prop} {loc:PL}
noncomputable def Ft (xs:List AV):List AV:=xs.zipIdx.map fun p=>.tup [.int (p.2:Nat),p.1]
theorem Lb {α:Type} (l:List α) (g:α→AV):Ft (l.map g)=l.zipIdx.map fun p=>.tup [.int (p.2:Nat),g p.1]:=by
 unfold Ft
 rw [List.zipIdx_map,List.map_map]
 rfl
theorem Ld {xs:List AV} {i:Nat} {x:AV} (h:(Ft xs)[i]? = some x):∃y,xs[i]? = some y∧x=.tup [.int (i:Nat),y]:=by
 unfold Ft at h
 rw [List.getElem?_map,List.getElem?_zipIdx,Option.map_map,Option.map_eq_some_iff] at h
 refine xa1_2 h ?_;(try clear h);intro y h1 h2
 exact ⟨y,h1,by rw [←h2];simp⟩
theorem H9.enum {elts:List Expr} {tn:Nat} {tpos:Pos} {xs:List AV} {it e:Addr} {fp:List Addr} {n:Nat} {P:Nat→Value→Prop} {St:Nat→Heap→Prop} (w:Wp C A hp F s) (D:Draws C.prog C.w A.in1 it fp n P St) (hei:e≠it) (hef:e∉fp) (hif:it∈fp) (hn:xs.length=n) (hv:∀i x v,xs[i]? = some x→P i v→VR F x v)
  (inert:∀i h,St i h→∃o,h.get? it=some o∧Dz o) {h':Heap} {t:Nat} {old:Value} (he:IsEnum h' e it 0 old) (h0:St 0 h') (hfp:∀b∈fp,b=it∨∃o,F b=some o) (hne:s.heap.get? e=none) (hni:s.heap.get? it=none) (k:∀b o,s.heap.get? b=some o→h'.get? b=some o) :
  H9 C A hp F s (.Tuple elts tn tpos) (Ft xs) (.ref e) ⟨h',s.gens,s.drawn,t,s.os⟩:=by
 refine ⟨F,e,e::fp,[e,it],_,.keep w k,rfl,Wk.ofWalksT (WalksT.enumerateD D e hei hef hif) (by simp [Ft,hn]) (fun i x vals hx hP=>?_) (fun b hb=>?_) (fun i h st b hb=>?_),⟨⟨old,he⟩,h0⟩,fun b hb=>?_⟩
 ·refine xa1_2 (Ld hx) ?_;intro y h1;rintro rfl
  refine xa2_2 hP ?_;(try clear hP);intro t v h2;rintro rfl
  exact ⟨_,rfl,.cons (.int _ _) (.cons (hv _ _ _ h1 h2) .nil)⟩
 ·rcases List.mem_cons.mp hb with rfl|hb
  ·exact .inl (List.mem_cons_self ..)
  ·rcases hfp b hb with rfl|h1
   ·exact .inl (by simp)
   ·exact .inr h1
 ·refine xa0_2 st ?_;(try clear st);intro zq;refine xa1_1 zq ?_;(try clear zq);intro old h1;intro h2
  rcases List.mem_cons.mp hb with rfl|hb
  ·exact ⟨_,h1,As rfl⟩
  ·rw [List.mem_singleton.mp hb];exact inert i h h2
 ·rcases List.mem_cons.mp hb with rfl|hb
  ·exact ⟨hne,(w.dead hne).1⟩
  ·rw [List.mem_singleton.mp hb];exact ⟨hni,(w.dead hni).1⟩
theorem NM {elts:List Expr} {tn:Nat} {tpos:Pos} {x:Str} {px pos:Pos} {args:List Expr} {pv:PV} {xs:List AV} (hA:A.handled=none) (hg:GL C x (.type "enumerate")) (hv:IM C A hp env loc args [pv]) (hs:J6 pv xs) (hb:autoParam (pv.2=false) AC.aux0._auto_1) (hk:autoParam (env.kindOf x=some .globalImplicit) AC.aux0._auto_1)
  (he:autoParam (eval (.Call (.Name x px) args [] pos) env=(do callWith pos (←eval (.Name x px) env) [] (AT env args) [])) AC.aux0._auto_1) (hd:autoParam ((x == ("__debug__" : Str))=false) AC.aux1._auto_1):PI C A hp env loc (.Tuple elts tn tpos) (.Call (.Name x px) args [] pos) (Ft xs):=fun F s E c=>
 Du hg (fun zu zu=>KeepOk_plain (by intro a;simp)) hv c (fun F₁ s₁ us st c₁ r=>by
  refine xa2_3 r.inv ?_;intro v us;rintro rfl;intro r1 r
  obtain rfl:=r.nilI
  have n0:=DE s₁.heap
  have n1:s₁.heap.get? (s₁.heap.objs.size+1)=none:=by
   cases q:s₁.heap.get? (s₁.heap.objs.size+1) with
   |none=>rfl
   |some o=>exact absurd (Heap.lt_size q) (Nat.not_lt.mpr (Nat.le_succ _))
  have lt:∀{a o},s₁.heap.get? a=some o→a<s₁.heap.objs.size:=fun e=>Heap.lt_size e
  cases hs.at r1 c₁.wp with
  |lst a o vs n e h1 h2 h3 h4 hq=>
   subst e
   have la:=lt h1
   refine call_enumerate_list ⟨o,h1,h2,n,h3⟩ fun h' hE hit zu k=>wpAny_pyIter_enum hE ((H9.enum (t:=s₁.toks) c₁.wp (Draws.list (A:=A.in1) hA s₁.heap.objs.size a (Nat.ne_of_lt la) vs.toArray) (Nat.succ_ne_self _) (fun hb'=>?_) (List.mem_cons_self ..) (by rw [List.size_toArray,h4.length]) h4.arr (fun i h st=>?_) hE ⟨hit,⟨o,k _ _ h1,h2,n,h3⟩⟩ (fun b hb'=>?_) n1 n0 k).pre st)
   ·rcases List.mem_cons.mp hb' with q|hb'
    ·exact Nat.succ_ne_self _ q
    ·rw [←List.mem_singleton.mp hb'] at la;exact absurd la (Nat.not_lt.mpr (Nat.le_succ _))
   ·refine xa0_2 st ?_;(try clear st);intro zq;refine xa1_3 zq ?_;(try clear zq);intro o q1 q2 q3;intro zu;exact ⟨o,q1,As q3⟩
   ·rcases List.mem_cons.mp hb' with rfl|hb'
    ·exact .inl rfl
    ·rw [List.mem_singleton.mp hb'];exact .inr ⟨_,hq hb⟩
  |tup a o vs n e h1 h2 h3 h4 hq=>
   subst e
   have la:=lt h1
   refine Dc ⟨o,h1,h2,n,h3⟩ fun h' hE hit zu k=>wpAny_pyIter_enum hE ((H9.enum (t:=s₁.toks) c₁.wp (Fu (A:=A.in1) hA s₁.heap.objs.size a (Nat.ne_of_lt la) vs.toArray) (Nat.succ_ne_self _) (fun hb'=>?_) (List.mem_cons_self ..) (by rw [List.size_toArray,h4.length]) h4.arr (fun i h st=>?_) hE ⟨hit,⟨o,k _ _ h1,h2,n,h3⟩⟩ (fun b hb'=>?_) n1 n0 k).pre st)
   ·rcases List.mem_cons.mp hb' with q|hb'
    ·exact Nat.succ_ne_self _ q
    ·rw [←List.mem_singleton.mp hb'] at la;exact absurd la (Nat.not_lt.mpr (Nat.le_succ _))
   ·refine xa0_2 st ?_;(try clear st);intro zq;refine xa1_3 zq ?_;(try clear zq);intro o q1 q2 q3;intro zu;exact ⟨o,q1,As q3⟩
   ·rcases List.mem_cons.mp hb' with rfl|hb'
    ·exact .inl rfl
    ·rw [List.mem_singleton.mp hb'];exact .inr ⟨_,hq hb⟩
  |str y t e ex=>
   subst e ex
   have hD:Draws C.prog C.w A.in1 s₁.heap.objs.size [s₁.heap.objs.size] y.cps.size (fun i v=>∃c u,y.cps[i]? = some c∧v=.str ⟨#[c]⟩ u) (fun i h=>h.IsStrIter s₁.heap.objs.size (strIterType y) y t i):=by
    rcases Dj y with e|e<;>rw [e]
    ·exact Draws.strAscii (A:=A.in1) hA _ y t
    ·exact Draws.strWide (A:=A.in1) hA _ y t
   refine call_enumerate_str fun h' hE hit zu k=>wpAny_pyIter_enum hE ((H9.enum (t:=s₁.toks) c₁.wp hD (Nat.succ_ne_self _) (fun hb'=>?_) (List.mem_cons_self ..) (DH y) (fun i x v hx hP=>?_) (fun i h st=>?_) hE hit (fun b hb=>.inl (List.mem_singleton.mp hb)) n1 n0 k).pre st)
   ·exact Nat.succ_ne_self _ (List.mem_singleton.mp hb')
   ·refine xa1_2 (EZ hx) ?_;intro c hc;rintro rfl
    refine xa2_2 hP ?_;(try clear hP);intro c' u hc';rintro rfl
    rw [hc] at hc';(have zc:=Option.some.inj hc';clear hc';subst zc)
    exact .str _ _
   ·refine xa1_3 st ?_;(try clear st);intro o q1 q2 q3;exact ⟨o,q1,As q3⟩) hk he hd
end
end
section
section
variable {C:Cf} {A:Around} {hp:HP} {s s':Shared} {env:Env} {F F':FH} {E:Value→Shared→Prop} {loc:PL}
noncomputable abbrev QI (C:Cf) (A:Around) (hp:HP) (cenv:Env) (l:PL) (ifs:List Expr) (ok:Bool):Prop:=PT C A hp cenv l (fun zu b b'=>b=b') (Hi ifs cenv) ok
theorem Kv {cenv:Env} {l:PL}:QI C A hp cenv l [] true:=.mk fun F s E c=>wpAny_tests_nil (Cr.here (t:=s.toks) c.wp rfl)
theorem J3 {cenv:Env} {x:Str} {v:AV} {bl:BL} (hk:cenv.kindOf x=some .local) (h:∀y a,bl.lookup y=some a→cenv.kindOf y=some .local):∀y a,((x,v)::bl).lookup y=some a→cenv.kindOf y=some .local:=fun y a e=>by
 simp only [List.lookup] at e
 split at e
 ·rename_i q;rw [beq_iff_eq.mp q];exact hk
 ·exact h y a e
theorem Jo {x:Str} {v:AV} {bl:BL} (h:bl.lookup x=none):Ou bl ((x,v)::bl):=fun y a e=>by
 simp only [List.lookup]
 split
 ·rename_i q;rw [beq_iff_eq.mp q,h] at e;exact Ak e
 ·exact e
theorem Ou.trans {a b c:BL} (h:Ou a b) (k:Ou b c):Ou a c:=fun y v e=>k y v (h y v e)
theorem MK {cenv:Env}:∀y a,([]:BL).lookup y=some a→cenv.kindOf y=some .local:=fun y a e=>by exact Ak e
inductive HF (A:Around) (cenv:Env):Expr→AV→BL→BL→Prop
 |name {x px v bl} (hk:cenv.kindOf x=some .local) (hn:bl.lookup x=none):HF A cenv (.Name x px) v bl ((x,v)::bl)
 |pair {x y p1 p2 tn pos a b bl} (hA:A.handled=none) (hx:cenv.kindOf x=some .local) (hy:cenv.kindOf y=some .local) (hn:bl.lookup x=none) (hn2:((x,a)::bl).lookup y=none):HF A cenv (.Tuple [.Name x p1,.Name y p2] tn pos) (.tup [a,b]) bl ((y,b)::(x,a)::bl)
theorem HF.asg {cenv:Env} {target:Expr} {v:AV} {bl bl':BL} (h:HF A cenv target v bl bl') {Lc:LA} (hf:cenv.scope.kind=.function) (hL:cenv.locals=Lc.1) (h2:Lc.2=false):NS C A cenv Lc target v bl bl':=by
 cases h with
 |name hk hn=>exact Lx hf hL h2 hk
 |pair hA hx hy hn hn2=>exact Lw hA hf hL h2 hx hy
theorem HF.le {cenv:Env} {target:Expr} {v:AV} {bl bl':BL} (h:HF A cenv target v bl bl'):Ou bl bl':=by
 cases h with
 |name hk hn=>exact Jo hn
 |pair hA hx hy hn hn2=>exact (Jo hn).trans (Jo hn2)
theorem HF.ok {cenv:Env} {target:Expr} {v:AV} {bl bl':BL} (h:HF A cenv target v bl bl') (k:∀y a,bl.lookup y=some a→cenv.kindOf y=some .local):∀y a,bl'.lookup y=some a→cenv.kindOf y=some .local:=by
 cases h with
 |name hk hn=>exact J3 hk k
 |pair hA hx hy hn hn2=>exact J3 hy (J3 hx k)
theorem QH {scope:Scope} {Lc:LA} {bl:BL} (h2:Lc.2=false) (h:∀y a,bl.lookup y=some a→(AF env scope Lc).kindOf y=some .local):Qr env scope Lc bl:=fun x a q=>.inl ⟨h2,h x a q⟩
theorem IG {elt target iter:Expr} {ifs:List Expr} {scope:Scope} {pos:Pos} {α:Type} (l:List α) (g f:α→AV) (p:α→Bool) (B:α→BL) (hi:PI C A hp env loc target iter (l.map g)) (hz:l.length≤100000)
  (hb:∀Lc a,a∈l→HF A (AF env scope Lc) target (g a) [] (B a)) (ht:∀Lc a,a∈l→QI C A hp (AF env scope Lc) (J0 scope loc (B a)) ifs (p a)) (h:∀Lc a,a∈l→p a=true→PE C A hp (AF env scope Lc) (J0 scope loc (B a)) elt (f a,false))
  (cs:autoParam (AW env scope) AC.aux6._auto_1) (hs:autoParam (∀x,foldedSetIterable iter env x=pure x) AC.aux4._auto_1) (hmd:autoParam (md scope=false) AC.aux0._auto_1):NQ C A hp env loc elt [⟨target,iter,ifs,0⟩] scope pos ((l.filter p).map f):=by
 have e:∀l:List α,(l.filter p).map f=l.flatMap fun a=>if p a=true then [f a] else []:=fun l=>by
  induction l with
  |nil=>rfl
  |cons a l ih=>rw [List.flatMap_cons,List.filter_cons,←ih];split<;>rfl
 have hz':(l.flatMap fun a=>if p a=true then [f a] else []).length≤100000:=by
  rw [←e,List.length_map];exact Nat.le_trans (List.length_filter_le _ _) hz
 rw [e]
 exact PQ cs hi _ (fun F s acc L c a ha=>⟨B a,p a,(hb (L,md scope) a ha).asg cs.kind rfl hmd,(hb (L,md scope) a ha).le,QH hmd ((hb (L,md scope) a ha).ok MK),ht _ a ha,fun z=>by
  rw [if_pos z];exact J7 c cs (QH hmd ((hb (L,md scope) a ha).ok MK)) (h _ a ha z),fun z=>by rw [z];rfl⟩) hz' hs
theorem FM {elt iter:Expr} {scope:Scope} {pos px:Pos} {x:Str} {α:Type} (l:List α) (g f:α→AV) (hi:PI C A hp env loc (.Name x px) iter (l.map g)) (hz:l.length≤100000)
  (h:∀Lc a,a∈l→PE C A hp (AF env scope Lc) (J0 scope loc [(x,g a)]) elt (f a,false)) (hk:autoParam (∀Lc,(AF env scope Lc).kindOf x=some .local) AC.aux4._auto_1)
  (cs:autoParam (AW env scope) AC.aux6._auto_1) (hs:autoParam (∀x,foldedSetIterable iter env x=pure x) AC.aux4._auto_1) (hmd:autoParam (md scope=false) AC.aux0._auto_1):NQ C A hp env loc elt [⟨.Name x px,iter,[],0⟩] scope pos (l.map f):=by
 have:=IG (pos:=pos) l g f (fun zu=>true) (fun a=>[(x,g a)]) hi hz (fun Lc a zu=>.name (hk Lc) rfl) (fun Lc a ha=>Kv) (fun Lc a ha zu=>h Lc a ha) cs hs hmd
 rwa [(List.filter_eq_self.mpr fun zu zu=>rfl:l.filter (fun zu=>true)=l)] at this
theorem EG {elt iter:Expr} {scope:Scope} {pos p1 p2 tp:Pos} {tn:Nat} {x y:Str} {α:Type} (hA:A.handled=none) (l:List α) (g1 g2 f:α→AV) (hi:PI C A hp env loc (.Tuple [.Name x p1,.Name y p2] tn tp) iter (l.map fun a=>.tup [g1 a,g2 a])) (hz:l.length≤100000)
  (h:∀Lc a,a∈l→PE C A hp (AF env scope Lc) (J0 scope loc [(y,g2 a),(x,g1 a)]) elt (f a,false)) (hk:autoParam (∀Lc,(AF env scope Lc).kindOf x=some .local) AC.aux4._auto_1) (hk2:autoParam (∀Lc,(AF env scope Lc).kindOf y=some .local) AC.aux4._auto_1) (hn:autoParam ((y == x)=false) AC.aux1._auto_1)
  (cs:autoParam (AW env scope) AC.aux6._auto_1) (hs:autoParam (∀x,foldedSetIterable iter env x=pure x) AC.aux4._auto_1) (hmd:autoParam (md scope=false) AC.aux0._auto_1):NQ C A hp env loc elt [⟨.Tuple [.Name x p1,.Name y p2] tn tp,iter,[],0⟩] scope pos (l.map f):=by
 have:=IG (pos:=pos) l (fun a=>.tup [g1 a,g2 a]) f (fun zu=>true) (fun a=>[(y,g2 a),(x,g1 a)]) hi hz (fun Lc a zu=>.pair hA (hk Lc) (hk2 Lc) rfl (by simp only [List.lookup,hn])) (fun Lc a ha=>Kv) (fun Lc a ha zu=>h Lc a ha) cs hs hmd
 rwa [(List.filter_eq_self.mpr fun zu zu=>rfl:l.filter (fun zu=>true)=l)] at this
end
end
section
section
variable {hp:HP} {C:Cf} {A:Around} {s s':Shared} {env:Env} {F F':FH} {E:Value→Shared→Prop} {loc:PL}
theorem Hb {a b:Int}:J8 C A hp (BY hp) (binaryOp .Add) (.int a,false) (.int b,false) (.int (a+b),false):=fun F s E v u hin hv hu=>by
 refine xa1_1 hv.out.intI ?_;intro t;rintro rfl;refine xa1_1 hu.out.intI ?_;intro t';rintro rfl;exact add_int (Cr.here hin (.val (.int _ _)))
theorem PG {a b:Int}:J8 C A hp (BY hp) (binaryOp .Sub) (.int a,false) (.int b,false) (.int (a - b),false):=fun F s E v u hin hv hu=>by
 refine xa1_1 hv.out.intI ?_;intro t;rintro rfl;refine xa1_1 hu.out.intI ?_;intro t';rintro rfl;exact PyProof.Rows.sub_int (Cr.here hin (.val (.int _ _)))
theorem Kt {a b:Int} (hb:b≠0):J8 C A hp (BY hp) (binaryOp .Mod) (.int a,false) (.int b,false) (.int (a.fmod b),false):=fun F s E v u hin hv hu=>by
 refine xa1_1 hv.out.intI ?_;intro t;rintro rfl;refine xa1_1 hu.out.intI ?_;intro t';rintro rfl;exact mod_int hb (Cr.here hin (.val (.int _ _)))
noncomputable def Oq (C:Cf) (A:Around):Prop:=∀s:Shared,(∃l,A.frames=some l)→(∀b o,C.h0.get? b=some o→s.heap.get? b=some o)→PylongRoom (model C.prog C.w) A s
theorem MM {a b:Int} (pl:Oq C A) (hb:b≠0):J8 C A hp (BY hp) (binaryOp .FloorDiv) (.int a,false) (.int b,false) (.int (a.fdiv b),false):=fun F s E v u hin hv hu=>by
 refine xa1_1 hv.out.intI ?_;intro t;rintro rfl;refine xa1_1 hu.out.intI ?_;intro t';rintro rfl;exact floordiv_int hb (Cr.here hin (.val (.int _ _))) (.inr (pl s (let ⟨l,a,_⟩:=hin.fr;⟨l,a⟩) hin.old))
theorem PH {a n:Int} (hn:0≤n) (hn2:n≤1000000) (ha:a.natAbs<2 ^ 64):J8 C A hp (BY hp) (binaryOp .Pow) (.int a,false) (.int n,false) (.int (a ^ n.toNat),false):=fun F s E v u hin hv hu=>by
 refine xa1_1 hv.out.intI ?_;intro t;rintro rfl;refine xa1_1 hu.out.intI ?_;intro t';rintro rfl;exact pow_int_small hn hn2 ha (Cr.here hin (.val (.int _ _)))
theorem Cr.newL {xs:List AV} {vs:List Value} {t n:Nat} (hin:Wp C A hp F s) (hv:VRs F xs vs):Cr C A hp F s (fun F' v=>BY hp F' (.lst xs,false) v) (.ref s.heap.objs.size) ⟨s.heap.push { cls:=.type "list",data:=.seq vs.toArray n },s.gens,s.drawn,t,s.os⟩:=by
 have st:=BH.push (t:=t) hin (o:={ cls:=.type "list",data:=.seq vs.toArray n }) rfl
 exact ⟨_,st,.val (.lst (Ar _ _ _) rfl rfl (hv.mono st.e))⟩
theorem Cr.newT {xs:List AV} {vs:List Value} {t n:Nat} (hin:Wp C A hp F s) (hv:VRs F xs vs):Cr C A hp F s (fun F' v=>BY hp F' (.tup xs,false) v) (.ref s.heap.objs.size) ⟨s.heap.push { cls:=.type "tuple",data:=.seq vs.toArray n },s.gens,s.drawn,t,s.os⟩:=by
 have st:=BH.push (t:=t) hin (o:={ cls:=.type "tuple",data:=.seq vs.toArray n }) rfl
 exact ⟨_,st,.val (.tup (Ar _ _ _) rfl rfl (hv.mono st.e))⟩
noncomputable abbrev vals (xs:List AV):List PV:=xs.map fun x=>(x,false)
theorem DM.outs {xs:List AV} {vs:List Value} (r:DM hp F (vals xs) vs):VRs F xs vs:=by
 induction xs generalizing vs with
 |nil=>rw [r.nilI];exact .nil
 |cons x xs ih=>
  refine xa2_3 r.inv ?_;intro v us;rintro rfl;intro a b
  exact .cons a.out (ih b)
theorem Cn {elts:List Expr} {k:Nat} {pos:Pos} (xs:List AV) (h:IM C A hp env loc elts (vals xs)) (hz:xs.length≤100000) (ht:autoParam (backTo pos (starEach elts env)=AT env elts) AC.aux0._auto_1):PE C A hp env loc (.Tuple elts k pos) (.tup xs,false):=.mk fun F s E c=>
 Tuple_ (ht▸h.pes.use c fun F₁ s₁ us st c₁ r=>by
  have hv:=r.outs
  unfold newTuple
  exact wpAny_newObj_type ((Cr.newT c₁.wp hv).pre st) (by show us.toArray.size≤sizeLine;rw [List.size_toArray,hv.length,sizeLine_eq];with_reducible exact BX ‹_› (by decide)))
theorem PE_List {elts:List Expr} {pos:Pos} (xs:List AV) (h:IM C A hp env loc elts (vals xs)) (hz:xs.length≤100000) (ht:autoParam (backTo pos (starEach elts env)=AT env elts) AC.aux0._auto_1):PE C A hp env loc (.List elts pos) (.lst xs,false):=.mk fun F s E c=>
 List_ (ht▸h.pes.use c fun F₁ s₁ us st c₁ r=>by
  have hv:=r.outs
  unfold newList
  exact wpAny_newObj_type ((Cr.newL c₁.wp hv).pre st) (by show us.toArray.size≤sizeLine;rw [List.size_toArray,hv.length,sizeLine_eq];with_reducible exact BX ‹_› (by decide)))
theorem Fb {xs ys:List AV} {p q:Bool} (hz:xs.length+ys.length≤100000):J8 C A hp (BY hp) (binaryOp .Add) (.lst xs,p) (.lst ys,q) (.lst (xs++ys),false):=fun F s E v u hin hv hu=>by
 refine xa4_6 (hv.lstI hin) ?_;intro a;intro zq;refine cps fun zP zk=>?_;(rcases zq with ⟨cls,dd,data,sl⟩)<;>(refine zk ?_;clear zk zP);intro vs n;rintro rfl;intro ho hc hd hvs zu
 refine xa4_6 (hu.lstI hin) ?_;intro b;intro zq;refine cps fun zP zk=>?_;(rcases zq with ⟨cls2,dd2,data2,sl2⟩)<;>(refine zk ?_;clear zk zP);intro us n2;rintro rfl;intro ho2 hc2 hd2 hus zu
 dsimp only at hc hd hc2 hd2
 subst hc hd hc2 hd2
 have e:vs.toArray++us.toArray=(vs++us).toArray:=by simp
 refine concat_meets ⟨_,ho,rfl⟩ ⟨_,ho2,rfl⟩ noFill_list_add seq_list_add PySem.F.slot_list_add PySem.F.entry_list_add (PySem.F.args_list_add_2 _ _) (list_addW a b vs.toArray us.toArray n n2 dd dd2 sl sl2 (by simp only [List.size_toArray,hvs.length,hus.length,sizeLine_eq];with_reducible exact BX ‹_› (by decide))) ⟨ho,ho2,?_⟩
 rw [e]
 exact Cr.newL hin (hvs.append hus)
noncomputable abbrev ID (C:Cf) (A:Around) (hp:HP) (env:Env) (loc:PL) (x:Option Expr) (o:Option Int):Prop:=PT C A hp env loc (fun zu o v=>IsPart v o) (evalPart x env) o
theorem CP:ID C A hp env loc none none:=.mk fun F s E c=>by rw [evalPart_none];exact wpAny_pure (Cr.here (t:=s.toks) c.wp .none)
theorem Dn {e:Expr} {i:Int} (h:PE C A hp env loc e (.int i,false)):ID C A hp env loc (some e) (some i):=.mk fun F s E c=>h.use c fun F₁ s₁ v st c₁ r=>by
 refine xa1_1 r.out.intI ?_;intro t;rintro rfl
 exact (Cr.here (t:=s₁.toks) c₁.wp (.int _ _)).pre st
noncomputable def QJ (C:Cf) (A:Around) (hp:HP) (pv:PV) (lo hi st:Option Int) (res:PV):Prop:=
 ∀F s (E:Value→Shared→Prop) v (a:Addr) (l u w:Value),Wp C A hp F s→BY hp F pv v→s.heap.IsSliceOf a l u w→IsPart l lo→IsPart u hi→IsPart w st→∀value slice,wpAny (model C.prog C.w) A (subscriptTail value slice v (.ref a)) (Cr C A hp F s fun F' v=>BY hp F' res v) E s
theorem EF {value:Expr} {lower upper step:Option Expr} {p pos:Pos} {pv res:PV} {lo hi st:Option Int} (h:PE C A hp env loc value pv) (h1:ID C A hp env loc lower lo) (h2:ID C A hp env loc upper hi) (h3:ID C A hp env loc step st) (hs:QJ C A hp pv lo hi st res) :
  PE C A hp env loc (.Subscript value (.Slice lower upper step p) pos) res:=.mk fun F s E c=>
 Subscript_ (h.use c fun F₁ s₁ v st₁ c₁ r=>wpAny_Slice (h1.use c₁ fun F₂ s₂ l st₂ c₂ r1=>h2.use c₂ fun F₃ s₃ u st₃ c₃ r2=>h3.use c₃ fun F₄ s₄ w st₄ c₄ r3=>by
  have st5:BH C A hp F₄ s₄ F₄ { s₄ with heap:=s₄.heap.push { cls:=.type "slice",data:=.fields #[l,u,w] } }:=.keep c₄.wp fun zu zu e=>Heap.get?_push_of_some _ e
  exact wpAny_mono (hs F₄ _ E v _ l u w st5.w' ((((r.step st₂).step st₃).step st₄).step st5) ⟨_,Heap.get?_push_size _ rfl,rfl,rfl⟩ r1 r2 r3 _ _) (fun zu zu q=>q.pre (st₁.trans (st₂.trans (st₃.trans (st₄.trans st5))))) fun zu zu x=>x))
noncomputable def C1 {α:Type} (xs:List α) (lo hi:Option Int):List α:=(xs.drop (lo.elim 0 (clipAt xs.length))).take (hi.elim xs.length (clipAt xs.length) - lo.elim 0 (clipAt xs.length))
theorem E9 {α β:Type} (f:α→β) (xs:List α) (lo hi:Option Int):C1 (xs.map f) lo hi=(C1 xs lo hi).map f:=by
 unfold C1;simp [List.map_take,List.map_drop]
theorem MD {α:Type} (xs:List α) (lo hi:Option Int):(C1 xs lo hi).length≤xs.length:=by
 unfold C1;simp;omega
theorem Lh {α:Type} (xs:List α) (a:Nat):C1 xs (some a) none=xs.drop a:=by
 unfold C1
 simp only [Option.elim,clipAt_nat]
 rcases Nat.le_total a xs.length with h|h
 ·rw [Nat.min_eq_left h,List.take_of_length_le (by simp)]
 ·rw [Nat.min_eq_right h,List.drop_of_length_le (by simp),List.drop_of_length_le h];simp
theorem GY {α:Type} (xs:List α) (b:Nat):C1 xs none (some b)=xs.take b:=by
 unfold C1
 simp only [Option.elim,clipAt_nat,List.drop_zero,Nat.sub_zero]
 rcases Nat.le_total b xs.length with h|h
 ·rw [Nat.min_eq_left h]
 ·rw [Nat.min_eq_right h,List.take_of_length_le (by simp),List.take_of_length_le h]
theorem MC {α:Type} (xs:List α) (a b:Nat):C1 xs (some a) (some b)=(xs.drop a).take (b - a):=by
 unfold C1
 simp only [Option.elim,clipAt_nat]
 rcases Nat.le_total a xs.length with h|h
 ·rw [Nat.min_eq_left h]
  rcases Nat.le_total b xs.length with h2|h2
  ·rw [Nat.min_eq_left h2]
  ·rw [Nat.min_eq_right h2,List.take_of_length_le (by simp),List.take_of_length_le (by simp;exact At [_,_,_,_] [(1,Z0,Z3),(1,Z3,(Za Z1 Z2))] Z0 (Za Z1 Z2) rfl h2 (BP _ _))]
 ·rw [Nat.min_eq_right h,List.drop_of_length_le (by simp),List.drop_of_length_le h];simp
theorem VRs.cut {xs:List AV} {vs:List Value} (h:VRs F xs vs) (lo hi:Option Int):VRs F (C1 xs lo hi) (C1 vs lo hi):=by
 unfold C1
 rw [h.length]
 exact (h.drop _).take _
theorem LO (vs:List Value) (lo hi:Option Int):slicePick vs.toArray lo hi none=(C1 vs lo hi).toArray:=by
 rw [slicePick_plain];simp [C1]
theorem FL {xs:List AV} {p:Bool} {lo hi:Option Int} (hz:xs.length≤100000):QJ C A hp (.lst xs,p) lo hi none (.lst (C1 xs lo hi),false):=fun F s E v a l u w hin hv hs pl pu pw value slice=>by
 refine xa4_6 (hv.lstI hin) ?_;intro b o vs n;rintro rfl;intro ho hc hd hvs zu
 have ha:s.heap.IsList b vs.toArray:=⟨o,ho,hc,n,hd⟩
 refine Ei ha.typeIs list_getitem_lookup (wpAny_getItem_list_slice ha hs pl pu pw (by simp) ?_ (by rw [List.size_toArray,hvs.length,sizeLine_eq];with_reducible exact BX ‹_› (by decide)))
 rw [LO]
 exact Cr.newL hin (hvs.cut lo hi)
theorem Ja {value slice:Expr} {xs:List AV} {p:Bool} {k:Int} {x:AV} (h0:0≤k) (hx:xs[k.toNat]? = some x) (hz:xs.length≤100000):J8 C A hp (BY hp) (subscriptTail value slice) (.lst xs,p) (.int k,false) (x,false):=fun F s E v w hin hv hw=>by
 refine xa1_1 hw.out.intI ?_;intro t;rintro rfl
 refine xa4_6 (hv.lstI hin) ?_;intro a o vs n;rintro rfl;intro ho hc hd hvs zu
 refine xa1_2 (hvs.get hx) ?_;intro u hu hvu
 have ha:s.heap.IsList a vs.toArray:=⟨o,ho,hc,n,hd⟩
 have hlt:=(List.getElem?_eq_some_iff.mp hx).1
 exact Ei ha.typeIs list_getitem_lookup (wpAny_getItem_list ha h0 (by omega) (by rw [List.getElem?_toArray];exact hu) (Cr.here (t:=s.toks) hin (.val hvu)))
theorem Mq {xs:List AV} {p:Bool} (hz:xs.length≤100000):PK C A hp (.builtin "len") [(.lst xs,p)] (.int xs.length,false):=fun F s E us hin r=>by
 refine xa2_3 r.inv ?_;intro v us;rintro rfl;intro r1 r
 obtain rfl:=r.nilI
 refine xa4_6 (r1.lstI hin) ?_;intro a o vs n;rintro rfl;intro ho hc hd hvs zu
 refine PyProof.Rows.len_list ⟨o,ho,hc,n,hd⟩ (by rw [List.size_toArray,hvs.length];omega) (Cr.here hin (.val ?_))
 rw [List.size_toArray,hvs.length];exact .int _ _
theorem E4 {xs:List AV} {p:Bool} (hz:xs.length≤100000):PK C A hp (.type "tuple") [(.lst xs,p)] (.tup xs,false):=fun F s E us hin r=>by
 refine xa2_3 r.inv ?_;intro v us;rintro rfl;intro r1 r
 obtain rfl:=r.nilI
 refine xa4_6 (r1.lstI hin) ?_;intro a o vs n;rintro rfl;intro ho hc hd hvs zu
 refine call_tuple_list ⟨o,ho,hc,n,hd⟩ (fun h' hk=>?_) (by rw [List.size_toArray,hvs.length,sizeLine_eq];with_reducible exact BX ‹_› (by decide))
 have st:=BH.keep (t:=s.toks) hin hk
 exact (Cr.newT (t:=s.toks) st.w' hvs).pre st
end
end
section
section
variable {G:FH} {σ:Al} {C:Cf} {A:Around} {s s':Shared} {env:Env} {F F':FH} {E:Value→Shared→Prop} {loc:PL}
theorem Wd.dead {hp:HP} (W:Wd C F G hp s) {b:Addr} (h:s.heap.get? b=none):F b=none∧G b=none∧hp b=none:=by
 refine ⟨?_,?_,?_⟩
 ·cases e:F b with
  |none=>rfl
  |some o=>rw [W.fz b o e] at h;exact Ap h
 ·cases e:G b with
  |none=>rfl
  |some o=>refine xa1_2 (W.gz b o e) ?_;intro o' ho zu;rw [ho] at h;exact Ap h
 ·cases e:hp b with
  |none=>rfl
  |some x=>refine cps fun zP zk=>?_;(rcases W.ob b x e with ⟨zu,zu,o,ho,zu⟩)<;>(refine zk ?_;clear zk zP);rw [ho] at h;exact Ap h
theorem Wd.frp {hp:HP} (W:Wd C F G hp s) {e:Env} (h:MY G e):QL hp F s.heap e:=by
 refine cps fun zP zk=>?_;(rcases h with ⟨p,L,o,a,b,es,ep,d⟩)<;>(refine zk ?_;clear zk zP)
 refine xa1_2 (W.gz _ _ b) ?_;intro o' h1 g
 refine ⟨p,L,a,?_,?_,o',h1,es,ep,g.data.trans d⟩
 ·cases q:F L with
  |none=>rfl
  |some o2=>rw [W.fg _ _ q] at b;exact Ak b
 ·cases q:hp L with
  |none=>rfl
  |some x=>rw [(W.ob _ _ q).2.1] at b;exact Ak b
theorem Rp.wp (hR:Rp C A F G env σ s):Wp C A σ.hp F s:=by
 refine ⟨hR.wd.base,hR.wd.fz,fun a x q=>⟨(hR.wd.ob a x q).1,(hR.wd.ob a x q).2.2⟩,hR.wd.os,hR.wd.bare,hR.wd.gi,?_⟩
 refine xa2_5 hR.fs ?_;intro e l a b c d f
 refine ⟨e::l,a,fun y hy=>?_⟩
 rcases List.mem_cons.mp hy with rfl|hy
 ·rcases d with ⟨rfl,d⟩|d
  ·refine xa1_2 hR.fm.ns ?_;intro m;intro zq;refine xa3_3 zq ?_;(try clear zq);intro o es ep h1 h2 zu;intro zu
   exact ⟨b,y.locals,d,hR.fm.lo.1,hR.fm.lo.2.2,o,h1,es,ep,h2⟩
  ·exact hR.wd.frp d
 ·exact hR.wd.frp (f y hy)
theorem Rp.pure (hR:Rp C A F G env σ s) (st:BH C A σ.hp F s F' s'):Rp C A F' G env σ s':=by
 have dead:∀{b o},s.heap.get? b=some o→F b=none→F' b=none:=fun {b o} e q=>st.off q e
 have ghp:∀{b o},G b=some o→σ.hp b=none:=fun {b o} e=>by
  cases q:σ.hp b with
  |none=>rfl
  |some x=>rw [(hR.wd.ob _ _ q).2.1] at e;exact Ak e
 have ck:∀{c v},σ.hp c=none→s.heap.IsCell c v→s'.heap.IsCell c v:=fun {c v} e ⟨o,h1,h2⟩=>⟨o,st.k h1 e (fun es ep q=>by rw [h2] at q;cases q),h2⟩
 refine ⟨⟨st.w'.base,st.w'.fz,fun b o e=>?_,fun a x e=>⟨(st.w'.ob a x e).1,(hR.wd.ob a x e).2.1,(st.w'.ob a x e).2⟩,st.w'.os,st.w'.bare,st.w'.gi,fun b o e=>?_⟩,⟨hR.fm.kind,?_,⟨?_,hR.fm.lo.2⟩,fun x hx=>?_,hR.fm.ci,fun x av c a b d=>?_,fun x av a b=>?_⟩,hR.fs⟩
 ·refine xa1_2 (hR.wd.gz b o e) ?_;intro o' h1 g
  refine xa1_2 (st.kg b o' h1 (ghp e)) ?_;intro o2 h2 g2
  exact ⟨o2,h2,g.trans g2⟩
 ·rcases st.new b o e with q|q
  ·exact hR.wd.fg b o q
  ·exact (hR.wd.dead q).2.1
 ·refine xa1_2 hR.fm.ns ?_;intro m hm hv
  exact ⟨m,Ns.geq hm fun o h=>st.kg _ o h hR.fm.lo.2.2,fun x av a b=>let ⟨v,p,q⟩:=hv x av a b;⟨v,p,q.mono st.e⟩⟩
 ·refine xa1_2 hR.fm.ns ?_;intro m;intro zq;refine xa3_2 zq ?_;(try clear zq);intro oL es ep hL zu;intro zu
  exact dead hL hR.fm.lo.1
 ·refine cps fun zP zk=>?_;(rcases hR.fm.co x hx with ⟨c,g1,g2,g3,g4,g5,v,g6⟩)<;>(refine zk ?_;clear zk zP)
  refine xa1_2 g6 ?_;(try clear g6);intro o' ho' zu
  exact ⟨c,g1,dead ho' g2,g3,g4,g5,v,ck g4 ⟨o',ho',by assumption⟩⟩
 ·refine xa1_2 (hR.fm.cv x av c a b d) ?_;intro v p q
  refine xa1_5 (hR.fm.co x b) ?_;intro c' g1 zu zu g4 zu
  rw [d] at g1;(have zc:=Option.some.inj g1;clear g1;subst zc)
  exact ⟨v,ck g4 p,q.mono st.e⟩
 ·refine xa3_4 (hR.fm.fv x av a b) ?_;intro c v o a1 a2 a3 a4
  exact ⟨c,v,o,a1,a2,a3,a4.mono st.e⟩
noncomputable def GB (own:List (Str×List AV)) (l:List (Str×AV)):PL:=own.map (fun p=>(p.1,(.lst p.2,true)))++l.map fun p=>(p.1,(p.2,false))
noncomputable def OwnOk (σ:Al) (own:List (Str×List AV)):Prop:=∀p∈own,∃a,σ.loc.lookup p.1=some (.ref a)∧σ.hp a=some (.list p.2)
theorem OwnOk.nil:OwnOk σ []:=fun p h=>by cases h
theorem Gj {α β:Type} (f:α→β):∀{l:List (Str×α)} {x:Str},(l.map fun p=>(p.1,f p.2)).lookup x=(l.lookup x).map f
 |[],_=>rfl
 |(y,a)::l,x=>by
  simp only [List.map_cons,List.lookup]
  split
  ·rfl
  ·exact Gj f
theorem Fm.nmAt {hp:HP} {l:List (Str×AV)} (M:Fm F G hp env l s.heap) (hG:∀b o,G b=some o→(∀es ep,o.data≠.dict es ep)→s.heap.get? b=some o) (hGh:∀b o,G b=some o→hp b=none) {x:Str} {av:AV} (h:l.lookup x=some av) (hk:CF (env.kindOf x)=true):∃v,VR F av v∧MX hp s.heap env x v:=by
 cases q:env.kindOf x with
 |none=>rw [q] at hk;exact Bu hk
 |some kd=>
  rw [q] at hk
  cases kd<;>first|(first|exact Bu hk|cases hk)|skip
  ·refine xa1_2 M.ns ?_;intro m hm hv
   refine xa1_2 (hv x av h q) ?_;intro v h1 h2
   exact ⟨v,h2,.loc q hm h1 M.lo.2.2⟩
  ·refine xa1_5 (M.co x q) ?_;intro c hc zu zu hh zu
   refine xa1_2 (M.cv x av c h q hc) ?_;intro v h1 h2
   exact ⟨v,h2,.cell q hc h1 hh⟩
  ·refine xa3_4 (M.fv x av h q) ?_;intro c v o h1 h2 h3 h4
   exact ⟨v,h4,.free q h1 ⟨o,hG _ _ h2 (by intro es ep z;rw [h3] at z;cases z),h3⟩ (hGh _ _ h2)⟩
theorem Rp.pctx {own:List (Str×List AV)} (hR:Rp C A F G env σ s) (ho:OwnOk σ own) (hk:(σ.loc.all fun p=>CF (env.kindOf p.1))=true) (hg:env.globals=mainGlobals∧env.builtins=builtinsNs):Dv C A σ.hp F s env (GB own σ.loc):=by
 have var:∀{x av},σ.loc.lookup x=some av→CF (env.kindOf x)=true:=fun {x av} e=>List.all_eq_true.mp hk _ (E2 e)
 have gz:=fun b o e hd=>hR.wd.gzx (b:=b) (o:=o) e hd
 have gh:∀b o,G b=some o→σ.hp b=none:=fun b o e=>by
  cases q:σ.hp b with
  |none=>rfl
  |some x=>rw [(hR.wd.ob _ _ q).2.1] at e;exact Ak e
 refine ⟨hR.wp,hR.fm.kind,hg,fun x hx=>let ⟨c,hc,_⟩:=hR.fm.co x hx;by rw [hc];rfl,fun x pv e=>?_⟩
 unfold GB at e
 rw [Hu,Gj (fun a=>((.lst a,true):PV)),Gj (fun a=>((a,false):PV))] at e
 cases q:own.lookup x with
 |some xs=>
  rw [q] at e;(have zc:=Option.some.inj e;clear e;subst zc)
  refine xa1_2 (ho _ (E2 q)) ?_;intro a h1 h2
  refine xa1_2 (hR.fm.nmAt gz gh h1 (var h1)) ?_;intro v hv n
  obtain rfl:=hv.refI
  exact ⟨_,.own h2,n⟩
 |none=>
  rw [q] at e
  refine xa1_2 (Option.map_eq_some_iff.mp e) ?_;intro av h1;rintro rfl
  refine xa1_2 (hR.fm.nmAt gz gh h1 (var h1)) ?_;intro v hv n
  exact ⟨v,.val hv,n⟩
theorem Cz {E:Value→Shared→Prop} {e:Expr} {Q:AV→Al→Prop} (own:List (Str×List AV)) (v:AV) (h:PE C A σ.hp env (GB own σ.loc) e (v,false)) (q:Q v σ) (ho:autoParam (OwnOk σ own) AC.aux7._auto_1) (hk:autoParam ((σ.loc.all fun p=>CF (env.kindOf p.1))=true) AC.aux0._auto_1)
  (hg:autoParam (env.globals=mainGlobals∧env.builtins=builtinsNs) AC.aux8._auto_1):Ev C A E env e σ Q:=fun F G s hR=>
 h.use (hR.pctx ho hk hg) fun F' s' w st c r=>⟨F',v,σ,st.e,r.out,hR.pure st,q⟩
theorem Ob {E:Value→Shared→Prop} {e:Expr} {b:Bool} {Q:Bool→Al→Prop} (own:List (Str×List AV)) (h:PB C A σ.hp env (GB own σ.loc) e b) (q:Q b σ) (ho:autoParam (OwnOk σ own) AC.aux7._auto_1) (hk:autoParam ((σ.loc.all fun p=>CF (env.kindOf p.1))=true) AC.aux0._auto_1)
  (hg:autoParam (env.globals=mainGlobals∧env.builtins=builtinsNs) AC.aux8._auto_1):Et C A E env e σ Q:=fun F G s hR=>
 h.use (hR.pctx ho hk hg) fun F' s' w st c r=>⟨F',b,σ,st.e,r,hR.pure st,q⟩
theorem D4 {E:Value→Shared→Prop} {x:Str} {px pos:Pos} {e:Expr} {Q:A6→Al→Prop} (own:List (Str×List AV)) (v:AV) (h:PE C A σ.hp env (GB own σ.loc) e (v,false)) (q:Q .next (σ.set x v)) (ho:autoParam (OwnOk σ own) AC.aux7._auto_1) (hk:autoParam ((σ.loc.all fun p=>CF (env.kindOf p.1))=true) AC.aux0._auto_1)
  (hg:autoParam (env.globals=mainGlobals∧env.builtins=builtinsNs) AC.aux8._auto_1) (hx:autoParam (DR (env.kindOf x)=true) AC.aux0._auto_1) (hs:autoParam (swapsWith e (some (.Name x px)) pos.line env=Pure.pure false) AC.aux0._auto_1):Ex C A E env (.Assign [.Name x px] e pos) σ Q:=
 Ai (Cz own v h q ho hk hg) hx hs
theorem HA {E:Value→Shared→Prop} {pos:Pos} {e:Expr} {Q:A6→Al→Prop} (own:List (Str×List AV)) (v:AV) (h:PE C A σ.hp env (GB own σ.loc) e (v,false)) (q:Q (.ret v) σ) (ho:autoParam (OwnOk σ own) AC.aux7._auto_1) (hk:autoParam ((σ.loc.all fun p=>CF (env.kindOf p.1))=true) AC.aux0._auto_1)
  (hg:autoParam (env.globals=mainGlobals∧env.builtins=builtinsNs) AC.aux8._auto_1):Ex C A E env (.Return (some e) pos) σ Q:=Cg (Cz own v h q ho hk hg)
theorem Nb {E:Value→Shared→Prop} {test:Expr} {body orelse:List Stmt} {pos:Pos} {b:Bool} {Q:A6→Al→Prop} (own:List (Str×List AV)) (h:PB C A σ.hp env (GB own σ.loc) test b) (q1:b=true→Cq C A E env body σ Q) (q2:b=false→Cq C A E env orelse σ Q) (ho:autoParam (OwnOk σ own) AC.aux7._auto_1) (hk:autoParam ((σ.loc.all fun p=>CF (env.kindOf p.1))=true) AC.aux0._auto_1)
  (hg:autoParam (env.globals=mainGlobals∧env.builtins=builtinsNs) AC.aux8._auto_1):Ex C A E env (.If test body orelse pos) σ Q:=Bd (Ob own h (by
 cases b with
 |true=>exact q1 rfl
 |false=>exact q2 rfl) ho hk hg)
theorem Rp.holdDict {Lc:Addr} {o:Obj} (hR:Rp C A F G env σ s) (ho:s.heap.get? Lc=some o) (h1:F Lc=none) (h2:G Lc=none) (h3:σ.hp Lc=none) (h4:Lc≠env.locals) (h5:∀x c,env.kindOf x=some .cell→env.cells.lookup x=some c→Lc≠c) :
  Rp C A F (Df G (sg Lc o)) env σ s:=by
 have dj:=DA (o:=o) h2
 have ex:=CQ dj
 have W:=hR.wd
 have on:∀{b},b≠Lc→G b=none→Df G (sg Lc o) b=none:=fun n e=>by rw [AH (JP _ n)];exact e
 refine ⟨⟨W.base,W.fz,fun b ob e=>?_,fun a x e=>?_,W.os,W.bare,W.gi,fun b ob e=>?_⟩,⟨hR.fm.kind,hR.fm.ns,⟨hR.fm.lo.1,on h4.symm hR.fm.lo.2.1,hR.fm.lo.2.2⟩,fun x hx=>?_,hR.fm.ci,hR.fm.cv,fun x av a b=>?_⟩,hR.fs.mono ex⟩
 ·by_cases q:b=Lc
  ·subst q;rw [Bp (Bg _ _)] at e;(have zc:=Option.some.inj e;clear e;subst zc);exact ⟨_,ho,FO.rfl' _⟩
  ·rw [AH (JP _ q)] at e;exact W.gz b ob e
 ·refine xa0_3 (W.ob a x e) ?_;intro p q r
  exact ⟨p,on (fun zE=>by (first|rw [zE,h3] at e|rw [←zE,h3] at e);exact Ak e) q,r⟩
 ·exact on (fun zE=>by (first|rw [zE,h1] at e|rw [←zE,h1] at e);exact Ak e) (W.fg b ob e)
 ·refine xa1_4 (hR.fm.co x hx) ?_;intro c g1 g2 g3 g4
  exact ⟨c,g1,g2,on (h5 x c hx g1).symm g3,g4⟩
 ·refine xa3_4 (hR.fm.fv x av a b) ?_;intro c v ob a1 a2 a3 a4
  exact ⟨c,v,ob,a1,ex _ _ a2,a3,a4⟩
theorem Rp.dropDict {Lc:Addr} {o:Obj} (hR:Rp C A F (Df G (sg Lc o)) env σ s) (hf:GG A G env) (h2:G Lc=none) (hc:∀v,o.data≠.cell v) {h':Heap} {t:Nat} (k:∀b ob,b≠Lc→s.heap.get? b=some ob→h'.get? b=some ob):Rp C A F G env σ ⟨h',s.gens,s.drawn,t,s.os⟩:=by
 have dj:=DA (o:=o) h2
 have ex:=CQ dj
 have W:=hR.wd
 have nL:∀{b},Df G (sg Lc o) b=none→b≠Lc:=fun e q=>by subst q;rw [Bp (Bg _ _)] at e;exact Ap e
 have no:∀{b},Df G (sg Lc o) b=none→G b=none:=fun e=>(Ho dj e).1
 refine ⟨⟨W.base,fun b ob e=>k _ _ (nL (W.fg b ob e)) (W.fz b ob e),fun b ob e=>?_,fun a x e=>?_,W.os,W.bare,W.gi,fun b ob e=>no (W.fg b ob e)⟩,⟨hR.fm.kind,?_,⟨hR.fm.lo.1,no hR.fm.lo.2.1,hR.fm.lo.2.2⟩,fun x hx=>?_,hR.fm.ci,fun x av c a b d=>?_,fun x av a b=>?_⟩,hf⟩
 ·refine xa1_2 (W.gz b ob (ex _ _ e)) ?_;intro o' z1 z2
  exact ⟨o',k _ _ (fun q=>by subst q;rw [h2] at e;exact Ak e) z1,z2⟩
 ·refine cps fun zP zk=>?_;(rcases W.ob a x e with ⟨p,q,o,ho,r⟩)<;>(refine zk ?_;clear zk zP)
  exact ⟨p,no q,o,k _ _ (nL q) ho,r⟩
 ·refine xa1_2 hR.fm.ns ?_;intro m;intro zq;refine xa3_2 zq ?_;(try clear zq);intro oL es ep hL r;intro hv
  exact ⟨m,⟨oL,es,ep,k _ _ (nL hR.fm.lo.2.1) hL,r⟩,hv⟩
 ·refine cps fun zP zk=>?_;(rcases hR.fm.co x hx with ⟨c,g1,g2,g3,g4,g5,v,ob,g6,g7⟩)<;>(refine zk ?_;clear zk zP)
  exact ⟨c,g1,g2,no g3,g4,g5,v,ob,k _ _ (nL g3) g6,g7⟩
 ·refine xa1_2 (hR.fm.cv x av c a b d) ?_;intro v;intro zq;refine xa1_2 zq ?_;(try clear zq);intro ob g6 g7;intro g8
  refine xa1_4 (hR.fm.co x b) ?_;intro c' g1 zu g3 zu
  rw [d] at g1;(have zc:=Option.some.inj g1;clear g1;subst zc)
  exact ⟨v,⟨ob,k _ _ (nL g3) g6,g7⟩,g8⟩
 ·refine xa3_4 (hR.fm.fv x av a b) ?_;intro c v ob a1 a2 a3 a4
  refine ⟨c,v,ob,a1,?_,a3,a4⟩
  by_cases q:c=Lc
  ·subst q;rw [Bp (Bg _ _)] at a2;(have zc:=Option.some.inj a2;clear a2;subst zc);exact absurd a3 (hc _)
  ·rw [AH (JP _ q)] at a2;exact a2
theorem FP {E:Value→Shared→Prop} {y:Str} {py spos pos:Pos} {elt:Expr} {gens:List Comprehension} {scope:Scope} {Q:A6→Al→Prop} (own:List (Str×List AV)) (res:List AV) (h:NQ C A σ.hp env (GB own σ.loc) elt gens scope pos res) (q:Q .next (σ.set y (.lst res))) (ho:autoParam (OwnOk σ own) AC.aux7._auto_1) (hk:autoParam ((σ.loc.all fun p=>CF (env.kindOf p.1))=true) AC.aux0._auto_1)
  (hg:autoParam (env.globals=mainGlobals∧env.builtins=builtinsNs) AC.aux8._auto_1) (hy:autoParam (DR (env.kindOf y)=true) AC.aux0._auto_1) (hsw:autoParam (swapsWith (.ListComp elt gens scope pos) (some (.Name y py)) spos.line env=Pure.pure true) AC.aux0._auto_1):Ex C A E env (.Assign [.Name y py] (.ListComp elt gens scope pos) spos) σ Q:=by
 intro F G s hR
 rw [exec_Assign_Name_used _ _ _ _ hsw]
 refine wpAny_bind (wpAny_standAt (wpAny_bind ?_))
 show wpAny _ A (do let _ ←comprehension (.ListComp elt gens scope pos) scope env (firstIterPos gens pos) (newList []) (firstAsync gens) (firstIter gens env) (some (assign (.Name y py) env))) _ _ s
 refine wpAny_bind (wpAny_mono (h F s E (some (assign (.Name y py) env)) (fun zu s'=>Aw C A G env NW Q F Flow.next s') (hR.pctx ho hk hg) fun F' s' acc Lc hcs=>?_) (fun zu s' hq=>wpAny_pure (wpAny_pure hq)) fun zu zu x=>x)
 refine cps fun zP zk=>?_;(rcases Lc with ⟨L,cm⟩)<;>(refine zk ?_;clear zk zP)
 have nL:=hcs.nL L (.inl rfl)
 have oL0:=hcs.oL L (.inl rfl)
 have ne0:acc≠L:=fun q=>hcs.ne (.inl q)
 refine xa2_2 hcs.ac ?_;intro vs n hl hv
 have st:=hcs.st.add hl hcs.oa hcs.na
 have hR₂:=hR.pure st
 refine xa2_2 hcs.fr ?_;intro m zu hm zu
 refine xa3_3 hm ?_;(try clear hm);intro oL es ep hL hdL hkL
 dsimp only at hL
 refine xa0_3 (hR.wd.dead nL) ?_;intro z1 z2 z3
 have f2:AM F' acc { cls:=.type "list",dict:=none,data:=.seq vs.toArray n,slots:=#[] } L=none:=by rw [A0 _ _ ne0.symm];exact oL0
 have a4:L≠env.locals:=by
  rintro rfl
  refine xa1_2 hR.fm.ns ?_;intro m;intro zq;refine xa3_2 zq ?_;(try clear zq);intro o zu zu hL zu;intro zu
  rw [nL] at hL;exact Ak hL
 have a5:∀x c,env.kindOf x=some .cell→env.cells.lookup x=some c→L≠c:=by
  rintro x c hx hc rfl
  refine cps fun zP zk=>?_;(rcases hR.fm.co x hx with ⟨c',g1,zu,zu,zu,zu,v,o,ho,zu⟩)<;>(refine zk ?_;clear zk zP)
  rw [hc] at g1;(have zc:=Option.some.inj g1;clear g1;subst zc)
  rw [nL] at ho;exact Ak ho
 have hR₃:=hR₂.holdDict hL f2 z2 z3 a4 a5
 show wpAny _ A (assign (.Name y py) env (.ref acc)) _ E s'
 refine wpAny_mono (By (x:=y) (pos:=py) (v:=.lst res) (Q:=fun σ₄=>σ₄=σ.set y (.lst res)) rfl hy _ _ s' (.ref acc) hR₃ (.lst (Ar _ _ _) rfl rfl (hv.mono (AR _ hcs.oa)))) (fun zu s₄ z=>?_) fun zu zu x=>x.elim
 refine xa2_3 z ?_;(try clear z);intro F₄ σ₄ e₄ hR₄;rintro rfl
 refine xa1_2 (hR₄.wd.gz L oL (Bp (Bg _ _))) ?_;intro oL' g1 g2
 refine ⟨m,⟨oL',es,ep,g1,g2.data.trans hdL,hkL⟩,fun h' hs'=>?_⟩
 exact ⟨F₄,.next,_,st.e.trans e₄,.next,hR₄.dropDict (t:=s₄.toks) hR.fs z2 (fun v=>by rw [hdL];simp) (SameBut.rest hs'),q⟩
end
end
section
section
variable {G:FH} {σ:Al} {C:Cf} {A:Around} {s s':Shared} {env:Env} {F F':FH} {E:Value→Shared→Prop} {loc:PL}
theorem Rp.oput' {m:FH} (hR:Rp C A F G env σ s) (hm:∀b o,m b=some o→F b=none∧G b=none∧σ.hp b=none∧b≠env.locals∧∀x c,env.kindOf x=some .cell→env.cells.lookup x=some c→b≠c) (ho:∀b o,m b=some o→s.heap.get? b=some o):De m G∧Rp C A F (Df G m) env σ s:=by
 have dj:De m G:=fun b o e=>(hm b o e).2.1
 have on:∀{b},(∀x,¬m b=some x)→G b=none→Df G m b=none:=fun {b} h e=>by
  cases q:m b with
  |none=>rw [AH q];exact e
  |some x=>exact absurd q (h x)
 refine ⟨dj,⟨⟨hR.wd.base,hR.wd.fz,fun b o e=>?_,fun a x e=>?_,hR.wd.os,hR.wd.bare,hR.wd.gi,fun b o e=>?_⟩,⟨hR.fm.kind,hR.fm.ns,⟨hR.fm.lo.1,on (fun x q=>(hm _ _ q).2.2.2.1 rfl) hR.fm.lo.2.1,hR.fm.lo.2.2⟩,fun x hx=>?_,hR.fm.ci,hR.fm.cv,fun x av a b=>?_⟩,hR.fs.mono (CQ dj)⟩⟩
 ·cases q:m b with
  |none=>rw [AH q] at e;exact hR.wd.gz b o e
  |some x=>rw [Bp q] at e;(have zc:=Option.some.inj e;clear e;subst zc);exact ⟨_,ho _ _ q,FO.rfl' _⟩
 ·refine cps fun zP zk=>?_;(rcases hR.wd.ob a x e with ⟨p,q,o,w⟩)<;>(refine zk ?_;clear zk zP)
  exact ⟨p,on (fun y z=>by rw [(hm _ _ z).2.2.1] at e;exact Ak e) q,o,w⟩
 ·exact on (fun y z=>by rw [(hm _ _ z).1] at e;exact Ak e) (hR.wd.fg b o e)
 ·refine xa1_6 (hR.fm.co x hx) ?_;intro c g1 g2 g3 g4 g5 g6
  exact ⟨c,g1,g2,on (fun y z=>(hm _ _ z).2.2.2.2 x c hx g1 rfl) g3,g4,g5,g6⟩
 ·refine xa3_4 (hR.fm.fv x av a b) ?_;intro c v o' a1 a2 a3 a4
  exact ⟨c,v,o',a1,CQ dj _ _ a2,a3,a4⟩
theorem Rp.deadApart (hR:Rp C A F G env σ s) {b:Addr} (h:s.heap.get? b=none):b≠env.locals∧∀x c,env.kindOf x=some .cell→env.cells.lookup x=some c→b≠c:=by
 refine ⟨?_,?_⟩
 ·rintro rfl
  refine xa1_2 hR.fm.ns ?_;intro m;intro zq;refine xa3_2 zq ?_;(try clear zq);intro o zu zu hL zu;intro zu
  rw [h] at hL;exact Ak hL
 ·rintro x c hx hc rfl
  refine cps fun zP zk=>?_;(rcases hR.fm.co x hx with ⟨c',g1,zu,zu,zu,zu,v,o,ho,zu⟩)<;>(refine zk ?_;clear zk zP)
  rw [hc] at g1;(have zc:=Option.some.inj g1;clear g1;subst zc)
  rw [h] at ho;exact Ak ho
theorem Cy.ofItQ {target:Expr} {xs:List AV} {iv:Value} (hR:Rp C A F G env σ s) (z:H9 C A σ.hp F s target xs iv s'):∃F',AG F F'∧Cy C A F' G env σ target xs (fun zu=>True) iv s':=by
 refine cps fun zP zk=>?_;(rcases z with ⟨F',I,fp,wr,St,st,e,W,h0,hw⟩)<;>(refine zk ?_;clear zk zP)
 have hR':=hR.pure st
 refine xa0_2 (hR'.oput' (m:=Bk s'.heap wr) (fun b o q=>by
  refine xa0_2 (B3 q) ?_;intro hb zu
  refine xa0_2 (hw b hb) ?_;intro d1 d2
  refine xa0_3 (hR.wd.dead d1) ?_;intro zu z2 z3
  exact ⟨d2,z2,z3,hR.deadApart d1⟩) fun b o q=>(B3 q).2) ?_;intro dj hR2
 exact ⟨F',st.e,I,_,_,e,dj,hR2,⟨0,s'.heap,AG.refl F',hR'.wd.fz,h0,rfl,rfl,Nat.zero_le _⟩,CJ.ofWk W⟩
noncomputable def Dx (l l':List (Str×AV)):Prop:=∀x av,l.lookup x=some av→l'.lookup x=some av
theorem Dx.refl (l:List (Str×AV)):Dx l l:=fun zu zu e=>e
theorem Rp.weakLoc (hR:Rp C A F G env σ s) {loc:List (Str×AV)} (h:Dx loc σ.loc):Rp C A F G env ⟨loc,σ.hp⟩ s:=by
 refine cps fun zP zk=>?_;(rcases hR with ⟨W,⟨kd,⟨m,hm,hv⟩,lo,co,ci,cv,fv⟩,fs⟩)<;>(refine zk ?_;clear zk zP)
 exact ⟨W,⟨kd,⟨m,hm,fun x av a b=>hv x av (h x av a) b⟩,lo,co,ci,fun x av c a=>cv x av c (h x av a),fun x av a=>fv x av (h x av a)⟩,fs⟩
noncomputable def NT (I:List (Str×AV)→HP→Prop) (σ:Al):Prop:=∃loc,Dx loc σ.loc∧I loc σ.hp
noncomputable def PX (Q:A6→Al→Prop) (I:List (Str×AV)→HP→Prop) (f:A6) (σ:Al):Prop:=
 match f with
 |.next=>NT I σ
 |.cont=>NT I σ
 |.brk=>∃loc,Dx loc σ.loc∧Q .next ⟨loc,σ.hp⟩
 |.ret v=>Q (.ret v) σ
theorem Ef {E:Value→Shared→Prop} {target iter:Expr} {body:List Stmt} {pos:Pos} {xs:List AV} {Q:A6→Al→Prop} (own:List (Str×List AV)) (I:List AV→List (Str×AV)→HP→Prop) (h:PI C A σ.hp env (GB own σ.loc) target iter xs) (h0:NT (I xs) σ)
  (turn:∀x xs loc hp,I (x::xs) loc hp→JH C A env target x ⟨loc,hp⟩ (fun σ₁=>Cq C A Bj env body σ₁ (PX Q (I xs)))) (fin:∀loc hp,I [] loc hp→Q .next ⟨loc,hp⟩) (ho:autoParam (OwnOk σ own) AC.aux7._auto_1) (hk:autoParam ((σ.loc.all fun p=>CF (env.kindOf p.1))=true) AC.aux0._auto_1)
  (hg:autoParam (env.globals=mainGlobals∧env.builtins=builtinsNs) AC.aux8._auto_1) (hs:autoParam (∀x,foldedSetIterable iter env x=Pure.pure x) AC.aux4._auto_1):Ex C A E env (.For target iter body [] pos) σ Q:=by
 have key:Ex C A E env (.For target iter body [] pos) σ (fun f σ'=>∃loc,Dx loc σ'.loc∧Q f ⟨loc,σ'.hp⟩):=by
  intro F G s hR
  refine wpAny_For (wpAny_mono (h F s E (hR.pctx ho hk hg)) (fun v s₁ z=>wpAny_mono z (fun iv s₂ z=>?_) fun zu zu x=>x) fun zu zu x=>x) hs
  refine cps fun zP zk=>?_;(rcases Cy.ofItQ hR z with ⟨F',e,it,m,P,rfl,dj,hR₂,hP,T⟩)<;>(refine zk ?_;clear zk zP)
  refine Iw T (fun xs σ=>NT (I xs) σ) (fun zu zu zu=>trivial) (fun x xs σ ⟨loc,hl,hi⟩ F G s v hR hv=>?_) (fun σ ⟨loc,hl,hi⟩=>⟨loc,hl,fin _ _ hi⟩) ⟨F',σ,m,xs,e,dj,hR₂,hP,h0,rfl⟩ fun f s' z=>z
  refine wpAny_mono (turn x xs loc σ.hp hi F G s v (hR.weakLoc hl) hv) (fun zu s' z=>?_) fun zu zu x=>x
  refine xa2_3 z ?_;(try clear z);intro F' σ' e hR' hb
  refine ⟨F',σ',e,hR',hb.mono fun f σ₃ hf=>?_⟩
  cases f with
  |next=>exact hf
  |cont=>exact hf
  |brk=>exact hf
  |ret v=>exact ⟨σ₃.loc,Dx.refl _,hf⟩
 intro F G s hR
 refine wpAny_mono (key F G s hR) (fun v s' z=>?_) fun zu zu x=>x
 refine cps fun zP zk=>?_;(rcases z with ⟨F',b,σ',e,r,hR',loc,hl,hq⟩)<;>(refine zk ?_;clear zk zP)
 exact ⟨F',b,⟨loc,σ'.hp⟩,e,r,hR'.weakLoc hl,hq⟩
end
end
section
section
variable {C:Cf} {A:Around} {hp:HP} {s s':Shared} {env:Env} {F F':FH} {E:Value→Shared→Prop} {loc:PL}
mutual
noncomputable def AV.pd:AV→PyData
 |.int i=>.int i
 |.str s=>.str s
 |.tup l=>.tuple (pds l)
 |.lst l=>.list (pds l)
 |.none=>.none
 |.bool b=>.bool b
 |.bytes _=>.none
 |.ref _=>.none
 |.val _=>.none
noncomputable def pds:List AV→List PyData
 |[]=>[]
 |x::xs=>x.pd::pds xs
end
theorem Jj {i}:(AV.int i).pd=.int i:=rfl
theorem Ji {s}:(AV.str s).pd=.str s:=rfl
theorem Jh {l}:(AV.tup l).pd=.tuple (pds l):=rfl
theorem Jg {l}:(AV.lst l).pd=.list (pds l):=rfl
theorem Jf:AV.none.pd=.none:=rfl
theorem Je {b}:(AV.bool b).pd=.bool b:=rfl
theorem HW:pds []=[]:=rfl
theorem HV {x xs}:pds (x::xs)=x.pd::pds xs:=rfl
mutual
inductive CW:AV→Prop
 |none:CW .none
 |int (i):CW (.int i)
 |str {x}:PyData.strOk x=true→CW (.str x)
 |tup {l}:Plns l→CW (.tup l)
 |lst {l}:Plns l→CW (.lst l)
inductive Plns:List AV→Prop
 |nil:Plns []
 |cons {x xs}:CW x→Plns xs→Plns (x::xs)
end
theorem Plns.of {l:List AV} (h:∀x∈l,CW x):Plns l:=by
 induction l with
 |nil=>exact .nil
 |cons x l ih=>exact .cons (h x (by simp)) (ih fun y hy=>h y (by simp [hy]))
theorem Plns.mem {l:List AV} (h:Plns l):∀x∈l,CW x:=by
 induction l with
 |nil=>intro x hx;cases hx
 |cons y l ih=>
  cases h with|cons a b=>
  intro x hx
  rcases List.mem_cons.mp hx with rfl|hx
  ·exact a
  ·exact ih b x hx
theorem Plns.map {α:Type} {f:α→AV} (h:∀a,CW (f a)) (l:List α):Plns (l.map f):=.of (by
 intro x hx
 refine xa1_2 (List.mem_map.mp hx) ?_;intro a zu;rintro rfl
 exact h a)
theorem CW.tupI {l:List AV} (h:CW (.tup l)):Plns l:=by cases h with|tup h=>exact h
theorem CW.lstI {l:List AV} (h:CW (.lst l)):Plns l:=by cases h with|lst h=>exact h
theorem CW.lay {x:AV} (h:CW x):x.pd.canLay0=true:=
 CW.rec (motive_1:=fun x zu=>x.pd.canLay0=true) (motive_2:=fun l zu=>PyData.canLayAll0 (pds l)=true) rfl (fun zu=>rfl) (fun h=>h) (fun zu ih=>ih) (fun zu ih=>ih) rfl (fun {x xs} zu zu ih1 ih2=>show (x.pd.canLay0&&PyData.canLayAll0 (pds xs))=true by rw [ih1,ih2];rfl) h
noncomputable def Oc (x:AV):Prop:=∀y,CW y→(PyData.eqv x.pd y.pd=true↔x=y)
noncomputable def Oy (l:List AV):Prop:=∀m,Plns m→(PyData.eqvAll (pds l) (pds m)=true↔l=m)
theorem Kl {l:List AV} (ih:Oy l):Oc (.tup l)∧Oc (.lst l):=by
 refine ⟨fun y q=>?_,fun y q=>?_⟩
 ·cases q with
  |tup q=>simp only [Jj,Ji,Jh,Jg,Jf,Je,PyData.eqv,AV.tup.injEq];exact ih _ q
  |_=>simp [Jj,Ji,Jh,Jg,Jf,Je,PyData.eqv]
 ·cases q with
  |lst q=>simp only [Jj,Ji,Jh,Jg,Jf,Je,PyData.eqv,AV.lst.injEq];exact ih _ q
  |_=>simp [Jj,Ji,Jh,Jg,Jf,Je,PyData.eqv]
theorem CW.eqvM {x:AV} (h:CW x):Oc x:=
 CW.rec (motive_1:=fun x zu=>Oc x) (motive_2:=fun l zu=>Oy l) (fun y q=>by cases (q)<;>simp [Jj,Ji,Jh,Jg,Jf,Je,PyData.eqv]) (fun i y q=>by cases (q)<;>simp [Jj,Ji,Jh,Jg,Jf,Je,PyData.eqv]) (fun {x} zu y q=>by cases (q)<;>simp [Jj,Ji,Jh,Jg,Jf,Je,PyData.eqv])
  (fun zu ih=>(Kl ih).1) (fun zu ih=>(Kl ih).2) (fun m q=>by cases (q)<;>simp [HW,HV,PyData.eqvAll]) (fun {x xs} zu zu ih1 ih2 m q=>by
   cases q with
   |nil=>simp [HW,HV,PyData.eqvAll]
   |cons c d=>
    simp only [HW,HV,PyData.eqvAll,Bool.and_eq_true,List.cons.injEq]
    rw [ih1 _ c,ih2 _ d]) h
theorem CW.eqv {x y:AV} (p:CW x) (q:CW y):PyData.eqv x.pd y.pd=true↔x=y:=p.eqvM y q
theorem Plns.inv {x:AV} {l:List AV} (h:Plns (x::l)):CW x∧Plns l:=by cases h with|cons a b=>exact ⟨a,b⟩
theorem CW.noBool {b:Bool} {P:Prop} (h:CW (.bool b)):P:=by cases (h)
theorem CW.noBytes {b:Array UInt8} {P:Prop} (h:CW (.bytes b)):P:=by cases (h)
theorem CW.noRef {b:Addr} {P:Prop} (h:CW (.ref b)):P:=by cases (h)
theorem CW.noVal {b:Value} {P:Prop} (h:CW (.val b)):P:=by cases (h)
theorem VR.reads {h:Heap} (hF:∀b o,F b=some o→h.get? b=some o) {x:AV} {v:Value} (p:CW x) (r:VR F x v):∃as,Reads h v x.pd as:=
 VR.rec (motive_1:=fun x v zu=>CW x→∃as,Reads h v x.pd as) (motive_2:=fun l vs zu=>Plns l→∃as,ReadsAll h vs (pds l) as) (fun zu=>⟨_,.none⟩) (fun zu p=>p.noBool) (fun i t zu=>⟨_,.int i t⟩) (fun x t zu=>⟨_,.str x t⟩) (fun zu zu p=>p.noBytes)
  (fun a b c zu ih p=>(ih p.tupI).elim fun as r=>⟨_,.tuple (hF _ _ a) b c r⟩) (fun a b c zu ih p=>(ih p.lstI).elim fun as r=>⟨_,.list (hF _ _ a) b c r⟩) (fun zu p=>p.noRef) (fun zu p=>p.noVal) (fun zu=>⟨_,.nil⟩) (fun zu zu i1 i2 p=>(i1 p.inv.1).elim fun as r=>(i2 p.inv.2).elim fun bs t=>⟨_,.cons r t⟩) r p
theorem VRs.reads {h:Heap} (hF:∀b o,F b=some o→h.get? b=some o) {x:List AV} {v:List Value} (p:Plns x) (r:VRs F x v):∃as,ReadsAll h v (pds x) as:=
 VRs.ind (M:=fun l vs=>Plns l→∃as,ReadsAll h vs (pds l) as) (fun zu=>⟨_,.nil⟩) (fun a zu ih p=>(VR.reads hF p.inv.1 a).elim fun as r=>(ih p.inv.2).elim fun bs t=>⟨_,.cons r t⟩) r p
theorem VR.inj {h:Heap} (hF:∀b o,F b=some o→h.get? b=some o) {x y:AV} {v:Value} (p:CW x) (q:CW y) (a:VR F x v) (b:VR F y v):x=y:=by
 refine xa1_1 (a.reads hF p) ?_;intro as a
 refine xa1_1 (b.reads hF q) ?_;intro bs b
 have e:=(Reads.unique a _ _ b).1
 exact (p.eqv q).mp (by rw [←e];exact SeqAt.eqv_refl _ p.lay)
noncomputable def Dp (n:Nat) (x:AV):Prop:=x.pd.depth≤n
theorem Oo {n:Nat}:∀{l:List AV},(∀x∈l,Dp n x)→PyData.depthAll (pds l)≤n
 |[],_=>by simp [HW,HV,PyData.depthAll]
 |x::l,h=>by
  simp only [HW,HV,PyData.depthAll]
  have h1:=h x (by simp)
  have h2:=Oo (l:=l) fun y hy=>h y (by simp [hy])
  unfold Dp at h1
  omega
theorem Dp.int (n:Nat) (i:Int):Dp n (.int i):=Nat.zero_le _
theorem Dp.tup {n:Nat} {l:List AV} (h:∀x∈l,Dp n x):Dp (n+1) (.tup l):=Nat.succ_le_succ (Oo h)
theorem BY.reads {x:AV} {b:Bool} {v:Value} (r:BY hp F (x,b) v) (p:CW x) (w:Wp C A hp F s):∃as,Reads s.heap v x.pd as:=by
 cases r with
 |val r=>exact r.reads w.fz p
 |own h1=>
  cases p with|lst p=>
  refine cps fun zP zk=>?_;(rcases w.ob _ _ h1 with ⟨zu,o,h1,r⟩)<;>(refine zk ?_;clear zk zP)
  (refine OR.listC r fun zv zv q1 q2 q3 q4 q5=>?_;clear r)
  refine xa1_1 (q5.reads w.fz p) ?_;intro as r
  exact ⟨_,.list h1 q1 q4 r⟩
open Classical in
theorem Qz {x:AV} {ys:List AV} {a b:Bool} (p:CW x) (q:Plns ys) (hd:Dp 60 x) (hu:A.units≤9000):J8 C A hp (BY hp) (compareOp .In) (x,a) (.lst ys,b) (.bool (decide (x∈ys)),false):=fun F s E v u hin hv hw=>by
 refine xa4_6 (hw.lstI hin) ?_;intro l;intro zq;refine cps fun zP zk=>?_;(rcases zq with ⟨cls,dd,data,sl⟩)<;>(refine zk ?_;clear zk zP);intro vs n;rintro rfl;intro ho hc hdt hvs zu
 dsimp only at hc hdt
 subst hc hdt
 refine xa1_1 (hv.reads p hin) ?_;intro bs rb
 have hm:∀w∈vs,∃y∈ys,VR F y w:=by
  intro w hw
  refine xa1_1 (List.mem_iff_getElem?.mp hw) ?_;intro i hi
  have hlt:i<ys.length:=by rw [←hvs.length];exact (List.getElem?_eq_some_iff.mp hi).1
  refine xa1_2 (hvs.get (i:=i) (x:=ys[i]) (by simp [hlt])) ?_;intro w' h1 h2
  rw [hi] at h1;(have zc:=Option.some.inj h1;clear h1;subst zc)
  exact ⟨_,List.getElem_mem hlt,h2⟩
 have hm':∀y∈ys,∃w∈vs,VR F y w:=by
  intro y hy
  refine xa1_1 (List.mem_iff_getElem?.mp hy) ?_;intro i hi
  refine xa1_2 (hvs.get hi) ?_;intro w h1 h2
  exact ⟨w,List.mem_iff_getElem?.mpr ⟨i,h1⟩,h2⟩
 refine SeqRoads2.in_meets ⟨_,ho,rfl⟩ PySem.F.slot_list_contains PySem.F.entry_list_contains (PySem.F.args_list_contains_2 _ _) (SeqAt.list_containsAt l vs.toArray n dd sl v (fun w=>decide (VR F x w))) ⟨ho,fun w hw=>?_,_,rfl,Cr.here (t:=s.toks) hin (.val ?_)⟩
 ·refine xa1_2 (hm w (by simpa using hw)) ?_;intro y hy hyw
  have py:=q.mem y hy
  refine xa1_1 (hyw.reads hin.fz py) ?_;intro as ra
  intro prog w' E' Q' hQ'
  refine SeqAt.eqBoolOverData prog w' A.in1 E' s w v _ _ as bs Q' ra rb py.lay p.lay ?_ ?_
  ·unfold Dp at hd
   have h1:cLine=9900:=rfl
   have h2:A.in1.units≤A.units+1:=by simp [Around.in1]
   omega
  ·have:PyData.eqv y.pd x.pd=decide (VR F x w):=by
    rw [Bool.eq_iff_iff,py.eqv p,decide_eq_true_iff]
    constructor
    ·rintro rfl;exact hyw
    ·intro hx;exact VR.inj hin.fz py p hyw hx
   rw [this];exact hQ'
 ·have e:(vs.toArray.any fun w=>decide (VR F x w))=decide (x∈ys):=by
   rw [Bool.eq_iff_iff]
   simp only [List.any_toArray,List.any_eq_true,decide_eq_true_eq]
   constructor
   ·(intro zr;refine xa1_2 zr ?_;(try clear zr);intro w hw hxw)
    refine xa1_2 (hm w hw) ?_;intro y hy hyw
    rw [VR.inj hin.fz p (q.mem y hy) hxw hyw];exact hy
   ·intro hx;exact hm' x hx
  rw [e]
  exact .bool _
theorem VRs.ints {ns:List Int} {vs:List Value} (h:VRs F (ns.map .int) vs):IntsAre vs ns:=by
 induction ns generalizing vs with
 |nil=>(have zc:=VRs.nilI h;clear h;subst zc);exact .nil
 |cons n ns ih=>
  cases h with|cons a b=>
  (have zc:=VR.intI a;clear a;rcases zc with ⟨zu,zc⟩;subst zc)
  exact .cons _ _ (ih b)
theorem OO {a b:Int} (hA:A.handled=none):PK C A hp (.builtin "max") [(.int a,false),(.int b,false)] (.int (max a b),false):=fun F s E us hin r=>by
 refine xa2_3 r.inv ?_;intro v us;rintro rfl;intro r1 r
 refine xa2_3 r.inv ?_;intro v2 us;rintro rfl;intro r2 r
 obtain rfl:=r.nilI
 refine xa1_1 r1.out.intI ?_;intro t;rintro rfl
 refine xa1_1 r2.out.intI ?_;intro t2;rintro rfl
 refine max_two_ints hA fun h' tk hk=>?_
 have st:=BH.keep (t:=tk) hin hk
 split
 ·rename_i q;rw [Int.max_eq_right (by omega)];exact ⟨F,st,.val (.int _ _)⟩
 ·rename_i q;rw [Int.max_eq_left (by omega)];exact ⟨F,st,.val (.int _ _)⟩
end
end
section
section
variable {C:Cf} {A:Around} {s:Shared} {F G:FH} {env:Env} {E:Value→Shared→Prop} {hp:HP} {loc:PL}
theorem IE {o:Expr} {apos pos:Pos} {x:Str} (h:PE C A hp env loc o (.str x,false)) (hz:x.length≤100000) (hb:autoParam (attributeBase o "lower" env (eval o env)=eval o env) AC.aux0._auto_1)
  (hfew:autoParam (((backTo pos (starEach [] env)).all (fun x=>!x.1)&&(backToKw pos (keywordEach [] env)).all (fun x=>x.1.isSome)&&decide (([]:List Expr).length+([]:List Keyword).length+(if ([]:List Keyword).isEmpty then 0 else 1)<30))=true) AC.aux0._auto_1)
  (hl:autoParam ((apos.endLine == pos.line)=true) AC.aux0._auto_1) (ht:autoParam (backTo pos (starEach [] env)=[]) AC.aux0._auto_1):PE C A hp env loc (.Call (.Attribute o "lower" apos) [] [] pos) (.str (Txt.lower x),false):=.mk fun F s E c=>by
 refine wpAny_Call_method_lateS hb hfew hl ?_
 rw [ht]
 refine h.use c fun F₁ s₁ v st₁ c₁ r=>?_
 refine xa1_1 r.out.strI ?_;intro t;rintro rfl
 exact SB.lower (fit_lower (by exact At [_] [(1,Z0,(Zn 100000))] Z0 (Zn 5592405) rfl hz)) ((Cr.here (t:=s₁.toks+1) c₁.wp (.val (.str _ _))).pre st₁)
inductive Ly:Bool→AV→AV→Prop
 |no {v}:Ly false v v
 |yes {x} (h:x.length≤100000):Ly true (.str x) (.str (Txt.lower x))
end
end
section
variable {C:Cf} {A:Around} {E:Value→Shared→Prop}
@[reducible] noncomputable def Al.v (σ:Al) (x:Str):Option AV:=σ.loc.lookup x
theorem OD {X:Af} (h:X.Ph1) {u:Ag} (hu:u∈X.D) {c:Au} {q:Ag} (e:X.look u c=some q):q=u++[c]∧q∈X.D:=by
 by_cases m:u++[c]∈X.D
 ·rw [h.kid1 u hu c m] at e;(have zc:=Option.some.inj e;clear e;subst zc);exact ⟨rfl,m⟩
 ·rw [h.kid0 u hu c m] at e;exact Ak e
theorem IB (T:Tp C) {r:FdRest} {L:Addr} {X:Af} {t d:Addr} {ci:Bool} {kw kw':AV} {w:Ag} {σ:Al} (hA:A.handled=none) (hroom:A.depth+1<recursionLimit)
  (hX:X.Ph1) (hr:AN X t d false ci σ.hp) (hs:BI kw' (w.map Au.av) σ.hp) (sep:∀a,kw'=.ref a→¬Fp X t d a) (hz:X.D.length+w.length≤4000) (hk:∀u,kw≠.val u)
  (l1:σ.v "self" = some (.ref t)) (l2:σ.v "keyword" = some kw') (l3:σ.v "original_keyword" = some kw) {Q:A6→Al→Prop}
  (h1:∀σ',HG X w kw t d ci σ.hp σ'.hp→Q .next σ') (h2:∀σ',HG X w kw t d ci σ.hp σ'.hp→Q (.ret .none) σ') :
  Cq C A Bj (callEnv (r.fd IC .none) L 66) (IC.body.drop 3) σ Q:=by
 have hw0:(w.map Au.av).length=w.length:=List.length_map ..
 refine Ab (Bd (Be (AJ (Bt T.g_len (A2 (Ac l2 (Ax (A5 (Kf hs (G1 (OQ ⟨_,rfl,?_⟩)))))))))))
 rw [hw0]
 by_cases hwn:w=[]
 ·subst hwn
  rw [if_pos (by simp)]
  refine Ab (D5 ?_)
  refine h2 σ ⟨X,hX,hr,BS.refl _ _,fun p=>?_,fun p=>?_,Nat.le_refl _,rfl⟩
  ·constructor
   ·exact .inl
   ·rintro (x|x)
    ·exact x
    ·simp at x;subst x;exact hX.wf.root
  ·simp
 rw [if_neg (by
  have:0<w.length:=List.length_pos_iff.mpr hwn
  simp;assumption)]
 refine Am ?_
 refine Ab (Ai (Aq (Ac l1 (Bv T.n_zero hr.tree hr.ns rfl ?_))))
 refine Ab (HB (fun zu zu hp=>BI kw' (w.map Au.av) hp)
  (fun zu zu xs σ'=>∃(u rest:Ag) (X':Af),xs=rest.map Au.av∧w=u++rest∧X'.Ph1∧AN X' t d false ci σ'.hp∧BS (Fp X t d) σ.hp (Fp X' t d) σ'.hp∧(∀p,p∈X'.D↔p∈X.D∨p <+: u) ∧
   X'.key=X.key∧X'.D.length≤X.D.length+u.length∧X'.A []=X.A []∧σ'.v "self" = some (.ref t)∧σ'.v "original_keyword" = some kw∧σ'.v "current_state" = some (.ref (X'.A u)))
  (Ac (Ah l2) ⟨w.map Au.av,Mv hs Ea hA,?_⟩) ?_ ?_ ?_)
 ·exact ⟨[],w,X,rfl,rfl,hX,hr,BS.refl _ _,fun p=>⟨.inl,fun x=>x.elim id (fun y=>by simp at y;subst y;exact hX.wf.root)⟩,rfl,Nat.le_refl _,rfl,Ah l1,Ah l3,Av⟩
 ·(rintro zu zu xs σ';intro zr;refine xa3_1 zr ?_;(try clear zr);intro u rest X' h)
  exact hs.fr sep h.2.2.2.2.1
 ·(rintro zu zu x xs σ';intro zr;refine xa3_12 zr ?_;(try clear zr);intro u rest X' e1 e2 hX' hr' hf' hD' hk' hz' ha' m1 m3 m4)
  obtain ⟨c,rest',rfl,rfl,rfl⟩:∃c rest',rest=c::rest'∧x=c.av∧xs=rest'.map Au.av:=by
   cases rest with
   |nil=>cases e1
   |cons c rest'=>simp only [List.map_cons,List.cons.injEq] at e1;exact ⟨c,rest',rfl,e1.1,e1.2⟩
  have hu:u∈X'.D:=(hD' u).mpr (.inr (List.prefix_refl u))
  refine xa1_1 (hr'.td u hu) ?_;intro ep htd
  refine By ?_
  refine Tr.gen fun K hK=>?_
  refine Ab (JD T.sysm hA T.g_KE (Aq (Ac (Ah m4) (Bx T.s_tr (hr'.nd u hu) rfl (Ac Av ⟨_,_,ep,c,rfl,htd,rfl,?_,?_⟩)))))
  ·intro v hv
   rw [Af.at_trv] at hv
   refine xa1_2 (Option.map_eq_some_iff.mp hv) ?_;intro q hq;rintro rfl
   refine xa0_2 (OD hX' hu hq) ?_;rintro rfl;intro hqD
   refine Am (hK _ _ ?_)
   refine ⟨u++[c],rest',X',rfl,by simp [e2],hX',hr',hf',fun p=>?_,hk',?_,ha',Ah (Ah m1),Ah (Ah m3),Av⟩
   ·rw [hD' p]
    constructor
    ·exact Or.imp_right (fun x=>x.trans (List.prefix_append ..))
    ·rintro (x|x)
     ·exact .inl x
     ·rcases List.prefix_concat_iff.mp x with rfl|y
      ·exact (hD' _).mp hqD
      ·exact .inr y
   ·simp;exact At [_,_,_] [(1,Z0,(Za Z1 Z2))] Z0 (Za Z1 (Zs Z2)) rfl hz'
  ·intro hn e
   rw [Af.at_trv] at hn
   have hlk:=Option.map_eq_none_iff.mp hn
   have hnD:u++[c]∉X'.D:=fun m=>by rw [hX'.kid1 u hu c m] at hlk;exact Ap hlk
   refine Ab (Ai (AJ (DI T.g_State (A2 (Aq (Ac (Ah m1) (Bv T.n_cnt hr'.tree hr'.ns rfl (Ax (Ow (Ac (Ah m4) (Ow (Ac Av (A5 (Fd T.mkS (GQ T (by exact hroom) (.inl rfl) ?_)))))))))))))))
   intro a b hp1 ha hb hba q1 q2 q3
   have hta:t≠a:=by rintro rfl;rw [show (σ'.set "char" c.av).hp=σ'.hp from rfl,hr'.tree] at ha;exact Ap ha
   have htb:t≠b:=by rintro rfl;rw [show (σ'.set "char" c.av).hp=σ'.hp from rfl,hr'.tree] at hb;exact Ap hb
   have hda:d≠a:=by rintro rfl;rw [show (σ'.set "char" c.av).hp=σ'.hp from rfl,hr'.ns] at ha;exact Ap ha
   have hdb:d≠b:=by rintro rfl;rw [show (σ'.set "char" c.av).hp=σ'.hp from rfl,hr'.ns] at hb;exact Ap hb
   have hAa:X'.A u≠a:=fun e=>by rw [←e,show (σ'.set "char" c.av).hp=σ'.hp from rfl,hr'.nd u hu] at ha;exact Ap ha
   have hAb:X'.A u≠b:=fun e=>by rw [←e,show (σ'.set "char" c.av).hp=σ'.hp from rfl,hr'.nd u hu] at hb;exact Ap hb
   have hTa:X'.T u≠a:=fun e=>by rw [←e,show (σ'.set "char" c.av).hp=σ'.hp from rfl,htd] at ha;exact Ap ha
   have hTb:X'.T u≠b:=fun e=>by rw [←e,show (σ'.set "char" c.av).hp=σ'.hp from rfl,htd] at hb;exact Ap hb
   refine xa0_6 (Af.Wf.dist hr' hu hu) ?_;intro d1 d2 d3 d4 d5 d6
   have g1:hp1 t=some (.inst 125 d):=(q3 t hta htb).trans hr'.tree
   have g2:hp1 d=some (.ns (EQ (X'.A []) X'.D.length false ci)):=(q3 d hda hdb).trans hr'.ns
   have g3:hp1 (X'.A u)=some (X'.nodeAO u):=(q3 _ hAa hAb).trans (hr'.nd u hu)
   have g4:hp1 (X'.T u)=some (.dict (X'.trv u) ep):=(q3 _ hTa hTb).trans htd
   refine Ab (II (Ac (Ah (Ah m1)) (Bv T.n_cnt g1 g2 rfl (G1 (My (Dl T.n_cnt g1 g2 ?_ (hz:=Nat.le_of_ble_eq_true (by rfl))))))))
   refine Ab (BO (Ac Av (Aq (Ac (Ah (Ah m4)) (Bx T.s_tr ((Ad _ _ d3).trans g3) rfl (Ac (Ah Av) (I3 ((Ad _ _ d5).trans g4) ?_ ?_)))))))
   ·have:=hX'.wf.trlen hu
    simp only [Af.trv,List.length_map]
    have:u.length≤w.length:=by rw [e2];simp
    exact At [_,_,_,_,_] [(1,(Za Z1 Z2),(Zn 4000)),(1,Z3,(Za Z1 Z4)),(1,Z0,Z3),(1,Z4,Z2)] Z0 (Zn 4096) rfl hz hz' (by assumption) this
   intro ep'
   refine Ab (Ai (Ac Av (Am (Am (hK _ _ ?_)))))
   have hst:FY (X'.trv u) c (.ref a)=X'.trv u++[(c,.ref a)]:=by
    have:(X'.trv u).any (fun p=>p.1=c)=false:=by
     rw [List.any_eq_false]
     intro p hp
     refine xa1_2 (List.mem_map.mp hp) ?_;intro e' he';rintro rfl
     simpa using CT hlk e' he'
    simp only [FY,this];rfl
   refine xa0_3 (Mz (hp':=upd (upd hp1 d (.ns (EQ (X'.A []) (X'.D.length+1) false ci))) (X'.T u) (.dict (X'.trv u++[(c,.ref a)]) ep')) hX' hr' hu hnD ha hb hba
    (by rw [Ad _ _ hTa.symm,Ad _ _ hda.symm];exact q1) (by rw [Ad _ _ hTb.symm,Ad _ _ hdb.symm];exact q2) (by rw [Ad _ _ d5.symm,Ae]) ⟨ep',Ae _ _ _⟩
    (fun x x1 x2 x3 x4=>by rw [Ad _ _ x4,Ad _ _ x3];exact q3 x x1 x2)) ?_;intro w1 w2 w3
   refine ⟨u++[c],rest',X'.grow u c a b,rfl,by simp [e2],w1,?_,hf'.trans ?_,fun p=>?_,hk',?_,?_,?_,?_,?_⟩
   ·rw [hst];exact w2
   ·rw [hst];exact w3
   ·simp only [Af.grow,List.mem_append,List.mem_singleton,hD' p]
    constructor
    ·rintro ((x|x)|x)
     ·exact .inl x
     ·exact .inr (x.trans (List.prefix_append ..))
     ·rw [x];exact .inr (List.prefix_refl _)
    ·rintro (x|x)
     ·exact .inl (.inl x)
     ·rcases List.prefix_concat_iff.mp x with y|y
      ·exact .inr y
      ·exact .inl (.inr y)
   ·simp only [Af.grow,List.length_append,List.length_singleton];exact At [_,_,_] [(1,Z0,(Za Z1 Z2))] (Zs Z0) (Za Z1 (Zs Z2)) rfl hz'
   ·rw [←ha'];exact if_neg (by simp)
   ·exact Ah (Ah (Ah m1))
   ·exact Ah (Ah (Ah m3))
   ·rw [show (X'.grow u c a b).A (u++[c])=a from if_pos rfl];exact Av
 ·(rintro zu zu σ';intro zr;refine xa3_12 zr ?_;(try clear zr);intro u rest X' e1 e2 hX' hr' hf' hD' hk' hz' ha' m1 m3 m4)
  have:rest=[]:=by cases rest with|nil=>rfl|cons=>cases e1
  subst this
  simp at e2;subst e2
  have hw:w∈X'.D:=(hD' w).mpr (.inr (List.prefix_refl w))
  refine Ab (An (FQ (Ac m4 (Bo T.s_suc (hr'.nd w hw) ?_))))
  refine Ab (An (Ac m3 (Ac m4 (Bo T.s_mk (Ae _ _ _) ?_))))
  refine Am (h1 _ ?_)
  refine xa0_2 (IY hX' hr' hw hk) ?_;intro w1 w2
  have hn:AO.slot 34 (setSlot (setSlot [some (.int (X'.D.idxOf w)),some (X'.lssv w),some ((X'.key w).getD .none),X'.out w,some (X'.parv w),some (.bool (X'.key w).isSome),some (FU w),some (.ref (X'.T w))] 5 (.bool true)) 2 kw)=(X'.setKey w kw).nodeAO w:=by
   have:(X'.setKey w kw).key w=some kw:=if_pos rfl
   simp only [Af.nodeAO,this]
   simp [setSlot,Eu,Af.setKey,Af.lssv,Af.parv]
  refine ⟨X'.setKey w kw,w1,?_,⟨fun x hx hP=>?_,hf'.grow⟩,hD',fun p=>?_,hz',ha'⟩
  ·have:upd (upd σ'.hp (X'.A w) (.slot 34 (setSlot [some (.int (X'.D.idxOf w)),some (X'.lssv w),some ((X'.key w).getD .none),X'.out w,some (X'.parv w),some (.bool (X'.key w).isSome),some (FU w),some (.ref (X'.T w))] 5 (.bool true)))) (X'.A w)
     (.slot 34 (setSlot (setSlot [some (.int (X'.D.idxOf w)),some (X'.lssv w),some ((X'.key w).getD .none),X'.out w,some (X'.parv w),some (.bool (X'.key w).isSome),some (FU w),some (.ref (X'.T w))] 5 (.bool true)) 2 kw))=upd σ'.hp (X'.A w) ((X'.setKey w kw).nodeAO w):=by
    rw [hn];funext b;simp only [upd];split<;>rfl
   have w2:=w2
   rw [←this] at w2
   exact w2
  ·have:x≠X'.A w:=by
    rintro rfl
    rcases hf'.grow _ (.inr (.inr ⟨w,hw,.inl rfl⟩)) with q|q
    ·exact hP q
    ·exact hx q
   exact ((Ad _ _ this).trans (Ad _ _ this)).trans (hf'.keep x hx hP)
  ·simp only [Af.setKey,hk']
   simp [hwn]
theorem Pa (T:Tp C) {X:Af} {t d:Addr} {ci:Bool} {kw kw':AV} {w:Ag} {hp:HP} (hA:A.handled=none) (hroom:A.depth+2<recursionLimit)
  (hX:X.Ph1) (hr:AN X t d false ci hp) (hlo:Ly ci kw kw') (hs:BI kw' (w.map Au.av) hp) (sep:∀a,kw'=.ref a→¬Fp X t d a) (hz:X.D.length+w.length≤4000) (hk:∀u,kw≠.val u) :
  Fn C A (.ref 66) [.ref t,kw] [] hp (fun v hp'=>v=.none∧HG X w kw t d ci hp hp'):=by
 refine xa1_1 T.f_add ?_;intro r hf
 refine CX (body:=IC.body) hf (Lr C r _ _) (fun L=>?_) (by with_reducible exact Gh ‹_›) (by kernel_rfl) (by kernel_rfl) (by kernel_rfl) (by kernel_rfl) (by kernel_rfl)
 refine Ab (Bd (Bl (Aq (Ac rfl (Bv T.n_fin hr.tree hr.ns rfl (AQ (Am ?_)))))))
 refine Ab (Ai (Ac rfl ?_))
 cases hlo with
 |no=>
  refine Ab (Bd (Bl (Aq (Ac rfl (Bv T.n_ci hr.tree hr.ns rfl (AQ (Am ?_)))))))
  show Cq C _ Bj _ (IC.body.drop 3) _ _
  refine IB T ?_ ?_ hX hr hs sep hz hk ?_ ?_ ?_ (fun σ' h=>⟨rfl,h⟩) (fun σ' h=>⟨rfl,h⟩)
  ·exact hA
  ·exact hroom
  ·rfl
  ·rfl
  ·rfl
 |@yes x hx=>
  refine Ab (Bd (Bl (Aq (Ac rfl (Bv T.n_ci hr.tree hr.ns rfl (AQ (Ab (D4 [] (.str (Txt.lower x)) (IE (Aj rfl) hx) (Am ?_)))))))))
  show Cq C _ Bj _ (IC.body.drop 3) _ _
  refine IB T ?_ ?_ hX hr hs sep hz hk ?_ ?_ ?_ (fun σ' h=>⟨rfl,h⟩) (fun σ' h=>⟨rfl,h⟩)
  ·exact hA
  ·exact hroom
  ·rfl
  ·rfl
  ·rfl
end
section
noncomputable def BZ (D:List Ag):Ag→Ag
 |[]=>[]
 |c::p=>if (c::p)∈D then c::p else BZ D p
theorem FW {D:List Ag}:BZ D []=[]:=rfl
theorem Fj {D:List Ag} {c:Au} {p:Ag}:BZ D (c::p)=if (c::p)∈D then c::p else BZ D p:=rfl
noncomputable def Cj (D:List Ag) (p:Ag):Ag:=BZ D p.tail
noncomputable def DS (D:List Ag):Ag→Au→Option Ag
 |[],_=>none
 |x::p,c=>if (x::p)++[c]∈D then some ((x::p)++[c]) else DS D p c
theorem BM {D:List Ag} {c:Au}:DS D [] c=none:=rfl
theorem BK {D:List Ag} {c x:Au} {p:Ag}:DS D (x::p) c=if (x::p)++[c]∈D then some ((x::p)++[c]) else DS D p c:=rfl
noncomputable def Eb (D:List Ag) (p:Ag) (c:Au):Option Ag:=if p++[c]∈D then some (p++[c]) else none
noncomputable def Bw (D:List Ag) (p:Ag) (c:Au):Option Ag:=if p=[] then Eb D [] c else DS D p c
structure PC (D:List Ag):Prop where
 root:[]∈D
 closed:∀p c,p++[c]∈D→p∈D
theorem Af.Wf.pc {X:Af} (h:X.Wf):PC X.D:=⟨h.root,h.closed⟩
variable {D:List Ag}
theorem Cu (h:PC D):∀p,BZ D p∈D
 |[]=>h.root
 |c::p=>by
  simp only [FW,Fj];split
  ·assumption
  ·exact Cu h p
theorem DY:∀p,BZ D p <:+ p
 |[]=>List.suffix_refl _
 |c::p=>by
  simp only [FW,Fj];split
  ·exact List.suffix_refl _
  ·exact (DY p).trans (List.suffix_cons ..)
theorem JN:∀p q,q∈D→q <:+ p→q <:+ BZ D p
 |[],q,_,h=>by simp at h;subst h;exact List.suffix_refl _
 |c::p,q,hq,h=>by
  simp only [FW,Fj];split
  ·exact h
  ·rename_i hn
   rcases List.suffix_cons_iff.mp h with rfl|h'
   ·exact absurd hq hn
   ·exact JN p q hq h'
theorem FV {p:Ag} (h:p∈D):BZ D p=p:=by
 cases p with
 |nil=>rfl
 |cons c p=>simp [FW,Fj,h]
theorem DF (h:PC D) (c:Au):∀p,DS D p c=DS D (BZ D p) c
 |[]=>rfl
 |x::p=>by
  by_cases hm:(x::p)∈D
  ·rw [FV hm]
  ·have:(x::p)++[c]∉D:=fun q=>hm (h.closed _ _ q)
   rw [show BZ D (x::p)=BZ D p by simp [FW,Fj,hm],←DF h c p]
   simp only [BM,BK];rw [if_neg this]
theorem B9 (c:Au):∀p,BZ D (p++[c])=(DS D p c).getD (if [c]∈D then [c] else [])
 |[]=>by simp [FW,Fj,BM,BK]
 |x::p=>by
  have e:(x::p)++[c]=x::(p++[c]):=rfl
  simp only [BM,BK]
  by_cases hm:(x::p)++[c]∈D
  ·rw [if_pos hm,FV hm];rfl
  ·rw [if_neg hm,←B9 c p,e,Fj,if_neg (by rw [←e];exact hm)]
theorem JM (h:PC D) (p:Ag) (c:Au):BZ D (p++[c])=BZ D (BZ D p++[c]):=by
 rw [B9,B9,←DF h]
theorem Js {p:Ag} {c:Au} {q:Ag} (h:DS D p c=some q):q∈D∧∃r,q=r++[c]∧r <:+ p∧r≠[]:=by
 induction p with
 |nil=>exact Ak h
 |cons x p ih=>
  simp only [BM,BK] at h
  split at h
  ·(have zc:=Option.some.inj h;clear h;subst zc);rename_i hm;exact ⟨hm,x::p,rfl,List.suffix_refl _,by simp⟩
  ·refine cps fun zP zk=>?_;(rcases ih h with ⟨a,r,b,d,e⟩)<;>(refine zk ?_;clear zk zP)
   exact ⟨a,r,b,d.trans (List.suffix_cons ..),e⟩
theorem EX {p:Ag} {c:Au} {q:Ag} (h:Bw D p c=some q):q∈D∧∃r,q=r++[c]∧r <:+ p:=by
 simp only [Bw] at h
 split at h
 ·simp only [Eb] at h
  split at h
  ·(have zc:=Option.some.inj h;clear h;subst zc);rename_i hm;exact ⟨hm,[],rfl,List.nil_suffix⟩
  ·exact Ak h
 ·refine cps fun zP zk=>?_;(rcases Js h with ⟨a,r,b,d,zu⟩)<;>(refine zk ?_;clear zk zP)
  exact ⟨a,r,b,d⟩
theorem KU (h:PC D) {p:Ag} (hp:p≠[]) (c:Au):Bw D p c=(Eb D p c).or (if Cj D p=[] then none else Bw D (Cj D p) c):=by
 obtain ⟨x,q,rfl⟩:∃x q,p=x::q:=by
  cases p with
  |nil=>exact absurd rfl hp
  |cons x q=>exact ⟨x,q,rfl⟩
 simp only [Bw,Cj,List.tail_cons,Eb,if_neg hp,BM,BK]
 by_cases hm:(x::q)++[c]∈D
 ·rw [if_pos hm];simp only [if_pos hm];rfl
 ·rw [if_neg hm];simp only [if_neg hm]
  rw [DF h]
  by_cases hs:BZ D q=[]
  ·simp [hs,BM,BK]
  ·simp [hs]
theorem DZ {p:Ag}:Cj D p <:+ p:=(DY p.tail).trans (List.tail_suffix p)
theorem DB {p:Ag} (hp:p≠[]):(Cj D p).length<p.length:=by
 have h1:=(DY (D:=D) p.tail).length_le
 have h2:0<p.length:=List.length_pos_iff.mpr hp
 simp only [Cj]
 rw [List.length_tail] at h1;exact B6 [_,_,_] [(1,Z0,Z2),(1,(Zs Z2),Z1)] Z0 Z1 rfl h1 (Nat.le_of_eq (Nat.sub_add_cancel (At [_] [(1,(Zs (Zn 0)),Z0)] (Zn 1) Z0 rfl h2)))
theorem JQ {p q:Ag} (hq:q∈D) (h:q <:+ p) (hne:q≠p):q <:+ Cj D p:=by
 cases p with
 |nil=>simp at h;exact absurd h hne
 |cons x p=>
  rcases List.suffix_cons_iff.mp h with e|e
  ·exact absurd e hne
  ·exact JN p q hq e
theorem KM (h:PC D) {q:Ag} (hq:q≠[]) (c:Au):Cj D (q++[c])=BZ D (Cj D q++[c]):=by
 obtain ⟨x,q,rfl⟩:∃x q',q=x::q':=by
  cases q with
  |nil=>exact absurd rfl hq
  |cons x q=>exact ⟨x,q,rfl⟩
 simp only [Cj,List.cons_append,List.tail_cons]
 exact JM h q c
theorem Ht {r:Ag} {c:Au} {x:Ag} (h:Bw D r c=some x):BZ D (r++[c])=x:=by
 rw [B9]
 simp only [Bw] at h
 split at h
 ·rename_i e;subst e
  simp only [Eb] at h
  split at h
  ·(have zc:=Option.some.inj h;clear h;subst zc);rename_i hm;simp only [BM,BK,Option.getD_none];exact if_pos hm
  ·exact Ak h
 ·rw [h];rfl
theorem Ik {c:Au} (h:Bw D [] c=none):BZ D ([]++[c])=[]:=by
 rw [B9]
 simp only [Bw,Eb] at h
 simp only [BM,BK,Option.getD_none]
 rw [if_neg]
 intro hm
 simp [hm] at h
theorem Me (hc:PC D) {r:Ag} {c:Au} (hr:r≠[]) (h:Bw D r c=none):BZ D (r++[c])=BZ D (Cj D r++[c]):=by
 obtain ⟨x,r,rfl⟩:∃x r',r=x::r':=by
  cases r with
  |nil=>exact absurd rfl hr
  |cons x q=>exact ⟨x,q,rfl⟩
 rw [B9,B9]
 simp only [Cj,List.tail_cons]
 rw [←DF hc]
 simp only [Bw,if_neg hr] at h
 rw [h]
 simp only [BM,BK] at h
 split at h
 ·exact Ap h
 ·rw [h]
noncomputable def Af.UD (X:Af) (p:Ag):Prop:=X.lss p=none∧∀c,X.look p c=Eb X.D p c
noncomputable def Af.DN (X:Af) (p:Ag):Prop:=X.lss p=some (Cj X.D p)∧∀c,X.look p c=Bw X.D p c
noncomputable def Af.AD (X:Af) (p:Ag):Prop:=∀r,r <:+ p→r∈X.D→X.DN r
structure Af.Same (X X':Af):Prop where
 D:X'.D=X.D
 A:X'.A=X.A
 T:X'.T=X.T
 key:X'.key=X.key
 out:X'.out=X.out
theorem Af.Same.refl (X:Af):X.Same X:=⟨rfl,rfl,rfl,rfl,rfl⟩
theorem Af.Same.trans {X Y Z:Af} (a:X.Same Y) (b:Y.Same Z):X.Same Z:=⟨b.D.trans a.D,b.A.trans a.A,b.T.trans a.T,b.key.trans a.key,b.out.trans a.out⟩
theorem Af.Same.fp {X Y:Af} (a:X.Same Y) (t d:Addr):Fp Y t d=Fp X t d:=by
 funext x;simp only [Fp,a.D,a.A,a.T]
noncomputable def Af.Stay (X X':Af) (x:Ag):Prop:=X'.lss x=X.lss x∧X'.tr x=X.tr x
theorem Af.Stay.dn {X X':Af} (s:X.Same X') {x:Ag} (h:X.Stay X' x) (hd:X.DN x):X'.DN x:=by
 refine ⟨by rw [h.1,s.D];exact hd.1,fun c=>?_⟩
 rw [s.D,←hd.2 c];simp only [Af.look,h.2]
theorem Af.Stay.ud {X X':Af} (s:X.Same X') {x:Ag} (h:X.Stay X' x) (hd:X.UD x):X'.UD x:=by
 refine ⟨by rw [h.1];exact hd.1,fun c=>?_⟩
 rw [s.D,←hd.2 c];simp only [Af.look,h.2]
structure Af.Step (X X':Af):Prop where
 same:X.Same X'
 all:∀x∈X.D,X.Stay X' x∨X'.AD x
theorem Af.Step.refl (X:Af):X.Step X:=⟨.refl X,fun zu zu=>.inl ⟨rfl,rfl⟩⟩
theorem Af.Step.dn {X X':Af} (s:X.Step X') {x:Ag} (hx:x∈X.D) (h:X.DN x):X'.DN x:=by
 rcases s.all x hx with a|a
 ·exact a.dn s.same h
 ·exact a x (List.suffix_refl x) (s.same.D▸hx)
theorem Af.Step.ad {X X':Af} (s:X.Step X') {x:Ag} (h:X.AD x):X'.AD x:=fun r hr hD=>by
 have hD':r∈X.D:=s.same.D▸hD
 exact s.dn hD' (h r hr hD')
theorem Af.Step.trans {X Y Z:Af} (a:X.Step Y) (b:Y.Step Z):X.Step Z:=by
 refine ⟨a.same.trans b.same,fun x hx=>?_⟩
 rcases b.all x (a.same.D▸hx) with h|h
 ·rcases a.all x hx with h'|h'
  ·exact .inl ⟨h.1.trans h'.1,h.2.trans h'.2⟩
  ·exact .inr (b.ad h')
 ·exact .inr h
noncomputable def Af.setLss (X:Af) (p q:Ag):Af:={ X with lss:=fun x=>if x=p then some q else X.lss x }
noncomputable def Af.setTr (X:Af) (p:Ag) (m:List (Au×Ag)):Af:={ X with tr:=fun x=>if x=p then m else X.tr x }
noncomputable def Af.setOut (X:Af) (p:Ag) (v:AV):Af:={ X with out:=fun x=>if x=p then some v else X.out x }
theorem JZ {X X':Af} {t d:Addr} {fin ci:Bool} {hp:HP} (hr:AN X t d fin ci hp) {p:Ag} (hp':p∈X.D) (hD:X'.D=X.D) (hA:X'.A=X.A) (hT:X'.T=X.T) (htr:X'.tr=X.tr)
  (hn:∀x∈X.D,x≠p→X'.nodeAO x=X.nodeAO x):AN X' t d fin ci (upd hp (X.A p) (X'.nodeAO p)):=by
 have ds:=fun q hq=>Af.Wf.dist hr hp' (q:=q) hq
 refine ⟨?_,?_,?_,?_⟩
 ·rw [Ad _ _ (ds p hp').2.1.symm];exact hr.tree
 ·rw [Ad _ _ (ds p hp').2.2.1.symm,hA,hD];exact hr.ns
 ·intro x hx
  rw [hD] at hx
  rw [hA]
  by_cases e:x=p
  ·subst e;exact Ae _ _ _
  ·rw [Ad _ _ (fun q=>e (hr.ai hx hp' q)),hn x hx e];exact hr.nd x hx
 ·intro x hx
  rw [hD] at hx
  refine xa1_1 (hr.td x hx) ?_;intro ep q
  refine ⟨ep,?_⟩
  rw [hT,Ad _ _ (ds x hx).1.symm,q]
  simp only [Af.trv,htr,hA]
theorem Gc {X:Af} {t d:Addr} {fin ci:Bool} {hp:HP} (hr:AN X t d fin ci hp) {p q:Ag} (hp':p∈X.D):AN (X.setLss p q) t d fin ci (upd hp (X.A p) ((X.setLss p q).nodeAO p)):=by
 refine JZ hr hp' rfl rfl rfl rfl (fun x zu hx=>?_)
 have:(X.setLss p q).lss x=X.lss x:=if_neg hx
 simp only [Af.nodeAO,Af.lssv,this];rfl
theorem Gb {X:Af} {t d:Addr} {fin ci:Bool} {hp:HP} (hr:AN X t d fin ci hp) {p:Ag} {v:AV} (hp':p∈X.D):AN (X.setOut p v) t d fin ci (upd hp (X.A p) ((X.setOut p v).nodeAO p)):=by
 refine JZ hr hp' rfl rfl rfl rfl (fun x zu hx=>?_)
 have:(X.setOut p v).out x=X.out x:=if_neg hx
 simp only [Af.nodeAO,this];rfl
theorem KC {X:Af} {t d:Addr} {fin ci:Bool} {hp:HP} (hw:X.Wf) (hr:AN X t d fin ci hp) {p:Ag} {m:List (Au×Ag)} {ep:Nat} (hp':p∈X.D) :
  AN (X.setTr p m) t d fin ci (upd hp (X.T p) (.dict (m.map fun e=>(e.1,.ref (X.A e.2))) ep)):=by
 have ds:=fun q hq=>Af.Wf.dist hr (p:=q) hq hp'
 refine ⟨?_,?_,?_,?_⟩
 ·rw [Ad _ _ (ds p hp').2.2.2.1.symm];exact hr.tree
 ·rw [Ad _ _ (ds p hp').2.2.2.2.1.symm];exact hr.ns
 ·intro x hx
  exact (Ad _ _ (ds x hx).1).trans (hr.nd x hx)
 ·intro x hx
  by_cases e:x=p
  ·subst e
   refine ⟨ep,(Ae _ _ _).trans ?_⟩
   simp only [Af.trv,Af.setTr,if_true]
  ·refine xa1_1 (hr.td x hx) ?_;intro ep' q
   refine ⟨ep',((Ad _ _ (fun q=>e (hw.ti x hx p hp' q))).trans q).trans ?_⟩
   simp only [Af.trv,Af.setTr,if_neg e]
theorem BS.upd {P:Addr→Prop} {h:HP} {a:Addr} (x:AO) (ha:P a):BS P h P (AC.upd h a x):=⟨fun b zu hb=>Ad _ _ (fun zE=>hb (zE▸ha)),fun zu q=>.inl q⟩
theorem BS.new {P:Addr→Prop} {h:HP} {a:Addr} (x:AO) (ha:h a=none):BS P h P (AC.upd h a x):=⟨fun b hb zu=>Ad _ _ (fun zE=>hb (zE▸ha)),fun zu q=>.inl q⟩
theorem AN.new {X:Af} {t d:Addr} {fin ci:Bool} {hp:HP} (hr:AN X t d fin ci hp) {a:Addr} {x:AO} (ha:hp a=none):AN X t d fin ci (AC.upd hp a x):=by
 have ne:∀b y,hp b=some y→AC.upd hp a x b=some y:=fun b y e=>(Ad _ _ (fun zE=>by (first|rw [zE,ha] at e|rw [←zE,ha] at e);exact Ak e)).trans e
 exact ⟨ne _ _ hr.tree,ne _ _ hr.ns,fun p h=>ne _ _ (hr.nd p h),fun p h=>by refine xa1_1 (hr.td p h) ?_;intro ep q;exact ⟨ep,ne _ _ q⟩⟩
theorem AN.off {X:Af} {t d:Addr} {fin ci:Bool} {hp hp':HP} (hr:AN X t d fin ci hp) (h:∀a,Fp X t d a→hp' a=hp a):AN X t d fin ci hp':=
 ⟨(h _ (.inl rfl)).trans hr.tree,(h _ (.inr (.inl rfl))).trans hr.ns,fun p m=>(h _ (.inr (.inr ⟨p,m,.inl rfl⟩))).trans (hr.nd p m),fun p m=>by refine xa1_1 (hr.td p m) ?_;intro ep q;exact ⟨ep,(h _ (.inr (.inr ⟨p,m,.inr rfl⟩))).trans q⟩⟩
theorem AN.some {X:Af} {t d:Addr} {fin ci:Bool} {hp:HP} (hr:AN X t d fin ci hp) {a:Addr} (h:Fp X t d a):hp a≠none:=by
 rcases h with rfl|rfl|⟨p,m,rfl|rfl⟩
 ·rw [hr.tree];simp
 ·rw [hr.ns];simp
 ·rw [hr.nd p m];simp
 ·refine xa1_1 (hr.td p m) ?_;intro ep q;rw [q];simp
theorem MR {X:Af} (h:X.Wf) {p:Ag} {m:List (Au×Ag)} (h1:∀e∈m,e.2∈X.D) (h2:(m.map (·.1)).Nodup) (h3:∀e∈m,e.2.getLast? = some e.1):(X.setTr p m).Wf:=by
 refine ⟨h.root,h.nodup,h.closed,h.ti,?_,?_,?_,h.mkD,h.mkV⟩
 ·intro x hx e he
  simp only [Af.setTr] at he
  split at he
  ·exact h1 e he
  ·exact h.trD x hx e he
 ·intro x hx
  simp only [Af.setTr]
  split
  ·exact h2
  ·exact h.trN x hx
 ·intro x hx e he
  simp only [Af.setTr] at he
  split at he
  ·exact h3 e he
  ·exact h.trL x hx e he
theorem Hc {X:Af} (h:X.Wf) {p q:Ag}:(X.setLss p q).Wf:=⟨h.root,h.nodup,h.closed,h.ti,h.trD,h.trN,h.trL,h.mkD,h.mkV⟩
end
section
variable {C:Cf} {A:Around} {E:Value→Shared→Prop} {env:Env} {σ:Al}
theorem N2 {a:Addr} {l:List (Au×AV)} {ep:Nat} {Q:AV→List AV→Al→Prop} (hd:σ.hp a=some (.dict l ep)) (h:Q (.val (.builtin "dict.items")) [.ref a] σ):Dw C A E env (.ref a) "items" σ Q:=
 AU hd OR.clsD F.plainAttrs_dict F.slot_dict_items F.type_dict_items h
theorem Ij {a:Addr} {l:List (Au×AV)} {ep:Nat} {Q:AV→List AV→Al→Prop} (hd:σ.hp a=some (.dict l ep)) (h:Q (.val (.builtin "dict.values")) [.ref a] σ):Dw C A E env (.ref a) "values" σ Q:=
 AU hd OR.clsD F.plainAttrs_dict F.slot_dict_values F.type_dict_values h
theorem E0 {a:Addr} {l:List AV} {Q:AV→List AV→Al→Prop} (hd:σ.hp a=some (.list l)) (h:Q (.val (.builtin "list.append")) [.ref a] σ):Dw C A E env (.ref a) "append" σ Q:=
 AU hd OR.clsL F.plainAttrs_list F.slot_list_append F.type_list_append h
theorem Oj {a:Addr} {l:List AV} {Q:AV→List AV→Al→Prop} (hd:σ.hp a=some (.list l)) (h:Q (.val (.builtin "list.pop")) [.ref a] σ):Dw C A E env (.ref a) "pop" σ Q:=
 AU hd OR.clsL F.plainAttrs_list F.slot_list_pop F.type_list_pop h
theorem Mc {a:Addr} {S:Int→Bool} {n:Nat} {Q:AV→List AV→Al→Prop} (hd:σ.hp a=some (.iset S n)) (h:Q (.val (.builtin "set.add")) [.ref a] σ):Dw C A E env (.ref a) "add" σ Q:=
 AU hd OR.clsS F.plainAttrs_set F.slot_set_add F.type_set_add h
section Eu
variable {X:Af} {t d:Addr} {fin ci:Bool} {p:Ag}
theorem Ka {Q:AV→Al→Prop} (T:Tp C) (hr:AN X t d fin ci σ.hp) (hp:p∈X.D) (h:Q (.int (X.D.idxOf p)) σ):H7 C A E env VR (fun v=>getAttr v "identifier" true) (.ref (X.A p)) σ Q:=Bx T.s_id (hr.nd p hp) rfl h
theorem DP {Q:AV→Al→Prop} (T:Tp C) (hr:AN X t d fin ci σ.hp) (hp:p∈X.D) (h:Q (.ref (X.T p)) σ):H7 C A E env VR (fun v=>getAttr v "transitions" true) (.ref (X.A p)) σ Q:=Bx T.s_tr (hr.nd p hp) rfl h
theorem ES {Q:AV→Al→Prop} (T:Tp C) (hr:AN X t d fin ci σ.hp) (hp:p∈X.D) (h:Q (X.lssv p) σ):H7 C A E env VR (fun v=>getAttr v "longest_strict_suffix" true) (.ref (X.A p)) σ Q:=
 Bx T.s_lss (hr.nd p hp) rfl h (by intro u;simp only [Af.lssv];split<;>simp)
theorem OA {Q:AV→Al→Prop} (T:Tp C) (hr:AN X t d fin ci σ.hp) (hp:p∈X.D) (h:Q (X.parv p) σ):H7 C A E env VR (fun v=>getAttr v "parent" true) (.ref (X.A p)) σ Q:=
 Bx T.s_par (hr.nd p hp) rfl h (by intro u;simp only [Af.parv];split<;>simp)
theorem Jk {Q:AV→Al→Prop} (T:Tp C) (hr:AN X t d fin ci σ.hp) (hp:p∈X.D) (h:Q (FU p) σ):H7 C A E env VR (fun v=>getAttr v "symbol" true) (.ref (X.A p)) σ Q:=
 Bx T.s_sym (hr.nd p hp) rfl h (by
  intro u;simp only [FU];split
  ·rename_i c _;cases c<;>simp [Au.av]
  ·simp)
theorem O9 {Q:AV→Al→Prop} (T:Tp C) (hr:AN X t d fin ci σ.hp) (hp:p∈X.D) (h:Q (.bool (X.key p).isSome) σ):H7 C A E env VR (fun v=>getAttr v "success" true) (.ref (X.A p)) σ Q:=Bx T.s_suc (hr.nd p hp) rfl h
theorem OC {Q:AV→Al→Prop} (T:Tp C) (hw:X.Wf) (hr:AN X t d fin ci σ.hp) (hp:p∈X.D) {v:AV} (hv:X.key p=some v) (h:Q v σ):H7 C A E env VR (fun v=>getAttr v "matched_keyword" true) (.ref (X.A p)) σ Q:=
 Bx (x:=v) T.s_mk (hr.nd p hp) (by simp [hv]) h (hw.mkV p v hv)
theorem OB {Q:AV→Al→Prop} (T:Tp C) (hr:AN X t d fin ci σ.hp) (hp:p∈X.D) {v:AV} (hv:X.out p=some v) (h:Q v σ) (hu:∀u,v≠.val u):H7 C A E env VR (fun v=>getAttr v "outputs" true) (.ref (X.A p)) σ Q:=
 Bx (x:=v) T.s_out (hr.nd p hp) (by simp [hv]) h hu
theorem Er {q:Ag} {Q:Unit→Al→Prop} (T:Tp C) (hr:AN X t d fin ci σ.hp) (hp:p∈X.D) (h:Q () (σ.put (X.A p) ((X.setLss p q).nodeAO p))) :
  EI C A E env (fun zu (zu:Unit) (zu:Unit)=>True) (fun u w=>setAttr w "longest_strict_suffix" u) (.ref (X.A q)) (.ref (X.A p)) σ Q:=by
 refine Bo T.s_lss (hr.nd p hp) ?_
 have:AO.slot 34 (setSlot [some (.int (X.D.idxOf p)),some (X.lssv p),some ((X.key p).getD .none),X.out p,some (X.parv p),some (.bool (X.key p).isSome),some (FU p),some (.ref (X.T p))] 1 (.ref (X.A q)))=(X.setLss p q).nodeAO p:=by
  have e:(X.setLss p q).lss p=some q:=if_pos rfl
  simp only [Af.nodeAO,Af.lssv,e]
  simp [setSlot,Eu,Af.setLss,Af.parv]
 rw [this];exact h
theorem HZ {v:AV} {Q:Unit→Al→Prop} (T:Tp C) (hr:AN X t d fin ci σ.hp) (hp:p∈X.D) (h:Q () (σ.put (X.A p) ((X.setOut p v).nodeAO p))) :
  EI C A E env (fun zu (zu:Unit) (zu:Unit)=>True) (fun u w=>setAttr w "outputs" u) v (.ref (X.A p)) σ Q:=by
 refine Bo T.s_out (hr.nd p hp) ?_
 have:AO.slot 34 (setSlot [some (.int (X.D.idxOf p)),some (X.lssv p),some ((X.key p).getD .none),X.out p,some (X.parv p),some (.bool (X.key p).isSome),some (FU p),some (.ref (X.T p))] 3 v)=(X.setOut p v).nodeAO p:=by
  have e:(X.setOut p v).out p=some v:=if_pos rfl
  simp only [Af.nodeAO,e]
  simp [setSlot,Eu,Af.setOut,Af.lssv,Af.parv]
 rw [this];exact h
theorem Nz {q:Ag} {Q:AV→Al→Prop} (hr:AN X t d fin ci σ.hp) (hp:p∈X.D) (hq:q∈X.D) (h:Q (.bool (decide (p=q))) σ):EI C A E env VR (compareOp .Is) (.ref (X.A p)) (.ref (X.A q)) σ Q:=by
 refine OP (hr.nd p hp) (hr.nd q hq) (.inl ⟨_,_,rfl⟩) ?_
 have:decide (X.A p=X.A q)=decide (p=q):=by
  by_cases e:p=q
  ·simp [e]
  ·have:X.A p≠X.A q:=fun x=>e (hr.ai hp hq x)
   simp [e,this]
 rw [this];exact h
theorem Kc {q:Ag} {Q:AV→Al→Prop} (hr:AN X t d fin ci σ.hp) (hp:p∈X.D) (hq:q∈X.D) (h:Q (.bool (!decide (p=q))) σ):EI C A E env VR (compareOp .IsNot) (.ref (X.A p)) (.ref (X.A q)) σ Q:=by
 refine KQ (hr.nd p hp) (hr.nd q hq) (.inl ⟨_,_,rfl⟩) ?_
 have:decide (X.A p=X.A q)=decide (p=q):=by
  by_cases e:p=q
  ·simp [e]
  ·have:X.A p≠X.A q:=fun x=>e (hr.ai hp hq x)
   simp [e,this]
 rw [this];exact h
end Eu
theorem Mf (T:Tp C) {r₀:FdRest} {L:Addr} {X:Af} {t d:Addr} {ci:Bool} {q:Ag} {c:Au} (hw:X.Wf) (hr:AN X t d false ci σ.hp) (hp:q++[c]∈X.D) (had:X.AD q)
  {test:Expr} {body:List Stmt} {pos:Pos} (hst:(E1.body.drop 3).head? = some (.While test body [] pos)) (l1:σ.v "self" = some (.ref t)) (l2:σ.v "state" = some (.ref (X.A (q++[c])))) (l3:σ.v "zero_state" = some (.ref (X.A []))) (l4:σ.v "traversed" = some (.ref (X.A (Cj X.D q)))) :
  Ex C A Bj (callEnv (r₀.fd E1 .none) L 122) (.While test body [] pos) σ (fun f σ'=>f=.next∧σ'.hp=upd σ.hp (X.A (q++[c])) ((X.setLss (q++[c]) (Cj X.D (q++[c]))).nodeAO (q++[c])) ∧
   σ'.v "self" = some (.ref t)∧σ'.v "state" = some (.ref (X.A (q++[c])))∧σ'.v "zero_state" = some (.ref (X.A []))):=by
 have hq:q∈X.D:=hw.closed q c hp
 have hsym:FU (q++[c])=c.av:=by simp [FU]
 cases hst
 refine EL (fun n σ'=>σ'.hp=σ.hp∧σ'.v "self" = some (.ref t)∧σ'.v "state" = some (.ref (X.A (q++[c])))∧σ'.v "zero_state" = some (.ref (X.A [])) ∧
  ∃r,r∈X.D∧n=r.length∧r <:+ q∧σ'.v "traversed" = some (.ref (X.A r))∧((q=[]∧r=[])∨(r.length<q.length∧Cj X.D (q++[c])=BZ X.D (r++[c])))) ?_ (Cj X.D q).length ?_
 ·(rintro n σ';intro zr;refine cps fun zP zk=>?_;(rcases zr with ⟨he,m1,m2,m3,r,hrD,rfl,hrq,m4,hcase⟩)<;>(refine zk ?_;clear zk zP))
  have hr':AN X t d false ci σ'.hp:=he▸hr
  refine xa1_1 (hr'.td r hrD) ?_;intro ep htd
  have hdn:=had r hrq hrD
  refine Bl (FQ (AQ ?_))
  refine Tr.gen fun K hK=>?_
  have hat:H6 (X.trv r) c=(Bw X.D r c).map fun x=>.ref (X.A x):=by rw [Af.at_trv,hdn.2 c]
  refine Ab (Bd (Pl (Be (Aq (Ac m2 (Jk T hr' hp (Aq (Ac m4 (DP T hr' hrD ?_)))))))))
  rw [hsym]
  refine Kq T.sysm htd ⟨_,rfl,?_⟩
  rw [hat]
  cases hf:Bw X.D r c with
  |some x=>
   refine cps fun zP zk=>?_;(rcases EX hf with ⟨hxD,r',rfl,hr'r⟩)<;>(refine zk ?_;clear zk zP)
   simp only [Option.map_some,Option.isSome_some]
   refine Be (Nc (Aq (Ac m4 (DP T hr' hrD (Aq (Ac m2 (Jk T hr' hp ?_)))))))
   rw [hsym]
   refine GX (x:=.ref (X.A (r'++[c]))) htd (by rw [hat,hf];rfl) (Ac m2 (Kc hr' hxD hp ⟨_,rfl,?_⟩))
   by_cases hx:r'++[c]=q++[c]
   ·rw [hx]
    simp only [decide_true,Bool.not_true]
    have hr'q:r'=q:=List.append_cancel_right hx
    subst hr'q
    have h1:=hr'r.length_le
    rcases hcase with ⟨rfl,rfl⟩|⟨h2,zu⟩
    ·refine Ab (Bd (Be (Ac m4 (Ac m3 (Nz hr' hrD hw.root ⟨_,rfl,?_⟩)))))
     simp only [decide_true,if_true]
     refine Ab (An (Ac m3 (Ac m2 (Er T hr' hp ?_))))
     refine Ab (G0 (hK _ _ ?_))
     have e:Cj X.D ([]++[c])=[]:=rfl
     rw [e]
     exact ⟨rfl,by rw [←he],m1,m2,m3⟩
    ·omega
   ·simp only [hx,decide_false,Bool.not_false]
    refine Ab (An (Nc (Aq (Ac m4 (DP T hr' hrD (Aq (Ac m2 (Jk T hr' hp ?_))))))))
    rw [hsym]
    refine GX (x:=.ref (X.A (r'++[c]))) htd (by rw [hat,hf];rfl) (Ac m2 (Er T hr' hp ?_))
    refine Ab (G0 (hK _ _ ?_))
    have e:Cj X.D (q++[c])=r'++[c]:=by
     rcases hcase with ⟨rfl,rfl⟩|⟨zu,h2⟩
     ·simp at hr'r;subst hr'r;exact absurd rfl hx
     ·rw [h2,Ht hf]
    rw [e]
    exact ⟨rfl,by rw [←he],m1,m2,m3⟩
  |none=>
   simp only [Option.map_none,Option.isSome_none]
   refine Ab (Bd (Be (Ac m4 (Ac m3 (Nz hr' hrD hw.root ⟨_,rfl,?_⟩)))))
   by_cases hr0:r=[]
   ·subst hr0
    simp only [decide_true,if_true]
    refine Ab (An (Ac m3 (Ac m2 (Er T hr' hp ?_))))
    refine Ab (G0 (hK _ _ ?_))
    have e:Cj X.D (q++[c])=[]:=by
     rcases hcase with ⟨rfl,zu⟩|⟨zu,h2⟩
     ·rfl
     ·rw [h2,Ik hf]
    rw [e]
    exact ⟨rfl,by rw [←he],m1,m2,m3⟩
   ·simp only [hr0,decide_false]
    refine Ab (Ai (Aq (Ac m4 (ES T hr' hrD ?_))))
    refine Am (Am (Am (hK _ _ ?_)))
    have hl:X.lssv r=.ref (X.A (Cj X.D r)):=by simp only [Af.lssv,hdn.1]
    rw [hl]
    refine ⟨(Cj X.D r).length,DB hr0,he,Ah m1,Ah m2,Ah m3,Cj X.D r,Cu hw.pc _,rfl,DZ.trans hrq,Av,.inr ?_⟩
    rcases hcase with ⟨zu,rfl⟩|⟨h1,h2⟩
    ·exact absurd rfl hr0
    ·exact ⟨Nat.lt_trans (DB hr0) h1,h2.trans (Me hw.pc hr0 hf)⟩
 ·refine ⟨rfl,l1,l2,l3,Cj X.D q,Cu hw.pc _,rfl,DZ,l4,?_⟩
  by_cases hq0:q=[]
  ·subst hq0;exact .inl ⟨rfl,rfl⟩
  ·exact .inr ⟨DB hq0,KM hw.pc hq0 c⟩
end
section
variable {C:Cf} {A:Around} {E:Value→Shared→Prop} {env:Env} {σ:Al}
theorem Ga (X:Af) (p:Ag):X.setTr p (X.tr p)=X:=by
 have:(fun x=>if x=p then X.tr p else X.tr x)=X.tr:=by funext x;split<;>simp_all
 simp only [Af.setTr,this]
theorem HN (X:Af) (p:Ag) (m m':List (Au×Ag)):(X.setTr p m).setTr p m'=X.setTr p m':=by
 have:(fun x=>if x=p then m' else if x=p then m else X.tr x)=fun x=>if x=p then m' else X.tr x:=by funext x;split<;>rfl
 simp only [Af.setTr,this]
theorem KB {l:List (Au×Ag)} {f:Ag→Addr} {c:Au} {a:Addr} (h:Bm l c=none):FY (l.map fun e=>(e.1,AV.ref (f e.2))) c (.ref a)=(l.map fun e=>(e.1,AV.ref (f e.2)))++[(c,.ref a)]:=by
 have:(l.map fun e=>(e.1,AV.ref (f e.2))).any (fun p=>p.1=c)=false:=by
  rw [List.any_eq_false]
  intro p hp
  refine xa1_2 (List.mem_map.mp hp) ?_;intro e' he';rintro rfl
  simpa using CT h e' he'
 simp only [FY,this];rfl
theorem BS.wide {P Q:Addr→Prop} {h h':HP} (f:BS P h P h') (w:∀a,P a→Q a):BS Q h Q h':=⟨fun a x n=>f.keep a x (fun p=>n (w a p)),fun zu q=>.inl q⟩
theorem KN (T:Tp C) {r₀:FdRest} {L:Addr} {X:Af} {t d:Addr} {ci:Bool} {p s:Ag} (hA:A.handled=none) (hw:X.Wf) (hr:AN X t d false ci σ.hp) (hp:p∈X.D) (hs:s∈X.D) (hps:p≠s) (hz:X.D.length≤4000)
  {target iter:Expr} {body:List Stmt} {pos:Pos} (hst:(E1.body.drop 7).head? = some (.For target iter body [] pos)) (l2:σ.v "state" = some (.ref (X.A p))) (l3:σ.v "suffix" = some (.ref (X.A s))) :
  Ex C A Bj (callEnv (r₀.fd E1 .none) L 122) (.For target iter body [] pos) σ (fun f σ'=>f=.next∧∃m,(X.setTr p m).Wf∧AN (X.setTr p m) t d false ci σ'.hp∧BS (·=X.T p) σ.hp (·=X.T p) σ'.hp ∧
   ∀c,Bm m c=(X.look p c).or (X.look s c)):=by
 refine xa1_1 (hr.td s hs) ?_;intro ep htd
 cases hst
 refine HB (fun zu zu hp=>hp (X.T s)=some (.dict (X.trv s) ep))
  (fun zu zu xs σ'=>∃dn rest m,X.tr s=dn++rest∧xs=rest.map (fun e=>AV.tup [e.1.av,.ref (X.A e.2)])∧(X.setTr p m).Wf∧AN (X.setTr p m) t d false ci σ'.hp∧BS (·=X.T p) σ.hp (·=X.T p) σ'.hp ∧
   (∀c,Bm m c=(X.look p c).or (Bm dn c))∧σ'.v "state" = some (.ref (X.A p))∧σ'.hp (X.T s)=some (.dict (X.trv s) ep))
  (AA (Aq (Ac l3 (DP T hr hs (N2 htd (Ax (A5 (dict_items T.sysm htd (fun v hv=>⟨_,Jr hA (Ae _ _ _) ?_,?_⟩))))))))) ?_ ?_ ?_
 ·exact (Ad _ _ (by rintro e;rw [←e,htd] at hv;exact Ap hv)).trans htd
 ·refine ⟨[],X.tr s,X.tr p,rfl,?_,by rw [Ga];exact hw,by rw [Ga];exact hr.new hv,BS.new _ hv,fun c=>by simp [Bm,Af.look],l2,(Ad _ _ (by rintro e;rw [←e,htd] at hv;exact Ap hv)).trans htd⟩
  simp [Af.trv]
 ·(rintro zu zu xs σ';intro zr;refine xa3_8 zr ?_;(try clear zr);intro zu zu zu zu zu zu zu zu zu zu h)
  exact h
 ·(rintro zu zu x xs σ';intro zr;refine xa3_8 zr ?_;(try clear zr);intro dn rest m e1 e2 hw' hr' hf' hl' m2 m5)
  obtain ⟨c,y,rest',rfl,rfl,rfl⟩:∃c y rest',rest=(c,y)::rest'∧x=.tup [c.av,.ref (X.A y)]∧xs=rest'.map (fun e=>AV.tup [e.1.av,.ref (X.A e.2)]):=by
   cases rest with
   |nil=>cases e2
   |cons e rest'=>simp only [List.map_cons,List.cons.injEq] at e2;exact ⟨e.1,e.2,rest',rfl,e2.1,e2.2⟩
  have hcy:(c,y)∈X.tr s:=by rw [e1];simp
  have hyD:=hw.trD s hs _ hcy
  have hyL:=hw.trL s hs _ hcy
  have hdn:Bm dn c=none:=by
   have hn:=hw.trN s hs
   rw [e1,List.map_append,List.nodup_append] at hn
   cases h:Bm dn c with
   |none=>rfl
   |some z=>
    have:=EU h
    exact absurd rfl (hn.2.2 c (List.mem_map_of_mem (f:=(·.1)) this) c (by simp))
  refine xa1_1 (hr'.td p hp) ?_;intro ep' htp
  have htp:σ'.hp (X.T p)=some (.dict (m.map fun e=>(e.1,AV.ref (X.A e.2))) ep'):=by
   rw [show (X.setTr p m).trv p=m.map fun e=>(e.1,AV.ref (X.A e.2)) by simp only [Af.trv,Af.setTr,if_true]] at htp
   exact htp
  refine D6 hA ?_
  refine Tr.gen fun K hK=>?_
  refine Ab (Bd (Be (Ac (Ah Av) (Aq (Ac (Ah (Ah m2)) (DP (X:=X.setTr p m) T hr' hp (Gi (Kq T.sysm htp ⟨_,rfl,_,rfl,?_⟩))))))))
  rw [MN]
  cases hm:Bm m c with
  |some z=>
   simp only [Option.map_some,Option.isSome_some,Bool.not_true]
   refine Am (Am (hK _ _ ?_))
   refine ⟨dn++[(c,y)],rest',m,by simp [e1],rfl,hw',hr',hf',fun c'=>?_,Ah (Ah m2),m5⟩
   rw [hl' c',BB]
   by_cases e:c'=c
   ·subst e
    rw [hl' c',hdn] at hm
    cases hx:X.look p c' with
    |none=>rw [hx] at hm;exact Ak hm
    |some zu=>rfl
   ·have:Bm [(c,y)] c'=none:=by
     have e':¬c=c':=fun x=>e x.symm
     simp [Bm,e']
    rw [this];simp
  |none=>
   simp only [Option.map_none,Option.isSome_none,Bool.not_false,if_true]
   refine Ab (BO (Ac Av (Aq (Ac (Ah (Ah m2)) (DP (X:=X.setTr p m) T hr' hp (Ac (Ah Av) (I3 htp ?_ ?_)))))))
   ·have:=hw'.trlen hp
    have e:(X.setTr p m).tr p=m:=if_pos rfl
    rw [e] at this
    simp only [List.length_map]
    exact Nat.le_trans this (Nat.le_trans hz (by exact At [] [] (Zn 4000) (Zn 4096) rfl))
   intro ep''
   refine Am (Am (hK _ _ ?_))
   rw [KB hm]
   have hmap:(m.map fun e=>(e.1,AV.ref (X.A e.2)))++[(c,.ref (X.A y))]=(m++[(c,y)]).map fun e=>(e.1,AV.ref (X.A e.2)):=by simp
   rw [hmap]
   have hmW:∀e∈m,e.2∈X.D:=fun e he=>hw'.trD p hp e (by rw [show (X.setTr p m).tr p=m from if_pos rfl];exact he)
   have hmN:(m.map (·.1)).Nodup:=by have:=hw'.trN p hp;rw [show (X.setTr p m).tr p=m from if_pos rfl] at this;exact this
   have hmL:∀e∈m,e.2.getLast? = some e.1:=fun e he=>hw'.trL p hp e (by rw [show (X.setTr p m).tr p=m from if_pos rfl];exact he)
   refine ⟨dn++[(c,y)],rest',m++[(c,y)],by simp [e1],rfl,MR hw ?_ ?_ ?_,?_,hf'.trans (BS.upd _ rfl),fun c'=>?_,Ah (Ah m2),?_⟩
   ·intro e he
    rcases List.mem_append.mp he with q|q
    ·exact hmW e q
    ·simp at q;subst q;exact hyD
   ·rw [List.map_append,List.nodup_append]
    refine ⟨hmN,by simp,?_⟩
    intro a ha b hb
    simp at hb;subst hb
    refine xa1_2 (List.mem_map.mp ha) ?_;intro e he;rintro rfl
    exact CT hm e he
   ·intro e he
    rcases List.mem_append.mp he with q|q
    ·exact hmL e q
    ·simp at q;subst q;exact hyL
   ·have:=KC (p:=p) (m:=m++[(c,y)]) (ep:=ep'') hw' hr' hp
    rw [HN] at this
    exact this
   ·rw [BB,BB,hl' c']
    cases X.look p c'<;>simp
   ·exact (Ad _ _ (fun e=>hps (hw.ti s hs p hp e).symm)).trans m5
 ·(rintro zu zu σ';intro zr;refine xa3_8 zr ?_;(try clear zr);intro dn rest m e1 e2 hw' hr' hf' hl' m2 m5)
  have:rest=[]:=by cases rest with|nil=>rfl|cons=>cases e2
  subst this
  simp at e1;subst e1
  exact ⟨rfl,m,hw',hr',hf',hl'⟩
theorem HI {s q:Ag} {c:Au} (h:s <:+ q++[c]) (hs:s≠[]):∃q',s=q'++[c]∧q' <:+ q:=by
 refine xa1_1 h ?_;(try clear h);intro z hz
 rcases List.eq_nil_or_concat s with rfl|⟨s',x,rfl⟩
 ·exact absurd rfl hs
 ·rw [List.concat_eq_append] at hz ⊢
  rw [←List.append_assoc] at hz
  have h1:=List.append_inj' hz rfl
  refine xa0_2 h1 ?_;(try clear h1);intro h2 h3
  simp at h3;subst h3
  exact ⟨s',rfl,z,h2⟩
noncomputable def FN (X:Af) (p:Ag) (t d:Addr) (ci:Bool) (hp hp':HP):Prop:=
 ∃X':Af,X'.Wf∧AN X' t d false ci hp'∧BS (Fp X t d) hp (Fp X t d) hp'∧X.Step X'∧X'.AD p∧(∀x∈X.D,p.length<x.length→X.Stay X' x)∧∀x∈X.D,x≠p→X.lss x≠none→hp' (X.T x)=hp (X.T x)
theorem OE (T:Tp C):∀(n:Nat) (A:Around) (X:Af) (t d:Addr) (ci:Bool) (hp:HP) (q:Ag) (c:Au),(q++[c]).length≤n→A.handled=none→A.depth+n<recursionLimit→X.Wf→AN X t d false ci hp →
  q++[c]∈X.D→X.AD q→(∀x∈X.D,x.length<(q++[c]).length→X.UD x∨X.AD x)→(X.UD (q++[c])∨X.DN (q++[c]))→X.D.length≤4000 →
  Fn C A (.ref 122) [.ref t,.ref (X.A (q++[c]))] [] hp (fun v hp'=>v=.none∧FN X (q++[c]) t d ci hp hp'):=by
 intro n
 induction n with
 |zero=>intro A X t d ci hp q c hn;simp at hn
 |succ n ih=>
  intro A X t d ci hp q c hn hA hroom hw hr hpD had hsh hcur hz
  refine xa1_1 T.f_lss ?_;intro r₀ hf
  have hq:q∈X.D:=hw.closed q c hpD
  have hne:q++[c]≠[]:=by simp
  refine CX (body:=E1.body) hf (Lm C r₀ _ _) (fun L=>?_) (by with_reducible exact Gh ‹_›) (by kernel_rfl) (by kernel_rfl) (by kernel_rfl) (by kernel_rfl) (by kernel_rfl)
  have hpar:X.parv (q++[c])=.ref (X.A q):=by simp only [Af.parv];rw [if_neg hne,List.dropLast_concat]
  have hdq:=had q (List.suffix_refl q) hq
  have hlq:X.lssv q=.ref (X.A (Cj X.D q)):=by simp only [Af.lssv,hdq.1]
  refine Ab (Ai (Aq (Ac rfl (Bv T.n_zero hr.tree hr.ns rfl ?_))))
  refine Ab (Ai (Aq (Ac rfl (OA T hr hpD ?_))))
  rw [hpar]
  refine Ab (Ai (Aq (Ac rfl (ES T hr hq ?_))))
  rw [hlq]
  refine Ab (Tr.mono (Mf (σ:=(Al.set (Al.set (Al.set ⟨_,hp⟩ "zero_state" _) "parent" _) "traversed" _)) T hw hr hpD had rfl rfl rfl rfl rfl) ?_)
  (rintro f σ₁;intro zr;refine xa0_5 zr ?_;(try clear zr);rintro rfl;intro e₁ m1 m2 m3)
  have hsD:Cj X.D (q++[c])∈X.D:=Cu hw.pc _
  have hslt:(Cj X.D (q++[c])).length<(q++[c]).length:=DB hne
  have hw1:(X.setLss (q++[c]) (Cj X.D (q++[c]))).Wf:=Hc hw
  have hr1:AN (X.setLss (q++[c]) (Cj X.D (q++[c]))) t d false ci σ₁.hp:=e₁▸Gc hr hpD
  have hfr1:BS (Fp X t d) hp (Fp X t d) σ₁.hp:=by rw [e₁];exact BS.upd _ (.inr (.inr ⟨q++[c],hpD,.inl rfl⟩))
  have hlp:(X.setLss (q++[c]) (Cj X.D (q++[c]))).lss (q++[c])=some (Cj X.D (q++[c])):=if_pos rfl
  have same1:X.Same (X.setLss (q++[c]) (Cj X.D (q++[c]))):=⟨rfl,rfl,rfl,rfl,rfl⟩
  have stay1:∀x,x≠q++[c]→X.Stay (X.setLss (q++[c]) (Cj X.D (q++[c]))) x:=fun x hx=>⟨if_neg hx,rfl⟩
  have hlook:∀c',(X.setLss (q++[c]) (Cj X.D (q++[c]))).look (q++[c]) c'=X.look (q++[c]) c':=fun zu=>rfl
  have hT1:∀x∈X.D,σ₁.hp (X.T x)=hp (X.T x):=fun x hx=>by
   rw [e₁];exact Ad _ _ (Af.Wf.dist hr hpD hx).1.symm
  generalize hs:Cj X.D (q++[c])=s at *
  have hlv:(X.setLss (q++[c]) s).lssv (q++[c])=.ref (X.A s):=by simp only [Af.lssv,hlp];rfl
  refine Ab (Ai (Aq (Ac m2 (ES (X:=X.setLss (q++[c]) s) T hr1 hpD ?_))))
  rw [hlv]
  have hfull:∀c',(Eb X.D (q++[c]) c').or (if s=[] then none else Bw X.D s c')=Bw X.D (q++[c]) c':=fun c'=>by rw [KU hw.pc hne,hs]
  have rest:∀(σ₂:Al) (X2:Af),s≠[]→X2.Wf→AN X2 t d false ci σ₂.hp→BS (Fp X t d) hp (Fp X t d) σ₂.hp→(X.setLss (q++[c]) s).Step X2→X2.AD s→(∀x∈X.D,s.length<x.length→(X.setLss (q++[c]) s).Stay X2 x)→(∀x∈X.D,x≠q++[c]→X.lss x≠none→σ₂.hp (X.T x)=hp (X.T x)) →
    σ₂.v "state" = some (.ref (X.A (q++[c])))→σ₂.v "suffix" = some (.ref (X.A s)) →
    Cq C (A.deeper (callEnv (r₀.fd E1 .none) L 122)) Bj (callEnv (r₀.fd E1 .none) L 122) (E1.body.drop 7) σ₂ (fun fl σ'=>match fl with|.ret v=>v=.none∧FN X (q++[c]) t d ci hp σ'.hp|.next=>True∧FN X (q++[c]) t d ci hp σ'.hp|_=>False):=by
   intro σ₂ X2 hs0 hw2 hr2 hfr2 st2 ad2 lo2 kt2 k2 k3
   have hD2:X2.D=X.D:=st2.same.D
   have hA2:X2.A=X.A:=st2.same.A
   have hfp:Fp X2 t d=Fp X t d:=st2.same.fp t d
   have hsp:q++[c]≠s:=fun e=>by rw [←e] at hslt;exact IN [_] [(1,(Zs Z0),Z0)] rfl hslt
   refine Ab (Tr.mono (KN T (by exact hA) hw2 hr2 (hD2▸hpD) (hD2▸hsD) hsp (by rw [hD2];exact hz) rfl (by rw [hA2];exact k2) (by rw [hA2];exact k3)) ?_)
   (rintro f σ₃;intro zr;refine cps fun zP zk=>?_;(rcases zr with ⟨rfl,m,hw3,hr3,hfr3,hm⟩)<;>(refine zk ?_;clear zk zP))
   refine Am ⟨trivial,X2.setTr (q++[c]) m,hw3,hr3,hfr2.trans (hfr3.wide (fun a e=>.inr (.inr ⟨q++[c],hpD,.inr (by rw [e,st2.same.T];rfl)⟩))),?_⟩
   have same3:X2.Same (X2.setTr (q++[c]) m):=⟨rfl,rfl,rfl,rfl,rfl⟩
   have stay3:∀x,x≠q++[c]→X2.Stay (X2.setTr (q++[c]) m) x:=fun x hx=>⟨rfl,if_neg hx⟩
   have hstp:=lo2 _ hpD hslt
   have dn3:(X2.setTr (q++[c]) m).DN (q++[c]):=by
    refine ⟨?_,fun c'=>?_⟩
    ·show X2.lss (q++[c])=some (Cj X2.D (q++[c]))
     rw [hstp.1,hlp,hD2,hs]
    ·show Bm (if q++[c]=q++[c] then m else X2.tr (q++[c])) c'=Bw X2.D (q++[c]) c'
     rw [if_pos rfl,hm c',hD2]
     have e1:X2.look (q++[c]) c'=X.look (q++[c]) c':=by simp only [Af.look,hstp.2];rfl
     have e2:X2.look s c'=Bw X.D s c':=by rw [(ad2 s (List.suffix_refl s) (hD2▸hsD)).2 c',hD2]
     rw [e1,e2]
     have hfu:=hfull c'
     rw [if_neg hs0] at hfu
     rcases hcur with u|u
     ·rw [u.2 c',hfu]
     ·rw [u.2 c']
      cases hx:Bw X.D (q++[c]) c' with
      |some zu=>rfl
      |none=>
       rw [hx] at hfu
       cases hk:Eb X.D (q++[c]) c' with
       |some zu=>rw [hk] at hfu;exact Ap hfu
       |none=>rw [hk] at hfu;simpa using hfu
   have ad3:(X2.setTr (q++[c]) m).AD (q++[c]):=by
    intro r hrs hrD
    by_cases e:r=q++[c]
    ·subst e;exact dn3
    ·have hrD':r∈X.D:=hD2▸hrD
     have h2:=JQ hrD' hrs e
     rw [hs] at h2
     exact (stay3 r e).dn same3 (ad2 r h2 hrD)
   refine ⟨⟨same1.trans (st2.same.trans same3),fun x hx=>?_⟩,ad3,fun x hx hl=>?_,fun x hx hxp hxl=>?_⟩
   ·by_cases e:x=q++[c]
    ·subst e;exact .inr ad3
    ·rcases st2.all x hx with a|a
     ·exact .inl ⟨(a.1.trans (stay1 x e).1),(stay3 x e).2.trans (a.2.trans (stay1 x e).2)⟩
     ·by_cases hl:x.length≤s.length
      ·refine .inr (fun r hrs hrD=>?_)
       refine (stay3 r ?_).dn same3 (a r hrs hrD)
       rintro rfl
       have:=hrs.length_le
       exact IN [_,_,_] [(1,(Zs Z0),Z1),(1,Z2,Z0),(1,Z1,Z2)] rfl hslt hl this
      ·have a:=lo2 x hx (by exact B6 [_,_] [(1,(Zs Z0),Z1)] Z0 Z1 rfl (Nat.lt_of_not_le hl))
       exact .inl ⟨(a.1.trans (stay1 x e).1),(stay3 x e).2.trans (a.2.trans (stay1 x e).2)⟩
   ·have e:x≠q++[c]:=by rintro rfl;exact IN [_] [(1,(Zs Z0),Z0)] rfl hl
    have a:=lo2 x hx (by with_reducible exact Og ‹_› ‹_›)
    exact ⟨(a.1.trans (stay1 x e).1),(stay3 x e).2.trans (a.2.trans (stay1 x e).2)⟩
   ·rw [←kt2 x hx hxp hxl]
    have hT2:X2.T=X.T:=st2.same.T
    refine xa1_1 (hr2.td x (hD2▸hx)) ?_;intro ep hx2
    rw [hT2] at hx2
    refine hfr3.keep _ (by rw [hx2];simp) (fun e=>hxp (hw2.ti x (hD2▸hx) _ (hD2▸hpD) ?_))
    rw [←e,hT2]
  refine Ab (Bd (Be (Ac Av (Ac (Ah m3) (Nz (X:=X.setLss (q++[c]) s) hr1 hsD hw.root ⟨_,rfl,?_⟩)))))
  by_cases hs0:s=[]
  ·subst hs0
   simp only [decide_true,if_true]
   refine Ab (D5 ⟨rfl,X.setLss (q++[c]) [],hw1,hr1,hfr1,?_⟩)
   have dn1:(X.setLss (q++[c]) []).DN (q++[c]):=by
    refine ⟨hlp.trans (congrArg some hs.symm),fun c'=>?_⟩
    show X.look (q++[c]) c'=Bw X.D (q++[c]) c'
    have hfu:=hfull c'
    rw [if_pos rfl] at hfu
    rcases hcur with u|u
    ·rw [u.2 c',←hfu];simp
    ·exact u.2 c'
   have ad1:(X.setLss (q++[c]) []).AD (q++[c]):=by
    intro r hrs hrD
    by_cases e:r=q++[c]
    ·subst e;exact dn1
    ·have h2:=JQ hrD hrs e
     rw [show Cj (X.setLss (q++[c]) []).D (q++[c])=[] from hs] at h2
     simp at h2;subst h2
     exact (stay1 [] e).dn same1 (had [] List.nil_suffix hw.root)
   refine ⟨⟨same1,fun x hx=>?_⟩,ad1,fun x hx hl=>stay1 x (by rintro rfl;exact IN [_] [(1,(Zs Z0),Z0)] rfl hl),fun x hx zu zu=>hT1 x hx⟩
   by_cases e:x=q++[c]
   ·subst e;exact .inr ad1
   ·exact .inl (stay1 x e)
  ·simp only [hs0,decide_false]
   refine Am ?_
   have hsx:s <:+ q++[c]:=hs▸DZ
   refine xa1_2 (HI hsx hs0) ?_;intro q' hq' hq'q
   have hnp:s≠q++[c]:=by rintro rfl;exact IN [_] [(1,(Zs Z0),Z0)] rfl hslt
   have stay1':∀x,x.length≤s.length→X.Stay (X.setLss (q++[c]) s) x:=fun x hx=>stay1 x (by rintro rfl;exact IN [_,_] [(1,(Zs Z0),Z1),(1,Z1,Z0)] rfl hslt hx)
   have ad1:∀x,x.length≤s.length→X.AD x→(X.setLss (q++[c]) s).AD x:=fun x hx h r hrs hrD=>by
    have:=hrs.length_le
    exact (stay1' r (by with_reducible exact C8 ‹_› ‹_›)).dn same1 (h r hrs hrD)
   refine Ab (Bd (Be (Aq (Ac Av (ES (X:=X.setLss (q++[c]) s) T hr1 hsD (B0 ?_))))))
   rcases hsh s hsD hslt with u|u
   ·have e:(X.setLss (q++[c]) s).lssv s=.none:=by
     have:(X.setLss (q++[c]) s).lss s=none:=(stay1 s hnp).1.trans u.1
     simp only [Af.lssv,this]
    rw [e]
    refine Cb ⟨_,rfl,?_⟩
    simp only [if_true]
    refine Ab (Bn (AA (Ac (Ah m1) (B5 T.m_lss hr1.tree hr1.ns rfl (A2 (Ac Av (Ax (A5 (AS hf (Fn.mono (Q:=fun v hp'=>v=.none∧FN (X.setLss (q++[c]) s) s t d ci σ₁.hp hp') ?_ ?_))))))))))
    ·have hlen:q'.length<s.length:=by rw [hq'];simp
     have:=ih (A.deeper (callEnv (r₀.fd E1 .none) L 122)) (X.setLss (q++[c]) s) t d ci σ₁.hp q' c (by rw [←hq'];exact At [_,_,_] [(1,Z2,(Zs Z1)),(1,(Zs Z0),Z2)] Z0 Z1 rfl hn hslt) hA (by show A.depth+1+n<recursionLimit;exact B6 [_,_,_] [(1,(Zs (Za Z0 (Zs Z1))),Z2)] (Za (Zs Z0) Z1) Z2 rfl hroom) hw1 hr1 (by rw [←hq'];exact hsD)
      (ad1 q' (by with_reducible exact LR ‹_›) (fun r hrs hrD=>had r (hrs.trans hq'q) hrD))
      (fun x hx hl=>by
       rw [←hq'] at hl
       rcases hsh x hx (by with_reducible exact Og ‹_› ‹_›) with v|v
       ·exact .inl ((stay1' x (by with_reducible exact LR ‹_›)).ud same1 v)
       ·exact .inr (ad1 x (by with_reducible exact LR ‹_›) v))
      (by rw [←hq'];exact .inl ((stay1 s hnp).ud same1 u)) hz
     rw [←hq'] at this
     exact this
    ·(rintro v hp';intro zr;refine cps fun zP zk=>?_;(rcases zr with ⟨zu,X2,hw2,hr2,hfr2,st2,ad2,lo2,kt2⟩)<;>(refine zk ?_;clear zk zP))
     refine Am ?_
     show Cq C _ Bj _ (E1.body.drop 7) _ _
     refine rest _ X2 hs0 hw2 ?_ ?_ st2 ad2 lo2 ?_ ?_ ?_
     ·exact hr2
     ·exact hfr1.trans hfr2
     ·intro x hx hxp hxl
      rw [←hT1 x hx]
      exact kt2 x hx (fun zE=>hxl (zE▸u.1)) (by rw [(stay1 x hxp).1];exact hxl)
     ·exact Ah m2
     ·exact Av
   ·have e:(X.setLss (q++[c]) s).lssv s=.ref (X.A (Cj X.D s)):=by
     have:(X.setLss (q++[c]) s).lss s=some (Cj X.D s):=(stay1 s hnp).1.trans (u s (List.suffix_refl s) hsD).1
     simp only [Af.lssv,this];rfl
    rw [e]
    refine FG ⟨_,rfl⟩ ⟨_,rfl,?_⟩
    refine Am ?_
    show Cq C _ Bj _ (E1.body.drop 7) _ _
    refine rest _ _ hs0 hw1 ?_ ?_ (.refl _) (ad1 s (Nat.le_refl _) u) (fun zu zu zu=>⟨rfl,rfl⟩) ?_ ?_ ?_
    ·exact hr1
    ·exact hfr1
    ·exact fun x hx zu zu=>hT1 x hx
    ·exact Ah m2
    ·exact Av
end
section
noncomputable def Ch (D:List Ag) (x y:Ag):Prop:=∃c,Bw D x c=some y
structure HD (D st pl:List Ag) (x:Ag) (ys:List Ag):Prop where
 sD:∀z∈st,z∈D
 pD:∀z∈pl,z∈D
 pn:pl.Nodup
 rt:[]∈pl∨[]∈st
 cl:∀z∈pl,∀y,Ch D z y→y∈pl∨y∈st∨(z=x∧y∈ys)
 tp:∀l z r,st=l++z::r→z∈pl→∀y,Ch D z y→y∈pl∨y∈r∨(z=x∧y∈ys)
noncomputable def F0 (pl:List Ag) (x:Ag):List Ag:=if x∈pl then pl else pl++[x]
theorem AY {pl:List Ag} {x z:Ag}:z∈F0 pl x↔z∈pl∨z=x:=by
 simp only [F0];split
 ·rename_i h
  constructor
  ·exact .inl
  ·rintro (q|rfl)
   ·exact q
   ·exact h
 ·simp
variable {D st pl:List Ag} {x:Ag} {ys:List Ag}
theorem HD.init (h:[]∈D) (x:Ag):HD D [[]] [] x []:=⟨by simpa using h,by simp,List.nodup_nil,.inr (by simp),by simp,by simp⟩
theorem HD.pop {x₀:Ag} (h:HD D (st++[x]) pl x₀ []) (hy:∀y,Ch D x y→y∈ys):HD D st (F0 pl x) x ys where
 sD:=fun z hz=>h.sD z (List.mem_append_left _ hz)
 pD:=fun z hz=>by
  rcases AY.mp hz with q|rfl
  ·exact h.pD z q
  ·exact h.sD z (by simp)
 pn:=by
  simp only [F0];split
  ·exact h.pn
  ·rename_i hn
   refine List.nodup_append.mpr ⟨h.pn,by simp,?_⟩
   intro a ha b hb e
   simp at hb;subst hb;subst e;exact hn ha
 rt:=by
  rcases h.rt with q|q
  ·exact .inl (AY.mpr (.inl q))
  ·rcases List.mem_append.mp q with q|q
   ·exact .inr q
   ·simp at q;exact .inl (AY.mpr (.inr q.symm))
 cl:=fun z hz y hc=>by
  rcases AY.mp hz with q|rfl
  ·rcases h.cl z q y hc with a|a|a
   ·exact .inl (AY.mpr (.inl a))
   ·rcases List.mem_append.mp a with a|a
    ·exact .inr (.inl a)
    ·simp at a;exact .inl (AY.mpr (.inr a))
   ·simp at a
  ·exact .inr (.inr ⟨rfl,hy y hc⟩)
 tp:=fun l z r e hz y hc=>by
  rcases AY.mp hz with q|rfl
  ·rcases h.tp l z (r++[x]) (by rw [e];simp) q y hc with a|a|a
   ·exact .inl (AY.mpr (.inl a))
   ·rcases List.mem_append.mp a with a|a
    ·exact .inr (.inl a)
    ·simp at a;exact .inl (AY.mpr (.inr a))
   ·simp at a
  ·exact .inr (.inr ⟨rfl,hy y hc⟩)
theorem HD.known {x₀:Ag} (h:HD D (st++[x]) pl x₀ []) (hx:x∈pl):∀y,Ch D x y→y∈pl:=fun y hc=>by
 rcases h.tp st x [] rfl hx y hc with a|a|a
 ·exact a
 ·simp at a
 ·simp at a
theorem HD.skip {y:Ag} (h:HD D st pl x (y::ys)) (hy:y∈pl):HD D st pl x ys where
 sD:=h.sD
 pD:=h.pD
 pn:=h.pn
 rt:=h.rt
 cl:=fun z hz y' hc=>by
  rcases h.cl z hz y' hc with a|a|⟨a,b⟩
  ·exact .inl a
  ·exact .inr (.inl a)
  ·rcases List.mem_cons.mp b with rfl|b
   ·exact .inl hy
   ·exact .inr (.inr ⟨a,b⟩)
 tp:=fun l z r e hz y' hc=>by
  rcases h.tp l z r e hz y' hc with a|a|⟨a,b⟩
  ·exact .inl a
  ·exact .inr (.inl a)
  ·rcases List.mem_cons.mp b with rfl|b
   ·exact .inl hy
   ·exact .inr (.inr ⟨a,b⟩)
theorem HD.push {y:Ag} (h:HD D st pl x (y::ys)) (hy:y∉pl) (hD:y∈D):HD D (st++[y]) pl x ys where
 sD:=fun z hz=>by
  rcases List.mem_append.mp hz with q|q
  ·exact h.sD z q
  ·simp at q;subst q;exact hD
 pD:=h.pD
 pn:=h.pn
 rt:=h.rt.imp_right (List.mem_append_left _)
 cl:=fun z hz y' hc=>by
  rcases h.cl z hz y' hc with a|a|⟨a,b⟩
  ·exact .inl a
  ·exact .inr (.inl (List.mem_append_left _ a))
  ·rcases List.mem_cons.mp b with rfl|b
   ·exact .inr (.inl (by simp))
   ·exact .inr (.inr ⟨a,b⟩)
 tp:=fun l z r e hz y' hc=>by
  rcases List.eq_nil_or_concat r with rfl|⟨r',w,rfl⟩
  ·have:=List.append_inj' (s₁:=st) (t₁:=[y]) (s₂:=l) (t₂:=[z]) e rfl
   simp at this
   exact absurd (this.2▸hz) hy
  ·rw [List.concat_eq_append] at e ⊢
   have e':st++[y]=(l++z::r')++[w]:=by rw [e];simp
   refine xa0_2 (List.append_inj' e' rfl) ?_;intro e1 e2
   simp at e2;subst e2
   rcases h.tp l z r' e1 hz y' hc with a|a|⟨a,b⟩
   ·exact .inl a
   ·exact .inr (.inl (List.mem_append_left _ a))
   ·rcases List.mem_cons.mp b with rfl|b
    ·exact .inr (.inl (by simp))
    ·exact .inr (.inr ⟨a,b⟩)
theorem Ch.kid {q:Ag} {c:Au} (h:q++[c]∈D):Ch D q (q++[c]):=by
 refine ⟨c,?_⟩
 cases q with
 |nil=>simp only [Bw,Eb,if_true];rw [if_pos h]
 |cons a q=>
  simp only [Bw,BM,BK];rw [if_neg (by simp),if_pos h]
theorem HD.all (h:HD D [] pl x []) (hc:PC D):∀p∈D,p∈pl:=by
 intro p
 have:∀n (p:Ag),p.length=n→p∈D→p∈pl:=by
  intro n
  induction n with
  |zero=>
   intro p hn hp
   have:p=[]:=List.length_eq_zero_iff.mp hn
   subst this
   exact h.rt.resolve_right (by simp)
  |succ n ih=>
   intro p hn hp
   rcases List.eq_nil_or_concat p with rfl|⟨q,c,rfl⟩
   ·cases hn
   ·rw [List.concat_eq_append] at hn hp ⊢
    have hq:=ih q (by simpa using hn) (hc.closed q c hp)
    rcases h.cl q hq _ (Ch.kid hp) with a|a|a
    ·exact a
    ·simp at a
    ·simp at a
 exact this p.length p rfl
noncomputable def Hd (D pl:List Ag) (S:Int→Bool):Prop:=∀p∈D,S (D.idxOf p)=true↔p∈pl
theorem Hd.add {S:Int→Bool} (h:Hd D pl S) (hx:x∈D):Hd D (F0 pl x) (fun j=>S j||decide (j=(D.idxOf x:Int))):=by
 intro p hp
 rw [AY,Bool.or_eq_true,h p hp,decide_eq_true_iff]
 constructor
 ·exact Or.imp_right (fun e=>Kj hp (by omega))
 ·exact Or.imp_right (fun e=>by rw [e])
theorem Ki (pl:List Ag) (x:Ag) {S:Int→Bool} (h:Hd D pl S) (hx:x∈D):(if S (D.idxOf x) then pl.length else pl.length+1)=(F0 pl x).length:=by
 by_cases e:x∈pl
 ·rw [if_pos ((h x hx).mpr e)];simp [F0,e]
 ·rw [if_neg (fun q=>e ((h x hx).mp q))];simp [F0,e]
theorem Fv {N a b c c':Nat} (h1:a+1≤N) (h2:c'≤c+N):(N - (a+1))*(N+1)+c'<(N - a)*(N+1)+(c+1):=by
 obtain ⟨k,rfl⟩:∃k,N=a+1+k:=⟨N - (a+1),by exact Nat.le_antisymm (At [_,_,_] [(1,Z0,(Za Z2 (Zs Z1)))] Z0 (Za (Zs Z1) Z2) rfl (BP _ _)) (At [_,_,_] [(1,(Za Z1 (Zs Z0)),Z2)] (Za (Zs Z0) Z1) Z2 rfl (Nat.le_of_eq (Nat.sub_add_cancel (At [_,_] [(1,(Zs Z0),Z1)] (Zs Z0) Z1 rfl h1))))⟩
 have e1:a+1+k - (a+1)=k:=by exact Nat.le_antisymm (At [_,_,_] [(1,(Za Z0 (Zs Z2)),(Za (Zs Z2) Z1))] Z0 Z1 rfl (Nat.le_of_eq (Nat.sub_add_cancel (At [_,_] [] (Zs Z0) (Za (Zs Z0) Z1) rfl)))) (At [_,_,_] [(1,(Za (Zs Z2) Z0),(Za Z1 (Zs Z2)))] Z0 Z1 rfl (BP _ _))
 have e2:a+1+k - a=k+1:=by exact Nat.le_antisymm (At [_,_,_] [(1,(Za Z0 Z2),(Za (Zs Z2) Z1))] Z0 (Zs Z1) rfl (Nat.le_of_eq (Nat.sub_add_cancel (At [_,_] [] Z0 (Za (Zs Z0) Z1) rfl)))) (At [_,_,_] [(1,(Za (Zs Z2) Z0),(Za Z1 Z2))] (Zs Z0) Z1 rfl (BP _ _))
 rw [e1,e2,Nat.succ_mul];exact B6 [_,_,_,_,_] [(1,Z1,(Za Z4 (Za (Zs Z2) Z3)))] (Za Z0 Z1) (Za (Za Z0 (Zs (Za (Zs Z2) Z3))) (Zs Z4)) rfl h2
theorem BS.upd0 {P:Addr→Prop} {h h':HP} {a:Addr} (x:AO) (f:BS P h P h') (ha:h a=none):BS P h P (AC.upd h' a x):=
 ⟨fun b hb nb=>(Ad _ _ (by rintro rfl;exact hb ha)).trans (f.keep b hb nb),fun zu q=>.inl q⟩
theorem AN.updOff {X:Af} {t d:Addr} {fin ci:Bool} {hp:HP} (hr:AN X t d fin ci hp) {a:Addr} {x:AO} (ha:¬Fp X t d a):AN X t d fin ci (AC.upd hp a x):=
 hr.off (fun b hb=>Ad _ _ (by rintro rfl;exact ha hb))
end
section
variable {C:Cf} {A:Around} {E:Value→Shared→Prop} {env:Env} {σ:Al}
theorem CK {hp:HP} {a b:Addr} {x:AO} (h1:hp a=some x) (h2:hp b=none):a≠b:=fun zE=>by (first|rw [zE,h1] at h2|rw [←zE,h1] at h2);exact Ap h2
theorem Qe {X:Af} {p q:Ag} (h:X.AD p) (hs:q <:+ p):X.AD q:=fun r hr hD=>h r (hr.trans hs) hD
structure Ov (X:Af) (t d:Addr) (ci:Bool) (hp:HP) (pa wa:Addr) (st pl:List Ag) (x:Ag) (ys:List Ag) (X':Af) (σ:Al):Prop where
 wf:X'.Wf
 rep:AN X' t d false ci σ.hp
 fr:BS (Fp X t d) hp (Fp X t d) σ.hp
 step:X.Step X'
 all:∀p∈X'.D,X'.UD p∨X'.AD p
 sad:∀p∈st,X'.AD p
 pad:∀p∈pl,X'.AD p
 dfs:HD X'.D st pl x ys
 set:∃S,σ.hp pa=some (.iset S pl.length)∧Hd X'.D pl S
 stk:σ.hp wa=some (.list (st.map fun p=>.ref (X'.A p)))
 l1:σ.v "self" = some (.ref t)
 l2:σ.v "processed" = some (.ref pa)
 l3:σ.v "to_process" = some (.ref wa)
inductive PY (X:Af) (N:Nat) (t d:Addr) (ci:Bool) (hp:HP) (pa wa:Addr) (m:Nat) (σ':Al):Prop
 |mk (st pl:List Ag) (X':Af) (h1:m=(N - pl.length)*(N+1)+st.length) (h2:st.length≤pl.length*N+1) (h3:Ov X t d ci hp pa wa st pl [] [] X' σ')
inductive PZ (X:Af) (t d:Addr) (ci:Bool) (hp:HP) (pa wa:Addr) (X':Af) (st pl:List Ag) (x:Ag) (ep:Nat) (zx:AV) (zy:Al) (xs:List AV) (σ'':Al):Prop
 |mk (st' ys:List Ag) (X'':Af) (h1:xs=ys.map (fun y=>AV.ref (X'.A y))) (h2:X'.Step X'') (h3:Ov X t d ci hp pa wa st' (F0 pl x) x ys X'' σ'') (h4:∀y∈ys,Ch X'.D x y) (h5:x∈pl→st'=st) (h6:st'.length+ys.length≤st.length+X'.D.length) (h7:σ''.hp (X'.T x)=some (.dict (X'.trv x) ep))
theorem NA (T:Tp C) {X:Af} {t d:Addr} {ci:Bool} {hp:HP} {N:Nat} (hA:A.handled=none) (hroom:A.depth+N+2<recursionLimit) (hw:X.Wf) (hr:AN X t d false ci hp) (had:X.AD []) (hall:∀p∈X.D,X.UD p∨X.AD p)
  (hz:X.D.length≤300) (hN:∀p∈X.D,p.length≤N) :
  Fn C A (.ref 115) [.ref t,.ref (X.A [])] [] hp (fun v hp'=>v=.none∧∃X',X'.Wf∧AN X' t d false ci hp'∧BS (Fp X t d) hp (Fp X t d) hp'∧X.Step X'∧∀p∈X.D,X'.DN p):=by
 refine xa1_1 T.f_kids ?_;intro r₀ hf
 refine xa1_1 T.f_lss ?_;intro r₁ hfl
 refine CX (body:=Io.body) hf (J4 C r₀ _ _) (fun L=>?_) (by exact B6 [_,_,_] [(1,(Zs (Za (Za Z0 Z2) (Zn 2))),Z1)] Z0 Z1 rfl hroom) (by kernel_rfl) (by kernel_rfl) (by kernel_rfl) (by kernel_rfl) (by kernel_rfl)
 refine Tr.gen fun K0 hK0=>?_
 refine Ab (Ai (AJ (Bt T.g_set (Ax (A5 (JR (fun pa hpa=>?_)))))))
 refine Ab (Ai (EM (A2 (Ac rfl (Ax ⟨by simp,fun wa hwa=>?_⟩)))))
 have hwp:wa≠pa:=fun zE=>by (first|rw [zE] at hwa|rw [←zE] at hwa);simp at hwa
 have hwa0:hp wa=none:=by simpa [upd,hwp] using hwa
 have hpa0:hp pa=none:=hpa
 have npa:¬Fp X t d pa:=fun h=>hr.some h hpa0
 have nwa:¬Fp X t d wa:=fun h=>hr.some h hwa0
 refine Ab (EL (PY X X.D.length t d ci hp pa wa) ?_ ((X.D.length - 0)*(X.D.length+1)+1) ?_)
 ·(rintro m σ';intro zr;refine cps fun zP zk=>?_;(rcases zr with ⟨st,pl,X',rfl,hlen0,I⟩)<;>(refine zk ?_;clear zk zP))
  have hD':X'.D=X.D:=I.step.same.D
  have hfp:Fp X' t d=Fp X t d:=I.step.same.fp t d
  have hpc:PC X'.D:=I.wf.pc
  rw [←hD'] at hz hN hlen0 ⊢
  have hplD:pl.length≤X'.D.length:=Cd I.dfs.pn I.dfs.pD
  have hlen:(st.map fun p=>AV.ref (X'.A p)).length≤100000:=by
   have h2:pl.length*X'.D.length≤300*300:=Nat.mul_le_mul (by with_reducible exact C8 ‹_› ‹_›) hz
   simp;exact At [_,_] [(1,Z0,(Zs Z1)),(1,Z1,(.mulL 300 (Zn 300)))] Z0 (Zn 100000) rfl hlen0 h2
  refine Bl (Ac I.l3 (Fh I.stk hlen ?_))
  rcases List.eq_nil_or_concat st with rfl|⟨st,x,rfl⟩
  ·simp only [List.map_nil,List.isEmpty_nil,Bool.not_true]
   exact Am (hK0 _ _ ⟨rfl,X',I.wf,I.rep,I.fr,I.step,fun p hp=>I.pad p (I.dfs.all hpc p (hD'.symm▸hp)) p (List.suffix_refl p) (hD'.symm▸hp)⟩)
  ·rw [List.concat_eq_append] at *
   simp only [List.map_append,List.map_cons,List.map_nil] at hlen ⊢
   have hne:(!(st.map (fun p=>AV.ref (X'.A p))++[AV.ref (X'.A x)]).isEmpty)=true:=by simp
   rw [hne]
   refine Tr.gen fun K1 hK1=>?_
   have hstk:=I.stk
   simp only [List.map_append,List.map_cons,List.map_nil] at hstk
   have hxD:x∈X'.D:=I.dfs.sD x (by simp)
   have hx:X'.AD x:=I.sad x (by simp)
   have hxn:X'.DN x:=hx x (List.suffix_refl x) hxD
   refine xa1_2 I.set ?_;intro S hS hM
   refine Ab (Ai (AA (Ac I.l3 (Oj hstk (Ax (A5 (Im hstk (by simp at hlen ⊢;with_reducible exact BX ‹_› (by decide)) ?_)))))))
   have hr1:AN X' t d false ci (upd σ'.hp wa (.list (st.map fun p=>.ref (X'.A p)))):=I.rep.updOff (by rw [hfp];exact nwa)
   refine Ab (Bn (AA (Ac (Ah I.l2) (Mc ((Ad _ _ hwp.symm).trans hS) (A2 (Aq (Ac Av (Ka (X:=X') T hr1 hxD (Ax (A5 (JS ((Ad _ _ hwp.symm).trans hS) (by exact B6 [_,_] [(1,Z1,(Zn 300)),(1,Z0,Z1)] (Zs Z0) (Zn 4096) rfl hz hplD) ?_)))))))))))
   have hr2:AN X' t d false ci (upd (upd σ'.hp wa (.list (st.map fun p=>.ref (X'.A p)))) pa (.iset (fun j=>S j||decide (j=(X'.D.idxOf x:Int))) (if S (X'.D.idxOf x) then pl.length else pl.length+1))):=hr1.updOff (by rw [hfp];exact npa)
   refine xa1_1 (hr2.td x hxD) ?_;intro ep htd
   have hkeep:∀a,Fp X' t d a→a≠wa∧a≠pa:=fun a ha=>⟨fun zE=>nwa (zE▸hfp▸ha),fun zE=>npa (zE▸hfp▸ha)⟩
   have htx:Fp X' t d (X'.T x):=.inr (.inr ⟨x,hxD,.inr rfl⟩)
   refine Ab (HB (fun zu zu hp=>hp (X'.T x)=some (.dict (X'.trv x) ep))
    (PZ X t d ci hp pa wa X' st pl x ep)
    (AA (Aq (Ac Av (DP (X:=X') T hr2 hxD (Ij htd (Ax (A5 (dict_values T.sysm htd (fun v hv=>⟨_,Fq Ea hA (Ae _ _ _) ?_,?_⟩))))))))) ?_ ?_ ?_)
   ·exact (Ad _ _ (CK htd hv)).trans htd
   ·have hvw:v≠wa:=fun zE=>by (first|rw [zE] at hv|rw [←zE] at hv);simp [upd,hwp] at hv
    have hvp:v≠pa:=fun zE=>by (first|rw [zE] at hv|rw [←zE] at hv);simp [upd] at hv
    have hv0:σ'.hp v=none:=by simpa [upd,hvw,hvp] using hv
    have hvh:hp v=none:=by
     cases e:hp v with
     |none=>rfl
     |some o=>
      have nf:¬Fp X t d v:=fun q=>I.rep.some (hfp▸q) hv0
      rw [I.fr.keep v (by rw [e];simp) nf,e] at hv0;exact Ap hv0
    refine ⟨st,(X'.tr x).map (·.2),X',by simp [Af.trv],.refl X',⟨I.wf,hr2.new hv,((I.fr.upd0 _ hwa0).upd0 _ hpa0).upd0 _ hvh,I.step,I.all,fun p hp=>I.sad p (by simp [hp]),fun p hp=>?_,I.dfs.pop (fun y hc=>?_),?_,?_,Ah I.l1,Ah I.l2,Ah I.l3⟩,?_,fun zu=>rfl,?_,?_⟩
    ·rcases AY.mp hp with q|rfl
     ·exact I.pad p q
     ·exact hx
    ·refine xa1_1 hc ?_;(try clear hc);intro c hc
     rw [←hxn.2 c] at hc
     exact List.mem_map.mpr ⟨(c,y),EU hc,rfl⟩
    ·refine ⟨_,?_,hM.add hxD⟩
     rw [←Ki pl x hM hxD]
     exact (Ad _ _ hvp.symm).trans (Ae _ _ _)
    ·exact (Ad _ _ hvw.symm).trans ((Ad _ _ hwp).trans (Ae _ _ _))
    ·intro y hy
     refine xa1_2 (List.mem_map.mp hy) ?_;intro e he;rintro rfl
     exact ⟨e.1,by rw [←hxn.2 e.1];exact Il (I.wf.trN x hxD) he⟩
    ·have:=I.wf.trlen hxD
     simp;assumption
    ·exact (Ad _ _ (CK htd hv)).trans htd
   ·(rintro zu zu xs σ'';intro zr;refine cps fun zP zk=>?_;(rcases zr with ⟨zu,zu,zu,zu,zu,zu,zu,zu,zu,h⟩)<;>(refine zk ?_;clear zk zP))
    exact h
   ·(rintro zu zu z xs σ'';intro zr;refine cps fun zP zk=>?_;(rcases zr with ⟨st',ys,X'',e1,hst,J,hch,hnp,hln,htk⟩)<;>(refine zk ?_;clear zk zP))
    obtain ⟨y,ys,rfl,rfl,rfl⟩:∃y ys',ys=y::ys'∧z=.ref (X'.A y)∧xs=ys'.map (fun y=>AV.ref (X'.A y)):=by
     cases ys with
     |nil=>cases e1
     |cons y ys'=>simp only [List.map_cons,List.cons.injEq] at e1;exact ⟨y,ys',rfl,e1.1,e1.2⟩
    have hD2:X''.D=X'.D:=hst.same.D
    have hA2:X''.A=X'.A:=hst.same.A
    have hT2:X''.T=X'.T:=hst.same.T
    have hfp2:Fp X'' t d=Fp X t d:=(hst.same.fp t d).trans hfp
    refine xa1_1 (hch y (by simp)) ?_;intro c hc
    refine cps fun zP zk=>?_;(rcases EX hc with ⟨hyD,r',rfl,hr'x⟩)<;>(refine zk ?_;clear zk zP)
    rw [←hA2]
    rw [←hD2] at hyD
    refine xa1_2 J.set ?_;intro S2 hS2 hM2
    refine By ?_
    refine Tr.gen fun K2 hK2=>?_
    refine Ab (Bd (Be (Aq (Ac Av (Ka (X:=X'') T J.rep hyD (Ac (Ah J.l2) (Gi (LH hS2 ⟨_,rfl,_,rfl,?_⟩))))))))
    have hlen2:(st'.map fun p=>AV.ref (X''.A p)).length≤100000:=by
     have h2:pl.length*X'.D.length≤300*300:=Nat.mul_le_mul (by with_reducible exact C8 ‹_› ‹_›) hz
     simp at hlen0 hln ⊢;exact At [_,_,_,_,_] [(1,Z1,(Zn 300)),(1,(Za Z0 (Zs Z2)),(Za Z3 Z1)),(1,Z4,(.mulL 300 (Zn 300))),(1,Z3,Z4)] Z0 (Zn 100000) rfl hz hln h2 hlen0
    by_cases hy:r'++[c]∈F0 pl x
    ·rw [(hM2 _ hyD).mpr hy]
     simp only [Bool.not_true]
     exact Am (Am (hK2 _ _ ⟨st',ys,X'',by rw [hA2],hst,⟨J.wf,J.rep,J.fr,J.step,J.all,J.sad,J.pad,J.dfs.skip hy,⟨S2,hS2,hM2⟩,J.stk,Ah J.l1,Ah J.l2,Ah J.l3⟩,fun y' hy'=>hch y' (by simp [hy']),hnp,by simp at hln;exact At [_,_,_,_] [(1,(Za Z0 (Zs Z1)),(Za Z2 Z3))] (Za Z0 Z1) (Za Z2 Z3) rfl hln,htk⟩))
    ·have hSf:S2 (X''.D.idxOf (r'++[c]))=false:=by
      cases e:S2 (X''.D.idxOf (r'++[c])) with
      |false=>rfl
      |true=>exact absurd ((hM2 _ hyD).mp e) hy
     rw [hSf]
     simp only [Bool.not_false,if_true]
     have hxJ:X''.AD x:=J.pad x (AY.mpr (.inr rfl))
     have hxD2:x∈X''.D:=hD2▸hxD
     have hcur:X''.UD (r'++[c])∨X''.DN (r'++[c]):=(J.all _ hyD).imp_right (fun a=>a _ (List.suffix_refl _) hyD)
     refine Ab (Bn (AA (Ac (Ah J.l1) (B5 T.m_lss J.rep.tree J.rep.ns rfl (A2 (Ac Av (Ax (A5 (AS hfl (Fn.mono
      (OE T N (A.deeper (callEnv (r₀.fd Io .none) L 115)) X'' t d ci σ''.hp r' c (hN _ (hD2▸hyD)) hA (by show A.depth+1+N<recursionLimit;exact B6 [_,_,_] [(1,(Zs (Za (Za Z0 Z1) (Zn 2))),Z2)] (Za (Zs Z0) Z1) Z2 rfl hroom) J.wf J.rep hyD (Qe hxJ hr'x) (fun p hp zu=>J.all p hp) hcur (by rw [hD2];with_reducible exact BX ‹_› (by decide))) ?_))))))))))
     (rintro v hp3;intro zr;refine cps fun zP zk=>?_;(rcases zr with ⟨zu,X3,hw3,hr3,hfr3,st3,ad3,zu,kt3⟩)<;>(refine zk ?_;clear zk zP))
     have hD3:X3.D=X''.D:=st3.same.D
     have hA3:X3.A=X''.A:=st3.same.A
     have hfp3:Fp X3 t d=Fp X t d:=(st3.same.fp t d).trans hfp2
     have hwk:hp3 wa=some (.list (st'.map fun p=>.ref (X''.A p))):=(hfr3.keep wa (by rw [J.stk];simp) (by rw [hfp2];exact nwa)).trans J.stk
     have hpk:hp3 pa=some (.iset S2 (F0 pl x).length):=(hfr3.keep pa (by rw [hS2];simp) (by rw [hfp2];exact npa)).trans hS2
     refine Ab (Bn (AA (Ac (Ah J.l3) (E0 hwk (A2 (Ac Av (Ax (A5 (list_append hwk hlen2 ?_)))))))))
     refine Am (Am (hK2 _ _ ⟨st'++[r'++[c]],ys,X3,by rw [hA2],hst.trans st3,⟨hw3,AN.updOff hr3 (by rw [hfp3];exact nwa),(J.fr.trans (hfp2▸hfr3)).upd0 _ hwa0,J.step.trans st3,?_,?_,fun p hp=>st3.ad (J.pad p hp),?_,?_,?_,Ah J.l1,Ah J.l2,Ah J.l3⟩,fun y' hy'=>hch y' (by simp [hy']),?_,?_,?_⟩))
     ·intro p hp
      rw [hD3] at hp
      rcases st3.all p hp with a|a
      ·rcases J.all p hp with b|b
       ·exact .inl (a.ud st3.same b)
       ·exact .inr (st3.ad b)
      ·exact .inr a
     ·intro p hp
      rcases List.mem_append.mp hp with q|q
      ·exact st3.ad (J.sad p q)
      ·simp at q;subst q;exact ad3
     ·rw [hD3];exact J.dfs.push hy hyD
     ·exact ⟨S2,(Ad _ _ hwp.symm).trans hpk,by rw [hD3];exact hM2⟩
     ·rw [hA3];refine (Ae _ _ _).trans ?_;simp
     ·intro q
      exact absurd (AY.mpr (.inl (I.dfs.known q _ ⟨c,hc⟩))) hy
     ·simp at hln ⊢;exact At [_,_,_,_] [(1,(Za Z0 (Zs Z1)),(Za Z2 Z3))] (Za (Zs Z0) Z1) (Za Z2 Z3) rfl hln
     ·have hxy:x≠r'++[c]:=by rintro rfl;exact hy (AY.mpr (.inr rfl))
      have:=kt3 x hxD2 hxy (by rw [(hxJ x (List.suffix_refl x) hxD2).1];simp)
      rw [hT2] at this
      exact (Ad _ _ (hkeep _ htx).1).trans (this.trans htk)
   ·(rintro zu zu σ'';intro zr;refine cps fun zP zk=>?_;(rcases zr with ⟨st',ys,X'',e1,hst,J,hch,hnp,hln,htk⟩)<;>(refine zk ?_;clear zk zP))
    have:ys=[]:=by cases ys with|nil=>rfl|cons=>cases e1
    subst this
    have hD2:X''.D=X'.D:=hst.same.D
    refine Am (hK1 _ _ ?_)
    by_cases hxp:x∈pl
    ·have e:=hnp hxp
     subst e
     have hi:F0 pl x=pl:=by simp [F0,hxp]
     rw [hi] at J
     refine ⟨_,?_,st',pl,X'',rfl,?_,⟨J.wf,J.rep,J.fr,J.step,J.all,J.sad,J.pad,⟨J.dfs.sD,J.dfs.pD,J.dfs.pn,J.dfs.rt,fun z hz y hc=>?_,fun l z r e hz y hc=>?_⟩,J.set,J.stk,J.l1,J.l2,J.l3⟩⟩
     ·simp
     ·simp at hlen0;exact At [_,_] [(1,Z0,Z1)] Z0 (Zs Z1) rfl hlen0
     ·rcases J.dfs.cl z hz y hc with a|a|a
      ·exact .inl a
      ·exact .inr (.inl a)
      ·simp at a
     ·rcases J.dfs.tp l z r e hz y hc with a|a|a
      ·exact .inl a
      ·exact .inr (.inl a)
      ·simp at a
    ·have hi:(F0 pl x).length=pl.length+1:=by simp [F0,hxp]
     have hle:(F0 pl x).length≤X'.D.length:=by rw [←hD2];exact Cd J.dfs.pn J.dfs.pD
     refine ⟨_,?_,st',F0 pl x,X'',rfl,?_,⟨J.wf,J.rep,J.fr,J.step,J.all,J.sad,J.pad,⟨J.dfs.sD,J.dfs.pD,J.dfs.pn,J.dfs.rt,fun z hz y hc=>?_,fun l z r e hz y hc=>?_⟩,J.set,J.stk,J.l1,J.l2,J.l3⟩⟩
     ·rw [hi,List.length_append]
      exact Fv (b:=0) (by exact At [_,_,_] [(1,(Zs Z0),Z2),(1,Z2,Z1)] (Zs Z0) Z1 rfl (Nat.le_of_eq (Eq.symm hi)) hle) (by simpa using hln)
     ·rw [hi,Nat.succ_mul]
      simp at hln hlen0;exact At [_,_,_,_] [(1,Z0,(Za Z3 Z2)),(1,Z3,Z1)] Z0 (Zs (Za Z1 Z2)) rfl hln hlen0
     ·rcases J.dfs.cl z hz y hc with a|a|a
      ·exact .inl a
      ·exact .inr (.inl a)
      ·simp at a
     ·rcases J.dfs.tp l z r e hz y hc with a|a|a
      ·exact .inl a
      ·exact .inr (.inl a)
      ·simp at a
 ·refine ⟨[[]],[],X,by simp,by simp,⟨hw,(hr.new hpa0).updOff nwa,((BS.new _ hpa0).upd0 _ hwa0),.refl X,hall,?_,by simp,HD.init hw.root [],⟨fun zu=>false,(Ad _ _ hwp.symm).trans (Ae _ _ _),fun p zu=>by simp⟩,Ae _ _ _,rfl,rfl,rfl⟩⟩
  intro p hp;simp at hp;subst hp;exact had
end
section
variable {C:Cf} {A:Around} {E:Value→Shared→Prop} {env:Env} {σ:Al}
noncomputable def outs (key:Ag→Option AV):Ag→List AV
 |[]=>[]
 |c::p=>(match key (c::p) with|some v=>[.tup [v,.int ((c::p).length:Nat)]]|none=>[])++outs key p
theorem Hq {key:Ag→Option AV}:outs key []=[]:=rfl
theorem Hp {key:Ag→Option AV} {c:Au} {p:Ag}:outs key (c::p)=(match key (c::p) with|some v=>[.tup [v,.int ((c::p).length:Nat)]]|none=>[])++outs key p:=rfl
theorem Ep (key:Ag→Option AV):∀p,(outs key p).length≤p.length
 |[]=>Nat.le_refl _
 |c::p=>by
  have:=Ep key p
  simp only [Hq,Hp,List.length_append,List.length_cons]
  split<;>simp<;>omega
theorem Gf {D:List Ag} {key:Ag→Option AV} (hk:∀p,p∉D→key p=none):∀p,outs key p=outs key (BZ D p)
 |[]=>rfl
 |c::p=>by
  by_cases h:(c::p)∈D
  ·rw [FV h]
  ·rw [show BZ D (c::p)=BZ D p by simp [FW,Fj,h],←Gf hk p]
   simp [Hq,Hp,hk _ h]
theorem KJ {D:List Ag} {key:Ag→Option AV} (hk:∀p,p∉D→key p=none) {p:Ag} (hp:p≠[]) :
  outs key p=(match key p with|some v=>[.tup [v,.int (p.length:Nat)]]|none=>[])++outs key (Cj D p):=by
 cases p with
 |nil=>exact absurd rfl hp
 |cons c p=>simp only [Hq,Hp,Cj,List.tail_cons,←Gf hk p]
noncomputable def Af.wo (X:Af) (o:Ag→Option AV):Af:={ X with out:=o }
theorem Op {X:Af} (h:X.Wf) (o:Ag→Option AV):(X.wo o).Wf:=⟨h.root,h.nodup,h.closed,h.ti,h.trD,h.trN,h.trL,h.mkD,h.mkV⟩
noncomputable def Pg (X:Af) (t d:Addr) (hp:HP):Prop:=∀p v,X.key p=some v→∃xs,xs.length=p.length∧BI v xs hp∧∀a,v=.ref a→¬Fp X t d a
structure PO (X:Af) (t d:Addr) (ci:Bool) (hp:HP) (pa wa:Addr) (st pl:List Ag) (x:Ag) (ys:List Ag) (o:Ag→Option AV) (σ:Al):Prop where
 rep:AN (X.wo o) t d false ci σ.hp
 fr:BS (Fp X t d) hp (Fp X t d) σ.hp
 sad:∀p∈st,o p=some (.tup (outs X.key p))
 pad:∀p∈pl,o p=some (.tup (outs X.key p))
 dfs:HD X.D st pl x ys
 set:∃S,σ.hp pa=some (.iset S pl.length)∧Hd X.D pl S
 stk:σ.hp wa=some (.list (st.map fun p=>.ref (X.A p)))
 l1:σ.v "zero_state" = some (.ref (X.A []))
 l2:σ.v "processed" = some (.ref pa)
 l3:σ.v "to_process" = some (.ref wa)
inductive Q3 (X:Af) (t d:Addr) (ci:Bool) (hp:HP) (pa wa:Addr) (m:Nat) (σ':Al):Prop
 |mk (st pl:List Ag) (o:Ag→Option AV) (h1:m=(X.D.length - pl.length)*(X.D.length+1)+st.length) (h2:st.length≤pl.length*X.D.length+1) (h3:PO X t d ci hp pa wa st pl [] [] o σ')
inductive Q5 (X:Af) (t d:Addr) (ci:Bool) (hp:HP) (pa wa:Addr) (st pl:List Ag) (x:Ag) (ep:Nat) (zx:AV) (zy:Al) (xs:List AV) (σ'':Al):Prop
 |mk (st' ys:List Ag) (o':Ag→Option AV) (h1:xs=ys.map (fun y=>AV.ref (X.A y))) (h2:PO X t d ci hp pa wa st' (F0 pl x) x ys o' σ'') (h3:∀y∈ys,Ch X.D x y) (h4:x∈pl→st'=st) (h5:st'.length+ys.length≤st.length+X.D.length) (h6:σ''.hp (X.T x)=some (.dict (X.trv x) ep))
inductive Q4 (X:Af) (pa wa oa:Addr) (y:Ag) (h0:HP) (n:Nat) (σ₃:Al):Prop
 |mk (s:Ag) (acc:List AV) (h1:s∈X.D) (h2:n=s.length) (h3:outs X.key y=acc++outs X.key s) (h4:σ₃.hp=upd h0 oa (.list acc)) (h5:σ₃.v "zero_state" = some (.ref (X.A []))) (h6:σ₃.v "processed" = some (.ref pa)) (h7:σ₃.v "to_process" = some (.ref wa)) (h8:σ₃.v "child" = some (.ref (X.A y))) (h9:σ₃.v "outputs" = some (.ref oa)) (h10:σ₃.v "suffix" = some (.ref (X.A s)))
theorem O6 (T:Tp C) {X:Af} {t d:Addr} {ci:Bool} {hp:HP} {N:Nat} (hA:A.handled=none) (hroom:A.depth+2<recursionLimit) (hw:X.Wf) (hr:AN X t d false ci hp) (hdn:∀p∈X.D,X.DN p)
  (hz:X.D.length≤300) (hN:∀p∈X.D,p.length≤1000) (hk:Pg X t d hp) :
  Fn C A (.ref 108) [.ref t] [] hp (fun v hp'=>v=.none∧∃o,AN (X.wo o) t d false ci hp'∧BS (Fp X t d) hp (Fp X t d) hp'∧∀p∈X.D,o p=some (.tup (outs X.key p))):=by
 refine xa1_1 T.f_pre ?_;intro r₀ hf
 refine CX (body:=LN.body) hf (Lk C r₀ _) (fun L=>?_) (by with_reducible exact Gh ‹_›) (by kernel_rfl) (by kernel_rfl) (by kernel_rfl) (by kernel_rfl) (by kernel_rfl)
 refine Tr.gen fun K0 hK0=>?_
 refine Ab (Ai (Aq (Ac rfl (Bv T.n_zero hr.tree hr.ns rfl ?_))))
 refine Ab (An (G2 (Ax ⟨by decide,Ac rfl (HZ T hr hw.root ?_)⟩)))
 have hr0:AN (X.wo (fun x=>if x=[] then some (.tup []) else X.out x)) t d false ci (upd hp (X.A []) ((X.setOut [] (.tup [])).nodeAO [])):=Gb hr hw.root
 have hf0:BS (Fp X t d) hp (Fp X t d) (upd hp (X.A []) ((X.setOut [] (.tup [])).nodeAO [])):=BS.upd _ (.inr (.inr ⟨[],hw.root,.inl rfl⟩))
 generalize hp0e:upd hp (X.A []) ((X.setOut [] (.tup [])).nodeAO [])=hp0 at hr0 hf0
 show Cq C _ Bj _ (LN.body.drop 2) ⟨_,upd hp (X.A []) ((X.setOut [] (.tup [])).nodeAO [])⟩ _
 rw [hp0e]
 refine Ab (Ai (AJ (Bt T.g_set (Ax (A5 (JR (fun pa hpa=>?_)))))))
 refine Ab (Ai (EM (A2 (Ac rfl (Ax ⟨by simp,fun wa hwa=>?_⟩)))))
 have hwp:wa≠pa:=fun zE=>by (first|rw [zE] at hwa|rw [←zE] at hwa);simp at hwa
 have hwa1:hp0 wa=none:=by simpa [upd,hwp] using hwa
 have hpa1:hp0 pa=none:=hpa
 have npa:¬Fp X t d pa:=fun h=>hr0.some h hpa1
 have nwa:¬Fp X t d wa:=fun h=>hr0.some h hwa1
 have hpa0:hp pa=none:=by
  cases e:hp pa with
  |none=>rfl
  |some o=>rw [hf0.keep pa (by rw [e];simp) npa,e] at hpa1;exact Ap hpa1
 have hwa0:hp wa=none:=by
  cases e:hp wa with
  |none=>rfl
  |some o=>rw [hf0.keep wa (by rw [e];simp) nwa,e] at hwa1;exact Ap hwa1
 refine Ab (EL (Q3 X t d ci hp pa wa) ?_ ((X.D.length - 0)*(X.D.length+1)+1) ?_)
 ·(rintro m σ';intro zr;refine cps fun zP zk=>?_;(rcases zr with ⟨st,pl,o,rfl,hlen0,I⟩)<;>(refine zk ?_;clear zk zP))
  have hplD:pl.length≤X.D.length:=Cd I.dfs.pn I.dfs.pD
  have hlen:(st.map fun p=>AV.ref (X.A p)).length≤100000:=by
   have h2:pl.length*X.D.length≤300*300:=Nat.mul_le_mul (by with_reducible exact C8 ‹_› ‹_›) hz
   simp;exact At [_,_] [(1,Z0,(Zs Z1)),(1,Z1,(.mulL 300 (Zn 300)))] Z0 (Zn 100000) rfl hlen0 h2
  refine Bl (Ac I.l3 (Fh I.stk hlen ?_))
  rcases List.eq_nil_or_concat st with rfl|⟨st,x,rfl⟩
  ·simp only [List.map_nil,List.isEmpty_nil,Bool.not_true]
   exact Am (hK0 _ _ ⟨rfl,o,I.rep,I.fr,fun p hp=>I.pad p (I.dfs.all hw.pc p hp)⟩)
  ·rw [List.concat_eq_append] at *
   simp only [List.map_append,List.map_cons,List.map_nil] at hlen ⊢
   have hne:(!(st.map (fun p=>AV.ref (X.A p))++[AV.ref (X.A x)]).isEmpty)=true:=by simp
   rw [hne]
   refine Tr.gen fun K1 hK1=>?_
   have hstk:=I.stk
   simp only [List.map_append,List.map_cons,List.map_nil] at hstk
   have hxD:x∈X.D:=I.dfs.sD x (by simp)
   have hxn:X.DN x:=hdn x hxD
   refine xa1_2 I.set ?_;intro S hS hM
   refine Ab (Ai (AA (Ac I.l3 (Oj hstk (Ax (A5 (Im hstk (by simp at hlen ⊢;with_reducible exact BX ‹_› (by decide)) ?_)))))))
   have hr1:AN (X.wo o) t d false ci (upd σ'.hp wa (.list (st.map fun p=>.ref (X.A p)))):=I.rep.updOff nwa
   refine Ab (Bn (AA (Ac (Ah I.l2) (Mc ((Ad _ _ hwp.symm).trans hS) (A2 (Aq (Ac Av (Ka (X:=X.wo o) T hr1 hxD (Ax (A5 (JS ((Ad _ _ hwp.symm).trans hS) (by exact B6 [_,_] [(1,Z1,(Zn 300)),(1,Z0,Z1)] (Zs Z0) (Zn 4096) rfl hz hplD) ?_)))))))))))
   have hr2:AN (X.wo o) t d false ci (upd (upd σ'.hp wa (.list (st.map fun p=>.ref (X.A p)))) pa (.iset (fun j=>S j||decide (j=(X.D.idxOf x:Int))) (if S (X.D.idxOf x) then pl.length else pl.length+1))):=hr1.updOff npa
   refine xa1_1 (hr2.td x hxD) ?_;intro ep htd
   have hkeep:∀a,Fp X t d a→a≠wa∧a≠pa:=fun a ha=>⟨fun zE=>nwa (zE▸ha),fun zE=>npa (zE▸ha)⟩
   have htx:Fp X t d (X.T x):=.inr (.inr ⟨x,hxD,.inr rfl⟩)
   refine Ab (HB (fun zu zu hp=>hp (X.T x)=some (.dict (X.trv x) ep))
    (Q5 X t d ci hp pa wa st pl x ep)
    (AA (Aq (Ac Av (DP (X:=X.wo o) T hr2 hxD (Ij htd (Ax (A5 (dict_values T.sysm htd (fun v hv=>⟨_,Fq Ea hA (Ae _ _ _) ?_,?_⟩))))))))) ?_ ?_ ?_)
   ·exact (Ad _ _ (CK htd hv)).trans htd
   ·have hvw:v≠wa:=fun zE=>by (first|rw [zE] at hv|rw [←zE] at hv);simp [upd,hwp] at hv
    have hvp:v≠pa:=fun zE=>by (first|rw [zE] at hv|rw [←zE] at hv);simp [upd] at hv
    have hv0:σ'.hp v=none:=by simpa [upd,hvw,hvp] using hv
    have hvh:hp v=none:=by
     cases e:hp v with
     |none=>rfl
     |some ob=>
      have nf:¬Fp X t d v:=fun q=>I.rep.some q hv0
      rw [I.fr.keep v (by rw [e];simp) nf,e] at hv0;exact Ap hv0
    refine ⟨st,(X.tr x).map (·.2),o,by simp [Af.trv,Af.wo],⟨hr2.new hv,((I.fr.upd0 _ hwa0).upd0 _ hpa0).upd0 _ hvh,fun p hp=>I.sad p (by simp [hp]),fun p hp=>?_,I.dfs.pop (fun y hc=>?_),?_,?_,Ah I.l1,Ah I.l2,Ah I.l3⟩,?_,fun zu=>rfl,?_,?_⟩
    ·rcases AY.mp hp with q|rfl
     ·exact I.pad p q
     ·exact I.sad p (by simp)
    ·refine xa1_1 hc ?_;(try clear hc);intro c hc
     rw [←hxn.2 c] at hc
     exact List.mem_map.mpr ⟨(c,y),EU hc,rfl⟩
    ·refine ⟨_,?_,hM.add hxD⟩
     rw [←Ki pl x hM hxD]
     exact (Ad _ _ hvp.symm).trans (Ae _ _ _)
    ·exact (Ad _ _ hvw.symm).trans ((Ad _ _ hwp).trans (Ae _ _ _))
    ·intro y hy
     refine xa1_2 (List.mem_map.mp hy) ?_;intro e he;rintro rfl
     exact ⟨e.1,by rw [←hxn.2 e.1];exact Il (hw.trN x hxD) he⟩
    ·have:=hw.trlen hxD
     simp;assumption
    ·exact (Ad _ _ (CK htd hv)).trans htd
   ·(rintro zu zu xs σ'';intro zr;refine cps fun zP zk=>?_;(rcases zr with ⟨zu,zu,zu,zu,zu,zu,zu,zu,h⟩)<;>(refine zk ?_;clear zk zP))
    exact h
   ·(rintro zu zu z xs σ'';intro zr;refine cps fun zP zk=>?_;(rcases zr with ⟨st',ys,o',e1,J,hch,hnp,hln,htk⟩)<;>(refine zk ?_;clear zk zP))
    obtain ⟨y,ys,rfl,rfl,rfl⟩:∃y ys',ys=y::ys'∧z=.ref (X.A y)∧xs=ys'.map (fun y=>AV.ref (X.A y)):=by
     cases ys with
     |nil=>cases e1
     |cons y ys'=>simp only [List.map_cons,List.cons.injEq] at e1;exact ⟨y,ys',rfl,e1.1,e1.2⟩
    refine xa1_1 (hch y (by simp)) ?_;intro c hc
    refine cps fun zP zk=>?_;(rcases EX hc with ⟨hyD,r',hyr,hr'x⟩)<;>(refine zk ?_;clear zk zP)
    refine xa1_2 J.set ?_;intro S2 hS2 hM2
    refine By ?_
    refine Tr.gen fun K2 hK2=>?_
    refine Ab (Bd (Be (Aq (Ac Av (Ka (X:=X.wo o') T J.rep hyD (Ac (Ah J.l2) (Gi (LH hS2 ⟨_,rfl,_,rfl,?_⟩))))))))
    have hlen2:(st'.map fun p=>AV.ref (X.A p)).length≤100000:=by
     have h2:pl.length*X.D.length≤300*300:=Nat.mul_le_mul (by with_reducible exact C8 ‹_› ‹_›) hz
     simp at hlen0 hln ⊢;exact At [_,_,_,_,_] [(1,Z1,(Zn 300)),(1,(Za Z0 (Zs Z2)),(Za Z3 Z1)),(1,Z4,(.mulL 300 (Zn 300))),(1,Z3,Z4)] Z0 (Zn 100000) rfl hz hln h2 hlen0
    by_cases hy:y∈F0 pl x
    ·have hSt:S2 ((X.wo o').D.idxOf y)=true:=(hM2 _ hyD).mpr hy
     rw [hSt]
     simp only [Bool.not_true]
     exact Am (Am (hK2 _ _ ⟨st',ys,o',rfl,⟨J.rep,J.fr,J.sad,J.pad,J.dfs.skip hy,⟨S2,hS2,hM2⟩,J.stk,Ah J.l1,Ah J.l2,Ah J.l3⟩,fun y' hy'=>hch y' (by simp [hy']),hnp,by simp at hln;exact At [_,_,_,_] [(1,(Za Z0 (Zs Z1)),(Za Z2 Z3))] (Za Z0 Z1) (Za Z2 Z3) rfl hln,htk⟩))
    ·have hSf:S2 ((X.wo o').D.idxOf y)=false:=by
      cases e:S2 ((X.wo o').D.idxOf y) with
      |false=>rfl
      |true=>exact absurd ((hM2 _ hyD).mp e) hy
     rw [hSf]
     simp only [Bool.not_false,if_true]
     refine Ab (Ai (EM (Ax ⟨by decide,fun oa hoa=>?_⟩)))
     have hoa':σ''.hp oa=none:=hoa
     have nof:¬Fp X t d oa:=fun q=>J.rep.some q hoa'
     have hoh:hp oa=none:=by
      cases e:hp oa with
      |none=>rfl
      |some ob=>rw [J.fr.keep oa (by rw [e];simp) nof,e] at hoa';exact Ap hoa'
     have hop:oa≠pa:=fun zE=>by (first|rw [zE,hS2] at hoa'|rw [←zE,hS2] at hoa');exact Ap hoa'
     have how:oa≠wa:=fun zE=>by (first|rw [zE,J.stk] at hoa'|rw [←zE,J.stk] at hoa');exact Ap hoa'
     refine Ab (Ai (Ac (Ah Av) ?_))
     refine Ab (Tr.mono (EL (Q:=fun f σ₃=>f=.next∧σ₃.hp=upd σ''.hp oa (.list (outs X.key y))∧σ₃.v "zero_state" = some (.ref (X.A []))∧σ₃.v "processed" = some (.ref pa)∧σ₃.v "to_process" = some (.ref wa)∧σ₃.v "child" = some (.ref (X.A y))∧σ₃.v "outputs" = some (.ref oa))
      (Q4 X pa wa oa y σ''.hp) ?_ y.length ?_) ?_)
     ·(rintro n σ₃;intro zr;refine cps fun zP zk=>?_;(rcases zr with ⟨s,acc,hsD,rfl,hacc,he,k1,k2,k3,k4,k5,k6⟩)<;>(refine zk ?_;clear zk zP))
      have hr3:AN (X.wo o') t d false ci σ₃.hp:=he▸J.rep.updOff nof
      have hacl:acc.length≤100000:=by
       have h1:=Ep X.key y
       rw [hacc,List.length_append] at h1
       have:=hN y hyD
       omega
      refine Be (Ac k6 (Ac k1 (Kc (X:=X.wo o') hr3 hsD hw.root ⟨_,rfl,?_⟩)))
      by_cases hs0:s=[]
      ·subst hs0
       simp only [decide_true,Bool.not_true]
       have:acc=outs X.key y:=by rw [hacc];simp [Hq,Hp]
       exact ⟨trivial,this▸he,k1,k2,k3,k4,k5⟩
      ·simp only [hs0,decide_false,Bool.not_false]
       refine Tr.gen fun K3 hK3=>?_
       have hsn:=hdn s hsD
       have hlv:(X.wo o').lssv s=.ref (X.A (Cj X.D s)):=by
        have:(X.wo o').lss s=some (Cj X.D s):=hsn.1
        simp only [Af.lssv,this];rfl
       have hst:=KJ hw.mkD hs0
       refine Ab (Bd (Bl (Aq (Ac k6 (O9 (X:=X.wo o') T hr3 hsD (AQ ?_))))))
       cases hkey:X.key s with
       |none=>
        have:((X.wo o').key s).isSome=false:=by show (X.key s).isSome=false;rw [hkey];rfl
        rw [this]
        refine Am ?_
        refine Ab (Ai (Aq (Ac k6 (ES (X:=X.wo o') T hr3 hsD ?_))))
        rw [hlv]
        refine Am (hK3 _ _ ⟨(Cj X.D s).length,DB hs0,Cj X.D s,acc,Cu hw.pc _,rfl,?_,he,Ah k1,Ah k2,Ah k3,Ah k4,Ah k5,Av⟩)
        rw [hacc,hst,hkey];rfl
       |some v=>
        have:((X.wo o').key s).isSome=true:=by show (X.key s).isSome=true;rw [hkey];rfl
        rw [this]
        refine xa1_3 (hk s v hkey) ?_;intro xs hxl hsv hsep
        have hsv3:BI v xs σ₃.hp:=hsv.fr hsep (he▸J.fr.upd0 _ hoh)
        have hoc:σ₃.hp oa=some (.list acc):=by rw [he];exact Ae _ _ _
        simp only [if_true]
        refine Ab (Ai (Aq (Ac k6 (OC (X:=X.wo o') T (Op hw o') hr3 hsD hkey ?_))))
        refine Ab (Bn (AA (Ac (Ah k5) (E0 hoc (A2 (G2 (A2 (Ac Av (A2 (AJ (Bt T.g_len (A2 (Ac Av (Ax (A5 (Kf hsv3 (Ax ⟨by simp,Ax (A5 (list_append hoc hacl ?_))⟩)))))))))))))))))
        refine Am ?_
        refine Ab (Ai (Aq (Ac (Ah k6) (ES (X:=X.wo o') T (AN.updOff hr3 nof) hsD ?_))))
        rw [hlv,hxl]
        refine Am (hK3 _ _ ⟨(Cj X.D s).length,DB hs0,Cj X.D s,acc++[.tup [v,.int (s.length:Nat)]],Cu hw.pc _,rfl,?_,?_,Ah (Ah k1),Ah (Ah k2),Ah (Ah k3),Ah (Ah k4),Ah (Ah k5),Av⟩)
        ·rw [hacc,hst,hkey];simp
        ·show upd σ₃.hp oa _=_
         rw [he];funext b;simp only [upd];split<;>rfl
     ·exact ⟨y,[],hyD,rfl,rfl,rfl,Ah (Ah (Ah J.l1)),Ah (Ah (Ah J.l2)),Ah (Ah (Ah J.l3)),Ah (Ah Av),Ah Av,Av⟩
     ·(rintro f σ₃;intro zr;refine xa0_7 zr ?_;(try clear zr);rintro rfl;intro he k1 k2 k3 k4 k5)
      have hr3:AN (X.wo o') t d false ci σ₃.hp:=he▸J.rep.updOff nof
      have hoc:σ₃.hp oa=some (.list (outs X.key y)):=by rw [he];exact Ae _ _ _
      have hol:(outs X.key y).length≤100000:=by
       have h1:=Ep X.key y
       have:=hN y hyD
       omega
      refine Ab (An (AJ (Bt T.g_tuple (A2 (Ac k5 (Ax (A5 (IR hoc hol (Ac k4 (HZ (X:=X.wo o') T hr3 hyD ?_))))))))))
      have hAy:X.A y≠wa:=(hkeep _ (.inr (.inr ⟨y,hyD,.inl rfl⟩))).1
      have hAp:X.A y≠pa:=(hkeep _ (.inr (.inr ⟨y,hyD,.inl rfl⟩))).2
      have hwk:(upd σ₃.hp (X.A y) (((X.wo o').setOut y (.tup (outs X.key y))).nodeAO y)) wa=some (.list (st'.map fun p=>.ref (X.A p))):=by
       rw [Ad _ _ hAy.symm,he,Ad _ _ how.symm];exact J.stk
      refine Ab (Bn (AA (Ac k3 (E0 hwk (A2 (Ac k4 (Ax (A5 (list_append hwk hlen2 ?_)))))))))
      refine Am (Am (hK2 _ _ ⟨st'++[y],ys,fun z=>if z=y then some (.tup (outs X.key y)) else o' z,rfl,⟨AN.updOff (Gb hr3 hyD) nwa,?_,?_,?_,J.dfs.push hy hyD,?_,?_,k1,k2,k3⟩,fun y' hy'=>hch y' (by simp [hy']),?_,?_,?_⟩))
      ·refine BS.upd0 _ ?_ hwa0
       refine BS.trans (he▸J.fr.upd0 _ hoh) (BS.upd _ (.inr (.inr ⟨y,hyD,.inl rfl⟩)))
      ·intro p hp
       rcases List.mem_append.mp hp with q|q
       ·show (if p=y then _ else o' p)=_
        split
        ·rename_i e;rw [e]
        ·exact J.sad p q
       ·simp at q;subst q;exact if_pos rfl
      ·intro p hp
       show (if p=y then _ else o' p)=_
       split
       ·rename_i e;rw [e]
       ·exact J.pad p hp
      ·refine ⟨S2,?_,hM2⟩
       exact (Ad _ _ hwp.symm).trans ((Ad _ _ hAp.symm).trans (by rw [he];exact (Ad _ _ hop.symm).trans hS2))
      ·refine (Ae _ _ _).trans ?_;simp
      ·intro q
       exact absurd (AY.mpr (.inl (I.dfs.known q _ ⟨c,hc⟩))) hy
      ·simp at hln ⊢;exact At [_,_,_,_] [(1,(Za Z0 (Zs Z1)),(Za Z2 Z3))] (Za (Zs Z0) Z1) (Za Z2 Z3) rfl hln
      ·refine (Ad _ _ (hkeep _ htx).1).trans ((Ad _ _ (Af.Wf.dist J.rep hyD hxD).1.symm).trans ?_)
       rw [he]
       exact (Ad _ _ (by rintro e;exact nof (e▸htx))).trans htk
   ·(rintro zu zu σ'';intro zr;refine cps fun zP zk=>?_;(rcases zr with ⟨st',ys,o',e1,J,hch,hnp,hln,htk⟩)<;>(refine zk ?_;clear zk zP))
    have:ys=[]:=by cases ys with|nil=>rfl|cons=>cases e1
    subst this
    refine Am (hK1 _ _ ?_)
    by_cases hxp:x∈pl
    ·have e:=hnp hxp
     subst e
     have hi:F0 pl x=pl:=by simp [F0,hxp]
     rw [hi] at J
     refine ⟨_,?_,st',pl,o',rfl,?_,⟨J.rep,J.fr,J.sad,J.pad,⟨J.dfs.sD,J.dfs.pD,J.dfs.pn,J.dfs.rt,fun z hz y hc=>?_,fun l z r e hz y hc=>?_⟩,J.set,J.stk,J.l1,J.l2,J.l3⟩⟩
     ·simp
     ·simp at hlen0;exact At [_,_] [(1,Z0,Z1)] Z0 (Zs Z1) rfl hlen0
     ·rcases J.dfs.cl z hz y hc with a|a|a
      ·exact .inl a
      ·exact .inr (.inl a)
      ·simp at a
     ·rcases J.dfs.tp l z r e hz y hc with a|a|a
      ·exact .inl a
      ·exact .inr (.inl a)
      ·simp at a
    ·have hi:(F0 pl x).length=pl.length+1:=by simp [F0,hxp]
     have hle:(F0 pl x).length≤X.D.length:=Cd J.dfs.pn J.dfs.pD
     refine ⟨_,?_,st',F0 pl x,o',rfl,?_,⟨J.rep,J.fr,J.sad,J.pad,⟨J.dfs.sD,J.dfs.pD,J.dfs.pn,J.dfs.rt,fun z hz y hc=>?_,fun l z r e hz y hc=>?_⟩,J.set,J.stk,J.l1,J.l2,J.l3⟩⟩
     ·rw [hi,List.length_append]
      exact Fv (b:=0) (by exact At [_,_,_] [(1,(Zs Z0),Z2),(1,Z2,Z1)] (Zs Z0) Z1 rfl (Nat.le_of_eq (Eq.symm hi)) hle) (by simpa using hln)
     ·rw [hi,Nat.succ_mul]
      simp at hln hlen0;exact At [_,_,_,_] [(1,Z0,(Za Z3 Z2)),(1,Z3,Z1)] Z0 (Zs (Za Z1 Z2)) rfl hln hlen0
     ·rcases J.dfs.cl z hz y hc with a|a|a
      ·exact .inl a
      ·exact .inr (.inl a)
      ·simp at a
     ·rcases J.dfs.tp l z r e hz y hc with a|a|a
      ·exact .inl a
      ·exact .inr (.inl a)
      ·simp at a
 ·refine ⟨[[]],[],_,by simp,by simp,⟨(hr0.new hpa1).updOff nwa,((hf0.upd0 _ hpa0).upd0 _ hwa0),?_,by simp,HD.init hw.root [],⟨fun zu=>false,(Ad _ _ hwp.symm).trans (Ae _ _ _),fun p zu=>by simp⟩,Ae _ _ _,rfl,rfl,rfl⟩⟩
  intro p hp;simp at hp;subst hp;rfl
end
section
variable {C:Cf} {A:Around} {E:Value→Shared→Prop} {env:Env} {σ:Al}
structure Af.Ph3 (X:Af):Prop where
 wf:X.Wf
 dn:∀p∈X.D,X.DN p
 out:∀p∈X.D,X.out p=some (.tup (outs X.key p))
noncomputable def NX (X:Af) (t d:Addr) (ci:Bool) (hp hp':HP):Prop:=
 ∃X':Af,X'.Ph3∧AN X' t d true ci hp'∧BS (Fp X t d) hp (Fp X t d) hp'∧X'.D=X.D∧X'.A=X.A∧X'.T=X.T∧X'.key=X.key
theorem OT (T:Tp C) {X:Af} {t d:Addr} {ci:Bool} {hp:HP} {N:Nat} (hA:A.handled=none) (hroom:A.depth+N+4<recursionLimit) (hX:X.Ph1) (hr:AN X t d false ci hp)
  (hz:X.D.length≤300) (hN:∀p∈X.D,p.length≤N) (hk:Pg X t d hp) :
  Fn C A (.ref 101) [.ref t] [] hp (fun v hp'=>v=.none∧NX X t d ci hp hp'):=by
 refine xa1_1 T.f_fin ?_;intro r₀ hf
 refine xa1_1 T.f_kids ?_;intro r₁ hf1
 refine xa1_1 T.f_pre ?_;intro r₂ hf2
 have hw:=hX.wf
 refine CX (body:=KW.body) hf (Lp C r₀ _) (fun L=>?_) (by exact B6 [_,_,_] [(1,(Zs (Za (Za Z0 Z2) (Zn 4))),Z1)] Z0 Z1 rfl hroom) (by kernel_rfl) (by kernel_rfl) (by kernel_rfl) (by kernel_rfl) (by kernel_rfl)
 refine Ab (Bd (Bl (Aq (Ac rfl (Bv T.n_fin hr.tree hr.ns rfl (AQ (Am ?_)))))))
 refine Ab (An (Aq (Ac rfl (Bv T.n_zero hr.tree hr.ns rfl (Aq (Ac rfl (Bv T.n_zero hr.tree hr.ns rfl (Er T hr hw.root ?_))))))))
 have hr1:AN (X.setLss [] []) t d false ci (upd hp (X.A []) ((X.setLss [] []).nodeAO [])):=Gc hr hw.root
 have hf1':BS (Fp X t d) hp (Fp X t d) (upd hp (X.A []) ((X.setLss [] []).nodeAO [])):=BS.upd _ (.inr (.inr ⟨[],hw.root,.inl rfl⟩))
 have hw1:(X.setLss [] []).Wf:=Hc hw
 have hkid:∀p∈X.D,∀c,X.look p c=Eb X.D p c:=fun p hp c=>by
  by_cases m:p++[c]∈X.D
  ·rw [hX.kid1 p hp c m];simp [Eb,m]
  ·rw [hX.kid0 p hp c m];simp [Eb,m]
 have had:(X.setLss [] []).AD []:=by
  intro r hrs hrD
  simp at hrs;subst hrs
  refine ⟨rfl,fun c=>?_⟩
  show X.look [] c=Bw X.D [] c
  rw [hkid [] hw.root c];simp [Bw]
 have hall:∀p∈X.D,(X.setLss [] []).UD p∨(X.setLss [] []).AD p:=fun p hp=>by
  by_cases e:p=[]
  ·subst e;exact .inr had
  ·refine .inl ⟨?_,fun c=>hkid p hp c⟩
   show (if p=[] then some [] else X.lss p)=none
   rw [if_neg e];exact hX.lss p hp
 have c1:=NA (A:=A.deeper (callEnv (r₀.fd KW .none) L 101)) (N:=N) T (by exact hA) (by show A.depth+1+N+2<recursionLimit;exact B6 [_,_,_] [(1,(Zs (Za (Za Z0 Z1) (Zn 4))),Z2)] (Za (Za (Zs Z0) Z1) (Zn 2)) Z2 rfl hroom) hw1 hr1 had hall hz hN
 refine Ab (Bn (AA (Ac rfl (B5 T.m_kids hr1.tree hr1.ns rfl (A2 (Aq (Ac rfl (Bv T.n_zero hr1.tree hr1.ns rfl (Ax (A5 (AS hf1 (Fn.mono c1 ?_))))))))))))
 (rintro v hp2;intro zr;refine cps fun zP zk=>?_;(rcases zr with ⟨rfl,X2,hw2,hr2,hfr2,st2,hd2⟩)<;>(refine zk ?_;clear zk zP))
 have hD2:X2.D=X.D:=st2.same.D
 have hA2:X2.A=X.A:=st2.same.A
 have hT2:X2.T=X.T:=st2.same.T
 have hk2:X2.key=X.key:=st2.same.key
 have hfp2:Fp X2 t d=Fp X t d:=st2.same.fp t d
 have hF2:BS (Fp X t d) hp (Fp X t d) hp2:=hf1'.trans hfr2
 have hkl:Pg X2 t d hp2:=by
  intro p v hv
  rw [hk2] at hv
  refine xa1_3 (hk p v hv) ?_;intro xs h1 h2 h3
  exact ⟨xs,h1,h2.fr h3 hF2,fun a e=>by rw [hfp2];exact h3 a e⟩
 have c2:=O6 (A:=A.deeper (callEnv (r₀.fd KW .none) L 101)) (N:=N) T (by exact hA) (by show A.depth+1+2<recursionLimit;exact B6 [_,_,_] [(1,(Zs (Za (Za Z0 Z2) (Zn 4))),Z1)] (Za (Zs Z0) (Zn 2)) Z1 rfl hroom) hw2 hr2 (by rw [hD2];exact hd2) (by rw [hD2];exact hz) (fun p hp=>by
  have h1:=hN p (hD2▸hp)
  have:recursionLimit=1000:=rfl
  exact At [_,_,_,_] [(1,(Zs (Za (Za Z1 Z2) (Zn 4))),Z3),(1,Z0,Z2),(1,Z3,(Zn 1000))] Z0 (Zn 1000) rfl hroom h1 (Nat.le_of_eq this)) hkl
 refine Ab (Bn (AA (Ac rfl (B5 T.m_pre hr2.tree hr2.ns rfl (Ax (A5 (AS hf2 (Fn.mono c2 ?_))))))))
 (rintro v hp3;intro zr;refine cps fun zP zk=>?_;(rcases zr with ⟨rfl,o,hr3,hfr3,ho⟩)<;>(refine zk ?_;clear zk zP))
 refine Ab (An (FQ (Ac rfl (Dl T.n_fin hr3.tree hr3.ns ?_ (hz:=Nat.le_of_ble_eq_true (by rfl))))))
 refine Am ⟨rfl,X2.wo o,⟨Op hw2 o,fun p hp=>?_,ho⟩,?_,?_,hD2,hA2,hT2,hk2⟩
 ·have:=hd2 p (hD2▸hp)
  exact this
 ·have hd:∀p∈X2.D,X2.A p≠d∧X2.T p≠d:=fun p hp=>⟨(Af.Wf.dist hr3 hp hp).2.2.1,(Af.Wf.dist hr3 hp hp).2.2.2.2.1⟩
  have htd:t≠d:=(Af.Wf.dist hr3 (p:=[]) hw2.root hw2.root).2.2.2.2.2
  refine ⟨(Ad _ _ htd).trans hr3.tree,(Ae _ _ _).trans rfl,fun p hp=>(Ad _ _ (hd p hp).1).trans (hr3.nd p hp),fun p hp=>?_⟩
  refine xa1_1 (hr3.td p hp) ?_;intro ep e
  exact ⟨ep,(Ad _ _ (hd p hp).2).trans e⟩
 ·exact (hF2.trans (hfp2▸hfr3)).trans (BS.upd _ (.inr (.inl rfl)))
end
section
variable {C:Cf} {A:Around} {c:Code} {fs:List Frame} {P:End→Shared→Prop} {s:Shared} {env:Env} {σ:Al} {F G:FH}
 {K:Flow→Sem Fin} {H:Value→Sem Fin} {gd:Bool→Bool} {lv:List Value→List Value}
theorem CM {α:Type} {m:Sem α} {K:α→Sem Fin} {H:Value→Sem Fin}
  (h:wpAny (model C.prog C.w) (A.over c fs) m (fun a s'=>SegX (model C.prog C.w) A c (K a) fs s' P) (fun x s'=>SegX (model C.prog C.w) A c (H x) fs s' P) s):SegX (model C.prog C.w) A c (m.wrap K H gd lv) fs s P:=by
 rintro Γ p rfl hΓ
 refine xa2_2 (runs_wrap_of_wp (Φ:=fun e s'=>e.quiet=true∧P e s') K H gd lv m (h (Γ.over fs) p (hΓ.over fs)) (fun a p' s' h'=>h' Γ p' rfl hΓ) (fun x p' s' h'=>h' Γ p' rfl hΓ)) ?_;intro e s' hr hq
 exact ⟨e,s',hr,hq⟩
theorem Ej {α β:Type} {R:FH→β→α→Prop} {m:Sem α} {K:α→Sem Fin} {H:Value→Sem Fin} {Q:β→Al→Prop} (h:Tr C (A.over c fs) Bj env R m σ Q) (hR:Rp C (A.over c fs) F G env σ s)
  (k:∀F' b σ' v s',AG F F'→R F' b v→Rp C (A.over c fs) F' G env σ' s'→Q b σ'→SegX (model C.prog C.w) A c (K v) fs s' P):SegX (model C.prog C.w) A c (m.wrap K H gd lv) fs s P:=by
 refine CM (wpAny_mono (h F G s hR) (fun v s' z=>?_) fun zu zu x=>x.elim)
 refine cps fun zP zk=>?_;(rcases z with ⟨F',b,σ',e,r,hR',q⟩)<;>(refine zk ?_;clear zk zP)
 exact k F' b σ' v s' e r hR' q
theorem BJ {st:Stmt} {rest:List Stmt} (h:SegX (model C.prog C.w) A c ((exec st env).wrap (fun f=>match f with|.next=>(execs rest env).wrap K H gd lv|f=>K f) H gd lv) fs s P) :
  SegX (model C.prog C.w) A c ((execs (st::rest) env).wrap K H gd lv) fs s P:=by rw [execs_cons_wrap];exact h
theorem GN {p':Pos} {k:Unit→Sem Fin} (h:SegX (model C.prog C.w) A c (k ()) fs s P):SegX (model C.prog C.w) A c (.at p' k) fs s P:=
 CM (m:=standAt p') (K:=k) (H:=.raise) (gd:=id) (lv:=id) (wpAny_standAt h)
theorem LC {l:List Value} {k:Unit→Sem Fin} (h:SegX (model C.prog C.w) A c (k ()) fs s P):SegX (model C.prog C.w) A c (.point l k) fs s P:=
 CM (m:=point) (K:=k) (H:=.raise) (gd:=id) (lv:=fun zu=>l) (wpAny_point h)
theorem Py {test:Expr} {body orelse:List Stmt} {pos:Pos} {Q:Bool→Al→Prop} (h:Et C (A.over c fs) Bj env test σ Q) (hR:Rp C (A.over c fs) F G env σ s)
  (k:∀F' b σ' s',AG F F'→Rp C (A.over c fs) F' G env σ' s'→Q b σ'→SegX (model C.prog C.w) A c ((execs (if b then body else orelse) env).wrap K H gd lv) fs s' P) :
  SegX (model C.prog C.w) A c ((exec (.If test body orelse pos) env).wrap K H gd lv) fs s P:=by
 show SegX _ A c (.at pos fun zu=>((isTrue test env (eval test env)) >>= fun b=>if b=true then execs body env else execs orelse env).wrap K H gd lv) fs s P
 refine GN ?_
 rw [Sem.bind_eq_wrap',Sem.wrap_wrap]
 refine Ej h hR (fun F' b σ' v s' e r hR' q=>?_)
 subst r
 have:=k F' b σ' s' e hR' q
 cases b
 ·exact this
 ·exact this
theorem Nn {body:List Stmt}
  (h:SegX (model C.prog C.w) A (.func body env) ((execs body env).wrap (fun f=>.pure (.done (.ret (match f with|.ret v=>v|_=>.none)))) (fun e=>(leaving env e).wrap (fun zu=>.raise e) .raise id id) id id) fs s P) :
  SegX (model C.prog C.w) A (.func body env) (denote table (.func body env)) fs s P:=by
 show SegX _ A _ (.point [] fun zu=>((execs body env).onRaise (leaving env)) >>= _) fs s P
 refine LC ?_
 rw [Sem.onRaise_eq_wrap,Sem.bind_eq_wrap',Sem.wrap_wrap]
 rw [Sem.wrap_congr (execs body env) _ _ (K':=fun f=>.pure (.done (.ret (match f with|.ret v=>v|_=>.none))))
  (H':=fun e=>(leaving env e).wrap (fun zu=>.raise e) .raise id id) (fun f=>by cases f<;>rfl)
  (fun e=>by rw [Sem.bind_eq_wrap,Sem.wrap_wrap];rfl)]
 exact h
theorem LD {target iter:Expr} {body:List Stmt} {pos:Pos} {Q:AV→Al→Prop} (h:Ev C (A.over c fs) Bj env iter σ Q) (hR:Rp C (A.over c fs) F G env σ s) (J:FH→AV→Al→Value→Shared→Prop)
  (hi:∀F' a σ' v s',AG F F'→VR F' a v→Rp C (A.over c fs) F' G env σ' s'→Q a σ'→wpAny (model C.prog C.w) (A.over c fs) (pyIter v) (fun it s''=>J F' a σ' it s'') Bj s')
  (k:∀F' a σ' it s',AG F F'→J F' a σ' it s'→∀kf l p,(∀f,kf (.ok f)=K f)→SegX (model C.prog C.w) A (.forLoop target it body [] env) (denote table (.forLoop target it body [] env)) (.ret kf none (gd false) l c p []::fs) s' P)
  (hs:autoParam (∀x,foldedSetIterable iter env x=pure x) AC.aux4._auto_1):SegX (model C.prog C.w) A c ((exec (.For target iter body [] pos) env).wrap K H gd lv) fs s P:=by
 rw [exec_For]
 show SegX _ A c (.at pos fun zu=>(eval iter env >>= fun x=>foldedSetIterable iter env x >>= fun x=>standAt iter.pos >>= fun zu=>holding [x] (pyIter x) >>= fun it=>runOwn (.forLoop target it body [] env) env).wrap K H gd lv) fs s P
 refine GN ?_
 rw [Sem.bind_eq_wrap',Sem.wrap_wrap]
 refine Ej h hR (fun F' a σ' v s' e hv hR' q=>?_)
 rw [hs v]
 show SegX _ A c (.at iter.pos fun zu=>(holding [v] (pyIter v) >>= fun it=>runOwn (.forLoop target it body [] env) env).wrap K H gd lv) fs s' P
 refine GN ?_
 rw [Sem.bind_eq_wrap',Sem.wrap_wrap]
 refine CM (wpAny_holding (wpAny_mono (hi F' a σ' v s' e hv hR' q) (fun it s'' z=>?_) fun zu zu x=>x.elim))
 refine s_call C.prog C.w A c fs P s'' _ _ _ _ _ (fun p=>?_)
 exact k F' a σ' it s'' e z _ _ p (fun f=>rfl)
theorem CN {target:Expr} {it:Value} {body:List Stmt}
  (h:wpAny (model C.prog C.w) (A.over (.forLoop target it body [] env) fs) (pyNext it) (fun r s₁=>match r with
   |none=>SegX (model C.prog C.w) A (.block [] env) (.pure (.done .next)) fs s₁ P
   |some v=>wpAny (model C.prog C.w) (A.over (.forLoop target it body [] env) fs) (letOwnedTupleGo target it v) (fun zu s₂=>wpAny (model C.prog C.w) (A.over (.forLoop target it body [] env) fs) (assign target env v) (fun zu s₃=>
     SegX (model C.prog C.w) A (.forLoop target it body [] env) ((execs body env).wrap (fun f=>match f with
      |.next|.cont=>.pure (.again (.forLoop target it body [] env))
      |.brk=>.pure (.done .next)
      |.ret v=>.pure (.done (.ret v))) (fun e=>(do noteFrame e env;theTreesLotGoes e:Sem Unit).wrap (fun zu=>.raise e) .raise id id) id id) fs s₃ P) Bj s₂) Bj s₁) Bj s) :
  SegX (model C.prog C.w) A (.forLoop target it body [] env) (denote table (.forLoop target it body [] env)) fs s P:=by
 show SegX _ A _ ((forTurn target it body [] env).onRaise (fun x=>do noteFrame x env;theTreesLotGoes x)) fs s P
 unfold forTurn
 rw [Sem.onRaise_eq_wrap]
 show SegX _ A _ (.at target.pos fun zu=>(((pyNext it).onRaise (fun zu=>standAt { target.pos with line:=0 })) >>= _).wrap _ _ _ _) fs s P
 refine GN ?_
 rw [Sem.bind_eq_wrap',Sem.wrap_wrap]
 refine CM (wpAny_onRaise (wpAny_mono h (fun r s₁ z=>?_) fun zu zu x=>x.elim))
 cases r with
 |none=>
  refine s_again C.prog C.w A _ fs P s₁ (.block [] env) rfl ?_
  exact z
 |some v=>
  show SegX _ A _ ((letOwnedTupleGo target it v >>= fun zu=>assign target env v >>= fun zu=>execs body env >>= _).wrap _ _ _ _) fs s₁ P
  rw [Sem.bind_eq_wrap',Sem.wrap_wrap]
  refine CM (wpAny_mono z (fun zu s₂ z=>?_) fun zu zu x=>x.elim)
  rw [Sem.bind_eq_wrap',Sem.wrap_wrap]
  refine CM (wpAny_mono z (fun zu s₃ z=>?_) fun zu zu x=>x.elim)
  rw [Sem.bind_eq_wrap',Sem.wrap_wrap]
  rw [Sem.wrap_congr (execs body env) _ _ (K':=fun f=>match f with
      |.next|.cont=>.pure (.again (.forLoop target it body [] env))
      |.brk=>.pure (.done .next)
      |.ret v=>.pure (.done (.ret v))) (H':=(fun e=>(do noteFrame e env;theTreesLotGoes e:Sem Unit).wrap (fun zu=>.raise e) .raise id id))
    (fun f=>by cases f<;>rfl)
    (fun e=>by first|exact Sem.bind_eq_wrap _ _|(show (do noteFrame e env;theTreesLotGoes e:Sem Unit).bind (fun zu=>.raise e)=_;rw [Sem.bind_eq_wrap]))]
  exact z
theorem LB {e:Expr} {ypos pos:Pos} {Q:AV→Al→Prop} (hfs:splitAtGen fs=none) (hgd:gd false=false) (hfg:fs.any Frame.guarded=false) (h:Ev C (A.over c fs) Bj env e σ Q) (hR:Rp C (A.over c fs) F G env σ s)
  (k:∀F' a σ' v s',AG F F'→VR F' a v→Rp C (A.over c fs) F' G env σ' s'→Q a σ'→∀kf l p,(∀A' s'' P',SegX (model C.prog C.w) A' c (K .next) fs s'' P'→SegX (model C.prog C.w) A' c (kf (.send .none)) fs s'' P')→P (.susp v false l kf c p fs) s')
  (hco:autoParam (env.scope.isCoroutine=false) AC.aux0._auto_1) (hi:autoParam (interactive env=false) AC.aux0._auto_1):SegX (model C.prog C.w) A c ((exec (.Expr (.Yield (some e) ypos) pos) env).wrap K H gd lv) fs s P:=by
 rw [exec_Expr env _ pos hi rfl]
 show SegX _ A c (.at pos fun zu=>((eval e env >>= fun v=>(standAt ypos >>= fun zu=>yieldOut env v)) >>= fun x=>dropValue (.Yield (some e) ypos) pos x).wrap K H gd lv) fs s P
 have hy:∀v,yieldOut env v=yieldValue v:=fun v=>by simp only [yieldOut,hco,Bool.false_eq_true,if_false]
 simp only [hy]
 refine GN ?_
 rw [Sem.bind_eq_wrap',Sem.bind_eq_wrap',Sem.wrap_wrap,Sem.wrap_wrap]
 refine Ej h hR (fun F' a σ' v s' e' hv hR' q=>?_)
 refine GN ?_
 show SegX _ A c (.yield v (gd false) _ _) fs s' P
 rw [hgd]
 refine s_yield C.prog C.w A c fs P s' v _ _ hfs hfg (fun p=>?_)
 refine k F' a σ' v s' e' hv hR' q _ _ p (fun A' s'' P' hx=>?_)
 exact hx
end
section
variable {C:Cf} {A:Around} {s:Shared} {env:Env} {σ:Al} {F G:FH} {hp:HP}
theorem OR.gensOf {g':Array GenState} {gens:Array GenState} {x:AO} {o:Obj} (h:OR C F gens x o) (hg:∀g gs,x=.gen g gs→gens[g]? = some gs→g'[g]? = some gs):OR C F g' x o:=by
 by_cases hx:Db x=false
 ·exact h.gens hx
 ·cases h with
  |gen a a1 a2 b c=>exact .gen a a1 a2 b (hg _ _ rfl c)
  |_=>exact absurd rfl hx
theorem Wd.gen (W:Wd C F G hp s) {ga:Addr} {g:Nat} {gs:GenState} (e:hp ga=some (.gen g gs)):s.gens[g]? = some gs∧s.heap.IsGen ga g:=by
 refine cps fun zP zk=>?_;(rcases W.ob ga _ e with ⟨zu,zu,o,ho,r⟩)<;>(refine zk ?_;clear zk zP)
 (refine OR.genC r fun zv zv zv zv a a1 a2 b c=>?_;clear r)
 exact ⟨c,o,_,_,ho,a,b,a2⟩
theorem Wd.setGen (W:Wd C F G hp s) {ga:Addr} {g:Nat} {gs gs':GenState} (e:hp ga=some (.gen g gs)) (hb:gs'.bare=true):Wd C F G (upd hp ga (.gen g gs')) (s.setGen g gs'):=by
 have hg:=(W.gen e).1
 have hlt:g<s.gens.size:=by
  rcases Nat.lt_or_ge g s.gens.size with h|h
  ·exact h
  ·rw [Array.getElem?_eq_none h] at hg;exact Ak hg
 refine ⟨W.base,W.fz,W.gz,fun a x hx=>?_,W.os,fun y hy=>?_,fun a b g1 gs1 gs2 h1 h2=>?_,W.fg⟩
 ·by_cases ha:a=ga
  ·subst ha
   rw [Ae] at hx;(have zc:=Option.some.inj hx;clear hx;subst zc)
   refine cps fun zP zk=>?_;(rcases W.ob a _ e with ⟨p,q,o,ho,r⟩)<;>(refine zk ?_;clear zk zP)
   refine ⟨p,q,o,ho,?_⟩
   (refine OR.genC r fun zv zv zv zv a a1 a2 b c=>?_;clear r)
   exact .gen a a1 a2 b (by simp [Shared.setGen,hlt])
  ·rw [Ad _ _ ha] at hx
   refine cps fun zP zk=>?_;(rcases W.ob a _ hx with ⟨p,q,o,ho,r⟩)<;>(refine zk ?_;clear zk zP)
   refine ⟨p,q,o,ho,r.gensOf (fun g1 gs1 e1 h1=>?_)⟩
   subst e1
   have hne:g≠g1:=by rintro rfl;exact ha (W.gi _ _ _ _ _ hx e)
   simp only [Shared.setGen,Array.getElem?_setIfInBounds_ne hne];exact h1
 ·simp only [Shared.setGen] at hy
  rcases Array.mem_or_eq_of_mem_setIfInBounds hy with h|h
  ·exact W.bare y h
  ·rw [h];exact hb
 ·by_cases ha:a=ga<;>by_cases hbq:b=ga
  ·rw [ha,hbq]
  ·subst ha
   rw [Ae] at h1;(have zc:=Nw h1;clear h1;rcases zc with ⟨zc,zd⟩;subst zc;subst zd)
   rw [Ad _ _ hbq] at h2
   exact absurd (W.gi _ _ _ _ _ h2 e) hbq
  ·subst hbq
   rw [Ae] at h2;(have zc:=Nw h2;clear h2;rcases zc with ⟨zc,zd⟩;subst zc;subst zd)
   rw [Ad _ _ ha] at h1
   exact absurd (W.gi _ _ _ _ _ h1 e) ha
  ·rw [Ad _ _ ha] at h1;rw [Ad _ _ hbq] at h2
   exact W.gi _ _ _ _ _ h1 h2
noncomputable def Cx (env:Env):Prop:=∀x,env.kindOf x≠some .cell∧env.kindOf x≠some .free
theorem Wd.thaw (W:Wd C F G hp s) {loc:List (Str×AV)} (e:hp env.locals=some (.frame loc)) (hk:env.scope.kind=.function) (hn:Cx env) (hfs:GG A G env) :
  Rp C A F G env ⟨loc,fun b=>if b=env.locals then none else hp b⟩ s:=by
 refine cps fun zP zk=>?_;(rcases W.ob _ _ e with ⟨p,q,o,ho,r⟩)<;>(refine zk ?_;clear zk zP)
 refine ⟨⟨W.base,W.fz,W.gz,fun a x hx=>?_,W.os,W.bare,fun a b g1 gs1 gs2 h1 h2=>?_,W.fg⟩,⟨hk,?_,⟨p,q,if_pos rfl⟩,fun x hx=>absurd hx (hn x).1,fun x zu zu hx=>absurd hx (hn x).1,fun x zu zu zu hx=>absurd hx (hn x).1,fun x zu zu hx=>absurd hx (hn x).2⟩,hfs⟩
 ·dsimp only at hx
  split at hx
  ·exact Ak hx
  ·exact W.ob a x hx
 ·dsimp only at h1 h2
  split at h1
  ·exact Ak h1
  ·split at h2
   ·exact Ak h2
   ·exact W.gi _ _ _ _ _ h1 h2
 ·(refine OR.frameC r fun es ep a b c=>?_;clear r)
  refine ⟨fun x=>nsFind es x,⟨o,es,ep,ho,a,b,fun zu=>rfl⟩,fun x av hx zu=>c x av hx⟩
theorem Rp.susp (hR:Rp C A F G env σ s) {loc:List (Str×AV)} (hl:∀x av,loc.lookup x=some av→σ.loc.lookup x=some av∧env.kindOf x=some .local):Wd C F G (upd σ.hp env.locals (.frame loc)) s:=by
 have W:=hR.wd
 refine xa1_2 hR.fm.ns ?_;intro m;intro zq;refine xa3_4 zq ?_;(try clear zq);intro o es ep ho hd hs hm;intro hmv
 refine xa0_3 hR.fm.lo ?_;intro l1 l2 l3
 refine ⟨W.base,W.fz,W.gz,fun a x hx=>?_,W.os,W.bare,fun a b g1 gs1 gs2 h1 h2=>?_,W.fg⟩
 ·by_cases ha:a=env.locals
  ·subst ha
   rw [Ae] at hx;(have zc:=Option.some.inj hx;clear hx;subst zc)
   refine ⟨l1,l2,o,ho,.frame hd hs (fun x av hx=>?_)⟩
   refine xa0_2 (hl x av hx) ?_;intro h1 h2
   refine xa1_2 (hmv x av h1 h2) ?_;intro v hv r
   exact ⟨v,by rw [hm];exact hv,r⟩
  ·rw [Ad _ _ ha] at hx;exact W.ob a x hx
 ·have ne:∀c g gs,upd σ.hp env.locals (.frame loc) c=some (.gen g gs)→σ.hp c=some (.gen g gs):=fun c g gs e=>by
   by_cases hc:c=env.locals
   ·subst hc;rw [Ae] at e;exact AO.noConfusion (Option.some.inj e)
   ·rw [Ad _ _ hc] at e;exact e
  exact W.gi _ _ _ _ _ (ne _ _ _ h1) (ne _ _ _ h2)
theorem Wd.newGen (W:Wd C F G hp s) {c:Code} {n q:Str} {t u:Tok} {tk:Nat} :
  Wd C F G (upd hp s.heap.objs.size (.gen s.gens.size (.fresh c))) ⟨s.heap.push { cls:=.type "generator",data:=.fields #[.int s.gens.size 0,.str n t,.str q u] },s.gens.push (.fresh c),s.drawn,tk,s.os⟩:=by
 have kp:∀b o,s.heap.get? b=some o→(s.heap.push { cls:=.type "generator",data:=.fields #[.int s.gens.size 0,.str n t,.str q u] }).get? b=some o:=fun b o e=>Heap.get?_push_of_some _ e
 refine xa0_3 (W.lt (Nat.le_refl s.heap.objs.size)) ?_;intro z1 z2 z3
 have lt:∀a g gs,hp a=some (.gen g gs)→g<s.gens.size:=fun a g gs e=>by
  have:=(W.gen e).1
  rcases Nat.lt_or_ge g s.gens.size with h|h
  ·exact h
  ·rw [Array.getElem?_eq_none h] at this;exact Ak this
 refine ⟨W.base,fun b o e=>kp _ _ (W.fz b o e),fun b o e=>?_,fun a x hx=>?_,W.os,W.bare.push rfl,fun a b g1 gs1 gs2 h1 h2=>?_,W.fg⟩
 ·refine xa1_2 (W.gz b o e) ?_;intro o' a b'
  exact ⟨o',kp _ _ a,b'⟩
 ·by_cases ha:a=s.heap.objs.size
  ·subst ha
   rw [Ae] at hx;(have zc:=Option.some.inj hx;clear hx;subst zc)
   exact ⟨z1,z2,_,Heap.get?_push_size _ rfl,.gen rfl rfl rfl rfl (by simp)⟩
  ·rw [Ad _ _ ha] at hx
   refine cps fun zP zk=>?_;(rcases W.ob a x hx with ⟨p,q,o,ho,r⟩)<;>(refine zk ?_;clear zk zP)
   refine ⟨p,q,o,kp _ _ ho,r.gensOf (fun g gs e1 h1=>?_)⟩
   subst e1
   have:=lt _ _ _ hx
   dsimp only
   rw [Array.getElem?_push_lt this]
   rw [Array.getElem?_eq_getElem this] at h1
   exact h1
 ·by_cases ha:a=s.heap.objs.size<;>by_cases hb:b=s.heap.objs.size
  ·rw [ha,hb]
  ·subst ha
   rw [Ae] at h1;(have zc:=Nw h1;clear h1;rcases zc with ⟨zc,zd⟩;subst zc;subst zd)
   rw [Ad _ _ hb] at h2
   have:=lt _ _ _ h2;exact False.elim (IN [_] [(1,(Zs Z0),Z0)] rfl this)
  ·subst hb
   rw [Ae] at h2;(have zc:=Nw h2;clear h2;rcases zc with ⟨zc,zd⟩;subst zc;subst zd)
   rw [Ad _ _ ha] at h1
   have:=lt _ _ _ h1;exact False.elim (IN [_] [(1,(Zs Z0),Z0)] rfl this)
  ·rw [Ad _ _ ha] at h1;rw [Ad _ _ hb] at h2
   exact W.gi _ _ _ _ _ h1 h2
theorem Pi {f:Addr} {fd:FuncData} {body:List Stmt} {args:List AV} {kw loc:List (Str×AV)} {Q:AV→HP→Prop} (hf:FnAt C f fd) (hb:BE C fd args kw loc)
  (h:∀L ga g,hp L=none→hp ga=none→L≠ga→Cx (callEnv fd L f)→Q (.ref ga) (upd (upd hp L (.frame loc.reverse)) ga (.gen g (.fresh (.func body (callEnv fd L f))))))
  (hroom:A.depth<recursionLimit) (hbody:autoParam (fd.body=.stmts body) AC.aux0._auto_1) (hcell:autoParam ((fd.scope.names.all fun x=>x.2 != .cell&&x.2 != .free)=true) AC.aux0._auto_1)
  (hco:autoParam (fd.scope.isCoroutine=false) AC.aux0._auto_1) (hgen:autoParam (fd.scope.isGenerator=true) AC.aux0._auto_1) (hk:autoParam (fd.scope.kind=.function) AC.aux0._auto_1) :
  Fn C A (.ref f) args kw hp Q:=by
 intro F G s vs kvs fs W hv hkv
 refine xa1_2 hf.at_ ?_;intro o ho hd
 refine xa1_3 (hb F vs kvs hv hkv) ?_;intro bs hB hbr hl
 have hc:∀x∈fd.scope.names,x.2≠.cell∧x.2≠.free:=fun x hx=>by
  have:=List.all_eq_true.mp hcell x hx
  simpa using this
 have noK:∀L,Cx (callEnv fd L f):=by
  intro L x
  have key:∀kd,fd.scope.names.lookup x=some kd→(x,kd)∈fd.scope.names:=fun kd e=>by
   refine xa2_2 (List.lookup_eq_some_iff.mp e) ?_;intro l1 l2 e1 zu
   rw [e1];simp
  constructor
  ·intro e;exact (hc _ (key _ e)).1 rfl
  ·intro e;exact (hc _ (key _ e)).2 rfl
 refine codeAny_call_generator hroom (W.old _ _ ho) hd hco hgen hbody (hf.code.keeps W.old) ?_
 refine hB _ _ _ s W.old (wpAny_newFunctionEnv (fun x hx=>(hc x hx).1) (fun x hx=>of_decide_eq_true (List.all_eq_true.mp hl x hx)) (fun h' hns hsb=>?_) hk)
 have kp:∀b o,s.heap.get? b=some o→h'.get? b=some o:=fun b o e=>hsb.extBut b o (Nat.ne_of_lt (Heap.lt_size e)) (Heap.get?_push_of_some _ e)
 refine ⟨hf.lim.keeps fun b o e=>kp _ _ (W.old _ _ e),?_⟩
 refine xa0_3 (W.lt (Nat.le_refl s.heap.objs.size)) ?_;intro z1 z2 z3
 have W1:Wd C F G (upd hp s.heap.objs.size (.frame loc.reverse)) { s with heap:=h',toks:=s.toks+bs.length }:=by
  have W0:=W.keep (t:=s.toks+bs.length) kp
  refine ⟨W0.base,W0.fz,W0.gz,fun a x hx=>?_,W0.os,W0.bare,fun a b g1 gs1 gs2 h1 h2=>?_,W0.fg⟩
  ·by_cases ha:a=s.heap.objs.size
   ·subst ha
    rw [Ae] at hx;(have zc:=Option.some.inj hx;clear hx;subst zc)
    refine xa3_4 hns ?_;(try clear hns);intro o es ep ho hd hs hm
    refine ⟨z1,z2,o,ho,.frame hd hs (fun x av hx=>?_)⟩
    refine xa1_2 (hbr.reverse.look hx) ?_;intro v hv r
    exact ⟨v,by rw [hm];exact hv,r⟩
   ·rw [Ad _ _ ha] at hx;exact W0.ob a x hx
  ·have ne:∀c g gs,upd hp s.heap.objs.size (.frame loc.reverse) c=some (.gen g gs)→hp c=some (.gen g gs):=fun c g gs e=>by
    by_cases hc:c=s.heap.objs.size
    ·subst hc;rw [Ae] at e;exact AO.noConfusion (Option.some.inj e)
    ·rw [Ad _ _ hc] at e;exact e
   exact W.gi _ _ _ _ _ (ne _ _ _ h1) (ne _ _ _ h2)
 have hlt:s.heap.objs.size<h'.objs.size:=hns.lt
 refine ⟨F,_,.ref h'.objs.size,_,rfl,AG.refl F,.ref _,W1.newGen,?_⟩
 have z4:=(W1.lt (Nat.le_refl h'.objs.size)).2.2
 rw [Ad _ _ (Nat.ne_of_gt hlt)] at z4
 exact h _ _ _ z3 z4 (Nat.ne_of_lt hlt) (noK _)
end
section
section
variable {prog:Program} {w:World} {A:Around} {E:Value→Shared→Prop} {s:Shared} {b:Array UInt8} {t:Tok}
theorem Ey {it:Addr} {i:Nat} {Q:Value→Shared→Prop} (hh:A.handled=none) (hit:KBw.IsBytesIter s.heap it b t i)
  (h1:∀c,b[i]? = some c→∀h',KBw.IsBytesIter h' it b t (i+1)→Heap.SameBut it s.heap h'→Q (.int (c.toNat:Int) s.toks) { s with heap:=h',toks:=s.toks+1 })
  (h2:b[i]? = none→∀h' e,Heap.ExtBut it s.heap h'→(∃o,h'.get? e=some o∧o.cls=.type "StopIteration")→E (.ref e) { s with heap:=h' }) :
  wpAny (model prog w) A (Builtin.SmallTypes.nextOf (.ref it)) Q E s:=by
 refine xa1_3 (id hit) ?_;intro o ho hc hd
 unfold Builtin.SmallTypes.nextOf
 refine wpAny_bind (wpAny_callSpecial?_slot (name:=Str.ofString "__next__") (KBw.iter_typeIs hit) KBw.slot_next
  (wpAny_call_entry KBw.slot_next (KBw.iter_typeIs hit) KBw.entry_next ?_ (KBw.args_next _)))
 show wpAny _ _ (field (.ref it) 0 >>= _) _ _ s
 refine wpAny_bind (wpAny_field ho hd (x:=.bytes b t) rfl ?_)
 show wpAny _ _ (if (Value.bytes b t == Value.none)=true then _ else _) _ _ s
 rw [if_neg (show ¬((Value.bytes b t == Value.none)=true) from Bool.false_ne_true)]
 show wpAny _ _ (field (.ref it) 1 >>= _) _ _ s
 refine wpAny_bind (wpAny_field ho hd (x:=.int i 0) rfl (wpAny_bind (wpAny_of_eq (a:=b) rfl ?_)))
 cases q:b[i]? with
 |some c=>
  simp only [Int.toNat_natCast,q]
  refine wpAny_bind (wpAny_setField ho hd (by simp) (wpAny_bind (wpAny_mkInt (wpAny_pure ⟨_,rfl,wpAny_pure (h1 c q _ ?_ (Heap.SameBut.update ..))⟩))))
  exact ⟨_,Heap.get?_update_self _ ho (Obj.isFreed_of_fields (Obj.data_mapFields hd _)),(Obj.cls_mapFields ..).trans hc,by rw [Obj.data_mapFields hd];simp [rawInt]⟩
 |none=>
  simp only [Int.toNat_natCast,q]
  refine wpAny_bind (wpAny_rule (wpAny_bind (wpAny_setField ho hd (by simp) ?_)))
  show wpAny _ _ (newExc (.type "StopIteration") [] >>= _) _ _ _
  exact wpAny_bind (En fun h' e k _ ⟨oe,vs,q',c,_⟩=>wpAny_raiseNew_none hh (h2 q _ _ (fun b o hb g=>k b o ((Heap.SameBut.update ..).extBut b o hb g)) ⟨oe,q',c⟩))
theorem I0 (hh:A.handled=none) (it:Addr) (b:Array UInt8) (t:Tok) :
  Draws prog w A it [it] b.size (fun i v=>∃c u,b[i]? = some c∧v=.int (c.toNat:Int) u) (fun i h=>KBw.IsBytesIter h it b t i) where
 live:=fun _ _ st=>let ⟨o,ho,_⟩:=st;⟨o,ho⟩
 frame:=fun _ _ _ st hk=>let ⟨o,ho,r⟩:=st;⟨o,hk it (by simp) o ho,r⟩
 item:=fun i s Q E hi st hQ=>Ey hh st (fun c hc h' hit' hs'=>hQ _ h' (s.toks+1) ⟨c,_,hc,rfl⟩ hit' hs') fun e=>by simp at e;omega
 done:=fun s Q E st hE=>Ey hh st (fun c hc=>by simp at hc) fun _=>hE
theorem Ii (b:Array UInt8) (t:Tok) :
  Meets (Builtin.«enumerate.__new__» ⟨[.type "enumerate",.bytes b t],[]⟩) (fun zu R s=>
   R (.ok (.ret (.ref (s.heap.push { cls:=.type "bytes_iterator",data:=.fields #[.bytes b t,.int 0 0] }).objs.size)))
    { s with heap:=(s.heap.push { cls:=.type "bytes_iterator",data:=.fields #[.bytes b t,.int 0 0] }).push { cls:=.type "enumerate",data:=.fields #[.none,.bool false,.ref s.heap.objs.size,rawInt 0,.none,.none] } }):=
 .of_wp fun prog w A R s h=>by
  refine cps fun zP zk=>?_;(rcases s with ⟨hp,g,d,tk,os⟩)<;>(refine zk ?_;clear zk zP)
  have hsub:=sub_enumerate
  wp_walk
  refine wpAny_stack_any fun st=>LL fun bb=>?_
  cases bb
  ·wp_walk using KBw.pyIter_bytes
   exact ⟨_,rfl,h⟩
  ·wp_walk using KBw.pyIter_bytes
   exact ⟨_,rfl,h⟩
theorem FA {Q:Value→Shared→Prop}
  (h:∀h',IsEnum h' (s.heap.objs.size+1) s.heap.objs.size 0 .none→KBw.IsBytesIter h' s.heap.objs.size b t 0→h'.objs.size=s.heap.objs.size+2 →
   (∀b o,s.heap.get? b=some o→h'.get? b=some o)→Q (.ref (s.heap.objs.size+1)) { s with heap:=h' }) :
  wpAny (model prog w) A (call (.type "enumerate") [.bytes b t]) Q E s:=by
 refine callType_new F.called_enumerate (by decide) (F.typeCall_enumerate_1 _) (F.newCall_enumerate_1 _) (fun obj=>F.args_object_init_2 obj _) F.entry_enumerate_new
  (Ii b t) ?_
 have hz:(s.heap.push { cls:=.type "bytes_iterator",data:=.fields #[.bytes b t,.int 0 0] }).objs.size=s.heap.objs.size+1:=Heap.size_push ..
 show _
 rw [hz]
 have he:IsEnum ((s.heap.push { cls:=.type "bytes_iterator",data:=.fields #[.bytes b t,.int 0 0] }).push
   { cls:=.type "enumerate",data:=.fields #[.none,.bool false,.ref s.heap.objs.size,rawInt 0,.none,.none] }) (s.heap.objs.size+1) s.heap.objs.size 0 .none:=by
  have:=Heap.get?_push_size (s.heap.push { cls:=.type "bytes_iterator",data:=.fields #[.bytes b t,.int 0 0] })
   (o:={ cls:=.type "enumerate",data:=.fields #[.none,.bool false,.ref s.heap.objs.size,rawInt 0,.none,.none] }) rfl
  rw [hz] at this;exact this
 refine ⟨⟨_,he,rfl⟩,h _ he ⟨_,Heap.get?_push_of_some _ (Heap.get?_push_size _ rfl),rfl,rfl⟩ (by rw [Heap.size_push,hz]) fun b o x=>Heap.get?_push_of_some _ (Heap.get?_push_of_some _ x)⟩
end
end
section
section
variable {C:Cf} {A:Around} {s:Shared} {env:Env} {σ:Al} {F G:FH} {hp:HP} {E:Value→Shared→Prop}
theorem Rp.loosen (hR:Rp C A F G env σ s) (S:List Addr) (hS:∀a∈S,∃x,σ.hp a=some x) {h':Heap} {t:Nat} (k:∀b o,b∉S→s.heap.get? b=some o→h'.get? b=some o) :
  Rp C A F G env { σ with hp:=fun b=>if b∈S then none else σ.hp b } ⟨h',s.gens,s.drawn,t,s.os⟩:=by
 refine cps fun zP zk=>?_;(rcases hR with ⟨⟨w1,w2,w3,w4,w5,w6,w7,w8⟩,⟨kd,⟨m,hm,hmv⟩,⟨l1,l2,l3⟩,co,ci,cv,fv⟩,hfs⟩)<;>(refine zk ?_;clear zk zP)
 have nF:∀{b o},F b=some o→b∉S:=fun e hb=>by
  refine xa1_1 (hS _ hb) ?_;intro x hx
  rw [(w4 _ _ hx).1] at e;exact Ak e
 have nG:∀{b o},G b=some o→b∉S:=fun e hb=>by
  refine xa1_1 (hS _ hb) ?_;intro x hx
  rw [(w4 _ _ hx).2.1] at e;exact Ak e
 have nH:∀{b},σ.hp b=none→b∉S:=fun e hb=>by
  refine xa1_1 (hS _ hb) ?_;intro x hx
  rw [hx] at e;exact Ap e
 refine ⟨⟨w1,fun b o e=>k _ _ (nF e) (w2 b o e),fun b o e=>?_,fun b x e=>?_,w5,w6,fun a b g gs gs' h1 h2=>?_,w8⟩,⟨kd,⟨m,?_,hmv⟩,⟨l1,l2,?_⟩,fun x hx=>?_,ci,fun x av c h1 h2 h3=>?_,fv⟩,hfs⟩
 ·refine xa1_2 (w3 b o e) ?_;intro o' z1 z2
  exact ⟨o',k _ _ (nG e) z1,z2⟩
 ·dsimp only at e
  split at e
  ·exact Ak e
  ·rename_i hb
   refine cps fun zP zk=>?_;(rcases w4 b x e with ⟨p,q,o,ho,r⟩)<;>(refine zk ?_;clear zk zP)
   exact ⟨p,q,o,k _ _ hb ho,r⟩
 ·dsimp only at h1 h2
  split at h1
  ·exact Ak h1
  ·split at h2
   ·exact Ak h2
   ·exact w7 _ _ _ _ _ h1 h2
 ·refine xa3_2 hm ?_;(try clear hm);intro oL es ep hL r
  exact ⟨oL,es,ep,k _ _ (nH l3) hL,r⟩
 ·dsimp only;split
  ·rfl
  ·exact l3
 ·refine cps fun zP zk=>?_;(rcases co x hx with ⟨c,g1,g2,g3,g4,g5,v,o,g6,g7⟩)<;>(refine zk ?_;clear zk zP)
  refine ⟨c,g1,g2,g3,?_,g5,v,o,k _ _ (nH g4) g6,g7⟩
  dsimp only;split
  ·rfl
  ·exact g4
 ·refine xa1_2 (cv x av c h1 h2 h3) ?_;intro v;intro zq;refine xa1_2 zq ?_;(try clear zq);intro o g6 g7;intro g8
  refine xa1_5 (co x h2) ?_;intro c' z1 z2 z3 z4 zu
  rw [h3] at z1;(have zc:=Option.some.inj z1;clear z1;subst zc)
  exact ⟨v,⟨o,k _ _ (nH z4) g6,g7⟩,g8⟩
theorem Rp.track (hR:Rp C A F G env σ s) {a:Addr} {x:AO} {o:Obj} (ho:s.heap.get? a=some o) (hF:F a=none) (hG:G a=none) (hp:σ.hp a=none) (hl:a≠env.locals) (hc:∀x c,env.kindOf x=some .cell→env.cells.lookup x=some c→a≠c)
  (hx:Db x=false) (r:OR C F s.gens x o):Rp C A F G env { σ with hp:=upd σ.hp a x } s:=by
 refine cps fun zP zk=>?_;(rcases hR with ⟨⟨w1,w2,w3,w4,w5,w6,w7,w8⟩,⟨kd,⟨m,hm,hmv⟩,⟨l1,l2,l3⟩,co,ci,cv,fv⟩,hfs⟩)<;>(refine zk ?_;clear zk zP)
 have ne:∀c g gs,upd σ.hp a x c=some (.gen g gs)→σ.hp c=some (.gen g gs):=fun c g gs e=>by
  by_cases hc:c=a
  ·subst hc;rw [Ae] at e;(have zc:=Option.some.inj e;clear e;subst zc);exact CZ hx
  ·rw [Ad _ _ hc] at e;exact e
 refine ⟨⟨w1,w2,w3,fun b y e=>?_,w5,w6,fun b b' g gs gs' h1 h2=>w7 _ _ _ _ _ (ne _ _ _ h1) (ne _ _ _ h2),w8⟩,⟨kd,⟨m,hm,hmv⟩,⟨l1,l2,(Ad _ _ (Ne.symm hl)).trans l3⟩,fun y hy=>?_,ci,cv,fv⟩,hfs⟩
 ·dsimp only at e
  by_cases hb:b=a
  ·subst hb;rw [Ae] at e;(have zc:=Option.some.inj e;clear e;subst zc);exact ⟨hF,hG,o,ho,r⟩
  ·rw [Ad _ _ hb] at e;exact w4 b y e
 ·refine xa1_5 (co y hy) ?_;intro c g1 g2 g3 g4 g5
  exact ⟨c,g1,g2,g3,(Ad _ _ (Ne.symm (hc y c hy g1))).trans g4,g5⟩
theorem Rp.apart (hR:Rp C A F G env σ s) {a:Addr} {x:AO} (ha:σ.hp a=some x):F a=none∧G a=none∧a≠env.locals∧(∀y c,env.kindOf y=some .cell→env.cells.lookup y=some c→a≠c):=by
 refine xa0_3 (hR.wd.ob a x ha) ?_;intro p q zu
 refine ⟨p,q,?_,fun y c hy hc e=>?_⟩
 ·rintro rfl;rw [hR.fm.lo.2.2] at ha;exact Ak ha
 ·subst e
  refine xa1_5 (hR.fm.co y hy) ?_;intro c' g1 zu zu g4 zu
  rw [hc] at g1;(have zc:=Option.some.inj g1;clear g1;subst zc)
  rw [g4] at ha;exact Ak ha
inductive Co
 |own
 |live (l:Addr)
 |rd (r:Addr)
inductive Ct (r:Addr) (hp:HP):List AV→Prop
 |mid {ys:List AV} {j:Nat}:hp r=some (.itr "list_iterator" [.lst ys,.val (.int j 0)])→j≤ys.length→Ct r hp (ys.drop j)
 |out {j:Nat}:hp r=some (.itr "list_iterator" [.none,.val (.int j 0)])→Ct r hp []
theorem Ct.at {r:Addr} {hp:HP} {xs:List AV} (h:Ct r hp xs):∃c vs,hp r=some (.itr c vs):=by
 cases h with
 |mid e zu=>exact ⟨_,_,e⟩
 |out e=>exact ⟨_,_,e⟩
theorem Ct.off {r:Addr} {hp hp':HP} {xs:List AV} (h:Ct r hp xs) (e:hp' r=hp r):Ct r hp' xs:=by
 cases h with
 |mid a b=>exact .mid (e.trans a) b
 |out a=>exact .out (e.trans a)
inductive Eg:Co→Addr→Nat→List AV→HP→Prop
 |tup {ia i xs hp}:hp ia=some (.itr "tuple_iterator" [.tup xs,.val (.int i 0)])→i≤xs.length→Eg .own ia i (xs.drop i) hp
 |lst {ia i xs hp}:hp ia=some (.itr "list_iterator" [.lst xs,.val (.int i 0)])→i≤xs.length→Eg .own ia i (xs.drop i) hp
 |str {ia i x hp}:hp ia=some (.itr (strIterType x) [.str x,.val (.int i 0)])→i≤x.cps.size→Eg .own ia i ((B4 x).drop i) hp
 |byt {ia i b hp}:hp ia=some (.itr "bytes_iterator" [.bytes b,.val (.int i 0)])→i≤b.size→Eg .own ia i ((ED b).drop i) hp
 |rd {r i rest hp}:Ct r hp rest→Eg (.rd r) r i rest hp
structure QT (C:Cf) (A:Around) (F:FH) (G:FH) (o:Co) (ia:Addr) (i:Nat) (rest:List AV) (hp:HP) (s:Shared):Prop where
 ex:∃fp n P St,Draws C.prog C.w A ia fp n P St∧St i s.heap∧i+rest.length=n∧ia∈fp∧(∀b∈fp,b=ia∨(F b).isSome=true∨∃xs,hp b=some (.list xs)) ∧
  ∀v h' gens,P i v→St (i+1) h'→∃x xs o' y,rest=x::xs∧VR F x v∧h'.get? ia=some o'∧OR C F gens y o'∧Db y=false∧(∃c vs,y=.itr c vs)∧∀hp',hp' ia=some y→(∀l zs,hp l=some (.list zs)→hp' l=some (.list zs))→Eg o ia (i+1) xs hp'
theorem Draws.shift {prog:Program} {w:World} {it:Addr} {fp:List Addr} {n:Nat} {P:Nat→Value→Prop} {St:Nat→Heap→Prop} (D:Draws prog w A it fp n P St) (i j:Nat) (hj:j≤n) :
  Draws prog w A it fp (i+(n - j)) (fun k v=>P (k - i+j) v) (fun k h=>i≤k∧St (k - i+j) h) where
 live:=fun k h st=>D.live _ h st.2
 frame:=fun k h h' st hk=>⟨st.1,D.frame _ h h' st.2 hk⟩
 item:=fun k s Q E hk st hQ=>D.item _ s Q E (by have:=st.1;exact B6 [_,_,_,_,_,_] [(1,(Zs Z3),(Za Z4 Z5)),(1,(Za Z0 Z4),Z3),(1,(Za Z5 Z1),Z2)] (Za Z0 Z1) Z2 rfl hk (Nat.le_of_eq (Nat.sub_add_cancel (At [_,_] [(1,Z0,Z1)] Z0 Z1 rfl st.1))) (Nat.le_of_eq (Nat.sub_add_cancel (At [_,_] [(1,Z0,Z1)] Z0 Z1 rfl hj)))) st.2 fun x h' tk hP hS hb=>hQ x h' tk hP ⟨Nat.le_succ_of_le st.1,by rw [show k+1 - i+j=k - i+j+1 by have:=st.1;exact Nat.le_antisymm (At [_,_,_,_,_] [(1,(Za Z0 Z3),(Zs Z4)),(1,Z4,(Za Z2 Z3))] (Za Z0 Z1) (Zs (Za Z2 Z1)) rfl (Nat.le_of_eq (Nat.sub_add_cancel (At [_,_] [(1,Z0,Z1)] Z0 (Zs Z1) rfl this))) (BP _ _)) (At [_,_,_,_,_] [(1,(Za Z0 Z3),Z4),(1,(Zs Z4),(Za Z2 Z3))] (Zs (Za Z0 Z1)) (Za Z2 Z1) rfl (Nat.le_of_eq (Nat.sub_add_cancel (At [_,_] [(1,Z0,Z1)] Z0 Z1 rfl this))) (BP _ _))];exact hS⟩ hb
 done:=fun s Q E st hE=>D.done s Q E (by have:=st.2;rw [show i+(n - j) - i+j=n by exact Nat.le_antisymm (At [_,_,_,_,_] [(1,(Za Z0 Z3),(Za Z3 Z4)),(1,(Za Z4 Z1),Z2)] (Za Z0 Z1) Z2 rfl (Nat.le_of_eq (Nat.sub_add_cancel (At [_,_] [] Z0 (Za Z0 Z1) rfl))) (Nat.le_of_eq (Nat.sub_add_cancel (At [_,_] [(1,Z0,Z1)] Z0 Z1 rfl hj)))) (At [_,_,_,_,_] [(1,(Za Z3 Z4),(Za Z1 Z3)),(1,Z0,(Za Z4 Z2))] Z0 (Za Z1 Z2) rfl (BP _ _) (BP _ _))] at this;exact this) hE
noncomputable def IH (h:Heap) (r:Addr) (j:Int):Prop:=∃o,h.get? r=some o∧o.cls=.type "list_iterator"∧o.data=.fields #[.none,.int j 0]
theorem Ib {it:Addr} {j:Int} {Q:Value→Shared→Prop} {E:Value→Shared→Prop} {prog:Program} {w:World} (hh:A.handled=none) (hit:IH s.heap it j)
  (hE:∀h' e,(∀b o,s.heap.get? b=some o→h'.get? b=some o)→(∃o,h'.get? e=some o∧o.cls=.type "StopIteration")→E (.ref e) { s with heap:=h' }) :
  wpAny (model prog w) A (Builtin.SmallTypes.nextOf (.ref it)) Q E s:=by
 refine xa1_3 hit ?_;(try clear hit);intro o ho hc hd
 have hT:s.TypeIs (.ref it) "list_iterator":=⟨o,ho,hc⟩
 unfold Builtin.SmallTypes.nextOf
 refine wpAny_bind (wpAny_callSpecial?_slot (name:=Str.ofString "__next__") hT slot_listiter_next
  (wpAny_call_entry slot_listiter_next hT entry_listiter_next ?_ (args_listiter_next _)))
 show wpAny _ _ (field (.ref it) 0 >>= _) _ _ s
 refine wpAny_bind (wpAny_field ho hd (x:=.none) rfl ?_)
 show wpAny _ _ (if (Value.none == Value.none)=true then _ else _) _ _ s
 rw [if_pos (by rfl)]
 refine wpAny_bind (wpAny_rule ?_)
 show wpAny _ _ ((newExc (.type "StopIteration") [] >>= _) >>= _) _ _ _
 refine wpAny_bind (wpAny_bind ?_)
 simp only [newExc,newTuple]
 refine wpAny_bind (wpAny_newObj_type ?_ (by size_fits))
 refine wpAny_bind (m:=firstArgMember _ _) (wpAny_of_eq (a:=Value.none) (by first|rfl|(simp only [firstArgMember];rfl)) ?_)
 refine wpAny_newObj_type ?_ (by size_fits)
 simp only [raiseNew]
 refine wpAny_bind (wpAny_handled ?_)
 rw [hh]
 refine wpAny_bind (wpAny_pure (wpAny_throw ?_))
 exact hE _ _ (fun b o hb=>Heap.get?_push_of_some _ (Heap.get?_push_of_some _ hb)) ⟨_,Heap.get?_push_size _ rfl,rfl⟩
theorem Le (hh:A.handled=none) (it:Addr) (j:Int) (n:Nat) {prog:Program} {w:World}:Draws prog w A it [it] n (fun _ _=>False) (fun k h=>n≤k∧IH h it j) where
 live:=fun _ _ st=>let ⟨o,ho,_⟩:=st.2;⟨o,ho⟩
 frame:=fun _ _ _ st hk=>let ⟨n,o,ho,r⟩:=st;⟨n,o,hk it (by simp) o ho,r⟩
 item:=fun i s Q E hi st hQ=>absurd st.1 (Nat.not_le_of_lt hi)
 done:=fun s Q E st hE=>Ib hh st.2 fun h' e k x=>hE h' e (fun b o _ ho=>k b o ho) x
theorem Eg.drw {o:Co} {ia:Addr} {i:Nat} {rest:List AV} (h:Eg o ia i rest σ.hp) (hA:A.handled=none) (hR:Rp C A F G env σ s):QT C A.in1 F G o ia i rest σ.hp s:=by
 generalize hhp:σ.hp=hp at h
 cases h with
 |tup e hle=>
  rename_i xs
  subst hhp
  refine cps fun zP zk=>?_;(rcases hR.wd.ob _ _ e with ⟨p,q,o,ho,r⟩)<;>(refine zk ?_;clear zk zP)
  (refine OR.itrC r fun us r1 r2 r3=>?_;clear r)
  refine VRs.consC r3 fun zv zw zo a1 a2=>?_;clear r3;subst zo
  refine VRs.consC a2 fun zv zw zo b1 b2=>?_;clear a2;subst zo
  (have zc:=VRs.nilI b2;clear b2;subst zc);(have zc:=VR.valI b1;clear b1;subst zc)
  refine VR.tupC a1 fun vs l ol n zo q1 q2 q3 q4=>?_;clear a1;subst zo
  have hlen:=q4.length
  have hli:l≠ia:=by rintro rfl;rw [p] at q1;exact Ak q1
  refine ⟨[ia,l],_,_,_,Fu (A:=A.in1) hA ia l hli vs.toArray,⟨⟨o,ho,r1,r2⟩,⟨ol,hR.wd.fz _ _ q1,q2,n,q3⟩⟩,?_,by simp,?_,?_⟩
  ·simp [hlen];exact Nat.le_antisymm (At [_,_,_] [(1,(Za Z1 Z0),Z2)] (Za Z0 Z1) Z2 rfl (Nat.le_of_eq (Nat.sub_add_cancel (At [_,_] [(1,Z0,Z1)] Z0 Z1 rfl hle)))) (At [_,_,_] [(1,Z0,(Za Z2 Z1))] Z0 (Za Z1 Z2) rfl (BP _ _))
  ·intro b hb
   simp at hb
   rcases hb with rfl|rfl
   ·exact .inl rfl
   ·exact .inr (.inl (by rw [q1];rfl))
  ·(rintro v h' gens hv;intro zr;refine xa0_2 zr ?_;(try clear zr);intro zq;refine xa1_3 zq ?_;(try clear zq);intro o' ho' c1 c2;intro zu)
   rw [List.getElem?_toArray] at hv
   have hlt:i<xs.length:=by rw [←hlen];exact (List.getElem?_eq_some_iff.mp hv).1
   refine xa1_2 (q4.get (i:=i) (x:=xs[i]) (by simp [hlt])) ?_;intro u hu hr
   rw [hv] at hu;(have zc:=Option.some.inj hu;clear hu;subst zc)
   refine ⟨xs[i],xs.drop (i+1),o',.itr "tuple_iterator" [.tup xs,.val (.int (i+1:Nat) 0)],(List.drop_eq_getElem_cons hlt),hr,ho',.itr (us:=[.ref l,.int (i+1:Nat) 0]) c1 c2 (.cons (.tup q1 q2 q3 q4) (.cons (.val _) .nil)),rfl,⟨_,_,rfl⟩,fun hp' e' zu=>.tup e' hlt⟩
 |lst e hle=>
  rename_i xs
  subst hhp
  refine cps fun zP zk=>?_;(rcases hR.wd.ob _ _ e with ⟨p,q,o,ho,r⟩)<;>(refine zk ?_;clear zk zP)
  (refine OR.itrC r fun us r1 r2 r3=>?_;clear r)
  refine VRs.consC r3 fun zv zw zo a1 a2=>?_;clear r3;subst zo
  refine VRs.consC a2 fun zv zw zo b1 b2=>?_;clear a2;subst zo
  (have zc:=VRs.nilI b2;clear b2;subst zc);(have zc:=VR.valI b1;clear b1;subst zc)
  refine VR.lstC a1 fun vs l ol n zo q1 q2 q3 q4=>?_;clear a1;subst zo
  have hlen:=q4.length
  have hli:l≠ia:=by rintro rfl;rw [p] at q1;exact Ak q1
  refine ⟨[ia,l],_,_,_,Draws.list (A:=A.in1) hA ia l hli vs.toArray,⟨⟨o,ho,r1,r2⟩,⟨ol,hR.wd.fz _ _ q1,q2,n,q3⟩⟩,?_,by simp,?_,?_⟩
  ·simp [hlen];exact Nat.le_antisymm (At [_,_,_] [(1,(Za Z1 Z0),Z2)] (Za Z0 Z1) Z2 rfl (Nat.le_of_eq (Nat.sub_add_cancel (At [_,_] [(1,Z0,Z1)] Z0 Z1 rfl hle)))) (At [_,_,_] [(1,Z0,(Za Z2 Z1))] Z0 (Za Z1 Z2) rfl (BP _ _))
  ·intro b hb
   simp at hb
   rcases hb with rfl|rfl
   ·exact .inl rfl
   ·exact .inr (.inl (by rw [q1];rfl))
  ·(rintro v h' gens hv;intro zr;refine xa0_2 zr ?_;(try clear zr);intro zq;refine xa1_3 zq ?_;(try clear zq);intro o' ho' c1 c2;intro zu)
   rw [List.getElem?_toArray] at hv
   have hlt:i<xs.length:=by rw [←hlen];exact (List.getElem?_eq_some_iff.mp hv).1
   refine xa1_2 (q4.get (i:=i) (x:=xs[i]) (by simp [hlt])) ?_;intro u hu hr
   rw [hv] at hu;(have zc:=Option.some.inj hu;clear hu;subst zc)
   refine ⟨xs[i],xs.drop (i+1),o',.itr "list_iterator" [.lst xs,.val (.int (i+1:Nat) 0)],(List.drop_eq_getElem_cons hlt),hr,ho',.itr (us:=[.ref l,.int (i+1:Nat) 0]) c1 c2 (.cons (.lst q1 q2 q3 q4) (.cons (.val _) .nil)),rfl,⟨_,_,rfl⟩,fun hp' e' zu=>.lst e' hlt⟩
 |str e hle=>
  rename_i x
  subst hhp
  refine cps fun zP zk=>?_;(rcases hR.wd.ob _ _ e with ⟨p,q,o,ho,r⟩)<;>(refine zk ?_;clear zk zP)
  (refine OR.itrC r fun us r1 r2 r3=>?_;clear r)
  refine VRs.consC r3 fun zv zw zo a1 a2=>?_;clear r3;subst zo
  refine VRs.consC a2 fun zv zw zo b1 b2=>?_;clear a2;subst zo
  (have zc:=VRs.nilI b2;clear b2;subst zc);(have zc:=VR.valI b1;clear b1;subst zc)
  refine xa1_1 a1.strI ?_;intro t zo;clear a1;subst zo
  have hD:Draws C.prog C.w A.in1 ia [ia] x.cps.size (fun i v=>∃c u,x.cps[i]? = some c∧v=.str ⟨#[c]⟩ u) (fun i h=>h.IsStrIter ia (strIterType x) x t i):=by
   cases ha:x.cps.all (·<128)
   ·have:strIterType x = "str_iterator":=by simp [strIterType,ha]
    rw [this];exact Draws.strWide (A:=A.in1) hA ia x t
   ·have:strIterType x = "str_ascii_iterator":=by simp [strIterType,ha]
    rw [this];exact Draws.strAscii (A:=A.in1) hA ia x t
  refine ⟨[ia],_,_,_,hD,⟨o,ho,r1,r2⟩,?_,by simp,?_,?_⟩
  ·simp [B4];exact Nat.le_antisymm (At [_,_,_] [(1,(Za Z1 Z0),Z2)] (Za Z0 Z1) Z2 rfl (Nat.le_of_eq (Nat.sub_add_cancel (At [_,_] [(1,Z0,Z1)] Z0 Z1 rfl hle)))) (At [_,_,_] [(1,Z0,(Za Z2 Z1))] Z0 (Za Z1 Z2) rfl (BP _ _))
  ·intro b hb
   simp at hb;exact .inl hb
  ·(rintro v h' gens;intro zr;refine xa2_2 zr ?_;(try clear zr);intro c u hc;rintro rfl;intro zr;refine xa1_3 zr ?_;(try clear zr);intro o' ho' c1 c2)
   have hlt:i<x.cps.size:=by
    rcases Nat.lt_or_ge i x.cps.size with h|h
    ·exact h
    ·rw [Array.getElem?_eq_none h] at hc;exact Ak hc
   have hlt':i<(B4 x).length:=by simp [B4,hlt]
   have hci:(B4 x)[i]=.str ⟨#[c]⟩:=by
    rw [Array.getElem?_eq_getElem hlt] at hc;(have zc:=Option.some.inj hc;clear hc;subst zc)
    simp [B4]
   refine ⟨(B4 x)[i],(B4 x).drop (i+1),o',.itr (strIterType x) [.str x,.val (.int (i+1:Nat) 0)],(List.drop_eq_getElem_cons hlt'),?_,ho',.itr (us:=[.str x t,.int (i+1:Nat) 0]) c1 c2 (.cons (.str x t) (.cons (.val _) .nil)),rfl,⟨_,_,rfl⟩,fun hp' e' zu=>.str e' hlt⟩
   rw [hci];exact .str _ _
 |byt e hle=>
  rename_i x
  subst hhp
  refine cps fun zP zk=>?_;(rcases hR.wd.ob _ _ e with ⟨p,q,o,ho,r⟩)<;>(refine zk ?_;clear zk zP)
  (refine OR.itrC r fun us r1 r2 r3=>?_;clear r)
  refine VRs.consC r3 fun zv zw zo a1 a2=>?_;clear r3;subst zo
  refine VRs.consC a2 fun zv zw zo b1 b2=>?_;clear a2;subst zo
  (have zc:=VRs.nilI b2;clear b2;subst zc);(have zc:=VR.valI b1;clear b1;subst zc)
  refine xa1_1 a1.bytesI ?_;intro t zo;clear a1;subst zo
  refine ⟨[ia],_,_,_,I0 (A:=A.in1) hA ia x t,⟨o,ho,r1,r2⟩,?_,by simp,?_,?_⟩
  ·rw [List.length_drop,EC];exact Nat.le_antisymm (At [_,_,_] [(1,(Za Z1 Z0),Z2)] (Za Z0 Z1) Z2 rfl (Nat.le_of_eq (Nat.sub_add_cancel (At [_,_] [(1,Z0,Z1)] Z0 Z1 rfl hle)))) (At [_,_,_] [(1,Z0,(Za Z2 Z1))] Z0 (Za Z1 Z2) rfl (BP _ _))
  ·intro b hb
   simp at hb;exact .inl hb
  ·(rintro v h' gens;intro zr;refine xa2_2 zr ?_;(try clear zr);intro c u hc;rintro rfl;intro zr;refine xa1_3 zr ?_;(try clear zr);intro o' ho' c1 c2)
   have hlt:i<x.size:=(Array.getElem?_eq_some_iff.mp hc).1
   have hlt':i<(ED x).length:=by rw [EC];exact hlt
   have hci:(ED x)[i]=.int (c.toNat:Int):=by
    rw [Array.getElem?_eq_getElem hlt] at hc;(have zc:=Option.some.inj hc;clear hc;subst zc)
    simp [ED]
   refine ⟨(ED x)[i],(ED x).drop (i+1),o',.itr "bytes_iterator" [.bytes x,.val (.int (i+1:Nat) 0)],(List.drop_eq_getElem_cons hlt'),?_,ho',.itr (us:=[.bytes x t,.int (i+1:Nat) 0]) c1 c2 (.cons (.bytes x t) (.cons (.val _) .nil)),rfl,⟨_,_,rfl⟩,fun hp' e' zu=>.byt e' hlt⟩
   rw [hci];exact .int _ _
 |rd h=>
  subst hhp
  cases h with
  |@mid ys j e hle=>
   refine cps fun zP zk=>?_;(rcases hR.wd.ob _ _ e with ⟨p,q,o,ho,r⟩)<;>(refine zk ?_;clear zk zP)
   (refine OR.itrC r fun us r1 r2 r3=>?_;clear r)
   refine VRs.consC r3 fun zv zw zo a1 a2=>?_;clear r3;subst zo
   refine VRs.consC a2 fun zv zw zo b1 b2=>?_;clear a2;subst zo
   (have zc:=VRs.nilI b2;clear b2;subst zc);(have zc:=VR.valI b1;clear b1;subst zc)
   refine VR.lstC a1 fun vs l ol n zo q1 q2 q3 q4=>?_;clear a1;subst zo
   have hlen:=q4.length
   have hli:l≠ia:=by rintro rfl;rw [p] at q1;exact Ak q1
   have hjn:j≤vs.toArray.size:=by simp [hlen];exact hle
   refine ⟨[ia,l],_,_,_,Draws.shift (Draws.list (A:=A.in1) hA ia l hli vs.toArray) i j hjn,⟨Nat.le_refl i,by rw [Nat.sub_self,Nat.zero_add];exact ⟨⟨o,ho,r1,r2⟩,⟨ol,hR.wd.fz _ _ q1,q2,n,q3⟩⟩⟩,?_,by simp,?_,?_⟩
   ·simp [hlen]
   ·intro b hb
    simp at hb
    rcases hb with rfl|rfl
    ·exact .inl rfl
    ·exact .inr (.inl (by rw [q1];rfl))
   ·(rintro v h' gens hv;intro zr;refine xa0_2 zr ?_;(try clear zr);intro zu hst)
    rw [show i+1 - i+j=j+1 by exact Nat.le_antisymm (At [_,_,_] [(1,(Za Z0 Z2),(Zs Z2))] (Za Z0 Z1) (Zs Z1) rfl (Nat.le_of_eq (Nat.sub_add_cancel (At [_] [] Z0 (Zs Z0) rfl)))) (At [_,_,_] [(1,(Zs Z2),(Za Z1 Z2))] (Zs Z0) (Za Z1 Z0) rfl (BP _ _))] at hst
    refine xa0_2 hst ?_;(try clear hst);intro zq;refine xa1_3 zq ?_;(try clear zq);intro o' ho' c1 c2;intro zu
    rw [Nat.sub_self,Nat.zero_add,List.getElem?_toArray] at hv
    have hlt:j<ys.length:=by rw [←hlen];exact (List.getElem?_eq_some_iff.mp hv).1
    refine xa1_2 (q4.get (i:=j) (x:=ys[j]) (by simp [hlt])) ?_;intro u hu hr
    rw [hv] at hu;(have zc:=Option.some.inj hu;clear hu;subst zc)
    exact ⟨ys[j],ys.drop (j+1),o',.itr "list_iterator" [.lst ys,.val (.int (j+1:Nat) 0)],(List.drop_eq_getElem_cons hlt),hr,ho',.itr (us:=[.ref l,.int (j+1:Nat) 0]) c1 c2 (.cons (.lst q1 q2 q3 q4) (.cons (.val _) .nil)),rfl,⟨_,_,rfl⟩,fun hp' e' zu=>.rd (.mid e' hlt)⟩
  |@out j e=>
   refine cps fun zP zk=>?_;(rcases hR.wd.ob _ _ e with ⟨p,q,o,ho,r⟩)<;>(refine zk ?_;clear zk zP)
   (refine OR.itrC r fun us r1 r2 r3=>?_;clear r)
   refine VRs.consC r3 fun zv zw zo a1 a2=>?_;clear r3;subst zo
   refine VRs.consC a2 fun zv zw zo b1 b2=>?_;clear a2;subst zo
   (have zc:=VRs.nilI b2;clear b2;subst zc);(have zc:=VR.valI b1;clear b1;subst zc);(have zc:=VR.noneI a1;clear a1;subst zc)
   exact ⟨[ia],_,_,_,Le (A:=A.in1) hA ia j i,⟨Nat.le_refl i,o,ho,r1,r2⟩,by simp,by simp,fun b hb=>.inl (by simpa using hb),fun v h' gens hv zu=>hv.elim⟩
end
end
section
variable {C:Cf} {A:Around} {s:Shared} {env:Env} {σ:Al} {F G:FH} {hp:HP} {E:Value→Shared→Prop}
noncomputable def AX (ia:Addr) (i:Nat) (old:AV):AO:=.fields "enumerate" [.none,.bool false,.ref ia,.val (rawInt i),.none,old]
theorem Eg.at {o:Co} {ia:Addr} {i:Nat} {rest:List AV} (h:Eg o ia i rest hp):∃c vs,hp ia=some (.itr c vs):=by
 cases h with
 |tup e zu=>exact ⟨_,_,e⟩
 |lst e zu=>exact ⟨_,_,e⟩
 |str e zu=>exact ⟨_,_,e⟩
 |byt e zu=>exact ⟨_,_,e⟩
 |rd h=>exact h.at
theorem Rp.isEnum (hR:Rp C A F G env σ s) {ea ia:Addr} {i:Nat} {old:AV} (he:σ.hp ea=some (AX ia i old)):∃ov,IsEnum s.heap ea ia i ov∧VR F old ov:=by
 refine cps fun zP zk=>?_;(rcases hR.wd.ob _ _ he with ⟨zu,zu,o,ho,r⟩)<;>(refine zk ?_;clear zk zP)
 (refine OR.fieldsC r fun us r1 r2 r3 r4 r5=>?_;clear r)
 refine VRs.consC r5 fun zv zw zo a1 r5_a=>?_;clear r5;subst zo
 refine VRs.consC r5_a fun zv zw zo a2 r5_b=>?_;clear r5_a;subst zo
 refine VRs.consC r5_b fun zv zw zo a3 r5_c=>?_;clear r5_b;subst zo
 refine VRs.consC r5_c fun zv zw zo a4 r5_d=>?_;clear r5_c;subst zo
 refine VRs.consC r5_d fun zv zw zo a5 r5_e=>?_;clear r5_d;subst zo
 refine VRs.consC r5_e fun zv zw zo a6 r5_f=>?_;clear r5_e;subst zo
 (have zc:=VRs.nilI r5_f;clear r5_f;subst zc);(have zc:=VR.noneI a1;clear a1;subst zc);(have zc:=VR.boolI a2;clear a2;subst zc);(have zc:=VR.refI a3;clear a3;subst zc);(have zc:=VR.valI a4;clear a4;subst zc);(have zc:=VR.noneI a5;clear a5;subst zc)
 refine cps fun zP zk=>?_;(rcases o with ⟨c,dd,da,sl⟩)<;>(refine zk ?_;clear zk zP)
 dsimp only at r1 r2 r3 r4
 subst r1 r2 r3 r4
 exact ⟨_,ho,a6⟩
theorem Rp.top (hR:Rp C A F G env σ s):F s.heap.objs.size=none∧G s.heap.objs.size=none∧σ.hp s.heap.objs.size=none∧s.heap.objs.size≠env.locals∧(∀y c,env.kindOf y=some .cell→env.cells.lookup y=some c→s.heap.objs.size≠c):=by
 refine xa0_3 (hR.wd.lt (Nat.le_refl s.heap.objs.size)) ?_;intro z1 z2 z3
 refine ⟨z1,z2,z3,Nat.ne_of_gt (by refine xa1_2 hR.fm.ns ?_;intro m;intro zq;refine xa3_2 zq ?_;(try clear zq);intro oL es ep' hL zu;intro zu;exact Heap.lt_size hL),fun x c hx hc=>?_⟩
 refine cps fun zP zk=>?_;(rcases hR.fm.co x hx with ⟨c',g1,zu,zu,zu,zu,v',o',ho',zu⟩)<;>(refine zk ?_;clear zk zP)
 rw [hc] at g1;(have zc:=Option.some.inj g1;clear g1;subst zc)
 exact Nat.ne_of_gt (Heap.lt_size ho')
theorem KZ (hA:A.handled=none) (hR:Rp C A F G env σ s) {o:Co} {ea ia:Addr} {i:Nat} {old x:AV} {rest:List AV} (he:σ.hp ea=some (AX ia i old)) (hs:Eg o ia i (x::rest) σ.hp) {elts:List Expr} {tn:Nat} {tpos:Pos} :
  wpAny (model C.prog C.w) A (pyNext (.ref ea)) (fun r s₁=>∃v,r=some v∧wpAny (model C.prog C.w) A (letOwnedTupleGo (.Tuple elts tn tpos) (.ref ea) v) (fun zu s₂=>
   ∃F' y,AG F F'∧VR F' (.tup [.int i,x]) v∧(∃c vs,y=.itr c vs)∧Eg o ia (i+1) rest (upd (upd σ.hp ia y) ea (AX ia (i+1) x))∧Rp C A F' G env { σ with hp:=upd (upd σ.hp ia y) ea (AX ia (i+1) x) } s₂) Bj s₁) Bj s:=by
 refine xa4_6 ((hs.drw hA hR).ex) ?_;intro fp n P St D hst hn hifp hfp hfin
 refine xa2_1 hs.at ?_;intro ci vi hia
 refine xa1_2 (hR.isEnum he) ?_;intro ov hE hov
 have hne:ea≠ia:=by rintro rfl;rw [he] at hia;exact AO.noConfusion (Option.some.inj hia)
 have hef:ea∉fp:=fun hb=>by
  rcases hfp ea hb with h|h|⟨xs,h⟩
  ·exact hne h
  ·rw [(hR.apart he).1] at h;exact Bu h
  ·rw [he] at h;exact AO.noConfusion (Option.some.inj h)
 refine wpAny_pyNext_enum_itemD D hE hst (by rw [←hn];simp) hne hef (fun xv h' tk hP hout hst' htup hsz hk=>⟨_,rfl,?_⟩)
 refine wpAny_letOwnedTupleGo_enum (s:={ s with heap:=h',toks:=tk+1 }) hout (fun h'' hen hsb=>?_)
 refine xa4_7 (hfin xv h' s.gens hP hst') ?_;intro x' xs' o' y e1 hxv ho' hor hng hy hsrc
 cases e1
 have ho'':h''.get? ia=some o':=(hsb.2 ia hne.symm).trans ho'
 have hall:∀b o,b∉[ia,ea]→s.heap.get? b=some o→h''.get? b=some o:=fun b o hb e=>by
  simp at hb
  exact (hsb.2 b hb.2).trans (hk b o hb.2 hb.1 e)
 have hR1:=hR.loosen [ia,ea] (fun a ha=>by
  simp at ha
  rcases ha with rfl|rfl
  ·exact ⟨_,hia⟩
  ·exact ⟨_,he⟩) (h':=h'') (t:=tk+1) hall
 refine xa0_4 (hR.apart hia) ?_;intro i1 i2 i3 i4
 refine xa0_4 (hR.apart he) ?_;intro e1 e2 e3 e4
 have hR2:=hR1.track (a:=ia) (x:=y) ho'' i1 i2 (by simp) i3 i4 hng hor
 have hR3:=hR2.track (a:=ea) (x:=AX ia (i+1) x) hen e1 e2 (by
  show upd _ ia y ea=none
  rw [Ad _ _ hne];simp) e3 e4 rfl (.fields (us:=[.none,.bool false,.ref ia,rawInt (i+1:Nat),.none,xv]) rfl rfl rfl rfl (.cons .none (.cons (.bool _) (.cons (.ref _) (.cons (.val _) (.cons .none (.cons hxv .nil)))))))
 refine xa0_5 hR.top ?_;intro t1 t2 t3 t4 t5
 have nta:s.heap.objs.size≠ia:=by rintro e;rw [e,hia] at t3;exact Ap t3
 have nte:s.heap.objs.size≠ea:=by rintro e;rw [e,he] at t3;exact Ap t3
 have htup':h''.get? s.heap.objs.size=some { cls:=.type "tuple",data:=.seq #[.int i tk,xv] }:=(hsb.2 _ nte).trans htup
 have hpe:upd (upd (fun b=>if b∈[ia,ea] then none else σ.hp b) ia y) ea (AX ia (i+1) x)=upd (upd σ.hp ia y) ea (AX ia (i+1) x):=by
  funext b
  by_cases h1:b=ea
  ·subst h1;rw [Ae,Ae]
  ·rw [Ad _ _ h1,Ad _ _ h1]
   by_cases h2:b=ia
   ·subst h2;rw [Ae,Ae]
   ·rw [Ad _ _ h2,Ad _ _ h2];simp [h1,h2]
 have hR3:Rp C A F G env { σ with hp:=upd (upd σ.hp ia y) ea (AX ia (i+1) x) } ⟨h'',s.gens,s.drawn,tk+1,s.os⟩:=hpe▸hR3
 refine xa0_2 (hR3.freezeAt (a:=s.heap.objs.size) htup' t1 t2 (by
  show upd _ ea _ _=none
  rw [Ad _ _ nte,Ad _ _ nta];exact t3) t4 t5) ?_;intro hR4 ex
 refine ⟨_,y,ex,.tup (vs:=[.int i tk,xv]) (Ar _ _ _) rfl rfl (.cons (.int _ _) (.cons (hxv.mono ex) .nil)),hy,hsrc _ ?_ ?_,hR4⟩
 ·rw [Ad _ _ hne.symm,Ae]
 ·intro l zs hl
  have h1:l≠ea:=by rintro rfl;rw [he] at hl;exact AO.noConfusion (Option.some.inj hl)
  have h2:l≠ia:=by rintro rfl;rw [hia] at hl;exact AO.noConfusion (Option.some.inj hl)
  rw [Ad _ _ h1,Ad _ _ h2];exact hl
noncomputable def HC (o:Co) (hp:HP):Prop:=match o with
 |.rd r=>Ct r hp []
 |_=>True
theorem LX {it l:Addr} {j:Nat} {items:Array Value} {Q:Value→Shared→Prop} {prog:Program} {w:World} (hh:A.handled=none) (hit:s.heap.IsListIter it l j) (hl:s.heap.IsList l items) (hx:items[j]? = none)
  (hE:∀h' e,Heap.ExtBut it s.heap h'→IH h' it j→(∃o,h'.get? e=some o∧o.cls=.type "StopIteration")→E (.ref e) { s with heap:=h' }) :
  wpAny (model prog w) A (Builtin.SmallTypes.nextOf (.ref it)) Q E s:=by
 refine xa1_3 (id hit) ?_;intro o ho hc hd
 refine cps fun zP zk=>?_;(rcases hl with ⟨ol,hol,zu,nl,hdl⟩)<;>(refine zk ?_;clear zk zP)
 unfold Builtin.SmallTypes.nextOf
 refine wpAny_bind (wpAny_callSpecial?_slot (name:=Str.ofString "__next__") hit.typeIs slot_listiter_next (wpAny_call_entry slot_listiter_next hit.typeIs entry_listiter_next ?_ (args_listiter_next _)))
 show wpAny _ _ (field (.ref it) 0 >>= _) _ _ s
 refine wpAny_bind (wpAny_field ho hd (x:=.ref l) rfl ?_)
 show wpAny _ _ (if (Value.ref l == Value.none)=true then _ else _) _ _ s
 rw [if_neg (show ¬((Value.ref l == Value.none)=true) from Bool.false_ne_true)]
 show wpAny _ _ (field (.ref it) 1 >>= _) _ _ s
 refine wpAny_bind (wpAny_field ho hd (x:=.int j 0) rfl ?_)
 show wpAny _ _ (seqItems? (.ref l) >>= _) _ _ s
 refine wpAny_bind (wpAny_seqItems hol hdl ?_)
 simp only [Int.toNat_natCast,hx]
 refine wpAny_bind (wpAny_rule (wpAny_bind (wpAny_setField ho hd (by simp) ?_)))
 show wpAny _ _ (newExc (.type "StopIteration") [] >>= _) _ _ _
 refine wpAny_bind ?_
 simp only [newExc,newTuple]
 refine wpAny_bind (wpAny_newObj_type ?_ (by size_fits))
 refine wpAny_bind (m:=firstArgMember _ _) (wpAny_of_eq (a:=Value.none) (by first|rfl|(simp only [firstArgMember];rfl)) ?_)
 refine wpAny_newObj_type ?_ (by size_fits)
 simp only [raiseNew]
 refine wpAny_bind (wpAny_handled ?_)
 rw [hh]
 refine wpAny_bind (wpAny_pure (wpAny_throw ?_))
 refine hE _ _ (((Heap.SameBut.update ..).extBut.push _).push _) ?_ ⟨_,Heap.get?_push_size _ rfl,rfl⟩
 have hdf:=Obj.data_mapFields hd (·.setIfInBounds 0 .none)
 exact ⟨_,Heap.get?_push_of_some _ (Heap.get?_push_of_some _ (Heap.get?_update_self _ ho (Obj.isFreed_of_fields hdf))),(Obj.cls_mapFields ..).trans hc,hdf⟩
theorem Iz {e it:Addr} {i:Int} {old:Value} {Q:Option Value→Shared→Prop} {P:Heap→Prop} {prog:Program} {w:World}
  (hD:∀(Q:Value→Shared→Prop) (E:Value→Shared→Prop),(∀h' x,P h'→(∃o,h'.get? x=some o∧o.cls=.type "StopIteration")→E (.ref x) { s with heap:=h' })→wpAny (model prog w) A.in1 (Builtin.SmallTypes.nextOf (.ref it)) Q E s)
  (he:IsEnum s.heap e it i old) (hQ:∀h',P h'→Q none { s with heap:=h' }):wpAny (model prog w) A (pyNext (.ref e)) Q E s:=by
 have hT:s.TypeIs (.ref e) "enumerate":=⟨_,he,rfl⟩
 unfold pyNext
 refine wpAny_bind (wpAny_attempt (wpAny_callSpecial?_slot (name:=Str.ofString "__next__") hT F.slot_enumerate_next (wpAny_call_entry F.slot_enumerate_next hT F.entry_enumerate_next ?_ (F.args_enumerate_next_1 _))))
 show wpAny _ _ (field (.ref e) 2 >>= _) _ _ _
 refine wpAny_bind (wpAny_field he rfl (x:=.ref it) rfl ?_)
 refine wpAny_bind (hD _ _ fun h' x hp' hx'=>?_)
 refine xa1_2 hx' ?_;(try clear hx');intro o ho hc
 refine wpAny_bind (wpAny_isInstance (T:="StopIteration") (b:=true) ⟨o,ho,hc⟩ isSubtype_stop ?_)
 exact wpAny_pure (hQ _ hp')
theorem Rp.outAt (hR:Rp C A F G env σ s) {r:Addr} (h:∃c vs,σ.hp r=some (.itr c vs)) {h':Heap} {j:Nat} {t:Nat} (k:∀b o,b≠r→s.heap.get? b=some o→h'.get? b=some o) (ho:IH h' r j) :
  ∃hp',(∀a,a≠r→hp' a=σ.hp a)∧HC (.rd r) hp'∧Rp C A F G env { σ with hp:=hp' } ⟨h',s.gens,s.drawn,t,s.os⟩:=by
 refine xa2_1 h ?_;(try clear h);intro c vs e
 refine xa1_3 ho ?_;(try clear ho);intro o h1 h2 h3
 refine xa0_4 (hR.apart e) ?_;intro i1 i2 i3 i4
 have hR1:=hR.loosen [r] (fun a ha=>by simp at ha;subst ha;exact ⟨_,e⟩) (h':=h') (t:=t) (fun b o hb q=>k b o (by simpa using hb) q)
 have hR2:=hR1.track (a:=r) (x:=.itr "list_iterator" [.none,.val (.int j 0)]) h1 i1 i2 (by simp) i3 i4 rfl (.itr (us:=[.none,.int j 0]) h2 h3 (.cons .none (.cons (.val _) .nil)))
 refine ⟨_,fun a ha=>?_,Ct.out (Ae _ _ _),hR2⟩
 rw [Ad _ _ ha];exact if_neg (by simpa using ha)
theorem M4 (hA:A.handled=none) (hR:Rp C A F G env σ s) {o:Co} {ea ia:Addr} {i:Nat} {old:AV} (he:σ.hp ea=some (AX ia i old)) (hs:Eg o ia i [] σ.hp) :
  wpAny (model C.prog C.w) A (pyNext (.ref ea)) (fun r s₁=>r=none∧∃hp',(∀a,a≠ia→hp' a=σ.hp a)∧HC o hp'∧Rp C A F G env { σ with hp:=hp' } s₁) Bj s:=by
 refine xa2_1 hs.at ?_;intro ci vi hia
 refine xa1_2 (hR.isEnum he) ?_;intro ov hE hov
 have key:HC o=(fun _=>True)→wpAny (model C.prog C.w) A (pyNext (.ref ea)) (fun r s₁=>r=none∧∃hp',(∀a,a≠ia→hp' a=σ.hp a)∧HC o hp'∧Rp C A F G env { σ with hp:=hp' } s₁) Bj s:=fun ho=>by
  refine xa4_6 ((hs.drw hA hR).ex) ?_;intro fp n P St D hst hn hifp hfp hfin
  simp at hn;subst hn
  refine wpAny_pyNext_enum_endD D hE hst (fun h' hx=>⟨rfl,(fun b=>if b∈[ia] then none else σ.hp b),fun a ha=>if_neg (by simpa using ha),by rw [ho];trivial,?_⟩)
  exact hR.loosen [ia] (fun a ha=>by simp at ha;subst ha;exact ⟨_,hia⟩) (h':=h') (t:=s.toks) (fun b o hb e=>hx b o (by simpa using hb) e)
 cases o with
 |own=>exact key rfl
 |live l=>exact key rfl
 |rd r=>
  generalize hhp:σ.hp=hp at hs
  generalize hrs:([]:List AV)=rest at hs
  cases hs with
  |rd h=>
   subst hhp
   have hit:=h.at
   cases h with
   |@mid ys j e hle=>
    have hj:ys.length≤j:=List.drop_eq_nil_iff.mp hrs.symm
    refine cps fun zP zk=>?_;(rcases hR.wd.ob _ _ e with ⟨p,q,o,ho,r⟩)<;>(refine zk ?_;clear zk zP)
    (refine OR.itrC r fun us r1 r2 r3=>?_;clear r)
    refine VRs.consC r3 fun zv zw zo a1 a2=>?_;clear r3;subst zo
    refine VRs.consC a2 fun zv zw zo b1 b2=>?_;clear a2;subst zo
    (have zc:=VRs.nilI b2;clear b2;subst zc);(have zc:=VR.valI b1;clear b1;subst zc)
    refine VR.lstC a1 fun vs l ol n zo q1 q2 q3 q4=>?_;clear a1;subst zo
    refine Iz (P:=fun h'=>Heap.ExtBut ia s.heap h'∧IH h' ia j) (fun Q E k=>LX (A:=A.in1) hA ⟨o,ho,r1,r2⟩ ⟨ol,hR.wd.fz _ _ q1,q2,n,q3⟩ (by rw [List.getElem?_toArray,List.getElem?_eq_none_iff,q4.length];exact hj) fun h' x z1 z2 z3=>k h' x ⟨z1,z2⟩ z3) hE fun h' hx=>⟨rfl,?_⟩
    exact hR.outAt hit (t:=s.toks) hx.1 hx.2
   |@out j e=>
    refine cps fun zP zk=>?_;(rcases hR.wd.ob _ _ e with ⟨p,q,o,ho,r⟩)<;>(refine zk ?_;clear zk zP)
    (refine OR.itrC r fun us r1 r2 r3=>?_;clear r)
    refine VRs.consC r3 fun zv zw zo a1 a2=>?_;clear r3;subst zo
    refine VRs.consC a2 fun zv zw zo b1 b2=>?_;clear a2;subst zo
    (have zc:=VRs.nilI b2;clear b2;subst zc);(have zc:=VR.valI b1;clear b1;subst zc);(have zc:=VR.noneI a1;clear a1;subst zc)
    refine Iz (P:=fun h'=>∀b o,s.heap.get? b=some o→h'.get? b=some o) (fun Q E k=>Ib (A:=A.in1) hA ⟨o,ho,r1,r2⟩ fun h' x z1 z3=>k h' x z1 z3) hE fun h' hx=>⟨rfl,?_⟩
    exact hR.outAt hit (t:=s.toks) (fun b o zu q=>hx b o q) ⟨o,hx _ _ ho,r1,r2⟩
theorem IS (hA:A.handled=none) (hR:Rp C A F G env σ s) {ja:Addr} {i:Nat} {xs:List AV} {x:AV} (he:σ.hp ja=some (.itr "tuple_iterator" [.tup xs,.val (.int i 0)])) (hx:xs[i]? = some x) {elts:List Expr} {tn:Nat} {tpos:Pos} :
  wpAny (model C.prog C.w) A (pyNext (.ref ja)) (fun r s₁=>∃v,r=some v∧wpAny (model C.prog C.w) A (letOwnedTupleGo (.Tuple elts tn tpos) (.ref ja) v) (fun zu s₂=>
   VR F x v∧Rp C A F G env (σ.put ja (.itr "tuple_iterator" [.tup xs,.val (.int (i+1:Nat) 0)])) s₂) Bj s₁) Bj s:=by
 refine cps fun zP zk=>?_;(rcases hR.wd.ob _ _ he with ⟨p,q,o,ho,r⟩)<;>(refine zk ?_;clear zk zP)
 (refine OR.itrC r fun us r1 r2 r3=>?_;clear r)
 refine VRs.consC r3 fun zv zw zo a1 a2=>?_;clear r3;subst zo
 refine VRs.consC a2 fun zv zw zo b1 b2=>?_;clear a2;subst zo
 (have zc:=VRs.nilI b2;clear b2;subst zc);(have zc:=VR.valI b1;clear b1;subst zc)
 refine VR.tupC a1 fun vs l ol n zo q1 q2 q3 q4=>?_;clear a1;subst zo
 refine xa1_2 (q4.get hx) ?_;intro u hu hr
 refine wpAny_pyNext_tuple_item (x:=u) ⟨o,ho,r1,r2⟩ ⟨ol,hR.wd.fz _ _ q1,q2,n,q3⟩ (by rw [List.getElem?_toArray];exact hu) fun h' hit hsb=>⟨u,rfl,?_⟩
 refine xa1_3 hit ?_;(try clear hit);intro o' ho' c1 c2
 have hR':Rp C A F G env (σ.put ja (.itr "tuple_iterator" [.tup xs,.val (.int (i+1:Nat) 0)])) ⟨h',s.gens,s.drawn,s.toks,s.os⟩:=
  hR.change he rfl ho' (.itr (us:=[.ref l,.int (i+1:Nat) 0]) c1 c2 (.cons (.tup q1 q2 q3 q4) (.cons (.val _) .nil))) (SameBut.rest hsb)
 cases u with
 |ref a=>
  unfold letOwnedTupleGo
  refine wpAny_bind (wpAny_load (s:={ s with heap:=h' }) ho' ?_)
  rw [c1,c2]
  show wpAny _ _ (if (_:Bool)=true then _ else _) _ _ _
  rw [if_neg (by simp)]
  exact wpAny_pure ⟨hr,hR'⟩
 |_=>exact wpAny_pure ⟨hr,hR'⟩
theorem K9 (hA:A.handled=none) (hR:Rp C A F G env σ s) {ja:Addr} {i:Nat} {xs:List AV} (he:σ.hp ja=some (.itr "tuple_iterator" [.tup xs,.val (.int i 0)])) (hx:xs[i]? = none) :
  wpAny (model C.prog C.w) A (pyNext (.ref ja)) (fun r s₁=>r=none∧Rp C A F G env { σ with hp:=fun b=>if b∈[ja] then none else σ.hp b } s₁) Bj s:=by
 refine cps fun zP zk=>?_;(rcases hR.wd.ob _ _ he with ⟨p,q,o,ho,r⟩)<;>(refine zk ?_;clear zk zP)
 (refine OR.itrC r fun us r1 r2 r3=>?_;clear r)
 refine VRs.consC r3 fun zv zw zo a1 a2=>?_;clear r3;subst zo
 refine VRs.consC a2 fun zv zw zo b1 b2=>?_;clear a2;subst zo
 (have zc:=VRs.nilI b2;clear b2;subst zc);(have zc:=VR.valI b1;clear b1;subst zc)
 refine VR.tupC a1 fun vs l ol n zo q1 q2 q3 q4=>?_;clear a1;subst zo
 refine wpAny_pyNext_tuple_end hA ⟨o,ho,r1,r2⟩ ⟨ol,hR.wd.fz _ _ q1,q2,n,q3⟩ (by rw [List.getElem?_toArray];exact q4.none hx) fun h' hxx=>⟨rfl,?_⟩
 exact hR.loosen [ja] (fun a ha=>by simp at ha;subst ha;exact ⟨_,he⟩) (h':=h') (t:=s.toks) (fun b o hb e=>hxx b o (by simpa using hb) e)
theorem K8 (hR:Rp C A F G env σ s) {xs:List AV} {v:Value} (hv:VR F (.tup xs) v) :
  wpAny (model C.prog C.w) A (pyIter v) (fun it s'=>∃ja,it=.ref ja∧σ.hp ja=none∧Rp C A F G env (σ.put ja (.itr "tuple_iterator" [.tup xs,.val (.int 0 0)])) s') Bj s:=by
 refine VR.tupC hv fun vs t ot n zo q1 q2 q3 q4=>?_;clear hv;subst zo
 refine wpAny_pyIter_tuple ⟨ot,hR.wd.fz _ _ q1,q2,n,q3⟩ ⟨_,rfl,hR.lt,?_⟩
 exact hR.alloc (t:=s.toks) rfl rfl (.itr (us:=[.ref t,.int 0 0]) rfl rfl (.cons (.tup q1 q2 q3 q4) (.cons (.val _) .nil)))
theorem BI.any {v:AV} {xs:List AV} {hp hp':HP} (h:BI v xs hp):BI v xs hp':=by
 cases h with
 |tup a=>exact .tup a
 |lst a=>exact .lst a
 |str a=>exact .str a
 |byt a=>exact .byt a
inductive Cm:Co→AV→List AV→HP→Prop
 |of {v xs hp}:BI v xs hp→Cm .own v xs hp
 |rd {r xs hp}:Ct r hp xs→Cm (.rd r) (.ref r) xs hp
noncomputable def EJ (o:Co) (hp hp':HP):Prop:=match o with
 |.own=>True
 |.live l=>hp' l=hp l
 |.rd r=>hp' r=hp r
theorem Cm.keep {o:Co} {hp hp':HP} {v:AV} {xs:List AV} (h:Cm o v xs hp) (k:EJ o hp hp'):Cm o v xs hp':=by
 cases h with
 |of a=>exact .of a.any
 |rd a=>exact .rd (a.off k)
theorem EJ.of {o:Co} {hp hp':HP} {v:AV} {xs:List AV} (h:Cm o v xs hp) (k:∀a x,hp a=some x→(∃xs,x=.list xs)∨(∃c vs,x=.itr c vs)→hp' a=some x):EJ o hp hp':=by
 cases h with
 |of a=>trivial
 |rd a=>refine xa2_1 a.at ?_;intro c vs e;exact (k _ _ e (.inr ⟨_,_,rfl⟩)).trans e.symm
theorem GO {r:Addr} {Q:Value→Shared→Prop} {prog:Program} {w:World} (hT:s.TypeIs (.ref r) "list_iterator") (h:Q (.ref r) s):wpAny (model prog w) A (pyIter (.ref r)) Q E s:=by
 refine wpAny_pyIter_slot hT slot_listiter_iter (wpAny_call_entry slot_listiter_iter hT entry_listiter_iter ?_ (args_listiter_iter _))
 show wpAny _ _ (ret (.ref r)) _ _ s
 exact wpAny_pure ⟨_,rfl, "list_iterator",_,hT,slot_listiter_next.lookup,h⟩
theorem Ih (r:Addr) (vs:Array Value) (dct:Option Addr) (sl:Array (Option Value)) :
  Meets (Builtin.«enumerate.__new__» ⟨[.type "enumerate",.ref r],[]⟩) (fun _ R s=>s.heap.get? r=some { cls:=.type "list_iterator",dict:=dct,data:=.fields vs,slots:=sl } ∧
   R (.ok (.ret (.ref s.heap.objs.size))) { s with heap:=s.heap.push { cls:=.type "enumerate",data:=.fields #[.none,.bool false,.ref r,rawInt 0,.none,.none] } }):=
 .of_wp fun prog w A R s h=>by
  refine cps fun zP zk=>?_;(rcases s with ⟨hp,g,d,tk,os⟩)<;>(refine zk ?_;clear zk zP);refine xa0_2 h ?_;(try clear h);intro hl h
  have hsub:=sub_enumerate
  have hL:Shared.TypeIs ⟨hp,g,d,tk,os⟩ (.ref r) "list_iterator":=⟨_,hl,rfl⟩
  wp_walk using AutoSeq1.wpAny_loadPart' hl
  refine wpAny_stack_any fun st=>LL fun b=>?_
  cases b
  ·wp_walk using AutoSeq1.wpAny_loadPart' hl,GO hL
   exact ⟨_,rfl,h⟩
  ·wp_walk using AutoSeq1.wpAny_loadPart' hl,GO hL
   exact ⟨_,rfl,h⟩
theorem J2 {r:Addr} {ob:Obj} {vs:Array Value} {Q:Value→Shared→Prop} {prog:Program} {w:World} (ho:s.heap.get? r=some ob) (hc:ob.cls=.type "list_iterator") (hd:ob.data=.fields vs)
  (h:∀h',IsEnum h' s.heap.objs.size r 0 .none→(∀b o,s.heap.get? b=some o→h'.get? b=some o)→Q (.ref s.heap.objs.size) { s with heap:=h' }) :
  wpAny (model prog w) A (call (.type "enumerate") [.ref r]) Q E s:=by
 refine cps fun zP zk=>?_;(rcases ob with ⟨c,dct,dt,sl⟩)<;>(refine zk ?_;clear zk zP)
 replace hc:c=.type "list_iterator":=hc
 replace hd:dt=.fields vs:=hd
 subst hc hd
 refine callType_new F.called_enumerate (by decide) (F.typeCall_enumerate_1 _) (F.newCall_enumerate_1 _) (fun obj=>F.args_object_init_2 obj _) F.entry_enumerate_new (Ih r vs dct sl) ⟨ho,?_⟩
 have he:=Heap.get?_push_size s.heap (o:={ cls:=.type "enumerate",data:=.fields #[.none,.bool false,.ref r,rawInt 0,.none,.none] }) rfl
 exact ⟨⟨_,he,rfl⟩,h _ he fun b o x=>Heap.get?_push_of_some _ x⟩
theorem La {o:Co} {v:AV} {xs:List AV} {Q:AV→Al→Prop} (hv:Cm o v xs σ.hp)
  (h:∀ea ia y,σ.hp ea=none→(σ.hp ia=none∨(o=.rd ia∧σ.hp ia=some y))→ea≠ia→(∃c u,y=.itr c u)→(∀hp',hp' ia=some y→EJ o σ.hp hp'→Eg o ia 0 xs hp')→Q (.ref ea) { σ with hp:=upd (upd σ.hp ia y) ea (AX ia 0 .none) }) :
  Bf C A E env (.val (.type "enumerate")) [] [v] [] σ Q:=by
 refine CY (fun F G s vs hR hvs=>?_)
 refine VRs.consC hvs fun zv zw zo a b=>?_;clear hvs;subst zo
 (have zc:=VRs.nilI b;clear b;subst zc)
 refine xa0_5 hR.top ?_;intro t1 t2 t3 t4 t5
 have z:=hR.wd.lt (Nat.le_succ s.heap.objs.size)
 have hlt:∀x c,env.kindOf x=some .cell→env.cells.lookup x=some c→c<s.heap.objs.size:=fun x c hx hc=>by
  refine cps fun zP zk=>?_;(rcases hR.fm.co x hx with ⟨c',g1,zu,zu,zu,zu,v',o',ho',zu⟩)<;>(refine zk ?_;clear zk zP)
  rw [hc] at g1;(have zc:=Option.some.inj g1;clear g1;subst zc)
  exact Heap.lt_size ho'
 have hL:env.locals<s.heap.objs.size:=by refine xa1_2 hR.fm.ns ?_;intro m;intro zq;refine xa3_2 zq ?_;(try clear zq);intro oL es ep' hL zu;intro zu;exact Heap.lt_size hL
 have key:∀(y:AO) (ob:Obj),(∀(h':Heap),IsEnum h' (s.heap.objs.size+1) s.heap.objs.size 0 .none→h'.get? s.heap.objs.size=some ob→OR C F s.gens y ob→Db y=false→(∃c u,y=.itr c u) →
   (∀hp',hp' s.heap.objs.size=some y→EJ o σ.hp hp'→Eg o s.heap.objs.size 0 xs hp')→(∀b o,s.heap.get? b=some o→h'.get? b=some o) →
   Aw C A G env VR Q F (.ref (s.heap.objs.size+1)) { s with heap:=h' }):=by
  intro y ob h' hE ho hor hng hy hsrc hk
  have hR1:=hR.keep (t:=s.toks) hk
  have hR2:=hR1.track (a:=s.heap.objs.size) (x:=y) ho t1 t2 t3 t4 t5 hng hor
  have hR3:=hR2.track (a:=s.heap.objs.size+1) (x:=AX s.heap.objs.size 0 .none) hE z.1 z.2.1 ((Ad _ _ (Nat.succ_ne_self _)).trans z.2.2) (Nat.ne_of_gt (Nat.lt_succ_of_lt hL)) (fun x c hx hc=>Nat.ne_of_gt (Nat.lt_succ_of_lt (hlt x c hx hc))) rfl
   (.fields (us:=[.none,.bool false,.ref s.heap.objs.size,rawInt 0,.none,.none]) rfl rfl rfl rfl (.cons .none (.cons (.bool _) (.cons (.ref _) (.cons (.val _) (.cons .none (.cons .none .nil)))))))
  refine Aw.of (.ref _) hR3 (h _ _ y z.2.2 (.inl t3) (Nat.succ_ne_self _) hy hsrc)
 cases hv with
 |of hv=>
  cases hv with
  |tup hz=>
   refine VR.tupC a fun vs t ot n zo q1 q2 q3 q4=>?_;clear a;subst zo
   refine Dc ⟨ot,hR.wd.fz _ _ q1,q2,n,q3⟩ (fun h' hE hit hsz hk=>?_)
   refine xa1_3 hit ?_;(try clear hit);intro o ho c1 c2
   refine key (.itr "tuple_iterator" [.tup xs,.val (.int 0 0)]) o h' hE ho (.itr (us:=[.ref t,.int 0 0]) c1 c2 (.cons (.tup q1 q2 q3 q4) (.cons (.val _) .nil))) rfl ⟨_,_,rfl⟩ (fun hp' e zu=>?_) hk
   have:=Eg.tup (i:=0) (xs:=xs) e (Nat.zero_le _)
   simpa using this
  |lst hz=>
   refine VR.lstC a fun vs t ot n zo q1 q2 q3 q4=>?_;clear a;subst zo
   refine call_enumerate_list ⟨ot,hR.wd.fz _ _ q1,q2,n,q3⟩ (fun h' hE hit hsz hk=>?_)
   refine xa1_3 hit ?_;(try clear hit);intro o ho c1 c2
   refine key (.itr "list_iterator" [.lst xs,.val (.int 0 0)]) o h' hE ho (.itr (us:=[.ref t,.int 0 0]) c1 c2 (.cons (.lst q1 q2 q3 q4) (.cons (.val _) .nil))) rfl ⟨_,_,rfl⟩ (fun hp' e zu=>?_) hk
   have:=Eg.lst (i:=0) (xs:=xs) e (Nat.zero_le _)
   simpa using this
  |@str x zu hz=>
   refine xa1_1 a.strI ?_;intro t zo;clear a;subst zo
   refine call_enumerate_str (fun h' hE hit hsz hk=>?_)
   refine xa1_3 hit ?_;(try clear hit);intro o ho c1 c2
   refine key (.itr (strIterType x) [.str x,.val (.int 0 0)]) o h' hE ho (.itr (us:=[.str x t,.int 0 0]) c1 c2 (.cons (.str x t) (.cons (.val _) .nil))) rfl ⟨_,_,rfl⟩ (fun hp' e zu=>?_) hk
   have:=Eg.str (i:=0) (x:=x) e (Nat.zero_le _)
   simpa using this
  |@byt x zu hz=>
   refine xa1_1 a.bytesI ?_;intro t zo;clear a;subst zo
   refine FA (fun h' hE hit hsz hk=>?_)
   refine xa1_3 hit ?_;(try clear hit);intro o ho c1 c2
   refine key (.itr "bytes_iterator" [.bytes x,.val (.int 0 0)]) o h' hE ho (.itr (us:=[.bytes x t,.int 0 0]) c1 c2 (.cons (.bytes x t) (.cons (.val _) .nil))) rfl ⟨_,_,rfl⟩ (fun hp' e zu=>?_) hk
   have:=Eg.byt (i:=0) (b:=x) e (Nat.zero_le _)
   simpa using this
 |@rd r zu zu2 hr=>
  (have zc:=VR.refI a;clear a;subst zc)
  refine xa2_1 hr.at ?_;intro c vs e
  obtain ⟨ob,us,ho,hc,hd⟩:∃ob vs,s.heap.get? r=some ob∧ob.cls=.type "list_iterator"∧ob.data=.fields vs:=by
   cases hr with
   |mid e zu=>refine cps fun zP zk=>?_;(rcases hR.wd.ob _ _ e with ⟨p,q,o,ho,r⟩)<;>(refine zk ?_;clear zk zP);(refine OR.itrC r fun us r1 r2 r3=>?_;clear r);exact ⟨o,_,ho,r1,r2⟩
   |out e=>refine cps fun zP zk=>?_;(rcases hR.wd.ob _ _ e with ⟨p,q,o,ho,r⟩)<;>(refine zk ?_;clear zk zP);(refine OR.itrC r fun us r1 r2 r3=>?_;clear r);exact ⟨o,_,ho,r1,r2⟩
  refine J2 ho hc hd fun h' hE hk=>?_
  have hR1:=hR.keep (t:=s.toks) hk
  have hR2:=hR1.track (a:=s.heap.objs.size) (x:=AX r 0 .none) hE t1 t2 t3 t4 t5 rfl (.fields (us:=[.none,.bool false,.ref r,rawInt 0,.none,.none]) rfl rfl rfl rfl (.cons .none (.cons (.bool _) (.cons (.ref _) (.cons (.val _) (.cons .none (.cons .none .nil)))))))
  have hne:s.heap.objs.size≠r:=by rintro q;rw [q] at t3;rw [e] at t3;exact Ap t3
  have hup:upd σ.hp r (.itr c vs)=σ.hp:=by
   funext b
   by_cases hb:b=r
   ·subst hb;rw [Ae];exact e.symm
   ·exact Ad _ _ hb
  refine Aw.of (.ref _) hR2 ?_
  have:=h s.heap.objs.size r (.itr c vs) t3 (.inr ⟨rfl,e⟩) hne ⟨_,_,rfl⟩ fun hp' e' k=>.rd (hr.off k)
  rw [hup] at this
  exact this
theorem M3 {o:Co} {v:AV} {xs:List AV} {Q:AV→Al→Prop} (hv:Cm o v xs σ.hp)
  (h:∀ea ia y,σ.hp ea=none→(σ.hp ia=none∨(o=.rd ia∧σ.hp ia=some y))→ea≠ia→(∃c u,y=.itr c u)→Eg o ia 0 xs (upd (upd σ.hp ia y) ea (AX ia 0 .none))→Q (.ref ea) { σ with hp:=upd (upd σ.hp ia y) ea (AX ia 0 .none) }) :
  Bf C A E env (.val (.type "enumerate")) [] [v] [] σ Q:=by
 refine La hv fun ea ia y h1 h2 h3 h4 h5=>h ea ia y h1 h2 h3 h4 (h5 _ ((Ad _ _ h3.symm).trans (Ae _ _ _)) (EJ.of hv fun a x e hx=>?_))
 have n1:a≠ea:=by rintro rfl;rw [h1] at e;exact Ak e
 rw [Ad _ _ n1]
 by_cases n2:a=ia
 ·subst n2
  rcases h2 with h2|⟨zu,h2⟩
  ·rw [h2] at e;exact Ak e
  ·rw [h2] at e;rw [Ae];exact e
 ·rw [Ad _ _ n2];exact e
end
section
theorem DQ:typeLookup (.type "method_descriptor") "__get__" = pure (some (.builtin "method_descriptor.__get__")):=by rw [typeLookup_type,builtinLookup_eq_fast];kernel_rfl
theorem G9:typeLookup (.type "method_descriptor") "__set__" = pure none:=by rw [typeLookup_type,builtinLookup_eq_fast];kernel_rfl
theorem GA:typeLookup (.type "method_descriptor") "__delete__" = pure none:=by rw [typeLookup_type,builtinLookup_eq_fast];kernel_rfl
theorem Fo:typeOf (.builtin "dict.get")=pure (.type "method_descriptor"):=F.type_dict_get
theorem Kd:Slot "method_descriptor" "__get__" "method_descriptor.__get__":=
 .of (owner:="method_descriptor") (n:="__get__") DQ (by decide +kernel) (by decide +kernel) (by decide +kernel)
  (by first|exact .inl (by decide +kernel)|exact .inr (by decide +kernel)) (by rw [isSubtype_type];kernel_rfl)
theorem Mb:entryFor table "method_descriptor.__get__" = some Builtin.«method_descriptor.__get__»:=entryFor_of_tree (by kernel_rfl)
theorem N1 (a b c:Value):argsOk "method_descriptor.__get__" ⟨[a,b,c],[]⟩:=by unfold argsOk;kernel_rfl
theorem Ma (a:Addr) (es:Array DictEntry) (k:Nat) (sl:Array (Option Value)) :
  Meets (Builtin.«method_descriptor.__get__» ⟨[.builtin "dict.get",.ref a,.type "dict"],[]⟩) (fun A R s=>s.heap.get? a=some { cls:=.type "dict",dict:=none,data:=.dict es k,slots:=sl } ∧
   R (.ok (.ret (.ref s.heap.objs.size))) { s with heap:=s.heap.push { cls:=.type "builtin_function_or_method",data:=.fields #[.builtin "dict.get",.ref a] } }):=
 Meets.of_wp fun prog w A R s hs=>by
  refine cps fun zP zk=>?_;(rcases s with ⟨hp,g,d,tk,os⟩)<;>(refine zk ?_;clear zk zP)
  refine xa0_2 hs ?_;(try clear hs);intro hx hs
  have hT:(⟨hp,g,d,tk,os⟩:Shared).TypeIs (.ref a) "dict":=⟨_,hx,rfl⟩
  have f1:isSubtype (.type "dict") (.type "dict")=pure true:=by rw [isSubtype_type];kernel_rfl
  unfold Builtin.«method_descriptor.__get__»
  repeat (any_goals (first|assumption|k_node|wp_step))
  exact ⟨_,rfl,hs⟩
theorem Hs (a:Addr) (es:Array DictEntry) (k:Nat) (sl:Array (Option Value)) (u:Tok) :
  Meets (Builtin.«object.__getattribute__» ⟨[.ref a,.str "get" u],[]⟩) (fun A R s=>s.heap.get? a=some { cls:=.type "dict",dict:=none,data:=.dict es k,slots:=sl } ∧
   R (.ok (.ret (.ref s.heap.objs.size))) { s with heap:=s.heap.push { cls:=.type "builtin_function_or_method",data:=.fields #[.builtin "dict.get",.ref a] } }):=
 Meets.of_wp fun prog w A R s hs=>by
  refine cps fun zP zk=>?_;(rcases s with ⟨hp,g,d,tk,os⟩)<;>(refine zk ?_;clear zk zP)
  refine xa0_2 hs ?_;(try clear hs);intro hx hs
  have hT:(⟨hp,g,d,tk,os⟩:Shared).TypeIs (.ref a) "dict":=⟨_,hx,rfl⟩
  have f1:=F.slot_dict_get.lookup
  have f2:=DQ
  have f3:=G9
  have f4:=GA
  have f5:=Fo
  unfold Builtin.«object.__getattribute__»
  repeat (any_goals (first|assumption|wp_step))
  have key:∀(A':Around) (R':Result→Shared→Prop),R' (.ok (.ret (.ref hp.objs.size))) ⟨hp.push { cls:=.type "builtin_function_or_method",data:=.fields #[.builtin "dict.get",.ref a] },g,d,tk,os⟩ →
    codeAny (model prog w) A' (.call (.builtin "method_descriptor.__get__") ⟨[.builtin "dict.get",.ref a,.type "dict"],[]⟩) R' ⟨hp,g,d,tk,os⟩:=fun A' R' h'=>
   codeAny_call_builtin Kd.plain Mb (Kd.check _ _ _ _ _ _ _ _ (show Shared.TypeIs _ (.builtin "dict.get") "method_descriptor" from Fo) (N1 _ _ _) (Ma a es k sl prog w A' R' _ ⟨hx,h'⟩))
  exact key _ _ (wpAny_pure ⟨_,rfl,hs⟩)
section
variable {prog:Program} {w:World} {A:Around} {E:Value→Shared→Prop} {s:Shared}
theorem EW {a:Addr} {o:Obj} {es:Array DictEntry} {k:Nat} {Q:Value→Shared→Prop}
  (hx:s.heap.get? a=some o) (hc:o.cls=.type "dict") (hdat:o.data=.dict es k) (hd:o.dict=none)
  (h:Q (.ref s.heap.objs.size) { s with heap:=s.heap.push { cls:=.type "builtin_function_or_method",data:=.fields #[.builtin "dict.get",.ref a] },toks:=s.toks+1 }) :
  wpAny (model prog w) A (getAttr (.ref a) "get" true) Q E s:=by
 refine cps fun zP zk=>?_;(rcases o with ⟨c,dct,dat,sl⟩)<;>(refine zk ?_;clear zk zP)
 simp only at hc hdat hd
 subst hc hdat hd
 refine cps fun zP zk=>?_;(rcases s with ⟨hp,g,d,tk,os⟩)<;>(refine zk ?_;clear zk zP)
 have hT:∀tk',(⟨hp,g,d,tk',os⟩:Shared).TypeIs (.ref a) "dict":=fun zu=>⟨_,hx,rfl⟩
 have f3:=F.slot_dict_getattribute.lookup
 have f4:=F.slot_dict_getattribute.bind (.ref a)
 have f5:=am_dict_getattr_none
 unfold getAttr getAttrBy
 repeat (any_goals (first|assumption|exact hT _|((with_reducible show wpAny _ _ (call (Value.builtin "dict.__getattribute__") _ _) _ _ _);refine call_meets F.slot_dict_getattribute (hT _) am_entry_dict_getattribute (F.args_dict_getattribute_2 _ _) (Hs a es k sl _) ⟨hx,?_⟩)|wp_step))
 show wpAny _ _ (handedOut (.ref _)) Q E _
 rw [handedOut_of rfl];exact wpAny_pure h
theorem Gn {b d:Addr} {o od:Obj} {k:Value} {R:Result→Shared→Prop} (ho:s.heap.get? b=some o) (hc:o.cls=.type "builtin_function_or_method") (hdt:o.data=.fields #[.builtin "dict.get",.ref d])
  (hd:s.heap.get? d=some od) (hcd:od.cls=.type "dict") {es:Array DictEntry} {ep:Nat} (hdd:od.data=.dict es ep)
  (h:codeAny (model prog w) A (.builtin "dict.get" ⟨[.ref d,k],[]⟩) R s):codeAny (model prog w) A (.call (.ref b) ⟨[k],[]⟩) R s:=by
 refine cps fun zP zk=>?_;(rcases o with ⟨c,dct,dat,sl⟩)<;>(refine zk ?_;clear zk zP)
 simp only at hc hdt
 subst hc hdt
 refine cps fun zP zk=>?_;(rcases od with ⟨c,dct',dat',sl'⟩)<;>(refine zk ?_;clear zk zP)
 simp only at hcd hdd
 subst hcd hdd
 refine cps fun zP zk=>?_;(rcases s with ⟨hp,g,dr,t,os⟩)<;>(refine zk ?_;clear zk zP)
 have hT:(⟨hp,g,dr,t,os⟩:Shared).TypeIs (.ref d) "dict":=⟨_,hd,rfl⟩
 have f1:isSubtype (.type "dict") (.type "module")=pure false:=by rw [isSubtype_type];kernel_rfl
 have f2:isSubtype (.type "dict") (.type "type")=pure false:=by rw [isSubtype_type];kernel_rfl
 refine codeAny_of_tree ?_
 show wpAny _ _ (callAny (.ref b) _) _ _ _
 dsimp only at ho hd
 refine nd_load ho ?_
 show wpAny _ _ (checkBoundCall "dict.get" ⟨[.ref d,k],[]⟩ >>= fun zu=>_) _ _ _
 unfold checkBoundCall
 repeat (any_goals (first|assumption|k_node|wp_step))
 exact ⟨rfl,h⟩
end
section
variable {C:Cf} {A:Around} {E:Value→Shared→Prop} {env:Env} {σ:Al} {F G:FH} {s:Shared}
noncomputable def B7 (d:Addr):AO:=.fields "builtin_function_or_method" [.val (.builtin "dict.get"),.ref d]
theorem OR.dictObj {gens:Array GenState} {l:List (Au×AV)} {ep:Nat} {o:Obj} (r:OR C F gens (.dict l ep) o):o.cls=.type "dict"∧o.dict=none∧∃es,o.data=.dict es ep:=by
 have h:=OR.clsD F gens o r
 (refine OR.dictC r fun zv zv a b zv zv zv zv=>?_;clear r)
 exact ⟨h.1,h.2,_,b⟩
theorem P5 {a:Addr} {l:List (Au×AV)} {ep:Nat} {Q:AV→List AV→Al→Prop} (hd:σ.hp a=some (.dict l ep)) (h:Q (.val (.builtin "dict.get")) [.ref a] σ):Dw C A E env (.ref a) "get" σ Q:=
 AU hd OR.clsD F.plainAttrs_dict F.slot_dict_get F.type_dict_get h
theorem Kk {l:List (Au×AV)} {kvs:List (Au×Value)} (sv:SV F l kvs) (k:Au):VR F ((H6 l k).getD .none) ((valueAt kvs k).getD .none):=by
 rcases sv.at k with ⟨x,v,h1,h2,h3⟩|⟨h1,h2⟩
 ·rw [h1,h2];exact h3
 ·rw [h1,h2];exact .none
theorem M7 (hs:(C.h0.get? sysModules).isSome=true) {d:Addr} {l:List (Au×AV)} {ep:Nat} {k:Au} {Q:AV→Al→Prop} (hd:σ.hp d=some (.dict l ep)) (h:Q ((H6 l k).getD .none) σ) :
  Bf C A E env (.val (.builtin "dict.get")) [.ref d] [k.av] [] σ Q:=by
 refine A4 fun F G s us vs hR hus hvs=>?_
 obtain rfl:us=[Value.ref d]:=by refine VRs.consC hus fun zv zw zo q r=>?_;clear hus;subst zo;(have zc:=VR.refI q;clear q;subst zc);(have zc:=VRs.nilI r;clear r;subst zc);rfl
 refine VRs.consC hvs fun zv zw zo q r=>?_;clear hvs;subst zo
 (have zc:=VRs.nilI r;clear r;subst zc)
 refine xa1_2 (hR.dictOf hd) ?_;intro kvs hm sv
 exact call_meetsIn PySem.F.slot_dict_get hm.typeIs PySem.F.entry_dict_get (PySem.F.args_dict_get_2 _ _) (meets_dict_get (Bs C.prog C.w) d (Au.is_of q) (hR.low hd hs)) ⟨_,Dq hm,Aw.of (Kk sv k) (hR.tok _) h⟩
theorem KR {d:Addr} {l:List (Au×AV)} {ep:Nat} {Q:AV→Al→Prop} (hd:σ.hp d=some (.dict l ep)) (h:∀b,σ.hp b=none→Q (.ref b) (σ.put b (B7 d))) :
  H7 C A E env VR (fun v=>getAttr v "get" true) (.ref d) σ Q:=by
 intro F G s v hR hv
 (have zc:=VR.refI hv;clear hv;subst zc)
 refine cps fun zP zk=>?_;(rcases hR.wd.ob _ _ hd with ⟨zu,zu,o,ho,r⟩)<;>(refine zk ?_;clear zk zP)
 refine cps fun zP zk=>?_;(rcases r.dictObj with ⟨h1,h2,es,h3⟩)<;>(refine zk ?_;clear zk zP)
 refine EW ho h1 h3 h2 ?_
 exact Aw.of (.ref _) (hR.alloc (t:=s.toks+1) rfl rfl (.fields (us:=[.builtin "dict.get",.ref d]) rfl rfl rfl rfl (.cons (.val _) (.cons (.ref d) .nil)))) (h _ hR.lt)
theorem Ha (hs:(C.h0.get? sysModules).isSome=true) {b d:Addr} {l:List (Au×AV)} {ep:Nat} {k:Au} {Q:AV→Al→Prop} (hb:σ.hp b=some (B7 d)) (hd:σ.hp d=some (.dict l ep)) (h:Q ((H6 l k).getD .none) σ) :
  Bf C A E env (.ref b) [] [k.av] [] σ Q:=by
 intro F G s fv us vs kvs hR hf hus hvs hk
 (have zc:=VR.refI hf;clear hf;subst zc);(have zc:=VRs.nilI hus;clear hus;subst zc);cases hk
 refine VRs.consC hvs fun zv zw zo q r=>?_;clear hvs;subst zo
 (have zc:=VRs.nilI r;clear r;subst zc)
 refine cps fun zP zk=>?_;(rcases hR.wd.ob _ _ hb with ⟨zu,zu,o,ho,r⟩)<;>(refine zk ?_;clear zk zP)
 refine cps fun zP zk=>?_;(rcases hR.wd.ob _ _ hd with ⟨zu,zu,od,hod,rd⟩)<;>(refine zk ?_;clear zk zP)
 refine xa1_2 (hR.dictOf hd) ?_;intro kvs hm sv
 refine cps fun zP zk=>?_;(rcases rd.dictObj with ⟨h1,h2,es,h3⟩)<;>(refine zk ?_;clear zk zP)
 (refine OR.fieldsC r fun us r1 r2 r3 r4 r5=>?_;clear r)
 refine VRs.consC r5 fun zv zw zo a1 r5_a=>?_;clear r5;subst zo
 refine VRs.consC r5_a fun zv zw zo a2 r5_b=>?_;clear r5_a;subst zo
 (have zc:=VRs.nilI r5_b;clear r5_b;subst zc);(have zc:=VR.valI a1;clear a1;subst zc);(have zc:=VR.refI a2;clear a2;subst zc)
 refine ⟨⟨.machine,?_⟩,?_⟩
 ·refine cps fun zP zk=>?_;(rcases o with ⟨c,dct,dat,sl⟩)<;>(refine zk ?_;clear zk zP)
  dsimp only at r1 r2 r3 r4
  subst r1 r2 r3 r4
  exact (Looks.ld ho).andThen (Looks.of_pure rfl)
 ·refine wpAny_call (Gn ho r1 r4 hod h1 h3 ?_)
  have key:∀R':Result→Shared→Prop,R' (.ok (.ret ((valueAt kvs k).getD .none))) { s with toks:=s.toks+1 }→codeAny (model C.prog C.w) A (.builtin "dict.get" ⟨[.ref d,_],[]⟩) R' s:=fun R' h'=>
   codeAny_builtin PySem.F.entry_dict_get (by
    rw [Around.under_plainId (show plainId "dict.get" = true by decide +kernel)]
    exact meets_dict_get (Bs C.prog C.w) d (Au.is_of q) (hR.low hd hs) A R' s ⟨_,Dq hm,h'⟩)
  exact key _ (Aw.of (Kk sv k) (hR.tok _) h)
end
end
section
noncomputable abbrev Az (r:FdRest) (L:Addr):Env:=callEnv (r.fd Iv .none) L 94
variable {C:Cf} {A:Around} {s:Shared} {env:Env} {σ:Al} {F G:FH} {hp:HP}
noncomputable def Qu:Pos:=⟨0,0,0,0⟩
noncomputable def Ix:List Stmt→Expr×List Stmt
 |.For t _ b _ _::_=>(t,b)
 |_=>(.Name "x" Qu,[])
noncomputable def Mo:List Stmt→List Stmt
 |[.If _ b _ _]=>b
 |_::r=>Mo r
 |[]=>[]
noncomputable def Gg:Expr×List Stmt:=Ix (Iv.body.drop 3)
noncomputable def Iq:Expr×List Stmt:=Ix (Mo Gg.2)
noncomputable def DK (env:Env) (ea:Addr):Code:=.forLoop Gg.1 (.ref ea) Gg.2 [] env
noncomputable def CU (env:Env) (ja:Addr):Code:=.forLoop Iq.1 (.ref ja) Iq.2 [] env
noncomputable def F9 (env:Env):Code:=.func Iv.body env
noncomputable def ER (n:Int):AV→AV
 |.tup [v,.int len]=>.tup [v,.int (n - len)]
 |x=>x
theorem HX {key:Ag→Option AV} {x:AV}:∀{p:Ag},x∈outs key p→∃v len,x=.tup [v,.int len]
 |[],h=>by simp [outs] at h
 |c::p,h=>by
  simp only [outs,List.mem_append] at h
  rcases h with h|h
  ·split at h
   ·simp at h;exact ⟨_,_,h⟩
   ·simp at h
  ·exact HX h
noncomputable def B2 (key:Ag→Option AV) (u:Ag):Ag→List AV
 |[]=>[]
 |c::r=>(outs key (u++[c])).map (ER (u++[c]).length)++B2 key (u++[c]) r
noncomputable def C7 (key:Ag→Option AV) (u:Ag) (k:Nat) (rest:Ag):List AV:=((outs key u).drop k).map (ER u.length)++B2 key u rest
theorem Rp.around {A':Around} (hR:Rp C A F G env σ s) (h:GG A' G env):Rp C A' F G env σ s:=⟨hR.wd,hR.fm,h⟩
noncomputable def Ph (env:Env) (f:Frame):Prop:=∃kf l p,f=.ret kf none false l (F9 env) p []∧kf (.ok .next)=.pure (.done (.ret .none))
noncomputable def Qb (env:Env) (ea:Addr) (f:Frame):Prop:=∃kf l p,f=.ret kf none false l (DK env ea) p []∧kf (.ok .next)=.pure (.again (DK env ea))
theorem LP (A:Around) {ea:Addr} {f:Frame} (h:Ph env f):(A.over (DK env ea) [f]).handled=A.handled∧(A.over (DK env ea) [f]).depth=A.depth+1∧(A.over (DK env ea) [f]).frames=A.frames.map (env::·):=by
 refine xa3_2 h ?_;(try clear h);intro kf l p;rintro rfl;intro zu
 refine ⟨rfl,?_,?_⟩
 ·rfl
 ·refine cps fun zP zk=>?_;(rcases A with ⟨hd,dp,fr,gu,un⟩)<;>(refine zk ?_;clear zk zP);cases fr<;>rfl
theorem JX (A:Around) {ea ja:Addr} {f f':Frame} (h1:Qb env ea f) (h:Ph env f'):(A.over (CU env ja) [f,f']).handled=A.handled∧(A.over (CU env ja) [f,f']).depth=A.depth+1∧(A.over (CU env ja) [f,f']).frames=A.frames.map (env::·):=by
 refine xa3_2 h ?_;(try clear h);intro kf l p;rintro rfl;intro zu
 refine xa3_2 h1 ?_;(try clear h1);intro kf1 l1 p1;rintro rfl;intro zu
 refine ⟨rfl,?_,?_⟩
 ·rfl
 ·refine cps fun zP zk=>?_;(rcases A with ⟨hd,dp,fr,gu,un⟩)<;>(refine zk ?_;clear zk zP);cases fr<;>rfl
theorem Pz (A:Around):(A.over (F9 env) []).handled=A.handled∧(A.over (F9 env) []).depth=A.depth+1∧(A.over (F9 env) []).frames=A.frames.map (env::·):=by
 refine ⟨rfl,?_,?_⟩
 ·rfl
 ·refine cps fun zP zk=>?_;(rcases A with ⟨hd,dp,fr,gu,un⟩)<;>(refine zk ?_;clear zk zP);cases fr<;>rfl
theorem GG.mk {A':Around} (h:A'.frames=A.frames.map (env::·)) (hf:Fs A G) (hk:env.scope.kind=.function) (hl:env.frame=some env.locals):GG A' G env:=by
 refine xa1_2 hf ?_;(try clear hf);intro l h1 h2
 exact ⟨env,l,by rw [h,h1];rfl,by rw [hk];decide,rfl,.inl ⟨rfl,hl⟩,h2⟩
noncomputable def PM (C:Cf) (env:Env) (ea ja:Addr) (gs:GenState):Prop:=
 ∃k l p f1 f2,gs=.suspended k l (CU env ja) p [f1,f2] false∧Qb env ea f1∧Ph env f2 ∧
  ∀A s P,SegX (model C.prog C.w) A (CU env ja) (.pure (.again (CU env ja))) [f1,f2] s P→SegX (model C.prog C.w) A (CU env ja) (k (.send .none)) [f1,f2] s P
structure NU (C:Cf) (X:Af) (env:Env) (hp:HP) (o:Co) (ga ea ia ba ja:Addr) (g:Nat) (u:Ag) (k:Nat) (rest:Ag):Prop where
 gen:∃gs,hp ga=some (.gen g gs)∧PM C env ea ja gs
 frm:hp env.locals=some (.frame [("zero_state",.ref (X.A [])),("zero_transitions_get",.ref ba),("current_state",.ref (X.A (BZ X.D u))),("idx",.int ((u.length:Int) - 1))])
 bnd:hp ba=some (B7 (X.T []))
 enm:∃old,hp ea=some (AX ia u.length old)
 src:Eg o ia u.length (rest.map Au.av) hp
 itr:hp ja=some (.itr "tuple_iterator" [.tup (outs X.key u),.val (.int k 0)])
 nji:ja≠ia
noncomputable def Lt (key:Ag→Option AV) (U u:Ag) (k:Nat) (rest:Ag) (y:AV):Prop:=u++rest=U∧∃j x,k=j+1∧(outs key u)[j]? = some x∧y=ER u.length x
noncomputable def Gz (C:Cf) (X:Af) (env:Env) (G F₀:FH) (hp₀:HP) (o:Co) (U:Ag) (ga ea ia ba jx:Addr) (g:Nat) (rem:List AV) (e:End) (s':Shared):Prop:=
 ∃F' hp',AG F₀ F'∧Wd C F' G hp' (s'.setGen g e.genState)∧(∀a,hp₀ a≠none→a≠ga→a≠ea→a≠ia→a≠env.locals→a≠jx→hp' a=hp₀ a) ∧
  match rem with
  |[]=>e=.ret (.ok (.ret .none))∧HC o hp'
  |y::ys=>∃v u k rest ja,e.result=.yielded v∧VR F' y v∧NU C X env hp' o ga ea ia ba ja g u k rest∧ys=C7 X.key u k rest∧(hp₀ ja=none∨ja=jx)∧Lt X.key U u k rest y
theorem Ls (T:Tp C) {r:FdRest} {L:Addr} {X:Af} {t d:Addr} {ci:Bool} {ba:Addr} {u:Ag} {c:Au} (hX:X.Ph3) (hr:AN X t d true ci σ.hp) (hb:σ.hp ba=some (B7 (X.T [])))
  (l1:σ.v "zero_state" = some (.ref (X.A []))) (l2:σ.v "zero_transitions_get" = some (.ref ba)) (l3:σ.v "current_state" = some (.ref (X.A (BZ X.D u)))) (l4:σ.v "symbol" = some c.av)
  {Q:A6→Al→Prop} {st:Stmt} (hst:Gg.2.head? = some st)
  (h1:∀σ',σ'.hp=σ.hp→σ'.v "zero_state" = some (.ref (X.A []))→σ'.v "zero_transitions_get" = some (.ref ba)→σ'.v "idx" = σ.v "idx"→σ'.v "current_state" = some (.ref (X.A []))→BZ X.D (u++[c])=[]→Q .cont σ')
  (h2:∀σ',σ'.hp=σ.hp→σ'.v "zero_state" = some (.ref (X.A []))→σ'.v "zero_transitions_get" = some (.ref ba)→σ'.v "idx" = σ.v "idx"→σ'.v "next_state" = some (.ref (X.A (BZ X.D (u++[c]))))→Q .next σ') :
  Ex C A Bj (Az r L) st σ Q:=by
 have hw:=hX.wf
 have hpD:=Cu hw.pc u
 have hroot:=hX.dn [] hw.root
 refine xa1_1 (hr.td [] hw.root) ?_;intro ep0 ht0
 have hz:H6 (X.trv []) c=(Bw X.D [] c).map fun q=>.ref (X.A q):=by rw [Af.at_trv,hroot.2 c]
 have hsuf:BZ X.D (u++[c])=BZ X.D (BZ X.D u++[c]):=JM hw.pc u c
 generalize hp:BZ X.D u=p at *
 (have zc:=Option.some.inj hst;clear hst;subst zc)
 refine Bd (Be (Ac l3 (Ac l1 (Nz hr hpD hw.root ⟨_,rfl,?_⟩))))
 by_cases h0:p=[]
 ·subst h0
  simp only [decide_true,if_true]
  refine Ab (Ai (AJ (Ac l2 (A2 (Ac l4 (Ax (A5 (Ha T.sysm hb ht0 ?_))))))))
  rw [hz]
  cases hf:Bw X.D [] c with
  |none=>
   refine Ab (Bd (Be (Ac Av (B0 (Cb ⟨_,rfl,?_⟩)))))
   simp only [if_true]
   exact Ab (Fx (h1 _ rfl (Ah l1) (Ah l2) (Ah rfl) (Ah l3) (by rw [hsuf];exact Ik hf)))
  |some q=>
   refine Ab (Bd (Be (Ac Av (B0 (FG ⟨_,rfl⟩ ⟨_,rfl,?_⟩)))))
   refine Am (Am (h2 _ rfl (Ah l1) (Ah l2) (Ah rfl) ?_))
   rw [hsuf,Ht hf];exact Av
 ·simp only [h0,decide_false]
  refine xa1_1 (hr.td p hpD) ?_;intro ep htp
  have hat:H6 (X.trv p) c=(Bw X.D p c).map fun q=>.ref (X.A q):=by rw [Af.at_trv,(hX.dn p hpD).2 c]
  refine Ab (Ai (AA (Aq (Ac l3 (DP T hr hpD (P5 htp (A2 (Ac l4 (Ax (A5 (M7 T.sysm htp ?_)))))))))))
  rw [hat]
  cases hf:Bw X.D p c with
  |some q=>
   refine Ab (Bd (Be (Ac Av (B0 (FG ⟨_,rfl⟩ ⟨_,rfl,?_⟩)))))
   refine Am (Am (h2 _ rfl (Ah l1) (Ah l2) (Ah rfl) ?_))
   rw [hsuf,Ht hf];exact Av
  |none=>
   refine Ab (Bd (Be (Ac Av (B0 (Cb ⟨_,rfl,?_⟩)))))
   simp only [if_true]
   refine Ab (Ai (AJ (Ac (Ah l2) (A2 (Ac (Ah l4) (Ax (A5 (Ha T.sysm hb ht0 ?_))))))))
   rw [hz]
   have hN:DS X.D p c=none:=by simpa [Bw,h0] using hf
   cases hg:Bw X.D [] c with
   |none=>
    refine Ab (Bd (Be (Ac Av (B0 (Cb ⟨_,rfl,?_⟩)))))
    simp only [if_true]
    refine Ab (Ai (Ac (Ah (Ah l1)) ?_))
    have:[c]∉X.D:=by
     intro hm
     simp [Bw,Eb,hm] at hg
    exact Ab (Fx (h1 _ rfl (Ah (Ah (Ah l1))) (Ah (Ah (Ah l2))) (Ah (Ah (Ah rfl))) Av (by rw [hsuf,B9,hN];simp [this])))
   |some q=>
    have hm:[c]∈X.D∧q=[c]:=by
     simp only [Bw,Eb,if_true,List.nil_append] at hg
     split at hg
     ·(have zc:=Option.some.inj hg;clear hg;subst zc);rename_i hm;exact ⟨hm,rfl⟩
     ·exact Ak hg
    refine Ab (Bd (Be (Ac Av (B0 (FG ⟨_,rfl⟩ ⟨_,rfl,?_⟩)))))
    refine Am (Am (Am (h2 _ rfl (Ah (Ah l1)) (Ah (Ah l2)) (Ah (Ah rfl)) ?_)))
    rw [hsuf,B9,hN,Option.getD_none,if_pos hm.1,hm.2];exact Av
theorem Eg.keep {o:Co} {ia:Addr} {i:Nat} {rest:List AV} {hp':HP} (h:Eg o ia i rest hp) (e:hp' ia=hp ia) (k:∀l zs,hp l=some (.list zs)→hp' l=some (.list zs)):Eg o ia i rest hp':=by
 cases h with
 |tup a b=>exact .tup (e.trans a) b
 |lst a b=>exact .lst (e.trans a) b
 |str a b=>exact .str (e.trans a) b
 |byt a b=>exact .byt (e.trans a) b
 |rd a=>exact .rd (a.off e)
theorem Gk:∀{l:List (Str×AV)} {x:Str} {v:AV},l.lookup x=some v→(x,v)∈l
 |[],_,_,h=>by exact Ak h
 |(y,u)::l,x,v,h=>by
  simp only [List.lookup] at h
  split at h
  ·rename_i q;(have zc:=Option.some.inj h;clear h;subst zc);rw [beq_iff_eq.mp q];exact List.mem_cons_self ..
  ·exact List.mem_cons_of_mem _ (Gk h)
theorem KE {key:Ag→Option AV} {u:Ag} {k:Nat} {rest:Ag} {x:AV} (h:(outs key u)[k]? = some x):C7 key u k rest=ER u.length x::C7 key u (k+1) rest:=by
 refine xa1_1 (List.getElem?_eq_some_iff.mp h) ?_;intro hlt;rintro rfl
 simp only [C7]
 rw [List.drop_eq_getElem_cons hlt];rfl
theorem GS:∃p1 p2 tn tp b,Iq=(Expr.Tuple [.Name "keyword" p1,.Name "keyword_length" p2] tn tp,b):=⟨_,_,_,_,_,rfl⟩
theorem GP:∃p1 p2 tn tp b,Gg=(Expr.Tuple [.Name "idx" p1,.Name "symbol" p2] tn tp,b):=⟨_,_,_,_,_,rfl⟩
structure Qq (X:Af) (t d:Addr) (ci:Bool) (env:Env) (hp₀:HP) (o:Co) (ga ea ia ba jx:Addr) (g:Nat) (u rest:Ag) (σ:Al):Prop where
 rep:AN X t d true ci σ.hp
 gen:σ.hp ga=some (.gen g .running)
 bnd:σ.hp ba=some (B7 (X.T []))
 enm:∃old,σ.hp ea=some (AX ia u.length old)
 src:Eg o ia u.length (rest.map Au.av) σ.hp
 l1:σ.v "zero_state" = some (.ref (X.A []))
 l2:σ.v "zero_transitions_get" = some (.ref ba)
 l3:σ.v "current_state" = some (.ref (X.A (BZ X.D u)))
 fr:∀a,hp₀ a≠none→a≠ga→a≠ea→a≠ia→a≠env.locals→a≠jx→σ.hp a=hp₀ a
theorem GT (T:Tp C) {r:FdRest} {L:Addr} {X:Af} {t d:Addr} {ci:Bool} {o:Co} {U:Ag} {hp₀:HP} {F₀:FH} {ga ea ia ba ja jx:Addr} {g:Nat} {u rest:Ag} {k:Nat} {x:AV} {f1 f2:Frame} (hA:A.handled=none)
  (hf1:Qb (Az r L) ea f1) (hf2:Ph (Az r L) f2) (e₀:AG F₀ F) (hR:Rp C (A.over (CU (Az r L) ja) [f1,f2]) F G (Az r L) σ s)
  (hU:u++rest=U) (I:Qq X t d ci (Az r L) hp₀ o ga ea ia ba jx g u rest σ) (hi:σ.v "idx" = some (.int ((u.length:Int) - 1))) (hja:σ.hp ja=some (.itr "tuple_iterator" [.tup (outs X.key u),.val (.int k 0)])) (hx:(outs X.key u)[k]? = some x) (hj0:hp₀ ja=none∨ja=jx) (hji:ja≠ia) :
  SegX (model C.prog C.w) A (CU (Az r L) ja) (denote table (CU (Az r L) ja)) [f1,f2] s (Gz C X (Az r L) G F₀ hp₀ o U ga ea ia ba jx g (C7 X.key u k rest)):=by
 refine xa0_3 (JX (env:=Az r L) (ea:=ea) (ja:=ja) A hf1 hf2) ?_;intro o1 o2 o3
 have hA':(A.over (CU (Az r L) ja) [f1,f2]).handled=none:=o1.trans hA
 refine xa2_1 (HX (List.mem_of_getElem? hx)) ?_;intro v len;rintro rfl
 refine xa5_1 GS ?_;(try clear GS);intro p1 p2 tn tp b hsh
 have hlt:∀it v,letOwnedTupleGo Iq.1 it v=letOwnedTupleGo (.Tuple [.Name "keyword" p1,.Name "keyword_length" p2] tn tp) it v:=fun zu zu=>by rw [hsh]
 have has:∀env v,assign Iq.1 env v=assign (.Tuple [.Name "keyword" p1,.Name "keyword_length" p2] tn tp) env v:=fun zu zu=>by rw [hsh]
 refine CN (wpAny_mono (IS (elts:=[.Name "keyword" p1,.Name "keyword_length" p2]) (tn:=tn) (tpos:=tp) hA' hR hja hx) (fun res s₁ z=>?_) fun zu zu x=>x.elim)
 refine xa1_2 z ?_;(try clear z);intro pv;rintro rfl;intro z
 dsimp only
 rw [hlt]
 refine wpAny_mono z (fun zu s₂ z=>?_) fun zu zu x=>x.elim
 refine xa0_2 z ?_;(try clear z);intro hpv hR2
 rw [has]
 have hasg:JH C (A.over (CU (Az r L) ja) [f1,f2]) (Az r L) (.Tuple [.Name "keyword" p1,.Name "keyword_length" p2] tn tp) (.tup [v,.int len]) (σ.put ja (.itr "tuple_iterator" [.tup (outs X.key u),.val (.int (k+1:Nat) 0)]))
  (fun σ'=>σ'=(Al.set (Al.set (σ.put ja (.itr "tuple_iterator" [.tup (outs X.key u),.val (.int (k+1:Nat) 0)])) "keyword" v) "keyword_length" (.int len))):=D6 hA' rfl
 refine wpAny_mono (hasg F G s₂ pv hR2 hpv) (fun zu s₃ z=>?_) fun zu zu x=>x.elim
 refine xa2_3 z ?_;(try clear z);intro F3 σ3 e3 hR3;rintro rfl
 have hgl:ga≠L:=CK I.gen (show σ.hp L=none from hR.fm.lo.2.2)
 have hsplit:splitAtGen [f1,f2]=none:=by
  refine xa3_2 hf2 ?_;(try clear hf2);intro kf l p;rintro rfl;intro zu
  refine xa3_2 hf1 ?_;(try clear hf1);intro kf1 l1 p1;rintro rfl;intro zu
  rfl
 have hgd:[f1,f2].any Frame.guarded=false:=by
  refine xa3_2 hf2 ?_;(try clear hf2);intro kf l p;rintro rfl;intro zu
  refine xa3_2 hf1 ?_;(try clear hf1);intro kf1 l1 p1;rintro rfl;intro zu
  rfl
 have hσ3:Qq X t d ci (Az r L) hp₀ o ga ea ia ba jx g u rest (Al.set (Al.set (σ.put ja (.itr "tuple_iterator" [.tup (outs X.key u),.val (.int (k+1:Nat) 0)])) "keyword" v) "keyword_length" (.int len)):=by
  have hne:∀{a y},σ.hp a=some y→(∀c vs,y≠.itr c vs)→a≠ja:=fun e h=>by rintro rfl;rw [hja] at e;(have zc:=Option.some.inj e;clear e;subst zc);exact h _ _ rfl
  have hjF:¬Fp X t d ja:=fun hF=>by
   rcases hF with e|e|⟨p,hp,e|e⟩
   ·rw [e,I.rep.tree] at hja;exact AO.noConfusion (Option.some.inj hja)
   ·rw [e,I.rep.ns] at hja;exact AO.noConfusion (Option.some.inj hja)
   ·rw [e,I.rep.nd p hp] at hja;exact AO.noConfusion (Option.some.inj hja)
   ·refine xa1_1 (I.rep.td p hp) ?_;intro ep q
    rw [e,q] at hja;exact AO.noConfusion (Option.some.inj hja)
  refine xa1_1 I.enm ?_;intro old he
  refine ⟨I.rep.updOff hjF,?_,?_,⟨old,?_⟩,?_,Ah (Ah I.l1),Ah (Ah I.l2),Ah (Ah I.l3),?_⟩
  ·exact (Ad _ _ (hne I.gen (by simp))).trans I.gen
  ·exact (Ad _ _ (hne I.bnd (by simp [B7]))).trans I.bnd
  ·exact (Ad _ _ (hne he (by simp [AX]))).trans he
  ·refine xa2_1 I.src.at ?_;intro ci' vs' hia
   exact I.src.keep (Ad _ _ hji.symm) (fun l zs hl=>(Ad _ _ (hne hl (by simp))).trans hl)
  ·intro a h1 h2 h3 h4 h5 h6
   have:a≠ja:=by
    rintro rfl
    rcases hj0 with q|q
    ·exact h1 q
    ·exact h6 q
   exact (Ad _ _ this).trans (I.fr a h1 h2 h3 h4 h5 h6)
 refine BJ (LB (Q:=fun a σ'=>a=.tup [v,.int ((u.length:Int) - len)]∧σ'=(Al.set (Al.set (σ.put ja (.itr "tuple_iterator" [.tup (outs X.key u),.val (.int (k+1:Nat) 0)])) "keyword" v) "keyword_length" (.int len))) hsplit rfl hgd ?_ hR3 ?_)
 ·refine G2 (A2 (Ac (Ah Av) (A2 (JE (JE (Ac (Ah (Ah hi)) (G1 (NF (Ac Av (NE (Ax ⟨by simp,?_,rfl⟩)))))))))))
  rw [show (u.length:Int) - 1+1 - len=u.length - len by omega]
 rintro F4 a σ4 vy s4 e4 hvy hR4 ⟨rfl,rfl⟩ kf l p hk
 have W1:=hR4.susp (loc:=[("zero_state",.ref (X.A [])),("zero_transitions_get",.ref ba),("current_state",.ref (X.A (BZ X.D u))),("idx",.int ((u.length:Int) - 1))]) (fun x av hx=>by
  have:=Gk hx
  simp only [List.mem_cons,Prod.mk.injEq,List.not_mem_nil,or_false] at this
  rcases this with ⟨rfl,rfl⟩|⟨rfl,rfl⟩|⟨rfl,rfl⟩|⟨rfl,rfl⟩
  ·exact ⟨hσ3.l1,by rfl⟩
  ·exact ⟨hσ3.l2,by rfl⟩
  ·exact ⟨hσ3.l3,by rfl⟩
  ·exact ⟨Ah (Ah hi),by rfl⟩)
 have hge:(End.susp vy false l kf (CU (Az r L) ja) p [f1,f2]).genState=.suspended kf l (CU (Az r L) ja) p [f1,f2] false:=by
  simp only [End.genState,hgd,Bool.or_false]
 have W2:=W1.setGen (ga:=ga) (g:=g) (gs':=.suspended kf l (CU (Az r L) ja) p [f1,f2] false) ((Ad _ _ hgl).trans hσ3.gen) rfl
 have hLn:∀{a y},(Al.set (Al.set (σ.put ja (.itr "tuple_iterator" [.tup (outs X.key u),.val (.int (k+1:Nat) 0)])) "keyword" v) "keyword_length" (.int len)).hp a=some y→a≠L:=fun e=>CK e (show _=none from hR3.fm.lo.2.2)
 refine ⟨F4,_,e₀.trans (e3.trans e4),(congrArg (fun z=>Wd C F4 G _ (s4.setGen g z)) hge).mpr W2,?_,?_⟩
 ·intro a h1 h2 h3 h4 h5 h6
  rw [Ad _ _ h2,Ad _ _ h5]
  exact hσ3.fr a h1 h2 h3 h4 h5 h6
 ·rw [KE hx]
  refine ⟨vy,u,k+1,rest,ja,rfl,hvy,⟨⟨_,Ae _ _ _,kf,l,p,f1,f2,rfl,hf1,hf2,hk⟩,?_,?_,?_,?_,?_,hji⟩,rfl,hj0,hU,k,_,rfl,hx,rfl⟩
  ·exact (Ad _ _ hgl.symm).trans (Ae _ _ _)
  ·have h1:ba≠ga:=by rintro rfl;have:=hσ3.bnd;rw [hσ3.gen] at this;exact AO.noConfusion (Option.some.inj this)
   exact (Ad _ _ h1).trans ((Ad _ _ (hLn hσ3.bnd)).trans hσ3.bnd)
  ·refine xa1_1 hσ3.enm ?_;intro old he
   have h1:ea≠ga:=by rintro rfl;rw [hσ3.gen] at he;exact AO.noConfusion (Option.some.inj he)
   exact ⟨old,(Ad _ _ h1).trans ((Ad _ _ (hLn he)).trans he)⟩
  ·refine xa2_1 hσ3.src.at ?_;intro c' vs' hia
   have h1:ia≠ga:=by rintro rfl;rw [hσ3.gen] at hia;exact AO.noConfusion (Option.some.inj hia)
   refine hσ3.src.keep ((Ad _ _ h1).trans (Ad _ _ (hLn hia))) (fun l zs hl=>?_)
   have h2:l≠ga:=by rintro rfl;rw [hσ3.gen] at hl;exact AO.noConfusion (Option.some.inj hl)
   exact (Ad _ _ h2).trans ((Ad _ _ (hLn hl)).trans hl)
  ·have hj:(Al.set (Al.set (σ.put ja (.itr "tuple_iterator" [.tup (outs X.key u),.val (.int (k+1:Nat) 0)])) "keyword" v) "keyword_length" (.int len)).hp ja=some (.itr "tuple_iterator" [.tup (outs X.key u),.val (.int (k+1:Nat) 0)]):=Ae _ _ _
   have h1:ja≠ga:=by rintro rfl;rw [hσ3.gen] at hj;exact AO.noConfusion (Option.some.inj hj)
   exact (Ad _ _ h1).trans ((Ad _ _ (hLn hj)).trans hj)
end
section
variable {C:Cf} {A:Around} {s:Shared} {σ:Al} {F G:FH}
theorem GU (T:Tp C) {r:FdRest} {L:Addr} {X:Af} {t d:Addr} {ci:Bool} {o:Co} {U:Ag} {hp₀:HP} {F₀:FH} {ga ea ia ba jx:Addr} {g:Nat} {f2:Frame} (hA:A.handled=none) (hFs:Fs A G) (hX:X.Ph3) (hz:∀p∈X.D,p.length≤1000)
  (hf2:Ph (Az r L) f2):∀(rest u:Ag) (F:FH) (σ:Al) (s:Shared),AG F₀ F→Rp C (A.over (DK (Az r L) ea) [f2]) F G (Az r L) σ s →
  u++rest=U→Qq X t d ci (Az r L) hp₀ o ga ea ia ba jx g u rest σ →
  SegX (model C.prog C.w) A (DK (Az r L) ea) (denote table (DK (Az r L) ea)) [f2] s (Gz C X (Az r L) G F₀ hp₀ o U ga ea ia ba jx g (B2 X.key u rest)):=by
 refine xa0_3 (LP (env:=Az r L) (ea:=ea) A hf2) ?_;intro o1 o2 o3
 have hA':(A.over (DK (Az r L) ea) [f2]).handled=none:=o1.trans hA
 have hfsO:GG (A.over (DK (Az r L) ea) [f2]) G (Az r L):=GG.mk o3 hFs (by rfl) (by rfl)
 refine xa5_1 GP ?_;(try clear GP);intro p1 p2 tn tp b hsh
 have hlt:∀it v,letOwnedTupleGo Gg.1 it v=letOwnedTupleGo (.Tuple [.Name "idx" p1,.Name "symbol" p2] tn tp) it v:=fun zu zu=>by rw [hsh]
 have has:∀env v,assign Gg.1 env v=assign (.Tuple [.Name "idx" p1,.Name "symbol" p2] tn tp) env v:=fun zu zu=>by rw [hsh]
 intro rest
 induction rest with
 |nil=>
  intro u F σ s e₀ hR hU I
  refine xa1_1 I.enm ?_;intro old he
  refine CN (wpAny_mono (M4 hA' hR he I.src) (fun res s₁ z=>?_) fun zu zu x=>x.elim)
  refine cps fun zP zk=>?_;(rcases z with ⟨rfl,hpE,hk1,hend,hR1⟩)<;>(refine zk ?_;clear zk zP)
  refine xa2_1 I.src.at ?_;intro ci' vi' hia
  have hgi:ga≠ia:=by rintro rfl;rw [I.gen] at hia;exact AO.noConfusion (Option.some.inj hia)
  refine xa3_2 hf2 ?_;(try clear hf2);intro kf l p;rintro rfl;intro hk
  refine s_pop C.prog C.w A _ [] _ s₁ (.ok .next) _ rfl kf none false l _ p [] ?_
  rw [hk]
  refine s_end C.prog C.w A _ _ s₁ (.ok (.ret .none)) _ rfl ?_
  refine ⟨F,_,e₀,hR1.wd.setGen (ga:=ga) (g:=g) (gs':=.finished) ((hk1 _ hgi).trans I.gen) rfl,?_,rfl,?_⟩
  ·intro a h1 h2 h3 h4 h5 h6
   rw [Ad _ _ h2]
   exact (hk1 _ h4).trans (I.fr a h1 h2 h3 h4 h5 h6)
  ·cases o with
   |own=>trivial
   |live l=>trivial
   |rd r=>
    have hri:r≠ga:=by
     rintro rfl
     refine xa2_1 hend.at ?_;intro c vs e
     rw [(hk1 _ hgi).trans I.gen] at e;exact AO.noConfusion (Option.some.inj e)
    exact Ct.off hend (Ad _ _ hri)
 |cons c rest ih=>
  intro u F σ s e₀ hR hU I
  refine xa1_1 I.enm ?_;intro old he
  refine xa2_1 I.src.at ?_;intro ci' vi' hia
  have hgi:ga≠ia:=by rintro rfl;rw [I.gen] at hia;exact AO.noConfusion (Option.some.inj hia)
  have hge:ga≠ea:=by rintro rfl;rw [I.gen] at he;exact AO.noConfusion (Option.some.inj he)
  have hbe:ba≠ea:=by rintro rfl;have:=I.bnd;rw [he] at this;simp [AX,B7] at this
  have hbi:ba≠ia:=by rintro rfl;have:=I.bnd;rw [hia] at this;exact AO.noConfusion (Option.some.inj this)
  have hul:(u++[c]).length=u.length+1:=by simp
  refine CN (wpAny_mono (KZ (elts:=[.Name "idx" p1,.Name "symbol" p2]) (tn:=tn) (tpos:=tp) hA' hR he (x:=c.av) (rest:=rest.map Au.av) I.src) (fun res s₁ z=>?_) fun zu zu x=>x.elim)
  refine xa1_2 z ?_;(try clear z);intro pv;rintro rfl;intro z
  dsimp only
  rw [hlt]
  refine wpAny_mono z (fun zu s₂ z=>?_) fun zu zu x=>x.elim
  refine xa2_5 z ?_;(try clear z);intro F2 y e2 hpv;intro zq;refine xa2_1 zq ?_;(try clear zq);intro yc yv;rintro rfl;intro hsrc hR2
  rw [has]
  generalize hhp:upd (upd σ.hp ia (.itr yc yv)) ea (AX ia (u.length+1) c.av)=hp2 at hR2 hsrc
  have hasg:JH C (A.over (DK (Az r L) ea) [f2]) (Az r L) (.Tuple [.Name "idx" p1,.Name "symbol" p2] tn tp) (.tup [.int u.length,c.av]) { σ with hp:=hp2 }
   (fun σ'=>σ'=(Al.set (Al.set { σ with hp:=hp2 } "idx" (.int u.length)) "symbol" c.av)):=D6 hA' rfl
  refine wpAny_mono (hasg F2 G s₂ pv hR2 hpv) (fun zu s₃ z=>?_) fun zu zu x=>x.elim
  refine xa2_3 z ?_;(try clear z);intro F3 σ3 e3 hR3;rintro rfl
  have nF:∀{a},Fp X t d a→a≠ia∧a≠ea:=fun {a} hF=>by
   have hs:=I.rep
   constructor<;>rintro rfl
   ·rcases hF with e|e|⟨p,hp,e|e⟩
    ·rw [e,hs.tree] at hia;exact AO.noConfusion (Option.some.inj hia)
    ·rw [e,hs.ns] at hia;exact AO.noConfusion (Option.some.inj hia)
    ·rw [e,hs.nd p hp] at hia;exact AO.noConfusion (Option.some.inj hia)
    ·refine xa1_1 (hs.td p hp) ?_;intro ep q
     rw [e,q] at hia;exact AO.noConfusion (Option.some.inj hia)
   ·rcases hF with e|e|⟨p,hp,e|e⟩
    ·rw [e,hs.tree] at he;exact AO.noConfusion (Option.some.inj he)
    ·rw [e,hs.ns] at he;exact AO.noConfusion (Option.some.inj he)
    ·rw [e,hs.nd p hp] at he;exact AO.noConfusion (Option.some.inj he)
    ·refine xa1_1 (hs.td p hp) ?_;intro ep q
     rw [e,q] at he;exact AO.noConfusion (Option.some.inj he)
  have hr2:AN X t d true ci hp2:=hhp▸I.rep.off (fun a hF=>(Ad _ _ (nF hF).2).trans (Ad _ _ (nF hF).1))
  have hg2:hp2 ga=some (.gen g .running):=hhp▸(Ad _ _ hge).trans ((Ad _ _ hgi).trans I.gen)
  have hb2:hp2 ba=some (B7 (X.T [])):=hhp▸(Ad _ _ hbe).trans ((Ad _ _ hbi).trans I.bnd)
  have he2:hp2 ea=some (AX ia (u++[c]).length c.av):=by rw [hul];exact hhp▸Ae _ _ _
  have hs2:Eg o ia (u++[c]).length (rest.map Au.av) hp2:=by rw [hul];exact hsrc
  have hfr2:∀a,hp₀ a≠none→a≠ga→a≠ea→a≠ia→a≠L→a≠jx→hp2 a=hp₀ a:=fun a h1 h2 h3 h4 h5 h6=>hhp▸(Ad _ _ h3).trans ((Ad _ _ h4).trans (I.fr a h1 h2 h3 h4 h5 h6))
  have hou:outs X.key (u++[c])=outs X.key (BZ X.D (u++[c])):=Gf hX.wf.mkD _
  have again:∀(σ':Al) (F':FH) (s':Shared),AG F₀ F'→Rp C (A.over (DK (Az r L) ea) [f2]) F' G (Az r L) σ' s'→σ'.hp=hp2→σ'.v "zero_state" = some (.ref (X.A []))→σ'.v "zero_transitions_get" = some (.ref ba) →
    σ'.v "current_state" = some (.ref (X.A (BZ X.D (u++[c]))))→outs X.key (u++[c])=[] →
    SegX (model C.prog C.w) A (DK (Az r L) ea) (.pure (.again (DK (Az r L) ea))) [f2] s' (Gz C X (Az r L) G F₀ hp₀ o U ga ea ia ba jx g (B2 X.key u (c::rest))):=by
   intro σ' F' s' e' hR' eh k1 k2 k3 ho
   refine s_again C.prog C.w A _ [f2] _ s' _ rfl ?_
   have:B2 X.key u (c::rest)=B2 X.key (u++[c]) rest:=by simp only [B2,ho,List.map_nil,List.nil_append]
   rw [this]
   exact ih (u++[c]) F' σ' s' e' hR' (by rw [List.append_assoc];exact hU) ⟨eh▸hr2,eh▸hg2,eh▸hb2,⟨_,eh▸he2⟩,eh▸hs2,k1,k2,k3,eh▸hfr2⟩
  refine BJ (Ej (Ls (σ:=(Al.set (Al.set { σ with hp:=hp2 } "idx" (.int u.length)) "symbol" c.av)) (Q:=fun f σ'=>(f=.cont∧σ'.hp=hp2∧σ'.v "zero_state" = some (.ref (X.A []))∧σ'.v "zero_transitions_get" = some (.ref ba)∧σ'.v "current_state" = some (.ref (X.A []))∧BZ X.D (u++[c])=[]) ∨
    (f=.next∧σ'.hp=hp2∧σ'.v "zero_state" = some (.ref (X.A []))∧σ'.v "zero_transitions_get" = some (.ref ba)∧σ'.v "idx" = some (.int u.length)∧σ'.v "next_state" = some (.ref (X.A (BZ X.D (u++[c]))))))
   T (ba:=ba) (u:=u) (c:=c) hX hr2 hb2 (Ah (Ah I.l1)) (Ah (Ah I.l2)) (Ah (Ah I.l3)) Av rfl (fun σ' a1 a2 a3 zu a4 a5=>.inl ⟨rfl,a1,a2,a3,a4,a5⟩) (fun σ' a1 a2 a3 a4 a5=>.inr ⟨rfl,a1,a2,a3,a4.trans (Ah Av),a5⟩)) hR3 ?_)
  rintro F4 f σ4 v4 s4 e4 hfl hR4 q
  have ex4:=e₀.trans (e2.trans (e3.trans e4))
  rcases q with ⟨rfl,a1,a2,a3,a4,a5⟩|⟨rfl,a1,a2,a3,a4,a5⟩
  ·cases hfl
   exact again σ4 F4 s4 ex4 hR4 a1 a2 a3 (by rw [a5];exact a4) (by rw [hou,a5];rfl)
  ·cases hfl
   have hsD:=Cu hX.wf.pc (u++[c])
   have hout:X.out (BZ X.D (u++[c]))=some (.tup (outs X.key (u++[c]))):=by rw [hX.out _ hsD,←hou]
   have hol:(outs X.key (u++[c])).length≤100000:=by
    rw [hou]
    have h1:=Ep X.key (BZ X.D (u++[c]))
    have h2:=hz _ hsD
    exact At [_,_] [(1,Z0,Z1),(1,Z1,(Zn 1000))] Z0 (Zn 100000) rfl h1 h2
   have hr4:AN X t d true ci σ4.hp:=a1▸hr2
   refine BJ (Ej (Ai (Q:=fun f σ'=>f=.next∧σ'=σ4.set "current_state" (.ref (X.A (BZ X.D (u++[c]))))) (Ac a5 ⟨rfl,rfl⟩)) hR4 ?_)
   (rintro F5 f σ5 v5 s5 e5 hfl hR5;intro zr;refine xa0_2 zr ?_;(try clear zr);rintro rfl;rintro rfl)
   cases hfl
   refine BJ (Ej (Ai (Q:=fun f σ'=>f=.next∧σ'=Al.set (σ4.set "current_state" (.ref (X.A (BZ X.D (u++[c]))))) "outputs" (.tup (outs X.key (u++[c])))) (Aq (Ac Av (OB (σ:=σ4.set "current_state" (.ref (X.A (BZ X.D (u++[c]))))) T hr4 hsD hout ⟨rfl,rfl⟩ (by simp))))) hR5 ?_)
   (rintro F6 f σ6 v6 s6 e6 hfl hR6;intro zr;refine xa0_2 zr ?_;(try clear zr);rintro rfl;rintro rfl)
   cases hfl
   have ex6:=ex4.trans (e5.trans e6)
   refine BJ (Py (Q:=fun b σ'=>b=(!(outs X.key (u++[c])).isEmpty)∧σ'=Al.set (σ4.set "current_state" (.ref (X.A (BZ X.D (u++[c]))))) "outputs" (.tup (outs X.key (u++[c])))) (Bl (Ac Av (IU hol ⟨rfl,rfl⟩))) hR6 ?_)
   (rintro F7 bb σ7 s7 e7 hR7;intro zr;refine xa0_2 zr ?_;(try clear zr);rintro rfl;rintro rfl)
   have ex7:=ex6.trans e7
   cases hO:outs X.key (u++[c]) with
   |nil=>
    rw [hO] at hR7
    exact again _ F7 s7 ex7 hR7 a1 (Ah (Ah a2)) (Ah (Ah a3)) (Ah Av) hO
   |cons x os=>
    have hx0:(outs X.key (u++[c]))[0]? = some x:=by rw [hO];rfl
    show SegX _ A _ ((execs _ _).wrap _ _ _ _) _ _ _
    refine BJ (LD (Q:=fun a σ'=>a=.tup (outs X.key (u++[c]))∧σ'=Al.set (σ4.set "current_state" (.ref (X.A (BZ X.D (u++[c]))))) "outputs" (.tup (outs X.key (u++[c])))) (Ac Av ⟨rfl,rfl⟩) hR7
     (fun F' a σ' it s'=>∃ja,it=.ref ja∧hp2 ja=none∧Rp C (A.over (DK (Az r L) ea) [f2]) F' G (Az r L) (Al.put (Al.set (σ4.set "current_state" (.ref (X.A (BZ X.D (u++[c]))))) "outputs" (.tup (outs X.key (u++[c])))) ja (.itr "tuple_iterator" [.tup (outs X.key (u++[c])),.val (.int 0 0)])) s') ?_ ?_)
    ·(rintro F8 a σ8 v8 s8 e8 hv8 hR8;intro zr;refine xa0_2 zr ?_;(try clear zr);rintro rfl;rintro rfl)
     refine wpAny_mono (K8 hR8 hv8) (fun it s9 z=>?_) fun zu zu x=>x.elim
     refine xa1_3 z ?_;(try clear z);intro ja h1 h2 h3
     exact ⟨ja,h1,by rw [←a1];exact h2,h3⟩
    ·rintro F8 a σ8 it s8 e8 ⟨ja,rfl,hj2,hR8⟩ kf l p hk
     have hj8:(Al.put (Al.set (σ4.set "current_state" (.ref (X.A (BZ X.D (u++[c]))))) "outputs" (.tup (outs X.key (u++[c])))) ja (.itr "tuple_iterator" [.tup (outs X.key (u++[c])),.val (.int 0 0)])).hp ja=some (.itr "tuple_iterator" [.tup (outs X.key (u++[c])),.val (.int 0 0)]):=Ae _ _ _
     have hjL:ja≠L:=CK hj8 (show _=none from hR8.fm.lo.2.2)
     have hjg:ja≠ga:=(CK hg2 hj2).symm
     have hje:ja≠ea:=(CK he2 hj2).symm
     refine xa2_1 hs2.at ?_;intro c9 v9 hi2
     have hji:ja≠ia:=(CK hi2 hj2).symm
     have hjb:ja≠ba:=(CK hb2 hj2).symm
     have hjF:¬Fp X t d ja:=fun hF=>hr2.some hF hj2
     have hj0:hp₀ ja=none∨ja=jx:=by
      by_cases hjx:ja=jx
      ·exact .inr hjx
      cases e:hp₀ ja with
      |none=>exact .inl rfl
      |some o=>rw [hfr2 ja (by rw [e];simp) hjg hje hji hjL hjx,e] at hj2;exact Ap hj2
     have hF1:Qb (Az r L) ea (.ret kf none false l (DK (Az r L) ea) p []):=⟨kf,l,p,rfl,(hk .next).trans rfl⟩
     refine xa0_3 (JX (env:=Az r L) (ea:=ea) (ja:=ja) A hF1 hf2) ?_;intro q1 q2 q3
     have hrem:B2 X.key u (c::rest)=C7 X.key (u++[c]) 0 rest:=by simp only [B2,C7,List.drop_zero]
     rw [hrem]
     refine GT T (t:=t) (d:=d) (ci:=ci) (k:=0) (x:=x) hA hF1 hf2 (ex7.trans e8) (hR8.around (GG.mk q3 hFs (by rfl) (by rfl))) (by rw [List.append_assoc];exact hU) ⟨?_,?_,?_,⟨c.av,?_⟩,?_,Ah (Ah a2),Ah (Ah a3),Ah Av,?_⟩ ?_ hj8 hx0 hj0 hji
     ·exact AN.updOff hr4 hjF
     ·exact (Ad _ _ hjg.symm).trans (a1▸hg2)
     ·exact (Ad _ _ hjb.symm).trans (a1▸hb2)
     ·exact (Ad _ _ hje.symm).trans (a1▸he2)
     ·refine hs2.keep ((Ad _ _ hji.symm).trans (by rw [a1])) (fun l zs hl=>(Ad _ _ (CK hl hj2)).trans (by rw [a1];exact hl))
     ·intro a h1 h2 h3 h4 h5 h6
      exact (Ad _ _ (by
       rintro rfl
       rcases hj0 with q|q
       ·exact h1 q
       ·exact h6 q)).trans (a1▸hfr2 a h1 h2 h3 h4 h5 h6)
     ·have:((u++[c]).length:Int) - 1=u.length:=by simp
      rw [this];exact Ah (Ah a4)
end
section
variable {C:Cf} {A:Around} {s:Shared} {σ:Al} {F G:FH}
theorem KS (T:Tp C) {r:FdRest} {L:Addr} {X:Af} {t d:Addr} {ci:Bool} {o:Co} {U:Ag} {hp₀:HP} {F₀:FH} {ga ea ia ba ja:Addr} {g:Nat} {u rest:Ag} {k:Nat} {f1 f2:Frame} (hA:A.handled=none) (hFs:Fs A G) (hX:X.Ph3) (hz:∀p∈X.D,p.length≤1000)
  (hf1:Qb (Az r L) ea f1) (hf2:Ph (Az r L) f2) (e₀:AG F₀ F) (hR:Rp C (A.over (CU (Az r L) ja) [f1,f2]) F G (Az r L) σ s)
  (hU:u++rest=U) (I:Qq X t d ci (Az r L) hp₀ o ga ea ia ba ja g u rest σ) (hi:σ.v "idx" = some (.int ((u.length:Int) - 1))) (hja:σ.hp ja=some (.itr "tuple_iterator" [.tup (outs X.key u),.val (.int k 0)])) (hji:ja≠ia) :
  SegX (model C.prog C.w) A (CU (Az r L) ja) (denote table (CU (Az r L) ja)) [f1,f2] s (Gz C X (Az r L) G F₀ hp₀ o U ga ea ia ba ja g (C7 X.key u k rest)):=by
 cases hx:(outs X.key u)[k]? with
 |some x=>exact GT T hA hf1 hf2 e₀ hR hU I hi hja hx (.inr rfl) hji
 |none=>
  have hrem:C7 X.key u k rest=B2 X.key u rest:=by
   have:(outs X.key u).drop k=[]:=List.drop_eq_nil_iff.mpr (List.getElem?_eq_none_iff.mp hx)
   simp only [C7,this,List.map_nil,List.nil_append]
  rw [hrem]
  refine xa0_3 (JX (env:=Az r L) (ea:=ea) (ja:=ja) A hf1 hf2) ?_;intro o1 o2 o3
  refine xa0_3 (LP (env:=Az r L) (ea:=ea) A hf2) ?_;intro q1 q2 q3
  refine CN (wpAny_mono (K9 (o1.trans hA) hR hja hx) (fun res s₁ z=>?_) fun zu zu x=>x.elim)
  refine xa0_2 z ?_;(try clear z);rintro rfl;intro hR1
  refine xa3_2 hf1 ?_;(try clear hf1);intro kf l p;rintro rfl;intro hk
  refine s_pop C.prog C.w A _ [f2] _ s₁ (.ok .next) _ rfl kf none false l _ p [] ?_
  rw [hk]
  refine s_again C.prog C.w A _ [f2] _ s₁ _ rfl ?_
  have hne:∀{a y},σ.hp a=some y→(∀c vs,y≠.itr c vs)→a≠ja:=fun e h=>fun zE=>by (first|rw [zE,hja] at e|rw [←zE,hja] at e);(have zc:=Option.some.inj e;clear e;subst zc);exact h _ _ rfl
  have hjF:¬Fp X t d ja:=fun hF=>I.rep.fpNo hF hja rfl
  have off:∀a,a≠ja→(if a∈[ja] then none else σ.hp a)=σ.hp a:=fun a h=>if_neg (by simpa using h)
  refine xa1_1 I.enm ?_;intro old he
  refine GU T (t:=t) (d:=d) (ci:=ci) hA hFs hX hz hf2 rest u F _ s₁ e₀ (hR1.around (GG.mk q3 hFs (by rfl) (by rfl))) hU ⟨?_,?_,?_,⟨old,?_⟩,?_,I.l1,I.l2,I.l3,?_⟩
  ·exact I.rep.off (fun a hF=>off a (fun zE=>hjF (zE▸hF)))
  ·exact (off _ (hne I.gen (by simp))).trans I.gen
  ·exact (off _ (hne I.bnd (by simp [B7]))).trans I.bnd
  ·exact (off _ (hne he (by simp [AX]))).trans he
  ·exact I.src.keep (off _ hji.symm) (fun l zs hl=>(off _ (hne hl (by simp))).trans hl)
  ·intro a h1 h2 h3 h4 h5 h6
   exact (off _ h6).trans (I.fr a h1 h2 h3 h4 h5 h6)
theorem JU {α:Type} {Q:α→Shared→Prop} {E:Value→Shared→Prop} {g:Nat} {gs:GenState} {rr:Resume} {l:List Value} {kk:GenResult→Sem α} {c₀:Code} {t₀:Sem Fin} {fs₀:List Frame} (hg:s.gens[g]? = some gs)
  (hgs:(gs=.fresh c₀∧rr=.send .none∧t₀=denote table c₀∧fs₀=[])∨(∃k₀ l₀ p₀ cl,gs=.suspended k₀ l₀ c₀ p₀ fs₀ cl∧t₀=k₀ rr))
  (x:SegX (model C.prog C.w) A c₀ t₀ fs₀ (s.setGen g .running) (fun e s₁=>wpAny (model C.prog C.w) A (kk e.result) Q E (s₁.setGen g e.genState))):wpAny (model C.prog C.w) A (.resume g rr l kk) Q E s:=
 fun Γ p hΓ=>wake_any α C.prog C.w hg hgs (fun Γ=>Γ.In A) (fun zu h=>h) (x.mono fun zu zu h Γ p hC=>h Γ p hC) Γ p hΓ
theorem Nu {ga:Addr} {g:Nat} {gs:GenState} {E:Value→Shared→Prop} {Q:Option Value→Shared→Prop} (hh:A.handled=none) (hl:s.heap.NoLimit) (hroom:A.depth<recursionLimit) (hg:s.heap.IsGen ga g) (hgs:s.gens[g]? = some gs) {c₀:Code} {t₀:Sem Fin} {fs₀:List Frame}
  (hst:(gs=.fresh c₀∧t₀=denote table c₀∧fs₀=[])∨(∃k₀ l₀ p₀ cl,gs=.suspended k₀ l₀ c₀ p₀ fs₀ cl∧t₀=k₀ (.send .none)))
  (x:SegX (model C.prog C.w) A.in1 c₀ t₀ fs₀ (s.setGen g .running) (fun (e:End) (s₁:Shared)=>match e with
   |.ret r=>r=.ok (.ret .none)∧∀h':Heap,(∀b o,s₁.heap.get? b=some o→h'.get? b=some o)→Q none { s₁.setGen g .finished with heap:=h' }
   |.susp v _ _ _ _ _ _=>Q (some v) (s₁.setGen g e.genState))):wpAny (model C.prog C.w) A (pyNext (.ref ga)) Q E s:=by
 unfold pyNext
 refine wpAny_bind (wpAny_attempt (wpAny_callSpecial?_slot (name:=Str.ofString "__next__") hg.typeIs slot_gen_next
  (wpAny_call_entry slot_gen_next hg.typeIs entry_gen_next ?_ (args_gen_next _))))
 show wpAny _ _ (Builtin.Generator.genWake (.ref ga) (.send .none)) _ _ s
 unfold Builtin.Generator.genWake
 refine wpAny_bind (wpAny_holding (wpAny_genNumber hg (wpAny_bind (wpAny_genState hgs ?_))))
 have hst':(gs=.fresh c₀∧Resume.send Value.none=.send .none∧t₀=denote table c₀∧fs₀=[])∨(∃k₀ l₀ p₀ cl,gs=.suspended k₀ l₀ c₀ p₀ fs₀ cl∧t₀=k₀ (.send .none)):=hst.imp_left (fun ⟨a,b,c⟩=>⟨a,rfl,b,c⟩)
 have fin:∀(kk:GenResult→Sem Fin) (Q':Fin→Shared→Prop) (E':Value→Shared→Prop),(∀v s',Q (some v) s'→wpAny (model C.prog C.w) A.in1 (kk (.yielded v)) Q' E' s') →
   (∀(s₁:Shared),(∀h':Heap,(∀b o,s₁.heap.get? b=some o→h'.get? b=some o)→Q none { s₁.setGen g .finished with heap:=h' })→wpAny (model C.prog C.w) A.in1 (kk (.returned .none)) Q' E' (s₁.setGen g .finished))→wpAny (model C.prog C.w) A.in1 (.resume g (.send .none) [] kk) Q' E' s:=by
  intro kk Q' E' h1 h2
  refine JU hgs hst' (x.mono fun e s₁ h=>?_)
  cases e with
  |ret r=>refine xa0_2 h ?_;(try clear h);rintro rfl;intro h;exact h2 s₁ h
  |susp v a b c d e f=>exact h1 v _ h
 rcases hst with ⟨rfl,zu,zu⟩|⟨k₀,l₀,p₀,cl,rfl,zu⟩
 all_goals
  refine wpAny_bind (wpAny_roomToWake hl hroom ?_)
  show wpAny _ _ (.resume g (.send .none) [] _) _ _ s
  refine fin _ _ _ (fun v s' h=>wpAny_pure ⟨v,rfl,wpAny_pure h⟩) (fun s₁ hp=>?_)
  show wpAny _ _ (newExc (.type "StopIteration") [] >>= _) _ _ _
  exact wpAny_bind (En fun h' e k _ ⟨oe,vs,q,c,_⟩=>wpAny_bind (wpAny_raiseNew_none (show A.in1.handled=none from hh) (wpAny_bind (wpAny_isInstance (T:="StopIteration") (b:=true) ⟨oe,q,c⟩ isSubtype_stop (wpAny_pure (hp _ k))))))
end
section
variable {C:Cf} {A:Around} {s:Shared} {F G:FH} {hp:HP}
noncomputable def Kz (C:Cf) (F G:FH) (hp:HP) (X:Af) (genv:Env) (o:Co) (U:Ag) (ga:Addr) (g:Nat) (Pd:Addr→Addr→Addr→Addr→Prop) (rem:List AV) (r:Option Value) (s₁:Shared):Prop:=
 ∃F' hp' ea ia ba jx,Pd ea ia ba jx∧AG F F'∧Wd C F' G hp' s₁∧(∀a,hp a≠none→a≠ga→a≠ea→a≠ia→a≠genv.locals→a≠jx→hp' a=hp a) ∧
  match rem with
  |[]=>r=none∧HC o hp'
  |y::ys=>∃v u k rest ja,r=some v∧VR F' y v∧NU C X genv hp' o ga ea ia ba ja g u k rest∧ys=C7 X.key u k rest∧(hp ja=none∨ja=jx)∧Lt X.key U u k rest y
theorem Kb {ga:Addr} {g:Nat} {gs:GenState} {X:Af} {genv:Env} {o:Co} {U:Ag} {Pd:Addr→Addr→Addr→Addr→Prop} {rem:List AV} (hh:A.handled=none) (hl:C.h0.NoLimit) (hroom:A.depth<recursionLimit) (W:Wd C F G hp s) (hga:hp ga=some (.gen g gs)) {c₀:Code} {t₀:Sem Fin} {fs₀:List Frame}
  (hst:(gs=.fresh c₀∧t₀=denote table c₀∧fs₀=[])∨(∃k₀ l₀ p₀ cl,gs=.suspended k₀ l₀ c₀ p₀ fs₀ cl∧t₀=k₀ (.send .none)))
  (x:SegX (model C.prog C.w) A.in1 c₀ t₀ fs₀ (s.setGen g .running) (fun e s'=>∃ea ia ba jx,Pd ea ia ba jx∧Gz C X genv G F hp o U ga ea ia ba jx g rem e s')) :
  wpAny (model C.prog C.w) A (pyNext (.ref ga)) (Kz C F G hp X genv o U ga g Pd rem) Bj s:=by
 refine xa0_2 (W.gen hga) ?_;intro hgg hig
 refine Nu hh (hl.keeps W.old) hroom hig hgg hst (x.mono fun e s₁ h=>?_)
 refine cps fun zP zk=>?_;(rcases h with ⟨ea,ia,ba,jx,hpd,F',hp',ex,W',hfr,hm⟩)<;>(refine zk ?_;clear zk zP)
 cases rem with
 |nil=>
  dsimp only at hm
  refine xa0_2 hm ?_;(try clear hm);rintro rfl;intro hm
  refine ⟨rfl,fun h' hk=>⟨F',hp',ea,ia,ba,jx,hpd,ex,?_,hfr,rfl,hm⟩⟩
  exact W'.keep hk
 |cons y ys=>
  dsimp only at hm
  refine xa5_4 hm ?_;(try clear hm);intro v u k rest ja hv h1 h2 h3
  cases e with
  |ret r=>
   rcases r with e|f
   ·cases hv
   ·cases f<;>cases hv
  |susp v' a b c d e f=>
   cases hv
   exact ⟨F',hp',ea,ia,ba,jx,hpd,ex,W',hfr,v,u,k,rest,ja,rfl,h1,h2,h3⟩
theorem M0 (T:Tp C) {r:FdRest} {L:Addr} {X:Af} {t d:Addr} {ci:Bool} {o:Co} {ga ea ia ba ja:Addr} {g:Nat} {u rest:Ag} {k:Nat} (hA:A.handled=none) (hl:C.h0.NoLimit) (hroom:A.depth<recursionLimit) (W:Wd C F G hp s) (hFs:Fs A G)
  (hX:X.Ph3) (hz:∀p∈X.D,p.length≤1000) (hr:AN X t d true ci hp) (hnc:Cx (Az r L)) (hS:NU C X (Az r L) hp o ga ea ia ba ja g u k rest) :
  wpAny (model C.prog C.w) A (pyNext (.ref ga)) (Kz C F G hp X (Az r L) o (u++rest) ga g (fun a b c d=>a=ea∧b=ia∧c=ba∧d=ja) (C7 X.key u k rest)) Bj s:=by
 refine cps fun zP zk=>?_;(rcases hS.gen with ⟨gs,hga,kk,l,p,f1,f2,rfl,hf1,hf2,hk⟩)<;>(refine zk ?_;clear zk zP)
 refine Kb hA hl hroom W hga (.inr ⟨kk,l,p,false,rfl,rfl⟩) ?_
 refine (hk A.in1 _ _ (s_again C.prog C.w A.in1 _ [f1,f2] _ _ _ rfl (SegX.mono ?_ (fun e s' h=>⟨ea,ia,ba,ja,⟨rfl,rfl,rfl,rfl⟩,h⟩))))
 have W1:=W.setGen (ga:=ga) (g:=g) (gs':=.running) hga rfl
 have hLg:L≠ga:=by
  have:=hS.frm
  rintro rfl
  rw [show (Az r L).locals=L from rfl,hga] at this;exact AO.noConfusion (Option.some.inj this)
 refine xa0_3 (JX (env:=Az r L) (ea:=ea) (ja:=ja) A.in1 hf1 hf2) ?_;intro o1 o2 o3
 have hR1:=W1.thaw (A:=A.in1.over (CU (Az r L) ja) [f1,f2]) (env:=Az r L) ((Ad _ _ hLg).trans hS.frm) (by rfl) hnc (GG.mk o3 (show Fs A.in1 G from hFs) (by rfl) (by rfl))
 have hne:∀{a y},hp a=some y→(∀l,y≠.frame l)→a≠L:=fun {a y} e h=>by
  have:=hS.frm
  rintro rfl
  rw [show (callEnv (r.fd Iv .none) a 94).locals=a from rfl,e] at this;(have zc:=Option.some.inj this;clear this;subst zc);exact h _ rfl
 have hng:∀{a y},hp a=some y→Db y=false→a≠ga:=fun {a y} e h=>by rintro rfl;rw [hga] at e;(have zc:=Option.some.inj e;clear e;subst zc);exact CZ h
 have at':∀{a},a≠L→a≠ga→(if a=(Az r L).locals then none else upd hp ga (.gen g .running) a)=hp a:=fun {a} h1 h2=>by
  show (if a=L then none else upd hp ga (.gen g .running) a)=hp a
  rw [if_neg h1,Ad _ _ h2]
 refine xa1_1 hS.enm ?_;intro old he
 refine xa2_1 hS.src.at ?_;intro c' vs' hia
 have hFp:∀a,Fp X t d a→a≠L∧a≠ga:=fun a hF=>by
  rcases hF with rfl|rfl|⟨p,hpD,rfl|rfl⟩
  ·exact ⟨hne hr.tree (by simp),hng hr.tree rfl⟩
  ·exact ⟨hne hr.ns (by simp),hng hr.ns rfl⟩
  ·exact ⟨hne (hr.nd p hpD) (by simp [Af.nodeAO,Eu]),hng (hr.nd p hpD) rfl⟩
  ·refine xa1_1 (hr.td p hpD) ?_;intro ep q
   exact ⟨hne q (by simp),hng q rfl⟩
 refine KS T (t:=t) (d:=d) (ci:=ci) hA (show Fs A.in1 G from hFs) hX hz hf1 hf2 (AG.refl F) hR1 rfl ⟨?_,?_,?_,⟨old,?_⟩,?_,rfl,rfl,rfl,?_⟩ rfl ?_ hS.nji
 ·exact hr.off (fun a hF=>at' (hFp a hF).1 (hFp a hF).2)
 ·show (if ga=L then none else upd hp ga (.gen g .running) ga)=_
  rw [if_neg hLg.symm,Ae]
 ·exact (at' (hne hS.bnd (by simp [B7])) (hng hS.bnd rfl)).trans hS.bnd
 ·exact (at' (hne he (by simp [AX])) (hng he rfl)).trans he
 ·exact hS.src.keep (at' (hne hia (by simp)) (hng hia rfl)) (fun l zs hl=>(at' (hne hl (by simp)) (hng hl rfl)).trans hl)
 ·intro a h1 h2 h3 h4 h5 h6
  exact at' h5 h2
 ·exact (at' (hne hS.itr (by simp)) (hng hS.itr rfl)).trans hS.itr
end
section
variable {C:Cf} {A:Around} {s:Shared} {σ:Al} {F G:FH} {env:Env}
theorem GV (T:Tp C) {r:FdRest} {L:Addr} {X:Af} {t d:Addr} {ci:Bool} {o:Co} {ga:Addr} {g:Nat} {w:Ag} {tv:AV} {hp:HP} (hA:A.handled=none) (W:Wd C F G hp s) (hFs:Fs A G)
  (hX:X.Ph3) (hz:∀p∈X.D,p.length≤1000) (hr:AN X t d true ci hp) (hnc:Cx (Az r L)) (hga:hp ga=some (.gen g (.fresh (F9 (Az r L)))))
  (hfm:hp L=some (.frame [("text",tv),("self",.ref t)])) (hsq:Cm o tv (w.map Au.av) hp) :
  SegX (model C.prog C.w) A (F9 (Az r L)) (denote table (F9 (Az r L))) [] (s.setGen g .running)
   (fun e s'=>∃ea ia ba jx,(hp ea=none∧(hp ia=none∨o=.rd ia)∧hp ba=none∧jx=ga)∧Gz C X (Az r L) G F hp o w ga ea ia ba jx g (B2 X.key [] w) e s'):=by
 have W1:=W.setGen (ga:=ga) (g:=g) (gs':=.running) hga rfl
 have hLg:L≠ga:=Om hfm hga rfl
 refine xa0_3 (Pz (env:=Az r L) A) ?_;intro o1 o2 o3
 have hR1:=W1.thaw (A:=A.over (F9 (Az r L)) []) (env:=Az r L) ((Ad _ _ hLg).trans hfm) (by rfl) hnc (GG.mk o3 hFs (by rfl) (by rfl))
 have hne:∀{a y},hp a=some y→(∀l,y≠.frame l)→a≠L:=fun {a y} e h=>fun zE=>by (first|rw [zE,e] at hfm|rw [←zE,e] at hfm);(have zc:=Option.some.inj hfm;clear hfm;subst zc);exact h _ rfl
 have hng:∀{a y},hp a=some y→Db y=false→a≠ga:=fun {a y} e h=>fun zE=>by (first|rw [zE,hga] at e|rw [←zE,hga] at e);(have zc:=Option.some.inj e;clear e;subst zc);exact CZ h
 generalize hhp1:(fun b=>if b=(Az r L).locals then none else upd hp ga (.gen g .running) b)=hp1 at hR1
 have at':∀{a},a≠L→a≠ga→hp1 a=hp a:=fun {a} h1 h2=>by
  rw [←hhp1]
  show (if a=L then none else upd hp ga (.gen g .running) a)=hp a
  rw [if_neg h1,Ad _ _ h2]
 have hg1:hp1 ga=some (.gen g .running):=by
  rw [←hhp1]
  show (if ga=L then none else upd hp ga (.gen g .running) ga)=_
  rw [if_neg hLg.symm,Ae]
 have hFp:∀a,Fp X t d a→a≠L∧a≠ga:=fun a hF=>by
  rcases hF with rfl|rfl|⟨p,hp,rfl|rfl⟩
  ·exact ⟨hne hr.tree (by simp),hng hr.tree rfl⟩
  ·exact ⟨hne hr.ns (by simp),hng hr.ns rfl⟩
  ·exact ⟨hne (hr.nd p hp) (by simp [Af.nodeAO,Eu]),hng (hr.nd p hp) rfl⟩
  ·refine xa1_1 (hr.td p hp) ?_;intro ep q
   exact ⟨hne q (by simp),hng q rfl⟩
 have hr1:AN X t d true ci hp1:=hr.off (fun a hF=>at' (hFp a hF).1 (hFp a hF).2)
 have hw:=hX.wf
 have fresh:∀b,hp1 b=none→b≠L→hp b=none:=fun b hb hL=>by
  by_cases e:b=ga
  ·subst e;rw [hg1] at hb;exact Ap hb
  ·rw [←at' hL e];exact hb
 refine Nn ?_
 refine BJ (Ej (Ai (Q:=fun f σ'=>f=.next∧σ'=Al.set ⟨[("text",tv),("self",.ref t)],hp1⟩ "zero_state" (.ref (X.A []))) (Aq (Ac rfl (Bv (σ:=⟨[("text",tv),("self",.ref t)],hp1⟩) T.n_zero hr1.tree hr1.ns rfl ⟨rfl,rfl⟩)))) hR1 ?_)
 (rintro F2 f σ2 v2 s2 e2 hfl hR2;intro zr;refine xa0_2 zr ?_;(try clear zr);rintro rfl;rintro rfl)
 cases hfl
 refine xa1_1 (hr1.td [] hw.root) ?_;intro ep htd
 refine BJ (Ej (Ai (Q:=fun f σ'=>f=.next∧∃b,hp1 b=none∧σ'=Al.set (Al.put (Al.set ⟨[("text",tv),("self",.ref t)],hp1⟩ "zero_state" (.ref (X.A []))) b (B7 (X.T []))) "zero_transitions_get" (.ref b))
  (Aq (Aq (Ac Av (DP (σ:=Al.set ⟨[("text",tv),("self",.ref t)],hp1⟩ "zero_state" (.ref (X.A []))) T hr1 hw.root (KR htd (fun b hb=>⟨rfl,b,hb,rfl⟩))))))) hR2 ?_)
 (rintro F3 f σ3 v3 s3 e3 hfl hR3;intro zr;refine cps fun zP zk=>?_;(rcases zr with ⟨rfl,ba,hb1,rfl⟩)<;>(refine zk ?_;clear zk zP))
 cases hfl
 have hbL:ba≠L:=CK (hp:=(Al.set (Al.put (Al.set ⟨[("text",tv),("self",.ref t)],hp1⟩ "zero_state" (.ref (X.A []))) ba (B7 (X.T []))) "zero_transitions_get" (.ref ba)).hp) (Ae _ _ _) (show _=none from hR3.fm.lo.2.2)
 refine BJ (Ej (Ai (Q:=fun f σ'=>f=.next∧σ'=Al.set (Al.set (Al.put (Al.set ⟨[("text",tv),("self",.ref t)],hp1⟩ "zero_state" (.ref (X.A []))) ba (B7 (X.T []))) "zero_transitions_get" (.ref ba)) "current_state" (.ref (X.A [])))
  (Ac (Ah Av) ⟨rfl,rfl⟩)) hR3 ?_)
 (rintro F4 f σ4 v4 s4 e4 hfl hR4;intro zr;refine xa0_2 zr ?_;(try clear zr);rintro rfl;rintro rfl)
 cases hfl
 have hsq4:Cm o tv (w.map Au.av) (upd hp1 ba (B7 (X.T []))):=hsq.keep (EJ.of hsq fun a x e hx=>by
  have h1:hp1 a=some x:=(at' (hne e (by rcases hx with ⟨_,rfl⟩|⟨_,_,rfl⟩<;>simp)) (hng e (by rcases hx with ⟨_,rfl⟩|⟨_,_,rfl⟩<;>rfl))).trans e
  exact (Ad _ _ (CK h1 hb1)).trans h1)
 refine BJ (LD (Q:=fun a σ'=>∃ea ia y,a=.ref ea∧upd hp1 ba (B7 (X.T [])) ea=none∧(upd hp1 ba (B7 (X.T [])) ia=none∨(o=.rd ia∧upd hp1 ba (B7 (X.T [])) ia=some y))∧ea≠ia∧(∃c vs,y=.itr c vs)∧Eg o ia 0 (w.map Au.av) (upd (upd (upd hp1 ba (B7 (X.T []))) ia y) ea (AX ia 0 .none)) ∧
   σ'={ Al.set (Al.set (Al.put (Al.set ⟨[("text",tv),("self",.ref t)],hp1⟩ "zero_state" (.ref (X.A []))) ba (B7 (X.T []))) "zero_transitions_get" (.ref ba)) "current_state" (.ref (X.A [])) with hp:=upd (upd (upd hp1 ba (B7 (X.T []))) ia y) ea (AX ia 0 .none) })
  (AJ (Bt T.g_enum (A2 (Ac rfl (Ax (A5 (M3 hsq4 (fun ea ia y h1 h2 h3 h4 h5=>⟨ea,ia,y,rfl,h1,h2,h3,h4,h5,rfl⟩)))))))) hR4
  (fun F' a σ' it s'=>∃ea ia y,it=.ref ea∧upd hp1 ba (B7 (X.T [])) ea=none∧(upd hp1 ba (B7 (X.T [])) ia=none∨(o=.rd ia∧upd hp1 ba (B7 (X.T [])) ia=some y))∧ea≠ia∧(∃c vs,y=.itr c vs)∧Eg o ia 0 (w.map Au.av) (upd (upd (upd hp1 ba (B7 (X.T []))) ia y) ea (AX ia 0 .none)) ∧
   Rp C (A.over (F9 (Az r L)) []) F' G (Az r L) { Al.set (Al.set (Al.put (Al.set ⟨[("text",tv),("self",.ref t)],hp1⟩ "zero_state" (.ref (X.A []))) ba (B7 (X.T []))) "zero_transitions_get" (.ref ba)) "current_state" (.ref (X.A [])) with hp:=upd (upd (upd hp1 ba (B7 (X.T []))) ia y) ea (AX ia 0 .none) } s') ?_ ?_)
 ·(rintro F5 a σ5 v5 s5 e5 hv5 hR5;intro zr;refine xa3_7 zr ?_;(try clear zr);intro ea ia y;rintro rfl;intro h1 h2 h3 h4 h5;rintro rfl)
  (have zc:=VR.refI hv5;clear hv5;subst zc)
  refine xa1_2 (hR5.isEnum (ea:=ea) (Ae _ _ _)) ?_;intro ov hE zu
  exact wpAny_pyIter_enum hE ⟨ea,ia,y,rfl,h1,h2,h3,h4,h5,hR5⟩
 ·rintro F5 a σ5 it s5 e5 ⟨ea,ia,y,rfl,h1,h2,h3,⟨yc,yv,rfl⟩,h5,hR5⟩ kf l p hk
  have hF2:Ph (Az r L) (.ret kf none false l (F9 (Az r L)) p []):=⟨kf,l,p,rfl,(hk .next).trans rfl⟩
  refine xa0_3 (LP (env:=Az r L) (ea:=ea) A hF2) ?_;intro q1 q2 q3
  have hbb:upd hp1 ba (B7 (X.T [])) ba=some (B7 (X.T [])):=Ae _ _ _
  have heb:ea≠ba:=(CK hbb h1).symm
  have hib:ia≠ba:=by
   rcases h2 with h2|⟨zu,h2⟩
   ·exact (CK hbb h2).symm
   ·exact Om h2 hbb rfl
  have he1:hp1 ea=none:=(Ad _ _ heb).symm.trans h1
  have hi1:hp1 ia=none∨(o=.rd ia∧hp1 ia=some (.itr yc yv)):=h2.imp (fun h=>(Ad _ _ hib).symm.trans h) fun h=>⟨h.1,(Ad _ _ hib).symm.trans h.2⟩
  have hL5:upd (upd (upd hp1 ba (B7 (X.T []))) ia (.itr yc yv)) ea (AX ia 0 .none) L=none:=hR5.fm.lo.2.2
  have heL:ea≠L:=CK (Ae _ _ _) hL5
  have hiL:ia≠L:=CK ((Ad _ _ h3.symm).trans (Ae _ _ _)) hL5
  have old:∀{a y},hp1 a=some y→upd (upd (upd hp1 ba (B7 (X.T []))) ia (.itr yc yv)) ea (AX ia 0 .none) a=some y:=fun {a y} e=>by
   refine (Ad _ _ (CK e he1)).trans ?_
   by_cases q:a=ia
   ·subst q
    rw [Ae]
    rcases hi1 with h|⟨zu,h⟩
    ·rw [h] at e;exact Ak e
    ·rw [h] at e;exact e
   ·exact (Ad _ _ q).trans ((Ad _ _ (CK e hb1)).trans e)
  have hia0:hp ia=none∨o=.rd ia:=hi1.imp (fun h=>fresh _ h hiL) fun h=>h.1
  refine SegX.mono (GU (A:=A) T (t:=t) (d:=d) (ci:=ci) (ga:=ga) (ea:=ea) (ia:=ia) (ba:=ba) (jx:=ga) (hp₀:=hp) (F₀:=F) (g:=g) hA hFs hX hz hF2 w [] F5 _ s5 (e2.trans (e3.trans (e4.trans e5))) (hR5.around (GG.mk q3 hFs (by rfl) (by rfl))) rfl ⟨?_,?_,?_,⟨.none,?_⟩,?_,?_,?_,?_,?_⟩) (fun e s' h=>⟨ea,ia,ba,ga,⟨fresh _ he1 heL,hia0,fresh _ hb1 hbL,rfl⟩,h⟩)
  ·exact hr1.off (fun a hF=>by
    cases e:hp1 a with
    |none=>exact absurd e (hr1.some hF)
    |some y=>exact old e)
  ·exact old hg1
  ·exact (Ad _ _ heb.symm).trans ((Ad _ _ hib.symm).trans hbb)
  ·exact Ae _ _ _
  ·exact h5
  ·exact Ah (Ah Av)
  ·exact Ah Av
  ·exact Av
  ·intro a g1 g2 g3 g4 g5 g6
   have:=at' (a:=a) g5 g2
   cases e:hp a with
   |none=>exact absurd e g1
   |some y=>rw [e] at this;exact old this
theorem KT (T:Tp C) {r:FdRest} {L:Addr} {X:Af} {t d:Addr} {ci:Bool} {o:Co} {ga:Addr} {g:Nat} {w:Ag} {tv:AV} {hp:HP} (hA:A.handled=none) (hl:C.h0.NoLimit) (hroom:A.depth<recursionLimit) (W:Wd C F G hp s) (hFs:Fs A G)
  (hX:X.Ph3) (hz:∀p∈X.D,p.length≤1000) (hr:AN X t d true ci hp) (hnc:Cx (Az r L)) (hga:hp ga=some (.gen g (.fresh (F9 (Az r L)))))
  (hfm:hp L=some (.frame [("text",tv),("self",.ref t)])) (hsq:Cm o tv (w.map Au.av) hp) :
  wpAny (model C.prog C.w) A (pyNext (.ref ga)) (Kz C F G hp X (Az r L) o w ga g (fun a b c d=>hp a=none∧(hp b=none∨o=.rd b)∧hp c=none∧d=ga) (B2 X.key [] w)) Bj s:=
 Kb hA hl hroom W hga (.inl ⟨rfl,rfl,rfl⟩) (GV T hA W (show Fs A.in1 G from hFs) hX hz hr hnc hga hfm hsq)
end
section
variable {C:Cf} {A:Around} {s:Shared} {σ:Al} {F G:FH} {env:Env}
structure NV (r:FdRest) (L:Addr) (t:Addr) (tv:AV) (hp:HP) (ga:Addr) (g:Nat):Prop where
 gen:hp ga=some (.gen g (.fresh (F9 (Az r L))))
 frm:hp L=some (.frame [("text",tv),("self",.ref t)])
 nc:Cx (Az r L)
theorem OS (T:Tp C) {t:Addr} {tv:AV} {hp:HP} (hroom:A.depth<recursionLimit) :
  Fn C A (.ref 94) [.ref t,tv] [] hp (fun v hp'=>∃r L ga g,v=.ref ga∧NV r L t tv hp' ga g∧hp L=none∧hp ga=none∧(∀a,hp a≠none→hp' a=hp a)):=by
 refine xa1_1 T.f_gen ?_;intro r hf
 refine Pi (body:=Iv.body) hf (Lo C r _ _) (fun L ga g h1 h2 h3 h4=>⟨r,L,ga,g,rfl,⟨Ae _ _ _,(Ad _ _ h3).trans (Ae _ _ _),h4⟩,h1,h2,fun a ha=>?_⟩) hroom (by kernel_rfl) (by kernel_rfl) (by kernel_rfl) (by kernel_rfl) (by kernel_rfl)
 exact (Ad _ _ (by rintro rfl;exact ha h2)).trans (Ad _ _ (by rintro rfl;exact ha h1))
theorem MP (T:Tp C) {X:Af} {t d:Addr} {ci:Bool} {tv tv2:AV} {hp:HP} (hroom:A.depth+1<recursionLimit) (hr:AN X t d true ci hp) (hlo:Ly ci tv tv2) :
  Fn C A (.ref 87) [.ref t,tv] [] hp (fun v hp'=>∃r L ga g,v=.ref ga∧NV r L t tv2 hp' ga g∧hp L=none∧hp ga=none∧(∀a,hp a≠none→hp' a=hp a)):=by
 refine xa1_1 T.f_all ?_;intro r hf
 refine xa1_1 T.f_gen ?_;intro r' hf'
 refine CX (body:=MQ.body) hf (Lq C r _ _) (fun L=>?_) (by with_reducible exact Gh ‹_›) (by kernel_rfl) (by kernel_rfl) (by kernel_rfl) (by kernel_rfl) (by kernel_rfl)
 refine Ab (Bd (Pk (Bl (Aq (Ac rfl (Bv T.n_fin hr.tree hr.ns rfl (AQ (Am ?_))))))))
 have c1:=OS (A:=A.deeper (callEnv (r.fd MQ .none) L 87)) (t:=t) (tv:=tv2) (hp:=hp) T (by exact hroom)
 cases hlo with
 |no=>
  refine Ab (Bd (Bl (Aq (Ac rfl (Bv T.n_ci hr.tree hr.ns rfl (AQ (Am ?_)))))))
  refine Ab (Cg (AA (Ac rfl (B5 T.m_gen hr.tree hr.ns rfl (A2 (Ac rfl (Ax (A5 (AS hf' (Fn.mono c1 ?_))))))))))
  exact fun v hp' h=>h
 |@yes x hx=>
  refine Ab (Bd (Bl (Aq (Ac rfl (Bv T.n_ci hr.tree hr.ns rfl (AQ (Ab (D4 [] (.str (Txt.lower x)) (IE (Aj rfl) hx) (Am ?_)))))))))
  refine Ab (Cg (AA (Ac rfl (B5 T.m_gen hr.tree hr.ns rfl (A2 (Ac rfl (Ax (A5 (AS hf' (Fn.mono c1 ?_))))))))))
  exact fun v hp' h=>h
end
section
variable {C:Cf} {A:Around} {s:Shared} {σ:Al} {F G:FH} {env:Env}
theorem HK:isSubtype (.type "StopIteration") (.type "BaseException")=pure true:=by rw [isSubtype_type];kernel_rfl
theorem HJ:isSubtype (.type "StopIteration") (.type "StopIteration")=pure true:=by rw [isSubtype_type];kernel_rfl
theorem Ia:isSubtype (.type ((Manifest.find? "StopIteration").elim "type" fun y=>y.metatype)) (.type "tuple")=pure false:=by
 rw [find?_eq_fast]
 have e:(fastFind? "StopIteration").elim "type" (fun y=>y.metatype) = "type":=by kernel_rfl
 rw [e,isSubtype_type];kernel_rfl
theorem KL {ga:Addr} {g:Nat} {gs:GenState} {E:Value→Shared→Prop} {Q:Value→Shared→Prop} (hh:A.handled=none) (hl:s.heap.NoLimit) (hroom:A.depth<recursionLimit) (hg:s.heap.IsGen ga g) (hgs:s.gens[g]? = some gs) {c₀:Code} {t₀:Sem Fin} {fs₀:List Frame}
  (hst:(gs=.fresh c₀∧t₀=denote table c₀∧fs₀=[])∨(∃k₀ l₀ p₀ cl,gs=.suspended k₀ l₀ c₀ p₀ fs₀ cl∧t₀=k₀ (.send .none)))
  (x:SegX (model C.prog C.w) A.in1.in1 c₀ t₀ fs₀ (s.setGen g .running) (fun (e:End) (s₁:Shared)=>match e with
   |.ret r=>r=.ok (.ret .none)∧∀(h':Heap) (e:Addr),(∀b o,s₁.heap.get? b=some o→h'.get? b=some o)→s₁.heap.get? e=none→(∃oe vs,h'.get? e=some oe∧oe.cls=.type "StopIteration"∧oe.data=.fields vs∧vs[1]? = some .none)→E (.ref e) { s₁.setGen g .finished with heap:=h' }
   |.susp v _ _ _ _ _ _=>Q v (s₁.setGen g e.genState))):wpAny (model C.prog C.w) A (call (.builtin "next") [.ref ga]) Q E s:=by
 refine PySem.Calls.call_function_entry (by decide +kernel) (by decide +kernel) PySem.W.kdk_entry_next (PySem.W.kdk_args_next _) ?_
 unfold Builtin.«next»
 refine wpAny_bind (m:=someArgs "next" 1 2 _) (wpAny_of_eq (a:=[Value.ref ga]) (by first|rfl|kernel_rfl!) ?_)
 dsimp only
 refine wpAny_bind (wpAny_specialOf (name:=Str.ofString "__next__") hg.typeIs slot_gen_next.lookup ?_)
 refine wpAny_ite_split (fun hab=>absurd hab (by decide)) (fun zu=>?_)
 refine wpAny_bind (wpAny_callSpecial?_slot (name:=Str.ofString "__next__") hg.typeIs slot_gen_next
  (wpAny_call_entry slot_gen_next hg.typeIs entry_gen_next ?_ (args_gen_next _)))
 show wpAny _ _ (Builtin.Generator.genWake (.ref ga) (.send .none)) _ _ s
 unfold Builtin.Generator.genWake
 refine wpAny_bind (wpAny_holding (wpAny_genNumber hg (wpAny_bind (wpAny_genState hgs ?_))))
 have hst':(gs=.fresh c₀∧Resume.send Value.none=.send .none∧t₀=denote table c₀∧fs₀=[])∨(∃k₀ l₀ p₀ cl,gs=.suspended k₀ l₀ c₀ p₀ fs₀ cl∧t₀=k₀ (.send .none)):=hst.imp_left (fun ⟨a,b,c⟩=>⟨a,rfl,b,c⟩)
 have fin:∀(kk:GenResult→Sem Fin) (Q':Fin→Shared→Prop) (E':Value→Shared→Prop),(∀v s',Q v s'→wpAny (model C.prog C.w) A.in1.in1 (kk (.yielded v)) Q' E' s') →
   (∀(s₁:Shared),(∀(h':Heap) (e:Addr),(∀b o,s₁.heap.get? b=some o→h'.get? b=some o)→s₁.heap.get? e=none→(∃oe vs,h'.get? e=some oe∧oe.cls=.type "StopIteration"∧oe.data=.fields vs∧vs[1]? = some .none)→E (.ref e) { s₁.setGen g .finished with heap:=h' })→wpAny (model C.prog C.w) A.in1.in1 (kk (.returned .none)) Q' E' (s₁.setGen g .finished))→wpAny (model C.prog C.w) A.in1.in1 (.resume g (.send .none) [] kk) Q' E' s:=by
  intro kk Q' E' h1 h2
  refine JU hgs hst' (x.mono fun e s₁ h=>?_)
  cases e with
  |ret r=>refine xa0_2 h ?_;(try clear h);rintro rfl;intro h;exact h2 s₁ h
  |susp v a b c d e f=>exact h1 v _ h
 rcases hst with ⟨rfl,zu,zu⟩|⟨k₀,l₀,p₀,cl,rfl,zu⟩
 all_goals
  refine wpAny_bind (wpAny_roomToWake (A:=A.in1.in1) hl hroom ?_)
  show wpAny _ _ (.resume g (.send .none) [] _) _ _ s
  refine fin _ _ _ (fun v s' h=>wpAny_pure ⟨v,rfl,wpAny_pure ⟨v,rfl,h⟩⟩) (fun s₁ hp=>?_)
  show wpAny _ _ (newExc (.type "StopIteration") [] >>= _) _ _ _
  exact wpAny_bind (En fun h' e k n x=>wpAny_bind (wpAny_raiseNew_none (show A.in1.in1.handled=none from hh) (hp _ _ k n x)))
end
section
variable {C:Cf} {A:Around} {s:Shared} {hp:HP} {F G:FH}
theorem Wd.free (W:Wd C F G hp s) {b:Addr} (h:s.heap.get? b=none):F b=none∧G b=none∧hp b=none:=by
 refine ⟨?_,?_,?_⟩
 ·cases e:F b with
  |none=>rfl
  |some o=>rw [W.fz b o e] at h;exact Ap h
 ·cases e:G b with
  |none=>rfl
  |some o=>refine xa1_2 (W.gz b o e) ?_;intro o' ho zu;rw [ho] at h;exact Ap h
 ·cases e:hp b with
  |none=>rfl
  |some x=>refine cps fun zP zk=>?_;(rcases W.ob b x e with ⟨zu,zu,o,ho,zu⟩)<;>(refine zk ?_;clear zk zP);rw [ho] at h;exact Ap h
noncomputable def PU (C:Cf) (F G:FH) (hp:HP) (o:Co) (genv:Env) (ga:Addr) (Pd:Addr→Addr→Addr→Addr→Prop) (e:Value) (s₁:Shared):Prop:=
 ∃x F' hp' ea ia ba jx,e=.ref x∧Pd ea ia ba jx∧AG F F'∧Wd C F' G hp' s₁∧(F' x=none∧G x=none∧hp' x=none)∧(∃oe vs,s₁.heap.get? x=some oe∧oe.cls=.type "StopIteration"∧oe.data=.fields vs∧vs[1]? = some .none) ∧
  (∀a,hp a≠none→a≠ga→a≠ea→a≠ia→a≠genv.locals→a≠jx→hp' a=hp a)∧HC o hp'
theorem Ic {ga:Addr} {g:Nat} {gs:GenState} {X:Af} {genv:Env} {o:Co} {U:Ag} {Pd:Addr→Addr→Addr→Addr→Prop} {rem:List AV} (hh:A.handled=none) (hl:C.h0.NoLimit) (hroom:A.depth<recursionLimit) (W:Wd C F G hp s) (hga:hp ga=some (.gen g gs)) {c₀:Code} {t₀:Sem Fin} {fs₀:List Frame}
  (hst:(gs=.fresh c₀∧t₀=denote table c₀∧fs₀=[])∨(∃k₀ l₀ p₀ cl,gs=.suspended k₀ l₀ c₀ p₀ fs₀ cl∧t₀=k₀ (.send .none)))
  (x:SegX (model C.prog C.w) A.in1.in1 c₀ t₀ fs₀ (s.setGen g .running) (fun e s'=>∃ea ia ba jx,Pd ea ia ba jx∧Gz C X genv G F hp o U ga ea ia ba jx g rem e s')) :
  wpAny (model C.prog C.w) A (call (.builtin "next") [.ref ga]) (fun v s₁=>(∃y ys,rem=y::ys)∧Kz C F G hp X genv o U ga g Pd rem (some v) s₁) (fun e s₁=>rem=[]∧PU C F G hp o genv ga Pd e s₁) s:=by
 refine xa0_2 (W.gen hga) ?_;intro hgg hig
 refine KL hh (hl.keeps W.old) hroom hig hgg hst (x.mono fun e s₁ h=>?_)
 refine cps fun zP zk=>?_;(rcases h with ⟨ea,ia,ba,jx,hpd,F',hp',ex,W',hfr,hm⟩)<;>(refine zk ?_;clear zk zP)
 cases rem with
 |nil=>
  dsimp only at hm
  refine xa0_2 hm ?_;(try clear hm);rintro rfl;intro hm
  exact ⟨rfl,fun h' x hk hx hox=>⟨rfl,x,F',hp',ea,ia,ba,jx,rfl,hpd,ex,W'.keep hk,W'.free hx,hox,hfr,hm⟩⟩
 |cons y ys=>
  dsimp only at hm
  refine xa5_4 hm ?_;(try clear hm);intro v u k rest ja hv h1 h2 h3
  cases e with
  |ret r=>
   rcases r with e|f
   ·cases hv
   ·cases f<;>cases hv
  |susp v' a b c d e f=>
   cases hv
   exact ⟨⟨y,ys,rfl⟩,F',hp',ea,ia,ba,jx,hpd,ex,W',hfr,v,u,k,rest,ja,rfl,h1,h2,h3⟩
end
section
variable {C:Cf} {A:Around} {s:Shared} {σ:Al} {F G:FH} {env:Env}
noncomputable def Bh:List AV→AV
 |[]=>.none
 |y::_=>y
theorem KV {env:Env} {σ:Al} {F F' G:FH} {s:Shared} {hp':HP} (hR:Rp C A F G env σ s) {x:Addr} (h:F' x=none∧frz G env s.heap x=none∧hp' x=none):Gy F' G { σ with hp:=hp' } env x:=by
 refine xa0_3 h ?_;(try clear h);intro h1 h2 h3
 refine ⟨h1,?_,h3,?_,?_⟩
 ·cases q:G x with
  |none=>rfl
  |some o=>rw [Hw hR x o q] at h2;exact Ap h2
 ·rintro rfl
  refine xa1_2 hR.fm.ns ?_;intro m;intro zq;refine xa3_2 zq ?_;(try clear zq);intro o zu zu hL zu;intro zu
  unfold frz at h2
  rw [if_pos (.inl rfl),hL] at h2;exact Ap h2
 ·intro y hy hc
  refine cps fun zP zk=>?_;(rcases hR.fm.co y hy with ⟨c',g1,zu,zu,zu,zu,v,o,ho,zu⟩)<;>(refine zk ?_;clear zk zP)
  rw [hc] at g1;(have zc:=Option.some.inj g1;clear g1;subst zc)
  unfold frz at h2
  rw [if_pos (.inr ⟨y,hy,hc⟩),ho] at h2;exact Ap h2
theorem Eg.reader {r ia:Addr} {i:Nat} {rest:List AV} {hp:HP} (h:Eg (.rd r) ia i rest hp):Ct r hp rest:=by
 cases h with
 |rd h=>exact h
noncomputable def Qs (o:Co) (key:Ag→Option AV) (w:Ag) (hp:HP):Prop:=match o with
 |.rd r=>match B2 key [] w with
  |[]=>Ct r hp []
  |y::_=>∃u k rest,Lt key w u k rest y∧Ct r hp (rest.map Au.av)
 |_=>True
noncomputable def CI (o:Co) (a:Addr):Prop:=o=.rd a
theorem O8 (T:Tp C) {X:Af} {t d:Addr} {ci:Bool} {o:Co} {tv tv2:AV} {w:Ag} {hp:HP} (hA:A.handled=none) (hl:C.h0.NoLimit) (hroom:A.depth+3<recursionLimit) (hX:X.Ph3) (hz:∀p∈X.D,p.length≤1000) (hr:AN X t d true ci hp) (hlo:Ly ci tv tv2) (hsq:Cm o tv2 (w.map Au.av) hp) :
  Fn C A (.ref 80) [.ref t,tv] [] hp (fun v hp'=>v=Bh (B2 X.key [] w)∧(∀a,hp a≠none→¬CI o a→hp' a=hp a)∧Qs o X.key w hp'):=by
 refine xa1_1 T.f_one ?_;intro r hf
 refine xa1_1 T.f_all ?_;intro r' hf'
 refine CX (body:=KK.body) hf (Ll C r _ _) (fun L=>?_) (by with_reducible exact Gh ‹_›) (by kernel_rfl) (by kernel_rfl) (by kernel_rfl) (by kernel_rfl) (by kernel_rfl)
 have c1:=MP (A:=A.deeper (callEnv (r.fd KK .none) L 80)) (tv:=tv) T (by show A.depth+1+1<recursionLimit;with_reducible exact JY ‹_› (by decide)) hr hlo
 refine Ab (Ai (AA (Ac rfl (B5 T.m_all hr.tree hr.ns rfl (A2 (Ac rfl (Ax (A5 (AS hf' (Fn.mono c1 ?_))))))))))
 (rintro v hp1;intro zr;refine xa4_5 zr ?_;(try clear zr);intro rg Lg ga g;rintro rfl;intro hG hL0 hg0 hk1)
 have hr1:AN X t d true ci hp1:=hr.off (fun a hF=>hk1 a (hr.some hF))
 have hsq1:Cm o tv2 (w.map Au.av) hp1:=hsq.keep (EJ.of hsq fun l x hl zu=>(hk1 l (by rw [hl];simp)).trans hl)
 refine Ab ?_
 intro F G s hR
 have hgl:(Al.set ⟨[("text",tv),("self",.ref t)],hp1⟩ "result_gen" (.ref ga)).v "result_gen" = some (.ref ga):=Av
 refine wpAny_Try_except (wpAny_execs_cons (wpAny_Return_some ?_))
 show wpAny _ _ (eval _ _ >>= fun f=>callWith _ f [] _ _) _ _ _
 refine wpAny_bind (Tr.use (Bt (Q:=fun v σ'=>v=.val (.builtin "next")∧σ'=Al.set ⟨[("text",tv),("self",.ref t)],hp1⟩ "result_gen" (.ref ga)) T.g_next ⟨rfl,rfl⟩) hR (fun F1 b σ1 v1 s1 e1 hv hR1 q=>?_))
 refine xa0_2 q ?_;(try clear q);rintro rfl;rintro rfl
 (have zc:=VR.valI hv;clear hv;subst zc)
 refine Cc (BC rfl rfl (Tr.use (A2 (Q:=fun vs σ'=>vs=[.ref ga]∧σ'=Al.set ⟨[("text",tv),("self",.ref t)],hp1⟩ "result_gen" (.ref ga)) (Ac hgl (Ax ⟨rfl,rfl⟩))) hR1 (fun F2 b σ2 vs s2 e2 hvs hR2 q=>?_)))
 refine xa0_2 q ?_;(try clear q);rintro rfl;rintro rfl
 refine xa2_3 hvs.inv ?_;intro v3 zu;rintro rfl;intro hv3 hvs
 obtain rfl:=hvs.inv0
 (have zc:=VR.refI hv3;clear hv3;subst zc)
 refine Tr.use (A5 (Q:=fun ks σ'=>ks=[]∧σ'=Al.set ⟨[("text",tv),("self",.ref t)],hp1⟩ "result_gen" (.ref ga)) ⟨rfl,rfl⟩) hR2 (fun F3 b σ3 ks s3 e3 hks hR3 q=>?_)
 refine xa0_2 q ?_;(try clear q);rintro rfl;rintro rfl
 obtain rfl:=hks.inv0
 refine ⟨KeepOk_plain (by intro a;simp),?_⟩
 have hfrm:∀{hp':HP} {ea ia ba jx:Addr},(hp1 ea=none∧(hp1 ia=none∨o=.rd ia)∧hp1 ba=none∧jx=ga)→(∀a,hp1 a≠none→a≠ga→a≠ea→a≠ia→a≠Lg→a≠jx→hp' a=hp1 a)→∀a,hp a≠none→¬CI o a→hp' a=hp a:=by
  intro hp' ea ia ba jx ⟨p1,p2,p3,p4⟩ h a ha hoa
  have e:=hk1 a ha
  have h1:hp1 a≠none:=by rw [e];exact ha
  rw [←e]
  refine h a h1 ?_ ?_ ?_ ?_ ?_
  ·rintro rfl;exact ha hg0
  ·rintro rfl;exact h1 p1
  ·rintro rfl;exact p2.elim h1 hoa
  ·rintro rfl;exact ha hL0
  ·rw [p4];rintro rfl;exact ha hg0
 refine wpAny_mono (Ic (X:=X) (rem:=B2 X.key [] w) (A:=A.deeper (callEnv (r.fd KK .none) L 80)) (by exact hA) hl (by show A.depth+1<recursionLimit;with_reducible exact LS ‹_› (by decide)) (Hv hR3) hG.gen (.inl ⟨rfl,rfl,rfl⟩) (GV T (by exact hA) (Hv hR3) (show Fs (A.deeper _) _ from Jt hR3) hX hz hr1 hG.nc hG.gen hG.frm hsq1)) (fun v s4 z=>?_) (fun e s4 z=>?_)
 ·refine cps fun zP zk=>?_;(rcases z with ⟨⟨y,ys,hrem⟩,F4,hp4,ea,ia,ba,jx,hpd,ex,W4,hfr,hm⟩)<;>(refine zk ?_;clear zk zP)
  have hR4:=FI hR3 ex W4
  rw [hrem] at hm ⊢
  refine xa5_6 hm ?_;(try clear hm);intro v' u k rest ja hv' hvr hgs zu zu htk
  (have zc:=Option.some.inj hv';clear hv';subst zc)
  have haft:Qs o X.key w hp4:=by
   cases o with
   |own=>trivial
   |live l=>trivial
   |rd r=>show (match B2 X.key [] w with | []=>Ct r hp4 []|y::_=>∃u k rest,Lt X.key w u k rest y∧Ct r hp4 (rest.map Au.av));rw [hrem];exact ⟨u,k,rest,htk,hgs.src.reader⟩
  exact ⟨F4,.ret y,_,e1.trans (e2.trans (e3.trans ex)),.ret hvr,hR4,rfl,hfrm hpd hfr,haft⟩
 ·refine cps fun zP zk=>?_;(rcases z with ⟨hrem,x,F4,hp4,ea,ia,ba,jx,rfl,hpd,ex,W4,hlo,⟨oe,vs,hoe,hc,hd,h1⟩,hfr,hend⟩)<;>(refine zk ?_;clear zk zP)
  have hR4:=FI hR3 ex W4
  replace hlo:=KV hR3 hlo
  have ee:=e1.trans (e2.trans (e3.trans ex))
  have haft:Qs o X.key w hp4:=by
   cases o with
   |own=>trivial
   |live l=>trivial
   |rd r=>show (match B2 X.key [] w with | []=>Ct r hp4 []|y::_=>∃u k rest,Lt X.key w u k rest y∧Ct r hp4 (rest.map Au.av));rw [hrem];exact hend
  have hq:AV.none=Bh (B2 X.key [] w):=by rw [hrem];rfl
  refine wpAny_mono (MG (E:=Bj) (T:="StopIteration") (Q:=fun fl σ'=>match fl with|.ret v=>v=Bh (B2 X.key [] w)∧(∀a,hp a≠none→¬CI o a→σ'.hp a=hp a)∧Qs o X.key w σ'.hp|_=>False) hR4 hlo hoe hc hd h1 (by rfl) HK Ia HJ T.g_SI (Ab (Cg (B0 ⟨hq,hfrm hpd hfr,haft⟩))) (by rfl) (by rfl) (by rfl) (by rfl) (by decide)) (fun zu zu z=>wpAny_mono z (fun zu zu z=>wpAny_mono z (fun fl s5 z=>?_) fun zu zu x=>x) fun zu zu x=>x) fun zu zu x=>x
  refine cps fun zP zk=>?_;(rcases z with ⟨F5,b,σ5,e5,r5,hR5,q5⟩)<;>(refine zk ?_;clear zk zP)
  refine ⟨F5,b,σ5,ee.trans e5,r5,hR5,?_⟩
  cases b with
  |ret v=>exact q5
  |_=>exact q5.elim
end
section
section
variable {C:Cf} {A:Around} {s:Shared} {hp:HP} {F G:FH} {E:Value→Shared→Prop}
noncomputable abbrev GC (vs:List Value) (n:Nat):Obj:={ cls:=.type "list",dict:=none,data:=.seq vs.toArray n,slots:=#[] }
theorem Ir {G:FH} {S:Addr} {o:Obj} (h:G S=none):AG G (AM G S o):=AR o h
theorem Fs.put {S:Addr} {o:Obj} (h:Fs A G) (hG:G S=none):Fs A (AM G S o):=let ⟨l,a,b⟩:=h;⟨l,a,fun e he=>(b e he).mono (Ir hG)⟩
theorem Wd.turnG {S:Addr} {o o':Obj} (W:Wd C F (AM G S o) hp s) {h':Heap} {t:Nat} (ho:h'.get? S=some o') (k:∀b ob,b≠S→s.heap.get? b=some ob→h'.get? b=some ob):Wd C F (AM G S o') hp ⟨h',s.gens,s.drawn,t,s.os⟩:=by
 have hS:AM G S o S=some o:=Ar _ _ _
 have no:∀{b},AM G S o b=none→b≠S∧AM G S o' b=none:=fun {b} e=>by
  have n:b≠S:=by rintro rfl;rw [hS] at e;exact Ap e
  rw [A0 _ _ n] at e
  exact ⟨n,by rw [A0 _ _ n];exact e⟩
 refine ⟨W.base,fun b ob e=>k b ob (no (W.fg b ob e)).1 (W.fz b ob e),fun b ob e=>?_,fun a x e=>?_,W.os,W.bare,W.gi,fun b ob e=>(no (W.fg b ob e)).2⟩
 ·by_cases q:b=S
  ·subst q;rw [Ar] at e;(have zc:=Option.some.inj e;clear e;subst zc);exact ⟨_,ho,.inl rfl⟩
  ·rw [A0 _ _ q] at e
   refine xa1_2 (W.gz b ob (by rw [A0 _ _ q];exact e)) ?_;intro o2 h1 h2
   exact ⟨o2,k _ _ q h1,h2⟩
 ·refine cps fun zP zk=>?_;(rcases W.ob a x e with ⟨p,q,o2,h1,r⟩)<;>(refine zk ?_;clear zk zP)
  exact ⟨p,(no q).2,o2,k _ _ (no q).1 h1,r⟩
theorem Wd.pushG (W:Wd C F G hp s) {t:Nat} {o:Obj} (hf:o.isFreed=false):Wd C F (AM G s.heap.objs.size o) hp ⟨s.heap.push o,s.gens,s.drawn,t,s.os⟩:=by
 refine xa0_3 (W.lt (Nat.le_refl _)) ?_;intro z1 z2 z3
 have k:∀b ob,s.heap.get? b=some ob→(s.heap.push o).get? b=some ob:=fun b ob e=>Heap.get?_push_of_some _ e
 refine ⟨W.base,fun b ob e=>k _ _ (W.fz b ob e),fun b ob e=>?_,fun a x e=>?_,W.os,W.bare,W.gi,fun b ob e=>?_⟩
 ·by_cases q:b=s.heap.objs.size
  ·subst q;rw [Ar] at e;(have zc:=Option.some.inj e;clear e;subst zc);exact ⟨_,Heap.get?_push_size _ hf,.inl rfl⟩
  ·rw [A0 _ _ q] at e
   refine xa1_2 (W.gz b ob e) ?_;intro o2 h1 h2
   exact ⟨o2,k _ _ h1,h2⟩
 ·refine cps fun zP zk=>?_;(rcases W.ob a x e with ⟨p,q,o2,h1,r⟩)<;>(refine zk ?_;clear zk zP)
  exact ⟨p,(A0 _ _ (by rintro rfl;rw [z3] at e;exact Ak e)).trans q,o2,k _ _ h1,r⟩
 ·rw [A0]
  ·exact W.fg b ob e
  ·rintro rfl;rw [z1] at e;exact Ak e
theorem Wd.heldAt {S:Addr} {o:Obj} (W:Wd C F (AM G S o) hp s) (hd:∀es ep,o.data≠.dict es ep):s.heap.get? S=some o:=by
 refine xa1_2 (W.gz S o (Ar _ _ _)) ?_;intro o' h1 g
 rw [h1,g.exact hd]
theorem Wd.heldOff {S:Addr} {o:Obj} (W:Wd C F (AM G S o) hp s):F S=none∧hp S=none:=by
 refine ⟨?_,?_⟩
 ·cases q:F S with
  |none=>rfl
  |some o'=>have:=W.fg S o' q;rw [Ar] at this;exact Ap this
 ·cases q:hp S with
  |none=>rfl
  |some o'=>have:=(W.ob S o' q).2.1;rw [Ar] at this;exact Ap this
theorem Wd.sealG {S:Addr} {o:Obj} (W:Wd C F (AM G S o) hp s) (hG:G S=none) (hd:∀es ep,o.data≠.dict es ep):Wd C (AM F S o) G hp s∧AG F (AM F S o):=by
 refine xa0_2 W.heldOff ?_;intro z1 z3
 have ex:=AR o z1
 have no:∀{b},AM G S o b=none→b≠S∧G b=none:=fun {b} e=>by
  have n:b≠S:=by rintro rfl;rw [Ar] at e;exact Ap e
  rw [A0 _ _ n] at e
  exact ⟨n,e⟩
 refine ⟨⟨fun b ob e=>ex _ _ (W.base b ob e),fun b ob e=>?_,fun b ob e=>W.gz b ob (Ir hG _ _ e),fun a x e=>?_,W.os,W.bare,W.gi,fun b ob e=>?_⟩,ex⟩
 ·by_cases q:b=S
  ·subst q;rw [Ar] at e;(have zc:=Option.some.inj e;clear e;subst zc);exact W.heldAt hd
  ·rw [A0 _ _ q] at e;exact W.fz b ob e
 ·refine cps fun zP zk=>?_;(rcases W.ob a x e with ⟨p,q,o2,h1,r⟩)<;>(refine zk ?_;clear zk zP)
  exact ⟨by rw [A0 _ _ (no q).1];exact p,(no q).2,o2,h1,r.mono ex⟩
 ·by_cases q:b=S
  ·subst q;exact hG
  ·rw [A0 _ _ q] at e;exact (no (W.fg b ob e)).2
noncomputable def QM (C:Cf) (G F:FH) (Q:AV→HP→Prop) (v:Value) (s':Shared):Prop:=∃F' av hp',AG F F'∧VR F' av v∧Wd C F' G hp' s'∧Q av hp'
noncomputable def Cl (C:Cf) (A:Around) (f:Value) (args:List AV) (hp:HP) (Q:AV→HP→Prop):Prop:=
 ∀F G s vs (E:Value→Shared→Prop),Fs A G→Wd C F G hp s→VRs F args vs→wpAny (model C.prog C.w) A (PySem.call f vs) (QM C G F Q) E s
theorem Fn.cl {f:Value} {args:List AV} {Q:AV→HP→Prop} (h:Fn C A f args [] hp Q):Cl C A f args hp Q:=fun F G s vs E fs W hv=>
 wpAny_call (codeAny_mono (h F G s vs [] fs W hv .nil) fun r s' ⟨F',v,av,hp',a,b,c,d,q⟩=>by subst a;exact ⟨F',av,hp',b,c,d,q⟩)
theorem Cl.mono {f:Value} {args:List AV} {Q Q':AV→HP→Prop} (h:Cl C A f args hp Q) (k:∀v hp',Q v hp'→Q' v hp'):Cl C A f args hp Q':=fun F G s vs E fs W hv=>
 wpAny_mono (h F G s vs E fs W hv) (fun v s' ⟨F',av,hp',b,c,d,q⟩=>⟨F',av,hp',b,c,d,k _ _ q⟩) fun zu zu x=>x
inductive G5 (C:Cf) (X:Af) (t d:Addr) (hp:HP) (ga:Addr) (o:Co):Ag→Nat→Ag→(Addr→Prop)→Prop
 |fresh {r:FdRest} {L:Addr} {tv:AV} {g:Nat} {w:Ag}:NV r L t tv hp ga g→Cm o tv (w.map Au.av) hp→¬Fp X t d ga→¬Fp X t d L→G5 C X t d hp ga o [] 0 w (fun a=>a=ga∨a=L)
 |susp {r:FdRest} {L ea ia ba ja:Addr} {g:Nat} {u rest:Ag} {k:Nat}:Cx (Az r L)→NU C X (Az r L) hp o ga ea ia ba ja g u k rest →
   ¬Fp X t d ga→¬Fp X t d L→¬Fp X t d ea→¬Fp X t d ia→¬Fp X t d ja→G5 C X t d hp ga o u k rest (fun a=>(a=ga∨a=L∨a=ea∨a=ia∨a=ba∨a=ja)∧¬CI o a)
noncomputable def Q7 (C:Cf) (F G:FH) (hp:HP) (X:Af) (t d ga:Addr) (o:Co) (u:Ag) (k:Nat) (rest:Ag) (N:Addr→Prop) (r:Option Value) (s₁:Shared):Prop:=
 ∃F' hp',AG F F'∧Wd C F' G hp' s₁∧(∀a,hp a≠none→¬N a→¬CI o a→hp' a=hp a) ∧
  match C7 X.key u k rest with
  |[]=>r=none∧HC o hp'
  |y::ys=>∃v N' u' k' rest',r=some v∧VR F' y v∧G5 C X t d hp' ga o u' k' rest' N'∧ys=C7 X.key u' k' rest'∧Lt X.key (u++rest) u' k' rest' y∧∀a,N' a→N a∨hp a=none
theorem Jb (key:Ag→Option AV) (w:Ag):C7 key [] 0 w=B2 key [] w:=rfl
theorem G5.next (T:Tp C) {X:Af} {t d ga:Addr} {ci:Bool} {o:Co} {u rest:Ag} {k:Nat} {N:Addr→Prop} (hA:A.handled=none) (hl:C.h0.NoLimit) (hroom:A.depth<recursionLimit) (W:Wd C F G hp s) (hFs:Fs A G) (hX:X.Ph3) (hz:∀p∈X.D,p.length≤1000) (hr:AN X t d true ci hp) (hS:G5 C X t d hp ga o u k rest N) :
  wpAny (model C.prog C.w) A (pyNext (.ref ga)) (Q7 C F G hp X t d ga o u k rest N) Bj s:=by
 cases hS with
 |@fresh r L tv g w hF hq f1 f2=>
  refine wpAny_mono (KT T hA hl hroom W hFs hX hz hr hF.nc hF.gen hF.frm hq) (fun res s₁ z=>?_) fun zu zu x=>x
  refine xa6_5 z ?_;(try clear z);intro F' hp' ea ia ba jx;intro zq;refine xa0_4 zq ?_;(try clear zq);intro p1 p2 p3;rintro rfl;intro e W' fr hm
  refine ⟨F',hp',e,W',fun a h1 h2 h3=>fr a h1 (fun q=>h2 (.inl q)) (fun q=>h1 (q▸p1)) (fun q=>p2.elim (fun p2=>h1 (q▸p2)) fun p2=>h3 (q▸p2)) (fun q=>h2 (.inr q)) (fun q=>h2 (.inl q)),?_⟩
  rw [Jb]
  cases hrem:B2 X.key [] rest with
  |nil=>rw [hrem] at hm;exact hm
  |cons y ys=>
   rw [hrem] at hm
   refine xa5_6 hm ?_;(try clear hm);intro v u k rest' ja q1 q2 q3 q4 q5 tk
   have nf:∀{a},hp a=none→¬Fp X t d a:=fun h hf=>hr.some hf h
   have fja:¬Fp X t d ja:=by
    rcases q5 with q5|q5
    ·exact nf q5
    ·rw [q5];exact f1
   have fia:¬Fp X t d ia:=by
    rcases p2 with p2|p2
    ·exact nf p2
    ·subst p2
     cases hq with
     |rd h=>
      refine xa2_1 h.at ?_;intro c vs q
      rintro (e|e|⟨p,hp',e|e⟩)
      ·rw [e,hr.tree] at q;exact AO.noConfusion (Option.some.inj q)
      ·rw [e,hr.ns] at q;exact AO.noConfusion (Option.some.inj q)
      ·rw [e,hr.nd p hp'] at q;exact AO.noConfusion (Option.some.inj q)
      ·refine xa1_1 (hr.td p hp') ?_;intro ep h;rw [e,h] at q;exact AO.noConfusion (Option.some.inj q)
   refine ⟨v,_,u,k,rest',q1,q2,G5.susp hF.nc q3 f1 f2 (nf p1) fia fja,q4,tk,fun a ha=>?_⟩
   rcases ha with ⟨rfl|rfl|rfl|rfl|rfl|rfl,hO⟩
   ·exact .inl (.inl rfl)
   ·exact .inl (.inr rfl)
   ·exact .inr p1
   ·exact .inr (p2.resolve_right hO)
   ·exact .inr p3
   ·rcases q5 with q5|q5
    ·exact .inr q5
    ·exact .inl (.inl q5)
 |@susp r L ea ia ba ja g _ _ _ nc hG f1 f2 f3 f4 f5=>
  refine wpAny_mono (M0 T hA hl hroom W hFs hX hz hr nc hG) (fun res s₁ z=>?_) fun zu zu x=>x
  refine xa6_5 z ?_;(try clear z);intro F' hp' ea' ia' ba' jx;intro zq;refine xa0_4 zq ?_;(try clear zq);rintro rfl;rintro rfl;rintro rfl;rintro rfl;intro e W' fr hm
  refine ⟨F',hp',e,W',fun a h1 h2 h3=>fr a h1 (fun q=>h2 ⟨.inl q,h3⟩) (fun q=>h2 ⟨.inr (.inr (.inl q)),h3⟩) (fun q=>h2 ⟨.inr (.inr (.inr (.inl q))),h3⟩) (fun q=>h2 ⟨.inr (.inl q),h3⟩) (fun q=>h2 ⟨.inr (.inr (.inr (.inr (.inr q)))),h3⟩),?_⟩
  cases hrem:C7 X.key u k rest with
  |nil=>rw [hrem] at hm;exact hm
  |cons y ys=>
   rw [hrem] at hm
   refine xa5_6 hm ?_;(try clear hm);intro v u' k' rest' ja' q1 q2 q3 q4 q5 tk
   have nf:∀{a},hp a=none→¬Fp X t d a:=fun h hf=>hr.some hf h
   have fja:¬Fp X t d ja':=by
    rcases q5 with q5|q5
    ·exact nf q5
    ·rw [q5];exact f5
   refine ⟨v,_,u',k',rest',q1,q2,G5.susp nc q3 f1 f2 f3 f4 fja,q4,tk,fun a ha=>?_⟩
   rcases ha with ⟨rfl|rfl|rfl|rfl|rfl|rfl,hO⟩
   ·exact .inl ⟨.inl rfl,hO⟩
   ·exact .inl ⟨.inr (.inl rfl),hO⟩
   ·exact .inl ⟨.inr (.inr (.inl rfl)),hO⟩
   ·exact .inl ⟨.inr (.inr (.inr (.inl rfl))),hO⟩
   ·exact .inl ⟨.inr (.inr (.inr (.inr (.inl rfl)))),hO⟩
   ·rcases q5 with q5|q5
    ·exact .inr q5
    ·exact .inl ⟨.inr (.inr (.inr (.inr (.inr q5)))),hO⟩
theorem G5.gen {X:Af} {t d ga:Addr} {hp:HP} {o:Co} {u rest:Ag} {k:Nat} {N:Addr→Prop} (h:G5 C X t d hp ga o u k rest N):∃g gs,hp ga=some (.gen g gs):=by
 cases h with
 |fresh a=>exact ⟨_,_,a.gen⟩
 |susp zu a=>refine xa1_2 a.gen ?_;intro gs h zu;exact ⟨_,gs,h⟩
theorem KD {X:Af} {t d:Addr} {f ci:Bool} {hp:HP} (hr:AN X t d f ci hp) {a:Addr} (hf:Fp X t d a) {c:String} {vs:List AV} (q:hp a=some (AO.itr c vs)):False:=by
 rcases hf with e|e|⟨p,hp',e|e⟩
 ·rw [e,hr.tree] at q;exact AO.noConfusion (Option.some.inj q)
 ·rw [e,hr.ns] at q;exact AO.noConfusion (Option.some.inj q)
 ·rw [e,hr.nd p hp'] at q;exact AO.noConfusion (Option.some.inj q)
 ·refine xa1_1 (hr.td p hp') ?_;intro ep h;rw [e,h] at q;exact AO.noConfusion (Option.some.inj q)
theorem G5.reader {X:Af} {t d ga r:Addr} {hp:HP} {u rest:Ag} {k:Nat} {N:Addr→Prop} (h:G5 C X t d hp ga (.rd r) u k rest N):Ct r hp (rest.map Au.av):=by
 cases h with
 |fresh a q=>
  cases q with
  |rd h=>exact h
 |susp zu a=>exact a.src.reader
theorem G5.sepO {X:Af} {t d ga:Addr} {ci:Bool} {hp:HP} {o:Co} {u rest:Ag} {k:Nat} {N:Addr→Prop} (hr:AN X t d true ci hp) (h:G5 C X t d hp ga o u k rest N) {a:Addr} (hf:Fp X t d a):¬CI o a:=by
 intro q
 unfold CI at q
 subst q
 refine xa2_1 h.reader.at ?_;intro c vs e
 exact KD hr hf e
theorem G5.sep {X:Af} {t d ga:Addr} {ci:Bool} {hp:HP} {o:Co} {u rest:Ag} {k:Nat} {N:Addr→Prop} (hr:AN X t d true ci hp) (h:G5 C X t d hp ga o u k rest N) {a:Addr} (hf:Fp X t d a):¬N a:=by
 cases h with
 |fresh g q f1 f2=>
  rintro (rfl|rfl)
  ·exact f1 hf
  ·exact f2 hf
 |susp nc g f1 f2 f3 f4 f5=>
  (intro zr;(refine xa0_2 zr ?_;(try clear zr);rintro (rfl|rfl|rfl|rfl|rfl|rfl))<;>(intro hO))
  ·exact f1 hf
  ·exact f2 hf
  ·exact f3 hf
  ·exact f4 hf
  ·have hb:=g.bnd
   rcases hf with rfl|rfl|⟨p,hp',rfl|rfl⟩
   ·rw [hr.tree] at hb;exact AO.noConfusion (Option.some.inj hb)
   ·rw [hr.ns] at hb;exact AO.noConfusion (Option.some.inj hb)
   ·rw [hr.nd p hp'] at hb;exact AO.noConfusion (Option.some.inj hb)
   ·refine xa1_1 (hr.td p hp') ?_;intro ep h;rw [h] at hb;exact AO.noConfusion (Option.some.inj hb)
  ·exact f5 hf
theorem G5.notO {X:Af} {t d ga:Addr} {hp:HP} {o:Co} {u rest:Ag} {k:Nat} {N:Addr→Prop} (h:G5 C X t d hp ga o u k rest N) {a:Addr} (ha:N a):¬CI o a:=by
 cases h with
 |fresh g q f1 f2=>
  intro e
  unfold CI at e
  subst e
  cases q with
  |rd h=>
   refine xa2_1 h.at ?_;intro c vs e
   rcases ha with rfl|rfl
   ·rw [g.gen] at e;exact AO.noConfusion (Option.some.inj e)
   ·rw [g.frm] at e;exact AO.noConfusion (Option.some.inj e)
 |susp nc g f1 f2 f3 f4 f5=>exact ha.2
noncomputable def PS (C:Cf) (A:Around) (G:FH) (S it:Addr) (J:List AV→HP→Prop) (Q:HP→Prop):Prop:=
 ∀rem F hp s vs n,Wd C F (AM G S (GC vs n)) hp s→J rem hp→wpAny (model C.prog C.w) A.in1 (pyNext (.ref it)) (fun r s₁=>∃F' hp',AG F F'∧Wd C F' (AM G S (GC vs n)) hp' s₁∧match rem with
  |[]=>r=none∧Q hp'
  |y::ys=>∃v,r=some v∧VR F' y v∧J ys hp') Bj s
theorem Fs.putL {S:Addr} (hFs:Fs A (AM G S (GC [] 0))) (vs:List Value) (n:Nat):Fs A.in1 (AM G S (GC vs n)):=by
 refine xa1_2 hFs ?_;(try clear hFs);intro l a b
 refine ⟨l,a,fun e he=>?_⟩
 refine cps fun zP zk=>?_;(rcases b e he with ⟨p,L,o,h1,h2,es,ep,h3⟩)<;>(refine zk ?_;clear zk zP)
 refine ⟨p,L,o,h1,?_,es,ep,h3⟩
 by_cases q:L=S
 ·subst q;rw [Ar] at h2;(have zc:=Option.some.inj h2;clear h2;subst zc);cases h3
 ·rw [A0 _ _ q] at h2 ⊢;exact h2
theorem M2 {it S:Addr} {J:List AV→HP→Prop} {Q:HP→Prop} (nx:PS C A G S it J Q) {F₀:FH} {R:Result→Shared→Prop} :
  ∀(rem:List AV) (ys:List AV) (vs:List Value) (n:Nat) (F:FH) (hp:HP) (s:Shared),ys.length+rem.length≤100000→AG F₀ F→VRs F ys vs→Wd C F (AM G S (GC vs n)) hp s→J rem hp →
   (∀F' hp' s' us m,AG F₀ F'→VRs F' (ys++rem) us→Wd C F' (AM G S (GC us m)) hp' s'→Q hp'→R (.ok (.ret .none)) s') →
   codeAny (model C.prog C.w) A (.builtin "list.extend.loop" ⟨[.ref S,.ref it,.none],[]⟩) R s:=by
 intro rem
 induction rem with
 |nil=>
  intro ys vs n F hp s hlen e hv W hJ hR'
  refine codeAny_builtin PySem.F.entry_extend_loop ?_
  rw [Around.under_plainId PySem.F.plain_extend_loop _]
  show wpAny _ A.in1 (pyNext (.ref it) >>= _) _ _ s
  refine wpAny_bind (wpAny_mono (nx _ _ _ _ _ _ W hJ) (fun r s₁ z=>?_) fun zu zu x=>x.elim)
  refine xa2_4 z ?_;(try clear z);intro F' hp' e' W₁;rintro rfl;intro hq
  exact wpAny_pure (hR' F' hp' s₁ vs n (e.trans e') (by rw [List.append_nil];exact hv.mono e') W₁ hq)
 |cons y rem ih=>
  intro ys vs n F hp s hlen e hv W hJ hR'
  refine codeAny_builtin PySem.F.entry_extend_loop ?_
  rw [Around.under_plainId PySem.F.plain_extend_loop _]
  show wpAny _ A.in1 (pyNext (.ref it) >>= _) _ _ s
  refine wpAny_bind (wpAny_mono (nx _ _ _ _ _ _ W hJ) (fun r s₁ z=>?_) fun zu zu x=>x.elim)
  refine cps fun zP zk=>?_;(rcases z with ⟨F',hp',e',W₁,v,rfl,hvy,hJ'⟩)<;>(refine zk ?_;clear zk zP)
  show wpAny _ A.in1 (updateSeq S (·.push v) >>= _) _ _ _
  refine wpAny_bind ?_
  have hL:=W₁.heldAt (fun zu zu z=>nomatch z)
  have hvs:=hv.mono e'
  have e1:=hvs.length
  have e2:ys.length+(rem.length+1)≤100000:=hlen
  have z1:vs.toArray.size<sizeLine:=by simp only [List.size_toArray,e1,sizeLine_eq];exact B6 [_,_] [(1,(Za Z0 (Zs Z1)),(Zn 100000))] Z0 (Zn 16777216) rfl e2
  refine wpAny_updateSeq hL rfl (wpAny_pure ⟨plainId_quiet PySem.F.plain_extend_loop _,?_⟩) (Nat.le_of_lt z1) (by show (vs.toArray.push v).size≤sizeLine+1;rw [Array.size_push];exact Nat.succ_le_succ (Nat.le_of_lt z1))
  have hL2:IsL s₁.heap S vs.toArray n:=hL
  have hL':=hL2.update (fun x=>x.push v)
  rw [List.push_toArray] at hL'
  have W₂:=W₁.turnG (t:=s₁.toks) hL' (SameBut.rest (Heap.SameBut.update ..))
  exact ih (ys++[y]) (vs++[v]) _ F' hp' _ (by rw [List.length_append,Nat.add_assoc,Nat.add_comm _ rem.length];exact hlen) (e.trans e') (hvs.append (.cons hvy .nil)) W₂ hJ' (fun F₅ hp₅ s₅ us m e₅ hv₅ W₅ hq=>hR' F₅ hp₅ s₅ us m e₅ (by simpa using hv₅) W₅ hq)
theorem N4 {it:Addr} {J:List AV→HP→Prop} {Q:HP→Prop} {rem:List AV} (hlen:rem.length≤100000) (hJ:J rem hp) (hne:hp it≠none)
  (nx:∀G S,Fs A (AM G S (GC [] 0))→PS C A.in1 G S it J Q)
  (room:∀(F G:FH) (s:Shared) (S n:Nat) (R:Result→Shared→Prop),Wd C F (AM G S (GC [] n)) hp s→S≠it →
   (∀s' n',Wd C F (AM G S (GC [] n')) hp s'→codeAny (model C.prog C.w) A.in1 (.builtin "list.extend.loop" ⟨[.ref S,.ref it,.none],[]⟩) R s') →
   wpAny (model C.prog C.w) A.in1.in1 (Builtin.List.listExtendWith (.ref S) (.ref it) .none) (fun fin s'=>match fin with|.done f=>R (.ok f) s'|.again c'=>c'.quiet=true∧codeAny (model C.prog C.w) A.in1 c' R s') (fun e s'=>R (.error e) s') s) :
  Cl C A (.type "list") [.ref it] hp (fun v hp'=>v=.lst rem∧Q hp'):=by
 intro F G s vs E hFs W hvs
 refine xa2_3 hvs.inv ?_;intro v2 us2;rintro rfl;intro h3 h4
 obtain rfl:=h4.inv0
 obtain rfl:=h3.refI
 refine callType_codes (Q₁:=fun obj s₁=>obj=.ref s.heap.objs.size∧s₁={ s with heap:=s.heap.push { cls:=.type "list",data:=.seq #[] } }) PySem.F.called_list (PySem.F.typeCall_list_1 _) PySem.F.entry_list_init
  (code_list_new _ ⟨rfl,rfl⟩) fun obj s₁ h₁=>?_
 refine xa0_2 h₁ ?_;(try clear h₁);rintro rfl;rintro rfl
 have hS0:(s.heap.push { cls:=.type "list",data:=.seq #[] }).get? s.heap.objs.size=some { cls:=.type "list",data:=.seq #[] }:=Heap.get?_push_size _ rfl
 have hG:=(W.lt (Nat.le_refl s.heap.objs.size)).2.1
 have hd0:=(W.lt (Nat.le_refl s.heap.objs.size)).2.2
 have W1:=W.pushG (t:=s.toks) (o:=GC [] 0) rfl
 generalize hSS:s.heap.objs.size=S at hS0 W1 hd0 hG ⊢
 have hne:S≠it:=by rintro rfl;exact hne hd0
 refine ⟨⟨_,hS0,rfl⟩,PySem.F.args_list_init_2 _ _,?_⟩
 show wpAny _ A.in1.in1 (do let old ←Builtin.List.listItems (.ref S);Builtin.List.listUpdate (.ref S) (fun zu=>#[]);letGo old.toList.reverse;Builtin.List.listExtendWith (.ref S) (.ref it) .none) _ _ _
 refine wpAny_bind ?_
 unfold Builtin.List.listItems
 refine wpAny_bind (wpAny_seqItems hS0 rfl (wpAny_pure ?_))
 show wpAny _ A.in1.in1 (updateSeq S (fun zu=>#[]) >>= fun zu=>letGo (#[]:Array Value).toList.reverse >>= fun zu=>Builtin.List.listExtendWith (.ref S) (.ref it) .none) _ _ _
 refine wpAny_bind (wpAny_updateSeq hS0 rfl ?_)
 have hS2:=Heap.get?_update_self (Obj.mapSeq (fun zu=>(#[]:Array Value))) hS0 rfl
 have W2:=W1.turnG (t:=s.toks) hS2 (SameBut.rest (Heap.SameBut.update ..))
 refine wpAny_bind (wpAny_letGo ?_)
 refine room F G _ S _ _ W2 hne fun s' n' W3=>?_
 refine M2 (F₀:=F) (nx G S (Fs.put hFs hG)) rem [] [] n' F hp s' (by simpa using hlen) (AG.refl F) .nil W3 hJ (fun F' hp' s'' us m e' hv' W' hq=>?_)
 refine xa0_2 (W'.sealG hG (fun zu zu z=>nomatch z)) ?_;intro W5 e5
 exact ⟨rfl,_,.lst rem,hp',e'.trans e5,.lst (Ar _ _ _) rfl rfl (by simpa using hv'.mono e5),W5,rfl,hq⟩
theorem IZ {S it:Addr} (h:S≠it):Builtin.List.listSameRef (.ref S) (.ref it)=false:=by simp [Builtin.List.listSameRef,h]
theorem Mi (T:Tp C) {X:Af} {t d ga:Addr} {ci:Bool} {o:Co} {u rest:Ag} {k:Nat} {N:Addr→Prop} (hA:A.handled=none) (hl:C.h0.NoLimit) (hroom:A.depth+2<recursionLimit) (hX:X.Ph3) (hz:∀p∈X.D,p.length≤1000) (hr:AN X t d true ci hp) (hS:G5 C X t d hp ga o u k rest N)
  (hlen:(C7 X.key u k rest).length≤100000):Cl C A (.type "list") [.ref ga] hp (fun v hp'=>v=.lst (C7 X.key u k rest)∧(∀a,hp a≠none→¬N a→¬CI o a→hp' a=hp a)∧HC o hp'):=by
 refine xa2_1 hS.gen ?_;intro g0 gs0 hga
 refine N4 (J:=fun rem hp'=>∃u' k' rest' N',C7 X.key u' k' rest'=rem∧AN X t d true ci hp'∧G5 C X t d hp' ga o u' k' rest' N'∧(∀a,hp a≠none→¬N a→¬CI o a→hp' a=hp a)∧∀a,N' a→N a∨hp a=none) hlen ⟨u,k,rest,N,rfl,hr,hS,fun zu zu zu zu=>rfl,fun a h=>.inl h⟩ (by rw [hga];exact fun z=>nomatch z) (fun G S hFs rem F hp' s vs n W hJ=>?_) (fun F G s S n R W hne hk=>?_)
 ·refine xa4_5 hJ ?_;(try clear hJ);intro u' k' rest' N';rintro rfl;intro hr' hS' hfr hN
  refine wpAny_mono (G5.next T (A:=A.in1.in1) hA hl (Nat.lt_of_succ_lt (Nat.lt_of_succ_lt hroom)) W (Fs.putL hFs vs n) hX hz hr' hS') (fun r s₁ z=>?_) fun zu zu x=>x
  refine xa2_4 z ?_;(try clear z);intro F' hp₁ e' W₁ fr hm
  have hfr':∀a,hp a≠none→¬N a→¬CI o a→hp₁ a=hp a:=fun a h1 h2 h3=>by
   rw [fr a (by rw [hfr a h1 h2 h3];exact h1) (fun h=>by rcases hN a h with q|q;exact h2 q;exact h1 q) h3]
   exact hfr a h1 h2 h3
  refine ⟨F',hp₁,e',W₁,?_⟩
  cases hrem:C7 X.key u' k' rest' with
  |nil=>rw [hrem] at hm;exact ⟨hm.1,hfr',hm.2⟩
  |cons y ys=>
   rw [hrem] at hm
   refine xa5_6 hm ?_;(try clear hm);intro v N₂ u₂ k₂ rest₂ h1 h2 hS₂ h4 zu hN₂
   refine ⟨v,h1,h2,u₂,k₂,rest₂,N₂,h4.symm,hr'.off fun a ha=>fr a (hr'.some ha) (hS'.sep hr' ha) (hS'.sepO hr' ha),hS₂,hfr',fun a ha=>?_⟩
   rcases hN₂ a ha with h|h
   ·exact hN a h
   ·by_cases q:N a
    ·exact .inl q
    ·right
     cases q2:hp a with
     |none=>rfl
     |some x=>rw [hfr a (by rw [q2];exact fun z=>nomatch z) q (hS₂.notO ha),q2] at h;exact Ap h
 ·have hT:s.TypeIs (.ref ga) "generator":=by
   refine cps fun zP zk=>?_;(rcases W.ob ga _ hga with ⟨zu,zu,o,ho,r⟩)<;>(refine zk ?_;clear zk zP)
   (refine OR.genC r fun zv zv zv zv a zv zv zv zv=>?_;clear r);exact ⟨o,ho,a⟩
  have hS2:=W.heldAt (fun zu zu z=>nomatch z)
  unfold Builtin.List.listExtendWith
  refine wpAny_bind (wpAny_typeOf hT ?_)
  have h2:(Value.type "generator" == Value.type "list")=false:=by decide
  have h3:(Value.type "generator" == Value.type "tuple")=false:=by decide
  simp only [IZ hne,h2,h3,Bool.or_false,Bool.false_eq_true,if_false]
  refine wpAny_bind (wpAny_pyIter_gen (W.gen hga).2 ?_)
  refine wpAny_bind (wpAny_holding ?_)
  unfold Builtin.List.listLengthHint
  refine wpAny_bind (wpAny_specialOf hT PySem.F.gen_no_len ?_)
  show wpAny _ A.in1.in1 (specialOf (Value.ref ga) (Str.ofString "__length_hint__") >>= _) _ _ _
  refine wpAny_bind (wpAny_specialOf hT PySem.F.gen_no_hint ?_)
  refine wpAny_pure ?_
  show wpAny _ A.in1.in1 (rule "list.extend.makes-room" >>= fun zu=>Builtin.List.listTouch (.ref S) >>= fun zu=>again (.builtin "list.extend.loop" ⟨[.ref S,.ref ga,.none],[]⟩)) _ _ _
  refine wpAny_bind (wpAny_rule ?_)
  refine wpAny_bind ?_
  show wpAny _ A.in1.in1 (updateSeq S (·.push .none) >>= fun zu=>updateSeq S (·.pop)) _ _ _
  refine wpAny_bind (wpAny_updateSeq hS2 rfl ?_)
  have hS3:=Heap.get?_update_self (Obj.mapSeq (·.push Value.none)) hS2 rfl
  refine wpAny_updateSeq (hz:=by seq_fits) hS3 rfl ?_
  have hS4:=Heap.get?_update_self (Obj.mapSeq (·.pop)) hS3 rfl
  have oth:∀(H:Heap) b o,b≠S→H.get? b=some o→((H.update S (Obj.mapSeq (·.push Value.none))).update S (Obj.mapSeq (·.pop))).get? b=some o:=
   fun H b o hb e=>(Heap.get?_update_other _ _ (Ne.symm hb)).trans ((Heap.get?_update_other _ _ (Ne.symm hb)).trans e)
  have W3:=W.turnG (t:=s.toks) hS4 (oth _)
  exact wpAny_pure ⟨plainId_quiet PySem.F.plain_extend_loop _,hk _ _ W3⟩
end
end
section
section
variable {C:Cf} {A:Around} {hp:HP} {s s':Shared} {env:Env} {F F':FH} {E:Value→Shared→Prop} {loc:PL}
noncomputable def Sub (hp hp':HP):Prop:=∀a x,hp a=some x→hp' a=some x
theorem Sub.refl (hp:HP):Sub hp hp:=fun zu zu e=>e
theorem Sub.of {hp hp':HP} (h:∀a,hp a≠none→hp' a=hp a):Sub hp hp':=fun a x e=>by rw [h a (by rw [e];exact fun z=>nomatch z)];exact e
noncomputable def DO (F:FH) (hp:HP) (h:Heap):FH:=fun b=>match F b,hp b with|none,none=>h.get? b|_,_=>none
theorem HS {h:Heap} {b:Addr} {o:Obj} (e:DO F hp h b=some o):F b=none∧hp b=none∧h.get? b=some o:=by
 unfold DO at e
 cases q1:F b with
 |some x=>rw [q1] at e;exact Ak e
 |none=>
  cases q2:hp b with
  |some x=>rw [q1,q2] at e;exact Ak e
  |none=>rw [q1,q2] at e;exact ⟨rfl,rfl,e⟩
theorem Ge {h:Heap} {b:Addr} (h1:F b=none) (h2:hp b=none):DO F hp h b=h.get? b:=by
 unfold DO
 rw [h1,h2]
theorem HR {h:Heap} {b:Addr} (k:F b=none→hp b=none→False):DO F hp h b=none:=by
 cases q:DO F hp h b with
 |none=>rfl
 |some o=>refine xa0_3 (HS q) ?_;intro h1 h2 zu;exact (k h1 h2).elim
theorem Wp.wd (w:Wp C A hp F s):Wd C F (DO F hp s.heap) hp s:=
 ⟨w.base,w.fz,fun b o e=>⟨o,(HS e).2.2,.inl rfl⟩,fun a x e=>⟨(w.ob a x e).1,HR (fun zu q=>by rw [e] at q;exact Ap q),(w.ob a x e).2⟩,w.os,w.bare,w.gi,fun b o e=>HR (fun q zu=>by rw [e] at q;exact Ap q)⟩
theorem Wp.fs (w:Wp C A hp F s):Fs A (DO F hp s.heap):=by
 refine xa1_2 w.fr ?_;intro l a b
 refine ⟨l,a,fun e he=>?_⟩
 refine cps fun zP zk=>?_;(rcases b e he with ⟨p,L,q1,q2,q3,o,q4,q5⟩)<;>(refine zk ?_;clear zk zP)
 exact ⟨p,L,o,q1,(Ge q2 q3).trans q4,q5⟩
theorem Wp.back (w:Wp C A hp F s) {hp':HP} (e:AG F F') (W:Wd C F' (DO F hp s.heap) hp' s') (hs:Sub hp hp'):BH C A hp F s F' s':=by
 have kg:∀b o,s.heap.get? b=some o→hp b=none→∃o',s'.heap.get? b=some o'∧FO o o':=fun b o h1 h2=>by
  cases q:F b with
  |none=>exact W.gz b o ((Ge q h2).trans h1)
  |some o'=>
   have:=w.fz _ _ q
   rw [h1] at this;(have zc:=Option.some.inj this;clear this;subst zc)
   exact ⟨o,W.fz _ _ (e _ _ q),.inl rfl⟩
 have off:∀{b o},s.heap.get? b=some o→F b=none→hp b=none→F' b=none:=fun {b o} h1 h2 h3=>by
  cases q:F' b with
  |none=>rfl
  |some o'=>have:=W.fg _ _ q;rw [Ge h2 h3,h1] at this;exact Ap this
 refine ⟨w,⟨W.base,W.fz,fun a x q=>⟨(W.ob a x (hs a x q)).1,(W.ob a x (hs a x q)).2.2⟩,W.os,W.bare,fun a b g gs gs' h1 h2=>W.gi a b g gs gs' (hs _ _ h1) (hs _ _ h2),?_⟩,e,kg,fun b o q=>?_⟩
 ·refine xa1_2 w.fr ?_;intro l a b
  refine ⟨l,a,fun y hy=>?_⟩
  refine cps fun zP zk=>?_;(rcases b y hy with ⟨p,L,q1,q2,q3,o,q4,es,ep,q5⟩)<;>(refine zk ?_;clear zk zP)
  refine xa1_2 (kg L o q4 q3) ?_;intro o' z1 z2
  exact ⟨p,L,q1,off q4 q2 q3,q3,o',z1,es,ep,z2.data.trans q5⟩
 ·cases z:s.heap.get? b with
  |none=>exact .inr rfl
  |some o'=>
   left
   cases z2:F b with
   |some o2=>have:=e _ _ z2;rw [q] at this;exact this.symm
   |none=>
    cases z3:hp b with
    |none=>rw [off z z2 z3] at q;exact Ak q
    |some x=>rw [(W.ob b x (hs _ _ z3)).1] at q;exact Ak q
inductive Args (hp:HP):List PV→List AV→Prop
 |nil:Args hp [] []
 |val {x pvs xs} (h:Args hp pvs xs):Args hp ((x,false)::pvs) (x::xs)
 |own {xs a pvs ys} (ho:hp a=some (.list xs)) (h:Args hp pvs ys):Args hp ((.lst xs,true)::pvs) (.ref a::ys)
theorem DM.args {pvs:List PV} {us:List Value} (r:DM hp F pvs us):∃xs,Args hp pvs xs∧VRs F xs us:=by
 induction r with
 |nil=>exact ⟨[],.nil,.nil⟩
 |cons a zu ih=>
  refine xa1_2 ih ?_;(try clear ih);intro ys h1 h2
  cases a with
  |val r=>exact ⟨_,.val h1,.cons r h2⟩
  |own ho=>exact ⟨_,.own ho h1,.cons (.ref _) h2⟩
noncomputable def Pr (C:Cf) (A:Around) (hp:HP) (f:Value) (pvs:List PV) (Q:AV→HP→Prop):Prop:=∀xs,Args hp pvs xs→Cl C A f xs hp Q
inductive Q2 (C:Cf) (A:Around) (hp:HP) (F:FH) (s:Shared) (Q:AV→HP→Prop) (v:Value) (s':Shared):Prop
 |mk (F₁:FH) (s₁:Shared) (st:BH C A hp F s F₁ s₁) (h:QM C (DO F₁ hp s₁.heap) F₁ Q v s')
theorem Q2.pu {v':AV} {v:Value} (h:Q2 C A hp F s (fun v hp'=>v=v'∧Sub hp hp') v s'):Cr C A hp F s (fun F' v=>BY hp F' (v',false) v) v s':=by
 refine cps fun zP zk=>?_;(rcases h with ⟨F₁,s₁,st,F',av,hp',e,hv,W,rfl,hs⟩)<;>(refine zk ?_;clear zk zP)
 exact ⟨F',st.trans (st.w'.back e W hs),.val hv⟩
theorem Pr.use {f:Value} {pvs:List PV} {Q:AV→HP→Prop} (h:Pr C A hp f pvs Q) (w:Wp C A hp F s) {us:List Value} (r:DM hp F pvs us):wpAny (model C.prog C.w) A (PySem.call f us) (Q2 C A hp F s Q) E s:=by
 refine xa1_2 r.args ?_;intro xs h1 h2
 exact wpAny_mono (h xs h1 F _ s us E w.fs w.wd h2) (fun v s' z=>⟨F,s,.refl w,z⟩) fun zu zu x=>x
theorem Pr.pc {f:Value} {pvs:List PV} {v:AV} (h:Pr C A hp f pvs (fun v' hp'=>v'=v∧Sub hp hp')):PK C A hp f pvs (v,false):=fun F s E us w r=>
 wpAny_mono (h.use w r) (fun zu zu z=>z.pu) fun zu zu x=>x
end
end
section
noncomputable def Dm (K:Frag) (f:Addr):FdRest:=match K.lookup f with
 |some o=>(match o.data with|.func fd=>⟨fd.name,fd.qualname,fd.kwdefaults,fd.doc,fd.pyModule,fd.annotations,fd.code,fd.closureTuple⟩|_=>⟨"", "",.none,.none,.none,none,.none,.none⟩)
 |none=>⟨"", "",.none,.none,.none,none,.none,.none⟩
noncomputable def MF (K:Frag) (v:Value) (q:Str):Bool:=match v with
 |.ref c=>(match K.lookup c with
  |some o=>(match o.data with|.fields vs=>(match (vs[1]?:Option Value) with|some (.str q' _)=>q' == q|_=>false)|_=>false)
  |none=>false)
 |_=>false
theorem fnAt_of {C:Cf} {K:Frag} (X:K.In C.h0) (lim:C.h0.NoLimit) {f:Addr} {d:BV} {dflt:Value} (h:(K.lookup f).map (·.data)=some (.func ((Dm K f).fd d dflt))) (hc:MF K (Dm K f).code (Dm K f).qual=true):∃r:FdRest,FnAt C f (r.fd d dflt):=by
 refine xa1_2 (Option.map_eq_some_iff.mp h) ?_;intro o ho hd
 refine ⟨Dm K f,⟨o,X _ _ ho,hd⟩,?_,lim⟩
 show C.h0.CodeRec (Dm K f).code (Dm K f).qual
 generalize (Dm K f).code=v at hc
 generalize (Dm K f).qual=q at hc
 unfold MF at hc
 split at hc
 ·rename_i c
  split at hc
  ·rename_i oc hoc
   split at hc
   ·rename_i vs hvs
    split at hc
    ·rename_i q' t hq
     exact ⟨c,oc,vs,t,rfl,X _ _ hoc,hvs,by rw [hq,beq_iff_eq.mp hc]⟩
    ·exact Bu hc
   ·exact Bu hc
  ·exact Bu hc
 ·exact Bu hc
noncomputable def On:Env:=callEnv ((⟨"", "",.none,.none,.none,none,.none,.none⟩:FdRest).fd IC .none) 0 66
theorem gl_of {C:Cf} {K:Frag} (X:K.In C.h0) {x:Str} {v:Value} (h:peek K ⟨C.prog,C.w.params⟩ (loadGlobal On x)=some v):GL C x v:=by
 intro env h1 h2
 have e:loadGlobal env x=loadGlobal On x:=by
  unfold loadGlobal
  rw [h1,h2];rfl
 rw [e]
 exact Looks.of_peek (M:=model C.prog C.w) X h
noncomputable def Ok (K:Frag):Bool:=match K.lookup cStatics with
 |some o=>(match o.data with|.dict es _=>(nsFind es "sys.recursionlimit").isNone&&es.toList.all (fun e=>match e.key with|.str ..=>true|_=>false)|_=>false)
 |none=>false
theorem lim_of {h:Heap} {K:Frag} (X:K.In h) (e:Ok K=true):h.NoLimit:=by
 unfold Ok at e
 split at e
 ·rename_i o ho
  split at e
  ·rename_i es ep hd
   rw [Bool.and_eq_true] at e
   refine ⟨fun x=>nsFind es x,⟨o,es,ep,X _ _ ho,hd,fun en hen=>?_,fun zu=>rfl⟩,by simpa using e.1⟩
   have:=List.all_eq_true.mp e.2 en (by simpa using hen)
   split at this
   ·rename_i n t hk;exact ⟨n,t,hk⟩
   ·exact Bu this
  ·exact Bu e
 ·exact Bu e
theorem ns_of {C:Cf} {K:Frag} (X:K.In C.h0) {Cl:Addr} {name:Str} (h1:findIn K (.ref Cl) "__getattribute__" = some (some (.builtin "object.__getattribute__"))) (h2:findIn K (.ref Cl) "__getattr__" = some none)
  (h3:(clsIn K Cl).map (·.hasDict)=some true) (h4:findIn K (.ref Cl) name=some none) (h5:findIn K (.ref Cl) "__setattr__" = some (some (.builtin "object.__setattr__"))) (h6:plainOver K Cl=true) (h7:takerIn K Cl name=some none):H8 C Cl name:=by
 refine xa1_2 (Option.map_eq_some_iff.mp h3) ?_;intro cd hc hh
 exact ⟨K,cd,X,h1,h2,hc,hh,h4,h5,h6,h7⟩
end
section
variable {C:Cf} {A:Around} {s:Shared} {σ:Al} {F G:FH} {env:Env}
theorem BN:∀(names:List (Str×NameKind)) (n:Nat) (acc:List (Str×Addr)) (x:Str),((x,NameKind.cell)∈names∨(acc.lookup x).isSome=true)→((cellsFrom n names acc).lookup x).isSome=true
 |[],_,acc,x,h=>by
  rcases h with h|h
  ·cases h
  ·exact h
 |(y,k)::r,n,acc,x,h=>by
  unfold cellsFrom
  split
  ·rename_i hk
   refine BN r _ _ x ?_
   rcases h with h|h
   ·rcases List.mem_cons.mp h with e|h
    ·cases e;right;simp [List.lookup]
    ·exact .inl h
   ·right
    simp only [List.lookup]
    split
    ·rfl
    ·exact h
  ·rename_i hk
   refine BN r _ _ x ?_
   rcases h with h|h
   ·rcases List.mem_cons.mp h with e|h
    ·cases e;simp at hk
    ·exact .inl h
   ·exact .inr h
theorem Bq {α:Type}:∀{l:List (Str×α)} {x:Str} {v:α},l.lookup x=some v→(x,v)∈l
 |[],_,_,h=>by exact Ak h
 |(y,u)::l,x,v,h=>by
  simp only [List.lookup] at h
  split at h
  ·rename_i q;(have zc:=Option.some.inj h;clear h;subst zc);rw [beq_iff_eq.mp q];exact List.mem_cons_self ..
  ·exact List.mem_cons_of_mem _ (Bq h)
theorem BQ {α:Type}:∀(l m:List (Str×α)) (x:Str),(l++m).lookup x=(l.lookup x).or (m.lookup x)
 |[],m,x=>by simp
 |(y,u)::l,m,x=>by
  simp only [List.cons_append,List.lookup]
  split
  ·simp
  ·exact BQ l m x
theorem Gq (ko:Str→Option NameKind):∀(bs:List (Str×Value)) (m:Str→Option Value) (x:Str),bs.reverse.lookup x=none→bindL ko bs m x=m x
 |[],_,_,_=>rfl
 |(n,v)::r,m,x,h=>by
  rw [List.reverse_cons,BQ,Option.or_eq_none_iff] at h
  unfold bindL
  rw [Gq ko r _ x h.1]
  have hn:x≠n:=fun zE=>by (first|rw [zE] at h|rw [←zE] at h);simp [List.lookup] at h
  split
  ·simp [hn]
  ·rfl
theorem Gp (ko:Str→Option NameKind):∀(bs:List (Str×Value)) (m:Str→Option Value) (x:Str) (v:Value),bs.reverse.lookup x=some v→ko x=some .local→bindL ko bs m x=some v
 |[],_,_,_,h,_=>by exact Ak h
 |(n,w)::r,m,x,v,h,hk=>by
  rw [List.reverse_cons,BQ] at h
  unfold bindL
  cases hr:r.reverse.lookup x with
  |some v'=>rw [hr] at h;(have zc:=Option.some.inj h;clear h;subst zc);exact Gp ko r _ x _ hr hk
  |none=>
   rw [hr,Option.none_or] at h
   simp only [List.lookup] at h
   split at h
   ·rename_i q
    (have zc:=Option.some.inj h;clear h;subst zc)
    rw [Gq ko r _ x hr]
    have:=beq_iff_eq.mp q
    subst this
    rw [if_pos hk];simp
   ·exact Ak h
theorem Gs (ko:Str→Option NameKind):∀(bs:List (Str×Value)) (m:Str→Option Value) (x:Str),bs.reverse.lookup x=none→bindC ko bs m x=m x
 |[],_,_,_=>rfl
 |(n,v)::r,m,x,h=>by
  rw [List.reverse_cons,BQ,Option.or_eq_none_iff] at h
  unfold bindC
  rw [Gs ko r _ x h.1]
  have hn:x≠n:=fun zE=>by (first|rw [zE] at h|rw [←zE] at h);simp [List.lookup] at h
  split
  ·rfl
  ·simp [hn]
theorem Gr (ko:Str→Option NameKind):∀(bs:List (Str×Value)) (m:Str→Option Value) (x:Str) (v:Value),bs.reverse.lookup x=some v→ko x≠some .local→bindC ko bs m x=some v
 |[],_,_,_,h,_=>by exact Ak h
 |(n,w)::r,m,x,v,h,hk=>by
  rw [List.reverse_cons,BQ] at h
  unfold bindC
  cases hr:r.reverse.lookup x with
  |some v'=>rw [hr] at h;(have zc:=Option.some.inj h;clear h;subst zc);exact Gr ko r _ x _ hr hk
  |none=>
   rw [hr,Option.none_or] at h
   simp only [List.lookup] at h
   split at h
   ·rename_i q
    (have zc:=Option.some.inj h;clear h;subst zc)
    rw [Gs ko r _ x hr]
    have:=beq_iff_eq.mp q
    subst this
    rw [if_neg hk];simp
   ·exact Ak h
noncomputable def Ff (C:Cf) (fd:FuncData) (args:List AV) (kw:List (Str×AV)) (loc:List (Str×AV)):Prop:=
 ∀F vs kvs,VRs F args vs→C5 F kw kvs→∃bs,Looks (model C.prog C.w) C.h0 (bindArgs fd ⟨vs,kvs⟩) bs∧BR F loc bs∧(bs.all fun x=>decide (fd.scope.names.lookup x.1=some .local)||decide (fd.scope.names.lookup x.1=some .cell))=true
theorem EK {f:Addr} {fd:FuncData} {body:List Stmt} {args:List AV} {kw loc:List (Str×AV)} {hp:HP} {Q:AV→HP→Prop} (hf:FnAt C f fd) (hb:Ff C fd args kw loc)
  (h:∀L,Cq C (A.deeper (callEnvC fd L f)) (fun zu zu=>False) (callEnvC fd L f) body ⟨loc.reverse,hp⟩ (fun fl σ'=>match fl with|.ret v=>Q v σ'.hp|.next=>Q .none σ'.hp|_=>False))
  (hroom:A.depth<recursionLimit) (hbody:autoParam (fd.body=.stmts body) AC.aux0._auto_1) (hclo:autoParam (fd.closure=[]) AC.aux0._auto_1) (hfree:autoParam ((fd.scope.names.all fun x=>x.2 != .free)=true) AC.aux0._auto_1)
  (hco:autoParam (fd.scope.isCoroutine=false) AC.aux0._auto_1) (hgen:autoParam (fd.scope.isGenerator=false) AC.aux0._auto_1) (hk:autoParam (fd.scope.kind=.function) AC.aux0._auto_1) :
  Fn C A (.ref f) args kw hp Q:=by
 intro F G s vs kvs fs W hv hkv
 refine xa1_2 hf.at_ ?_;intro o ho hd
 refine xa1_3 (hb F vs kvs hv hkv) ?_;intro bs hB hbr hl
 have noF:∀L x,(callEnvC fd L f).kindOf x≠some .free:=by
  intro L x e
  have:=List.all_eq_true.mp hfree _ (Bq (show fd.scope.names.lookup x=some .free from e))
  simp at this
 refine codeAny_call_function hroom (W.old _ _ ho) hd hco hgen hbody (hf.code.keeps W.old) ?_
 refine hB _ _ _ s W.old ?_
 rw [hclo]
 refine wpAny_newFunctionEnv_cells hk (fun x hx=>?_) (fun env he s' X=>?_)
 ·have:=List.all_eq_true.mp hl x hx
  rw [Bool.or_eq_true,decide_eq_true_iff,decide_eq_true_iff] at this
  refine this.imp_right (fun e=>⟨e,BN _ _ _ _ (.inl (Bq e))⟩)
 ·subst he
  refine ⟨hf.lim.keeps fun b o e=>X.toInCall.keep _ _ (W.old _ _ e),codeAny_func ?_⟩
  refine xa0_3 (W.lt (Nat.le_refl s.heap.objs.size)) ?_;intro z1 z2 z3
  refine xa1_2 fs ?_;(try clear fs);intro fl fs1 fs2
  have hfs:GG (A.deeper (callEnvC fd s.heap.objs.size f)) G (callEnvC fd s.heap.objs.size f):=
   ⟨callEnvC fd s.heap.objs.size f,fl,by simp only [Around.deeper,fs1,Option.map_some],by show fd.scope.kind≠_;rw [hk];decide,rfl,.inl ⟨rfl,rfl⟩,fs2⟩
  have hR:Rp C (A.deeper (callEnvC fd s.heap.objs.size f)) F G (callEnvC fd s.heap.objs.size f) ⟨loc.reverse,hp⟩ s':=by
   refine cps fun zP zk=>?_;(rcases X with ⟨⟨⟨h',tk,rfl⟩,hns,hkp,hfr⟩,hcell,hap,hab⟩)<;>(refine zk ?_;clear zk zP)
   refine ⟨W.keep hkp,⟨hk,⟨_,hns,fun x av hx hkx=>?_⟩,⟨z1,z2,z3⟩,fun x hx=>?_,fun x y c hx hy h1 h2=>?_,fun x av c h1 h2 h3=>?_,fun x zu zu hx=>absurd hx (noF _ x)⟩,hfs⟩
   ·refine xa1_2 (hbr.reverse.look hx) ?_;intro v hv hr
    exact ⟨v,Gp _ bs _ x v hv hkx,hr⟩
   ·have hs:=BN fd.scope.names (s.heap.objs.size+1) [] x (.inl (Bq (show fd.scope.names.lookup x=some .cell from hx)))
    refine xa1_1 (Option.isSome_iff_exists.mp hs) ?_;intro c hc
    have hLc:=hab x c (Bq hc)
    refine xa0_3 (W.lt (Nat.le_of_lt hLc)) ?_;intro w1 w2 w3
    exact ⟨c,hc,w1,w2,w3,Nat.ne_of_gt hLc,_,hcell x c hc⟩
   ·exact name_of_addr hap (Bq h1) (Bq h2)
   ·refine xa1_2 (hbr.reverse.look h1) ?_;intro v hv hr
    have:=hcell x c h3
    rw [Gr _ bs _ x v hv (fun e=>by have e2:=(show (callEnvC fd s.heap.objs.size f).kindOf x=some .local from e);rw [h2] at e2;cases e2)] at this
    exact ⟨v,this,hr⟩
  refine wpAny_mono ((h s.heap.objs.size).go hR (AG.refl F)) (fun fl s' z=>?_) fun zu zu x=>x.elim
  refine cps fun zP zk=>?_;(rcases z with ⟨F',b,σ',e1,r,hR',q⟩)<;>(refine zk ?_;clear zk zP)
  cases r with
  |next=>exact ⟨F',_,.none,σ'.hp,rfl,e1,.none,hR'.wd,q⟩
  |brk=>exact q.elim
  |cont=>exact q.elim
  |ret hvr=>exact ⟨F',_,_,σ'.hp,rfl,e1,hvr,hR'.wd,q⟩
end
section
section
variable {C:Cf} {A:Around} {s:Shared} {σ:Al} {F G:FH} {env:Env} {E:Value→Shared→Prop}
theorem FD (hp:HP) (a:Addr) (x y:AO):upd (upd hp a x) a y=upd hp a y:=by funext b;simp only [upd];split<;>rfl
theorem Rp.sub {hp:HP} (hR:Rp C A F G env σ s) (h:Sub hp σ.hp):Rp C A F G env { σ with hp:=hp } s:=by
 have W:=hR.wd
 have no:∀{b},σ.hp b=none→hp b=none:=fun {b} e=>by
  cases q:hp b with
  |none=>rfl
  |some x=>rw [h b x q] at e;exact Ap e
 refine cps fun zP zk=>?_;(rcases hR.fm with ⟨kd,ns,⟨l1,l2,l3⟩,co,ci,cv,fv⟩)<;>(refine zk ?_;clear zk zP)
 refine ⟨⟨W.base,W.fz,W.gz,fun a x e=>W.ob a x (h a x e),W.os,W.bare,fun a b g gs gs' ea eb=>W.gi _ _ _ _ _ (h _ _ ea) (h _ _ eb),W.fg⟩,⟨kd,ns,⟨l1,l2,no l3⟩,fun x hx=>?_,ci,cv,fv⟩,hR.fs⟩
 refine xa1_5 (co x hx) ?_;intro c g1 g2 g3 g4 g5
 exact ⟨c,g1,g2,g3,no g4,g5⟩
noncomputable def Lf (hp:HP) (a:Addr):HP:=fun b=>if b=a then none else hp b
theorem M9 {hp:HP} {a:Addr}:Sub (Lf hp a) hp:=fun b x e=>by
 unfold Lf at e
 split at e
 ·exact Ak e
 ·exact e
theorem I5 {hp:HP} {a:Addr} {x:AO} (h:hp a=none):Lf (upd hp a x) a=hp:=by
 funext b
 simp only [upd,Lf]
 by_cases q:b=a
 ·simp [q,h]
 ·simp [q]
theorem Rp.freezeL {a:Addr} {xs:List AV} (hR:Rp C A F G env σ s) (ha:σ.hp a=some (.list xs)):∃F',AG F F'∧VR F' (.lst xs) (.ref a)∧Rp C A F' G env ⟨σ.loc,Lf σ.hp a⟩ s:=by
 refine cps fun zP zk=>?_;(rcases hR.wd.ob a _ ha with ⟨p,q,o,ho,r⟩)<;>(refine zk ?_;clear zk zP)
 refine xa0_4 (hR.apart ha) ?_;intro zu zu a3 a4
 refine xa0_2 ((hR.sub (M9 (a:=a))).freezeAt ho p q (if_pos rfl) a3 a4) ?_;intro hR₂ ex
 (refine OR.listC r fun zv zv b1 b2 b3 b4 b5=>?_;clear r)
 exact ⟨_,ex,.lst (Ar _ _ _) b1 b4 (b5.mono ex),hR₂⟩
theorem Rp.relist {x:Str} {a:Addr} {xs:List AV} (hR:Rp C A F G env σ s) (hx:σ.loc.lookup x=some (.ref a)) (hv:VR F (.lst xs) (.ref a)):Rp C A F G env (σ.set x (.lst xs)) s:=by
 refine cps fun zP zk=>?_;(rcases hR with ⟨W,⟨kd,⟨m,hm,hmv⟩,lo,co,ci,cv,fv⟩,fs⟩)<;>(refine zk ?_;clear zk zP)
 refine ⟨W,⟨kd,⟨m,hm,fun y av h1 h2=>?_⟩,lo,co,ci,fun y av c h1 h2 h3=>?_,fun y av h1 h2=>?_⟩,fs⟩
 ·rw [AI] at h1
  split at h1
  ·rename_i q;subst q;(have zc:=Option.some.inj h1;clear h1;subst zc)
   refine xa1_2 (hmv y _ hx h2) ?_;intro v a1 a2
   (have zc:=VR.refI a2;clear a2;subst zc);exact ⟨_,a1,hv⟩
  ·exact hmv y av h1 h2
 ·rw [AI] at h1
  split at h1
  ·rename_i q;subst q;(have zc:=Option.some.inj h1;clear h1;subst zc)
   refine xa1_2 (cv y _ c hx h2 h3) ?_;intro v a1 a2
   (have zc:=VR.refI a2;clear a2;subst zc);exact ⟨_,a1,hv⟩
  ·exact cv y av c h1 h2 h3
 ·rw [AI] at h1
  split at h1
  ·rename_i q;subst q;(have zc:=Option.some.inj h1;clear h1;subst zc)
   refine xa3_4 (fv y _ hx h2) ?_;intro c v o a1 a2 a3 a4
   (have zc:=VR.refI a4;clear a4;subst zc);exact ⟨c,_,o,a1,a2,a3,hv⟩
  ·exact fv y av h1 h2
theorem Tr.freeze {α β:Type} {R:FH→β→α→Prop} {t:Sem α} {Q:β→Al→Prop} (x:Str) (a:Addr) (xs:List AV) (ha:σ.hp a=some (.list xs)) (hx:σ.loc.lookup x=some (.ref a)) (h:Tr C A E env R t ⟨Fy σ.loc x (.lst xs),Lf σ.hp a⟩ Q):Tr C A E env R t σ Q:=by
 intro F G s hR
 refine xa1_3 (hR.freezeL ha) ?_;intro F' e hv hR₂
 exact h.go (hR₂.relist hx hv) e
theorem D3 {body:List Stmt} {Q:A6→Al→Prop} {loc:List (Str×AV)} (hl:Dx loc σ.loc) (h:Cq C A E env body ⟨loc,σ.hp⟩ Q):Cq C A E env body σ Q:=fun F G s hR=>h F G s (hR.weakLoc hl)
theorem A3 {l:List (Str×AV)}:Dx [] l:=fun x av h=>by exact Ak h
theorem Aa {x:Str} {v:AV} {r l:List (Str×AV)} (h:l.lookup x=some v) (k:Dx r l):Dx ((x,v)::r) l:=fun y av e=>by
 simp only [List.lookup] at e
 split at e
 ·rename_i q
  (have zc:=Option.some.inj e;clear e;subst zc)
  rw [beq_iff_eq.mp q];exact h
 ·exact k y av e
theorem KY (l:Addr) (items:Array Value) (n:Nat) (b:Addr) (items2:Array Value) (n2:Nat) (dd:Option Addr) (sl:Array (Option Value)) (hs0:¬(!items.isEmpty&&Builtin.List.listTooLong (items.size+items2.size))=true) (hs1:items.size≤sizeLine) (hs2:items.size+items2.size≤sizeLine+1) :
  Meets (Builtin.«list.extend» ⟨[.ref l,.ref b],[]⟩) (fun zu R s=>s.heap.get? l=some { cls:=.type "list",dict:=none,data:=.seq items n,slots:=#[] }∧s.heap.get? b=some { cls:=.type "tuple",dict:=dd,data:=.seq items2 n2,slots:=sl }∧R (.ok (.ret Value.none)) { s with heap:=s.heap.update l (Obj.mapSeq fun x=>x++items2),toks:=s.toks }):=
 .of_wp fun prog w A R s h=>by
  refine cps fun zP zk=>?_;(rcases s with ⟨hp,g,d,tk,os⟩)<;>(refine zk ?_;clear zk zP);refine xa0_3 h ?_;(try clear h);intro hl hb h
  have f1:=AutoSeq1.idx_int;have f2:=AutoSeq1.sub_tuple_tuple;have f3:=AutoSeq1.sub_list_list;have f4:=AutoSeq1.sub_tuple_list;have f5:=AutoSeq1.sub_list_tuple
  have hz':(items++items2).size≤sizeLine+1:=by rw [Array.size_append];exact hs2
  wp_walk using (wpAny_updateSeq hl rfl (hz:=hs1) (_hz':=hz')),AutoSeq1.wpAny_loadPart' hl,AutoSeq1.wpAny_loadPart' hb
  exact ⟨_,rfl,h⟩
theorem Md {a:Addr} {xs:List AV} {Q:AV→List AV→Al→Prop} (ha:σ.hp a=some (.list xs)) (h:Q (.val (.builtin "list.extend")) [.ref a] σ):Dw C A E env (.ref a) "extend" σ Q:=
 AU ha OR.clsL PySem.F.plainAttrs_list PySem.F.slot_list_extend PySem.F.type_list_extend h
theorem Fz {a:Addr} {xs ys:List AV} {Q:AV→Al→Prop} (ha:σ.hp a=some (.list xs)) (hz:xs.length+ys.length≤100000) (h:Q .none (σ.put a (.list (xs++ys)))):Bf C A E env (.val (.builtin "list.extend")) [.ref a] [.tup ys] [] σ Q:=by
 refine A4 fun F G s us vs hR hus hvs=>?_
 refine xa2_3 hus.inv ?_;intro v1 us1;rintro rfl;intro h1 h2
 obtain rfl:=h2.inv0
 obtain rfl:=h1.refI
 refine xa2_3 hvs.inv ?_;intro v2 us2;rintro rfl;intro h3 h4
 obtain rfl:=h4.inv0
 refine xa4_5 h3.tupInv ?_;intro b;intro zq;refine cps fun zP zk=>?_;(rcases zq with ⟨cls,dd,data,sl⟩)<;>(refine zk ?_;clear zk zP);intro ws n2;rintro rfl;intro ho hc hd hws
 replace ho:=hR.wd.fz _ _ ho
 dsimp only at hc hd
 subst hc hd
 refine xa2_2 (hR.list ha) ?_;intro us n hl hv
 have e1:=hv.length
 have e2:=hws.length
 have hsz:us.toArray.size+ws.toArray.size≤sizeLine:=by simp only [List.size_toArray,e1,e2,sizeLine_eq];with_reducible exact BX ‹_› (by decide)
 refine call_meets PySem.F.slot_list_extend ⟨_,hl,rfl⟩ PySem.F.entry_list_extend (PySem.F.args_list_extend_2 _ _) (KY a us.toArray n b ws.toArray n2 dd sl (extend_door hsz) (Nat.le_trans (Nat.le_add_right _ _) hsz) (Nat.le_succ_of_le hsz)) ⟨hl,ho,?_⟩
 have hl':=hl.update (fun x=>x++ws.toArray)
 refine ⟨F,.none,_,AG.refl F,.none,hR.change ha rfl hl' ?_ (SameBut.rest (Heap.SameBut.update ..)),h⟩
 have e:us.toArray++ws.toArray=(us++ws).toArray:=by simp
 rw [e]
 exact OR.ofL (hv.append hws)
theorem Nd {elts:List Expr} {pos:Pos} {Q:AV→Al→Prop} (h:Ng C A E env (backTo pos (starEach elts env)) σ (fun vs σ'=>vs.length≤100000∧Q (.lst vs) σ')):Ev C A E env (.List elts pos) σ Q:=by
 intro F G s hR
 refine List_ (h.use hR fun F₁ vs σ₁ us s₁ e₁ hv hR₁ h₁=>?_)
 have hz:us.length≤sizeLine:=by rw [hv.length,sizeLine_eq];exact At [_] [(1,Z0,(Zn 100000))] Z0 (Zn 16777216) rfl h₁.1
 unfold PySem.newList
 refine wpAny_newObj_type ?_ (by show us.toArray.size≤sizeLine;rw [List.size_toArray];exact hz)
 refine xa0_2 (hR₁.freeze (t:=s₁.toks) (o':={ cls:=.type "list",data:=.seq us.toArray }) rfl) ?_;intro hR₂ e₂
 exact Aw.ext (e₁.trans e₂) (Aw.of (.lst (Ar _ _ _) rfl rfl (hv.mono e₂)) hR₂ h₁.2)
theorem Oq.deeper {e:Env} (hN:C.h0.NoSeer) (hl:C.h0.NoLimit) (ht:C.prog.given.tree=none) (hd:A.depth+1+Builtin.pylongFrames<recursionLimit) (hgen:e.scope.isGenerator=false) (hco:e.scope.isCoroutine=false) (hb:e.builtins=builtinsNs) (hg:e.globals=mainGlobals):Oq C (A.deeper e):=by
 intro s ⟨l,hfr⟩ hk
 obtain ⟨l',hl'⟩:∃l',(A.deeper e).frames=some (e::l'):=by
  unfold Around.deeper at hfr ⊢
  dsimp only at hfr ⊢
  cases q:A.frames with
  |none=>rw [q] at hfr;exact Ak hfr
  |some l'=>exact ⟨l',by simp⟩
 refine PylongRoom.of (hl.keeps hk) (by simpa [Around.deeper] using hd) (SeerAt.of (hN.keeps hk) ht hl' hgen hco hb hg)
end
end
section
section
variable {C:Cf} {A:Around} {s:Shared} {σ:Al} {F G:FH} {env:Env} {E:Value→Shared→Prop} {hp:HP} {loc:PL}
structure TpX (C:Cf):Prop where
 t:Tp C
 lim:C.h0.NoLimit
 seer:C.h0.NoSeer
 tree:C.prog.given.tree=none
 g_range:GL C "range" (.type "range")
 g_list:GL C "list" (.type "list")
 g_min:GL C "min" (.builtin "min")
 g_max:GL C "max" (.builtin "max")
 g_Tree:GL C "KeywordTree" (.ref 125)
theorem CB {t d f:Addr} {name:Str} {X:Af} {fin ci:Bool} {Q:AV→List AV→Al→Prop} (hm:Cp C 125 name f) (hr:AN X t d fin ci σ.hp) (h:Q (.ref f) [.ref t] σ) (hn:autoParam ((EQ (X.A []) X.D.length fin ci).lookup name=none) AC.aux0._auto_1):Dw C A E env (.ref t) name σ Q:=
 B5 hm hr.tree hr.ns hn h
noncomputable def Af.zero (z e:Addr):Af:=⟨[[]],fun zu=>z,fun zu=>e,fun zu=>none,fun zu=>[],fun zu=>none,fun zu=>none⟩
theorem L1 (z e:Addr):(Af.zero z e).Ph1 where
 wf:=by
  constructor
  ·simp [Af.zero]
  ·simp [Af.zero]
  ·intro p c h;simp [Af.zero] at h
  ·intro p hp q hq zu;simp [Af.zero] at hp hq;rw [hp,hq]
  ·intro p hp x hx;simp [Af.zero] at hx
  ·intro p hp;simp [Af.zero]
  ·intro p hp x hx;simp [Af.zero] at hx
  ·intro p zu;rfl
  ·intro p v h;exact Ak h
 kid1:=by intro p hp c h;simp [Af.zero] at h
 kid0:=by intro p hp c h;rfl
 lss:=fun zu zu=>rfl
 out:=fun zu zu=>rfl
theorem Jl (T:Tp C) (hroom:A.depth+4<recursionLimit) {hp:HP} {ci:Bool} {kw:List (Str×AV)} (hkw:(kw=([("case_insensitive",.bool ci)]:List (Str×AV)))∨(kw=[]∧ci=false)) :
  Fn C A (.ref 125) [] kw hp (fun v hp'=>∃t d z e,v=.ref t∧AN (Af.zero z e) t d false ci hp'∧BS (fun zu=>False) hp (Fp (Af.zero z e) t d) hp'):=by
 refine LY T hroom hkw fun t d z e hp' hnd h1 h2 h3 h4 k1 k2 k3 k4 k5=>⟨t,d,z,e,rfl,⟨k1,k2,fun p hp=>?_,fun p hp=>?_⟩,⟨fun a ha zu=>k5 a (by rintro rfl;exact ha h1) (by rintro rfl;exact ha h2) (by rintro rfl;exact ha h3) (by rintro rfl;exact ha h4),fun a ha=>?_⟩⟩
 ·have:p=[]:=by simpa [Af.zero] using hp
  subst this
  exact k3
 ·exact ⟨0,k4⟩
 ·rcases ha with rfl|rfl|⟨p,zu,rfl|rfl⟩
  ·exact .inr h1
  ·exact .inr h2
  ·exact .inr h3
  ·exact .inr h4
noncomputable abbrev Lz:=Ag×AV
structure Qo (e:Lz):Prop where
 seq:∀hp,BI e.2 (e.1.map Au.av) hp
 nref:∀a,e.2≠.ref a
 nval:∀u,e.2≠.val u
structure Pb (ci:Bool) (e:Lz):Prop where
 low:∀hp,∃v2,Ly ci e.2 v2∧BI v2 (e.1.map Au.av) hp∧∀a,v2≠.ref a
 len:∀hp,∃xs,BI e.2 xs hp∧xs.length=e.1.length
 nref:∀a,e.2≠.ref a
 nval:∀v,e.2≠.val v
theorem Qo.c {e:Lz} (h:Qo e):Pb false e:=⟨fun hp=>⟨e.2,.no,h.seq hp,h.nref⟩,fun hp=>⟨_,h.seq hp,by simp⟩,h.nref,h.nval⟩
noncomputable def AE (ws:List Lz) (p:Ag):Option AV:=if p=[] then none else (ws.reverse.find? fun e=>e.1=p).map (·.2)
theorem BF (ws:List Lz) (w:Ag) (v:AV) (p:Ag):AE (ws++[(w,v)]) p=if w≠[]∧p=w then some v else AE ws p:=by
 unfold AE
 by_cases h:p=[]
 ·subst h
  simp only [if_true]
  split
  ·rename_i q;exact absurd q.2.symm q.1
  ·rfl
 ·simp only [h,if_false,List.reverse_append,List.reverse_cons,List.reverse_nil,List.nil_append,List.cons_append,List.find?_cons]
  by_cases q:w=p
  ·subst q;simp [h]
  ·simp [q,Ne.symm q]
theorem Jq {ws:List Lz} {p:Ag} {v:AV} (h:AE ws p=some v):p≠[]∧(p,v)∈ws:=by
 unfold AE at h
 split at h
 ·exact Ak h
 ·rename_i hp
  rw [Option.map_eq_some_iff] at h
  refine xa1_2 h ?_;(try clear h);intro zq;refine cps fun zP zk=>?_;(rcases zq with ⟨q,u⟩)<;>(refine zk ?_;clear zk zP);intro h1;rintro rfl
  have h2:=List.mem_of_find?_eq_some h1
  have h3:=List.find?_some h1
  simp at h2 h3
  subst h3
  exact ⟨hp,h2⟩
structure TI where
 X:Af
 t:Addr
 d:Addr
 fin:Bool
 ws:List Lz
 ci:Bool
noncomputable def TI.fp (e:TI) (a:Addr):Prop:=Fp e.X e.t e.d a
noncomputable def Di (ws:List Lz):Nat:=(ws.map fun e=>e.1.length).sum
structure TI.ok (e:TI) (hp:HP):Prop where
 rep:AN e.X e.t e.d e.fin e.ci hp
 key:∀p,e.X.key p=AE e.ws p
 dom:∀p,p∈e.X.D↔p=[]∨∃w∈e.ws,p <+: w.1
 len:e.X.D.length≤1+Di e.ws
 ph1:e.fin=false→e.X.Ph1
 ph3:e.fin=true→e.X.Ph3
 wok:∀w∈e.ws,Pb e.ci w
structure AK (l:List TI) (hp:HP):Prop where
 ok:∀e∈l,e.ok hp
 sep:∀(i j:Nat) (e e':TI),l[i]? = some e→l[j]? = some e'→i≠j→∀a,e.fp a→¬e'.fp a
noncomputable def Dd (l:List TI) (a:Addr):Prop:=∃e∈l,e.fp a
theorem AK.nil {hp:HP}:AK [] hp:=⟨fun e h=>(by cases h),fun i j e e' h=>(by simp at h)⟩
theorem TI.ok.off {e:TI} {hp hp':HP} (h:e.ok hp) (k:∀a,e.fp a→hp' a=hp a):e.ok hp':=⟨h.rep.off k,h.key,h.dom,h.len,h.ph1,h.ph3,h.wok⟩
theorem AK.off {l:List TI} {hp hp':HP} (h:AK l hp) (k:∀a,Dd l a→hp' a=hp a):AK l hp':=⟨fun e he=>(h.ok e he).off fun a ha=>k a ⟨e,he,ha⟩,h.sep⟩
theorem AK.live {l:List TI} {hp:HP} (h:AK l hp) {a:Addr} (ha:Dd l a):hp a≠none:=by
 refine xa1_2 ha ?_;(try clear ha);intro e he hf
 exact (h.ok e he).rep.some hf
theorem AK.turn {l:List TI} {hp hp':HP} (h:AK l hp) {j:Nat} {e e':TI} (hj:l[j]? = some e) (fr:BS e.fp hp e'.fp hp') (ok:e'.ok hp'):AK (l.set j e') hp'∧BS (Dd l) hp (Dd (l.set j e')) hp':=by
 have hlt:j<l.length:=(List.getElem?_eq_some_iff.mp hj).1
 have he:e∈l:=List.mem_of_getElem? hj
 have new:∀a,e'.fp a→∀(i:Nat) (o:TI),l[i]? = some o→i≠j→¬o.fp a:=by
  intro a ha i o hi hne ho
  rcases fr.grow a ha with q|q
  ·exact h.sep i j o e hi hj hne a ho q
  ·exact (h.ok o (List.mem_of_getElem? hi)).rep.some ho q
 refine ⟨⟨fun o ho=>?_,fun i k o o' hi hk hne a ha hb=>?_⟩,⟨fun a ha hn=>fr.keep a ha (fun q=>hn ⟨e,he,q⟩),fun a ha=>?_⟩⟩
 ·refine xa1_1 (List.mem_iff_getElem?.mp ho) ?_;intro i hi
  by_cases q:j=i
  ·subst q
   rw [List.getElem?_set_self hlt] at hi;(have zc:=Option.some.inj hi;clear hi;subst zc);exact ok
  ·rw [List.getElem?_set_ne q] at hi
   have hoi:=List.mem_of_getElem? hi
   exact (h.ok o hoi).off fun a ha=>fr.keep a ((h.ok o hoi).rep.some ha) (h.sep i j o e hi hj (fun z=>q z.symm) a ha)
 ·by_cases q:j=i
  ·subst q
   rw [List.getElem?_set_self hlt] at hi;(have zc:=Option.some.inj hi;clear hi;subst zc)
   rw [List.getElem?_set_ne hne] at hk
   exact new a ha k o' hk (Ne.symm hne) hb
  ·rw [List.getElem?_set_ne q] at hi
   by_cases q2:j=k
   ·subst q2
    rw [List.getElem?_set_self hlt] at hk;(have zc:=Option.some.inj hk;clear hk;subst zc)
    exact new a hb i o hi (fun z=>q z.symm) ha
   ·rw [List.getElem?_set_ne q2] at hk
    exact h.sep i k o o' hi hk hne a ha hb
 ·refine xa1_2 ha ?_;(try clear ha);intro o ho hf
  refine xa1_1 (List.mem_iff_getElem?.mp ho) ?_;intro i hi
  by_cases q:j=i
  ·subst q
   rw [List.getElem?_set_self hlt] at hi;(have zc:=Option.some.inj hi;clear hi;subst zc)
   rcases fr.grow a hf with q|q
   ·exact .inl ⟨e,he,q⟩
   ·exact .inr q
  ·rw [List.getElem?_set_ne q] at hi
   exact .inl ⟨o,List.mem_of_getElem? hi,hf⟩
theorem Ju (T:Tp C) (hroom:A.depth+4<recursionLimit) {l:List TI} {hp:HP} {ci:Bool} {kw:List (Str×AV)} (hkw:(kw=([("case_insensitive",.bool ci)]:List (Str×AV)))∨(kw=[]∧ci=false)) (h:AK l hp) :
  Fn C A (.ref 125) [] kw hp (fun v hp'=>∃e:TI,v=.ref e.t∧e.fin=false∧e.ws=[]∧e.ci=ci∧AK (l++[e]) hp'∧BS (Dd l) hp (Dd (l++[e])) hp'):=by
 refine (Jl T hroom hkw).mono fun v hp' hq=>?_
 refine xa4_3 hq ?_;(try clear hq);intro t d z e;rintro rfl;intro hr hfr
 have new:∀a,Fp (Af.zero z e) t d a→hp a=none:=fun a ha=>(hfr.grow a ha).resolve_left (fun q=>q)
 have old:∀a,Dd l a→hp' a=hp a:=fun a ha=>hfr.keep a (h.live ha) (fun q=>q)
 refine ⟨⟨Af.zero z e,t,d,false,[],ci⟩,rfl,rfl,rfl,rfl,⟨fun o ho=>?_,fun i j o o' hi hj hne a ha hb=>?_⟩,⟨fun a ha zu=>hfr.keep a ha (fun q=>q),fun a ha=>?_⟩⟩
 ·rcases List.mem_append.mp ho with ho|ho
  ·exact (h.off old).ok o ho
  ·simp at ho;subst ho
   refine ⟨hr,fun p=>by simp [Af.zero,AE],fun p=>by simp [Af.zero],by simp [Af.zero],fun zu=>L1 z e,fun q=>(by exact Bu q),fun w hw=>(by cases hw)⟩
 ·have sp:∀(i:Nat) (o:TI),(l++[(⟨Af.zero z e,t,d,false,[],ci⟩:TI)])[i]? = some o→l[i]? = some o∨(i=l.length∧o=⟨Af.zero z e,t,d,false,[],ci⟩):=by
   intro i o hi
   rcases Nat.lt_or_ge i l.length with q|q
   ·rw [List.getElem?_append_left q] at hi;exact .inl hi
   ·rw [List.getElem?_append_right q] at hi
    right
    have:i - l.length=0:=by
     rcases Nat.eq_zero_or_pos (i - l.length) with z|z
     ·exact z
     ·rw [List.getElem?_eq_none (by simp;with_reducible exact P0 ‹_›)] at hi;exact Ak hi
    rw [this] at hi
    simp at hi
    exact ⟨by exact Nat.le_antisymm (At [_,_,_] [(1,Z2,(Zn 0)),(1,Z0,(Za Z2 Z1))] Z0 Z1 rfl (Nat.le_of_eq this) (BP _ _)) (At [_,_,_] [(1,(Za Z2 Z0),Z1)] Z0 Z1 rfl (Nat.le_of_eq (Nat.sub_add_cancel (At [_,_] [(1,Z0,Z1)] Z0 Z1 rfl q)))),hi.symm⟩
  rcases sp i o hi with h1|⟨h1,rfl⟩
  ·rcases sp j o' hj with h2|⟨h2,rfl⟩
   ·exact h.sep i j o o' h1 h2 hne a ha hb
   ·exact (h.ok o (List.mem_of_getElem? h1)).rep.some ha (new a hb)
  ·rcases sp j o' hj with h2|⟨h2,rfl⟩
   ·exact (h.ok o' (List.mem_of_getElem? h2)).rep.some hb (new a ha)
   ·exact hne (h1.trans h2.symm)
 ·refine xa1_2 ha ?_;(try clear ha);intro o ho hf
  rcases List.mem_append.mp ho with ho|ho
  ·exact .inl ⟨o,ho,hf⟩
  ·simp at ho;subst ho;exact .inr (new a hf)
theorem Gm (T:Tp C) {l:List TI} {hp:HP} {j:Nat} {e:TI} {w:Lz} (hA:A.handled=none) (hroom:A.depth+2<recursionLimit) (h:AK l hp) (hj:l[j]? = some e) (hf:e.fin=false) (hw:Pb e.ci w) (hz:1+Di e.ws+w.1.length≤4000) :
  Fn C A (.ref 66) [.ref e.t,w.2] [] hp (fun v hp'=>v=.none∧∃e':TI,e'.t=e.t∧e'.fin=false∧e'.ws=e.ws++[w]∧e'.ci=e.ci∧AK (l.set j e') hp'∧BS (Dd l) hp (Dd (l.set j e')) hp'):=by
 have ok:=h.ok e (List.mem_of_getElem? hj)
 have hr:=ok.rep
 rw [hf] at hr
 have hlen:=ok.len
 refine xa1_3 (hw.low hp) ?_;intro v2 lo sq nr
 refine (Pa T (w:=w.1) hA hroom (ok.ph1 hf) hr lo sq (fun a q=>absurd q (nr a)) (by exact At [_,_,_] [(1,(Za (Za (Zn 1) Z2) Z1),(Zn 4000)),(1,Z0,(Za (Zn 1) Z2))] (Za Z0 Z1) (Zn 4000) rfl hz hlen) hw.nval).mono fun v hp' hq=>?_
 refine cps fun zP zk=>?_;(rcases hq with ⟨rfl,X',k1,k2,k3,k4,k5,k6,k7⟩)<;>(refine zk ?_;clear zk zP)
 refine ⟨rfl,⟨X',e.t,e.d,false,e.ws++[w],e.ci⟩,rfl,rfl,rfl,rfl,h.turn hj k3 ⟨k2,fun p=>?_,fun p=>?_,?_,fun zu=>k1,fun q=>(by exact Bu q),fun u hu=>?_⟩⟩
 ·rw [k5 p,ok.key p,BF]
 ·rw [k4 p,ok.dom p]
  simp only [List.mem_append,List.mem_singleton]
  constructor
  ·rintro ((q|⟨u,hu,q⟩)|q)
   ·exact .inl q
   ·exact .inr ⟨u,.inl hu,q⟩
   ·exact .inr ⟨w,.inr rfl,q⟩
  ·rintro (q|⟨u,hu|rfl,q⟩)
   ·exact .inl (.inl q)
   ·exact .inl (.inr ⟨u,hu,q⟩)
   ·exact .inr q
 ·show X'.D.length≤1+Di (e.ws++[w])
  have:Di (e.ws++[w])=Di e.ws+w.1.length:=by simp [Di]
  exact At [_,_,_,_,_] [(1,Z2,(Za (Zn 1) Z3)),(1,Z0,(Za Z2 Z4)),(1,(Za Z3 Z4),Z1)] Z0 (Za (Zn 1) Z1) rfl hlen k6 (Nat.le_of_eq (Eq.symm this))
 ·rcases List.mem_append.mp hu with q|q
  ·exact ok.wok u q
  ·simp at q;subst q;exact hw
theorem Jv (T:Tp C) {l:List TI} {hp:HP} {j:Nat} {e:TI} {N:Nat} (hA:A.handled=none) (hroom:A.depth+N+4<recursionLimit) (h:AK l hp) (hj:l[j]? = some e) (hf:e.fin=false) (hz:1+Di e.ws≤300) (hN:∀w∈e.ws,w.1.length≤N) :
  Fn C A (.ref 101) [.ref e.t] [] hp (fun v hp'=>v=.none∧∃e':TI,e'.t=e.t∧e'.fin=true∧e'.ws=e.ws∧e'.ci=e.ci∧AK (l.set j e') hp'∧BS (Dd l) hp (Dd (l.set j e')) hp'):=by
 have ok:=h.ok e (List.mem_of_getElem? hj)
 have hr:=ok.rep
 rw [hf] at hr
 have hlen:=ok.len
 have hle:∀p∈e.X.D,p.length≤N:=fun p hp=>by
  rcases (ok.dom p).mp hp with rfl|⟨w,hw,q⟩
  ·simp
  ·exact Nat.le_trans q.length_le (hN w hw)
 refine (OT T hA hroom (ok.ph1 hf) hr (by with_reducible exact C8 ‹_› ‹_›) hle (fun p v hv=>?_)).mono fun v hp' hq=>?_
 ·rw [ok.key p] at hv
  have hm:=(Jq hv).2
  have wk:=ok.wok _ hm
  refine xa1_2 (wk.len hp) ?_;intro xs z1 z2
  exact ⟨xs,z2,z1,fun a q=>absurd q (wk.nref a)⟩
 ·refine cps fun zP zk=>?_;(rcases hq with ⟨rfl,X',k1,k2,k3,k4,k5,k6,k7⟩)<;>(refine zk ?_;clear zk zP)
  have hfp:(⟨X',e.t,e.d,true,e.ws,e.ci⟩:TI).fp=e.fp:=by
   funext a
   simp only [TI.fp,Fp,k4,k5,k6]
  have fr:BS e.fp hp (⟨X',e.t,e.d,true,e.ws,e.ci⟩:TI).fp hp':=by rw [hfp];exact k3
  refine ⟨rfl,⟨X',e.t,e.d,true,e.ws,e.ci⟩,rfl,rfl,rfl,rfl,h.turn hj fr ⟨k2,fun p=>?_,fun p=>?_,?_,fun q=>(by exact CZ q),fun zu=>k1,ok.wok⟩⟩
  ·show X'.key p=_
   rw [k7];exact ok.key p
  ·show p∈X'.D↔_
   rw [k4];exact ok.dom p
  ·show X'.D.length≤_
   rw [k4];exact hlen
theorem NB {e:TI} {hp:HP} (h:e.ok hp):e.X.key=AE e.ws:=funext h.key
theorem TI.ok.words {e:TI} (h:e.ok hp) {N:Nat} (hN:∀w∈e.ws,w.1.length≤N):∀p∈e.X.D,p.length≤N:=fun p hp=>by
 rcases (h.dom p).mp hp with rfl|⟨w,hw,q⟩
 ·exact Nat.zero_le _
 ·exact Nat.le_trans q.length_le (hN w hw)
theorem AK.put {l:List TI} {hp:HP} (h:AK l hp) {a:Addr} {x:AO} (ha:hp a=none):AK l (upd hp a x):=h.off fun b hb=>Ad _ _ (by rintro rfl;exact h.live hb ha)
theorem Nr {X:Af} {t d L ga:Addr} {ci:Bool} {o:Co} {x2:AV} {w:Ag} {r:FdRest} {g:Nat} {hp':HP} (hr:AN X t d true ci hp) (hx:Cm o x2 (w.map Au.av) hp) (hF:NV r L t x2 hp' ga g) (h1:hp L=none) (h2:hp ga=none) (hk:∀a,hp a≠none→hp' a=hp a) :
  Sub hp hp'∧AN X t d true ci hp'∧G5 C X t d hp' ga o [] 0 w (fun a=>a=ga∨a=L)∧∀a,(a=ga∨a=L)→hp a=none:=by
 have nf:∀{a},hp a=none→¬Fp X t d a:=fun e hf=>hr.some hf e
 exact ⟨Sub.of hk,hr.off fun a ha=>hk a (hr.some ha),G5.fresh hF (hx.keep (EJ.of hx fun a y e zu=>(hk a (by rw [e];exact fun z=>nomatch z)).trans e)) (nf h2) (nf h1),fun a ha=>ha.elim (fun e=>e▸h2) fun e=>e▸h1⟩
end
end
section
section
variable {C:Cf} {A:Around} {s:Shared} {σ:Al} {F G:FH} {env:Env} {E:Value→Shared→Prop} {hp:HP} {loc:PL}
theorem PT.eq {α β:Type} {R:FH→β→α→Prop} {t:Sem α} {b b':β} (h:PT C A hp env loc R t b) (e:b=b'):PT C A hp env loc R t b':=e▸h
theorem PE.eqv {e:Expr} {a b:AV} (h:PE C A hp env loc e (a,false)) (q:a=b):PE C A hp env loc e (b,false):=q▸h
theorem PI.eq {target iter:Expr} {xs ys:List AV} (h:PI C A hp env loc target iter xs) (e:xs=ys):PI C A hp env loc target iter ys:=e▸h
theorem NQ.eq {elt:Expr} {gens:List Comprehension} {scope:Scope} {pos:Pos} {xs ys:List AV} (h:NQ C A hp env loc elt gens scope pos xs) (e:xs=ys):NQ C A hp env loc elt gens scope pos ys:=e▸h
theorem Pw {xs:List AV} {p:Bool} (hz:xs.length≤100000):QK C A hp (fun zu b b'=>b=b') truthy (.lst xs,p) (!xs.isEmpty):=fun F s E v w hv=>by
 refine xa4_6 (hv.lstI w) ?_;intro a o vs n;rintro rfl;intro ho hc hd hvs zu
 refine wpAny_truthy_list ⟨o,ho,hc,n,hd⟩ (by rw [List.size_toArray,hvs.length];omega) (Cr.here w ?_)
 rw [List.isEmpty_toArray]
 cases hvs<;>rfl
theorem KG (n:Nat):C0 0 1 n=(List.range n).map fun (i:Nat)=>AV.int (i:Int):=by
 unfold C0
 apply List.map_congr_left
 intro i zu
 simp
theorem Jc (a:Int) (n:Nat):C0 a 1 n=(List.range n).map fun (i:Nat)=>AV.int (a+(i:Int)):=by
 unfold C0
 apply List.map_congr_left
 intro i zu
 simp
theorem Fk {a b:Int} (h1:-1000000≤a) (h2:a≤1000000) (h3:-1000000≤b) (h4:b≤1000000):Builtin.Range.small a b 1=true:=small_one (by omega) (by omega) (by omega) (by omega)
theorem Of {a b:Int} {n:Nat} (h:(n:Int)=b - a∨(b≤a∧n=0)):Builtin.Range.rangeSize a b 1=n:=by rw [rangeSize_one];split<;>omega
noncomputable abbrev lstI (l:List Int):AV:=.lst (l.map .int)
noncomputable abbrev tupI (l:List Int):AV:=.tup (l.map .int)
noncomputable abbrev Cs (l:List (List Int)):AV:=.lst (l.map tupI)
theorem Pf {target:Expr} {x:Str} {px pos:Pos} {arg:Expr} {b:Int} {n:Nat} (hA:A.handled=none) (hg:GL C x (.type "range")) (hv:PE C A hp env loc arg (.int b,false)) (hb:b=n) (hn:n≤1000000) (hk:autoParam (env.kindOf x=some .globalImplicit) AC.aux0._auto_1)
  (he:autoParam (eval (.Call (.Name x px) [arg] [] pos) env=(do callWith pos (←eval (.Name x px) env) [] (AT env [arg]) [])) AC.aux0._auto_1) (hd:autoParam ((x == ("__debug__" : Str))=false) AC.aux1._auto_1):PI C A hp env loc target (.Call (.Name x px) [arg] [] pos) ((List.range n).map fun (i:Nat)=>AV.int (i:Int)):=by
 subst hb
 refine (Lv (n:=n) hA hg (.cons hv .nil) (Fk (by decide) (by decide) (by omega) (by omega)) (Of (.inl (by simp))) hk he hd).eq (KG n)
theorem Kw {target:Expr} {x:Str} {px pos:Pos} {e1 e2:Expr} {a b:Int} {n:Nat} (hA:A.handled=none) (hg:GL C x (.type "range")) (hv:PE C A hp env loc e1 (.int a,false)) (hv2:PE C A hp env loc e2 (.int b,false)) (h1:-1000000≤a) (h2:a≤1000000) (h3:-1000000≤b) (h4:b≤1000000) (hn:(n:Int)=b - a∨(b≤a∧n=0)) (hk:autoParam (env.kindOf x=some .globalImplicit) AC.aux0._auto_1)
  (he:autoParam (eval (.Call (.Name x px) [e1,e2] [] pos) env=(do callWith pos (←eval (.Name x px) env) [] (AT env [e1,e2]) [])) AC.aux0._auto_1) (hd:autoParam ((x == ("__debug__" : Str))=false) AC.aux1._auto_1):PI C A hp env loc target (.Call (.Name x px) [e1,e2] [] pos) ((List.range n).map fun (i:Nat)=>AV.int (a+(i:Int))):=
 (Lu (n:=n) hA hg (.cons hv (.cons hv2 .nil)) (Fk h1 h2 h3 h4) (Of hn) hk he hd).eq (Jc a n)
theorem JA {x:Str} {px pos:Pos} {args:List Expr} {f:Addr} {fd:FuncData} {pvs:List PV} {v:AV} (hf:FnAt C f fd) (hg:GL C x (.ref f)) (hv:IM C A hp env loc args pvs) (h:∀xs,Args hp pvs xs→Fn C A (.ref f) xs [] hp (fun v' hp'=>v'=v∧hp'=hp)) (hk:autoParam (env.kindOf x=some .globalImplicit) AC.aux0._auto_1)
  (he:autoParam (eval (.Call (.Name x px) args [] pos) env=(do callWith pos (←eval (.Name x px) env) [] (AT env args) [])) AC.aux0._auto_1) (hd:autoParam ((x == ("__debug__" : Str))=false) AC.aux1._auto_1):PE C A hp env loc (.Call (.Name x px) args [] pos) (v,false):=
 AZ hg hv (Pr.pc fun xs hx=>(h xs hx).cl.mono fun v' hp' q=>⟨q.1,by rw [q.2];exact .refl _⟩) (fun zu k=>hf.keep k) hk he hd
theorem Args.vals {xs ys:List AV} (h:Args hp (vals xs) ys):ys=xs:=by
 induction xs generalizing ys with
 |nil=>cases h;rfl
 |cons x xs ih=>cases h with|val h=>rw [ih h]
end
end
section
section
variable {C:Cf} {A:Around} {s:Shared} {σ:Al} {F G:FH} {env:Env} {E:Value→Shared→Prop} {hp:HP} {loc:PL}
noncomputable def Ay (w:List Int):Ag:=w.map Au.i
end
end
section
section
variable {C:Cf} {A:Around} {s:Shared} {F G:FH} {env:Env} {E:Value→Shared→Prop} {hp:HP} {loc:PL}
end
end
section
section
variable {C:Cf} {A:Around} {s:Shared} {F G:FH} {env:Env} {E:Value→Shared→Prop} {hp:HP} {loc:PL}
noncomputable abbrev sS (l:List Nat):AV:=.str ⟨l.toArray⟩
theorem VRs.strs:∀{ys:List Str} {vs:List Value},VRs F (ys.map .str) vs→StrsAre vs ys
 |[],_,h=>by obtain rfl:=VRs.nilI h;exact .nil
 |y::ys,_,h=>by
  refine xa2_3 h.inv ?_;intro v us;rintro rfl;intro h1 h2
  refine xa1_1 h1.strI ?_;intro t;rintro rfl
  exact .cons y t h2.strs
theorem ND (ls:List (List Nat)):Txt.join ⟨#[]⟩ (ls.map fun l=>⟨l.toArray⟩)=⟨ls.flatten.toArray⟩:=by
 have key:∀(ls:List (List Nat)) (a:List Nat),(ls.map fun l=>(⟨l.toArray⟩:Str)).foldl (fun acc p=>acc++#[]++p.cps) a.toArray=(a++ls.flatten).toArray:=by
  intro ls
  induction ls with
  |nil=>intro a;simp
  |cons l ls ih=>
   intro a
   rw [List.map_cons,List.foldl_cons]
   have:a.toArray++#[]++(⟨l.toArray⟩:Str).cps=(a++l).toArray:=by simp
   rw [this,ih];simp
 unfold Txt.join Builtin.Str.glued
 cases ls with
 |nil=>rfl
 |cons l ls=>
  have:=key ls l
  simp only [List.map_cons,List.drop_succ_cons,List.drop_zero,List.headD_cons,List.flatten_cons]
  rw [this]
theorem Kx {sep arg:Expr} {apos pos:Pos} {ls:List (List Nat)} {p:Bool} (h:PE C A hp env loc sep (sS [],false)) (h2:PE C A hp env loc arg (.lst (ls.map sS),p)) (hz:(ls.map List.length).sum≤100000) (hb:autoParam (attributeBase sep "join" env (eval sep env)=eval sep env) AC.aux0._auto_1)
  (hfew:autoParam (((backTo pos (starEach [arg] env)).all (fun x=>!x.1)&&(backToKw pos (keywordEach [] env)).all (fun x=>x.1.isSome)&&decide ([arg].length+([]:List Keyword).length+(if ([]:List Keyword).isEmpty then 0 else 1)<30))=true) AC.aux0._auto_1)
  (hl:autoParam ((apos.endLine == pos.line)=true) AC.aux0._auto_1) (ht:autoParam (backTo pos (starEach [arg] env)=AT env [arg]) AC.aux0._auto_1):PE C A hp env loc (.Call (.Attribute sep "join" apos) [arg] [] pos) (sS ls.flatten,false):=.mk fun F s E c=>by
 refine wpAny_Call_method_lateS hb hfew hl ?_
 rw [ht]
 refine h.use c fun F₁ s₁ v st₁ c₁ r=>?_
 refine xa1_1 r.out.strI ?_;intro t;rintro rfl
 refine SB.join (h2.use c₁ fun F₂ s₂ v2 st₂ c₂ r2=>?_)
 refine xa4_6 (r2.lstI c₂.wp) ?_;intro a o vs n;rintro rfl;intro ho hc hd hvs zu
 have e:ls.map sS=(ls.map fun l=>(⟨l.toArray⟩:Str)).map AV.str:=by rw [List.map_map];rfl
 rw [e] at hvs
 refine xa1_2 (strsAre_values hvs.strs) ?_;intro l hv hx
 refine ⟨a,l,rfl,⟨o,ho,hc,n,by rw [hd,hv]⟩,_,hx,joinOk_of ?_,fun t' k=>?_⟩
 ·show ((ls.map fun l=>(⟨l.toArray⟩:Str)).map (·.length)).sum+_*0≤_
  rw [List.map_map]
  have:((fun x:Str=>x.length)∘fun l:List Nat=>(⟨l.toArray⟩:Str))=List.length:=rfl
  rw [this];exact At [_,_] [(1,Z0,(Zn 100000))] (Za Z0 (.mulR Z1 0)) (Zn 16777216) rfl hz
 ·have hje:Txt.join ⟨([]:List Nat).toArray⟩ (ls.map fun l=>⟨l.toArray⟩)=⟨ls.flatten.toArray⟩:=ND ls
  rw [hje]
  exact (Cr.here (t:=k) c₂.wp (.val (.str _ _))).pre (st₁.trans st₂)
end
end
section
section
variable {C:Cf} {A:Around} {s:Shared} {F G:FH} {env:Env} {E:Value→Shared→Prop} {hp:HP} {loc:PL}
noncomputable abbrev iN (n:Nat):AV:=.int (n:Int)
theorem Ol {n:Nat} (h:n≤1114111):PK C A hp (.builtin "chr") [(iN n,false)] (sS [n],false):=fun F s E us hin r=>by
 refine xa2_3 r.inv ?_;intro v us;rintro rfl;intro r1 r
 obtain rfl:=r.nilI
 refine xa1_1 r1.out.intI ?_;intro t;rintro rfl
 refine P.chr_of_int (by simp;omega) (Cr.here (t:=s.toks+1) hin (.val ?_))
 have:((n:Int)).toNat=n:=Int.toNat_natCast n
 rw [this];exact .str _ _
end
end
section
section
variable {C:Cf} {A:Around} {s s':Shared} {F F' G:FH} {env:Env} {E:Value→Shared→Prop} {hp hp':HP} {loc:PL} {σ:Al}
noncomputable abbrev lawP:BV:=MA "law"
noncomputable abbrev BD (r:FdRest) (L f:Addr):Env:=callEnvC (r.fd lawP .none) L f
theorem Ln (C:Cf) (r:FdRest) (x:AV):Ff C (r.fd lawP .none) [x] [] [("script",x)]:=by
 intro F vs kvs h1 h2
 refine xa2_3 h1.inv ?_;intro v1 us1;rintro rfl;intro hv1 h1
 obtain rfl:=h1.inv0
 obtain rfl:=h2.inv0
 exact ⟨[("script",v1)],Looks.of_pure (by kernel_rfl),.cons hv1 .nil,by kernel_rfl⟩
theorem VRs.ofInts {F:FH}:∀{vs:List Value} {ns:List Int},IntsAre vs ns→VRs F (ns.map .int) vs
 |_,_,.nil=>.nil
 |_,_,.cons n t h=>.cons (.int n t) (VRs.ofInts h)
theorem finish {C:Cf} {f a:Addr} {vs:List Value} {ns:List Int} {s₁:Shared} {P E:Value→Shared→Prop}
  (h:∀ns:List Int,ns.length≤63→Fn C callerA (.ref f) [.lst (ns.map .int)] [] (fun zu=>none) (fun v zu=>v=.bool true)) (hl:C.h0.IsList a vs.toArray) (hi:IntsAre vs ns) (hlen:¬((63:Nat):Int)<(ns.length:Int))
  (hh:s₁.heap=C.h0) (hos:s₁.os=C.os) (hg:s₁.gens=#[]) (hP:∀s':Shared,OldK s₁.heap s'.heap→s'.os=s₁.os→AllBare s'.gens→P (.bool true) s'):wpAny (model C.prog C.w) callerA (call (.ref f) [.ref a]) P E s₁:=by
 refine cps fun zP zk=>?_;(rcases hl with ⟨o,ho,hc,n,hd⟩)<;>(refine zk ?_;clear zk zP)
 have W:Wd C (fun b=>C.h0.get? b) (fun zu=>none) (fun zu=>none) s₁:=⟨fun b o e=>e,fun b o e=>by rw [hh];exact e,fun b o e=>(by exact Ak e),fun b x e=>(by exact Ak e),hos,by rw [hg];exact .of_eq rfl,fun a b g gs gs' e=>(by exact Ak e),fun b o e=>rfl⟩
 refine wpAny_call (codeAny_mono (h ns (by omega) _ _ s₁ [.ref a] [] ⟨[],rfl,fun e he=>(by cases he)⟩ W (.cons (.lst ho hc hd (VRs.ofInts hi)) .nil) .nil) fun r s' hr=>?_)
 refine xa4_5 hr ?_;(try clear hr);intro F' v av hp';rintro rfl;intro e1 hv W';rintro rfl
 (have zc:=VR.boolI hv;clear hv;subst zc)
 exact hP s' (.of_keep fun b o e=>W'.old b o (by rw [←hh];exact e)) (by rw [W'.os,hos]) W'.bare
end
end
section
section
variable {C:Cf} {A:Around} {s:Shared} {σ:Al} {F G:FH} {env:Env} {E:Value→Shared→Prop} {hp:HP} {loc:PL}
noncomputable abbrev rowP:BV:=MA "_law_row"
theorem Lj (C:Cf) (r:FdRest) (x y:AV):Ff C (r.fd rowP .none) [x,y] [] [("number",x),("size",y)]:=by
 intro F vs kvs h1 h2
 refine xa2_3 h1.inv ?_;intro v1 us1;rintro rfl;intro hv1 h1
 refine xa2_3 h1.inv ?_;intro v2 us2;rintro rfl;intro hv2 h1
 obtain rfl:=h1.inv0
 obtain rfl:=h2.inv0
 exact ⟨[("number",v1),("size",v2)],Looks.of_pure (by kernel_rfl),.cons hv1 (.cons hv2 .nil),by kernel_rfl⟩
noncomputable def Q0 (n:Int) (i:Nat):Int:=(n.fdiv (2 ^ i)).fmod 2
noncomputable def row (n:Int) (k:Nat):List Int:=(List.range k).map (Q0 n)
theorem O5 (T:TpX C) {f:Addr} {r:FdRest} (hf:FnAt C f (r.fd rowP .none)) {hp:HP} {n:Int} {k:Nat} (hA:A.handled=none) (hroom:A.depth+1+Builtin.pylongFrames<recursionLimit) (hk:k≤1000) :
  Fn C A (.ref f) [.int n,.int k] [] hp (fun v hp'=>v=tupI (row n k)∧hp'=hp):=by
 refine EK hf (Lj C r _ _) (fun L=>?_) (by exact B6 [_,_,_] [(1,(Zs (Za (Zs Z0) Z2)),Z1)] Z0 Z1 rfl hroom)
 have pl:Oq C (A.deeper (callEnvC (r.fd rowP .none) L f)):=Oq.deeper T.seer T.lim T.tree hroom (by rfl) (by rfl) (by rfl) (by rfl)
 refine Ab (HA [] (tupI (row n k)) (PE.eqv (AZ T.t.g_tuple (.cons (Ky (FM (List.range k) _ (fun i=>.int (Q0 n i)) (Pf hA T.g_range (Aj rfl) rfl (by with_reducible exact BX ‹_› (by decide))) (by rw [List.length_range];with_reducible exact BX ‹_› (by decide)) fun Lc i hi=>?_)) .nil) (E4 (by rw [List.length_map,List.length_range];with_reducible exact BX ‹_› (by decide)))) (by simp [row])) ⟨rfl,rfl⟩)
 have hi':i<k:=List.mem_range.mp hi
 exact Bi (Bi (Aj rfl) (Bi AB (Aj rfl) (PH (by exact Int.natCast_nonneg _) (by omega) (by decide))) (MM pl (Int.pow_ne_zero (by decide)))) AB (Kt (by decide))
end
end
section
section
variable {C:Cf} {A:Around} {s:Shared} {F F' G:FH} {env:Env} {hp hp':HP} {σ:Al}
end
end
section
section
variable {C:Cf} {A:Around} {s s':Shared} {F F' G:FH} {env:Env} {E:Value→Shared→Prop} {hp hp':HP} {loc:PL} {σ:Al}
end
end
section
section
end
end
section
section
variable {C:Cf} {A:Around} {s:Shared} {σ:Al} {F G:FH} {env:Env} {E:Value→Shared→Prop} {hp:HP} {loc:PL}
noncomputable def CR (d:List Int) (m:Nat) (ns:List Int):List Int:=(ns++d.drop ns.length).take m
theorem HY (d:List Int) (m:Nat) (ns:List Int):(CR d m ns).length≤m:=by unfold CR;rw [List.length_take];omega
theorem Nx {d:List Int} {m:Nat} (ns:List Int) (h:d.length≤m):d.length≤(CR d m ns).length:=by unfold CR;rw [List.length_take,List.length_append,List.length_drop];omega
theorem LT (d:List Int) (m:Nat) (ns:List Int):C1 (ns.map AV.int++C1 (d.map AV.int) (some ((ns.map AV.int).length:Int)) none) none (some (m:Int))=(CR d m ns).map AV.int:=by
 rw [E9,List.length_map,Lh,←List.map_append,E9]
 exact congrArg (List.map AV.int) (GY _ m)
noncomputable def FS (l:List Int):List Int:=l.zipIdx.map fun p=>p.1+(p.2:Int)
noncomputable def Px:List Int:=[2,3,4,2,3,0,4,3,2,1,4]
noncomputable def O4 (v:Int):Nat:=((Px[(v.fmod 11).toNat]?).getD 0).toNat
noncomputable def Ao (v:Int):List Int:=row v (O4 v)
theorem M1 (v:Int):0≤v.fmod 11∧v.fmod 11<11:=⟨Int.fmod_nonneg_of_pos v (by decide),Int.fmod_lt_of_pos v (by decide)⟩
theorem JL (v:Int):∃k:Nat,k≤4∧Px[(v.fmod 11).toNat]? = some (k:Int)∧O4 v=k:=by
 have h:=M1 v
 have h2:(v.fmod 11).toNat<11:=by omega
 unfold O4
 generalize (v.fmod 11).toNat=j at h2
 have:∀j:Fin 11,∃k:Nat,k≤4∧Px[j.val]? = some (k:Int):=by decide
 refine xa1_2 (this ⟨j,h2⟩) ?_;intro k h1 h3
 exact ⟨k,h1,h3,by rw [h3];simp⟩
theorem K7 (l:List Int):l.zipIdx.map (fun p=>AV.int (p.1+(p.2:Int)))=(FS l).map .int:=by unfold FS;rw [List.map_map];rfl
theorem PF (l:List Int):Ft (l.map .int)=l.zipIdx.map fun p=>.tup [.int (p.2:Int),.int p.1]:=Lb l _
theorem L6 (l:List Int):(FS l).length=l.length:=by unfold FS;simp
theorem O3 (v:Int) {k:Nat} (h:Px[(v.fmod 11).toNat]? = some (k:Int)):([AV.int 2,AV.int 3,AV.int 4,AV.int 2,AV.int 3,AV.int 0,AV.int 4,AV.int 3,AV.int 2,AV.int 1,AV.int 4]:List AV)[(v.fmod 11).toNat]? = some (.int (k:Int)):=by
 have a1:([AV.int 2,AV.int 3,AV.int 4,AV.int 2,AV.int 3,AV.int 0,AV.int 4,AV.int 3,AV.int 2,AV.int 1,AV.int 4]:List AV)=Px.map AV.int:=rfl
 rw [a1,List.getElem?_map,h];rfl
theorem MV (T:TpX C) {fr:Addr} {rr:FdRest} (hrow:FnAt C fr (rr.fd rowP .none)) (hgr:GL C "_law_row" (.ref fr)) (hA:A.handled=none) (hroom:A.depth+1+Builtin.pylongFrames<recursionLimit) {e1 e2:Expr} {px pos:Pos} {n:Int} {k:Nat} (h1:PE C A hp env loc e1 (.int n,false)) (h2:PE C A hp env loc e2 (.int k,false)) (hk1:k≤1000)
  (hk:autoParam (env.kindOf "_law_row" = some .globalImplicit) AC.aux0._auto_1)
  (he:autoParam (eval (.Call (.Name "_law_row" px) [e1,e2] [] pos) env=(do callWith pos (←eval (.Name "_law_row" px) env) [] (AT env [e1,e2]) [])) AC.aux0._auto_1):PE C A hp env loc (.Call (.Name "_law_row" px) [e1,e2] [] pos) (tupI (row n k),false):=
 JA (pvs:=vals [.int n,.int k]) hrow hgr (.cons h1 (.cons h2 .nil)) (fun xs hx=>by
  obtain rfl:=hx.vals
  exact O5 T hrow hA hroom hk1) hk he
noncomputable def B1 (vs:List Int):List Int:=vs.flatMap fun v=>row v 3
theorem Nt (v:Int) (k:Nat):(row v k).length=k:=by simp [row]
theorem CL (vs:List Int):(B1 vs).length=3*vs.length:=by
 unfold B1
 induction vs with
 |nil=>rfl
 |cons v vs ih=>simp [Nt,ih];exact Nat.le_antisymm (At [_] [] (Za (Zn 3) (.mulL 3 Z0)) (.mulL 3 (Zs Z0)) rfl) (At [_] [] (.mulL 3 (Zs Z0)) (Za (Zn 3) (.mulL 3 Z0)) rfl)
end
end
section
section
variable {C:Cf} {A:Around} {s s':Shared} {F F' G:FH} {env:Env} {E:Value→Shared→Prop} {hp hp':HP} {loc:PL} {σ:Al}
noncomputable def Cw (l:List (List Int×AV)) (k:List Int):Option AV:=(l.find? fun p=>decide (p.1=k)).map (·.2)
noncomputable def Ci (l:List (List Int×AV)) (k:List Int) (x:AV):List (List Int×AV):=if (Cw l k).isSome then l.map (fun p=>if p.1=k then (p.1,x) else p) else l++[(k,x)]
noncomputable abbrev tK (C:Cf):=tupleKind (intKind C.prog C.w)
theorem Fw.len {l:List (List Int×AV)} {xs:List (List Int×Addr×Value)} (h:Fw F l xs):xs.length=l.length:=by
 induction h with
 |nil=>rfl
 |cons _ _ _ ih=>simp [ih]
theorem Fw.at {l:List (List Int×AV)} {xs:List (List Int×Addr×Value)} (h:Fw F l xs) (k:List Int):(∃x p,Cw l k=some x∧atKey xs k=some p∧VR F x p.2)∨(Cw l k=none∧atKey xs k=none):=by
 induction h with
 |nil=>exact .inr ⟨rfl,rfl⟩
 |@cons k' x a v l xs h1 h2 h3 ih=>
  by_cases q:k'=k
  ·exact .inl ⟨x,(a,v),by simp [Cw,q],by simp [atKey,q],h2⟩
  ·rcases ih with ⟨y,p,e1,e2,e3⟩|⟨e1,e2⟩
   ·exact .inl ⟨y,p,by simpa [Cw,List.find?_cons,q] using e1,by simpa [atKey,List.find?_cons,q] using e2,e3⟩
   ·exact .inr ⟨by simpa [Cw,List.find?_cons,q] using e1,by simpa [atKey,List.find?_cons,q] using e2⟩
theorem Fw.append {l m:List (List Int×AV)} {xs ys:List (List Int×Addr×Value)} (h:Fw F l xs) (h2:Fw F m ys):Fw F (l++m) (xs++ys):=by
 induction h with
 |nil=>exact h2
 |cons a b _ ih=>exact .cons a b ih
theorem Fw.put {l:List (List Int×AV)} {xs:List (List Int×Addr×Value)} {k:List Int} {x:AV} {v:Value} (h:Fw F l xs) (hv:VR F x v):Fw F (l.map fun p=>if p.1=k then (p.1,x) else p) (xs.map (putAt k v)):=by
 induction h with
 |nil=>exact .nil
 |@cons k' y a u l xs h1 h2 h3 ih=>
  simp only [List.map_cons]
  by_cases q:k'=k
  ·subst q
   rw [if_pos rfl,putAt,if_pos rfl]
   exact .cons h1 hv ih
  ·rw [if_neg q,putAt,if_neg q]
   exact .cons h1 h2 ih
theorem Fw.stored {l:List (List Int×AV)} {xs:List (List Int×Addr×Value)} {k:List Int} {x:AV} {a:Addr} {v:Value} (h:Fw F l xs) (hk:VR F (.tup (k.map .int)) (.ref a)) (hv:VR F x v):Fw F (Ci l k x) (storedH xs k a v):=by
 unfold Ci storedH
 rcases h.at k with ⟨y,p,e1,e2,_⟩|⟨e1,e2⟩
 ·rw [e1,e2];exact h.put hv
 ·rw [e1,e2];exact h.append (.cons hk hv .nil)
theorem KP {C:Cf} {k:List Int}:∀{vs:List Value},VRs F (k.map .int) vs→ItemsAre (intKind C.prog C.w) k vs:=by
 induction k with
 |nil=>intro vs h;obtain rfl:=h.inv0;exact .nil
 |cons i k ih=>
  intro vs h
  refine xa2_3 h.inv ?_;intro v us;rintro rfl;intro h1 h2
  refine xa1_1 h1.intI ?_;intro t;rintro rfl
  exact .cons (by simp [intKind,Value.isInt]) (ih h2)
theorem Jp {C:Cf} {h:Heap} (hF:∀b o,F b=some o→h.get? b=some o) {k:List Int} {v:Value} (r:VR F (tupI k) v):∃a,v=.ref a∧(tK C).is h k a:=by
 refine xa4_5 r.tupInv ?_;intro a o vs n;rintro rfl;intro h1 h2 h3 h4
 exact ⟨a,rfl,o,vs.toArray,n,hF _ _ h1,h2,h3,by simpa using KP h4⟩
theorem Fw.keys {C:Cf} {h:Heap} (hF:∀b o,F b=some o→h.get? b=some o) {l:List (List Int×AV)} {xs:List (List Int×Addr×Value)} (t:Fw F l xs):∀x∈xs,(tK C).is h x.1 x.2.1:=by
 induction t with
 |nil=>intro x hx;cases hx
 |cons a _ _ ih=>
  intro x hx
  rcases List.mem_cons.mp hx with rfl|hx
  ·refine xa1_2 (Jp (C:=C) hF a) ?_;intro b h1 h2
   cases h1;exact h2
  ·exact ih x hx
theorem Wd.tdictOf {hp:HP} (W:Wd C F G hp s) {a:Addr} {l:List (List Int×AV)} {ep:Nat} (ha:hp a=some (.tdict l ep)):∃xs,s.heap.DictOfH (tK C) a xs∧Fw F l xs:=by
 refine cps fun zP zk=>?_;(rcases W.ob a _ ha with ⟨_,_,o,ho,r⟩)<;>(refine zk ?_;clear zk zP)
 refine xa2_5 r.inv ?_;intro es xs a1 a2 a3 a4 a5
 exact ⟨xs,⟨o,es,_,ho,a1,a2,a3,a4.keys W.fz,a5⟩,a4⟩
theorem L8 {h:Heap} {a:Addr} {l:List (List Int×AV)} {xs:List (List Int×Addr×Value)} {gens:Array GenState} (hd:h.DictOfH (tK C) a xs) (t:Fw F l xs):∃o ep,h.get? a=some o∧OR C F gens (.tdict l ep) o:=by
 refine xa3_6 hd ?_;(try clear hd);intro o es ep ho a1 a2 a3 a4 a5
 exact ⟨o,ep,ho,.tdict a1 a2 a3 t a5⟩
theorem GW {E:Value→Shared→Prop} {a:Addr} {l:List (List Int×AV)} {ep:Nat} {k:List Int} {x:AV} {Q:Al→Prop} (ha:σ.hp a=some (.tdict l ep)) (hu:A.units≤9000) (hz:l.length≤4096) (h:∀ep',Q (σ.put a (.tdict (Ci l k x) ep'))) :
  ∀F G s vv vb vk,Rp C A F G env σ s→VR F x vv→VR F (.ref a) vb→VR F (tupI k) vk→wpAny (model C.prog C.w) A (setItem vb vk vv) (fun zu s'=>∃F' σ',AG F F'∧Rp C A F' G env σ' s'∧Q σ') E s:=by
 intro F G s vv vb vk hR hv hb hk
 (have zc:=VR.refI hb;clear hb;subst zc)
 refine xa1_2 (hR.wd.tdictOf ha) ?_;intro xs hd tp
 refine xa1_2 (Jp (C:=C) hR.wd.fz hk) ?_;intro ka;rintro rfl;intro hka
 refine wpAny_setItem_heap (knd:=tK C) (tupleKind_room_in1 (by unfold cLine;exact B6 [_] [(1,Z0,(Zn 9000))] (Zs Z0) (Zn 9900) rfl hu)) hka hd (fun h' hd' hsb=>?_) (by rw [tp.len,sizeLine_eq];exact Nat.le_trans hz (by decide))
 refine xa2_2 (L8 (C:=C) (gens:=s.gens) hd' (tp.stored hk hv)) ?_;intro o ep' ho r
 exact ⟨F,_,AG.refl F,hR.change ha rfl ho r (SameBut.rest hsb),h ep'⟩
theorem JT {value slice:Expr} {a:Addr} {l:List (List Int×AV)} {ep:Nat} {k:List Int} {x:AV} (ha:hp a=some (.tdict l ep)) (hu:A.units≤9000) (hx:Cw l k=some x):J8 C A hp (BY hp) (subscriptTail value slice) (.ref a,false) (tupI k,false) (x,false):=fun F s E v u hin hv hu'=>by
 obtain rfl:=hv.out.refI
 refine cps fun zP zk=>?_;(rcases hin.ob a _ ha with ⟨_,o,ho,r⟩)<;>(refine zk ?_;clear zk zP)
 refine xa2_5 r.inv ?_;intro es xs a1 a2 a3 a4 a5
 refine xa1_2 (Jp (C:=C) hin.fz hu'.out) ?_;intro ka;rintro rfl;intro hka
 have hm:s.heap.DictOfH (tK C) a xs:=⟨o,es,_,ho,a1,a2,a3,a4.keys hin.fz,a5⟩
 rcases a4.at k with ⟨y,p,e1,e2,e3⟩|⟨e1,_⟩
 ·rw [hx] at e1;(have zc:=Option.some.inj e1;clear e1;subst zc)
  exact Ei hm.typeIs slot_dict_getitem.lookup (wpAny_getItem_heap (knd:=tK C) (tupleKind_room_in1 (by unfold cLine;exact B6 [_] [(1,Z0,(Zn 9000))] (Zs Z0) (Zn 9900) rfl hu)) hka hm e2 (show Cr C A hp F s (fun F' v=>BY hp F' (x,false) v) _ _ from Cr.here hin (BY.val e3)))
 ·rw [hx] at e1;exact Ap e1
theorem Tr.todict {α β:Type} {E:Value→Shared→Prop} {R:FH→β→α→Prop} {t:Sem α} {Q:β→Al→Prop} {a:Addr} {ep:Nat} (ha:σ.hp a=some (.dict [] ep)) (h:Tr C A E env R t ⟨σ.loc,upd σ.hp a (.tdict [] ep)⟩ Q):Tr C A E env R t σ Q:=by
 intro F G s hR
 refine cps fun zP zk=>?_;(rcases hR.wd.ob a _ ha with ⟨_,_,o,ho,r⟩)<;>(refine zk ?_;clear zk zP)
 refine OR.dictC r fun es kvs a1 a2 a3 a4 a5 a6=>?_
 have e1:kvs=[]:=by cases a6;rfl
 subst e1
 have e2:es.toList=[]:=by cases h:es.toList with
  |nil=>rfl
  |cons e r=>rw [h] at a4;cases a4
 have hR':Rp C A F G env ⟨σ.loc,upd σ.hp a (.tdict [] ep)⟩ s:=hR.change (h':=s.heap) (t:=s.toks) ha rfl ho (.tdict (xs:=[]) a1 a2 (by rw [e2];rfl) .nil List.nodup_nil) fun b o _ e=>e
 exact h F G s hR'
theorem Gt (p:List Int×AV) (l:List (List Int×AV)) (k:List Int):Cw (p::l) k=if p.1=k then some p.2 else Cw l k:=by
 unfold Cw
 rw [List.find?_cons]
 by_cases q:p.1=k
 ·rw [decide_eq_true q,if_pos q];rfl
 ·rw [decide_eq_false q,if_neg q]
theorem Ku (k k':List Int) (x:AV):∀l:List (List Int×AV),Cw (l.map fun p=>if p.1=k then (p.1,x) else p) k'=if k'=k then (Cw l k).map (fun _=>x) else Cw l k'
 |[]=>by
  show (none:Option AV)=if k'=k then (none:Option AV) else none
  split<;>rfl
 |p::l=>by
  have ih:=Ku k k' x l
  rw [List.map_cons,Gt,ih,Gt,Gt]
  by_cases q:p.1=k
  ·rw [if_pos q,if_pos q]
   by_cases q2:k'=k
   ·rw [if_pos q2,if_pos q2,if_pos (q.trans q2.symm)];rfl
   ·rw [if_neg q2,if_neg q2]
    have q3:¬p.1=k':=fun z=>q2 (z.symm.trans q)
    rw [if_neg (show ¬(p.1,x).1=k' from q3),if_neg q3]
  ·rw [if_neg q,if_neg q]
   by_cases q2:k'=k
   ·rw [if_pos q2,if_pos q2,if_neg (fun z=>q (z.trans q2))]
   ·rw [if_neg q2,if_neg q2]
theorem Ce (l:List (List Int×AV)) (k k':List Int) (x:AV):Cw (Ci l k x) k'=if k'=k then some x else Cw l k':=by
 unfold Ci
 cases h:Cw l k with
 |some y=>
  rw [if_pos (show (some y).isSome=true from rfl),Ku,h];rfl
 |none=>
  rw [if_neg (by exact Bool.false_ne_true)]
  unfold Cw at h ⊢
  rw [List.find?_append]
  by_cases q:k'=k
  ·subst q
   have hn:l.find? (fun p=>decide (p.1=k'))=none:=by
    cases z:l.find? (fun p=>decide (p.1=k')) with
    |none=>rfl
    |some p=>rw [z] at h;cases h
   rw [hn,if_pos rfl];simp
  ·have q2:¬k=k':=fun z=>q z.symm
   rw [if_neg q];simp [q2]
theorem FX (l:List (List Int×AV)) (k:List Int) (x:AV):(Ci l k x).length≤l.length+1:=by
 unfold Ci;split<;>simp
end
end
section
inductive GH:Nat→AV→Prop
 |none {n}:GH n .none
 |int {n} (i):GH n (.int i)
 |str {n} (x):GH n (.str x)
 |bytes {n} (b):GH n (.bytes b)
 |tup {n l}:(∀x∈l,GH n x)→GH (n+1) (.tup l)
 |lst {n l}:(∀x∈l,GH n x)→GH (n+1) (.lst l)
section
variable {C:Cf} {A:Around} {hp:HP} {s s':Shared} {env:Env} {F F':FH} {E:Value→Shared→Prop} {loc:PL}
theorem VRs.at2 {xs:List AV} {vs us:List Value} (h:VRs F xs vs) (k:VRs F xs us) {j:Nat} (hj:j<vs.length) (hj2:j<us.length):∃x∈xs,VR F x vs[j]∧VR F x us[j]:=by
 have hx:j<xs.length:=by rw [←h.length];exact hj
 refine xa1_2 (h.get (i:=j) (List.getElem?_eq_getElem hx)) ?_;intro v hv r
 refine xa1_2 (k.get (i:=j) (List.getElem?_eq_getElem hx)) ?_;intro u hu q
 rw [List.getElem?_eq_getElem hj] at hv
 rw [List.getElem?_eq_getElem hj2] at hu
 exact ⟨xs[j],List.getElem_mem _,Option.some.inj hv▸r,Option.some.inj hu▸q⟩
theorem Km {x:AV}:∀{n:Nat},GH n x→∀{A:Around} {s:Shared} {v u:Value},A.units+n<cLine→(∀b o,F b=some o→s.heap.get? b=some o)→VR F x v→VR F x u→SeqAt.EqAt A s v u true:=by
 intro n h
 induction h with
 |none=>intro A s v u hu hF h1 h2;rw [h1.noneI,h2.noneI];exact SeqAt.EqAt.same _
 |int i=>
  intro A s v u hu hF h1 h2
  refine xa1_1 h1.intI ?_;intro t;rintro rfl
  refine xa1_1 h2.intI ?_;intro t';rintro rfl
  have:=SeqAt.EqAt.int_int (A:=A) (s:=s) i t i t'
  rwa [beq_self_eq_true] at this
 |str x=>
  intro A s v u hu hF h1 h2
  refine xa1_1 h1.strI ?_;intro t;rintro rfl
  refine xa1_1 h2.strI ?_;intro t';rintro rfl
  have:=SeqAt.EqAt.str_str (A:=A) (s:=s) x t x t'
  rwa [beq_self_eq_true] at this
 |bytes b=>
  intro A s v u hu hF h1 h2
  refine xa1_1 h1.bytesI ?_;intro t;rintro rfl
  refine xa1_1 h2.bytesI ?_;intro t';rintro rfl
  exact fun prog w E Q hq=>eqBool_bytes (by rw [decide_eq_true rfl];exact hq)
 |tup hl ih=>
  intro A s v u hu hF h1 h2
  refine xa4_5 h1.tupInv ?_;intro a o vs k;rintro rfl;intro q1 q2 q3 q4
  refine xa4_5 h2.tupInv ?_;intro a' o' vs' k';rintro rfl;intro r1 r2 r3 r4
  by_cases e:a=a'
  ·subst e;exact SeqAt.EqAt.same _
  have hsz:vs.toArray.size=vs'.toArray.size:=by rw [List.size_toArray,List.size_toArray,q4.length,r4.length]
  have:=SeqAt.RcAt.tuples (A:=A) (s:=s) (e:=fun _=>true) ⟨o,hF _ _ q1,q2,k,q3⟩ ⟨o',hF _ _ r1,r2,k',r3⟩ (by exact B6 [_,_,_] [(1,(Zs (Za Z0 (Zs Z2))),Z1)] Z0 Z1 rfl hu) (fun j j1 j2=>by
   refine xa1_3 (q4.at2 r4 (j:=j) (by simpa using j1) (by simpa using j2)) ?_;intro x hx z1 z2
   exact ih x hx (A:=A.in1) (by show A.units+1+_<cLine;exact B6 [_,_,_] [(1,(Zs (Za Z0 (Zs Z1))),Z2)] (Za (Zs Z0) Z1) Z2 rfl hu) hF (by simpa using z1) (by simpa using z2))
  rw [hsz,beq_self_eq_true,Bool.and_true,(by simp:(List.range (min vs'.toArray.size vs'.toArray.size)).all (fun _=>true)=true)] at this
  exact SeqAt.EqAt.of_refs e this
 |lst hl ih=>
  intro A s v u hu hF h1 h2
  refine xa4_5 h1.lstInv ?_;intro a o vs k;rintro rfl;intro q1 q2 q3 q4
  refine xa4_5 h2.lstInv ?_;intro a' o' vs' k';rintro rfl;intro r1 r2 r3 r4
  by_cases e:a=a'
  ·subst e;exact SeqAt.EqAt.same _
  have hsz:vs.toArray.size=vs'.toArray.size:=by rw [List.size_toArray,List.size_toArray,q4.length,r4.length]
  have:=SeqAt.RcAt.lists (A:=A) (s:=s) (e:=fun _=>true) ⟨o,hF _ _ q1,q2,k,q3⟩ ⟨o',hF _ _ r1,r2,k',r3⟩ hsz (by exact B6 [_,_,_] [(1,(Zs (Za Z0 (Zs Z2))),Z1)] Z0 Z1 rfl hu) (fun j j1 j2=>by
   refine xa1_3 (q4.at2 r4 (j:=j) (by simpa using j1) (by simpa using j2)) ?_;intro x hx z1 z2
   exact ih x hx (A:=A.in1) (by show A.units+1+_<cLine;exact B6 [_,_,_] [(1,(Zs (Za Z0 (Zs Z1))),Z2)] (Za (Zs Z0) Z1) Z2 rfl hu) hF (by simpa using z1) (by simpa using z2))
  rw [(by simp:(List.range vs.toArray.size).all (fun _=>true)=true)] at this
  exact SeqAt.EqAt.of_refs e this
theorem N3 {l:List AV} {n:Nat} {a b:Bool} (h:∀x∈l,GH n x) (hn:n≤50) (hu:A.units≤9000):J8 C A hp (BY hp) (compareOp .Eq) (.lst l,a) (.lst l,b) (.bool true,false):=fun F s E v u hin hv hw=>by
 refine xa4_6 (hv.lstI hin) ?_;intro x ox vs k;rintro rfl;intro q1 q2 q3 q4 zu
 refine xa4_6 (hw.lstI hin) ?_;intro y oy us k';rintro rfl;intro r1 r2 r3 r4 zu2
 have hc:cLine=9900:=rfl
 have hsz:vs.toArray.size=us.toArray.size:=by rw [List.size_toArray,List.size_toArray,q4.length,r4.length]
 have:=SeqAt.RcAt.lists (A:=A) (s:=s) (e:=fun _=>true) ⟨ox,q1,q2,k,q3⟩ ⟨oy,r1,r2,k',r3⟩ hsz (by exact B6 [_,_] [(1,Z0,(Zn 9000)),(1,(Zn 9900),Z1)] Z0 Z1 rfl hu (Nat.le_of_eq (Eq.symm hc))) (fun j j1 j2=>by
  refine xa1_3 (q4.at2 r4 (j:=j) (by simpa using j1) (by simpa using j2)) ?_;intro z hz z1 z2
  exact Km (h z hz) (A:=A.in1) (by show A.units+1+_<cLine;exact B6 [_,_,_] [(1,Z1,(Zn 50)),(1,Z0,(Zn 9000)),(1,(Zn 9900),Z2)] (Za (Zs Z0) Z1) Z2 rfl hn hu (Nat.le_of_eq (Eq.symm hc))) hin.fz (by simpa using z1) (by simpa using z2))
 rw [(by simp:(List.range vs.toArray.size).all (fun _=>true)=true)] at this
 exact this _ _ _ _ (Cr.here (t:=s.toks) hin (.val (.bool _)))
theorem FF {l:List AV} {n:Nat} {a b:Bool} (h:∀x∈l,GH n x) (hn:n≤50) (hu:A.units≤9000):J8 C A hp (BY hp) (compareOp .NotEq) (.lst l,a) (.lst l,b) (.bool false,false):=fun F s E v u hin hv hw=>by
 refine xa4_6 (hv.lstI hin) ?_;intro x ox vs k;rintro rfl;intro q1 q2 q3 q4 zu
 refine xa4_6 (hw.lstI hin) ?_;intro y oy us k';rintro rfl;intro r1 r2 r3 r4 zu2
 have hc:cLine=9900:=rfl
 have hsz:vs.toArray.size=us.toArray.size:=by rw [List.size_toArray,List.size_toArray,q4.length,r4.length]
 have:=SeqAt.RcNeAt.lists (A:=A) (s:=s) (e:=fun _=>true) ⟨ox,q1,q2,k,q3⟩ ⟨oy,r1,r2,k',r3⟩ hsz (by exact B6 [_,_] [(1,Z0,(Zn 9000)),(1,(Zn 9900),Z1)] Z0 Z1 rfl hu (Nat.le_of_eq (Eq.symm hc))) (fun j j1 j2=>by
  refine xa1_3 (q4.at2 r4 (j:=j) (by simpa using j1) (by simpa using j2)) ?_;intro z hz z1 z2
  exact Km (h z hz) (A:=A.in1) (by show A.units+1+_<cLine;exact B6 [_,_,_] [(1,Z1,(Zn 50)),(1,Z0,(Zn 9000)),(1,(Zn 9900),Z2)] (Za (Zs Z0) Z1) Z2 rfl hn hu (Nat.le_of_eq (Eq.symm hc))) hin.fz (by simpa using z1) (by simpa using z2))
 rw [(by simp:(List.range vs.toArray.size).all (fun _=>true)=true)] at this
 exact this _ _ _ _ (Cr.here (t:=s.toks) hin (.val (.bool _)))
end
end
section
noncomputable abbrev Qn (ns:List Int):Obj:={ cls:=.type "bytearray",data:=.bytearray (byteArr ns) }
section
variable {prog:Program} {w:World} {A:Around} {E:Value→Shared→Prop} {s:Shared}
theorem Hz (ns:List Int) (n:Int):byteArr (ns++[n])=(byteArr ns).push n.toNat.toUInt8:=by
 unfold byteArr;rw [List.map_append];simp
theorem I7 {I S:Addr} {fp wr:List Addr} {n:Nat} {P:Nat→Value→Prop} {St:Nat→Heap→Prop} {R:Result→Shared→Prop} (W:Walks prog w A.in1 I fp wr n P St) (hS:S∉fp) (all:List Int) (hr:∀x∈all,0≤x∧x<256) (hz:all.length≤100000) (hn:all.length=n)
  (hP:∀i v,P i v→∃t,∃x,all[i]? = some x∧v=.int x t):∀(rest acc:List Int) (s:Shared),all=acc++rest→St acc.length s.heap→s.heap.get? S=some (Qn acc) →
   (∀h' t k,(∀b o,b∉wr→b≠S→s.heap.get? b=some o→h'.get? b=some o)→R (.ok (.ret (.bytes (byteArr all) t))) { s with heap:=h',toks:=k }) →
   codeAny (model prog w) A (.builtin "bytes.__new__.loop" ⟨[.type "bytes",.ref I,.ref S],[]⟩) R s
 |[],acc,s,e,st,ho,hR=>by
  rw [List.append_nil] at e
  subst e
  refine codeAny_builtin F.bm_entry_loop ?_
  rw [Around.under_plainId F.bm_plain_loop _]
  show wpAny _ A.in1 (pyNext (.ref I) >>= _) _ _ s
  refine wpAny_bind (W.done s _ _ (hn▸st) fun h' tk hk=>?_)
  have hS':h'.get? S=some (Qn all):=hk S _ (fun z=>hS (W.sub _ z)) ho
  refine wpAny_bind ?_
  unfold Builtin.Bytes.payload Builtin.Bytes.payload?
  refine wpAny_bind (wpAny_bind (wpAny_load hS' (wpAny_pure (wpAny_pure (wpAny_bind (wpAny_mkBytes ?_ ?_))))))
  ·show wpAny _ _ (if (Value.type "bytes" == Value.type "bytes")=true then _ else _) _ _ _
   rw [if_pos (by decide)]
   first
    |exact wpAny_pure (hR h' _ _ fun b o hb _ e=>hk b o hb e)
    |exact wpAny_bind (wpAny_pure (wpAny_pure (hR h' _ _ fun b o hb _ e=>hk b o hb e)))
  ·rw [byteArr_size,sizeLine_eq];exact At [_] [(1,Z0,(Zn 100000))] Z0 (Zn 16777216) rfl hz
 |x::rest,acc,s,e,st,ho,hR=>by
  have hl:all.length=acc.length+(rest.length+1):=by rw [e,List.length_append,List.length_cons]
  have hx:all[acc.length]? = some x:=by rw [e];simp
  refine xa0_2 (hr x (List.mem_of_getElem? hx)) ?_;intro r0 r1
  refine codeAny_builtin F.bm_entry_loop ?_
  rw [Around.under_plainId F.bm_plain_loop _]
  show wpAny _ A.in1 (pyNext (.ref I) >>= _) _ _ s
  refine wpAny_bind (W.item _ s _ _ (by exact B6 [_,_,_,_] [(1,Z2,Z1),(1,(Za Z0 (Zs Z3)),Z2)] Z0 Z1 rfl (Nat.le_of_eq hn) (Nat.le_of_eq (Eq.symm hl))) st fun v h' tk hv st' hk=>?_)
  refine xa2_2 (hP _ _ hv) ?_;intro t y hy;rintro rfl
  rw [hx] at hy
  cases hy
  have hS':h'.get? S=some (Qn acc):=hk S _ (fun z=>hS (W.sub _ z)) ho
  refine wpAny_bind (wpAny_holding (wpAny_of_eq (rfl:asIndex (.int x t)=pure x) (wpAny_bind (wpAny_letGo ?_))))
  rw [if_neg (by simp only [Bool.or_eq_true,decide_eq_true_eq];omega)]
  refine wpAny_bind ?_
  show wpAny _ _ (updateBytearray S (·.push x.toNat.toUInt8)) _ _ _
  unfold updateBytearray
  refine wpAny_bind (wpAny_load hS' ?_)
  show wpAny _ _ (update S (Obj.mapBytearray (·.push x.toNat.toUInt8)) >>= fun _=>lookBehind S) _ _ _
  refine wpAny_bind (wpAny_update hS' ?_)
  have hS₂:(h'.update S (Obj.mapBytearray (·.push x.toNat.toUInt8))).get? S=some (Qn (acc++[x])):=by
   show _=some ({ cls:=Value.type "bytearray",data:=Data.bytearray (byteArr (acc++[x])) }:Obj)
   rw [Hz]
   exact Heap.get?_update_self (Obj.mapBytearray (·.push x.toNat.toUInt8)) hS' rfl
  refine wpAny_lookBehind hS₂ ?_ ?_
  ·show (if (byteArr (acc++[x])).size > sizeLine then some "bytearray:memory" else none)=none
   rw [if_neg (by rw [byteArr_size,List.length_append,List.length_singleton,sizeLine_eq];exact fun zh=>IN [_,_,_] [(1,Z0,(Zn 100000)),(1,(Za Z1 (Zs Z2)),Z0),(1,(Zs (Zn 16777216)),(Zs Z1))] rfl hz (Nat.le_of_eq (Eq.symm hl)) zh)]
  ·refine wpAny_pure ⟨plainId_quiet F.bm_plain_loop _,I7 W hS all hr hz hn hP rest (acc++[x]) _ (by rw [e];simp) ?_ hS₂ fun h3 t' k' hk3=>hR h3 t' k' fun b o hb hbS q=>hk3 b o hb hbS ((Heap.get?_update_other _ _ (Ne.symm hbS)).trans (hk b o hb q))⟩
   rw [List.length_append,List.length_singleton]
   exact W.frame _ _ _ st' fun b hb o q=>(Heap.get?_update_other _ _ (fun (z:S=b)=>hS (z.symm▸hb))).trans q
end
end
section
theorem OZ:typeLookup (.type "tuple") "__bytes__" = pure none:=by rw [typeLookup_type,builtinLookup_eq_fast];kernel_rfl
theorem OY:typeLookup (.type "tuple") "__index__" = pure none:=by rw [typeLookup_type,builtinLookup_eq_fast];kernel_rfl
theorem MJ:typeLookup (.type "tuple") "__buffer__" = pure none:=by rw [typeLookup_type,builtinLookup_eq_fast];kernel_rfl
theorem MI:splitId "tuple.__len__" = some ("tuple", "__len__"):=by decide +kernel
theorem OX:isSubtype (.type "tuple") (.type "tuple")=pure true:=by rw [isSubtype_type];kernel_rfl
section
variable {prog:Program} {w:World} {A:Around} {E:Value→Shared→Prop} {s:Shared}
theorem NJ {l:Addr} {vs:List Value} {ns:List Int} {Q:Value→Shared→Prop} (hl:s.heap.IsTuple l vs.toArray) (hi:IntsAre vs ns) (hr:∀n∈ns,0≤n∧n<256) (hz:ns.length≤100000) (hh:A.handled=none)
  (hQ:∀h' t k,(∀b o,s.heap.get? b=some o→h'.get? b=some o)→Q (.bytes (byteArr ns) t) { s with heap:=h',toks:=k }):wpAny (model prog w) A (call (.type "bytes") [.ref l]) Q E s:=by
 refine callType_codes (Q₁:=fun obj s₁=>s₁.TypeIs obj "bytes"∧Q obj s₁) F.bm_called (F.bm_typeCall _) F.entry_object_init ?_ fun obj s₁ h₁=>⟨h₁.1,F.args_object_init_2 obj _,object_init_meets F.bm_called.init.lookup F.bm_called.made (by decide) prog w A.in1 _ s₁ ⟨h₁.1,rfl,h₁.2⟩⟩
 have hQ:∀h' t k,(∀b o,s.heap.get? b=some o→h'.get? b=some o)→Shared.TypeIs { s with heap:=h',toks:=k } (.bytes (byteArr ns) t) "bytes"∧Q (.bytes (byteArr ns) t) { s with heap:=h',toks:=k }:=fun h' t k hk=>⟨PySem.W.typeIs_bytes _ _ _,hQ h' t k hk⟩
 refine codeAny_of_tree ?_
 show wpAny _ A.in1.in1 (do checkBuiltinCall "bytes.__new__" ⟨[.type "bytes",.ref l],[]⟩;again (.builtin "bytes.__new__" ⟨[.type "bytes",.ref l],[]⟩)) _ _ s
 refine wpAny_bind (wpAny_of_eq (F.bm_newCall _) (wpAny_pure ⟨plainId_quiet F.bm_plain _,codeAny_builtin F.bm_entry ?_⟩))
 rw [Around.under_plainId F.bm_plain _]
 have hT:s.TypeIs (.ref l) "tuple":=hl.typeIs
 refine cps fun zP zk=>?_;(rcases id hl with ⟨ol,hol,hoc,nl,hod⟩)<;>(refine zk ?_;clear zk zP)
 have lt:=Heap.lt_size hol
 unfold Builtin.«bytes.__new__»
 refine wpAny_bind (wpAny_of_eq (a:=true) rfl (bm_if_false rfl (wpAny_bind (wpAny_of_eq F.bm_sub (bm_if_false rfl (wpAny_bind (wpAny_of_eq (F.bm_bind _) ?_)))))))
 refine wpAny_bind (wpAny_of_eq (a:=()) rfl (wpAny_bind (wpAny_of_eq (a:=()) rfl (bm_if_false rfl (wpAny_bind (wpAny_specialOf hT OZ ?_))))))
 refine wpAny_bind (wpAny_bind ?_)
 show wpAny _ _ (load l >>= _) _ _ _
 refine wpAny_bind (wpAny_load hol ?_)
 rw [hod]
 refine wpAny_pure (wpAny_pure (bm_if_false rfl (wpAny_bind (wpAny_specialOf hT OY (bm_if_true rfl ?_)))))
 first
  |show wpAny _ _ (Builtin.Bytes.buffer? "bytes.__new__" (.ref l) true >>= _) _ _ _
  |(refine wpAny_bind ?_;show wpAny _ _ (Builtin.Bytes.buffer? "bytes.__new__" (.ref l) true >>= _) _ _ _)
 refine wpAny_bind ?_
 unfold Builtin.Bytes.buffer?
 refine wpAny_bind (wpAny_specialOf hT MJ (wpAny_bind (wpAny_specialOf hT MJ (wpAny_pure ?_))))
 refine wpAny_bind (wpAny_tryCatch (wpAny_pyIter_tuple hl ?_))
 have hl1:(s.heap.push { cls:=.type "tuple_iterator",data:=.fields #[.ref l,.int 0 0] }).IsTuple l vs.toArray:=⟨ol,Heap.get?_push_of_some _ hol,hoc,nl,hod⟩
 have hT1:Shared.TypeIs { s with heap:=s.heap.push { cls:=.type "tuple_iterator",data:=.fields #[.ref l,.int 0 0] } } (.ref l) "tuple":=⟨ol,Heap.get?_push_of_some _ hol,hoc⟩
 refine wpAny_bind (wpAny_holding ?_)
 unfold Builtin.Bytes.lengthHint
 refine wpAny_bind (wpAny_specialOf hT1 F.slot_tuple_len.lookup ?_)
 dsimp only
 rw [MI]
 dsimp only
 refine wpAny_bind (wpAny_isInstance hT1 OX (bm_if_false rfl (bm_if_true (by decide +kernel) (wpAny_pure (wpAny_bind ?_)))))
 unfold Builtin.Bytes.newBytearray
 refine wpAny_newObj_type ?_ (Nat.zero_le _)
 have hsz:(s.heap.push { cls:=.type "tuple_iterator",data:=.fields #[.ref l,.int 0 0] }).objs.size=s.heap.objs.size+1:=Heap.size_push _ _
 have hnotin:(s.heap.push { cls:=.type "tuple_iterator",data:=.fields #[.ref l,.int 0 0] }).objs.size∉[s.heap.objs.size,l]:=by
  rw [hsz]
  intro h
  rcases List.mem_cons.mp h with e|h
  ·exact absurd e (Nat.succ_ne_self _)
  ·exact absurd (List.mem_singleton.mp h) (Nat.ne_of_gt (Nat.lt_succ_of_lt lt))
 have main:=I7 (A:=A.in1) (S:=(s.heap.push { cls:=.type "tuple_iterator",data:=.fields #[.ref l,.int 0 0] }).objs.size) (R:=wants (fun obj s₁=>s₁.TypeIs obj "bytes"∧Q obj s₁) E) (Walks.tuple (prog:=prog) (w:=w) (A:=A.in1.in1) hh s.heap.objs.size l (Nat.ne_of_lt lt) vs.toArray) hnotin ns hr hz (by rw [List.size_toArray,hi.length]) (fun i v hv=>by
   rw [List.getElem?_toArray] at hv
   refine xa2_2 (IntsAre.at hi i v hv) ?_;intro n t e1 e2
   exact ⟨t,n,e2,e1⟩) ns []
  { s with heap:=(s.heap.push { cls:=.type "tuple_iterator",data:=.fields #[.ref l,.int 0 0] }).push { cls:=.type "bytearray",data:=.bytearray #[] } } rfl
  ⟨⟨_,Heap.get?_push_of_some _ (Heap.get?_push_size _ rfl),rfl,rfl⟩,⟨ol,Heap.get?_push_of_some _ (Heap.get?_push_of_some _ hol),hoc,nl,hod⟩⟩ (Heap.get?_push_size _ rfl)
  fun h' t k hk=>hQ h' t k fun b o e=>hk b o (fun z=>absurd (List.mem_singleton.mp z) (Nat.ne_of_lt (Heap.lt_size e))) (by rw [hsz];exact Nat.ne_of_lt (Nat.lt_succ_of_lt (Heap.lt_size e))) (Heap.get?_push_of_some _ (Heap.get?_push_of_some _ e))
 first
  |exact wpAny_pure ⟨plainId_quiet F.bm_plain_loop _,main⟩
  |exact wpAny_pure (wpAny_pure ⟨plainId_quiet F.bm_plain_loop _,main⟩)
end
section
variable {C:Cf} {A:Around} {hp:HP} {s s':Shared} {env:Env} {F F':FH} {E:Value→Shared→Prop} {loc:PL}
theorem Ms {l:List Int} {p:Bool} (hA:A.handled=none) (hr:∀n∈l,0≤n∧n<256) (hz:l.length≤100000):PK C A hp (.type "bytes") [(.lst (l.map .int),p)] (.bytes (byteArr l),false):=fun F s E us hin r=>by
 refine xa2_3 r.inv ?_;intro v us;rintro rfl;intro r1 r
 obtain rfl:=r.nilI
 refine xa4_6 (r1.lstI hin) ?_;intro a o vs n;rintro rfl;intro ho hc hd hvs zu
 refine call_bytes_ints ⟨o,ho,hc,n,hd⟩ hvs.ints hr (by rw [hvs.length,List.length_map,sizeLine_eq];exact At [_] [(1,Z0,(Zn 100000))] Z0 (Zn 16777216) rfl hz) hA fun h' t k hk=>?_
 exact ⟨F,.keep (t:=k) hin hk,.val (.bytes _ t)⟩
theorem Mr {l:List Int} (hA:A.handled=none) (hr:∀n∈l,0≤n∧n<256) (hz:l.length≤100000):PK C A hp (.type "bytes") [(.tup (l.map .int),false)] (.bytes (byteArr l),false):=fun F s E us hin r=>by
 refine xa2_3 r.inv ?_;intro v us;rintro rfl;intro r1 r
 obtain rfl:=r.nilI
 refine xa4_6 (r1.tupI hin) ?_;intro a o vs n;rintro rfl;intro ho hc hd hvs zu
 refine NJ ⟨o,ho,hc,n,hd⟩ hvs.ints hr hz hA fun h' t k hk=>?_
 exact ⟨F,.keep (t:=k) hin hk,.val (.bytes _ t)⟩
theorem NC {xs:List AV} (hz:xs.length≤100000):PK C A hp (.type "list") [(.tup xs,false)] (.lst xs,false):=fun F s E us hin r=>by
 refine xa2_3 r.inv ?_;intro v us;rintro rfl;intro r1 r
 obtain rfl:=r.nilI
 refine xa4_6 (r1.tupI hin) ?_;intro a o vs n;rintro rfl;intro ho hc hd hvs zu
 refine call_list_seq a (.inr rfl) ho hc hd (fun h' c' hk hn=>?_) (by rw [List.size_toArray,hvs.length,sizeLine_eq];exact At [_] [(1,Z0,(Zn 100000))] Z0 (Zn 16777216) rfl hz)
 have st:=BH.put (t:=s.toks) hin hk hn (DE _)
 exact ⟨_,st,.val (.lst (Ar _ _ _) rfl rfl (hvs.mono st.e))⟩
theorem I8 {l:List Int} (h:∀n∈l,0≤n∧n<256):ED (byteArr l)=l.map AV.int:=by
 unfold ED byteArr
 rw [List.toList_toArray,List.map_map]
 refine List.map_congr_left fun n hn=>?_
 refine xa0_2 (h n hn) ?_;intro h1 h2
 show AV.int ((n.toNat.toUInt8).toNat:Int)=.int n
 congr 1
 rw [Nat.toUInt8_eq,UInt8.toNat_ofNat']
 omega
end
end
section
section
variable {C:Cf} {A:Around} {hp:HP} {s s':Shared} {env:Env} {F F':FH} {E:Value→Shared→Prop} {loc:PL}
structure ZAp (z TI TO i1 i2:Addr) (fp1 fp2:List Addr):Prop where
 a1:TI≠z
 a2:TO≠z
 a3:TI≠TO
 z1:z∉fp1
 z2:z∉fp2
 I1:TI∉fp1
 I2:TI∉fp2
 O1:TO∉fp1
 O2:TO∉fp2
 x1:i1∈fp1
 x2:i2∈fp2
 y1:i1∉fp2
 y2:i2∉fp1
theorem Ba {a b:Addr} {l:List Addr} (h1:a∉l) (h2:b∈l):a≠b:=fun e=>h1 (e▸h2)
section
variable {prog:Program} {w:World} {n i:Nat} {z TI TO i1 i2:Addr} {fp1 fp2:List Addr} {P1 P2:Nat→Value→Prop} {S1 S2:Nat→Heap→Prop}
noncomputable abbrev ZSt (z TI TO i1 i2:Addr) (S1 S2:Nat→Heap→Prop) (i:Nat) (h:Heap):Prop:=IsZip h z TI TO .none∧IsPair h TI (.ref i1) (.ref i2)∧(∃a b,IsPair h TO a b)∧S1 i h∧S2 i h
theorem Nj {Q:Option Value→Shared→Prop} (Z:ZAp z TI TO i1 i2 fp1 fp2) (D1:Draws prog w A.in1 i1 fp1 n P1 S1) (D2:Draws prog w A.in1 i2 fp2 n P2 S2) (hi:i<n) (st:ZSt z TI TO i1 i2 S1 S2 i s.heap)
  (hQ:∀T x y h' tk,P1 i x→P2 i y→s.heap.objs.size≤T→IsPair h' T x y→IsZip h' z TI TO (rawInt T)→IsPair h' TI (.ref i1) (.ref i2)→IsPair h' TO x y→S1 (i+1) h'→S2 (i+1) h'→(∀c o,c≠z→c≠TO→c≠i1→c≠i2→s.heap.get? c=some o→h'.get? c=some o)→Q (some (.ref T)) { s with heap:=h',toks:=tk }) :
  wpAny (model prog w) A (pyNext (.ref z)) Q E s:=by
 refine xa0_5 st ?_;(try clear st);intro hz hTI;intro zq;refine xa2_1 zq ?_;(try clear zq);intro a b hTO;intro st1 st2
 have hT:s.TypeIs (.ref z) "zip":=⟨_,hz,rfl⟩
 unfold pyNext
 refine wpAny_bind (wpAny_attempt (wpAny_callSpecial?_slot (name:=Str.ofString "__next__") hT F.slot_zip_next (wpAny_call_entry F.slot_zip_next hT F.entry_zip_next ?_ (F.args_zip_next_1 _))))
 refine cps fun zP zk=>?_;(rcases s with ⟨h0,g,d,tk0,os⟩)<;>(refine zk ?_;clear zk zP)
 show wpAny _ _ (field (.ref z) 2 >>= _) _ _ _
 refine wpAny_bind (wpAny_field hz rfl (x:=.bool false) rfl ?_)
 show wpAny _ _ (field (.ref z) 3 >>= _) _ _ _
 refine wpAny_bind (wpAny_field hz rfl (x:=.ref TI) rfl (wpAny_bind (wpAny_seqItems hTI rfl ?_)))
 show wpAny _ _ (Builtin.SmallTypes.ownedTupleIsFree (.ref z) >>= _) _ _ _
 refine wpAny_bind ?_
 unfold Builtin.SmallTypes.ownedTupleIsFree
 refine wpAny_bind (wpAny_field hz rfl (x:=.none) rfl (wpAny_pure ?_))
 simp only [if_true]
 refine wpAny_bind (wpAny_rule (wpAny_bind (wpAny_field hz rfl (x:=.ref TO) rfl (wpAny_bind (wpAny_setField_rec hz (by simp) fun h1 hz1 k1=>?_)))))
 have hTO1:IsPair h1 TO a b:=k1.extBut _ _ Z.a2 hTO
 have st11:=D1.frame _ _ h1 st1 fun c hc o e=>k1.extBut c o (Ba Z.z1 hc).symm e
 have st21:=D2.frame _ _ h1 st2 fun c hc o e=>k1.extBut c o (Ba Z.z2 hc).symm e
 refine wpAny_bind ?_
 simp only [List.zipIdx_cons,List.zipIdx_nil,List.forIn_cons,List.forIn_nil]
 refine wpAny_bind (wpAny_bind (wpAny_onRaise ?_))
 show wpAny _ _ (Builtin.SmallTypes.nextOf (.ref i1) >>= _) _ _ _
 refine wpAny_bind (D1.item i _ _ _ hi st11 fun x h2 tk2 px st12 k2=>wpAny_pure ?_)
 have hTO2:IsPair h2 TO a b:=k2.extBut _ _ (Ba Z.O1 Z.x1) hTO1
 have st22:=D2.frame _ _ h2 st21 fun c hc o e=>k2.extBut c o (Ba Z.y1 hc).symm e
 refine wpAny_bind (wpAny_seqItems hTO2 rfl (wpAny_bind (wpAny_updateSeq_pair hTO2 fun h3 hTO3 k3=>wpAny_bind (wpAny_letGo (wpAny_pure ?_)))))
 replace hTO3:IsPair h3 TO x b:=hTO3
 have st13:=D1.frame _ _ h3 st12 fun c hc o e=>k3.extBut c o (Ba Z.O1 hc).symm e
 have st23:=D2.frame _ _ h3 st22 fun c hc o e=>k3.extBut c o (Ba Z.O2 hc).symm e
 refine wpAny_bind (wpAny_bind (wpAny_onRaise ?_))
 show wpAny _ _ (Builtin.SmallTypes.nextOf (.ref i2) >>= _) _ _ _
 refine wpAny_bind (D2.item i _ _ _ hi st23 fun y h4 tk4 py st24 k4=>wpAny_pure ?_)
 have hTO4:IsPair h4 TO x b:=k4.extBut _ _ (Ba Z.O2 Z.x2) hTO3
 have st14:=D1.frame _ _ h4 st13 fun c hc o e=>k4.extBut c o (Ba Z.y2 hc).symm e
 refine wpAny_bind (wpAny_seqItems hTO4 rfl (wpAny_bind (wpAny_updateSeq_pair hTO4 fun h5 hTO5 k5=>wpAny_bind (wpAny_letGo (wpAny_pure (wpAny_pure ?_))))))
 replace hTO5:IsPair h5 TO x y:=hTO5
 have st15:=D1.frame _ _ h5 st14 fun c hc o e=>k5.extBut c o (Ba Z.O1 hc).symm e
 have st25:=D2.frame _ _ h5 st24 fun c hc o e=>k5.extBut c o (Ba Z.O2 hc).symm e
 have up:∀c o,c≠z→c≠TO→c≠i1→c≠i2→h0.get? c=some o→h5.get? c=some o:=fun c o n1 n2 n3 n4 e=>k5.extBut _ _ n2 (k4.extBut _ _ n4 (k3.extBut _ _ n2 (k2.extBut _ _ n3 (k1.extBut _ _ n1 e))))
 have hTI5:IsPair h5 TI (.ref i1) (.ref i2):=up _ _ Z.a1 Z.a3 (Ba Z.I1 Z.x1) (Ba Z.I2 Z.x2) hTI
 have hz5:=k5.extBut _ _ Z.a2.symm (k4.extBut _ _ (Ba Z.z2 Z.x2) (k3.extBut _ _ Z.a2.symm (k2.extBut _ _ (Ba Z.z1 Z.x1) hz1)))
 have hsz:h0.objs.size≤h5.objs.size:=Nat.le_of_eq (by rw [k5.1,k4.1,k3.1,k2.1,k1.1])
 refine wpAny_bind (wpAny_seqItems hTO5 rfl (wpAny_bind (wpAny_newTuple ?_)))
 show wpAny _ _ (Builtin.SmallTypes.ownedTupleHandOut (.ref z) (.ref h5.objs.size) >>= _) _ _ _
 refine wpAny_bind ?_
 unfold Builtin.SmallTypes.ownedTupleHandOut
 have hz6:=Heap.get?_push_of_some { cls:=.type "tuple",data:=.seq #[x,y] } hz5
 refine wpAny_bind (wpAny_setField_rec hz6 (by simp) fun h7 hz7 k7=>wpAny_setField_rec hz7 (by simp) fun h8 hz8 k8=>wpAny_pure ⟨_,rfl,?_⟩)
 have u8:∀c o,c≠z→h5.get? c=some o→h8.get? c=some o:=fun c o n1 e=>k8.extBut _ _ n1 (k7.extBut _ _ n1 (Heap.get?_push_of_some _ e))
 have zlt:z<h5.objs.size:=Heap.lt_size hz5
 exact wpAny_pure (hQ h5.objs.size x y h8 tk4 px py hsz (k8.extBut _ _ (Nat.ne_of_gt zlt) (k7.extBut _ _ (Nat.ne_of_gt zlt) (Heap.get?_push_size _ rfl))) hz8 (u8 _ _ Z.a1 hTI5) (u8 _ _ Z.a2 hTO5)
  (D1.frame _ _ h8 st15 fun c hc o e=>u8 c o (Ba Z.z1 hc).symm e) (D2.frame _ _ h8 st25 fun c hc o e=>u8 c o (Ba Z.z2 hc).symm e) fun c o n1 n2 n3 n4 e=>u8 c o n1 (up c o n1 n2 n3 n4 e))
theorem Nk {Q:Option Value→Shared→Prop} (Z:ZAp z TI TO i1 i2 fp1 fp2) (D1:Draws prog w A.in1 i1 fp1 n P1 S1) (st:ZSt z TI TO i1 i2 S1 S2 n s.heap)
  (hQ:∀h' tk,(∀c o,c≠z→c≠TO→c≠i1→c≠i2→s.heap.get? c=some o→h'.get? c=some o)→Q none { s with heap:=h',toks:=tk }) :
  wpAny (model prog w) A (pyNext (.ref z)) Q E s:=by
 refine xa0_5 st ?_;(try clear st);intro hz hTI;intro zq;refine xa2_1 zq ?_;(try clear zq);intro a b hTO;intro st1 st2
 have hT:s.TypeIs (.ref z) "zip":=⟨_,hz,rfl⟩
 unfold pyNext
 refine wpAny_bind (wpAny_attempt (wpAny_callSpecial?_slot (name:=Str.ofString "__next__") hT F.slot_zip_next (wpAny_call_entry F.slot_zip_next hT F.entry_zip_next ?_ (F.args_zip_next_1 _))))
 show wpAny _ _ (field (.ref z) 2 >>= _) _ _ _
 refine wpAny_bind (wpAny_field hz rfl (x:=.bool false) rfl ?_)
 show wpAny _ _ (field (.ref z) 3 >>= _) _ _ _
 refine wpAny_bind (wpAny_field hz rfl (x:=.ref TI) rfl (wpAny_bind (wpAny_seqItems hTI rfl ?_)))
 show wpAny _ _ (Builtin.SmallTypes.ownedTupleIsFree (.ref z) >>= _) _ _ _
 refine wpAny_bind ?_
 unfold Builtin.SmallTypes.ownedTupleIsFree
 refine wpAny_bind (wpAny_field hz rfl (x:=.none) rfl (wpAny_pure ?_))
 simp only [if_true]
 refine wpAny_bind (wpAny_rule (wpAny_bind (wpAny_field hz rfl (x:=.ref TO) rfl (wpAny_bind (wpAny_setField_rec hz (by simp) fun h1 hz1 k1=>?_)))))
 have st11:=D1.frame _ _ h1 st1 fun c hc o e=>k1.extBut c o (Ba Z.z1 hc).symm e
 refine wpAny_bind ?_
 simp only [List.zipIdx_cons,List.zipIdx_nil,List.forIn_cons,List.forIn_nil]
 refine wpAny_bind (wpAny_bind (wpAny_onRaise ?_))
 show wpAny _ _ (Builtin.SmallTypes.nextOf (.ref i1) >>= _) _ _ _
 refine wpAny_bind (D1.done _ _ _ st11 fun h2 e k2 he=>?_)
 refine xa1_2 he ?_;(try clear he);intro oe hoe hce
 have hz2:=k2 _ _ (Ba Z.z1 Z.x1) hz1
 have hez:e≠z:=fun x=>by subst x;rw [hz2] at hoe;cases hoe;simp at hce
 refine wpAny_setField_rec hz2 (by simp) fun h3 hz3 k3=>?_
 refine wpAny_bind (wpAny_isInstance (T:="StopIteration") (b:=true) ⟨oe,k3.extBut _ _ hez hoe,hce⟩ isSubtype_stop ?_)
 exact wpAny_pure (hQ h3 _ fun c o n1 n2 n3 n4 x=>k3.extBut _ _ n1 (k2 _ _ n3 (k1.extBut _ _ n1 x)))
theorem K6 (Z:ZAp z TI TO i1 i2 fp1 fp2) (D1:Draws prog w A.in1 i1 fp1 n P1 S1) (D2:Draws prog w A.in1 i2 fp2 n P2 S2) :
  WalksT prog w A z (z::TI::TO::(fp1++fp2)) [z,TO,i1,i2] n (fun i vals=>∃x y,P1 i x∧P2 i y∧vals=#[x,y]) (ZSt z TI TO i1 i2 S1 S2)
   (fun i T h=>IsZip h z TI TO (rawInt T)∧IsPair h TI (.ref i1) (.ref i2)∧(∃a b,IsPair h TO a b)∧S1 (i+1) h∧S2 (i+1) h∧T∉[z,TO,i1,i2]) where
 sub:=fun c hc=>by
  simp only [List.mem_cons,List.not_mem_nil,or_false] at hc
  simp only [List.mem_cons,List.mem_append]
  rcases hc with rfl|rfl|rfl|rfl
  ·simp
  ·simp
  ·exact .inr (.inr (.inr (.inl Z.x1)))
  ·exact .inr (.inr (.inr (.inr Z.x2)))
 frame:=fun i h h' st hk=>by
  refine xa0_5 st ?_;(try clear st);intro hz hTI;intro zq;refine xa2_1 zq ?_;(try clear zq);intro a b hTO;intro st1 st2
  exact ⟨hk z (by simp) _ hz,hk TI (by simp) _ hTI,⟨a,b,hk TO (by simp) _ hTO⟩,D1.frame _ _ _ st1 fun c hc o e=>hk c (by simp [hc]) o e,D2.frame _ _ _ st2 fun c hc o e=>hk c (by simp [hc]) o e⟩
 item:=fun i s Q E hi st hQ=>by
  refine xa1_1 (D1.live _ _ st.2.2.2.1) ?_;intro o1 l1
  refine xa1_1 (D2.live _ _ st.2.2.2.2) ?_;intro o2 l2
  refine xa2_1 st.2.2.1 ?_;intro a b hTO
  have hz:=st.1
  refine Nj Z D1 D2 hi st fun T x y h' tk px py hsz hT q1 q2 q3 q4 q5 k=>?_
  have lt:∀{c o},s.heap.get? c=some o→T≠c:=fun e=>Nat.ne_of_gt (Nat.lt_of_lt_of_le (Heap.lt_size e) hsz)
  refine hQ T #[x,y] h' tk ⟨x,y,px,py,rfl⟩ hsz ⟨_,hT,rfl,_,rfl⟩ ⟨q1,q2,⟨_,_,q3⟩,q4,q5,fun hm=>?_⟩ fun c o hc e=>k c o (fun q=>hc (by simp [q])) (fun q=>hc (by simp [q])) (fun q=>hc (by simp [q])) (fun q=>hc (by simp [q])) e
  simp only [List.mem_cons,List.not_mem_nil,or_false] at hm
  rcases hm with q|q|q|q
  ·exact lt hz q
  ·exact lt hTO q
  ·exact lt l1 q
  ·exact lt l2 q
 go:=fun elts k pos i T s Q E hm hQ=>by
  refine xa0_6 hm ?_;(try clear hm);intro hz hTI;intro zq;refine xa2_1 zq ?_;(try clear zq);intro a b hTO;intro st1 st2 zu
  exact wpAny_letOwnedTupleGo_zip hz fun h' hz' hs'=>hQ h' ⟨hz',hs'.extBut _ _ Z.a1 hTI,⟨a,b,hs'.extBut _ _ Z.a2 hTO⟩,D1.frame _ _ _ st1 fun c hc o e=>hs'.extBut c o (Ba Z.z1 hc).symm e,D2.frame _ _ _ st2 fun c hc o e=>hs'.extBut c o (Ba Z.z2 hc).symm e⟩ fun c o hc e=>hs'.extBut _ _ (fun q=>hc (by simp [q])) e
 apart:=fun i T h hm=>hm.2.2.2.2.2
 done:=fun s Q E st hQ=>Nk Z D1 st fun h' tk k=>hQ h' tk fun c o hc e=>k c o (fun q=>hc (by simp [q])) (fun q=>hc (by simp [q])) (fun q=>hc (by simp [q])) (fun q=>hc (by simp [q])) e
 self:=fun i s Q E st hQ=>wpAny_pyIter_zip st.1 hQ
end
noncomputable abbrev Qi (h:Heap) (l1:Addr):Heap:=h.push { cls:=.type "list_iterator",data:=.fields #[.ref l1,.int 0 0] }
noncomputable abbrev Qh (h:Heap) (l1 l2:Addr):Heap:=(Qi h l1).push { cls:=.type "list_iterator",data:=.fields #[.ref l2,.int 0 0] }
noncomputable abbrev Qg (h:Heap) (l1 l2:Addr):Heap:=(Qh h l1 l2).push { cls:=.type "tuple",data:=.seq #[.ref h.objs.size,.ref (Qi h l1).objs.size] }
noncomputable abbrev Qf (h:Heap) (l1 l2:Addr):Heap:=(Qg h l1 l2).push { cls:=.type "tuple",data:=.seq #[.none,.none] }
noncomputable abbrev Pm (h:Heap) (l1 l2:Addr):Heap:=(Qf h l1 l2).push { cls:=.type "zip",data:=.fields #[.none,.bool false,.bool false,.ref (Qh h l1 l2).objs.size,.ref (Qg h l1 l2).objs.size] }
theorem Ie (l1 l2:Addr) (xs ys:Array Value):Meets (Builtin.«zip.__new__» ⟨[.type "zip",.ref l1,.ref l2],[]⟩) (fun _ R s=>s.heap.IsList l1 xs∧s.heap.IsList l2 ys∧R (.ok (.ret (.ref (Qf s.heap l1 l2).objs.size))) { s with heap:=Pm s.heap l1 l2 }):=
 .of_wp fun prog w A R s h=>by
  refine cps fun zP zk=>?_;(rcases s with ⟨hp,g,d,tk,os⟩)<;>(refine zk ?_;clear zk zP);refine xa0_3 h ?_;(try clear h);intro hl1 hl2 h
  have hsub:=sub_zip
  have hL1:Heap.IsList (Shared.heap ⟨hp,g,d,tk,os⟩) l1 xs:=hl1
  have hL2:Heap.IsList (Shared.heap ⟨hp.push { cls:=.type "list_iterator",data:=.fields #[.ref l1,.int 0 0] },g,d,tk,os⟩) l2 ys:=by
   refine xa1_2 hl2 ?_;(try clear hl2);intro o ho r
   exact ⟨o,Heap.get?_push_of_some _ ho,r⟩
  wp_walk using wpAny_pyIter_list hL1,wpAny_pyIter_list hL2
  exact ⟨_,rfl,h⟩
theorem J1 {l1 l2:Addr} {xs ys:Array Value} {Q:Value→Shared→Prop} (hl1:s.heap.IsList l1 xs) (hl2:s.heap.IsList l2 ys)
  (h:∀h',IsZip h' (s.heap.objs.size+4) (s.heap.objs.size+2) (s.heap.objs.size+3) .none→IsPair h' (s.heap.objs.size+2) (.ref s.heap.objs.size) (.ref (s.heap.objs.size+1))→IsPair h' (s.heap.objs.size+3) .none .none →
   h'.IsListIter s.heap.objs.size l1 0→h'.IsListIter (s.heap.objs.size+1) l2 0→(∀c o,s.heap.get? c=some o→h'.get? c=some o)→Q (.ref (s.heap.objs.size+4)) { s with heap:=h' }) :
  wpAny (model C.prog C.w) A (call (.type "zip") [.ref l1,.ref l2]) Q E s:=by
 refine callType_new F.called_zip (by decide) (F.typeCall_zip_2 _ _) (F.newCall_zip_2 _ _) (fun obj=>F.args_object_init_3 obj _ _) F.entry_zip_new (Ie l1 l2 xs ys) ⟨hl1,hl2,?_⟩
 have z1:(Qi s.heap l1).objs.size=s.heap.objs.size+1:=Heap.size_push ..
 have z2:(Qh s.heap l1 l2).objs.size=s.heap.objs.size+2:=by rw [Heap.size_push,z1]
 have z3:(Qg s.heap l1 l2).objs.size=s.heap.objs.size+3:=by rw [Heap.size_push,z2]
 have z4:(Qf s.heap l1 l2).objs.size=s.heap.objs.size+4:=by rw [Heap.size_push,z3]
 have up:∀{h:Heap} {c o} (ob:Obj),h.get? c=some o→(h.push ob).get? c=some o:=fun ob e=>Heap.get?_push_of_some ob e
 have g5:(Pm s.heap l1 l2).get? (Qf s.heap l1 l2).objs.size=some _:=Heap.get?_push_size _ rfl
 have g4:(Pm s.heap l1 l2).get? (Qg s.heap l1 l2).objs.size=some _:=up _ (Heap.get?_push_size _ rfl)
 have g3:(Pm s.heap l1 l2).get? (Qh s.heap l1 l2).objs.size=some _:=up _ (up _ (Heap.get?_push_size _ rfl))
 have g2:(Pm s.heap l1 l2).get? (Qi s.heap l1).objs.size=some _:=up _ (up _ (up _ (Heap.get?_push_size _ rfl)))
 have g1:(Pm s.heap l1 l2).get? s.heap.objs.size=some _:=up _ (up _ (up _ (up _ (Heap.get?_push_size _ rfl))))
 show _∧_
 rw [z2,z3,z4] at g5
 rw [z1,z2] at g3
 rw [z3] at g4
 rw [z1] at g2
 rw [z4]
 exact ⟨⟨_,g5,rfl⟩,h _ g5 g3 g4 ⟨_,g1,rfl,rfl⟩ ⟨_,g2,rfl,rfl⟩ fun c o x=>up _ (up _ (up _ (up _ (up _ x))))⟩
noncomputable def K5 (xs ys:List AV):List AV:=(xs.zip ys).map fun p=>.tup [p.1,p.2]
theorem L0 {xs ys:List AV} {i:Nat} {x:AV} (h:(K5 xs ys)[i]? = some x):∃a b,xs[i]? = some a∧ys[i]? = some b∧x=.tup [a,b]:=by
 unfold K5 at h
 rw [List.getElem?_map,Option.map_eq_some_iff] at h
 refine xa1_2 h ?_;(try clear h);intro p h1 h2
 refine cps fun zP zk=>?_;(rcases p with ⟨a,b⟩)<;>(refine zk ?_;clear zk zP)
 rw [List.getElem?_zip_eq_some] at h1
 exact ⟨a,b,h1.1,h1.2,h2.symm⟩
theorem Oh {x p q:Nat} (h1:x≠p) (h2:x≠q):x∉[p,q]:=by simp [h1,h2]
theorem Pq (n i j:Nat) (h:i≠j):n+i≠n+j:=by omega
theorem P3 (n i:Nat) (h:i≠0):n+i≠n:=by exact fun zh=>IN [_,_] [(1,(Zn 1),Z0),(1,(Za Z1 Z0),Z1)] rfl (Nat.pos_of_ne_zero h) (Nat.le_of_eq zh)
theorem Oi {a n:Nat} (i:Nat) (h:a<n):n+i≠a:=by exact fun zh=>IN [_,_,_] [(1,(Zs Z0),Z1),(1,(Za Z1 Z2),Z0)] rfl h (Nat.le_of_eq zh)
theorem Nl (n a b:Nat) (h1:a<n) (h2:b<n):ZAp (n+4) (n+2) (n+3) n (n+1) [n,a] [n+1,b]:=
 ⟨Pq n 2 4 (by decide),Pq n 3 4 (by decide),Pq n 2 3 (by decide),Oh (P3 n 4 (by decide)) (Oi 4 h1),Oh (Pq n 4 1 (by decide)) (Oi 4 h2),Oh (P3 n 2 (by decide)) (Oi 2 h1),Oh (Pq n 2 1 (by decide)) (Oi 2 h2),
  Oh (P3 n 3 (by decide)) (Oi 3 h1),Oh (Pq n 3 1 (by decide)) (Oi 3 h2),List.mem_cons_self ..,List.mem_cons_self ..,Oh (P3 n 1 (by decide)).symm (Oi 0 h2),Oh (P3 n 1 (by decide)) (Oi 1 h1)⟩
theorem Qx {a n:Nat} (k:Nat) (h:a<n):a≠n+k:=by exact fun zh=>IN [_,_,_] [(1,(Zs Z0),Z1),(1,(Za Z1 Z2),Z0)] rfl h (Nat.le_of_eq (Eq.symm zh))
theorem MS {elts:List Expr} {tn:Nat} {tpos:Pos} {x:Str} {px pos:Pos} {args:List Expr} {xs ys:List AV} (hA:A.handled=none) (hg:GL C x (.type "zip")) (hv:IM C A hp env loc args [(.lst xs,false),(.lst ys,false)]) (hl:xs.length=ys.length) (hk:autoParam (env.kindOf x=some .globalImplicit) AC.aux0._auto_1)
  (he:autoParam (eval (.Call (.Name x px) args [] pos) env=(do callWith pos (←eval (.Name x px) env) [] (AT env args) [])) AC.aux0._auto_1) (hd:autoParam ((x == ("__debug__" : Str))=false) AC.aux1._auto_1):PI C A hp env loc (.Tuple elts tn tpos) (.Call (.Name x px) args [] pos) (K5 xs ys):=fun F s E c=>
 Du hg (fun zu zu=>KeepOk_plain (by intro a;simp)) hv c (fun F₁ s₁ us st c₁ r=>by
  refine xa2_3 r.inv ?_;intro v1 us;rintro rfl;intro r1 r
  refine xa2_3 r.inv ?_;intro v2 us;rintro rfl;intro r2 r
  obtain rfl:=r.nilI
  refine xa4_6 (r1.lstI c₁.wp) ?_;intro a o vs n;rintro rfl;intro h1 h2 h3 h4 h5
  refine xa4_6 (r2.lstI c₁.wp) ?_;intro b o2 ws n2;rintro rfl;intro k1 k2 k3 k4 k5
  have lt:∀{a o},s₁.heap.get? a=some o→a<s₁.heap.objs.size:=fun e=>Heap.lt_size e
  have up:∀k,s₁.heap.get? (s₁.heap.objs.size+k)=none:=fun k=>by
   cases q:s₁.heap.get? (s₁.heap.objs.size+k) with
   |none=>rfl
   |some o=>exact absurd (lt q) (Nat.not_lt.mpr (Nat.le_add_right _ _))
  have la:=lt h1
  have lb:=lt k1
  refine J1 ⟨o,h1,h2,n,h3⟩ ⟨o2,k1,k2,n2,k3⟩ fun h' hz hTI hTO i1 i2 k=>?_
  have hsz:vs.toArray.size=ws.toArray.size:=by rw [List.size_toArray,List.size_toArray,h4.length,k4.length,hl]
  have D1:=Draws.list (prog:=C.prog) (w:=C.w) (A:=A.in1) hA s₁.heap.objs.size a (Nat.ne_of_lt la) vs.toArray
  have D2:=Draws.list (prog:=C.prog) (w:=C.w) (A:=A.in1) hA (s₁.heap.objs.size+1) b (Qx 1 lb) ws.toArray
  rw [←hsz] at D2
  have Z:ZAp (s₁.heap.objs.size+4) (s₁.heap.objs.size+2) (s₁.heap.objs.size+3) s₁.heap.objs.size (s₁.heap.objs.size+1) [s₁.heap.objs.size,a] [s₁.heap.objs.size+1,b]:=Nl _ _ _ la lb
  refine wpAny_pyIter_zip hz ((H9.mk (AM F₁ (s₁.heap.objs.size+2) _) (s₁.heap.objs.size+4) _ _ _ (.put (t:=s₁.toks) c₁.wp k hTI (up 2)) rfl (Wk.ofWalksT (K6 Z D1 D2) (by unfold K5;rw [List.length_map,List.length_zip,List.size_toArray,h4.length,←hl,Nat.min_self]) (fun i x vals hx hP=>?_) (fun c hc=>?_) (fun i h st c hc=>?_)) ⟨hz,hTI,⟨_,_,hTO⟩,⟨i1,⟨o,k _ _ h1,h2,n,h3⟩⟩,⟨i2,⟨o2,k _ _ k1,k2,n2,k3⟩⟩⟩ (fun c hc=>?_)).pre st)
  ·refine xa2_3 (L0 hx) ?_;intro x1 x2 e1 e2;rintro rfl
   refine xa2_3 hP ?_;(try clear hP);intro u1 u2 q1 q2;rintro rfl
   have ex:=AR (F:=F₁) (a:=s₁.heap.objs.size+2) { cls:=.type "tuple",data:=.seq #[.ref s₁.heap.objs.size,.ref (s₁.heap.objs.size+1)] } ((c₁.wp.dead (up 2)).1)
   exact ⟨_,rfl,.cons ((h4.arr _ _ _ e1 q1).mono ex) (.cons ((k4.arr _ _ _ e2 q2).mono ex) .nil)⟩
  ·simp only [List.mem_cons,List.mem_append,List.not_mem_nil,or_false] at hc
   rcases hc with rfl|rfl|rfl|(rfl|rfl)|(rfl|rfl)
   ·exact .inl (by simp)
   ·exact .inr ⟨_,Ar _ _ _⟩
   ·exact .inl (by simp)
   ·exact .inl (by simp)
   ·exact .inr ⟨_,(A0 F₁ _ (Qx 2 la)).trans (h5 rfl)⟩
   ·exact .inl (by simp)
   ·exact .inr ⟨_,(A0 F₁ _ (Qx 2 lb)).trans (k5 rfl)⟩
  ·refine xa0_5 st ?_;(try clear st);intro q1 q2;intro zq;refine xa2_1 zq ?_;(try clear zq);intro y1 y2 q3;intro q4 q5
   simp only [List.mem_cons,List.not_mem_nil,or_false] at hc
   rcases hc with rfl|rfl|rfl|rfl
   ·exact ⟨_,q1,As rfl⟩
   ·exact ⟨_,q3,(fun v e=>by cases e),(fun es ep e=>by cases e)⟩
   ·refine xa0_2 q4 ?_;(try clear q4);intro zq;refine xa1_3 zq ?_;(try clear zq);intro o q zu q';intro zu;exact ⟨o,q,As q'⟩
   ·refine xa0_2 q5 ?_;(try clear q5);intro zq;refine xa1_3 zq ?_;(try clear zq);intro o q zu q';intro zu;exact ⟨o,q,As q'⟩
  ·simp only [List.mem_cons,List.not_mem_nil,or_false] at hc
   have nw:∀j,j≠2→s₁.heap.get? (s₁.heap.objs.size+j)=none∧AM F₁ (s₁.heap.objs.size+2) { cls:=.type "tuple",data:=.seq #[.ref s₁.heap.objs.size,.ref (s₁.heap.objs.size+1)] } (s₁.heap.objs.size+j)=none:=fun j hj=>⟨up j,(A0 F₁ _ (fun e=>hj (Nat.add_left_cancel e))).trans (c₁.wp.dead (up j)).1⟩
   rcases hc with rfl|rfl|rfl|rfl
   ·exact nw 4 (by decide)
   ·exact nw 3 (by decide)
   ·exact nw 0 (by decide)
   ·exact nw 1 (by decide)) hk he hd
end
end
section
section
variable {C:Cf} {A:Around} {s:Shared} {F F' G:FH} {env:Env} {hp hp':HP} {σ:Al}
theorem Ni {E:Value→Shared→Prop} {T:String} {args:List AV} {Q:AV→Al→Prop} (h:Cl C A (.type T) args σ.hp (fun v hp'=>Q v { σ with hp:=hp' })):Bf C A E env (.val (.type T)) [] args [] σ Q:=
 CY fun F G s vs hR hvs=>wpAny_mono (h F _ s vs E (Jt hR) (Hv hR) hvs) (fun v s' z=>by
  refine xa3_4 z ?_;(try clear z);intro F' av hp' e hv W' q
  exact ⟨F',av,_,e,hv,FI hR e W',q⟩) fun zu zu x=>x
theorem EH {f:Value→Value→Sem Value} {E:Value→Shared→Prop} {x y z:AV} {Q:AV→Al→Prop} (h:J8 C A σ.hp (BY σ.hp) f (x,false) (y,false) (z,false)) (q:Q z σ):EI C A E env VR f x y σ Q:=by
 intro F G s v u hR hv hu
 refine wpAny_mono (h F s E v u hR.wp (.val hv) (.val hu)) (fun w s' z=>?_) fun zu zu x=>x
 refine cps fun zP zk=>?_;(rcases z with ⟨F',st,r⟩)<;>(refine zk ?_;clear zk zP)
 exact ⟨F',_,σ,st.e,r.out,hR.pure st,q⟩
theorem M5:entryFor table "iter" = some Builtin.«iter»:=entryFor_of_fast (by kernel_rfl)
theorem MO (a:Value):argsOk "iter" ⟨[a],[]⟩:=by unfold argsOk;kernel_rfl
theorem CH {E:Value→Shared→Prop} {xs:List AV} {Q:AV→Al→Prop} (h:∀r,σ.hp r=none→Q (.ref r) (σ.put r (.itr "list_iterator" [.lst xs,.val (.int (0:Nat) 0)]))) :
  Bf C A E env (.val (.builtin "iter")) [] [.lst xs] [] σ Q:=by
 refine A4 (fun F G s us vs hR hus hvs=>?_)
 obtain rfl:=hus.inv0
 refine VRs.consC hvs fun zv zw zo a b=>?_;clear hvs;subst zo
 (have zc:=VRs.nilI b;clear b;subst zc)
 refine VR.lstC a fun vs l ol n zo q1 q2 q3 q4=>?_;clear a;subst zo
 refine PySem.Calls.call_function_entry (by decide +kernel) (by decide +kernel) M5 (MO _) ?_
 unfold Builtin.«iter»
 refine wpAny_bind (m:=someArgs "iter" 1 2 _) (wpAny_of_eq (a:=[Value.ref l]) (by first|rfl|kernel_rfl!) ?_)
 show wpAny _ _ (pyIter (.ref l) >>= _) _ _ _
 refine wpAny_bind (wpAny_pyIter_list (A:=A.in1) ⟨ol,hR.wd.fz _ _ q1,q2,n,q3⟩ ?_)
 refine wpAny_pure ⟨_,rfl,?_⟩
 exact ⟨F,_,_,AG.refl F,.ref _,hR.alloc (t:=s.toks) rfl rfl (.itr (us:=[.ref l,.int 0 0]) rfl rfl (.cons (.lst q1 q2 q3 q4) (.cons (.val _) .nil))),h _ (hR.wd.lt (Nat.le_refl _)).2.2⟩
end
end
section
section
variable {C:Cf} {A:Around} {s s':Shared} {F F' G:FH} {env:Env} {E:Value→Shared→Prop} {hp hp':HP} {loc:PL} {σ:Al}
structure Tp7 (C:Cf):Prop where
 x:TpX C
 g_chr:GL C "chr" (.builtin "chr")
 g_bytes:GL C "bytes" (.type "bytes")
 g_zip:GL C "zip" (.type "zip")
 g_iter:GL C "iter" (.builtin "iter")
noncomputable def BW (l:List Int):Prop:=∀x∈l,x=0∨x=1
theorem BW.byte {l:List Int} (h:BW l):∀n∈l,0≤n∧n<256:=fun n hn=>by rcases h n hn with e|e<;>omega
theorem HQ (n:Int) (k:Nat):BW (row n k):=fun x hx=>by
 refine xa1_2 (List.mem_map.mp hx) ?_;intro i zu;rintro rfl
 unfold Q0
 have h1:=Int.fmod_nonneg_of_pos (n.fdiv (2 ^ i)) (show (0:Int)<2 by decide)
 have h2:=Int.fmod_lt_of_pos (n.fdiv (2 ^ i)) (show (0:Int)<2 by decide)
 omega
noncomputable def BT (x:Int):Nat:=97+x.toNat
noncomputable def A8 (l:List Int):List AV:=l.map fun x=>sS [BT x]
theorem CC (l:List Int):(A8 l).length=l.length:=by simp [A8]
noncomputable def Bb (l:List Int):Nat→AV
 |0=>tupI l
 |1=>lstI l
 |_=>.bytes (byteArr l)
noncomputable def Bc (l:List Int):Nat→AV
 |0=>.tup (A8 l)
 |1=>sS (l.map BT)
 |_=>.lst (A8 l)
noncomputable abbrev lettersP:BV:=MA "_law_letters"
theorem GE (C:Cf) (r:FdRest) (x:AV):Ff C (r.fd lettersP .none) [x] [] [("signs",x)]:=by
 intro F vs kvs h1 h2
 refine xa2_3 h1.inv ?_;intro v1 us1;rintro rfl;intro hv1 h1
 obtain rfl:=h1.inv0
 obtain rfl:=h2.inv0
 exact ⟨[("signs",v1)],Looks.of_pure (by kernel_rfl),.cons hv1 .nil,by kernel_rfl⟩
theorem Jn (T:Tp7 C) {f:Addr} {r:FdRest} (hf:FnAt C f (r.fd lettersP .none)) {hp:HP} {l:List Int} {V:AV} (hA:A.handled=none) (hroom:A.depth+1<recursionLimit) (hl:BW l) (hz:l.length≤1000) (hV:V=tupI l∨V=lstI l) :
  Fn C A (.ref f) [V] [] hp (fun v hp'=>v=.lst (A8 l)∧hp'=hp):=by
 refine EK hf (GE C r _) (fun L=>?_) (by exact B6 [_,_] [(1,(Zs (Zs Z0)),Z1)] Z0 Z1 rfl hroom)
 have hA':(A.deeper (callEnvC (r.fd lettersP .none) L f)).handled=none:=hA
 rcases hV with rfl|rfl
 ·refine Ab (HA [] (.lst (A8 l)) (PE.eqv (Ky (FM l AV.int (fun x=>sS [BT x]) (C3 hA' (Aj rfl) .tup) (by exact At [_] [(1,Z0,(Zn 1000))] Z0 (Zn 100000) rfl hz) fun Lc x hx=>AZ T.g_chr (.cons (PE.eqv (Bi AB (Aj rfl) Hb) (b:=iN (BT x)) (congrArg AV.int (by unfold BT;rcases hl x hx with e|e<;>omega))) .nil) (Ol (by unfold BT;rcases hl x hx with e|e<;>omega)))) rfl) ⟨rfl,rfl⟩)
 ·refine Ab (HA [] (.lst (A8 l)) (PE.eqv (Ky (FM l AV.int (fun x=>sS [BT x]) (C3 hA' (Aj rfl) .lst) (by exact At [_] [(1,Z0,(Zn 1000))] Z0 (Zn 100000) rfl hz) fun Lc x hx=>AZ T.g_chr (.cons (PE.eqv (Bi AB (Aj rfl) Hb) (b:=iN (BT x)) (congrArg AV.int (by unfold BT;rcases hl x hx with e|e<;>omega))) .nil) (Ol (by unfold BT;rcases hl x hx with e|e<;>omega)))) rfl) ⟨rfl,rfl⟩)
theorem Gv (T:Tp7 C) {fl:Addr} {rl:FdRest} (hle:FnAt C fl (rl.fd lettersP .none)) (hgl:GL C "_law_letters" (.ref fl)) {l:List Int} {V:AV} (hA:A.handled=none) (hroom:A.depth+1<recursionLimit) (hl:BW l) (hz:l.length≤1000) (hV:V=tupI l∨V=lstI l) {e1:Expr} {px pos:Pos}
  (h1:PE C A hp env loc e1 (V,false)) (hk:autoParam (env.kindOf "_law_letters" = some .globalImplicit) AC.aux0._auto_1) (he:autoParam (eval (.Call (.Name "_law_letters" px) [e1] [] pos) env=(do callWith pos (←eval (.Name "_law_letters" px) env) [] (AT env [e1]) [])) AC.aux0._auto_1) :
  PE C A hp env loc (.Call (.Name "_law_letters" px) [e1] [] pos) (.lst (A8 l),false):=
 JA (pvs:=vals [V]) hle hgl (.cons h1 .nil) (fun xs hx=>by
  obtain rfl:=hx.vals
  exact Jn T hle hA hroom hl hz hV) hk he
noncomputable abbrev dressedP:BV:=MA "_law_dressed"
theorem GF (C:Cf) (r:FdRest) (x y:AV):Ff C (r.fd dressedP .none) [x,y] [] [("row",x),("kind",y)]:=by
 intro F vs kvs h1 h2
 refine xa2_3 h1.inv ?_;intro v1 us1;rintro rfl;intro hv1 h1
 refine xa2_3 h1.inv ?_;intro v2 us2;rintro rfl;intro hv2 h1
 obtain rfl:=h1.inv0
 obtain rfl:=h2.inv0
 exact ⟨[("row",v1),("kind",v2)],Looks.of_pure (by kernel_rfl),.cons hv1 (.cons hv2 .nil),by kernel_rfl⟩
noncomputable def Da (z:Int):Nat:=(z.fmod 3).toNat
theorem E7 (l:List Int):(l.map fun x=>[BT x]).flatten=l.map BT:=by
 induction l with
 |nil=>rfl
 |cons a l ih=>rw [List.map_cons,List.flatten_cons,ih];rfl
theorem Jw (T:Tp7 C) {fl:Addr} {rl:FdRest} (hle:FnAt C fl (rl.fd lettersP .none)) (hgl:GL C "_law_letters" (.ref fl)) {f:Addr} {r:FdRest} (hf:FnAt C f (r.fd dressedP .none)) {hp:HP} {l:List Int} {z:Int} (hA:A.handled=none) (hroom:A.depth+2<recursionLimit) (hl:BW l) (hz:l.length≤1000) :
  Fn C A (.ref f) [tupI l,.int z] [] hp (fun v hp'=>v=.tup [Bb l (Da z),Bc l (Da z)]∧hp'=hp):=by
 refine EK hf (GF C r _ _) (fun L=>?_) (by exact B6 [_,_] [(1,(Zs (Za Z0 (Zn 2))),Z1)] Z0 Z1 rfl hroom)
 have hA':(A.deeper (callEnvC (r.fd dressedP .none) L f)).handled=none:=hA
 have hd':(A.deeper (callEnvC (r.fd dressedP .none) L f)).depth+1<recursionLimit:=by show A.depth+1+1<recursionLimit;exact B6 [_,_] [(1,(Zs (Za Z0 (Zn 2))),Z1)] (Zs (Zs Z0)) Z1 rfl hroom
 have hz1:(l.map AV.int).length≤100000:=by rw [List.length_map];exact At [_] [(1,Z0,(Zn 1000))] Z0 (Zn 100000) rfl hz
 have hz2:(A8 l).length≤100000:=by rw [CC];exact At [_] [(1,Z0,(Zn 1000))] Z0 (Zn 100000) rfl hz
 have hk1:=Int.fmod_nonneg_of_pos z (show (0:Int)<3 by decide)
 have hk2:=Int.fmod_lt_of_pos z (show (0:Int)<3 by decide)
 refine Ab (D4 [] (.lst (A8 l)) (Gv T hle hgl hA' hd' hl hz (.inl rfl) (Aj rfl)) ?_)
 have hj:((A8 l))=(l.map fun x=>[BT x]).map sS:=by unfold A8;rw [List.map_map];rfl
 refine Ab (HA [] (.tup [Bb l (Da z),Bc l (Da z)]) (Gx (PE_List [.tup [Bb l 0,Bc l 0],.tup [Bb l 1,Bc l 1],.tup [Bb l 2,Bc l 2]]
  (.cons (Cn [Bb l 0,Bc l 0] (.cons (Aj rfl) (.cons (AZ T.x.t.g_tuple (.cons (Aj rfl) .nil) (E4 hz2)) .nil)) (Nat.le_of_ble_eq_true rfl))
  (.cons (Cn [Bb l 1,Bc l 1] (.cons (AZ T.x.g_list (.cons (Aj rfl) .nil) (NC hz1)) (.cons (PE.eqv (Kx (ls:=l.map fun x=>[BT x]) (PE.eqv MU (by kernel_rfl)) (PE.eqv (Aj rfl) (congrArg AV.lst hj)) (by rw [←List.length_flatten,E7,List.length_map];exact At [_] [(1,Z0,(Zn 1000))] Z0 (Zn 100000) rfl hz)) (congrArg sS (E7 l))) .nil)) (Nat.le_of_ble_eq_true rfl))
  (.cons (Cn [Bb l 2,Bc l 2] (.cons (AZ T.g_bytes (.cons (Aj rfl) .nil) (Mr hA' hl.byte (by exact At [_] [(1,Z0,(Zn 1000))] Z0 (Zn 100000) rfl hz))) (.cons (Aj rfl) .nil)) (Nat.le_of_ble_eq_true rfl)) .nil))) (Nat.le_of_ble_eq_true rfl))
  (Bi (Aj rfl) AB (Kt (by decide))) (Ja hk1 ?_ (Nat.le_of_ble_eq_true rfl))) ⟨rfl,rfl⟩)
 unfold Da
 have hj3:(z.fmod 3).toNat<3:=by omega
 generalize (z.fmod 3).toNat=j at *
 match j,hj3 with
 |0,_=>rfl
 |1,_=>rfl
 |2,_=>rfl
end
end
section
section
variable {C:Cf} {A:Around} {s s':Shared} {F F' G:FH} {env:Env} {E:Value→Shared→Prop} {hp hp':HP} {loc:PL} {σ:Al}
noncomputable abbrev askedP:BV:=MA "_law_asked"
theorem IA (C:Cf) (r:FdRest) (x y z:AV):Ff C (r.fd askedP .none) [x,y,z] [] [("tree",x),("text",y),("again",z)]:=by
 intro F vs kvs h1 h2
 refine xa2_3 h1.inv ?_;intro v1 us1;rintro rfl;intro hv1 h1
 refine xa2_3 h1.inv ?_;intro v2 us2;rintro rfl;intro hv2 h1
 refine xa2_3 h1.inv ?_;intro v3 us3;rintro rfl;intro hv3 h1
 obtain rfl:=h1.inv0
 obtain rfl:=h2.inv0
 exact ⟨[("tree",v1),("text",v2),("again",v3)],Looks.of_pure (by kernel_rfl),.cons hv1 (.cons hv2 (.cons hv3 .nil)),by kernel_rfl⟩
theorem Cm.noFp {o:Co} {v:AV} {xs:List AV} {X:Af} {t d a:Addr} {fin ci:Bool} (h:Cm o v xs hp) (hr:AN X t d fin ci hp) (ha:CI o a) (hf:Fp X t d a):False:=by
 cases h with
 |of h=>cases ha
 |rd h=>
  obtain rfl:=Co.rd.inj ha
  refine xa2_1 h.at ?_;intro c vs e
  exact hr.fpNo hf e rfl
theorem Cm.stay {o:Co} {v:AV} {xs:List AV} (h:Cm o v xs hp) (hl:∀l,o≠.live l) (k:∀a,CI o a→hp a≠none→hp' a=hp a):Cm o v xs hp':=by
 cases h with
 |of h=>exact .of h.any
 |rd h=>
  refine xa2_1 h.at ?_;intro c vs e
  exact .rd (h.off (k _ rfl (by rw [e];exact fun z=>nomatch z)))
theorem Gu (T:Tp7 C) {f:Addr} {r:FdRest} (hf:FnAt C f (r.fd askedP .none)) {hp:HP} {e:TI} {o1 o2:Co} {t1 t2:AV} {w:Ag} (hA:A.handled=none) (hroom:A.depth+5<recursionLimit) (ok:e.ok hp) (hfin:e.fin=true) (hc:e.ci=false) (hz:∀w∈e.ws,w.1.length≤1000)
  (h1:Cm o1 t1 (w.map Au.av) hp) (h2:Cm o2 t2 (w.map Au.av) hp) (hdis:∀a,CI o1 a→¬CI o2 a) (hlv:∀l,o2≠.live l) (hn:(B2 (AE e.ws) [] w).length≤10000) :
  Fn C A (.ref f) [.ref e.t,t1,t2] [] hp (fun v hp'=>v=.lst (Bh (B2 (AE e.ws) [] w)::B2 (AE e.ws) [] w)∧∀a,hp a≠none→¬CI o1 a→¬CI o2 a→hp' a=hp a):=by
 refine EK hf (IA C r _ _ _) (fun L=>?_) (by exact B6 [_,_] [(1,(Zs (Za Z0 (Zn 5))),Z1)] Z0 Z1 rfl hroom)
 have hA':(A.deeper (callEnvC (r.fd askedP .none) L f)).handled=none:=hA
 have hd:(A.deeper (callEnvC (r.fd askedP .none) L f)).depth=A.depth+1:=rfl
 have hr0:=ok.rep
 rw [hfin,hc] at hr0
 have hkey:e.X.key=AE e.ws:=NB ok
 refine Ab (Cg (JE (Nd (A2 ?_))))
 refine AA (Ac rfl (CB T.x.t.m_one hr0 ?_))
 refine A2 (Ac rfl (Ax (A5 ?_)))
 refine xa1_1 T.x.t.f_one ?_;intro ra hfa
 refine AS hfa ((O8 T.x.t (o:=o1) (w:=w) hA' T.x.lim (by rw [hd];exact B6 [_,_] [(1,(Zs (Za Z0 (Zn 5))),Z1)] (Za (Zs Z0) (Zn 3)) Z1 rfl hroom) (ok.ph3 hfin) (ok.words hz) hr0 .no h1).mono fun v hp1 q=>?_)
 refine xa0_3 q ?_;(try clear q);intro q1 q2 zu
 subst q1
 have hr1:AN e.X e.t e.d true false hp1:=hr0.off fun a ha=>q2 a (hr0.some ha) fun z=>h1.noFp hr0 z ha
 have h2':Cm o2 t2 (w.map Au.av) hp1:=h2.stay hlv fun a ha hn=>q2 a hn fun z=>hdis a z ha
 refine Ax ⟨Nat.le_of_ble_eq_true rfl,?_⟩
 refine AJ (Bt T.x.g_list (A2 (AA (Ac rfl (CB T.x.t.m_all hr1 ?_)))))
 refine A2 (Ac rfl (Ax (A5 ?_)))
 refine xa1_1 T.x.t.f_all ?_;intro rb hfb
 refine AS hfb ((MP T.x.t (tv:=t2) (by show A.depth+1+1<recursionLimit;exact B6 [_,_] [(1,(Zs (Za Z0 (Zn 5))),Z1)] (Zs (Zs Z0)) Z1 rfl hroom) hr1 .no).mono fun v hp2 q=>?_)
 refine xa4_5 q ?_;(try clear q);intro rr L2 ga g;rintro rfl;intro hF n1 n2 hk
 refine xa0_4 (Nr (C:=C) hr1 (o:=o2) (w:=w) h2' hF n1 n2 hk) ?_;intro a1 a2 a3 a4
 refine Ax (A5 (Ni ((Mi T.x.t hA' T.x.lim (by show A.depth+1+2<recursionLimit;exact B6 [_,_] [(1,(Zs (Za Z0 (Zn 5))),Z1)] (Za (Zs Z0) (Zn 2)) Z1 rfl hroom) (ok.ph3 hfin) (ok.words hz) a2 a3 (by rw [Jb,hkey];exact At [_] [(1,Z0,(Zn 10000))] Z0 (Zn 100000) rfl hn)).mono fun v hp3 q=>?_)))
 refine xa0_3 q ?_;(try clear q);rintro rfl;intro q4 zu
 rw [Jb,hkey]
 refine EH (Fb (by rw [List.length_singleton];exact At [_] [(1,Z0,(Zn 10000))] (Za (Zn 1) Z0) (Zn 100000) rfl hn)) ⟨rfl,fun a hn n3 n4=>?_⟩
 have k1:=q2 a hn n3
 have hn1:hp1 a≠none:=by rw [k1];exact hn
 have k2:=hk a hn1
 have hn2:hp2 a≠none:=by rw [k2];exact hn1
 exact (q4 a hn2 (fun z=>hn1 (a4 a z)) n4).trans (k2.trans k1)
end
end
section
section
variable {C:Cf} {A:Around} {s s':Shared} {F F' G:FH} {env:Env} {E:Value→Shared→Prop} {hp hp':HP} {loc:PL} {σ:Al}
theorem NY {x y:Str} {p1 p2 tp pos:Pos} {k:Nat} {e:Expr} {a b:AV} {Q:A6→Al→Prop} (own:List (Str×List AV)) (hA:A.handled=none) (h:PE C A σ.hp env (GB own σ.loc) e (.tup [a,b],false)) (q:Q .next ((σ.set x a).set y b)) (ho:autoParam (OwnOk σ own) AC.aux7._auto_1) (hk:autoParam ((σ.loc.all fun p=>CF (env.kindOf p.1))=true) AC.aux0._auto_1)
  (hg:autoParam (env.globals=mainGlobals∧env.builtins=builtinsNs) AC.aux8._auto_1) (hx:autoParam (DR (env.kindOf x)=true) AC.aux0._auto_1) (hy:autoParam (DR (env.kindOf y)=true) AC.aux0._auto_1) (hs:autoParam (swapsWithSole [.Tuple [.Name x p1,.Name y p2] k tp] e pos.line env=pure false) AC.aux0._auto_1) (hw:autoParam (swappedStores [.Tuple [.Name x p1,.Name y p2] k tp] e env=pure none) AC.aux0._auto_1) :
  Ex C A Bj env (.Assign [.Tuple [.Name x p1,.Name y p2] k tp] e pos) σ Q:=fun F G s hR=>by
 refine Assign_Tuple ((Cz (Q:=fun v σ'=>v=.tup [a,b]∧σ'=σ) own _ h ⟨rfl,rfl⟩ ho hk hg).use hR fun F' v σ' w s' e' hv hR' hq=>?_) hs hw
 refine xa0_2 hq ?_;(try clear hq);rintro rfl;rintro rfl
 refine wpAny_mono (D6 (Q:=fun σ''=>Q .next σ'') hA q hx hy F' G s' w hR' hv) (fun _ s₂ z=>?_) fun _ _ x=>x
 refine xa2_3 z ?_;(try clear z);intro F₂ σ₂ e2 hR₂ q2
 exact Aw.ext (e'.trans e2) (Aw.of .next hR₂ q2)
noncomputable def d7:List Int:=[2,12,3,8]
noncomputable abbrev Od (ns:List Int):List Int:=FS (CR d7 4 ns)
theorem JK (ns:List Int):(Od ns).length=4:=by
 have h1:=HY d7 4 ns
 have h2:=Nx (d:=d7) (m:=4) ns (by decide)
 have h3:=L6 (CR d7 4 ns)
 have h4:d7.length=4:=rfl
 unfold Od;exact Nat.le_antisymm (At [_,_] [(1,Z1,(Zn 4)),(1,Z0,Z1)] Z0 (Zn 4) rfl h1 (Nat.le_of_eq h3)) (At [_,_,_] [(1,Z1,Z2),(1,Z2,Z0),(1,(Zn 4),Z1)] (Zn 4) Z0 rfl h2 (Nat.le_of_eq (Eq.symm h3)) (Nat.le_of_eq (Eq.symm h4)))
theorem EO (v:Int):BW (Ao v):=HQ _ _
theorem DX (v:Int):(Ao v).length≤4:=by
 refine xa1_3 (JL v) ?_;intro k h1 h2 h3
 unfold Ao row
 rw [List.length_map,List.length_range,h3];exact h1
theorem ON (T:Tp7 C) {r:FdRest} {L f fr:Addr} {rr:FdRest} (hrow:FnAt C fr (rr.fd rowP .none)) (hgr:GL C "_law_row" (.ref fr)) (hA:A.handled=none) (hroom:A.depth+2+Builtin.pylongFrames<recursionLimit)
  {ns:List Int} {Q:A6→Al→Prop} (hlen:ns.length≤63)
  (h:Cq C A Bj (BD r L f) (lawP.body.drop 3) ⟨[("values",lstI (Od ns)),("rows",Cs ((Od ns).map Ao))],hp⟩ Q) :
  Cq C A Bj (BD r L f) lawP.body ⟨[("script",lstI ns)],hp⟩ Q:=by
 have hnl:=HY d7 4 ns
 have hv:=JK ns
 have hz:(C1 (d7.map AV.int) (some ((ns.map AV.int).length:Int)) none).length≤4:=MD _ _ _
 have hz1:(ns.map AV.int).length≤63:=by rw [List.length_map];exact hlen
 refine Ab ?_
 refine D4 [] (lstI (CR d7 4 ns)) (PE.eqv (EF (Bi (Aj rfl) (EF (PE_List (d7.map AV.int) (.cons AB (.cons AB (.cons AB (.cons AB .nil)))) (by decide)) (Dn (AZ T.x.t.g_len (.cons (Aj rfl) .nil) (Mq (by exact At [_] [(1,Z0,(Zn 63))] Z0 (Zn 100000) rfl hz1)))) CP CP (FL (by decide))) (Fb (by exact At [_,_] [(1,Z1,(Zn 4)),(1,Z0,(Zn 63))] (Za Z0 Z1) (Zn 100000) rfl hz hz1))) CP (Dn AB) CP (FL (by rw [List.length_append];exact At [_,_] [(1,Z1,(Zn 4)),(1,Z0,(Zn 63))] (Za Z0 Z1) (Zn 100000) rfl hz hz1))) (congrArg AV.lst (LT d7 4 ns))) ?_
 refine Ab (FP [] ((Od ns).map .int) ((EG hA (CR d7 4 ns).zipIdx (fun p=>.int (p.2:Int)) (fun p=>.int p.1) (fun p=>.int (p.1+(p.2:Int))) ((NM hA T.x.t.g_enum (.cons (Aj rfl) .nil) .lst).eq (PF _)) (by rw [List.length_zipIdx];exact At [_] [(1,Z0,(Zn 4))] Z0 (Zn 100000) rfl hnl) fun Lc a ha=>Bi (Aj rfl) (Aj rfl) Hb).eq (K7 _)) ?_)
 refine Ab (FP [] (((Od ns).map Ao).map tupI) ((FM (Od ns) .int (fun v=>tupI (Ao v)) (C3 hA (Aj rfl) .lst) (by exact At [_] [(1,Z0,(Zn 4))] Z0 (Zn 100000) rfl (Nat.le_of_eq hv)) fun Lc v hv=>?_).eq (by rw [List.map_map];rfl)) (D3 (Aa rfl (Aa rfl A3)) h))
 refine xa1_3 (JL v) ?_;intro k hk1 hk2 hk3
 refine PE.eqv (MV T.x hrow hgr hA (by exact B6 [_,_,_] [(1,(Zs (Za (Za Z0 (Zn 2)) Z1)),Z2)] (Za (Zs Z0) Z1) Z2 rfl hroom) (Aj rfl) (Gx (PE_List [.int 2,.int 3,.int 4,.int 2,.int 3,.int 0,.int 4,.int 3,.int 2,.int 1,.int 4] (.cons AB (.cons AB (.cons AB (.cons AB (.cons AB (.cons AB (.cons AB (.cons AB (.cons AB (.cons AB (.cons AB .nil))))))))))) (by decide)) (Bi (Aj rfl) AB (Kt (by decide))) (Ja (M1 v).1 (O3 v hk2) (by decide))) (by exact At [_] [(1,Z0,(Zn 4))] Z0 (Zn 1000) rfl hk1)) (by rw [Ao,hk3])
noncomputable def Bz (v:Int):List Int:=([v,v.fdiv 2]:List Int).take (1+(v.fmod 2).toNat)
theorem Mp (v:Int):Bz v≠[]:=by unfold Bz;rw [Nat.add_comm];simp
theorem GR (v:Int):(Bz v).length≤2:=by unfold Bz;rw [List.length_take];simp;omega
noncomputable def A1 (l:List Int):Ag:=l.map fun x=>Au.s ⟨#[BT x]⟩
noncomputable def IQ (l:List Int) (k:Nat):Lz:=(Ay l,Bb l k)
noncomputable def L5 (l:List Int) (k:Nat):Lz:=(A1 l,Bc l k)
theorem D9 (l:List Int):(Ay l).map Au.av=l.map AV.int:=by unfold Ay;rw [List.map_map];rfl
theorem D8 (l:List Int):(A1 l).map Au.av=A8 l:=by unfold A1 A8;rw [List.map_map];rfl
theorem Ps {l:List Int} (hl:BW l) (hz:l.length≤1000) (k:Nat):Qo (IQ l k) where
 seq:=fun hp=>by
  show BI (Bb l k) ((Ay l).map Au.av) hp
  rw [D9]
  match k with
  |0=>exact .tup (by rw [List.length_map];exact At [_] [(1,Z0,(Zn 1000))] Z0 (Zn 100000) rfl hz)
  |1=>exact .lst (by rw [List.length_map];exact At [_] [(1,Z0,(Zn 1000))] Z0 (Zn 100000) rfl hz)
  |k+2=>exact I8 hl.byte▸.byt (by rw [byteArr_size];exact At [_] [(1,Z0,(Zn 1000))] Z0 (Zn 100000) rfl hz)
 nref:=fun a e=>by match k with|0=>cases e|1=>cases e|k+2=>cases e
 nval:=fun a e=>by match k with|0=>cases e|1=>cases e|k+2=>cases e
theorem GZ (l:List Int):B4 ⟨(l.map BT).toArray⟩=A8 l:=by unfold B4 A8;simp
theorem Pu {l:List Int} (hz:l.length≤1000) (k:Nat):Qo (L5 l k) where
 seq:=fun hp=>by
  show BI (Bc l k) ((A1 l).map Au.av) hp
  rw [D8]
  match k with
  |0=>exact .tup (by rw [CC];exact At [_] [(1,Z0,(Zn 1000))] Z0 (Zn 100000) rfl hz)
  |1=>exact GZ l▸.str (by show (l.map BT).toArray.size≤100000;simp;exact At [_] [(1,Z0,(Zn 1000))] Z0 (Zn 100000) rfl hz)
  |k+2=>exact .lst (by rw [CC];exact At [_] [(1,Z0,(Zn 1000))] Z0 (Zn 100000) rfl hz)
 nref:=fun a e=>by match k with|0=>cases e|1=>cases e|k+2=>cases e
 nval:=fun a e=>by match k with|0=>cases e|1=>cases e|k+2=>cases e
theorem J9 (T:Tp7 C) {fl:Addr} {rl:FdRest} (hle:FnAt C fl (rl.fd lettersP .none)) (hgl:GL C "_law_letters" (.ref fl)) {fd:Addr} {rd:FdRest} (hdr:FnAt C fd (rd.fd dressedP .none)) (hgd:GL C "_law_dressed" (.ref fd)) {l:List Int} {z:Int} (hA:A.handled=none) (hroom:A.depth+2<recursionLimit) (hl:BW l) (hz:l.length≤1000) {e1 e2:Expr} {px pos:Pos}
  (h1:PE C A hp env loc e1 (tupI l,false)) (h2:PE C A hp env loc e2 (.int z,false)) (hk:autoParam (env.kindOf "_law_dressed" = some .globalImplicit) AC.aux0._auto_1) (he:autoParam (eval (.Call (.Name "_law_dressed" px) [e1,e2] [] pos) env=(do callWith pos (←eval (.Name "_law_dressed" px) env) [] (AT env [e1,e2]) [])) AC.aux0._auto_1) :
  PE C A hp env loc (.Call (.Name "_law_dressed" px) [e1,e2] [] pos) (.tup [Bb l (Da z),Bc l (Da z)],false):=
 JA (pvs:=vals [tupI l,.int z]) hdr hgd (.cons h1 (.cons h2 .nil)) (fun xs hx=>by
  obtain rfl:=hx.vals
  exact Jw T hle hgl hdr hA hroom hl hz) hk he
end
end
section
section
variable {C:Cf} {A:Around} {s s':Shared} {F F' G:FH} {env:Env} {E:Value→Shared→Prop} {hp hp':HP} {loc:PL} {σ:Al}
noncomputable abbrev AL:=List (List Int×Nat)
noncomputable def IL (v:Int) (ks:List Int):AL:=ks.map fun k=>(Ao v,Da k)
noncomputable def A9 (vs:List Int):AL:=vs.flatMap fun v=>IL v (Bz v)
noncomputable def D7 (ps:AL):List Lz:=ps.flatMap fun p=>[IQ p.1 p.2,L5 p.1 p.2]
noncomputable def CA (ps:AL):List (List Int×AV):=ps.foldl (fun D p=>Ci D p.1 (Bb p.1 p.2)) []
noncomputable def CE (ps:AL):List (List Int×AV):=ps.foldl (fun D p=>Ci D p.1 (Bc p.1 p.2)) []
theorem C9 (ps:AL) (p:List Int×Nat):CA (ps++[p])=Ci (CA ps) p.1 (Bb p.1 p.2):=by unfold CA;rw [List.foldl_append];rfl
theorem CD (ps:AL) (p:List Int×Nat):CE (ps++[p])=Ci (CE ps) p.1 (Bc p.1 p.2):=by unfold CE;rw [List.foldl_append];rfl
theorem Dh (ps:AL) (p:List Int×Nat):D7 (ps++[p])=D7 ps++[IQ p.1 p.2]++[L5 p.1 p.2]:=by unfold D7;rw [List.flatMap_append];simp
theorem Dk {P:AL→Prop} (h0:P []) (h1:∀ps p,P ps→P (ps++[p])):∀(n:Nat) (ps:AL),ps.length=n→P ps
 |0,ps,h=>by rw [List.length_eq_zero_iff.mp h];exact h0
 |n+1,ps,h=>by
  have hne:ps≠[]:=fun e=>by rw [e] at h;cases h
  rw [←List.dropLast_concat_getLast hne]
  exact h1 _ _ (Dk h0 h1 n _ (by rw [List.length_dropLast,h];rfl))
theorem LV (ps:AL):(CA ps).length≤ps.length:=Dk (P:=fun ps=>(CA ps).length≤ps.length) (Nat.le_refl _) (fun ps p h=>by
 rw [C9];have:=FX (CA ps) p.1 (Bb p.1 p.2);rw [List.length_append,List.length_singleton];exact At [_,_,_] [(1,Z2,Z1),(1,Z0,(Zs Z2))] Z0 (Zs Z1) rfl h this) _ ps rfl
theorem Ml (ps:AL):(CE ps).length≤ps.length:=Dk (P:=fun ps=>(CE ps).length≤ps.length) (Nat.le_refl _) (fun ps p h=>by
 rw [CD];have:=FX (CE ps) p.1 (Bc p.1 p.2);rw [List.length_append,List.length_singleton];exact At [_,_,_] [(1,Z2,Z1),(1,Z0,(Zs Z2))] Z0 (Zs Z1) rfl h this) _ ps rfl
theorem JJ (ps:AL) (h:∀p∈ps,p.1.length≤4):Di (D7 ps)≤ps.length*8:=by
 revert h
 refine Dk (P:=fun ps=>(∀p∈ps,p.1.length≤4)→Di (D7 ps)≤ps.length*8) (fun _=>Nat.le_refl _) (fun ps p ih h=>?_) _ ps rfl
 have h1:=ih fun q hq=>h q (List.mem_append_left _ hq)
 have h2:=h p (by simp)
 have e:Di (D7 (ps++[p]))=Di (D7 ps)+(p.1.length+p.1.length):=by
  rw [Dh]
  unfold Di
  simp only [List.map_append,List.sum_append,List.map_cons,List.map_nil,List.sum_cons,List.sum_nil,IQ,L5,Ay,A1,List.length_map]
  exact Nat.le_antisymm (At [_,_] [] (Za (Za Z0 (Za Z1 (Zn 0))) (Za Z1 (Zn 0))) (Za Z0 (Za Z1 Z1)) rfl) (At [_,_] [] (Za Z0 (Za Z1 Z1)) (Za (Za Z0 (Za Z1 (Zn 0))) (Za Z1 (Zn 0))) rfl)
 rw [e,List.length_append,List.length_singleton];exact At [_,_,_] [(1,Z0,(.mulR Z2 8)),(2,Z1,(Zn 4))] (Za Z0 (Za Z1 Z1)) (.mulR (Zs Z2) 8) rfl h1 h2
theorem JW {v:Int} {ks:List Int} {p:List Int×Nat} (h:p∈IL v ks):p.1=Ao v:=by
 refine xa1_2 (List.mem_map.mp h) ?_;intro k zu;rintro rfl;rfl
theorem Eo {vs:List Int} {p:List Int×Nat} (h:p∈A9 vs):∃v∈vs,p.1=Ao v:=by
 refine xa1_2 (List.mem_flatMap.mp h) ?_;intro v hv h
 exact ⟨v,hv,JW h⟩
theorem HT (vs:List Int):(A9 vs).length≤vs.length*2:=by
 induction vs with
 |nil=>exact Nat.le_refl _
 |cons v vs ih=>
  have:A9 (v::vs)=IL v (Bz v)++A9 vs:=by unfold A9;rw [List.flatMap_cons]
  rw [this,List.length_append,List.length_cons]
  have h1:=GR v
  have h2:(IL v (Bz v)).length=(Bz v).length:=by unfold IL;rw [List.length_map]
  exact At [_,_,_,_] [(1,Z1,(.mulR Z2 2)),(1,Z3,(Zn 2)),(1,Z0,Z3)] (Za Z0 Z1) (.mulR (Zs Z2) 2) rfl ih h1 (Nat.le_of_eq h2)
theorem KH (vs:List Int) (v:Int):A9 (vs++[v])=A9 vs++IL v (Bz v):=by unfold A9;rw [List.flatMap_append];simp
theorem LM (v:Int) (ks:List Int) (k:Int):IL v (ks++[k])=IL v ks++[(Ao v,Da k)]:=by unfold IL;rw [List.map_append];rfl
theorem Hr {e:TI} {a:Addr} {x:AO} (h:AK [e] hp) (ha:hp a=some x) (k:Nat.ble 4 x.kd=true):¬Dd [e] a:=fun ⟨e',he,hf⟩=>by
 obtain rfl:=List.mem_singleton.mp he
 exact (h.ok e' he).rep.fpNo hf ha k
inductive Qd (t dn dl:Addr) (ps:AL) (hp':HP):Prop
 |mk (e:TI) (ep1 ep2:Nat) (ht:e.t=t) (hf:e.fin=false) (hc:e.ci=false) (hw:e.ws=D7 ps) (hF:AK [e] hp') (h1:hp' dn=some (.tdict (CA ps) ep1)) (h2:hp' dl=some (.tdict (CE ps) ep2)) (hne:dn≠dl)
theorem KO (v:Int):C1 ([AV.int v,AV.int (v.fdiv 2)]) none (some (1+v.fmod 2))=(Bz v).map AV.int:=by
 have h1:=Int.fmod_nonneg_of_pos v (show (0:Int)<2 by decide)
 have e:(1:Int)+v.fmod 2=((1+(v.fmod 2).toNat:Nat):Int):=by omega
 rw [e,show ([AV.int v,AV.int (v.fdiv 2)]:List AV)=([v,v.fdiv 2]:List Int).map AV.int from rfl,E9]
 exact congrArg (List.map AV.int) (GY _ _)
theorem OM (T:Tp7 C) {fl:Addr} {rl:FdRest} (hle:FnAt C fl (rl.fd lettersP .none)) (hgl:GL C "_law_letters" (.ref fl)) {fd:Addr} {rd:FdRest} (hdr:FnAt C fd (rd.fd dressedP .none)) (hgd:GL C "_law_dressed" (.ref fd)) {r:FdRest} {L f:Addr} (hA:A.handled=none) (hu:A.units≤9000) (pl:Oq C A) (hroom:A.depth+41<recursionLimit)
  {vs:List Int} {Q:A6→Al→Prop} (hv:vs.length=4)
  (h:∀(t dn dl:Addr) (hp':HP),Qd t dn dl (A9 vs) hp'→Cq C A Bj (BD r L f) (lawP.body.drop 7) ⟨[("values",lstI vs),("rows",Cs (vs.map Ao)),("tree",.ref t),("in_numbers",.ref dn),("in_letters",.ref dl)],hp'⟩ Q) :
  Cq C A Bj (BD r L f) (lawP.body.drop 3) ⟨[("values",lstI vs),("rows",Cs (vs.map Ao))],hp⟩ Q:=by
 refine Ab (Ai (AJ (DI T.x.g_Tree (Ax (A5 (Fd T.x.t.mkT ((Ju T.x.t (ci:=false) (by exact B6 [_,_] [(1,(Zs (Za Z0 (Zn 41))),Z1)] (Za Z0 (Zn 4)) Z1 rfl hroom) (.inr ⟨rfl,rfl⟩) AK.nil).mono fun v0 hp0 ⟨e0,q1,q2,q3,q4,q5,q6⟩=>?_)))))))
 subst q1
 refine Ab (Ai (G3 fun dn hn=>?_))
 have q5a:AK [e0] (upd hp0 dn (.dict [] 0)):=q5.put hn
 refine Tr.todict (a:=dn) (ep:=0) (Ae _ _ _) ?_
 rw [show upd (Al.set (Al.put (Al.set ⟨[("values",lstI vs),("rows",Cs (vs.map Ao))],hp0⟩ "tree" (.ref e0.t)) dn (.dict [] 0)) "in_numbers" (.ref dn)).hp dn (.tdict [] 0)=upd hp0 dn (.tdict [] 0) from FD hp0 dn _ _]
 have q5b:AK [e0] (upd hp0 dn (.tdict [] 0)):=q5.put hn
 refine Ab (Ai (G3 fun dl hn2=>?_))
 have hne:dn≠dl:=fun z=>by rw [←z] at hn2;rw [show (Al.hp ⟨_,upd hp0 dn (.tdict [] 0)⟩) dn=some (.tdict [] 0) from Ae _ _ _] at hn2;cases hn2
 refine Tr.todict (a:=dl) (ep:=0) (Ae _ _ _) ?_
 show Cq C A Bj (BD r L f) (lawP.body.drop 6) ⟨[("values",lstI vs),("rows",Cs (vs.map Ao)),("tree",.ref e0.t),("in_numbers",.ref dn),("in_letters",.ref dl)],upd (upd (upd hp0 dn (.tdict [] 0)) dl (.dict [] 0)) dl (.tdict [] 0)⟩ Q
 rw [FD]
 have start:Qd e0.t dn dl [] (upd (upd hp0 dn (.tdict [] 0)) dl (.tdict [] 0)):=⟨e0,0,0,rfl,q2,q4,q3,q5b.put hn2,(Ad _ _ hne).trans (Ae _ _ _),Ae _ _ _,hne⟩
 clear q5 q5a q5b hn hn2 q6
 generalize e0.t=t at start ⊢
 generalize upd (upd hp0 dn (.tdict [] 0)) dl (.tdict [] 0)=hq at start ⊢
 have hzip:K5 (vs.map AV.int) ((vs.map Ao).map tupI)=vs.map fun v=>.tup [.int v,tupI (Ao v)]:=by
  unfold K5
  rw [List.map_map,List.zip_map',List.map_map];rfl
 refine Ab ?_
 refine Ef [] (fun xs loc hp'=>∃done rest,vs=done++rest∧xs=rest.map (fun v=>AV.tup [.int v,tupI (Ao v)])∧loc=([("values",lstI vs),("rows",Cs (vs.map Ao)),("tree",.ref t),("in_numbers",.ref dn),("in_letters",.ref dl)]:List (Str×AV))∧Qd t dn dl (A9 done) hp')
  ((MS hA T.g_zip (.cons (Aj rfl) (.cons (Aj rfl) .nil)) (by simp)).eq hzip) ⟨[("values",lstI vs),("rows",Cs (vs.map Ao)),("tree",.ref t),("in_numbers",.ref dn),("in_letters",.ref dl)],Aa rfl (Aa rfl (Aa rfl (Aa rfl (Aa rfl (A3))))),[],vs,rfl,rfl,rfl,start⟩ ?_ ?_
 ·(rintro x xs loc hp';intro zr;refine xa2_4 zr ?_;(try clear zr);intro done rest e1 e2;rintro rfl;intro D0)
  cases rest with
  |nil=>cases e2
  |cons v rest=>
   cases e2
   have hdl:done.length<4:=by
    have:=congrArg List.length e1
    rw [List.length_append,List.length_cons,hv] at this;exact B6 [_,_] [(1,(Za Z0 (Zs Z1)),(Zn 4))] Z0 (Zn 4) rfl (Nat.le_of_eq (Eq.symm this))
   have hpd:=HT done
   have hkl:=GR v
   refine D6 hA (Tr.gen fun K hK=>Ab ?_)
   refine Ef [] (fun xs loc hp'=>∃dk rk,Bz v=dk++rk∧xs=rk.map AV.int∧loc=([("values",lstI vs),("rows",Cs (vs.map Ao)),("tree",.ref t),("in_numbers",.ref dn),("in_letters",.ref dl),("value",.int v),("row",tupI (Ao v))]:List (Str×AV))∧Qd t dn dl (A9 done++IL v dk) hp')
    ((C3 hA (EF (PE_List [.int v,.int (v.fdiv 2)] (.cons (Aj rfl) (.cons (Bi (Aj rfl) AB (MM pl (by decide))) .nil)) (Nat.le_of_ble_eq_true rfl)) CP (Dn (Bi AB (Bi (Aj rfl) AB (Kt (by decide))) Hb)) CP (FL (Nat.le_of_ble_eq_true rfl))) .lst).eq (KO v))
    ⟨[("values",lstI vs),("rows",Cs (vs.map Ao)),("tree",.ref t),("in_numbers",.ref dn),("in_letters",.ref dl),("value",.int v),("row",tupI (Ao v))],Aa rfl (Aa rfl (Aa rfl (Aa rfl (Aa rfl (Aa rfl (Aa rfl (A3))))))),[],Bz v,rfl,rfl,rfl,by rw [show IL v []=[] from rfl,List.append_nil];exact D0⟩ ?_ ?_
   ·(rintro x xs loc hp';intro zr;refine xa2_4 zr ?_;(try clear zr);intro dk rk k1 k2;rintro rfl;intro D)
    cases rk with
    |nil=>cases k2
    |cons k rk=>
     cases k2
     have hdk:dk.length<2:=by
      have:=congrArg List.length k1
      rw [List.length_append,List.length_cons] at this;exact B6 [_,_,_] [(1,Z1,(Zn 2)),(1,(Za Z0 (Zs Z2)),Z1)] Z0 (Zn 2) rfl hkl (Nat.le_of_eq (Eq.symm this))
     refine cps fun zP zk=>?_;(rcases D with ⟨e,ep1,ep2,ht,hf,hc,hws,hF,h1,h2,hne⟩)<;>(refine zk ?_;clear zk zP)
     subst ht
     have hpl:(A9 done++IL v dk).length≤8:=by
      rw [List.length_append];unfold IL;rw [List.length_map];exact At [_,_,_] [(2,(Zs Z2),(Zn 4)),(1,Z0,(.mulR Z2 2)),(1,(Zs Z1),(Zn 2))] (Za Z0 Z1) (Zn 8) rfl hdl hpd hdk
     have hwl:=DX v
     have hsum:Di e.ws≤64:=by
      rw [hws]
      refine Nat.le_trans (JJ _ fun p hp=>?_) (by exact At [_] [(8,Z0,(Zn 8))] (.mulR Z0 8) (Zn 64) rfl hpl)
      rcases List.mem_append.mp hp with h|h
      ·refine xa1_2 (Eo h) ?_;intro u zu e;rw [e];exact DX u
      ·rw [JW h];exact hwl
     refine By (Tr.gen fun K2 hK2=>Ab (NY [] hA (J9 T hle hgl hdr hgd hA (by exact B6 [_,_] [(1,(Zs (Za Z0 (Zn 41))),Z1)] (Za Z0 (Zn 2)) Z1 rfl hroom) (EO v) (by exact At [_] [(1,Z0,(Zn 4))] Z0 (Zn 1000) rfl hwl) (Aj rfl) (Aj rfl)) ?_))
     refine Ab (Bn (AA (Ac rfl ?_)))
     refine CB T.x.t.m_add (hF.ok e (by simp)).rep ?_
     refine A2 (Ac rfl (Ax (A5 ?_)))
     refine xa1_1 T.x.t.f_add ?_;intro ra hfa
     refine AS hfa ((Gm T.x.t (l:=[e]) (j:=0) (w:=IQ (Ao v) (Da k)) hA (by exact B6 [_,_] [(1,(Zs (Za Z0 (Zn 41))),Z1)] (Za Z0 (Zn 2)) Z1 rfl hroom) hF rfl hf (by rw [hc];exact (Ps (EO v) (by exact At [_] [(1,Z0,(Zn 4))] Z0 (Zn 1000) rfl hwl) _).c) (by show 1+Di e.ws+(Ay (Ao v)).length≤4000;unfold Ay;rw [List.length_map];exact At [_,_] [(1,Z1,(Zn 4)),(1,Z0,(Zn 64))] (Za (Za (Zn 1) Z0) Z1) (Zn 4000) rfl hwl hsum)).mono fun u hp2 hq=>?_)
     refine cps fun zP zk=>?_;(rcases hq with ⟨_,e',a1,a2,a3,a4,a5,a6⟩)<;>(refine zk ?_;clear zk zP)
     have b1:=(a6.keep dn (by rw [h1];exact fun z=>nomatch z) (Hr hF h1 rfl)).trans h1
     have b2:=(a6.keep dl (by rw [h2];exact fun z=>nomatch z) (Hr hF h2 rfl)).trans h2
     rw [←a1]
     refine Ab (Bn (AA (Ac rfl ?_)))
     refine CB T.x.t.m_add (a5.ok e' (by simp)).rep ?_
     refine A2 (Ac rfl (Ax (A5 ?_)))
     refine AS hfa ((Gm T.x.t (l:=[e']) (j:=0) (w:=L5 (Ao v) (Da k)) hA (by omega) a5 rfl a2 (by rw [a4,hc];exact (Pu (by omega) _).c) (by
      show 1+Di e'.ws+(A1 (Ao v)).length≤4000
      rw [a3];unfold A1 Di
      rw [List.map_append,List.sum_append,List.length_map]
      show 1+((e.ws.map fun e=>e.1.length).sum+((Ay (Ao v)).length+0))+(Ao v).length≤4000
      unfold Ay;rw [List.length_map]
      unfold Di at hsum
      omega)).mono fun u hp3 hq=>?_)
     refine cps fun zP zk=>?_;(rcases hq with ⟨_,e2,c1,c2,c3,c4,c5,c6⟩)<;>(refine zk ?_;clear zk zP)
     have d1:=(c6.keep dn (by rw [b1];exact fun z=>nomatch z) (Hr a5 b1 rfl)).trans b1
     have d2:=(c6.keep dl (by rw [b2];exact fun z=>nomatch z) (Hr a5 b2 rfl)).trans b2
     have hn1:=LV (A9 done++IL v dk)
     have hn2:=Ml (A9 done++IL v dk)
     refine Ab (BO (Ac rfl (Ac rfl (Ac rfl (GW d1 hu (by omega) fun ep3=>?_)))))
     refine Ab (BO (Ac rfl (Ac rfl (Ac rfl (GW ((Ad _ _ hne.symm).trans d2) hu (by omega) fun ep4=>?_)))))
     refine Am (hK2 _ _ ⟨[("values",lstI vs),("rows",Cs (vs.map Ao)),("tree",.ref e'.t),("in_numbers",.ref dn),("in_letters",.ref dl),("value",.int v),("row",tupI (Ao v))],Aa rfl (Aa rfl (Aa rfl (Aa rfl (Aa rfl (Aa rfl (Aa rfl (A3))))))),dk++[k],rk,by rw [k1];simp,rfl,by rw [a1],?_⟩)
     rw [LM,←List.append_assoc]
     refine ⟨e2,ep3,ep4,c1.trans a1,c2,by rw [c4,a4,hc],by rw [c3,a3,hws,Dh],?_,?_,?_,hne⟩
     ·exact c5.off fun a ha=>(Ad _ _ (by rintro rfl;exact Hr c5 d2 rfl ha)).trans (Ad _ _ (by rintro rfl;exact Hr c5 d1 rfl ha))
     ·rw [C9];exact (Ad _ _ hne).trans (Ae _ _ _)
     ·rw [CD];exact Ae _ _ _
   ·(rintro loc hp';intro zr;refine xa2_4 zr ?_;(try clear zr);intro dk rk k1 k2;rintro rfl;intro D)
    have:rk=[]:=by simpa using k2.symm
    subst this
    rw [List.append_nil] at k1
    subst k1
    exact Am (hK _ _ ⟨[("values",lstI vs),("rows",Cs (vs.map Ao)),("tree",.ref t),("in_numbers",.ref dn),("in_letters",.ref dl)],Aa rfl (Aa rfl (Aa rfl (Aa rfl (Aa rfl (A3))))),done++[v],rest,by rw [e1];simp,rfl,rfl,by rw [KH];exact D⟩)
 ·(rintro loc hp';intro zr;refine xa2_4 zr ?_;(try clear zr);intro done rest e1 e2;rintro rfl;intro D)
  have:rest=[]:=by simpa using e2.symm
  subst this
  rw [List.append_nil] at e1
  subst e1
  exact h t dn dl hp' D
end
end
section
section
variable {C:Cf} {A:Around} {s s':Shared} {F F' G:FH} {env:Env} {E:Value→Shared→Prop} {hp hp':HP} {loc:PL} {σ:Al}
inductive FB (t dn dl:Addr) (ps:AL) (hp':HP):Prop
 |mk (e:TI) (ep1 ep2:Nat) (ht:e.t=t) (hf:e.fin=true) (hc:e.ci=false) (hw:e.ws=D7 ps) (hF:AK [e] hp') (h1:hp' dn=some (.tdict (CA ps) ep1)) (h2:hp' dl=some (.tdict (CE ps) ep2))
theorem FB.keep {t dn dl:Addr} {ps:AL} (h:FB t dn dl ps hp) (k:∀a,hp a≠none→(∀c vs,hp a≠some (.itr c vs))→hp' a=hp a):FB t dn dl ps hp':=by
 refine cps fun zP zk=>?_;(rcases h with ⟨e,ep1,ep2,ht,hf,hc,hw,hF,h1,h2⟩)<;>(refine zk ?_;clear zk zP)
 exact ⟨e,ep1,ep2,ht,hf,hc,hw,hF.off fun a ha=>k a (hF.live ha) fun c vs q=>Hr hF q rfl ha,(k dn (by rw [h1];exact fun z=>nomatch z) (fun c vs q=>by rw [h1] at q;cases q)).trans h1,(k dl (by rw [h2];exact fun z=>nomatch z) (fun c vs q=>by rw [h2] at q;cases q)).trans h2⟩
theorem FB.put {t dn dl:Addr} {ps:AL} (h:FB t dn dl ps hp) {a:Addr} {x:AO} (ha:hp a=none):FB t dn dl ps (upd hp a x):=h.keep fun b hb _=>Ad _ _ (by rintro rfl;exact hb ha)
theorem FC {ps:AL} (h:∀p∈ps,p.1.length≤4):∀w∈D7 ps,w.1.length≤4:=fun w hw=>by
 refine xa1_2 (List.mem_flatMap.mp hw) ?_;intro p hp hw
 have:=h p hp
 rcases List.mem_cons.mp hw with rfl|hw
 ·show (Ay p.1).length≤4
  unfold Ay;rw [List.length_map];exact this
 ·rw [List.mem_singleton.mp hw]
  show (A1 p.1).length≤4
  unfold A1;rw [List.length_map];exact this
theorem Ca {vs:List Int}:∀p∈A9 vs,p.1.length≤4:=fun p hp=>by
 refine xa1_2 (Eo hp) ?_;intro v zu e
 rw [e];exact DX v
theorem Fi (vs:List Int):BW (B1 vs):=fun x hx=>by
 refine xa1_2 (List.mem_flatMap.mp hx) ?_;intro v zu h
 exact HQ v 3 x h
noncomputable abbrev Np (vs:List Int) (t dn dl:Addr):List (Str×AV):=[("values",lstI vs),("rows",Cs (vs.map Ao)),("tree",.ref t),("in_numbers",.ref dn),("in_letters",.ref dl)]
noncomputable abbrev No (vs:List Int) (t dn dl:Addr):List (Str×AV):=[("rows",Cs (vs.map Ao)),("tree",.ref t),("in_numbers",.ref dn),("in_letters",.ref dl),("signs",lstI (B1 vs)),("letters",.lst (A8 (B1 vs)))]
theorem OL (T:Tp7 C) {fr:Addr} {rr:FdRest} (hrow:FnAt C fr (rr.fd rowP .none)) (hgr:GL C "_law_row" (.ref fr)) {fl:Addr} {rl:FdRest} (hle:FnAt C fl (rl.fd lettersP .none)) (hgl:GL C "_law_letters" (.ref fl)) {r:FdRest} {L f:Addr} (hA:A.handled=none) (hroom:A.depth+2+Builtin.pylongFrames<recursionLimit) (hroom2:A.depth+41<recursionLimit)
  {vs:List Int} {t dn dl:Addr} {Q:A6→Al→Prop} (hv:vs.length=4) (D:Qd t dn dl (A9 vs) hp)
  (h:∀(hp':HP),FB t dn dl (A9 vs) hp'→Cq C A Bj (BD r L f) (lawP.body.drop 11) ⟨No vs t dn dl,hp'⟩ Q) :
  Cq C A Bj (BD r L f) (lawP.body.drop 7) ⟨Np vs t dn dl,hp⟩ Q:=by
 refine cps fun zP zk=>?_;(rcases D with ⟨e,ep1,ep2,ht,hf,hc,hws,hF,h1,h2,hne⟩)<;>(refine zk ?_;clear zk zP)
 subst ht
 refine Ab (Bn (AA (Ac rfl ?_)))
 refine CB T.x.t.m_fin (hF.ok e (by simp)).rep ?_
 refine Ax (A5 ?_)
 refine xa1_1 T.x.t.f_fin ?_;intro ra hfa
 have hsum:=JJ (A9 vs) Ca
 have hpl:=HT vs
 refine AS hfa ((Jv T.x.t (l:=[e]) (j:=0) (N:=4) hA (by exact B6 [_,_] [(1,(Zs (Za Z0 (Zn 41))),Z1)] (Za (Za Z0 (Zn 4)) (Zn 4)) Z1 rfl hroom2) hF rfl hf (by rw [hws];exact At [_,_,_] [(16,Z1,(Zn 4)),(1,Z0,(.mulR Z2 8)),(8,Z2,(.mulR Z1 2))] (Za (Zn 1) Z0) (Zn 300) rfl (Nat.le_of_eq hv) hsum hpl) (by rw [hws];exact FC Ca)).mono fun v hp2 hq=>?_)
 refine cps fun zP zk=>?_;(rcases hq with ⟨_,e',a1,a2,a3,a4,a5,a6⟩)<;>(refine zk ?_;clear zk zP)
 have S:FB e.t dn dl (A9 vs) hp2:=⟨e',ep1,ep2,a1,a2,by rw [a4,hc],by rw [a3,hws],a5,(a6.keep dn (by rw [h1];exact fun z=>nomatch z) (Hr hF h1 rfl)).trans h1,(a6.keep dl (by rw [h2];exact fun z=>nomatch z) (Hr hF h2 rfl)).trans h2⟩
 refine Ab (Ai (EM (Ax ⟨by decide,fun a ha=>?_⟩)))
 refine Ab (Ef [] (fun xs loc hp'=>∃done rest,vs=done++rest∧xs=rest.map AV.int∧loc=(Np vs e.t dn dl++([("signs",.ref a)]:List (Str×AV)))∧hp'=upd hp2 a (.list ((B1 done).map .int)))
  (C3 hA (Aj rfl) .lst) ⟨Np vs e.t dn dl++([("signs",.ref a)]:List (Str×AV)),Aa rfl (Aa rfl (Aa rfl (Aa rfl (Aa rfl (Aa rfl (A3)))))),[],vs,rfl,rfl,rfl,rfl⟩ ?_ ?_)
 ·(rintro x xs loc hp';intro zr;refine xa2_4 zr ?_;(try clear zr);intro done rest e1 e2;rintro rfl;rintro rfl)
  cases rest with
  |nil=>cases e2
  |cons v rest=>
   cases e2
   have hl:(B1 done).length≤300:=by
    rw [CL]
    have:=congrArg List.length e1
    simp at this;exact At [_,_,_] [(3,Z1,(Zn 4)),(3,(Za Z0 (Zs Z2)),Z1)] (.mulL 3 Z0) (Zn 300) rfl (Nat.le_of_eq hv) (Nat.le_of_eq (Eq.symm this))
   refine By (Tr.gen fun K hK=>Ab (Bn (AA (Ac rfl (Md (Ae _ _ _) (A2 (Cz [] (tupI (row v 3)) (MV T.x hrow hgr hA (by exact B6 [_,_,_] [(1,(Zs (Za (Za Z0 (Zn 2)) Z1)),Z2)] (Za (Zs Z0) Z1) Z2 rfl hroom) (Aj rfl) AB (by decide)) (Ax (A5 (Fz (Ae _ _ _) (by rw [List.length_map,List.length_map];unfold row;rw [List.length_map,List.length_range];exact At [_] [(1,Z0,(Zn 300))] (Za Z0 (Zn 3)) (Zn 100000) rfl hl) (Am (hK _ _ ⟨Np vs e.t dn dl++([("signs",.ref a)]:List (Str×AV)),Aa rfl (Aa rfl (Aa rfl (Aa rfl (Aa rfl (Aa rfl (A3)))))),done++[v],rest,by rw [e1];simp,rfl,rfl,?_⟩))))))))))))
   exact (FD hp2 a _ _).trans (congrArg (fun z=>upd hp2 a (AO.list z)) (by simp [B1]))
 ·(rintro loc hp';intro zr;refine xa2_4 zr ?_;(try clear zr);intro done rest e1 e2;rintro rfl;rintro rfl)
  have:rest=[]:=by simpa using e2.symm
  subst this
  rw [List.append_nil] at e1
  subst e1
  refine Tr.freeze "signs" a ((B1 vs).map .int) (Ae _ _ _) rfl ?_
  rw [I5 ha]
  have htl:=CL vs
  refine Ab (D4 [] (.lst (A8 (B1 vs))) (Gv T hle hgl hA (by exact B6 [_,_] [(1,(Zs (Za Z0 (Zn 41))),Z1)] (Zs Z0) Z1 rfl hroom2) (Fi vs) (by exact At [_,_] [(3,Z1,(Zn 4)),(1,Z0,(.mulL 3 Z1))] Z0 (Zn 1000) rfl (Nat.le_of_eq hv) (Nat.le_of_eq htl)) (.inr rfl) (Aj rfl)) ?_)
  exact D3 (Aa rfl (Aa rfl (Aa rfl (Aa rfl (Aa rfl (Aa rfl (A3))))))) (h hp2 S)
noncomputable def BU:Nat→List Nat
 |0=>[]
 |m+1=>(m+1)::BU m
theorem Ez {m j:Nat}:j∈BU m↔1≤j∧j≤m:=by
 induction m with
 |zero=>simp [BU];omega
 |succ m ih=>rw [BU,List.mem_cons,ih];omega
theorem Ec:∀k,BU k=(List.range k).map fun i=>k - i
 |0=>rfl
 |k+1=>by
  rw [BU,Ec k,List.range_succ_eq_map,List.map_cons,List.map_map]
  congr 1
  exact List.map_congr_left fun i _=>by simp
theorem I4 (m:Nat):(BU m).length=m:=by rw [Ec];simp
open Classical in
noncomputable def IK (rows:List (List Int)) (t:List Int) (e:Nat) (l:List Nat):List (List Int×Nat):=l.filterMap fun L=>if (t.drop (e - L)).take L∈rows then some ((t.drop (e - L)).take L,e - L) else none
noncomputable def FE (rows:List (List Int)) (t:List Int) (n:Nat):List (List Int×Nat):=(List.range n).flatMap fun i=>IK rows t (i+1) (BU (min (i+1) 4))
noncomputable def O7 (p:List Int×Nat):AV:=.tup [tupI p.1,iN p.2]
theorem HL (M:List (List Int)) (t:List Int) (e:Nat) (l:List Nat) (j:Nat):IK M t e (l++[j])=IK M t e l++IK M t e [j]:=by
 unfold IK
 rw [List.filterMap_append]
theorem JO (M:List (List Int)) (t:List Int) (e:Nat) (l:List Nat):(IK M t e l).length≤l.length:=List.length_filterMap_le _ _
theorem HM (M:List (List Int)) (t:List Int) (i:Nat):FE M t (i+1)=FE M t i++IK M t (i+1) (BU (min (i+1) 4)):=by
 unfold FE;rw [List.range_succ,List.flatMap_append];simp
end
end
section
section
variable {C:Cf} {A:Around} {s s':Shared} {F F' G:FH} {env:Env} {E:Value→Shared→Prop} {hp hp':HP} {loc:PL} {σ:Al}
theorem CO (M:List (List Int)) (t:List Int):∀n,(FE M t n).length≤n*4
 |0=>Nat.le_refl _
 |n+1=>by
  rw [HM,List.length_append]
  have h1:=CO M t n
  have h2:=JO M t (n+1) (BU (min (n+1) 4))
  rw [I4] at h2
  omega
theorem L7 {a b:List Int}:tupI a=tupI b↔a=b:=⟨fun h=>by
 have h:=AV.tup.inj h
 exact (List.map_inj_right (fun x y e=>AV.int.inj e)).mp h,fun h=>by rw [h]⟩
theorem LZ {p:List Int} {ws:List (List Int)}:tupI p∈ws.map tupI↔p∈ws:=⟨fun h=>by
 refine xa1_2 (List.mem_map.mp h) ?_;intro q hq e
 exact L7.mp e▸hq,fun h=>List.mem_map.mpr ⟨p,h,rfl⟩⟩
theorem HU (l:List Int):CW (tupI l):=.tup (Plns.map (fun i=>.int i) l)
theorem KI (ws:List (List Int)):Plns (ws.map tupI):=.of fun x hx=>by
 refine xa1_2 (List.mem_map.mp hx) ?_;intro w zu;rintro rfl
 exact HU w
theorem NI (l:List Int):Dp 60 (tupI l):=Nat.le_trans (Dp.tup (n:=0) (by intro x hx;refine xa1_2 (List.mem_map.mp hx) ?_;intro i zu;rintro rfl;exact Dp.int 0 i)) (by decide)
theorem QQ {i j:Nat} (hj:j<min (i+1) 4):max (((i+1:Nat):Int) - 4) (0:Int)+(j:Int)=((i+1 - (min (i+1) 4 - j):Nat):Int):=by
 by_cases q:i+1≤4
 ·rw [Nat.min_eq_left q] at hj ⊢
  rw [Int.max_eq_right (by omega)];omega
 ·rw [Nat.min_eq_right (by omega)] at hj ⊢
  rw [Int.max_eq_left (by omega)];omega
theorem Mh {i:Nat} (hi:i≤100):(-1000000:Int)≤max (((i+1:Nat):Int) - 4) 0∧max (((i+1:Nat):Int) - 4) (0:Int)≤1000000∧(-1000000:Int)≤((i+1:Nat):Int)∧((i+1:Nat):Int)≤1000000∧((min (i+1) 4:Nat):Int)=((i+1:Nat):Int) - max (((i+1:Nat):Int) - 4) 0:=by
 by_cases q:i+1≤4
 ·rw [Nat.min_eq_left q,Int.max_eq_right (by omega)];omega
 ·rw [Nat.min_eq_right (by omega),Int.max_eq_left (by omega)];omega
open Classical in
theorem OK (T:Tp7 C) {r:FdRest} {L f:Addr} (hA:A.handled=none) (hu:A.units≤9000) {vs:List Int} {t dn dl:Addr} {Q:A6→Al→Prop} (hv:vs.length=4)
  (h:Cq C A Bj (BD r L f) (lawP.body.drop 13) ⟨No vs t dn dl++([("standing",.lst ((FE (vs.map Ao) (B1 vs) (B1 vs).length).map O7))]:List (Str×AV)),hp⟩ Q) :
  Cq C A Bj (BD r L f) (lawP.body.drop 11) ⟨No vs t dn dl,hp⟩ Q:=by
 have htl:(B1 vs).length=12:=by rw [CL,hv]
 generalize hS:B1 vs=S at htl h ⊢
 generalize hR:vs.map Ao=R at h ⊢
 have hzS:(S.map AV.int).length≤100000:=by rw [List.length_map];exact At [_] [(1,Z0,(Zn 12))] Z0 (Zn 100000) rfl (Nat.le_of_eq htl)
 have hlen:∀{hp:HP} {loc:PL} {env:Env} {e1:Expr} {px p1:Pos},env.kindOf "len" = some .globalImplicit→eval (.Call (.Name "len" px) [e1] [] p1) env=(do callWith p1 (←eval (.Name "len" px) env) [] (AT env [e1]) [])→PE C A hp env loc e1 (lstI S,false)→PE C A hp env loc (.Call (.Name "len" px) [e1] [] p1) (iN S.length,false):=fun {hp loc env e1 px p1} hk he h1=>PE.eqv (AZ T.x.t.g_len (.cons h1 .nil) (Mq hzS) (hk:=hk) (he:=he)) (by rw [List.length_map])
 have hloc:No vs t dn dl=([("rows",Cs R),("tree",.ref t),("in_numbers",.ref dn),("in_letters",.ref dl),("signs",lstI S),("letters",.lst (A8 S))]:List (Str×AV)):=by rw [←hS,←hR]
 rw [hloc] at h ⊢
 refine Ab (Ai (EM (Ax ⟨by decide,fun b hb=>?_⟩)))
 refine Ab ?_
 refine Ef [] (fun xs loc hp'=>∃i,i≤S.length∧xs=((List.range S.length).map fun j=>iN (j+1)).drop i∧loc=([("rows",Cs R),("tree",.ref t),("in_numbers",.ref dn),("in_letters",.ref dl),("signs",lstI S),("letters",.lst (A8 S)),("standing",.ref b)]:List (Str×AV))∧hp'=upd hp b (.list ((FE R S i).map O7)))
  ((Kw (n:=S.length) hA T.x.g_range AB (Bi (hlen rfl rfl (Aj rfl)) AB Hb) (by decide) (by decide) (by show (-1000000:Int)≤(S.length:Int)+1;omega) (by show (S.length:Int)+1≤1000000;omega) (by left;show (S.length:Int)=(S.length:Int)+1 - 1;omega)).eq (List.map_congr_left fun i _=>congrArg AV.int (by omega)))
  ⟨[("rows",Cs R),("tree",.ref t),("in_numbers",.ref dn),("in_letters",.ref dl),("signs",lstI S),("letters",.lst (A8 S)),("standing",.ref b)],Aa rfl (Aa rfl (Aa rfl (Aa rfl (Aa rfl (Aa rfl (Aa rfl (A3))))))),0,Nat.zero_le _,rfl,rfl,rfl⟩ ?_ ?_
 ·(rintro x xs loc hp';intro zr;refine xa1_4 zr ?_;(try clear zr);intro i hi hxs;rintro rfl;rintro rfl)
  refine xa0_2 (DG hxs) ?_;intro hx hxs'
  have hi2:i<S.length:=by
   have:=(List.getElem?_eq_some_iff.mp hx).1
   simpa using this
  obtain rfl:x=iN (i+1):=by
   rw [List.getElem?_map,List.getElem?_range hi2] at hx
   exact (Option.some.inj hx).symm
  have hdl:=CO R S i
  have hi100:i≤100:=by omega
  refine By (Tr.gen fun K hK=>Ab ?_)
  refine Ef [] (fun xs loc hp'=>∃done rest,BU (min (i+1) 4)=done++rest∧xs=rest.map (fun L=>iN (i+1 - L))∧loc=([("rows",Cs R),("tree",.ref t),("in_numbers",.ref dn),("in_letters",.ref dl),("signs",lstI S),("letters",.lst (A8 S)),("standing",.ref b),("end",iN (i+1))]:List (Str×AV))∧hp'=upd hp b (.list ((FE R S i++IK R S (i+1) done).map O7)))
   ((Kw (n:=min (i+1) 4) hA T.x.g_range (AZ T.x.g_max (.cons (Bi (Aj rfl) AB PG) (.cons AB .nil)) (OO hA)) (Aj rfl) (Mh hi100).1 (Mh hi100).2.1 (Mh hi100).2.2.1 (Mh hi100).2.2.2.1 (.inl (Mh hi100).2.2.2.2)).eq (by
    rw [Ec,List.map_map]
    exact List.map_congr_left fun j hj=>congrArg AV.int (QQ (List.mem_range.mp hj))))
   ⟨[("rows",Cs R),("tree",.ref t),("in_numbers",.ref dn),("in_letters",.ref dl),("signs",lstI S),("letters",.lst (A8 S)),("standing",.ref b),("end",iN (i+1))],Aa rfl (Aa rfl (Aa rfl (Aa rfl (Aa rfl (Aa rfl (Aa rfl (Aa rfl (A3)))))))),[],BU (min (i+1) 4),rfl,rfl,rfl,by simp [IK]⟩ ?_ ?_
  ·(rintro x xs loc hp';intro zr;refine xa2_4 zr ?_;(try clear zr);intro done rest e1 e2;rintro rfl;rintro rfl)
   cases rest with
   |nil=>cases e2
   |cons j rest=>
    cases e2
    have hj:j≤min (i+1) 4:=(Ez.mp (by rw [e1];simp)).2
    have hq:j≤i+1:=by omega
    have hdl2:done.length≤4:=by
     have:=congrArg List.length e1
     rw [I4,List.length_append] at this;omega
    have hql:=JO R S (i+1) done
    have hcut:∀{hp':HP} {loc:PL} {env:Env} {e1 e2 e3:Expr} {p2 p3 px pos:Pos},PE C A hp' env loc e1 (lstI S,false)→PE C A hp' env loc e2 (iN (i+1 - j),false)→PE C A hp' env loc e3 (iN (i+1),false)→env.kindOf "tuple" = some .globalImplicit →
      eval (.Call (.Name "tuple" px) [.Subscript e1 (.Slice (some e2) (some e3) none p2) p3] [] pos) env=(do callWith pos (←eval (.Name "tuple" px) env) [] (AT env [.Subscript e1 (.Slice (some e2) (some e3) none p2) p3]) []) →
      PE C A hp' env loc (.Call (.Name "tuple" px) [.Subscript e1 (.Slice (some e2) (some e3) none p2) p3] [] pos) (tupI ((S.drop (i+1 - j)).take j),false):=fun h1 h2 h3 hk he=>
     AZ T.x.t.g_tuple (.cons (PE.eqv (EF h1 (Dn h2) (Dn h3) CP (FL hzS)) (congrArg AV.lst (by rw [E9,MC,Nat.sub_sub_self hq]))) .nil) (E4 (by rw [List.length_map,List.length_take];omega)) (hk:=hk) (he:=he)
    refine By (Tr.gen fun K2 hK2=>Ab (Nb [] (PT.eq (JB (hcut (Aj rfl) (Aj rfl) (Aj rfl) rfl rfl) (Aj rfl) (Qz (HU _) (KI R) (NI _) hu)) (b':=decide ((S.drop (i+1 - j)).take j∈R)) (decide_eq_decide.mpr LZ)) (fun q=>?_) (fun q=>Am (Am (hK2 _ _ ⟨[("rows",Cs R),("tree",.ref t),("in_numbers",.ref dn),("in_letters",.ref dl),("signs",lstI S),("letters",.lst (A8 S)),("standing",.ref b),("end",iN (i+1))],Aa rfl (Aa rfl (Aa rfl (Aa rfl (Aa rfl (Aa rfl (Aa rfl (Aa rfl (A3)))))))),done++[j],rest,by rw [e1];simp,rfl,rfl,?_⟩)))))
    ·have q:=of_decide_eq_true q
     have hw1:IK R S (i+1) [j]=[((S.drop (i+1 - j)).take j,i+1 - j)]:=by unfold IK;rw [List.filterMap_cons,if_pos q];rfl
     refine Ab (Bn (AA (Ac rfl (E0 (Ae _ _ _) (A2 (Cz [] (O7 ((S.drop (i+1 - j)).take j,i+1 - j)) (Cn [tupI ((S.drop (i+1 - j)).take j),iN (i+1 - j)] (.cons (hcut (Aj rfl) (Aj rfl) (Aj rfl) rfl rfl) (.cons (Aj rfl) .nil)) (Nat.le_of_ble_eq_true rfl)) (Ax (A5 (list_append (Ae _ _ _) (by rw [List.length_map,List.length_append];exact At [_,_,_,_,_] [(4,Z2,(Zn 12)),(4,Z3,Z2),(1,Z0,(.mulR Z3 4)),(1,Z4,(Zn 4)),(1,Z1,Z4)] (Za Z0 Z1) (Zn 100000) rfl (Nat.le_of_eq htl) hi hdl hdl2 hql) (Am (Am (hK2 _ _ ⟨[("rows",Cs R),("tree",.ref t),("in_numbers",.ref dn),("in_letters",.ref dl),("signs",lstI S),("letters",.lst (A8 S)),("standing",.ref b),("end",iN (i+1))],Aa rfl (Aa rfl (Aa rfl (Aa rfl (Aa rfl (Aa rfl (Aa rfl (Aa rfl (A3)))))))),done++[j],rest,by rw [e1];simp,rfl,rfl,?_⟩))))))))))))
     exact (FD _ b _ _).trans (congrArg (fun z=>upd hp b (AO.list z)) (by rw [HL,hw1];simp only [List.map_append,List.append_assoc];rfl))
    ·have q:=of_decide_eq_false q
     have hw1:IK R S (i+1) [j]=[]:=by unfold IK;rw [List.filterMap_cons,if_neg q];rfl
     rw [HL,hw1,List.append_nil]
  ·(rintro loc hp';intro zr;refine xa2_4 zr ?_;(try clear zr);intro done rest e1 e2;rintro rfl;rintro rfl)
   have:rest=[]:=by simpa using e2.symm
   subst this
   rw [List.append_nil] at e1
   subst e1
   refine Am (hK _ _ ⟨[("rows",Cs R),("tree",.ref t),("in_numbers",.ref dn),("in_letters",.ref dl),("signs",lstI S),("letters",.lst (A8 S)),("standing",.ref b)],Aa rfl (Aa rfl (Aa rfl (Aa rfl (Aa rfl (Aa rfl (Aa rfl (A3))))))),i+1,hi2,hxs',rfl,?_⟩)
   rw [HM]
 ·(rintro loc hp';intro zr;refine xa1_4 zr ?_;(try clear zr);intro i hi hxs;rintro rfl;rintro rfl)
  have:=E8 hxs
  rw [List.getElem?_eq_none_iff,List.length_map,List.length_range] at this
  obtain rfl:i=S.length:=by exact Nat.le_antisymm (At [_,_] [(1,Z0,Z1)] Z0 Z1 rfl hi) (At [_,_] [(1,Z0,Z1)] Z0 Z1 rfl this)
  refine Tr.freeze "standing" b ((FE R S S.length).map O7) (Ae _ _ _) rfl ?_
  rw [I5 hb]
  exact D3 (Aa rfl (Aa rfl (Aa rfl (Aa rfl (Aa rfl (Aa rfl (Aa rfl (A3)))))))) h
end
end
section
noncomputable def Iu (key:Ag→Option AV) (t:Ag) (e:Nat) (l:List Nat):List AV:=l.filterMap fun L=>(key ((t.drop (e - L)).take L)).map fun v=>.tup [v,iN (e - L)]
theorem Hy {α β:Type} {l:List α} {f g:α→Option β} (h:∀a∈l,f a=g a):l.filterMap f=l.filterMap g:=by
 induction l with
 |nil=>rfl
 |cons a l ih=>rw [List.filterMap_cons,List.filterMap_cons,h a (.head _),ih fun b hb=>h b (.tail _ hb)]
theorem LQ (key:Ag→Option AV):∀p:Ag,outs key p=(BU p.length).filterMap fun L=>(key (p.drop (p.length - L))).map fun v=>.tup [v,iN L]
 |[]=>rfl
 |c::p=>by
  have ih:=LQ key p
  simp only [outs]
  rw [ih,List.length_cons,BU,List.filterMap_cons,Nat.sub_self]
  have e4:((BU p.length).filterMap fun L=>(key (p.drop (p.length - L))).map fun v=>(.tup [v,iN L]:AV))=(BU p.length).filterMap fun L=>(key ((c::p).drop (p.length+1 - L))).map fun v=>.tup [v,iN L]:=Hy fun L hL=>by
   have:=(Ez.mp hL).2
   have:p.length+1 - L=(p.length - L)+1:=by exact Nat.le_antisymm (At [_,_,_,_] [(1,(Za Z0 Z2),(Zs Z3)),(1,Z3,(Za Z1 Z2))] Z0 (Zs Z1) rfl (Nat.le_of_eq (Nat.sub_add_cancel (At [_,_] [(1,Z0,Z1)] Z0 (Zs Z1) rfl this))) (BP _ _)) (At [_,_,_,_] [(1,(Za Z0 Z2),Z3),(1,(Zs Z3),(Za Z1 Z2))] (Zs Z0) Z1 rfl (Nat.le_of_eq (Nat.sub_add_cancel (At [_,_] [(1,Z0,Z1)] Z0 Z1 rfl this))) (BP _ _))
   rw [this];rfl
  rw [e4,List.drop_zero]
  cases key (c::p) with
  |none=>rfl
  |some w=>rfl
theorem Hx (key:Ag→Option AV) (t:Ag):∀(r u:Ag),t=u++r→B2 key u r=(List.range r.length).flatMap fun i=>Iu key t (u.length+i+1) (BU (u.length+i+1))
 |[],u,_=>rfl
 |c::r,u,ht=>by
  have ih:=Hx key t r (u++[c]) (by rw [ht];simp)
  show (outs key (u++[c])).map (ER (u++[c]).length)++B2 key (u++[c]) r=_
  have hul:(u++[c]).length=u.length+1:=by simp
  rw [ih,LQ,List.length_cons,List.range_succ_eq_map,List.flatMap_cons,List.flatMap_map,hul]
  congr 1
  ·unfold Iu
   rw [List.map_filterMap,Nat.add_zero]
   refine Hy fun L hL=>?_
   have hL:=(Ez.mp hL).2
   have hs:(u++[c]).drop (u.length+1 - L)=(t.drop (u.length+1 - L)).take L:=by
    have:t=(u++[c])++r:=by rw [ht];simp
    generalize u++[c]=x at hul this
    rw [this,List.drop_append_of_le_length (by exact At [_,_,_,_] [(1,(Zs Z2),Z1),(1,(Za Z0 Z3),(Zs Z2))] Z0 Z1 rfl (Nat.le_of_eq (Eq.symm hul)) (Nat.le_of_eq (Nat.sub_add_cancel (At [_,_] [(1,Z0,(Zs Z1))] Z0 (Zs Z1) rfl hL)))),List.take_append_of_le_length (by rw [List.length_drop];exact At [_,_,_,_,_] [(1,(Zs Z2),Z3),(1,Z3,(Za Z1 Z4)),(1,(Za Z4 Z0),(Zs Z2))] Z0 Z1 rfl (Nat.le_of_eq (Eq.symm hul)) (BP _ _) (Nat.le_of_eq (Nat.sub_add_cancel (At [_,_] [(1,Z0,(Zs Z1))] Z0 (Zs Z1) rfl hL)))),List.take_of_length_le (by rw [List.length_drop];omega)]
   rw [hs]
   cases key ((t.drop (u.length+1 - L)).take L) with
   |none=>rfl
   |some w=>
    simp only [Option.map_some,ER]
    congr 3
    exact congrArg (fun z=>[AV.int z]) (Int.ofNat_sub hL).symm
  ·congr 2
   funext i
   rw [show u.length+1+i+1=u.length+(i+1)+1 by exact Nat.le_antisymm (At [_,_] [] (Zs (Za (Zs Z0) Z1)) (Zs (Za Z0 (Zs Z1))) rfl) (At [_,_] [] (Zs (Za Z0 (Zs Z1))) (Zs (Za (Zs Z0) Z1)) rfl)]
theorem M8 (m k:Nat):∃l,BU (m+k)=l++BU m∧∀L∈l,m<L∧L≤m+k:=by
 induction k with
 |zero=>exact ⟨[],rfl,fun L h=>nomatch h⟩
 |succ k ih=>
  refine xa1_2 ih ?_;(try clear ih);intro l h1 h2
  refine ⟨(m+k+1)::l,?_,fun L hL=>?_⟩
  ·show (m+k+1)::BU (m+k)=_
   rw [h1];rfl
  ·rcases List.mem_cons.mp hL with rfl|hL
   ·exact ⟨B6 [_,_] [] Z0 (Zs (Za Z0 Z1)) rfl,At [_,_] [] (Zs (Za Z0 Z1)) (Za Z0 (Zs Z1)) rfl⟩
   ·have:=h2 L hL;exact ⟨B6 [_,_] [(1,(Zs Z0),Z1)] Z0 Z1 rfl this.1,At [_,_,_] [(1,Z0,(Za Z1 Z2))] Z0 (Za Z1 (Zs Z2)) rfl this.2⟩
theorem E6 {key:Ag→Option AV} {t:Ag} {e m n:Nat} (hmn:m≤n) (h:∀L,m<L→L≤n→key ((t.drop (e - L)).take L)=none):Iu key t e (BU n)=Iu key t e (BU m):=by
 obtain ⟨k,rfl⟩:∃k,n=m+k:=⟨n - m,by exact Nat.le_antisymm (At [_,_,_] [(1,Z0,(Za Z2 Z1))] Z0 (Za Z1 Z2) rfl (BP _ _)) (At [_,_,_] [(1,(Za Z1 Z0),Z2)] (Za Z0 Z1) Z2 rfl (Nat.le_of_eq (Nat.sub_add_cancel (At [_,_] [(1,Z0,Z1)] Z0 Z1 rfl hmn))))⟩
 refine xa1_2 (M8 m k) ?_;intro l h1 h2
 unfold Iu
 rw [h1,List.filterMap_append]
 have:l.filterMap (fun L=>(key ((t.drop (e - L)).take L)).map fun v=>(.tup [v,iN (e - L)]:AV))=[]:=by
  rw [List.filterMap_eq_nil_iff]
  intro L hL
  refine xa0_2 (h2 L hL) ?_;intro a b
  rw [h L a b];rfl
 rw [this,List.nil_append]
end
section
theorem IV {a b:List Int} (h:Ay a=Ay b):a=b:=by
 unfold Ay at h
 exact (List.map_inj_right (fun x y e=>Au.i.inj e)).mp h
theorem KA {a b:List Int} (ha:BW a) (hb:BW b) (h:A1 a=A1 b):a=b:=by
 induction a generalizing b with
 |nil=>
  cases b with
  |nil=>rfl
  |cons y b=>cases h
 |cons x a ih=>
  cases b with
  |nil=>cases h
  |cons y b=>
   unfold A1 at h
   rw [List.map_cons,List.map_cons,List.cons.injEq] at h
   have e1:BT x=BT y:=by
    have:=Au.s.inj h.1
    have:=congrArg (fun z:Str=>z.cps.toList) this
    simpa using this
   have hx:=ha x (.head _)
   have hy:=hb y (.head _)
   have:x=y:=by unfold BT at e1;rcases hx with e|e<;>rcases hy with f|f<;>omega
   rw [this,ih (fun z hz=>ha z (.tail _ hz)) (fun z hz=>hb z (.tail _ hz)) h.2]
theorem L9 {a b:List Int} (ha:a≠[]) (h:Ay a=A1 b):False:=by
 cases a with
 |nil=>exact ha rfl
 |cons x a=>
  cases b with
  |nil=>cases h
  |cons y b=>
   unfold Ay A1 at h
   rw [List.map_cons,List.map_cons,List.cons.injEq] at h
   cases h.1
theorem GM {a:List Int}:Ay a=[]↔a=[]:=by unfold Ay;simp
theorem GK {a:List Int}:A1 a=[]↔a=[]:=by unfold A1;simp
theorem Kg (ps:AL) {w:List Int} (hw:w≠[]):AE (D7 ps) (Ay w)=Cw (CA ps) w:=by
 refine Dk (P:=fun ps=>AE (D7 ps) (Ay w)=Cw (CA ps) w) ?_ (fun ps p ih=>?_) _ ps rfl
 ·unfold AE
  rw [if_neg (fun e=>hw (GM.mp e))]
  rfl
 ·rw [Dh,C9,Ce]
  show AE (D7 ps++[IQ p.1 p.2]++[(A1 p.1,Bc p.1 p.2)]) (Ay w)=_
  rw [BF,if_neg (fun h=>L9 hw h.2)]
  show AE (D7 ps++[(Ay p.1,Bb p.1 p.2)]) (Ay w)=_
  rw [BF,ih]
  by_cases q:w=p.1
  ·rw [if_pos q,if_pos ⟨fun e=>hw (by rw [q];exact GM.mp e),by rw [q]⟩]
  ·rw [if_neg q,if_neg (fun h=>q (IV h.2))]
theorem Kh (ps:AL) (hb:∀p∈ps,BW p.1) {w:List Int} (hw:w≠[]) (hwb:BW w):AE (D7 ps) (A1 w)=Cw (CE ps) w:=by
 revert hb
 refine Dk (P:=fun ps=>(∀p∈ps,BW p.1)→AE (D7 ps) (A1 w)=Cw (CE ps) w) (fun _=>?_) (fun ps p ih hb=>?_) _ ps rfl
 ·unfold AE
  rw [if_neg (fun e=>hw (GK.mp e))]
  rfl
 ·rw [Dh,CD,Ce]
  show AE (D7 ps++[IQ p.1 p.2]++[(A1 p.1,Bc p.1 p.2)]) (A1 w)=_
  rw [BF]
  by_cases q:w=p.1
  ·rw [if_pos q,if_pos ⟨fun e=>hw (by rw [q];exact GK.mp e),by rw [q]⟩]
  ·rw [if_neg q,if_neg (fun h=>q (KA hwb (hb p (by simp)) h.2))]
   show AE (D7 ps++[(Ay p.1,Bb p.1 p.2)]) (A1 w)=_
   rw [BF,if_neg (fun h=>L9 (fun e=>h.1 (by rw [e];rfl)) h.2.symm),ih fun p' hp=>hb p' (List.mem_append_left _ hp)]
theorem Ip (ps:AL) {q:Ag} {v:AV}:AE (D7 ps) q=some v→∃p∈ps,q=Ay p.1∨q=A1 p.1:=by
 refine Dk (P:=fun ps=>AE (D7 ps) q=some v→∃p∈ps,q=Ay p.1∨q=A1 p.1) (fun h=>?_) (fun ps p ih h=>?_) _ ps rfl
 ·unfold AE at h
  split at h<;>cases h
 ·rw [Dh] at h
  replace h:AE (D7 ps++[(Ay p.1,Bb p.1 p.2)]++[(A1 p.1,Bc p.1 p.2)]) q=some v:=h
  rw [BF] at h
  split at h
  ·rename_i z;exact ⟨p,by simp,.inr z.2⟩
  ·rw [BF] at h
   split at h
   ·rename_i z;exact ⟨p,by simp,.inl z.2⟩
   ·refine xa1_2 (ih h) ?_;intro p' h1 h2
    exact ⟨p',by simp [h1],h2⟩
theorem E3 (ps:AL) (h4:∀p∈ps,p.1.length≤4) {q:Ag} (hq:4<q.length):AE (D7 ps) q=none:=by
 cases e:AE (D7 ps) q with
 |none=>rfl
 |some v=>
  refine xa1_2 (Ip ps e) ?_;intro p h1 h2
  have:=h4 p h1
  rcases h2 with rfl|rfl
  ·unfold Ay at hq;rw [List.length_map] at hq;omega
  ·unfold A1 at hq;rw [List.length_map] at hq;omega
noncomputable def Qy (ps:AL) (w:List Int):AV:=(Cw (CA ps) w).getD .none
noncomputable def P9 (ps:AL) (w:List Int):AV:=(Cw (CE ps) w).getD .none
theorem NK (ps:AL) (w:List Int):(Cw (CA ps) w).isSome=true↔∃p∈ps,p.1=w:=by
 refine Dk (P:=fun ps=>(Cw (CA ps) w).isSome=true↔∃p∈ps,p.1=w) ?_ (fun ps p ih=>?_) _ ps rfl
 ·simp [CA,Cw]
 ·rw [C9,Ce]
  by_cases q:w=p.1
  ·rw [if_pos q];exact ⟨fun _=>⟨p,by simp,q.symm⟩,fun _=>rfl⟩
  ·rw [if_neg q,ih]
   exact ⟨fun ⟨p',h,e⟩=>⟨p',List.mem_append_left _ h,e⟩,fun ⟨p',h,e⟩=>by
    rcases List.mem_append.mp h with h|h
    ·exact ⟨p',h,e⟩
    ·rw [List.mem_singleton.mp h] at e;exact absurd e.symm q⟩
theorem NL (ps:AL) (w:List Int):(Cw (CE ps) w).isSome=true↔∃p∈ps,p.1=w:=by
 refine Dk (P:=fun ps=>(Cw (CE ps) w).isSome=true↔∃p∈ps,p.1=w) ?_ (fun ps p ih=>?_) _ ps rfl
 ·simp [CE,Cw]
 ·rw [CD,Ce]
  by_cases q:w=p.1
  ·rw [if_pos q];exact ⟨fun _=>⟨p,by simp,q.symm⟩,fun _=>rfl⟩
  ·rw [if_neg q,ih]
   exact ⟨fun ⟨p',h,e⟩=>⟨p',List.mem_append_left _ h,e⟩,fun ⟨p',h,e⟩=>by
    rcases List.mem_append.mp h with h|h
    ·exact ⟨p',h,e⟩
    ·rw [List.mem_singleton.mp h] at e;exact absurd e.symm q⟩
theorem HO (vs:List Int) (w:List Int):(∃p∈A9 vs,p.1=w)↔w∈vs.map Ao:=by
 constructor
 ·(intro zr;refine xa1_2 zr ?_;(try clear zr);intro p hp;rintro rfl)
  refine xa1_2 (Eo hp) ?_;intro v hv e
  exact List.mem_map.mpr ⟨v,hv,e.symm⟩
 ·intro h
  refine xa1_2 (List.mem_map.mp h) ?_;intro v hv;rintro rfl
  refine xa2_1 (List.exists_cons_of_ne_nil (Mp v)) ?_;intro k ks e
  exact ⟨(Ao v,Da k),List.mem_flatMap.mpr ⟨v,hv,by rw [e];unfold IL;simp⟩,rfl⟩
open Classical in
theorem FJ {R:List (List Int)} {S:List Int} {key:Ag→Option AV} {t:Ag} {g:List Int→Ag} {at_:List Int→Option AV} {k:Nat} (hg:∀w:List Int,(g w).length=w.length) (hk:∀w,w≠[]→(∃a b,w=(S.drop a).take b)→key (g w)=at_ w)
  (hR:∀w,w∈R↔(at_ w).isSome=true) {i:Nat} (hi:i<S.length) (hc:∀L,1≤L→L≤min (i+1) 4→(t.drop (k+(i+1) - L)).take L=g ((S.drop (i+1 - L)).take L)) :
  Iu key t (k+(i+1)) (BU (min (i+1) 4))=(IK R S (i+1) (BU (min (i+1) 4))).map fun p=>.tup [(at_ p.1).getD .none,iN (k+p.2)]:=by
 unfold Iu IK
 rw [List.map_filterMap]
 refine Hy fun L hL=>?_
 refine xa0_2 (Ez.mp hL) ?_;intro h1 h2
 rw [hc L h1 h2]
 have hlen:((S.drop (i+1 - L)).take L).length=L:=by rw [List.length_take,List.length_drop];omega
 rw [hk _ (fun e=>by rw [e] at hlen;simp at hlen;exact IN [_] [(1,(Zn 1),Z0),(1,Z0,(Zn 0))] rfl h1 (Nat.le_of_eq (Eq.symm hlen))) ⟨_,_,rfl⟩]
 have e:k+(i+1) - L=k+(i+1 - L):=by omega
 cases q:at_ ((S.drop (i+1 - L)).take L) with
 |none=>
  have:(S.drop (i+1 - L)).take L∉R:=fun h=>by rw [hR,q] at h;cases h
  rw [if_neg this];rfl
 |some v=>
  have:(S.drop (i+1 - L)).take L∈R:=by rw [hR,q];rfl
  rw [if_pos this,e]
  simp only [Option.map_some,q,Option.getD_some]
end
section
theorem Iy {α β:Type} {f g:α→List β}:∀{l:List α},(∀a∈l,f a=g a)→l.flatMap f=l.flatMap g
 |[],_=>rfl
 |a::l,h=>by rw [List.flatMap_cons,List.flatMap_cons,h a (.head _),Iy fun b hb=>h b (.tail _ hb)]
theorem A7 (l:List Int):(Ay l).length=l.length:=by unfold Ay;rw [List.length_map]
theorem Br (l:List Int):(A1 l).length=l.length:=by unfold A1;rw [List.length_map]
theorem OV (S:List Int) (a b:Nat):((Ay S).drop a).take b=Ay ((S.drop a).take b):=by unfold Ay;rw [List.map_take,List.map_drop]
theorem MB (S:List Int) (a b:Nat):((A1 S).drop a).take b=A1 ((S.drop a).take b):=by unfold A1;rw [List.map_take,List.map_drop]
theorem BW.cut {S:List Int} (h:BW S) (a b:Nat):BW ((S.drop a).take b):=fun x hx=>h x (List.mem_of_mem_drop (List.mem_of_mem_take hx))
noncomputable def Pv (ps:AL) (p:List Int×Nat):AV:=.tup [Qy ps p.1,iN p.2]
noncomputable def Pp (ps:AL) (k:Nat) (p:List Int×Nat):AV:=.tup [P9 ps p.1,iN (k+p.2)]
variable {vs:List Int} {S:List Int}
theorem LI (vs:List Int) (w:List Int):w∈vs.map Ao↔(Cw (CA (A9 vs)) w).isSome=true:=by rw [NK,HO]
theorem LJ (vs:List Int) (w:List Int):w∈vs.map Ao↔(Cw (CE (A9 vs)) w).isSome=true:=by rw [NL,HO]
theorem JV (vs:List Int):∀p∈A9 vs,BW p.1:=fun p hp=>by
 refine xa1_2 (Eo hp) ?_;intro v zu e
 rw [e];exact EO v
theorem Ko (vs S:List Int):B2 (AE (D7 (A9 vs))) [] (Ay S)=(FE (vs.map Ao) S S.length).map (Pv (A9 vs)):=by
 rw [Hx _ (Ay S) (Ay S) [] rfl]
 unfold FE
 rw [List.map_flatMap,A7]
 refine Iy fun i hi=>?_
 have hi:=List.mem_range.mp hi
 rw [show ([]:Ag).length+i+1=0+(i+1) by simp,Nat.zero_add]
 rw [E6 (m:=min (i+1) 4) (by omega) (fun L h1 h2=>E3 _ Ca (by rw [OV,A7,List.length_take,List.length_drop];omega))]
 have:=FJ (R:=vs.map Ao) (S:=S) (key:=AE (D7 (A9 vs))) (t:=Ay S) (g:=Ay) (at_:=Cw (CA (A9 vs))) (k:=0) A7 (fun w hw _=>Kg _ hw) (LI vs) hi (fun L h1 h2=>by rw [Nat.zero_add];exact OV S _ _)
 rw [Nat.zero_add] at this
 rw [this]
 exact List.map_congr_left fun p _=>by rw [Nat.zero_add];rfl
theorem Kp (hS:BW S):B2 (AE (D7 (A9 vs))) [] (A1 S)=(FE (vs.map Ao) S S.length).map (Pp (A9 vs) 0):=by
 rw [Hx _ (A1 S) (A1 S) [] rfl]
 unfold FE
 rw [List.map_flatMap,Br]
 refine Iy fun i hi=>?_
 have hi:=List.mem_range.mp hi
 rw [show ([]:Ag).length+i+1=0+(i+1) by simp,Nat.zero_add]
 rw [E6 (m:=min (i+1) 4) (by omega) (fun L h1 h2=>E3 _ Ca (by rw [MB,Br,List.length_take,List.length_drop];omega))]
 have:=FJ (R:=vs.map Ao) (S:=S) (key:=AE (D7 (A9 vs))) (t:=A1 S) (g:=A1) (at_:=Cw (CE (A9 vs))) (k:=0) Br (fun w hw ⟨a,b,e⟩=>Kh _ (JV vs) hw (e▸hS.cut a b)) (LJ vs) hi (fun L h1 h2=>by rw [Nat.zero_add];exact MB S _ _)
 rw [Nat.zero_add] at this
 rw [this]
 rfl
theorem P4 {q:Ag} {x:Int} {y:Str} (h1:Au.i x∈q) (h2:Au.s y∈q):AE (D7 (A9 vs)) q=none:=by
 cases e:AE (D7 (A9 vs)) q with
 |none=>rfl
 |some v=>
  refine xa1_2 (Ip _ e) ?_;intro p zu h
  rcases h with rfl|rfl
  ·unfold Ay at h2;refine xa1_2 (List.mem_map.mp h2) ?_;intro z zu e;cases e
  ·unfold A1 at h1;refine xa1_2 (List.mem_map.mp h1) ?_;intro z zu e;cases e
theorem M6 (hS:BW S):B2 (AE (D7 (A9 vs))) [] (Ay S++A1 S)=(FE (vs.map Ao) S S.length).map (Pv (A9 vs))++(FE (vs.map Ao) S S.length).map (Pp (A9 vs) S.length):=by
 rw [Hx _ (Ay S++A1 S) (Ay S++A1 S) [] rfl,List.length_append,A7,Br,List.range_add,List.flatMap_append,List.flatMap_map]
 congr 1
 ·unfold FE
  rw [List.map_flatMap]
  refine Iy fun i hi=>?_
  have hi:=List.mem_range.mp hi
  have hcut:∀L,L≤i+1→((Ay S++A1 S).drop (i+1 - L)).take L=Ay ((S.drop (i+1 - L)).take L):=fun L hL=>by
   rw [List.drop_append_of_le_length (by rw [A7];exact At [_,_,_,_] [(1,(Zs Z2),Z1),(1,(Za Z0 Z3),(Zs Z2))] Z0 Z1 rfl hi (Nat.le_of_eq (Nat.sub_add_cancel (At [_,_] [(1,Z0,(Zs Z1))] Z0 (Zs Z1) rfl hL)))),List.take_append_of_le_length (by rw [List.length_drop,A7];exact At [_,_,_,_,_] [(1,(Zs Z2),Z3),(1,Z3,(Za Z1 Z4)),(1,(Za Z4 Z0),(Zs Z2))] Z0 Z1 rfl hi (BP _ _) (Nat.le_of_eq (Nat.sub_add_cancel (At [_,_] [(1,Z0,(Zs Z1))] Z0 (Zs Z1) rfl hL)))),OV]
  rw [show ([]:Ag).length+i+1=0+(i+1) by simp,Nat.zero_add]
  rw [E6 (m:=min (i+1) 4) (by omega) (fun L h1 h2=>E3 _ Ca (by rw [hcut L h2,A7,List.length_take,List.length_drop];omega))]
  have:=FJ (R:=vs.map Ao) (S:=S) (key:=AE (D7 (A9 vs))) (t:=Ay S++A1 S) (g:=Ay) (at_:=Cw (CA (A9 vs))) (k:=0) A7 (fun w hw _=>Kg _ hw) (LI vs) hi (fun L h1 h2=>by rw [Nat.zero_add];exact hcut L (by omega))
  rw [Nat.zero_add] at this
  rw [this]
  exact List.map_congr_left fun p _=>by rw [Nat.zero_add];rfl
 ·unfold FE
  rw [List.map_flatMap]
  refine Iy fun i hi=>?_
  have hi:=List.mem_range.mp hi
  show Iu _ _ (([]:Ag).length+(S.length+i)+1) (BU (([]:Ag).length+(S.length+i)+1))=_
  rw [show ([]:Ag).length+(S.length+i)+1=S.length+(i+1) by simp;exact Nat.le_antisymm (At [_,_] [] (Zs (Za Z0 Z1)) (Za Z0 (Zs Z1)) rfl) (At [_,_] [] (Za Z0 (Zs Z1)) (Zs (Za Z0 Z1)) rfl)]
  have hcut:∀L,L≤i+1→((Ay S++A1 S).drop (S.length+(i+1) - L)).take L=A1 ((S.drop (i+1 - L)).take L):=fun L hL=>by
   rw [show S.length+(i+1) - L=(Ay S).length+(i+1 - L) by rw [A7];exact Nat.le_antisymm (At [_,_,_,_,_] [(1,(Za Z0 Z3),(Za Z1 (Zs Z4))),(1,(Zs Z4),(Za Z2 Z3))] Z0 (Za Z1 Z2) rfl (Nat.le_of_eq (Nat.sub_add_cancel (At [_,_,_] [(1,Z0,(Zs Z2))] Z0 (Za Z1 (Zs Z2)) rfl hL))) (BP _ _)) (At [_,_,_,_,_] [(1,(Za Z1 Z3),(Zs Z4)),(1,(Za Z0 (Zs Z4)),(Za Z2 Z3))] (Za Z0 Z1) Z2 rfl (Nat.le_of_eq (Nat.sub_add_cancel (At [_,_] [(1,Z0,(Zs Z1))] Z0 (Zs Z1) rfl hL))) (BP _ _)),List.drop_append,List.drop_eq_nil_of_le (by exact At [_,_] [] Z0 (Za Z0 Z1) rfl),List.nil_append,Nat.add_sub_cancel_left,MB]
  rw [E6 (m:=min (i+1) 4) (by omega) (fun L h1 h2=>?_)]
  ·exact FJ (R:=vs.map Ao) (S:=S) (key:=AE (D7 (A9 vs))) (t:=Ay S++A1 S) (g:=A1) (at_:=Cw (CE (A9 vs))) (k:=S.length) Br (fun w hw ⟨a,b,e⟩=>Kh _ (JV vs) hw (e▸hS.cut a b)) (LJ vs) hi (fun L h1 h2=>hcut L (by omega))
  ·by_cases q:4<L
   ·exact E3 _ Ca (by rw [List.length_take,List.length_drop,List.length_append,A7,Br];omega)
   ·have hL:i+1<L:=by omega
    obtain ⟨x,hx⟩:∃x,S[S.length+(i+1) - L]? = some x:=⟨S[S.length+(i+1) - L]'(by exact B6 [_,_,_,_] [(1,(Zs (Zs Z2)),Z3),(1,(Za Z0 Z3),(Za Z1 (Zs Z2)))] Z0 Z1 rfl hL (Nat.le_of_eq (Nat.sub_add_cancel (At [_,_,_] [(1,Z0,(Za Z1 (Zs Z2)))] Z0 (Za Z1 (Zs Z2)) rfl h2)))),List.getElem?_eq_getElem (by exact B6 [_,_,_,_] [(1,(Zs (Zs Z2)),Z3),(1,(Za Z0 Z3),(Za Z1 (Zs Z2)))] Z0 Z1 rfl hL (Nat.le_of_eq (Nat.sub_add_cancel (At [_,_,_] [(1,Z0,(Za Z1 (Zs Z2)))] Z0 (Za Z1 (Zs Z2)) rfl h2))))⟩
    obtain ⟨y,hy⟩:∃y,S[i]? = some y:=⟨S[i]'hi,List.getElem?_eq_getElem hi⟩
    refine P4 (x:=x) (y:=⟨#[BT y]⟩) (List.mem_of_getElem? (i:=0) ?_) (List.mem_of_getElem? (i:=L - 1) ?_)
    ·rw [List.getElem?_take_of_lt (by exact B6 [_,_] [(1,(Zs (Zs Z1)),Z0)] (Zn 0) Z0 rfl hL),List.getElem?_drop,Nat.add_zero,List.getElem?_append_left (by rw [A7];exact B6 [_,_,_,_] [(1,(Zs (Zs Z2)),Z3),(1,(Za Z0 Z3),(Za Z1 (Zs Z2)))] Z0 Z1 rfl hL (Nat.le_of_eq (Nat.sub_add_cancel (At [_,_,_] [(1,Z0,(Za Z1 (Zs Z2)))] Z0 (Za Z1 (Zs Z2)) rfl h2))))]
     unfold Ay;rw [List.getElem?_map,hx];rfl
    ·rw [List.getElem?_take_of_lt (by exact B6 [_,_] [(1,(Zs Z0),Z1)] Z0 Z1 rfl (Nat.le_of_eq (Nat.sub_add_cancel (At [_,_] [(1,(Zs Z1),Z0)] (Zn 1) Z0 rfl h1)))),List.getElem?_drop,List.getElem?_append_right (by rw [A7];exact At [_,_,_,_,_] [(1,(Za Z0 (Zs Z3)),(Za Z1 Z4)),(1,Z4,(Zs Z2))] Z0 (Za Z1 Z2) rfl (BP _ _) (BP _ _)),A7]
     unfold A1;rw [List.getElem?_map,show S.length+(i+1) - L+(L - 1) - S.length=i by omega,hy];rfl
end
section
section
variable {C:Cf} {A:Around} {s s':Shared} {F F' G:FH} {env:Env} {E:Value→Shared→Prop} {hp hp':HP} {loc:PL} {σ:Al}
theorem NP {x:Str} {px pos:Pos} {args:List Expr} {f:Addr} {fd:FuncData} {pvs:List PV} {v:AV} (hf:FnAt C f fd) (hg:GL C x (.ref f)) (hv:IM C A hp env loc args pvs) (h:∀xs,Args hp pvs xs→Fn C A (.ref f) xs [] hp (fun v' hp'=>v'=v∧Sub hp hp')) (hk:autoParam (env.kindOf x=some .globalImplicit) AC.aux0._auto_1)
  (he:autoParam (eval (.Call (.Name x px) args [] pos) env=(do callWith pos (←eval (.Name x px) env) [] (AT env args) [])) AC.aux0._auto_1) (hd:autoParam ((x == ("__debug__" : Str))=false) AC.aux1._auto_1):PE C A hp env loc (.Call (.Name x px) args [] pos) (v,false):=
 AZ hg hv (Pr.pc fun xs hx=>(h xs hx).cl) (fun zu k=>hf.keep k) hk he hd
theorem Gw {e1 e2 e3:Expr} {D:List AV} {k:Nat} {p1 p2 p3 p4 p5 p6:Pos} {kk:Nat} (hz:D.length≤10000) (h1:PE C A hp env loc e1 (.lst D,false)) (h2:PE C A hp env loc e2 (.lst D,false)) (h3:PE C A hp env loc e3 (.lst D,false)) (hpl:autoParam (DC e1=true) AC.aux0._auto_1)
  (hd:autoParam (IM C A hp env loc [.IfExp e1 (.Subscript e2 (.Constant (.int 0) k p1) p2) (.Constant .none kk p3) p4] [(Bh D,false)]→PE C A hp env loc (.List [.IfExp e1 (.Subscript e2 (.Constant (.int 0) k p1) p2) (.Constant .none kk p3) p4] p5) (.lst [Bh D],false)) AC.aux9._auto_1) :
  PE C A hp env loc (.BinOp (.List [.IfExp e1 (.Subscript e2 (.Constant (.int 0) k p1) p2) (.Constant .none kk p3) p4] p5) .Add e3 p6) (.lst (Bh D::D),false):=by
 refine Bi (hd (.cons (PP (q:=!D.isEmpty) (MW h1 (Pw (by exact At [_] [(1,Z0,(Zn 10000))] Z0 (Zn 100000) rfl hz)) hpl) (fun q=>?_) (fun q=>?_)) .nil)) h3 (Fb (by rw [List.length_singleton];exact At [_] [(1,Z0,(Zn 10000))] (Za (Zn 1) Z0) (Zn 100000) rfl hz))
 ·refine Gx h2 AB (Ja (by decide) ?_ (by exact At [_] [(1,Z0,(Zn 10000))] Z0 (Zn 100000) rfl hz))
  cases D with
  |nil=>cases q
  |cons p D=>rfl
 ·cases D with
  |nil=>exact NO
  |cons p D=>cases q
theorem It {D:List (List Int×AV)} {w:List Int} {P:AV→Prop} (h0:P .none) (h:∀x,Cw D w=some x→P x):P ((Cw D w).getD .none):=by
 cases e:Cw D w with
 |none=>exact h0
 |some x=>exact h x e
theorem LU (ps:AL) (w:List Int):∀x,Cw (CA ps) w=some x→∃l k,x=Bb l k:=by
 refine Dk (P:=fun ps=>∀x,Cw (CA ps) w=some x→∃l k,x=Bb l k) (fun x h=>by cases h) (fun ps p ih x h=>?_) _ ps rfl
 rw [C9,Ce] at h
 split at h
 ·exact ⟨p.1,p.2,(Option.some.inj h).symm⟩
 ·exact ih x h
theorem Mk (ps:AL) (w:List Int):∀x,Cw (CE ps) w=some x→∃l k,x=Bc l k:=by
 refine Dk (P:=fun ps=>∀x,Cw (CE ps) w=some x→∃l k,x=Bc l k) (fun x h=>by cases h) (fun ps p ih x h=>?_) _ ps rfl
 rw [CD,Ce] at h
 split at h
 ·exact ⟨p.1,p.2,(Option.some.inj h).symm⟩
 ·exact ih x h
theorem PA (l:List Int) (k:Nat):GH 1 (Bb l k):=by
 have:∀x∈l.map AV.int,GH 0 x:=fun x hx=>by refine xa1_2 (List.mem_map.mp hx) ?_;intro i zu;rintro rfl;exact .int i
 match k with
 |0=>exact .tup this
 |1=>exact .lst this
 |k+2=>exact .bytes _
theorem PD (l:List Int) (k:Nat):GH 1 (Bc l k):=by
 have:∀x∈A8 l,GH 0 x:=fun x hx=>by refine xa1_2 (List.mem_map.mp hx) ?_;intro i zu;rintro rfl;exact .str _
 match k with
 |0=>exact .tup this
 |1=>exact .str _
 |k+2=>exact .lst this
theorem NG (ps:AL) (p:List Int×Nat):GH 2 (Pv ps p):=.tup fun x hx=>by
 rcases List.mem_cons.mp hx with rfl|hx
 ·exact It .none fun x h=>by refine xa2_1 (LU ps p.1 x h) ?_;intro l k;rintro rfl;exact PA l k
 ·rw [List.mem_singleton.mp hx];exact .int _
theorem NH (ps:AL) (k:Nat) (p:List Int×Nat):GH 2 (Pp ps k p):=.tup fun x hx=>by
 rcases List.mem_cons.mp hx with rfl|hx
 ·exact It .none fun x h=>by refine xa2_1 (Mk ps p.1 x h) ?_;intro l k;rintro rfl;exact PD l k
 ·rw [List.mem_singleton.mp hx];exact .int _
theorem CG {D:List AV} (h:∀x∈D,GH 2 x):∀x∈Bh D::D,GH 2 x:=fun x hx=>by
 rcases List.mem_cons.mp hx with rfl|hx
 ·cases D with
  |nil=>exact .none
  |cons p D=>exact h p (.head _)
 ·exact h x hx
noncomputable abbrev DN (vs:List Int) (S:List Int):List AV:=(FE (vs.map Ao) S S.length).map (Pv (A9 vs))
noncomputable abbrev DL (vs:List Int) (S:List Int) (k:Nat):List AV:=(FE (vs.map Ao) S S.length).map (Pp (A9 vs) k)
theorem JF (vs S:List Int):∀x∈DN vs S,GH 2 x:=fun x hx=>by refine xa1_2 (List.mem_map.mp hx) ?_;intro p zu;rintro rfl;exact NG _ p
theorem JG (vs S:List Int) (k:Nat):∀x∈DL vs S k,GH 2 x:=fun x hx=>by refine xa1_2 (List.mem_map.mp hx) ?_;intro p zu;rintro rfl;exact NH _ k p
theorem LE {R:List (List Int)} {S:List Int} {n:Nat} {p:List Int×Nat} (h:p∈FE R S n):p.1∈R:=by
 refine xa1_2 (List.mem_flatMap.mp h) ?_;intro i zu h
 unfold IK at h
 refine xa1_2 (List.mem_filterMap.mp h) ?_;intro L zu h
 split at h
 ·rename_i q
  rw [←Option.some.inj h];exact q
 ·cases h
theorem IF (T:Tp7 C) {fa:Addr} {ra:FdRest} (has:FnAt C fa (ra.fd askedP .none)) (hga:GL C "_law_asked" (.ref fa)) {t dn dl:Addr} {vs:List Int} {V:AV} {w:Ag} {D:List AV} (hA:A.handled=none) (hroom:A.depth+5<recursionLimit) (H:FB t dn dl (A9 vs) hp) (hV:∀hp,BI V (w.map Au.av) hp) (hD:B2 (AE (D7 (A9 vs))) [] w=D) (hn:D.length≤10000)
  {e1 e2 e3:Expr} {px pos:Pos} (h1:PE C A hp env loc e1 (.ref t,false)) (h2:PE C A hp env loc e2 (V,false)) (h3:PE C A hp env loc e3 (V,false)) (hk:autoParam (env.kindOf "_law_asked" = some .globalImplicit) AC.aux0._auto_1)
  (he:autoParam (eval (.Call (.Name "_law_asked" px) [e1,e2,e3] [] pos) env=(do callWith pos (←eval (.Name "_law_asked" px) env) [] (AT env [e1,e2,e3]) [])) AC.aux0._auto_1) :
  PE C A hp env loc (.Call (.Name "_law_asked" px) [e1,e2,e3] [] pos) (.lst (Bh D::D),false):=by
 refine cps fun zP zk=>?_;(rcases H with ⟨e,ep1,ep2,ht,hf,hc,hw,hF,_,_⟩)<;>(refine zk ?_;clear zk zP)
 subst ht
 refine NP (pvs:=vals [.ref e.t,V,V]) has hga (.cons h1 (.cons h2 (.cons h3 .nil))) (fun xs hx=>?_) hk he
 obtain rfl:=hx.vals
 refine (Gu T has (o1:=.own) (o2:=.own) (w:=w) hA hroom (hF.ok e (by simp)) hf hc (fun w h=>by rw [hw] at h;have:=FC Ca w h;exact At [_] [(1,Z0,(Zn 4))] Z0 (Zn 1000) rfl this) (.of (hV hp)) (.of (hV hp)) (fun a z=>nomatch z) (fun l z=>nomatch z) (by rw [hw,hD];exact hn)).mono fun v hp' q=>?_
 refine xa0_2 q ?_;(try clear q);intro q1 q2
 exact ⟨by rw [q1,hw,hD],Sub.of fun a ha=>q2 a ha (fun z=>nomatch z) fun z=>nomatch z⟩
end
end
section
section
variable {C:Cf} {A:Around} {s s':Shared} {F F' G:FH} {env:Env} {E:Value→Shared→Prop} {hp hp':HP} {loc:PL} {σ:Al}
noncomputable abbrev G7 (vs S:List Int) (t dn dl:Addr):List (Str×AV):=[("tree",.ref t),("in_letters",.ref dl),("signs",lstI S),("letters",.lst (A8 S)),("standing",.lst ((FE (vs.map Ao) S S.length).map O7)),("due",.lst (DN vs S)),("told",.lst (Bh (DN vs S)::DN vs S))]
theorem HE (vs S:List Int):(DN vs S).length≤S.length*4:=by rw [List.length_map];exact CO _ _ _
theorem G4 (vs S:List Int) (k:Nat):(DL vs S k).length≤S.length*4:=by rw [List.length_map];exact CO _ _ _
theorem OJ (T:Tp7 C) {r:FdRest} {L f:Addr} (hA:A.handled=none) (hu:A.units≤9000) {vs S:List Int} {t dn dl:Addr} {Q:A6→Al→Prop} (hS:S.length=12) (H:FB t dn dl (A9 vs) hp)
  (h:Cq C A Bj (BD r L f) (lawP.body.drop 15) ⟨G7 vs S t dn dl,hp⟩ Q) :
  Cq C A Bj (BD r L f) (lawP.body.drop 13) ⟨[("rows",Cs (vs.map Ao)),("tree",.ref t),("in_numbers",.ref dn),("in_letters",.ref dl),("signs",lstI S),("letters",.lst (A8 S)),("standing",.lst ((FE (vs.map Ao) S S.length).map O7))],hp⟩ Q:=by
 refine cps fun zP zk=>?_;(rcases H with ⟨e,ep1,ep2,ht,hf,hc,hw,hF,h1,h2⟩)<;>(refine zk ?_;clear zk zP)
 have hl:=CO (vs.map Ao) S S.length
 have hdl:=HE vs S
 refine Ab (FP [] (DN vs S) (EG hA (FE (vs.map Ao) S S.length) (fun p=>tupI p.1) (fun p=>iN p.2) (Pv (A9 vs)) (C3 hA (Aj rfl) .lst) (by exact At [_,_] [(4,Z1,(Zn 12)),(1,Z0,(.mulR Z1 4))] Z0 (Zn 100000) rfl (Nat.le_of_eq hS) hl) fun Lc p hp'=>?_) ?_)
 ·refine Cn [Qy (A9 vs) p.1,iN p.2] (.cons (Gx (Aj rfl) (Aj rfl) (JT h1 hu ?_)) (.cons (Aj rfl) .nil)) (Nat.le_of_ble_eq_true rfl)
  have:=(LI vs p.1).mp (LE hp')
  unfold Qy
  cases q:Cw (CA (A9 vs)) p.1 with
  |none=>rw [q] at this;cases this
  |some x=>rfl
 refine Ab (D4 [] (.lst (Bh (DN vs S)::DN vs S)) (Gw (by exact At [_,_] [(4,Z1,(Zn 12)),(1,Z0,(.mulR Z1 4))] Z0 (Zn 10000) rfl (Nat.le_of_eq hS) hdl) (Aj rfl) (Aj rfl) (Aj rfl)) ?_)
 exact D3 (Aa rfl (Aa rfl (Aa rfl (Aa rfl (Aa rfl (Aa rfl (Aa rfl (A3)))))))) h
theorem OI (T:Tp7 C) {fa:Addr} {ra:FdRest} (has:FnAt C fa (ra.fd askedP .none)) (hga:GL C "_law_asked" (.ref fa)) {r:FdRest} {L f:Addr} (hA:A.handled=none) (hu:A.units≤9000) (hroom:A.depth+5<recursionLimit) {vs S:List Int} {t dn dl:Addr} {Q:A6→Al→Prop} (hS:S.length=12) (hb:BW S) (H:FB t dn dl (A9 vs) hp)
  (h:Cq C A Bj (BD r L f) (lawP.body.drop 16) ⟨G7 vs S t dn dl,hp⟩ Q) :
  Cq C A Bj (BD r L f) (lawP.body.drop 15) ⟨G7 vs S t dn dl,hp⟩ Q:=by
 have hdl:=HE vs S
 have hz:(S.map AV.int).length≤100000:=by rw [List.length_map];exact At [_] [(1,Z0,(Zn 12))] Z0 (Zn 100000) rfl (Nat.le_of_eq hS)
 refine Ab ?_
 refine Ef [] (fun xs loc hp'=>(∀V∈xs,∀hp,BI V ((Ay S).map Au.av) hp)∧loc=G7 vs S t dn dl∧hp'=hp)
  (C3 hA (PE_List [lstI S,tupI S,.bytes (byteArr S)] (.cons (Aj rfl) (.cons (AZ T.x.t.g_tuple (.cons (Aj rfl) .nil) (E4 hz)) (.cons (AZ T.g_bytes (.cons (Aj rfl) .nil) (Ms hA hb.byte (by exact At [_] [(1,Z0,(Zn 12))] Z0 (Zn 100000) rfl (Nat.le_of_eq hS)))) .nil))) (Nat.le_of_ble_eq_true rfl)) .lst)
  ⟨G7 vs S t dn dl,Aa rfl (Aa rfl (Aa rfl (Aa rfl (Aa rfl (Aa rfl (Aa rfl (A3))))))),fun V hV hp=>?_,rfl,rfl⟩ ?_ ?_
 ·rw [D9]
  rcases List.mem_cons.mp hV with rfl|hV
  ·exact .lst hz
  rcases List.mem_cons.mp hV with rfl|hV
  ·exact .tup hz
  rw [List.mem_singleton.mp hV]
  exact I8 hb.byte▸.byt (by rw [byteArr_size];exact At [_] [(1,Z0,(Zn 12))] Z0 (Zn 100000) rfl (Nat.le_of_eq hS))
 ·(rintro V xs loc hp';intro zr;refine xa0_3 zr ?_;(try clear zr);intro hV;rintro rfl;rintro rfl)
  refine By (Ab (Nb [] (PT.eq (JB (IF T has hga hA hroom H (hV V (.head _)) (Ko vs S) (Nat.le_trans hdl (by exact At [_] [(4,Z0,(Zn 12))] (.mulR Z0 4) (Zn 10000) rfl (Nat.le_of_eq hS))) (Aj rfl) (Aj rfl) (Aj rfl)) (Aj rfl) (FF (n:=2) (CG (JF vs S)) (by decide) hu)) rfl) (fun q=>by cases q) (fun _=>Am (Am ⟨G7 vs S t dn dl,Aa rfl (Aa rfl (Aa rfl (Aa rfl (Aa rfl (Aa rfl (Aa rfl (A3))))))),fun U hU=>hV U (.tail _ hU),rfl,rfl⟩))))
 ·(rintro loc hp';intro zr;refine xa0_3 zr ?_;(try clear zr);intro zu;rintro rfl;rintro rfl)
  exact h
end
end
section
section
variable {C:Cf} {A:Around} {s s':Shared} {F F' G:FH} {env:Env} {E:Value→Shared→Prop} {hp hp':HP} {loc:PL} {σ:Al}
noncomputable abbrev G8 (l:List AV):AO:=.itr "list_iterator" [.lst l,.val (.int (0:Nat) 0)]
theorem LK {r:Addr} {l:List AV} (h:hp r=some (G8 l)):Ct r hp l:=by
 have:=Ct.mid (ys:=l) (j:=0) h (Nat.zero_le _)
 rwa [List.drop_zero] at this
theorem FB.asked {t dn dl r1 r2:Addr} {ps:AL} {l1 l2:List AV} (h:FB t dn dl ps hp) (n1:hp r1=some (G8 l1)) (n2:hp r2=some (G8 l2)) (k:∀a,hp a≠none→¬CI (.rd r1) a→¬CI (.rd r2) a→hp' a=hp a):FB t dn dl ps hp':=
 h.keep fun a ha hn=>k a ha (fun z=>by obtain rfl:=Co.rd.inj z;exact hn _ _ n1) fun z=>by obtain rfl:=Co.rd.inj z;exact hn _ _ n2
theorem IJ (T:Tp7 C) {fa:Addr} {ra:FdRest} (has:FnAt C fa (ra.fd askedP .none)) {t dn dl r1 r2:Addr} {vs:List Int} {l1:List AV} {w:Ag} {D:List AV} {Q:AV→Al→Prop} (hA:A.handled=none) (hroom:A.depth+5<recursionLimit) (H:FB t dn dl (A9 vs) hp) (hl:w.map Au.av=l1) (n1:hp r1=none) (n2:upd hp r1 (G8 l1) r2=none)
  (hD:B2 (AE (D7 (A9 vs))) [] w=D) (hn:D.length≤10000) (q:∀hp',FB t dn dl (A9 vs) hp'→Q (.lst (Bh D::D)) ⟨loc.map (fun p=>(p.1,p.2.1)),hp'⟩) :
  Bf C A E env (.ref fa) [] [.ref t,.ref r1,.ref r2] [] ⟨loc.map (fun p=>(p.1,p.2.1)),upd (upd hp r1 (G8 l1)) r2 (G8 l1)⟩ Q:=by
 have hne:r1≠r2:=by rintro rfl;rw [Ae] at n2;cases n2
 have H2:FB t dn dl (A9 vs) (upd (upd hp r1 (G8 l1)) r2 (G8 l1)):=(H.put n1).put n2
 have m1:upd (upd hp r1 (G8 l1)) r2 (G8 l1) r1=some (G8 l1):=(Ad _ _ hne).trans (Ae _ _ _)
 have m2:upd (upd hp r1 (G8 l1)) r2 (G8 l1) r2=some (G8 l1):=Ae _ _ _
 generalize upd (upd hp r1 (G8 l1)) r2 (G8 l1)=hq at H2 m1 m2 ⊢
 have H3:=H2
 refine cps fun zP zk=>?_;(rcases H3 with ⟨e,ep1,ep2,ht,hf,hc,hw,hF,_,_⟩)<;>(refine zk ?_;clear zk zP)
 subst ht
 refine AS has ((Gu T has (o1:=.rd r1) (o2:=.rd r2) (w:=w) hA hroom (hF.ok e (by simp)) hf hc (fun w h=>by rw [hw] at h;have:=FC Ca w h;exact At [_] [(1,Z0,(Zn 4))] Z0 (Zn 1000) rfl this) (.rd (hl▸LK m1)) (.rd (hl▸LK m2)) (fun a z1 z2=>hne (by rw [Co.rd.inj z1,Co.rd.inj z2])) (fun l z=>nomatch z) (by rw [hw,hD];exact hn)).mono fun v hp' z=>?_)
 refine xa0_2 z ?_;(try clear z);intro z1 z2
 rw [z1,hw,hD]
 exact q hp' (H2.asked m1 m2 z2)
theorem OH (T:Tp7 C) {fa:Addr} {ra:FdRest} (has:FnAt C fa (ra.fd askedP .none)) (hga:GL C "_law_asked" (.ref fa)) {r:FdRest} {L f:Addr} (hA:A.handled=none) (hu:A.units≤9000) (hroom:A.depth+5<recursionLimit) {vs S:List Int} {t dn dl:Addr} {Q:A6→Al→Prop} (hS:S.length=12) (H:FB t dn dl (A9 vs) hp)
  (h:∀hp',FB t dn dl (A9 vs) hp'→Cq C A Bj (BD r L f) (lawP.body.drop 17) ⟨G7 vs S t dn dl,hp'⟩ Q) :
  Cq C A Bj (BD r L f) (lawP.body.drop 16) ⟨G7 vs S t dn dl,hp⟩ Q:=by
 have hdl:=HE vs S
 refine Ab (Bd (Be (AJ (DI hga ?_))))
 refine A2 (Ac rfl ?_)
 refine A2 (AJ (Bt T.g_iter (A2 (Ac rfl (Ax (A5 (CH fun r1 n1=>?_)))))))
 refine A2 (AJ (Bt T.g_iter (A2 (Ac rfl (Ax (A5 (CH fun r2 n2=>?_)))))))
 refine Ax (A5 (IJ (loc:=(G7 vs S t dn dl).map fun p=>(p.1,(p.2,false))) T has hA hroom H (D9 S) n1 n2 (Ko vs S) (Nat.le_trans hdl (by exact At [_] [(4,Z0,(Zn 12))] (.mulR Z0 4) (Zn 10000) rfl (Nat.le_of_eq hS))) fun hp' H'=>?_))
 refine Ac rfl (EH (FF (n:=2) (CG (JF vs S)) (by decide) hu) ⟨false,rfl,?_⟩)
 rw [if_neg Bool.false_ne_true]
 exact Am (h hp' H')
end
end
section
section
variable {C:Cf} {A:Around} {s s':Shared} {F F' G:FH} {env:Env} {E:Value→Shared→Prop} {hp hp':HP} {loc:PL} {σ:Al}
noncomputable abbrev FZ (vs S:List Int) (t:Addr):List (Str×AV):=[("tree",.ref t),("signs",lstI S),("letters",.lst (A8 S)),("due",.lst (DN vs S)),("more",.lst (DL vs S 0)),("told",.lst (Bh (DL vs S 0)::DL vs S 0))]
theorem OG (T:Tp7 C) {r:FdRest} {L f:Addr} (hA:A.handled=none) (hu:A.units≤9000) {vs S:List Int} {t dn dl:Addr} {Q:A6→Al→Prop} (hS:S.length=12) (H:FB t dn dl (A9 vs) hp)
  (h:Cq C A Bj (BD r L f) (lawP.body.drop 19) ⟨FZ vs S t,hp⟩ Q) :
  Cq C A Bj (BD r L f) (lawP.body.drop 17) ⟨G7 vs S t dn dl,hp⟩ Q:=by
 refine cps fun zP zk=>?_;(rcases H with ⟨e,ep1,ep2,ht,hf,hc,hw,hF,h1,h2⟩)<;>(refine zk ?_;clear zk zP)
 have hl:=CO (vs.map Ao) S S.length
 have hdl:=G4 vs S 0
 refine Ab (FP [] (DL vs S 0) (EG hA (FE (vs.map Ao) S S.length) (fun p=>tupI p.1) (fun p=>iN p.2) (Pp (A9 vs) 0) (C3 hA (Aj rfl) .lst) (by exact At [_,_] [(4,Z1,(Zn 12)),(1,Z0,(.mulR Z1 4))] Z0 (Zn 100000) rfl (Nat.le_of_eq hS) hl) fun Lc p hp'=>?_) ?_)
 ·refine Cn [P9 (A9 vs) p.1,iN (0+p.2)] (.cons (Gx (Aj rfl) (Aj rfl) (JT h2 hu ?_)) (.cons (PE.eqv (Aj rfl) (congrArg (fun n:Nat=>iN n) (Nat.zero_add p.2).symm)) .nil)) (Nat.le_of_ble_eq_true rfl)
  have:=(LJ vs p.1).mp (LE hp')
  unfold P9
  cases q:Cw (CE (A9 vs)) p.1 with
  |none=>rw [q] at this;cases this
  |some x=>rfl
 refine Ab (D4 [] (.lst (Bh (DL vs S 0)::DL vs S 0)) (Gw (Nat.le_trans hdl (by exact At [_] [(4,Z0,(Zn 12))] (.mulR Z0 4) (Zn 10000) rfl (Nat.le_of_eq hS))) (Aj rfl) (Aj rfl) (Aj rfl)) ?_)
 exact D3 (Aa rfl (Aa rfl (Aa rfl (Aa rfl (Aa rfl (Aa rfl (A3))))))) h
theorem OF (T:Tp7 C) {fa:Addr} {ra:FdRest} (has:FnAt C fa (ra.fd askedP .none)) (hga:GL C "_law_asked" (.ref fa)) {r:FdRest} {L f:Addr} (hA:A.handled=none) (hu:A.units≤9000) (hroom:A.depth+5<recursionLimit) {vs S:List Int} {t dn dl:Addr} {Q:A6→Al→Prop} (hS:S.length=12) (hb:BW S) (H:FB t dn dl (A9 vs) hp)
  (h:Cq C A Bj (BD r L f) (lawP.body.drop 20) ⟨FZ vs S t,hp⟩ Q) :
  Cq C A Bj (BD r L f) (lawP.body.drop 19) ⟨FZ vs S t,hp⟩ Q:=by
 have hdl:=G4 vs S 0
 have hz:(A8 S).length≤100000:=by rw [CC];exact At [_] [(1,Z0,(Zn 12))] Z0 (Zn 100000) rfl (Nat.le_of_eq hS)
 have hj:(A8 S)=(S.map fun x=>[BT x]).map sS:=by unfold A8;rw [List.map_map];rfl
 refine Ab ?_
 refine Ef [] (fun xs loc hp'=>(∀V∈xs,∀hp,BI V ((A1 S).map Au.av) hp)∧loc=FZ vs S t∧hp'=hp)
  (C3 hA (PE_List [.lst (A8 S),.tup (A8 S),sS (S.map BT)] (.cons (Aj rfl) (.cons (AZ T.x.t.g_tuple (.cons (Aj rfl) .nil) (E4 hz)) (.cons (PE.eqv (Kx (ls:=S.map fun x=>[BT x]) (PE.eqv MU (by kernel_rfl)) (PE.eqv (Aj rfl) (congrArg AV.lst hj)) (by rw [←List.length_flatten,E7,List.length_map];exact At [_] [(1,Z0,(Zn 12))] Z0 (Zn 100000) rfl (Nat.le_of_eq hS))) (congrArg sS (E7 S))) .nil))) (Nat.le_of_ble_eq_true rfl)) .lst)
  ⟨FZ vs S t,Aa rfl (Aa rfl (Aa rfl (Aa rfl (Aa rfl (Aa rfl (A3)))))),fun V hV hp=>?_,rfl,rfl⟩ ?_ ?_
 ·rw [D8]
  rcases List.mem_cons.mp hV with rfl|hV
  ·exact .lst hz
  rcases List.mem_cons.mp hV with rfl|hV
  ·exact .tup hz
  rw [List.mem_singleton.mp hV]
  exact GZ S▸.str (by show (S.map BT).toArray.size≤100000;simp;exact At [_] [(1,Z0,(Zn 12))] Z0 (Zn 100000) rfl (Nat.le_of_eq hS))
 ·(rintro V xs loc hp';intro zr;refine xa0_3 zr ?_;(try clear zr);intro hV;rintro rfl;rintro rfl)
  refine By (Ab (Nb [] (PT.eq (JB (IF T has hga hA hroom H (hV V (.head _)) (Kp hb) (Nat.le_trans hdl (by exact At [_] [(4,Z0,(Zn 12))] (.mulR Z0 4) (Zn 10000) rfl (Nat.le_of_eq hS))) (Aj rfl) (Aj rfl) (Aj rfl)) (Aj rfl) (FF (n:=2) (CG (JG vs S 0)) (by decide) hu)) rfl) (fun q=>by cases q) (fun _=>Am (Am ⟨FZ vs S t,Aa rfl (Aa rfl (Aa rfl (Aa rfl (Aa rfl (Aa rfl (A3)))))),fun U hU=>hV U (.tail _ hU),rfl,rfl⟩))))
 ·(rintro loc hp';intro zr;refine xa0_3 zr ?_;(try clear zr);intro zu;rintro rfl;rintro rfl)
  exact h
theorem N9 (T:Tp7 C) {fa:Addr} {ra:FdRest} (has:FnAt C fa (ra.fd askedP .none)) (hga:GL C "_law_asked" (.ref fa)) {r:FdRest} {L f:Addr} (hA:A.handled=none) (hu:A.units≤9000) (hroom:A.depth+5<recursionLimit) {vs S:List Int} {t dn dl:Addr} {Q:A6→Al→Prop} (hS:S.length=12) (hb:BW S) (H:FB t dn dl (A9 vs) hp)
  (h:∀hp',FB t dn dl (A9 vs) hp'→Cq C A Bj (BD r L f) (lawP.body.drop 21) ⟨FZ vs S t,hp'⟩ Q) :
  Cq C A Bj (BD r L f) (lawP.body.drop 20) ⟨FZ vs S t,hp⟩ Q:=by
 have hdl:=G4 vs S 0
 refine Ab (Bd (Be (AJ (DI hga ?_))))
 refine A2 (Ac rfl ?_)
 refine A2 (AJ (Bt T.g_iter (A2 (Ac rfl (Ax (A5 (CH fun r1 n1=>?_)))))))
 refine A2 (AJ (Bt T.g_iter (A2 (Ac rfl (Ax (A5 (CH fun r2 n2=>?_)))))))
 refine Ax (A5 (IJ (loc:=(FZ vs S t).map fun p=>(p.1,(p.2,false))) T has hA hroom H (D8 S) n1 n2 (Kp hb) (Nat.le_trans hdl (by exact At [_] [(4,Z0,(Zn 12))] (.mulR Z0 4) (Zn 10000) rfl (Nat.le_of_eq hS))) fun hp' H'=>?_))
 refine Ac rfl (EH (FF (n:=2) (CG (JG vs S 0)) (by decide) hu) ⟨false,rfl,?_⟩)
 rw [if_neg Bool.false_ne_true]
 exact Am (h hp' H')
theorem N8 (T:Tp7 C) {fa:Addr} {ra:FdRest} (has:FnAt C fa (ra.fd askedP .none)) (hga:GL C "_law_asked" (.ref fa)) {r:FdRest} {L f:Addr} (hA:A.handled=none) (hu:A.units≤9000) (hroom:A.depth+5<recursionLimit) {vs S:List Int} {t dn dl:Addr} {Q:A6→Al→Prop} (hS:S.length=12) (hb:BW S) (H:FB t dn dl (A9 vs) hp)
  (h:∀σ,Q (.ret (.bool true)) σ) :
  Cq C A Bj (BD r L f) (lawP.body.drop 21) ⟨FZ vs S t,hp⟩ Q:=by
 have hl:=CO (vs.map Ao) S S.length
 have hd1:=HE vs S
 have hd2:=G4 vs S 0
 have hd3:=G4 vs S S.length
 have hzS:(S.map AV.int).length≤100000:=by rw [List.length_map];exact At [_] [(1,Z0,(Zn 12))] Z0 (Zn 100000) rfl (Nat.le_of_eq hS)
 have hzz:(S.map AV.int).length+(A8 S).length≤100000:=by rw [List.length_map,CC];exact At [_] [(2,Z0,(Zn 12))] (Za Z0 Z0) (Zn 100000) rfl (Nat.le_of_eq hS)
 refine Ab (D4 [] (.lst (DN vs S++DL vs S S.length)) (Bi (Aj rfl) (Ky (EG hA (FE (vs.map Ao) S S.length) (fun p=>P9 (A9 vs) p.1) (fun p=>iN (0+p.2)) (Pp (A9 vs) S.length) (C3 hA (Aj rfl) .lst) (by exact At [_,_] [(4,Z1,(Zn 12)),(1,Z0,(.mulR Z1 4))] Z0 (Zn 100000) rfl (Nat.le_of_eq hS) hl) fun Lc p hp'=>?_)) (Fb (Nat.le_trans (Nat.add_le_add hd1 hd3) (by exact At [_] [(8,Z0,(Zn 12))] (Za (.mulR Z0 4) (.mulR Z0 4)) (Zn 100000) rfl (Nat.le_of_eq hS))))) ?_)
 ·exact Cn [P9 (A9 vs) p.1,iN (S.length+p.2)] (.cons (Aj rfl) (.cons (PE.eqv (Bi (AZ T.x.t.g_len (.cons (Aj rfl) .nil) (Mq hzS)) (Aj rfl) Hb) (congrArg AV.int (by rw [List.length_map];omega))) .nil)) (Nat.le_of_ble_eq_true rfl)
 have hw:(Ay S++A1 S).map Au.av=S.map AV.int++A8 S:=by rw [List.map_append,D9,D8]
 refine Ab (Cg (Pj (AJ (DI hga ?_))))
 refine A2 (Ac rfl ?_)
 refine A2 (Cz [] (.lst (S.map AV.int++A8 S)) (Bi (Aj rfl) (Aj rfl) (Fb hzz)) ?_)
 refine A2 (AJ (Bt T.g_iter (A2 (Cz [] (.lst (S.map AV.int++A8 S)) (Bi (Aj rfl) (Aj rfl) (Fb hzz)) (Ax (A5 (CH fun r1 n1=>?_)))))))
 refine Ax (A5 ?_)
 have H2:FB t dn dl (A9 vs) (upd hp r1 (G8 (S.map AV.int++A8 S))):=H.put n1
 have m1:upd hp r1 (G8 (S.map AV.int++A8 S)) r1=some (G8 (S.map AV.int++A8 S)):=Ae _ _ _
 show Bf C A Bj (BD r L f) (.ref fa) [] [.ref t,.lst (S.map AV.int++A8 S),.ref r1] [] ⟨FZ vs S t++([("both",.lst (DN vs S++DL vs S S.length))]:List (Str×AV)),upd hp r1 (G8 (S.map AV.int++A8 S))⟩ _
 generalize upd hp r1 (G8 (S.map AV.int++A8 S))=hq at H2 m1 ⊢
 have H3:=H2
 refine cps fun zP zk=>?_;(rcases H3 with ⟨e,ep1,ep2,ht,hf,hc,hwe,hF,_,_⟩)<;>(refine zk ?_;clear zk zP)
 subst ht
 have hD:=M6 (vs:=vs) hb
 have hDn:(DN vs S++DL vs S S.length).length≤10000:=by rw [List.length_append];exact Nat.le_trans (Nat.add_le_add hd1 hd3) (by exact At [_] [(8,Z0,(Zn 12))] (Za (.mulR Z0 4) (.mulR Z0 4)) (Zn 10000) rfl (Nat.le_of_eq hS))
 refine AS has ((Gu T has (o1:=.own) (o2:=.rd r1) (w:=Ay S++A1 S) hA hroom (hF.ok e (by simp)) hf hc (fun w h=>by rw [hwe] at h;have:=FC Ca w h;exact At [_] [(1,Z0,(Zn 4))] Z0 (Zn 1000) rfl this) (.of (by rw [hw];exact .lst (by rw [List.length_append];exact hzz))) (.rd (by rw [hw];exact LK m1)) (fun a z=>nomatch z) (fun l z=>nomatch z) (by rw [hwe,hD];exact hDn)).mono fun v hp' z=>?_)
 rw [z.1,hwe,hD]
 refine Cz [] (.lst (Bh (DN vs S++DL vs S S.length)::(DN vs S++DL vs S S.length))) (Gw hDn (Aj rfl) (Aj rfl) (Aj rfl)) ?_
 exact EH (N3 (n:=2) (CG fun x hx=>(List.mem_append.mp hx).elim (JF vs S x) (JG vs S S.length x)) (by decide) hu) (h _)
end
end
section
section
variable {C:Cf} {A:Around} {s s':Shared} {F F' G:FH} {env:Env} {E:Value→Shared→Prop} {hp hp':HP} {loc:PL} {σ:Al}
theorem law7_fn (T:Tp7 C) {r:FdRest} {f:Addr} (hf:FnAt C f (r.fd lawP .none)) {fr:Addr} {rr:FdRest} (hrow:FnAt C fr (rr.fd rowP .none)) (hgr:GL C "_law_row" (.ref fr)) {fl:Addr} {rl:FdRest} (hle:FnAt C fl (rl.fd lettersP .none)) (hgl:GL C "_law_letters" (.ref fl)) {fd:Addr} {rd:FdRest} (hdr:FnAt C fd (rd.fd dressedP .none)) (hgd:GL C "_law_dressed" (.ref fd)) {fa:Addr} {ra:FdRest} (has:FnAt C fa (ra.fd askedP .none)) (hga:GL C "_law_asked" (.ref fa)) (hA:A.handled=none) (hroom:A.depth+70+Builtin.pylongFrames<recursionLimit) (hu:A.units≤8000)
  {ns:List Int} (hlen:ns.length≤63):Fn C A (.ref f) [lstI ns] [] hp (fun v zu=>v=.bool true):=by
 refine EK hf (Ln C r _) (fun L=>?_) (by exact B6 [_,_,_] [(1,(Zs (Za (Za Z0 (Zn 70)) Z2)),Z1)] Z0 Z1 rfl hroom)
 have hA':(A.deeper (BD r L f)).handled=none:=hA
 have hd:(A.deeper (BD r L f)).depth=A.depth+1:=rfl
 have hu':(A.deeper (BD r L f)).units≤9000:=by show A.units+3≤9000;exact At [_] [(1,Z0,(Zn 8000))] (Za Z0 (Zn 3)) (Zn 9000) rfl hu
 have hpf:0≤Builtin.pylongFrames:=Nat.zero_le _
 have pl:Oq C (A.deeper (BD r L f)):=Oq.deeper T.x.seer T.x.lim T.x.tree (by exact B6 [_,_,_] [(1,(Zs (Za (Za Z0 (Zn 70)) Z1)),Z2)] (Za (Zs Z0) Z1) Z2 rfl hroom) (by rfl) (by rfl) (by rfl) (by rfl)
 have hv:=JK ns
 show Cq C _ _ (BD r L f) lawP.body ⟨[("script",lstI ns)],hp⟩ _
 refine ON T hrow hgr hA' (by rw [hd];exact B6 [_,_,_] [(1,(Zs (Za (Za Z0 (Zn 70)) Z1)),Z2)] (Za (Za (Zs Z0) (Zn 2)) Z1) Z2 rfl hroom) hlen ?_
 generalize Od ns=vs at hv ⊢
 have hb:=Fi vs
 have hS:(B1 vs).length=12:=by rw [CL,hv]
 refine OM T hle hgl hdr hgd hA' hu' pl (by rw [hd];exact B6 [_,_,_] [(1,(Zs (Za (Za Z0 (Zn 70)) Z2)),Z1)] (Za (Zs Z0) (Zn 41)) Z1 rfl hroom) hv fun t dn dl hp1 D=>?_
 refine OL T hrow hgr hle hgl hA' (by rw [hd];exact B6 [_,_,_] [(1,(Zs (Za (Za Z0 (Zn 70)) Z1)),Z2)] (Za (Za (Zs Z0) (Zn 2)) Z1) Z2 rfl hroom) (by rw [hd];exact B6 [_,_,_] [(1,(Zs (Za (Za Z0 (Zn 70)) Z2)),Z1)] (Za (Zs Z0) (Zn 41)) Z1 rfl hroom) hv D fun hp2 H=>?_
 refine OK T hA' hu' hv ?_
 refine OJ T hA' hu' hS H ?_
 refine OI T has hga hA' hu' (by rw [hd];exact B6 [_,_,_] [(1,(Zs (Za (Za Z0 (Zn 70)) Z2)),Z1)] (Za (Zs Z0) (Zn 5)) Z1 rfl hroom) hS hb H ?_
 refine OH T has hga hA' hu' (by rw [hd];exact B6 [_,_,_] [(1,(Zs (Za (Za Z0 (Zn 70)) Z2)),Z1)] (Za (Zs Z0) (Zn 5)) Z1 rfl hroom) hS H fun hp3 H3=>?_
 refine OG T hA' hu' hS H3 ?_
 refine OF T has hga hA' hu' (by rw [hd];exact B6 [_,_,_] [(1,(Zs (Za (Za Z0 (Zn 70)) Z2)),Z1)] (Za (Zs Z0) (Zn 5)) Z1 rfl hroom) hS hb H3 ?_
 refine N9 T has hga hA' hu' (by rw [hd];exact B6 [_,_,_] [(1,(Zs (Za (Za Z0 (Zn 70)) Z2)),Z1)] (Za (Zs Z0) (Zn 5)) Z1 rfl hroom) hS hb H3 fun hp4 H4=>?_
 exact N8 T has hga hA' hu' (by rw [hd];exact B6 [_,_,_] [(1,(Zs (Za (Za Z0 (Zn 70)) Z2)),Z1)] (Za (Zs Z0) (Zn 5)) Z1 rfl hroom) hS hb H4 fun _=>rfl
end
end
end AC
namespace AC
noncomputable def P6:Stmt→Bool
 |.ClassDef ..=>true
 |.FunctionDef ..=>true
 |_=>false
noncomputable def theQ:Program:={ GJ with main:={ GJ.main with body:=GJ.main.body.filter P6 } }
noncomputable def endOf' (w:World):Option (Heap×Nat):=(openEnds treeTable GJ w 2016).map fun s=>(s.heap,s.toks)
noncomputable def fragOf (n:Nat):Option (Heap×Nat)→Frag
 |some (h,_)=>(List.range n).filterMap fun a=>(h.get? a).map fun o=>(a,o)
 |none=>[]
theorem Dr {h:Heap} {a:Addr} {o:Obj}:∀{l:List Nat},(l.filterMap fun a=>(h.get? a).map fun o=>(a,o)).lookup a=some o→h.get? a=some o
 |[],e=>by cases e
 |b::l,e=>by
  rw [List.filterMap_cons] at e
  cases q:h.get? b with
  |none=>rw [q] at e;exact Dr e
  |some ob=>
   rw [q] at e
   simp only [Option.map_some,List.lookup_cons] at e
   split at e
   ·rename_i h1;cases e;rw [beq_iff_eq.mp h1];exact q
   ·exact Dr e
theorem frag_in {h:Heap} {t n:Nat} {r:Option (Heap×Nat)} (e:some (h,t)=r):(fragOf n r).In h:=by
 subst e
 exact fun a o e=>Dr e
theorem some_of {C:Cf} {K:Frag} (X:K.In C.h0) {a:Addr} (e:(K.lookup a).isSome=true):(C.h0.get? a).isSome=true:=by
 refine xa1_1 (Option.isSome_iff_exists.mp e) ?_;intro o ho
 rw [X _ _ ho];rfl
end AC
theorem PySem.Challenge.cw_nc0002_07_holds : PySem.Challenge.rw_nc0002_07.Holds := by
 w_on
 refine holds_law (by decide +kernel) fun said=>?_
 refine holds_openX (q:=AC.theQ) (loose:=["State", "KeywordTree"]) (Xt:=fun s=>xlAt AC.theQ [] s&&recOk [] s) (XP:=XL AC.theQ []) (Yf:=fun s=>some (s.heap,s.toks)) (Ya:=AC.endOf') (N:=2016) ?hl (fun s e=>xl_of s (Bool.and_eq_true_iff.mp e).1) XL.keeps (by rfl) (by rfl) (by rfl) (fun s e=>recFacts_of (Bool.and_eq_true_iff.mp e).2) (by rfl) (by first|assumption|decide +kernel) (by decide +kernel) ⟨rfl,rfl,rfl,rfl,rfl,by decide +kernel⟩ ?hw ?hc
 case hl=>intro w;kernel_rfl
 case hw=>w_witness2
 intro w s₀ s₁ mg mb G y fa o pm cd doc dV kV ho hd hcd hD hmg hg args vals as L hpre hlay hrd hwl hlo
 have KX:(AC.fragOf 170 (AC.endOf' w)).In s₁.heap:=Frag.In.keeps (AC.frag_in y) L.keeps
 refine Ground.open G ?_;intro T B D TE TW
 have seer:s₁.heap.NoSeer:=by first|exact PyProof.Rows.Glob.seer (by assumption)|exact PyProof.Rows.Top.seer (by assumption) (by decide +kernel)
 clear T B D TE TW
 obtain rfl:dV=.none:=by rcases hD.pos with ⟨zu,e⟩|⟨e,zu⟩;exact e;exact absurd rfl e
 clear hD
 wrow_args hpre hlay hrd hwl hlo
 all_lens
 have lim:s₁.heap.NoLimit:=AC.lim_of KX (by kernel_rfl)
 have TP:AC.Tp ⟨PySem.Challenge.pw_nc0002_07,w,s₁.heap,s₁.os⟩:=by
  constructor
  ·show (s₁.heap.get? sysModules).isSome=true
   exact AC.some_of (C:=⟨PySem.Challenge.pw_nc0002_07,w,s₁.heap,s₁.os⟩) KX (by kernel_rfl)
  ·exact AC.gl_of KX (by kernel_rfl)
  ·exact AC.gl_of KX (by kernel_rfl)
  ·exact AC.gl_of KX (by kernel_rfl)
  ·exact AC.gl_of KX (by kernel_rfl)
  ·exact AC.gl_of KX (by kernel_rfl)
  ·exact AC.gl_of KX (by kernel_rfl)
  ·exact AC.gl_of KX (by kernel_rfl)
  ·exact AC.gl_of KX (by kernel_rfl)
  ·exact AC.gl_of KX (by kernel_rfl)
  ·exact ⟨_,35,KX,by kernel_rfl,by kernel_rfl,by kernel_rfl,by kernel_rfl,by kernel_rfl,by kernel_rfl,by kernel_rfl,by kernel_rfl,by decide⟩
  ·exact ⟨_,36,KX,by kernel_rfl,by kernel_rfl,by kernel_rfl,by kernel_rfl,by kernel_rfl,by kernel_rfl,by kernel_rfl,by kernel_rfl,by decide⟩
  ·exact ⟨_,37,KX,by kernel_rfl,by kernel_rfl,by kernel_rfl,by kernel_rfl,by kernel_rfl,by kernel_rfl,by kernel_rfl,by kernel_rfl,by decide⟩
  ·exact ⟨_,38,KX,by kernel_rfl,by kernel_rfl,by kernel_rfl,by kernel_rfl,by kernel_rfl,by kernel_rfl,by kernel_rfl,by kernel_rfl,by decide⟩
  ·exact ⟨_,39,KX,by kernel_rfl,by kernel_rfl,by kernel_rfl,by kernel_rfl,by kernel_rfl,by kernel_rfl,by kernel_rfl,by kernel_rfl,by decide⟩
  ·exact ⟨_,40,KX,by kernel_rfl,by kernel_rfl,by kernel_rfl,by kernel_rfl,by kernel_rfl,by kernel_rfl,by kernel_rfl,by kernel_rfl,by decide⟩
  ·exact ⟨_,41,KX,by kernel_rfl,by kernel_rfl,by kernel_rfl,by kernel_rfl,by kernel_rfl,by kernel_rfl,by kernel_rfl,by kernel_rfl,by decide⟩
  ·exact ⟨_,42,KX,by kernel_rfl,by kernel_rfl,by kernel_rfl,by kernel_rfl,by kernel_rfl,by kernel_rfl,by kernel_rfl,by kernel_rfl,by decide⟩
  ·exact ⟨_,KX,by kernel_rfl,by kernel_rfl,by kernel_rfl⟩
  ·exact ⟨_,KX,by kernel_rfl,by kernel_rfl,by kernel_rfl⟩
  ·exact AC.ns_of KX (by kernel_rfl) (by kernel_rfl) (by kernel_rfl) (by kernel_rfl) (by kernel_rfl) (by kernel_rfl) (by kernel_rfl)
  ·exact AC.ns_of KX (by kernel_rfl) (by kernel_rfl) (by kernel_rfl) (by kernel_rfl) (by kernel_rfl) (by kernel_rfl) (by kernel_rfl)
  ·exact AC.ns_of KX (by kernel_rfl) (by kernel_rfl) (by kernel_rfl) (by kernel_rfl) (by kernel_rfl) (by kernel_rfl) (by kernel_rfl)
  ·exact AC.ns_of KX (by kernel_rfl) (by kernel_rfl) (by kernel_rfl) (by kernel_rfl) (by kernel_rfl) (by kernel_rfl) (by kernel_rfl)
  ·exact AC.ns_of KX (by kernel_rfl) (by kernel_rfl) (by kernel_rfl) (by kernel_rfl) (by kernel_rfl) (by kernel_rfl) (by kernel_rfl)
  ·exact AC.ns_of KX (by kernel_rfl) (by kernel_rfl) (by kernel_rfl) (by kernel_rfl) (by kernel_rfl) (by kernel_rfl) (by kernel_rfl)
  ·exact KX 23 _ (by kernel_rfl)
  ·exact KX 52 _ (by kernel_rfl)
  ·exact AC.fnAt_of KX lim (by kernel_rfl) (by kernel_rfl)
  ·exact AC.fnAt_of KX lim (by kernel_rfl) (by kernel_rfl)
  ·exact AC.fnAt_of KX lim (by kernel_rfl) (by kernel_rfl)
  ·exact AC.fnAt_of KX lim (by kernel_rfl) (by kernel_rfl)
  ·exact AC.fnAt_of KX lim (by kernel_rfl) (by kernel_rfl)
  ·exact AC.fnAt_of KX lim (by kernel_rfl) (by kernel_rfl)
  ·exact AC.fnAt_of KX lim (by kernel_rfl) (by kernel_rfl)
  ·exact AC.fnAt_of KX lim (by kernel_rfl) (by kernel_rfl)
  ·exact AC.fnAt_of KX lim (by kernel_rfl) (by kernel_rfl)
  ·exact AC.fnAt_of KX lim (by kernel_rfl) (by kernel_rfl)
  ·exact AC.fnAt_of KX lim (by kernel_rfl) (by kernel_rfl)
  ·exact ⟨_,KX,by kernel_rfl,by kernel_rfl,by kernel_rfl,by kernel_rfl⟩
  ·exact ⟨_,KX,by kernel_rfl,by kernel_rfl,by kernel_rfl,by kernel_rfl⟩
  ·exact ⟨_,KX,by kernel_rfl,by kernel_rfl,by kernel_rfl,by kernel_rfl⟩
  ·exact ⟨_,KX,by kernel_rfl,by kernel_rfl,by kernel_rfl,by kernel_rfl⟩
  ·exact ⟨_,KX,by kernel_rfl,by kernel_rfl,by kernel_rfl,by kernel_rfl⟩
  ·exact ⟨_,KX,by kernel_rfl,by kernel_rfl,by kernel_rfl,by kernel_rfl⟩
  ·exact ⟨_,KX,by kernel_rfl,by kernel_rfl,by kernel_rfl,by kernel_rfl⟩
  ·exact ⟨_,KX,by kernel_rfl,by kernel_rfl,by kernel_rfl,by kernel_rfl⟩
  ·exact ⟨_,KX,by kernel_rfl,by kernel_rfl,by kernel_rfl,by kernel_rfl⟩
 have TX:AC.TpX ⟨PySem.Challenge.pw_nc0002_07,w,s₁.heap,s₁.os⟩:=by
  refine ⟨TP,lim,?_,by rfl,?_,?_,?_,?_,?_⟩
  ·exact seer
  ·exact AC.gl_of KX (by kernel_rfl)
  ·exact AC.gl_of KX (by kernel_rfl)
  ·exact AC.gl_of KX (by kernel_rfl)
  ·exact AC.gl_of KX (by kernel_rfl)
  ·exact AC.gl_of KX (by kernel_rfl)
 have TS:AC.Tp7 ⟨PySem.Challenge.pw_nc0002_07,w,s₁.heap,s₁.os⟩:=⟨TX,AC.gl_of KX (by kernel_rfl),AC.gl_of KX (by kernel_rfl),AC.gl_of KX (by kernel_rfl),AC.gl_of KX (by kernel_rfl)⟩
 obtain ⟨r1,f1⟩:∃r:AC.FdRest,AC.FnAt ⟨PySem.Challenge.pw_nc0002_07,w,s₁.heap,s₁.os⟩ 134 (r.fd AC.rowP .none):=AC.fnAt_of KX lim (by kernel_rfl) (by kernel_rfl)
 have g1:AC.GL ⟨PySem.Challenge.pw_nc0002_07,w,s₁.heap,s₁.os⟩ "_law_row" (.ref 134):=AC.gl_of KX (by kernel_rfl)
 obtain ⟨r3,f3⟩:∃r:AC.FdRest,AC.FnAt ⟨PySem.Challenge.pw_nc0002_07,w,s₁.heap,s₁.os⟩ 139 (r.fd AC.lettersP .none):=AC.fnAt_of KX lim (by kernel_rfl) (by kernel_rfl)
 have g3:AC.GL ⟨PySem.Challenge.pw_nc0002_07,w,s₁.heap,s₁.os⟩ "_law_letters" (.ref 139):=AC.gl_of KX (by kernel_rfl)
 obtain ⟨r4,f4⟩:∃r:AC.FdRest,AC.FnAt ⟨PySem.Challenge.pw_nc0002_07,w,s₁.heap,s₁.os⟩ 146 (r.fd AC.dressedP .none):=AC.fnAt_of KX lim (by kernel_rfl) (by kernel_rfl)
 have g4:AC.GL ⟨PySem.Challenge.pw_nc0002_07,w,s₁.heap,s₁.os⟩ "_law_dressed" (.ref 146):=AC.gl_of KX (by kernel_rfl)
 obtain ⟨r5,f5⟩:∃r:AC.FdRest,AC.FnAt ⟨PySem.Challenge.pw_nc0002_07,w,s₁.heap,s₁.os⟩ 153 (r.fd AC.askedP .none):=AC.fnAt_of KX lim (by kernel_rfl) (by kernel_rfl)
 have g5:AC.GL ⟨PySem.Challenge.pw_nc0002_07,w,s₁.heap,s₁.os⟩ "_law_asked" (.ref 153):=AC.gl_of KX (by kernel_rfl)
 obtain ⟨r2,f2⟩:∃r:AC.FdRest,AC.FnAt ⟨PySem.Challenge.pw_nc0002_07,w,s₁.heap,s₁.os⟩ fa (r.fd AC.lawP .none):=⟨⟨_,_,kV,doc,pm,_,cd,_⟩,⟨o,ho,hd⟩,hcd,lim⟩
 refine AC.finish (C:=⟨PySem.Challenge.pw_nc0002_07,w,s₁.heap,s₁.os⟩) (fun ns hn=>AC.law7_fn TS f2 f1 g1 f3 g3 f4 g4 f5 g5 rfl (by decide) (by decide) hn) (by assumption) (by assumption) (by assumption) rfl rfl hg ?_
 intro s' k1 k2 k3
 exact ⟨.inl ⟨.bool true,.bool true,[],rfl,fun cls=>rfl,.bool true,(by first|with_unfolding_all rfl|kernel_rfl),unshared_nil⟩,k1,k2,k3⟩
