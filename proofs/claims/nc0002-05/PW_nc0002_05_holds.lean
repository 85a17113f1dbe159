import PyProof.Rows.All
import Wide.All
import OpenK.AllK
import Wide.FinOn
import PySem.Challenge.RW_nc0002_05
open PySem PySem.W PySem.W.X PyProof.Rows
set_option compiler.extract_closed false
set_option genSizeOf false
set_option Elab.async false
set_option maxRecDepth 100000
set_option maxHeartbeats 0
set_option linter.unusedVariables false
set_option linter.unusedSimpArgs false
set_option linter.all false
set_option bootstrap.genMatcherCode false
namespace AC
abbrev ZX:=Nat.Internal.Linear.Expr
abbrev Z0:ZX:=.var 0
abbrev Z1:ZX:=.var 1
abbrev Z2:ZX:=.var 2
abbrev Z3:ZX:=.var 3
abbrev Z4:ZX:=.var 4
abbrev Z5:ZX:=.var 5
abbrev Z6:ZX:=.var 6
abbrev Z7:ZX:=.var 7
abbrev Zn (n:Nat):ZX:=.num n
abbrev Za (x y:ZX):ZX:=.add x y
abbrev Zs (x:ZX):ZX:=.add x (.num 1)
noncomputable def N5:List Nat→Nat→Nat
 |[],_=>0
 |x::_,0=>x
 |_::l,n+1=>N5 l n
noncomputable def zD (c:List Nat):ZX→Nat
 |.num n=>n
 |.var n=>N5 c n
 |.add x y=>zD c x+zD c y
 |.mulL n x=>n*zD c x
 |.mulR x n=>zD c x*n
noncomputable def KZ:Nat→List Nat
 |0=>[1]
 |n+1=>0::KZ n
noncomputable def I8:List Nat→List Nat→List Nat
 |[],l=>l
 |x::l,[]=>x::l
 |x::l,y::m=>(x+y)::I8 l m
noncomputable def HE (k:Nat):List Nat→List Nat
 |[]=>[]
 |x::l=>k*x::HE k l
noncomputable def zW:ZX→List Nat
 |.num n=>[n]
 |.var n=>0::KZ n
 |.add x y=>I8 (zW x) (zW y)
 |.mulL n x=>HE n (zW x)
 |.mulR x n=>HE n (zW x)
noncomputable def DG:List Nat→List Nat→Nat
 |[],_=>0
 |_::_,[]=>0
 |x::l,n::c=>x*n+DG l c
theorem Ei:∀(l m c:List Nat),DG (I8 l m) c=DG l c+DG m c
 |[],m,c=>(Nat.zero_add _).symm
 |x::l,[],c=>rfl
 |x::l,y::m,[]=>rfl
 |x::l,y::m,n::c=>(congr (congrArg _ (Nat.add_mul x y n)) (Ei l m c)).trans (Nat.add_add_add_comm ..)
theorem Df (k:Nat):∀(l c:List Nat),DG (HE k l) c=k*DG l c
 |[],c=>rfl
 |x::l,[]=>rfl
 |x::l,n::c=>(congr (congrArg _ (Nat.mul_assoc k x n)) (Df k l c)).trans (Nat.mul_add ..).symm
theorem GB:∀(n:Nat) (c:List Nat),DG (KZ n) c=N5 c n
 |0,[]=>rfl
 |n+1,[]=>rfl
 |0,x::c=>Nat.one_mul x
 |n+1,x::c=>(congrArg (·+_) (Nat.zero_mul x)).trans ((Nat.zero_add _).trans (GB n c))
theorem EF (c:List Nat):∀x:ZX,DG (zW x) (1::c)=zD c x
 |.num n=>Nat.mul_one n
 |.var n=>(Nat.zero_add _).trans (GB n c)
 |.add x y=>(Ei _ _ _).trans (congr (congrArg _ (EF c x)) (EF c y))
 |.mulL n x=>(Df _ _ _).trans (congrArg _ (EF c x))
 |.mulR x n=>(Df _ _ _).trans ((congrArg _ (EF c x)).trans (Nat.mul_comm ..))
abbrev ZC:=Nat×ZX×ZX
noncomputable def Hd (c:List Nat) (g:Prop):List ZC→Prop
 |[]=>g
 |x::l=>zD c x.2.1≤zD c x.2.2→Hd c g l
noncomputable def Ox:List ZC→List Nat
 |[]=>[]
 |x::l=>I8 (HE x.1 (zW x.2.1)) (Ox l)
noncomputable def Ow:List ZC→List Nat
 |[]=>[]
 |x::l=>I8 (HE x.1 (zW x.2.2)) (Ow l)
noncomputable def N6:List Nat→List Nat→Bool
 |[],_=>true
 |x::l,[]=>x.ble 0&&N6 l []
 |x::l,y::m=>x.ble y&&N6 l m
noncomputable def M5:List Nat→List Nat→Bool
 |[],_=>false
 |x::l,[]=>Nat.ble 1 x
 |x::l,y::m=>Nat.ble (y+1) x&&N6 m l
theorem Hb:∀{l m:List Nat} (c:List Nat),N6 l m=true→DG l c≤DG m c
 |[],m,c,_=>Nat.zero_le _
 |x::l,m,[],_=>Nat.zero_le _
 |x::l,[],n::c,h=>by
  have h:=Bool.and_eq_true_iff.mp (show (x.ble 0&&N6 l [])=true from h)
  cases Nat.le_zero.mp (Nat.le_of_ble_eq_true h.1)
  exact Nat.le_trans (Nat.le_of_eq ((congrArg (·+_) (Nat.zero_mul n)).trans (Nat.zero_add _))) (Hb c h.2)
 |x::l,y::m,n::c,h=>
  have h:=Bool.and_eq_true_iff.mp (show (x.ble y&&N6 l m)=true from h)
  Nat.add_le_add (Nat.mul_le_mul_right n (Nat.le_of_ble_eq_true h.1)) (Hb c h.2)
theorem La {c:List Nat}:∀{l m:List Nat},M5 l m=true→¬DG l (1::c)≤DG m (1::c)
 |[],_,h=>nomatch h
 |x::l,[],h=>Nat.not_le_of_lt (Nat.lt_of_lt_of_le (Nat.le_of_ble_eq_true h) (Nat.le_trans (Nat.le_of_eq (Nat.mul_one x).symm) (Nat.le_add_right ..)))
 |x::l,y::m,h=>
  have h:=Bool.and_eq_true_iff.mp (show (Nat.ble (y+1) x&&N6 m l)=true from h)
  Nat.not_le_of_lt (Nat.add_lt_add_of_lt_of_le (Nat.mul_lt_mul_of_pos_right (Nat.le_of_ble_eq_true h.1) Nat.one_pos) (Hb c h.2))
theorem Ju {c:List Nat} {g:Prop}:∀{l:List ZC},(DG (Ox l) (1::c)≤DG (Ow l) (1::c)→g)→Hd c g l
 |[],h=>h (Nat.le_refl 0)
 |x::l,h=>fun d=>Ju fun e=>h (by
   show DG (I8 (HE x.1 (zW x.2.1)) (Ox l)) _≤DG (I8 (HE x.1 (zW x.2.2)) (Ow l)) _
   rw [Ei,Ei,Df,Df,EF,EF]
   exact Nat.add_le_add (Nat.mul_le_mul_left _ d) e)
theorem GA (c:List Nat) (l:List ZC) (h:M5 (Ox l) (Ow l)=true):Hd c False l:=Ju (La h)
theorem FD {c:List Nat} {f g:Prop} (k:f→g):∀{l:List ZC},Hd c f l→Hd c g l
 |[],h=>k h
 |x::l,h=>fun d=>FD k (h d)
theorem Hc {c:List Nat} {p f:Prop}:∀{l:List ZC},(p→Hd c f l)→Hd c (p→f) l
 |[],h=>h
 |x::l,h=>fun d=>Hc fun a=>h a d
theorem A8 (c:List Nat) (l:List ZC) (x y:ZX) (h:M5 (Ox ((1,.add y (.num 1),x)::l)) (Ow ((1,.add y (.num 1),x)::l))=true):Hd c (zD c x≤zD c y) l:=
 FD Nat.le_of_not_lt (Hc (GA c ((1,.add y (.num 1),x)::l) h))
theorem C0 (c:List Nat) (l:List ZC) (x y:ZX) (h:M5 (Ox ((1,y,x)::l)) (Ow ((1,y,x)::l))=true):Hd c (zD c x<zD c y) l:=
 FD Nat.lt_of_not_le (Hc (GA c ((1,y,x)::l) h))
theorem Eh (a b:Nat):a≤a - b+b:=Nat.sub_le_iff_le_add.mp (Nat.le_refl _)
theorem aux0 (h:True:=by rfl):True:=h
theorem aux1 (h:True:=by decide):True:=h
theorem aux2 (h:True:=by with_unfolding_all rfl):True:=h
theorem aux3 (h:True:=by intro u;simp):True:=h
theorem aux4 (h:True:=by intro zu;rfl):True:=h
theorem aux5 (h:True:=by intro h;first|rfl|cases h):True:=h
theorem aux6 (h:True:=by exact fun zu zu=>KeepOk_plain (by intro a;simp)):True:=h
theorem aux7 (h:True:=by exact cscope_of (by rfl)):True:=h
theorem aux8 (h:True:=by exact OwnOk.nil):True:=h
theorem aux9 (h:True:=by exact ⟨rfl,rfl⟩):True:=h
theorem cps {G:Prop} (h:∀P:Prop,(G→P)→P):G:=h G id
universe u1 u2 u3 u4 u5 u6 u7 u8 u9
theorem xa0_2 {p1 p2:Prop} {P:Prop} (h:p1∧p2) (k:p1→p2→P):P:=k h.1 h.2
theorem xa0_3 {p1 p2 p3:Prop} {P:Prop} (h:p1∧p2∧p3) (k:p1→p2→p3→P):P:=k h.1 h.2.1 h.2.2
theorem xa0_4 {p1 p2 p3 p4:Prop} {P:Prop} (h:p1∧p2∧p3∧p4) (k:p1→p2→p3→p4→P):P:=k h.1 h.2.1 h.2.2.1 h.2.2.2
theorem xa0_5 {p1 p2 p3 p4 p5:Prop} {P:Prop} (h:p1∧p2∧p3∧p4∧p5) (k:p1→p2→p3→p4→p5→P):P:=k h.1 h.2.1 h.2.2.1 h.2.2.2.1 h.2.2.2.2
theorem xa0_6 {p1 p2 p3 p4 p5 p6:Prop} {P:Prop} (h:p1∧p2∧p3∧p4∧p5∧p6) (k:p1→p2→p3→p4→p5→p6→P):P:=k h.1 h.2.1 h.2.2.1 h.2.2.2.1 h.2.2.2.2.1 h.2.2.2.2.2
theorem xa0_7 {p1 p2 p3 p4 p5 p6 p7:Prop} {P:Prop} (h:p1∧p2∧p3∧p4∧p5∧p6∧p7) (k:p1→p2→p3→p4→p5→p6→p7→P):P:=k h.1 h.2.1 h.2.2.1 h.2.2.2.1 h.2.2.2.2.1 h.2.2.2.2.2.1 h.2.2.2.2.2.2
theorem xa0_8 {p1 p2 p3 p4 p5 p6 p7 p8:Prop} {P:Prop} (h:p1∧p2∧p3∧p4∧p5∧p6∧p7∧p8) (k:p1→p2→p3→p4→p5→p6→p7→p8→P):P:=k h.1 h.2.1 h.2.2.1 h.2.2.2.1 h.2.2.2.2.1 h.2.2.2.2.2.1 h.2.2.2.2.2.2.1 h.2.2.2.2.2.2.2
theorem xa0_9 {p1 p2 p3 p4 p5 p6 p7 p8 p9:Prop} {P:Prop} (h:p1∧p2∧p3∧p4∧p5∧p6∧p7∧p8∧p9) (k:p1→p2→p3→p4→p5→p6→p7→p8→p9→P):P:=k h.1 h.2.1 h.2.2.1 h.2.2.2.1 h.2.2.2.2.1 h.2.2.2.2.2.1 h.2.2.2.2.2.2.1 h.2.2.2.2.2.2.2.1 h.2.2.2.2.2.2.2.2
theorem xa0_10 {p1 p2 p3 p4 p5 p6 p7 p8 p9 p10:Prop} {P:Prop} (h:p1∧p2∧p3∧p4∧p5∧p6∧p7∧p8∧p9∧p10) (k:p1→p2→p3→p4→p5→p6→p7→p8→p9→p10→P):P:=k h.1 h.2.1 h.2.2.1 h.2.2.2.1 h.2.2.2.2.1 h.2.2.2.2.2.1 h.2.2.2.2.2.2.1 h.2.2.2.2.2.2.2.1 h.2.2.2.2.2.2.2.2.1 h.2.2.2.2.2.2.2.2.2
theorem xa0_11 {p1 p2 p3 p4 p5 p6 p7 p8 p9 p10 p11:Prop} {P:Prop} (h:p1∧p2∧p3∧p4∧p5∧p6∧p7∧p8∧p9∧p10∧p11) (k:p1→p2→p3→p4→p5→p6→p7→p8→p9→p10→p11→P):P:=k h.1 h.2.1 h.2.2.1 h.2.2.2.1 h.2.2.2.2.1 h.2.2.2.2.2.1 h.2.2.2.2.2.2.1 h.2.2.2.2.2.2.2.1 h.2.2.2.2.2.2.2.2.1 h.2.2.2.2.2.2.2.2.2.1 h.2.2.2.2.2.2.2.2.2.2
theorem xa0_12 {p1 p2 p3 p4 p5 p6 p7 p8 p9 p10 p11 p12:Prop} {P:Prop} (h:p1∧p2∧p3∧p4∧p5∧p6∧p7∧p8∧p9∧p10∧p11∧p12) (k:p1→p2→p3→p4→p5→p6→p7→p8→p9→p10→p11→p12→P):P:=k h.1 h.2.1 h.2.2.1 h.2.2.2.1 h.2.2.2.2.1 h.2.2.2.2.2.1 h.2.2.2.2.2.2.1 h.2.2.2.2.2.2.2.1 h.2.2.2.2.2.2.2.2.1 h.2.2.2.2.2.2.2.2.2.1 h.2.2.2.2.2.2.2.2.2.2.1 h.2.2.2.2.2.2.2.2.2.2.2
theorem xa1_1 {α1:Sort u1} {p1:α1→Prop} {P:Prop} (h:∃a1,p1 a1) (k:∀a1,p1 a1→P):P:=h.elim fun a1 h=>k a1 h
theorem xa1_2 {α1:Sort u1} {p1 p2:α1→Prop} {P:Prop} (h:∃a1,p1 a1∧p2 a1) (k:∀a1,p1 a1→p2 a1→P):P:=h.elim fun a1 h=>k a1 h.1 h.2
theorem xa1_3 {α1:Sort u1} {p1 p2 p3:α1→Prop} {P:Prop} (h:∃a1,p1 a1∧p2 a1∧p3 a1) (k:∀a1,p1 a1→p2 a1→p3 a1→P):P:=h.elim fun a1 h=>k a1 h.1 h.2.1 h.2.2
theorem xa1_4 {α1:Sort u1} {p1 p2 p3 p4:α1→Prop} {P:Prop} (h:∃a1,p1 a1∧p2 a1∧p3 a1∧p4 a1) (k:∀a1,p1 a1→p2 a1→p3 a1→p4 a1→P):P:=h.elim fun a1 h=>k a1 h.1 h.2.1 h.2.2.1 h.2.2.2
theorem xa1_5 {α1:Sort u1} {p1 p2 p3 p4 p5:α1→Prop} {P:Prop} (h:∃a1,p1 a1∧p2 a1∧p3 a1∧p4 a1∧p5 a1) (k:∀a1,p1 a1→p2 a1→p3 a1→p4 a1→p5 a1→P):P:=h.elim fun a1 h=>k a1 h.1 h.2.1 h.2.2.1 h.2.2.2.1 h.2.2.2.2
theorem xa1_6 {α1:Sort u1} {p1 p2 p3 p4 p5 p6:α1→Prop} {P:Prop} (h:∃a1,p1 a1∧p2 a1∧p3 a1∧p4 a1∧p5 a1∧p6 a1) (k:∀a1,p1 a1→p2 a1→p3 a1→p4 a1→p5 a1→p6 a1→P):P:=h.elim fun a1 h=>k a1 h.1 h.2.1 h.2.2.1 h.2.2.2.1 h.2.2.2.2.1 h.2.2.2.2.2
theorem xa1_7 {α1:Sort u1} {p1 p2 p3 p4 p5 p6 p7:α1→Prop} {P:Prop} (h:∃a1,p1 a1∧p2 a1∧p3 a1∧p4 a1∧p5 a1∧p6 a1∧p7 a1) (k:∀a1,p1 a1→p2 a1→p3 a1→p4 a1→p5 a1→p6 a1→p7 a1→P):P:=h.elim fun a1 h=>k a1 h.1 h.2.1 h.2.2.1 h.2.2.2.1 h.2.2.2.2.1 h.2.2.2.2.2.1 h.2.2.2.2.2.2
theorem xa1_8 {α1:Sort u1} {p1 p2 p3 p4 p5 p6 p7 p8:α1→Prop} {P:Prop} (h:∃a1,p1 a1∧p2 a1∧p3 a1∧p4 a1∧p5 a1∧p6 a1∧p7 a1∧p8 a1) (k:∀a1,p1 a1→p2 a1→p3 a1→p4 a1→p5 a1→p6 a1→p7 a1→p8 a1→P):P:=h.elim fun a1 h=>k a1 h.1 h.2.1 h.2.2.1 h.2.2.2.1 h.2.2.2.2.1 h.2.2.2.2.2.1 h.2.2.2.2.2.2.1 h.2.2.2.2.2.2.2
theorem xa1_9 {α1:Sort u1} {p1 p2 p3 p4 p5 p6 p7 p8 p9:α1→Prop} {P:Prop} (h:∃a1,p1 a1∧p2 a1∧p3 a1∧p4 a1∧p5 a1∧p6 a1∧p7 a1∧p8 a1∧p9 a1) (k:∀a1,p1 a1→p2 a1→p3 a1→p4 a1→p5 a1→p6 a1→p7 a1→p8 a1→p9 a1→P):P:=h.elim fun a1 h=>k a1 h.1 h.2.1 h.2.2.1 h.2.2.2.1 h.2.2.2.2.1 h.2.2.2.2.2.1 h.2.2.2.2.2.2.1 h.2.2.2.2.2.2.2.1 h.2.2.2.2.2.2.2.2
theorem xa1_10 {α1:Sort u1} {p1 p2 p3 p4 p5 p6 p7 p8 p9 p10:α1→Prop} {P:Prop} (h:∃a1,p1 a1∧p2 a1∧p3 a1∧p4 a1∧p5 a1∧p6 a1∧p7 a1∧p8 a1∧p9 a1∧p10 a1) (k:∀a1,p1 a1→p2 a1→p3 a1→p4 a1→p5 a1→p6 a1→p7 a1→p8 a1→p9 a1→p10 a1→P):P:=h.elim fun a1 h=>k a1 h.1 h.2.1 h.2.2.1 h.2.2.2.1 h.2.2.2.2.1 h.2.2.2.2.2.1 h.2.2.2.2.2.2.1 h.2.2.2.2.2.2.2.1 h.2.2.2.2.2.2.2.2.1 h.2.2.2.2.2.2.2.2.2
theorem xa1_11 {α1:Sort u1} {p1 p2 p3 p4 p5 p6 p7 p8 p9 p10 p11:α1→Prop} {P:Prop} (h:∃a1,p1 a1∧p2 a1∧p3 a1∧p4 a1∧p5 a1∧p6 a1∧p7 a1∧p8 a1∧p9 a1∧p10 a1∧p11 a1) (k:∀a1,p1 a1→p2 a1→p3 a1→p4 a1→p5 a1→p6 a1→p7 a1→p8 a1→p9 a1→p10 a1→p11 a1→P):P:=h.elim fun a1 h=>k a1 h.1 h.2.1 h.2.2.1 h.2.2.2.1 h.2.2.2.2.1 h.2.2.2.2.2.1 h.2.2.2.2.2.2.1 h.2.2.2.2.2.2.2.1 h.2.2.2.2.2.2.2.2.1 h.2.2.2.2.2.2.2.2.2.1 h.2.2.2.2.2.2.2.2.2.2
theorem xa1_12 {α1:Sort u1} {p1 p2 p3 p4 p5 p6 p7 p8 p9 p10 p11 p12:α1→Prop} {P:Prop} (h:∃a1,p1 a1∧p2 a1∧p3 a1∧p4 a1∧p5 a1∧p6 a1∧p7 a1∧p8 a1∧p9 a1∧p10 a1∧p11 a1∧p12 a1) (k:∀a1,p1 a1→p2 a1→p3 a1→p4 a1→p5 a1→p6 a1→p7 a1→p8 a1→p9 a1→p10 a1→p11 a1→p12 a1→P):P:=h.elim fun a1 h=>k a1 h.1 h.2.1 h.2.2.1 h.2.2.2.1 h.2.2.2.2.1 h.2.2.2.2.2.1 h.2.2.2.2.2.2.1 h.2.2.2.2.2.2.2.1 h.2.2.2.2.2.2.2.2.1 h.2.2.2.2.2.2.2.2.2.1 h.2.2.2.2.2.2.2.2.2.2.1 h.2.2.2.2.2.2.2.2.2.2.2
theorem xa2_1 {α1:Sort u1} {α2:Sort u2} {p1:α1→α2→Prop} {P:Prop} (h:∃a1 a2,p1 a1 a2) (k:∀a1 a2,p1 a1 a2→P):P:=h.elim fun a1 h=>h.elim fun a2 h=>k a1 a2 h
theorem xa2_2 {α1:Sort u1} {α2:Sort u2} {p1 p2:α1→α2→Prop} {P:Prop} (h:∃a1 a2,p1 a1 a2∧p2 a1 a2) (k:∀a1 a2,p1 a1 a2→p2 a1 a2→P):P:=h.elim fun a1 h=>h.elim fun a2 h=>k a1 a2 h.1 h.2
theorem xa2_3 {α1:Sort u1} {α2:Sort u2} {p1 p2 p3:α1→α2→Prop} {P:Prop} (h:∃a1 a2,p1 a1 a2∧p2 a1 a2∧p3 a1 a2) (k:∀a1 a2,p1 a1 a2→p2 a1 a2→p3 a1 a2→P):P:=h.elim fun a1 h=>h.elim fun a2 h=>k a1 a2 h.1 h.2.1 h.2.2
theorem xa2_4 {α1:Sort u1} {α2:Sort u2} {p1 p2 p3 p4:α1→α2→Prop} {P:Prop} (h:∃a1 a2,p1 a1 a2∧p2 a1 a2∧p3 a1 a2∧p4 a1 a2) (k:∀a1 a2,p1 a1 a2→p2 a1 a2→p3 a1 a2→p4 a1 a2→P):P:=h.elim fun a1 h=>h.elim fun a2 h=>k a1 a2 h.1 h.2.1 h.2.2.1 h.2.2.2
theorem xa2_5 {α1:Sort u1} {α2:Sort u2} {p1 p2 p3 p4 p5:α1→α2→Prop} {P:Prop} (h:∃a1 a2,p1 a1 a2∧p2 a1 a2∧p3 a1 a2∧p4 a1 a2∧p5 a1 a2) (k:∀a1 a2,p1 a1 a2→p2 a1 a2→p3 a1 a2→p4 a1 a2→p5 a1 a2→P):P:=h.elim fun a1 h=>h.elim fun a2 h=>k a1 a2 h.1 h.2.1 h.2.2.1 h.2.2.2.1 h.2.2.2.2
theorem xa2_6 {α1:Sort u1} {α2:Sort u2} {p1 p2 p3 p4 p5 p6:α1→α2→Prop} {P:Prop} (h:∃a1 a2,p1 a1 a2∧p2 a1 a2∧p3 a1 a2∧p4 a1 a2∧p5 a1 a2∧p6 a1 a2) (k:∀a1 a2,p1 a1 a2→p2 a1 a2→p3 a1 a2→p4 a1 a2→p5 a1 a2→p6 a1 a2→P):P:=h.elim fun a1 h=>h.elim fun a2 h=>k a1 a2 h.1 h.2.1 h.2.2.1 h.2.2.2.1 h.2.2.2.2.1 h.2.2.2.2.2
theorem xa2_7 {α1:Sort u1} {α2:Sort u2} {p1 p2 p3 p4 p5 p6 p7:α1→α2→Prop} {P:Prop} (h:∃a1 a2,p1 a1 a2∧p2 a1 a2∧p3 a1 a2∧p4 a1 a2∧p5 a1 a2∧p6 a1 a2∧p7 a1 a2) (k:∀a1 a2,p1 a1 a2→p2 a1 a2→p3 a1 a2→p4 a1 a2→p5 a1 a2→p6 a1 a2→p7 a1 a2→P):P:=h.elim fun a1 h=>h.elim fun a2 h=>k a1 a2 h.1 h.2.1 h.2.2.1 h.2.2.2.1 h.2.2.2.2.1 h.2.2.2.2.2.1 h.2.2.2.2.2.2
theorem xa2_8 {α1:Sort u1} {α2:Sort u2} {p1 p2 p3 p4 p5 p6 p7 p8:α1→α2→Prop} {P:Prop} (h:∃a1 a2,p1 a1 a2∧p2 a1 a2∧p3 a1 a2∧p4 a1 a2∧p5 a1 a2∧p6 a1 a2∧p7 a1 a2∧p8 a1 a2) (k:∀a1 a2,p1 a1 a2→p2 a1 a2→p3 a1 a2→p4 a1 a2→p5 a1 a2→p6 a1 a2→p7 a1 a2→p8 a1 a2→P):P:=h.elim fun a1 h=>h.elim fun a2 h=>k a1 a2 h.1 h.2.1 h.2.2.1 h.2.2.2.1 h.2.2.2.2.1 h.2.2.2.2.2.1 h.2.2.2.2.2.2.1 h.2.2.2.2.2.2.2
theorem xa2_9 {α1:Sort u1} {α2:Sort u2} {p1 p2 p3 p4 p5 p6 p7 p8 p9:α1→α2→Prop} {P:Prop} (h:∃a1 a2,p1 a1 a2∧p2 a1 a2∧p3 a1 a2∧p4 a1 a2∧p5 a1 a2∧p6 a1 a2∧p7 a1 a2∧p8 a1 a2∧p9 a1 a2) (k:∀a1 a2,p1 a1 a2→p2 a1 a2→p3 a1 a2→p4 a1 a2→p5 a1 a2→p6 a1 a2→p7 a1 a2→p8 a1 a2→p9 a1 a2→P):P:=h.elim fun a1 h=>h.elim fun a2 h=>k a1 a2 h.1 h.2.1 h.2.2.1 h.2.2.2.1 h.2.2.2.2.1 h.2.2.2.2.2.1 h.2.2.2.2.2.2.1 h.2.2.2.2.2.2.2.1 h.2.2.2.2.2.2.2.2
theorem xa2_10 {α1:Sort u1} {α2:Sort u2} {p1 p2 p3 p4 p5 p6 p7 p8 p9 p10:α1→α2→Prop} {P:Prop} (h:∃a1 a2,p1 a1 a2∧p2 a1 a2∧p3 a1 a2∧p4 a1 a2∧p5 a1 a2∧p6 a1 a2∧p7 a1 a2∧p8 a1 a2∧p9 a1 a2∧p10 a1 a2) (k:∀a1 a2,p1 a1 a2→p2 a1 a2→p3 a1 a2→p4 a1 a2→p5 a1 a2→p6 a1 a2→p7 a1 a2→p8 a1 a2→p9 a1 a2→p10 a1 a2→P):P:=h.elim fun a1 h=>h.elim fun a2 h=>k a1 a2 h.1 h.2.1 h.2.2.1 h.2.2.2.1 h.2.2.2.2.1 h.2.2.2.2.2.1 h.2.2.2.2.2.2.1 h.2.2.2.2.2.2.2.1 h.2.2.2.2.2.2.2.2.1 h.2.2.2.2.2.2.2.2.2
theorem xa2_11 {α1:Sort u1} {α2:Sort u2} {p1 p2 p3 p4 p5 p6 p7 p8 p9 p10 p11:α1→α2→Prop} {P:Prop} (h:∃a1 a2,p1 a1 a2∧p2 a1 a2∧p3 a1 a2∧p4 a1 a2∧p5 a1 a2∧p6 a1 a2∧p7 a1 a2∧p8 a1 a2∧p9 a1 a2∧p10 a1 a2∧p11 a1 a2) (k:∀a1 a2,p1 a1 a2→p2 a1 a2→p3 a1 a2→p4 a1 a2→p5 a1 a2→p6 a1 a2→p7 a1 a2→p8 a1 a2→p9 a1 a2→p10 a1 a2→p11 a1 a2→P):P:=h.elim fun a1 h=>h.elim fun a2 h=>k a1 a2 h.1 h.2.1 h.2.2.1 h.2.2.2.1 h.2.2.2.2.1 h.2.2.2.2.2.1 h.2.2.2.2.2.2.1 h.2.2.2.2.2.2.2.1 h.2.2.2.2.2.2.2.2.1 h.2.2.2.2.2.2.2.2.2.1 h.2.2.2.2.2.2.2.2.2.2
theorem xa2_12 {α1:Sort u1} {α2:Sort u2} {p1 p2 p3 p4 p5 p6 p7 p8 p9 p10 p11 p12:α1→α2→Prop} {P:Prop} (h:∃a1 a2,p1 a1 a2∧p2 a1 a2∧p3 a1 a2∧p4 a1 a2∧p5 a1 a2∧p6 a1 a2∧p7 a1 a2∧p8 a1 a2∧p9 a1 a2∧p10 a1 a2∧p11 a1 a2∧p12 a1 a2) (k:∀a1 a2,p1 a1 a2→p2 a1 a2→p3 a1 a2→p4 a1 a2→p5 a1 a2→p6 a1 a2→p7 a1 a2→p8 a1 a2→p9 a1 a2→p10 a1 a2→p11 a1 a2→p12 a1 a2→P):P:=h.elim fun a1 h=>h.elim fun a2 h=>k a1 a2 h.1 h.2.1 h.2.2.1 h.2.2.2.1 h.2.2.2.2.1 h.2.2.2.2.2.1 h.2.2.2.2.2.2.1 h.2.2.2.2.2.2.2.1 h.2.2.2.2.2.2.2.2.1 h.2.2.2.2.2.2.2.2.2.1 h.2.2.2.2.2.2.2.2.2.2.1 h.2.2.2.2.2.2.2.2.2.2.2
theorem xa3_1 {α1:Sort u1} {α2:Sort u2} {α3:Sort u3} {p1:α1→α2→α3→Prop} {P:Prop} (h:∃a1 a2 a3,p1 a1 a2 a3) (k:∀a1 a2 a3,p1 a1 a2 a3→P):P:=h.elim fun a1 h=>h.elim fun a2 h=>h.elim fun a3 h=>k a1 a2 a3 h
theorem xa3_2 {α1:Sort u1} {α2:Sort u2} {α3:Sort u3} {p1 p2:α1→α2→α3→Prop} {P:Prop} (h:∃a1 a2 a3,p1 a1 a2 a3∧p2 a1 a2 a3) (k:∀a1 a2 a3,p1 a1 a2 a3→p2 a1 a2 a3→P):P:=h.elim fun a1 h=>h.elim fun a2 h=>h.elim fun a3 h=>k a1 a2 a3 h.1 h.2
theorem xa3_3 {α1:Sort u1} {α2:Sort u2} {α3:Sort u3} {p1 p2 p3:α1→α2→α3→Prop} {P:Prop} (h:∃a1 a2 a3,p1 a1 a2 a3∧p2 a1 a2 a3∧p3 a1 a2 a3) (k:∀a1 a2 a3,p1 a1 a2 a3→p2 a1 a2 a3→p3 a1 a2 a3→P):P:=h.elim fun a1 h=>h.elim fun a2 h=>h.elim fun a3 h=>k a1 a2 a3 h.1 h.2.1 h.2.2
theorem xa3_4 {α1:Sort u1} {α2:Sort u2} {α3:Sort u3} {p1 p2 p3 p4:α1→α2→α3→Prop} {P:Prop} (h:∃a1 a2 a3,p1 a1 a2 a3∧p2 a1 a2 a3∧p3 a1 a2 a3∧p4 a1 a2 a3) (k:∀a1 a2 a3,p1 a1 a2 a3→p2 a1 a2 a3→p3 a1 a2 a3→p4 a1 a2 a3→P):P:=h.elim fun a1 h=>h.elim fun a2 h=>h.elim fun a3 h=>k a1 a2 a3 h.1 h.2.1 h.2.2.1 h.2.2.2
theorem xa3_5 {α1:Sort u1} {α2:Sort u2} {α3:Sort u3} {p1 p2 p3 p4 p5:α1→α2→α3→Prop} {P:Prop} (h:∃a1 a2 a3,p1 a1 a2 a3∧p2 a1 a2 a3∧p3 a1 a2 a3∧p4 a1 a2 a3∧p5 a1 a2 a3) (k:∀a1 a2 a3,p1 a1 a2 a3→p2 a1 a2 a3→p3 a1 a2 a3→p4 a1 a2 a3→p5 a1 a2 a3→P):P:=h.elim fun a1 h=>h.elim fun a2 h=>h.elim fun a3 h=>k a1 a2 a3 h.1 h.2.1 h.2.2.1 h.2.2.2.1 h.2.2.2.2
theorem xa3_6 {α1:Sort u1} {α2:Sort u2} {α3:Sort u3} {p1 p2 p3 p4 p5 p6:α1→α2→α3→Prop} {P:Prop} (h:∃a1 a2 a3,p1 a1 a2 a3∧p2 a1 a2 a3∧p3 a1 a2 a3∧p4 a1 a2 a3∧p5 a1 a2 a3∧p6 a1 a2 a3) (k:∀a1 a2 a3,p1 a1 a2 a3→p2 a1 a2 a3→p3 a1 a2 a3→p4 a1 a2 a3→p5 a1 a2 a3→p6 a1 a2 a3→P):P:=h.elim fun a1 h=>h.elim fun a2 h=>h.elim fun a3 h=>k a1 a2 a3 h.1 h.2.1 h.2.2.1 h.2.2.2.1 h.2.2.2.2.1 h.2.2.2.2.2
theorem xa3_7 {α1:Sort u1} {α2:Sort u2} {α3:Sort u3} {p1 p2 p3 p4 p5 p6 p7:α1→α2→α3→Prop} {P:Prop} (h:∃a1 a2 a3,p1 a1 a2 a3∧p2 a1 a2 a3∧p3 a1 a2 a3∧p4 a1 a2 a3∧p5 a1 a2 a3∧p6 a1 a2 a3∧p7 a1 a2 a3) (k:∀a1 a2 a3,p1 a1 a2 a3→p2 a1 a2 a3→p3 a1 a2 a3→p4 a1 a2 a3→p5 a1 a2 a3→p6 a1 a2 a3→p7 a1 a2 a3→P):P:=h.elim fun a1 h=>h.elim fun a2 h=>h.elim fun a3 h=>k a1 a2 a3 h.1 h.2.1 h.2.2.1 h.2.2.2.1 h.2.2.2.2.1 h.2.2.2.2.2.1 h.2.2.2.2.2.2
theorem xa3_8 {α1:Sort u1} {α2:Sort u2} {α3:Sort u3} {p1 p2 p3 p4 p5 p6 p7 p8:α1→α2→α3→Prop} {P:Prop} (h:∃a1 a2 a3,p1 a1 a2 a3∧p2 a1 a2 a3∧p3 a1 a2 a3∧p4 a1 a2 a3∧p5 a1 a2 a3∧p6 a1 a2 a3∧p7 a1 a2 a3∧p8 a1 a2 a3) (k:∀a1 a2 a3,p1 a1 a2 a3→p2 a1 a2 a3→p3 a1 a2 a3→p4 a1 a2 a3→p5 a1 a2 a3→p6 a1 a2 a3→p7 a1 a2 a3→p8 a1 a2 a3→P):P:=h.elim fun a1 h=>h.elim fun a2 h=>h.elim fun a3 h=>k a1 a2 a3 h.1 h.2.1 h.2.2.1 h.2.2.2.1 h.2.2.2.2.1 h.2.2.2.2.2.1 h.2.2.2.2.2.2.1 h.2.2.2.2.2.2.2
theorem xa3_9 {α1:Sort u1} {α2:Sort u2} {α3:Sort u3} {p1 p2 p3 p4 p5 p6 p7 p8 p9:α1→α2→α3→Prop} {P:Prop} (h:∃a1 a2 a3,p1 a1 a2 a3∧p2 a1 a2 a3∧p3 a1 a2 a3∧p4 a1 a2 a3∧p5 a1 a2 a3∧p6 a1 a2 a3∧p7 a1 a2 a3∧p8 a1 a2 a3∧p9 a1 a2 a3) (k:∀a1 a2 a3,p1 a1 a2 a3→p2 a1 a2 a3→p3 a1 a2 a3→p4 a1 a2 a3→p5 a1 a2 a3→p6 a1 a2 a3→p7 a1 a2 a3→p8 a1 a2 a3→p9 a1 a2 a3→P):P:=h.elim fun a1 h=>h.elim fun a2 h=>h.elim fun a3 h=>k a1 a2 a3 h.1 h.2.1 h.2.2.1 h.2.2.2.1 h.2.2.2.2.1 h.2.2.2.2.2.1 h.2.2.2.2.2.2.1 h.2.2.2.2.2.2.2.1 h.2.2.2.2.2.2.2.2
theorem xa3_10 {α1:Sort u1} {α2:Sort u2} {α3:Sort u3} {p1 p2 p3 p4 p5 p6 p7 p8 p9 p10:α1→α2→α3→Prop} {P:Prop} (h:∃a1 a2 a3,p1 a1 a2 a3∧p2 a1 a2 a3∧p3 a1 a2 a3∧p4 a1 a2 a3∧p5 a1 a2 a3∧p6 a1 a2 a3∧p7 a1 a2 a3∧p8 a1 a2 a3∧p9 a1 a2 a3∧p10 a1 a2 a3) (k:∀a1 a2 a3,p1 a1 a2 a3→p2 a1 a2 a3→p3 a1 a2 a3→p4 a1 a2 a3→p5 a1 a2 a3→p6 a1 a2 a3→p7 a1 a2 a3→p8 a1 a2 a3→p9 a1 a2 a3→p10 a1 a2 a3→P):P:=h.elim fun a1 h=>h.elim fun a2 h=>h.elim fun a3 h=>k a1 a2 a3 h.1 h.2.1 h.2.2.1 h.2.2.2.1 h.2.2.2.2.1 h.2.2.2.2.2.1 h.2.2.2.2.2.2.1 h.2.2.2.2.2.2.2.1 h.2.2.2.2.2.2.2.2.1 h.2.2.2.2.2.2.2.2.2
theorem xa3_11 {α1:Sort u1} {α2:Sort u2} {α3:Sort u3} {p1 p2 p3 p4 p5 p6 p7 p8 p9 p10 p11:α1→α2→α3→Prop} {P:Prop} (h:∃a1 a2 a3,p1 a1 a2 a3∧p2 a1 a2 a3∧p3 a1 a2 a3∧p4 a1 a2 a3∧p5 a1 a2 a3∧p6 a1 a2 a3∧p7 a1 a2 a3∧p8 a1 a2 a3∧p9 a1 a2 a3∧p10 a1 a2 a3∧p11 a1 a2 a3) (k:∀a1 a2 a3,p1 a1 a2 a3→p2 a1 a2 a3→p3 a1 a2 a3→p4 a1 a2 a3→p5 a1 a2 a3→p6 a1 a2 a3→p7 a1 a2 a3→p8 a1 a2 a3→p9 a1 a2 a3→p10 a1 a2 a3→p11 a1 a2 a3→P):P:=h.elim fun a1 h=>h.elim fun a2 h=>h.elim fun a3 h=>k a1 a2 a3 h.1 h.2.1 h.2.2.1 h.2.2.2.1 h.2.2.2.2.1 h.2.2.2.2.2.1 h.2.2.2.2.2.2.1 h.2.2.2.2.2.2.2.1 h.2.2.2.2.2.2.2.2.1 h.2.2.2.2.2.2.2.2.2.1 h.2.2.2.2.2.2.2.2.2.2
theorem xa3_12 {α1:Sort u1} {α2:Sort u2} {α3:Sort u3} {p1 p2 p3 p4 p5 p6 p7 p8 p9 p10 p11 p12:α1→α2→α3→Prop} {P:Prop} (h:∃a1 a2 a3,p1 a1 a2 a3∧p2 a1 a2 a3∧p3 a1 a2 a3∧p4 a1 a2 a3∧p5 a1 a2 a3∧p6 a1 a2 a3∧p7 a1 a2 a3∧p8 a1 a2 a3∧p9 a1 a2 a3∧p10 a1 a2 a3∧p11 a1 a2 a3∧p12 a1 a2 a3) (k:∀a1 a2 a3,p1 a1 a2 a3→p2 a1 a2 a3→p3 a1 a2 a3→p4 a1 a2 a3→p5 a1 a2 a3→p6 a1 a2 a3→p7 a1 a2 a3→p8 a1 a2 a3→p9 a1 a2 a3→p10 a1 a2 a3→p11 a1 a2 a3→p12 a1 a2 a3→P):P:=h.elim fun a1 h=>h.elim fun a2 h=>h.elim fun a3 h=>k a1 a2 a3 h.1 h.2.1 h.2.2.1 h.2.2.2.1 h.2.2.2.2.1 h.2.2.2.2.2.1 h.2.2.2.2.2.2.1 h.2.2.2.2.2.2.2.1 h.2.2.2.2.2.2.2.2.1 h.2.2.2.2.2.2.2.2.2.1 h.2.2.2.2.2.2.2.2.2.2.1 h.2.2.2.2.2.2.2.2.2.2.2
theorem xa4_1 {α1:Sort u1} {α2:Sort u2} {α3:Sort u3} {α4:Sort u4} {p1:α1→α2→α3→α4→Prop} {P:Prop} (h:∃a1 a2 a3 a4,p1 a1 a2 a3 a4) (k:∀a1 a2 a3 a4,p1 a1 a2 a3 a4→P):P:=h.elim fun a1 h=>h.elim fun a2 h=>h.elim fun a3 h=>h.elim fun a4 h=>k a1 a2 a3 a4 h
theorem xa4_2 {α1:Sort u1} {α2:Sort u2} {α3:Sort u3} {α4:Sort u4} {p1 p2:α1→α2→α3→α4→Prop} {P:Prop} (h:∃a1 a2 a3 a4,p1 a1 a2 a3 a4∧p2 a1 a2 a3 a4) (k:∀a1 a2 a3 a4,p1 a1 a2 a3 a4→p2 a1 a2 a3 a4→P):P:=h.elim fun a1 h=>h.elim fun a2 h=>h.elim fun a3 h=>h.elim fun a4 h=>k a1 a2 a3 a4 h.1 h.2
theorem xa4_3 {α1:Sort u1} {α2:Sort u2} {α3:Sort u3} {α4:Sort u4} {p1 p2 p3:α1→α2→α3→α4→Prop} {P:Prop} (h:∃a1 a2 a3 a4,p1 a1 a2 a3 a4∧p2 a1 a2 a3 a4∧p3 a1 a2 a3 a4) (k:∀a1 a2 a3 a4,p1 a1 a2 a3 a4→p2 a1 a2 a3 a4→p3 a1 a2 a3 a4→P):P:=h.elim fun a1 h=>h.elim fun a2 h=>h.elim fun a3 h=>h.elim fun a4 h=>k a1 a2 a3 a4 h.1 h.2.1 h.2.2
theorem xa4_4 {α1:Sort u1} {α2:Sort u2} {α3:Sort u3} {α4:Sort u4} {p1 p2 p3 p4:α1→α2→α3→α4→Prop} {P:Prop} (h:∃a1 a2 a3 a4,p1 a1 a2 a3 a4∧p2 a1 a2 a3 a4∧p3 a1 a2 a3 a4∧p4 a1 a2 a3 a4) (k:∀a1 a2 a3 a4,p1 a1 a2 a3 a4→p2 a1 a2 a3 a4→p3 a1 a2 a3 a4→p4 a1 a2 a3 a4→P):P:=h.elim fun a1 h=>h.elim fun a2 h=>h.elim fun a3 h=>h.elim fun a4 h=>k a1 a2 a3 a4 h.1 h.2.1 h.2.2.1 h.2.2.2
theorem xa4_5 {α1:Sort u1} {α2:Sort u2} {α3:Sort u3} {α4:Sort u4} {p1 p2 p3 p4 p5:α1→α2→α3→α4→Prop} {P:Prop} (h:∃a1 a2 a3 a4,p1 a1 a2 a3 a4∧p2 a1 a2 a3 a4∧p3 a1 a2 a3 a4∧p4 a1 a2 a3 a4∧p5 a1 a2 a3 a4) (k:∀a1 a2 a3 a4,p1 a1 a2 a3 a4→p2 a1 a2 a3 a4→p3 a1 a2 a3 a4→p4 a1 a2 a3 a4→p5 a1 a2 a3 a4→P):P:=h.elim fun a1 h=>h.elim fun a2 h=>h.elim fun a3 h=>h.elim fun a4 h=>k a1 a2 a3 a4 h.1 h.2.1 h.2.2.1 h.2.2.2.1 h.2.2.2.2
theorem xa4_6 {α1:Sort u1} {α2:Sort u2} {α3:Sort u3} {α4:Sort u4} {p1 p2 p3 p4 p5 p6:α1→α2→α3→α4→Prop} {P:Prop} (h:∃a1 a2 a3 a4,p1 a1 a2 a3 a4∧p2 a1 a2 a3 a4∧p3 a1 a2 a3 a4∧p4 a1 a2 a3 a4∧p5 a1 a2 a3 a4∧p6 a1 a2 a3 a4) (k:∀a1 a2 a3 a4,p1 a1 a2 a3 a4→p2 a1 a2 a3 a4→p3 a1 a2 a3 a4→p4 a1 a2 a3 a4→p5 a1 a2 a3 a4→p6 a1 a2 a3 a4→P):P:=h.elim fun a1 h=>h.elim fun a2 h=>h.elim fun a3 h=>h.elim fun a4 h=>k a1 a2 a3 a4 h.1 h.2.1 h.2.2.1 h.2.2.2.1 h.2.2.2.2.1 h.2.2.2.2.2
theorem xa4_7 {α1:Sort u1} {α2:Sort u2} {α3:Sort u3} {α4:Sort u4} {p1 p2 p3 p4 p5 p6 p7:α1→α2→α3→α4→Prop} {P:Prop} (h:∃a1 a2 a3 a4,p1 a1 a2 a3 a4∧p2 a1 a2 a3 a4∧p3 a1 a2 a3 a4∧p4 a1 a2 a3 a4∧p5 a1 a2 a3 a4∧p6 a1 a2 a3 a4∧p7 a1 a2 a3 a4) (k:∀a1 a2 a3 a4,p1 a1 a2 a3 a4→p2 a1 a2 a3 a4→p3 a1 a2 a3 a4→p4 a1 a2 a3 a4→p5 a1 a2 a3 a4→p6 a1 a2 a3 a4→p7 a1 a2 a3 a4→P):P:=h.elim fun a1 h=>h.elim fun a2 h=>h.elim fun a3 h=>h.elim fun a4 h=>k a1 a2 a3 a4 h.1 h.2.1 h.2.2.1 h.2.2.2.1 h.2.2.2.2.1 h.2.2.2.2.2.1 h.2.2.2.2.2.2
theorem xa4_8 {α1:Sort u1} {α2:Sort u2} {α3:Sort u3} {α4:Sort u4} {p1 p2 p3 p4 p5 p6 p7 p8:α1→α2→α3→α4→Prop} {P:Prop} (h:∃a1 a2 a3 a4,p1 a1 a2 a3 a4∧p2 a1 a2 a3 a4∧p3 a1 a2 a3 a4∧p4 a1 a2 a3 a4∧p5 a1 a2 a3 a4∧p6 a1 a2 a3 a4∧p7 a1 a2 a3 a4∧p8 a1 a2 a3 a4) (k:∀a1 a2 a3 a4,p1 a1 a2 a3 a4→p2 a1 a2 a3 a4→p3 a1 a2 a3 a4→p4 a1 a2 a3 a4→p5 a1 a2 a3 a4→p6 a1 a2 a3 a4→p7 a1 a2 a3 a4→p8 a1 a2 a3 a4→P):P:=h.elim fun a1 h=>h.elim fun a2 h=>h.elim fun a3 h=>h.elim fun a4 h=>k a1 a2 a3 a4 h.1 h.2.1 h.2.2.1 h.2.2.2.1 h.2.2.2.2.1 h.2.2.2.2.2.1 h.2.2.2.2.2.2.1 h.2.2.2.2.2.2.2
theorem xa4_9 {α1:Sort u1} {α2:Sort u2} {α3:Sort u3} {α4:Sort u4} {p1 p2 p3 p4 p5 p6 p7 p8 p9:α1→α2→α3→α4→Prop} {P:Prop} (h:∃a1 a2 a3 a4,p1 a1 a2 a3 a4∧p2 a1 a2 a3 a4∧p3 a1 a2 a3 a4∧p4 a1 a2 a3 a4∧p5 a1 a2 a3 a4∧p6 a1 a2 a3 a4∧p7 a1 a2 a3 a4∧p8 a1 a2 a3 a4∧p9 a1 a2 a3 a4) (k:∀a1 a2 a3 a4,p1 a1 a2 a3 a4→p2 a1 a2 a3 a4→p3 a1 a2 a3 a4→p4 a1 a2 a3 a4→p5 a1 a2 a3 a4→p6 a1 a2 a3 a4→p7 a1 a2 a3 a4→p8 a1 a2 a3 a4→p9 a1 a2 a3 a4→P):P:=h.elim fun a1 h=>h.elim fun a2 h=>h.elim fun a3 h=>h.elim fun a4 h=>k a1 a2 a3 a4 h.1 h.2.1 h.2.2.1 h.2.2.2.1 h.2.2.2.2.1 h.2.2.2.2.2.1 h.2.2.2.2.2.2.1 h.2.2.2.2.2.2.2.1 h.2.2.2.2.2.2.2.2
theorem xa4_10 {α1:Sort u1} {α2:Sort u2} {α3:Sort u3} {α4:Sort u4} {p1 p2 p3 p4 p5 p6 p7 p8 p9 p10:α1→α2→α3→α4→Prop} {P:Prop} (h:∃a1 a2 a3 a4,p1 a1 a2 a3 a4∧p2 a1 a2 a3 a4∧p3 a1 a2 a3 a4∧p4 a1 a2 a3 a4∧p5 a1 a2 a3 a4∧p6 a1 a2 a3 a4∧p7 a1 a2 a3 a4∧p8 a1 a2 a3 a4∧p9 a1 a2 a3 a4∧p10 a1 a2 a3 a4) (k:∀a1 a2 a3 a4,p1 a1 a2 a3 a4→p2 a1 a2 a3 a4→p3 a1 a2 a3 a4→p4 a1 a2 a3 a4→p5 a1 a2 a3 a4→p6 a1 a2 a3 a4→p7 a1 a2 a3 a4→p8 a1 a2 a3 a4→p9 a1 a2 a3 a4→p10 a1 a2 a3 a4→P):P:=h.elim fun a1 h=>h.elim fun a2 h=>h.elim fun a3 h=>h.elim fun a4 h=>k a1 a2 a3 a4 h.1 h.2.1 h.2.2.1 h.2.2.2.1 h.2.2.2.2.1 h.2.2.2.2.2.1 h.2.2.2.2.2.2.1 h.2.2.2.2.2.2.2.1 h.2.2.2.2.2.2.2.2.1 h.2.2.2.2.2.2.2.2.2
theorem xa4_11 {α1:Sort u1} {α2:Sort u2} {α3:Sort u3} {α4:Sort u4} {p1 p2 p3 p4 p5 p6 p7 p8 p9 p10 p11:α1→α2→α3→α4→Prop} {P:Prop} (h:∃a1 a2 a3 a4,p1 a1 a2 a3 a4∧p2 a1 a2 a3 a4∧p3 a1 a2 a3 a4∧p4 a1 a2 a3 a4∧p5 a1 a2 a3 a4∧p6 a1 a2 a3 a4∧p7 a1 a2 a3 a4∧p8 a1 a2 a3 a4∧p9 a1 a2 a3 a4∧p10 a1 a2 a3 a4∧p11 a1 a2 a3 a4) (k:∀a1 a2 a3 a4,p1 a1 a2 a3 a4→p2 a1 a2 a3 a4→p3 a1 a2 a3 a4→p4 a1 a2 a3 a4→p5 a1 a2 a3 a4→p6 a1 a2 a3 a4→p7 a1 a2 a3 a4→p8 a1 a2 a3 a4→p9 a1 a2 a3 a4→p10 a1 a2 a3 a4→p11 a1 a2 a3 a4→P):P:=h.elim fun a1 h=>h.elim fun a2 h=>h.elim fun a3 h=>h.elim fun a4 h=>k a1 a2 a3 a4 h.1 h.2.1 h.2.2.1 h.2.2.2.1 h.2.2.2.2.1 h.2.2.2.2.2.1 h.2.2.2.2.2.2.1 h.2.2.2.2.2.2.2.1 h.2.2.2.2.2.2.2.2.1 h.2.2.2.2.2.2.2.2.2.1 h.2.2.2.2.2.2.2.2.2.2
theorem xa4_12 {α1:Sort u1} {α2:Sort u2} {α3:Sort u3} {α4:Sort u4} {p1 p2 p3 p4 p5 p6 p7 p8 p9 p10 p11 p12:α1→α2→α3→α4→Prop} {P:Prop} (h:∃a1 a2 a3 a4,p1 a1 a2 a3 a4∧p2 a1 a2 a3 a4∧p3 a1 a2 a3 a4∧p4 a1 a2 a3 a4∧p5 a1 a2 a3 a4∧p6 a1 a2 a3 a4∧p7 a1 a2 a3 a4∧p8 a1 a2 a3 a4∧p9 a1 a2 a3 a4∧p10 a1 a2 a3 a4∧p11 a1 a2 a3 a4∧p12 a1 a2 a3 a4) (k:∀a1 a2 a3 a4,p1 a1 a2 a3 a4→p2 a1 a2 a3 a4→p3 a1 a2 a3 a4→p4 a1 a2 a3 a4→p5 a1 a2 a3 a4→p6 a1 a2 a3 a4→p7 a1 a2 a3 a4→p8 a1 a2 a3 a4→p9 a1 a2 a3 a4→p10 a1 a2 a3 a4→p11 a1 a2 a3 a4→p12 a1 a2 a3 a4→P):P:=h.elim fun a1 h=>h.elim fun a2 h=>h.elim fun a3 h=>h.elim fun a4 h=>k a1 a2 a3 a4 h.1 h.2.1 h.2.2.1 h.2.2.2.1 h.2.2.2.2.1 h.2.2.2.2.2.1 h.2.2.2.2.2.2.1 h.2.2.2.2.2.2.2.1 h.2.2.2.2.2.2.2.2.1 h.2.2.2.2.2.2.2.2.2.1 h.2.2.2.2.2.2.2.2.2.2.1 h.2.2.2.2.2.2.2.2.2.2.2
theorem xa5_1 {α1:Sort u1} {α2:Sort u2} {α3:Sort u3} {α4:Sort u4} {α5:Sort u5} {p1:α1→α2→α3→α4→α5→Prop} {P:Prop} (h:∃a1 a2 a3 a4 a5,p1 a1 a2 a3 a4 a5) (k:∀a1 a2 a3 a4 a5,p1 a1 a2 a3 a4 a5→P):P:=h.elim fun a1 h=>h.elim fun a2 h=>h.elim fun a3 h=>h.elim fun a4 h=>h.elim fun a5 h=>k a1 a2 a3 a4 a5 h
theorem xa5_2 {α1:Sort u1} {α2:Sort u2} {α3:Sort u3} {α4:Sort u4} {α5:Sort u5} {p1 p2:α1→α2→α3→α4→α5→Prop} {P:Prop} (h:∃a1 a2 a3 a4 a5,p1 a1 a2 a3 a4 a5∧p2 a1 a2 a3 a4 a5) (k:∀a1 a2 a3 a4 a5,p1 a1 a2 a3 a4 a5→p2 a1 a2 a3 a4 a5→P):P:=h.elim fun a1 h=>h.elim fun a2 h=>h.elim fun a3 h=>h.elim fun a4 h=>h.elim fun a5 h=>k a1 a2 a3 a4 a5 h.1 h.2
theorem xa5_3 {α1:Sort u1} {α2:Sort u2} {α3:Sort u3} {α4:Sort u4} {α5:Sort u5} {p1 p2 p3:α1→α2→α3→α4→α5→Prop} {P:Prop} (h:∃a1 a2 a3 a4 a5,p1 a1 a2 a3 a4 a5∧p2 a1 a2 a3 a4 a5∧p3 a1 a2 a3 a4 a5) (k:∀a1 a2 a3 a4 a5,p1 a1 a2 a3 a4 a5→p2 a1 a2 a3 a4 a5→p3 a1 a2 a3 a4 a5→P):P:=h.elim fun a1 h=>h.elim fun a2 h=>h.elim fun a3 h=>h.elim fun a4 h=>h.elim fun a5 h=>k a1 a2 a3 a4 a5 h.1 h.2.1 h.2.2
theorem xa5_4 {α1:Sort u1} {α2:Sort u2} {α3:Sort u3} {α4:Sort u4} {α5:Sort u5} {p1 p2 p3 p4:α1→α2→α3→α4→α5→Prop} {P:Prop} (h:∃a1 a2 a3 a4 a5,p1 a1 a2 a3 a4 a5∧p2 a1 a2 a3 a4 a5∧p3 a1 a2 a3 a4 a5∧p4 a1 a2 a3 a4 a5) (k:∀a1 a2 a3 a4 a5,p1 a1 a2 a3 a4 a5→p2 a1 a2 a3 a4 a5→p3 a1 a2 a3 a4 a5→p4 a1 a2 a3 a4 a5→P):P:=h.elim fun a1 h=>h.elim fun a2 h=>h.elim fun a3 h=>h.elim fun a4 h=>h.elim fun a5 h=>k a1 a2 a3 a4 a5 h.1 h.2.1 h.2.2.1 h.2.2.2
theorem xa5_5 {α1:Sort u1} {α2:Sort u2} {α3:Sort u3} {α4:Sort u4} {α5:Sort u5} {p1 p2 p3 p4 p5:α1→α2→α3→α4→α5→Prop} {P:Prop} (h:∃a1 a2 a3 a4 a5,p1 a1 a2 a3 a4 a5∧p2 a1 a2 a3 a4 a5∧p3 a1 a2 a3 a4 a5∧p4 a1 a2 a3 a4 a5∧p5 a1 a2 a3 a4 a5) (k:∀a1 a2 a3 a4 a5,p1 a1 a2 a3 a4 a5→p2 a1 a2 a3 a4 a5→p3 a1 a2 a3 a4 a5→p4 a1 a2 a3 a4 a5→p5 a1 a2 a3 a4 a5→P):P:=h.elim fun a1 h=>h.elim fun a2 h=>h.elim fun a3 h=>h.elim fun a4 h=>h.elim fun a5 h=>k a1 a2 a3 a4 a5 h.1 h.2.1 h.2.2.1 h.2.2.2.1 h.2.2.2.2
theorem xa5_6 {α1:Sort u1} {α2:Sort u2} {α3:Sort u3} {α4:Sort u4} {α5:Sort u5} {p1 p2 p3 p4 p5 p6:α1→α2→α3→α4→α5→Prop} {P:Prop} (h:∃a1 a2 a3 a4 a5,p1 a1 a2 a3 a4 a5∧p2 a1 a2 a3 a4 a5∧p3 a1 a2 a3 a4 a5∧p4 a1 a2 a3 a4 a5∧p5 a1 a2 a3 a4 a5∧p6 a1 a2 a3 a4 a5) (k:∀a1 a2 a3 a4 a5,p1 a1 a2 a3 a4 a5→p2 a1 a2 a3 a4 a5→p3 a1 a2 a3 a4 a5→p4 a1 a2 a3 a4 a5→p5 a1 a2 a3 a4 a5→p6 a1 a2 a3 a4 a5→P):P:=h.elim fun a1 h=>h.elim fun a2 h=>h.elim fun a3 h=>h.elim fun a4 h=>h.elim fun a5 h=>k a1 a2 a3 a4 a5 h.1 h.2.1 h.2.2.1 h.2.2.2.1 h.2.2.2.2.1 h.2.2.2.2.2
theorem xa5_7 {α1:Sort u1} {α2:Sort u2} {α3:Sort u3} {α4:Sort u4} {α5:Sort u5} {p1 p2 p3 p4 p5 p6 p7:α1→α2→α3→α4→α5→Prop} {P:Prop} (h:∃a1 a2 a3 a4 a5,p1 a1 a2 a3 a4 a5∧p2 a1 a2 a3 a4 a5∧p3 a1 a2 a3 a4 a5∧p4 a1 a2 a3 a4 a5∧p5 a1 a2 a3 a4 a5∧p6 a1 a2 a3 a4 a5∧p7 a1 a2 a3 a4 a5) (k:∀a1 a2 a3 a4 a5,p1 a1 a2 a3 a4 a5→p2 a1 a2 a3 a4 a5→p3 a1 a2 a3 a4 a5→p4 a1 a2 a3 a4 a5→p5 a1 a2 a3 a4 a5→p6 a1 a2 a3 a4 a5→p7 a1 a2 a3 a4 a5→P):P:=h.elim fun a1 h=>h.elim fun a2 h=>h.elim fun a3 h=>h.elim fun a4 h=>h.elim fun a5 h=>k a1 a2 a3 a4 a5 h.1 h.2.1 h.2.2.1 h.2.2.2.1 h.2.2.2.2.1 h.2.2.2.2.2.1 h.2.2.2.2.2.2
theorem xa5_8 {α1:Sort u1} {α2:Sort u2} {α3:Sort u3} {α4:Sort u4} {α5:Sort u5} {p1 p2 p3 p4 p5 p6 p7 p8:α1→α2→α3→α4→α5→Prop} {P:Prop} (h:∃a1 a2 a3 a4 a5,p1 a1 a2 a3 a4 a5∧p2 a1 a2 a3 a4 a5∧p3 a1 a2 a3 a4 a5∧p4 a1 a2 a3 a4 a5∧p5 a1 a2 a3 a4 a5∧p6 a1 a2 a3 a4 a5∧p7 a1 a2 a3 a4 a5∧p8 a1 a2 a3 a4 a5) (k:∀a1 a2 a3 a4 a5,p1 a1 a2 a3 a4 a5→p2 a1 a2 a3 a4 a5→p3 a1 a2 a3 a4 a5→p4 a1 a2 a3 a4 a5→p5 a1 a2 a3 a4 a5→p6 a1 a2 a3 a4 a5→p7 a1 a2 a3 a4 a5→p8 a1 a2 a3 a4 a5→P):P:=h.elim fun a1 h=>h.elim fun a2 h=>h.elim fun a3 h=>h.elim fun a4 h=>h.elim fun a5 h=>k a1 a2 a3 a4 a5 h.1 h.2.1 h.2.2.1 h.2.2.2.1 h.2.2.2.2.1 h.2.2.2.2.2.1 h.2.2.2.2.2.2.1 h.2.2.2.2.2.2.2
theorem xa5_9 {α1:Sort u1} {α2:Sort u2} {α3:Sort u3} {α4:Sort u4} {α5:Sort u5} {p1 p2 p3 p4 p5 p6 p7 p8 p9:α1→α2→α3→α4→α5→Prop} {P:Prop} (h:∃a1 a2 a3 a4 a5,p1 a1 a2 a3 a4 a5∧p2 a1 a2 a3 a4 a5∧p3 a1 a2 a3 a4 a5∧p4 a1 a2 a3 a4 a5∧p5 a1 a2 a3 a4 a5∧p6 a1 a2 a3 a4 a5∧p7 a1 a2 a3 a4 a5∧p8 a1 a2 a3 a4 a5∧p9 a1 a2 a3 a4 a5) (k:∀a1 a2 a3 a4 a5,p1 a1 a2 a3 a4 a5→p2 a1 a2 a3 a4 a5→p3 a1 a2 a3 a4 a5→p4 a1 a2 a3 a4 a5→p5 a1 a2 a3 a4 a5→p6 a1 a2 a3 a4 a5→p7 a1 a2 a3 a4 a5→p8 a1 a2 a3 a4 a5→p9 a1 a2 a3 a4 a5→P):P:=h.elim fun a1 h=>h.elim fun a2 h=>h.elim fun a3 h=>h.elim fun a4 h=>h.elim fun a5 h=>k a1 a2 a3 a4 a5 h.1 h.2.1 h.2.2.1 h.2.2.2.1 h.2.2.2.2.1 h.2.2.2.2.2.1 h.2.2.2.2.2.2.1 h.2.2.2.2.2.2.2.1 h.2.2.2.2.2.2.2.2
theorem xa5_10 {α1:Sort u1} {α2:Sort u2} {α3:Sort u3} {α4:Sort u4} {α5:Sort u5} {p1 p2 p3 p4 p5 p6 p7 p8 p9 p10:α1→α2→α3→α4→α5→Prop} {P:Prop} (h:∃a1 a2 a3 a4 a5,p1 a1 a2 a3 a4 a5∧p2 a1 a2 a3 a4 a5∧p3 a1 a2 a3 a4 a5∧p4 a1 a2 a3 a4 a5∧p5 a1 a2 a3 a4 a5∧p6 a1 a2 a3 a4 a5∧p7 a1 a2 a3 a4 a5∧p8 a1 a2 a3 a4 a5∧p9 a1 a2 a3 a4 a5∧p10 a1 a2 a3 a4 a5) (k:∀a1 a2 a3 a4 a5,p1 a1 a2 a3 a4 a5→p2 a1 a2 a3 a4 a5→p3 a1 a2 a3 a4 a5→p4 a1 a2 a3 a4 a5→p5 a1 a2 a3 a4 a5→p6 a1 a2 a3 a4 a5→p7 a1 a2 a3 a4 a5→p8 a1 a2 a3 a4 a5→p9 a1 a2 a3 a4 a5→p10 a1 a2 a3 a4 a5→P):P:=h.elim fun a1 h=>h.elim fun a2 h=>h.elim fun a3 h=>h.elim fun a4 h=>h.elim fun a5 h=>k a1 a2 a3 a4 a5 h.1 h.2.1 h.2.2.1 h.2.2.2.1 h.2.2.2.2.1 h.2.2.2.2.2.1 h.2.2.2.2.2.2.1 h.2.2.2.2.2.2.2.1 h.2.2.2.2.2.2.2.2.1 h.2.2.2.2.2.2.2.2.2
theorem xa5_11 {α1:Sort u1} {α2:Sort u2} {α3:Sort u3} {α4:Sort u4} {α5:Sort u5} {p1 p2 p3 p4 p5 p6 p7 p8 p9 p10 p11:α1→α2→α3→α4→α5→Prop} {P:Prop} (h:∃a1 a2 a3 a4 a5,p1 a1 a2 a3 a4 a5∧p2 a1 a2 a3 a4 a5∧p3 a1 a2 a3 a4 a5∧p4 a1 a2 a3 a4 a5∧p5 a1 a2 a3 a4 a5∧p6 a1 a2 a3 a4 a5∧p7 a1 a2 a3 a4 a5∧p8 a1 a2 a3 a4 a5∧p9 a1 a2 a3 a4 a5∧p10 a1 a2 a3 a4 a5∧p11 a1 a2 a3 a4 a5) (k:∀a1 a2 a3 a4 a5,p1 a1 a2 a3 a4 a5→p2 a1 a2 a3 a4 a5→p3 a1 a2 a3 a4 a5→p4 a1 a2 a3 a4 a5→p5 a1 a2 a3 a4 a5→p6 a1 a2 a3 a4 a5→p7 a1 a2 a3 a4 a5→p8 a1 a2 a3 a4 a5→p9 a1 a2 a3 a4 a5→p10 a1 a2 a3 a4 a5→p11 a1 a2 a3 a4 a5→P):P:=h.elim fun a1 h=>h.elim fun a2 h=>h.elim fun a3 h=>h.elim fun a4 h=>h.elim fun a5 h=>k a1 a2 a3 a4 a5 h.1 h.2.1 h.2.2.1 h.2.2.2.1 h.2.2.2.2.1 h.2.2.2.2.2.1 h.2.2.2.2.2.2.1 h.2.2.2.2.2.2.2.1 h.2.2.2.2.2.2.2.2.1 h.2.2.2.2.2.2.2.2.2.1 h.2.2.2.2.2.2.2.2.2.2
theorem xa6_1 {α1:Sort u1} {α2:Sort u2} {α3:Sort u3} {α4:Sort u4} {α5:Sort u5} {α6:Sort u6} {p1:α1→α2→α3→α4→α5→α6→Prop} {P:Prop} (h:∃a1 a2 a3 a4 a5 a6,p1 a1 a2 a3 a4 a5 a6) (k:∀a1 a2 a3 a4 a5 a6,p1 a1 a2 a3 a4 a5 a6→P):P:=h.elim fun a1 h=>h.elim fun a2 h=>h.elim fun a3 h=>h.elim fun a4 h=>h.elim fun a5 h=>h.elim fun a6 h=>k a1 a2 a3 a4 a5 a6 h
theorem xa6_2 {α1:Sort u1} {α2:Sort u2} {α3:Sort u3} {α4:Sort u4} {α5:Sort u5} {α6:Sort u6} {p1 p2:α1→α2→α3→α4→α5→α6→Prop} {P:Prop} (h:∃a1 a2 a3 a4 a5 a6,p1 a1 a2 a3 a4 a5 a6∧p2 a1 a2 a3 a4 a5 a6) (k:∀a1 a2 a3 a4 a5 a6,p1 a1 a2 a3 a4 a5 a6→p2 a1 a2 a3 a4 a5 a6→P):P:=h.elim fun a1 h=>h.elim fun a2 h=>h.elim fun a3 h=>h.elim fun a4 h=>h.elim fun a5 h=>h.elim fun a6 h=>k a1 a2 a3 a4 a5 a6 h.1 h.2
theorem xa6_3 {α1:Sort u1} {α2:Sort u2} {α3:Sort u3} {α4:Sort u4} {α5:Sort u5} {α6:Sort u6} {p1 p2 p3:α1→α2→α3→α4→α5→α6→Prop} {P:Prop} (h:∃a1 a2 a3 a4 a5 a6,p1 a1 a2 a3 a4 a5 a6∧p2 a1 a2 a3 a4 a5 a6∧p3 a1 a2 a3 a4 a5 a6) (k:∀a1 a2 a3 a4 a5 a6,p1 a1 a2 a3 a4 a5 a6→p2 a1 a2 a3 a4 a5 a6→p3 a1 a2 a3 a4 a5 a6→P):P:=h.elim fun a1 h=>h.elim fun a2 h=>h.elim fun a3 h=>h.elim fun a4 h=>h.elim fun a5 h=>h.elim fun a6 h=>k a1 a2 a3 a4 a5 a6 h.1 h.2.1 h.2.2
theorem xa6_4 {α1:Sort u1} {α2:Sort u2} {α3:Sort u3} {α4:Sort u4} {α5:Sort u5} {α6:Sort u6} {p1 p2 p3 p4:α1→α2→α3→α4→α5→α6→Prop} {P:Prop} (h:∃a1 a2 a3 a4 a5 a6,p1 a1 a2 a3 a4 a5 a6∧p2 a1 a2 a3 a4 a5 a6∧p3 a1 a2 a3 a4 a5 a6∧p4 a1 a2 a3 a4 a5 a6) (k:∀a1 a2 a3 a4 a5 a6,p1 a1 a2 a3 a4 a5 a6→p2 a1 a2 a3 a4 a5 a6→p3 a1 a2 a3 a4 a5 a6→p4 a1 a2 a3 a4 a5 a6→P):P:=h.elim fun a1 h=>h.elim fun a2 h=>h.elim fun a3 h=>h.elim fun a4 h=>h.elim fun a5 h=>h.elim fun a6 h=>k a1 a2 a3 a4 a5 a6 h.1 h.2.1 h.2.2.1 h.2.2.2
theorem xa6_5 {α1:Sort u1} {α2:Sort u2} {α3:Sort u3} {α4:Sort u4} {α5:Sort u5} {α6:Sort u6} {p1 p2 p3 p4 p5:α1→α2→α3→α4→α5→α6→Prop} {P:Prop} (h:∃a1 a2 a3 a4 a5 a6,p1 a1 a2 a3 a4 a5 a6∧p2 a1 a2 a3 a4 a5 a6∧p3 a1 a2 a3 a4 a5 a6∧p4 a1 a2 a3 a4 a5 a6∧p5 a1 a2 a3 a4 a5 a6) (k:∀a1 a2 a3 a4 a5 a6,p1 a1 a2 a3 a4 a5 a6→p2 a1 a2 a3 a4 a5 a6→p3 a1 a2 a3 a4 a5 a6→p4 a1 a2 a3 a4 a5 a6→p5 a1 a2 a3 a4 a5 a6→P):P:=h.elim fun a1 h=>h.elim fun a2 h=>h.elim fun a3 h=>h.elim fun a4 h=>h.elim fun a5 h=>h.elim fun a6 h=>k a1 a2 a3 a4 a5 a6 h.1 h.2.1 h.2.2.1 h.2.2.2.1 h.2.2.2.2
theorem xa6_6 {α1:Sort u1} {α2:Sort u2} {α3:Sort u3} {α4:Sort u4} {α5:Sort u5} {α6:Sort u6} {p1 p2 p3 p4 p5 p6:α1→α2→α3→α4→α5→α6→Prop} {P:Prop} (h:∃a1 a2 a3 a4 a5 a6,p1 a1 a2 a3 a4 a5 a6∧p2 a1 a2 a3 a4 a5 a6∧p3 a1 a2 a3 a4 a5 a6∧p4 a1 a2 a3 a4 a5 a6∧p5 a1 a2 a3 a4 a5 a6∧p6 a1 a2 a3 a4 a5 a6) (k:∀a1 a2 a3 a4 a5 a6,p1 a1 a2 a3 a4 a5 a6→p2 a1 a2 a3 a4 a5 a6→p3 a1 a2 a3 a4 a5 a6→p4 a1 a2 a3 a4 a5 a6→p5 a1 a2 a3 a4 a5 a6→p6 a1 a2 a3 a4 a5 a6→P):P:=h.elim fun a1 h=>h.elim fun a2 h=>h.elim fun a3 h=>h.elim fun a4 h=>h.elim fun a5 h=>h.elim fun a6 h=>k a1 a2 a3 a4 a5 a6 h.1 h.2.1 h.2.2.1 h.2.2.2.1 h.2.2.2.2.1 h.2.2.2.2.2
theorem xa6_7 {α1:Sort u1} {α2:Sort u2} {α3:Sort u3} {α4:Sort u4} {α5:Sort u5} {α6:Sort u6} {p1 p2 p3 p4 p5 p6 p7:α1→α2→α3→α4→α5→α6→Prop} {P:Prop} (h:∃a1 a2 a3 a4 a5 a6,p1 a1 a2 a3 a4 a5 a6∧p2 a1 a2 a3 a4 a5 a6∧p3 a1 a2 a3 a4 a5 a6∧p4 a1 a2 a3 a4 a5 a6∧p5 a1 a2 a3 a4 a5 a6∧p6 a1 a2 a3 a4 a5 a6∧p7 a1 a2 a3 a4 a5 a6) (k:∀a1 a2 a3 a4 a5 a6,p1 a1 a2 a3 a4 a5 a6→p2 a1 a2 a3 a4 a5 a6→p3 a1 a2 a3 a4 a5 a6→p4 a1 a2 a3 a4 a5 a6→p5 a1 a2 a3 a4 a5 a6→p6 a1 a2 a3 a4 a5 a6→p7 a1 a2 a3 a4 a5 a6→P):P:=h.elim fun a1 h=>h.elim fun a2 h=>h.elim fun a3 h=>h.elim fun a4 h=>h.elim fun a5 h=>h.elim fun a6 h=>k a1 a2 a3 a4 a5 a6 h.1 h.2.1 h.2.2.1 h.2.2.2.1 h.2.2.2.2.1 h.2.2.2.2.2.1 h.2.2.2.2.2.2
theorem xa6_8 {α1:Sort u1} {α2:Sort u2} {α3:Sort u3} {α4:Sort u4} {α5:Sort u5} {α6:Sort u6} {p1 p2 p3 p4 p5 p6 p7 p8:α1→α2→α3→α4→α5→α6→Prop} {P:Prop} (h:∃a1 a2 a3 a4 a5 a6,p1 a1 a2 a3 a4 a5 a6∧p2 a1 a2 a3 a4 a5 a6∧p3 a1 a2 a3 a4 a5 a6∧p4 a1 a2 a3 a4 a5 a6∧p5 a1 a2 a3 a4 a5 a6∧p6 a1 a2 a3 a4 a5 a6∧p7 a1 a2 a3 a4 a5 a6∧p8 a1 a2 a3 a4 a5 a6) (k:∀a1 a2 a3 a4 a5 a6,p1 a1 a2 a3 a4 a5 a6→p2 a1 a2 a3 a4 a5 a6→p3 a1 a2 a3 a4 a5 a6→p4 a1 a2 a3 a4 a5 a6→p5 a1 a2 a3 a4 a5 a6→p6 a1 a2 a3 a4 a5 a6→p7 a1 a2 a3 a4 a5 a6→p8 a1 a2 a3 a4 a5 a6→P):P:=h.elim fun a1 h=>h.elim fun a2 h=>h.elim fun a3 h=>h.elim fun a4 h=>h.elim fun a5 h=>h.elim fun a6 h=>k a1 a2 a3 a4 a5 a6 h.1 h.2.1 h.2.2.1 h.2.2.2.1 h.2.2.2.2.1 h.2.2.2.2.2.1 h.2.2.2.2.2.2.1 h.2.2.2.2.2.2.2
theorem xa6_9 {α1:Sort u1} {α2:Sort u2} {α3:Sort u3} {α4:Sort u4} {α5:Sort u5} {α6:Sort u6} {p1 p2 p3 p4 p5 p6 p7 p8 p9:α1→α2→α3→α4→α5→α6→Prop} {P:Prop} (h:∃a1 a2 a3 a4 a5 a6,p1 a1 a2 a3 a4 a5 a6∧p2 a1 a2 a3 a4 a5 a6∧p3 a1 a2 a3 a4 a5 a6∧p4 a1 a2 a3 a4 a5 a6∧p5 a1 a2 a3 a4 a5 a6∧p6 a1 a2 a3 a4 a5 a6∧p7 a1 a2 a3 a4 a5 a6∧p8 a1 a2 a3 a4 a5 a6∧p9 a1 a2 a3 a4 a5 a6) (k:∀a1 a2 a3 a4 a5 a6,p1 a1 a2 a3 a4 a5 a6→p2 a1 a2 a3 a4 a5 a6→p3 a1 a2 a3 a4 a5 a6→p4 a1 a2 a3 a4 a5 a6→p5 a1 a2 a3 a4 a5 a6→p6 a1 a2 a3 a4 a5 a6→p7 a1 a2 a3 a4 a5 a6→p8 a1 a2 a3 a4 a5 a6→p9 a1 a2 a3 a4 a5 a6→P):P:=h.elim fun a1 h=>h.elim fun a2 h=>h.elim fun a3 h=>h.elim fun a4 h=>h.elim fun a5 h=>h.elim fun a6 h=>k a1 a2 a3 a4 a5 a6 h.1 h.2.1 h.2.2.1 h.2.2.2.1 h.2.2.2.2.1 h.2.2.2.2.2.1 h.2.2.2.2.2.2.1 h.2.2.2.2.2.2.2.1 h.2.2.2.2.2.2.2.2
theorem xa6_10 {α1:Sort u1} {α2:Sort u2} {α3:Sort u3} {α4:Sort u4} {α5:Sort u5} {α6:Sort u6} {p1 p2 p3 p4 p5 p6 p7 p8 p9 p10:α1→α2→α3→α4→α5→α6→Prop} {P:Prop} (h:∃a1 a2 a3 a4 a5 a6,p1 a1 a2 a3 a4 a5 a6∧p2 a1 a2 a3 a4 a5 a6∧p3 a1 a2 a3 a4 a5 a6∧p4 a1 a2 a3 a4 a5 a6∧p5 a1 a2 a3 a4 a5 a6∧p6 a1 a2 a3 a4 a5 a6∧p7 a1 a2 a3 a4 a5 a6∧p8 a1 a2 a3 a4 a5 a6∧p9 a1 a2 a3 a4 a5 a6∧p10 a1 a2 a3 a4 a5 a6) (k:∀a1 a2 a3 a4 a5 a6,p1 a1 a2 a3 a4 a5 a6→p2 a1 a2 a3 a4 a5 a6→p3 a1 a2 a3 a4 a5 a6→p4 a1 a2 a3 a4 a5 a6→p5 a1 a2 a3 a4 a5 a6→p6 a1 a2 a3 a4 a5 a6→p7 a1 a2 a3 a4 a5 a6→p8 a1 a2 a3 a4 a5 a6→p9 a1 a2 a3 a4 a5 a6→p10 a1 a2 a3 a4 a5 a6→P):P:=h.elim fun a1 h=>h.elim fun a2 h=>h.elim fun a3 h=>h.elim fun a4 h=>h.elim fun a5 h=>h.elim fun a6 h=>k a1 a2 a3 a4 a5 a6 h.1 h.2.1 h.2.2.1 h.2.2.2.1 h.2.2.2.2.1 h.2.2.2.2.2.1 h.2.2.2.2.2.2.1 h.2.2.2.2.2.2.2.1 h.2.2.2.2.2.2.2.2.1 h.2.2.2.2.2.2.2.2.2
theorem xa7_1 {α1:Sort u1} {α2:Sort u2} {α3:Sort u3} {α4:Sort u4} {α5:Sort u5} {α6:Sort u6} {α7:Sort u7} {p1:α1→α2→α3→α4→α5→α6→α7→Prop} {P:Prop} (h:∃a1 a2 a3 a4 a5 a6 a7,p1 a1 a2 a3 a4 a5 a6 a7) (k:∀a1 a2 a3 a4 a5 a6 a7,p1 a1 a2 a3 a4 a5 a6 a7→P):P:=h.elim fun a1 h=>h.elim fun a2 h=>h.elim fun a3 h=>h.elim fun a4 h=>h.elim fun a5 h=>h.elim fun a6 h=>h.elim fun a7 h=>k a1 a2 a3 a4 a5 a6 a7 h
theorem xa7_2 {α1:Sort u1} {α2:Sort u2} {α3:Sort u3} {α4:Sort u4} {α5:Sort u5} {α6:Sort u6} {α7:Sort u7} {p1 p2:α1→α2→α3→α4→α5→α6→α7→Prop} {P:Prop} (h:∃a1 a2 a3 a4 a5 a6 a7,p1 a1 a2 a3 a4 a5 a6 a7∧p2 a1 a2 a3 a4 a5 a6 a7) (k:∀a1 a2 a3 a4 a5 a6 a7,p1 a1 a2 a3 a4 a5 a6 a7→p2 a1 a2 a3 a4 a5 a6 a7→P):P:=h.elim fun a1 h=>h.elim fun a2 h=>h.elim fun a3 h=>h.elim fun a4 h=>h.elim fun a5 h=>h.elim fun a6 h=>h.elim fun a7 h=>k a1 a2 a3 a4 a5 a6 a7 h.1 h.2
theorem xa7_3 {α1:Sort u1} {α2:Sort u2} {α3:Sort u3} {α4:Sort u4} {α5:Sort u5} {α6:Sort u6} {α7:Sort u7} {p1 p2 p3:α1→α2→α3→α4→α5→α6→α7→Prop} {P:Prop} (h:∃a1 a2 a3 a4 a5 a6 a7,p1 a1 a2 a3 a4 a5 a6 a7∧p2 a1 a2 a3 a4 a5 a6 a7∧p3 a1 a2 a3 a4 a5 a6 a7) (k:∀a1 a2 a3 a4 a5 a6 a7,p1 a1 a2 a3 a4 a5 a6 a7→p2 a1 a2 a3 a4 a5 a6 a7→p3 a1 a2 a3 a4 a5 a6 a7→P):P:=h.elim fun a1 h=>h.elim fun a2 h=>h.elim fun a3 h=>h.elim fun a4 h=>h.elim fun a5 h=>h.elim fun a6 h=>h.elim fun a7 h=>k a1 a2 a3 a4 a5 a6 a7 h.1 h.2.1 h.2.2
theorem xa7_4 {α1:Sort u1} {α2:Sort u2} {α3:Sort u3} {α4:Sort u4} {α5:Sort u5} {α6:Sort u6} {α7:Sort u7} {p1 p2 p3 p4:α1→α2→α3→α4→α5→α6→α7→Prop} {P:Prop} (h:∃a1 a2 a3 a4 a5 a6 a7,p1 a1 a2 a3 a4 a5 a6 a7∧p2 a1 a2 a3 a4 a5 a6 a7∧p3 a1 a2 a3 a4 a5 a6 a7∧p4 a1 a2 a3 a4 a5 a6 a7) (k:∀a1 a2 a3 a4 a5 a6 a7,p1 a1 a2 a3 a4 a5 a6 a7→p2 a1 a2 a3 a4 a5 a6 a7→p3 a1 a2 a3 a4 a5 a6 a7→p4 a1 a2 a3 a4 a5 a6 a7→P):P:=h.elim fun a1 h=>h.elim fun a2 h=>h.elim fun a3 h=>h.elim fun a4 h=>h.elim fun a5 h=>h.elim fun a6 h=>h.elim fun a7 h=>k a1 a2 a3 a4 a5 a6 a7 h.1 h.2.1 h.2.2.1 h.2.2.2
theorem xa7_5 {α1:Sort u1} {α2:Sort u2} {α3:Sort u3} {α4:Sort u4} {α5:Sort u5} {α6:Sort u6} {α7:Sort u7} {p1 p2 p3 p4 p5:α1→α2→α3→α4→α5→α6→α7→Prop} {P:Prop} (h:∃a1 a2 a3 a4 a5 a6 a7,p1 a1 a2 a3 a4 a5 a6 a7∧p2 a1 a2 a3 a4 a5 a6 a7∧p3 a1 a2 a3 a4 a5 a6 a7∧p4 a1 a2 a3 a4 a5 a6 a7∧p5 a1 a2 a3 a4 a5 a6 a7) (k:∀a1 a2 a3 a4 a5 a6 a7,p1 a1 a2 a3 a4 a5 a6 a7→p2 a1 a2 a3 a4 a5 a6 a7→p3 a1 a2 a3 a4 a5 a6 a7→p4 a1 a2 a3 a4 a5 a6 a7→p5 a1 a2 a3 a4 a5 a6 a7→P):P:=h.elim fun a1 h=>h.elim fun a2 h=>h.elim fun a3 h=>h.elim fun a4 h=>h.elim fun a5 h=>h.elim fun a6 h=>h.elim fun a7 h=>k a1 a2 a3 a4 a5 a6 a7 h.1 h.2.1 h.2.2.1 h.2.2.2.1 h.2.2.2.2
theorem xa7_6 {α1:Sort u1} {α2:Sort u2} {α3:Sort u3} {α4:Sort u4} {α5:Sort u5} {α6:Sort u6} {α7:Sort u7} {p1 p2 p3 p4 p5 p6:α1→α2→α3→α4→α5→α6→α7→Prop} {P:Prop} (h:∃a1 a2 a3 a4 a5 a6 a7,p1 a1 a2 a3 a4 a5 a6 a7∧p2 a1 a2 a3 a4 a5 a6 a7∧p3 a1 a2 a3 a4 a5 a6 a7∧p4 a1 a2 a3 a4 a5 a6 a7∧p5 a1 a2 a3 a4 a5 a6 a7∧p6 a1 a2 a3 a4 a5 a6 a7) (k:∀a1 a2 a3 a4 a5 a6 a7,p1 a1 a2 a3 a4 a5 a6 a7→p2 a1 a2 a3 a4 a5 a6 a7→p3 a1 a2 a3 a4 a5 a6 a7→p4 a1 a2 a3 a4 a5 a6 a7→p5 a1 a2 a3 a4 a5 a6 a7→p6 a1 a2 a3 a4 a5 a6 a7→P):P:=h.elim fun a1 h=>h.elim fun a2 h=>h.elim fun a3 h=>h.elim fun a4 h=>h.elim fun a5 h=>h.elim fun a6 h=>h.elim fun a7 h=>k a1 a2 a3 a4 a5 a6 a7 h.1 h.2.1 h.2.2.1 h.2.2.2.1 h.2.2.2.2.1 h.2.2.2.2.2
theorem xa7_7 {α1:Sort u1} {α2:Sort u2} {α3:Sort u3} {α4:Sort u4} {α5:Sort u5} {α6:Sort u6} {α7:Sort u7} {p1 p2 p3 p4 p5 p6 p7:α1→α2→α3→α4→α5→α6→α7→Prop} {P:Prop} (h:∃a1 a2 a3 a4 a5 a6 a7,p1 a1 a2 a3 a4 a5 a6 a7∧p2 a1 a2 a3 a4 a5 a6 a7∧p3 a1 a2 a3 a4 a5 a6 a7∧p4 a1 a2 a3 a4 a5 a6 a7∧p5 a1 a2 a3 a4 a5 a6 a7∧p6 a1 a2 a3 a4 a5 a6 a7∧p7 a1 a2 a3 a4 a5 a6 a7) (k:∀a1 a2 a3 a4 a5 a6 a7,p1 a1 a2 a3 a4 a5 a6 a7→p2 a1 a2 a3 a4 a5 a6 a7→p3 a1 a2 a3 a4 a5 a6 a7→p4 a1 a2 a3 a4 a5 a6 a7→p5 a1 a2 a3 a4 a5 a6 a7→p6 a1 a2 a3 a4 a5 a6 a7→p7 a1 a2 a3 a4 a5 a6 a7→P):P:=h.elim fun a1 h=>h.elim fun a2 h=>h.elim fun a3 h=>h.elim fun a4 h=>h.elim fun a5 h=>h.elim fun a6 h=>h.elim fun a7 h=>k a1 a2 a3 a4 a5 a6 a7 h.1 h.2.1 h.2.2.1 h.2.2.2.1 h.2.2.2.2.1 h.2.2.2.2.2.1 h.2.2.2.2.2.2
theorem xa7_8 {α1:Sort u1} {α2:Sort u2} {α3:Sort u3} {α4:Sort u4} {α5:Sort u5} {α6:Sort u6} {α7:Sort u7} {p1 p2 p3 p4 p5 p6 p7 p8:α1→α2→α3→α4→α5→α6→α7→Prop} {P:Prop} (h:∃a1 a2 a3 a4 a5 a6 a7,p1 a1 a2 a3 a4 a5 a6 a7∧p2 a1 a2 a3 a4 a5 a6 a7∧p3 a1 a2 a3 a4 a5 a6 a7∧p4 a1 a2 a3 a4 a5 a6 a7∧p5 a1 a2 a3 a4 a5 a6 a7∧p6 a1 a2 a3 a4 a5 a6 a7∧p7 a1 a2 a3 a4 a5 a6 a7∧p8 a1 a2 a3 a4 a5 a6 a7) (k:∀a1 a2 a3 a4 a5 a6 a7,p1 a1 a2 a3 a4 a5 a6 a7→p2 a1 a2 a3 a4 a5 a6 a7→p3 a1 a2 a3 a4 a5 a6 a7→p4 a1 a2 a3 a4 a5 a6 a7→p5 a1 a2 a3 a4 a5 a6 a7→p6 a1 a2 a3 a4 a5 a6 a7→p7 a1 a2 a3 a4 a5 a6 a7→p8 a1 a2 a3 a4 a5 a6 a7→P):P:=h.elim fun a1 h=>h.elim fun a2 h=>h.elim fun a3 h=>h.elim fun a4 h=>h.elim fun a5 h=>h.elim fun a6 h=>h.elim fun a7 h=>k a1 a2 a3 a4 a5 a6 a7 h.1 h.2.1 h.2.2.1 h.2.2.2.1 h.2.2.2.2.1 h.2.2.2.2.2.1 h.2.2.2.2.2.2.1 h.2.2.2.2.2.2.2
theorem xa7_9 {α1:Sort u1} {α2:Sort u2} {α3:Sort u3} {α4:Sort u4} {α5:Sort u5} {α6:Sort u6} {α7:Sort u7} {p1 p2 p3 p4 p5 p6 p7 p8 p9:α1→α2→α3→α4→α5→α6→α7→Prop} {P:Prop} (h:∃a1 a2 a3 a4 a5 a6 a7,p1 a1 a2 a3 a4 a5 a6 a7∧p2 a1 a2 a3 a4 a5 a6 a7∧p3 a1 a2 a3 a4 a5 a6 a7∧p4 a1 a2 a3 a4 a5 a6 a7∧p5 a1 a2 a3 a4 a5 a6 a7∧p6 a1 a2 a3 a4 a5 a6 a7∧p7 a1 a2 a3 a4 a5 a6 a7∧p8 a1 a2 a3 a4 a5 a6 a7∧p9 a1 a2 a3 a4 a5 a6 a7) (k:∀a1 a2 a3 a4 a5 a6 a7,p1 a1 a2 a3 a4 a5 a6 a7→p2 a1 a2 a3 a4 a5 a6 a7→p3 a1 a2 a3 a4 a5 a6 a7→p4 a1 a2 a3 a4 a5 a6 a7→p5 a1 a2 a3 a4 a5 a6 a7→p6 a1 a2 a3 a4 a5 a6 a7→p7 a1 a2 a3 a4 a5 a6 a7→p8 a1 a2 a3 a4 a5 a6 a7→p9 a1 a2 a3 a4 a5 a6 a7→P):P:=h.elim fun a1 h=>h.elim fun a2 h=>h.elim fun a3 h=>h.elim fun a4 h=>h.elim fun a5 h=>h.elim fun a6 h=>h.elim fun a7 h=>k a1 a2 a3 a4 a5 a6 a7 h.1 h.2.1 h.2.2.1 h.2.2.2.1 h.2.2.2.2.1 h.2.2.2.2.2.1 h.2.2.2.2.2.2.1 h.2.2.2.2.2.2.2.1 h.2.2.2.2.2.2.2.2
theorem xa8_1 {α1:Sort u1} {α2:Sort u2} {α3:Sort u3} {α4:Sort u4} {α5:Sort u5} {α6:Sort u6} {α7:Sort u7} {α8:Sort u8} {p1:α1→α2→α3→α4→α5→α6→α7→α8→Prop} {P:Prop} (h:∃a1 a2 a3 a4 a5 a6 a7 a8,p1 a1 a2 a3 a4 a5 a6 a7 a8) (k:∀a1 a2 a3 a4 a5 a6 a7 a8,p1 a1 a2 a3 a4 a5 a6 a7 a8→P):P:=h.elim fun a1 h=>h.elim fun a2 h=>h.elim fun a3 h=>h.elim fun a4 h=>h.elim fun a5 h=>h.elim fun a6 h=>h.elim fun a7 h=>h.elim fun a8 h=>k a1 a2 a3 a4 a5 a6 a7 a8 h
theorem xa8_2 {α1:Sort u1} {α2:Sort u2} {α3:Sort u3} {α4:Sort u4} {α5:Sort u5} {α6:Sort u6} {α7:Sort u7} {α8:Sort u8} {p1 p2:α1→α2→α3→α4→α5→α6→α7→α8→Prop} {P:Prop} (h:∃a1 a2 a3 a4 a5 a6 a7 a8,p1 a1 a2 a3 a4 a5 a6 a7 a8∧p2 a1 a2 a3 a4 a5 a6 a7 a8) (k:∀a1 a2 a3 a4 a5 a6 a7 a8,p1 a1 a2 a3 a4 a5 a6 a7 a8→p2 a1 a2 a3 a4 a5 a6 a7 a8→P):P:=h.elim fun a1 h=>h.elim fun a2 h=>h.elim fun a3 h=>h.elim fun a4 h=>h.elim fun a5 h=>h.elim fun a6 h=>h.elim fun a7 h=>h.elim fun a8 h=>k a1 a2 a3 a4 a5 a6 a7 a8 h.1 h.2
theorem xa8_3 {α1:Sort u1} {α2:Sort u2} {α3:Sort u3} {α4:Sort u4} {α5:Sort u5} {α6:Sort u6} {α7:Sort u7} {α8:Sort u8} {p1 p2 p3:α1→α2→α3→α4→α5→α6→α7→α8→Prop} {P:Prop} (h:∃a1 a2 a3 a4 a5 a6 a7 a8,p1 a1 a2 a3 a4 a5 a6 a7 a8∧p2 a1 a2 a3 a4 a5 a6 a7 a8∧p3 a1 a2 a3 a4 a5 a6 a7 a8) (k:∀a1 a2 a3 a4 a5 a6 a7 a8,p1 a1 a2 a3 a4 a5 a6 a7 a8→p2 a1 a2 a3 a4 a5 a6 a7 a8→p3 a1 a2 a3 a4 a5 a6 a7 a8→P):P:=h.elim fun a1 h=>h.elim fun a2 h=>h.elim fun a3 h=>h.elim fun a4 h=>h.elim fun a5 h=>h.elim fun a6 h=>h.elim fun a7 h=>h.elim fun a8 h=>k a1 a2 a3 a4 a5 a6 a7 a8 h.1 h.2.1 h.2.2
theorem xa8_4 {α1:Sort u1} {α2:Sort u2} {α3:Sort u3} {α4:Sort u4} {α5:Sort u5} {α6:Sort u6} {α7:Sort u7} {α8:Sort u8} {p1 p2 p3 p4:α1→α2→α3→α4→α5→α6→α7→α8→Prop} {P:Prop} (h:∃a1 a2 a3 a4 a5 a6 a7 a8,p1 a1 a2 a3 a4 a5 a6 a7 a8∧p2 a1 a2 a3 a4 a5 a6 a7 a8∧p3 a1 a2 a3 a4 a5 a6 a7 a8∧p4 a1 a2 a3 a4 a5 a6 a7 a8) (k:∀a1 a2 a3 a4 a5 a6 a7 a8,p1 a1 a2 a3 a4 a5 a6 a7 a8→p2 a1 a2 a3 a4 a5 a6 a7 a8→p3 a1 a2 a3 a4 a5 a6 a7 a8→p4 a1 a2 a3 a4 a5 a6 a7 a8→P):P:=h.elim fun a1 h=>h.elim fun a2 h=>h.elim fun a3 h=>h.elim fun a4 h=>h.elim fun a5 h=>h.elim fun a6 h=>h.elim fun a7 h=>h.elim fun a8 h=>k a1 a2 a3 a4 a5 a6 a7 a8 h.1 h.2.1 h.2.2.1 h.2.2.2
theorem xa8_5 {α1:Sort u1} {α2:Sort u2} {α3:Sort u3} {α4:Sort u4} {α5:Sort u5} {α6:Sort u6} {α7:Sort u7} {α8:Sort u8} {p1 p2 p3 p4 p5:α1→α2→α3→α4→α5→α6→α7→α8→Prop} {P:Prop} (h:∃a1 a2 a3 a4 a5 a6 a7 a8,p1 a1 a2 a3 a4 a5 a6 a7 a8∧p2 a1 a2 a3 a4 a5 a6 a7 a8∧p3 a1 a2 a3 a4 a5 a6 a7 a8∧p4 a1 a2 a3 a4 a5 a6 a7 a8∧p5 a1 a2 a3 a4 a5 a6 a7 a8) (k:∀a1 a2 a3 a4 a5 a6 a7 a8,p1 a1 a2 a3 a4 a5 a6 a7 a8→p2 a1 a2 a3 a4 a5 a6 a7 a8→p3 a1 a2 a3 a4 a5 a6 a7 a8→p4 a1 a2 a3 a4 a5 a6 a7 a8→p5 a1 a2 a3 a4 a5 a6 a7 a8→P):P:=h.elim fun a1 h=>h.elim fun a2 h=>h.elim fun a3 h=>h.elim fun a4 h=>h.elim fun a5 h=>h.elim fun a6 h=>h.elim fun a7 h=>h.elim fun a8 h=>k a1 a2 a3 a4 a5 a6 a7 a8 h.1 h.2.1 h.2.2.1 h.2.2.2.1 h.2.2.2.2
theorem xa8_6 {α1:Sort u1} {α2:Sort u2} {α3:Sort u3} {α4:Sort u4} {α5:Sort u5} {α6:Sort u6} {α7:Sort u7} {α8:Sort u8} {p1 p2 p3 p4 p5 p6:α1→α2→α3→α4→α5→α6→α7→α8→Prop} {P:Prop} (h:∃a1 a2 a3 a4 a5 a6 a7 a8,p1 a1 a2 a3 a4 a5 a6 a7 a8∧p2 a1 a2 a3 a4 a5 a6 a7 a8∧p3 a1 a2 a3 a4 a5 a6 a7 a8∧p4 a1 a2 a3 a4 a5 a6 a7 a8∧p5 a1 a2 a3 a4 a5 a6 a7 a8∧p6 a1 a2 a3 a4 a5 a6 a7 a8) (k:∀a1 a2 a3 a4 a5 a6 a7 a8,p1 a1 a2 a3 a4 a5 a6 a7 a8→p2 a1 a2 a3 a4 a5 a6 a7 a8→p3 a1 a2 a3 a4 a5 a6 a7 a8→p4 a1 a2 a3 a4 a5 a6 a7 a8→p5 a1 a2 a3 a4 a5 a6 a7 a8→p6 a1 a2 a3 a4 a5 a6 a7 a8→P):P:=h.elim fun a1 h=>h.elim fun a2 h=>h.elim fun a3 h=>h.elim fun a4 h=>h.elim fun a5 h=>h.elim fun a6 h=>h.elim fun a7 h=>h.elim fun a8 h=>k a1 a2 a3 a4 a5 a6 a7 a8 h.1 h.2.1 h.2.2.1 h.2.2.2.1 h.2.2.2.2.1 h.2.2.2.2.2
theorem xa8_7 {α1:Sort u1} {α2:Sort u2} {α3:Sort u3} {α4:Sort u4} {α5:Sort u5} {α6:Sort u6} {α7:Sort u7} {α8:Sort u8} {p1 p2 p3 p4 p5 p6 p7:α1→α2→α3→α4→α5→α6→α7→α8→Prop} {P:Prop} (h:∃a1 a2 a3 a4 a5 a6 a7 a8,p1 a1 a2 a3 a4 a5 a6 a7 a8∧p2 a1 a2 a3 a4 a5 a6 a7 a8∧p3 a1 a2 a3 a4 a5 a6 a7 a8∧p4 a1 a2 a3 a4 a5 a6 a7 a8∧p5 a1 a2 a3 a4 a5 a6 a7 a8∧p6 a1 a2 a3 a4 a5 a6 a7 a8∧p7 a1 a2 a3 a4 a5 a6 a7 a8) (k:∀a1 a2 a3 a4 a5 a6 a7 a8,p1 a1 a2 a3 a4 a5 a6 a7 a8→p2 a1 a2 a3 a4 a5 a6 a7 a8→p3 a1 a2 a3 a4 a5 a6 a7 a8→p4 a1 a2 a3 a4 a5 a6 a7 a8→p5 a1 a2 a3 a4 a5 a6 a7 a8→p6 a1 a2 a3 a4 a5 a6 a7 a8→p7 a1 a2 a3 a4 a5 a6 a7 a8→P):P:=h.elim fun a1 h=>h.elim fun a2 h=>h.elim fun a3 h=>h.elim fun a4 h=>h.elim fun a5 h=>h.elim fun a6 h=>h.elim fun a7 h=>h.elim fun a8 h=>k a1 a2 a3 a4 a5 a6 a7 a8 h.1 h.2.1 h.2.2.1 h.2.2.2.1 h.2.2.2.2.1 h.2.2.2.2.2.1 h.2.2.2.2.2.2
theorem xa8_8 {α1:Sort u1} {α2:Sort u2} {α3:Sort u3} {α4:Sort u4} {α5:Sort u5} {α6:Sort u6} {α7:Sort u7} {α8:Sort u8} {p1 p2 p3 p4 p5 p6 p7 p8:α1→α2→α3→α4→α5→α6→α7→α8→Prop} {P:Prop} (h:∃a1 a2 a3 a4 a5 a6 a7 a8,p1 a1 a2 a3 a4 a5 a6 a7 a8∧p2 a1 a2 a3 a4 a5 a6 a7 a8∧p3 a1 a2 a3 a4 a5 a6 a7 a8∧p4 a1 a2 a3 a4 a5 a6 a7 a8∧p5 a1 a2 a3 a4 a5 a6 a7 a8∧p6 a1 a2 a3 a4 a5 a6 a7 a8∧p7 a1 a2 a3 a4 a5 a6 a7 a8∧p8 a1 a2 a3 a4 a5 a6 a7 a8) (k:∀a1 a2 a3 a4 a5 a6 a7 a8,p1 a1 a2 a3 a4 a5 a6 a7 a8→p2 a1 a2 a3 a4 a5 a6 a7 a8→p3 a1 a2 a3 a4 a5 a6 a7 a8→p4 a1 a2 a3 a4 a5 a6 a7 a8→p5 a1 a2 a3 a4 a5 a6 a7 a8→p6 a1 a2 a3 a4 a5 a6 a7 a8→p7 a1 a2 a3 a4 a5 a6 a7 a8→p8 a1 a2 a3 a4 a5 a6 a7 a8→P):P:=h.elim fun a1 h=>h.elim fun a2 h=>h.elim fun a3 h=>h.elim fun a4 h=>h.elim fun a5 h=>h.elim fun a6 h=>h.elim fun a7 h=>h.elim fun a8 h=>k a1 a2 a3 a4 a5 a6 a7 a8 h.1 h.2.1 h.2.2.1 h.2.2.2.1 h.2.2.2.2.1 h.2.2.2.2.2.1 h.2.2.2.2.2.2.1 h.2.2.2.2.2.2.2
theorem xa9_1 {α1:Sort u1} {α2:Sort u2} {α3:Sort u3} {α4:Sort u4} {α5:Sort u5} {α6:Sort u6} {α7:Sort u7} {α8:Sort u8} {α9:Sort u9} {p1:α1→α2→α3→α4→α5→α6→α7→α8→α9→Prop} {P:Prop} (h:∃a1 a2 a3 a4 a5 a6 a7 a8 a9,p1 a1 a2 a3 a4 a5 a6 a7 a8 a9) (k:∀a1 a2 a3 a4 a5 a6 a7 a8 a9,p1 a1 a2 a3 a4 a5 a6 a7 a8 a9→P):P:=h.elim fun a1 h=>h.elim fun a2 h=>h.elim fun a3 h=>h.elim fun a4 h=>h.elim fun a5 h=>h.elim fun a6 h=>h.elim fun a7 h=>h.elim fun a8 h=>h.elim fun a9 h=>k a1 a2 a3 a4 a5 a6 a7 a8 a9 h
theorem xa9_2 {α1:Sort u1} {α2:Sort u2} {α3:Sort u3} {α4:Sort u4} {α5:Sort u5} {α6:Sort u6} {α7:Sort u7} {α8:Sort u8} {α9:Sort u9} {p1 p2:α1→α2→α3→α4→α5→α6→α7→α8→α9→Prop} {P:Prop} (h:∃a1 a2 a3 a4 a5 a6 a7 a8 a9,p1 a1 a2 a3 a4 a5 a6 a7 a8 a9∧p2 a1 a2 a3 a4 a5 a6 a7 a8 a9) (k:∀a1 a2 a3 a4 a5 a6 a7 a8 a9,p1 a1 a2 a3 a4 a5 a6 a7 a8 a9→p2 a1 a2 a3 a4 a5 a6 a7 a8 a9→P):P:=h.elim fun a1 h=>h.elim fun a2 h=>h.elim fun a3 h=>h.elim fun a4 h=>h.elim fun a5 h=>h.elim fun a6 h=>h.elim fun a7 h=>h.elim fun a8 h=>h.elim fun a9 h=>k a1 a2 a3 a4 a5 a6 a7 a8 a9 h.1 h.2
theorem xa9_3 {α1:Sort u1} {α2:Sort u2} {α3:Sort u3} {α4:Sort u4} {α5:Sort u5} {α6:Sort u6} {α7:Sort u7} {α8:Sort u8} {α9:Sort u9} {p1 p2 p3:α1→α2→α3→α4→α5→α6→α7→α8→α9→Prop} {P:Prop} (h:∃a1 a2 a3 a4 a5 a6 a7 a8 a9,p1 a1 a2 a3 a4 a5 a6 a7 a8 a9∧p2 a1 a2 a3 a4 a5 a6 a7 a8 a9∧p3 a1 a2 a3 a4 a5 a6 a7 a8 a9) (k:∀a1 a2 a3 a4 a5 a6 a7 a8 a9,p1 a1 a2 a3 a4 a5 a6 a7 a8 a9→p2 a1 a2 a3 a4 a5 a6 a7 a8 a9→p3 a1 a2 a3 a4 a5 a6 a7 a8 a9→P):P:=h.elim fun a1 h=>h.elim fun a2 h=>h.elim fun a3 h=>h.elim fun a4 h=>h.elim fun a5 h=>h.elim fun a6 h=>h.elim fun a7 h=>h.elim fun a8 h=>h.elim fun a9 h=>k a1 a2 a3 a4 a5 a6 a7 a8 a9 h.1 h.2.1 h.2.2
theorem xa9_4 {α1:Sort u1} {α2:Sort u2} {α3:Sort u3} {α4:Sort u4} {α5:Sort u5} {α6:Sort u6} {α7:Sort u7} {α8:Sort u8} {α9:Sort u9} {p1 p2 p3 p4:α1→α2→α3→α4→α5→α6→α7→α8→α9→Prop} {P:Prop} (h:∃a1 a2 a3 a4 a5 a6 a7 a8 a9,p1 a1 a2 a3 a4 a5 a6 a7 a8 a9∧p2 a1 a2 a3 a4 a5 a6 a7 a8 a9∧p3 a1 a2 a3 a4 a5 a6 a7 a8 a9∧p4 a1 a2 a3 a4 a5 a6 a7 a8 a9) (k:∀a1 a2 a3 a4 a5 a6 a7 a8 a9,p1 a1 a2 a3 a4 a5 a6 a7 a8 a9→p2 a1 a2 a3 a4 a5 a6 a7 a8 a9→p3 a1 a2 a3 a4 a5 a6 a7 a8 a9→p4 a1 a2 a3 a4 a5 a6 a7 a8 a9→P):P:=h.elim fun a1 h=>h.elim fun a2 h=>h.elim fun a3 h=>h.elim fun a4 h=>h.elim fun a5 h=>h.elim fun a6 h=>h.elim fun a7 h=>h.elim fun a8 h=>h.elim fun a9 h=>k a1 a2 a3 a4 a5 a6 a7 a8 a9 h.1 h.2.1 h.2.2.1 h.2.2.2
theorem xa9_5 {α1:Sort u1} {α2:Sort u2} {α3:Sort u3} {α4:Sort u4} {α5:Sort u5} {α6:Sort u6} {α7:Sort u7} {α8:Sort u8} {α9:Sort u9} {p1 p2 p3 p4 p5:α1→α2→α3→α4→α5→α6→α7→α8→α9→Prop} {P:Prop} (h:∃a1 a2 a3 a4 a5 a6 a7 a8 a9,p1 a1 a2 a3 a4 a5 a6 a7 a8 a9∧p2 a1 a2 a3 a4 a5 a6 a7 a8 a9∧p3 a1 a2 a3 a4 a5 a6 a7 a8 a9∧p4 a1 a2 a3 a4 a5 a6 a7 a8 a9∧p5 a1 a2 a3 a4 a5 a6 a7 a8 a9) (k:∀a1 a2 a3 a4 a5 a6 a7 a8 a9,p1 a1 a2 a3 a4 a5 a6 a7 a8 a9→p2 a1 a2 a3 a4 a5 a6 a7 a8 a9→p3 a1 a2 a3 a4 a5 a6 a7 a8 a9→p4 a1 a2 a3 a4 a5 a6 a7 a8 a9→p5 a1 a2 a3 a4 a5 a6 a7 a8 a9→P):P:=h.elim fun a1 h=>h.elim fun a2 h=>h.elim fun a3 h=>h.elim fun a4 h=>h.elim fun a5 h=>h.elim fun a6 h=>h.elim fun a7 h=>h.elim fun a8 h=>h.elim fun a9 h=>k a1 a2 a3 a4 a5 a6 a7 a8 a9 h.1 h.2.1 h.2.2.1 h.2.2.2.1 h.2.2.2.2
theorem xa9_6 {α1:Sort u1} {α2:Sort u2} {α3:Sort u3} {α4:Sort u4} {α5:Sort u5} {α6:Sort u6} {α7:Sort u7} {α8:Sort u8} {α9:Sort u9} {p1 p2 p3 p4 p5 p6:α1→α2→α3→α4→α5→α6→α7→α8→α9→Prop} {P:Prop} (h:∃a1 a2 a3 a4 a5 a6 a7 a8 a9,p1 a1 a2 a3 a4 a5 a6 a7 a8 a9∧p2 a1 a2 a3 a4 a5 a6 a7 a8 a9∧p3 a1 a2 a3 a4 a5 a6 a7 a8 a9∧p4 a1 a2 a3 a4 a5 a6 a7 a8 a9∧p5 a1 a2 a3 a4 a5 a6 a7 a8 a9∧p6 a1 a2 a3 a4 a5 a6 a7 a8 a9) (k:∀a1 a2 a3 a4 a5 a6 a7 a8 a9,p1 a1 a2 a3 a4 a5 a6 a7 a8 a9→p2 a1 a2 a3 a4 a5 a6 a7 a8 a9→p3 a1 a2 a3 a4 a5 a6 a7 a8 a9→p4 a1 a2 a3 a4 a5 a6 a7 a8 a9→p5 a1 a2 a3 a4 a5 a6 a7 a8 a9→p6 a1 a2 a3 a4 a5 a6 a7 a8 a9→P):P:=h.elim fun a1 h=>h.elim fun a2 h=>h.elim fun a3 h=>h.elim fun a4 h=>h.elim fun a5 h=>h.elim fun a6 h=>h.elim fun a7 h=>h.elim fun a8 h=>h.elim fun a9 h=>k a1 a2 a3 a4 a5 a6 a7 a8 a9 h.1 h.2.1 h.2.2.1 h.2.2.2.1 h.2.2.2.2.1 h.2.2.2.2.2
theorem xa9_7 {α1:Sort u1} {α2:Sort u2} {α3:Sort u3} {α4:Sort u4} {α5:Sort u5} {α6:Sort u6} {α7:Sort u7} {α8:Sort u8} {α9:Sort u9} {p1 p2 p3 p4 p5 p6 p7:α1→α2→α3→α4→α5→α6→α7→α8→α9→Prop} {P:Prop} (h:∃a1 a2 a3 a4 a5 a6 a7 a8 a9,p1 a1 a2 a3 a4 a5 a6 a7 a8 a9∧p2 a1 a2 a3 a4 a5 a6 a7 a8 a9∧p3 a1 a2 a3 a4 a5 a6 a7 a8 a9∧p4 a1 a2 a3 a4 a5 a6 a7 a8 a9∧p5 a1 a2 a3 a4 a5 a6 a7 a8 a9∧p6 a1 a2 a3 a4 a5 a6 a7 a8 a9∧p7 a1 a2 a3 a4 a5 a6 a7 a8 a9) (k:∀a1 a2 a3 a4 a5 a6 a7 a8 a9,p1 a1 a2 a3 a4 a5 a6 a7 a8 a9→p2 a1 a2 a3 a4 a5 a6 a7 a8 a9→p3 a1 a2 a3 a4 a5 a6 a7 a8 a9→p4 a1 a2 a3 a4 a5 a6 a7 a8 a9→p5 a1 a2 a3 a4 a5 a6 a7 a8 a9→p6 a1 a2 a3 a4 a5 a6 a7 a8 a9→p7 a1 a2 a3 a4 a5 a6 a7 a8 a9→P):P:=h.elim fun a1 h=>h.elim fun a2 h=>h.elim fun a3 h=>h.elim fun a4 h=>h.elim fun a5 h=>h.elim fun a6 h=>h.elim fun a7 h=>h.elim fun a8 h=>h.elim fun a9 h=>k a1 a2 a3 a4 a5 a6 a7 a8 a9 h.1 h.2.1 h.2.2.1 h.2.2.2.1 h.2.2.2.2.1 h.2.2.2.2.2.1 h.2.2.2.2.2.2
theorem FY {a m r:Nat} (h:a+m<r):a<r:=Nat.lt_of_le_of_lt (Nat.le_add_right a m) h
theorem Lu {a b:Nat} (h:a<b):a≤b:=Nat.le_of_lt h
theorem O4 {a b:Nat} (h:a<b):a+1≤b:=h
theorem PA {a b:Nat} (h:a≤b):a<b+1:=Nat.lt_succ_of_le h
theorem Pq {a b:Nat} (h:a<b):1≤b:=Nat.lt_of_le_of_lt (Nat.zero_le a) h
theorem Bj {a b c:Nat} (h:a≤b) (k:b≤c):a≤c:=Nat.le_trans h k
theorem PG {a b c:Nat} (h:a=b) (k:b≤c):a≤c:=h▸k
theorem PF {a b c:Nat} (h:a<b) (k:b≤c):a<c:=Nat.lt_of_lt_of_le h k
theorem Pg {a b c:Nat} (h:a≤b) (k:b<c):a<c:=Nat.lt_of_le_of_lt h k
theorem Pf {a b c:Nat} (h:a<b) (k:b≤c):a≤c:=Nat.le_of_lt (Nat.lt_of_lt_of_le h k)
theorem FZ {a m k r:Nat} (h:a+m<r) (d:k≤m):a+k<r:=Nat.lt_of_le_of_lt (Nat.add_le_add_left d a) h
theorem Hm {a m k r:Nat} (h:a+m<r) (d:k+1≤m):a+k+1<r:=Nat.lt_of_le_of_lt (Nat.add_le_add_left d a) h
theorem PD {a b c:Nat} (h:a=b) (k:b≠c):a≠c:=h▸k
theorem CG {a b c:Nat} (h:a≤b) (k:b≤c):a≤c:=Nat.le_trans h k
theorem Ph {a b c:Nat} (h:a<b) (k:b≤c):a<c:=Nat.lt_of_lt_of_le h k
theorem Pi {a b c:Nat} (h:a≤b) (k:b<c):a<c:=Nat.lt_of_le_of_lt h k
theorem Nl {a b c:Nat} (h:a<b) (k:b<c):a<c:=Nat.lt_trans h k
theorem PH {a b:Nat} (h:a≤b+1) (k:¬a=b+1):a≤b:=Nat.le_of_lt_succ (Nat.lt_of_le_of_ne h k)
theorem Aj {α:Type} {a:α} {P:Prop} (h:none=some a):P:=nomatch h
theorem Ap {α:Type} {a:α} {P:Prop} (h:some a=none):P:=nomatch h
theorem Dc {P:Prop} (h:true=false):P:=nomatch h
theorem Bv {P:Prop} (h:false=true):P:=nomatch h
section
noncomputable abbrev FH:=Addr→Option Obj
noncomputable def AE (F F':FH):Prop:=∀b o,F b=some o→F' b=some o
theorem AE.refl (F:FH):AE F F:=fun zu zu e=>e
theorem AE.trans {F F' F'':FH} (x:AE F F') (y:AE F' F''):AE F F'':=fun b o e=>y b o (x b o e)
inductive AV where
 |none
 |bool (b:Bool)
 |int (i:Int)
 |str (s:Str)
 |bytes (b:Array UInt8)
 |tup (l:List AV)
 |lst (l:List AV)
 |ref (a:Addr)
 |val (v:Value)
 deriving Inhabited
mutual
inductive VR (F:FH):AV→Value→Prop
 |none:VR F .none .none
 |bool (b):VR F (.bool b) (.bool b)
 |int (i t):VR F (.int i) (.int i t)
 |str (s t):VR F (.str s) (.str s t)
 |bytes (b t):VR F (.bytes b) (.bytes b t)
 |tup {l vs a o n}:F a=some o→o.cls=.type "tuple"→o.data=.seq vs.toArray n→VRs F l vs→VR F (.tup l) (.ref a)
 |lst {l vs a o n}:F a=some o→o.cls=.type "list"→o.data=.seq vs.toArray n→VRs F l vs→VR F (.lst l) (.ref a)
 |ref (a):VR F (.ref a) (.ref a)
 |val (v):VR F (.val v) v
inductive VRs (F:FH):List AV→List Value→Prop
 |nil:VRs F [] []
 |cons {x xs v vs}:VR F x v→VRs F xs vs→VRs F (x::xs) (v::vs)
end
theorem VR.mono {F F':FH} (e:AE F F') {x:AV} {v:Value} (h:VR F x v):VR F' x v:=
 VR.rec (motive_1:=fun x v zu=>VR F' x v) (motive_2:=fun x v zu=>VRs F' x v) .none (fun b=>.bool b) (fun i t=>.int i t) (fun s t=>.str s t) (fun b t=>.bytes b t) (fun a b c zu d=>.tup (e _ _ a) b c d) (fun a b c zu d=>.lst (e _ _ a) b c d) (fun a=>.ref a) (fun v=>.val v) .nil (fun zu zu a b=>.cons a b) h
theorem VRs.ind {F:FH} {M:List AV→List Value→Prop} (hn:M [] []) (hc:∀{x xs v vs},VR F x v→VRs F xs vs→M xs vs→M (x::xs) (v::vs)) {xs:List AV} {vs:List Value} (h:VRs F xs vs):M xs vs:=
 VRs.rec (motive_1:=fun zu zu zu=>True) (motive_2:=fun xs vs zu=>M xs vs) trivial (fun zu=>trivial) (fun zu zu=>trivial) (fun zu zu=>trivial) (fun zu zu=>trivial) (fun zu zu zu zu zu=>trivial) (fun zu zu zu zu zu=>trivial) (fun zu=>trivial) (fun zu=>trivial) hn (fun a b zu ih=>hc a b ih) h
theorem VRs.mono {F F':FH} (e:AE F F') {x:List AV} {v:List Value} (h:VRs F x v):VRs F' x v:=VRs.ind (M:=fun x v=>VRs F' x v) .nil (fun a zu ih=>.cons (a.mono e) ih) h
noncomputable def VR.Sh (F:FH) (v:Value):AV→Prop
 |.none=>v=.none
 |.bool b=>v=.bool b
 |.int i=>∃t,v=.int i t
 |.str x=>∃t,v=.str x t
 |.bytes b=>∃t,v=.bytes b t
 |.tup l=>∃a o vs n,v=.ref a∧F a=some o∧o.cls=.type "tuple"∧o.data=.seq (List.toArray vs) n∧VRs F l vs
 |.lst l=>∃a o vs n,v=.ref a∧F a=some o∧o.cls=.type "list"∧o.data=.seq (List.toArray vs) n∧VRs F l vs
 |.ref a=>v=.ref a
 |.val u=>v=u
theorem VR.inv {F:FH} {x:AV} {v:Value} (h:VR F x v):VR.Sh F v x:=
 VR.casesOn (motive_1:=fun x v zu=>VR.Sh F v x) h rfl (fun b=>rfl) (fun i t=>⟨t,rfl⟩) (fun i t=>⟨t,rfl⟩) (fun i t=>⟨t,rfl⟩) (fun a b c d=>⟨_,_,_,_,rfl,a,b,c,d⟩) (fun a b c d=>⟨_,_,_,_,rfl,a,b,c,d⟩) (fun a=>rfl) (fun v=>rfl)
noncomputable def VRs.Sh (F:FH) (vs:List Value):List AV→Prop
 |[]=>vs=[]
 |x::xs=>∃v us,vs=v::us∧VR F x v∧VRs F xs us
theorem VRs.invS {F:FH} {x:List AV} {v:List Value} (h:VRs F x v):VRs.Sh F v x:=
 VRs.casesOn (motive_2:=fun x v zu=>VRs.Sh F v x) h rfl (fun a b=>⟨_,_,rfl,a,b⟩)
theorem VR.noneI {F:FH} {v:Value} (h:VR F .none v):v=.none:=h.inv
theorem VR.boolI {F:FH} {v:Value} {b:Bool} (h:VR F (.bool b) v):v=.bool b:=h.inv
theorem VR.refI {F:FH} {v:Value} {a:Addr} (h:VR F (.ref a) v):v=.ref a:=h.inv
theorem VR.valI {F:FH} {v u:Value} (h:VR F (.val u) v):v=u:=h.inv
theorem VR.intI {F:FH} {v:Value} {i:Int} (h:VR F (.int i) v):∃t,v=.int i t:=h.inv
theorem VR.strI {F:FH} {v:Value} {i:Str} (h:VR F (.str i) v):∃t,v=.str i t:=h.inv
theorem VR.lstInv {F:FH} {l:List AV} {v:Value} (h:VR F (.lst l) v):∃a o vs n,v=.ref a∧F a=some o∧o.cls=.type "list"∧o.data=.seq (List.toArray vs) n∧VRs F l vs:=h.inv
theorem VR.tupInv {F:FH} {l:List AV} {v:Value} (h:VR F (.tup l) v):∃a o vs n,v=.ref a∧F a=some o∧o.cls=.type "tuple"∧o.data=.seq (List.toArray vs) n∧VRs F l vs:=h.inv
theorem VR.tupC {F:FH} {l:List AV} {v:Value} {P:Prop} (h:VR F (.tup l) v) (k:∀(vs:List Value) (a:Addr) (o:Obj) (n:Nat) (zo:v=.ref a) (za:F a=some o) (zb:o.cls=.type "tuple") (zc:o.data=.seq vs.toArray n) (zd:VRs F l vs),P):P:=by
 refine xa4_5 h.inv ?_;intro a o vs n q1 q2 q3 q4 q5;exact k vs a o n q1 q2 q3 q4 q5
theorem VR.lstC {F:FH} {l:List AV} {v:Value} {P:Prop} (h:VR F (.lst l) v) (k:∀(vs:List Value) (a:Addr) (o:Obj) (n:Nat) (zo:v=.ref a) (za:F a=some o) (zb:o.cls=.type "list") (zc:o.data=.seq vs.toArray n) (zd:VRs F l vs),P):P:=by
 refine xa4_5 h.inv ?_;intro a o vs n q1 q2 q3 q4 q5;exact k vs a o n q1 q2 q3 q4 q5
theorem VRs.nilI {F:FH} {vs:List Value} (h:VRs F [] vs):vs=[]:=h.invS
theorem VRs.consC {F:FH} {x:AV} {xs:List AV} {vs:List Value} {P:Prop} (h:VRs F (x::xs) vs) (k:∀(v:Value) (us:List Value) (zo:vs=v::us) (za:VR F x v) (zb:VRs F xs us),P):P:=by
 refine xa2_3 h.invS ?_;intro v us q1 q2 q3;exact k v us q1 q2 q3
theorem VRs.length {F:FH} {xs:List AV} {vs:List Value} (h:VRs F xs vs):vs.length=xs.length:=VRs.ind (M:=fun xs vs=>vs.length=xs.length) rfl (fun zu zu ih=>congrArg (·+1) ih) h
theorem VRs.get {F:FH} {xs:List AV} {vs:List Value} {i:Nat} {x:AV} (h:VRs F xs vs) (e:xs[i]? = some x):∃v,vs[i]? = some v∧VR F x v:=
 VRs.ind (M:=fun xs vs=>∀i,xs[i]? = some x→∃v,vs[i]? = some v∧VR F x v) (fun zu e=>Aj e) (fun {y ys v vs} a zu ih i=>Nat.casesOn (motive:=fun i=>(y::ys)[i]? = some x→∃u,(v::vs)[i]? = some u∧VR F x u) i (fun e=>⟨v,rfl,Option.some.inj e▸a⟩) (fun i e=>ih i e)) h i e
theorem VRs.append {F:FH} {xs ys:List AV} {vs us:List Value} (h:VRs F xs vs) (k:VRs F ys us):VRs F (xs++ys) (vs++us):=VRs.ind (M:=fun xs vs=>VRs F (xs++ys) (vs++us)) k (fun a zu ih=>.cons a ih) h
theorem VRs.none {F:FH} {xs vs} {i:Nat} (h:VRs F xs vs) (e:xs[i]? = Option.none):vs[i]? = Option.none:=by
 rw [List.getElem?_eq_none_iff] at e ⊢
 rw [h.length];exact e
theorem VRs.take {F:FH} {xs:List AV} {vs:List Value} (n:Nat) (h:VRs F xs vs):VRs F (xs.take n) (vs.take n):=
 VRs.ind (M:=fun xs vs=>∀n,VRs F (xs.take n) (vs.take n)) (fun n=>by rw [List.take_nil,List.take_nil];exact .nil) (fun {y ys v vs} a zu ih n=>Nat.casesOn (motive:=fun n=>VRs F ((y::ys).take n) ((v::vs).take n)) n .nil (fun n=>.cons a (ih n))) h n
theorem VRs.drop {F:FH} {xs:List AV} {vs:List Value} (n:Nat) (h:VRs F xs vs):VRs F (xs.drop n) (vs.drop n):=
 VRs.ind (M:=fun xs vs=>∀n,VRs F (xs.drop n) (vs.drop n)) (fun n=>by rw [List.drop_nil,List.drop_nil];exact .nil) (fun {y ys v vs} a b ih n=>Nat.casesOn (motive:=fun n=>VRs F ((y::ys).drop n) ((v::vs).drop n)) n (.cons a b) (fun n=>ih n)) h n
theorem VRs.one {F:FH} {x v} (h:VR F x v):VRs F [x] [v]:=.cons h .nil
inductive Og (F:FH):Option AV→Option Value→Prop
 |none:Og F Option.none Option.none
 |some {x v}:VR F x v→Og F (Option.some x) (Option.some v)
inductive BB (F:FH):List (Option AV)→List (Option Value)→Prop
 |nil:BB F [] []
 |cons {x xs v vs}:Og F x v→BB F xs vs→BB F (x::xs) (v::vs)
theorem Og.mono {F F':FH} (e:AE F F') {x v} (h:Og F x v):Og F' x v:=by
 cases h with
 |none=>exact .none
 |some a=>exact .some (a.mono e)
theorem BB.mono {F F':FH} (e:AE F F') {x v} (h:BB F x v):BB F' x v:=by
 induction h with
 |nil=>exact .nil
 |cons a zu ih=>exact .cons (a.mono e) ih
theorem BB.length {F:FH} {xs vs} (h:BB F xs vs):vs.length=xs.length:=by
 induction h with
 |nil=>rfl
 |cons zu zu2 ih=>simp [ih]
theorem BB.get {F:FH} {xs vs} (h:BB F xs vs) {i:Nat} {x} (e:xs[i]? = some (some x)):∃v,vs[i]? = some (some v)∧VR F x v:=by
 induction h generalizing i with
 |nil=>simp at e
 |cons a zu ih=>
  cases i with
  |zero=>simp at e;subst e;cases a with|some a=>exact ⟨_,rfl,a⟩
  |succ i=>simpa using ih (by simpa using e)
theorem BB.set {F:FH} {xs vs} (h:BB F xs vs) (i:Nat) {x v} (hv:Og F x v):BB F (xs.set i x) (vs.set i v):=by
 induction h generalizing i with
 |nil=>simpa using BB.nil
 |cons a b ih=>
  cases i with
  |zero=>simpa using BB.cons hv b
  |succ i=>simpa using BB.cons a (ih i)
inductive Aw where
 |i (k:Int)
 |s (x:Str)
 deriving DecidableEq,Inhabited
noncomputable def Aw.av:Aw→AV
 |.i k=>.int k
 |.s x=>.str x
noncomputable def Aw.is:Aw→Value→Bool
 |.i k,.int j _=>j == k
 |.s x,.str y _=>y == x
 |_,_=>false
noncomputable def Aw.hash (w:World):Aw→Int
 |.i k=>hashInt k
 |.s x=>hashStr w x
theorem Aw.is_shape {k:Aw} {v:Value} (h:k.is v=true):(∃i t,k=.i i∧v=.int i t)∨∃x t,k=.s x∧v=.str x t:=by
 cases k with
 |i k=>cases v with
  |int j t=>exact .inl ⟨k,t,rfl,by rw [beq_iff_eq.mp (show (j == k)=true from h)]⟩
  |_=>exact Bv h
 |s x=>cases v with
  |str y t=>exact .inr ⟨x,t,rfl,by rw [beq_iff_eq.mp (show (y == x)=true from h)]⟩
  |_=>exact Bv h
noncomputable def Bt (prog:Program) (w:World):KeyKind prog w Aw where
 is:=Aw.is
 hash:=Aw.hash w
 inj:=fun v a b ha hb=>by
  rcases Aw.is_shape ha with ⟨i,t,rfl,rfl⟩|⟨x,t,rfl,rfl⟩
  ·rcases Aw.is_shape hb with ⟨j,u,rfl,h⟩|⟨y,u,rfl,h⟩<;>cases h;rfl
  ·rcases Aw.is_shape hb with ⟨j,u,rfl,h⟩|⟨y,u,rfl,h⟩<;>cases h;rfl
 byValue:=fun k v h=>by rcases Aw.is_shape h with ⟨i,t,rfl,rfl⟩|⟨x,t,rfl,rfl⟩<;>rfl
 pyHash:=fun hv h=>by
  rcases Aw.is_shape hv with ⟨i,t,rfl,rfl⟩|⟨x,t,rfl,rfl⟩
  ·exact wpAny_pyHash_int h
  ·exact wpAny_pyHash_str h
 eqBool:=fun hu hv h=>by
  rcases Aw.is_shape hu with ⟨i,t,rfl,rfl⟩|⟨x,t,rfl,rfl⟩
  ·rcases Aw.is_shape hv with ⟨j,u,rfl,rfl⟩|⟨y,u,rfl,rfl⟩
   ·refine wpAny_eqBool_int ?_
    have:(i == j)=decide (Aw.i i=Aw.i j):=by
     by_cases q:i=j
     ·subst q;simp
     ·simp [q]
    rw [this];exact h
   ·have e:PySem.eqBool (.int i t) (.str y u)=(do truthOfDropped (←richCompare .Eq (.int i t) (.str y u))):=by rfl
    rw [e]
    refine wpAny_bind (EqMixed.eq_int_str (wpAny_truthy_bool ?_))
    simpa using h
  ·rcases Aw.is_shape hv with ⟨j,u,rfl,rfl⟩|⟨y,u,rfl,rfl⟩
   ·have e:PySem.eqBool (.str x t) (.int j u)=(do truthOfDropped (←richCompare .Eq (.str x t) (.int j u))):=by rfl
    rw [e]
    refine wpAny_bind (EqMixed.eq_str_int (wpAny_truthy_bool ?_))
    simpa using h
   ·refine wpAny_eqBool_str ?_
    have:decide (x=y)=decide (Aw.s x=Aw.s y):=by
     by_cases q:x=y
     ·subst q;simp
     ·simp [q]
    rw [this];exact h
 «strs»:=fun k x t v h=>by
  rcases Aw.is_shape h with ⟨i,u,rfl,h'⟩|⟨y,u,rfl,h'⟩
  ·cases h'
  ·cases h'
   cases v<;>rfl
inductive SV (F:FH):List (Aw×AV)→List (Aw×Value)→Prop
 |nil:SV F [] []
 |cons {k x v xs vs}:VR F x v→SV F xs vs→SV F ((k,x)::xs) ((k,v)::vs)
theorem SV.mono {F F':FH} (e:AE F F') {x v} (h:SV F x v):SV F' x v:=by
 induction h with
 |nil=>exact .nil
 |cons a zu ih=>exact .cons (a.mono e) ih
theorem SV.keys {F:FH} {x v} (h:SV F x v):v.map (·.1)=x.map (·.1):=by
 induction h with
 |nil=>rfl
 |cons a zu ih=>simp [ih]
theorem SV.length {F:FH} {x v} (h:SV F x v):v.length=x.length:=by
 induction h with
 |nil=>rfl
 |cons a zu ih=>simp [ih]
inductive NR (P:Params) (F:FH):List (Str×AV)→List DictEntry→Prop
 |nil:NR P F [] []
 |cons {k v es e ds t}:e.hash=PyData.keyHash P k→e.key=.str k t→VR F v e.val→NR P F es ds→NR P F ((k,v)::es) (e::ds)
theorem NR.mono {P:Params} {F F':FH} (e:AE F F') {x v} (h:NR P F x v):NR P F' x v:=by
 induction h with
 |nil=>exact .nil
 |cons a b c zu ih=>exact .cons a b (c.mono e) ih
inductive AO where
 |list (xs:List AV)
 |dict (l:List (Aw×AV)) (ep:Nat)
 |iset (S:Int→Bool) (n:Nat)
 |ns (fs:List (Str×AV))
 |inst (C d:Addr)
 |slot (C:Addr) (vs:List (Option AV))
 |fields (cls:String) (vs:List AV)
 |itr (cls:String) (vs:List AV)
 |frame (loc:List (Str×AV))
 |gen (g:Nat) (gs:GenState)
theorem PM {a b:List AV} (h:some (AO.list a)=some (AO.list b)):a=b:=AO.list.inj (Option.some.inj h)
theorem Qe {a b:List (Str×AV)} (h:some (AO.ns a)=some (AO.ns b)):a=b:=AO.ns.inj (Option.some.inj h)
theorem Pr {a b:List (Str×AV)} (h:some (AO.frame a)=some (AO.frame b)):a=b:=AO.frame.inj (Option.some.inj h)
theorem PO {a b:List (Aw×AV)} {m n:Nat} (h:some (AO.dict a m)=some (AO.dict b n)):a=b∧m=n:=AO.dict.inj (Option.some.inj h)
theorem PN {a b c d:Addr} (h:some (AO.inst a b)=some (AO.inst c d)):a=c∧b=d:=AO.inst.inj (Option.some.inj h)
theorem PJ {a b:Addr} {c d:List (Option AV)} (h:some (AO.slot a c)=some (AO.slot b d)):a=b∧c=d:=AO.slot.inj (Option.some.inj h)
theorem PZ {a b:String} {c d:List AV} (h:some (AO.itr a c)=some (AO.itr b d)):a=b∧c=d:=AO.itr.inj (Option.some.inj h)
theorem MF {a b:Nat} {c d:GenState} (h:some (AO.gen a c)=some (AO.gen b d)):a=b∧c=d:=AO.gen.inj (Option.some.inj h)
structure Cf where
 prog:Program
 w:World
 h0:Heap
 os:OsState
inductive OR (C:Cf) (F:FH) (gens:Array GenState):AO→Obj→Prop
 |list {xs o vs n}:o.cls=.type "list"→o.dict=none→o.slots=#[]→o.data=.seq vs.toArray n→VRs F xs vs→OR C F gens (.list xs) o
 |dict {l ep o es kvs}:o.ExactDict→o.data=.dict es ep→KeysOf (Bt C.prog C.w) es→Pairs (Bt C.prog C.w) es.toList kvs→(kvs.map (·.1)).Nodup→SV F l kvs→OR C F gens (.dict l ep) o
 |iset {S n o es ep t}:o.ExactSet→o.data=.set es ep t→ElemsOf (intKind C.prog C.w) es.toList→(∀k,S k=true↔∃e∈es.toList,(intKind C.prog C.w).is k e.2=true) →
   es.size<scanBound→t.fits es.size=true→es.size=n→OR C F gens (.iset S n) o
 |ns {fs o ds n}:o.ExactDict→o.data=.dict ds.toArray n→NR C.w.params F fs ds→OR C F gens (.ns fs) o
 |inst {K d}:OR C F gens (.inst K d) { cls:=.ref K,dict:=some d,data:=.plain }
 |slot {K vs us d}:F d=some emptyDict→BB F vs us→OR C F gens (.slot K vs) { cls:=.ref K,dict:=some d,data:=.plain,slots:=us.toArray }
 |fields {c vs o us}:o.cls=.type c→o.dict=none→o.slots=#[]→o.data=.fields us.toArray→VRs F vs us→OR C F gens (.fields c vs) o
 |itr {c vs o us}:o.cls=.type c→o.data=.fields us.toArray→VRs F vs us→OR C F gens (.itr c vs) o
 |frame {loc o es ep}:o.data=.dict es ep→StrKeys es→(∀x av,loc.lookup x=some av→∃v,nsFind es x=some v∧VR F av v)→OR C F gens (.frame loc) o
 |gen {g gs o n q t u}:o.cls=.type "generator"→o.dict=none→o.slots=#[]→o.data=.fields #[.int g 0,.str n t,.str q u]→gens[g]? = some gs→OR C F gens (.gen g gs) o
noncomputable def OR.Sh (C:Cf) (F:FH) (gens:Array GenState) (o:Obj):AO→Prop
 |.list xs=>∃vs n,o.cls=.type "list"∧o.dict=none∧o.slots=#[]∧o.data=.seq vs.toArray n∧VRs F xs vs
 |.dict l ep=>∃es kvs,o.ExactDict∧o.data=.dict es ep∧KeysOf (Bt C.prog C.w) es∧Pairs (Bt C.prog C.w) es.toList kvs∧(kvs.map (·.1)).Nodup∧SV F l kvs
 |.iset S n=>∃es ep t,o.ExactSet∧o.data=.set es ep t∧ElemsOf (intKind C.prog C.w) es.toList∧(∀k,S k=true↔∃e∈es.toList,(intKind C.prog C.w).is k e.2=true)∧es.size<scanBound∧t.fits es.size=true∧es.size=n
 |.ns fs=>∃ds n,o.ExactDict∧o.data=.dict (List.toArray ds) n∧NR C.w.params F fs ds
 |.inst K d=>o={ cls:=.ref K,dict:=some d,data:=.plain }
 |.slot K vs=>∃us d,o={ cls:=.ref K,dict:=some d,data:=.plain,slots:=List.toArray us }∧F d=some emptyDict∧BB F vs us
 |.fields c vs=>∃us,o.cls=.type c∧o.dict=none∧o.slots=#[]∧o.data=.fields (List.toArray us)∧VRs F vs us
 |.itr c vs=>∃us,o.cls=.type c∧o.data=.fields (List.toArray us)∧VRs F vs us
 |.frame loc=>∃es ep,o.data=.dict es ep∧StrKeys es∧∀x av,loc.lookup x=some av→∃v,nsFind es x=some v∧VR F av v
 |.gen g gs=>∃n q t u,o.cls=.type "generator"∧o.dict=none∧o.slots=#[]∧o.data=.fields #[.int g 0,.str n t,.str q u]∧gens[g]? = some gs
theorem OR.inv {C:Cf} {F:FH} {gens:Array GenState} {x:AO} {o:Obj} (h:OR C F gens x o):OR.Sh C F gens o x:=
 OR.casesOn (motive:=fun x o zu=>OR.Sh C F gens o x) h (fun a b c d e=>⟨_,_,a,b,c,d,e⟩) (fun a b c d e f=>⟨_,_,a,b,c,d,e,f⟩) (fun a b c d e f g=>⟨_,_,_,a,b,c,d,e,f,g⟩) (fun a b c=>⟨_,_,a,b,c⟩)
  rfl (fun a b=>⟨_,_,rfl,a,b⟩) (fun a b c d e=>⟨_,a,b,c,d,e⟩) (fun a b c=>⟨_,a,b,c⟩) (fun a b c=>⟨_,_,a,b,c⟩) (fun a b c d e=>⟨_,_,_,_,a,b,c,d,e⟩)
section
variable {C:Cf} {F:FH} {gens:Array GenState} {o:Obj} {P:Prop}
theorem OR.listC {xs:List AV} (h:OR C F gens (.list xs) o) (k:∀(vs:List Value) (n:Nat) (za:o.cls=.type "list") (zb:o.dict=none) (zc:o.slots=#[]) (zd:o.data=.seq vs.toArray n) (ze:VRs F xs vs),P):P:=by
 refine xa2_5 h.inv ?_;intro vs n a b c d e;exact k vs n a b c d e
theorem OR.dictC {l:List (Aw×AV)} {ep:Nat} (h:OR C F gens (.dict l ep) o) (k:∀(es:Array DictEntry) (kvs:List (Aw×Value)) (za:o.ExactDict) (zb:o.data=.dict es ep) (zc:KeysOf (Bt C.prog C.w) es) (zd:Pairs (Bt C.prog C.w) es.toList kvs) (ze:(kvs.map (·.1)).Nodup) (zf:SV F l kvs),P):P:=by
 refine xa2_6 h.inv ?_;intro vs n a b c d e f;exact k vs n a b c d e f
theorem OR.isetC {S:Int→Bool} {n:Nat} (h:OR C F gens (.iset S n) o) (k:∀(es ep t) (za:o.ExactSet) (zb:o.data=.set es ep t) (zc:ElemsOf (intKind C.prog C.w) es.toList) (zd:∀k,S k=true↔∃e∈es.toList,(intKind C.prog C.w).is k e.2=true) (ze:es.size<scanBound) (zf:t.fits es.size=true) (zg:es.size=n),P):P:=by
 refine xa3_7 h.inv ?_;intro vs m t a b c d e f g;exact k vs m t a b c d e f g
theorem OR.nsC {fs:List (Str×AV)} (h:OR C F gens (.ns fs) o) (k:∀(ds:List DictEntry) (n:Nat) (za:o.ExactDict) (zb:o.data=.dict ds.toArray n) (zc:NR C.w.params F fs ds),P):P:=by
 refine xa2_3 h.inv ?_;intro vs n a b c;exact k vs n a b c
theorem OR.instC {K d:Addr} (h:OR C F gens (.inst K d) o) (k:∀zo:o={ cls:=.ref K,dict:=some d,data:=.plain },P):P:=k h.inv
theorem OR.slotC {K:Addr} {vs:List (Option AV)} (h:OR C F gens (.slot K vs) o) (k:∀(us:List (Option Value)) (d:Addr) (zo:o={ cls:=.ref K,dict:=some d,data:=.plain,slots:=us.toArray }) (za:F d=some emptyDict) (zb:BB F vs us),P):P:=by
 refine xa2_3 h.inv ?_;intro us d a b c;exact k us d a b c
theorem OR.fieldsC {c:String} {vs:List AV} (h:OR C F gens (.fields c vs) o) (k:∀(us:List Value) (za:o.cls=.type c) (zb:o.dict=none) (zc:o.slots=#[]) (zd:o.data=.fields us.toArray) (ze:VRs F vs us),P):P:=by
 refine xa1_5 h.inv ?_;intro us a b c d e;exact k us a b c d e
theorem OR.itrC {c:String} {vs:List AV} (h:OR C F gens (.itr c vs) o) (k:∀(us:List Value) (za:o.cls=.type c) (zb:o.data=.fields us.toArray) (zc:VRs F vs us),P):P:=by
 refine xa1_3 h.inv ?_;intro us a b c;exact k us a b c
theorem OR.frameC {loc:List (Str×AV)} (h:OR C F gens (.frame loc) o) (k:∀(es:Array DictEntry) (ep:Nat) (za:o.data=.dict es ep) (zb:StrKeys es) (zc:∀x av,loc.lookup x=some av→∃v,nsFind es x=some v∧VR F av v),P):P:=by
 refine xa2_3 h.inv ?_;intro es ep a b c;exact k es ep a b c
theorem OR.genC {g:Nat} {gs:GenState} (h:OR C F gens (.gen g gs) o) (k:∀(n q t u) (za:o.cls=.type "generator") (zb:o.dict=none) (zc:o.slots=#[]) (zd:o.data=.fields #[.int g 0,.str n t,.str q u]) (ze:gens[g]? = some gs),P):P:=by
 refine xa4_5 h.inv ?_;intro n q t u a b c d e;exact k n q t u a b c d e
end
end
section
noncomputable abbrev HP:=Addr→Option AO
noncomputable def upd (hp:HP) (a:Addr) (x:AO):HP:=fun b=>if b=a then some x else hp b
@[simp] theorem Ae (hp:HP) (a:Addr) (x:AO):upd hp a x a=some x:=by simp [upd]
theorem Ad (hp:HP) {a b:Addr} (x:AO) (h:b≠a):upd hp a x b=hp b:=by simp [upd,h]
theorem OR.mono {C:Cf} {F F':FH} {gens:Array GenState} (e:AE F F') {x:AO} {o:Obj} (h:OR C F gens x o):OR C F' gens x o:=by
 cases h with
 |list a a1 a2 b c=>exact .list a a1 a2 b (c.mono e)
 |dict a b c d f g=>exact .dict a b c d f (g.mono e)
 |iset a b c d f g i=>exact .iset a b c d f g i
 |ns a b c=>exact .ns a b (c.mono e)
 |inst=>exact .inst
 |slot d a=>exact .slot (e _ _ d) (a.mono e)
 |fields a a1 a2 b c=>exact .fields a a1 a2 b (c.mono e)
 |itr a b c=>exact .itr a b (c.mono e)
 |frame a b c=>exact .frame a b fun x av h=>let ⟨v,q,r⟩:=c x av h;⟨v,q,r.mono e⟩
 |gen a a1 a2 b c=>exact .gen a a1 a2 b c
theorem AQ {α:Type} {m:Addr→Option α} {c:Addr} (hm:m c=none) {b:Addr} {o:α} (e:m b=some o):b≠c:=fun zE=>by (first|rw [zE,hm] at e|rw [←zE,hm] at e);exact Aj e
noncomputable def Fh (o o':Obj):Prop:=o'=o∨((∃es ep,o.data=.dict es ep)∧∃sl,o'={ o with slots:=sl })
theorem Fh.rfl' (o:Obj):Fh o o:=.inl rfl
theorem Fh.data {o o':Obj} (h:Fh o o'):o'.data=o.data:=by
 rcases h with rfl|⟨zu,sl,rfl⟩<;>rfl
theorem Fh.exact {o o':Obj} (h:Fh o o') (hd:∀es ep,o.data≠.dict es ep):o'=o:=by
 rcases h with rfl|⟨⟨es,ep,e⟩,zu⟩
 ·rfl
 ·exact absurd e (hd es ep)
structure Wd (C:Cf) (F G:FH) (hp:HP) (s:Shared):Prop where
 base:∀b o,C.h0.get? b=some o→F b=some o
 fz:∀b o,F b=some o→s.heap.get? b=some o
 gz:∀b o,G b=some o→∃o',s.heap.get? b=some o'∧Fh o o'
 ob:∀a x,hp a=some x→F a=none∧G a=none∧∃o,s.heap.get? a=some o∧OR C F s.gens x o
 os:s.os=C.os
 bare:AllBare s.gens
 gi:∀a b g gs gs',hp a=some (.gen g gs)→hp b=some (.gen g gs')→a=b
 fg:∀b o,F b=some o→G b=none
noncomputable def Dr:AO→Bool
 |.gen ..=>true
 |_=>false
theorem OR.gens {C:Cf} {F:FH} {g g':Array GenState} {x:AO} {o:Obj} (hx:Dr x=false) (h:OR C F g x o):OR C F g' x o:=by
 cases h with
 |list a a1 a2 b c=>exact .list a a1 a2 b c
 |dict a b c d f g=>exact .dict a b c d f g
 |iset a b c d f g i=>exact .iset a b c d f g i
 |ns a b c=>exact .ns a b c
 |inst=>exact .inst
 |slot d a=>exact .slot d a
 |fields a a1 a2 b c=>exact .fields a a1 a2 b c
 |itr a b c=>exact .itr a b c
 |frame a b c=>exact .frame a b c
 |gen a b c=>exact Dc hx
section
variable {C:Cf} {F G:FH} {hp:HP} {s:Shared}
theorem Wd.lt (W:Wd C F G hp s) {b:Addr} (h:s.heap.objs.size≤b):F b=none∧G b=none∧hp b=none:=by
 refine ⟨?_,?_,?_⟩
 ·cases e:F b with
  |none=>rfl
  |some o=>exact absurd (Heap.lt_size (W.fz b o e)) (Nat.not_lt.mpr h)
 ·cases e:G b with
  |none=>rfl
  |some o=>refine xa1_2 (W.gz b o e) ?_;intro o' ho zu;exact absurd (Heap.lt_size ho) (Nat.not_lt.mpr h)
 ·cases e:hp b with
  |none=>rfl
  |some x=>
   refine cps fun zP zk=>?_;(rcases W.ob b x e with ⟨zu,zu,o,ho,zu⟩)<;>(refine zk ?_;clear zk zP)
   exact absurd (Heap.lt_size ho) (Nat.not_lt.mpr h)
theorem Wd.keep (W:Wd C F G hp s) {h':Heap} {t:Nat} (k:∀b o,s.heap.get? b=some o→h'.get? b=some o):Wd C F G hp ⟨h',s.gens,s.drawn,t,s.os⟩:=
 ⟨W.base,fun b o e=>k _ _ (W.fz b o e),fun b o e=>let ⟨o',q,r⟩:=W.gz b o e;⟨o',k _ _ q,r⟩,fun a x e=>let ⟨p,q,o,ho,r⟩:=W.ob a x e;⟨p,q,o,k _ _ ho,r⟩,W.os,W.bare,W.gi,W.fg⟩
theorem Wd.keepBut (W:Wd C F G hp s) {h':Heap} {t:Nat} {c:Addr} (hF:F c=none) (hG:G c=none) (hh:hp c=none) (k:∀b o,b≠c→s.heap.get? b=some o→h'.get? b=some o):Wd C F G hp ⟨h',s.gens,s.drawn,t,s.os⟩:=by
 exact ⟨W.base,fun b o e=>k _ _ (AQ hF e) (W.fz b o e),fun b o e=>let ⟨o',q,r⟩:=W.gz b o e;⟨o',k _ _ (AQ hG e) q,r⟩,fun a x e=>let ⟨p,q,o,ho,r⟩:=W.ob a x e;⟨p,q,o,k _ _ (AQ hh e) ho,r⟩,W.os,W.bare,W.gi,W.fg⟩
theorem Wd.change (W:Wd C F G hp s) {h':Heap} {t:Nat} {c:Addr} {x x':AO} {o':Obj} (e:hp c=some x) (hx:Dr x'=false) (ho:h'.get? c=some o') (r:OR C F s.gens x' o')
  (k:∀b o,b≠c→s.heap.get? b=some o→h'.get? b=some o):Wd C F G (upd hp c x') ⟨h',s.gens,s.drawn,t,s.os⟩:=by
 refine xa0_3 (W.ob c x e) ?_;intro hF hG zu
 refine ⟨W.base,fun b o e=>k _ _ (AQ hF e) (W.fz b o e),fun b o e=>let ⟨o',q,r⟩:=W.gz b o e;⟨o',k _ _ (AQ hG e) q,r⟩,fun a y e'=>?_,W.os,W.bare,fun a b g gs gs' ea eb=>?_,W.fg⟩
 ·by_cases h:a=c
  ·subst h
   rw [Ae] at e';(have zc:=Option.some.inj e';clear e';subst zc)
   exact ⟨hF,hG,o',ho,r⟩
  ·rw [Ad _ _ h] at e'
   refine cps fun zP zk=>?_;(rcases W.ob a y e' with ⟨p,q,o,ho',r'⟩)<;>(refine zk ?_;clear zk zP)
   exact ⟨p,q,o,k _ _ h ho',r'⟩
 ·have na:a≠c:=fun zE=>by (first|rw [zE,Ae] at ea|rw [←zE,Ae] at ea);(have zc:=Option.some.inj ea;clear ea;subst zc);exact Dc hx
  have nb:b≠c:=fun zE=>by (first|rw [zE,Ae] at eb|rw [←zE,Ae] at eb);(have zc:=Option.some.inj eb;clear eb;subst zc);exact Dc hx
  rw [Ad _ _ na] at ea
  rw [Ad _ _ nb] at eb
  exact W.gi _ _ _ _ _ ea eb
theorem Wd.alloc (W:Wd C F G hp s) {t:Nat} {x':AO} {o':Obj} (hx:Dr x'=false) (hf:o'.isFreed=false) (r:OR C F s.gens x' o') :
  Wd C F G (upd hp s.heap.objs.size x') ⟨s.heap.push o',s.gens,s.drawn,t,s.os⟩:=by
 refine xa0_3 (W.lt (Nat.le_refl _)) ?_;intro hF hG hh
 have k:∀b o,s.heap.get? b=some o→(s.heap.push o').get? b=some o:=fun b o e=>Heap.get?_push_of_some _ e
 refine ⟨W.base,fun b o e=>k _ _ (W.fz b o e),fun b o e=>let ⟨o',q,r⟩:=W.gz b o e;⟨o',k _ _ q,r⟩,fun a y e'=>?_,W.os,W.bare,fun a b g gs gs' ea eb=>?_,W.fg⟩
 ·by_cases h:a=s.heap.objs.size
  ·subst h
   rw [Ae] at e';(have zc:=Option.some.inj e';clear e';subst zc)
   exact ⟨hF,hG,o',Heap.get?_push_size _ hf,r⟩
  ·rw [Ad _ _ h] at e'
   refine cps fun zP zk=>?_;(rcases W.ob a y e' with ⟨p,q,o,ho',r'⟩)<;>(refine zk ?_;clear zk zP)
   exact ⟨p,q,o,k _ _ ho',r'⟩
 ·have na:a≠s.heap.objs.size:=fun zE=>by (first|rw [zE,Ae] at ea|rw [←zE,Ae] at ea);(have zc:=Option.some.inj ea;clear ea;subst zc);exact Dc hx
  have nb:b≠s.heap.objs.size:=fun zE=>by (first|rw [zE,Ae] at eb|rw [←zE,Ae] at eb);(have zc:=Option.some.inj eb;clear eb;subst zc);exact Dc hx
  rw [Ad _ _ na] at ea
  rw [Ad _ _ nb] at eb
  exact W.gi _ _ _ _ _ ea eb
noncomputable def AS (F:FH) (a:Addr) (o:Obj):FH:=fun b=>if b=a then some o else F b
theorem Au (F:FH) (a:Addr) (o:Obj):AS F a o a=some o:=by simp [AS]
theorem Bb {F:FH} {a:Addr} (o:Obj) (h:F a=none):AE F (AS F a o):=fun b ob e=>by
 have:b≠a:=fun zE=>by (first|rw [zE,h] at e|rw [←zE,h] at e);exact Aj e
 simp [AS,this,e]
theorem Wd.freeze (W:Wd C F G hp s) {t:Nat} {o':Obj} (hf:o'.isFreed=false) :
  Wd C (AS F s.heap.objs.size o') G hp ⟨s.heap.push o',s.gens,s.drawn,t,s.os⟩∧AE F (AS F s.heap.objs.size o'):=by
 refine xa0_3 (W.lt (Nat.le_refl _)) ?_;intro hF hG hh
 have k:∀b o,s.heap.get? b=some o→(s.heap.push o').get? b=some o:=fun b o e=>Heap.get?_push_of_some _ e
 have ex:=Bb o' hF
 refine ⟨⟨fun b o e=>ex _ _ (W.base b o e),fun b o e=>?_,fun b o e=>let ⟨o',q,r⟩:=W.gz b o e;⟨o',k _ _ q,r⟩,fun a y e'=>?_,W.os,W.bare,W.gi,fun b o e=>?_⟩,ex⟩
 ·by_cases h:b=s.heap.objs.size
  ·subst h
   rw [Au] at e;(have zc:=Option.some.inj e;clear e;subst zc)
   exact Heap.get?_push_size _ hf
  ·simp only [AS,h,if_false] at e
   exact k _ _ (W.fz b o e)
 ·refine cps fun zP zk=>?_;(rcases W.ob a y e' with ⟨p,q,o,ho',r'⟩)<;>(refine zk ?_;clear zk zP)
  have h:a≠s.heap.objs.size:=fun zE=>by (first|rw [zE,hh] at e'|rw [←zE,hh] at e');exact Aj e'
  exact ⟨by simp [AS,h,p],q,o,k _ _ ho',r'.mono ex⟩
 ·by_cases h:b=s.heap.objs.size
  ·subst h;exact hG
  ·simp only [AS,h,if_false] at e
   exact W.fg b o e
end
structure Fm (F G:FH) (hp:HP) (env:Env) (loc:List (Str×AV)) (h:Heap):Prop where
 kind:env.scope.kind=.function
 ns:∃m,h.Ns env.locals m∧∀x av,loc.lookup x=some av→env.kindOf x=some .local→∃v,m x=some v∧VR F av v
 lo:F env.locals=none∧G env.locals=none∧hp env.locals=none
 co:∀x,env.kindOf x=some .cell→∃c,env.cells.lookup x=some c∧F c=none∧G c=none∧hp c=none∧c≠env.locals∧(∃v,h.IsCell c v)
 ci:∀x y c,env.kindOf x=some .cell→env.kindOf y=some .cell→env.cells.lookup x=some c→env.cells.lookup y=some c→x=y
 cv:∀x av c,loc.lookup x=some av→env.kindOf x=some .cell→env.cells.lookup x=some c→∃v,h.IsCell c (some v)∧VR F av v
 fv:∀x av,loc.lookup x=some av→env.kindOf x=some .free→∃c v o,env.cells.lookup x=some c∧G c=some o∧o.data=.cell (some v)∧VR F av v
structure Al where
 loc:List (Str×AV)
 hp:HP
noncomputable def Mr (G:FH) (e:Env):Prop:=e.scope.kind≠.module∧∃L o,e.frame=some L∧G L=some o∧∃es ep,o.data=.dict es ep
theorem Mr.mono {G G':FH} {e:Env} (x:AE G G') (h:Mr G e):Mr G' e:=let ⟨a,L,o,b,c,d⟩:=h;⟨a,L,o,b,x _ _ c,d⟩
noncomputable def Fs (A:Around) (G:FH):Prop:=∃l,A.frames=some l∧∀e∈l,Mr G e
noncomputable def G9 (A:Around) (G:FH) (env:Env):Prop:=∃e l,A.frames=some (e::l)∧e.scope.kind≠.module∧e.frame=env.frame∧((e=env∧env.frame=some env.locals)∨Mr G e)∧∀e'∈l,Mr G e'
theorem G9.mono {A:Around} {G G':FH} {env:Env} (x:AE G G') (h:G9 A G env):G9 A G' env:=
 let ⟨e,l,a,b,c,d,f⟩:=h;⟨e,l,a,b,c,d.imp id (Mr.mono x),fun e' h'=>(f e' h').mono x⟩
structure Rp (C:Cf) (A:Around) (F G:FH) (env:Env) (σ:Al) (s:Shared):Prop where
 wd:Wd C F G σ.hp s
 fm:Fm F G σ.hp env σ.loc s.heap
 fs:G9 A G env
section
variable {C:Cf} {F F' G:FH} {hp:HP} {env:Env} {loc:List (Str×AV)} {h h':Heap}
theorem Fm.keep (M:Fm F G hp env loc h) {F':FH} {hp':HP} (e:AE F F') (k:∀b o,h.get? b=some o→F b=none→G b=none→hp b=none→h'.get? b=some o∧F' b=none∧hp' b=none):Fm F' G hp' env loc h':=by
 refine cps fun zP zk=>?_;(rcases M with ⟨kd,⟨m,hm,hv⟩,⟨l1,l2,l3⟩,co,ci,cv,fv⟩)<;>(refine zk ?_;clear zk zP)
 refine xa3_2 (id hm) ?_;intro o es ep ho r
 refine xa0_3 (k _ _ ho l1 l2 l3) ?_;intro z1 z2 z3
 refine ⟨kd,⟨m,⟨o,es,ep,z1,r⟩,fun x av h1 h2=>let ⟨v,a,b⟩:=hv x av h1 h2;⟨v,a,b.mono e⟩⟩,⟨z2,l2,z3⟩,fun x hx=>?_,ci,fun x av c h1 h2 h3=>?_,fun x av h1 h2=>?_⟩
 ·refine cps fun zP zk=>?_;(rcases co x hx with ⟨c,hc,c1,c2,c3,c4,v,o,ho,hd⟩)<;>(refine zk ?_;clear zk zP)
  refine xa0_3 (k _ _ ho c1 c2 c3) ?_;intro y1 y2 y3
  exact ⟨c,hc,y2,c2,y3,c4,v,o,y1,hd⟩
 ·refine xa1_2 (cv x av c h1 h2 h3) ?_;intro v;intro zq;refine xa1_2 zq ?_;(try clear zq);intro o ho hd;intro hvr
  refine xa1_5 (co x h2) ?_;intro c' hc' c1 c2 c3 zu
  rw [h3] at hc';(have zc:=Option.some.inj hc';clear hc';subst zc)
  exact ⟨v,⟨o,(k _ _ ho c1 c2 c3).1,hd⟩,hvr.mono e⟩
 ·refine xa3_4 (fv x av h1 h2) ?_;intro c v o a1 a2 a3 a4
  exact ⟨c,v,o,a1,a2,a3,a4.mono e⟩
end
section
variable {C:Cf} {A:Around} {F G:FH} {env:Env} {σ:Al} {s:Shared}
theorem Rp.keep (R:Rp C A F G env σ s) {h':Heap} {t:Nat} (k:∀b o,s.heap.get? b=some o→h'.get? b=some o):Rp C A F G env σ ⟨h',s.gens,s.drawn,t,s.os⟩:=
 ⟨R.wd.keep k,R.fm.keep (AE.refl F) fun b o e a b' c=>⟨k _ _ e,a,c⟩,R.fs⟩
theorem Rp.tok (R:Rp C A F G env σ s) (t:Nat):Rp C A F G env σ { s with toks:=t }:=R.keep fun zu zu e=>e
theorem Rp.change (R:Rp C A F G env σ s) {h':Heap} {t:Nat} {c:Addr} {x x':AO} {o':Obj} (e:σ.hp c=some x) (hx:Dr x'=false) (ho:h'.get? c=some o') (r:OR C F s.gens x' o')
  (k:∀b o,b≠c→s.heap.get? b=some o→h'.get? b=some o):Rp C A F G env { σ with hp:=upd σ.hp c x' } ⟨h',s.gens,s.drawn,t,s.os⟩:=
 ⟨R.wd.change e hx ho r k,R.fm.keep (AE.refl F) fun b o e' a b' c'=>by
  have ne:b≠c:=fun zE=>by (first|rw [zE,e] at c'|rw [←zE,e] at c');exact Ap c'
  exact ⟨k _ _ ne e',a,by show upd σ.hp c x' b=none;rw [Ad _ _ ne];exact c'⟩,R.fs⟩
theorem Rp.alloc (R:Rp C A F G env σ s) {t:Nat} {x':AO} {o':Obj} (hx:Dr x'=false) (hf:o'.isFreed=false) (r:OR C F s.gens x' o') :
  Rp C A F G env { σ with hp:=upd σ.hp s.heap.objs.size x' } ⟨s.heap.push o',s.gens,s.drawn,t,s.os⟩:=
 ⟨R.wd.alloc hx hf r,R.fm.keep (AE.refl F) fun b o e' a b' c'=>by
  have ne:b≠s.heap.objs.size:=Nat.ne_of_lt (Heap.lt_size e')
  exact ⟨Heap.get?_push_of_some _ e',a,by show upd σ.hp _ x' b=none;rw [Ad _ _ ne];exact c'⟩,R.fs⟩
theorem Rp.freeze (R:Rp C A F G env σ s) {t:Nat} {o':Obj} (hf:o'.isFreed=false) :
  Rp C A (AS F s.heap.objs.size o') G env σ ⟨s.heap.push o',s.gens,s.drawn,t,s.os⟩∧AE F (AS F s.heap.objs.size o'):=by
 refine xa0_2 (R.wd.freeze (t:=t) hf) ?_;intro a e
 refine ⟨⟨a,R.fm.keep e fun b o e' a b' c'=>?_,R.fs⟩,e⟩
 have ne:b≠s.heap.objs.size:=Nat.ne_of_lt (Heap.lt_size e')
 exact ⟨Heap.get?_push_of_some _ e',by simp [AS,ne,a],c'⟩
theorem Rp.lt (R:Rp C A F G env σ s):σ.hp s.heap.objs.size=none:=(R.wd.lt (Nat.le_refl _)).2.2
end
inductive A0 {α β:Type} (C:Cf) (A:Around) (G:FH) (env:Env) (R:FH→β→α→Prop) (Q:β→Al→Prop) (F:FH) (v:α) (s':Shared):Prop
 |intro (F':FH) (b:β) (σ':Al) (e:AE F F') (r:R F' b v) (hR:Rp C A F' G env σ' s') (q:Q b σ')
noncomputable def Tr {α β:Type} (C:Cf) (A:Around) (E:Value→Shared→Prop) (env:Env) (R:FH→β→α→Prop) (t:Sem α) (σ:Al) (Q:β→Al→Prop):Prop:=
 ∀F G s,Rp C A F G env σ s→wpAny (model C.prog C.w) A t (A0 C A G env R Q F) E s
inductive A7 where
 |next|brk|cont
 |ret (v:AV)
inductive M4 (F:FH):A7→Flow→Prop
 |next:M4 F .next .next
 |brk:M4 F .brk .brk
 |cont:M4 F .cont .cont
 |ret {a v}:VR F a v→M4 F (.ret a) (.ret v)
noncomputable abbrev Ev (C:Cf) (A:Around) (E:Value→Shared→Prop) (env:Env) (e:Expr) (σ:Al) (Q:AV→Al→Prop):Prop:=Tr C A E env VR (eval e env) σ Q
noncomputable abbrev Ex (C:Cf) (A:Around) (E:Value→Shared→Prop) (env:Env) (e:Stmt) (σ:Al) (Q:A7→Al→Prop):Prop:=Tr C A E env M4 (exec e env) σ Q
noncomputable abbrev Cd (C:Cf) (A:Around) (E:Value→Shared→Prop) (env:Env) (e:List Stmt) (σ:Al) (Q:A7→Al→Prop):Prop:=Tr C A E env M4 (execs e env) σ Q
noncomputable abbrev Et (C:Cf) (A:Around) (E:Value→Shared→Prop) (env:Env) (e:Expr) (σ:Al) (Q:Bool→Al→Prop):Prop:=Tr C A E env (fun zu b b'=>b=b') (isTrue e env (eval e env)) σ Q
section
variable {C:Cf} {A:Around} {E:Value→Shared→Prop} {env:Env} {σ:Al}
theorem Tr.mono {α β:Type} {R:FH→β→α→Prop} {t:Sem α} {Q Q':β→Al→Prop} (h:Tr C A E env R t σ Q) (k:∀b σ',Q b σ'→Q' b σ'):Tr C A E env R t σ Q':=
 fun F G s hR=>wpAny_mono (h F G s hR) (fun _ _ ⟨F',b,σ',a1,a2,a3,a4⟩=>⟨F',b,σ',a1,a2,a3,k _ _ a4⟩) fun zu zu x=>x
theorem Tr.gen {α β:Type} {R:FH→β→α→Prop} {t:Sem α} {Q:β→Al→Prop} (h:∀K:β→Al→Prop,(∀b σ',Q b σ'→K b σ')→Tr C A E env R t σ K):Tr C A E env R t σ Q:=
 h Q fun zu zu x=>x
theorem An {Q:A7→Al→Prop} (h:Q .next σ):Cd C A E env [] σ Q:=
 fun F G s hR=>wpAny_execs_nil ⟨F,.next,σ,AE.refl F,.next,hR,h⟩
noncomputable def Pn (C:Cf) (A:Around) (E:Value→Shared→Prop) (env:Env) (rest:List Stmt) (Q:A7→Al→Prop) (f:A7) (σ:Al):Prop:=
 match f with
 |.next=>Cd C A E env rest σ Q
 |f=>Q f σ
theorem Aa {st:Stmt} {rest:List Stmt} {Q:A7→Al→Prop}
  (h:Ex C A E env st σ (Pn C A E env rest Q)):Cd C A E env (st::rest) σ Q:=by
 intro F G s hR
 refine wpAny_execs_cons (wpAny_mono (h F G s hR) ?_ fun zu zu x=>x)
 (rintro f s';intro zr;refine cps fun zP zk=>?_;(rcases zr with ⟨F',b,σ',e1,r,hR',hQ⟩)<;>(refine zk ?_;clear zk zP))
 cases r with
 |next=>exact wpAny_mono (hQ F' G s' hR') (fun _ _ ⟨F'',b,σ',a1,a2,a3,a4⟩=>⟨F'',b,σ',e1.trans a1,a2,a3,a4⟩) fun zu zu x=>x
 |brk=>exact ⟨F',_,σ',e1,.brk,hR',hQ⟩
 |cont=>exact ⟨F',_,σ',e1,.cont,hR',hQ⟩
 |ret r=>exact ⟨F',_,σ',e1,.ret r,hR',hQ⟩
theorem Bq {test:Expr} {body orelse:List Stmt} {pos:Pos} {Q:A7→Al→Prop}
  (h:Et C A E env test σ (fun b σ'=>if b then Cd C A E env body σ' Q else Cd C A E env orelse σ' Q)):Ex C A E env (.If test body orelse pos) σ Q:=by
 intro F G s hR
 refine wpAny_If (wpAny_mono (h F G s hR) ?_ fun zu zu x=>x)
 (rintro f s';intro zr;refine cps fun zP zk=>?_;(rcases zr with ⟨F',b,σ',e1,rfl,hR',hQ⟩)<;>(refine zk ?_;clear zk zP))
 cases b with
 |true=>exact wpAny_mono (hQ F' G s' hR') (fun _ _ ⟨F'',b,σ',a1,a2,a3,a4⟩=>⟨F'',b,σ',e1.trans a1,a2,a3,a4⟩) fun zu zu x=>x
 |false=>exact wpAny_mono (hQ F' G s' hR') (fun _ _ ⟨F'',b,σ',a1,a2,a3,a4⟩=>⟨F'',b,σ',e1.trans a1,a2,a3,a4⟩) fun zu zu x=>x
end
end
section
noncomputable def Fj:List (Str×AV)→Str→AV→List (Str×AV)
 |[],x,v=>[(x,v)]
 |(y,u)::r,x,v=>if y == x then (x,v)::r else (y,u)::Fj r x v
theorem Hg {x:Str} {v:AV}:Fj [] x v=[(x,v)]:=rfl
theorem Hf {x y:Str} {u v:AV} {r:List (Str×AV)}:Fj ((y,u)::r) x v=if y == x then (x,v)::r else (y,u)::Fj r x v:=rfl
theorem AI (l:List (Str×AV)) (x y:Str) (v:AV):(Fj l x v).lookup y=if y=x then some v else l.lookup y:=by
 induction l with
 |nil=>
  simp only [Hg,Hf,List.lookup]
  by_cases h:y=x
  ·subst h;simp
  ·simp [h,beq_eq_false_iff_ne.mpr h]
 |cons p r ih=>
  refine cps fun zP zk=>?_;(rcases p with ⟨k,u⟩)<;>(refine zk ?_;clear zk zP)
  simp only [Hg,Hf]
  by_cases hk:k=x
  ·subst hk
   simp only [beq_self_eq_true,if_true,List.lookup]
   by_cases h:y=k
   ·subst h;simp
   ·simp [h,beq_eq_false_iff_ne.mpr h]
  ·simp only [beq_eq_false_iff_ne.mpr hk,Bool.false_eq_true,if_false,List.lookup]
   by_cases h:y=k
   ·subst h;simp [hk]
   ·simp only [beq_eq_false_iff_ne.mpr h,ih]
@[reducible] noncomputable def Al.set (σ:Al) (x:Str) (v:AV):Al:={ σ with loc:=Fj σ.loc x v }
@[reducible] noncomputable def Al.put (σ:Al) (a:Addr) (x:AO):Al:={ σ with hp:=upd σ.hp a x }
section
variable {C:Cf} {A:Around} {E:Value→Shared→Prop} {env:Env} {σ:Al} {F G:FH} {s:Shared}
theorem A0.of {α β:Type} {R:FH→β→α→Prop} {Q:β→Al→Prop} {v:α} {b:β} (hr:R F b v) (hR:Rp C A F G env σ s) (q:Q b σ):A0 C A G env R Q F v s:=
 ⟨F,b,σ,AE.refl F,hr,hR,q⟩
theorem A0.ext {α β:Type} {R:FH→β→α→Prop} {Q:β→Al→Prop} {v:α} {F₁:FH} (e:AE F F₁) (h:A0 C A G env R Q F₁ v s):A0 C A G env R Q F v s:=by
 refine cps fun zP zk=>?_;(rcases h with ⟨F',b,σ',a1,a2,a3,a4⟩)<;>(refine zk ?_;clear zk zP)
 exact ⟨F',b,σ',e.trans a1,a2,a3,a4⟩
theorem Tr.use {α β:Type} {R:FH→β→α→Prop} {t:Sem α} {Q:β→Al→Prop} (h:Tr C A E env R t σ Q) (hR:Rp C A F G env σ s) {P:α→Shared→Prop}
  (k:∀F' b σ' v s',AE F F'→R F' b v→Rp C A F' G env σ' s'→Q b σ'→P v s'):wpAny (model C.prog C.w) A t P E s:=
 wpAny_mono (h F G s hR) (fun v s' ⟨F',b,σ',a1,a2,a3,a4⟩=>k F' b σ' v s' a1 a2 a3 a4) fun zu zu x=>x
theorem Tr.go {α β:Type} {R:FH→β→α→Prop} {t:Sem α} {Q:β→Al→Prop} {F₀:FH} (h:Tr C A E env R t σ Q) (hR:Rp C A F G env σ s) (e:AE F₀ F):wpAny (model C.prog C.w) A t (A0 C A G env R Q F₀) E s:=
 wpAny_mono (h F G s hR) (fun v s' z=>A0.ext e z) fun zu zu x=>x
theorem Bu {k pos} {Q:AV→Al→Prop} (h:Q .none σ):Ev C A E env (.Constant .none k pos) σ Q:=fun F G s hR=>wpAny_pure (A0.of .none hR h)
theorem FB {b k pos} {Q:AV→Al→Prop} (h:Q (.bool b) σ):Ev C A E env (.Constant (.bool b) k pos) σ Q:=fun F G s hR=>wpAny_pure (A0.of (.bool b) hR h)
theorem D0 {i k pos} {Q:AV→Al→Prop} (h:Q (.int i) σ):Ev C A E env (.Constant (.int i) k pos) σ Q:=fun F G s hR=>wpAny_Constant_int (A0.of (.int i _) (hR.tok _) h)
theorem Wd.gzx {hp:HP} (W:Wd C F G hp s) {b:Addr} {o:Obj} (e:G b=some o) (hd:∀es ep,o.data≠.dict es ep):s.heap.get? b=some o:=by
 refine xa1_2 (W.gz b o e) ?_;intro o' h1 h2
 rw [←h2.exact hd];exact h1
noncomputable def Cg:Option NameKind→Bool
 |some .local=>true
 |some .cell=>true
 |some .free=>true
 |_=>false
theorem Ih {x:Str} {av:AV} {Q:Value→Shared→Prop} (hR:Rp C A F G env σ s) (hv:σ.loc.lookup x=some av) (hk:Cg (env.kindOf x)=true) (hn:(x == ("__classdict__" : Str))=false)
  (h:∀v,VR F av v→Q v s):wpAny (model C.prog C.w) A (loadName env x) Q E s:=by
 cases q:env.kindOf x with
 |none=>rw [q] at hk;exact Bv hk
 |some kd=>
  rw [q] at hk
  cases kd<;>first|(first|exact Bv hk|cases hk)|skip
  ·refine xa1_2 hR.fm.ns ?_;intro m hm hv'
   refine xa1_2 (hv' x av hv q) ?_;intro v h1 h2
   exact wpAny_loadName_local hR.fm.kind q hm h1 (h v h2)
  ·refine xa1_2 (hR.fm.co x q) ?_;intro c hc zu
   refine xa1_2 (hR.fm.cv x av c hv q hc) ?_;intro v h1 h2
   exact wpAny_loadName_cell hR.fm.kind q hc h1 (h v h2)
  ·refine xa3_4 (hR.fm.fv x av hv q) ?_;intro c v o h1 h2 h3 h4
   exact wpAny_loadName_free hR.fm.kind q h1 ⟨o,hR.wd.gzx h2 (by intro es ep z;rw [h3] at z;cases z),h3⟩ (h v h4) hn
theorem Ab {x pos av} {Q:AV→Al→Prop} (hv:σ.loc.lookup x=some av) (h:Q av σ) (hk:autoParam (Cg (env.kindOf x)=true) AC.aux0._auto_1)
  (hd:autoParam ((x == ("__debug__" : Str))=false) AC.aux1._auto_1) (hn:autoParam ((x == ("__classdict__" : Str))=false) AC.aux1._auto_1):Ev C A E env (.Name x pos) σ Q:=
 fun F G s hR=>wpAny_Name (Ih hR hv hk hn fun v hv=>A0.of hv hR h) hd
noncomputable def GL (C:Cf) (x:Str) (v:Value):Prop:=∀env:Env,env.globals=mainGlobals→env.builtins=builtinsNs→Looks (model C.prog C.w) C.h0 (loadGlobal env x) v
theorem Wd.old {hp:HP} (W:Wd C F G hp s):∀b o,C.h0.get? b=some o→s.heap.get? b=some o:=fun b o e=>W.fz _ _ (W.base _ _ e)
theorem D8 {env:Env} {x:Str} (hs:env.scope.kind=.function) (hk:env.kindOf x=some .globalImplicit):loadName env x=loadGlobal env x:=by
 unfold loadName
 simp only [Env.blockKind,hs,hk,ScopeKind.isAnnotationScope,Bool.false_and,Bool.false_eq_true,if_false]
theorem Ha {x pos v} {Q:AV→Al→Prop} (av:AV) (hg:GL C x v) (ha:∀F,VR F av v) (h:Q av σ) (hk:autoParam (env.kindOf x=some .globalImplicit) AC.aux0._auto_1) (hs:autoParam (env.scope.kind=.function) AC.aux0._auto_1) (h1:autoParam (env.globals=mainGlobals) AC.aux0._auto_1) (h2:autoParam (env.builtins=builtinsNs) AC.aux0._auto_1)
  (hd:autoParam ((x == ("__debug__" : Str))=false) AC.aux1._auto_1):Ev C A E env (.Name x pos) σ Q:=by
 intro F G s hR
 refine wpAny_Name ?_ hd
 rw [D8 hs hk]
 exact hg env h1 h2 A _ E s hR.wd.old (A0.of (ha F) hR h)
theorem Db {x pos a} {Q:AV→Al→Prop} (hg:GL C x (.ref a)) (h:Q (.ref a) σ) (hk:autoParam (env.kindOf x=some .globalImplicit) AC.aux0._auto_1) (hs:autoParam (env.scope.kind=.function) AC.aux0._auto_1) (h1:autoParam (env.globals=mainGlobals) AC.aux0._auto_1) (h2:autoParam (env.builtins=builtinsNs) AC.aux0._auto_1)
  (hd:autoParam ((x == ("__debug__" : Str))=false) AC.aux1._auto_1):Ev C A E env (.Name x pos) σ Q:=Ha _ hg (fun F=>.ref a) h hk hs h1 h2 hd
theorem C5 {x pos v} {Q:AV→Al→Prop} (hg:GL C x v) (h:Q (.val v) σ) (hk:autoParam (env.kindOf x=some .globalImplicit) AC.aux0._auto_1) (hs:autoParam (env.scope.kind=.function) AC.aux0._auto_1) (h1:autoParam (env.globals=mainGlobals) AC.aux0._auto_1) (h2:autoParam (env.builtins=builtinsNs) AC.aux0._auto_1)
  (hd:autoParam ((x == ("__debug__" : Str))=false) AC.aux1._auto_1):Ev C A E env (.Name x pos) σ Q:=Ha _ hg (fun F=>.val v) h hk hs h1 h2 hd
theorem Cp {x:Str} {av:AV} {v:Value} {Q:Unit→Shared→Prop} (hR:Rp C A F G env σ s) (hv:VR F av v) (hk:env.kindOf x=some .local∨env.kindOf x=some .cell)
  (h:∀s',Rp C A F G env (σ.set x av) s'→Q () s'):wpAny (model C.prog C.w) A (storeName env x v) Q E s:=by
 refine cps fun zP zk=>?_;(rcases hR.fm with ⟨kd,⟨m,hm,hmv⟩,⟨l1,l2,l3⟩,co,ci,cv,fv⟩)<;>(refine zk ?_;clear zk zP)
 have hfs:=hR.fs
 rcases hk with hk|hk
 ·refine wpAny_storeName_local hk hm (fun h' hn hs=>h _ ⟨?_,?_,hfs⟩) (by rw [kd];rfl)
  ·exact hR.wd.keepBut l1 l2 l3 fun b o ne e=>(hs.2 b ne).trans e
  ·refine ⟨kd,⟨_,hn,fun y aw hl hy=>?_⟩,⟨l1,l2,l3⟩,fun y hy=>?_,ci,fun y aw c hl hy hc=>?_,fun y aw hl hy=>?_⟩
   ·rw [AI] at hl
    by_cases e:y=x
    ·subst e;simp only [if_true] at hl ⊢;(have zc:=Option.some.inj hl;clear hl;subst zc);exact ⟨v,rfl,hv⟩
    ·simp only [e,if_false] at hl ⊢;exact hmv y aw hl hy
   ·refine cps fun zP zk=>?_;(rcases co y hy with ⟨c,h1,h2,h3,h4,h5,u,h6⟩)<;>(refine zk ?_;clear zk zP)
    exact ⟨c,h1,h2,h3,h4,h5,u,h6.sameBut hs h5⟩
   ·have e:y≠x:=fun zE=>by (first|rw [zE,hk] at hy|rw [←zE,hk] at hy);cases hy
    rw [AI,if_neg e] at hl
    refine xa1_2 (cv y aw c hl hy hc) ?_;intro u h1 h2
    refine xa1_6 (co y hy) ?_;intro c' g1 zu zu zu g5 zu
    rw [hc] at g1;(have zc:=Option.some.inj g1;clear g1;subst zc)
    exact ⟨u,h1.sameBut hs g5,h2⟩
   ·have e:y≠x:=fun zE=>by (first|rw [zE,hk] at hy|rw [←zE,hk] at hy);cases hy
    rw [AI,if_neg e] at hl
    exact fv y aw hl hy
 ·refine cps fun zP zk=>?_;(rcases co x hk with ⟨c,h1,h2,h3,h4,h5,u,h6⟩)<;>(refine zk ?_;clear zk zP)
  refine wpAny_storeName_cell kd hk h1 h6 fun h' hc' hs=>h _ ⟨?_,?_,hfs⟩
  ·exact hR.wd.keepBut h2 h3 h4 fun b o ne e=>(hs.2 b ne).trans e
  ·refine ⟨kd,⟨m,hm.sameBut hs h5.symm,fun y aw hl hy=>?_⟩,⟨l1,l2,l3⟩,fun y hy=>?_,ci,fun y aw d hl hy hd=>?_,fun y aw hl hy=>?_⟩
   ·have e:y≠x:=fun zE=>by (first|rw [zE,hk] at hy|rw [←zE,hk] at hy);cases hy
    rw [AI,if_neg e] at hl
    exact hmv y aw hl hy
   ·refine cps fun zP zk=>?_;(rcases co y hy with ⟨d,g1,g2,g3,g4,g5,u',g6⟩)<;>(refine zk ?_;clear zk zP)
    by_cases e:d=c
    ·subst e;exact ⟨d,g1,g2,g3,g4,g5,_,hc'⟩
    ·exact ⟨d,g1,g2,g3,g4,g5,u',g6.sameBut hs e⟩
   ·rw [AI] at hl
    by_cases e:y=x
    ·subst e
     simp only [if_true] at hl;(have zc:=Option.some.inj hl;clear hl;subst zc)
     rw [h1] at hd;(have zc:=Option.some.inj hd;clear hd;subst zc)
     exact ⟨v,hc',hv⟩
    ·rw [if_neg e] at hl
     refine xa1_2 (cv y aw d hl hy hd) ?_;intro u' g1 g2
     have ne:d≠c:=by rintro rfl;exact e (ci y x d hy hk hd h1)
     exact ⟨u',g1.sameBut hs ne,g2⟩
   ·have e:y≠x:=fun zE=>by (first|rw [zE,hk] at hy|rw [←zE,hk] at hy);cases hy
    rw [AI,if_neg e] at hl
    exact fv y aw hl hy
noncomputable def E3:Option NameKind→Bool
 |some .local=>true
 |some .cell=>true
 |_=>false
theorem CH {k:Option NameKind} (h:E3 k=true):k=some .local∨k=some .cell:=by
 cases k with
 |none=>exact Bv h
 |some k=>cases k<;>first|exact .inl rfl|exact .inr rfl|(first|exact Bv h|cases h)
theorem Ah {x pos' value pos} {Q:A7→Al→Prop} (h:Ev C A E env value σ (fun v σ'=>Q .next (σ'.set x v))) (hk:autoParam (E3 (env.kindOf x)=true) AC.aux0._auto_1)
  (hs:autoParam (swapsWith value (some (.Name x pos')) pos.line env=pure false) AC.aux0._auto_1):Ex C A E env (.Assign [.Name x pos'] value pos) σ Q:=by
 intro F G s hR
 refine wpAny_Assign_Name (h.use hR fun F' b σ' v s' e hv hR' hQ=>?_) hs
 exact Cp hR' hv (CH hk) fun s'' hR''=>A0.ext e (A0.of .next hR'' hQ)
theorem BT {e pos} {Q:A7→Al→Prop} (h:Ev C A E env e σ (fun v σ'=>Q (.ret v) σ')):Ex C A E env (.Return (some e) pos) σ Q:=by
 intro F G s hR
 exact wpAny_Return_some (h.use hR fun F' b σ' v s' e hv hR' hQ=>A0.ext e (A0.of (.ret hv) hR' hQ))
theorem Dz {pos} {Q:A7→Al→Prop} (h:Q (.ret .none) σ):Ex C A E env (.Return none pos) σ Q:=
 fun F G s hR=>wpAny_Return_none (A0.of (.ret .none) hR h)
theorem Gz {pos} {Q:A7→Al→Prop} (h:Q .brk σ):Ex C A E env (.Break pos) σ Q:=fun F G s hR=>wpAny_Break (A0.of .brk hR h)
theorem Fi {pos} {Q:A7→Al→Prop} (h:Q .cont σ):Ex C A E env (.Continue pos) σ Q:=fun F G s hR=>wpAny_Continue (A0.of .cont hR h)
end
end
section
section
variable {C:Cf} {A:Around} {E:Value→Shared→Prop} {env:Env} {σ:Al} {F G:FH} {s:Shared}
noncomputable def Hz {α β:Type} (C:Cf) (A:Around) (E:Value→Shared→Prop) (env:Env) (R:FH→β→α→Prop) (f:Value→Sem α) (x:AV) (σ:Al) (Q:β→Al→Prop):Prop:=
 ∀F G s v,Rp C A F G env σ s→VR F x v→wpAny (model C.prog C.w) A (f v) (A0 C A G env R Q F) E s
noncomputable def Eg {α β:Type} (C:Cf) (A:Around) (E:Value→Shared→Prop) (env:Env) (R:FH→β→α→Prop) (f:Value→Value→Sem α) (x y:AV) (σ:Al) (Q:β→Al→Prop):Prop:=
 ∀F G s v u,Rp C A F G env σ s→VR F x v→VR F y u→wpAny (model C.prog C.w) A (f v u) (A0 C A G env R Q F) E s
theorem Hz.at {α β:Type} {R:FH→β→α→Prop} {f:Value→Sem α} {x:AV} {Q:β→Al→Prop} (h:Hz C A E env R f x σ Q) {F₀:FH} (e:AE F₀ F) (hR:Rp C A F G env σ s) {v:Value} (hv:VR F x v) :
  wpAny (model C.prog C.w) A (f v) (A0 C A G env R Q F₀) E s:=wpAny_mono (h F G s v hR hv) (fun zu zu z=>A0.ext e z) fun zu zu x=>x
theorem Eg.at {α β:Type} {R:FH→β→α→Prop} {f:Value→Value→Sem α} {x y:AV} {Q:β→Al→Prop} (h:Eg C A E env R f x y σ Q) {F₀:FH} (e:AE F₀ F) (hR:Rp C A F G env σ s) {v u:Value} (hv:VR F x v) (hu:VR F y u) :
  wpAny (model C.prog C.w) A (f v u) (A0 C A G env R Q F₀) E s:=wpAny_mono (h F G s v u hR hv hu) (fun zu zu z=>A0.ext e z) fun zu zu x=>x
theorem As {value:Expr} {attr:Str} {pos:Pos} {Q:AV→Al→Prop} (h:Ev C A E env value σ (fun o σ'=>Hz C A E env VR (fun v=>getAttr v attr true) o σ' Q))
  (hb:autoParam (attributeBase value attr env (eval value env)=eval value env) AC.aux0._auto_1):Ev C A E env (.Attribute value attr pos) σ Q:=by
 intro F G s hR
 rw [arm_eval_Attribute,hb]
 refine wpAny_bind (h.use hR fun F' b σ' v s' e hv hR' hQ=>wpAny_bind (wpAny_standAt (wpAny_bind (wpAny_holding (wpAny_mono (hQ.at e hR' hv) (fun r s₂ z=>?_) fun zu zu x=>x)))))
 exact wpAny_bind (wpAny_letTemporaryGo (wpAny_pure z))
theorem My {l r:Expr} {op:Operator} {pos:Pos} {Q:AV→Al→Prop} (h:Ev C A E env l σ (fun a σ₁=>Ev C A E env r σ₁ (fun b σ₂=>Eg C A E env VR (binaryOp op) a b σ₂ Q))):Ev C A E env (.BinOp l op r pos) σ Q:=by
 intro F G s hR
 refine wpAny_BinOp (h.use hR fun F₁ a σ₁ va s₁ e₁ ha hR₁ h₁=>h₁.use hR₁ fun F₂ b σ₂ vb s₂ e₂ hb hR₂ h₂=>?_)
 exact h₂.at (e₁.trans e₂) hR₂ (ha.mono e₂) hb
theorem Ot {l r:Expr} {op:CmpOp} {pos:Pos} {Q:AV→Al→Prop} (h:Ev C A E env l σ (fun a σ₁=>Ev C A E env r σ₁ (fun b σ₂=>Eg C A E env VR (compareOp op) a b σ₂ Q)))
  (hm:autoParam (behindInMarks op r=false) AC.aux2._auto_1):Ev C A E env (.Compare l [op] [r] pos) σ Q:=by
 intro F G s hR
 refine wpAny_Compare1 (h.use hR fun F₁ a σ₁ va s₁ e₁ ha hR₁ h₁=>h₁.use hR₁ fun F₂ b σ₂ vb s₂ e₂ hb hR₂ h₂=>?_) hm
 exact h₂.at (e₁.trans e₂) hR₂ (ha.mono e₂) hb
theorem Bi {l r:Expr} {op:CmpOp} {pos:Pos} {Q:Bool→Al→Prop} (h:Ev C A E env l σ (fun a σ₁=>Ev C A E env r σ₁ (fun b σ₂=>Eg C A E env VR (compareOp op) a b σ₂ (fun c σ₃=>∃t,c=.bool t∧Q t σ₃))))
  (hm:autoParam (behindInMarks op r=false) AC.aux2._auto_1):Et C A E env (.Compare l [op] [r] pos) σ Q:=by
 intro F G s hR
 refine wpAny_isTrue_Compare1 (h.use hR fun F₁ a σ₁ va s₁ e₁ ha hR₁ h₁=>h₁.use hR₁ fun F₂ b σ₂ vb s₂ e₂ hb hR₂ h₂=>?_) hm
 refine wpAny_mono (h₂.at (e₁.trans e₂) hR₂ (ha.mono e₂) hb) (fun c s₃ z=>?_) fun zu zu x=>x
 refine cps fun zP zk=>?_;(rcases z with ⟨F',b,σ',a1,a2,a3,t,rfl,a4⟩)<;>(refine zk ?_;clear zk zP)
 (have zc:=VR.boolI a2;clear a2;subst zc)
 exact wpAny_truthy_bool ⟨F',t,σ',a1,rfl,a3,a4⟩
theorem Ou {x:Expr} {pos:Pos} {Q:Bool→Al→Prop} (h:Et C A E env x σ (fun b σ'=>Q (!b) σ')):Et C A E env (.UnaryOp .Not x pos) σ Q:=by
 intro F G s hR
 show wpAny _ _ (do return !(←isTrue x env (eval x env))) _ _ _
 exact wpAny_bind (h.use hR fun F₁ b σ₁ v s₁ e₁ ha hR₁ h₁=>wpAny_pure ⟨F₁,_,σ₁,e₁,by rw [ha],hR₁,h₁⟩)
theorem Ov {x y:Expr} {pos:Pos} {Q:Bool→Al→Prop} (h:Et C A E env x σ (fun b σ'=>match b with|true=>Et C A E env y σ' Q|false=>Q false σ')):Et C A E env (.BoolOp .And [x,y] pos) σ Q:=by
 intro F G s hR
 show wpAny _ _ (do match BoolOp.And,←isTrue x env (eval x env) with|.And,false=>pure false|.Or,true=>pure true|_,_=>(do match BoolOp.And,←isTrue y env (eval y env) with|.And,false=>pure false|.Or,true=>pure true|_,_=>pure (BoolOp.And == BoolOp.And))) _ _ _
 refine wpAny_bind (h.use hR fun F₁ b σ₁ v s₁ e₁ ha hR₁ h₁=>?_)
 subst ha
 cases b with
 |false=>exact wpAny_pure ⟨F₁,_,σ₁,e₁,rfl,hR₁,h₁⟩
 |true=>
  refine wpAny_bind (h₁.use hR₁ fun F₂ b σ₂ v s₂ e₂ ha hR₂ h₂=>?_)
  subst ha
  cases b<;>exact wpAny_pure ⟨F₂,_,σ₂,e₁.trans e₂,rfl,hR₂,h₂⟩
noncomputable def EJ:Expr→Bool
 |.UnaryOp .Not ..=>false
 |.BoolOp ..=>false
 |.IfExp ..=>false
 |.Compare ..=>false
 |_=>true
theorem E2 {x:Expr} (hp:EJ x=true):isTrue x env (eval x env)=(do let v ←eval x env;standAt x.pos;holding [v] (truthy v)):=by
 cases x<;>first|rfl|(first|exact Bv hp|cases hp)|(rename_i op _ _;cases op<;>first|rfl|(first|exact Bv hp|cases hp))
theorem B4 {x:Expr} {Q:Bool→Al→Prop} (h:Ev C A E env x σ (fun v σ'=>Hz C A E env (fun zu b b'=>b=b') truthy v σ' Q)) (hp:autoParam (EJ x=true) AC.aux0._auto_1):Et C A E env x σ Q:=by
 intro F G s hR
 rw [E2 hp]
 exact wpAny_bind (h.use hR fun F₁ a σ₁ va s₁ e₁ ha hR₁ h₁=>wpAny_bind (wpAny_standAt (wpAny_holding (h₁.at e₁ hR₁ ha))))
theorem Bl {b:Bool} {Q:Bool→Al→Prop} (h:Q b σ):Hz C A E env (fun zu b b'=>b=b') truthy (.bool b) σ Q:=by
 intro F G s v hR hv
 (have zc:=VR.boolI hv;clear hv;subst zc)
 exact wpAny_truthy_bool (A0.of rfl hR h)
theorem Fy {x:AV} {Q:AV→Al→Prop} (hx:∃a,x=.ref a) (h:Q (.bool false) σ):Eg C A E env VR (compareOp .Is) x .none σ Q:=by
 intro F G s v u hR hv hu
 refine xa1_1 hx ?_;(try clear hx);intro a;rintro rfl
 (have zc:=VR.refI hv;clear hv;subst zc);(have zc:=VR.noneI hu;clear hu;subst zc)
 exact is_ref_none (A0.of (.bool _) hR h)
theorem Ck {Q:AV→Al→Prop} (h:Q (.bool true) σ):Eg C A E env VR (compareOp .Is) .none .none σ Q:=by
 intro F G s v u hR hv hu
 (have zc:=VR.noneI hv;clear hv;subst zc);(have zc:=VR.noneI hu;clear hu;subst zc)
 exact wpAny_is_self rfl (A0.of (.bool _) hR h)
theorem E6 {gens} {x:AO} {o:Obj} (h:OR C F gens x o) (hx:∀loc,x≠.frame loc) (hf:∀c vs,(x=.fields c vs∨x=.itr c vs)→c≠"tuple"):o.cls≠.type "tuple":=by
 cases h with
 |list a=>rw [a];simp
 |dict a=>rw [a.1];simp
 |iset a=>rw [a.1];simp
 |ns a=>rw [a.1];simp
 |inst=>simp
 |slot=>simp
 |fields a=>rw [a];simpa using hf _ _ (.inl rfl)
 |itr a=>rw [a];simpa using hf _ _ (.inr rfl)
 |frame=>exact absurd rfl (hx _)
 |gen a=>rw [a];simp
theorem NW {a b:Addr} {x y:AO} {Q:AV→Al→Prop} (ha:σ.hp a=some x) (hb:σ.hp b=some y) (hx:(∃K vs,x=.slot K vs)∨∃K d,x=.inst K d) (h:Q (.bool (decide (a=b))) σ):Eg C A E env VR (compareOp .Is) (.ref a) (.ref b) σ Q:=by
 intro F G s v u hR hv hu
 (have zc:=VR.refI hv;clear hv;subst zc);(have zc:=VR.refI hu;clear hu;subst zc)
 by_cases e:a=b
 ·subst e
  exact wpAny_is_ref_self (A0.of (.bool _) hR (by simpa using h))
 ·refine cps fun zP zk=>?_;(rcases hR.wd.ob a x ha with ⟨zu,zu,o,ho,r⟩)<;>(refine zk ?_;clear zk zP)
  refine cps fun zP zk=>?_;(rcases hR.wd.ob b y hb with ⟨zu,zu,o',ho',r'⟩)<;>(refine zk ?_;clear zk zP)
  exact wpAny_is_ref_other e ho ho' (E6 r (by rcases hx with ⟨zu,zu,rfl⟩|⟨zu,zu,rfl⟩<;>simp) (by rcases hx with ⟨zu,zu,rfl⟩|⟨zu,zu,rfl⟩<;>simp)) (A0.of (.bool _) hR (by simpa [e] using h))
theorem Kt {a b:Addr} {x y:AO} {Q:AV→Al→Prop} (ha:σ.hp a=some x) (hb:σ.hp b=some y) (hx:(∃K vs,x=.slot K vs)∨∃K d,x=.inst K d) (h:Q (.bool (!decide (a=b))) σ):Eg C A E env VR (compareOp .IsNot) (.ref a) (.ref b) σ Q:=by
 intro F G s v u hR hv hu
 (have zc:=VR.refI hv;clear hv;subst zc);(have zc:=VR.refI hu;clear hu;subst zc)
 by_cases e:a=b
 ·subst e
  exact wpAny_isNot_ref_self (A0.of (.bool _) hR (by simpa using h))
 ·refine cps fun zP zk=>?_;(rcases hR.wd.ob a x ha with ⟨zu,zu,o,ho,r⟩)<;>(refine zk ?_;clear zk zP)
  refine cps fun zP zk=>?_;(rcases hR.wd.ob b y hb with ⟨zu,zu,o',ho',r'⟩)<;>(refine zk ?_;clear zk zP)
  exact wpAny_isNot_ref_other e ho ho' (E6 r (by rcases hx with ⟨zu,zu,rfl⟩|⟨zu,zu,rfl⟩<;>simp) (by rcases hx with ⟨zu,zu,rfl⟩|⟨zu,zu,rfl⟩<;>simp)) (A0.of (.bool _) hR (by simpa [e] using h))
end
end
section
noncomputable def C7 (C:Cf) (Cl:Addr) (name:Str) (i:Nat):Prop:=∃(K:Frag) (p:Addr),K.In C.h0 ∧
 findIn K (.ref Cl) "__getattribute__" = some (some (.builtin "object.__getattribute__"))∧findIn K (.ref Cl) "__getattr__" = some none ∧
 findObj K Cl (some emptyDict) name=some (.bind (.builtin "member_descriptor.__get__") (.ref p))∧slotIn K p Cl=some i ∧
 findIn K (.ref Cl) "__setattr__" = some (some (.builtin "object.__setattr__"))∧plainOver K Cl=true∧takerIn K Cl name=some (some (.ref p)) ∧
 typeIn K (.ref p)=some (.type "member_descriptor")∧i<1000
noncomputable def H6 (C:Cf) (Cl:Addr) (name:Str):Prop:=∃(K:Frag) (cd:ClassData),K.In C.h0 ∧
 findIn K (.ref Cl) "__getattribute__" = some (some (.builtin "object.__getattribute__"))∧findIn K (.ref Cl) "__getattr__" = some none ∧
 clsIn K Cl=some cd∧cd.hasDict=true∧findIn K (.ref Cl) name=some none ∧
 findIn K (.ref Cl) "__setattr__" = some (some (.builtin "object.__setattr__"))∧plainOver K Cl=true∧takerIn K Cl name=some none
section
variable {C:Cf} {A:Around} {E:Value→Shared→Prop} {env:Env} {σ:Al} {F G:FH} {s:Shared}
theorem VR.handed {x:AV} {v:Value} (h:VR F x v) (hx:∀u,x≠.val u):handedIn v=true:=by
 cases h<;>first|rfl|exact absurd rfl (hx _)
theorem BB.join {xs vs} (h:BB F xs vs) {i:Nat} {x} (e:xs[i]? = some (some x)):∃v,(vs.toArray[i]?).join=some v∧VR F x v:=by
 refine xa1_2 (h.get e) ?_;intro v h1 h2
 exact ⟨v,by rw [List.getElem?_toArray,h1];rfl,h2⟩
theorem B2 {a Cl:Addr} {name:Str} {i:Nat} {vs:List (Option AV)} {x:AV} {Q:AV→Al→Prop} (hs:C7 C Cl name i) (ha:σ.hp a=some (.slot Cl vs)) (hx:vs[i]? = some (some x)) (h:Q x σ)
  (hv:autoParam (∀u,x≠.val u) AC.aux3._auto_1):Hz C A E env VR (fun v=>getAttr v name true) (.ref a) σ Q:=by
 intro F G s v hR hv'
 (have zc:=VR.refI hv';clear hv';subst zc)
 refine xa2_6 hs ?_;(try clear hs);intro K p X g1 g2 g3 g4 zu
 refine cps fun zP zk=>?_;(rcases hR.wd.ob a _ ha with ⟨zu,zu,o,ho,r⟩)<;>(refine zk ?_;clear zk zP)
 (refine OR.slotC r fun zv zv zo hd zs=>?_;clear r;subst zo)
 refine xa1_2 (zs.join hx) ?_;intro v j hvr
 have X':=X.keeps hR.wd.old
 have I:InstAt s.heap a _ Cl (some emptyDict):=⟨ho,rfl,rfl,hR.wd.fz _ _ hd⟩
 refine get_bind X' I g1 g3 g2 (wpAny_call (slot_get (s:={ s with toks:=s.toks+1 }) (od:=some emptyDict) X' ⟨ho,rfl,rfl,hR.wd.fz _ _ hd⟩ g4 j ?_))
 show wpAny _ _ (handedOut v) _ _ _
 rw [handedOut_of (hvr.handed hv)]
 exact wpAny_pure (A0.of hvr (hR.tok _) h)
theorem NR.look {P:Params} {fs:List (Str×AV)} {ds:List DictEntry} (h:NR P F fs ds) {name:Str} {x:AV} (e:fs.lookup name=some x):∃en,ds.find? (·.key.isStr name)=some en∧VR F x en.val:=by
 induction h with
 |nil=>exact Aj e
 |@cons k v es en ds t a b c zu ih=>
  simp only [List.lookup] at e
  by_cases q:name=k
  ·subst q
   simp only [beq_self_eq_true] at e;(have zc:=Option.some.inj e;clear e;subst zc)
   exact ⟨en,by simp [b,Value.isStr],c⟩
  ·simp only [beq_eq_false_iff_ne.mpr q] at e
   refine xa1_2 (ih e) ?_;intro en' h1 h2
   refine ⟨en',?_,h2⟩
   rw [List.find?_cons,b]
   have:(Value.str k t).isStr name=false:=by simp [Value.isStr,Ne.symm q]
   rw [this];exact h1
theorem NR.noRef {P:Params} {fs:List (Str×AV)} {ds:List DictEntry} (h:NR P F fs ds):ds.any (·.refKey)=false:=by
 induction h with
 |nil=>rfl
 |cons a b c zu ih=>rw [List.any_cons,ih];simp [DictEntry.refKey,b]
theorem BG {a d Cl:Addr} {name:Str} {fs:List (Str×AV)} {x:AV} {Q:AV→Al→Prop} (hs:H6 C Cl name) (ha:σ.hp a=some (.inst Cl d)) (hd:σ.hp d=some (.ns fs)) (hx:fs.lookup name=some x) (h:Q x σ)
  (hv:autoParam (∀u,x≠.val u) AC.aux3._auto_1):Hz C A E env VR (fun v=>getAttr v name true) (.ref a) σ Q:=by
 intro F G s v hR hv'
 (have zc:=VR.refI hv';clear hv';subst zc)
 refine xa2_7 hs ?_;(try clear hs);intro K cd X g1 g2 g3 g4 g5 zu
 refine cps fun zP zk=>?_;(rcases hR.wd.ob a _ ha with ⟨zu,zu,o,ho,r⟩)<;>(refine zk ?_;clear zk zP)
 refine cps fun zP zk=>?_;(rcases hR.wd.ob d _ hd with ⟨zu,zu,od,hod,rd⟩)<;>(refine zk ?_;clear zk zP)
 (refine OR.instC r fun zo=>?_;clear r;subst zo)
 (refine OR.nsC rd fun zv zv hex hda hnr=>?_;clear rd)
 refine xa1_2 (hnr.look hx) ?_;intro en h1 h2
 have X':=X.keeps hR.wd.old
 have I:InstAt s.heap a _ Cl (some od):=⟨ho,rfl,rfl,hod⟩
 have hf:findObj K Cl (some od) name=some (.value en.val):=by
  unfold findObj
  rw [g3,Option.bind_some,g5]
  simp only [Option.bind_some,PySem.W.ownOf,g4,if_true,lookIn,hda,h1]
 exact get_value X' I g1 hf (h2.handed hv) (A0.of h2 (hR.tok _) h)
theorem Ao {o value:Expr} {attr:Str} {pos' pos:Pos} {Q:A7→Al→Prop}
  (h:Ev C A E env value σ (fun v σ₁=>Ev C A E env o σ₁ (fun b σ₂=>Eg C A E env (fun zu (zu:Unit) (zu:Unit)=>True) (fun u w=>setAttr w attr u) v b σ₂ (fun zu σ₃=>Q .next σ₃))))
  (hs:autoParam (swapsWith value (some (.Attribute o attr pos')) pos.line env=pure false) AC.aux0._auto_1):Ex C A E env (.Assign [.Attribute o attr pos'] value pos) σ Q:=by
 intro F G s hR
 refine plainObj_wpAny_Assign_Attribute (h.use hR fun F₁ a σ₁ va s₁ e₁ ha hR₁ h₁=>h₁.use hR₁ fun F₂ b σ₂ vb s₂ e₂ hb hR₂ h₂=>?_) hs
 refine wpAny_mono (h₂.at (e₁.trans e₂) hR₂ (ha.mono e₂) hb) (fun c s₃ z=>?_) fun zu zu x=>x
 refine cps fun zP zk=>?_;(rcases z with ⟨F',b,σ',a1,zu,a3,a4⟩)<;>(refine zk ?_;clear zk zP)
 exact ⟨F',.next,σ',a1,.next,a3,a4⟩
noncomputable def setSlot (vs:List (Option AV)) (i:Nat) (x:AV):List (Option AV):=(vs++List.replicate (i+1 - vs.length) none).set i (some x)
theorem BB.append {xs vs ys us} (h:BB F xs vs) (k:BB F ys us):BB F (xs++ys) (vs++us):=by
 induction h with
 |nil=>exact k
 |cons a zu ih=>exact .cons a ih
theorem BB.nones (n:Nat):BB F (List.replicate n none) (List.replicate n none):=by
 induction n with
 |zero=>exact .nil
 |succ n ih=>exact .cons .none ih
theorem BB.setSlot {xs vs} (h:BB F xs vs) (i:Nat) {x v} (hv:VR F x v) :
  BB F (setSlot xs i x) ((vs++List.replicate (i+1 - vs.length) none).set i (some v)):=by
 unfold AC.setSlot
 rw [h.length]
 exact (h.append (.nones _)).set i (.some hv)
theorem Ll (us:List (Option Value)) (i:Nat) (v:Value):(us.toArray++Array.replicate (i+1 - us.toArray.size) none).setIfInBounds i (some v)=((us++List.replicate (i+1 - us.length) none).set i (some v)).toArray:=by
 apply Array.ext'
 simp [Array.toList_setIfInBounds]
theorem Rp.changeN (R:Rp C A F G env σ s) {h':Heap} {t:Nat} {c:Addr} {x x':AO} {o':Obj} (e:σ.hp c=some x) (hx:Dr x'=false) (ho:h'.get? c=some o') (r:OR C F s.gens x' o')
  (k:∀b o,b≠c→b≠env.locals→s.heap.get? b=some o→h'.get? b=some o) (kn:∀m,s.heap.Ns env.locals m→h'.Ns env.locals m):Rp C A F G env { σ with hp:=upd σ.hp c x' } ⟨h',s.gens,s.drawn,t,s.os⟩:=by
 refine cps fun zP zk=>?_;(rcases R.fm with ⟨kd,⟨m,hm,hv⟩,⟨l1,l2,l3⟩,co,ci,cv,fv⟩)<;>(refine zk ?_;clear zk zP)
 refine xa0_3 (R.wd.ob c x e) ?_;intro hF hG zu
 have nc:env.locals≠c:=by rintro q;rw [q,e] at l3;exact Ap l3
 refine ⟨⟨R.wd.base,fun b o q=>k _ _ (AQ hF q) (AQ l1 q) (R.wd.fz b o q),fun b o q=>let ⟨o',z,r⟩:=R.wd.gz b o q;⟨o',k _ _ (AQ hG q) (AQ l2 q) z,r⟩,fun a y e'=>?_,R.wd.os,R.wd.bare,fun a b g gs gs' ea eb=>?_,R.wd.fg⟩,?_,R.fs⟩
 ·dsimp only at e'
  by_cases h:a=c
  ·subst h
   rw [Ae] at e';(have zc:=Option.some.inj e';clear e';subst zc)
   exact ⟨hF,hG,o',ho,r⟩
  ·rw [Ad _ _ h] at e'
   refine cps fun zP zk=>?_;(rcases R.wd.ob a y e' with ⟨p,q,o,ho',r'⟩)<;>(refine zk ?_;clear zk zP)
   exact ⟨p,q,o,k _ _ h (AQ l3 e') ho',r'⟩
 ·dsimp only at ea eb
  have na:a≠c:=fun zE=>by (first|rw [zE,Ae] at ea|rw [←zE,Ae] at ea);(have zc:=Option.some.inj ea;clear ea;subst zc);exact Dc hx
  have nb:b≠c:=fun zE=>by (first|rw [zE,Ae] at eb|rw [←zE,Ae] at eb);(have zc:=Option.some.inj eb;clear eb;subst zc);exact Dc hx
  rw [Ad _ _ na] at ea
  rw [Ad _ _ nb] at eb
  exact R.wd.gi _ _ _ _ _ ea eb
 ·refine ⟨kd,⟨m,kn m hm,hv⟩,⟨l1,l2,by show upd σ.hp c x' _=none;rw [Ad _ _ nc];exact l3⟩,fun y hy=>?_,ci,fun y av d h1 h2 h3=>?_,fv⟩
  ·refine cps fun zP zk=>?_;(rcases co y hy with ⟨d,g1,g2,g3,g4,g5,v,o,g6,g7⟩)<;>(refine zk ?_;clear zk zP)
   have nd:d≠c:=by rintro q;rw [q,e] at g4;exact Ap g4
   exact ⟨d,g1,g2,g3,by show upd σ.hp c x' _=none;rw [Ad _ _ nd];exact g4,g5,v,o,k _ _ nd g5 g6,g7⟩
  ·refine xa1_6 (co y h2) ?_;intro d' g1 g2 g3 g4 g5 zu
   rw [h3] at g1;(have zc:=Option.some.inj g1;clear g1;subst zc)
   have nd:d≠c:=by rintro q;rw [q,e] at g4;exact Ap g4
   refine xa1_2 (cv y av d h1 h2 h3) ?_;intro v;intro zq;refine xa1_2 zq ?_;(try clear zq);intro o g6 g7;intro g8
   exact ⟨v,⟨o,k _ _ nd g5 g6,g7⟩,g8⟩
theorem LB (hR:Rp C A F G env σ s) {a:Addr} {x:AO} {o:Obj} (ha:σ.hp a=some x) (ho:s.heap.get? a=some o) :
  ∃m oth,Fr {} env.locals s.heap m∧News {} env.locals s.heap ([]++(a,o)::oth)∧(∀q∈oth,q.1≠a) ∧
   ∀h' o',Fr {} env.locals h' m→News {} env.locals h' ([]++(a,o')::oth) →
    h'.get? a=some o'∧(∀m',s.heap.Ns env.locals m'→h'.Ns env.locals m')∧∀b ob,b≠a→b≠env.locals→s.heap.get? b=some ob→h'.get? b=some ob:=by
 refine xa1_2 hR.fm.ns ?_;intro m hm zu
 have hne:a≠env.locals:=fun zE=>by (first|rw [zE,hR.fm.lo.2.2] at ha|rw [←zE,hR.fm.lo.2.2] at ha);exact Aj ha
 let oth:List (Addr×Obj):=(List.range s.heap.objs.size).filterMap fun b=>if b=a∨b=env.locals then none else (s.heap.get? b).map fun o=>(b,o)
 have hoth:∀q∈oth,q.1≠a∧q.1≠env.locals∧s.heap.get? q.1=some q.2:=by
  intro q hq
  refine xa1_2 (List.mem_filterMap.mp hq) ?_;intro b zu hb
  split at hb
  ·exact Aj hb
  ·rename_i hn
   refine xa1_2 (Option.map_eq_some_iff.mp hb) ?_;intro o' ho';rintro rfl
   simp only [not_or] at hn
   exact ⟨hn.1,hn.2,ho'⟩
 have hin:∀b o',s.heap.get? b=some o'→b≠a→b≠env.locals→(b,o')∈oth:=by
  intro b o' e h1 h2
  refine List.mem_filterMap.mpr ⟨b,List.mem_range.mpr (Heap.lt_size e),?_⟩
  rw [if_neg (by simp [h1,h2]),e];rfl
 refine ⟨m,oth,⟨hm,fun b o' e=>by simp [Heap.get?] at e,Nat.zero_le _⟩,?_,fun q hq=>(hoth q hq).1,fun h' o' F' N'=>⟨(N' (a,o') (List.mem_cons_self)).1,fun m' hm'=>?_,fun b ob h1 h2 e=>(N' (b,ob) (List.mem_cons_of_mem _ (hin b ob e h1 h2))).1⟩⟩
 ·intro q hq
  rcases List.mem_cons.mp hq with rfl|hq
  ·exact ⟨ho,hne,by simp [Heap.get?]⟩
  ·refine xa0_3 (hoth q hq) ?_;intro h1 h2 h3
   exact ⟨h3,h2,by simp [Heap.get?]⟩
 ·have:m'=m:=by
   refine xa3_4 hm ?_;(try clear hm);intro o1 es1 ep1 a1 a2 a3 a4
   refine xa3_4 hm' ?_;(try clear hm');intro o2 es2 ep2 b1 b2 b3 b4
   rw [a1] at b1;(have zc:=Option.some.inj b1;clear b1;subst zc)
   rw [a2] at b2;cases b2
   funext n;rw [←a4,←b4]
  rw [this];exact F'.ns
theorem Bm {a Cl:Addr} {name:Str} {i:Nat} {vs:List (Option AV)} {x:AV} {Q:Unit→Al→Prop} (hs:C7 C Cl name i) (ha:σ.hp a=some (.slot Cl vs)) (h:Q () (σ.put a (.slot Cl (setSlot vs i x)))) :
  Eg C A E env (fun zu (zu:Unit) (zu:Unit)=>True) (fun u w=>setAttr w name u) x (.ref a) σ Q:=by
 intro F G s v u hR hv hu
 (have zc:=VR.refI hu;clear hu;subst zc)
 refine xa2_10 hs ?_;(try clear hs);intro K p X g1 g2 g3 g4 g5 g6 g7 g8 g9
 refine cps fun zP zk=>?_;(rcases hR.wd.ob a _ ha with ⟨hF,hG,o,ho,r⟩)<;>(refine zk ?_;clear zk zP)
 (refine OR.slotC r fun us d zo hd zs=>?_;clear r;subst zo)
 have X':=X.keeps hR.wd.old
 have I:InstAt s.heap a _ Cl (some emptyDict):=⟨ho,rfl,rfl,hR.wd.fz _ _ hd⟩
 refine set_plain X' I g5 (osa_descr KF.slot_mset (s:={ s with toks:=s.toks+1 }) (od:=some emptyDict) X' ⟨ho,rfl,rfl,hR.wd.fz _ _ hd⟩ g6 g7 g8 ?_)
 refine xa2_4 (LB hR ha ho) ?_;intro m oth Fr0 N0 h1 back
 refine slot_set (s:={ s with toks:=s.toks+1 }) (od:=some emptyDict) Fr0 N0 X' ⟨ho,rfl,rfl,hR.wd.fz _ _ hd⟩ g4 g9 (fun zu hq=>nomatch hq) h1 rfl rfl fun h' F' N'=>?_
 refine xa0_3 (back h' _ F' N') ?_;intro b1 b2 b3
 refine ⟨F,(),_,AE.refl F,trivial,hR.changeN ha rfl b1 ?_ b3 b2,h⟩
 rw [Ll]
 exact .slot hd (zs.setSlot i hv)
theorem NR.put {P:Params} {fs:List (Str×AV)} {ds:List DictEntry} (h:NR P F fs ds) {name:Str} {x:AV} {v:Value} (hv:VR F x v) (t:Tok) (f:Option DictEntry→DictEntry) (h1:∀e,f (some e)={ e with val:=v }) (h2:f none=⟨PyData.keyHash P name,.str name t,v⟩) :
  NR P F (Fj fs name x) (nsPutIn name.cps.size name.cps.toList f ds).1∧(nsPutIn name.cps.size name.cps.toList f ds).1.length≤ds.length+1:=by
 induction h with
 |nil=>exact ⟨by simp only [nsPutIn,Hg,Hf,h2];exact .cons rfl rfl hv .nil,Nat.le_refl _⟩
 |@cons k u es en ds t' a b c r ih=>
  simp only [Hg,Hf,nsPutIn,Value.isStrByCps_eq,b,Value.isStr]
  by_cases q:k=name
  ·subst q
   simp only [beq_self_eq_true,if_true,h1]
   exact ⟨.cons a b hv r,Nat.le_succ _⟩
  ·simp only [beq_eq_false_iff_ne.mpr q,Bool.false_eq_true,if_false]
   exact ⟨.cons a b c ih.1,Nat.succ_le_succ ih.2⟩
theorem NR.length {P:Params} {fs:List (Str×AV)} {ds:List DictEntry} (h:NR P F fs ds):ds.length=fs.length:=by
 induction h with
 |nil=>rfl
 |cons zu zu2 zu3 zu4 ih=>simp [ih]
theorem Hk {P:Params} {fs:List (Str×AV)} {name:Str} {t:Tok} {x:AV} {v:Value} {o:Obj} {ds:List DictEntry} {n:Nat} (hd:o.data=.dict ds.toArray n) (hex:o.ExactDict) (h:NR P F fs ds) (hv:VR F x v) :
  ∃es' n',(Obj.putName name (PyData.keyHash P name) (.str name t) v o).data=.dict (es':List DictEntry).toArray n'∧(Obj.putName name (PyData.keyHash P name) (.str name t) v o).ExactDict∧NR P F (Fj fs name x) es'∧es'.length≤ds.length+1:=by
 refine cps fun zP zk=>?_;(rcases o with ⟨c,d,dt,sl⟩)<;>(refine zk ?_;clear zk zP)
 dsimp only at hd
 subst hd
 unfold Obj.putName
 dsimp only
 split
 ·rename_i es' q
  have z:=h.put (name:=name) hv t (fun|some e=>{ e with val:=v }|none=>⟨PyData.keyHash P name,.str name t,v⟩) (fun zu=>rfl) rfl
  have q':nsPutIn name.cps.size name.cps.toList (fun|some e=>{ e with val:=v }|none=>⟨PyData.keyHash P name,.str name t,v⟩) ds=(es',false):=q
  rw [q'] at z
  exact ⟨_,_,rfl,hex,z⟩
 ·rename_i es' q
  have z:=h.put (name:=name) hv t (fun|some e=>{ e with val:=v }|none=>⟨PyData.keyHash P name,.str name t,v⟩) (fun zu=>rfl) rfl
  have q':nsPutIn name.cps.size name.cps.toList (fun|some e=>{ e with val:=v }|none=>⟨PyData.keyHash P name,.str name t,v⟩) ds=(es',true):=q
  rw [q'] at z
  exact ⟨_,_,rfl,hex,z⟩
theorem Di {a d Cl:Addr} {name:Str} {fs:List (Str×AV)} {x:AV} {Q:Unit→Al→Prop} (hs:H6 C Cl name) (ha:σ.hp a=some (.inst Cl d)) (hd:σ.hp d=some (.ns fs))
  (h:Q () (σ.put d (.ns (Fj fs name x)))) (hz:autoParam (fs.length≤900) AC.aux1._auto_1) :
  Eg C A E env (fun zu (zu:Unit) (zu:Unit)=>True) (fun u w=>setAttr w name u) x (.ref a) σ Q:=by
 intro F G s v u hR hv hu
 (have zc:=VR.refI hu;clear hu;subst zc)
 refine xa2_9 hs ?_;(try clear hs);intro K cd X g1 g2 g3 g4 g5 g6 g7 g8
 refine cps fun zP zk=>?_;(rcases hR.wd.ob a _ ha with ⟨hF,hG,o,ho,r⟩)<;>(refine zk ?_;clear zk zP)
 refine cps fun zP zk=>?_;(rcases hR.wd.ob d _ hd with ⟨zu,zu,od,hod,rd⟩)<;>(refine zk ?_;clear zk zP)
 (refine OR.instC r fun zo=>?_;clear r;subst zo)
 (refine OR.nsC rd fun ds n hex hda hnr=>?_;clear rd)
 have X':=X.keeps hR.wd.old
 have I:InstAt s.heap a _ Cl (some od):=⟨ho,rfl,rfl,hod⟩
 refine xa2_4 (LB hR hd hod) ?_;intro m oth Fr0 N0 h1 back
 refine xa2_4 (Hk (name:=name) (t:=s.toks+1) hda hex hnr hv) ?_;intro es' n' e' hex' r' rl
 refine set_plain X' I g6 (osa_dict (s:={ s with toks:=s.toks+1 }) Fr0 N0 X' ⟨ho,rfl,rfl,hod⟩ rfl g7 g8 (by rw [g3];exact g4) ?_ (fun zu hq=>nomatch hq) h1 rfl e' ?_ fun h' F' N'=>?_)
 ·unfold lookIn
  rw [hda]
  dsimp only
  cases ds.find? (·.key.isStr name) with
  |some e=>rfl
  |none=>rw [hnr.noRef];rfl
 ·have:=hnr.length;exact A8 [_,_,_] [(1,Z1,(Zn 900)),(1,Z0,(Zs Z2)),(1,Z2,Z1)] Z0 (Zn 1000) rfl hz rl (Nat.le_of_eq this)
 refine xa0_3 (back h' _ F' N') ?_;intro b1 b2 b3
 exact ⟨F,(),_,AE.refl F,trivial,hR.changeN hd rfl b1 (.ns hex' e' r') b3 b2,h⟩
noncomputable def M1 (C:Cf) (A:Around) (E:Value→Shared→Prop) (env:Env) (es:List (Bool×Sem Value)) (σ:Al) (Q:List AV→Al→Prop):Prop:=Tr C A E env VRs (spliced es) σ Q
theorem Nf {Q:List AV→Al→Prop} (h:Q [] σ):M1 C A E env [] σ Q:=fun F G s hR=>wpAny_pure (A0.of .nil hR h)
theorem Mz {t:Sem Value} {r:List (Bool×Sem Value)} {Q:List AV→Al→Prop} (h:Tr C A E env VR t σ (fun v σ₁=>M1 C A E env r σ₁ (fun vs σ₂=>Q (v::vs) σ₂))):M1 C A E env ((false,t)::r) σ Q:=by
 intro F G s hR
 show wpAny _ _ (do let v ←t;let here ←pure [v];return here++(←holding here (spliced r))) _ _ _
 refine wpAny_bind (h.use hR fun F₁ a σ₁ va s₁ e₁ ha hR₁ h₁=>wpAny_bind (wpAny_pure (wpAny_bind (wpAny_holding (h₁.use hR₁ fun F₂ vs σ₂ us s₂ e₂ hb hR₂ h₂=>?_)))))
 exact wpAny_pure (A0.ext (e₁.trans e₂) (A0.of (.cons (ha.mono e₂) hb) hR₂ h₂))
noncomputable def N3 (C:Cf) (A:Around) (E:Value→Shared→Prop) (env:Env) (es:List (Sem Value)) (σ:Al) (Q:List AV→Al→Prop):Prop:=Tr C A E env VRs (evalAll es) σ Q
theorem Ng {Q:List AV→Al→Prop} (h:Q [] σ):N3 C A E env [] σ Q:=fun F G s hR=>wpAny_pure (A0.of .nil hR h)
theorem M2 {t:Sem Value} {p:Pos} {r:List (Sem Value)} {Q:List AV→Al→Prop} (h:Tr C A E env VR t σ (fun v σ₁=>N3 C A E env r σ₁ (fun vs σ₂=>Q (v::vs) σ₂))):N3 C A E env ((do let v ←t;standAt p;pure v)::r) σ Q:=by
 intro F G s hR
 show wpAny _ _ (do let v ←(do let v ←t;standAt p;pure v);return v::(←holding [v] (evalAll r))) _ _ _
 refine wpAny_bind (wpAny_bind (h.use hR fun F₁ a σ₁ va s₁ e₁ ha hR₁ h₁=>wpAny_bind (wpAny_standAt (wpAny_pure (wpAny_bind (wpAny_holding (h₁.use hR₁ fun F₂ vs σ₂ us s₂ e₂ hb hR₂ h₂=>?_)))))))
 exact wpAny_pure (A0.ext (e₁.trans e₂) (A0.of (.cons (ha.mono e₂) hb) hR₂ h₂))
end
end
section
inductive CA (F:FH):List (Str×AV)→List (Str×Value)→Prop
 |nil:CA F [] []
 |cons {k x v xs vs}:VR F x v→CA F xs vs→CA F ((k,x)::xs) ((k,v)::vs)
theorem CA.mono {F F':FH} (e:AE F F') {x v} (h:CA F x v):CA F' x v:=by
 induction h with
 |nil=>exact .nil
 |cons a zu ih=>exact .cons (a.mono e) ih
theorem CA.zip {F:FH}:∀{names:List Str} {xs:List AV} {vs:List Value},VRs F xs vs→CA F (names.zip xs) (names.zip vs)
 |[],_,_,_=>.nil
 |_::_,_,_,.nil=>.nil
 |_::_,_,_,.cons a b=>.cons a (CA.zip b)
noncomputable def Px (C:Cf) (G:FH) (Q:AV→HP→Prop) (F:FH) (r:Result) (s':Shared):Prop:=∃F' v av hp',r=.ok (.ret v)∧AE F F'∧VR F' av v∧Wd C F' G hp' s'∧Q av hp'
noncomputable def Fn (C:Cf) (A:Around) (f:Value) (args:List AV) (kw:List (Str×AV)) (hp:HP) (Q:AV→HP→Prop):Prop:=
 ∀F G s vs kvs,Fs A G→Wd C F G hp s→VRs F args vs→CA F kw kvs→codeAny (model C.prog C.w) A (.call f ⟨vs,kvs⟩) (Px C G Q F) s
theorem Fn.mono {C:Cf} {A:Around} {f:Value} {args:List AV} {kw:List (Str×AV)} {hp:HP} {Q Q':AV→HP→Prop} (h:Fn C A f args kw hp Q) (k:∀v hp',Q v hp'→Q' v hp'):Fn C A f args kw hp Q':=
 fun F G s vs kvs fs W a b=>codeAny_mono (h F G s vs kvs fs W a b) fun r s' ⟨F',v,av,hp',x1,x2,x3,x4,x5⟩=>⟨F',v,av,hp',x1,x2,x3,x4,k _ _ x5⟩
open Classical in
noncomputable def frz (G:FH) (env:Env) (h:Heap):FH:=fun b=>if b=env.locals∨(∃x,env.kindOf x=some .cell∧env.cells.lookup x=some b) then h.get? b else G b
section
variable {C:Cf} {A:Around} {E:Value→Shared→Prop} {env:Env} {σ:Al} {F G:FH} {s:Shared}
theorem Ht (hR:Rp C A F G env σ s):AE G (frz G env s.heap):=by
 intro b o e
 have h1:b≠env.locals:=AQ hR.fm.lo.2.1 e
 have h2:¬∃x,env.kindOf x=some .cell∧env.cells.lookup x=some b:=by
  (intro zr;refine xa1_2 zr ?_;(try clear zr);intro x hx hc)
  refine xa1_4 (hR.fm.co x hx) ?_;intro c g1 zu g3 zu
  rw [hc] at g1;(have zc:=Option.some.inj g1;clear g1;subst zc)
  rw [g3] at e;exact Aj e
 unfold frz
 rw [if_neg (by simp only [h1,h2,or_self,not_false_eq_true])]
 exact e
theorem IV (hR:Rp C A F G env σ s):Fs A (frz G env s.heap):=by
 have ex:=Ht hR
 refine xa2_5 hR.fs ?_;intro e l h1 h2 h3 h4 h5
 refine ⟨e::l,h1,fun e' he'=>?_⟩
 rcases List.mem_cons.mp he' with rfl|he'
 ·rcases h4 with h4|h4
  ·refine xa1_2 hR.fm.ns ?_;intro m;intro zq;refine xa3_3 zq ?_;(try clear zq);intro oL es ep hL r zu;intro zu
   exact ⟨h2,env.locals,oL,h3.trans h4.2,by unfold frz;rw [if_pos (.inl rfl)];exact hL,es,ep,r⟩
  ·exact h4.mono ex
 ·exact (h5 e' he').mono ex
theorem Hs (hR:Rp C A F G env σ s) (hfr:Wd C F (frz G env s.heap) σ.hp s→True:=fun zu=>trivial):Wd C F (frz G env s.heap) σ.hp s:=by
 have W:=hR.wd
 have own:∀b,(b=env.locals∨∃x,env.kindOf x=some .cell∧env.cells.lookup x=some b)→F b=none∧σ.hp b=none:=by
  rintro b (rfl|⟨x,hx,hc⟩)
  ·exact ⟨hR.fm.lo.1,hR.fm.lo.2.2⟩
  ·refine xa1_5 (hR.fm.co x hx) ?_;intro c g1 g2 g3 g4 zu
   rw [hc] at g1;(have zc:=Option.some.inj g1;clear g1;subst zc)
   exact ⟨g2,g4⟩
 refine ⟨W.base,W.fz,fun b o e=>?_,fun a x e=>?_,W.os,W.bare,W.gi,fun b o e=>?_⟩
 ·unfold frz at e
  split at e
  ·exact ⟨o,e,Fh.rfl' o⟩
  ·exact W.gz b o e
 ·refine cps fun zP zk=>?_;(rcases W.ob a x e with ⟨p,q,o,r⟩)<;>(refine zk ?_;clear zk zP)
  refine ⟨p,?_,o,r⟩
  unfold frz
  rw [if_neg]
  ·exact q
  ·intro h;have:=(own a h).2;rw [e] at this;exact Ap this
 ·unfold frz
  rw [if_neg]
  ·exact W.fg b o e
  ·intro h;have:=(own b h).1;rw [e] at this;exact Ap this
theorem Fz (hR:Rp C A F G env σ s) {F':FH} {hp':HP} {s':Shared} (e:AE F F') (W:Wd C F' (frz G env s.heap) hp' s'):Rp C A F' G env { σ with hp:=hp' } s':=by
 have ex:=Ht hR
 refine cps fun zP zk=>?_;(rcases hR.fm with ⟨kd,⟨m,hm,hv⟩,⟨l1,l2,l3⟩,co,ci,cv,fv⟩)<;>(refine zk ?_;clear zk zP)
 have own:∀b o,(b=env.locals∨∃x,env.kindOf x=some .cell∧env.cells.lookup x=some b)→s.heap.get? b=some o→(∃o',s'.heap.get? b=some o'∧Fh o o')∧F' b=none∧hp' b=none:=by
  intro b o h e'
  have g:frz G env s.heap b=some o:=by unfold frz;rw [if_pos h];exact e'
  refine ⟨W.gz _ _ g,?_,?_⟩
  ·cases q:F' b with
   |none=>rfl
   |some o'=>have:=W.fg b o' q;rw [g] at this;exact Ap this
  ·cases q:hp' b with
   |none=>rfl
   |some x=>have:=(W.ob b x q).2.1;rw [g] at this;exact Ap this
 have noG:∀{b},frz G env s.heap b=none→G b=none:=by
  intro b h
  cases q:G b with
  |none=>rfl
  |some o=>rw [ex b o q] at h;exact Ap h
 refine ⟨⟨W.base,W.fz,fun b o q=>W.gz _ _ (ex _ _ q),fun a x q=>?_,W.os,W.bare,W.gi,fun b o q=>noG (W.fg b o q)⟩,?_,hR.fs⟩
 ·refine cps fun zP zk=>?_;(rcases W.ob a x q with ⟨p,r,o,t⟩)<;>(refine zk ?_;clear zk zP)
  exact ⟨p,noG r,o,t⟩
 ·refine xa3_2 (id hm) ?_;intro oL es ep hL r
  refine xa0_3 (own _ _ (.inl rfl) hL) ?_;intro zq;refine xa1_2 zq ?_;(try clear zq);intro oL' z1 zg;intro z2 z3
  refine ⟨kd,⟨m,⟨oL',es,ep,z1,zg.data.trans r.1,r.2⟩,fun x av h1 h2=>let ⟨v,a,b⟩:=hv x av h1 h2;⟨v,a,b.mono e⟩⟩,⟨z2,l2,z3⟩,fun x hx=>?_,ci,fun x av c h1 h2 h3=>?_,fun x av h1 h2=>?_⟩
  ·refine cps fun zP zk=>?_;(rcases co x hx with ⟨c,hc,c1,c2,c3,c4,v,o,ho,hd⟩)<;>(refine zk ?_;clear zk zP)
   refine xa0_3 (own _ _ (.inr ⟨x,hx,hc⟩) ho) ?_;intro zq;refine xa1_2 zq ?_;(try clear zq);intro o' y1 yg;intro y2 y3
   exact ⟨c,hc,y2,c2,y3,c4,v,o',y1,yg.data.trans hd⟩
  ·refine xa1_2 (cv x av c h1 h2 h3) ?_;intro v;intro zq;refine xa1_2 zq ?_;(try clear zq);intro o ho hd;intro hvr
   refine xa0_2 (own _ _ (.inr ⟨x,h2,h3⟩) ho) ?_;intro zq;refine xa1_2 zq ?_;(try clear zq);intro o' y1 yg;intro zu
   exact ⟨v,⟨o',y1,yg.data.trans hd⟩,hvr.mono e⟩
  ·refine xa3_4 (fv x av h1 h2) ?_;intro c v o a1 a2 a3 a4
   exact ⟨c,v,o,a1,a2,a3,a4.mono e⟩
theorem Fn.call {f:Value} {args:List AV} {kw:List (Str×AV)} {Q:AV→HP→Prop} (h:Fn C A f args kw σ.hp Q) (hR:Rp C A F G env σ s) {vs:List Value} {kvs:List (Str×Value)} (hv:VRs F args vs) (hk:CA F kw kvs) :
  wpAny (model C.prog C.w) A (PySem.call f vs kvs) (A0 C A G env VR (fun v σ'=>σ'.loc=σ.loc∧Q v σ'.hp) F) E s:=by
 refine wpAny_call (codeAny_mono (h F _ s vs kvs (IV hR) (Hs hR) hv hk) fun r s' z=>?_)
 refine xa4_5 z ?_;(try clear z);intro F' v av hp';rintro rfl;intro e hvr W q
 exact ⟨F',av,_,e,hvr,Fz hR e W,rfl,q⟩
noncomputable def Dv (C:Cf) (h:Heap) (f:Value):Prop:=∃kp,Looks (model C.prog C.w) h (keeperOf f) kp
noncomputable def Br (C:Cf) (A:Around) (E:Value→Shared→Prop) (env:Env) (f:AV) (first args:List AV) (kw:List (Str×AV)) (σ:Al) (Q:AV→Al→Prop):Prop:=
 ∀F G s fv us vs kvs,Rp C A F G env σ s→VR F f fv→VRs F first us→VRs F args vs→CA F kw kvs→Dv C s.heap fv∧wpAny (model C.prog C.w) A (PySem.call fv (us++vs) kvs) (A0 C A G env VR Q F) E s
theorem Bp {f:Value} {args:List (Bool×Sem Value)} {kws:List (Option Str×Sem Value)} (ha:args.all (!·.1)=true) (hk:kws.all (·.1.isSome)=true) {Q:Args→Shared→Prop}
  (h:wpAny (model C.prog C.w) A (spliced args) (fun vs s₁=>wpAny (model C.prog C.w) A (evalAll (kws.map (·.2))) (fun ks s₂=>Q ⟨vs,(kws.filterMap (·.1)).zip ks⟩ s₂) E s₁) E s) :
  wpAny (model C.prog C.w) A (evalArgs f true args kws) Q E s:=by
 match args with
 |[]=>
  refine evalArgs_kw_nil hk ?_
  intro Γ p hΓ
  have z:=h Γ p hΓ
  exact z Γ p hΓ
 |(false,t)::r=>exact evalArgs_kw hk h
 |(true,t)::r=>exact Bv ha
theorem DW {α:Type} {M:Model} {vs:List Value} {m:Sem α} {Q:α→Shared→Prop} (h:wpAny M A m Q E s):wpAny M A (m.keep vs) Q E s:=fun Γ p hΓ=>by rw [Sem.wp_keep];exact h Γ p hΓ
theorem G2 {M:Model} {vs:List Value} {m:Sem Value} {Q:Value→Shared→Prop} (h:wpAny M A m Q E s):wpAny M A (operate vs m) Q E s:=fun Γ p hΓ=>by rw [Sem.wp_operate];exact h Γ p hΓ
theorem O8 {P:Sem Value→Prop} {c:Prop} [Decidable c] {a b:Sem Value} (ha:P a) (hb:P b):P (if c then a else b):=by
 by_cases h:c
 ·rw [if_pos h];exact ha
 ·rw [if_neg h];exact hb
theorem O7 {P:Sem Value→Prop} {a b c d e:Sem Value} (ha:P a) (hb:P b) (hc:P c) (hd:P d) (he:P e) (k:Keeper) (st:Bool) :
  P (match k,st with|.frame,true=>a|.frame,false=>b|.boundFrame,false=>c|.machine,false=>d|_,_=>e):=by
 cases k<;>cases st<;>assumption
theorem BH {pos:Pos} {f:Value} {first:List Value} {args:List (Bool×Sem Value)} {kws:List (Option Str×Sem Value)} {Q:Value→Shared→Prop}
  (h:wpAny (model C.prog C.w) A (evalArgs f true args kws) (fun a s₁=>Dv C s₁.heap f∧wpAny (model C.prog C.w) A (PySem.call f (first++a.pos) a.kw) Q E s₁) E s) :
  wpAny (model C.prog C.w) A (callWith pos f first args kws) Q E s:=by
 unfold callWith
 refine wpAny_bind (wpAny_holding (wpAny_mono h (fun a s₁ z=>?_) fun zu zu x=>x))
 refine xa0_2 z ?_;(try clear z);intro zq;refine xa1_1 zq ?_;(try clear zq);intro kp hk;intro hc
 refine wpAny_bind (wpAny_standAt ?_)
 dsimp only
 refine wpAny_bind (hk.here ?_)
 have fin:wpAny (model C.prog C.w) A (PySem.call f (first++a.pos) a.kw) (fun r s'=>wpAny (model C.prog C.w) A (do holding [r] point;pure r) Q E s') E s₁:=
  wpAny_mono hc (fun r s' q=>wpAny_bind (wpAny_holding (wpAny_point (wpAny_pure q)))) fun zu zu x=>x
 exact O7 (P:=fun m=>wpAny _ _ m _ _ _) (wpAny_bind (DW fin)) (O8 (P:=fun m=>wpAny _ _ m _ _ _) (wpAny_bind fin) (wpAny_bind (DW fin))) (O8 (P:=fun m=>wpAny _ _ m _ _ _) (wpAny_bind fin) (wpAny_bind (DW fin))) (wpAny_bind fin) (wpAny_bind (G2 fin)) _ _
theorem Qa {few:Bool} {o:Expr} {env:Env} {apos pos:Pos} (h:apos.endLine=pos.line):methodCallPos few o env apos pos=pure pos:=if_pos (by rw [h,beq_self_eq_true,Bool.or_true])
theorem AZ {func:Expr} {args:List Expr} {kws:List Keyword} {pos:Pos} {Q:AV→Al→Prop}
  (h:Ev C A E env func σ (fun f σ₁=>M1 C A E env (backTo pos (starEach args env)) σ₁ (fun vs σ₂=>N3 C A E env ((backToKw pos (keywordEach kws env)).map (·.2)) σ₂ (fun ks σ₃=>Br C A E env f [] vs (((backToKw pos (keywordEach kws env)).filterMap (·.1)).zip ks) σ₃ Q))))
  (he:autoParam (eval (.Call func args kws pos) env=(do callWith pos (←eval func env) [] (backTo pos (starEach args env)) (backToKw pos (keywordEach kws env)))) AC.aux0._auto_1)
  (ha:autoParam ((backTo pos (starEach args env)).all (!·.1)=true) AC.aux0._auto_1) (hk:autoParam ((backToKw pos (keywordEach kws env)).all (·.1.isSome)=true) AC.aux0._auto_1):Ev C A E env (.Call func args kws pos) σ Q:=by
 intro F G s hR
 rw [he]
 refine wpAny_bind (h.use hR fun F₁ f σ₁ vf s₁ e₁ hf hR₁ h₁=>BH (Bp ha hk (h₁.use hR₁ fun F₂ vs σ₂ us s₂ e₂ hvs hR₂ h₂=>h₂.use hR₂ fun F₃ ks σ₃ ws s₃ e₃ hks hR₃ h₃=>?_)))
 refine xa0_2 (h₃ F₃ G s₃ vf [] us _ hR₃ (hf.mono (e₂.trans e₃)) .nil (hvs.mono e₃) (CA.zip hks)) ?_;intro a b
 exact ⟨a,wpAny_mono b (fun zu zu z=>A0.ext (e₁.trans (e₂.trans e₃)) z) fun zu zu x=>x⟩
noncomputable def Du (C:Cf) (A:Around) (E:Value→Shared→Prop) (env:Env) (o:AV) (name:Str) (σ:Al) (Q:AV→List AV→Al→Prop):Prop:=
 ∀F G s v (pl:Sem Bool),Rp C A F G env σ s→VR F o v→wpAny (model C.prog C.w) A (getMethod v name pl) (fun r s'=>∃F' f first σ',AE F F'∧VR F' f r.1∧VRs F' first r.2∧Rp C A F' G env σ' s'∧Q f first σ') E s
theorem A2 {o:Expr} {name:Str} {apos pos:Pos} {args:List Expr} {kws:List Keyword} {Q:AV→Al→Prop}
  (h:Ev C A E env o σ (fun ov σ₀=>Du C A E env ov name σ₀ (fun f first σ₁=>M1 C A E env (backTo pos (starEach args env)) σ₁ (fun vs σ₂=>N3 C A E env ((backToKw pos (keywordEach kws env)).map (·.2)) σ₂ (fun ks σ₃=>Br C A E env f first vs (((backToKw pos (keywordEach kws env)).filterMap (·.1)).zip ks) σ₃ Q)))))
  (hb:autoParam (attributeBase o name env (eval o env)=eval o env) AC.aux0._auto_1) (hl:autoParam (apos.endLine=pos.line) AC.aux0._auto_1)
  (hf:autoParam (methodCallForm (args.length+kws.length) (backTo pos (starEach args env)) (backToKw pos (keywordEach kws env))=true) AC.aux0._auto_1)
  (ha:autoParam ((backTo pos (starEach args env)).all (!·.1)=true) AC.aux0._auto_1) (hk:autoParam ((backToKw pos (keywordEach kws env)).all (·.1.isSome)=true) AC.aux0._auto_1):Ev C A E env (.Call (.Attribute o name apos) args kws pos) σ Q:=by
 intro F G s hR
 show wpAny _ _ (do
  let ov ←attributeBase o name env (eval o env)
  standAt apos.atName
  methodCall o name apos pos env ov (args.length+kws.length) (backTo pos (starEach args env)) (backToKw pos (keywordEach kws env))) _ _ _
 rw [hb]
 refine wpAny_bind (h.use hR fun F₀ ov σ₀ vo s₀ e₀ ho hR₀ h₀=>wpAny_bind (wpAny_standAt ?_))
 unfold methodCall
 rw [hf,Qa hl]
 refine wpAny_bind (wpAny_holding (wpAny_mono (h₀ F₀ G s₀ vo _ hR₀ ho) (fun r s₁ z=>?_) fun zu zu x=>x))
 refine xa4_5 z ?_;(try clear z);intro F₁ f first σ₁ e₁ hf' hfi hR₁ h₁
 refine cps fun zP zk=>?_;(rcases r with ⟨rf,rfi⟩)<;>(refine zk ?_;clear zk zP)
 refine wpAny_bind (wpAny_pure (BH (Bp ha hk (h₁.use hR₁ fun F₂ vs σ₂ us s₂ e₂ hvs hR₂ h₂=>h₂.use hR₂ fun F₃ ks σ₃ ws s₃ e₃ hks hR₃ h₃=>?_))))
 refine xa0_2 (h₃ F₃ G s₃ rf rfi us _ hR₃ (hf'.mono (e₂.trans e₃)) (hfi.mono (e₂.trans e₃)) (hvs.mono e₃) (CA.zip hks)) ?_;intro a b
 exact ⟨a,wpAny_mono b (fun zu zu z=>A0.ext (e₀.trans (e₁.trans (e₂.trans e₃))) z) fun zu zu x=>x⟩
structure FnAt (C:Cf) (f:Addr) (fd:FuncData):Prop where
 at_:∃o,C.h0.get? f=some o∧o.data=.func fd
 code:C.h0.CodeRec fd.code fd.qualname
 lim:C.h0.NoLimit
theorem FnAt.keep {f:Addr} {fd:FuncData} (h:FnAt C f fd) {h':Heap} (k:∀b o,C.h0.get? b=some o→h'.get? b=some o):Dv C h' (.ref f):=by
 refine xa1_2 h.at_ ?_;intro o ho hd
 refine ⟨.frame,fun A Q E s k' q=>?_⟩
 unfold keeperOf
 refine wpAny_bind (wpAny_load (k' _ _ (k _ _ ho)) ?_)
 rw [hd]
 exact wpAny_pure q
inductive BR (F:FH):List (Str×AV)→List (Str×Value)→Prop
 |nil:BR F [] []
 |cons {k x v xs vs}:VR F x v→BR F xs vs→BR F ((k,x)::xs) ((k,v)::vs)
theorem BR.append {xs vs ys us} (h:BR F xs vs) (k:BR F ys us):BR F (xs++ys) (vs++us):=by
 induction h with
 |nil=>exact k
 |cons a zu ih=>exact .cons a ih
theorem BR.reverse {xs vs} (h:BR F xs vs):BR F xs.reverse vs.reverse:=by
 induction h with
 |nil=>exact .nil
 |cons a zu ih=>rw [List.reverse_cons,List.reverse_cons];exact ih.append (.cons a .nil)
theorem BR.look {xs vs} (h:BR F xs vs) {n:Str} {x:AV} (e:xs.lookup n=some x):∃v,vs.lookup n=some v∧VR F x v:=by
 induction h with
 |nil=>exact Aj e
 |@cons k y v xs vs a zu ih=>
  simp only [List.lookup] at e ⊢
  cases q:n == k with
  |true=>rw [q] at e;(have zc:=Option.some.inj e;clear e;subst zc);exact ⟨v,rfl,a⟩
  |false=>rw [q] at e;exact ih e
noncomputable def BK (C:Cf) (fd:FuncData) (args:List AV) (kw:List (Str×AV)) (loc:List (Str×AV)):Prop:=
 ∀F vs kvs,VRs F args vs→CA F kw kvs→∃bs,Looks (model C.prog C.w) C.h0 (bindArgs fd ⟨vs,kvs⟩) bs∧BR F loc bs∧(bs.all fun x=>decide (fd.scope.names.lookup x.1=some .local))=true
theorem Da {f:Addr} {fd:FuncData} {body:List Stmt} {args:List AV} {kw loc:List (Str×AV)} {hp:HP} {Q:AV→HP→Prop} (hf:FnAt C f fd) (hb:BK C fd args kw loc)
  (h:∀L,Cd C (A.deeper (callEnv fd L f)) (fun zu zu=>False) (callEnv fd L f) body ⟨loc.reverse,hp⟩ (fun fl σ'=>match fl with|.ret v=>Q v σ'.hp|.next=>Q .none σ'.hp|_=>False))
  (hroom:A.depth<recursionLimit) (hbody:autoParam (fd.body=.stmts body) AC.aux0._auto_1) (hcell:autoParam ((fd.scope.names.all fun x=>x.2 != .cell&&x.2 != .free)=true) AC.aux0._auto_1)
  (hco:autoParam (fd.scope.isCoroutine=false) AC.aux0._auto_1) (hgen:autoParam (fd.scope.isGenerator=false) AC.aux0._auto_1) (hk:autoParam (fd.scope.kind=.function) AC.aux0._auto_1) :
  Fn C A (.ref f) args kw hp Q:=by
 intro F G s vs kvs fs W hv hkv
 refine xa1_2 hf.at_ ?_;intro o ho hd
 refine xa1_3 (hb F vs kvs hv hkv) ?_;intro bs hB hbr hl
 have hc:∀x∈fd.scope.names,x.2≠.cell∧x.2≠.free:=fun x hx=>by
  have:=List.all_eq_true.mp hcell x hx
  simpa using this
 have noK:∀L x,(callEnv fd L f).kindOf x≠some .cell∧(callEnv fd L f).kindOf x≠some .free:=by
  intro L x
  have key:∀kd,fd.scope.names.lookup x=some kd→(x,kd)∈fd.scope.names:=fun kd e=>by
   refine xa2_2 (List.lookup_eq_some_iff.mp e) ?_;intro l1 l2 e1 zu
   rw [e1];simp
  constructor
  ·intro e;exact (hc _ (key _ e)).1 rfl
  ·intro e;exact (hc _ (key _ e)).2 rfl
 refine codeAny_call_function hroom (W.old _ _ ho) hd hco hgen hbody (hf.code.keeps W.old) ?_
 refine hB _ _ _ s W.old (wpAny_newFunctionEnv (fun x hx=>(hc x hx).1) (fun x hx=>of_decide_eq_true (List.all_eq_true.mp hl x hx)) (fun h' hns hsb=>?_) hk)
 have kp:∀b o,s.heap.get? b=some o→h'.get? b=some o:=fun b o e=>hsb.extBut b o (Nat.ne_of_lt (Heap.lt_size e)) (Heap.get?_push_of_some _ e)
 refine ⟨hf.lim.keeps fun b o e=>kp _ _ (W.old _ _ e),codeAny_func ?_⟩
 refine xa0_3 (W.lt (Nat.le_refl s.heap.objs.size)) ?_;intro z1 z2 z3
 refine xa1_2 fs ?_;(try clear fs);intro fl fs1 fs2
 have hfs:G9 (A.deeper (callEnv fd s.heap.objs.size f)) G (callEnv fd s.heap.objs.size f):=
  ⟨callEnv fd s.heap.objs.size f,fl,by simp only [Around.deeper,fs1,Option.map_some],by show fd.scope.kind≠_;rw [hk];decide,rfl,.inl ⟨rfl,rfl⟩,fs2⟩
 have hR:Rp C (A.deeper (callEnv fd s.heap.objs.size f)) F G (callEnv fd s.heap.objs.size f) ⟨loc.reverse,hp⟩ { s with heap:=h',toks:=s.toks+bs.length }:=by
  refine ⟨W.keep kp,⟨hk,⟨_,hns,fun x av hx zu=>hbr.reverse.look hx⟩,⟨z1,z2,z3⟩,fun x hx=>absurd hx (noK _ x).1,fun x zu zu hx=>absurd hx (noK _ x).1,fun x zu zu zu hx=>absurd hx (noK _ x).1,fun x zu zu hx=>absurd hx (noK _ x).2⟩,hfs⟩
 refine wpAny_mono ((h s.heap.objs.size).go hR (AE.refl F)) (fun fl s' z=>?_) fun zu zu x=>x.elim
 refine cps fun zP zk=>?_;(rcases z with ⟨F',b,σ',e1,r,hR',q⟩)<;>(refine zk ?_;clear zk zP)
 cases r with
 |next=>exact ⟨F',_,.none,σ'.hp,rfl,e1,.none,hR'.wd,q⟩
 |brk=>exact q.elim
 |cont=>exact q.elim
 |ret hvr=>exact ⟨F',_,_,σ'.hp,rfl,e1,hvr,hR'.wd,q⟩
theorem AR {f:Addr} {fd:FuncData} {first args:List AV} {kw:List (Str×AV)} {Q:AV→Al→Prop} (hf:FnAt C f fd) (h:Fn C A (.ref f) (first++args) kw σ.hp (fun v hp'=>Q v { σ with hp:=hp' })) :
  Br C A E env (.ref f) first args kw σ Q:=by
 intro F G s fv us vs kvs hR hfv hus hvs hk
 (have zc:=VR.refI hfv;clear hfv;subst zc)
 refine ⟨hf.keep hR.wd.old,wpAny_mono (h.call hR (hus.append hvs) hk) (fun v s' z=>?_) fun zu zu x=>x⟩
 refine cps fun zP zk=>?_;(rcases z with ⟨F',av,⟨l,h'⟩,e,hv,hR',hl,q⟩)<;>(refine zk ?_;clear zk zP)
 dsimp only at hl
 subst hl
 exact ⟨F',av,_,e,hv,hR',q⟩
end
end
section
noncomputable def Cy (C:Cf) (Cl:Addr) (name:Str) (f:Addr):Prop:=∃K:Frag,K.In C.h0 ∧
 findIn K (.ref Cl) "__getattribute__" = some (some (.builtin "object.__getattribute__"))∧findIn K (.ref Cl) "__getattr__" = some none ∧
 findIn K (.ref Cl) name=some (some (.ref f))∧typeIn K (.ref f)=some (.type "function")
noncomputable def EU (C:Cf) (Cl fI:Addr):Prop:=∃K:Frag,K.In C.h0∧makesIn K Cl=true∧findIn K (.ref Cl) "__init__" = some (some (.ref fI))∧typeIn K (.ref fI)=some (.type "function")
section
variable {C:Cf} {A:Around} {E:Value→Shared→Prop} {env:Env} {σ:Al} {F G:FH} {s:Shared}
theorem NR.noName {P:Params} {fs:List (Str×AV)} {ds:List DictEntry} (h:NR P F fs ds) {name:Str} (e:fs.lookup name=none):ds.find? (·.key.isStr name)=none:=by
 induction h with
 |nil=>rfl
 |@cons k v es en ds t a b c zu ih=>
  simp only [List.lookup] at e
  cases q:name == k with
  |true=>rw [q] at e;exact Ap e
  |false=>
   rw [q] at e
   rw [List.find?_cons,b]
   have:(Value.str k t).isStr name=false:=by
    simp only [Value.isStr,beq_eq_false_iff_ne,ne_eq]
    exact fun z=>(beq_eq_false_iff_ne.mp q) z.symm
   rw [this];exact ih e
theorem BS {a d Cl f:Addr} {name:Str} {fs:List (Str×AV)} {Q:AV→List AV→Al→Prop} (hm:Cy C Cl name f) (ha:σ.hp a=some (.inst Cl d)) (hd:σ.hp d=some (.ns fs)) (hn:fs.lookup name=none)
  (h:Q (.ref f) [.ref a] σ):Du C A E env (.ref a) name σ Q:=by
 intro F G s v pl hR hv
 (have zc:=VR.refI hv;clear hv;subst zc)
 refine xa1_5 hm ?_;(try clear hm);intro K X g1 g2 g3 g4
 refine cps fun zP zk=>?_;(rcases hR.wd.ob a _ ha with ⟨zu,zu,o,ho,r⟩)<;>(refine zk ?_;clear zk zP)
 refine cps fun zP zk=>?_;(rcases hR.wd.ob d _ hd with ⟨zu,zu,od,hod,rd⟩)<;>(refine zk ?_;clear zk zP)
 (refine OR.instC r fun zo=>?_;clear r;subst zo)
 (refine OR.nsC rd fun ds n hex hda hnr=>?_;clear rd)
 refine method_fn (od:=some od) (X.keeps hR.wd.old) ⟨ho,rfl,rfl,hod⟩ g1 g2 g3 g4 ?_ ⟨F,.ref f,[.ref a],σ,AE.refl F,.ref f,.cons (.ref a) .nil,hR,h⟩
 simp only [shadowIn,lookIn,hda,hnr.noName hn,hnr.noRef,Bool.false_eq_true,if_false,Option.map_some,Option.isSome_none]
theorem Jq {Cl fI:Addr} (h:EU C Cl fI) {h':Heap} (k:∀b o,C.h0.get? b=some o→h'.get? b=some o):Dv C h' (.ref Cl):=by
 refine xa1_3 h ?_;(try clear h);intro K X g1 zu
 have Y:=makes_of (M:=model C.prog C.w) (X.keeps k) g1
 refine xa4_2 Y.obj ?_;intro oc od cd sl ho zu
 refine ⟨.machine,fun A Q E s k' q=>?_⟩
 unfold keeperOf
 refine wpAny_bind (wpAny_load (k' _ _ ho) ?_)
 refine wpAny_bind (Y.call A _ E s k' ?_)
 exact wpAny_pure q
theorem Ms {Cl fI:Addr} {args:List AV} {kw:List (Str×AV)} {hp:HP} {Q:AV→HP→Prop} (hm:EU C Cl fI)
  (h:∀x vs kvs,hp x=none→Fn C (A.under (.builtin "type.__call__" ⟨.ref Cl::vs,kvs⟩)) (.ref fI) (.ref x::args) kw (upd hp x (.slot Cl [])) (fun v hp'=>v=.none∧Q (.ref x) hp')) :
  Fn C A (.ref Cl) args kw hp Q:=by
 intro F G s vs kvs fs W hv hk
 refine xa1_4 hm ?_;(try clear hm);intro K X g1 g2 g3
 refine cps fun zP zk=>?_;(rcases s with ⟨hh,g,d,t,os⟩)<;>(refine zk ?_;clear zk zP)
 have X':=X.keeps W.old
 refine make_core (makes_of X' g1) (looks_findIn X' g2) (fun self=>bind_fn X' self g3) (.inl rfl) ?_
 refine xa0_2 (W.freeze (t:=t) (o':=emptyDict) rfl) ?_;intro W1 e1
 have W2:=W1.alloc (t:=t) (x':=.slot Cl []) (o':=instObj Cl hh.objs.size) rfl rfl (.slot (us:=[]) (Au F _ _) .nil)
 have z:hp (hh.objs.size+1)=none:=(W.lt (Nat.le_succ _)).2.2
 dsimp only at W2
 rw [Heap.size_push] at W2
 refine codeAny_mono (h (hh.objs.size+1) vs kvs z _ _ _ (.ref (hh.objs.size+1)::vs) kvs fs W2 (.cons (.ref _) (hv.mono e1)) (hk.mono e1)) fun r s' q=>?_
 refine xa4_6 q ?_;(try clear q);intro F' v av hp';rintro rfl;intro e2 hvr W';rintro rfl;intro q
 (have zc:=VR.noneI hvr;clear hvr;subst zc)
 exact ⟨rfl,F',_,.ref _,hp',rfl,e1.trans e2,.ref _,W',q⟩
theorem Mt {Cl fI:Addr} {args:List AV} {kw:List (Str×AV)} {hp:HP} {Q:AV→HP→Prop} (hm:EU C Cl fI)
  (h:∀x d vs kvs,hp x=none→hp d=none→x≠d→Fn C (A.under (.builtin "type.__call__" ⟨.ref Cl::vs,kvs⟩)) (.ref fI) (.ref x::args) kw (upd (upd hp d (.ns [])) x (.inst Cl d)) (fun v hp'=>v=.none∧Q (.ref x) hp')) :
  Fn C A (.ref Cl) args kw hp Q:=by
 intro F G s vs kvs fs W hv hk
 refine xa1_4 hm ?_;(try clear hm);intro K X g1 g2 g3
 refine cps fun zP zk=>?_;(rcases s with ⟨hh,g,d,t,os⟩)<;>(refine zk ?_;clear zk zP)
 have X':=X.keeps W.old
 refine make_core (makes_of X' g1) (looks_findIn X' g2) (fun self=>bind_fn X' self g3) (.inl rfl) ?_
 have W1:=W.alloc (t:=t) (x':=.ns []) (o':=emptyDict) rfl rfl (.ns (ds:=[]) (n:=0) ⟨rfl,rfl,rfl⟩ rfl .nil)
 have W2:=W1.alloc (t:=t) (x':=.inst Cl hh.objs.size) (o':=instObj Cl hh.objs.size) rfl rfl .inst
 have z:hp (hh.objs.size+1)=none:=(W.lt (Nat.le_succ _)).2.2
 have z':hp hh.objs.size=none:=(W.lt (Nat.le_refl _)).2.2
 dsimp only at W2
 rw [Heap.size_push] at W2
 refine codeAny_mono (h (hh.objs.size+1) hh.objs.size vs kvs z z' (Nat.succ_ne_self _) _ _ _ (.ref (hh.objs.size+1)::vs) kvs fs W2 (.cons (.ref _) hv) hk) fun r s' q=>?_
 refine xa4_6 q ?_;(try clear q);intro F' v av hp';rintro rfl;intro e2 hvr W';rintro rfl;intro q
 (have zc:=VR.noneI hvr;clear hvr;subst zc)
 exact ⟨rfl,F',_,.ref _,hp',rfl,e2,.ref _,W',q⟩
theorem DF {Cl fI:Addr} {args:List AV} {kw:List (Str×AV)} {Q:AV→Al→Prop} (hm:EU C Cl fI) (h:Fn C A (.ref Cl) args kw σ.hp (fun v hp'=>Q v { σ with hp:=hp' })) :
  Br C A E env (.ref Cl) [] args kw σ Q:=by
 intro F G s fv us vs kvs hR hfv hus hvs hk
 (have zc:=VR.refI hfv;clear hfv;subst zc)
 (have zc:=VRs.nilI hus;clear hus;subst zc)
 refine ⟨Jq hm hR.wd.old,wpAny_mono (h.call hR hvs hk) (fun v s' z=>?_) fun zu zu x=>x⟩
 refine cps fun zP zk=>?_;(rcases z with ⟨F',av,⟨l,h'⟩,e,hv,hR',hl,q⟩)<;>(refine zk ?_;clear zk zP)
 dsimp only at hl
 subst hl
 exact ⟨F',av,_,e,hv,hR',q⟩
theorem KeepOk_plain {h':Heap} {f:Value} (hf:∀a,f≠.ref a):Dv C h' f:=by
 refine ⟨.machine,fun A Q E s k' q=>?_⟩
 unfold keeperOf
 cases f<;>first|exact wpAny_pure q|exact absurd rfl (hf _)
end
end
section
section
variable {C:Cf} {A:Around} {E:Value→Shared→Prop} {env:Env} {σ:Al} {F G:FH} {s:Shared}
theorem Mw {value slice:Expr} {pos:Pos} {Q:AV→Al→Prop} (h:Ev C A E env value σ (fun a σ₁=>Ev C A E env slice σ₁ (fun b σ₂=>Eg C A E env VR (subscriptTail value slice) a b σ₂ Q))):Ev C A E env (.Subscript value slice pos) σ Q:=by
 intro F G s hR
 refine Subscript_ (h.use hR fun F₁ a σ₁ va s₁ e₁ ha hR₁ h₁=>h₁.use hR₁ fun F₂ b σ₂ vb s₂ e₂ hb hR₂ h₂=>?_)
 exact h₂.at (e₁.trans e₂) hR₂ (ha.mono e₂) hb
theorem El (slice:Expr) (o i:Value):∃ops,subscripted slice false o i=operate ops (getItem o i):=by
 cases slice with
 |Slice a b c d=>cases c<;>exact ⟨_,rfl⟩
 |_=>exact ⟨_,rfl⟩
theorem D4 {value slice:Expr} {o i:Value} {T id:String} {Q:Value→Shared→Prop} (hT:s.TypeIs o T) (hl:typeLookup (.type T) "__getitem__" = pure (some (.builtin id)))
  (hg:wpAny (model C.prog C.w) A (getItem o i) Q E s):wpAny (model C.prog C.w) A (subscriptTail value slice o i) Q E s:=by
 refine xa1_1 (El slice o i) ?_;intro ops h
 exact tail_any hT hl hg h
theorem Rp.list (hR:Rp C A F G env σ s) {a:Addr} {xs:List AV} (ha:σ.hp a=some (.list xs)):∃vs n,IsL s.heap a vs.toArray n∧VRs F xs vs:=by
 refine cps fun zP zk=>?_;(rcases hR.wd.ob a _ ha with ⟨zu,zu,o,ho,r⟩)<;>(refine zk ?_;clear zk zP)
 (refine OR.listC r fun vs n h1 h2 h3 h4 h5=>?_;clear r)
 refine ⟨vs,n,?_,h5⟩
 refine cps fun zP zk=>?_;(rcases o with ⟨c,d,dt,sl⟩)<;>(refine zk ?_;clear zk zP)
 dsimp only at h1 h2 h3 h4
 subst h1 h2 h3 h4
 exact ho
theorem OR.ofL {gens} {xs:List AV} {vs:List Value} {n:Nat} (h:VRs F xs vs):OR C F gens (.list xs) { cls:=.type "list",dict:=none,data:=.seq vs.toArray n,slots:=#[] }:=.list rfl rfl rfl rfl h
theorem Rp.dictOf (hR:Rp C A F G env σ s) {a:Addr} {l:List (Aw×AV)} {ep:Nat} (ha:σ.hp a=some (.dict l ep)):∃kvs,s.heap.DictOf (Bt C.prog C.w) a kvs∧SV F l kvs:=by
 refine cps fun zP zk=>?_;(rcases hR.wd.ob a _ ha with ⟨zu,zu,o,ho,r⟩)<;>(refine zk ?_;clear zk zP)
 (refine OR.dictC r fun zv zv a1 a2 a3 a4 a5 a6=>?_;clear r)
 exact ⟨_,⟨_,_,_,ho,a1,a2,a3,a4,a5⟩,a6⟩
theorem DictOf.or {gens} {h':Heap} {a:Addr} {kvs:List (Aw×Value)} {l:List (Aw×AV)} (hd:h'.DictOf (Bt C.prog C.w) a kvs) (hv:SV F l kvs):∃o ep,h'.get? a=some o∧OR C F gens (.dict l ep) o:=by
 refine xa3_6 hd ?_;(try clear hd);intro o es ep ho a1 a2 a3 a4 a5
 exact ⟨o,ep,ho,.dict a1 a2 a3 a4 a5 hv⟩
noncomputable def Hx (l:List (Aw×AV)) (k:Aw):Option AV:=(l.find? fun p=>p.1=k).map (·.2)
theorem SV.at {l:List (Aw×AV)} {kvs:List (Aw×Value)} (h:SV F l kvs) (k:Aw):(∃x v,Hx l k=some x∧valueAt kvs k=some v∧VR F x v)∨(Hx l k=none∧valueAt kvs k=none):=by
 induction h with
 |nil=>exact .inr ⟨rfl,rfl⟩
 |@cons k' x v xs vs a zu ih=>
  by_cases q:k'=k
  ·subst q;exact .inl ⟨x,v,by simp [Hx],by simp [valueAt],a⟩
  ·have e1:Hx ((k',x)::xs) k=Hx xs k:=by simp [Hx,q]
   have e2:valueAt ((k',v)::vs) k=valueAt vs k:=by simp [valueAt,q]
   rw [e1,e2];exact ih
noncomputable def FO (l:List (Aw×AV)) (k:Aw) (x:AV):List (Aw×AV):=if l.any (fun p=>p.1=k) then l.map (fun p=>if p.1=k then (p.1,x) else p) else l++[(k,x)]
theorem SV.append {x v y u} (h:SV F x v) (k:SV F y u):SV F (x++y) (v++u):=by
 induction h with
 |nil=>exact k
 |cons a zu ih=>exact .cons a ih
theorem SV.stored {l:List (Aw×AV)} {kvs:List (Aw×Value)} (h:SV F l kvs) {k:Aw} {x:AV} {v:Value} (hv:VR F x v):SV F (FO l k x) (PySem.stored kvs k v):=by
 have e:l.any (fun p=>decide (p.1=k))=kvs.any (fun p=>decide (p.1=k)):=by
  have z:∀{α:Type} (m:List (Aw×α)),m.any (fun p=>decide (p.1=k))=(m.map (·.1)).any (fun q=>decide (q=k)):=fun m=>by rw [List.any_map];rfl
  rw [z,z,h.keys]
 unfold FO PySem.stored
 rw [e]
 split
 ·rename_i z;clear z e
  induction h with
  |nil=>exact .nil
  |@cons k' y u xs vs a zu ih=>
   simp only [List.map_cons]
   split
   ·exact .cons hv ih
   ·exact .cons a ih
 ·exact h.append (.cons hv .nil)
theorem Dn {knd:KeyKind C.prog C.w Aw} {h:Heap} {a:Addr} {kvs:List (Aw×Value)} (hd:h.DictOf knd a kvs):h.MapOf knd a (valueAt kvs):=by
 refine xa3_6 hd ?_;(try clear hd);intro o es ep ho a1 a2 a3 a4 a5
 exact ⟨o,es,ep,ho,a1,a2,a3,fun k=>by rw [←a4.find k];unfold findBy;rw [Array.find?_toList]⟩
theorem Aw.is_of {k:Aw} {v:Value} (h:VR F k.av v):k.is v=true:=by
 cases k<;>(first|(have zc:=VR.intI h;clear h;rcases zc with ⟨zu,zc⟩;subst zc)|(have zc:=VR.strI h;clear h;rcases zc with ⟨zu,zc⟩;subst zc)|cases h)<;>simp [Aw.is]
theorem Rp.low (hR:Rp C A F G env σ s) {a:Addr} {x:AO} (ha:σ.hp a=some x) (hs:(C.h0.get? sysModules).isSome=true):(a == sysModules)=false:=by
 simp only [beq_eq_false_iff_ne,ne_eq]
 rintro rfl
 refine xa1_1 (Option.isSome_iff_exists.mp hs) ?_;intro o ho
 have:=(hR.wd.ob _ _ ha).1
 rw [hR.wd.base _ _ ho] at this;exact Ap this
variable (hs:(C.h0.get? sysModules).isSome=true)
theorem GR {value slice:Expr} {a:Addr} {l:List (Aw×AV)} {ep:Nat} {k:Aw} {x:AV} {Q:AV→Al→Prop} (ha:σ.hp a=some (.dict l ep)) (hx:Hx l k=some x) (h:Q x σ):Eg C A E env VR (subscriptTail value slice) (.ref a) k.av σ Q:=by
 intro F G s v u hR hv hu
 (have zc:=VR.refI hv;clear hv;subst zc)
 refine xa1_2 (hR.dictOf ha) ?_;intro kvs hd sv
 rcases sv.at k with ⟨x',v',h1,h2,h3⟩|⟨h1,zu⟩
 ·rw [hx] at h1;(have zc:=Option.some.inj h1;clear h1;subst zc)
  have hm:=Dn hd
  exact D4 hm.typeIs slot_dict_getitem.lookup (wpAny_getItem_of (Aw.is_of hu) hm h2 (A0.of h3 (hR.tok _) h))
 ·rw [hx] at h1;exact Ap h1
include hs in
theorem JS {a:Addr} {l:List (Aw×AV)} {ep:Nat} {k:Aw} {Q:AV→Al→Prop} (ha:σ.hp a=some (.dict l ep)) (h:Q (.bool (Hx l k).isSome) σ):Eg C A E env VR (compareOp .In) k.av (.ref a) σ Q:=by
 intro F G s v u hR hv hu
 (have zc:=VR.refI hu;clear hu;subst zc)
 refine xa1_2 (hR.dictOf ha) ?_;intro kvs hd sv
 refine wpAny_in_of (Aw.is_of hv) (hR.low ha hs) (Dn hd) (A0.of ?_ (hR.tok _) h)
 rcases sv.at k with ⟨x',v',h1,h2,h3⟩|⟨h1,h2⟩
 ·rw [h1,h2];exact .bool _
 ·rw [h1,h2];exact .bool _
theorem Lx {a b:Value} {Q:Value→Shared→Prop} (h:wpAny (model C.prog C.w) A (compareOp .In a b) (fun v s'=>∃t,v=.bool t∧Q (.bool (!t)) s') E s):wpAny (model C.prog C.w) A (compareOp .NotIn a b) Q E s:=by
 have h':wpAny (model C.prog C.w) A (do return Value.bool (←contains b a)) (fun v s'=>∃t,v=.bool t∧Q (.bool (!t)) s') E s:=h
 show wpAny _ _ (do return Value.bool (!(←contains b a))) _ _ _
 intro Γ p hΓ
 have z:=h' Γ p hΓ
 rw [Sem.wp_bind'] at z ⊢
 refine Sem.wp_mono _ _ _ (fun t p' s' q=>?_) (fun zu zu zu q=>q) _ _ z
 refine xa1_2 q ?_;(try clear q);intro t' e q
 cases e
 exact q
theorem Ga {x y:AV} {Q:AV→Al→Prop} (h:Eg C A E env VR (compareOp .In) x y σ (fun v σ'=>∃t,v=.bool t∧Q (.bool (!t)) σ')):Eg C A E env VR (compareOp .NotIn) x y σ Q:=by
 intro F G s v u hR hv hu
 refine Lx (wpAny_mono (h F G s v u hR hv hu) (fun r s' z=>?_) fun zu zu x=>x)
 refine cps fun zP zk=>?_;(rcases z with ⟨F',b,σ',e,hb,hR',t,rfl,q⟩)<;>(refine zk ?_;clear zk zP)
 (have zc:=VR.boolI hb;clear hb;subst zc)
 exact ⟨t,rfl,F',_,σ',e,.bool _,hR',q⟩
theorem Bh {o i value:Expr} {pos' pos:Pos} {Q:A7→Al→Prop}
  (h:Ev C A E env value σ (fun v σ₁=>Ev C A E env o σ₁ (fun b σ₂=>Ev C A E env i σ₂ (fun k σ₃=>∀F G s vv vb vk,Rp C A F G env σ₃ s→VR F v vv→VR F b vb→VR F k vk →
   wpAny (model C.prog C.w) A (setItem vb vk vv) (fun zu s'=>∃F' σ',AE F F'∧Rp C A F' G env σ' s'∧Q .next σ') E s))))
  (hs:autoParam (swapsWith value (some (.Subscript o i pos')) pos.line env=pure false) AC.aux0._auto_1):Ex C A E env (.Assign [.Subscript o i pos'] value pos) σ Q:=by
 intro F G s hR
 refine wpAny_Assign_Subscript (h.use hR fun F₁ a σ₁ va s₁ e₁ ha hR₁ h₁=>h₁.use hR₁ fun F₂ b σ₂ vb s₂ e₂ hb hR₂ h₂=>h₂.use hR₂ fun F₃ k σ₃ vk s₃ e₃ hk hR₃ h₃=>?_) hs
 refine wpAny_mono (h₃ F₃ G s₃ va vb vk hR₃ (ha.mono (e₂.trans e₃)) (hb.mono e₃) hk) (fun zu s' z=>?_) fun zu zu x=>x
 refine xa2_3 z ?_;(try clear z);intro F' σ' e hR' q
 exact ⟨F',.next,σ',e₁.trans (e₂.trans (e₃.trans e)),.next,hR',q⟩
theorem SameBut.rest {h h':Heap} {a:Addr} (hs:Heap.SameBut a h h'):∀b o,b≠a→h.get? b=some o→h'.get? b=some o:=fun b o ne e=>(hs.2 b ne).trans e
theorem Iu {a:Addr} {l:List (Aw×AV)} {ep:Nat} {k:Aw} {x:AV} {Q:Al→Prop} (ha:σ.hp a=some (.dict l ep)) (hz:l.length≤4096) (h:∀ep',Q (σ.put a (.dict (FO l k x) ep'))) :
  ∀F G s vv vb vk,Rp C A F G env σ s→VR F x vv→VR F (.ref a) vb→VR F k.av vk→wpAny (model C.prog C.w) A (setItem vb vk vv) (fun zu s'=>∃F' σ',AE F F'∧Rp C A F' G env σ' s'∧Q σ') E s:=by
 intro F G s vv vb vk hR hv hb hk
 (have zc:=VR.refI hb;clear hb;subst zc)
 refine xa1_2 (hR.dictOf ha) ?_;intro kvs hd sv
 refine wpAny_setItem_pairs (Aw.is_of hk) hd (fun h' hd' hsb=>?_) (by rw [sv.length,sizeLine_eq];with_reducible exact Bj ‹_› (by decide))
 refine xa2_2 (DictOf.or (C:=C) (gens:=s.gens) hd' (sv.stored hv)) ?_;intro o ep' ho r
 exact ⟨F,_,AE.refl F,hR.change ha rfl ho r (SameBut.rest hsb),h ep'⟩
theorem AB {id:String} {first args:List AV} {Q:AV→Al→Prop} (h:∀F G s us vs,Rp C A F G env σ s→VRs F first us→VRs F args vs→wpAny (model C.prog C.w) A (PySem.call (.builtin id) (us++vs)) (A0 C A G env VR Q F) E s) :
  Br C A E env (.val (.builtin id)) first args [] σ Q:=by
 intro F G s fv us vs kvs hR hf hus hvs hk
 (have zc:=VR.valI hf;clear hf;subst zc);cases hk
 exact ⟨KeepOk_plain (by intro a;simp),h F G s us vs hR hus hvs⟩
theorem Ef {T:String} {args:List AV} {Q:AV→Al→Prop} (h:∀F G s vs,Rp C A F G env σ s→VRs F args vs→wpAny (model C.prog C.w) A (PySem.call (.type T) vs) (A0 C A G env VR Q F) E s) :
  Br C A E env (.val (.type T)) [] args [] σ Q:=by
 intro F G s fv us vs kvs hR hf hus hvs hk
 (have zc:=VR.valI hf;clear hf;subst zc);cases hk;(have zc:=VRs.nilI hus;clear hus;subst zc)
 exact ⟨KeepOk_plain (by intro a;simp),h F G s vs hR hvs⟩
theorem AW {a:Addr} {x:AO} {T:String} {name:Str} {id:String} {Q:AV→List AV→Al→Prop} (ha:σ.hp a=some x) (hT:∀F gens o,OR C F gens x o→o.cls=.type T∧o.dict=none) (pa:PlainAttrs T) (slot:Slot T name id)
  (hty:typeOf (.builtin id)=pure (.type "method_descriptor")) (h:Q (.val (.builtin id)) [.ref a] σ):Du C A E env (.ref a) name σ Q:=by
 intro F G s v pl hR hv
 (have zc:=VR.refI hv;clear hv;subst zc)
 refine cps fun zP zk=>?_;(rcases hR.wd.ob a _ ha with ⟨zu,zu,o,ho,r⟩)<;>(refine zk ?_;clear zk zP)
 refine xa0_2 (hT _ _ _ r) ?_;intro h1 h2
 exact getMethod_builtin ⟨o,ho,h1⟩ pa slot hty (fun b e=>by cases e;exact ⟨o,ho,h2⟩) ⟨F,_,_,σ,AE.refl F,.val _,.cons (.ref a) .nil,hR,h⟩
theorem OR.clsL {xs:List AV}:∀F gens o,OR C F gens (.list xs) o→o.cls=.type "list"∧o.dict=none:=by
 intro F gens o r;(refine OR.listC r fun zv zv a b zv zv zv=>?_;clear r);exact ⟨a,b⟩
theorem OR.clsD {l:List (Aw×AV)} {ep:Nat}:∀F gens o,OR C F gens (.dict l ep) o→o.cls=.type "dict"∧o.dict=none:=by
 intro F gens o r;(refine OR.dictC r fun zv zv a zv zv zv zv zv=>?_;clear r);exact ⟨a.1,a.2.1⟩
theorem list_append {a:Addr} {xs:List AV} {x:AV} {Q:AV→Al→Prop} (ha:σ.hp a=some (.list xs)) (hz:xs.length≤100000) (h:Q .none (σ.put a (.list (xs++[x])))):Br C A E env (.val (.builtin "list.append")) [.ref a] [x] [] σ Q:=by
 refine AB fun F G s us vs hR hus hvs=>?_
 refine VRs.consC hus fun zv zw zo q r=>?_;clear hus;subst zo;(have zc:=VR.refI q;clear q;subst zc);(have zc:=VRs.nilI r;clear r;subst zc);refine VRs.consC hvs fun v zw zo q2 r2=>?_;clear hvs;subst zo
 (have zc:=VRs.nilI r2;clear r2;subst zc)
 refine xa2_2 (hR.list ha) ?_;intro ws n hl hv
 refine call_meets PySem.F.slot_list_append ⟨_,hl,rfl⟩ PySem.F.entry_list_append (PySem.F.args_list_append_2 _ _) (PySem.list_append a ws.toArray n v (by rw [List.size_toArray,hv.length,sizeLine_eq];with_reducible exact Bj ‹_› (by decide))) ⟨hl,?_⟩
 have hl':=hl.update (fun x=>x.push v)
 refine ⟨F,.none,_,AE.refl F,.none,hR.change ha rfl hl' ?_ (SameBut.rest (Heap.SameBut.update ..)),h⟩
 rw [List.push_toArray]
 exact OR.ofL (hv.append (.cons q2 .nil))
theorem Ii {a:Addr} {xs:List AV} {x:AV} {Q:AV→Al→Prop} (ha:σ.hp a=some (.list (xs++[x]))) (hz:xs.length≤100000) (h:Q x (σ.put a (.list xs))):Br C A E env (.val (.builtin "list.pop")) [.ref a] [] [] σ Q:=by
 refine AB fun F G s us vs hR hus hvs=>?_
 obtain rfl:us=[Value.ref a]:=by refine VRs.consC hus fun zv zw zo q r=>?_;clear hus;subst zo;(have zc:=VR.refI q;clear q;subst zc);(have zc:=VRs.nilI r;clear r;subst zc);rfl
 obtain rfl:vs=[]:=by (have zc:=VRs.nilI hvs;clear hvs;subst zc);rfl
 refine xa2_2 (hR.list ha) ?_;intro ws n hl hv
 have hlen:=hv.length
 rw [List.length_append,List.length_singleton] at hlen
 refine xa1_2 (hv.get (i:=xs.length) (x:=x) (by simp)) ?_;intro w hw hwv
 have hd:ws.take xs.length++[w]=ws:=by
  have e1:ws.drop xs.length=[w]:=by
   have:(ws.drop xs.length).length=1:=by rw [List.length_drop];exact Nat.le_antisymm (A8 [_,_,_] [(1,Z1,(Zs Z2)),(1,(Za Z0 Z2),Z1)] Z0 (Zn 1) rfl (Nat.le_of_eq hlen) (Nat.le_of_eq (Nat.sub_add_cancel (A8 [_,_] [(1,(Zs Z0),Z1)] Z0 Z1 rfl (Nat.le_of_eq (Eq.symm hlen)))))) (A8 [_,_,_] [(1,(Zs Z1),Z2),(1,Z2,(Za Z0 Z1))] (Zn 1) Z0 rfl (Nat.le_of_eq (Eq.symm hlen)) (Eh _ _))
   refine xa1_1 (List.length_eq_one_iff.mp this) ?_;intro y hy
   have:(ws.drop xs.length)[0]? = some w:=by rw [List.getElem?_drop,Nat.add_zero];exact hw
   rw [hy] at this ⊢;simpa using this
  rw [←e1];exact List.take_append_drop _ _
 refine call_meets PySem.F.slot_list_pop ⟨_,hl,rfl⟩ PySem.F.entry_list_pop (PySem.F.args_list_pop_1 _) (MeetsSeq.list_pop_last a ws.toArray n w (by rw [List.size_toArray,List.getElem?_toArray,hlen];exact hw) (by rw [List.size_toArray,hlen,sizeLine_eq];exact A8 [_] [(1,Z0,(Zn 100000))] (Zs Z0) (Zn 16777216) rfl hz)) ⟨hl,?_⟩
 have hl':=hl.update (fun y=>y.eraseIdxIfInBounds (ws.toArray.size - 1))
 have ee:(ws.toArray.eraseIdxIfInBounds (ws.toArray.size - 1))=(ws.take xs.length).toArray:=by
  apply Array.ext'
  simp only [List.size_toArray,hlen,Nat.add_sub_cancel]
  rw [Array.toList_eraseIdxIfInBounds]
  show ws.eraseIdx xs.length=_
  conv=>lhs;rw [←hd]
  rw [List.eraseIdx_append_of_length_le (by rw [List.length_take];omega)]
  simp [List.length_take,hlen]
 refine ⟨F,x,_,AE.refl F,hwv,hR.change ha rfl hl' ?_ (SameBut.rest (Heap.SameBut.update ..)),h⟩
 rw [ee]
 have:=hv.take xs.length
 rw [List.take_left] at this
 exact OR.ofL this
theorem EW {a:Addr} {xs:List AV} {Q:Bool→Al→Prop} (ha:σ.hp a=some (.list xs)) (hz:xs.length≤100000) (h:Q (!xs.isEmpty) σ):Hz C A E env (fun zu b b'=>b=b') truthy (.ref a) σ Q:=by
 intro F G s v hR hv
 (have zc:=VR.refI hv;clear hv;subst zc)
 refine xa2_2 (hR.list ha) ?_;intro ws n hl hv
 refine wpAny_truthy_list hl.isList (by rw [List.size_toArray,hv.length];omega) (A0.of ?_ (hR.tok _) h)
 rw [List.isEmpty_toArray]
 cases hv<;>rfl
end
end
section
section
variable {C:Cf} {A:Around} {E:Value→Shared→Prop} {env:Env} {σ:Al} {F G:FH} {s:Shared}
theorem MR {a b:Int} {Q:AV→Al→Prop} (h:Q (.int (a+b)) σ):Eg C A E env VR (binaryOp .Add) (.int a) (.int b) σ Q:=by
 intro F G s v u hR hv hu;(have zc:=VR.intI hv;clear hv;rcases zc with ⟨zu,zc⟩;subst zc);(have zc:=VR.intI hu;clear hu;rcases zc with ⟨zu,zc⟩;subst zc);exact add_int (A0.of (.int _ _) (hR.tok _) h)
theorem MQ {a b:Int} {Q:AV→Al→Prop} (h:Q (.int (a - b)) σ):Eg C A E env VR (binaryOp .Sub) (.int a) (.int b) σ Q:=by
 intro F G s v u hR hv hu;(have zc:=VR.intI hv;clear hv;rcases zc with ⟨zu,zc⟩;subst zc);(have zc:=VR.intI hu;clear hu;rcases zc with ⟨zu,zc⟩;subst zc);exact PyProof.Rows.sub_int (A0.of (.int _ _) (hR.tok _) h)
theorem NX {a b:Int} {Q:AV→Al→Prop} (h:Q (.bool (decide (a≤b))) σ):Eg C A E env VR (compareOp .LtE) (.int a) (.int b) σ Q:=by
 intro F G s v u hR hv hu;(have zc:=VR.intI hv;clear hv;rcases zc with ⟨zu,zc⟩;subst zc);(have zc:=VR.intI hu;clear hu;rcases zc with ⟨zu,zc⟩;subst zc);exact le_int (A0.of (.bool _) hR h)
theorem G0 {elts:List Expr} {k:Nat} {pos:Pos} {Q:AV→Al→Prop} (h:M1 C A E env (backTo pos (starEach elts env)) σ (fun vs σ'=>vs.length≤100000∧Q (.tup vs) σ')):Ev C A E env (.Tuple elts k pos) σ Q:=by
 intro F G s hR
 refine Tuple_ (h.use hR fun F₁ vs σ₁ us s₁ e₁ hv hR₁ h₁=>?_)
 have hz:us.length≤sizeLine:=by rw [hv.length,sizeLine_eq];exact A8 [_] [(1,Z0,(Zn 100000))] Z0 (Zn 16777216) rfl h₁.1
 unfold newTuple
 refine wpAny_newObj_type ?_ (by show us.toArray.size≤sizeLine;rw [List.size_toArray];exact hz)
 refine xa0_2 (hR₁.freeze (t:=s₁.toks) (o':={ cls:=.type "tuple",data:=.seq us.toArray }) rfl) ?_;intro hR₂ e₂
 exact A0.ext (e₁.trans e₂) (A0.of (.tup (Au _ _ _) rfl rfl (hv.mono e₂)) hR₂ h₁.2)
theorem AN {elts:List Expr} {pos:Pos} {Q:AV→Al→Prop} (h:M1 C A E env (backTo pos (starEach elts env)) σ (fun vs σ'=>vs.length≤100000∧∀a,σ'.hp a=none→Q (.ref a) (σ'.put a (.list vs)))):Ev C A E env (.List elts pos) σ Q:=by
 intro F G s hR
 refine List_ (h.use hR fun F₁ vs σ₁ us s₁ e₁ hv hR₁ h₁=>?_)
 have hz:us.length≤sizeLine:=by rw [hv.length,sizeLine_eq];exact A8 [_] [(1,Z0,(Zn 100000))] Z0 (Zn 16777216) rfl h₁.1
 unfold newList
 refine wpAny_newObj_type ?_ (by show us.toArray.size≤sizeLine;rw [List.size_toArray];exact hz)
 exact A0.ext e₁ (A0.of (.ref _) (hR₁.alloc (t:=s₁.toks) rfl rfl (OR.ofL (n:=0) hv)) (h₁.2 _ hR₁.lt))
theorem Mx {pos:Pos} {Q:AV→Al→Prop} (h:∀a,σ.hp a=none→Q (.ref a) (σ.put a (.dict [] 0))):Ev C A E env (.Dict [] [] pos) σ Q:=by
 intro F G s hR
 refine wpAny_Dict_empty ?_
 exact A0.of (.ref _) (hR.alloc (t:=s.toks) rfl rfl (.dict (es:=#[]) (kvs:=[]) ⟨rfl,rfl,rfl⟩ rfl (fun zu he=>by simp at he) .nil (by simp) .nil)) (h _ hR.lt)
theorem Rp.setOf (hR:Rp C A F G env σ s) {a:Addr} {S:Int→Bool} {n:Nat} (ha:σ.hp a=some (.iset S n)):s.heap.SetOf (intKind C.prog C.w) a S n:=by
 refine cps fun zP zk=>?_;(rcases hR.wd.ob a _ ha with ⟨zu,zu,o,ho,r⟩)<;>(refine zk ?_;clear zk zP)
 (refine OR.isetC r fun zv zv zv a1 a2 a3 a4 a5 a6 a7=>?_;clear r)
 exact ⟨_,_,_,_,ho,a1,a2,a3,a4,a5,a6,a7⟩
theorem SetOf.or {gens} {h':Heap} {a:Addr} {S:Int→Bool} {n:Nat} (hd:h'.SetOf (intKind C.prog C.w) a S n):∃o,h'.get? a=some o∧OR C F gens (.iset S n) o:=by
 refine xa4_8 hd ?_;(try clear hd);intro o es ep t ho a1 a2 a3 a4 a5 a6 a7
 exact ⟨o,ho,.iset a1 a2 a3 a4 a5 a6 a7⟩
theorem J6 {Q:AV→Al→Prop} (h:∀a,σ.hp a=none→Q (.ref a) (σ.put a (.iset (fun zu=>false) 0))):Br C A E env (.val (.type "set")) [] [] [] σ Q:=by
 refine Ef fun F G s vs hR hvs=>?_
 obtain rfl:vs=[]:=by (have zc:=VRs.nilI hvs;clear hvs;subst zc);rfl
 refine call_set_0 fun led=>A0.of (.ref _) (hR.alloc (t:=s.toks) rfl rfl (.iset ⟨rfl,rfl,rfl⟩ rfl (fun e he=>by simp at he) (fun k=>by simp) (by simp;decide) (by rfl) rfl)) (h _ hR.lt)
theorem J7 {a:Addr} {S:Int→Bool} {n:Nat} {k:Int} {Q:AV→Al→Prop} (ha:σ.hp a=some (.iset S n)) (hn:n+1<4096) (h:Q .none (σ.put a (.iset (fun j=>S j||decide (j=k)) (if S k then n else n+1)))) :
  Br C A E env (.val (.builtin "set.add")) [.ref a] [.int k] [] σ Q:=by
 refine AB fun F G s us vs hR hus hvs=>?_
 obtain rfl:us=[Value.ref a]:=by refine VRs.consC hus fun zv zw zo q r=>?_;clear hus;subst zo;(have zc:=VR.refI q;clear q;subst zc);(have zc:=VRs.nilI r;clear r;subst zc);rfl
 obtain ⟨t,rfl⟩:∃t,vs=[Value.int k t]:=by refine VRs.consC hvs fun zv zw zo q r=>?_;clear hvs;subst zo;(have zc:=VR.intI q;clear q;rcases zc with ⟨zu,zc⟩;subst zc);(have zc:=VRs.nilI r;clear r;subst zc);exact ⟨_,rfl⟩
 refine call_set_add (knd:=intKind C.prog C.w) (k:=k) (by simp [intKind,Value.isInt]) rfl (hR.setOf ha) hn fun h' hsb hS=>?_
 refine xa1_2 (SetOf.or (C:=C) (F:=F) (gens:=s.gens) hS) ?_;intro o ho r
 exact A0.of .none (hR.change ha rfl ho r (SameBut.rest hsb)) h
theorem Ln {a:Addr} {S:Int→Bool} {n:Nat} {k:Int} {Q:AV→Al→Prop} (ha:σ.hp a=some (.iset S n)) (h:Q (.bool (S k)) σ):Eg C A E env VR (compareOp .In) (.int k) (.ref a) σ Q:=by
 intro F G s v u hR hv hu
 (have zc:=VR.intI hv;clear hv;rcases zc with ⟨zu,zc⟩;subst zc);(have zc:=VR.refI hu;clear hu;subst zc)
 exact wpAny_inSet_of (knd:=intKind C.prog C.w) (k:=k) (by simp [intKind,Value.isInt]) rfl (hR.setOf ha) (A0.of (.bool _) (hR.tok _) h)
theorem OR.clsS {S:Int→Bool} {n:Nat}:∀F gens o,OR C F gens (.iset S n) o→o.cls=.type "set"∧o.dict=none:=by
 intro F gens o r;(refine OR.isetC r fun zv zv zv a zv zv zv zv zv zv=>?_;clear r);exact ⟨a.1,a.2.1⟩
theorem I9 {a:Addr} {xs:List AV} {Q:AV→Al→Prop} (ha:σ.hp a=some (.list xs)) (hz:xs.length≤100000) (h:Q (.tup xs) σ):Br C A E env (.val (.type "tuple")) [] [.ref a] [] σ Q:=by
 refine Ef fun F G s vs hR hvs=>?_
 obtain rfl:vs=[Value.ref a]:=by refine VRs.consC hvs fun zv zw zo q r=>?_;clear hvs;subst zo;(have zc:=VR.refI q;clear q;subst zc);(have zc:=VRs.nilI r;clear r;subst zc);rfl
 refine xa2_2 (hR.list ha) ?_;intro ws n hl hv
 refine call_tuple_list hl.isList (fun h' hk=>?_) (by rw [List.size_toArray,hv.length,sizeLine_eq];with_reducible exact Bj ‹_› (by decide))
 refine xa0_2 ((hR.keep (t:=s.toks) hk).freeze (t:=s.toks) (o':={ cls:=.type "tuple",data:=.seq ws.toArray }) rfl) ?_;intro hR₂ e₂
 exact A0.ext e₂ (A0.of (.tup (Au _ _ _) rfl rfl (hv.mono e₂)) hR₂ h)
theorem MN {xs:List AV} {Q:AV→Al→Prop} (hz:xs.length≤100000) (h:Q (.int xs.length) σ):Br C A E env (.val (.builtin "len")) [] [.tup xs] [] σ Q:=by
 refine AB fun F G s us vs hR hus hvs=>?_
 obtain rfl:us=[]:=by (have zc:=VRs.nilI hus;clear hus;subst zc);rfl
 refine VRs.consC hvs fun zv zw zo q r=>?_;clear hvs;subst zo;(have zc:=VRs.nilI r;clear r;subst zc);refine VR.tupC q fun zs za zw zn zo q1 q2 q3 q4=>?_;clear q;subst zo
 refine PyProof.Rows.len_tuple ⟨_,hR.wd.fz _ _ q1,q2,_,q3⟩ (by rw [List.size_toArray,q4.length];omega) (A0.of ?_ (hR.tok _) h)
 rw [List.size_toArray,q4.length];exact .int _ _
theorem IB {xs:List AV} {Q:Bool→Al→Prop} (hz:xs.length≤100000) (h:Q (!xs.isEmpty) σ):Hz C A E env (fun zu b b'=>b=b') truthy (.tup xs) σ Q:=by
 intro F G s v hR hv
 refine VR.tupC hv fun zs za zw zn zo q1 q2 q3 q4=>?_;clear hv;subst zo
 refine truthy_tuple ⟨_,hR.wd.fz _ _ q1,q2,_,q3⟩ (by rw [List.size_toArray,q4.length];omega) (A0.of ?_ (hR.tok _) h)
 rw [List.isEmpty_toArray]
 cases q4<;>rfl
theorem AM {e:Expr} {pos:Pos} {Q:A7→Al→Prop} (h:Ev C A E env e σ (fun zu σ'=>Q .next σ')) (hi:autoParam (interactive env=false) AC.aux0._auto_1) (hs:autoParam (swapsWith e none pos.line env=pure false) AC.aux0._auto_1):Ex C A E env (.Expr e pos) σ Q:=by
 intro F G s hR
 rw [exec_Expr env e pos hi hs]
 exact wpAny_bind (wpAny_standAt (wpAny_bind (h.use hR fun F₁ v σ₁ vv s₁ e₁ hv hR₁ h₁=>wpAny_dropValue (A0.ext e₁ (A0.of .next hR₁ h₁)))))
theorem I2 {o value:Expr} {attr:Str} {tpos pos:Pos} {op:Operator} {Q:A7→Al→Prop}
  (h:Ev C A E env o σ (fun ov σ₁=>Hz C A E env VR (fun v=>getAttr v attr true) ov σ₁ (fun old σ₂=>Ev C A E env value σ₂ (fun v σ₃=>Eg C A E env VR (inplaceOp op) old v σ₃ (fun new σ₄=>
   Eg C A E env (fun zu (zu:Unit) (zu:Unit)=>True) (fun u w=>setAttr w attr u) new ov σ₄ (fun zu σ₅=>Q .next σ₅)))))):Ex C A E env (.AugAssign (.Attribute o attr tpos) op value pos) σ Q:=by
 intro F G s hR
 refine wpAny_AugAssign_AttributeAny (h.use hR fun F₁ ov σ₁ vo s₁ e₁ ho hR₁ h₁=>wpAny_mono (h₁ F₁ G s₁ vo hR₁ ho) (fun old s₂ z=>?_) fun zu zu x=>x)
 refine cps fun zP zk=>?_;(rcases z with ⟨F₂,oldv,σ₂,e₂,hold,hR₂,h₂⟩)<;>(refine zk ?_;clear zk zP)
 refine h₂.use hR₂ fun F₃ vv σ₃ v s₃ e₃ hv hR₃ h₃=>wpAny_mono (h₃ F₃ G s₃ old v hR₃ (hold.mono e₃) hv) (fun new s₄ z=>?_) fun zu zu x=>x
 refine cps fun zP zk=>?_;(rcases z with ⟨F₄,nv,σ₄,e₄,hn,hR₄,h₄⟩)<;>(refine zk ?_;clear zk zP)
 refine wpAny_mono (h₄ F₄ G s₄ new vo hR₄ hn (ho.mono (e₂.trans (e₃.trans e₄)))) (fun zu s₅ z=>?_) fun zu zu x=>x
 refine cps fun zP zk=>?_;(rcases z with ⟨F₅,b,σ₅,e₅,zu,hR₅,h₅⟩)<;>(refine zk ?_;clear zk zP)
 exact ⟨F₅,.next,σ₅,e₁.trans (e₂.trans (e₃.trans (e₄.trans e₅))),.next,hR₅,h₅⟩
theorem Ik {a b:Int} {Q:AV→Al→Prop} (h:Q (.int (a+b)) σ):Eg C A E env VR (inplaceOp .Add) (.int a) (.int b) σ Q:=by
 intro F G s v u hR hv hu;(have zc:=VR.intI hv;clear hv;rcases zc with ⟨zu,zc⟩;subst zc);(have zc:=VR.intI hu;clear hu;rcases zc with ⟨zu,zc⟩;subst zc);exact iadd_int (A0.of (.int _ _) (hR.tok _) h)
end
end
section
noncomputable abbrev Bd:Value→Shared→Prop:=fun zu zu=>False
section
variable {C:Cf} {A:Around} {E:Value→Shared→Prop} {env:Env} {σ:Al} {F G:FH} {s:Shared}
theorem Dy {test:Expr} {body:List Stmt} {pos:Pos} {Q:A7→Al→Prop} (I:Nat→Al→Prop)
  (turn:∀n σ,I n σ→Et C A Bd env test σ (fun b σ₁=>match b with
   |true=>Cd C A Bd env body σ₁ (fun f σ₂=>match f with
    |.next=>∃m,m<n∧I m σ₂
    |.cont=>∃m,m<n∧I m σ₂
    |.brk=>Q .next σ₂
    |.ret v=>Q (.ret v) σ₂)
   |false=>Q .next σ₁)) (n:Nat) (h:I n σ):Ex C A E env (.While test body [] pos) σ Q:=by
 intro F G s hR
 refine wpAny_While (codeAny_whileLoop (fun n s'=>∃F' σ',AE F F'∧Rp C A F' G env σ' s'∧I n σ') (fun n s' hI=>?_) n ⟨F,σ,AE.refl F,hR,h⟩)
 refine xa2_3 hI ?_;(try clear hI);intro F' σ' e hR' hI
 refine wpAny_mono (turn n σ' hI F' G s' hR') (fun b s₁ z=>?_) fun zu zu x=>x.elim
 refine cps fun zP zk=>?_;(rcases z with ⟨F₁,b',σ₁,e₁,rfl,hR₁,h₁⟩)<;>(refine zk ?_;clear zk zP)
 cases b' with
 |true=>
  refine wpAny_mono (h₁ F₁ G s₁ hR₁) (fun f s₂ z=>?_) fun zu zu x=>x.elim
  refine cps fun zP zk=>?_;(rcases z with ⟨F₂,fl,σ₂,e₂,r,hR₂,h₂⟩)<;>(refine zk ?_;clear zk zP)
  have ee:=e.trans (e₁.trans e₂)
  cases r with
  |next=>refine xa1_2 h₂ ?_;(try clear h₂);intro m hm hi;exact ⟨m,hm,F₂,σ₂,ee,hR₂,hi⟩
  |cont=>refine xa1_2 h₂ ?_;(try clear h₂);intro m hm hi;exact ⟨m,hm,F₂,σ₂,ee,hR₂,hi⟩
  |brk=>exact ⟨F₂,.next,σ₂,ee,.next,hR₂,h₂⟩
  |ret hv=>exact ⟨F₂,_,σ₂,ee,.ret hv,hR₂,h₂⟩
 |false=>exact wpAny_execs_nil ⟨F₁,.next,σ₁,e.trans e₁,.next,hR₁,h₁⟩
theorem AA (F:FH) {a b:Addr} (o:Obj) (h:b≠a):AS F a o b=F b:=by simp [AS,h]
noncomputable def De (G m:FH):FH:=fun b=>match m b with|some o=>some o|none=>G b
noncomputable def sg (a:Addr) (o:Obj):FH:=fun b=>if b=a then some o else none
noncomputable def Dw (o:Obj):Prop:=(∀v,o.data≠.cell v)∧∀es ep,o.data≠.dict es ep
noncomputable def DT (m:FH):Prop:=∀b o,m b=some o→Dw o
noncomputable def Dd (m G:FH):Prop:=∀b o,m b=some o→G b=none
theorem Bn {m:FH} {b:Addr} {o:Obj} (h:m b=some o):De G m b=some o:=by unfold De;rw [h]
theorem AH {m:FH} {b:Addr} (h:m b=none):De G m b=G b:=by unfold De;rw [h]
theorem Be (a:Addr) (o:Obj):sg a o a=some o:=by simp [sg]
theorem J4 {a b:Addr} (o:Obj) (h:b≠a):sg a o b=none:=by simp [sg,h]
theorem BE {a:Addr} {o:Obj} (h:Dw o):DT (sg a o):=fun b o' e=>by
 unfold sg at e
 split at e
 ·(have zc:=Option.some.inj e;clear e;subst zc);exact h
 ·exact Aj e
theorem D5 {a:Addr} {o:Obj} (h:G a=none):Dd (sg a o) G:=fun b o' e=>by
 unfold sg at e
 split at e
 ·rename_i q;subst q;exact h
 ·exact Aj e
theorem CR {m:FH} (h:Dd m G):AE G (De G m):=fun b o e=>by
 cases q:m b with
 |none=>rw [AH q];exact e
 |some o'=>rw [h b o' q] at e;exact Aj e
theorem Hl {m:FH} (h:Dd m G) {b:Addr} (e:De G m b=none):G b=none∧m b=none:=by
 cases q:m b with
 |none=>rw [AH q] at e;exact ⟨e,rfl⟩
 |some o'=>rw [Bn q] at e;exact Ap e
theorem Mr.offM {m:FH} (hq:DT m) {e:Env} (h:Mr (De G m) e):Mr G e:=by
 refine cps fun zP zk=>?_;(rcases h with ⟨a,L,o,b,c,es,ep,d⟩)<;>(refine zk ?_;clear zk zP)
 refine ⟨a,L,o,b,?_,es,ep,d⟩
 cases q:m L with
 |none=>rw [AH q] at c;exact c
 |some o'=>rw [Bn q] at c;(have zc:=Option.some.inj c;clear c;subst zc);exact absurd d ((hq _ _ q).2 es ep)
theorem G9.offM {m:FH} (hq:DT m) (h:G9 A (De G m) env):G9 A G env:=
 let ⟨e,l,a,b,c,d,f⟩:=h
 ⟨e,l,a,b,c,d.imp id (fun z=>z.offM hq),fun e' h'=>(f e' h').offM hq⟩
theorem Rp.ochange {m m':FH} (hR:Rp C A F (De G m) env σ s) (hq:DT m) (hq':DT m') (hd:Dd m G) (hdom:∀b,m b=none→m' b=none) {h':Heap} {t:Nat}
  (ho:∀b o,m' b=some o→h'.get? b=some o) (k:∀b ob,m b=none→s.heap.get? b=some ob→h'.get? b=some ob):Rp C A F (De G m') env σ ⟨h',s.gens,s.drawn,t,s.os⟩:=by
 refine cps fun zP zk=>?_;(rcases hR with ⟨⟨w1,w2,w3,w4,w5,w6,w7,w8⟩,⟨kd,⟨n,hn,hnv⟩,⟨l1,l2,l3⟩,co,ci,cv,fv⟩,hfs⟩)<;>(refine zk ?_;clear zk zP)
 have hd':Dd m' G:=fun b o e=>by
  cases q:m b with
  |none=>rw [hdom b q] at e;exact Aj e
  |some o'=>exact hd b o' q
 have mn:∀{b},De G m b=none→m b=none:=fun e=>(Hl hd e).2
 have on:∀{b},De G m b=none→De G m' b=none:=fun e=>by rw [AH (hdom _ (mn e))];exact (Hl hd e).1
 refine ⟨⟨w1,fun b ob e=>k _ _ (mn (w8 b ob e)) (w2 b ob e),fun b ob e=>?_,fun b x e=>?_,w5,w6,w7,fun b ob e=>on (w8 b ob e)⟩,⟨kd,⟨n,?_,hnv⟩,⟨l1,on l2,l3⟩,fun x hx=>?_,ci,fun x av c h1 h2 h3=>?_,fun x av h1 h2=>?_⟩,(hfs.offM hq).mono (CR hd')⟩
 ·cases q:m' b with
  |some o'=>rw [Bn q] at e;(have zc:=Option.some.inj e;clear e;subst zc);exact ⟨_,ho _ _ q,Fh.rfl' _⟩
  |none=>
   rw [AH q] at e
   have qm:m b=none:=by
    cases q2:m b with
    |none=>rfl
    |some o2=>rw [hd b o2 q2] at e;exact Aj e
   refine xa1_2 (w3 b ob (by rw [AH qm];exact e)) ?_;intro ob' z1 z2
   exact ⟨ob',k _ _ qm z1,z2⟩
 ·refine cps fun zP zk=>?_;(rcases w4 b x e with ⟨p,q,ob,hob,r⟩)<;>(refine zk ?_;clear zk zP)
  exact ⟨p,on q,ob,k _ _ (mn q) hob,r⟩
 ·refine xa3_2 hn ?_;(try clear hn);intro oL es ep hL r
  exact ⟨oL,es,ep,k _ _ (mn l2) hL,r⟩
 ·refine cps fun zP zk=>?_;(rcases co x hx with ⟨c,g1,g2,g3,g4,g5,v,ob,g6,g7⟩)<;>(refine zk ?_;clear zk zP)
  exact ⟨c,g1,g2,on g3,g4,g5,v,ob,k _ _ (mn g3) g6,g7⟩
 ·refine xa1_4 (co x h2) ?_;intro c' g1 g2 g3 zu
  rw [h3] at g1;(have zc:=Option.some.inj g1;clear g1;subst zc)
  refine xa1_2 (cv x av c h1 h2 h3) ?_;intro v;intro zq;refine xa1_2 zq ?_;(try clear zq);intro ob g6 g7;intro g8
  exact ⟨v,⟨ob,k _ _ (mn g3) g6,g7⟩,g8⟩
 ·refine xa3_4 (fv x av h1 h2) ?_;intro c v ob a1 a2 a3 a4
  refine ⟨c,v,ob,a1,?_,a3,a4⟩
  cases q:m c with
  |none=>rw [AH q] at a2;rw [AH (hdom _ q)];exact a2
  |some o'=>rw [Bn q] at a2;(have zc:=Option.some.inj a2;clear a2;subst zc);exact absurd a3 ((hq _ _ q).1 _)
theorem ME:De G (fun zu=>none)=G:=rfl
theorem Rp.odrop {m:FH} (hR:Rp C A F (De G m) env σ s) (hq:DT m) (hd:Dd m G) {h':Heap} {t:Nat} (k:∀b ob,m b=none→s.heap.get? b=some ob→h'.get? b=some ob):Rp C A F G env σ ⟨h',s.gens,s.drawn,t,s.os⟩:=by
 have:=Rp.ochange (m':=fun zu=>none) (t:=t) hR hq (fun zu zu e=>by exact Aj e) hd (fun zu zu=>rfl) (fun zu zu e=>by exact Aj e) k
 rwa [ME] at this
theorem Rp.odrop0 {m:FH} (hR:Rp C A F (De G m) env σ s) (hq:DT m) (hd:Dd m G):Rp C A F G env σ s:=hR.odrop hq hd (t:=s.toks) fun zu zu zu e=>e
theorem Rp.freezeAt (hR:Rp C A F G env σ s) {a:Addr} {o:Obj} (ho:s.heap.get? a=some o) (hF:F a=none) (hG:G a=none) (hp:σ.hp a=none) (hl:a≠env.locals) (hc:∀x c,env.kindOf x=some .cell→env.cells.lookup x=some c→a≠c) :
  Rp C A (AS F a o) G env σ s∧AE F (AS F a o):=by
 have ex:=Bb o hF
 refine cps fun zP zk=>?_;(rcases hR with ⟨⟨w1,w2,w3,w4,w5,w6,w7,w8⟩,⟨kd,⟨m,hm,hmv⟩,⟨l1,l2,l3⟩,co,ci,cv,fv⟩,hfs⟩)<;>(refine zk ?_;clear zk zP)
 refine ⟨⟨⟨fun b o e=>ex _ _ (w1 b o e),fun b ob e=>?_,w3,fun b x e=>?_,w5,w6,w7,fun b ob e=>?_⟩,⟨kd,⟨m,hm,fun x av h1 h2=>let ⟨v,p,q⟩:=hmv x av h1 h2;⟨v,p,q.mono ex⟩⟩,⟨by rw [AA _ _ hl.symm];exact l1,l2,l3⟩,fun x hx=>?_,ci,fun x av c h1 h2 h3=>let ⟨v,p,q⟩:=cv x av c h1 h2 h3;⟨v,p,q.mono ex⟩,fun x av h1 h2=>let ⟨c,v,o,p,q,r,t⟩:=fv x av h1 h2;⟨c,v,o,p,q,r,t.mono ex⟩⟩,hfs⟩,ex⟩
 ·by_cases q:b=a
  ·subst q;rw [Au] at e;(have zc:=Option.some.inj e;clear e;subst zc);exact ho
  ·rw [AA _ _ q] at e;exact w2 b ob e
 ·refine cps fun zP zk=>?_;(rcases w4 b x e with ⟨p,q,ob,hob,r⟩)<;>(refine zk ?_;clear zk zP)
  have n:b≠a:=fun zE=>by (first|rw [zE,hp] at e|rw [←zE,hp] at e);exact Aj e
  exact ⟨by rw [AA _ _ n];exact p,q,ob,hob,r.mono ex⟩
 ·by_cases q:b=a
  ·subst q;exact hG
  ·rw [AA _ _ q] at e;exact w8 b ob e
 ·refine xa1_3 (co x hx) ?_;intro c g1 g2 r
  exact ⟨c,g1,by rw [AA _ _ (hc x c hx g1).symm];exact g2,r⟩
theorem Rp.oput {m:FH} (hR:Rp C A F G env σ s) (hm:∀b o,m b=some o→s.heap.objs.size≤b) {h':Heap} {t:Nat} (ho:∀b o,m b=some o→h'.get? b=some o) (k:∀b ob,s.heap.get? b=some ob→h'.get? b=some ob) :
  Dd m G∧Rp C A F (De G m) env σ ⟨h',s.gens,s.drawn,t,s.os⟩:=by
 have lt:=fun b o (e:m b=some o)=>hR.wd.lt (hm b o e)
 have dj:Dd m G:=fun b o e=>(lt b o e).2.1
 have low:∀{b o},s.heap.get? b=some o→∀x,¬m b=some x:=fun e x q=>Nat.not_lt.mpr (hm _ _ q) (Heap.lt_size e)
 have on:∀{b},(∀x,¬m b=some x)→G b=none→De G m b=none:=fun {b} h e=>by
  cases q:m b with
  |none=>rw [AH q];exact e
  |some x=>exact absurd q (h x)
 have hK:=hR.keep (t:=t) k
 refine ⟨dj,⟨⟨hK.wd.base,hK.wd.fz,fun b o e=>?_,fun a x e=>?_,hK.wd.os,hK.wd.bare,hK.wd.gi,fun b o e=>?_⟩,⟨hK.fm.kind,hK.fm.ns,⟨hK.fm.lo.1,on ?_ hK.fm.lo.2.1,hK.fm.lo.2.2⟩,fun x hx=>?_,hK.fm.ci,hK.fm.cv,fun x av a b=>?_⟩,hR.fs.mono (CR dj)⟩⟩
 ·cases q:m b with
  |none=>rw [AH q] at e;exact hK.wd.gz b o e
  |some x=>rw [Bn q] at e;(have zc:=Option.some.inj e;clear e;subst zc);exact ⟨_,ho _ _ q,Fh.rfl' _⟩
 ·refine cps fun zP zk=>?_;(rcases hK.wd.ob a x e with ⟨p,q,o,w⟩)<;>(refine zk ?_;clear zk zP)
  refine cps fun zP zk=>?_;(rcases hR.wd.ob a x e with ⟨zu,zu,o',h',zu⟩)<;>(refine zk ?_;clear zk zP)
  exact ⟨p,on (low h') q,o,w⟩
 ·exact on (low (hR.wd.fz b o e)) (hK.wd.fg b o e)
 ·refine xa1_2 hR.fm.ns ?_;intro m;intro zq;refine xa3_2 zq ?_;(try clear zq);intro oL es ep hL zu;intro zu
  exact low hL
 ·refine xa1_6 (hK.fm.co x hx) ?_;intro c g1 g2 g3 g4 g5 g6
  refine cps fun zP zk=>?_;(rcases hR.fm.co x hx with ⟨c',g1',zu,zu,zu,zu,v,o',ho',zu⟩)<;>(refine zk ?_;clear zk zP)
  rw [g1] at g1';(have zc:=Option.some.inj g1';clear g1';subst zc)
  exact ⟨c,g1,g2,on (low ho') g3,g4,g5,g6⟩
 ·refine xa3_4 (hK.fm.fv x av a b) ?_;intro c v o' a1 a2 a3 a4
  exact ⟨c,v,o',a1,CR dj _ _ a2,a3,a4⟩
theorem Rp.oat {m:FH} (hR:Rp C A F (De G m) env σ s) (hq:DT m) {b:Addr} {o:Obj} (e:m b=some o):s.heap.get? b=some o:=hR.wd.gzx (Bn e) (hq _ _ e).2
theorem Lm {a b:Addr} {o o':Obj} (h:sg a o b=some o'):b=a∧o'=o:=by
 unfold sg at h
 split at h
 ·(have zc:=Option.some.inj h;clear h;subst zc);exact ⟨by assumption,rfl⟩
 ·exact Aj h
theorem IE {a b:Addr} {o o':Obj} (h:sg a o b=none):sg a o' b=none:=by
 unfold sg at h ⊢
 split at h
 ·exact Ap h
 ·rename_i q;rw [if_neg q]
theorem A9 {o:Obj} {vs:Array Value} (h:o.data=.fields vs):Dw o:=⟨fun v e=>(by rw [h] at e;cases e),fun es ep e=>(by rw [h] at e;cases e)⟩
theorem Rp.put1 (hR:Rp C A F G env σ s) {o:Obj} {t:Nat} (hf:o.isFreed=false):G s.heap.objs.size=none∧Rp C A F (De G (sg s.heap.objs.size o)) env σ ⟨s.heap.push o,s.gens,s.drawn,t,s.os⟩:=by
 refine xa0_2 (hR.oput (m:=sg s.heap.objs.size o) (t:=t) (h':=s.heap.push o) (fun b o' e=>by rw [(Lm e).1];exact Nat.le_refl _) (fun b o' e=>by refine xa0_2 (Lm e) ?_;rintro rfl;rintro rfl;exact Heap.get?_push_size _ hf) fun b ob e=>Heap.get?_push_of_some _ e) ?_;intro a b
 exact ⟨a _ _ (Be _ _),b⟩
theorem Rp.turn1 {a:Addr} {o o':Obj} (hR:Rp C A F (De G (sg a o)) env σ s) (hg:G a=none) (hq:Dw o) (hq':Dw o') {h':Heap} {t:Nat} (ho:h'.get? a=some o') (k:∀b ob,b≠a→s.heap.get? b=some ob→h'.get? b=some ob) :
  Rp C A F (De G (sg a o')) env σ ⟨h',s.gens,s.drawn,t,s.os⟩:=
 hR.ochange (BE hq) (BE hq') (D5 hg) (fun b e=>IE e) (fun b ob e=>by refine xa0_2 (Lm e) ?_;rintro rfl;rintro rfl;exact ho) fun b ob e=>k b ob fun q=>by subst q;rw [Be] at e;exact Ap e
theorem Rp.drop1 {a:Addr} {o:Obj} (hR:Rp C A F (De G (sg a o)) env σ s) (hg:G a=none) (hq:Dw o) {h':Heap} {t:Nat} (k:Heap.ExtBut a s.heap h'):Rp C A F G env σ ⟨h',s.gens,s.drawn,t,s.os⟩:=
 hR.odrop (BE hq) (D5 hg) fun b ob e=>k b ob fun q=>by subst q;rw [Be] at e;exact Ap e
noncomputable def HA (C:Cf) (A:Around) (env:Env) (target:Expr) (x:AV) (σ:Al) (Q:Al→Prop):Prop:=
 ∀F G s v,Rp C A F G env σ s→VR F x v→wpAny (model C.prog C.w) A (assign target env v) (fun zu s'=>∃F' σ',AE F F'∧Rp C A F' G env σ' s'∧Q σ') Bd s
theorem Bs {x:Str} {pos:Pos} {v:AV} {Q:Al→Prop} (h:Q (σ.set x v)) (hk:autoParam (E3 (env.kindOf x)=true) AC.aux0._auto_1):HA C A env (.Name x pos) v σ Q:=by
 intro F G s u hR hu
 exact wpAny_assign_Name (Cp hR hu (CH hk) fun s' hR'=>⟨F,_,AE.refl F,hR',h⟩)
inductive OS (C:Cf) (A:Around) (F G m:FH) (env:Env) (σ:Al) (x:AV) (xs:List AV) (P:FH→List AV→FH→Prop) (v:Value) (s₂:Shared):Prop
 |mk (F' m':FH) (e:AE F F') (hv:VR F' x v) (hP:P F' xs m') (dom:∀b,m b=none→m' b=none) (hR:Rp C A F' (De G m') env σ s₂)
structure CL (C:Cf) (A:Around) (target:Expr) (it:Addr) (K:HP→Prop) (P:FH→List AV→FH→Prop):Prop where
 quiet:∀F xs m,P F xs m→DT m
 mono:∀F F' xs m,AE F F'→P F xs m→P F' xs m
 more:∀env F G s σ x xs m,Rp C A F (De G m) env σ s→Dd m G→K σ.hp→P F (x::xs) m →
  wpAny (model C.prog C.w) A (pyNext (.ref it)) (fun r s₁=>∃v,r=some v∧wpAny (model C.prog C.w) A (letOwnedTupleGo target (.ref it) v) (fun zu s₂=>OS C A F G m env σ x xs P v s₂) Bd s₁) Bd s
 done:∀env F G s σ m,Rp C A F (De G m) env σ s→Dd m G→K σ.hp→P F [] m →
  wpAny (model C.prog C.w) A (pyNext (.ref it)) (fun r s₁=>r=none∧Rp C A F G env σ s₁) Bd s
theorem CL.weak {target:Expr} {it:Addr} {K K':HP→Prop} {P:FH→List AV→FH→Prop} (h:CL C A target it K P) (k:∀σ,K' σ→K σ):CL C A target it K' P:=
 ⟨h.quiet,h.mono,fun env F G s σ x xs m a b c d=>h.more env F G s σ x xs m a b (k _ c) d,fun env F G s σ m a b c d=>h.done env F G s σ m a b (k _ c) d⟩
noncomputable def Ld (Q:A7→Al→Prop) (I:Al→Prop) (f:A7) (σ:Al):Prop:=
 match f with
 |.next=>I σ
 |.cont=>I σ
 |.brk=>Q .next σ
 |.ret v=>Q (.ret v) σ
inductive Nw (C:Cf) (A:Around) (F₀ G:FH) (env:Env) (P:FH→List AV→FH→Prop) (I:List AV→Al→Prop) (n:Nat) (s:Shared):Prop
 |mk (F:FH) (σ:Al) (m:FH) (xs:List AV) (e:AE F₀ F) (dj:Dd m G) (hR:Rp C A F (De G m) env σ s) (hP:P F xs m) (hI:I xs σ) (hl:xs.length=n)
theorem Dd.dom {m m':FH} (h:Dd m G) (k:∀b,m b=none→m' b=none):Dd m' G:=fun b o e=>by
 cases q:m b with
 |none=>rw [k b q] at e;exact Aj e
 |some o'=>exact h b o' q
theorem Ip {target:Expr} {it:Addr} {body:List Stmt} {K:HP→Prop} {P:FH→List AV→FH→Prop} (T:CL C A target it K P) {Q:A7→Al→Prop} (I:List AV→Al→Prop) (hK:∀xs σ,I xs σ→K σ.hp)
  (turn:∀x xs σ,I (x::xs) σ→HA C A env target x σ (fun σ₁=>Cd C A Bd env body σ₁ (Ld Q (I xs)))) (fin:∀σ,I [] σ→Q .next σ)
  {xs:List AV} {F₀:FH} (h0:Nw C A F₀ G env P I xs.length s) {R:Result→Shared→Prop}
  (hQ:∀f s',A0 C A G env M4 Q F₀ f s'→R (.ok f) s'):codeAny (model C.prog C.w) A (.forLoop target (.ref it) body [] env) R s:=by
 refine codeAny_loop' rfl (Nw C A F₀ G env P I) (fun n s' hI=>?_) xs.length h0
 refine cps fun zP zk=>?_;(rcases hI with ⟨F',σ',m,xs',e,dj,hR',hP',hI',hl⟩)<;>(refine zk ?_;clear zk zP)
 show wpAny _ _ ((forTurn target (.ref it) body [] env).onRaise (fun x=>do noteFrame x env;theTreesLotGoes x)) _ _ s'
 refine wpAny_onRaise ?_
 simp only [forTurn]
 refine wpAny_bind (wpAny_standAt (wpAny_bind (wpAny_onRaise ?_)))
 cases xs' with
 |nil=>
  refine wpAny_mono (T.done env F' G s' σ' m hR' dj (hK _ _ hI') hP') (fun r s₁ z=>?_) fun zu zu x=>x.elim
  refine xa0_2 z ?_;(try clear z);rintro rfl;intro hR₁
  exact wpAny_pure (.inr ⟨rfl,codeAny_block (wpAny_execs_nil (hQ _ _ ⟨F',.next,σ',e,.next,hR₁,fin _ hI'⟩))⟩)
 |cons x xs'=>
  refine wpAny_mono (T.more env F' G s' σ' x xs' m hR' dj (hK _ _ hI') hP') (fun r s₁ z=>?_) fun zu zu x=>x.elim
  refine xa1_2 z ?_;(try clear z);intro v;rintro rfl;intro z
  refine wpAny_bind (wpAny_mono z (fun zu s₂ z=>?_) fun zu zu x=>x.elim)
  refine cps fun zP zk=>?_;(rcases z with ⟨F₂,m₂,e₂,hv,hP₂,dom,hR₂⟩)<;>(refine zk ?_;clear zk zP)
  refine wpAny_bind (wpAny_mono (turn x xs' σ' hI' F₂ _ s₂ v hR₂ hv) (fun zu s₃ z=>?_) fun zu zu x=>x.elim)
  refine xa2_3 z ?_;(try clear z);intro F₃ σ₃ e₃ hR₃ h₃
  refine wpAny_bind (wpAny_mono (h₃ F₃ _ s₃ hR₃) (fun f s₄ z=>?_) fun zu zu x=>x.elim)
  refine cps fun zP zk=>?_;(rcases z with ⟨F₄,fl,σ₄,e₄,r,hR₄,h₄⟩)<;>(refine zk ?_;clear zk zP)
  have ee:=e.trans (e₂.trans (e₃.trans e₄))
  have hl':xs'.length<n:=by rw [←hl];exact Nat.lt_succ_self _
  have hP₄:=T.mono _ _ _ _ (e₃.trans e₄) hP₂
  have dj₂:=dj.dom dom
  cases r with
  |next=>exact wpAny_pure (.inl ⟨rfl,_,hl',F₄,σ₄,m₂,xs',ee,dj₂,hR₄,hP₄,h₄,rfl⟩)
  |cont=>exact wpAny_pure (.inl ⟨rfl,_,hl',F₄,σ₄,m₂,xs',ee,dj₂,hR₄,hP₄,h₄,rfl⟩)
  |brk=>exact wpAny_pure (hQ _ _ ⟨F₄,.next,σ₄,ee,.next,hR₄.odrop0 (T.quiet _ _ _ hP₂) dj₂,h₄⟩)
  |ret hv=>exact wpAny_pure (hQ _ _ ⟨F₄,_,σ₄,ee,.ret hv,hR₄.odrop0 (T.quiet _ _ _ hP₂) dj₂,h₄⟩)
inductive DU (C:Cf) (A:Around) (F G:FH) (env:Env) (σ:Al) (target:Expr) (xs:List AV) (K:HP→Prop) (iv:Value) (s:Shared):Prop
 |mk (it:Addr) (m:FH) (P:FH→List AV→FH→Prop) (e:iv=.ref it) (dj:Dd m G) (hR:Rp C A F (De G m) env σ s) (hP:P F xs m) (T:CL C A target it K P)
noncomputable def Fg (C:Cf) (A:Around) (E:Value→Shared→Prop) (env:Env) (target:Expr) (x:AV) (xs:List AV) (K:HP→Prop) (σ:Al):Prop:=
 ∀F G s v,Rp C A F G env σ s→VR F x v→wpAny (model C.prog C.w) A (pyIter v) (DU C A F G env σ target xs K) E s
theorem Fg.weak {target:Expr} {x:AV} {xs:List AV} {K K':HP→Prop} (h:Fg C A E env target x xs K σ) (k:∀σ,K' σ→K σ):Fg C A E env target x xs K' σ:=fun F G s v hR hv=>
 wpAny_mono (h F G s v hR hv) (fun _ _ ⟨it,m,P,h1,h2,h3,h4,h5⟩=>⟨it,m,P,h1,h2,h3,h4,h5.weak k⟩) fun zu zu x=>x
theorem H7 {target iter:Expr} {body:List Stmt} {pos:Pos} {Q:A7→Al→Prop} (K:AV→Al→HP→Prop) (I:AV→Al→List AV→Al→Prop)
  (h:Ev C A E env iter σ (fun a σ₁=>∃xs,Fg C A E env target a xs (K a σ₁) σ₁∧I a σ₁ xs σ₁))
  (hK:∀a σ₁ xs σ,I a σ₁ xs σ→K a σ₁ σ.hp)
  (turn:∀a σ₁ x xs σ,I a σ₁ (x::xs) σ→HA C A env target x σ (fun σ₂=>Cd C A Bd env body σ₂ (Ld Q (I a σ₁ xs)))) (fin:∀a σ₁ σ,I a σ₁ [] σ→Q .next σ)
  (hs:autoParam (∀x,foldedSetIterable iter env x=pure x) AC.aux4._auto_1):Ex C A E env (.For target iter body [] pos) σ Q:=by
 intro F G s hR
 refine wpAny_For (h.use hR fun F₁ a σ₁ va s₁ e₁ ha hR₁ h₁=>?_) hs
 refine xa1_2 h₁ ?_;(try clear h₁);intro xs hit hI
 refine wpAny_mono (hit F₁ G s₁ va hR₁ ha) (fun iv s₂ z=>?_) fun zu zu x=>x
 refine cps fun zP zk=>?_;(rcases z with ⟨it,m,P,rfl,dj,hR₂,hP,T⟩)<;>(refine zk ?_;clear zk zP)
 exact Ip T (I a σ₁) (hK a σ₁) (turn a σ₁) (fin a σ₁) ⟨F₁,σ₁,m,xs,e₁,dj,hR₂,hP,hI,rfl⟩ fun f s' z=>z
noncomputable def B7 (target:Expr):Prop:=∀it v,letOwnedTupleGo target it v=pure ()
theorem CQ {x:Str} {pos:Pos}:B7 (.Name x pos):=fun zu zu=>rfl
inductive Pa (F:FH) (x:AV) (v:Value) (n:Nat) (h:Heap):Prop
 |old (hv:VR F x v)
 |tup (T:Addr) (o:Obj) (vs:List Value) (k:Nat) (xs:List AV) (e:v=.ref T) (hT:n≤T) (ho:h.get? T=some o) (hc:o.cls=.type "tuple") (hd:o.data=.seq vs.toArray k) (hv:VRs F xs vs) (ex:x=.tup xs)
inductive Qb (wr:List Addr) (F:FH) (x:AV) (St:Heap→Prop) (v:Value) (s s₂:Shared):Prop
 |mk (h':Heap) (tk:Nat) (es:s₂=⟨h',s.gens,s.drawn,tk,s.os⟩) (st:St h') (k:∀b o,b∉wr→s.heap.get? b=some o→h'.get? b=some o) (hv:Pa F x v s.heap.objs.size h')
structure Wk (C:Cf) (A:Around) (target:Expr) (I:Addr) (fp wr:List Addr) (St:Nat→Heap→Prop) (xs:List AV) (FK F:FH):Prop where
 frame:∀i h h',St i h→(∀b∈fp,∀o,h.get? b=some o→h'.get? b=some o)→St i h'
 frz:∀b∈fp,b∈wr∨∃o,FK b=some o
 inert:∀i h,St i h→∀b∈wr,∃o,h.get? b=some o∧Dw o
 more:∀i x (s:Shared),xs[i]? = some x→St i s.heap→wpAny (model C.prog C.w) A (pyNext (.ref I)) (fun r s₁=>∃v,r=some v∧wpAny (model C.prog C.w) A (letOwnedTupleGo target (.ref I) v) (fun zu s₂=>Qb wr F x (St (i+1)) v s s₂) Bd s₁) Bd s
 done:∀(s:Shared),St xs.length s.heap→wpAny (model C.prog C.w) A (pyNext (.ref I)) (fun r s₁=>r=none∧∃h' tk,s₁=⟨h',s.gens,s.drawn,tk,s.os⟩∧∀b o,b∉wr→s.heap.get? b=some o→h'.get? b=some o) Bd s
 self:∀i (s:Shared) (Q:Value→Shared→Prop) (E:Value→Shared→Prop),St i s.heap→Q (.ref I) s→wpAny (model C.prog C.w) A (pyIter (.ref I)) Q E s
noncomputable def Bg (h:Heap) (wr:List Addr):FH:=fun b=>if b∈wr then h.get? b else none
theorem B5 {h:Heap} {wr:List Addr} {b:Addr} {o:Obj} (e:Bg h wr b=some o):b∈wr∧h.get? b=some o:=by
 unfold Bg at e
 split at e
 ·exact ⟨by assumption,e⟩
 ·exact Aj e
theorem Fa {h:Heap} {wr:List Addr} {b:Addr} (hb:b∈wr):Bg h wr b=h.get? b:=if_pos hb
theorem Hi {h:Heap} {wr:List Addr} {b:Addr} (hb:b∉wr):Bg h wr b=none:=if_neg hb
inductive Qc (St:Nat→Heap→Prop) (wr:List Addr) (F₀:FH) (xs:List AV) (F:FH) (ys:List AV) (m:FH):Prop
 |mk (i:Nat) (h:Heap) (e:AE F₀ F) (hF:∀b o,F₀ b=some o→h.get? b=some o) (st:St i h) (em:m=Bg h wr) (ey:ys=xs.drop i) (hi:i≤xs.length)
theorem Wk.quiet {target:Expr} {I:Addr} {fp wr:List Addr} {St:Nat→Heap→Prop} {xs:List AV} {F₀:FH} (W:Wk C A target I fp wr St xs F₀ F₀) {i:Nat} {h:Heap} (st:St i h):DT (Bg h wr):=fun b o e=>by
 refine xa0_2 (B5 e) ?_;intro hb ho
 refine xa1_2 (W.inert i h st b hb) ?_;intro o' h1 h2
 rw [ho] at h1;(have zc:=Option.some.inj h1;clear h1;subst zc);exact h2
theorem Wk.at {target:Expr} {I:Addr} {fp wr:List Addr} {St:Nat→Heap→Prop} {xs:List AV} {F₀:FH} (W:Wk C A target I fp wr St xs F₀ F₀) {i:Nat} {h:Heap} (st:St i h) (e:AE F₀ F) (hF:∀b o,F₀ b=some o→h.get? b=some o) (hR:Rp C A F (De G (Bg h wr)) env σ s):St i s.heap:=by
 refine W.frame i h _ st fun b hb o ho=>?_
 rcases W.frz b hb with h1|⟨o',h1⟩
 ·exact hR.oat (W.quiet st) ((Fa h1).trans ho)
 ·have:=hF b o' h1
  rw [ho] at this;(have zc:=Option.some.inj this;clear this;subst zc)
  exact hR.wd.fz _ _ (e _ _ h1)
theorem DB {xs ys:List AV} {y:AV} {i:Nat} (h:y::ys=xs.drop i):xs[i]? = some y∧ys=xs.drop (i+1):=by
 constructor
 ·have:=congrArg (fun l=>l[0]?) h
  simp only [List.getElem?_cons_zero,List.getElem?_drop,Nat.add_zero] at this
  exact this.symm
 ·have:=congrArg List.tail h
  simp only [List.tail_cons,List.tail_drop] at this
  exact this
theorem E5 {xs:List AV} {i:Nat} (h:[]=xs.drop i):xs[i]? = none:=by
 rw [List.getElem?_eq_none_iff]
 exact List.drop_eq_nil_iff.mp h.symm
theorem Rp.fresh (hR:Rp C A F G env σ s) {T:Addr} (hT:s.heap.objs.size≤T):T≠env.locals∧∀x c,env.kindOf x=some .cell→env.cells.lookup x=some c→T≠c:=by
 refine ⟨fun e=>?_,fun x c hx hc e=>?_⟩
 ·refine xa1_2 hR.fm.ns ?_;intro m;intro zq;refine xa3_2 zq ?_;(try clear zq);intro oL es ep hL zu;intro zu
  exact Nat.not_lt.mpr hT (e▸Heap.lt_size hL)
 ·refine cps fun zP zk=>?_;(rcases hR.fm.co x hx with ⟨c',g1,zu,zu,zu,zu,v',o',ho',zu⟩)<;>(refine zk ?_;clear zk zP)
  rw [hc] at g1;(have zc:=Option.some.inj g1;clear g1;subst zc)
  exact Nat.not_lt.mpr hT (e▸Heap.lt_size ho')
theorem Wk.dom {target:Expr} {I:Addr} {fp wr:List Addr} {St:Nat→Heap→Prop} {xs:List AV} {F₀:FH} (W:Wk C A target I fp wr St xs F₀ F₀) {i:Nat} {h:Heap} (st:St i h) {b:Addr} (e:Bg h wr b=none):b∉wr:=fun hb=>by
 refine xa1_2 (W.inert i h st b hb) ?_;intro o h1 zu
 rw [Fa hb,h1] at e;exact Ap e
theorem CL.ofWk {target:Expr} {I:Addr} {fp wr:List Addr} {St:Nat→Heap→Prop} {xs:List AV} {F₀:FH} (W:Wk C A target I fp wr St xs F₀ F₀):CL C A target I (fun zu=>True) (Qc St wr F₀ xs) where
 quiet:=by
  (rintro F ys m;intro zr;refine cps fun zP zk=>?_;(rcases zr with ⟨i,h,e,hF,st,rfl,ey,hi⟩)<;>(refine zk ?_;clear zk zP))
  exact W.quiet st
 mono:=by
  (rintro F F' ys m ex;intro zr;refine cps fun zP zk=>?_;(rcases zr with ⟨i,h,e,hF,st,rfl,ey,hi⟩)<;>(refine zk ?_;clear zk zP))
  exact ⟨i,h,e.trans ex,hF,st,rfl,ey,hi⟩
 more:=by
  (rintro env F G s σ x ys m hR dj -;intro zr;refine cps fun zP zk=>?_;(rcases zr with ⟨i,h,e,hF,st,rfl,ey,hi⟩)<;>(refine zk ?_;clear zk zP))
  refine xa0_2 (DB ey) ?_;intro hx ey2
  clear ey
  refine wpAny_mono (W.more i x s hx (W.at st e hF hR)) (fun r s₁ z=>?_) fun zu zu x=>x
  refine xa1_2 z ?_;(try clear z);intro v;rintro rfl;intro z
  refine ⟨v,rfl,wpAny_mono z (fun zu s₂ z=>?_) fun zu zu x=>x⟩
  refine cps fun zP zk=>?_;(rcases z with ⟨h',tk,rfl,st',k,hv⟩)<;>(refine zk ?_;clear zk zP)
  have dom:∀b,Bg h wr b=none→Bg h' wr b=none:=fun b q=>Hi (W.dom st q)
  have hR':=hR.ochange (t:=tk) (W.quiet st) (W.quiet st') dj dom (fun b o q=>(B5 q).2) fun b ob q=>k b ob (W.dom st q)
  have hi':i+1≤xs.length:=by refine xa1_1 (List.getElem?_eq_some_iff.mp hx) ?_;intro q zu;exact q
  have hF2:∀b o,F₀ b=some o→h'.get? b=some o:=fun b o q=>hR'.wd.fz b o (e b o q)
  cases hv with
  |old hv=>exact ⟨F,_,AE.refl F,hv.mono e,⟨i+1,h',e,hF2,st',rfl,ey2,hi'⟩,dom,hR'⟩
  |tup T o vs kk cs ev hT ho hc hd hv ex=>
   refine xa0_3 (hR.wd.lt hT) ?_;intro z1 z2 z3
   refine xa0_2 (hR.fresh hT) ?_;intro z4 z5
   refine xa0_2 (Hl dj z2) ?_;intro g1 g2
   refine xa0_2 (hR'.freezeAt ho z1 (by rw [AH (dom _ g2)];exact g1) z3 z4 z5) ?_;intro hR2 e2
   subst ev ex
   exact ⟨_,_,e2,.tup (Au _ _ _) hc hd ((hv.mono e).mono e2),⟨i+1,h',e.trans e2,hF2,st',rfl,ey2,hi'⟩,dom,hR2⟩
 done:=by
  (rintro env F G s σ m hR dj -;intro zr;refine cps fun zP zk=>?_;(rcases zr with ⟨i,h,e,hF,st,rfl,ey,hi⟩)<;>(refine zk ?_;clear zk zP))
  have hx:=E5 ey
  have hi':i=xs.length:=Nat.le_antisymm hi (List.getElem?_eq_none_iff.mp hx)
  subst hi'
  refine wpAny_mono (W.done s (W.at st e hF hR)) (fun r s₁ z=>?_) fun zu zu x=>x
  refine cps fun zP zk=>?_;(rcases z with ⟨rfl,h',tk,rfl,k⟩)<;>(refine zk ?_;clear zk zP)
  exact ⟨rfl,hR.odrop (W.quiet st) dj fun b ob q=>k b ob (W.dom st q)⟩
theorem DU.ofWk {target:Expr} {I:Addr} {fp wr:List Addr} {St:Nat→Heap→Prop} {xs:List AV} (W:Wk C A target I fp wr St xs F F) (hR:Rp C A F G env σ s) {h':Heap} {t:Nat} (st:St 0 h') (hw:∀b∈wr,s.heap.objs.size≤b) (k:∀b ob,s.heap.get? b=some ob→h'.get? b=some ob) :
  DU C A F G env σ target xs (fun zu=>True) (.ref I) ⟨h',s.gens,s.drawn,t,s.os⟩:=by
 refine xa0_2 (hR.oput (m:=Bg h' wr) (t:=t) (fun b o e=>hw b (B5 e).1) (fun b o e=>(B5 e).2) k) ?_;intro dj hR'
 exact ⟨I,_,_,rfl,dj,hR',⟨0,h',AE.refl F,fun b o e=>k _ _ (hR.wd.fz b o e),st,rfl,rfl,Nat.zero_le _⟩,CL.ofWk W⟩
noncomputable def Ep:List String:=["enumerate", "zip", "dict_itemiterator", "dict_reverseitemiterator", "odict_iterator", "itertools.zip_longest", "itertools.pairwise"]
theorem L9 {M:Model} {target:Expr} {it:Addr} {v:Value} {o:Obj} {n:String} {Q:Unit→Shared→Prop} (ho:s.heap.get? it=some o) (hc:o.cls=.type n) (hn:Ep.contains n=false) (h:Q () s) :
  wpAny M A (letOwnedTupleGo target (.ref it) v) Q E s:=by
 have key:∀t,(∃a b c,t=Expr.Tuple a b c)∨(∃a b,t=Expr.List a b)→wpAny M A (letOwnedTupleGo t (.ref it) v) Q E s:=by
  intro t ht
  cases v with
  |ref a=>
   have e:letOwnedTupleGo t (.ref it) (.ref a)=(do
     let o ←load it
     match o.cls,o.data with
     |.type n,.fields vs=>
      if Ep.contains n&&vs[0]? == some (rawInt a) then
       rule "for.unpacks-the-owned-tuple"
       updateField it 0 .none
     |_,_=>pure ()):=by
    rcases ht with ⟨zu,zu,zu,rfl⟩|⟨zu,zu,rfl⟩<;>rfl
   rw [e]
   refine wpAny_bind (wpAny_load ho ?_)
   rw [hc]
   cases q:o.data with
   |fields vs=>
    show wpAny _ _ (if (_:Bool)=true then _ else _) _ _ _
    rw [if_neg (by rw [hn];simp)]
    exact wpAny_pure h
   |_=>exact wpAny_pure h
  |_=>rcases ht with ⟨zu,zu,zu,rfl⟩|⟨zu,zu,rfl⟩<;>exact wpAny_pure h
 cases target with
 |Tuple a b c=>exact key _ (.inl ⟨_,_,_,rfl⟩)
 |List a b=>exact key _ (.inr ⟨_,_,rfl⟩)
 |_=>exact wpAny_pure h
theorem Wk.ofWalks {FK:FH} {target:Expr} {I:Addr} {fp wr:List Addr} {n:Nat} {P:Nat→Value→Prop} {St:Nat→Heap→Prop} {xs:List AV} (W:Walks C.prog C.w A I fp wr n P St) (hn:xs.length=n) (hv:∀i x v,xs[i]? = some x→P i v→VR F x v)
  (frz:∀b∈fp,b∈wr∨∃o,FK b=some o) (inert:∀i h,St i h→∀b∈wr,∃o,h.get? b=some o∧Dw o) (c:String) (hc:Ep.contains c=false) (cls:∀i h,St i h→∃o,h.get? I=some o∧o.cls=.type c):Wk C A target I fp wr St xs FK F where
 frame:=W.frame
 frz:=frz
 inert:=inert
 more:=fun i x s hx st=>W.item i s _ _ (by subst hn;exact (List.getElem?_eq_some_iff.mp hx).1) st fun v h' tk hP st' k=>⟨v,rfl,by
  refine xa1_2 (cls _ _ st') ?_;intro o ho h1
  exact L9 (s:=⟨h',s.gens,s.drawn,tk,s.os⟩) ho h1 hc ⟨h',tk,rfl,st',k,.old (hv i x v hx hP)⟩⟩
 done:=fun s st=>W.done s _ _ (by subst hn;exact st) fun h' tk k=>⟨rfl,h',tk,rfl,k⟩
 self:=W.self
theorem Wk.ofWalksT {FK:FH} {elts:List Expr} {k:Nat} {pos:Pos} {I:Addr} {fp wr:List Addr} {n:Nat} {Pt:Nat→Array Value→Prop} {St:Nat→Heap→Prop} {Mid:Nat→Addr→Heap→Prop} {xs:List AV} (W:WalksT C.prog C.w A I fp wr n Pt St Mid) (hn:xs.length=n)
  (hv:∀i x vals,xs[i]? = some x→Pt i vals→∃cs,x=.tup cs∧VRs F cs vals.toList) (frz:∀b∈fp,b∈wr∨∃o,FK b=some o) (inert:∀i h,St i h→∀b∈wr,∃o,h.get? b=some o∧Dw o):Wk C A (.Tuple elts k pos) I fp wr St xs FK F where
 frame:=W.frame
 frz:=frz
 inert:=inert
 more:=fun i x s hx st=>W.item i s _ _ (by subst hn;exact (List.getElem?_eq_some_iff.mp hx).1) st fun T vals h' tk hP hT hTt hM kp=>⟨.ref T,rfl,W.go elts k pos i T ⟨h',s.gens,s.drawn,tk,s.os⟩ _ _ hM fun h'' st' kp'=>by
  refine cps fun zP zk=>?_;(rcases hTt with ⟨o,ho,h1,n',h2⟩)<;>(refine zk ?_;clear zk zP)
  refine xa1_2 (hv i x vals hx hP) ?_;intro cs;rintro rfl;intro hcs
  exact ⟨h'',tk,rfl,st',fun b o hb e=>kp' b o hb (kp b o hb e),.tup T o vals.toList n' cs rfl hT (kp' _ _ (W.apart _ _ _ hM) ho) h1 h2 hcs rfl⟩⟩
 done:=fun s st=>W.done s _ _ (by subst hn;exact st) fun h' tk k=>⟨rfl,h',tk,rfl,k⟩
 self:=W.self
theorem VRs.arr {xs:List AV} {vs:List Value} (h:VRs F xs vs):∀(i:Nat) x v,xs[i]? = some x→vs.toArray[i]? = some v→VR F x v:=fun i x v hx hv=>by
 refine xa1_2 (h.get hx) ?_;intro u hu hr
 rw [List.getElem?_toArray,hu] at hv;(have zc:=Option.some.inj hv;clear hv;subst zc);exact hr
theorem Rp.ne_top (hR:Rp C A F G env σ s) {a:Addr} {o:Obj} (h:F a=some o):a≠s.heap.objs.size:=Nat.ne_of_lt (Heap.lt_size (hR.wd.fz _ _ h))
theorem LD {target:Expr} {l:List AV} (hA:A.handled=none):Fg C A E env target (.tup l) l (fun zu=>True) σ:=by
 intro F G s v hR hv
 refine xa4_5 hv.tupInv ?_;intro t ot vs n;rintro rfl;intro q1 q2 q3 q4
 refine wpAny_pyIter_tuple ⟨ot,hR.wd.fz _ _ q1,q2,n,q3⟩ (DU.ofWk (Wk.ofWalks (Walks.tuple hA s.heap.objs.size t (hR.ne_top q1) vs.toArray) (by rw [List.size_toArray,q4.length]) q4.arr (fun b hb=>?_) (fun i h st b hb=>?_) "tuple_iterator" (by decide) fun i h st=>?_) hR ⟨⟨_,Heap.get?_push_size _ rfl,rfl,rfl⟩,⟨ot,Heap.get?_push_of_some _ (hR.wd.fz _ _ q1),q2,n,q3⟩⟩ (fun b hb=>?_) fun b ob e=>Heap.get?_push_of_some _ e)
 ·rcases List.mem_cons.mp hb with rfl|hb
  ·exact .inl (List.mem_singleton_self _)
  ·rw [List.mem_singleton.mp hb];exact .inr ⟨_,q1⟩
 ·rw [List.mem_singleton.mp hb]
  refine xa0_2 st ?_;(try clear st);intro zq;refine xa1_3 zq ?_;(try clear zq);intro o ho h1 h2;intro zu
  exact ⟨o,ho,A9 h2⟩
 ·refine xa0_2 st ?_;(try clear st);intro zq;refine xa1_3 zq ?_;(try clear zq);intro o ho h1 h2;intro zu
  exact ⟨o,ho,h1⟩
 ·rw [List.mem_singleton.mp hb];exact Nat.le_refl _
inductive OO (it:Addr) (ST:Nat→Obj→Prop) (L:List AV) (F:FH) (xs:List AV) (m:FH):Prop
 |mk (i:Nat) (o:Obj) (st:ST i o) (ex:xs=L.drop i) (em:m=sg it o)
inductive P3 (it:Addr) (F:FH) (x:AV) (ST:Obj→Prop) (s:Shared) (r:Option Value) (s₁:Shared):Prop
 |mk (v:Value) (h':Heap) (t:Nat) (o':Obj) (er:r=some v) (hv:VR F x v) (es:s₁=⟨h',s.gens,s.drawn,t,s.os⟩) (ho:h'.get? it=some o') (st:ST o') (k:∀b ob,b≠it→s.heap.get? b=some ob→h'.get? b=some ob)
theorem CL.one {target:Expr} {it:Addr} {K:HP→Prop} (ht:B7 target) (ST:Nat→Obj→Prop) (L:List AV) (inert:∀i o,ST i o→Dw o)
  (more:∀env F G s σ i x o,Rp C A F G env σ s→K σ.hp→L[i]? = some x→ST i o→s.heap.get? it=some o→wpAny (model C.prog C.w) A (pyNext (.ref it)) (P3 it F x (ST (i+1)) s) Bd s)
  (done:∀env F G s σ i o,Rp C A F G env σ s→K σ.hp→L[i]? = none→ST i o→s.heap.get? it=some o→wpAny (model C.prog C.w) A (pyNext (.ref it)) (fun r s₁=>r=none∧∃h',s₁={ s with heap:=h' }∧Heap.ExtBut it s.heap h') Bd s):CL C A target it K (OO it ST L) where
 quiet:=by
  (rintro F xs m;intro zr;refine cps fun zP zk=>?_;(rcases zr with ⟨i,o,st,ex,rfl⟩)<;>(refine zk ?_;clear zk zP))
  exact BE (inert _ _ st)
 mono:=by
  (rintro F F' xs m e;intro zr;refine cps fun zP zk=>?_;(rcases zr with ⟨i,o,st,ex,em⟩)<;>(refine zk ?_;clear zk zP))
  exact ⟨i,o,st,ex,em⟩
 more:=by
  (rintro env F G s σ x xs m hR dj hK;intro zr;refine cps fun zP zk=>?_;(rcases zr with ⟨i,o,st,ex,rfl⟩)<;>(refine zk ?_;clear zk zP))
  refine xa0_2 (DB ex) ?_;intro hx ex2
  have hg:=dj _ _ (Be it o)
  refine wpAny_mono (more env F _ s σ i x o hR hK hx st (hR.oat (BE (inert _ _ st)) (Be _ _))) (fun r s₁ z=>?_) fun zu zu x=>x
  refine cps fun zP zk=>?_;(rcases z with ⟨v,h',t,o',rfl,hv,rfl,ho,st',k⟩)<;>(refine zk ?_;clear zk zP)
  refine ⟨v,rfl,?_⟩
  rw [ht]
  exact wpAny_pure ⟨F,_,AE.refl F,hv,⟨i+1,o',st',ex2,rfl⟩,fun b q=>IE q,hR.turn1 hg (inert _ _ st) (inert _ _ st') ho k⟩
 done:=by
  (rintro env F G s σ m hR dj hK;intro zr;refine cps fun zP zk=>?_;(rcases zr with ⟨i,o,st,ex,rfl⟩)<;>(refine zk ?_;clear zk zP))
  refine wpAny_mono (done env F _ s σ i o hR hK (E5 ex) st (hR.oat (BE (inert _ _ st)) (Be _ _))) (fun r s₁ z=>?_) fun zu zu x=>x
  refine cps fun zP zk=>?_;(rcases z with ⟨rfl,h',rfl,k⟩)<;>(refine zk ?_;clear zk zP)
  exact ⟨rfl,hR.drop1 (dj _ _ (Be it o)) (inert _ _ st) k⟩
theorem DU.one {target:Expr} {K:HP→Prop} {ST:Nat→Obj→Prop} {L:List AV} (T:CL C A target s.heap.objs.size K (OO s.heap.objs.size ST L)) (hR:Rp C A F G env σ s) {o:Obj} {t:Nat} (hf:o.isFreed=false) (st:ST 0 o):DU C A F G env σ target L K (.ref s.heap.objs.size) ⟨s.heap.push o,s.gens,s.drawn,t,s.os⟩:=by
 refine xa0_2 (hR.put1 (t:=t) hf) ?_;intro hg hR'
 exact ⟨_,_,_,rfl,D5 hg,hR',⟨0,o,st,rfl,rfl⟩,T⟩
theorem Rp.dictAt (hR:Rp C A F G env σ s) {a:Addr} {l:List (Aw×AV)} {ep:Nat} (ha:σ.hp a=some (.dict l ep)):∃kvs,s.heap.DictAt (Bt C.prog C.w) a kvs ep∧SV F l kvs:=by
 refine cps fun zP zk=>?_;(rcases hR.wd.ob a _ ha with ⟨zu,zu,o,ho,r⟩)<;>(refine zk ?_;clear zk zP)
 (refine OR.dictC r fun zv zv a1 a2 a3 a4 a5 a6=>?_;clear r)
 exact ⟨_,⟨_,_,ho,a1,a2,a3,a4,a5⟩,a6⟩
theorem Rp.fields (hR:Rp C A F G env σ s) {a:Addr} {c:String} {vs:List AV} (ha:σ.hp a=some (.fields c vs)):∃o us,s.heap.get? a=some o∧o.cls=.type c∧o.data=.fields us.toArray∧VRs F vs us:=by
 refine cps fun zP zk=>?_;(rcases hR.wd.ob a _ ha with ⟨zu,zu,o,ho,r⟩)<;>(refine zk ?_;clear zk zP)
 (refine OR.fieldsC r fun zv a1 a2 as a3 a4=>?_;clear r)
 exact ⟨o,_,ho,a1,a3,a4⟩
theorem SV.get {l:List (Aw×AV)} {kvs:List (Aw×Value)} (h:SV F l kvs):∀{i:Nat},(∀{k x},l[i]? = some (k,x)→∃v,kvs[i]? = some (k,v)∧VR F x v)∧(l[i]? = none→kvs[i]? = none):=by
 induction h with
 |nil=>intro i;exact ⟨fun e=>by simp at e,fun zu=>by simp⟩
 |cons a zu ih=>
  intro i
  cases i with
  |zero=>exact ⟨fun e=>by simp at e;refine xa0_2 e ?_;(try clear e);rintro rfl;rintro rfl;exact ⟨_,rfl,a⟩,fun e=>by simp at e⟩
  |succ i=>exact ⟨fun e=>by simpa using ih.1 (by simpa using e),fun e=>by simpa using ih.2 (by simpa using e)⟩
theorem dict_values {d:Addr} {l:List (Aw×AV)} {ep:Nat} {Q:AV→Al→Prop} (hs:(C.h0.get? sysModules).isSome=true) (hd:σ.hp d=some (.dict l ep)) (h:∀v,σ.hp v=none→Q (.ref v) (σ.put v (.fields "dict_values" [.ref d]))) :
  Br C A E env (.val (.builtin "dict.values")) [.ref d] [] [] σ Q:=by
 refine AB fun F G s us vs hR hus hvs=>?_
 obtain rfl:us=[Value.ref d]:=by refine VRs.consC hus fun zv zw zo q r=>?_;clear hus;subst zo;(have zc:=VR.refI q;clear q;subst zc);(have zc:=VRs.nilI r;clear r;subst zc);rfl
 obtain rfl:vs=[]:=by (have zc:=VRs.nilI hvs;clear hvs;subst zc);rfl
 refine xa1_2 (hR.dictOf hd) ?_;intro kvs hm zu
 exact call_meetsIn PySem.F.slot_dict_values hm.typeIs PySem.F.entry_dict_values (PySem.F.args_dict_values_1 _) (meets_dict_values (Bt C.prog C.w) d (hR.low hd hs)) ⟨⟨kvs,hm⟩,
  A0.of (.ref _) (hR.alloc (t:=s.toks) rfl rfl (.fields (us:=[.ref d]) rfl rfl rfl rfl (.cons (.ref d) .nil))) (h _ hR.lt)⟩
theorem dict_items {d:Addr} {l:List (Aw×AV)} {ep:Nat} {Q:AV→Al→Prop} (hs:(C.h0.get? sysModules).isSome=true) (hd:σ.hp d=some (.dict l ep)) (h:∀v,σ.hp v=none→Q (.ref v) (σ.put v (.fields "dict_items" [.ref d]))) :
  Br C A E env (.val (.builtin "dict.items")) [.ref d] [] [] σ Q:=by
 refine AB fun F G s us vs hR hus hvs=>?_
 obtain rfl:us=[Value.ref d]:=by refine VRs.consC hus fun zv zw zo q r=>?_;clear hus;subst zo;(have zc:=VR.refI q;clear q;subst zc);(have zc:=VRs.nilI r;clear r;subst zc);rfl
 obtain rfl:vs=[]:=by (have zc:=VRs.nilI hvs;clear hvs;subst zc);rfl
 refine xa1_2 (hR.dictOf hd) ?_;intro kvs hm zu
 exact call_meetsIn PySem.F.slot_dict_items hm.typeIs PySem.F.entry_dict_items (PySem.F.args_dict_items_1 _) (meets_dict_items (Bt C.prog C.w) d (hR.low hd hs)) ⟨⟨kvs,hm⟩,
  A0.of (.ref _) (hR.alloc (t:=s.toks) rfl rfl (.fields (us:=[.ref d]) rfl rfl rfl rfl (.cons (.ref d) .nil))) (h _ hR.lt)⟩
theorem Fc {target:Expr} {v d:Addr} {l:List (Aw×AV)} {ep:Nat} (ht:B7 target) (hA:A.handled=none) (hv:σ.hp v=some (.fields "dict_values" [.ref d])) (hd:σ.hp d=some (.dict l ep)) :
  Fg C A E env target (.ref v) (l.map (·.2)) (fun hp=>hp d=some (.dict l ep)) σ:=by
 intro F G s v' hR hv'
 obtain rfl:=hv'.refI
 refine xa2_4 (hR.fields hv) ?_;intro ov us hov hc hda hus
 obtain rfl:us=[Value.ref d]:=by refine VRs.consC hus fun zv zw zo q r=>?_;clear hus;subst zo;(have zc:=VR.refI q;clear q;subst zc);(have zc:=VRs.nilI r;clear r;subst zc);rfl
 refine xa1_2 (hR.dictAt hd) ?_;intro kvs hm sv
 refine wpAny_pyIter_values ⟨ov,hov,hc,hda⟩ hm (DU.one (ST:=fun i o=>o.cls=.type "dict_valueiterator"∧o.data=.fields #[.ref d,.int (i:Nat) 0,.int l.length 0,.int ep 0])
  (CL.one ht _ _ (fun i o h=>A9 h.2) (fun env F G s σ i x o hR hK hx st ho=>?_) (fun env F G s σ i o hR hK hx st ho=>?_)) hR rfl ⟨rfl,by rw [sv.length];rfl⟩)
 ·refine xa1_2 (hR.dictAt hK) ?_;intro kvs hm sv
  rw [List.getElem?_map] at hx
  refine xa1_2 (Option.map_eq_some_iff.mp hx) ?_;intro zq;refine cps fun zP zk=>?_;(rcases zq with ⟨k,x⟩)<;>(refine zk ?_;clear zk zP);intro hk;rintro rfl
  refine xa1_2 (sv.get.1 hk) ?_;intro u hu hxu
  rw [←sv.length] at st
  refine wpAny_pyNext_values_item ⟨o,ho,st⟩ hm hu fun h' hit hsb=>?_
  refine xa1_2 hit ?_;(try clear hit);intro o' ho' st'
  exact ⟨u,h',s.toks,o',rfl,hxu,rfl,ho',by rw [←sv.length];exact st',SameBut.rest hsb⟩
 ·refine xa1_2 (hR.dictAt hK) ?_;intro kvs hm sv
  rw [List.getElem?_map,Option.map_eq_none_iff] at hx
  rw [←sv.length] at st
  exact wpAny_pyNext_values_end hA ⟨o,ho,st⟩ hm (sv.get.2 hx) fun h' hx=>⟨rfl,h',rfl,hx⟩
inductive OW (it d:Addr) (l:List (Aw×AV)) (ep:Nat) (F:FH) (xs:List AV) (m:FH):Prop
 |mk (i:Nat) (ok ov:Value) (ex:xs=(l.map fun p=>AV.tup [p.1.av,p.2]).drop i) (em:m=sg it { cls:=.type "dict_itemiterator",dict:=none,data:=.fields #[.none,.bool false,.ref d,.int i 0,.int l.length 0,.int ep 0,ok,ov],slots:=#[] })
theorem IS {elts:List Expr} {tn:Nat} {tpos:Pos} {v d:Addr} {l:List (Aw×AV)} {ep:Nat} (hA:A.handled=none) (hv:σ.hp v=some (.fields "dict_items" [.ref d])) (hd:σ.hp d=some (.dict l ep)) :
  Fg C A E env (.Tuple elts tn tpos) (.ref v) (l.map fun p=>.tup [p.1.av,p.2]) (fun hp=>hp d=some (.dict l ep)) σ:=by
 intro F G s v' hR hv'
 obtain rfl:=hv'.refI
 refine xa2_4 (hR.fields hv) ?_;intro ov us hov hc hda hus
 obtain rfl:us=[Value.ref d]:=by refine VRs.consC hus fun zv zw zo q r=>?_;clear hus;subst zo;(have zc:=VR.refI q;clear q;subst zc);(have zc:=VRs.nilI r;clear r;subst zc);rfl
 refine xa1_2 (hR.dictAt hd) ?_;intro kvs hm sv
 refine wpAny_pyIter_items ⟨ov,hov,hc,hda⟩ hm ?_
 refine xa0_2 (hR.put1 (t:=s.toks) (o:={ cls:=.type "dict_itemiterator",data:=.fields #[.none,.bool false,.ref d,.int 0 0,.int kvs.length 0,.int ep 0,.none,.none] }) rfl) ?_;intro hg hR'
 refine ⟨_,_,OW s.heap.objs.size d l ep,rfl,D5 hg,hR',⟨0,.none,.none,rfl,by rw [sv.length];rfl⟩,?_⟩
 clear hR' hg sv hm hov hda hus hc hv hd hR
 generalize s.heap.objs.size=IT
 refine ⟨?_,?_,?_,?_⟩
 ·(rintro F xs m;intro zr;refine cps fun zP zk=>?_;(rcases zr with ⟨i,ok,ov,ex,rfl⟩)<;>(refine zk ?_;clear zk zP));exact BE (A9 rfl)
 ·(rintro F F' xs m e;intro zr;refine cps fun zP zk=>?_;(rcases zr with ⟨i,ok,ov,ex,em⟩)<;>(refine zk ?_;clear zk zP));exact ⟨i,ok,ov,ex,em⟩
 ·(rintro env F G s σ y ys m hR dj hK;intro zr;refine cps fun zP zk=>?_;(rcases zr with ⟨i,ok,ov,ex,rfl⟩)<;>(refine zk ?_;clear zk zP))
  refine xa0_2 (DB ex) ?_;intro hx ex2
  have hg:=dj _ _ (Be IT _)
  refine xa1_2 (hR.dictAt hK) ?_;intro kvs hm sv
  rw [List.getElem?_map] at hx
  refine xa1_2 (Option.map_eq_some_iff.mp hx) ?_;intro zq;refine cps fun zP zk=>?_;(rcases zq with ⟨k,x⟩)<;>(refine zk ?_;clear zk zP);intro hk;rintro rfl
  refine xa1_2 (sv.get.1 hk) ?_;intro u hu hxu
  have hat:=hR.oat (BE (A9 rfl)) (Be IT _)
  have hit:IsItemIter s.heap IT d i kvs.length ep ok ov:=by rw [sv.length];exact hat
  refine wpAny_pyNext_items_item hit hm hu fun key h' hkey hout hnew hsz hkp=>⟨_,rfl,?_⟩
  refine wpAny_letOwnedTupleGo_items (s:={ s with heap:=h' }) hout fun h'' hit' hsb=>?_
  have nit:s.heap.objs.size≠IT:=(Nat.ne_of_lt (Heap.lt_size hat)).symm
  have hp2:h''.get? s.heap.objs.size=some { cls:=.type "tuple",data:=.seq #[key,u] }:=(hsb.2 _ nit).trans hnew
  have hR2:=hR.turn1 (t:=s.toks) hg (A9 rfl) (A9 rfl) hit' fun b ob n e=>(hsb.2 b n).trans (hkp b ob n e)
  refine xa0_3 (hR.wd.lt (Nat.le_refl s.heap.objs.size)) ?_;intro z1 z2 z3
  refine xa0_2 (hR.fresh (Nat.le_refl s.heap.objs.size)) ?_;intro z4 z5
  refine xa0_2 (hR2.freezeAt hp2 z1 (by rw [AH (J4 _ nit)] at z2 ⊢;exact z2) z3 z4 z5) ?_;intro hR3 e3
  have hkv:VR F k.av key:=by
   rcases Aw.is_shape hkey with ⟨j,t,rfl,rfl⟩|⟨w,t,rfl,rfl⟩
   ·exact .int _ _
   ·exact .str _ _
  exact ⟨_,_,e3,.tup (vs:=[key,u]) (Au _ _ _) rfl rfl (.cons (hkv.mono e3) (.cons (hxu.mono e3) .nil)),⟨i+1,key,u,ex2,by rw [sv.length]⟩,fun b q=>IE q,hR3⟩
 ·(rintro env F G s σ m hR dj hK;intro zr;refine cps fun zP zk=>?_;(rcases zr with ⟨i,ok,ov,ex,rfl⟩)<;>(refine zk ?_;clear zk zP))
  refine xa1_2 (hR.dictAt hK) ?_;intro kvs hm sv
  have hx:=E5 ex
  rw [List.getElem?_map,Option.map_eq_none_iff] at hx
  have hit:IsItemIter s.heap IT d i kvs.length ep ok ov:=by rw [sv.length];exact hR.oat (BE (A9 rfl)) (Be IT _)
  exact wpAny_pyNext_items_end hA hit hm (sv.get.2 hx) fun h' hx=>⟨rfl,hR.drop1 (dj _ _ (Be IT _)) (A9 rfl) hx⟩
theorem EE {x y:Str} {p1 p2 pos:Pos} {tn:Nat} {a b:AV} {Q:Al→Prop} (hA:A.handled=none) (h:Q ((σ.set x a).set y b)) (hx:autoParam (E3 (env.kindOf x)=true) AC.aux0._auto_1) (hy:autoParam (E3 (env.kindOf y)=true) AC.aux0._auto_1) :
  HA C A env (.Tuple [.Name x p1,.Name y p2] tn pos) (.tup [a,b]) σ Q:=by
 intro F G s v hR hv
 refine VR.tupC hv fun vs t ot n zo q1 q2 q3 q4=>?_;clear hv;subst zo
 refine VRs.consC q4 fun v1 zw zo r1 q4_a=>?_;clear q4;subst zo;refine VRs.consC q4_a fun v2 zw zo r2 q4_b=>?_;clear q4_a;subst zo
 (have zc:=VRs.nilI q4_b;clear q4_b;subst zc)
 refine wpAny_assign_Tuple hA ⟨ot,hR.wd.fz _ _ q1,q2,n,q3⟩ rfl rfl fun h' hk=>?_
 have hR':Rp C A F G env σ { s with heap:=h' }:=hR.keep (t:=s.toks) fun b o e=>hk b o (Nat.ne_of_lt (Heap.lt_size e)) e
 show wpAny _ _ (do holding [v2] (assign (.Name x p1) env v1);do holding [] (assign (.Name y p2) env v2);pure ()) _ _ _
 refine wpAny_bind (wpAny_holding (wpAny_assign_Name (Cp hR' r1 (CH hx) fun s₁ hR₁=>wpAny_bind (wpAny_holding (wpAny_assign_Name (Cp hR₁ r2 (CH hy) fun s₂ hR₂=>?_))))))
 exact wpAny_pure ⟨F,_,AE.refl F,hR₂,h⟩
end
end
section
noncomputable def EQ (h:Heap) (S:List Addr):Heap:={ h with objs:=h.objs.mapIdx fun i o=>if i∈S then { o with data:=.freed } else o }
theorem CX (h:Heap) (S:List Addr) (b:Addr):(EQ h S).get? b=if b∈S then none else h.get? b:=by
 unfold EQ Heap.get?
 simp only [Array.getElem?_mapIdx]
 by_cases q:b∈S
 ·simp only [q,if_true]
  cases h.objs[b]?<;>rfl
 ·simp only [q,if_false]
  cases h.objs[b]?<;>rfl
theorem En:isSubtype (.type "KeyError") (.type "BaseException")=pure true:=by rw [isSubtype_type];kernel_rfl
theorem Em:isSubtype (.type "KeyError") (.type "KeyError")=pure true:=by rw [isSubtype_type];kernel_rfl
theorem Eu:isSubtype (.type ((Manifest.find? "KeyError").elim "type" fun y=>y.metatype)) (.type "tuple")=pure false:=by
 rw [find?_eq_fast]
 have e:(fastFind? "KeyError").elim "type" (fun y=>y.metatype) = "type":=by kernel_rfl
 rw [e,isSubtype_type];kernel_rfl
section
variable {C:Cf} {A:Around} {E:Value→Shared→Prop} {env:Env} {σ:Al} {F G:FH} {s:Shared}
theorem Rp.mark (hR:Rp C A F G env σ s) (h:Option Value):Rp C (A.mark h) F G env σ s:=⟨hR.wd,hR.fm,hR.fs⟩
theorem Rp.unmark {h:Option Value} (hR:Rp C (A.mark h) F G env σ s):Rp C A F G env σ s:=⟨hR.wd,hR.fm,hR.fs⟩
structure Gx (F G:FH) (σ:Al) (env:Env) (a:Addr):Prop where
 f:F a=none
 g:G a=none
 h:σ.hp a=none
 l:a≠env.locals
 c:∀x,env.kindOf x=some .cell→env.cells.lookup x≠some a
theorem Rp.loose (hR:Rp C A F G env σ s) {a:Addr} (ha:s.heap.get? a=none):Gx F G σ env a:=by
 refine ⟨?_,?_,?_,?_,fun x hx hc=>?_⟩
 ·cases e:F a with
  |none=>rfl
  |some o=>rw [hR.wd.fz a o e] at ha;exact Ap ha
 ·cases e:G a with
  |none=>rfl
  |some o=>refine xa1_2 (hR.wd.gz a o e) ?_;intro o' h zu;rw [h] at ha;exact Ap ha
 ·cases e:σ.hp a with
  |none=>rfl
  |some x=>refine cps fun zP zk=>?_;(rcases hR.wd.ob a x e with ⟨zu,zu,o,h,zu⟩)<;>(refine zk ?_;clear zk zP);rw [h] at ha;exact Ap ha
 ·rintro rfl
  refine xa1_2 hR.fm.ns ?_;intro m;intro zq;refine xa3_2 zq ?_;(try clear zq);intro oL es ep hL zu;intro zu
  rw [hL] at ha;exact Ap ha
 ·refine cps fun zP zk=>?_;(rcases hR.fm.co x hx with ⟨c,h1,zu,zu,zu,zu,v,o,ho,zu⟩)<;>(refine zk ?_;clear zk zP)
  rw [hc] at h1;(have zc:=Option.some.inj h1;clear h1;subst zc)
  rw [ho] at ha;exact Ap ha
theorem Rp.noted (hR:Rp C A F G env σ s) {h':Heap} {t:Nat} {S:List Addr} (hS:∀b∈S,Gx F G σ env b∨(b=env.locals∨∃o es ep,G b=some o∧o.data=.dict es ep))
  (k:∀b o,b∉S→s.heap.get? b=some o→h'.get? b=some o) (kd:∀b o es ep,s.heap.get? b=some o→o.data=.dict es ep→∃sl,h'.get? b=some { o with slots:=sl }) :
  Rp C A F G env σ ⟨h',s.gens,s.drawn,t,s.os⟩:=by
 refine cps fun zP zk=>?_;(rcases hR with ⟨⟨w1,w2,w3,w4,w5,w6,w7,w8⟩,⟨kk,⟨m,hm,hmv⟩,⟨l1,l2,l3⟩,co,ci,cv,fv⟩,hfs⟩)<;>(refine zk ?_;clear zk zP)
 have nF:∀{b o},F b=some o→b∉S:=fun {b o} e hb=>by
  rcases hS b hb with h|rfl|⟨og,es,ep,h,zu⟩
  ·rw [h.f] at e;exact Aj e
  ·rw [l1] at e;exact Aj e
  ·rw [w8 b o e] at h;exact Aj h
 have nH:∀{b x},σ.hp b=some x→b∉S:=fun {b x} e hb=>by
  rcases hS b hb with h|rfl|⟨og,es,ep,h,zu⟩
  ·rw [h.h] at e;exact Aj e
  ·rw [l3] at e;exact Aj e
  ·have:=(w4 b x e).2.1;rw [h] at this;exact Ap this
 have nC:∀{x c},env.kindOf x=some .cell→env.cells.lookup x=some c→c∉S:=fun {x c} hx hc hb=>by
  refine xa1_6 (co x hx) ?_;intro c' g1 g2 g3 g4 g5 zu
  rw [hc] at g1;(have zc:=Option.some.inj g1;clear g1;subst zc)
  rcases hS c hb with h|h|⟨og,es,ep,h,zu⟩
  ·exact h.c x hx hc
  ·exact g5 h
  ·rw [g3] at h;exact Aj h
 refine ⟨⟨w1,fun b o e=>k _ _ (nF e) (w2 b o e),fun b o e=>?_,fun a x e=>?_,w5,w6,w7,w8⟩,⟨kk,⟨m,?_,hmv⟩,⟨l1,l2,l3⟩,fun x hx=>?_,ci,fun x av c h1 h2 h3=>?_,fv⟩,hfs⟩
 ·refine xa1_2 (w3 b o e) ?_;intro o' h1 h2
  by_cases hb:b∈S
  ·rcases hS b hb with h|rfl|⟨og,es,ep,h,hd⟩
   ·rw [h.g] at e;exact Aj e
   ·rw [l2] at e;exact Aj e
   ·rw [e] at h;(have zc:=Option.some.inj h;clear h;subst zc)
    refine xa1_1 (kd b o' es ep h1 (h2.data.trans hd)) ?_;intro sl z
    refine ⟨_,z,.inr ⟨⟨es,ep,hd⟩,sl,?_⟩⟩
    rcases h2 with rfl|⟨zu,sl',rfl⟩<;>rfl
  ·exact ⟨o',k _ _ hb h1,h2⟩
 ·refine cps fun zP zk=>?_;(rcases w4 a x e with ⟨p,q,o,ho,r⟩)<;>(refine zk ?_;clear zk zP)
  exact ⟨p,q,o,k _ _ (nH e) ho,r⟩
 ·refine xa3_3 hm ?_;(try clear hm);intro oL es ep hL r1 r2
  refine xa1_1 (kd _ oL es ep hL r1) ?_;intro sl z
  exact ⟨_,es,ep,z,r1,r2⟩
 ·refine cps fun zP zk=>?_;(rcases co x hx with ⟨c,g1,g2,g3,g4,g5,v,o,ho,hd⟩)<;>(refine zk ?_;clear zk zP)
  exact ⟨c,g1,g2,g3,g4,g5,v,o,k _ _ (nC hx g1) ho,hd⟩
 ·refine xa1_2 (cv x av c h1 h2 h3) ?_;intro v;intro zq;refine xa1_2 zq ?_;(try clear zq);intro o ho hd;intro r
  exact ⟨v,⟨o,k _ _ (nC h2 h3) ho,hd⟩,r⟩
theorem Rp.looseTurn (hR:Rp C A F G env σ s) {h':Heap} {t:Nat} {a:Addr} (ha:Gx F G σ env a) (hd:∀o es ep,s.heap.get? a=some o→o.data≠.dict es ep) (hs:∀b o,b≠a→s.heap.get? b=some o→h'.get? b=some o):Rp C A F G env σ ⟨h',s.gens,s.drawn,t,s.os⟩:=by
 refine hR.noted (S:=[a]) (fun b hb=>?_) (fun b o hb e=>hs b o (by simpa using hb) e) fun b o es ep e hd'=>?_
 ·obtain rfl:b=a:=by simpa using hb
  exact .inl ha
 ·have n:b≠a:=by rintro rfl;exact hd o es ep e hd'
  exact ⟨o.slots,hs b o n e⟩
theorem LY {e:Addr} {X T:String} {oe:Obj} {vs:Array Value} {x:Str} {xp pos:Pos} {b₀:Stmt} {suite:List Stmt} {rest:List ExceptHandler} {Q:A7→Al→Prop}
  (hR:Rp C A F G env σ s) (hl:Gx F G σ env e) (he:s.heap.get? e=some oe) (hc:oe.cls=.type X) (hd:oe.data=.fields vs) (h1:vs[1]? = some .none) (hfr:env.frame=some env.locals)
  (hexc:isSubtype (.type T) (.type "BaseException")=pure true) (hnt:isSubtype (.type ((Manifest.find? T).elim "type" fun y=>y.metatype)) (.type "tuple")=pure false) (hsub:isSubtype (.type X) (.type T)=pure true)
  (hg:GL C x (.type T)) (h:Cd C (A.mark (some (.ref e))) Bd env (b₀::suite) σ Q)
  (hk:env.kindOf x=some .globalImplicit) (hs:env.scope.kind=.function) (hgl:env.globals=mainGlobals) (hbl:env.builtins=builtinsNs) (hdbg:(x == ("__debug__" : Str))=false) :
  wpAny (model C.prog C.w) A (noteFrame (.ref e) env) (fun zu s₂=>wpAny (model C.prog C.w) A (setFlight (.ref e) none) (fun zu s₃=>
   wpAny (model C.prog C.w) A (handleBy (.ref e) env (.ExceptHandler (some (.Name x xp)) none (b₀::suite) pos::rest)) (A0 C A G env M4 Q F) E s₃) E s₂) E s:=by
 refine xa2_5 hR.fs ?_;intro e' l f1 f2 f3 f4 f5
 have:e'=env:=by
  rcases f4 with f4|⟨zu,L,o,g1,g2,zu⟩
  ·exact f4.1
  ·rw [f3,hfr] at g1;(have zc:=Option.some.inj g1;clear g1;subst zc)
   rw [hR.fm.lo.2.1] at g2;exact Aj g2
 subst this
 let S:List Addr:=e::(e'::l).filterMap (·.frame)
 have hSf:∀b∈(e'::l).filterMap (·.frame),b=e'.locals∨∃o es ep,G b=some o∧o.data=.dict es ep:=by
  intro b hb
  refine xa1_2 (List.mem_filterMap.mp hb) ?_;intro en hen hfe
  rcases List.mem_cons.mp hen with rfl|hen
  ·rw [hfr] at hfe;(have zc:=Option.some.inj hfe;clear hfe;subst zc);exact .inl rfl
  ·refine cps fun zP zk=>?_;(rcases f5 en hen with ⟨zu,L,o,g1,g2,es,ep,g3⟩)<;>(refine zk ?_;clear zk zP)
   rw [g1] at hfe;(have zc:=Option.some.inj hfe;clear hfe;subst zc)
   exact .inr ⟨o,es,ep,g2,g3⟩
 have hS:∀b∈S,Gx F G σ e' b∨(b=e'.locals∨∃o es ep,G b=some o∧o.data=.dict es ep):=by
  intro b hb
  rcases List.mem_cons.mp hb with rfl|hb
  ·exact .inl hl
  ·exact .inr (hSf b hb)
 have hfun:∀b∈(e'::l).filterMap (·.frame),∃o,s.heap.get? b=some o∧∃es ep,o.data=.dict es ep:=by
  intro b hb
  rcases hSf b hb with rfl|⟨o,es,ep,g1,g2⟩
  ·refine xa1_2 hR.fm.ns ?_;intro m;intro zq;refine xa3_3 zq ?_;(try clear zq);intro oL es ep hL r zu;intro zu
   exact ⟨oL,hL,es,ep,r⟩
  ·refine xa1_2 (hR.wd.gz _ _ g1) ?_;intro o' g3 g4
   exact ⟨o',g3,es,ep,g4.data.trans g2⟩
 have base_none:∀b∈S,(EQ s.heap S).get? b=none:=fun b hb=>by rw [CX,if_pos hb]
 have hff:s.heap.FunFrames (EQ s.heap S) (e'::l):=by
  have all:∀ll:List Env,(∀en∈ll,en∈e'::l)→s.heap.FunFrames (EQ s.heap S) ll:=by
   intro ll
   induction ll with
   |nil=>intro zu;trivial
   |cons en ll ih=>
    intro hsub'
    have hen:=hsub' en List.mem_cons_self
    obtain ⟨kd,L,hL⟩:en.scope.kind≠.module∧∃L,en.frame=some L:=by
     rcases List.mem_cons.mp hen with rfl|hen
     ·exact ⟨f2,_,hfr⟩
     ·refine cps fun zP zk=>?_;(rcases f5 en hen with ⟨g0,L,o,g1,zu⟩)<;>(refine zk ?_;clear zk zP)
      exact ⟨g0,L,g1⟩
    have hm:L∈(e'::l).filterMap (·.frame):=List.mem_filterMap.mpr ⟨en,hen,hL⟩
    refine cps fun zP zk=>?_;(rcases hfun L hm with ⟨o,ho,es,ep,hdd⟩)<;>(refine zk ?_;clear zk zP)
    exact ⟨kd,⟨L,o,hL,base_none _ (List.mem_cons_of_mem _ hm),ho,fun vs q=>by rw [hdd] at q;cases q⟩,ih fun en' h'=>hsub' en' (List.mem_cons_of_mem _ h')⟩
  exact all _ fun zu h=>h
 have hkb:(EQ s.heap S).StaysIn s.heap:=fun b o e=>by
  rw [CX] at e
  split at e
  ·exact Aj e
  ·exact e
 unfold noteFrame
 simp only [hfr]
 refine wpAny_bind (wpAny_field he hd h1 ?_)
 rw [if_neg (by decide)]
 refine wpAny_newEntry f1 hff hfr he hkb (base_none e List.mem_cons_self) hd (Array.getElem?_eq_some_iff.mp h1).1 fun h' hL=>?_
 refine xa0_4 hL ?_;(try clear hL);intro k1 k2;intro zq;refine xa5_9 zq ?_;(try clear zq);intro oe' vs' T' oT ts t1 t2 t3 t4 t5 t6 t7 t8 t9;intro k4
 have hR₁:Rp C A F G e' σ { s with heap:=h' }:=hR.noted (t:=s.toks) hS (fun b o hb q=>k1 b o (by rw [CX,if_neg hb];exact q)) fun b o es ep q hdd=>k4 b o q fun vs z=>by rw [hdd] at z;cases z
 have hT':s.heap.get? T'=none:=by
  rw [CX] at t5
  split at t5
  ·rename_i hm
   rcases List.mem_cons.mp hm with q|hm
   ·exact absurd q t6
   ·refine cps fun zP zk=>?_;(rcases hfun T' hm with ⟨o,ho,es,ep,hdd⟩)<;>(refine zk ?_;clear zk zP)
    refine xa1_1 (k4 T' o ho fun vs z=>by rw [hdd] at z;cases z) ?_;intro sl z
    rw [t7] at z;(have zc:=Option.some.inj z;clear z;subst zc)
    rw [hdd] at t8;cases t8
  ·exact t5
 have lT:Gx F G σ e' T':=hR.loose hT'
 refine wpAny_handleBy_builtin (X:=X) (T:=T) (b:=true) hexc hnt hsub ?_
 refine wpAny_Name ?_ hdbg
 rw [D8 hs hk]
 refine hg e' hgl hbl _ _ _ _ hR₁.wd.old ⟨rfl,⟨oe',t1,t2.trans hc⟩,?_⟩
 rw [if_pos rfl]
 refine wpAny_setFlight_none t1 t3 t4 t7 t8 (Array.getElem?_eq_some_iff.mp t9).1 ?_
 have hR₂:Rp C A F G e' σ { s with heap:=h'.update T' (Obj.mapFields (·.setIfInBounds 3 .none)) }:=hR₁.looseTurn (t:=s.toks) lT (fun o es ep q z=>by dsimp only at q;rw [t7] at q;(have zc:=Option.some.inj q;clear q;subst zc);rw [t8] at z;cases z) fun b o n q=>(Heap.get?_update_ne _ _ _ _ n).trans q
 refine wpAny_mono (h F G _ (hR₂.mark _)) (fun f s' z=>?_) fun zu zu x=>x.elim
 refine cps fun zP zk=>?_;(rcases z with ⟨F',b,σ',e1,r,hR',q⟩)<;>(refine zk ?_;clear zk zP)
 exact ⟨F',b,σ',e1,r,hR'.unmark,q⟩
theorem Js {x:Str} {px ps pa pos hpos kp:Pos} {value slice:Expr} {b₀:Stmt} {suite:List Stmt} {Q:A7→Al→Prop} (hs:(C.h0.get? sysModules).isSome=true) (hA:A.handled=none)
  (hg:GL C "KeyError" (.type "KeyError"))
  (h:Ev C A Bd env value σ (fun a σ₁=>Ev C A Bd env slice σ₁ (fun k σ₂=>∃d l ep ky,a=.ref d∧σ₂.hp d=some (.dict l ep)∧k=Aw.av ky ∧
   (∀v,Hx l ky=some v→Q .next (σ₂.set x v))∧(Hx l ky=none→∀e,Cd C (A.mark (some (.ref e))) Bd env (b₀::suite) σ₂ Q))))
  (hkx:autoParam (E3 (env.kindOf x)=true) AC.aux0._auto_1) (hfr:autoParam (env.frame=some env.locals) AC.aux0._auto_1) (hk:autoParam (env.kindOf "KeyError" = some .globalImplicit) AC.aux0._auto_1) (hsc:autoParam (env.scope.kind=.function) AC.aux0._auto_1) (hgl:autoParam (env.globals=mainGlobals) AC.aux0._auto_1) (hbl:autoParam (env.builtins=builtinsNs) AC.aux0._auto_1)
  (hsw:autoParam (swapsWith (.Subscript value slice ps) (some (.Name x px)) pa.line env=pure false) AC.aux0._auto_1) :
  Ex C A E env (.Try [.Assign [.Name x px] (.Subscript value slice ps) pa] [.ExceptHandler (some (.Name "KeyError" kp)) none (b₀::suite) hpos] [] [] pos) σ Q:=by
 intro F G s hR
 refine wpAny_Try_except (wpAny_execs_cons (wpAny_Assign_Name (Subscript_ (wpAny_mono (h F G s hR) (fun va s₁ z=>?_) fun zu zu x=>x.elim)) hsw))
 refine cps fun zP zk=>?_;(rcases z with ⟨F₁,a,σ₁,e₁,ha,hR₁,h₁⟩)<;>(refine zk ?_;clear zk zP)
 refine wpAny_mono (h₁ F₁ G s₁ hR₁) (fun vk s₂ z=>?_) fun zu zu x=>x.elim
 refine cps fun zP zk=>?_;(rcases z with ⟨F₂,k,σ₂,e₂,hkv,hR₂,d,l,ep,ky,rfl,hd,rfl,hyes,hno⟩)<;>(refine zk ?_;clear zk zP)
 (have zc:=VR.refI ha;clear ha;subst zc)
 refine xa1_2 (hR₂.dictOf hd) ?_;intro kvs hdo sv
 have hm:=Dn hdo
 refine D4 hm.typeIs slot_dict_getitem.lookup ?_
 rcases sv.at ky with ⟨xv,v,g1,g2,g3⟩|⟨g1,g2⟩
 ·refine wpAny_getItem_of (Aw.is_of hkv) hm g2 (Cp (hR₂.tok _) g3 (CH hkx) fun s₃ hR₃=>?_)
  exact wpAny_execs_nil (wpAny_execs_nil ⟨F₂,.next,_,e₁.trans e₂,.next,hR₃,hyes _ g1⟩)
 ·refine wpAny_getItem_missing_of (Aw.is_of hkv) (hR₂.low hd hs) hA hm g2 fun h' e hx=>?_
  refine xa2_3 hx.there ?_;intro oe t he hc hdt
  have hR₃:Rp C A F₂ G env σ₂ { s₂ with heap:=h',toks:=s₂.toks+1 }:=hR₂.keep hx.keeps
  have z:=LY (E:=E) (T:="KeyError") (xp:=kp) (pos:=hpos) (rest:=[]) hR₃ (hR₂.loose hx.new) he hc hdt rfl hfr En Eu Em hg (hno g1 e) hk hsc hgl hbl (by decide)
  exact wpAny_mono z (fun zu zu z=>wpAny_mono z (fun zu zu z=>wpAny_mono z (fun zu zu z=>A0.ext (e₁.trans e₂) z) fun zu zu x=>x) fun zu zu x=>x) fun zu zu x=>x
end
end
section
noncomputable abbrev GC:Program:=PySem.Challenge.pw_nc0002_05
structure Co where
 params:Arguments
 body:List Stmt
 scope:Scope
noncomputable def Co.nil:Co:=⟨⟨[],[],none,[],[],none,[]⟩,[],default⟩
noncomputable def JT (n:Str):List Stmt→Co
 |[]=>.nil
 |.FunctionDef m a b _ _ _ sc _ _ _::r=>if m == n then ⟨a,b,sc⟩ else JT n r
 |_::r=>JT n r
noncomputable def Jb (n:Str):List Stmt→List Stmt
 |[]=>[]
 |.ClassDef m _ _ b _ _ _ _ _ _ _::r=>if m == n then b else Jb n r
 |_::r=>Jb n r
noncomputable def Dm (c m:Str):Co:=JT m (Jb c GC.main.body)
noncomputable def MV (m:Str):Co:=JT m GC.main.body
structure FdRest where
 name:Str
 qual:Str
 kwd:Value
 doc:Value
 pm:Value
 ann:Option Addr
 code:Value
 ct:Value
noncomputable def FdRest.fd (r:FdRest) (d:Co) (dflt:Value):FuncData:=
 { name:=r.name,qualname:=r.qual,params:=d.params,body:=.stmts d.body,scope:=d.scope,globals:=mainGlobals,closure:=[],defaults:=dflt,kwdefaults:=r.kwd,doc:=r.doc,pyModule:=r.pm,annotations:=r.ann,code:=r.code,closureTuple:=r.ct,builtins:=builtinsNs }
noncomputable abbrev Ji:Co:=Dm "KeywordTree" "add"
theorem VRs.inv {F:FH} {x:AV} {xs:List AV} {vs:List Value} (h:VRs F (x::xs) vs):∃v us,vs=v::us∧VR F x v∧VRs F xs us:=by
 cases h with
 |cons a b=>exact ⟨_,_,rfl,a,b⟩
theorem VRs.inv0 {F:FH} {vs:List Value} (h:VRs F [] vs):vs=[]:=by (have zc:=VRs.nilI h;clear h;subst zc);rfl
theorem CA.inv {F:FH} {k:Str} {x:AV} {xs:List (Str×AV)} {vs:List (Str×Value)} (h:CA F ((k,x)::xs) vs):∃v us,vs=(k,v)::us∧VR F x v∧CA F xs us:=by
 cases h with
 |cons a b=>exact ⟨_,_,rfl,a,b⟩
theorem CA.inv0 {F:FH} {vs:List (Str×Value)} (h:CA F [] vs):vs=[]:=by cases h;rfl
theorem KL (C:Cf) (r:FdRest) (x y:AV):BK C (r.fd Ji .none) [x,y] [] [("self",x),("keyword",y)]:=by
 intro F vs kvs hv hk
 obtain rfl:=hk.inv0
 refine xa2_3 hv.inv ?_;intro v1 zu;rintro rfl;intro a hv
 refine xa2_3 hv.inv ?_;intro v2 zu;rintro rfl;intro b hv
 obtain rfl:=hv.inv0
 exact ⟨[("self",v1),("keyword",v2)],Looks.of_pure (by kernel_rfl),.cons a (.cons b .nil),by kernel_rfl⟩
noncomputable abbrev FU:Co:=Dm "State" "__init__"
noncomputable def EG (vs:List Value):Obj:={ cls:=.type "tuple",data:=.seq vs.toArray }
theorem JG {C:Cf} {α:Type} {a:Addr} {o:Obj} (h:C.h0.get? a=some o) {t:Sem α} {r:α} (e:peek [(a,o)] ⟨C.prog,C.w.params⟩ t=some r):Looks (model C.prog C.w) C.h0 t r:=by
 refine Looks.of_peek (K:=[(a,o)]) (fun b ob hb=>?_) e
 simp only [List.lookup] at hb
 split at hb
 ·rename_i q
  (have zc:=Option.some.inj hb;clear hb;subst zc)
  rw [beq_iff_eq.mp q];exact h
 ·exact Aj hb
theorem Iy (C:Cf) (r:FdRest) (hd:C.h0.get? 23=some (EG [.none,.none,.bool false])) (x i p s:AV) :
  BK C (r.fd FU (.ref 23)) [x,i] [("parent",p),("symbol",s)] [("self",x),("identifier",i),("symbol",s),("parent",p),("success",.bool false)]:=by
 intro F vs kvs hv hk
 refine xa2_3 hk.inv ?_;intro v3 zu;rintro rfl;intro a3 hk
 refine xa2_3 hk.inv ?_;intro v4 zu;rintro rfl;intro a4 hk
 obtain rfl:=hk.inv0
 refine xa2_3 hv.inv ?_;intro v1 zu;rintro rfl;intro a hv
 refine xa2_3 hv.inv ?_;intro v2 zu;rintro rfl;intro b hv
 obtain rfl:=hv.inv0
 exact ⟨[("self",v1),("identifier",v2),("symbol",v4),("parent",v3),("success",.bool false)],JG hd (by kernel_rfl),.cons a (.cons b (.cons a4 (.cons a3 (.cons (.bool false) .nil)))),by kernel_rfl⟩
theorem Hw (C:Cf) (r:FdRest) (hd:C.h0.get? 23=some (EG [.none,.none,.bool false])) (x i:AV) :
  BK C (r.fd FU (.ref 23)) [x,i] [] [("self",x),("identifier",i),("symbol",.none),("parent",.none),("success",.bool false)]:=by
 intro F vs kvs hv hk
 obtain rfl:=hk.inv0
 refine xa2_3 hv.inv ?_;intro v1 zu;rintro rfl;intro a hv
 refine xa2_3 hv.inv ?_;intro v2 zu;rintro rfl;intro b hv
 obtain rfl:=hv.inv0
 exact ⟨[("self",v1),("identifier",v2),("symbol",.none),("parent",.none),("success",.bool false)],JG hd (by kernel_rfl),.cons a (.cons b (.cons .none (.cons .none (.cons (.bool false) .nil)))),by kernel_rfl⟩
noncomputable abbrev FI:Co:=Dm "KeywordTree" "__init__"
noncomputable abbrev MA:Co:=Dm "KeywordTree" "search"
noncomputable abbrev Ko:Co:=Dm "KeywordTree" "search_one"
noncomputable abbrev Mf:Co:=Dm "KeywordTree" "search_all"
noncomputable abbrev Io:Co:=Dm "KeywordTree" "_search_all_generic"
noncomputable abbrev K4:Co:=Dm "KeywordTree" "finalize"
noncomputable abbrev Lr:Co:=Dm "KeywordTree" "_precompute_outputs"
noncomputable abbrev Ij:Co:=Dm "KeywordTree" "search_lss_for_children"
noncomputable abbrev Ez:Co:=Dm "KeywordTree" "search_lss"
theorem Hv (C:Cf) (r:FdRest) (hd:C.h0.get? 52=some (EG [.bool false])) (x:AV) :
  BK C (r.fd FI (.ref 52)) [x] [] [("self",x),("case_insensitive",.bool false)]:=by
 intro F vs kvs hv hk
 obtain rfl:=hk.inv0
 refine xa2_3 hv.inv ?_;intro v1 zu;rintro rfl;intro a hv
 obtain rfl:=hv.inv0
 exact ⟨[("self",v1),("case_insensitive",.bool false)],JG hd (by kernel_rfl),.cons a (.cons (.bool false) .nil),by kernel_rfl⟩
theorem Hu (C:Cf) (r:FdRest) (hd:C.h0.get? 52=some (EG [.bool false])) (x y:AV) :
  BK C (r.fd FI (.ref 52)) [x] [("case_insensitive",y)] [("self",x),("case_insensitive",y)]:=by
 intro F vs kvs hv hk
 refine xa2_3 hk.inv ?_;intro v3 zu;rintro rfl;intro a3 hk
 obtain rfl:=hk.inv0
 refine xa2_3 hv.inv ?_;intro v1 zu;rintro rfl;intro a hv
 obtain rfl:=hv.inv0
 exact ⟨[("self",v1),("case_insensitive",v3)],JG hd (by kernel_rfl),.cons a (.cons a3 .nil),by kernel_rfl⟩
theorem Go (C:Cf) (d:Co) (x1 x2:Str) (h:∀(r:FdRest) (S:Setting) (v1 v2:Value),peek [] S (bindArgs (r.fd d .none) ⟨[v1,v2],[]⟩)=some [(x1,v1),(x2,v2)])
  (hl:([x1,x2].all fun x=>decide (d.scope.names.lookup x=some .local))=true) (r:FdRest) (x y:AV):BK C (r.fd d .none) [x,y] [] [(x1,x),(x2,y)]:=by
 intro F vs kvs hv hk
 obtain rfl:=hk.inv0
 refine xa2_3 hv.inv ?_;intro v1 zu;rintro rfl;intro a hv
 refine xa2_3 hv.inv ?_;intro v2 zu;rintro rfl;intro b hv
 obtain rfl:=hv.inv0
 refine ⟨[(x1,v1),(x2,v2)],Looks.of_peek (K:=[]) (fun zu zu h=>by exact Aj h) (h r _ v1 v2),.cons a (.cons b .nil),?_⟩
 exact hl
theorem Ma (C:Cf) (d:Co) (x1:Str) (h:∀(r:FdRest) (S:Setting) (v1:Value),peek [] S (bindArgs (r.fd d .none) ⟨[v1],[]⟩)=some [(x1,v1)])
  (hl:([x1].all fun x=>decide (d.scope.names.lookup x=some .local))=true) (r:FdRest) (x:AV):BK C (r.fd d .none) [x] [] [(x1,x)]:=by
 intro F vs kvs hv hk
 obtain rfl:=hk.inv0
 refine xa2_3 hv.inv ?_;intro v1 zu;rintro rfl;intro a hv
 obtain rfl:=hv.inv0
 refine ⟨[(x1,v1)],Looks.of_peek (K:=[]) (fun zu zu h=>by exact Aj h) (h r _ v1),.cons a .nil,?_⟩
 exact hl
theorem KE (C:Cf):∀(r:FdRest) x y,BK C (r.fd Ko .none) [x,y] [] [("self",x),("text",y)]:=Go C Ko "self" "text" (fun zu zu zu zu=>by kernel_rfl) (by kernel_rfl)
theorem KK (C:Cf):∀(r:FdRest) x y,BK C (r.fd Mf .none) [x,y] [] [("self",x),("text",y)]:=Go C Mf "self" "text" (fun zu zu zu zu=>by kernel_rfl) (by kernel_rfl)
theorem KI (C:Cf):∀(r:FdRest) x y,BK C (r.fd Io .none) [x,y] [] [("self",x),("text",y)]:=Go C Io "self" "text" (fun zu zu zu zu=>by kernel_rfl) (by kernel_rfl)
theorem KJ (C:Cf):∀(r:FdRest) x,BK C (r.fd K4 .none) [x] [] [("self",x)]:=Ma C K4 "self" (fun zu zu zu=>by kernel_rfl) (by kernel_rfl)
theorem KD (C:Cf):∀(r:FdRest) x,BK C (r.fd Lr .none) [x] [] [("self",x)]:=Ma C Lr "self" (fun zu zu zu=>by kernel_rfl) (by kernel_rfl)
theorem Jf (C:Cf):∀(r:FdRest) x y,BK C (r.fd Ij .none) [x,y] [] [("self",x),("zero_state",y)]:=Go C Ij "self" "zero_state" (fun zu zu zu zu=>by kernel_rfl) (by kernel_rfl)
theorem KG (C:Cf):∀(r:FdRest) x y,BK C (r.fd Ez .none) [x,y] [] [("self",x),("state",y)]:=Go C Ez "self" "state" (fun zu zu zu zu=>by kernel_rfl) (by kernel_rfl)
structure Tp (C:Cf):Prop where
 sysm:(C.h0.get? sysModules).isSome=true
 g_State:GL C "State" (.ref 34)
 g_VE:GL C "ValueError" (.type "ValueError")
 g_KE:GL C "KeyError" (.type "KeyError")
 g_SI:GL C "StopIteration" (.type "StopIteration")
 g_len:GL C "len" (.builtin "len")
 g_set:GL C "set" (.type "set")
 g_tuple:GL C "tuple" (.type "tuple")
 g_enum:GL C "enumerate" (.type "enumerate")
 g_next:GL C "next" (.builtin "next")
 s_id:C7 C 34 "identifier" 0
 s_lss:C7 C 34 "longest_strict_suffix" 1
 s_mk:C7 C 34 "matched_keyword" 2
 s_out:C7 C 34 "outputs" 3
 s_par:C7 C 34 "parent" 4
 s_suc:C7 C 34 "success" 5
 s_sym:C7 C 34 "symbol" 6
 s_tr:C7 C 34 "transitions" 7
 mkS:EU C 34 30
 mkT:EU C 125 59
 n_zero:H6 C 125 "_zero_state"
 n_cnt:H6 C 125 "_counter"
 n_fin:H6 C 125 "_finalized"
 n_ci:H6 C 125 "_case_insensitive"
 n_sp:H6 C 125 "_skip_pattern"
 n_spt:H6 C 125 "_skip_pattern_type"
 d23:C.h0.get? 23=some (EG [.none,.none,.bool false])
 d52:C.h0.get? 52=some (EG [.bool false])
 f_sInit:∃r:FdRest,FnAt C 30 (r.fd FU (.ref 23))
 f_tInit:∃r:FdRest,FnAt C 59 (r.fd FI (.ref 52))
 f_add:∃r:FdRest,FnAt C 66 (r.fd Ji .none)
 f_search:∃r:FdRest,FnAt C 73 (r.fd MA .none)
 f_one:∃r:FdRest,FnAt C 80 (r.fd Ko .none)
 f_all:∃r:FdRest,FnAt C 87 (r.fd Mf .none)
 f_gen:∃r:FdRest,FnAt C 94 (r.fd Io .none)
 f_fin:∃r:FdRest,FnAt C 101 (r.fd K4 .none)
 f_pre:∃r:FdRest,FnAt C 108 (r.fd Lr .none)
 f_kids:∃r:FdRest,FnAt C 115 (r.fd Ij .none)
 f_lss:∃r:FdRest,FnAt C 122 (r.fd Ez .none)
 m_add:Cy C 125 "add" 66
 m_search:Cy C 125 "search" 73
 m_one:Cy C 125 "search_one" 80
 m_all:Cy C 125 "search_all" 87
 m_gen:Cy C 125 "_search_all_generic" 94
 m_fin:Cy C 125 "finalize" 101
 m_pre:Cy C 125 "_precompute_outputs" 108
 m_kids:Cy C 125 "search_lss_for_children" 115
 m_lss:Cy C 125 "search_lss" 122
end
section
variable {C:Cf} {A:Around} {E:Value→Shared→Prop}
theorem Ay {env:Env} {σ:Al} {e:Expr} {r:List Expr} {pos:Pos} {Q:List AV→Al→Prop} (h:Ev C A E env e σ (fun v σ₁=>M1 C A E env (backTo pos (starEach r env)) σ₁ (fun vs σ₂=>Q (v::vs) σ₂)))
  (hs:autoParam (starEach (e::r) env=(false,eval e env)::starEach r env) AC.aux0._auto_1):M1 C A E env (backTo pos (starEach (e::r) env)) σ Q:=by
 rw [hs];exact Mz h
theorem At {env:Env} {σ:Al} {pos:Pos} {Q:List AV→Al→Prop} (h:Q [] σ):M1 C A E env (backTo pos (starEach [] env)) σ Q:=Nf h
theorem N1 {env:Env} {σ:Al} {n:Option Str} {e:Expr} {kp:Pos} {r:List Keyword} {pos:Pos} {Q:List AV→Al→Prop} (h:Ev C A E env e σ (fun v σ₁=>N3 C A E env ((backToKw pos (keywordEach r env)).map (·.2)) σ₁ (fun vs σ₂=>Q (v::vs) σ₂))) :
  N3 C A E env ((backToKw pos (keywordEach (⟨n,e,kp⟩::r) env)).map (·.2)) σ Q:=M2 h
theorem A6 {env:Env} {σ:Al} {pos:Pos} {Q:List AV→Al→Prop} (h:Q [] σ):N3 C A E env ((backToKw pos (keywordEach [] env)).map (·.2)) σ Q:=Ng h
noncomputable def Ew (id:Int) (lss mk:AV) (out:Option AV) (par:AV) (suc:Bool) (sym:AV) (t:Addr):AO:=
 .slot 34 [some (.int id),some lss,some mk,out,some par,some (.bool suc),some sym,some (.ref t)]
theorem IC (T:Tp C) (hroom:A.depth<recursionLimit) {hp:HP} {x:Addr} {i:Int} {p s:AV} {kw:List (Str×AV)} {Q:AV→HP→Prop} (hx:hp x=some (.slot 34 []))
  (hkw:(kw=([("parent",p),("symbol",s)]:List (Str×AV)))∨(kw=[]∧p=.none∧s=.none))
  (h:∀d hp',hp d=none→d≠x→hp' x=some (Ew i .none .none none p false s d)→hp' d=some (.dict [] 0)→(∀b,b≠x→b≠d→hp' b=hp b)→Q .none hp') :
  Fn C A (.ref 30) [.ref x,.int i] kw hp Q:=by
 refine xa1_1 T.f_sInit ?_;intro r hf
 have hb:BK C (r.fd FU (.ref 23)) [.ref x,.int i] kw [("self",.ref x),("identifier",.int i),("symbol",s),("parent",p),("success",.bool false)]:=by
  rcases hkw with rfl|⟨rfl,rfl,rfl⟩
  ·exact Iy C r T.d23 _ _ _ _
  ·exact Hw C r T.d23 _ _
 refine Da (body:=FU.body) hf hb (fun L=>?_) hroom (by kernel_rfl) (by kernel_rfl) (by kernel_rfl) (by kernel_rfl) (by kernel_rfl)
 refine Aa (Ao (Ab rfl (Ab rfl (Bm T.s_sym hx ?_))))
 refine Aa (Ao (Ab rfl (Ab rfl (Bm T.s_id (Ae _ _ _) ?_))))
 refine Aa (Ao (Mx (fun d hd=>Ab rfl (Bm (a:=x) (vs:=setSlot (setSlot [] 6 s) 0 (.int i)) T.s_tr ?_ ?_))))
 ·have:x≠d:=fun zE=>by (first|rw [zE] at hd|rw [←zE] at hd);simp at hd
  simp [upd,this]
 have hdx:d≠x:=fun zE=>by (first|rw [zE] at hd|rw [←zE] at hd);simp at hd
 have hd0:hp d=none:=by simpa [upd,hdx] using hd
 refine Aa (Ao (Ab rfl (Ab rfl (Bm T.s_par (Ae _ _ _) ?_))))
 refine Aa (Ao (Ab rfl (Ab rfl (Bm T.s_suc (Ae _ _ _) ?_))))
 refine Aa (Ao (Bu (Ab rfl (Bm T.s_mk (Ae _ _ _) ?_))))
 refine Aa (Ao (Bu (Ab rfl (Bm T.s_lss (Ae _ _ _) ?_))))
 refine An ?_
 refine h d _ hd0 hdx ?_ ?_ ?_
 ·refine (Ae _ _ _).trans ?_
  simp [setSlot,Ew,List.replicate]
 ·simp [upd,hdx]
 ·intro b h1 h2
  simp [upd,h1,h2]
theorem EV (A:Around) (Cl:Addr) (vs:List Value) (kvs:List (Str×Value)):(A.under (.builtin "type.__call__" ⟨.ref Cl::vs,kvs⟩)).depth=A.depth+1:=rfl
theorem GK (T:Tp C) (hroom:A.depth+1<recursionLimit) {hp:HP} {i:Int} {p s:AV} {kw:List (Str×AV)} {Q:AV→HP→Prop}
  (hkw:(kw=([("parent",p),("symbol",s)]:List (Str×AV)))∨(kw=[]∧p=.none∧s=.none))
  (h:∀x d hp',hp x=none→hp d=none→d≠x→hp' x=some (Ew i .none .none none p false s d)→hp' d=some (.dict [] 0)→(∀b,b≠x→b≠d→hp' b=hp b)→Q (.ref x) hp') :
  Fn C A (.ref 34) [.int i] kw hp Q:=by
 refine Ms T.mkS (fun x vs kvs hx=>?_)
 refine IC T (by rw [EV];exact hroom) (Ae _ _ _) hkw (fun d hp' h1 h2 h3 h4 h5=>⟨rfl,h x d hp' hx ?_ h2 h3 h4 (fun b b1 b2=>?_)⟩)
 ·simpa [upd,h2] using h1
 ·rw [h5 b b1 b2];simp [upd,b1]
noncomputable def EH (z:Addr) (n:Int) (fin ci:Bool):List (Str×AV):=
 [("_zero_state",.ref z),("_counter",.int n),("_finalized",.bool fin),("_case_insensitive",.bool ci),("_skip_pattern",.none),("_skip_pattern_type",.none)]
theorem Lz (T:Tp C) (hroom:A.depth+4<recursionLimit) {hp:HP} {ci:Bool} {kw:List (Str×AV)} {Q:AV→HP→Prop}
  (hkw:(kw=([("case_insensitive",.bool ci)]:List (Str×AV)))∨(kw=[]∧ci=false))
  (h:∀t d z e hp',[t,d,z,e].Nodup→hp t=none→hp d=none→hp z=none→hp e=none→hp' t=some (.inst 125 d)→hp' d=some (.ns (EH z 1 false ci)) →
   hp' z=some (Ew 0 .none .none none .none false .none e)→hp' e=some (.dict [] 0)→(∀b,b≠t→b≠d→b≠z→b≠e→hp' b=hp b)→Q (.ref t) hp') :
  Fn C A (.ref 125) [] kw hp Q:=by
 refine Mt T.mkT (fun t d vs kvs ht hd htd=>?_)
 refine xa1_1 T.f_tInit ?_;intro r hf
 have hb:BK C (r.fd FI (.ref 52)) [.ref t] kw [("self",.ref t),("case_insensitive",.bool ci)]:=by
  rcases hkw with rfl|⟨rfl,rfl⟩
  ·exact Hu C r T.d52 _ _
  ·exact Hv C r T.d52 _
 refine Da (body:=FI.body) hf hb (fun L=>?_) (by rw [EV];with_reducible exact FZ ‹_› (by decide)) (by kernel_rfl) (by kernel_rfl) (by kernel_rfl) (by kernel_rfl) (by kernel_rfl)
 have hdt:d≠t:=fun e=>htd e.symm
 refine Aa (Ao (AZ (Db T.g_State (Ay (D0 (At (A6 (DF T.mkS (GK T ?_ (Or.inr ⟨rfl,rfl,rfl⟩) ?_)))))))))
 ·show A.depth+1+1+1<recursionLimit
  with_reducible exact Hm ‹_› (by decide)
 intro z e hp' hz he hez h1 h2 h3
 have hzt:z≠t:=fun zE=>by (first|rw [zE] at hz|rw [←zE] at hz);simp [upd] at hz
 have hzd:z≠d:=fun zE=>by (first|rw [zE] at hz|rw [←zE] at hz);simp [upd,hdt] at hz
 have het:e≠t:=fun zE=>by (first|rw [zE] at he|rw [←zE] at he);simp [upd] at he
 have hed:e≠d:=fun zE=>by (first|rw [zE] at he|rw [←zE] at he);simp [upd,hdt] at he
 have ht':hp' t=some (.inst 125 d):=by rw [h3 t hzt.symm het.symm];simp [upd]
 have hd':hp' d=some (.ns []):=by rw [h3 d hzd.symm hed.symm];simp [upd,hdt]
 refine Ab rfl (Di T.n_zero ht' hd' ?_)
 refine Aa (Ao (D0 (Ab rfl (Di T.n_cnt (a:=t) (d:=d) ?_ (Ae _ _ _) ?_ (hz:=Nat.le_of_ble_eq_true (by rfl))))))
 ·simp [upd,htd,ht']
 refine Aa (Ao (FB (Ab rfl (Di T.n_fin (a:=t) (d:=d) ?_ (Ae _ _ _) ?_ (hz:=Nat.le_of_ble_eq_true (by rfl))))))
 ·simp [upd,htd,ht']
 refine Aa (Ao (Ab rfl (Ab rfl (Di T.n_ci (a:=t) (d:=d) ?_ (Ae _ _ _) ?_ (hz:=Nat.le_of_ble_eq_true (by rfl))))))
 ·simp [upd,htd,ht']
 refine Aa (Ao (Bu (Ab rfl (Di T.n_sp (a:=t) (d:=d) ?_ (Ae _ _ _) ?_ (hz:=Nat.le_of_ble_eq_true (by rfl))))))
 ·simp [upd,htd,ht']
 refine Aa (Ao (Bu (Ab rfl (Di T.n_spt (a:=t) (d:=d) ?_ (Ae _ _ _) ?_ (hz:=Nat.le_of_ble_eq_true (by rfl))))))
 ·simp [upd,htd,ht']
 refine An ⟨rfl,?_⟩
 refine h t d z e _ ?_ ht hd ?_ ?_ ?_ ?_ ?_ ?_ ?_
 ·simp [htd,hzt.symm,het.symm,hzd.symm,hed.symm,hez.symm]
 ·simpa [upd,hzt,hzd] using hz
 ·simpa [upd,het,hed] using he
 ·simp [upd,htd,ht']
 ·refine (Ae _ _ _).trans ?_
  rfl
 ·simp [upd,hzd,h1]
 ·simp [upd,hed,h2]
 ·intro b b1 b2 b3 b4
  simp [upd,b2]
  rw [h3 b b3 b4];simp [upd,b1,b2]
end
section
theorem Cq {α:Type} [DecidableEq α]:∀{l m:List α},l.Nodup→(∀x∈l,x∈m)→l.length≤m.length
 |[],_,_,_=>Nat.zero_le _
 |x::l,m,hn,hs=>by
  have hx:=hs x (List.mem_cons_self ..)
  have hn':=List.nodup_cons.mp hn
  have:=Cq (l:=l) (m:=m.erase x) hn'.2 (fun y hy=>by
   have hne:y≠x:=fun e=>hn'.1 (e▸hy)
   exact (List.mem_erase_of_ne hne).mpr (hs y (List.mem_cons_of_mem _ hy)))
  rw [List.length_erase_of_mem hx] at this
  have hpos:0<m.length:=List.length_pos_of_mem hx
  simp only [List.length_cons];exact A8 [_,_,_] [(1,Z0,Z2),(1,(Zs Z2),Z1)] (Zs Z0) Z1 rfl this (Nat.le_of_eq (Nat.sub_add_cancel (A8 [_] [(1,(Zs (Zn 0)),Z0)] (Zn 1) Z0 rfl hpos)))
noncomputable abbrev Ag:=List Aw
structure Af where
 D:List Ag
 A:Ag→Addr
 T:Ag→Addr
 key:Ag→Option AV
 tr:Ag→List (Aw×Ag)
 lss:Ag→Option Ag
 out:Ag→Option AV
noncomputable def Af.parv (X:Af) (p:Ag):AV:=if p=[] then .none else .ref (X.A p.dropLast)
noncomputable def FJ (p:Ag):AV:=match p.getLast? with|some c=>c.av|none=>.none
noncomputable def Af.lssv (X:Af) (p:Ag):AV:=match X.lss p with|some q=>.ref (X.A q)|none=>.none
noncomputable def Af.nodeAO (X:Af) (p:Ag):AO:=Ew (X.D.idxOf p) (X.lssv p) ((X.key p).getD .none) (X.out p) (X.parv p) (X.key p).isSome (FJ p) (X.T p)
noncomputable def Af.trv (X:Af) (p:Ag):List (Aw×AV):=(X.tr p).map fun e=>(e.1,.ref (X.A e.2))
noncomputable def Bk (l:List (Aw×Ag)) (c:Aw):Option Ag:=(l.find? fun e=>e.1=c).map (·.2)
noncomputable def Af.look (X:Af) (p:Ag) (c:Aw):Option Ag:=Bk (X.tr p) c
theorem Mc (l:List (Aw×Ag)) (f:Ag→Addr) (c:Aw):Hx (l.map fun e=>(e.1,AV.ref (f e.2))) c=(Bk l c).map fun q=>.ref (f q):=by
 induction l with
 |nil=>rfl
 |cons e l ih=>
  simp only [Hx,Bk,List.map_cons,List.find?_cons] at ih ⊢
  by_cases h:e.1=c
  ·simp [h]
  ·simp only [h,decide_false];exact ih
theorem Af.at_trv (X:Af) (p:Ag) (c:Aw):Hx (X.trv p) c=(X.look p c).map fun q=>.ref (X.A q):=Mc _ _ _
theorem EN {l:List (Aw×Ag)} {c:Aw} {q:Ag} (h:Bk l c=some q):(c,q)∈l:=by
 refine xa1_2 (Option.map_eq_some_iff.mp h) ?_;intro e he;rintro rfl
 have h1:=List.find?_some he
 have:=List.mem_of_find?_eq_some he
 simp at h1;subst h1;exact this
theorem Ig {l:List (Aw×Ag)} (hn:(l.map (·.1)).Nodup) {c:Aw} {q:Ag} (h:(c,q)∈l):Bk l c=some q:=by
 induction l with
 |nil=>cases h
 |cons e l ih=>
  simp only [List.map_cons,List.nodup_cons] at hn
  simp only [Bk,List.find?_cons]
  rcases List.mem_cons.mp h with rfl|h'
  ·simp
  ·have:e.1≠c:=fun x=>hn.1 (by rw [x];exact List.mem_map_of_mem (f:=(·.1)) h')
   simp only [this,decide_false];exact ih hn.2 h'
theorem CU {l:List (Aw×Ag)} {c:Aw} (h:Bk l c=none):∀e∈l,e.1≠c:=by
 intro e he x
 have:=List.find?_eq_none.mp (Option.map_eq_none_iff.mp h) e he
 simp [x] at this
theorem BF (l m:List (Aw×Ag)) (c:Aw):Bk (l++m) c=(Bk l c).or (Bk m c):=by
 simp only [Bk,List.find?_append]
 cases l.find? fun e=>decide (e.1=c)<;>simp
structure Af.Wf (X:Af):Prop where
 root:[]∈X.D
 nodup:X.D.Nodup
 closed:∀p c,p++[c]∈X.D→p∈X.D
 ti:∀p∈X.D,∀q∈X.D,X.T p=X.T q→p=q
 trD:∀p∈X.D,∀e∈X.tr p,e.2∈X.D
 trN:∀p∈X.D,((X.tr p).map (·.1)).Nodup
 trL:∀p∈X.D,∀e∈X.tr p,e.2.getLast? = some e.1
 mkD:∀p,p∉X.D→X.key p=none
 mkV:∀p v,X.key p=some v→∀u,v≠.val u
structure AK (X:Af) (t d:Addr) (fin ci:Bool) (hp:HP):Prop where
 tree:hp t=some (.inst 125 d)
 ns:hp d=some (.ns (EH (X.A []) X.D.length fin ci))
 nd:∀p∈X.D,hp (X.A p)=some (X.nodeAO p)
 td:∀p∈X.D,∃ep,hp (X.T p)=some (.dict (X.trv p) ep)
noncomputable def Fp (X:Af) (t d a:Addr):Prop:=a=t∨a=d∨∃p∈X.D,a=X.A p∨a=X.T p
noncomputable def AO.kd:AO→Nat
 |.inst ..=>0
 |.ns _=>1
 |.slot ..=>2
 |.dict ..=>3
 |.list _=>4
 |.iset ..=>5
 |.fields ..=>6
 |.itr ..=>7
 |.frame _=>8
 |.gen ..=>9
theorem Gt {P:Prop} {o:Option AO} {x y:AO} (h1:o=some x) (h2:o=some y) (k:(x.kd == y.kd)=false):P:=by
 rw [Option.some.inj (h1.symm.trans h2),beq_self_eq_true] at k;exact Dc k
theorem Ci {hp:HP} {a b:Addr} {x y:AO} (h1:hp a=some x) (h2:hp b=some y) (k:(x.kd == y.kd)=false):a≠b:=fun e=>Gt (o:=hp a) h1 ((congrArg hp e).trans h2) k
theorem AK.fpNo {P:Prop} {X:Af} {t d a:Addr} {fin ci:Bool} {hp:HP} {x:AO} (hr:AK X t d fin ci hp) (hF:Fp X t d a) (h:hp a=some x) (k:Nat.ble 4 x.kd=true):P:=by
 have key:∀{y},hp a=some y→Nat.ble 4 y.kd=false→P:=fun e z=>by rw [Option.some.inj (h.symm.trans e),z] at k;exact Bv k
 rcases hF with e|e|⟨p,hp',e|e⟩
 ·exact key (e▸hr.tree) rfl
 ·exact key (e▸hr.ns) rfl
 ·exact key (e▸hr.nd p hp') rfl
 ·refine xa1_1 (hr.td p hp') ?_;intro ep q
  exact key (e▸q) rfl
structure Cc (P:Addr→Prop) (h:HP) (P':Addr→Prop) (h':HP):Prop where
 keep:∀a,h a≠none→¬P a→h' a=h a
 grow:∀a,P' a→P a∨h a=none
theorem Cc.refl (P:Addr→Prop) (h:HP):Cc P h P h:=⟨fun zu zu zu=>rfl,fun zu x=>.inl x⟩
theorem Cc.trans {P P' P'':Addr→Prop} {h h' h'':HP} (a:Cc P h P' h') (b:Cc P' h' P'' h''):Cc P h P'' h'' where
 keep:=fun x hx np=>by
  have e:=a.keep x hx np
  rw [←e]
  refine b.keep x (by rw [e];exact hx) (fun p'=>?_)
  rcases a.grow x p' with q|q
  ·exact np q
  ·exact hx q
 grow:=fun x p''=>by
  rcases b.grow x p'' with q|q
  ·exact a.grow x q
  ·by_cases hx:h x=none
   ·exact .inr hx
   ·by_cases np:P x
    ·exact .inl np
    ·rw [a.keep x hx np] at q;exact absurd q hx
theorem Af.Wf.dist {X:Af} {t d:Addr} {fin ci:Bool} {hp:HP} (hr:AK X t d fin ci hp) {p:Ag} (hp':p∈X.D) {q:Ag} (hq:q∈X.D) :
  X.A p≠X.T q∧X.A p≠t∧X.A p≠d∧X.T p≠t∧X.T p≠d∧t≠d:=by
 have h1:=hr.nd p hp'
 refine xa1_1 (hr.td q hq) ?_;intro ep h2
 refine xa1_1 (hr.td p hp') ?_;intro ep' h3
 have h4:=hr.tree
 have h5:=hr.ns
 refine ⟨?_,?_,?_,?_,?_,?_⟩<;>intro e
 ·rw [e,h2] at h1;exact AO.noConfusion (Option.some.inj h1)
 ·rw [e,h4] at h1;exact AO.noConfusion (Option.some.inj h1)
 ·rw [e,h5] at h1;exact AO.noConfusion (Option.some.inj h1)
 ·rw [e,h4] at h3;exact AO.noConfusion (Option.some.inj h3)
 ·rw [e,h5] at h3;exact AO.noConfusion (Option.some.inj h3)
 ·rw [e,h5] at h4;exact AO.noConfusion (Option.some.inj h4)
theorem JK {D:List Ag} {p q:Ag} (hp:p∈D) (h:D.idxOf p=D.idxOf q):p=q:=by
 have h1:D.idxOf p<D.length:=List.idxOf_lt_length_of_mem hp
 have h2:D.idxOf q<D.length:=h▸h1
 have e1:=List.getElem_idxOf h1
 have e2:=List.getElem_idxOf h2
 rw [←e1,←e2];congr 1
theorem AK.ai {X:Af} {t d:Addr} {fin ci:Bool} {hp:HP} (hr:AK X t d fin ci hp) {p q:Ag} (h1:p∈X.D) (h2:q∈X.D) (e:X.A p=X.A q):p=q:=by
 have a:=hr.nd p h1
 rw [e,hr.nd q h2] at a
 simp only [Af.nodeAO,Ew,Option.some.injEq,AO.slot.injEq,List.cons.injEq,AV.int.injEq] at a
 refine JK h1 ?_
 have:=a.2.1
 omega
theorem Af.Wf.trlen {X:Af} (w:X.Wf) {p:Ag} (h:p∈X.D):(X.tr p).length≤X.D.length:=by
 have:((X.tr p).map (·.2)).Nodup:=by
  have hn:=w.trN p h
  have hl:=w.trL p h
  generalize X.tr p=l at hn hl
  induction l with
  |nil=>simp
  |cons e l ih=>
   simp only [List.map_cons,List.nodup_cons] at hn ⊢
   refine ⟨fun hm=>hn.1 ?_,ih hn.2 (fun e' he'=>hl e' (List.mem_cons_of_mem _ he'))⟩
   refine xa1_2 (List.mem_map.mp hm) ?_;intro e' he' x
   have l1:=hl e (List.mem_cons_self ..)
   have l2:=hl e' (List.mem_cons_of_mem _ he')
   rw [x,l1] at l2
   rw [Option.some.injEq] at l2
   rw [l2];exact List.mem_map_of_mem (f:=(·.1)) he'
 have:=Cq this (m:=X.D) (fun x hx=>by refine xa1_2 (List.mem_map.mp hx) ?_;intro e he;rintro rfl;exact w.trD p h e he)
 simpa using this
structure Af.Ph1 (X:Af):Prop where
 wf:X.Wf
 kid1:∀p∈X.D,∀c,p++[c]∈X.D→X.look p c=some (p++[c])
 kid0:∀p∈X.D,∀c,p++[c]∉X.D→X.look p c=none
 lss:∀p∈X.D,X.lss p=none
 out:∀p∈X.D,X.out p=none
noncomputable def Af.grow (X:Af) (u:Ag) (c:Aw) (a b:Addr):Af where
 D:=X.D++[u++[c]]
 A:=fun p=>if p=u++[c] then a else X.A p
 T:=fun p=>if p=u++[c] then b else X.T p
 key:=X.key
 tr:=fun p=>if p=u++[c] then [] else if p=u then X.tr u++[(c,u++[c])] else X.tr p
 lss:=fun p=>if p=u++[c] then none else X.lss p
 out:=fun p=>if p=u++[c] then none else X.out p
theorem MH (u:Ag) (c:Aw):u≠u++[c]:=fun e=>by
 have:=congrArg List.length e
 simp at this
theorem Af.grow_ph1 {X:Af} (h:X.Ph1) {u:Ag} {c:Aw} {a b:Addr} (hu:u∈X.D) (hn:u++[c]∉X.D) (hb:∀p∈X.D,X.T p≠b):(X.grow u c a b).Ph1:=by
 have hne:∀p∈X.D,p≠u++[c]:=fun p hp e=>hn (e▸hp)
 have hl0:X.look u c=none:=h.kid0 u hu c hn
 refine ⟨⟨?_,?_,?_,?_,?_,?_,?_,?_,?_⟩,?_,?_,?_,?_⟩
 ·exact List.mem_append_left _ h.wf.root
 ·refine List.nodup_append.mpr ⟨h.wf.nodup,by simp,?_⟩
  intro x hx y hy
  simp at hy;subst hy;exact hne x hx
 ·intro p c' hp
  rcases List.mem_append.mp hp with h1|h1
  ·exact List.mem_append_left _ (h.wf.closed p c' h1)
  ·simp at h1
   refine xa0_2 h1 ?_;(try clear h1);rintro rfl;intro zu
   exact List.mem_append_left _ hu
 ·intro p hp q hq e
  simp only [Af.grow] at e hp hq
  rcases List.mem_append.mp hp with h1|h1<;>rcases List.mem_append.mp hq with h2|h2
  ·rw [if_neg (hne p h1),if_neg (hne q h2)] at e;exact h.wf.ti p h1 q h2 e
  ·simp at h2;subst h2
   rw [if_neg (hne p h1),if_pos rfl] at e;exact absurd e (hb p h1)
  ·simp at h1;subst h1
   rw [if_neg (hne q h2),if_pos rfl] at e;exact absurd e.symm (hb q h2)
  ·simp at h1 h2;rw [h1,h2]
 ·intro p hp e he
  simp only [Af.grow] at he hp ⊢
  by_cases e1:p=u++[c]
  ·simp [e1] at he
  ·rw [if_neg e1] at he
   have h1:p∈X.D:=by
    rcases List.mem_append.mp hp with x|x
    ·exact x
    ·simp at x;exact absurd x e1
   by_cases e2:p=u
   ·rw [if_pos e2] at he
    rcases List.mem_append.mp he with x|x
    ·exact List.mem_append_left _ (h.wf.trD u hu e x)
    ·simp at x;subst x;simp
   ·rw [if_neg e2] at he
    exact List.mem_append_left _ (h.wf.trD p h1 e he)
 ·intro p hp
  simp only [Af.grow] at hp ⊢
  by_cases e1:p=u++[c]
  ·simp [e1]
  ·rw [if_neg e1]
   have h1:p∈X.D:=by
    rcases List.mem_append.mp hp with x|x
    ·exact x
    ·simp at x;exact absurd x e1
   by_cases e2:p=u
   ·rw [if_pos e2,List.map_append]
    refine List.nodup_append.mpr ⟨h.wf.trN u hu,by simp,?_⟩
    intro x hx y hy
    simp at hy;subst hy
    refine xa1_2 (List.mem_map.mp hx) ?_;intro e he;rintro rfl
    exact CU hl0 e he
   ·rw [if_neg e2];exact h.wf.trN p h1
 ·intro p hp e he
  simp only [Af.grow] at he hp ⊢
  by_cases e1:p=u++[c]
  ·simp [e1] at he
  ·rw [if_neg e1] at he
   have h1:p∈X.D:=by
    rcases List.mem_append.mp hp with x|x
    ·exact x
    ·simp at x;exact absurd x e1
   by_cases e2:p=u
   ·rw [if_pos e2] at he
    rcases List.mem_append.mp he with x|x
    ·exact h.wf.trL u hu e x
    ·simp at x;subst x;simp
   ·rw [if_neg e2] at he
    exact h.wf.trL p h1 e he
 ·intro p hp
  exact h.wf.mkD p (fun x=>hp (List.mem_append_left _ x))
 ·exact h.wf.mkV
 ·intro p hp c' hm
  simp only [Af.grow,Af.look] at hp hm ⊢
  by_cases e1:p=u++[c]
  ·exfalso
   rcases List.mem_append.mp hm with x|x
   ·exact hn (e1▸h.wf.closed _ _ x)
   ·simp [e1] at x
  ·rw [if_neg e1]
   have h1:p∈X.D:=by
    rcases List.mem_append.mp hp with x|x
    ·exact x
    ·simp at x;exact absurd x e1
   by_cases e2:p=u
   ·subst e2
    rw [if_pos rfl,BF]
    by_cases e3:p++[c']∈X.D
    ·have:=h.kid1 p h1 c' e3
     simp only [Af.look] at this
     rw [this];rfl
    ·have:=h.kid0 p h1 c' e3
     simp only [Af.look] at this
     rw [this]
     rcases List.mem_append.mp hm with x|x
     ·exact absurd x e3
     ·simp at x;subst x;simp [Bk]
   ·rw [if_neg e2]
    rcases List.mem_append.mp hm with x|x
    ·exact h.kid1 p h1 c' x
    ·simp at x
     exact absurd x.1 e2
 ·intro p hp c' hm
  simp only [Af.grow,Af.look] at hp hm ⊢
  by_cases e1:p=u++[c]
  ·rw [if_pos e1];rfl
  ·rw [if_neg e1]
   have h1:p∈X.D:=by
    rcases List.mem_append.mp hp with x|x
    ·exact x
    ·simp at x;exact absurd x e1
   have e3:p++[c']∉X.D:=fun x=>hm (List.mem_append_left _ x)
   have:=h.kid0 p h1 c' e3
   simp only [Af.look] at this
   by_cases e2:p=u
   ·subst e2
    rw [if_pos rfl,BF,this]
    have:c≠c':=fun e=>hm (by simp [e])
    simp [Bk,this]
   ·rw [if_neg e2,this]
 ·intro p hp
  simp only [Af.grow] at hp ⊢
  split
  ·rfl
  ·rename_i e1
   rcases List.mem_append.mp hp with x|x
   ·exact h.lss p x
   ·simp at x;exact absurd x e1
 ·intro p hp
  simp only [Af.grow] at hp ⊢
  split
  ·rfl
  ·rename_i e1
   rcases List.mem_append.mp hp with x|x
   ·exact h.out p x
   ·simp at x;exact absurd x e1
end
section
variable {C:Cf} {A:Around} {E:Value→Shared→Prop}
theorem Ax {l:List (Str×AV)} {x:Str} {v:AV}:(Fj l x v).lookup x=some v:=by rw [AI];simp
theorem Ai {l:List (Str×AV)} {x y:Str} {v:AV} {r:Option AV} (h:l.lookup y=r) (hn:autoParam (y≠x) AC.aux1._auto_1):(Fj l x v).lookup y=r:=by rw [AI,if_neg hn];exact h
noncomputable def Gm (x:Str):List AV:=x.cps.toList.map fun c=>.str ⟨#[c]⟩
theorem GU {x:Str} {i:Nat} {y:AV} (h:(Gm x)[i]? = some y):∃c,x.cps[i]? = some c∧y=.str ⟨#[c]⟩:=by
 unfold Gm at h
 rw [List.getElem?_map,Option.map_eq_some_iff] at h
 refine xa1_2 h ?_;(try clear h);intro c h1 h2
 exact ⟨c,by rw [←h1];simp,h2.symm⟩
theorem GT (x:Str):(Gm x).length=x.cps.size:=by simp [Gm]
theorem EY (x:Str):(strIterType x = "str_ascii_iterator")∨strIterType x = "str_iterator":=by
 unfold strIterType;split<;>simp
inductive DJ:AV→List AV→HP→Prop
 |tup {xs hp}:xs.length≤100000→DJ (.tup xs) xs hp
theorem DJ.fr {P P':Addr→Prop} {hp hp':HP} {kw:AV} {xs:List AV} (h:DJ kw xs hp) (sep:∀a,kw=.ref a→¬P a) (f:Cc P hp P' hp'):DJ kw xs hp':=by
 cases h with
 |tup h=>exact .tup h
theorem LE {env:Env} {target:Expr} {kw:AV} {xs:List AV} {σ:Al} (h:DJ kw xs σ.hp) (ht:B7 target) (hA:A.handled=none) :
  Fg C A E env target kw xs (fun hp=>DJ kw xs hp) σ:=by
 cases h with
 |tup h=>exact (LD hA).weak fun zu zu=>trivial
theorem JH {env:Env} {kw:AV} {xs:List AV} {σ:Al} {Q:AV→Al→Prop} (h:DJ kw xs σ.hp) (q:Q (.int xs.length) σ):Br C A E env (.val (.builtin "len")) [] [kw] [] σ Q:=by
 cases h with
 |tup h=>exact MN h q
noncomputable def HB (X:Af) (w:Ag) (kw:AV) (t d:Addr) (ci:Bool) (hp hp':HP):Prop:=
 ∃X':Af,X'.Ph1∧AK X' t d false ci hp'∧Cc (Fp X t d) hp (Fp X' t d) hp'∧(∀p,p∈X'.D↔p∈X.D∨p <+: w) ∧
  (∀p,X'.key p=if w≠[]∧p=w then some kw else X.key p)∧X'.D.length≤X.D.length+w.length∧X'.A []=X.A []
theorem LF {X:Af} {t d:Addr} {ci:Bool} {hp hp':HP} (h:X.Ph1) (hr:AK X t d false ci hp) {u:Ag} {c:Aw} (hu:u∈X.D) (hn:u++[c]∉X.D) {a b:Addr} (ha:hp a=none) (hb:hp b=none) (hab:b≠a)
  (h1:hp' a=some (Ew X.D.length .none .none none (.ref (X.A u)) false c.av b)) (h2:hp' b=some (.dict [] 0))
  (h3:hp' d=some (.ns (EH (X.A []) (X.D.length+1) false ci))) (h4:∃ep,hp' (X.T u)=some (.dict (X.trv u++[(c,.ref a)]) ep))
  (h5:∀x,x≠a→x≠b→x≠d→x≠X.T u→hp' x=hp x) :
  (X.grow u c a b).Ph1∧AK (X.grow u c a b) t d false ci hp'∧Cc (Fp X t d) hp (Fp (X.grow u c a b) t d) hp':=by
 have hne:∀p∈X.D,p≠u++[c]:=fun p hp e=>hn (e▸hp)
 have hAa:∀p∈X.D,X.A p≠a:=fun p h e=>by rw [←e,hr.nd p h] at ha;exact Ap ha
 have hAb:∀p∈X.D,X.A p≠b:=fun p h e=>by rw [←e,hr.nd p h] at hb;exact Ap hb
 have hTa:∀p∈X.D,X.T p≠a:=fun p h e=>by refine xa1_1 (hr.td p h) ?_;intro ep x;rw [←e,x] at ha;exact Ap ha
 have hTb:∀p∈X.D,X.T p≠b:=fun p h e=>by refine xa1_1 (hr.td p h) ?_;intro ep x;rw [←e,x] at hb;exact Ap hb
 have hdl:∀p∈X.D,p.dropLast∈X.D:=fun p hp=>by
  rcases List.eq_nil_or_concat p with rfl|⟨q,e,rfl⟩
  ·exact hp
  ·simp only [List.concat_eq_append,List.dropLast_concat] at hp ⊢;exact h.wf.closed q e hp
 have hA:∀p∈X.D,(X.grow u c a b).A p=X.A p:=fun p hp=>if_neg (hne p hp)
 have hT:∀p∈X.D,(X.grow u c a b).T p=X.T p:=fun p hp=>if_neg (hne p hp)
 have hnd:∀p∈X.D,(X.grow u c a b).nodeAO p=X.nodeAO p:=fun p hp=>by
  have e1:(X.grow u c a b).D.idxOf p=X.D.idxOf p:=by
   simp only [Af.grow];rw [List.idxOf_append,if_pos hp]
  have e2:(X.grow u c a b).lssv p=X.lssv p:=by
   have:(X.grow u c a b).lss p=X.lss p:=if_neg (hne p hp)
   simp only [Af.lssv,this,h.lss p hp]
  have e3:(X.grow u c a b).parv p=X.parv p:=by
   simp only [Af.parv]
   rw [hA _ (hdl p hp)]
  have e4:(X.grow u c a b).out p=X.out p:=if_neg (hne p hp)
  simp only [Af.nodeAO,e1,e2,e3,e4,hT p hp]
  rfl
 have htr:∀p∈X.D,p≠u→(X.grow u c a b).trv p=X.trv p:=fun p hp hpu=>by
  have:(X.grow u c a b).tr p=X.tr p:=by simp only [Af.grow];rw [if_neg (hne p hp),if_neg hpu]
  simp only [Af.trv,this]
  exact List.map_congr_left (fun e he=>by rw [hA _ (h.wf.trD p hp e he)])
 refine ⟨Af.grow_ph1 h hu hn hTb,⟨?_,?_,?_,?_⟩,⟨?_,?_⟩⟩
 ·rw [h5 t]
  ·exact hr.tree
  ·rintro rfl;rw [hr.tree] at ha;exact Ap ha
  ·rintro rfl;rw [hr.tree] at hb;exact Ap hb
  ·exact (Af.Wf.dist hr hu hu).2.2.2.2.2
  ·exact (Af.Wf.dist hr hu hu).2.2.2.1.symm
 ·rw [h3,hA _ h.wf.root]
  simp only [Af.grow,List.length_append,List.length_singleton]
  rfl
 ·intro p hp
  rcases List.mem_append.mp hp with hp|hp
  ·rw [hA p hp,hnd p hp,h5 _ (hAa p hp) (hAb p hp) (Af.Wf.dist hr hp hp).2.2.1 (Af.Wf.dist hr hp hu).1]
   exact hr.nd p hp
  ·simp at hp;subst hp
   have e0:(X.grow u c a b).A (u++[c])=a:=if_pos rfl
   rw [e0,h1]
   have e1:(X.grow u c a b).D.idxOf (u++[c])=X.D.length:=by
    simp only [Af.grow];rw [List.idxOf_append,if_neg hn];simp
   have e2:(X.grow u c a b).lssv (u++[c])=.none:=by
    have:(X.grow u c a b).lss (u++[c])=none:=if_pos rfl
    simp only [Af.lssv,this]
   have e3:(X.grow u c a b).parv (u++[c])=.ref (X.A u):=by
    simp only [Af.parv]
    rw [if_neg (by simp),List.dropLast_concat,hA u hu]
   have e4:(X.grow u c a b).out (u++[c])=none:=if_pos rfl
   have e5:(X.grow u c a b).T (u++[c])=b:=if_pos rfl
   have e6:(X.grow u c a b).key (u++[c])=none:=h.wf.mkD _ hn
   simp only [Af.nodeAO,e1,e2,e3,e4,e5,e6,FJ,List.getLast?_concat]
   rfl
 ·intro p hp
  rcases List.mem_append.mp hp with hp|hp
  ·rw [hT p hp]
   by_cases e:p=u
   ·subst e
    refine xa1_1 h4 ?_;(try clear h4);intro ep x
    refine ⟨ep,?_⟩
    rw [x]
    have:(X.grow p c a b).tr p=X.tr p++[(c,p++[c])]:=by simp only [Af.grow];rw [if_neg (MH p c)];simp
    simp only [Af.trv,this,List.map_append]
    have e0:(X.grow p c a b).A (p++[c])=a:=if_pos rfl
    have:(X.tr p).map (fun e=>(e.1,AV.ref ((X.grow p c a b).A e.2)))=(X.tr p).map (fun e=>(e.1,AV.ref (X.A e.2))):=
     List.map_congr_left (fun e he=>by rw [hA _ (h.wf.trD p hu e he)])
    rw [this]
    simp only [List.map_cons,List.map_nil,e0]
   ·refine xa1_1 (hr.td p hp) ?_;intro ep x
    refine ⟨ep,?_⟩
    rw [htr p hp e,h5 _ (hTa p hp) (hTb p hp) (Af.Wf.dist hr hp hp).2.2.2.2.1 (fun q=>e (h.wf.ti p hp u hu q))]
    exact x
  ·simp at hp;subst hp
   have e5:(X.grow u c a b).T (u++[c])=b:=if_pos rfl
   have:(X.grow u c a b).tr (u++[c])=[]:=if_pos rfl
   refine ⟨0,?_⟩
   rw [e5,h2];simp only [Af.trv,this];rfl
 ·intro x hx hP
  refine h5 x ?_ ?_ ?_ ?_
  ·rintro rfl;exact hx ha
  ·rintro rfl;exact hx hb
  ·rintro rfl;exact hP (.inr (.inl rfl))
  ·rintro rfl;exact hP (.inr (.inr ⟨u,hu,.inr rfl⟩))
 ·rintro x (rfl|rfl|⟨p,hp,e⟩)
  ·exact .inl (.inl rfl)
  ·exact .inl (.inr (.inl rfl))
  ·rcases List.mem_append.mp hp with hp|hp
   ·rw [hA p hp,hT p hp] at e
    exact .inl (.inr (.inr ⟨p,hp,e⟩))
   ·simp at hp;subst hp
    have e0:(X.grow u c a b).A (u++[c])=a:=if_pos rfl
    have e5:(X.grow u c a b).T (u++[c])=b:=if_pos rfl
    rw [e0,e5] at e
    rcases e with rfl|rfl
    ·exact .inr ha
    ·exact .inr hb
noncomputable def Af.setKey (X:Af) (w:Ag) (kw:AV):Af:={ X with key:=fun p=>if p=w then some kw else X.key p }
theorem IF {X:Af} {t d:Addr} {ci:Bool} {hp:HP} (h:X.Ph1) (hr:AK X t d false ci hp) {w:Ag} (hw:w∈X.D) {kw:AV} (hk:∀u,kw≠.val u) :
  (X.setKey w kw).Ph1∧AK (X.setKey w kw) t d false ci (upd hp (X.A w) ((X.setKey w kw).nodeAO w)):=by
 refine ⟨⟨⟨h.wf.root,h.wf.nodup,h.wf.closed,h.wf.ti,h.wf.trD,h.wf.trN,h.wf.trL,?_,?_⟩,h.kid1,h.kid0,h.lss,h.out⟩,⟨?_,?_,?_,?_⟩⟩
 ·intro p hp
  simp only [Af.setKey] at hp ⊢
  rw [if_neg (by rintro rfl;exact hp hw)];exact h.wf.mkD p hp
 ·intro p v hv
  simp only [Af.setKey] at hv
  split at hv
  ·(have zc:=Option.some.inj hv;clear hv;subst zc);exact hk
  ·exact h.wf.mkV p v hv
 ·rw [Ad _ _ (Af.Wf.dist hr hw hw).2.1.symm];exact hr.tree
 ·rw [Ad _ _ (Af.Wf.dist hr hw hw).2.2.1.symm];exact hr.ns
 ·intro p hp
  by_cases e:p=w
  ·subst e;exact Ae _ _ _
  ·have:(X.setKey w kw).nodeAO p=X.nodeAO p:=by
    have:(X.setKey w kw).key p=X.key p:=if_neg e
    simp only [Af.nodeAO,this];rfl
   rw [this]
   exact (Ad _ _ (fun q=>e (hr.ai hp hw q))).trans (hr.nd p hp)
 ·intro p hp
  refine xa1_1 (hr.td p hp) ?_;intro ep x
  exact ⟨ep,(Ad _ _ (Af.Wf.dist hr hw hp).1.symm).trans x⟩
end
section
theorem Fh.trans {a b c:Obj} (h:Fh a b) (k:Fh b c):Fh a c:=by
 rcases h with rfl|⟨⟨es,ep,e⟩,sl,rfl⟩
 ·exact k
 ·rcases k with rfl|⟨zu,sl',rfl⟩
  ·exact .inr ⟨⟨es,ep,e⟩,sl,rfl⟩
  ·exact .inr ⟨⟨es,ep,e⟩,sl',rfl⟩
theorem CW (h:Heap):h.get? h.objs.size=none:=by
 cases q:h.get? h.objs.size with
 |none=>rfl
 |some o=>exact absurd (Heap.lt_size q) (Nat.lt_irrefl _)
noncomputable def PU (hp:HP) (F:FH) (h:Heap) (e:Env):Prop:=e.scope.kind≠.module∧∃L,e.frame=some L∧F L=none∧hp L=none∧∃o,h.get? L=some o∧∃es ep,o.data=.dict es ep
structure Wp (C:Cf) (A:Around) (hp:HP) (F:FH) (s:Shared):Prop where
 base:∀b o,C.h0.get? b=some o→F b=some o
 fz:∀b o,F b=some o→s.heap.get? b=some o
 ob:∀a x,hp a=some x→F a=none∧∃o,s.heap.get? a=some o∧OR C F s.gens x o
 os:s.os=C.os
 bare:AllBare s.gens
 gi:∀a b g gs gs',hp a=some (.gen g gs)→hp b=some (.gen g gs')→a=b
 fr:∃l,A.frames=some l∧∀e∈l,PU hp F s.heap e
section
variable {C:Cf} {A:Around} {hp:HP} {s s':Shared} {env:Env} {F F':FH}
theorem Wp.old (w:Wp C A hp F s):∀b o,C.h0.get? b=some o→s.heap.get? b=some o:=fun b o e=>w.fz _ _ (w.base _ _ e)
theorem Wp.dead (w:Wp C A hp F s) {a:Addr} (hn:s.heap.get? a=none):F a=none∧hp a=none:=by
 refine ⟨?_,?_⟩
 ·cases q:F a with
  |none=>rfl
  |some o'=>have:=w.fz _ _ q;rw [hn] at this;exact Aj this
 ·cases q:hp a with
  |none=>rfl
  |some x=>refine cps fun zP zk=>?_;(rcases w.ob _ _ q with ⟨zu,o,h,zu⟩)<;>(refine zk ?_;clear zk zP);rw [hn] at h;exact Aj h
theorem Wp.turn (w:Wp C A hp F s) {h':Heap} {t:Nat} {X:Addr→Prop} (e:AE F F') (hi:∀b o,F' b=some o→h'.get? b=some o) (hX:∀b x,X b→hp b≠some x) (hfr:∀b o,s.heap.get? b=some o→F b=none→F' b=none)
  (hf:∀l,A.frames=some l→∀e∈l,∀L,e.frame=some L→¬X L) (k:∀b o,¬X b→s.heap.get? b=some o→h'.get? b=some o):Wp C A hp F' ⟨h',s.gens,s.drawn,t,s.os⟩:=
 ⟨fun b o q=>e _ _ (w.base b o q),hi,fun a x q=>let ⟨p,o,ho,r⟩:=w.ob a x q;⟨hfr _ _ ho p,o,k _ _ (fun z=>hX a x z q) ho,r.mono e⟩,w.os,w.bare,w.gi,
  let ⟨l,a,b⟩:=w.fr;⟨l,a,fun y hy=>let ⟨p,L,q1,q2,q3,o,q4,q5⟩:=b y hy;⟨p,L,q1,hfr _ _ q4 q2,q3,o,k _ _ (hf l a y hy L q1) q4,q5⟩⟩⟩
theorem Wp.frOff (w:Wp C A hp F s) {X:Addr→Prop} (hX:∀b,X b→s.heap.get? b=none):∀l,A.frames=some l→∀e∈l,∀L,e.frame=some L→¬X L:=fun l hl e he L hL hx=>by
 refine xa1_2 w.fr ?_;intro l' a b
 rw [hl] at a;(have zc:=Option.some.inj a;clear a;subst zc)
 refine cps fun zP zk=>?_;(rcases b e he with ⟨zu,L',q1,zu,zu,o,q4,zu⟩)<;>(refine zk ?_;clear zk zP)
 rw [hL] at q1;(have zc:=Option.some.inj q1;clear q1;subst zc)
 rw [hX L hx] at q4;exact Aj q4
noncomputable abbrev PV:=AV×Bool
inductive Cs (hp:HP) (F:FH):PV→Value→Prop
 |val {a v} (r:VR F a v):Cs hp F (a,false) v
 |own {xs a} (ho:hp a=some (.list xs)):Cs hp F (.lst xs,true) (.ref a)
theorem Cs.out {a:AV} {v:Value} (r:Cs hp F (a,false) v):VR F a v:=by
 cases r with|val r=>exact r
theorem Cs.mono {pv:PV} {v:Value} (r:Cs hp F pv v) (e:AE F F'):Cs hp F' pv v:=by
 cases r with
 |val r=>exact .val (r.mono e)
 |own ho=>exact .own ho
inductive DK (hp:HP) (F:FH):List PV→List Value→Prop
 |nil:DK hp F [] []
 |cons {x xs v vs} (a:Cs hp F x v) (b:DK hp F xs vs):DK hp F (x::xs) (v::vs)
structure BC (C:Cf) (A:Around) (hp:HP) (F:FH) (s:Shared) (F':FH) (s':Shared):Prop where
 w:Wp C A hp F s
 w':Wp C A hp F' s'
 e:AE F F'
 kg:∀b o,s.heap.get? b=some o→hp b=none→∃o',s'.heap.get? b=some o'∧Fh o o'
 new:∀b o,F' b=some o→F b=some o∨s.heap.get? b=none
theorem BC.live (st:BC C A hp F s F' s') {b:Addr} {o:Obj} (h:s.heap.get? b=some o):∃o',s'.heap.get? b=some o':=by
 cases q:hp b with
 |none=>refine xa1_2 (st.kg b o h q) ?_;intro o' h zu;exact ⟨o',h⟩
 |some x=>refine cps fun zP zk=>?_;(rcases st.w'.ob b x q with ⟨zu,o',h,zu⟩)<;>(refine zk ?_;clear zk zP);exact ⟨o',h⟩
theorem BC.dead (st:BC C A hp F s F' s') {b:Addr} (h:s'.heap.get? b=none):s.heap.get? b=none:=by
 cases q:s.heap.get? b with
 |none=>rfl
 |some o=>refine xa1_1 (st.live q) ?_;intro o' z;rw [h] at z;exact Aj z
theorem BC.k (st:BC C A hp F s F' s') {b:Addr} {o:Obj} (h:s.heap.get? b=some o) (hb:hp b=none) (hd:∀es ep,o.data≠.dict es ep):s'.heap.get? b=some o:=by
 refine xa1_2 (st.kg b o h hb) ?_;intro o' h g
 rw [h,g.exact hd]
theorem BC.trans {F₁ F₂:FH} {s₁ s₂:Shared} (a:BC C A hp F s F₁ s₁) (b:BC C A hp F₁ s₁ F₂ s₂):BC C A hp F s F₂ s₂:=by
 refine ⟨a.w,b.w',a.e.trans b.e,fun x o e q=>?_,fun x o e=>?_⟩
 ·refine xa1_2 (a.kg x o e q) ?_;intro o' h g
  refine xa1_2 (b.kg x o' h q) ?_;intro o2 h g2
  exact ⟨o2,h,g.trans g2⟩
 ·rcases b.new x o e with q|q
  ·exact a.new x o q
  ·exact .inr (a.dead q)
theorem BC.mk' (w:Wp C A hp F s) {h':Heap} {t:Nat} (e:AE F F') (k:∀b o,s.heap.get? b=some o→h'.get? b=some o) (new:∀b o,F' b=some o→F b=some o∨s.heap.get? b=none) (inn:∀b o,F' b=some o→h'.get? b=some o):BC C A hp F s F' ⟨h',s.gens,s.drawn,t,s.os⟩:=
 ⟨w,w.turn (X:=fun zu=>False) e inn (fun zu zu z=>z.elim) (fun b o ho hb=>by
  cases q:F' b with
  |none=>rfl
  |some o'=>
   rcases new b o' q with z|z
   ·rw [hb] at z;exact Aj z
   ·rw [ho] at z;exact Ap z) (fun zu zu zu zu zu zu=>id) (fun b o zu=>k b o),e,fun b o h zu=>⟨o,k _ _ h,.inl rfl⟩,new⟩
theorem BC.keep (w:Wp C A hp F s) {h':Heap} {t:Nat} (k:∀b o,s.heap.get? b=some o→h'.get? b=some o):BC C A hp F s F ⟨h',s.gens,s.drawn,t,s.os⟩:=
 .mk' w (AE.refl F) k (fun zu zu e=>.inl e) (fun b o e=>k _ _ (w.fz _ _ e))
theorem BC.refl (w:Wp C A hp F s):BC C A hp F s F s:=⟨w,w,AE.refl F,fun zu o h zu=>⟨o,h,.inl rfl⟩,fun zu zu e=>.inl e⟩
theorem BC.put (w:Wp C A hp F s) {h':Heap} {t:Nat} {a:Addr} {o:Obj} (k:∀b o,s.heap.get? b=some o→h'.get? b=some o) (ho:h'.get? a=some o) (hn:s.heap.get? a=none):BC C A hp F s (AS F a o) ⟨h',s.gens,s.drawn,t,s.os⟩:=by
 refine .mk' w (Bb o (w.dead hn).1) k (fun b o' e=>?_) (fun b o' e=>?_)
 ·by_cases q:b=a
  ·exact .inr (q▸hn)
  ·rw [AA _ _ q] at e;exact .inl e
 ·by_cases q:b=a
  ·subst q;rw [Au] at e;(have zc:=Option.some.inj e;clear e;subst zc);exact ho
  ·rw [AA _ _ q] at e;exact k _ _ (w.fz _ _ e)
theorem BC.push (w:Wp C A hp F s) {t:Nat} {o:Obj} (hf:o.isFreed=false):BC C A hp F s (AS F s.heap.objs.size o) ⟨s.heap.push o,s.gens,s.drawn,t,s.os⟩:=
 .put w (fun zu zu e=>Heap.get?_push_of_some _ e) (Heap.get?_push_size _ hf) (CW _)
theorem Cs.step {pv:PV} {v:Value} (r:Cs hp F pv v) (st:BC C A hp F s F' s'):Cs hp F' pv v:=r.mono st.e
theorem Ns.geq {h h':Heap} {L:Addr} {m:Str→Option Value} (n:h.Ns L m) (k:∀o,h.get? L=some o→∃o',h'.get? L=some o'∧Fh o o'):h'.Ns L m:=by
 refine xa3_3 n ?_;(try clear n);intro o es ep ho hd r
 refine xa1_2 (k o ho) ?_;intro o' ho' g
 exact ⟨o',es,ep,ho',g.data.trans hd,r⟩
inductive Mp (hp:HP) (h:Heap) (env:Env) (x:Str) (v:Value):Prop
 |loc {m} (hk:env.kindOf x=some .local) (hn:h.Ns env.locals m) (e:m x=some v) (ho:hp env.locals=none)
 |cell {c} (hk:env.kindOf x=some .cell) (hc:env.cells.lookup x=some c) (hi:h.IsCell c (some v)) (ho:hp c=none)
 |free {c} (hk:env.kindOf x=some .free) (hc:env.cells.lookup x=some c) (hi:h.IsCell c (some v)) (ho:hp c=none)
theorem Mp.step {x:Str} {v:Value} (n:Mp hp s.heap env x v) (st:BC C A hp F s F' s'):Mp hp s'.heap env x v:=by
 cases n with
 |loc hk hn e ho=>exact .loc hk (Ns.geq hn fun o h=>st.kg _ o h ho) e ho
 |cell hk hc hi ho=>refine xa1_2 hi ?_;(try clear hi);intro o h r;exact .cell hk hc ⟨o,st.k h ho (fun es ep q=>by rw [r] at q;cases q),r⟩ ho
 |free hk hc hi ho=>refine xa1_2 hi ?_;(try clear hi);intro o h r;exact .free hk hc ⟨o,st.k h ho (fun es ep q=>by rw [r] at q;cases q),r⟩ ho
noncomputable abbrev PL:=List (Str×PV)
structure CY (C:Cf) (A:Around) (hp:HP) (F:FH) (s:Shared) (env:Env) (loc:PL):Prop where
 wp:Wp C A hp F s
 kind:env.scope.kind=.function
 glob:env.globals=mainGlobals∧env.builtins=builtinsNs
 cells:∀x,env.kindOf x=some .cell→(env.cells.lookup x).isSome=true
 nm:∀x pv,loc.lookup x=some pv→∃v,Cs hp F pv v∧Mp hp s.heap env x v
theorem CY.step {loc:PL} (c:CY C A hp F s env loc) (st:BC C A hp F s F' s'):CY C A hp F' s' env loc:=
 ⟨st.w',c.kind,c.glob,c.cells,fun x pv e=>let ⟨v,a,b⟩:=c.nm x pv e;⟨v,a.step st,b.step st⟩⟩
inductive CB {α:Type} (C:Cf) (A:Around) (hp:HP) (F:FH) (s:Shared) (R:FH→α→Prop) (v:α) (s':Shared):Prop
 |mk (F':FH) (st:BC C A hp F s F' s') (r:R F' v)
theorem CB.pre {α:Type} {R:FH→α→Prop} {v:α} {F₁:FH} {s₁:Shared} (st:BC C A hp F s F₁ s₁) (q:CB C A hp F₁ s₁ R v s'):CB C A hp F s R v s':=by
 refine cps fun zP zk=>?_;(rcases q with ⟨F',st',r⟩)<;>(refine zk ?_;clear zk zP)
 exact ⟨F',st.trans st',r⟩
structure PT {α β:Type} (C:Cf) (A:Around) (hp:HP) (env:Env) (loc:PL) (R:FH→β→α→Prop) (t:Sem α) (b:β):Prop where
 go:∀F s (E:Value→Shared→Prop),CY C A hp F s env loc→wpAny (model C.prog C.w) A t (CB C A hp F s fun F' v=>R F' b v) E s
theorem PT.use {α β:Type} {loc:PL} {R:FH→β→α→Prop} {t:Sem α} {b:β} (h:PT C A hp env loc R t b) (c:CY C A hp F s env loc) {E:Value→Shared→Prop} {P:α→Shared→Prop}
  (k:∀F' s' v,BC C A hp F s F' s'→CY C A hp F' s' env loc→R F' b v→P v s'):wpAny (model C.prog C.w) A t P E s:=
 wpAny_mono (h.go F s E c) (fun v s' ⟨F',st,r⟩=>k F' s' v st (c.step st) r) fun zu zu x=>x
noncomputable abbrev PE (C:Cf) (A:Around) (hp:HP) (env:Env) (loc:PL) (e:Expr) (pv:PV):Prop:=PT C A hp env loc (Cs hp) (eval e env) pv
noncomputable abbrev PB (C:Cf) (A:Around) (hp:HP) (env:Env) (loc:PL) (e:Expr) (b:Bool):Prop:=PT C A hp env loc (fun zu b b'=>b=b') (isTrue e env (eval e env)) b
noncomputable def PR {α β:Type} (C:Cf) (A:Around) (hp:HP) (R:FH→β→α→Prop) (f:Value→Sem α) (x:PV) (b:β):Prop:=
 ∀F s (E:Value→Shared→Prop) v,Wp C A hp F s→Cs hp F x v→wpAny (model C.prog C.w) A (f v) (CB C A hp F s fun F' v=>R F' b v) E s
noncomputable def Jn {α β:Type} (C:Cf) (A:Around) (hp:HP) (R:FH→β→α→Prop) (f:Value→Value→Sem α) (x y:PV) (b:β):Prop:=
 ∀F s (E:Value→Shared→Prop) v u,Wp C A hp F s→Cs hp F x v→Cs hp F y u→wpAny (model C.prog C.w) A (f v u) (CB C A hp F s fun F' v=>R F' b v) E s
section
variable {loc:PL}
theorem CB.here {α:Type} {R:FH→α→Prop} {v:α} (w:Wp C A hp F s) {t:Nat} (r:R F v):CB C A hp F s R v { s with toks:=t }:=⟨F,.keep (t:=t) w fun zu zu e=>e,r⟩
theorem MZ {k pos}:PE C A hp env loc (.Constant .none k pos) (.none,false):=.mk fun F s E c=>wpAny_pure (CB.here (t:=s.toks) c.wp (.val .none))
theorem Av {i k pos}:PE C A hp env loc (.Constant (.int i) k pos) (.int i,false):=.mk fun F s E c=>wpAny_Constant_int (CB.here c.wp (.val (.int i _)))
theorem Ak {x pos pv} (h:loc.lookup x=some pv) (hd:autoParam ((x == ("__debug__" : Str))=false) AC.aux1._auto_1) (hn:autoParam ((x == ("__classdict__" : Str))=false) AC.aux1._auto_1):PE C A hp env loc (.Name x pos) pv:=.mk fun F s E c=>by
 refine xa1_2 (c.nm x pv h) ?_;intro v r n
 have q:CB C A hp F s (fun F' v=>Cs hp F' pv v) v s:=CB.here (t:=s.toks) c.wp r
 refine wpAny_Name ?_ hd
 cases n with
 |loc hk hn e zu=>exact wpAny_loadName_local c.kind hk hn e q
 |cell hk hc hi zu=>exact wpAny_loadName_cell c.kind hk hc hi q
 |free hk hc hi zu=>exact wpAny_loadName_free c.kind hk hc hi q hn
theorem Ce {l r:Expr} {op:Operator} {pos:Pos} {a b x:PV} (h1:PE C A hp env loc l a) (h2:PE C A hp env loc r b) (h:Jn C A hp (Cs hp) (binaryOp op) a b x):PE C A hp env loc (.BinOp l op r pos) x:=.mk fun F s E c=>
 wpAny_BinOp (h1.use c fun F₁ s₁ v₁ st₁ c₁ r₁=>h2.use c₁ fun F₂ s₂ v₂ st₂ c₂ r₂=>wpAny_mono (h F₂ s₂ E v₁ v₂ c₂.wp (r₁.step st₂) r₂) (fun zu zu q=>q.pre (st₁.trans st₂)) fun zu zu x=>x)
theorem ET {l r:Expr} {op:CmpOp} {pos:Pos} {a b:PV} {x:Bool} (h1:PE C A hp env loc l a) (h2:PE C A hp env loc r b) (h:Jn C A hp (Cs hp) (compareOp op) a b (.bool x,false)) (hm:autoParam (behindInMarks op r=false) AC.aux2._auto_1):PB C A hp env loc (.Compare l [op] [r] pos) x:=.mk fun F s E c=>
 wpAny_isTrue_Compare1 (h1.use c fun F₁ s₁ v₁ st₁ c₁ r₁=>h2.use c₁ fun F₂ s₂ v₂ st₂ c₂ r₂=>wpAny_mono (h F₂ s₂ E v₁ v₂ c₂.wp (r₁.step st₂) r₂) (fun v s₃ q=>by
  refine cps fun zP zk=>?_;(rcases q with ⟨F₃,st₃,r₃⟩)<;>(refine zk ?_;clear zk zP)
  obtain rfl:=r₃.out.boolI
  exact wpAny_truthy_bool ⟨F₃,(st₁.trans st₂).trans st₃,rfl⟩) fun zu zu x=>x) hm
theorem B1 {value slice:Expr} {pos:Pos} {a b x:PV} (h1:PE C A hp env loc value a) (h2:PE C A hp env loc slice b) (h:Jn C A hp (Cs hp) (subscriptTail value slice) a b x):PE C A hp env loc (.Subscript value slice pos) x:=.mk fun F s E c=>
 Subscript_ (h1.use c fun F₁ s₁ v₁ st₁ c₁ r₁=>h2.use c₁ fun F₂ s₂ v₂ st₂ c₂ r₂=>wpAny_mono (h F₂ s₂ E v₁ v₂ c₂.wp (r₁.step st₂) r₂) (fun zu zu q=>q.pre (st₁.trans st₂)) fun zu zu x=>x)
theorem Jo {x:Expr} {pos:Pos} {b:Bool} (h:PB C A hp env loc x b):PB C A hp env loc (.UnaryOp .Not x pos) (!b):=.mk fun F s E c=>by
 show wpAny _ _ (do return !(←isTrue x env (eval x env))) _ _ _
 exact wpAny_bind (h.use c fun F₁ s₁ v st c₁ r=>wpAny_pure ⟨F₁,st,by rw [r]⟩)
theorem Jp {x y:Expr} {pos:Pos} {a b:Bool} (h1:PB C A hp env loc x a) (h2:a=true→PB C A hp env loc y b) (hb:autoParam (a=false→b=false) AC.aux5._auto_1):PB C A hp env loc (.BoolOp .And [x,y] pos) b:=.mk fun F s E c=>by
 show wpAny _ _ (do match BoolOp.And,←isTrue x env (eval x env) with|.And,false=>pure false|.Or,true=>pure true|_,_=>(do match BoolOp.And,←isTrue y env (eval y env) with|.And,false=>pure false|.Or,true=>pure true|_,_=>pure (BoolOp.And == BoolOp.And))) _ _ _
 refine wpAny_bind (h1.use c fun F₁ s₁ v st c₁ r=>?_)
 subst r
 cases a with
 |false=>exact wpAny_pure ⟨F₁,st,hb rfl⟩
 |true=>
  refine wpAny_bind ((h2 rfl).use c₁ fun F₂ s₂ v st₂ c₂ r=>?_)
  subst r
  cases b<;>exact wpAny_pure ⟨F₂,st.trans st₂,rfl⟩
theorem EC {x:Expr} {pv:PV} {b:Bool} (h:PE C A hp env loc x pv) (ht:PR C A hp (fun zu b b'=>b=b') truthy pv b) (hpl:autoParam (EJ x=true) AC.aux0._auto_1):PB C A hp env loc x b:=.mk fun F s E c=>by
 rw [E2 hpl]
 exact wpAny_bind (h.use c fun F₁ s₁ v st c₁ r=>wpAny_bind (wpAny_standAt (wpAny_holding (wpAny_mono (ht F₁ s₁ E v c₁.wp r) (fun zu zu q=>q.pre st) fun zu zu x=>x))))
theorem OL {t b o:Expr} {pos:Pos} {q:Bool} {pv:PV} (h:PB C A hp env loc t q) (h1:q=true→PE C A hp env loc b pv) (h2:q=false→PE C A hp env loc o pv):PE C A hp env loc (.IfExp t b o pos) pv:=.mk fun F s E c=>by
 show wpAny _ _ (do if ←isTrue t env (eval t env) then eval b env else eval o env) _ _ _
 refine wpAny_bind (h.use c fun F₁ s₁ v st c₁ r=>?_)
 subst r
 cases q with
 |true=>exact wpAny_mono ((h1 rfl).go F₁ s₁ E c₁) (fun zu zu q=>q.pre st) fun zu zu x=>x
 |false=>exact wpAny_mono ((h2 rfl).go F₁ s₁ E c₁) (fun zu zu q=>q.pre st) fun zu zu x=>x
noncomputable abbrev Pk (C:Cf) (A:Around) (hp:HP) (env:Env) (loc:PL) (es:List (Bool×Sem Value)) (pvs:List PV):Prop:=PT C A hp env loc (DK hp) (spliced es) pvs
theorem MY:Pk C A hp env loc [] []:=.mk fun F s E c=>wpAny_pure (CB.here (t:=s.toks) c.wp .nil)
theorem Mk {t:Sem Value} {r:List (Bool×Sem Value)} {x:PV} {xs:List PV} (h:PT C A hp env loc (Cs hp) t x) (h2:Pk C A hp env loc r xs):Pk C A hp env loc ((false,t)::r) (x::xs):=.mk fun F s E c=>by
 show wpAny _ _ (do let v ←t;let here ←pure [v];return here++(←holding here (spliced r))) _ _ _
 exact wpAny_bind (h.use c fun F₁ s₁ v st c₁ r₁=>wpAny_bind (wpAny_pure (wpAny_bind (wpAny_holding (h2.use c₁ fun F₂ s₂ vs st₂ c₂ r₂=>wpAny_pure ⟨F₂,st.trans st₂,.cons (r₁.step st₂) r₂⟩)))))
noncomputable abbrev BP (env:Env) (es:List Expr):List (Bool×Sem Value):=es.map fun e=>(false,eval e env)
theorem E9 (env:Env):∀es,(BP env es).all (!·.1)=true
 |[]=>rfl
 |_::es=>E9 env es
inductive KQ (C:Cf) (A:Around) (hp:HP) (env:Env) (loc:PL):List Expr→List PV→Prop
 |nil:KQ C A hp env loc [] []
 |cons {e es x xs} (h:PE C A hp env loc e x) (k:KQ C A hp env loc es xs):KQ C A hp env loc (e::es) (x::xs)
theorem KQ.pes {es:List Expr} {xs:List PV} (h:KQ C A hp env loc es xs):Pk C A hp env loc (BP env es) xs:=by
 induction h with
 |nil=>exact MY
 |cons h zu ih=>exact Mk h ih
end
end
end
section
section
variable {C:Cf} {A:Around} {hp:HP} {s s':Shared} {env:Env} {F F':FH} {E:Value→Shared→Prop}
theorem E0 {α:Type}:∀{l:List (Str×α)} {x:Str} {v:α},l.lookup x=some v→(x,v)∈l
 |[],_,_,h=>by exact Aj h
 |(y,u)::l,x,v,h=>by
  simp only [List.lookup] at h
  split at h
  ·rename_i q;(have zc:=Option.some.inj h;clear h;subst zc);rw [beq_iff_eq.mp q];exact List.mem_cons_self ..
  ·exact List.mem_cons_of_mem _ (E0 h)
theorem Hp {α:Type}:∀(l m:List (Str×α)) (x:Str),(l++m).lookup x=(l.lookup x).or (m.lookup x)
 |[],m,x=>by simp
 |(y,u)::l,m,x=>by
  simp only [List.cons_append,List.lookup]
  split
  ·simp
  ·exact Hp l m x
noncomputable def BO (env:Env):List (Str×NameKind)→List (Str×Addr)→List (Str×Addr)
 |[],acc=>acc
 |(n,k)::r,acc=>if k == .free then BO env r ((n,(env.cells.lookup n).getD 0)::acc) else BO env r acc
theorem Ix {env:Env} {n:Str} {k:NameKind} {r:List (Str×NameKind)} {acc:List (Str×Addr)}:BO env ((n,k)::r) acc=if k == .free then BO env r ((n,(env.cells.lookup n).getD 0)::acc) else BO env r acc:=rfl
theorem Ds (env:Env):∀(names:List (Str×NameKind)) (acc:List (Str×Addr)) (x:Str),((x,NameKind.free)∈names∨acc.lookup x=some ((env.cells.lookup x).getD 0))→(BO env names acc).lookup x=some ((env.cells.lookup x).getD 0)
 |[],acc,x,h=>by
  rcases h with h|h
  ·cases h
  ·exact h
 |(y,k)::r,acc,x,h=>by
  rw [Ix]
  split
  ·rename_i hk
   refine Ds env r _ x ?_
   by_cases e:x=y
   ·subst e;right;simp [List.lookup]
   ·rcases h with h|h
    ·rcases List.mem_cons.mp h with q|q
     ·cases q;exact absurd rfl e
     ·exact .inl q
    ·right
     simp only [List.lookup,beq_eq_false_iff_ne.mpr e];exact h
  ·rename_i hk
   refine Ds env r _ x ?_
   rcases h with h|h
   ·rcases List.mem_cons.mp h with q|q
    ·cases q;simp at hk
    ·exact .inl q
   ·exact .inr h
theorem E7 (env:Env) (f:Str×NameKind→List (Str×Addr)→Sem (ForInStep (List (Str×Addr)))) (hf:∀n k cs,f (n,k) cs=if (k == NameKind.free)=true then (do let c ←cellOf env n;pure (.yield ((n,c)::cs))) else pure (.yield cs)) :
  ∀(names:List (Str×NameKind)) (acc:List (Str×Addr)),(∀p∈names,p.2=.free→(env.cells.lookup p.1).isSome=true)→(forIn names acc f:Sem _)=pure (BO env names acc)
 |[],acc,_=>by rw [List.forIn_nil];rfl
 |(n,k)::r,acc,h=>by
  rw [List.forIn_cons,hf]
  rw [Ix]
  have hr:=E7 env f hf r
  split
  ·rename_i hk
   have hk':k=.free:=by simpa using hk
   refine xa1_1 (Option.isSome_iff_exists.mp (h (n,k) List.mem_cons_self hk')) ?_;intro c hc
   have:cellOf env n=pure c:=by unfold cellOf;simp only at hc;rw [hc]
   rw [this,hc]
   exact hr _ (fun p hp=>h p (List.mem_cons_of_mem _ hp))
  ·exact hr _ (fun p hp=>h p (List.mem_cons_of_mem _ hp))
theorem G7 {scope:Scope} (h:∀p∈scope.names,p.2=.free→(env.cells.lookup p.1).isSome=true):closureFor scope env=pure (BO env scope.names []):=by
 unfold closureFor
 dsimp only
 rw [E7 env _ (fun n k cs=>?_) scope.names [] h]
 ·rfl
 ·rfl
noncomputable def md (scope:Scope):Bool:=scope.names.any fun p=>p.2 == .cell
theorem Cv:∀(names:List (Str×NameKind)) (n:Nat) (acc:List (Str×Addr)),(∀p∈names,p.2≠.cell)→cellsFrom n names acc=acc
 |[],_,_,_=>rfl
 |(y,k)::r,n,acc,h=>by
  have h1:¬(k == NameKind.cell)=true:=by simpa using h (y,k) (by simp)
  unfold cellsFrom
  rw [if_neg h1]
  exact Cv r n acc fun p hp=>h p (List.mem_cons_of_mem _ hp)
theorem DS {y:Str}:∀(names:List (Str×NameKind)) (n:Nat) (acc:List (Str×Addr)),(names.filter fun p=>p.2 == .cell)=[(y,.cell)]→cellsFrom n names acc=(y,n)::acc
 |[],_,_,h=>by cases h
 |(x,k)::r,n,acc,h=>by
  unfold cellsFrom
  rw [List.filter_cons] at h
  split at h
  ·rename_i q
   dsimp only at q
   rw [if_pos q]
   have h1:=List.cons.inj h
   refine xa0_2 h1 ?_;(try clear h1);intro h2 h3
   cases h2
   exact Cv r _ _ fun p hp q=>by
    have:=List.filter_eq_nil_iff.mp h3 p hp
    simp [q] at this
  ·rename_i q
   dsimp only at q
   rw [if_neg q]
   exact DS r n acc h
structure AT (env:Env) (scope:Scope):Prop where
 kind:scope.kind=.function
 ekind:env.scope.kind=.function
 fr:(scope.names.all fun p=>p.2 != .free||decide (env.kindOf p.1=some .cell))=true
 nc:(scope.names.filter fun p=>p.2 == .cell).length≤1
 nf:(scope.names.all fun p=>p.2 != .cell||scope.names.all fun q=>q.2 != .free||q.1 != p.1)=true
 lo:(scope.names.all fun p=>p.2 != .local||decide (scope.names.lookup p.1=some .local))=true
theorem cscope_of {scope:Scope} (h:(decide (scope.kind=.function)&&decide (env.scope.kind=.function)&&(scope.names.all fun p=>p.2 != .free||decide (env.kindOf p.1=some .cell))&&decide ((scope.names.filter fun p=>p.2 == .cell).length≤1)&&(scope.names.all fun p=>p.2 != .cell||scope.names.all fun q=>q.2 != .free||q.1 != p.1)&&(scope.names.all fun p=>p.2 != .local||decide (scope.names.lookup p.1=some .local)))=true):AT env scope:=by
 simp only [Bool.and_eq_true,decide_eq_true_eq] at h
 refine xa0_2 h ?_;(try clear h);intro zq;refine xa0_2 zq ?_;(try clear zq);intro zq;refine xa0_2 zq ?_;(try clear zq);intro zq;refine xa0_2 zq ?_;(try clear zq);intro zq;refine xa0_2 zq ?_;(try clear zq);intro a b;intro c;intro d;intro f;intro e
 exact ⟨a,b,c,d,f,e⟩
noncomputable abbrev LA:=Addr×Bool
noncomputable abbrev Az (env:Env) (scope:Scope) (Lc:LA):Env:=compEnvC scope (cellsFrom (Lc.1+1) scope.names (BO env scope.names [])) Lc.1 env
theorem AT.one {scope:Scope} (h:AT env scope) {y:Str} (hy:(y,NameKind.cell)∈scope.names) (n:Nat) (acc:List (Str×Addr)):cellsFrom n scope.names acc=(y,n)::acc:=by
 refine DS _ n acc ?_
 have hm:(y,NameKind.cell)∈scope.names.filter fun p=>p.2 == .cell:=List.mem_filter.mpr ⟨hy,by rfl⟩
 have hl:=h.nc
 generalize (scope.names.filter fun p=>p.2 == .cell)=l at hm hl ⊢
 match l,hm,hl with
 |[p],hm,_=>rw [List.mem_singleton.mp hm]
 |p::q::r,_,hl=>simp at hl
theorem AT.none {scope:Scope} (h:md scope=false) (n:Nat) (acc:List (Str×Addr)):cellsFrom n scope.names acc=acc:=by
 refine Cv _ n acc fun p hp q=>?_
 have:=List.any_eq_false.mp h p hp
 simp [q] at this
theorem AT.freeCell {scope:Scope} (h:AT env scope) {x:Str} (hx:(x,NameKind.free)∈scope.names) (Lc:LA):(Az env scope Lc).cells.lookup x=some ((env.cells.lookup x).getD 0):=by
 show (cellsFrom (Lc.1+1) scope.names (BO env scope.names [])).lookup x=_
 have hl:=Ds env scope.names [] x (.inl hx)
 cases hm:md scope with
 |false=>rw [AT.none hm];exact hl
 |true=>
  refine xa1_2 (List.any_eq_true.mp hm) ?_;intro zq;refine cps fun zP zk=>?_;(rcases zq with ⟨y,k⟩)<;>(refine zk ?_;clear zk zP);intro hy hk
  have hk:k=.cell:=by simpa using hk
  subst hk
  rw [h.one hy]
  have:=List.all_eq_true.mp h.nf _ hy
  have this2:(scope.names.all fun q=>q.2 != .free||q.1 != y)=true:=by simpa using this
  have:=List.all_eq_true.mp this2 _ hx
  have hne:x≠y:=by simpa using this
  rw [List.lookup,beq_eq_false_iff_ne.mpr hne]
  exact hl
theorem AT.cell {scope:Scope} (h:AT env scope) {Lc:LA} {x:Str} (hx:(Az env scope Lc).kindOf x=some .cell):((Az env scope Lc).cells.lookup x).isSome=true:=by
 have hm:=E0 (show (relabel scope env).names.lookup x=some .cell from hx)
 refine xa1_2 (List.mem_map.mp hm) ?_;intro zq;refine cps fun zP zk=>?_;(rcases zq with ⟨n,k⟩)<;>(refine zk ?_;clear zk zP);intro hnk e
 dsimp only at e
 split at e
 ·rename_i hk
  cases e
  simp only [Bool.and_eq_true,beq_iff_eq] at hk
  refine xa0_2 hk ?_;(try clear hk);intro zq;refine xa0_2 zq ?_;(try clear zq);rintro rfl;intro zu;intro h3
  rw [h.freeCell hnk];rfl
 ·cases e
  show ((cellsFrom (Lc.1+1) scope.names (BO env scope.names [])).lookup x).isSome=true
  rw [h.one hnk,List.lookup,beq_self_eq_true];rfl
theorem AT.ownCell {scope:Scope} (h:AT env scope) {Lc:LA} {x:Str} (hx:(x,NameKind.cell)∈scope.names):(Az env scope Lc).cells.lookup x=some (Lc.1+1):=by
 show (cellsFrom (Lc.1+1) scope.names (BO env scope.names [])).lookup x=_
 rw [h.one hx,List.lookup,beq_self_eq_true]
theorem AT.closure {scope:Scope} (h:AT env scope) (hc:∀x,env.kindOf x=some .cell→(env.cells.lookup x).isSome=true):closureFor scope env=pure (BO env scope.names []):=by
 refine G7 fun p hp hf=>hc _ ?_
 have:=List.all_eq_true.mp h.fr _ hp
 rw [hf] at this
 simpa using this
noncomputable abbrev He (ifs:List Expr) (env:Env):Sem Bool:=forIn ifs true fun c r=>if r=true then do let ok ←isTrue c env (eval c env);pure (ForInStep.yield ok) else pure (ForInStep.yield r)
noncomputable abbrev Oa (elt:Expr) (acc:Value) (env:Env):Sem Unit:=(eval elt env >>= fun x=>call (.builtin "list.append") [acc,x] >>= fun zu=>pure ())
noncomputable def Jk (e:Expr) (d:Nat) (it acc:Value) (env:Env) (target iter:Expr) (ifs:List Expr) (rest:Sem Fin→Sem Fin):Prop:=
 compTurn e d it acc env=(standAt iter.pos >>= fun zu=>pyNext it >>= fun r=>match r with
   |none=>pure (.done .next)
   |some v=>letOwnedTupleGo target it v >>= fun zu=>assign target env v >>= fun zu=>He ifs env >>= fun ok=>
    if ok=true then rest (again (.compLoop e d it acc env)) else again (.compLoop e d it acc env))
noncomputable abbrev JQ (elt:Expr) (acc:Value) (env:Env) (k:Sem Fin):Sem Fin:=Oa elt acc env >>= fun zu=>k
theorem turn1 (elt target iter:Expr) (ifs:List Expr) (scope:Scope) (pos:Pos) (it acc:Value) (env:Env):Jk (.ListComp elt [⟨target,iter,ifs,0⟩] scope pos) 0 it acc env target iter ifs (JQ elt acc env):=rfl
theorem BC.mod {F₀:FH} {s₀:Shared} (st:BC C A hp F₀ s₀ F s) {X:Addr→Prop} (hX:∀b,X b→s₀.heap.get? b=none∧F b=none) {h':Heap} {t:Nat} (k:∀b o,¬X b→s.heap.get? b=some o→h'.get? b=some o):BC C A hp F₀ s₀ F ⟨h',s.gens,s.drawn,t,s.os⟩:=by
 refine ⟨st.w,st.w'.turn (X:=X) (AE.refl F) (fun b o e=>k b o (fun hb=>?_) (st.w'.fz _ _ e)) (fun b x hb q=>?_) (fun zu zu zu=>id) (st.w.frOff fun b hb=>(hX b hb).1) k,st.e,fun b o e q=>?_,st.new⟩
 ·rw [(hX b hb).2] at e;exact Aj e
 ·rw [(st.w.dead (hX b hb).1).2] at q;exact Aj q
 ·refine xa1_2 (st.kg b o e q) ?_;intro o' h1 g
  exact ⟨o',k b o' (fun hb=>by rw [(hX b hb).1] at e;exact Aj e) h1,g⟩
theorem BC.off (st:BC C A hp F s F' s') {b:Addr} {o:Obj} (hb:F b=none) (ho:s.heap.get? b=some o):F' b=none:=by
 cases q:F' b with
 |none=>rfl
 |some o'=>
  rcases st.new b o' q with h|h
  ·rw [hb] at h;exact Aj h
  ·rw [ho] at h;exact Ap h
inductive HD (C:Cf) (A:Around) (hp:HP) (F:FH) (s:Shared) (target:Expr) (xs:List AV) (iv:Value) (s':Shared):Prop
 |mk (F':FH) (I:Addr) (fp wr:List Addr) (St:Nat→Heap→Prop) (st:BC C A hp F s F' s') (e:iv=.ref I) (W:Wk C A target I fp wr St xs F' F') (h0:St 0 s'.heap) (hw:∀b∈wr,s.heap.get? b=none∧F' b=none)
noncomputable def PI (C:Cf) (A:Around) (hp:HP) (env:Env) (loc:PL) (target iter:Expr) (xs:List AV):Prop:=
 ∀F s (E:Value→Shared→Prop),CY C A hp F s env loc→wpAny (model C.prog C.w) A (eval iter env) (fun v s₁=>wpAny (model C.prog C.w) A (pyIter v) (HD C A hp F s target xs) E s₁) E s
noncomputable def D1 (F:FH) (h:Heap) (acc:Addr) (ys:List AV):Prop:=∃(vs:List Value) (n:Nat),h.get? acc=some { cls:=.type "list",dict:=none,data:=.seq vs.toArray n,slots:=#[] }∧VRs F ys vs
noncomputable abbrev BL:=List (Str×AV)
noncomputable def Kb (F:FH) (h:Heap) (Lc:LA) (bl:BL):Prop:=∃m c,h.Ns Lc.1 m∧(Lc.2=true→h.IsCell (Lc.1+1) c)∧∀x a,bl.lookup x=some a→∃v,(if Lc.2=true then c=some v else m x=some v)∧VR F a v
noncomputable def XL (Lc:LA) (b:Addr):Prop:=b=Lc.1∨(Lc.2=true∧b=Lc.1+1)
theorem IsCell.geq {h h':Heap} {a:Addr} {v:Option Value} (n:h.IsCell a v) (k:∀o,h.get? a=some o→∃o',h'.get? a=some o'∧Fh o o'):h'.IsCell a v:=by
 refine xa1_2 n ?_;(try clear n);intro o h1 h2
 refine xa1_2 (k o h1) ?_;intro o' h3 g
 exact ⟨o',h3,g.data.trans h2⟩
theorem Kb.keepG {h h':Heap} {Lc:LA} {bl:BL} (b:Kb F h Lc bl) (e:AE F F') (k:∀a,XL Lc a→∀o,h.get? a=some o→∃o',h'.get? a=some o'∧Fh o o'):Kb F' h' Lc bl:=by
 refine xa2_3 b ?_;(try clear b);intro m c hn hc hb
 exact ⟨m,c,Ns.geq hn (k _ (.inl rfl)),fun q=>IsCell.geq (hc q) (k _ (.inr ⟨q,rfl⟩)),fun x a q=>let ⟨v,z1,z2⟩:=hb x a q;⟨v,z1,z2.mono e⟩⟩
theorem Kb.keep {h h':Heap} {Lc:LA} {bl:BL} (b:Kb F h Lc bl) (e:AE F F') (k:∀a,XL Lc a→∀o,h.get? a=some o→h'.get? a=some o):Kb F' h' Lc bl:=b.keepG e fun a x o q=>⟨o,k a x o q,.inl rfl⟩
structure CS (C:Cf) (A:Around) (hp:HP) (F₀:FH) (s₀:Shared) (acc:Addr) (Lc:LA) (bl:BL) (ys:List AV) (F:FH) (s:Shared):Prop where
 st:BC C A hp F₀ s₀ F s
 ac:D1 F s.heap acc ys
 fr:Kb F s.heap Lc bl
 oa:F acc=none
 oL:∀b,XL Lc b→F b=none
 na:s₀.heap.get? acc=none
 nL:∀b,XL Lc b→s₀.heap.get? b=none
 ne:¬XL Lc acc
structure C9 (C:Cf) (A:Around) (hp:HP) (X:Addr→Prop) (F:FH) (s:Shared) (F':FH) (s':Shared):Prop where
 w':Wp C A hp F' s'
 e:AE F F'
 kg:∀b o,¬X b→s.heap.get? b=some o→hp b=none→∃o',s'.heap.get? b=some o'∧Fh o o'
 new:∀b o,F' b=some o→F b=some o∨s.heap.get? b=none
theorem BC.kept (st:BC C A hp F s F' s') (X:Addr→Prop):C9 C A hp X F s F' s':=⟨st.w',st.e,fun b o zu e=>st.kg b o e,st.new⟩
theorem C9.off {X:Addr→Prop} (st:C9 C A hp X F s F' s') {b:Addr} {o:Obj} (hb:F b=none) (ho:s.heap.get? b=some o):F' b=none:=by
 cases q:F' b with
 |none=>rfl
 |some o'=>
  rcases st.new b o' q with h|h
  ·rw [hb] at h;exact Aj h
  ·rw [ho] at h;exact Ap h
theorem C9.k {X:Addr→Prop} (st:C9 C A hp X F s F' s') {b:Addr} {o:Obj} (hx:¬X b) (h:s.heap.get? b=some o) (hb:hp b=none) (hd:∀es ep,o.data≠.dict es ep):s'.heap.get? b=some o:=by
 refine xa1_2 (st.kg b o hx h hb) ?_;intro o' h g
 rw [h,g.exact hd]
theorem C9.dead {X:Addr→Prop} (a:C9 C A hp X F s F' s') {b:Addr} (hx:¬X b) (h:s'.heap.get? b=none):s.heap.get? b=none:=by
 cases z:s.heap.get? b with
 |none=>rfl
 |some o=>
  refine xa1_2 (a.kg b o hx z (a.w'.dead h).2) ?_;intro o' q zu
  rw [h] at q;exact Aj q
theorem C9.trans {X:Addr→Prop} {F₁ F₂:FH} {s₁ s₂:Shared} (a:C9 C A hp X F s F₁ s₁) (b:C9 C A hp X F₁ s₁ F₂ s₂) (hX:∀b,X b→F₂ b=none):C9 C A hp X F s F₂ s₂:=by
 refine ⟨b.w',a.e.trans b.e,fun x o hx e q=>?_,fun x o e=>?_⟩
 ·refine xa1_2 (a.kg x o hx e q) ?_;intro o' h g
  refine xa1_2 (b.kg x o' hx h q) ?_;intro o2 h g2
  exact ⟨o2,h,g.trans g2⟩
 ·rcases b.new x o e with q|q
  ·exact a.new x o q
  ·exact .inr (a.dead (fun hx=>by rw [hX x hx] at e;exact Aj e) q)
noncomputable abbrev XP (acc:Addr) (Lc:LA):Addr→Prop:=fun b=>b=acc∨XL Lc b
noncomputable def Ob (scope:Scope) (loc:PL):PL:=loc.filter fun p=>decide (scope.names.lookup p.1=some .free)
noncomputable abbrev Jc (scope:Scope) (loc:PL) (bl:BL):PL:=bl.map (fun p=>(p.1,(p.2,false)))++Ob scope loc
theorem ES {scope:Scope}:∀{loc:PL} {x:Str} {pv:PV},(Ob scope loc).lookup x=some pv→scope.names.lookup x=some .free∧loc.lookup x=some pv
 |[],_,_,h=>by exact Aj h
 |(y,u)::l,x,pv,h=>by
  unfold Ob at h
  simp only [List.filter,List.lookup] at h ⊢
  split at h
  ·rename_i q
   simp only [List.lookup] at h
   split at h
   ·rename_i z
    (have zc:=Option.some.inj h;clear h;subst zc)
    rw [beq_iff_eq.mp z]
    exact ⟨of_decide_eq_true q,rfl⟩
   ·rename_i z
    exact ES h
  ·rename_i q
   have hx:=ES (loc:=l) h
   have:(x == y)=false:=by
    apply beq_eq_false_iff_ne.mpr
    rintro rfl
    exact absurd hx.1 (of_decide_eq_false q)
   rw [this];exact hx
theorem Hj {names:List (Str×NameKind)} {x:Str} (h1:env.scope.kind=.function) (h2:env.kindOf x=some .cell):names.lookup x=some .free →
  (names.map fun (n,k)=>if (k == NameKind.free&&env.scope.kind == .function&&env.kindOf n == some .cell) then (n,NameKind.cell) else (n,k)).lookup x=some .cell:=by
 induction names with
 |nil=>intro h;exact Aj h
 |cons p r ih=>
  refine cps fun zP zk=>?_;(rcases p with ⟨n,k⟩)<;>(refine zk ?_;clear zk zP)
  intro h
  simp only [List.lookup] at h
  split at h
  ·rename_i q
   (have zc:=Option.some.inj h;clear h;subst zc)
   have:=beq_iff_eq.mp q
   subst this
   simp [h1,h2]
  ·rename_i q
   rw [List.map_cons]
   by_cases z:(k == NameKind.free&&env.scope.kind == .function&&env.kindOf n == some .cell)=true
   ·simp only [z,if_true,List.lookup,q];exact ih h
   ·have z':=Bool.eq_false_iff.mpr z
    simp only [z',Bool.false_eq_true,if_false,List.lookup,q];exact ih h
theorem JU:∀{bl:BL} {x:Str},(bl.map fun p=>(p.1,((p.2,false):PV))).lookup x=(bl.lookup x).map fun a=>(a,false)
 |[],_=>rfl
 |(y,a)::bl,x=>by
  simp only [List.map_cons,List.lookup]
  split
  ·rfl
  ·exact JU
noncomputable def Pm (env:Env) (scope:Scope) (Lc:LA) (bl:BL):Prop:=∀x a,bl.lookup x=some a→(Lc.2=false∧(Az env scope Lc).kindOf x=some .local)∨(Lc.2=true∧(x,NameKind.cell)∈scope.names∧(Az env scope Lc).kindOf x=some .cell)
theorem CS.ctx {scope:Scope} {loc:PL} {F₀:FH} {s₀:Shared} {acc:Addr} {Lc:LA} {bl:BL} {ys:List AV} (c:CY C A hp F₀ s₀ env loc) (cs:AT env scope) (h:CS C A hp F₀ s₀ acc Lc bl ys F s) (hk:Pm env scope Lc bl):CY C A hp F s (Az env scope Lc) (Jc scope loc bl):=by
 have c':=c.step h.st
 refine ⟨c'.wp,cs.kind,c.glob,fun x hx=>cs.cell hx,fun x pv e=>?_⟩
 rw [Hp,JU] at e
 cases q:bl.lookup x with
 |some a=>
  rw [q] at e;(have zc:=Option.some.inj e;clear e;subst zc)
  refine xa2_3 h.fr ?_;intro m cv hm hc hb
  refine xa1_2 (hb x a q) ?_;intro v h1 h2
  rcases hk x a q with ⟨z1,z2⟩|⟨z1,z2,z3⟩
  ·rw [if_neg (by rw [z1];exact Bool.false_ne_true)] at h1
   exact ⟨v,.val h2,.loc z2 hm h1 (h.st.w.dead (h.nL _ (.inl rfl))).2⟩
  ·rw [if_pos z1] at h1
   subst h1
   exact ⟨v,.val h2,.cell z3 (cs.ownCell z2) (hc z1) (h.st.w.dead (h.nL _ (.inr ⟨z1,rfl⟩))).2⟩
 |none=>
  rw [q] at e
  refine xa0_2 (ES e) ?_;intro h1 h2
  refine xa1_2 (c'.nm x pv h2) ?_;intro v r n
  have hm:=E0 h1
  have hcell:env.kindOf x=some .cell:=by
   have:=List.all_eq_true.mp cs.fr _ hm
   simpa using this
  cases n with
  |loc hk zu zu2 zu3=>rw [hcell] at hk;cases hk
  |free hk zu zu2 zu3=>rw [hcell] at hk;cases hk
  |cell hk hc hi hh=>
   refine ⟨v,r,.cell (Hj cs.ekind hcell h1) ?_ hi hh⟩
   have:=cs.freeCell hm Lc
   rw [hc] at this;exact this
noncomputable def Nv (C:Cf) (A:Around) (hp:HP) (F₀:FH) (s₀:Shared) (acc:Addr) (Lc:LA) (bl:BL) (rest:Sem Fin→Sem Fin) (zs:List AV):Prop:=
 ∀F s ys (k:Sem Fin) (R:Fin→Shared→Prop),CS C A hp F₀ s₀ acc Lc bl ys F s→ys.length+zs.length≤100000 →
  (∀F' s',CS C A hp F₀ s₀ acc Lc bl (ys++zs) F' s'→C9 C A hp (XP acc Lc) F s F' s'→wpAny (model C.prog C.w) A k R Bd s')→wpAny (model C.prog C.w) A (rest k) R Bd s
noncomputable def Na (C:Cf) (A:Around) (cenv:Env) (Lc:LA) (target:Expr) (x:AV) (bl bl':BL):Prop:=
 ∀F s v,(∀b o,F b=some o→s.heap.get? b=some o)→Kb F s.heap Lc bl→VR F x v→wpAny (model C.prog C.w) A (assign target cenv v) (fun zu s'=>∃h' t,s'=⟨h',s.gens,s.drawn,t,s.os⟩∧Kb F h' Lc bl'∧∀b o,¬XL Lc b→s.heap.get? b=some o→h'.get? b=some o) Bd s
theorem CZ {cenv:Env} {Lc:LA} {x:Str} {px:Pos} {a:AV} {bl:BL} (hf:cenv.scope.kind=.function) (hL:cenv.locals=Lc.1) (h2:Lc.2=false) (hk:cenv.kindOf x=some .local) (F:FH) (s:Shared) (v:Value) (b:Kb F s.heap Lc bl) (hv:VR F a v) :
  wpAny (model C.prog C.w) A (assign (.Name x px) cenv v) (fun zu s'=>∃h' t,s'=⟨h',s.gens,s.drawn,t,s.os⟩∧Kb F h' Lc ((x,a)::bl)∧∀b o,¬XL Lc b→s.heap.get? b=some o→h'.get? b=some o) Bd s:=by
 refine xa2_3 b ?_;(try clear b);intro m c hm hc hb
 rw [←hL] at hm
 have hn2:¬Lc.2=true:=by rw [h2];exact Bool.false_ne_true
 refine wpAny_assign_Name (wpAny_storeName_local hk hm (fun h' hn hs=>⟨h',s.toks+1,rfl,⟨_,c,hL▸hn,fun q=>absurd q hn2,fun y a' e=>?_⟩,fun b o n q=>SameBut.rest hs b o (fun z=>n (.inl (z.trans hL))) q⟩) (by rw [hf];rfl))
 simp only [List.lookup] at e
 split at e
 ·rename_i q
  (have zc:=Option.some.inj e;clear e;subst zc)
  exact ⟨v,by rw [if_neg hn2];exact if_pos (beq_iff_eq.mp q),hv⟩
 ·rename_i q
  refine xa1_2 (hb y a' e) ?_;intro v' z1 z2
  rw [if_neg hn2] at z1
  exact ⟨v',by rw [if_neg hn2];exact (if_neg (beq_eq_false_iff_ne.mp q)).trans z1,z2⟩
theorem KS {cenv:Env} {Lc:LA} {x:Str} {px:Pos} {a:AV} {bl:BL} (hf:cenv.scope.kind=.function) (hL:cenv.locals=Lc.1) (h2:Lc.2=false) (hk:cenv.kindOf x=some .local):Na C A cenv Lc (.Name x px) a bl ((x,a)::bl):=fun F s v zu b hv=>CZ hf hL h2 hk F s v b hv
theorem VRs.inv' {x:AV} {xs:List AV} {vs:List Value} (h:VRs F (x::xs) vs):∃v us,vs=v::us∧VR F x v∧VRs F xs us:=by
 cases h with
 |cons a b=>exact ⟨_,_,rfl,a,b⟩
theorem KR {cenv:Env} {Lc:LA} {x y:Str} {p1 p2 pos:Pos} {tn:Nat} {a b:AV} {bl:BL} (hA:A.handled=none) (hf:cenv.scope.kind=.function) (hL:cenv.locals=Lc.1) (h2:Lc.2=false) (hx:cenv.kindOf x=some .local) (hy:cenv.kindOf y=some .local) :
  Na C A cenv Lc (.Tuple [.Name x p1,.Name y p2] tn pos) (.tup [a,b]) bl ((y,b)::(x,a)::bl):=fun F s v hin bd hv=>by
 refine xa4_5 hv.tupInv ?_;intro t ot vs n;rintro rfl;intro q1 q2 q3 q4
 refine xa2_3 q4.inv' ?_;intro v1 us;rintro rfl;intro r1 q4
 refine xa2_3 q4.inv' ?_;intro v2 us;rintro rfl;intro r2 q4
 obtain rfl:=q4.nilI
 refine wpAny_assign_Tuple hA ⟨ot,hin _ _ q1,q2,n,q3⟩ rfl rfl fun h' hk=>?_
 have kp:∀b o,s.heap.get? b=some o→h'.get? b=some o:=fun b o e=>hk b o (Nat.ne_of_lt (Heap.lt_size e)) e
 show wpAny _ _ (do holding [v2] (assign (.Name x p1) cenv v1);do holding [] (assign (.Name y p2) cenv v2);pure ()) _ _ _
 refine wpAny_bind (wpAny_holding (wpAny_mono (CZ (C:=C) (A:=A) (px:=p1) (bl:=bl) hf hL h2 hx F { s with heap:=h' } v1 (bd.keep (AE.refl F) fun _ _ o e=>kp _ _ e) r1) (fun zu s₁ z=>?_) fun zu zu x=>x))
 refine xa2_3 z ?_;(try clear z);intro h1 t1;rintro rfl;intro b1 k1
 refine wpAny_bind (wpAny_holding (wpAny_mono (CZ (C:=C) (A:=A) (px:=p2) hf hL h2 hy F ⟨h1,s.gens,s.drawn,t1,s.os⟩ v2 b1 r2) (fun zu s₂ z=>?_) fun zu zu x=>x))
 refine xa2_3 z ?_;(try clear z);intro h2' t2;rintro rfl;intro b2 k2
 exact wpAny_pure ⟨h2',t2,rfl,b2,fun b o n e=>k2 b o n (k1 b o n (kp _ _ e))⟩
end
end
section
section
variable {C:Cf} {A:Around} {hp:HP} {s s':Shared} {env:Env} {F F':FH} {E:Value→Shared→Prop}
section
variable {F₀:FH} {s₀:Shared} {acc:Addr} {Lc:LA} {bl bl':BL} {ys zs:List AV}
theorem BC.add (st:BC C A hp F₀ s₀ F s) {T:Addr} {o:Obj} (ho:s.heap.get? T=some o) (hF:F T=none) (hn:s₀.heap.get? T=none):BC C A hp F₀ s₀ (AS F T o) s:=by
 have hi:∀b o',AS F T o b=some o'→s.heap.get? b=some o':=fun b o' e=>by
  by_cases q:b=T
  ·subst q;rw [Au] at e;(have zc:=Option.some.inj e;clear e;subst zc);exact ho
  ·rw [AA _ _ q] at e;exact st.w'.fz b o' e
 have ex:=Bb o hF
 have off:∀{b},s₀.heap.get? b≠none→F b=none→AS F T o b=none:=fun {b} h1 h2=>by rw [AA];exact h2;rintro rfl;exact h1 hn
 refine ⟨st.w,⟨fun b o q=>ex _ _ (st.w'.base b o q),hi,fun a x q=>?_,st.w'.os,st.w'.bare,st.w'.gi,?_⟩,st.e.trans ex,st.kg,fun b o' e=>?_⟩
 ·refine cps fun zP zk=>?_;(rcases st.w'.ob a x q with ⟨p,o,ho',r⟩)<;>(refine zk ?_;clear zk zP)
  refine cps fun zP zk=>?_;(rcases st.w.ob a x q with ⟨zu,o2,h2,zu⟩)<;>(refine zk ?_;clear zk zP)
  exact ⟨off (by rw [h2];exact fun z=>nomatch z) p,o,ho',r.mono ex⟩
 ·refine xa1_2 st.w'.fr ?_;intro l a b
  refine ⟨l,a,fun y hy=>?_⟩
  refine cps fun zP zk=>?_;(rcases b y hy with ⟨p,L,q1,q2,q3,q4⟩)<;>(refine zk ?_;clear zk zP)
  refine ⟨p,L,q1,off (fun z=>st.w.frOff (X:=(·=L)) (fun b hb=>by rw [hb];exact z) l a y hy L q1 rfl) q2,q3,q4⟩
 ·by_cases q:b=T
  ·exact .inr (q▸hn)
  ·rw [AA _ _ q] at e;exact st.new b o' e
theorem D1.live {h:Heap} (a:D1 F h acc ys):∃o,h.get? acc=some o:=let ⟨_,_,e,_⟩:=a;⟨_,e⟩
theorem D1.keep {h h':Heap} (a:D1 F h acc ys) (e:AE F F') (k:∀o,h.get? acc=some o→h'.get? acc=some o):D1 F' h' acc ys:=by
 refine xa2_2 a ?_;(try clear a);intro vs n h1 h2
 exact ⟨vs,n,k _ h1,h2.mono e⟩
theorem D1.keepG {h h':Heap} (a:D1 F h acc ys) (e:AE F F') (k:∀o,h.get? acc=some o→∃o',h'.get? acc=some o'∧Fh o o'):D1 F' h' acc ys:=a.keep e fun o ho=>by
 refine xa2_2 a ?_;(try clear a);intro vs n h1 h2
 rw [ho] at h1;(have zc:=Option.some.inj h1;clear h1;subst zc)
 refine xa1_2 (k _ ho) ?_;intro o' q g
 rw [q,g.exact (fun zu zu z=>nomatch z)]
theorem Kb.live {h:Heap} (b:Kb F h Lc bl):∀a,XL Lc a→∃o,h.get? a=some o:=fun a hx=>by
 refine xa2_3 b ?_;(try clear b);intro m c hn hc zu
 rcases hx with rfl|⟨q,rfl⟩
 ·refine xa3_2 hn ?_;(try clear hn);intro o zu zu e zu;exact ⟨o,e⟩
 ·refine xa1_2 (hc q) ?_;intro o e zu;exact ⟨o,e⟩
theorem CS.step (h:CS C A hp F₀ s₀ acc Lc bl ys F s) (st:BC C A hp F s F' s'):CS C A hp F₀ s₀ acc Lc bl ys F' s':=by
 refine xa1_1 h.ac.live ?_;intro oa ha
 exact ⟨h.st.trans st,h.ac.keepG st.e fun o e=>st.kg _ o e (h.st.w.dead h.na).2,h.fr.keepG st.e fun a x o e=>st.kg _ o e (h.st.w.dead (h.nL a x)).2,st.off h.oa ha,fun b x=>let ⟨_,hL⟩:=h.fr.live b x;st.off (h.oL b x) hL,h.na,h.nL,h.ne⟩
theorem CS.modw (h:CS C A hp F₀ s₀ acc Lc bl ys F s) {wr:List Addr} (hw:∀b∈wr,s₀.heap.get? b=none∧F b=none∧¬XP acc Lc b) {h':Heap} {t:Nat} (k:∀b o,b∉wr→s.heap.get? b=some o→h'.get? b=some o):CS C A hp F₀ s₀ acc Lc bl ys F ⟨h',s.gens,s.drawn,t,s.os⟩:=
 ⟨h.st.mod (X:=(·∈wr)) (fun b hb=>⟨(hw b hb).1,(hw b hb).2.1⟩) k,h.ac.keep (AE.refl F) fun o=>k _ o fun hb=>(hw _ hb).2.2 (.inl rfl),h.fr.keep (AE.refl F) fun a x o=>k _ o fun hb=>(hw _ hb).2.2 (.inr x),h.oa,h.oL,h.na,h.nL,h.ne⟩
theorem CS.add (h:CS C A hp F₀ s₀ acc Lc bl ys F s) {T:Addr} {o:Obj} (ho:s.heap.get? T=some o) (hF:F T=none) (hn:s₀.heap.get? T=none) (hx:¬XP acc Lc T):CS C A hp F₀ s₀ acc Lc bl ys (AS F T o) s:=
 ⟨h.st.add ho hF hn,h.ac.keep (Bb o hF) fun zu e=>e,h.fr.keep (Bb o hF) fun zu zu zu e=>e,by rw [AA _ _ (fun q=>hx (.inl q.symm))];exact h.oa,fun b x=>by rw [AA _ _ (fun q=>hx (.inr (by rw [←q];exact x)))];exact h.oL b x,h.na,h.nL,h.ne⟩
theorem CS.asg (h:CS C A hp F₀ s₀ acc Lc bl ys F s) {h':Heap} {t:Nat} (b:Kb F h' Lc bl') (k:∀b o,¬XL Lc b→s.heap.get? b=some o→h'.get? b=some o):CS C A hp F₀ s₀ acc Lc bl' ys F ⟨h',s.gens,s.drawn,t,s.os⟩:=
 ⟨h.st.mod (X:=XL Lc) (fun b hb=>⟨h.nL b hb,h.oL b hb⟩) k,h.ac.keep (AE.refl F) fun o=>k _ o h.ne,b,h.oa,h.oL,h.na,h.nL,h.ne⟩
noncomputable def Ny (bl bl':BL):Prop:=∀y a,bl.lookup y=some a→bl'.lookup y=some a
theorem CS.weak (h:CS C A hp F₀ s₀ acc Lc bl' ys F s) (k:Ny bl bl'):CS C A hp F₀ s₀ acc Lc bl ys F s:=
 ⟨h.st,h.ac,let ⟨m,c,hm,hc,hb⟩:=h.fr;⟨m,c,hm,hc,fun x a e=>hb x a (k x a e)⟩,h.oa,h.oL,h.na,h.nL,h.ne⟩
theorem CS.off (h:CS C A hp F₀ s₀ acc Lc bl ys F s):∀b,XP acc Lc b→F b=none:=by
 rintro b (rfl|hx)
 ·exact h.oa
 ·exact h.oL b hx
inductive Oh (C:Cf) (A:Around) (hp:HP) (env:Env) (scope:Scope) (loc:PL) (F₀:FH) (s₀:Shared) (acc:Addr) (Lc:LA) (target:Expr) (ifs:List Expr) (rest:Sem Fin→Sem Fin) (bl:BL) (x:AV) (zs:List AV):Prop
 |mk (bl':BL) (ok:Bool) (ha:Na C A (Az env scope Lc) Lc target x bl bl') (hl:Ny bl bl') (hk:Pm env scope Lc bl')
   (ht:PT C A hp (Az env scope Lc) (Jc scope loc bl') (fun zu b b'=>b=b') (He ifs (Az env scope Lc)) ok) (h1:ok=true→Nv C A hp F₀ s₀ acc Lc bl' rest zs) (h0:ok=false→zs=[])
inductive PY (C:Cf) (A:Around) (hp:HP) (F₀:FH) (s₀:Shared) (acc:Addr) (Lc:LA) (bl:BL) (wr:List Addr) (St:Nat→Heap→Prop) (F₁ Fe:FH) (se:Shared) (xs:List AV) (out:Nat→List AV) (n:Nat) (s:Shared):Prop
 |mk (i:Nat) (F:FH) (cs:CS C A hp F₀ s₀ acc Lc bl (out i) F s) (e:AE F₁ F) (st:St i s.heap) (hn:i+n=xs.length) (hw:∀b∈wr,F b=none) (kp:C9 C A hp (XP acc Lc) Fe se F s)
theorem C9.step {X:Addr→Prop} (a:C9 C A hp X F s F' s') {F₂:FH} {s₂:Shared} (b:BC C A hp F' s' F₂ s₂) (hX:∀b,X b→F₂ b=none):C9 C A hp X F s F₂ s₂:=a.trans (b.kept X) hX
theorem C9.mod {X:Addr→Prop} (a:C9 C A hp X F s F' s') {h':Heap} {t:Nat} (w:Wp C A hp F' ⟨h',s'.gens,s'.drawn,t,s'.os⟩) (k:∀b o o',¬X b→s.heap.get? b=some o→s'.heap.get? b=some o'→h'.get? b=some o'):C9 C A hp X F s F' ⟨h',s'.gens,s'.drawn,t,s'.os⟩:=
 ⟨w,a.e,fun b o hb e q=>let ⟨o',h,g⟩:=a.kg b o hb e q;⟨o',k b o o' hb e h,g⟩,a.new⟩
theorem Ja {elt:Expr} {gens:List Comprehension} {scope:Scope} {pos:Pos} {d:Nat} {target iter:Expr} {ifs:List Expr} {rest:Sem Fin→Sem Fin} {I:Addr} {loc:PL} {fp wr:List Addr} {St:Nat→Heap→Prop} {F₁ Fe:FH} {se:Shared} {α:Type} {l:List α} {g:α→AV}
  (teq:Jk (.ListComp elt gens scope pos) d (.ref I) (.ref acc) (Az env scope Lc) target iter ifs rest) (W:Wk C A target I fp wr St (l.map g) F₁ F₁) (c:CY C A hp F₀ s₀ env loc) (cs:AT env scope) (em:α→List AV)
  (turn:∀a∈l,Oh C A hp env scope loc F₀ s₀ acc Lc target ifs rest bl (g a) (em a)) (hz:ys.length+(l.flatMap em).length≤100000) (hw:∀b∈wr,s₀.heap.get? b=none∧se.heap.get? b=none∧¬XP acc Lc b)
  (h0:PY C A hp F₀ s₀ acc Lc bl wr St F₁ Fe se (l.map g) (fun i=>ys++(l.take i).flatMap em) l.length s) {R:Result→Shared→Prop}
  (hQ:∀F' s',CS C A hp F₀ s₀ acc Lc bl (ys++l.flatMap em) F' s'→C9 C A hp (XP acc Lc) Fe se F' s'→R (.ok .next) s'):codeAny (model C.prog C.w) A (.compLoop (.ListComp elt gens scope pos) d (.ref I) (.ref acc) (Az env scope Lc)) R s:=by
 refine codeAny_loop' rfl (PY C A hp F₀ s₀ acc Lc bl wr St F₁ Fe se (l.map g) (fun i=>ys++(l.take i).flatMap em)) (fun n s' hI=>?_) l.length h0
 refine cps fun zP zk=>?_;(rcases hI with ⟨i,F,hcs,e,st,hn,hwF,kp⟩)<;>(refine zk ?_;clear zk zP)
 show wpAny _ _ ((compTurn (.ListComp elt gens scope pos) d (.ref I) (.ref acc) (Az env scope Lc)).onRaise (fun x=>do noteFrame x (Az env scope Lc);theTreesLotGoes x)) _ _ s'
 refine wpAny_onRaise ?_
 rw [teq]
 refine wpAny_bind (wpAny_standAt (wpAny_bind ?_))
 have hw3:∀b∈wr,s₀.heap.get? b=none∧F b=none∧¬XP acc Lc b:=fun b hb=>⟨(hw b hb).1,hwF b hb,(hw b hb).2.2⟩
 rw [List.length_map] at hn
 cases hx:l[i]? with
 |none=>
  have hi:i=l.length:=Nat.le_antisymm (A8 [_,_,_] [(1,(Za Z0 Z2),Z1)] Z0 Z1 rfl (Nat.le_of_eq hn)) (List.getElem?_eq_none_iff.mp hx)
  subst hi
  refine wpAny_mono (W.done s' (by rw [List.length_map];exact st)) (fun r s₁ z=>?_) fun zu zu x=>x.elim
  refine cps fun zP zk=>?_;(rcases z with ⟨rfl,h',tk,rfl,k⟩)<;>(refine zk ?_;clear zk zP)
  have hcs':=hcs.modw (t:=tk) hw3 k
  simp only [List.take_length] at hcs'
  exact wpAny_pure (hQ F _ hcs' (kp.mod hcs'.st.w' fun b o o' zu e1 e2=>k b o' (fun hb=>by rw [(hw b hb).2.1] at e1;exact Aj e1) e2))
 |some a=>
  have hlt:=(List.getElem?_eq_some_iff.mp hx).1
  have hxm:a∈l:=List.mem_of_getElem? hx
  have hx2:(l.map g)[i]? = some (g a):=by rw [List.getElem?_map,hx];rfl
  refine wpAny_mono (W.more i (g a) s' hx2 st) (fun r s₁ z=>?_) fun zu zu x=>x.elim
  refine xa1_2 z ?_;(try clear z);intro v;rintro rfl;intro z
  refine wpAny_bind (wpAny_mono z (fun zu s₂ z=>?_) fun zu zu x=>x.elim)
  refine cps fun zP zk=>?_;(rcases z with ⟨h',tk,rfl,st',k,hv⟩)<;>(refine zk ?_;clear zk zP)
  have key:∃F₂,AE F F₂∧VR F₂ (g a) v∧CS C A hp F₀ s₀ acc Lc bl (ys++(l.take i).flatMap em) F₂ ⟨h',s'.gens,s'.drawn,tk,s'.os⟩∧(∀b∈wr,F₂ b=none)∧C9 C A hp (XP acc Lc) Fe se F₂ ⟨h',s'.gens,s'.drawn,tk,s'.os⟩:=by
   have hcs':=hcs.modw (t:=tk) hw3 k
   have kp':=kp.mod (t:=tk) hcs'.st.w' fun b o o' zu e1 e2=>k b o' (fun hb=>by rw [(hw b hb).2.1] at e1;exact Aj e1) e2
   cases hv with
   |old hv=>exact ⟨F,AE.refl F,hv.mono e,hcs',hwF,kp'⟩
   |tup T o vs kk cs ev hT ho hc hd hv ex=>
    have hT':s'.heap.get? T=none:=by
     cases q:s'.heap.get? T with
     |none=>rfl
     |some o'=>exact absurd (Heap.lt_size q) (Nat.not_lt.mpr hT)
    have hFT:F T=none:=(hcs.st.w'.dead hT').1
    have hX:¬XP acc Lc T:=by
     rintro (rfl|hx)
     ·refine xa1_1 hcs.ac.live ?_;intro o' h1;rw [hT'] at h1;exact Aj h1
     ·refine xa1_1 (hcs.fr.live _ hx) ?_;intro o' h1;rw [hT'] at h1;exact Aj h1
    subst ev
    rw [ex]
    refine ⟨_,Bb o hFT,.tup (Au _ _ _) hc hd ((hv.mono e).mono (Bb o hFT)),hcs'.add ho hFT (hcs.st.dead hT') hX,fun b hb=>?_,⟨(hcs'.add ho hFT (hcs.st.dead hT') hX).st.w',kp'.e.trans (Bb o hFT),kp'.kg,fun b o' q=>?_⟩⟩
    ·rw [AA]
     ·exact hwF b hb
     ·rintro rfl
      refine xa1_2 (W.inert i _ st b hb) ?_;intro o' h1 zu
      rw [hT'] at h1;exact Aj h1
    ·by_cases z:b=T
     ·subst z
      exact .inr (kp.dead hX hT')
     ·rw [AA _ _ z] at q;exact kp'.new b o' q
  clear hv kp hcs hw3
  refine xa1_5 key ?_;(try clear key);intro F₂ e₂ hv hcs hwF kp
  refine cps fun zP zk=>?_;(rcases turn a hxm with ⟨bl',ok,ha,hl,hk,ht,h1,h2⟩)<;>(refine zk ?_;clear zk zP)
  refine wpAny_bind (wpAny_mono (ha F₂ _ v hcs.st.w'.fz hcs.fr hv) (fun zu s₃ z=>?_) fun zu zu x=>x.elim)
  refine xa2_3 z ?_;(try clear z);intro h3 t3;rintro rfl;intro b3 k3
  have hcs3:=hcs.asg (t:=t3) b3 k3
  have wL:∀b∈wr,¬XL Lc b:=fun b hb q=>(hw b hb).2.2 (.inr q)
  have fpk:∀{F4:FH} {s4:Shared},AE F₂ F4→Wp C A hp F4 s4→(∀b∈wr,∀o,h'.get? b=some o→s4.heap.get? b=some o)→St (i+1) s4.heap:=fun {F4 s4} e4 w4 hwk=>W.frame _ _ _ st' fun b hb o ho=>by
   rcases W.frz b hb with q|⟨o',q⟩
   ·exact hwk b q o ho
   ·have q3:=hcs.st.w'.fz b o' (e₂ _ _ (e _ _ q))
    dsimp only at q3
    rw [ho] at q3;(have zc:=Option.some.inj q3;clear q3;subst zc)
    exact w4.fz _ _ (e4 _ _ (e₂ _ _ (e _ _ q)))
  have kp3:=kp.mod (h':=h3) (t:=t3) hcs3.st.w' fun b o o' hb zu e2=>k3 b o' (fun q=>hb (.inr q)) e2
  have wh:∀b∈wr,hp b=none:=fun b hb=>(hcs.st.w.dead (hw b hb).1).2
  refine wpAny_bind (ht.use (hcs3.ctx c cs hk) fun F₃ s₄ ok' st4 c4 r4=>?_)
  subst r4
  have hcs4:=hcs3.step st4
  have kp4:=kp3.step st4 hcs4.off
  have ind:∀b∈wr,∀o,h'.get? b=some o→∀es ep,o.data≠.dict es ep:=fun b hb o ho=>by
   refine xa1_2 (W.inert _ _ st' b hb) ?_;intro o' h1 h2
   rw [ho] at h1;(have zc:=Option.some.inj h1;clear h1;subst zc);exact h2.2
  have wr4:∀b∈wr,∀o,h'.get? b=some o→s₄.heap.get? b=some o:=fun b hb o ho=>st4.k (k3 b o (wL b hb) ho) (wh b hb) (ind b hb o ho)
  have hwF4:∀b∈wr,F₃ b=none:=fun b hb=>by
   refine xa1_2 (W.inert _ _ st' b hb) ?_;intro o ho zu
   exact st4.off (hwF b hb) (k3 b o (wL b hb) ho)
  have out:(ys++(l.take i).flatMap em)++em a=ys++(l.take (i+1)).flatMap em:=by
   rw [List.take_add_one,hx];simp
  cases ok with
  |false=>
   simp only [Bool.false_eq_true,if_false]
   have:ys++(l.take (i+1)).flatMap em=ys++(l.take i).flatMap em:=by rw [←out,h2 rfl,List.append_nil]
   exact wpAny_pure (.inl ⟨rfl,n - 1,by exact C0 [_,_] [(1,(Zs Z0),Z1)] Z0 Z1 rfl (Nat.le_of_eq (Nat.sub_add_cancel (A8 [_,_,_] [(1,Z1,(Za Z2 Z0)),(1,(Zs Z2),Z1)] (Zn 1) Z0 rfl (Nat.le_of_eq (Eq.symm hn)) hlt))),i+1,F₃,by rw [this];exact hcs4.weak hl,e.trans (e₂.trans st4.e),fpk st4.e hcs4.st.w' wr4,by rw [List.length_map];exact Nat.le_antisymm (A8 [_,_,_,_] [(1,(Za Z0 Z3),Z2),(1,(Zs Z1),Z3)] (Za (Zs Z0) Z1) Z2 rfl (Nat.le_of_eq hn) (Nat.le_of_eq (Nat.sub_add_cancel (A8 [_,_,_] [(1,Z1,(Za Z2 Z0)),(1,(Zs Z2),Z1)] (Zn 1) Z0 rfl (Nat.le_of_eq (Eq.symm hn)) hlt)))) (A8 [_,_,_,_] [(1,Z0,(Za Z1 Z3)),(1,Z3,(Zs Z2))] Z0 (Za (Zs Z1) Z2) rfl (Nat.le_of_eq (Eq.symm hn)) (Eh _ _)),hwF4,kp4⟩)
  |true=>
   simp only [if_true]
   refine wpAny_mono (h1 rfl F₃ s₄ _ _ _ hcs4 ?_ fun F₅ s₅ hcs5 kp5=>?_) (fun zu zu z=>z) fun zu zu x=>x.elim
   ·have e1:(ys++l.flatMap em)=((ys++(l.take i).flatMap em)++em a)++(l.drop (i+1)).flatMap em:=by
     rw [out,List.append_assoc,←List.flatMap_append,List.take_append_drop]
    have:=congrArg List.length e1
    simp only [List.length_append] at this hz ⊢
    exact A8 [_,_,_,_,_] [(1,(Za Z0 Z3),(Zn 100000)),(1,(Za (Za (Za Z0 Z1) Z2) Z4),(Za Z0 Z3))] (Za (Za Z0 Z1) Z2) (Zn 100000) rfl hz (Nat.le_of_eq (Eq.symm this))
   ·rw [out] at hcs5
    have wr5:∀b∈wr,∀o,h'.get? b=some o→s₅.heap.get? b=some o:=fun b hb o ho=>kp5.k (hw b hb).2.2 (wr4 b hb o ho) (wh b hb) (ind b hb o ho)
    exact wpAny_pure (.inl ⟨rfl,n - 1,by exact C0 [_,_] [(1,(Zs Z0),Z1)] Z0 Z1 rfl (Nat.le_of_eq (Nat.sub_add_cancel (A8 [_,_,_] [(1,Z1,(Za Z2 Z0)),(1,(Zs Z2),Z1)] (Zn 1) Z0 rfl (Nat.le_of_eq (Eq.symm hn)) hlt))),i+1,F₅,hcs5.weak hl,e.trans (e₂.trans (st4.e.trans kp5.e)),fpk (st4.e.trans kp5.e) hcs5.st.w' wr5,by rw [List.length_map];exact Nat.le_antisymm (A8 [_,_,_,_] [(1,(Za Z0 Z3),Z2),(1,(Zs Z1),Z3)] (Za (Zs Z0) Z1) Z2 rfl (Nat.le_of_eq hn) (Nat.le_of_eq (Nat.sub_add_cancel (A8 [_,_,_] [(1,Z1,(Za Z2 Z0)),(1,(Zs Z2),Z1)] (Zn 1) Z0 rfl (Nat.le_of_eq (Eq.symm hn)) hlt)))) (A8 [_,_,_,_] [(1,Z0,(Za Z1 Z3)),(1,Z3,(Zs Z2))] Z0 (Za (Zs Z1) Z2) rfl (Nat.le_of_eq (Eq.symm hn)) (Eh _ _)),fun b hb=>by
     refine xa1_2 (W.inert _ _ st' b hb) ?_;intro o ho zu
     exact kp5.off (hwF4 b hb) (wr4 b hb o ho),kp4.trans kp5 hcs5.off⟩)
end
end
end
section
section
variable {C:Cf} {A:Around} {hp:HP} {s s':Shared} {env:Env} {F F':FH} {E:Value→Shared→Prop}
theorem Gb {scope:Scope} {globals:Addr} {cl:List (Str×Addr)} {qual:Str} {M:Model} {Q:Env→Shared→Prop}
  (h:Q { scope,locals:=s.heap.objs.size,globals,cells:=cellsFrom (s.heap.objs.size+1) scope.names cl,qual,func:=none,code:=env.code,frame:=env.frame,builtins:=env.builtins } { s with heap:=pushCells (s.heap.push { cls:=.type "dict",data:=.dict #[] }) scope.names }) :
  wpAny M A (newFunctionEnv scope globals cl [] qual none .none (some env)) Q E s:=by
 simp only [newFunctionEnv,Option.isSome_some,if_true]
 refine wpAny_bind (wpAny_alloc ?_)
 refine wpAny_bind (wpAny_layCells _ (fun name kind cells=>by cases hkc:kind == NameKind.cell<;>simp [hkc]) _ _ _ _ ?_)
 rw [show ({ s with heap:=s.heap.push { cls:=.type "dict",data:=.dict #[] } }:Shared).heap.objs.size=s.heap.objs.size+1 from Heap.size_push ..]
 exact wpAny_bind (wpAny_pure (wpAny_pure h))
theorem Gl {elt:Expr} {gens:List Comprehension} {scope:Scope} {pos:Pos} {d:Nat} {target iter:Expr} {ifs:List Expr} {it:Addr} {acc:Value} {cenv:Env} {R:Result→Shared→Prop} (hg:gens[d]? = some ⟨target,iter,ifs,0⟩)
  (hself:∀(Q:Value→Shared→Prop) (E:Value→Shared→Prop),Q (.ref it) s→wpAny (model C.prog C.w) A (pyIter (.ref it)) Q E s)
  (h0:codeAny (model C.prog C.w) A (.compLoop (.ListComp elt gens scope pos) d (.ref it) acc cenv) R s):codeAny (model C.prog C.w) A (.compStart (.ListComp elt gens scope pos) d (.ref it) acc cenv) R s:=by
 refine codeAny_of_tree ?_
 show wpAny _ _ ((compStart (.ListComp elt gens scope pos) d (.ref it) acc cenv).onRaise (fun x=>do noteFrame x cenv;standAt theWindowsPlace)) _ _ s
 refine wpAny_notedAt ?_
 have hc:(clausesOf (.ListComp elt gens scope pos))[d]? = some ⟨target,iter,ifs,0⟩:=hg
 unfold compStart
 rw [hc]
 show wpAny _ _ (ask >>= _) _ _ s
 refine wpAny_bind (wpAny_askSetting (wpAny_ite ?_))
 split
 ·first
   |exact wpAny_bind (wpAny_pure (wpAny_pure (And.intro rfl h0)))
   |exact wpAny_pure (And.intro rfl h0)
 ·first
   |exact wpAny_bind (wpAny_rule (wpAny_bind (wpAny_standAt (wpAny_bind (hself _ _ (wpAny_pure (And.intro rfl h0)))))))
   |(refine wpAny_bind (wpAny_rule ?_);show wpAny _ _ (standAt iter.pos >>= _) _ _ s;exact wpAny_bind (wpAny_standAt (wpAny_bind (hself _ _ (wpAny_pure (And.intro rfl h0))))))
theorem CS.app {F₀:FH} {s₀:Shared} {acc:Addr} {Lc:LA} {bl:BL} {ys zs:List AV} (h:CS C A hp F₀ s₀ acc Lc bl ys F s) {h':Heap} {t:Nat} (a:D1 F h' acc zs) (k:∀b o,b≠acc→s.heap.get? b=some o→h'.get? b=some o):CS C A hp F₀ s₀ acc Lc bl zs F ⟨h',s.gens,s.drawn,t,s.os⟩:=
 ⟨h.st.mod (X:=(·=acc)) (fun b hb=>by subst hb;exact ⟨h.na,h.oa⟩) k,a,h.fr.keep (AE.refl F) fun a x o=>k _ o (fun q=>h.ne (by rw [←q];exact x)),h.oa,h.oL,h.na,h.nL,h.ne⟩
theorem Jm {scope:Scope} {loc:PL} {F₀:FH} {s₀:Shared} {acc:Addr} {Lc:LA} {bl:BL} {elt:Expr} {v:AV} (c:CY C A hp F₀ s₀ env loc) (cs:AT env scope) (hk:Pm env scope Lc bl)
  (h:PE C A hp (Az env scope Lc) (Jc scope loc bl) elt (v,false)):Nv C A hp F₀ s₀ acc Lc bl (JQ elt (.ref acc) (Az env scope Lc)) [v]:=by
 intro F s ys k R hcs hlen hgo
 refine wpAny_bind (wpAny_bind (h.use (hcs.ctx c cs hk) fun F₁ s₁ vv st c₁ r=>wpAny_bind ?_))
 have hcs₁:=hcs.step st
 refine xa2_2 hcs₁.ac ?_;intro ws n hl hv
 refine call_meets PySem.F.slot_list_append ⟨_,hl,rfl⟩ PySem.F.entry_list_append (PySem.F.args_list_append_2 _ _) (PySem.list_append acc ws.toArray n vv (by rw [List.size_toArray,hv.length,sizeLine_eq];simp at hlen;with_reducible exact Bj ‹_› (by decide))) ⟨hl,wpAny_pure ?_⟩
 have hl2:IsL s₁.heap acc ws.toArray n:=hl
 have hl':=hl2.update (fun x=>x.push vv)
 rw [List.push_toArray] at hl'
 have kk:=SameBut.rest (Heap.SameBut.update s₁.heap acc (Obj.mapSeq fun x=>x.push vv))
 have hcs2:=hcs₁.app (t:=s₁.toks) ⟨_,_,hl',hv.append (.cons r.out .nil)⟩ kk
 exact hgo F₁ _ hcs2 ((st.kept _).mod hcs2.st.w' fun b o o' hb zu e=>kk b o' (fun q=>hb (.inl q)) e)
theorem KA {elt:Expr} {gens gs:List Comprehension} {scope:Scope} {pos:Pos} {target iter:Expr} {ifs:List Expr} {rest:Addr→Env→Sem Fin→Sem Fin} (hgens:gens=⟨target,iter,ifs,0⟩::gs)
  (teq:∀it acc cenv,Jk (.ListComp elt gens scope pos) 0 (.ref it) (.ref acc) cenv target iter ifs (rest acc cenv)) (cs:AT env scope) {loc:PL} {α:Type} {l:List α} {g:α→AV} (hi:PI C A hp env loc target iter (l.map g)) (em:α→List AV) (c:CY C A hp F s env loc)
  (turn:∀acc L,∀a∈l,Oh C A hp env scope loc F s acc (L,md scope) target ifs (rest acc (Az env scope (L,md scope))) [] (g a) (em a)) (hz:(l.flatMap em).length≤100000) {use:Option (Value→Sem Unit)} {Q:Value→Shared→Prop}
  (hQ:∀F' s' acc Lc,CS C A hp F s acc Lc [] (l.flatMap em) F' s'→compPost (model C.prog C.w) A E use Q (.ref acc) Lc.1 (.ok .next) s')
  (hs:autoParam (∀x,foldedSetIterable iter env x=pure x) AC.aux4._auto_1) :
  wpAny (model C.prog C.w) A (comprehension (.ListComp elt gens scope pos) scope env (firstIterPos gens pos) (newList []) (firstAsync gens) (firstIter gens env) use) Q E s:=by
 subst hgens
 refine wpAny_comprehension_free (use:=use) (g:=⟨target,iter,ifs,0⟩) (gs:=gs) rfl hs (cs.closure fun x hx=>c.cells x hx) cs.kind (fun x hx hl=>?_) ?_
 ·have:=List.all_eq_true.mp cs.lo _ hx
  rw [hl] at this
  simpa using this
 show wpAny _ A (eval iter env) _ _ s
 refine wpAny_mono (hi F s E c) (fun v s₁ z=>wpAny_mono z (fun iv s₂ z=>?_) fun zu zu x=>x) fun zu zu x=>x
 refine cps fun zP zk=>?_;(rcases z with ⟨F₂,I,fp,wr,St,st,rfl,W,h0,hw⟩)<;>(refine zk ?_;clear zk zP)
 refine wpAny_newList ?_
 generalize hacc:s₂.heap.objs.size=acc
 have a0:s₂.heap.get? acc=none:=by rw [←hacc];exact CW _
 refine Gb ?_
 have hL0:(s₂.heap.push { cls:=.type "list",data:=.seq ([]:List Value).toArray }).objs.size=acc+1:=by rw [←hacc,Heap.size_push]
 generalize hh0:s₂.heap.push { cls:=.type "list",data:=.seq ([]:List Value).toArray }=h₀' at hL0 ⊢
 dsimp only
 have kh0:∀b o,s₂.heap.get? b=some o→h₀'.get? b=some o:=fun b o e=>by rw [←hh0];exact Heap.get?_push_of_some _ e
 have hacc':h₀'.get? acc=some { cls:=.type "list",data:=.seq ([]:List Value).toArray }:=by rw [←hh0,←hacc];exact Heap.get?_push_size _ rfl
 rw [hL0]
 generalize hh1:pushCells (h₀'.push { cls:=.type "dict",data:=.dict #[] }) scope.names=h₁
 have k₁:∀b o,h₀'.get? b=some o→h₁.get? b=some o:=fun b o e=>by rw [←hh1];exact pushCells_keeps _ _ _ _ (Heap.get?_push_of_some _ e)
 have k₂:∀b o,s₂.heap.get? b=some o→h₁.get? b=some o:=fun b o e=>k₁ b o (kh0 b o e)
 have dead:∀b,acc<b→s₂.heap.get? b=none:=fun b hb=>by
  cases q:s₂.heap.get? b with
  |none=>rfl
  |some o=>have:=Heap.lt_size q;rw [hacc] at this;exact absurd this (Nat.not_lt.mpr (Nat.le_of_lt hb))
 have dX:∀b,XL (acc+1,md scope) b→acc<b:=fun b hb=>by
  rcases hb with rfl|⟨_,rfl⟩
  ·exact Nat.lt_succ_self _
  ·exact Nat.lt_succ_of_lt (Nat.lt_succ_self _)
 have hns:h₁.Ns (acc+1) (fun _=>none):=by
  rw [←hh1,←hL0]
  exact (Heap.Ns.new h₀' (.type "dict")).keeps (pushCells_keeps _ _)
 have hcl:md scope=true→h₁.IsCell (acc+1+1) none:=fun hm=>by
  refine xa1_2 (List.any_eq_true.mp hm) ?_;intro zq;refine cps fun zP zk=>?_;(rcases zq with ⟨y,kd⟩)<;>(refine zk ?_;clear zk zP);intro hy hk
  have hk:kd=.cell:=by simpa using hk
  subst hk
  have ok:=cellsFrom_ok scope.names (h₀'.push { cls:=.type "dict",data:=.dict #[] }) (acc+1) [] ⟨fun _ _ hm=>(nomatch hm),List.Pairwise.nil⟩ (by rw [Heap.size_push,hL0];exact Nat.le_succ _)
  rw [Heap.size_push,hL0] at ok
  rw [←hh1]
  exact (ok.empty y (acc+1+1) (by rw [cs.one hy];simp)).1
 generalize hs4:(⟨h₁,s₂.gens,s₂.drawn,s₂.toks,s₂.os⟩:Shared)=s₄
 have st4:BC C A hp F₂ s₂ F₂ s₄:=hs4▸BC.keep (t:=s₂.toks) st.w' k₂
 have hcs:CS C A hp F s acc (acc+1,md scope) [] [] F₂ s₄:=by
  refine ⟨st.trans st4,⟨[],0,?_,.nil⟩,⟨_,none,by rw [←hs4];exact hns,fun q=>by rw [←hs4];exact hcl q,fun x a e=>by exact Aj e⟩,(st.w'.dead a0).1,fun b hb=>(st.w'.dead (dead b (dX b hb))).1,st.dead a0,fun b hb=>st.dead (dead b (dX b hb)),fun q=>absurd (dX _ q) (Nat.lt_irrefl _)⟩
  rw [←hs4]
  exact k₁ _ _ hacc'
 have hw':∀b∈wr,s.heap.get? b=none∧s.heap.get? b=none∧¬XP acc (acc+1,md scope) b:=fun b hb=>⟨(hw b hb).1,(hw b hb).1,by
  refine xa1_2 (W.inert _ _ h0 b hb) ?_;intro o ho zu
  rintro (rfl|hx)
  ·rw [a0] at ho;exact Aj ho
  ·rw [dead b (dX b hx)] at ho;exact Aj ho⟩
 have st0:St 0 s₄.heap:=W.frame _ _ _ h0 fun b zu o e=>by rw [←hs4];exact k₂ b o e
 show codeAny _ A (.compStart _ 0 (.ref I) (.ref acc) (Az env scope (acc+1,md scope))) _ _
 refine Gl (d:=0) (target:=target) (iter:=iter) (ifs:=ifs) rfl (fun Q E q=>W.self 0 s₄ Q E st0 q) ?_
 refine Ja (teq _ _ _) W c cs em (turn acc (acc+1)) (ys:=[]) (by simpa using hz) hw' ⟨0,F₂,by simpa using hcs,AE.refl F₂,st0,by simp,fun b hb=>(hw b hb).2,(st.trans st4).kept _⟩ fun F' s' h' kp=>hQ F' s' acc (acc+1,md scope) (by simpa using h')
theorem LV {F₀:FH} {s₀:Shared} {acc:Addr} {Lc:LA} {bl:BL} {ys:List AV} (h:CS C A hp F₀ s₀ acc Lc bl ys F s):compPost (model C.prog C.w) A E none (CB C A hp F₀ s₀ fun F' v=>Cs hp F' (.lst ys,false) v) (.ref acc) Lc.1 (.ok .next) s:=by
 refine xa2_2 h.fr ?_;intro m c hm zu
 refine ⟨m,hm,fun h' hs'=>?_⟩
 have k:=SameBut.rest hs'
 refine xa2_2 h.ac ?_;intro vs n hl hv
 have ha:=k _ _ (fun q=>h.ne (.inl q)) hl
 have st:=(h.st.mod (X:=(·=Lc.1)) (fun b hb=>by subst hb;exact ⟨h.nL _ (.inl rfl),h.oL _ (.inl rfl)⟩) k (t:=s.toks)).add ha h.oa h.na
 exact ⟨_,st,.val (.lst (Au _ _ _) rfl rfl (hv.mono (Bb _ h.oa)))⟩
noncomputable def KW (C:Cf) (A:Around) (hp:HP) (env:Env) (loc:PL) (elt:Expr) (gens:List Comprehension) (scope:Scope) (pos:Pos) (res:List AV):Prop:=
 ∀F s (E:Value→Shared→Prop) (use:Option (Value→Sem Unit)) (Q:Value→Shared→Prop),CY C A hp F s env loc→(∀F' s' acc Lc,CS C A hp F s acc Lc [] res F' s'→compPost (model C.prog C.w) A E use Q (.ref acc) Lc.1 (.ok .next) s') →
  wpAny (model C.prog C.w) A (comprehension (.ListComp elt gens scope pos) scope env (firstIterPos gens pos) (newList []) (firstAsync gens) (firstIter gens env) use) Q E s
theorem OK {loc:PL} {elt:Expr} {gens:List Comprehension} {scope:Scope} {pos:Pos} {res:List AV} (h:KW C A hp env loc elt gens scope pos res):PE C A hp env loc (.ListComp elt gens scope pos) (.lst res,false):=.mk fun F s E c=>by
 rw [eval_ListComp]
 exact h F s E none _ c fun F' s' acc Lc h=>LV h
theorem ON {elt target iter:Expr} {ifs:List Expr} {scope:Scope} {pos:Pos} {loc:PL} {α:Type} {l:List α} {g:α→AV} (cs:AT env scope) (hi:PI C A hp env loc target iter (l.map g)) (em:α→List AV)
  (turn:∀F s acc L,CY C A hp F s env loc→∀a∈l,Oh C A hp env scope loc F s acc (L,md scope) target ifs (JQ elt (.ref acc) (Az env scope (L,md scope))) [] (g a) (em a)) (hz:(l.flatMap em).length≤100000)
  (hs:autoParam (∀x,foldedSetIterable iter env x=pure x) AC.aux4._auto_1):KW C A hp env loc elt [⟨target,iter,ifs,0⟩] scope pos (l.flatMap em):=by
 intro F s E use Q c hQ
 exact KA (gs:=[]) (rest:=fun acc cenv=>JQ elt (.ref acc) cenv) rfl (fun it acc cenv=>turn1 ..) cs hi em c (fun acc L=>turn F s acc L c) hz hQ hs
end
end
section
section
variable {C:Cf} {A:Around} {hp:HP} {s s':Shared} {env:Env} {F F':FH} {E:Value→Shared→Prop} {loc:PL}
theorem E8 {x:Str} {px pos:Pos} {args:List Expr} {f:Value} {pvs:List PV} {Q:Value→Shared→Prop} (hg:GL C x f) (hf:∀h':Heap,(∀b o,C.h0.get? b=some o→h'.get? b=some o)→Dv C h' f) (hv:KQ C A hp env loc args pvs) (c:CY C A hp F s env loc)
  (k:∀F₁ s₁ us,BC C A hp F s F₁ s₁→CY C A hp F₁ s₁ env loc→DK hp F₁ pvs us→wpAny (model C.prog C.w) A (PySem.call f us) Q E s₁) (hk:autoParam (env.kindOf x=some .globalImplicit) AC.aux0._auto_1)
  (he:autoParam (eval (.Call (.Name x px) args [] pos) env=(do callWith pos (←eval (.Name x px) env) [] (BP env args) [])) AC.aux0._auto_1) (hd:autoParam ((x == ("__debug__" : Str))=false) AC.aux1._auto_1):wpAny (model C.prog C.w) A (eval (.Call (.Name x px) args [] pos) env) Q E s:=by
 rw [he]
 refine wpAny_bind (wpAny_Name ?_ hd)
 rw [D8 c.kind hk]
 refine hg env c.glob.1 c.glob.2 A _ E s c.wp.old (BH (Bp (E9 env args) rfl (hv.pes.use c fun F₁ s₁ us st c₁ r=>?_)))
 exact wpAny_pure ⟨hf _ c₁.wp.old,k F₁ s₁ us st c₁ r⟩
noncomputable def PK (C:Cf) (A:Around) (hp:HP) (f:Value) (pvs:List PV) (pv:PV):Prop:=
 ∀F s (E:Value→Shared→Prop) us,Wp C A hp F s→DK hp F pvs us→wpAny (model C.prog C.w) A (PySem.call f us) (CB C A hp F s fun F' v=>Cs hp F' pv v) E s
theorem Cn {x:Str} {px pos:Pos} {args:List Expr} {f:Value} {pvs:List PV} {pv:PV} (hg:GL C x f) (hv:KQ C A hp env loc args pvs) (h:PK C A hp f pvs pv) (hf:autoParam (∀h':Heap,(∀b o,C.h0.get? b=some o→h'.get? b=some o)→Dv C h' f) AC.aux6._auto_1) (hk:autoParam (env.kindOf x=some .globalImplicit) AC.aux0._auto_1)
  (he:autoParam (eval (.Call (.Name x px) args [] pos) env=(do callWith pos (←eval (.Name x px) env) [] (BP env args) [])) AC.aux0._auto_1) (hd:autoParam ((x == ("__debug__" : Str))=false) AC.aux1._auto_1):PE C A hp env loc (.Call (.Name x px) args [] pos) pv:=.mk fun F s E c=>
 E8 hg hf hv c (fun F₁ s₁ us st c₁ r=>wpAny_mono (h F₁ s₁ E us c₁.wp r) (fun zu zu q=>q.pre st) fun zu zu x=>x) hk he hd
theorem Cs.lstI {xs:List AV} {b:Bool} {v:Value} (r:Cs hp F (.lst xs,b) v) (w:Wp C A hp F s):∃a o vs n,v=.ref a∧s.heap.get? a=some o∧o.cls=.type "list"∧o.data=.seq vs.toArray n∧VRs F xs vs∧(b=false→F a=some o):=by
 cases r with
 |val r=>
  refine xa4_5 r.lstInv ?_;intro a o vs n;rintro rfl;intro h1 h2 h3 h4
  exact ⟨a,o,vs,n,rfl,w.fz _ _ h1,h2,h3,h4,fun zu=>h1⟩
 |own h1=>
  refine cps fun zP zk=>?_;(rcases w.ob _ _ h1 with ⟨zu,o,h2,r⟩)<;>(refine zk ?_;clear zk zP)
  (refine OR.listC r fun zv zv q1 q2 q3 q4 q5=>?_;clear r)
  exact ⟨_,o,_,_,rfl,h2,q1,q4,q5,fun q=>nomatch q⟩
theorem Cs.tupI {xs:List AV} {v:Value} (r:Cs hp F (.tup xs,false) v) (w:Wp C A hp F s):∃a o vs n,v=.ref a∧s.heap.get? a=some o∧o.cls=.type "tuple"∧o.data=.seq vs.toArray n∧VRs F xs vs∧F a=some o:=by
 refine xa4_5 r.out.tupInv ?_;intro a o vs n;rintro rfl;intro h1 h2 h3 h4
 exact ⟨a,o,vs,n,rfl,w.fz _ _ h1,h2,h3,h4,h1⟩
theorem HD.one {target:Expr} {xs:List AV} {fp:List Addr} {n:Nat} {P:Nat→Value→Prop} {St:Nat→Heap→Prop} {c:String} (w:Wp C A hp F s) (W:Walks C.prog C.w A s.heap.objs.size fp [s.heap.objs.size] n P St) (hn:xs.length=n) (hv:∀i x v,xs[i]? = some x→P i v→VR F x v) (hc:Ep.contains c=false)
  (cls:∀i h,St i h→∃o vs,h.get? s.heap.objs.size=some o∧o.cls=.type c∧o.data=.fields vs) {o:Obj} {t:Nat} (hf:o.isFreed=false) (h0:St 0 (s.heap.push o)) (hfp:∀b∈fp,b=s.heap.objs.size∨∃o,F b=some o) :
  HD C A hp F s target xs (.ref s.heap.objs.size) ⟨s.heap.push o,s.gens,s.drawn,t,s.os⟩:=by
 refine ⟨F,_,fp,_,St,.keep w fun b ob e=>Heap.get?_push_of_some _ e,rfl,Wk.ofWalks W hn hv (fun b hb=>?_) (fun i h st b hb=>?_) c hc (fun i h st=>let ⟨o,vs,h1,h2,_⟩:=cls i h st;⟨o,h1,h2⟩),h0,fun b hb=>?_⟩
 ·rcases hfp b hb with rfl|h1
  ·exact .inl (List.mem_singleton_self _)
  ·exact .inr h1
 ·refine xa2_3 (cls i h st) ?_;intro o vs h1 zu h3
  rw [List.mem_singleton.mp hb]
  exact ⟨o,h1,A9 h3⟩
 ·rw [List.mem_singleton.mp hb]
  exact ⟨CW _,(w.dead (CW _)).1⟩
inductive Jl:PV→List AV→Prop
 |lst {xs b}:Jl (.lst xs,b) xs
 |tup {xs}:Jl (.tup xs,false) xs
 |str {x}:Jl (.str x,false) (Gm x)
inductive OI (F:FH) (h:Heap) (xs:List AV) (q:Bool) (v:Value):Prop
 |lst (a:Addr) (o:Obj) (vs:List Value) (n:Nat) (e:v=.ref a) (h1:h.get? a=some o) (h2:o.cls=.type "list") (h3:o.data=.seq vs.toArray n) (h4:VRs F xs vs) (hq:q=false→F a=some o)
 |tup (a:Addr) (o:Obj) (vs:List Value) (n:Nat) (e:v=.ref a) (h1:h.get? a=some o) (h2:o.cls=.type "tuple") (h3:o.data=.seq vs.toArray n) (h4:VRs F xs vs) (hq:q=false→F a=some o)
 |str (x:Str) (t:Tok) (e:v=.str x t) (ex:xs=Gm x)
theorem Jl.at {pv:PV} {xs:List AV} {v:Value} (hs:Jl pv xs) (r:Cs hp F pv v) (w:Wp C A hp F s):OI F s.heap xs pv.2 v:=by
 cases hs with
 |lst=>
  refine xa4_6 (r.lstI w) ?_;intro a o vs n;rintro rfl;intro h1 h2 h3 h4 h5
  exact .lst a o vs n rfl h1 h2 h3 h4 h5
 |tup=>
  refine xa4_6 (r.tupI w) ?_;intro a o vs n;rintro rfl;intro h1 h2 h3 h4 h5
  exact .tup a o vs n rfl h1 h2 h3 h4 fun zu=>h5
 |str=>
  refine xa1_1 r.out.strI ?_;intro t;rintro rfl
  exact .str _ t rfl rfl
theorem HD.pre {target:Expr} {xs:List AV} {F₁:FH} {s₁:Shared} {iv:Value} (st:BC C A hp F s F₁ s₁) (z:HD C A hp F₁ s₁ target xs iv s'):HD C A hp F s target xs iv s':=by
 refine cps fun zP zk=>?_;(rcases z with ⟨F',I,fp,wr,St,st',e,W,h0,hw⟩)<;>(refine zk ?_;clear zk zP)
 exact ⟨F',I,fp,wr,St,st.trans st',e,W,h0,fun b hb=>⟨st.dead (hw b hb).1,(hw b hb).2⟩⟩
theorem Dt {target iter:Expr} {pv:PV} {xs:List AV} (hA:A.handled=none) (h:PE C A hp env loc iter pv) (hs:Jl pv xs) (hb:autoParam (pv.2=false) AC.aux0._auto_1):PI C A hp env loc target iter xs:=fun F s E c=>by
 refine h.use c fun F₁ s₁ v st₁ c₁ r=>?_
 have ntop:∀{a o},s₁.heap.get? a=some o→a≠s₁.heap.objs.size:=fun e=>Nat.ne_of_lt (Heap.lt_size e)
 cases hs.at r c₁.wp with
 |lst a o vs n e h1 h2 h3 h4 hq=>
  subst e
  refine wpAny_pyIter_list ⟨o,h1,h2,n,h3⟩ ((HD.one c₁.wp (Walks.list hA s₁.heap.objs.size a (ntop h1) vs.toArray) (by rw [List.size_toArray,h4.length]) h4.arr (c:="list_iterator") (by decide) (fun i h st=>?_) rfl ⟨⟨_,Heap.get?_push_size _ rfl,rfl,rfl⟩,⟨o,Heap.get?_push_of_some _ h1,h2,n,h3⟩⟩ fun b hb'=>?_).pre st₁)
  ·refine xa0_2 st ?_;(try clear st);intro zq;refine xa1_3 zq ?_;(try clear zq);intro o q1 q2 q3;intro zu;exact ⟨o,_,q1,q2,q3⟩
  ·rcases List.mem_cons.mp hb' with rfl|hb'
   ·exact .inl rfl
   ·rw [List.mem_singleton.mp hb'];exact .inr ⟨_,hq hb⟩
 |tup a o vs n e h1 h2 h3 h4 hq=>
  subst e
  refine wpAny_pyIter_tuple ⟨o,h1,h2,n,h3⟩ ((HD.one c₁.wp (Walks.tuple hA s₁.heap.objs.size a (ntop h1) vs.toArray) (by rw [List.size_toArray,h4.length]) h4.arr (c:="tuple_iterator") (by decide) (fun i h st=>?_) rfl ⟨⟨_,Heap.get?_push_size _ rfl,rfl,rfl⟩,⟨o,Heap.get?_push_of_some _ h1,h2,n,h3⟩⟩ fun b hb'=>?_).pre st₁)
  ·refine xa0_2 st ?_;(try clear st);intro zq;refine xa1_3 zq ?_;(try clear zq);intro o q1 q2 q3;intro zu;exact ⟨o,_,q1,q2,q3⟩
  ·rcases List.mem_cons.mp hb' with rfl|hb'
   ·exact .inl rfl
   ·rw [List.mem_singleton.mp hb'];exact .inr ⟨_,hq hb⟩
 |str x t e ex=>
  subst e ex
  refine wpAny_pyIter_strU ?_
  have key:∀c,strIterType x=c→Ep.contains c=false→Walks C.prog C.w A s₁.heap.objs.size [s₁.heap.objs.size] [s₁.heap.objs.size] x.cps.size (SignAt x) (fun i h=>h.IsStrIter s₁.heap.objs.size c x t i) →
    HD C A hp F₁ s₁ target (Gm x) (.ref s₁.heap.objs.size) ⟨s₁.heap.push { cls:=.type (strIterType x),data:=.fields #[.str x t,.int 0 0] },s₁.gens,s₁.drawn,s₁.toks,s₁.os⟩:=fun c hc hn W=>by
   refine HD.one c₁.wp W (GT x) (fun i y v hy hP=>?_) hn (fun i h st=>?_) rfl ⟨_,Heap.get?_push_size _ rfl,by rw [hc],rfl⟩ fun b hb=>.inl (List.mem_singleton.mp hb)
   ·refine xa1_2 (GU hy) ?_;intro c hc;rintro rfl
    refine xa2_2 hP ?_;(try clear hP);intro c' u hc';rintro rfl
    rw [hc] at hc';(have zc:=Option.some.inj hc';clear hc';subst zc)
    exact .str _ _
   ·refine xa1_3 st ?_;(try clear st);intro o q1 q2 q3;exact ⟨o,_,q1,q2,q3⟩
  rcases EY x with e|e
  ·exact (key _ e (by decide) (Walks.strAscii hA _ x t)).pre st₁
  ·exact (key _ e (by decide) (Walks.strWide hA _ x t)).pre st₁
end
end
section
section
variable {C:Cf} {A:Around} {hp:HP} {s s':Shared} {env:Env} {F F':FH} {E:Value→Shared→Prop} {loc:PL}
noncomputable def C6 (a c:Int) (n:Nat):List AV:=(List.range n).map fun (i:Nat)=>.int (a+(i:Int)*c)
theorem IH {a c:Int} {n i:Nat} {y:AV} (h:(C6 a c n)[i]? = some y):i<n∧y=.int (a+i*c):=by
 unfold C6 at h
 rw [List.getElem?_map,Option.map_eq_some_iff] at h
 refine xa1_2 h ?_;(try clear h);intro j h1 h2
 refine xa1_1 (List.getElem?_eq_some_iff.mp h1) ?_;intro h3 h4
 simp at h3 h4
 subst h4;exact ⟨h3,h2.symm⟩
theorem Gg {target:Expr} {r:Addr} {a b c:Int} {t u v:Tok} {n:Nat} (hA:A.handled=none) (w:Wp C A hp F s) (hr:s.heap.get? r=some { cls:=.type "range",data:=.fields #[.int a t,.int b u,.int c v] }) (hsm:Builtin.Range.small a b c=true) (hn:Builtin.Range.rangeSize a b c=n) :
  wpAny (model C.prog C.w) A (pyIter (.ref r)) (HD C A hp F s target (C6 a c n)) E s:=by
 refine wpAny_pyIter_range (t:=t) (u:=u) (v:=v) hr hsm ?_
 rw [hn]
 refine HD.one w (Walks.range hA s.heap.objs.size a c n) (by simp [C6]) (fun i x v hx hP=>?_) (c:="range_iterator") (by decide) (fun i h st=>⟨_,_,st,rfl,rfl⟩) rfl ?_ fun b hb=>.inl (List.mem_singleton.mp hb)
 ·refine xa0_2 (IH hx) ?_;intro zu;rintro rfl
  refine xa1_1 hP ?_;(try clear hP);intro t;rintro rfl
  exact .int _ _
 ·have e1:a+((0:Nat):Int)*c=a:=by simp
  have e2:(n:Int) - ((0:Nat):Int)=n:=by simp
  show IsRangeIter _ _ _ _ _
  rw [e1,e2]
  exact Heap.get?_push_size _ rfl
theorem DK.inv {x:PV} {xs:List PV} {vs:List Value} (r:DK hp F (x::xs) vs):∃v us,vs=v::us∧Cs hp F x v∧DK hp F xs us:=by
 cases r with
 |cons a b=>exact ⟨_,_,rfl,a,b⟩
theorem DK.nilI {vs:List Value} (r:DK hp F [] vs):vs=[]:=by cases (r);rfl
theorem KP {target:Expr} {x:Str} {px pos:Pos} {args:List Expr} {b:Int} {n:Nat} (hA:A.handled=none) (hg:GL C x (.type "range")) (hv:KQ C A hp env loc args [(.int b,false)]) (hsm:Builtin.Range.small 0 b 1=true) (hn:Builtin.Range.rangeSize 0 b 1=n) (hk:autoParam (env.kindOf x=some .globalImplicit) AC.aux0._auto_1)
  (he:autoParam (eval (.Call (.Name x px) args [] pos) env=(do callWith pos (←eval (.Name x px) env) [] (BP env args) [])) AC.aux0._auto_1) (hd:autoParam ((x == ("__debug__" : Str))=false) AC.aux1._auto_1):PI C A hp env loc target (.Call (.Name x px) args [] pos) (C6 0 1 n):=fun F s E c=>
 E8 hg (fun zu zu=>KeepOk_plain (by intro a;simp)) hv c (fun F₁ s₁ us st c₁ r=>by
  refine xa2_3 r.inv ?_;intro v us;rintro rfl;intro r1 r
  obtain rfl:=r.nilI
  refine xa1_1 r1.out.intI ?_;intro t;rintro rfl
  refine call_range_1 (wpAny_mono (Gg (F:=F₁) hA (BC.keep c₁.wp fun zu zu e=>Heap.get?_push_of_some _ e).w' (Heap.get?_push_size _ rfl) hsm hn) (fun zu zu q=>(q.pre (.keep c₁.wp fun zu zu e=>Heap.get?_push_of_some _ e)).pre st) fun zu zu x=>x)) hk he hd
theorem KO {target:Expr} {x:Str} {px pos:Pos} {args:List Expr} {a b:Int} {n:Nat} (hA:A.handled=none) (hg:GL C x (.type "range")) (hv:KQ C A hp env loc args [(.int a,false),(.int b,false)]) (hsm:Builtin.Range.small a b 1=true) (hn:Builtin.Range.rangeSize a b 1=n) (hk:autoParam (env.kindOf x=some .globalImplicit) AC.aux0._auto_1)
  (he:autoParam (eval (.Call (.Name x px) args [] pos) env=(do callWith pos (←eval (.Name x px) env) [] (BP env args) [])) AC.aux0._auto_1) (hd:autoParam ((x == ("__debug__" : Str))=false) AC.aux1._auto_1):PI C A hp env loc target (.Call (.Name x px) args [] pos) (C6 a 1 n):=fun F s E c=>
 E8 hg (fun zu zu=>KeepOk_plain (by intro a;simp)) hv c (fun F₁ s₁ us st c₁ r=>by
  refine xa2_3 r.inv ?_;intro v us;rintro rfl;intro r1 r
  refine xa2_3 r.inv ?_;intro v2 us;rintro rfl;intro r2 r
  obtain rfl:=r.nilI
  refine xa1_1 r1.out.intI ?_;intro t;rintro rfl
  refine xa1_1 r2.out.intI ?_;intro t2;rintro rfl
  refine call_range_2 (wpAny_mono (Gg (F:=F₁) hA (BC.keep c₁.wp fun zu zu e=>Heap.get?_push_of_some _ e).w' (Heap.get?_push_size _ rfl) hsm hn) (fun zu zu q=>(q.pre (.keep c₁.wp fun zu zu e=>Heap.get?_push_of_some _ e)).pre st) fun zu zu x=>x)) hk he hd
end
end
section
section
variable {prog:Program} {w:World} {A:Around} {E:Value→Shared→Prop} {s:Shared}
theorem Ey {it l:Addr} {i:Nat} {items} {x:Value} {Q:Value→Shared→Prop} (hit:s.heap.IsTupleIter it l i)
  (hl:s.heap.IsTuple l items) (hx:items[i]? = some x)
  (hQ:∀h',h'.IsTupleIter it l (i+1)→Heap.SameBut it s.heap h'→Q x { s with heap:=h' }) :
  wpAny (model prog w) A (Builtin.SmallTypes.nextOf (.ref it)) Q E s:=by
 refine xa1_3 (id hit) ?_;intro o ho hc hd
 refine cps fun zP zk=>?_;(rcases hl with ⟨ol,hol,zu,nl,hdl⟩)<;>(refine zk ?_;clear zk zP)
 unfold Builtin.SmallTypes.nextOf
 refine wpAny_bind (wpAny_callSpecial?_slot (name:=Str.ofString "__next__") hit.typeIs F.slot_tuple_iterator_next
  (wpAny_call_entry F.slot_tuple_iterator_next hit.typeIs F.entry_tuple_iterator_next ?_ (F.args_tuple_iterator_next_1 _)))
 show wpAny _ _ (field (.ref it) 0 >>= _) _ _ s
 refine wpAny_bind (wpAny_field ho hd (x:=.ref l) rfl ?_)
 show wpAny _ _ (if (Value.ref l == Value.none)=true then _ else _) _ _ s
 rw [if_neg (show ¬((Value.ref l == Value.none)=true) from Bool.false_ne_true)]
 show wpAny _ _ (field (.ref it) 1 >>= _) _ _ s
 refine wpAny_bind (wpAny_field ho hd (x:=.int i 0) rfl ?_)
 show wpAny _ _ (seqItems? (.ref l) >>= _) _ _ s
 refine wpAny_bind (wpAny_seqItems hol hdl ?_)
 simp only [Int.toNat_natCast,hx]
 refine wpAny_bind (wpAny_setField ho hd (by simp) (wpAny_pure ⟨x,rfl,wpAny_pure (hQ _ ?_ (Heap.SameBut.update ..))⟩))
 exact ⟨_,Heap.get?_update_self _ ho (Obj.isFreed_of_fields (Obj.data_mapFields hd _)),(Obj.cls_mapFields ..).trans hc,by
  rw [Obj.data_mapFields hd];simp [rawInt]⟩
theorem CC {M:Model} {A:Around} {E:Value→Shared→Prop} {s:Shared} {Q:Value→Shared→Prop} (h:∀(h':Heap) (e:Addr),(∀b o,s.heap.get? b=some o→h'.get? b=some o)→s.heap.get? e=none →
  (∃oe vs,h'.get? e=some oe∧oe.cls=.type "StopIteration"∧oe.data=.fields vs∧vs[1]? = some .none)→Q (.ref e) { s with heap:=h' }):wpAny M A (newExc (.type "StopIteration") []) Q E s:=by
 unfold newExc newTuple
 refine wpAny_bind (wpAny_newObj_type ?_ (by size_fits))
 refine wpAny_bind (m:=firstArgMember _ _) (wpAny_of_eq (a:=Value.none) (by first|rfl|(simp only [firstArgMember];rfl)) ?_)
 refine wpAny_newObj_type (h _ _ (fun b o hb=>Heap.get?_push_of_some _ (Heap.get?_push_of_some _ hb)) (Heap.get?_none_of_le ?_) ⟨_,_,Heap.get?_push_size _ rfl,rfl,rfl,rfl⟩) (by size_fits)
 rw [Heap.size_push];exact Nat.le_succ _
theorem EL {it l:Addr} {i:Nat} {items} {Q:Value→Shared→Prop} (hh:A.handled=none)
  (hit:s.heap.IsTupleIter it l i) (hl:s.heap.IsTuple l items) (hx:items[i]? = none)
  (hE:∀h' e,Heap.ExtBut it s.heap h'→(∃o,h'.get? e=some o∧o.cls=.type "StopIteration")→E (.ref e) { s with heap:=h' }) :
  wpAny (model prog w) A (Builtin.SmallTypes.nextOf (.ref it)) Q E s:=by
 refine xa1_3 (id hit) ?_;intro o ho hc hd
 refine cps fun zP zk=>?_;(rcases hl with ⟨ol,hol,zu,nl,hdl⟩)<;>(refine zk ?_;clear zk zP)
 unfold Builtin.SmallTypes.nextOf
 refine wpAny_bind (wpAny_callSpecial?_slot (name:=Str.ofString "__next__") hit.typeIs F.slot_tuple_iterator_next
  (wpAny_call_entry F.slot_tuple_iterator_next hit.typeIs F.entry_tuple_iterator_next ?_ (F.args_tuple_iterator_next_1 _)))
 show wpAny _ _ (field (.ref it) 0 >>= _) _ _ s
 refine wpAny_bind (wpAny_field ho hd (x:=.ref l) rfl ?_)
 show wpAny _ _ (if (Value.ref l == Value.none)=true then _ else _) _ _ s
 rw [if_neg (show ¬((Value.ref l == Value.none)=true) from Bool.false_ne_true)]
 show wpAny _ _ (field (.ref it) 1 >>= _) _ _ s
 refine wpAny_bind (wpAny_field ho hd (x:=.int i 0) rfl ?_)
 show wpAny _ _ (seqItems? (.ref l) >>= _) _ _ s
 refine wpAny_bind (wpAny_seqItems hol hdl ?_)
 simp only [Int.toNat_natCast,hx]
 refine wpAny_bind (wpAny_rule (wpAny_bind (wpAny_setField ho hd (by simp) ?_)))
 show wpAny _ _ (newExc (.type "StopIteration") [] >>= _) _ _ _
 refine wpAny_bind (CC fun h' e k _ ⟨oe,vs,q,c,_⟩=>wpAny_raiseNew_none hh (hE _ _ (fun b o hb g=>k b o ((Heap.SameBut.update ..).extBut b o hb g)) ⟨oe,q,c⟩))
theorem It (hh:A.handled=none) (it l:Addr) (hne:l≠it) (items:Array Value) :
  Draws prog w A it [it,l] items.size (fun i v=>items[i]? = some v) (fun i h=>h.IsTupleIter it l i∧h.IsTuple l items) where
 live:=fun zu zu st=>let ⟨o,ho,_⟩:=st.1;⟨o,ho⟩
 frame:=fun zu zu zu st hk=>⟨let ⟨o,ho,r⟩:=st.1;⟨o,hk it (by simp) o ho,r⟩,let ⟨o,ho,r⟩:=st.2;⟨o,hk l (by simp) o ho,r⟩⟩
 item:=fun i s Q E hi st hQ=>by
  refine Ey st.1 st.2 (x:=items[i]) (by simp [hi]) fun h' hit' hs'=>?_
  exact hQ _ h' s.toks (by simp [hi]) ⟨hit',st.2.extBut hs'.extBut hne⟩ hs'
 done:=fun s Q E st hE=>EL hh st.1 st.2 (by simp) hE
theorem Nk {M:Model} {A:Around} {Q:Bool→Shared→Prop} {E:Value→Shared→Prop} {s:Shared} {b:Bool} (h:∀b,Q b s):wpAny M A (pure b) Q E s:=wpAny_pure (h b)
theorem Ia (l:Addr) (items:Array Value) (n:Nat) (c:Value) (dct:Option Addr) (sl:Array (Option Value)) (hc:c=.type "tuple") :
  Meets (Builtin.«enumerate.__new__» ⟨[.type "enumerate",.ref l],[]⟩) (fun zu R s=>s.heap.get? l=some { cls:=c,dict:=dct,data:=.seq items n,slots:=sl } ∧
   R (.ok (.ret (.ref (s.heap.push { cls:=.type "tuple_iterator",data:=.fields #[.ref l,.int 0 0] }).objs.size)))
    { s with heap:=(s.heap.push { cls:=.type "tuple_iterator",data:=.fields #[.ref l,.int 0 0] }).push { cls:=.type "enumerate",data:=.fields #[.none,.bool false,.ref s.heap.objs.size,rawInt 0,.none,.none] } }):=
 .of_wp fun prog w A R s h=>by
  subst hc
  refine cps fun zP zk=>?_;(rcases s with ⟨hp,g,d,tk,os⟩)<;>(refine zk ?_;clear zk zP);refine xa0_2 h ?_;(try clear h);intro hl h
  have hsub:=sub_enumerate
  have hL:Heap.IsTuple (Shared.heap ⟨hp,g,d,tk,os⟩) l items:=⟨_,hl,rfl,n,rfl⟩
  wp_walk using AutoSeq1.wpAny_loadPart' hl
  refine wpAny_stack_any fun st=>Nk fun b=>?_
  cases b
  ·wp_walk using AutoSeq1.wpAny_loadPart' hl,wpAny_pyIter_tuple hL
   exact ⟨_,rfl,h⟩
  ·wp_walk using AutoSeq1.wpAny_loadPart' hl,wpAny_pyIter_tuple hL
   exact ⟨_,rfl,h⟩
theorem Fv {l:Addr} {items:Array Value} {Q:Value→Shared→Prop} (hL:s.heap.IsTuple l items)
  (h:∀h',IsEnum h' (s.heap.objs.size+1) s.heap.objs.size 0 .none→h'.IsTupleIter s.heap.objs.size l 0→h'.objs.size=s.heap.objs.size+2 →
   (∀b o,s.heap.get? b=some o→h'.get? b=some o)→Q (.ref (s.heap.objs.size+1)) { s with heap:=h' }) :
  wpAny (model prog w) A (call (.type "enumerate") [.ref l]) Q E s:=by
 refine cps fun zP zk=>?_;(rcases hL with ⟨⟨c,dct,dt,sl⟩,hl,hc,n,hd⟩)<;>(refine zk ?_;clear zk zP)
 replace hc:c=.type "tuple":=hc
 replace hd:dt=.seq items n:=hd
 subst hd
 refine callType_new F.called_enumerate (by decide) (F.typeCall_enumerate_1 _) (F.newCall_enumerate_1 _) (fun obj=>F.args_object_init_2 obj _) F.entry_enumerate_new
  (Ia l items n c dct sl hc) ⟨hl,?_⟩
 have hz:(s.heap.push { cls:=.type "tuple_iterator",data:=.fields #[.ref l,.int 0 0] }).objs.size=s.heap.objs.size+1:=Heap.size_push ..
 show _∧_
 rw [hz]
 have he:IsEnum ((s.heap.push { cls:=.type "tuple_iterator",data:=.fields #[.ref l,.int 0 0] }).push
   { cls:=.type "enumerate",data:=.fields #[.none,.bool false,.ref s.heap.objs.size,rawInt 0,.none,.none] }) (s.heap.objs.size+1) s.heap.objs.size 0 .none:=by
  have:=Heap.get?_push_size (s.heap.push { cls:=.type "tuple_iterator",data:=.fields #[.ref l,.int 0 0] })
   (o:={ cls:=.type "enumerate",data:=.fields #[.none,.bool false,.ref s.heap.objs.size,rawInt 0,.none,.none] }) rfl
  rw [hz] at this;exact this
 refine ⟨⟨_,he,rfl⟩,h _ he ⟨_,Heap.get?_push_of_some _ (Heap.get?_push_size _ rfl),rfl,rfl⟩ (by rw [Heap.size_push,hz]) fun b o x=>Heap.get?_push_of_some _ (Heap.get?_push_of_some _ x)⟩
end
end
section
section
variable {C:Cf} {A:Around} {hp:HP} {s s':Shared} {env:Env} {F F':FH} {E:Value→Shared→Prop} {loc:PL}
noncomputable def E4 (xs:List AV):List AV:=xs.zipIdx.map fun p=>.tup [.int (p.2:Nat),p.1]
theorem GQ {α:Type} (l:List α) (g:α→AV):E4 (l.map g)=l.zipIdx.map fun p=>.tup [.int (p.2:Nat),g p.1]:=by
 unfold E4
 rw [List.zipIdx_map,List.map_map]
 rfl
theorem K8 {xs:List AV} {i:Nat} {x:AV} (h:(E4 xs)[i]? = some x):∃y,xs[i]? = some y∧x=.tup [.int (i:Nat),y]:=by
 unfold E4 at h
 rw [List.getElem?_map,List.getElem?_zipIdx,Option.map_map,Option.map_eq_some_iff] at h
 refine xa1_2 h ?_;(try clear h);intro y h1 h2
 exact ⟨y,h1,by rw [←h2];simp⟩
theorem HD.enum {elts:List Expr} {tn:Nat} {tpos:Pos} {xs:List AV} {it e:Addr} {fp:List Addr} {n:Nat} {P:Nat→Value→Prop} {St:Nat→Heap→Prop} (w:Wp C A hp F s) (D:Draws C.prog C.w A.in1 it fp n P St) (hei:e≠it) (hef:e∉fp) (hif:it∈fp) (hn:xs.length=n) (hv:∀i x v,xs[i]? = some x→P i v→VR F x v)
  (inert:∀i h,St i h→∃o,h.get? it=some o∧Dw o) {h':Heap} {t:Nat} {old:Value} (he:IsEnum h' e it 0 old) (h0:St 0 h') (hfp:∀b∈fp,b=it∨∃o,F b=some o) (hne:s.heap.get? e=none) (hni:s.heap.get? it=none) (k:∀b o,s.heap.get? b=some o→h'.get? b=some o) :
  HD C A hp F s (.Tuple elts tn tpos) (E4 xs) (.ref e) ⟨h',s.gens,s.drawn,t,s.os⟩:=by
 refine ⟨F,e,e::fp,[e,it],_,.keep w k,rfl,Wk.ofWalksT (WalksT.enumerateD D e hei hef hif) (by simp [E4,hn]) (fun i x vals hx hP=>?_) (fun b hb=>?_) (fun i h st b hb=>?_),⟨⟨old,he⟩,h0⟩,fun b hb=>?_⟩
 ·refine xa1_2 (K8 hx) ?_;intro y h1;rintro rfl
  refine xa2_2 hP ?_;(try clear hP);intro t v h2;rintro rfl
  exact ⟨_,rfl,.cons (.int _ _) (.cons (hv _ _ _ h1 h2) .nil)⟩
 ·rcases List.mem_cons.mp hb with rfl|hb
  ·exact .inl (List.mem_cons_self ..)
  ·rcases hfp b hb with rfl|h1
   ·exact .inl (by simp)
   ·exact .inr h1
 ·refine xa0_2 st ?_;(try clear st);intro zq;refine xa1_1 zq ?_;(try clear zq);intro old h1;intro h2
  rcases List.mem_cons.mp hb with rfl|hb
  ·exact ⟨_,h1,A9 rfl⟩
  ·rw [List.mem_singleton.mp hb];exact inert i h h2
 ·rcases List.mem_cons.mp hb with rfl|hb
  ·exact ⟨hne,(w.dead hne).1⟩
  ·rw [List.mem_singleton.mp hb];exact ⟨hni,(w.dead hni).1⟩
theorem JW {elts:List Expr} {tn:Nat} {tpos:Pos} {x:Str} {px pos:Pos} {args:List Expr} {pv:PV} {xs:List AV} (hA:A.handled=none) (hg:GL C x (.type "enumerate")) (hv:KQ C A hp env loc args [pv]) (hs:Jl pv xs) (hb:autoParam (pv.2=false) AC.aux0._auto_1) (hk:autoParam (env.kindOf x=some .globalImplicit) AC.aux0._auto_1)
  (he:autoParam (eval (.Call (.Name x px) args [] pos) env=(do callWith pos (←eval (.Name x px) env) [] (BP env args) [])) AC.aux0._auto_1) (hd:autoParam ((x == ("__debug__" : Str))=false) AC.aux1._auto_1):PI C A hp env loc (.Tuple elts tn tpos) (.Call (.Name x px) args [] pos) (E4 xs):=fun F s E c=>
 E8 hg (fun zu zu=>KeepOk_plain (by intro a;simp)) hv c (fun F₁ s₁ us st c₁ r=>by
  refine xa2_3 r.inv ?_;intro v us;rintro rfl;intro r1 r
  obtain rfl:=r.nilI
  have n0:=CW s₁.heap
  have n1:s₁.heap.get? (s₁.heap.objs.size+1)=none:=by
   cases q:s₁.heap.get? (s₁.heap.objs.size+1) with
   |none=>rfl
   |some o=>exact absurd (Heap.lt_size q) (Nat.not_lt.mpr (Nat.le_succ _))
  have lt:∀{a o},s₁.heap.get? a=some o→a<s₁.heap.objs.size:=fun e=>Heap.lt_size e
  cases hs.at r1 c₁.wp with
  |lst a o vs n e h1 h2 h3 h4 hq=>
   subst e
   have la:=lt h1
   refine call_enumerate_list ⟨o,h1,h2,n,h3⟩ fun h' hE hit zu k=>wpAny_pyIter_enum hE ((HD.enum (t:=s₁.toks) c₁.wp (Draws.list (A:=A.in1) hA s₁.heap.objs.size a (Nat.ne_of_lt la) vs.toArray) (Nat.succ_ne_self _) (fun hb'=>?_) (List.mem_cons_self ..) (by rw [List.size_toArray,h4.length]) h4.arr (fun i h st=>?_) hE ⟨hit,⟨o,k _ _ h1,h2,n,h3⟩⟩ (fun b hb'=>?_) n1 n0 k).pre st)
   ·rcases List.mem_cons.mp hb' with q|hb'
    ·exact Nat.succ_ne_self _ q
    ·rw [←List.mem_singleton.mp hb'] at la;exact absurd la (Nat.not_lt.mpr (Nat.le_succ _))
   ·refine xa0_2 st ?_;(try clear st);intro zq;refine xa1_3 zq ?_;(try clear zq);intro o q1 q2 q3;intro zu;exact ⟨o,q1,A9 q3⟩
   ·rcases List.mem_cons.mp hb' with rfl|hb'
    ·exact .inl rfl
    ·rw [List.mem_singleton.mp hb'];exact .inr ⟨_,hq hb⟩
  |tup a o vs n e h1 h2 h3 h4 hq=>
   subst e
   have la:=lt h1
   refine Fv ⟨o,h1,h2,n,h3⟩ fun h' hE hit zu k=>wpAny_pyIter_enum hE ((HD.enum (t:=s₁.toks) c₁.wp (It (A:=A.in1) hA s₁.heap.objs.size a (Nat.ne_of_lt la) vs.toArray) (Nat.succ_ne_self _) (fun hb'=>?_) (List.mem_cons_self ..) (by rw [List.size_toArray,h4.length]) h4.arr (fun i h st=>?_) hE ⟨hit,⟨o,k _ _ h1,h2,n,h3⟩⟩ (fun b hb'=>?_) n1 n0 k).pre st)
   ·rcases List.mem_cons.mp hb' with q|hb'
    ·exact Nat.succ_ne_self _ q
    ·rw [←List.mem_singleton.mp hb'] at la;exact absurd la (Nat.not_lt.mpr (Nat.le_succ _))
   ·refine xa0_2 st ?_;(try clear st);intro zq;refine xa1_3 zq ?_;(try clear zq);intro o q1 q2 q3;intro zu;exact ⟨o,q1,A9 q3⟩
   ·rcases List.mem_cons.mp hb' with rfl|hb'
    ·exact .inl rfl
    ·rw [List.mem_singleton.mp hb'];exact .inr ⟨_,hq hb⟩
  |str y t e ex=>
   subst e ex
   have hD:Draws C.prog C.w A.in1 s₁.heap.objs.size [s₁.heap.objs.size] y.cps.size (fun i v=>∃c u,y.cps[i]? = some c∧v=.str ⟨#[c]⟩ u) (fun i h=>h.IsStrIter s₁.heap.objs.size (strIterType y) y t i):=by
    rcases EY y with e|e<;>rw [e]
    ·exact Draws.strAscii (A:=A.in1) hA _ y t
    ·exact Draws.strWide (A:=A.in1) hA _ y t
   refine call_enumerate_str fun h' hE hit zu k=>wpAny_pyIter_enum hE ((HD.enum (t:=s₁.toks) c₁.wp hD (Nat.succ_ne_self _) (fun hb'=>?_) (List.mem_cons_self ..) (GT y) (fun i x v hx hP=>?_) (fun i h st=>?_) hE hit (fun b hb=>.inl (List.mem_singleton.mp hb)) n1 n0 k).pre st)
   ·exact Nat.succ_ne_self _ (List.mem_singleton.mp hb')
   ·refine xa1_2 (GU hx) ?_;intro c hc;rintro rfl
    refine xa2_2 hP ?_;(try clear hP);intro c' u hc';rintro rfl
    rw [hc] at hc';(have zc:=Option.some.inj hc';clear hc';subst zc)
    exact .str _ _
   ·refine xa1_3 st ?_;(try clear st);intro o q1 q2 q3;exact ⟨o,q1,A9 q3⟩) hk he hd
end
end
section
section
variable {C:Cf} {A:Around} {hp:HP} {s s':Shared} {env:Env} {F F':FH} {E:Value→Shared→Prop} {loc:PL}
noncomputable abbrev P1 (C:Cf) (A:Around) (hp:HP) (cenv:Env) (l:PL) (ifs:List Expr) (ok:Bool):Prop:=PT C A hp cenv l (fun zu b b'=>b=b') (He ifs cenv) ok
theorem JV {cenv:Env} {l:PL}:P1 C A hp cenv l [] true:=.mk fun F s E c=>wpAny_tests_nil (CB.here (t:=s.toks) c.wp rfl)
theorem MW {cenv:Env} {l:PL} {e:Expr} {b:Bool} (h:PB C A hp cenv l e b):P1 C A hp cenv l [e] b:=.mk fun F s E c=>wpAny_tests_one (h.go F s E c)
theorem Je {cenv:Env} {x:Str} {v:AV} {bl:BL} (hk:cenv.kindOf x=some .local) (h:∀y a,bl.lookup y=some a→cenv.kindOf y=some .local):∀y a,((x,v)::bl).lookup y=some a→cenv.kindOf y=some .local:=fun y a e=>by
 simp only [List.lookup] at e
 split at e
 ·rename_i q;rw [beq_iff_eq.mp q];exact hk
 ·exact h y a e
theorem IR {x:Str} {v:AV} {bl:BL} (h:bl.lookup x=none):Ny bl ((x,v)::bl):=fun y a e=>by
 simp only [List.lookup]
 split
 ·rename_i q;rw [beq_iff_eq.mp q,h] at e;exact Aj e
 ·exact e
theorem Ny.trans {a b c:BL} (h:Ny a b) (k:Ny b c):Ny a c:=fun y v e=>k y v (h y v e)
theorem LZ {cenv:Env}:∀y a,([]:BL).lookup y=some a→cenv.kindOf y=some .local:=fun y a e=>by exact Aj e
inductive H9 (A:Around) (cenv:Env):Expr→AV→BL→BL→Prop
 |name {x px v bl} (hk:cenv.kindOf x=some .local) (hn:bl.lookup x=none):H9 A cenv (.Name x px) v bl ((x,v)::bl)
 |pair {x y p1 p2 tn pos a b bl} (hA:A.handled=none) (hx:cenv.kindOf x=some .local) (hy:cenv.kindOf y=some .local) (hn:bl.lookup x=none) (hn2:((x,a)::bl).lookup y=none):H9 A cenv (.Tuple [.Name x p1,.Name y p2] tn pos) (.tup [a,b]) bl ((y,b)::(x,a)::bl)
theorem H9.asg {cenv:Env} {target:Expr} {v:AV} {bl bl':BL} (h:H9 A cenv target v bl bl') {Lc:LA} (hf:cenv.scope.kind=.function) (hL:cenv.locals=Lc.1) (h2:Lc.2=false):Na C A cenv Lc target v bl bl':=by
 cases h with
 |name hk hn=>exact KS hf hL h2 hk
 |pair hA hx hy hn hn2=>exact KR hA hf hL h2 hx hy
theorem H9.le {cenv:Env} {target:Expr} {v:AV} {bl bl':BL} (h:H9 A cenv target v bl bl'):Ny bl bl':=by
 cases h with
 |name hk hn=>exact IR hn
 |pair hA hx hy hn hn2=>exact (IR hn).trans (IR hn2)
theorem H9.ok {cenv:Env} {target:Expr} {v:AV} {bl bl':BL} (h:H9 A cenv target v bl bl') (k:∀y a,bl.lookup y=some a→cenv.kindOf y=some .local):∀y a,bl'.lookup y=some a→cenv.kindOf y=some .local:=by
 cases h with
 |name hk hn=>exact Je hk k
 |pair hA hx hy hn hn2=>exact Je hy (Je hx k)
theorem PP {scope:Scope} {Lc:LA} {bl:BL} (h2:Lc.2=false) (h:∀y a,bl.lookup y=some a→(Az env scope Lc).kindOf y=some .local):Pm env scope Lc bl:=fun x a q=>.inl ⟨h2,h x a q⟩
theorem Gw {elt target iter:Expr} {ifs:List Expr} {scope:Scope} {pos:Pos} {α:Type} (l:List α) (g f:α→AV) (p:α→Bool) (B:α→BL) (hi:PI C A hp env loc target iter (l.map g)) (hz:l.length≤100000)
  (hb:∀Lc a,a∈l→H9 A (Az env scope Lc) target (g a) [] (B a)) (ht:∀Lc a,a∈l→P1 C A hp (Az env scope Lc) (Jc scope loc (B a)) ifs (p a)) (h:∀Lc a,a∈l→p a=true→PE C A hp (Az env scope Lc) (Jc scope loc (B a)) elt (f a,false))
  (cs:autoParam (AT env scope) AC.aux7._auto_1) (hs:autoParam (∀x,foldedSetIterable iter env x=pure x) AC.aux4._auto_1) (hmd:autoParam (md scope=false) AC.aux0._auto_1):KW C A hp env loc elt [⟨target,iter,ifs,0⟩] scope pos ((l.filter p).map f):=by
 have e:∀l:List α,(l.filter p).map f=l.flatMap fun a=>if p a=true then [f a] else []:=fun l=>by
  induction l with
  |nil=>rfl
  |cons a l ih=>rw [List.flatMap_cons,List.filter_cons,←ih];split<;>rfl
 have hz':(l.flatMap fun a=>if p a=true then [f a] else []).length≤100000:=by
  rw [←e,List.length_map];exact Nat.le_trans (List.length_filter_le _ _) hz
 rw [e]
 exact ON cs hi _ (fun F s acc L c a ha=>⟨B a,p a,(hb (L,md scope) a ha).asg cs.kind rfl hmd,(hb (L,md scope) a ha).le,PP hmd ((hb (L,md scope) a ha).ok LZ),ht _ a ha,fun z=>by
  rw [if_pos z];exact Jm c cs (PP hmd ((hb (L,md scope) a ha).ok LZ)) (h _ a ha z),fun z=>by rw [z];rfl⟩) hz' hs
theorem JX {elt iter:Expr} {scope:Scope} {pos px:Pos} {x:Str} {α:Type} (l:List α) (g f:α→AV) (hi:PI C A hp env loc (.Name x px) iter (l.map g)) (hz:l.length≤100000)
  (h:∀Lc a,a∈l→PE C A hp (Az env scope Lc) (Jc scope loc [(x,g a)]) elt (f a,false)) (hk:autoParam (∀Lc,(Az env scope Lc).kindOf x=some .local) AC.aux4._auto_1)
  (cs:autoParam (AT env scope) AC.aux7._auto_1) (hs:autoParam (∀x,foldedSetIterable iter env x=pure x) AC.aux4._auto_1) (hmd:autoParam (md scope=false) AC.aux0._auto_1):KW C A hp env loc elt [⟨.Name x px,iter,[],0⟩] scope pos (l.map f):=by
 have:=Gw (pos:=pos) l g f (fun zu=>true) (fun a=>[(x,g a)]) hi hz (fun Lc a zu=>.name (hk Lc) rfl) (fun Lc a ha=>JV) (fun Lc a ha zu=>h Lc a ha) cs hs hmd
 rwa [(List.filter_eq_self.mpr fun zu zu=>rfl:l.filter (fun zu=>true)=l)] at this
theorem Mn {elt iter:Expr} {scope:Scope} {pos p1 p2 tp:Pos} {tn:Nat} {x y:Str} {α:Type} (hA:A.handled=none) (l:List α) (g1 g2 f:α→AV) (hi:PI C A hp env loc (.Tuple [.Name x p1,.Name y p2] tn tp) iter (l.map fun a=>.tup [g1 a,g2 a])) (hz:l.length≤100000)
  (h:∀Lc a,a∈l→PE C A hp (Az env scope Lc) (Jc scope loc [(y,g2 a),(x,g1 a)]) elt (f a,false)) (hk:autoParam (∀Lc,(Az env scope Lc).kindOf x=some .local) AC.aux4._auto_1) (hk2:autoParam (∀Lc,(Az env scope Lc).kindOf y=some .local) AC.aux4._auto_1) (hn:autoParam ((y == x)=false) AC.aux1._auto_1)
  (cs:autoParam (AT env scope) AC.aux7._auto_1) (hs:autoParam (∀x,foldedSetIterable iter env x=pure x) AC.aux4._auto_1) (hmd:autoParam (md scope=false) AC.aux0._auto_1):KW C A hp env loc elt [⟨.Tuple [.Name x p1,.Name y p2] tn tp,iter,[],0⟩] scope pos (l.map f):=by
 have:=Gw (pos:=pos) l (fun a=>.tup [g1 a,g2 a]) f (fun zu=>true) (fun a=>[(y,g2 a),(x,g1 a)]) hi hz (fun Lc a zu=>.pair hA (hk Lc) (hk2 Lc) rfl (by simp only [List.lookup,hn])) (fun Lc a ha=>JV) (fun Lc a ha zu=>h Lc a ha) cs hs hmd
 rwa [(List.filter_eq_self.mpr fun zu zu=>rfl:l.filter (fun zu=>true)=l)] at this
end
end
section
section
variable {hp:HP} {C:Cf} {A:Around} {s s':Shared} {env:Env} {F F':FH} {E:Value→Shared→Prop} {loc:PL}
theorem OE {a b:Int}:Jn C A hp (Cs hp) (binaryOp .Add) (.int a,false) (.int b,false) (.int (a+b),false):=fun F s E v u hin hv hu=>by
 refine xa1_1 hv.out.intI ?_;intro t;rintro rfl;refine xa1_1 hu.out.intI ?_;intro t';rintro rfl;exact add_int (CB.here hin (.val (.int _ _)))
theorem OC {a b:Int}:Jn C A hp (Cs hp) (binaryOp .Sub) (.int a,false) (.int b,false) (.int (a - b),false):=fun F s E v u hin hv hu=>by
 refine xa1_1 hv.out.intI ?_;intro t;rintro rfl;refine xa1_1 hu.out.intI ?_;intro t';rintro rfl;exact PyProof.Rows.sub_int (CB.here hin (.val (.int _ _)))
theorem GW {a b:Int} (hb:b≠0):Jn C A hp (Cs hp) (binaryOp .Mod) (.int a,false) (.int b,false) (.int (a.fmod b),false):=fun F s E v u hin hv hu=>by
 refine xa1_1 hv.out.intI ?_;intro t;rintro rfl;refine xa1_1 hu.out.intI ?_;intro t';rintro rfl;exact mod_int hb (CB.here hin (.val (.int _ _)))
noncomputable def Nt (C:Cf) (A:Around):Prop:=∀s:Shared,(∃l,A.frames=some l)→(∀b o,C.h0.get? b=some o→s.heap.get? b=some o)→PylongRoom (model C.prog C.w) A s
theorem Mb {a b:Int} (pl:Nt C A) (hb:b≠0):Jn C A hp (Cs hp) (binaryOp .FloorDiv) (.int a,false) (.int b,false) (.int (a.fdiv b),false):=fun F s E v u hin hv hu=>by
 refine xa1_1 hv.out.intI ?_;intro t;rintro rfl;refine xa1_1 hu.out.intI ?_;intro t';rintro rfl;exact floordiv_int hb (CB.here hin (.val (.int _ _))) (.inr (pl s (let ⟨l,a,_⟩:=hin.fr;⟨l,a⟩) hin.old))
theorem OD {a n:Int} (hn:0≤n) (hn2:n≤1000000) (ha:a.natAbs<2 ^ 64):Jn C A hp (Cs hp) (binaryOp .Pow) (.int a,false) (.int n,false) (.int (a ^ n.toNat),false):=fun F s E v u hin hv hu=>by
 refine xa1_1 hv.out.intI ?_;intro t;rintro rfl;refine xa1_1 hu.out.intI ?_;intro t';rintro rfl;exact pow_int_small hn hn2 ha (CB.here hin (.val (.int _ _)))
theorem OB {a b:Int}:Jn C A hp (Cs hp) (compareOp .Lt) (.int a,false) (.int b,false) (.bool (decide (a<b)),false):=fun F s E v u hin hv hu=>by
 refine xa1_1 hv.out.intI ?_;intro t;rintro rfl;refine xa1_1 hu.out.intI ?_;intro t';rintro rfl;exact lt_int (CB.here (t:=s.toks) hin (.val (.bool _)))
theorem CB.newL {xs:List AV} {vs:List Value} {t n:Nat} (hin:Wp C A hp F s) (hv:VRs F xs vs):CB C A hp F s (fun F' v=>Cs hp F' (.lst xs,false) v) (.ref s.heap.objs.size) ⟨s.heap.push { cls:=.type "list",data:=.seq vs.toArray n },s.gens,s.drawn,t,s.os⟩:=by
 have st:=BC.push (t:=t) hin (o:={ cls:=.type "list",data:=.seq vs.toArray n }) rfl
 exact ⟨_,st,.val (.lst (Au _ _ _) rfl rfl (hv.mono st.e))⟩
theorem CB.newT {xs:List AV} {vs:List Value} {t n:Nat} (hin:Wp C A hp F s) (hv:VRs F xs vs):CB C A hp F s (fun F' v=>Cs hp F' (.tup xs,false) v) (.ref s.heap.objs.size) ⟨s.heap.push { cls:=.type "tuple",data:=.seq vs.toArray n },s.gens,s.drawn,t,s.os⟩:=by
 have st:=BC.push (t:=t) hin (o:={ cls:=.type "tuple",data:=.seq vs.toArray n }) rfl
 exact ⟨_,st,.val (.tup (Au _ _ _) rfl rfl (hv.mono st.e))⟩
noncomputable abbrev vals (xs:List AV):List PV:=xs.map fun x=>(x,false)
theorem DK.outs {xs:List AV} {vs:List Value} (r:DK hp F (vals xs) vs):VRs F xs vs:=by
 induction xs generalizing vs with
 |nil=>rw [r.nilI];exact .nil
 |cons x xs ih=>
  refine xa2_3 r.inv ?_;intro v us;rintro rfl;intro a b
  exact .cons a.out (ih b)
theorem Mm {elts:List Expr} {k:Nat} {pos:Pos} (xs:List AV) (h:KQ C A hp env loc elts (vals xs)) (hz:xs.length≤100000) (ht:autoParam (backTo pos (starEach elts env)=BP env elts) AC.aux0._auto_1):PE C A hp env loc (.Tuple elts k pos) (.tup xs,false):=.mk fun F s E c=>
 Tuple_ (ht▸h.pes.use c fun F₁ s₁ us st c₁ r=>by
  have hv:=r.outs
  unfold newTuple
  exact wpAny_newObj_type ((CB.newT c₁.wp hv).pre st) (by show us.toArray.size≤sizeLine;rw [List.size_toArray,hv.length,sizeLine_eq];with_reducible exact Bj ‹_› (by decide)))
theorem Hy {elts:List Expr} {pos:Pos} (xs:List AV) (h:KQ C A hp env loc elts (vals xs)) (hz:xs.length≤100000) (ht:autoParam (backTo pos (starEach elts env)=BP env elts) AC.aux0._auto_1):PE C A hp env loc (.List elts pos) (.lst xs,false):=.mk fun F s E c=>
 List_ (ht▸h.pes.use c fun F₁ s₁ us st c₁ r=>by
  have hv:=r.outs
  unfold newList
  exact wpAny_newObj_type ((CB.newL c₁.wp hv).pre st) (by show us.toArray.size≤sizeLine;rw [List.size_toArray,hv.length,sizeLine_eq];with_reducible exact Bj ‹_› (by decide)))
theorem Od {xs ys:List AV} {p q:Bool} (hz:xs.length+ys.length≤100000):Jn C A hp (Cs hp) (binaryOp .Add) (.lst xs,p) (.lst ys,q) (.lst (xs++ys),false):=fun F s E v u hin hv hu=>by
 refine xa4_6 (hv.lstI hin) ?_;intro a;intro zq;refine cps fun zP zk=>?_;(rcases zq with ⟨cls,dd,data,sl⟩)<;>(refine zk ?_;clear zk zP);intro vs n;rintro rfl;intro ho hc hd hvs zu
 refine xa4_6 (hu.lstI hin) ?_;intro b;intro zq;refine cps fun zP zk=>?_;(rcases zq with ⟨cls2,dd2,data2,sl2⟩)<;>(refine zk ?_;clear zk zP);intro us n2;rintro rfl;intro ho2 hc2 hd2 hus zu
 dsimp only at hc hd hc2 hd2
 subst hc hd hc2 hd2
 have e:vs.toArray++us.toArray=(vs++us).toArray:=by simp
 refine concat_meets ⟨_,ho,rfl⟩ ⟨_,ho2,rfl⟩ noFill_list_add seq_list_add PySem.F.slot_list_add PySem.F.entry_list_add (PySem.F.args_list_add_2 _ _) (list_addW a b vs.toArray us.toArray n n2 dd dd2 sl sl2 (by simp only [List.size_toArray,hvs.length,hus.length,sizeLine_eq];with_reducible exact Bj ‹_› (by decide))) ⟨ho,ho2,?_⟩
 rw [e]
 exact CB.newL hin (hvs.append hus)
noncomputable abbrev Gv (C:Cf) (A:Around) (hp:HP) (env:Env) (loc:PL) (x:Option Expr) (o:Option Int):Prop:=PT C A hp env loc (fun zu o v=>IsPart v o) (evalPart x env) o
theorem AJ:Gv C A hp env loc none none:=.mk fun F s E c=>by rw [evalPart_none];exact wpAny_pure (CB.here (t:=s.toks) c.wp .none)
theorem Ba {e:Expr} {i:Int} (h:PE C A hp env loc e (.int i,false)):Gv C A hp env loc (some e) (some i):=.mk fun F s E c=>h.use c fun F₁ s₁ v st c₁ r=>by
 refine xa1_1 r.out.intI ?_;intro t;rintro rfl
 exact (CB.here (t:=s₁.toks) c₁.wp (.int _ _)).pre st
noncomputable def P2 (C:Cf) (A:Around) (hp:HP) (pv:PV) (lo hi st:Option Int) (res:PV):Prop:=
 ∀F s (E:Value→Shared→Prop) v (a:Addr) (l u w:Value),Wp C A hp F s→Cs hp F pv v→s.heap.IsSliceOf a l u w→IsPart l lo→IsPart u hi→IsPart w st→∀value slice,wpAny (model C.prog C.w) A (subscriptTail value slice v (.ref a)) (CB C A hp F s fun F' v=>Cs hp F' res v) E s
theorem B3 {value:Expr} {lower upper step:Option Expr} {p pos:Pos} {pv res:PV} {lo hi st:Option Int} (h:PE C A hp env loc value pv) (h1:Gv C A hp env loc lower lo) (h2:Gv C A hp env loc upper hi) (h3:Gv C A hp env loc step st) (hs:P2 C A hp pv lo hi st res) :
  PE C A hp env loc (.Subscript value (.Slice lower upper step p) pos) res:=.mk fun F s E c=>
 Subscript_ (h.use c fun F₁ s₁ v st₁ c₁ r=>wpAny_Slice (h1.use c₁ fun F₂ s₂ l st₂ c₂ r1=>h2.use c₂ fun F₃ s₃ u st₃ c₃ r2=>h3.use c₃ fun F₄ s₄ w st₄ c₄ r3=>by
  have st5:BC C A hp F₄ s₄ F₄ { s₄ with heap:=s₄.heap.push { cls:=.type "slice",data:=.fields #[l,u,w] } }:=.keep c₄.wp fun zu zu e=>Heap.get?_push_of_some _ e
  exact wpAny_mono (hs F₄ _ E v _ l u w st5.w' ((((r.step st₂).step st₃).step st₄).step st5) ⟨_,Heap.get?_push_size _ rfl,rfl,rfl⟩ r1 r2 r3 _ _) (fun zu zu q=>q.pre (st₁.trans (st₂.trans (st₃.trans (st₄.trans st5))))) fun zu zu x=>x))
noncomputable def Cm {α:Type} (xs:List α) (lo hi:Option Int):List α:=(xs.drop (lo.elim 0 (clipAt xs.length))).take (hi.elim xs.length (clipAt xs.length) - lo.elim 0 (clipAt xs.length))
theorem CJ {α β:Type} (f:α→β) (xs:List α) (lo hi:Option Int):Cm (xs.map f) lo hi=(Cm xs lo hi).map f:=by
 unfold Cm;simp [List.map_take,List.map_drop]
theorem Gk {α:Type} (xs:List α) (lo hi:Option Int):(Cm xs lo hi).length≤xs.length:=by
 unfold Cm;simp;omega
theorem DD {α:Type} (xs:List α) (a:Nat):Cm xs (some a) none=xs.drop a:=by
 unfold Cm
 simp only [Option.elim,clipAt_nat]
 rcases Nat.le_total a xs.length with h|h
 ·rw [Nat.min_eq_left h,List.take_of_length_le (by simp)]
 ·rw [Nat.min_eq_right h,List.drop_of_length_le (by simp),List.drop_of_length_le h];simp
theorem DC {α:Type} (xs:List α) (b:Nat):Cm xs none (some b)=xs.take b:=by
 unfold Cm
 simp only [Option.elim,clipAt_nat,List.drop_zero,Nat.sub_zero]
 rcases Nat.le_total b xs.length with h|h
 ·rw [Nat.min_eq_left h]
 ·rw [Nat.min_eq_right h,List.take_of_length_le (by simp),List.take_of_length_le h]
theorem VRs.cut {xs:List AV} {vs:List Value} (h:VRs F xs vs) (lo hi:Option Int):VRs F (Cm xs lo hi) (Cm vs lo hi):=by
 unfold Cm
 rw [h.length]
 exact (h.drop _).take _
theorem HR (vs:List Value) (lo hi:Option Int):slicePick vs.toArray lo hi none=(Cm vs lo hi).toArray:=by
 rw [slicePick_plain];simp [Cm]
theorem C3 {xs:List AV} {p:Bool} {lo hi:Option Int} (hz:xs.length≤100000):P2 C A hp (.lst xs,p) lo hi none (.lst (Cm xs lo hi),false):=fun F s E v a l u w hin hv hs pl pu pw value slice=>by
 refine xa4_6 (hv.lstI hin) ?_;intro b o vs n;rintro rfl;intro ho hc hd hvs zu
 have ha:s.heap.IsList b vs.toArray:=⟨o,ho,hc,n,hd⟩
 refine D4 ha.typeIs list_getitem_lookup (wpAny_getItem_list_slice ha hs pl pu pw (by simp) ?_ (by rw [List.size_toArray,hvs.length,sizeLine_eq];with_reducible exact Bj ‹_› (by decide)))
 rw [HR]
 exact CB.newL hin (hvs.cut lo hi)
theorem Bx {value slice:Expr} {xs:List AV} {p:Bool} {k:Int} {x:AV} (h0:0≤k) (hx:xs[k.toNat]? = some x) (hz:xs.length≤100000):Jn C A hp (Cs hp) (subscriptTail value slice) (.lst xs,p) (.int k,false) (x,false):=fun F s E v w hin hv hw=>by
 refine xa1_1 hw.out.intI ?_;intro t;rintro rfl
 refine xa4_6 (hv.lstI hin) ?_;intro a o vs n;rintro rfl;intro ho hc hd hvs zu
 refine xa1_2 (hvs.get hx) ?_;intro u hu hvu
 have ha:s.heap.IsList a vs.toArray:=⟨o,ho,hc,n,hd⟩
 have hlt:=(List.getElem?_eq_some_iff.mp hx).1
 exact D4 ha.typeIs list_getitem_lookup (wpAny_getItem_list ha h0 (by omega) (by rw [List.getElem?_toArray];exact hu) (CB.here (t:=s.toks) hin (.val hvu)))
theorem JI {xs:List AV} {p:Bool} (hz:xs.length≤100000):PK C A hp (.builtin "len") [(.lst xs,p)] (.int xs.length,false):=fun F s E us hin r=>by
 refine xa2_3 r.inv ?_;intro v us;rintro rfl;intro r1 r
 obtain rfl:=r.nilI
 refine xa4_6 (r1.lstI hin) ?_;intro a o vs n;rintro rfl;intro ho hc hd hvs zu
 refine PyProof.Rows.len_list ⟨o,ho,hc,n,hd⟩ (by rw [List.size_toArray,hvs.length];omega) (CB.here hin (.val ?_))
 rw [List.size_toArray,hvs.length];exact .int _ _
theorem Hr {xs:List AV} {p:Bool} (hz:xs.length≤100000):PK C A hp (.type "tuple") [(.lst xs,p)] (.tup xs,false):=fun F s E us hin r=>by
 refine xa2_3 r.inv ?_;intro v us;rintro rfl;intro r1 r
 obtain rfl:=r.nilI
 refine xa4_6 (r1.lstI hin) ?_;intro a o vs n;rintro rfl;intro ho hc hd hvs zu
 refine call_tuple_list ⟨o,ho,hc,n,hd⟩ (fun h' hk=>?_) (by rw [List.size_toArray,hvs.length,sizeLine_eq];with_reducible exact Bj ‹_› (by decide))
 have st:=BC.keep (t:=s.toks) hin hk
 exact (CB.newT (t:=s.toks) st.w' hvs).pre st
end
end
section
section
variable {G:FH} {σ:Al} {C:Cf} {A:Around} {s s':Shared} {env:Env} {F F':FH} {E:Value→Shared→Prop} {loc:PL}
theorem Wd.dead {hp:HP} (W:Wd C F G hp s) {b:Addr} (h:s.heap.get? b=none):F b=none∧G b=none∧hp b=none:=by
 refine ⟨?_,?_,?_⟩
 ·cases e:F b with
  |none=>rfl
  |some o=>rw [W.fz b o e] at h;exact Ap h
 ·cases e:G b with
  |none=>rfl
  |some o=>refine xa1_2 (W.gz b o e) ?_;intro o' ho zu;rw [ho] at h;exact Ap h
 ·cases e:hp b with
  |none=>rfl
  |some x=>refine cps fun zP zk=>?_;(rcases W.ob b x e with ⟨zu,zu,o,ho,zu⟩)<;>(refine zk ?_;clear zk zP);rw [ho] at h;exact Ap h
theorem Wd.frp {hp:HP} (W:Wd C F G hp s) {e:Env} (h:Mr G e):PU hp F s.heap e:=by
 refine cps fun zP zk=>?_;(rcases h with ⟨p,L,o,a,b,es,ep,d⟩)<;>(refine zk ?_;clear zk zP)
 refine xa1_2 (W.gz _ _ b) ?_;intro o' h1 g
 refine ⟨p,L,a,?_,?_,o',h1,es,ep,g.data.trans d⟩
 ·cases q:F L with
  |none=>rfl
  |some o2=>rw [W.fg _ _ q] at b;exact Aj b
 ·cases q:hp L with
  |none=>rfl
  |some x=>rw [(W.ob _ _ q).2.1] at b;exact Aj b
theorem Rp.wp (hR:Rp C A F G env σ s):Wp C A σ.hp F s:=by
 refine ⟨hR.wd.base,hR.wd.fz,fun a x q=>⟨(hR.wd.ob a x q).1,(hR.wd.ob a x q).2.2⟩,hR.wd.os,hR.wd.bare,hR.wd.gi,?_⟩
 refine xa2_5 hR.fs ?_;intro e l a b c d f
 refine ⟨e::l,a,fun y hy=>?_⟩
 rcases List.mem_cons.mp hy with rfl|hy
 ·rcases d with ⟨rfl,d⟩|d
  ·refine xa1_2 hR.fm.ns ?_;intro m;intro zq;refine xa3_3 zq ?_;(try clear zq);intro o es ep h1 h2 zu;intro zu
   exact ⟨b,y.locals,d,hR.fm.lo.1,hR.fm.lo.2.2,o,h1,es,ep,h2⟩
  ·exact hR.wd.frp d
 ·exact hR.wd.frp (f y hy)
theorem Rp.pure (hR:Rp C A F G env σ s) (st:BC C A σ.hp F s F' s'):Rp C A F' G env σ s':=by
 have dead:∀{b o},s.heap.get? b=some o→F b=none→F' b=none:=fun {b o} e q=>st.off q e
 have ghp:∀{b o},G b=some o→σ.hp b=none:=fun {b o} e=>by
  cases q:σ.hp b with
  |none=>rfl
  |some x=>rw [(hR.wd.ob _ _ q).2.1] at e;exact Aj e
 have ck:∀{c v},σ.hp c=none→s.heap.IsCell c v→s'.heap.IsCell c v:=fun {c v} e ⟨o,h1,h2⟩=>⟨o,st.k h1 e (fun es ep q=>by rw [h2] at q;cases q),h2⟩
 refine ⟨⟨st.w'.base,st.w'.fz,fun b o e=>?_,fun a x e=>⟨(st.w'.ob a x e).1,(hR.wd.ob a x e).2.1,(st.w'.ob a x e).2⟩,st.w'.os,st.w'.bare,st.w'.gi,fun b o e=>?_⟩,⟨hR.fm.kind,?_,⟨?_,hR.fm.lo.2⟩,fun x hx=>?_,hR.fm.ci,fun x av c a b d=>?_,fun x av a b=>?_⟩,hR.fs⟩
 ·refine xa1_2 (hR.wd.gz b o e) ?_;intro o' h1 g
  refine xa1_2 (st.kg b o' h1 (ghp e)) ?_;intro o2 h2 g2
  exact ⟨o2,h2,g.trans g2⟩
 ·rcases st.new b o e with q|q
  ·exact hR.wd.fg b o q
  ·exact (hR.wd.dead q).2.1
 ·refine xa1_2 hR.fm.ns ?_;intro m hm hv
  exact ⟨m,Ns.geq hm fun o h=>st.kg _ o h hR.fm.lo.2.2,fun x av a b=>let ⟨v,p,q⟩:=hv x av a b;⟨v,p,q.mono st.e⟩⟩
 ·refine xa1_2 hR.fm.ns ?_;intro m;intro zq;refine xa3_2 zq ?_;(try clear zq);intro oL es ep hL zu;intro zu
  exact dead hL hR.fm.lo.1
 ·refine cps fun zP zk=>?_;(rcases hR.fm.co x hx with ⟨c,g1,g2,g3,g4,g5,v,g6⟩)<;>(refine zk ?_;clear zk zP)
  refine xa1_2 g6 ?_;(try clear g6);intro o' ho' zu
  exact ⟨c,g1,dead ho' g2,g3,g4,g5,v,ck g4 ⟨o',ho',by assumption⟩⟩
 ·refine xa1_2 (hR.fm.cv x av c a b d) ?_;intro v p q
  refine xa1_5 (hR.fm.co x b) ?_;intro c' g1 zu zu g4 zu
  rw [d] at g1;(have zc:=Option.some.inj g1;clear g1;subst zc)
  exact ⟨v,ck g4 p,q.mono st.e⟩
 ·refine xa3_4 (hR.fm.fv x av a b) ?_;intro c v o a1 a2 a3 a4
  exact ⟨c,v,o,a1,a2,a3,a4.mono st.e⟩
noncomputable def Ec (own:List (Str×List AV)) (l:List (Str×AV)):PL:=own.map (fun p=>(p.1,(.lst p.2,true)))++l.map fun p=>(p.1,(p.2,false))
noncomputable def OwnOk (σ:Al) (own:List (Str×List AV)):Prop:=∀p∈own,∃a,σ.loc.lookup p.1=some (.ref a)∧σ.hp a=some (.list p.2)
theorem OwnOk.nil:OwnOk σ []:=fun p h=>by cases h
theorem OwnOk.cons {x:Str} {xs:List AV} {a:Addr} {own:List (Str×List AV)} (h1:σ.loc.lookup x=some (.ref a)) (h2:σ.hp a=some (.list xs)) (h:OwnOk σ own):OwnOk σ ((x,xs)::own):=fun p hp=>by
 rcases List.mem_cons.mp hp with rfl|hp
 ·exact ⟨a,h1,h2⟩
 ·exact h p hp
theorem Gc {α β:Type} (f:α→β):∀{l:List (Str×α)} {x:Str},(l.map fun p=>(p.1,f p.2)).lookup x=(l.lookup x).map f
 |[],_=>rfl
 |(y,a)::l,x=>by
  simp only [List.map_cons,List.lookup]
  split
  ·rfl
  ·exact Gc f
theorem Fm.nmAt {hp:HP} {l:List (Str×AV)} (M:Fm F G hp env l s.heap) (hG:∀b o,G b=some o→(∀es ep,o.data≠.dict es ep)→s.heap.get? b=some o) (hGh:∀b o,G b=some o→hp b=none) {x:Str} {av:AV} (h:l.lookup x=some av) (hk:Cg (env.kindOf x)=true):∃v,VR F av v∧Mp hp s.heap env x v:=by
 cases q:env.kindOf x with
 |none=>rw [q] at hk;exact Bv hk
 |some kd=>
  rw [q] at hk
  cases kd<;>first|(first|exact Bv hk|cases hk)|skip
  ·refine xa1_2 M.ns ?_;intro m hm hv
   refine xa1_2 (hv x av h q) ?_;intro v h1 h2
   exact ⟨v,h2,.loc q hm h1 M.lo.2.2⟩
  ·refine xa1_5 (M.co x q) ?_;intro c hc zu zu hh zu
   refine xa1_2 (M.cv x av c h q hc) ?_;intro v h1 h2
   exact ⟨v,h2,.cell q hc h1 hh⟩
  ·refine xa3_4 (M.fv x av h q) ?_;intro c v o h1 h2 h3 h4
   exact ⟨v,h4,.free q h1 ⟨o,hG _ _ h2 (by intro es ep z;rw [h3] at z;cases z),h3⟩ (hGh _ _ h2)⟩
theorem Rp.pctx {own:List (Str×List AV)} (hR:Rp C A F G env σ s) (ho:OwnOk σ own) (hk:(σ.loc.all fun p=>Cg (env.kindOf p.1))=true) (hg:env.globals=mainGlobals∧env.builtins=builtinsNs):CY C A σ.hp F s env (Ec own σ.loc):=by
 have var:∀{x av},σ.loc.lookup x=some av→Cg (env.kindOf x)=true:=fun {x av} e=>List.all_eq_true.mp hk _ (E0 e)
 have gz:=fun b o e hd=>hR.wd.gzx (b:=b) (o:=o) e hd
 have gh:∀b o,G b=some o→σ.hp b=none:=fun b o e=>by
  cases q:σ.hp b with
  |none=>rfl
  |some x=>rw [(hR.wd.ob _ _ q).2.1] at e;exact Aj e
 refine ⟨hR.wp,hR.fm.kind,hg,fun x hx=>let ⟨c,hc,_⟩:=hR.fm.co x hx;by rw [hc];rfl,fun x pv e=>?_⟩
 unfold Ec at e
 rw [Hp,Gc (fun a=>((.lst a,true):PV)),Gc (fun a=>((a,false):PV))] at e
 cases q:own.lookup x with
 |some xs=>
  rw [q] at e;(have zc:=Option.some.inj e;clear e;subst zc)
  refine xa1_2 (ho _ (E0 q)) ?_;intro a h1 h2
  refine xa1_2 (hR.fm.nmAt gz gh h1 (var h1)) ?_;intro v hv n
  obtain rfl:=hv.refI
  exact ⟨_,.own h2,n⟩
 |none=>
  rw [q] at e
  refine xa1_2 (Option.map_eq_some_iff.mp e) ?_;intro av h1;rintro rfl
  refine xa1_2 (hR.fm.nmAt gz gh h1 (var h1)) ?_;intro v hv n
  exact ⟨v,.val hv,n⟩
theorem AL {E:Value→Shared→Prop} {e:Expr} {Q:AV→Al→Prop} (own:List (Str×List AV)) (v:AV) (h:PE C A σ.hp env (Ec own σ.loc) e (v,false)) (q:Q v σ) (ho:autoParam (OwnOk σ own) AC.aux8._auto_1) (hk:autoParam ((σ.loc.all fun p=>Cg (env.kindOf p.1))=true) AC.aux0._auto_1)
  (hg:autoParam (env.globals=mainGlobals∧env.builtins=builtinsNs) AC.aux9._auto_1):Ev C A E env e σ Q:=fun F G s hR=>
 h.use (hR.pctx ho hk hg) fun F' s' w st c r=>⟨F',v,σ,st.e,r.out,hR.pure st,q⟩
theorem FC {E:Value→Shared→Prop} {e:Expr} {b:Bool} {Q:Bool→Al→Prop} (own:List (Str×List AV)) (h:PB C A σ.hp env (Ec own σ.loc) e b) (q:Q b σ) (ho:autoParam (OwnOk σ own) AC.aux8._auto_1) (hk:autoParam ((σ.loc.all fun p=>Cg (env.kindOf p.1))=true) AC.aux0._auto_1)
  (hg:autoParam (env.globals=mainGlobals∧env.builtins=builtinsNs) AC.aux9._auto_1):Et C A E env e σ Q:=fun F G s hR=>
 h.use (hR.pctx ho hk hg) fun F' s' w st c r=>⟨F',b,σ,st.e,r,hR.pure st,q⟩
theorem Jr {E:Value→Shared→Prop} {x:Str} {px pos:Pos} {e:Expr} {Q:A7→Al→Prop} (own:List (Str×List AV)) (v:AV) (h:PE C A σ.hp env (Ec own σ.loc) e (v,false)) (q:Q .next (σ.set x v)) (ho:autoParam (OwnOk σ own) AC.aux8._auto_1) (hk:autoParam ((σ.loc.all fun p=>Cg (env.kindOf p.1))=true) AC.aux0._auto_1)
  (hg:autoParam (env.globals=mainGlobals∧env.builtins=builtinsNs) AC.aux9._auto_1) (hx:autoParam (E3 (env.kindOf x)=true) AC.aux0._auto_1) (hs:autoParam (swapsWith e (some (.Name x px)) pos.line env=Pure.pure false) AC.aux0._auto_1):Ex C A E env (.Assign [.Name x px] e pos) σ Q:=
 Ah (AL own v h q ho hk hg) hx hs
theorem Oo {E:Value→Shared→Prop} {pos:Pos} {e:Expr} {Q:A7→Al→Prop} (own:List (Str×List AV)) (v:AV) (h:PE C A σ.hp env (Ec own σ.loc) e (v,false)) (q:Q (.ret v) σ) (ho:autoParam (OwnOk σ own) AC.aux8._auto_1) (hk:autoParam ((σ.loc.all fun p=>Cg (env.kindOf p.1))=true) AC.aux0._auto_1)
  (hg:autoParam (env.globals=mainGlobals∧env.builtins=builtinsNs) AC.aux9._auto_1):Ex C A E env (.Return (some e) pos) σ Q:=BT (AL own v h q ho hk hg)
theorem Mv {E:Value→Shared→Prop} {test:Expr} {body orelse:List Stmt} {pos:Pos} {b:Bool} {Q:A7→Al→Prop} (own:List (Str×List AV)) (h:PB C A σ.hp env (Ec own σ.loc) test b) (q1:b=true→Cd C A E env body σ Q) (q2:b=false→Cd C A E env orelse σ Q) (ho:autoParam (OwnOk σ own) AC.aux8._auto_1) (hk:autoParam ((σ.loc.all fun p=>Cg (env.kindOf p.1))=true) AC.aux0._auto_1)
  (hg:autoParam (env.globals=mainGlobals∧env.builtins=builtinsNs) AC.aux9._auto_1):Ex C A E env (.If test body orelse pos) σ Q:=Bq (FC own h (by
 cases b with
 |true=>exact q1 rfl
 |false=>exact q2 rfl) ho hk hg)
theorem Rp.holdDict {Lc:Addr} {o:Obj} (hR:Rp C A F G env σ s) (ho:s.heap.get? Lc=some o) (h1:F Lc=none) (h2:G Lc=none) (h3:σ.hp Lc=none) (h4:Lc≠env.locals) (h5:∀x c,env.kindOf x=some .cell→env.cells.lookup x=some c→Lc≠c) :
  Rp C A F (De G (sg Lc o)) env σ s:=by
 have dj:=D5 (o:=o) h2
 have ex:=CR dj
 have W:=hR.wd
 have on:∀{b},b≠Lc→G b=none→De G (sg Lc o) b=none:=fun n e=>by rw [AH (J4 _ n)];exact e
 refine ⟨⟨W.base,W.fz,fun b ob e=>?_,fun a x e=>?_,W.os,W.bare,W.gi,fun b ob e=>?_⟩,⟨hR.fm.kind,hR.fm.ns,⟨hR.fm.lo.1,on h4.symm hR.fm.lo.2.1,hR.fm.lo.2.2⟩,fun x hx=>?_,hR.fm.ci,hR.fm.cv,fun x av a b=>?_⟩,hR.fs.mono ex⟩
 ·by_cases q:b=Lc
  ·subst q;rw [Bn (Be _ _)] at e;(have zc:=Option.some.inj e;clear e;subst zc);exact ⟨_,ho,Fh.rfl' _⟩
  ·rw [AH (J4 _ q)] at e;exact W.gz b ob e
 ·refine xa0_3 (W.ob a x e) ?_;intro p q r
  exact ⟨p,on (fun zE=>by (first|rw [zE,h3] at e|rw [←zE,h3] at e);exact Aj e) q,r⟩
 ·exact on (fun zE=>by (first|rw [zE,h1] at e|rw [←zE,h1] at e);exact Aj e) (W.fg b ob e)
 ·refine xa1_4 (hR.fm.co x hx) ?_;intro c g1 g2 g3 g4
  exact ⟨c,g1,g2,on (h5 x c hx g1).symm g3,g4⟩
 ·refine xa3_4 (hR.fm.fv x av a b) ?_;intro c v ob a1 a2 a3 a4
  exact ⟨c,v,ob,a1,ex _ _ a2,a3,a4⟩
theorem Rp.dropDict {Lc:Addr} {o:Obj} (hR:Rp C A F (De G (sg Lc o)) env σ s) (hf:G9 A G env) (h2:G Lc=none) (hc:∀v,o.data≠.cell v) {h':Heap} {t:Nat} (k:∀b ob,b≠Lc→s.heap.get? b=some ob→h'.get? b=some ob):Rp C A F G env σ ⟨h',s.gens,s.drawn,t,s.os⟩:=by
 have dj:=D5 (o:=o) h2
 have ex:=CR dj
 have W:=hR.wd
 have nL:∀{b},De G (sg Lc o) b=none→b≠Lc:=fun e q=>by subst q;rw [Bn (Be _ _)] at e;exact Ap e
 have no:∀{b},De G (sg Lc o) b=none→G b=none:=fun e=>(Hl dj e).1
 refine ⟨⟨W.base,fun b ob e=>k _ _ (nL (W.fg b ob e)) (W.fz b ob e),fun b ob e=>?_,fun a x e=>?_,W.os,W.bare,W.gi,fun b ob e=>no (W.fg b ob e)⟩,⟨hR.fm.kind,?_,⟨hR.fm.lo.1,no hR.fm.lo.2.1,hR.fm.lo.2.2⟩,fun x hx=>?_,hR.fm.ci,fun x av c a b d=>?_,fun x av a b=>?_⟩,hf⟩
 ·refine xa1_2 (W.gz b ob (ex _ _ e)) ?_;intro o' z1 z2
  exact ⟨o',k _ _ (fun q=>by subst q;rw [h2] at e;exact Aj e) z1,z2⟩
 ·refine cps fun zP zk=>?_;(rcases W.ob a x e with ⟨p,q,o,ho,r⟩)<;>(refine zk ?_;clear zk zP)
  exact ⟨p,no q,o,k _ _ (nL q) ho,r⟩
 ·refine xa1_2 hR.fm.ns ?_;intro m;intro zq;refine xa3_2 zq ?_;(try clear zq);intro oL es ep hL r;intro hv
  exact ⟨m,⟨oL,es,ep,k _ _ (nL hR.fm.lo.2.1) hL,r⟩,hv⟩
 ·refine cps fun zP zk=>?_;(rcases hR.fm.co x hx with ⟨c,g1,g2,g3,g4,g5,v,ob,g6,g7⟩)<;>(refine zk ?_;clear zk zP)
  exact ⟨c,g1,g2,no g3,g4,g5,v,ob,k _ _ (nL g3) g6,g7⟩
 ·refine xa1_2 (hR.fm.cv x av c a b d) ?_;intro v;intro zq;refine xa1_2 zq ?_;(try clear zq);intro ob g6 g7;intro g8
  refine xa1_4 (hR.fm.co x b) ?_;intro c' g1 zu g3 zu
  rw [d] at g1;(have zc:=Option.some.inj g1;clear g1;subst zc)
  exact ⟨v,⟨ob,k _ _ (nL g3) g6,g7⟩,g8⟩
 ·refine xa3_4 (hR.fm.fv x av a b) ?_;intro c v ob a1 a2 a3 a4
  refine ⟨c,v,ob,a1,?_,a3,a4⟩
  by_cases q:c=Lc
  ·subst q;rw [Bn (Be _ _)] at a2;(have zc:=Option.some.inj a2;clear a2;subst zc);exact absurd a3 (hc _)
  ·rw [AH (J4 _ q)] at a2;exact a2
theorem Ka {E:Value→Shared→Prop} {y:Str} {py spos pos:Pos} {elt:Expr} {gens:List Comprehension} {scope:Scope} {Q:A7→Al→Prop} (own:List (Str×List AV)) (res:List AV) (h:KW C A σ.hp env (Ec own σ.loc) elt gens scope pos res) (q:Q .next (σ.set y (.lst res))) (ho:autoParam (OwnOk σ own) AC.aux8._auto_1) (hk:autoParam ((σ.loc.all fun p=>Cg (env.kindOf p.1))=true) AC.aux0._auto_1)
  (hg:autoParam (env.globals=mainGlobals∧env.builtins=builtinsNs) AC.aux9._auto_1) (hy:autoParam (E3 (env.kindOf y)=true) AC.aux0._auto_1) (hsw:autoParam (swapsWith (.ListComp elt gens scope pos) (some (.Name y py)) spos.line env=Pure.pure true) AC.aux0._auto_1):Ex C A E env (.Assign [.Name y py] (.ListComp elt gens scope pos) spos) σ Q:=by
 intro F G s hR
 rw [exec_Assign_Name_used _ _ _ _ hsw]
 refine wpAny_bind (wpAny_standAt (wpAny_bind ?_))
 show wpAny _ A (do let _ ←comprehension (.ListComp elt gens scope pos) scope env (firstIterPos gens pos) (newList []) (firstAsync gens) (firstIter gens env) (some (assign (.Name y py) env))) _ _ s
 refine wpAny_bind (wpAny_mono (h F s E (some (assign (.Name y py) env)) (fun zu s'=>A0 C A G env M4 Q F Flow.next s') (hR.pctx ho hk hg) fun F' s' acc Lc hcs=>?_) (fun zu s' hq=>wpAny_pure (wpAny_pure hq)) fun zu zu x=>x)
 refine cps fun zP zk=>?_;(rcases Lc with ⟨L,cm⟩)<;>(refine zk ?_;clear zk zP)
 have nL:=hcs.nL L (.inl rfl)
 have oL0:=hcs.oL L (.inl rfl)
 have ne0:acc≠L:=fun q=>hcs.ne (.inl q)
 refine xa2_2 hcs.ac ?_;intro vs n hl hv
 have st:=hcs.st.add hl hcs.oa hcs.na
 have hR₂:=hR.pure st
 refine xa2_2 hcs.fr ?_;intro m zu hm zu
 refine xa3_3 hm ?_;(try clear hm);intro oL es ep hL hdL hkL
 dsimp only at hL
 refine xa0_3 (hR.wd.dead nL) ?_;intro z1 z2 z3
 have f2:AS F' acc { cls:=.type "list",dict:=none,data:=.seq vs.toArray n,slots:=#[] } L=none:=by rw [AA _ _ ne0.symm];exact oL0
 have a4:L≠env.locals:=by
  rintro rfl
  refine xa1_2 hR.fm.ns ?_;intro m;intro zq;refine xa3_2 zq ?_;(try clear zq);intro o zu zu hL zu;intro zu
  rw [nL] at hL;exact Aj hL
 have a5:∀x c,env.kindOf x=some .cell→env.cells.lookup x=some c→L≠c:=by
  rintro x c hx hc rfl
  refine cps fun zP zk=>?_;(rcases hR.fm.co x hx with ⟨c',g1,zu,zu,zu,zu,v,o,ho,zu⟩)<;>(refine zk ?_;clear zk zP)
  rw [hc] at g1;(have zc:=Option.some.inj g1;clear g1;subst zc)
  rw [nL] at ho;exact Aj ho
 have hR₃:=hR₂.holdDict hL f2 z2 z3 a4 a5
 show wpAny _ A (assign (.Name y py) env (.ref acc)) _ E s'
 refine wpAny_mono (Bs (x:=y) (pos:=py) (v:=.lst res) (Q:=fun σ₄=>σ₄=σ.set y (.lst res)) rfl hy _ _ s' (.ref acc) hR₃ (.lst (Au _ _ _) rfl rfl (hv.mono (Bb _ hcs.oa)))) (fun zu s₄ z=>?_) fun zu zu x=>x.elim
 refine xa2_3 z ?_;(try clear z);intro F₄ σ₄ e₄ hR₄;rintro rfl
 refine xa1_2 (hR₄.wd.gz L oL (Bn (Be _ _))) ?_;intro oL' g1 g2
 refine ⟨m,⟨oL',es,ep,g1,g2.data.trans hdL,hkL⟩,fun h' hs'=>?_⟩
 exact ⟨F₄,.next,_,st.e.trans e₄,.next,hR₄.dropDict (t:=s₄.toks) hR.fs z2 (fun v=>by rw [hdL];simp) (SameBut.rest hs'),q⟩
end
end
section
section
variable {G:FH} {σ:Al} {C:Cf} {A:Around} {s s':Shared} {env:Env} {F F':FH} {E:Value→Shared→Prop} {loc:PL}
theorem Rp.oput' {m:FH} (hR:Rp C A F G env σ s) (hm:∀b o,m b=some o→F b=none∧G b=none∧σ.hp b=none∧b≠env.locals∧∀x c,env.kindOf x=some .cell→env.cells.lookup x=some c→b≠c) (ho:∀b o,m b=some o→s.heap.get? b=some o):Dd m G∧Rp C A F (De G m) env σ s:=by
 have dj:Dd m G:=fun b o e=>(hm b o e).2.1
 have on:∀{b},(∀x,¬m b=some x)→G b=none→De G m b=none:=fun {b} h e=>by
  cases q:m b with
  |none=>rw [AH q];exact e
  |some x=>exact absurd q (h x)
 refine ⟨dj,⟨⟨hR.wd.base,hR.wd.fz,fun b o e=>?_,fun a x e=>?_,hR.wd.os,hR.wd.bare,hR.wd.gi,fun b o e=>?_⟩,⟨hR.fm.kind,hR.fm.ns,⟨hR.fm.lo.1,on (fun x q=>(hm _ _ q).2.2.2.1 rfl) hR.fm.lo.2.1,hR.fm.lo.2.2⟩,fun x hx=>?_,hR.fm.ci,hR.fm.cv,fun x av a b=>?_⟩,hR.fs.mono (CR dj)⟩⟩
 ·cases q:m b with
  |none=>rw [AH q] at e;exact hR.wd.gz b o e
  |some x=>rw [Bn q] at e;(have zc:=Option.some.inj e;clear e;subst zc);exact ⟨_,ho _ _ q,Fh.rfl' _⟩
 ·refine cps fun zP zk=>?_;(rcases hR.wd.ob a x e with ⟨p,q,o,w⟩)<;>(refine zk ?_;clear zk zP)
  exact ⟨p,on (fun y z=>by rw [(hm _ _ z).2.2.1] at e;exact Aj e) q,o,w⟩
 ·exact on (fun y z=>by rw [(hm _ _ z).1] at e;exact Aj e) (hR.wd.fg b o e)
 ·refine xa1_6 (hR.fm.co x hx) ?_;intro c g1 g2 g3 g4 g5 g6
  exact ⟨c,g1,g2,on (fun y z=>(hm _ _ z).2.2.2.2 x c hx g1 rfl) g3,g4,g5,g6⟩
 ·refine xa3_4 (hR.fm.fv x av a b) ?_;intro c v o' a1 a2 a3 a4
  exact ⟨c,v,o',a1,CR dj _ _ a2,a3,a4⟩
theorem Rp.deadApart (hR:Rp C A F G env σ s) {b:Addr} (h:s.heap.get? b=none):b≠env.locals∧∀x c,env.kindOf x=some .cell→env.cells.lookup x=some c→b≠c:=by
 refine ⟨?_,?_⟩
 ·rintro rfl
  refine xa1_2 hR.fm.ns ?_;intro m;intro zq;refine xa3_2 zq ?_;(try clear zq);intro o zu zu hL zu;intro zu
  rw [h] at hL;exact Aj hL
 ·rintro x c hx hc rfl
  refine cps fun zP zk=>?_;(rcases hR.fm.co x hx with ⟨c',g1,zu,zu,zu,zu,v,o,ho,zu⟩)<;>(refine zk ?_;clear zk zP)
  rw [hc] at g1;(have zc:=Option.some.inj g1;clear g1;subst zc)
  rw [h] at ho;exact Aj ho
theorem DU.ofItQ {target:Expr} {xs:List AV} {iv:Value} (hR:Rp C A F G env σ s) (z:HD C A σ.hp F s target xs iv s'):∃F',AE F F'∧DU C A F' G env σ target xs (fun zu=>True) iv s':=by
 refine cps fun zP zk=>?_;(rcases z with ⟨F',I,fp,wr,St,st,e,W,h0,hw⟩)<;>(refine zk ?_;clear zk zP)
 have hR':=hR.pure st
 refine xa0_2 (hR'.oput' (m:=Bg s'.heap wr) (fun b o q=>by
  refine xa0_2 (B5 q) ?_;intro hb zu
  refine xa0_2 (hw b hb) ?_;intro d1 d2
  refine xa0_3 (hR.wd.dead d1) ?_;intro zu z2 z3
  exact ⟨d2,z2,z3,hR.deadApart d1⟩) fun b o q=>(B5 q).2) ?_;intro dj hR2
 exact ⟨F',st.e,I,_,_,e,dj,hR2,⟨0,s'.heap,AE.refl F',hR'.wd.fz,h0,rfl,rfl,Nat.zero_le _⟩,CL.ofWk W⟩
noncomputable def CK (l l':List (Str×AV)):Prop:=∀x av,l.lookup x=some av→l'.lookup x=some av
theorem CK.refl (l:List (Str×AV)):CK l l:=fun zu zu e=>e
theorem Rp.weakLoc (hR:Rp C A F G env σ s) {loc:List (Str×AV)} (h:CK loc σ.loc):Rp C A F G env ⟨loc,σ.hp⟩ s:=by
 refine cps fun zP zk=>?_;(rcases hR with ⟨W,⟨kd,⟨m,hm,hv⟩,lo,co,ci,cv,fv⟩,fs⟩)<;>(refine zk ?_;clear zk zP)
 exact ⟨W,⟨kd,⟨m,hm,fun x av a b=>hv x av (h x av a) b⟩,lo,co,ci,fun x av c a=>cv x av c (h x av a),fun x av a=>fv x av (h x av a)⟩,fs⟩
noncomputable def KT (I:List (Str×AV)→HP→Prop) (σ:Al):Prop:=∃loc,CK loc σ.loc∧I loc σ.hp
noncomputable def Nx (Q:A7→Al→Prop) (I:List (Str×AV)→HP→Prop) (f:A7) (σ:Al):Prop:=
 match f with
 |.next=>KT I σ
 |.cont=>KT I σ
 |.brk=>∃loc,CK loc σ.loc∧Q .next ⟨loc,σ.hp⟩
 |.ret v=>Q (.ret v) σ
theorem Ee {E:Value→Shared→Prop} {target iter:Expr} {body:List Stmt} {pos:Pos} {xs:List AV} {Q:A7→Al→Prop} (own:List (Str×List AV)) (I:List AV→List (Str×AV)→HP→Prop) (h:PI C A σ.hp env (Ec own σ.loc) target iter xs) (h0:KT (I xs) σ)
  (turn:∀x xs loc hp,I (x::xs) loc hp→HA C A env target x ⟨loc,hp⟩ (fun σ₁=>Cd C A Bd env body σ₁ (Nx Q (I xs)))) (fin:∀loc hp,I [] loc hp→Q .next ⟨loc,hp⟩) (ho:autoParam (OwnOk σ own) AC.aux8._auto_1) (hk:autoParam ((σ.loc.all fun p=>Cg (env.kindOf p.1))=true) AC.aux0._auto_1)
  (hg:autoParam (env.globals=mainGlobals∧env.builtins=builtinsNs) AC.aux9._auto_1) (hs:autoParam (∀x,foldedSetIterable iter env x=Pure.pure x) AC.aux4._auto_1):Ex C A E env (.For target iter body [] pos) σ Q:=by
 have key:Ex C A E env (.For target iter body [] pos) σ (fun f σ'=>∃loc,CK loc σ'.loc∧Q f ⟨loc,σ'.hp⟩):=by
  intro F G s hR
  refine wpAny_For (wpAny_mono (h F s E (hR.pctx ho hk hg)) (fun v s₁ z=>wpAny_mono z (fun iv s₂ z=>?_) fun zu zu x=>x) fun zu zu x=>x) hs
  refine cps fun zP zk=>?_;(rcases DU.ofItQ hR z with ⟨F',e,it,m,P,rfl,dj,hR₂,hP,T⟩)<;>(refine zk ?_;clear zk zP)
  refine Ip T (fun xs σ=>KT (I xs) σ) (fun zu zu zu=>trivial) (fun x xs σ ⟨loc,hl,hi⟩ F G s v hR hv=>?_) (fun σ ⟨loc,hl,hi⟩=>⟨loc,hl,fin _ _ hi⟩) ⟨F',σ,m,xs,e,dj,hR₂,hP,h0,rfl⟩ fun f s' z=>z
  refine wpAny_mono (turn x xs loc σ.hp hi F G s v (hR.weakLoc hl) hv) (fun zu s' z=>?_) fun zu zu x=>x
  refine xa2_3 z ?_;(try clear z);intro F' σ' e hR' hb
  refine ⟨F',σ',e,hR',hb.mono fun f σ₃ hf=>?_⟩
  cases f with
  |next=>exact hf
  |cont=>exact hf
  |brk=>exact hf
  |ret v=>exact ⟨σ₃.loc,CK.refl _,hf⟩
 intro F G s hR
 refine wpAny_mono (key F G s hR) (fun v s' z=>?_) fun zu zu x=>x
 refine cps fun zP zk=>?_;(rcases z with ⟨F',b,σ',e,r,hR',loc,hl,hq⟩)<;>(refine zk ?_;clear zk zP)
 exact ⟨F',b,⟨loc,σ'.hp⟩,e,r,hR'.weakLoc hl,hq⟩
end
end
section
section
variable {C:Cf} {A:Around} {hp:HP} {s s':Shared} {env:Env} {F F':FH} {E:Value→Shared→Prop} {loc:PL}
mutual
noncomputable def AV.pd:AV→PyData
 |.int i=>.int i
 |.str s=>.str s
 |.tup l=>.tuple (pds l)
 |.lst l=>.list (pds l)
 |.none=>.none
 |.bool b=>.bool b
 |.bytes _=>.none
 |.ref _=>.none
 |.val _=>.none
noncomputable def pds:List AV→List PyData
 |[]=>[]
 |x::xs=>x.pd::pds xs
end
theorem IN {i}:(AV.int i).pd=.int i:=rfl
theorem IM {s}:(AV.str s).pd=.str s:=rfl
theorem IL {l}:(AV.tup l).pd=.tuple (pds l):=rfl
theorem IK {l}:(AV.lst l).pd=.list (pds l):=rfl
theorem IJ:AV.none.pd=.none:=rfl
theorem II {b}:(AV.bool b).pd=.bool b:=rfl
theorem HT:pds []=[]:=rfl
theorem HS {x xs}:pds (x::xs)=x.pd::pds xs:=rfl
mutual
inductive Cx:AV→Prop
 |none:Cx .none
 |int (i):Cx (.int i)
 |str {x}:PyData.strOk x=true→Cx (.str x)
 |tup {l}:Plns l→Cx (.tup l)
 |lst {l}:Plns l→Cx (.lst l)
inductive Plns:List AV→Prop
 |nil:Plns []
 |cons {x xs}:Cx x→Plns xs→Plns (x::xs)
end
theorem Plns.of {l:List AV} (h:∀x∈l,Cx x):Plns l:=by
 induction l with
 |nil=>exact .nil
 |cons x l ih=>exact .cons (h x (by simp)) (ih fun y hy=>h y (by simp [hy]))
theorem Plns.mem {l:List AV} (h:Plns l):∀x∈l,Cx x:=by
 induction l with
 |nil=>intro x hx;cases hx
 |cons y l ih=>
  cases h with|cons a b=>
  intro x hx
  rcases List.mem_cons.mp hx with rfl|hx
  ·exact a
  ·exact ih b x hx
theorem Plns.map {α:Type} {f:α→AV} (h:∀a,Cx (f a)) (l:List α):Plns (l.map f):=.of (by
 intro x hx
 refine xa1_2 (List.mem_map.mp hx) ?_;intro a zu;rintro rfl
 exact h a)
theorem Cx.tupI {l:List AV} (h:Cx (.tup l)):Plns l:=by cases h with|tup h=>exact h
theorem Cx.lstI {l:List AV} (h:Cx (.lst l)):Plns l:=by cases h with|lst h=>exact h
theorem Cx.lay {x:AV} (h:Cx x):x.pd.canLay0=true:=
 Cx.rec (motive_1:=fun x zu=>x.pd.canLay0=true) (motive_2:=fun l zu=>PyData.canLayAll0 (pds l)=true) rfl (fun zu=>rfl) (fun h=>h) (fun zu ih=>ih) (fun zu ih=>ih) rfl (fun {x xs} zu zu ih1 ih2=>show (x.pd.canLay0&&PyData.canLayAll0 (pds xs))=true by rw [ih1,ih2];rfl) h
noncomputable def Nh (x:AV):Prop:=∀y,Cx y→(PyData.eqv x.pd y.pd=true↔x=y)
noncomputable def N4 (l:List AV):Prop:=∀m,Plns m→(PyData.eqvAll (pds l) (pds m)=true↔l=m)
theorem JN {l:List AV} (ih:N4 l):Nh (.tup l)∧Nh (.lst l):=by
 refine ⟨fun y q=>?_,fun y q=>?_⟩
 ·cases q with
  |tup q=>simp only [IN,IM,IL,IK,IJ,II,PyData.eqv,AV.tup.injEq];exact ih _ q
  |_=>simp [IN,IM,IL,IK,IJ,II,PyData.eqv]
 ·cases q with
  |lst q=>simp only [IN,IM,IL,IK,IJ,II,PyData.eqv,AV.lst.injEq];exact ih _ q
  |_=>simp [IN,IM,IL,IK,IJ,II,PyData.eqv]
theorem Cx.eqvM {x:AV} (h:Cx x):Nh x:=
 Cx.rec (motive_1:=fun x zu=>Nh x) (motive_2:=fun l zu=>N4 l) (fun y q=>by cases (q)<;>simp [IN,IM,IL,IK,IJ,II,PyData.eqv]) (fun i y q=>by cases (q)<;>simp [IN,IM,IL,IK,IJ,II,PyData.eqv]) (fun {x} zu y q=>by cases (q)<;>simp [IN,IM,IL,IK,IJ,II,PyData.eqv])
  (fun zu ih=>(JN ih).1) (fun zu ih=>(JN ih).2) (fun m q=>by cases (q)<;>simp [HT,HS,PyData.eqvAll]) (fun {x xs} zu zu ih1 ih2 m q=>by
   cases q with
   |nil=>simp [HT,HS,PyData.eqvAll]
   |cons c d=>
    simp only [HT,HS,PyData.eqvAll,Bool.and_eq_true,List.cons.injEq]
    rw [ih1 _ c,ih2 _ d]) h
theorem Cx.eqv {x y:AV} (p:Cx x) (q:Cx y):PyData.eqv x.pd y.pd=true↔x=y:=p.eqvM y q
theorem Plns.inv {x:AV} {l:List AV} (h:Plns (x::l)):Cx x∧Plns l:=by cases h with|cons a b=>exact ⟨a,b⟩
theorem Cx.noBool {b:Bool} {P:Prop} (h:Cx (.bool b)):P:=by cases (h)
theorem Cx.noBytes {b:Array UInt8} {P:Prop} (h:Cx (.bytes b)):P:=by cases (h)
theorem Cx.noRef {b:Addr} {P:Prop} (h:Cx (.ref b)):P:=by cases (h)
theorem Cx.noVal {b:Value} {P:Prop} (h:Cx (.val b)):P:=by cases (h)
theorem VR.reads {h:Heap} (hF:∀b o,F b=some o→h.get? b=some o) {x:AV} {v:Value} (p:Cx x) (r:VR F x v):∃as,Reads h v x.pd as:=
 VR.rec (motive_1:=fun x v zu=>Cx x→∃as,Reads h v x.pd as) (motive_2:=fun l vs zu=>Plns l→∃as,ReadsAll h vs (pds l) as) (fun zu=>⟨_,.none⟩) (fun zu p=>p.noBool) (fun i t zu=>⟨_,.int i t⟩) (fun x t zu=>⟨_,.str x t⟩) (fun zu zu p=>p.noBytes)
  (fun a b c zu ih p=>(ih p.tupI).elim fun as r=>⟨_,.tuple (hF _ _ a) b c r⟩) (fun a b c zu ih p=>(ih p.lstI).elim fun as r=>⟨_,.list (hF _ _ a) b c r⟩) (fun zu p=>p.noRef) (fun zu p=>p.noVal) (fun zu=>⟨_,.nil⟩) (fun zu zu i1 i2 p=>(i1 p.inv.1).elim fun as r=>(i2 p.inv.2).elim fun bs t=>⟨_,.cons r t⟩) r p
theorem VRs.reads {h:Heap} (hF:∀b o,F b=some o→h.get? b=some o) {x:List AV} {v:List Value} (p:Plns x) (r:VRs F x v):∃as,ReadsAll h v (pds x) as:=
 VRs.ind (M:=fun l vs=>Plns l→∃as,ReadsAll h vs (pds l) as) (fun zu=>⟨_,.nil⟩) (fun a zu ih p=>(VR.reads hF p.inv.1 a).elim fun as r=>(ih p.inv.2).elim fun bs t=>⟨_,.cons r t⟩) r p
theorem VR.inj {h:Heap} (hF:∀b o,F b=some o→h.get? b=some o) {x y:AV} {v:Value} (p:Cx x) (q:Cx y) (a:VR F x v) (b:VR F y v):x=y:=by
 refine xa1_1 (a.reads hF p) ?_;intro as a
 refine xa1_1 (b.reads hF q) ?_;intro bs b
 have e:=(Reads.unique a _ _ b).1
 exact (p.eqv q).mp (by rw [←e];exact SeqAt.eqv_refl _ p.lay)
noncomputable def Dp (n:Nat) (x:AV):Prop:=x.pd.depth≤n
theorem LR {n:Nat}:∀{l:List AV},(∀x∈l,Dp n x)→PyData.depthAll (pds l)≤n
 |[],_=>by simp [HT,HS,PyData.depthAll]
 |x::l,h=>by
  simp only [HT,HS,PyData.depthAll]
  have h1:=h x (by simp)
  have h2:=LR (l:=l) fun y hy=>h y (by simp [hy])
  unfold Dp at h1
  omega
theorem Dp.int (n:Nat) (i:Int):Dp n (.int i):=Nat.zero_le _
theorem Dp.none (n:Nat):Dp n .none:=Nat.zero_le _
theorem Dp.tup {n:Nat} {l:List AV} (h:∀x∈l,Dp n x):Dp (n+1) (.tup l):=Nat.succ_le_succ (LR h)
theorem Dp.lst {n:Nat} {l:List AV} (h:∀x∈l,Dp n x):Dp (n+1) (.lst l):=Nat.succ_le_succ (LR h)
theorem Cs.reads {x:AV} {b:Bool} {v:Value} (r:Cs hp F (x,b) v) (p:Cx x) (w:Wp C A hp F s):∃as,Reads s.heap v x.pd as:=by
 cases r with
 |val r=>exact r.reads w.fz p
 |own h1=>
  cases p with|lst p=>
  refine cps fun zP zk=>?_;(rcases w.ob _ _ h1 with ⟨zu,o,h1,r⟩)<;>(refine zk ?_;clear zk zP)
  (refine OR.listC r fun zv zv q1 q2 q3 q4 q5=>?_;clear r)
  refine xa1_1 (q5.reads w.fz p) ?_;intro as r
  exact ⟨_,.list h1 q1 q4 r⟩
open Classical in
theorem Oc {x y:AV} {a b:Bool} (p:Cx x) (q:Cx y) (hd:Dp 60 x) (hu:A.units≤9000):Jn C A hp (Cs hp) (compareOp .Eq) (x,a) (y,b) (.bool (decide (x=y)),false):=fun F s E v u hin hv hw=>by
 refine xa1_1 (hv.reads p hin) ?_;intro as ra
 refine xa1_1 (hw.reads q hin) ?_;intro bs rb
 refine SeqAt.compareEq_reads ra rb p.lay q.lay (by unfold Dp at hd;have:cLine=9900:=rfl;omega) (CB.here (t:=s.toks) hin (.val ?_))
 rw [show PyData.eqv x.pd y.pd=decide (x=y) from by rw [Bool.eq_iff_iff,p.eqv q,decide_eq_true_iff]]
 exact .bool _
open Classical in
theorem Pu {x y:AV} {a b:Bool} (p:Cx x) (q:Cx y) (hd:Dp 60 x) (hu:A.units≤9000):Jn C A hp (Cs hp) (compareOp .NotEq) (x,a) (y,b) (.bool (!decide (x=y)),false):=fun F s E v u hin hv hw=>by
 refine xa1_1 (hv.reads p hin) ?_;intro as ra
 refine xa1_1 (hw.reads q hin) ?_;intro bs rb
 refine SeqAt.compareNe_reads ra rb p.lay q.lay (by unfold Dp at hd;have:cLine=9900:=rfl;omega) (CB.here (t:=s.toks) hin (.val ?_))
 rw [show PyData.eqv x.pd y.pd=decide (x=y) from by rw [Bool.eq_iff_iff,p.eqv q,decide_eq_true_iff]]
 exact .bool _
open Classical in
theorem Pv {x:AV} {ys:List AV} {a b:Bool} (p:Cx x) (q:Plns ys) (hd:Dp 60 x) (hu:A.units≤9000):Jn C A hp (Cs hp) (compareOp .In) (x,a) (.lst ys,b) (.bool (decide (x∈ys)),false):=fun F s E v u hin hv hw=>by
 refine xa4_6 (hw.lstI hin) ?_;intro l;intro zq;refine cps fun zP zk=>?_;(rcases zq with ⟨cls,dd,data,sl⟩)<;>(refine zk ?_;clear zk zP);intro vs n;rintro rfl;intro ho hc hdt hvs zu
 dsimp only at hc hdt
 subst hc hdt
 refine xa1_1 (hv.reads p hin) ?_;intro bs rb
 have hm:∀w∈vs,∃y∈ys,VR F y w:=by
  intro w hw
  refine xa1_1 (List.mem_iff_getElem?.mp hw) ?_;intro i hi
  have hlt:i<ys.length:=by rw [←hvs.length];exact (List.getElem?_eq_some_iff.mp hi).1
  refine xa1_2 (hvs.get (i:=i) (x:=ys[i]) (by simp [hlt])) ?_;intro w' h1 h2
  rw [hi] at h1;(have zc:=Option.some.inj h1;clear h1;subst zc)
  exact ⟨_,List.getElem_mem hlt,h2⟩
 have hm':∀y∈ys,∃w∈vs,VR F y w:=by
  intro y hy
  refine xa1_1 (List.mem_iff_getElem?.mp hy) ?_;intro i hi
  refine xa1_2 (hvs.get hi) ?_;intro w h1 h2
  exact ⟨w,List.mem_iff_getElem?.mpr ⟨i,h1⟩,h2⟩
 refine SeqRoads2.in_meets ⟨_,ho,rfl⟩ PySem.F.slot_list_contains PySem.F.entry_list_contains (PySem.F.args_list_contains_2 _ _) (SeqAt.list_containsAt l vs.toArray n dd sl v (fun w=>decide (VR F x w))) ⟨ho,fun w hw=>?_,_,rfl,CB.here (t:=s.toks) hin (.val ?_)⟩
 ·refine xa1_2 (hm w (by simpa using hw)) ?_;intro y hy hyw
  have py:=q.mem y hy
  refine xa1_1 (hyw.reads hin.fz py) ?_;intro as ra
  intro prog w' E' Q' hQ'
  refine SeqAt.eqBoolOverData prog w' A.in1 E' s w v _ _ as bs Q' ra rb py.lay p.lay ?_ ?_
  ·unfold Dp at hd
   have h1:cLine=9900:=rfl
   have h2:A.in1.units≤A.units+1:=by simp [Around.in1]
   omega
  ·have:PyData.eqv y.pd x.pd=decide (VR F x w):=by
    rw [Bool.eq_iff_iff,py.eqv p,decide_eq_true_iff]
    constructor
    ·rintro rfl;exact hyw
    ·intro hx;exact VR.inj hin.fz py p hyw hx
   rw [this];exact hQ'
 ·have e:(vs.toArray.any fun w=>decide (VR F x w))=decide (x∈ys):=by
   rw [Bool.eq_iff_iff]
   simp only [List.any_toArray,List.any_eq_true,decide_eq_true_eq]
   constructor
   ·(intro zr;refine xa1_2 zr ?_;(try clear zr);intro w hw hxw)
    refine xa1_2 (hm w hw) ?_;intro y hy hyw
    rw [VR.inj hin.fz p (q.mem y hy) hxw hyw];exact hy
   ·intro hx;exact hm' x hx
  rw [e]
  exact .bool _
theorem NV {a b:Int} (hA:A.handled=none):PK C A hp (.builtin "max") [(.int a,false),(.int b,false)] (.int (max a b),false):=fun F s E us hin r=>by
 refine xa2_3 r.inv ?_;intro v us;rintro rfl;intro r1 r
 refine xa2_3 r.inv ?_;intro v2 us;rintro rfl;intro r2 r
 obtain rfl:=r.nilI
 refine xa1_1 r1.out.intI ?_;intro t;rintro rfl
 refine xa1_1 r2.out.intI ?_;intro t2;rintro rfl
 refine max_two_ints hA fun h' tk hk=>?_
 have st:=BC.keep (t:=tk) hin hk
 split
 ·rename_i q;rw [Int.max_eq_right (by omega)];exact ⟨F,st,.val (.int _ _)⟩
 ·rename_i q;rw [Int.max_eq_left (by omega)];exact ⟨F,st,.val (.int _ _)⟩
end
end
section
section
variable {C:Cf} {A:Around} {s:Shared} {F G:FH} {env:Env} {E:Value→Shared→Prop} {hp:HP} {loc:PL}
inductive Mq:Bool→AV→AV→Prop
 |no {v}:Mq false v v
end
end
section
variable {C:Cf} {A:Around} {E:Value→Shared→Prop}
@[reducible] noncomputable def Al.v (σ:Al) (x:Str):Option AV:=σ.loc.lookup x
theorem NK {X:Af} (h:X.Ph1) {u:Ag} (hu:u∈X.D) {c:Aw} {q:Ag} (e:X.look u c=some q):q=u++[c]∧q∈X.D:=by
 by_cases m:u++[c]∈X.D
 ·rw [h.kid1 u hu c m] at e;(have zc:=Option.some.inj e;clear e;subst zc);exact ⟨rfl,m⟩
 ·rw [h.kid0 u hu c m] at e;exact Aj e
inductive P9 (X:Af) (t d:Addr) (ci:Bool) (h0:HP) (w:Ag) (kw:AV) (zx:AV) (zy:Al) (xs:List AV) (σ':Al):Prop
 |mk (u rest:Ag) (X':Af) (h1:xs=rest.map Aw.av) (h2:w=u++rest) (h3:X'.Ph1) (h4:AK X' t d false ci σ'.hp) (h5:Cc (Fp X t d) h0 (Fp X' t d) σ'.hp) (h6:∀p,p∈X'.D↔p∈X.D∨p <+: u)
  (h7:X'.key=X.key) (h8:X'.D.length≤X.D.length+u.length) (h9:X'.A []=X.A []) (h10:σ'.v "self" = some (.ref t)) (h11:σ'.v "original_keyword" = some kw) (h12:σ'.v "current_state" = some (.ref (X'.A u)))
theorem Mg (T:Tp C) {r:FdRest} {L:Addr} {X:Af} {t d:Addr} {ci:Bool} {kw kw':AV} {w:Ag} {σ:Al} (hA:A.handled=none) (hroom:A.depth+1<recursionLimit)
  (hX:X.Ph1) (hr:AK X t d false ci σ.hp) (hs:DJ kw' (w.map Aw.av) σ.hp) (sep:∀a,kw'=.ref a→¬Fp X t d a) (hz:X.D.length+w.length≤4000) (hk:∀u,kw≠.val u)
  (l1:σ.v "self" = some (.ref t)) (l2:σ.v "keyword" = some kw') (l3:σ.v "original_keyword" = some kw) {Q:A7→Al→Prop}
  (h1:∀σ',HB X w kw t d ci σ.hp σ'.hp→Q .next σ') (h2:∀σ',HB X w kw t d ci σ.hp σ'.hp→Q (.ret .none) σ') :
  Cd C A Bd (callEnv (r.fd Ji .none) L 66) (Ji.body.drop 3) σ Q:=by
 have hw0:(w.map Aw.av).length=w.length:=List.length_map ..
 refine Aa (Bq (Bi (AZ (C5 T.g_len (Ay (Ab l2 (At (A6 (JH hs (D0 (NX ⟨_,rfl,?_⟩)))))))))))
 rw [hw0]
 by_cases hwn:w=[]
 ·subst hwn
  rw [if_pos (by simp)]
  refine Aa (Dz ?_)
  refine h2 σ ⟨X,hX,hr,Cc.refl _ _,fun p=>?_,fun p=>?_,Nat.le_refl _,rfl⟩
  ·constructor
   ·exact .inl
   ·rintro (x|x)
    ·exact x
    ·simp at x;subst x;exact hX.wf.root
  ·simp
 rw [if_neg (by
  have:0<w.length:=List.length_pos_iff.mpr hwn
  simp;assumption)]
 refine An ?_
 refine Aa (Ah (As (Ab l1 (BG T.n_zero hr.tree hr.ns rfl ?_))))
 refine Aa (H7 (fun zu zu hp=>DJ kw' (w.map Aw.av) hp)
  (P9 X t d ci σ.hp w kw)
  (Ab (Ai l2) ⟨w.map Aw.av,LE hs CQ hA,?_⟩) ?_ ?_ ?_)
 ·exact ⟨[],w,X,rfl,rfl,hX,hr,Cc.refl _ _,fun p=>⟨.inl,fun x=>x.elim id (fun y=>by simp at y;subst y;exact hX.wf.root)⟩,rfl,Nat.le_refl _,rfl,Ai l1,Ai l3,Ax⟩
 ·(rintro zu zu xs σ';intro zr;refine cps fun zP zk=>?_;(rcases zr with ⟨zu,zu,zu,zu,zu,zu,zu,h,zu,zu,zu,zu,zu,zu,zu⟩)<;>(refine zk ?_;clear zk zP))
  exact hs.fr sep h
 ·(rintro zu zu x xs σ';intro zr;refine cps fun zP zk=>?_;(rcases zr with ⟨u,rest,X',e1,e2,hX',hr',hf',hD',hk',hz',ha',m1,m3,m4⟩)<;>(refine zk ?_;clear zk zP))
  obtain ⟨c,rest',rfl,rfl,rfl⟩:∃c rest',rest=c::rest'∧x=c.av∧xs=rest'.map Aw.av:=by
   cases rest with
   |nil=>cases e1
   |cons c rest'=>simp only [List.map_cons,List.cons.injEq] at e1;exact ⟨c,rest',rfl,e1.1,e1.2⟩
  have hu:u∈X'.D:=(hD' u).mpr (.inr (List.prefix_refl u))
  refine xa1_1 (hr'.td u hu) ?_;intro ep htd
  refine Bs ?_
  refine Tr.gen fun K hK=>?_
  refine Aa (Js T.sysm hA T.g_KE (As (Ab (Ai m4) (B2 T.s_tr (hr'.nd u hu) rfl (Ab Ax ⟨_,_,ep,c,rfl,htd,rfl,?_,?_⟩)))))
  ·intro v hv
   rw [Af.at_trv] at hv
   refine xa1_2 (Option.map_eq_some_iff.mp hv) ?_;intro q hq;rintro rfl
   refine xa0_2 (NK hX' hu hq) ?_;rintro rfl;intro hqD
   refine An (hK _ _ ?_)
   refine ⟨u++[c],rest',X',rfl,by simp [e2],hX',hr',hf',fun p=>?_,hk',?_,ha',Ai (Ai m1),Ai (Ai m3),Ax⟩
   ·rw [hD' p]
    constructor
    ·exact Or.imp_right (fun x=>x.trans (List.prefix_append ..))
    ·rintro (x|x)
     ·exact .inl x
     ·rcases List.prefix_concat_iff.mp x with rfl|y
      ·exact (hD' _).mp hqD
      ·exact .inr y
   ·simp;exact A8 [_,_,_] [(1,Z0,(Za Z1 Z2))] Z0 (Za Z1 (Zs Z2)) rfl hz'
  ·intro hn e
   rw [Af.at_trv] at hn
   have hlk:=Option.map_eq_none_iff.mp hn
   have hnD:u++[c]∉X'.D:=fun m=>by rw [hX'.kid1 u hu c m] at hlk;exact Ap hlk
   refine Aa (Ah (AZ (Db T.g_State (Ay (As (Ab (Ai m1) (BG T.n_cnt hr'.tree hr'.ns rfl (At (N1 (Ab (Ai m4) (N1 (Ab Ax (A6 (DF T.mkS (GK T (by exact hroom) (.inl rfl) ?_)))))))))))))))
   intro a b hp1 ha hb hba q1 q2 q3
   have hta:t≠a:=fun zE=>by (first|rw [zE,show (σ'.set "char" c.av).hp=σ'.hp from rfl,hr'.tree] at ha|rw [←zE,show (σ'.set "char" c.av).hp=σ'.hp from rfl,hr'.tree] at ha);exact Ap ha
   have htb:t≠b:=fun zE=>by (first|rw [zE,show (σ'.set "char" c.av).hp=σ'.hp from rfl,hr'.tree] at hb|rw [←zE,show (σ'.set "char" c.av).hp=σ'.hp from rfl,hr'.tree] at hb);exact Ap hb
   have hda:d≠a:=fun zE=>by (first|rw [zE,show (σ'.set "char" c.av).hp=σ'.hp from rfl,hr'.ns] at ha|rw [←zE,show (σ'.set "char" c.av).hp=σ'.hp from rfl,hr'.ns] at ha);exact Ap ha
   have hdb:d≠b:=fun zE=>by (first|rw [zE,show (σ'.set "char" c.av).hp=σ'.hp from rfl,hr'.ns] at hb|rw [←zE,show (σ'.set "char" c.av).hp=σ'.hp from rfl,hr'.ns] at hb);exact Ap hb
   have hAa:X'.A u≠a:=fun e=>by rw [←e,show (σ'.set "char" c.av).hp=σ'.hp from rfl,hr'.nd u hu] at ha;exact Ap ha
   have hAb:X'.A u≠b:=fun e=>by rw [←e,show (σ'.set "char" c.av).hp=σ'.hp from rfl,hr'.nd u hu] at hb;exact Ap hb
   have hTa:X'.T u≠a:=fun e=>by rw [←e,show (σ'.set "char" c.av).hp=σ'.hp from rfl,htd] at ha;exact Ap ha
   have hTb:X'.T u≠b:=fun e=>by rw [←e,show (σ'.set "char" c.av).hp=σ'.hp from rfl,htd] at hb;exact Ap hb
   refine xa0_6 (Af.Wf.dist hr' hu hu) ?_;intro d1 d2 d3 d4 d5 d6
   have g1:hp1 t=some (.inst 125 d):=(q3 t hta htb).trans hr'.tree
   have g2:hp1 d=some (.ns (EH (X'.A []) X'.D.length false ci)):=(q3 d hda hdb).trans hr'.ns
   have g3:hp1 (X'.A u)=some (X'.nodeAO u):=(q3 _ hAa hAb).trans (hr'.nd u hu)
   have g4:hp1 (X'.T u)=some (.dict (X'.trv u) ep):=(q3 _ hTa hTb).trans htd
   refine Aa (I2 (Ab (Ai (Ai m1)) (BG T.n_cnt g1 g2 rfl (D0 (Ik (Di T.n_cnt g1 g2 ?_ (hz:=Nat.le_of_ble_eq_true (by rfl))))))))
   refine Aa (Bh (Ab Ax (As (Ab (Ai (Ai m4)) (B2 T.s_tr ((Ad _ _ d3).trans g3) rfl (Ab (Ai Ax) (Iu ((Ad _ _ d5).trans g4) ?_ ?_)))))))
   ·have:=hX'.wf.trlen hu
    simp only [Af.trv,List.length_map]
    have:u.length≤w.length:=by rw [e2];simp
    exact A8 [_,_,_,_,_] [(1,(Za Z1 Z2),(Zn 4000)),(1,Z3,(Za Z1 Z4)),(1,Z0,Z3),(1,Z4,Z2)] Z0 (Zn 4096) rfl hz hz' (by assumption) this
   intro ep'
   refine Aa (Ah (Ab Ax (An (An (hK _ _ ?_)))))
   have hst:FO (X'.trv u) c (.ref a)=X'.trv u++[(c,.ref a)]:=by
    have:(X'.trv u).any (fun p=>p.1=c)=false:=by
     rw [List.any_eq_false]
     intro p hp
     refine xa1_2 (List.mem_map.mp hp) ?_;intro e' he';rintro rfl
     simpa using CU hlk e' he'
    simp only [FO,this];rfl
   refine xa0_3 (LF (hp':=upd (upd hp1 d (.ns (EH (X'.A []) (X'.D.length+1) false ci))) (X'.T u) (.dict (X'.trv u++[(c,.ref a)]) ep')) hX' hr' hu hnD ha hb hba
    (by rw [Ad _ _ hTa.symm,Ad _ _ hda.symm];exact q1) (by rw [Ad _ _ hTb.symm,Ad _ _ hdb.symm];exact q2) (by rw [Ad _ _ d5.symm,Ae]) ⟨ep',Ae _ _ _⟩
    (fun x x1 x2 x3 x4=>by rw [Ad _ _ x4,Ad _ _ x3];exact q3 x x1 x2)) ?_;intro w1 w2 w3
   refine ⟨u++[c],rest',X'.grow u c a b,rfl,by simp [e2],w1,?_,hf'.trans ?_,fun p=>?_,hk',?_,?_,?_,?_,?_⟩
   ·rw [hst];exact w2
   ·rw [hst];exact w3
   ·simp only [Af.grow,List.mem_append,List.mem_singleton,hD' p]
    constructor
    ·rintro ((x|x)|x)
     ·exact .inl x
     ·exact .inr (x.trans (List.prefix_append ..))
     ·rw [x];exact .inr (List.prefix_refl _)
    ·rintro (x|x)
     ·exact .inl (.inl x)
     ·rcases List.prefix_concat_iff.mp x with y|y
      ·exact .inr y
      ·exact .inl (.inr y)
   ·simp only [Af.grow,List.length_append,List.length_singleton];exact A8 [_,_,_] [(1,Z0,(Za Z1 Z2))] (Zs Z0) (Za Z1 (Zs Z2)) rfl hz'
   ·rw [←ha'];exact if_neg (by simp)
   ·exact Ai (Ai (Ai m1))
   ·exact Ai (Ai (Ai m3))
   ·rw [show (X'.grow u c a b).A (u++[c])=a from if_pos rfl];exact Ax
 ·(rintro zu zu σ';intro zr;refine cps fun zP zk=>?_;(rcases zr with ⟨u,rest,X',e1,e2,hX',hr',hf',hD',hk',hz',ha',m1,m3,m4⟩)<;>(refine zk ?_;clear zk zP))
  have:rest=[]:=by cases rest with|nil=>rfl|cons=>cases e1
  subst this
  simp at e2;subst e2
  have hw:w∈X'.D:=(hD' w).mpr (.inr (List.prefix_refl w))
  refine Aa (Ao (FB (Ab m4 (Bm T.s_suc (hr'.nd w hw) ?_))))
  refine Aa (Ao (Ab m3 (Ab m4 (Bm T.s_mk (Ae _ _ _) ?_))))
  refine An (h1 _ ?_)
  refine xa0_2 (IF hX' hr' hw hk) ?_;intro w1 w2
  have hn:AO.slot 34 (setSlot (setSlot [some (.int (X'.D.idxOf w)),some (X'.lssv w),some ((X'.key w).getD .none),X'.out w,some (X'.parv w),some (.bool (X'.key w).isSome),some (FJ w),some (.ref (X'.T w))] 5 (.bool true)) 2 kw)=(X'.setKey w kw).nodeAO w:=by
   have:(X'.setKey w kw).key w=some kw:=if_pos rfl
   simp only [Af.nodeAO,this]
   simp [setSlot,Ew,Af.setKey,Af.lssv,Af.parv]
  refine ⟨X'.setKey w kw,w1,?_,⟨fun x hx hP=>?_,hf'.grow⟩,hD',fun p=>?_,hz',ha'⟩
  ·have:upd (upd σ'.hp (X'.A w) (.slot 34 (setSlot [some (.int (X'.D.idxOf w)),some (X'.lssv w),some ((X'.key w).getD .none),X'.out w,some (X'.parv w),some (.bool (X'.key w).isSome),some (FJ w),some (.ref (X'.T w))] 5 (.bool true)))) (X'.A w)
     (.slot 34 (setSlot (setSlot [some (.int (X'.D.idxOf w)),some (X'.lssv w),some ((X'.key w).getD .none),X'.out w,some (X'.parv w),some (.bool (X'.key w).isSome),some (FJ w),some (.ref (X'.T w))] 5 (.bool true)) 2 kw))=upd σ'.hp (X'.A w) ((X'.setKey w kw).nodeAO w):=by
    rw [hn];funext b;simp only [upd];split<;>rfl
   have w2:=w2
   rw [←this] at w2
   exact w2
  ·have:x≠X'.A w:=by
    rintro rfl
    rcases hf'.grow _ (.inr (.inr ⟨w,hw,.inl rfl⟩)) with q|q
    ·exact hP q
    ·exact hx q
   exact ((Ad _ _ this).trans (Ad _ _ this)).trans (hf'.keep x hx hP)
  ·simp only [Af.setKey,hk']
   simp [hwn]
theorem Oe (T:Tp C) {X:Af} {t d:Addr} {ci:Bool} {kw kw':AV} {w:Ag} {hp:HP} (hA:A.handled=none) (hroom:A.depth+2<recursionLimit)
  (hX:X.Ph1) (hr:AK X t d false ci hp) (hlo:Mq ci kw kw') (hs:DJ kw' (w.map Aw.av) hp) (sep:∀a,kw'=.ref a→¬Fp X t d a) (hz:X.D.length+w.length≤4000) (hk:∀u,kw≠.val u) :
  Fn C A (.ref 66) [.ref t,kw] [] hp (fun v hp'=>v=.none∧HB X w kw t d ci hp hp'):=by
 refine xa1_1 T.f_add ?_;intro r hf
 refine Da (body:=Ji.body) hf (KL C r _ _) (fun L=>?_) (by with_reducible exact FY ‹_›) (by kernel_rfl) (by kernel_rfl) (by kernel_rfl) (by kernel_rfl) (by kernel_rfl)
 refine Aa (Bq (B4 (As (Ab rfl (BG T.n_fin hr.tree hr.ns rfl (Bl (An ?_)))))))
 refine Aa (Ah (Ab rfl ?_))
 cases hlo with
 |no=>
  refine Aa (Bq (B4 (As (Ab rfl (BG T.n_ci hr.tree hr.ns rfl (Bl (An ?_)))))))
  show Cd C _ Bd _ (Ji.body.drop 3) _ _
  refine Mg T ?_ ?_ hX hr hs sep hz hk ?_ ?_ ?_ (fun σ' h=>⟨rfl,h⟩) (fun σ' h=>⟨rfl,h⟩)
  ·exact hA
  ·exact hroom
  ·rfl
  ·rfl
  ·rfl
end
section
noncomputable def Cj (D:List Ag):Ag→Ag
 |[]=>[]
 |c::p=>if (c::p)∈D then c::p else Cj D p
theorem FN {D:List Ag}:Cj D []=[]:=rfl
theorem EX {D:List Ag} {c:Aw} {p:Ag}:Cj D (c::p)=if (c::p)∈D then c::p else Cj D p:=rfl
noncomputable def Ct (D:List Ag) (p:Ag):Ag:=Cj D p.tail
noncomputable def DQ (D:List Ag):Ag→Aw→Option Ag
 |[],_=>none
 |x::p,c=>if (x::p)++[c]∈D then some ((x::p)++[c]) else DQ D p c
theorem BX {D:List Ag} {c:Aw}:DQ D [] c=none:=rfl
theorem BW {D:List Ag} {c x:Aw} {p:Ag}:DQ D (x::p) c=if (x::p)++[c]∈D then some ((x::p)++[c]) else DQ D p c:=rfl
noncomputable def Ed (D:List Ag) (p:Ag) (c:Aw):Option Ag:=if p++[c]∈D then some (p++[c]) else none
noncomputable def By (D:List Ag) (p:Ag) (c:Aw):Option Ag:=if p=[] then Ed D [] c else DQ D p c
structure PC (D:List Ag):Prop where
 root:[]∈D
 closed:∀p c,p++[c]∈D→p∈D
theorem Af.Wf.pc {X:Af} (h:X.Wf):PC X.D:=⟨h.root,h.closed⟩
variable {D:List Ag}
theorem C2 (h:PC D):∀p,Cj D p∈D
 |[]=>h.root
 |c::p=>by
  simp only [FN,EX];split
  ·assumption
  ·exact C2 h p
theorem DX:∀p,Cj D p <:+ p
 |[]=>List.suffix_refl _
 |c::p=>by
  simp only [FN,EX];split
  ·exact List.suffix_refl _
  ·exact (DX p).trans (List.suffix_cons ..)
theorem J2:∀p q,q∈D→q <:+ p→q <:+ Cj D p
 |[],q,_,h=>by simp at h;subst h;exact List.suffix_refl _
 |c::p,q,hq,h=>by
  simp only [FN,EX];split
  ·exact h
  ·rename_i hn
   rcases List.suffix_cons_iff.mp h with rfl|h'
   ·exact absurd hq hn
   ·exact J2 p q hq h'
theorem FM {p:Ag} (h:p∈D):Cj D p=p:=by
 cases p with
 |nil=>rfl
 |cons c p=>simp [FN,EX,h]
theorem D9 (h:PC D) (c:Aw):∀p,DQ D p c=DQ D (Cj D p) c
 |[]=>rfl
 |x::p=>by
  by_cases hm:(x::p)∈D
  ·rw [FM hm]
  ·have:(x::p)++[c]∉D:=fun q=>hm (h.closed _ _ q)
   rw [show Cj D (x::p)=Cj D p by simp [FN,EX,hm],←D9 h c p]
   simp only [BX,BW];rw [if_neg this]
theorem BD (c:Aw):∀p,Cj D (p++[c])=(DQ D p c).getD (if [c]∈D then [c] else [])
 |[]=>by simp [FN,EX,BX,BW]
 |x::p=>by
  have e:(x::p)++[c]=x::(p++[c]):=rfl
  simp only [BX,BW]
  by_cases hm:(x::p)++[c]∈D
  ·rw [if_pos hm,FM hm];rfl
  ·rw [if_neg hm,←BD c p,e,EX,if_neg (by rw [←e];exact hm)]
theorem J1 (h:PC D) (p:Ag) (c:Aw):Cj D (p++[c])=Cj D (Cj D p++[c]):=by
 rw [BD,BD,←D9 h]
theorem IU {p:Ag} {c:Aw} {q:Ag} (h:DQ D p c=some q):q∈D∧∃r,q=r++[c]∧r <:+ p∧r≠[]:=by
 induction p with
 |nil=>exact Aj h
 |cons x p ih=>
  simp only [BX,BW] at h
  split at h
  ·(have zc:=Option.some.inj h;clear h;subst zc);rename_i hm;exact ⟨hm,x::p,rfl,List.suffix_refl _,by simp⟩
  ·refine cps fun zP zk=>?_;(rcases ih h with ⟨a,r,b,d,e⟩)<;>(refine zk ?_;clear zk zP)
   exact ⟨a,r,b,d.trans (List.suffix_cons ..),e⟩
theorem EP {p:Ag} {c:Aw} {q:Ag} (h:By D p c=some q):q∈D∧∃r,q=r++[c]∧r <:+ p:=by
 simp only [By] at h
 split at h
 ·simp only [Ed] at h
  split at h
  ·(have zc:=Option.some.inj h;clear h;subst zc);rename_i hm;exact ⟨hm,[],rfl,List.nil_suffix⟩
  ·exact Aj h
 ·refine cps fun zP zk=>?_;(rcases IU h with ⟨a,r,b,d,zu⟩)<;>(refine zk ?_;clear zk zP)
  exact ⟨a,r,b,d⟩
theorem Ky (h:PC D) {p:Ag} (hp:p≠[]) (c:Aw):By D p c=(Ed D p c).or (if Ct D p=[] then none else By D (Ct D p) c):=by
 obtain ⟨x,q,rfl⟩:∃x q,p=x::q:=by
  cases p with
  |nil=>exact absurd rfl hp
  |cons x q=>exact ⟨x,q,rfl⟩
 simp only [By,Ct,List.tail_cons,Ed,if_neg hp,BX,BW]
 by_cases hm:(x::q)++[c]∈D
 ·rw [if_pos hm];simp only [if_pos hm];rfl
 ·rw [if_neg hm];simp only [if_neg hm]
  rw [D9 h]
  by_cases hs:Cj D q=[]
  ·simp [hs,BX,BW]
  ·simp [hs]
theorem DY {p:Ag}:Ct D p <:+ p:=(DX p.tail).trans (List.tail_suffix p)
theorem D6 {p:Ag} (hp:p≠[]):(Ct D p).length<p.length:=by
 have h1:=(DX (D:=D) p.tail).length_le
 have h2:0<p.length:=List.length_pos_iff.mpr hp
 simp only [Ct]
 rw [List.length_tail] at h1;exact C0 [_,_,_] [(1,Z0,Z2),(1,(Zs Z2),Z1)] Z0 Z1 rfl h1 (Nat.le_of_eq (Nat.sub_add_cancel (A8 [_] [(1,(Zs (Zn 0)),Z0)] (Zn 1) Z0 rfl h2)))
theorem J5 {p q:Ag} (hq:q∈D) (h:q <:+ p) (hne:q≠p):q <:+ Ct D p:=by
 cases p with
 |nil=>simp at h;exact absurd h hne
 |cons x p=>
  rcases List.suffix_cons_iff.mp h with e|e
  ·exact absurd e hne
  ·exact J2 p q hq e
theorem Kq (h:PC D) {q:Ag} (hq:q≠[]) (c:Aw):Ct D (q++[c])=Cj D (Ct D q++[c]):=by
 obtain ⟨x,q,rfl⟩:∃x q',q=x::q':=by
  cases q with
  |nil=>exact absurd rfl hq
  |cons x q=>exact ⟨x,q,rfl⟩
 simp only [Ct,List.cons_append,List.tail_cons]
 exact J1 h q c
theorem Ho {r:Ag} {c:Aw} {x:Ag} (h:By D r c=some x):Cj D (r++[c])=x:=by
 rw [BD]
 simp only [By] at h
 split at h
 ·rename_i e;subst e
  simp only [Ed] at h
  split at h
  ·(have zc:=Option.some.inj h;clear h;subst zc);rename_i hm;simp only [BX,BW,Option.getD_none];exact if_pos hm
  ·exact Aj h
 ·rw [h];rfl
theorem Ie {c:Aw} (h:By D [] c=none):Cj D ([]++[c])=[]:=by
 rw [BD]
 simp only [By,Ed] at h
 simp only [BX,BW,Option.getD_none]
 rw [if_neg]
 intro hm
 simp [hm] at h
theorem L6 (hc:PC D) {r:Ag} {c:Aw} (hr:r≠[]) (h:By D r c=none):Cj D (r++[c])=Cj D (Ct D r++[c]):=by
 obtain ⟨x,r,rfl⟩:∃x r',r=x::r':=by
  cases r with
  |nil=>exact absurd rfl hr
  |cons x q=>exact ⟨x,q,rfl⟩
 rw [BD,BD]
 simp only [Ct,List.tail_cons]
 rw [←D9 hc]
 simp only [By,if_neg hr] at h
 rw [h]
 simp only [BX,BW] at h
 split at h
 ·exact Ap h
 ·rw [h]
noncomputable def Af.UD (X:Af) (p:Ag):Prop:=X.lss p=none∧∀c,X.look p c=Ed X.D p c
noncomputable def Af.DN (X:Af) (p:Ag):Prop:=X.lss p=some (Ct X.D p)∧∀c,X.look p c=By X.D p c
noncomputable def Af.AD (X:Af) (p:Ag):Prop:=∀r,r <:+ p→r∈X.D→X.DN r
structure Af.Same (X X':Af):Prop where
 D:X'.D=X.D
 A:X'.A=X.A
 T:X'.T=X.T
 key:X'.key=X.key
 out:X'.out=X.out
theorem Af.Same.refl (X:Af):X.Same X:=⟨rfl,rfl,rfl,rfl,rfl⟩
theorem Af.Same.trans {X Y Z:Af} (a:X.Same Y) (b:Y.Same Z):X.Same Z:=⟨b.D.trans a.D,b.A.trans a.A,b.T.trans a.T,b.key.trans a.key,b.out.trans a.out⟩
theorem Af.Same.fp {X Y:Af} (a:X.Same Y) (t d:Addr):Fp Y t d=Fp X t d:=by
 funext x;simp only [Fp,a.D,a.A,a.T]
noncomputable def Af.Stay (X X':Af) (x:Ag):Prop:=X'.lss x=X.lss x∧X'.tr x=X.tr x
theorem Af.Stay.dn {X X':Af} (s:X.Same X') {x:Ag} (h:X.Stay X' x) (hd:X.DN x):X'.DN x:=by
 refine ⟨by rw [h.1,s.D];exact hd.1,fun c=>?_⟩
 rw [s.D,←hd.2 c];simp only [Af.look,h.2]
theorem Af.Stay.ud {X X':Af} (s:X.Same X') {x:Ag} (h:X.Stay X' x) (hd:X.UD x):X'.UD x:=by
 refine ⟨by rw [h.1];exact hd.1,fun c=>?_⟩
 rw [s.D,←hd.2 c];simp only [Af.look,h.2]
structure Af.Step (X X':Af):Prop where
 same:X.Same X'
 all:∀x∈X.D,X.Stay X' x∨X'.AD x
theorem Af.Step.refl (X:Af):X.Step X:=⟨.refl X,fun zu zu=>.inl ⟨rfl,rfl⟩⟩
theorem Af.Step.dn {X X':Af} (s:X.Step X') {x:Ag} (hx:x∈X.D) (h:X.DN x):X'.DN x:=by
 rcases s.all x hx with a|a
 ·exact a.dn s.same h
 ·exact a x (List.suffix_refl x) (s.same.D▸hx)
theorem Af.Step.ad {X X':Af} (s:X.Step X') {x:Ag} (h:X.AD x):X'.AD x:=fun r hr hD=>by
 have hD':r∈X.D:=s.same.D▸hD
 exact s.dn hD' (h r hr hD')
theorem Af.Step.trans {X Y Z:Af} (a:X.Step Y) (b:Y.Step Z):X.Step Z:=by
 refine ⟨a.same.trans b.same,fun x hx=>?_⟩
 rcases b.all x (a.same.D▸hx) with h|h
 ·rcases a.all x hx with h'|h'
  ·exact .inl ⟨h.1.trans h'.1,h.2.trans h'.2⟩
  ·exact .inr (b.ad h')
 ·exact .inr h
noncomputable def Af.setLss (X:Af) (p q:Ag):Af:={ X with lss:=fun x=>if x=p then some q else X.lss x }
noncomputable def Af.setTr (X:Af) (p:Ag) (m:List (Aw×Ag)):Af:={ X with tr:=fun x=>if x=p then m else X.tr x }
noncomputable def Af.setOut (X:Af) (p:Ag) (v:AV):Af:={ X with out:=fun x=>if x=p then some v else X.out x }
theorem JB {X X':Af} {t d:Addr} {fin ci:Bool} {hp:HP} (hr:AK X t d fin ci hp) {p:Ag} (hp':p∈X.D) (hD:X'.D=X.D) (hA:X'.A=X.A) (hT:X'.T=X.T) (htr:X'.tr=X.tr)
  (hn:∀x∈X.D,x≠p→X'.nodeAO x=X.nodeAO x):AK X' t d fin ci (upd hp (X.A p) (X'.nodeAO p)):=by
 have ds:=fun q hq=>Af.Wf.dist hr hp' (q:=q) hq
 refine ⟨?_,?_,?_,?_⟩
 ·rw [Ad _ _ (ds p hp').2.1.symm];exact hr.tree
 ·rw [Ad _ _ (ds p hp').2.2.1.symm,hA,hD];exact hr.ns
 ·intro x hx
  rw [hD] at hx
  rw [hA]
  by_cases e:x=p
  ·subst e;exact Ae _ _ _
  ·rw [Ad _ _ (fun q=>e (hr.ai hx hp' q)),hn x hx e];exact hr.nd x hx
 ·intro x hx
  rw [hD] at hx
  refine xa1_1 (hr.td x hx) ?_;intro ep q
  refine ⟨ep,?_⟩
  rw [hT,Ad _ _ (ds x hx).1.symm,q]
  simp only [Af.trv,htr,hA]
theorem FS {X:Af} {t d:Addr} {fin ci:Bool} {hp:HP} (hr:AK X t d fin ci hp) {p q:Ag} (hp':p∈X.D):AK (X.setLss p q) t d fin ci (upd hp (X.A p) ((X.setLss p q).nodeAO p)):=by
 refine JB hr hp' rfl rfl rfl rfl (fun x zu hx=>?_)
 have:(X.setLss p q).lss x=X.lss x:=if_neg hx
 simp only [Af.nodeAO,Af.lssv,this];rfl
theorem FR {X:Af} {t d:Addr} {fin ci:Bool} {hp:HP} (hr:AK X t d fin ci hp) {p:Ag} {v:AV} (hp':p∈X.D):AK (X.setOut p v) t d fin ci (upd hp (X.A p) ((X.setOut p v).nodeAO p)):=by
 refine JB hr hp' rfl rfl rfl rfl (fun x zu hx=>?_)
 have:(X.setOut p v).out x=X.out x:=if_neg hx
 simp only [Af.nodeAO,this];rfl
theorem Kh {X:Af} {t d:Addr} {fin ci:Bool} {hp:HP} (hw:X.Wf) (hr:AK X t d fin ci hp) {p:Ag} {m:List (Aw×Ag)} {ep:Nat} (hp':p∈X.D) :
  AK (X.setTr p m) t d fin ci (upd hp (X.T p) (.dict (m.map fun e=>(e.1,.ref (X.A e.2))) ep)):=by
 have ds:=fun q hq=>Af.Wf.dist hr (p:=q) hq hp'
 refine ⟨?_,?_,?_,?_⟩
 ·rw [Ad _ _ (ds p hp').2.2.2.1.symm];exact hr.tree
 ·rw [Ad _ _ (ds p hp').2.2.2.2.1.symm];exact hr.ns
 ·intro x hx
  exact (Ad _ _ (ds x hx).1).trans (hr.nd x hx)
 ·intro x hx
  by_cases e:x=p
  ·subst e
   refine ⟨ep,(Ae _ _ _).trans ?_⟩
   simp only [Af.trv,Af.setTr,if_true]
  ·refine xa1_1 (hr.td x hx) ?_;intro ep' q
   refine ⟨ep',((Ad _ _ (fun q=>e (hw.ti x hx p hp' q))).trans q).trans ?_⟩
   simp only [Af.trv,Af.setTr,if_neg e]
theorem Cc.upd {P:Addr→Prop} {h:HP} {a:Addr} (x:AO) (ha:P a):Cc P h P (AC.upd h a x):=⟨fun b zu hb=>Ad _ _ (fun zE=>hb (zE▸ha)),fun zu q=>.inl q⟩
theorem Cc.new {P:Addr→Prop} {h:HP} {a:Addr} (x:AO) (ha:h a=none):Cc P h P (AC.upd h a x):=⟨fun b hb zu=>Ad _ _ (fun zE=>hb (zE▸ha)),fun zu q=>.inl q⟩
theorem AK.new {X:Af} {t d:Addr} {fin ci:Bool} {hp:HP} (hr:AK X t d fin ci hp) {a:Addr} {x:AO} (ha:hp a=none):AK X t d fin ci (AC.upd hp a x):=by
 have ne:∀b y,hp b=some y→AC.upd hp a x b=some y:=fun b y e=>(Ad _ _ (fun zE=>by (first|rw [zE,ha] at e|rw [←zE,ha] at e);exact Aj e)).trans e
 exact ⟨ne _ _ hr.tree,ne _ _ hr.ns,fun p h=>ne _ _ (hr.nd p h),fun p h=>by refine xa1_1 (hr.td p h) ?_;intro ep q;exact ⟨ep,ne _ _ q⟩⟩
theorem AK.off {X:Af} {t d:Addr} {fin ci:Bool} {hp hp':HP} (hr:AK X t d fin ci hp) (h:∀a,Fp X t d a→hp' a=hp a):AK X t d fin ci hp':=
 ⟨(h _ (.inl rfl)).trans hr.tree,(h _ (.inr (.inl rfl))).trans hr.ns,fun p m=>(h _ (.inr (.inr ⟨p,m,.inl rfl⟩))).trans (hr.nd p m),fun p m=>by refine xa1_1 (hr.td p m) ?_;intro ep q;exact ⟨ep,(h _ (.inr (.inr ⟨p,m,.inr rfl⟩))).trans q⟩⟩
theorem AK.some {X:Af} {t d:Addr} {fin ci:Bool} {hp:HP} (hr:AK X t d fin ci hp) {a:Addr} (h:Fp X t d a):hp a≠none:=by
 rcases h with rfl|rfl|⟨p,m,rfl|rfl⟩
 ·rw [hr.tree];simp
 ·rw [hr.ns];simp
 ·rw [hr.nd p m];simp
 ·refine xa1_1 (hr.td p m) ?_;intro ep q;rw [q];simp
theorem Mi {X:Af} (h:X.Wf) {p:Ag} {m:List (Aw×Ag)} (h1:∀e∈m,e.2∈X.D) (h2:(m.map (·.1)).Nodup) (h3:∀e∈m,e.2.getLast? = some e.1):(X.setTr p m).Wf:=by
 refine ⟨h.root,h.nodup,h.closed,h.ti,?_,?_,?_,h.mkD,h.mkV⟩
 ·intro x hx e he
  simp only [Af.setTr] at he
  split at he
  ·exact h1 e he
  ·exact h.trD x hx e he
 ·intro x hx
  simp only [Af.setTr]
  split
  ·exact h2
  ·exact h.trN x hx
 ·intro x hx e he
  simp only [Af.setTr] at he
  split at he
  ·exact h3 e he
  ·exact h.trL x hx e he
theorem GY {X:Af} (h:X.Wf) {p q:Ag}:(X.setLss p q).Wf:=⟨h.root,h.nodup,h.closed,h.ti,h.trD,h.trN,h.trL,h.mkD,h.mkV⟩
end
section
variable {C:Cf} {A:Around} {E:Value→Shared→Prop} {env:Env} {σ:Al}
theorem MK {a:Addr} {l:List (Aw×AV)} {ep:Nat} {Q:AV→List AV→Al→Prop} (hd:σ.hp a=some (.dict l ep)) (h:Q (.val (.builtin "dict.items")) [.ref a] σ):Du C A E env (.ref a) "items" σ Q:=
 AW hd OR.clsD F.plainAttrs_dict F.slot_dict_items F.type_dict_items h
theorem Ic {a:Addr} {l:List (Aw×AV)} {ep:Nat} {Q:AV→List AV→Al→Prop} (hd:σ.hp a=some (.dict l ep)) (h:Q (.val (.builtin "dict.values")) [.ref a] σ):Du C A E env (.ref a) "values" σ Q:=
 AW hd OR.clsD F.plainAttrs_dict F.slot_dict_values F.type_dict_values h
theorem BZ {a:Addr} {l:List AV} {Q:AV→List AV→Al→Prop} (hd:σ.hp a=some (.list l)) (h:Q (.val (.builtin "list.append")) [.ref a] σ):Du C A E env (.ref a) "append" σ Q:=
 AW hd OR.clsL F.plainAttrs_list F.slot_list_append F.type_list_append h
theorem Nm {a:Addr} {l:List AV} {Q:AV→List AV→Al→Prop} (hd:σ.hp a=some (.list l)) (h:Q (.val (.builtin "list.pop")) [.ref a] σ):Du C A E env (.ref a) "pop" σ Q:=
 AW hd OR.clsL F.plainAttrs_list F.slot_list_pop F.type_list_pop h
theorem L5 {a:Addr} {S:Int→Bool} {n:Nat} {Q:AV→List AV→Al→Prop} (hd:σ.hp a=some (.iset S n)) (h:Q (.val (.builtin "set.add")) [.ref a] σ):Du C A E env (.ref a) "add" σ Q:=
 AW hd OR.clsS F.plainAttrs_set F.slot_set_add F.type_set_add h
section Ew
variable {X:Af} {t d:Addr} {fin ci:Bool} {p:Ag}
theorem JC {Q:AV→Al→Prop} (T:Tp C) (hr:AK X t d fin ci σ.hp) (hp:p∈X.D) (h:Q (.int (X.D.idxOf p)) σ):Hz C A E env VR (fun v=>getAttr v "identifier" true) (.ref (X.A p)) σ Q:=B2 T.s_id (hr.nd p hp) rfl h
theorem DM {Q:AV→Al→Prop} (T:Tp C) (hr:AK X t d fin ci σ.hp) (hp:p∈X.D) (h:Q (.ref (X.T p)) σ):Hz C A E env VR (fun v=>getAttr v "transitions" true) (.ref (X.A p)) σ Q:=B2 T.s_tr (hr.nd p hp) rfl h
theorem EK {Q:AV→Al→Prop} (T:Tp C) (hr:AK X t d fin ci σ.hp) (hp:p∈X.D) (h:Q (X.lssv p) σ):Hz C A E env VR (fun v=>getAttr v "longest_strict_suffix" true) (.ref (X.A p)) σ Q:=
 B2 T.s_lss (hr.nd p hp) rfl h (by intro u;simp only [Af.lssv];split<;>simp)
theorem NH {Q:AV→Al→Prop} (T:Tp C) (hr:AK X t d fin ci σ.hp) (hp:p∈X.D) (h:Q (X.parv p) σ):Hz C A E env VR (fun v=>getAttr v "parent" true) (.ref (X.A p)) σ Q:=
 B2 T.s_par (hr.nd p hp) rfl h (by intro u;simp only [Af.parv];split<;>simp)
theorem IP {Q:AV→Al→Prop} (T:Tp C) (hr:AK X t d fin ci σ.hp) (hp:p∈X.D) (h:Q (FJ p) σ):Hz C A E env VR (fun v=>getAttr v "symbol" true) (.ref (X.A p)) σ Q:=
 B2 T.s_sym (hr.nd p hp) rfl h (by
  intro u;simp only [FJ];split
  ·rename_i c _;cases c<;>simp [Aw.av]
  ·simp)
theorem NG {Q:AV→Al→Prop} (T:Tp C) (hr:AK X t d fin ci σ.hp) (hp:p∈X.D) (h:Q (.bool (X.key p).isSome) σ):Hz C A E env VR (fun v=>getAttr v "success" true) (.ref (X.A p)) σ Q:=B2 T.s_suc (hr.nd p hp) rfl h
theorem NJ {Q:AV→Al→Prop} (T:Tp C) (hw:X.Wf) (hr:AK X t d fin ci σ.hp) (hp:p∈X.D) {v:AV} (hv:X.key p=some v) (h:Q v σ):Hz C A E env VR (fun v=>getAttr v "matched_keyword" true) (.ref (X.A p)) σ Q:=
 B2 (x:=v) T.s_mk (hr.nd p hp) (by simp [hv]) h (hw.mkV p v hv)
theorem NI {Q:AV→Al→Prop} (T:Tp C) (hr:AK X t d fin ci σ.hp) (hp:p∈X.D) {v:AV} (hv:X.out p=some v) (h:Q v σ) (hu:∀u,v≠.val u):Hz C A E env VR (fun v=>getAttr v "outputs" true) (.ref (X.A p)) σ Q:=
 B2 (x:=v) T.s_out (hr.nd p hp) (by simp [hv]) h hu
theorem Es {q:Ag} {Q:Unit→Al→Prop} (T:Tp C) (hr:AK X t d fin ci σ.hp) (hp:p∈X.D) (h:Q () (σ.put (X.A p) ((X.setLss p q).nodeAO p))) :
  Eg C A E env (fun zu (zu:Unit) (zu:Unit)=>True) (fun u w=>setAttr w "longest_strict_suffix" u) (.ref (X.A q)) (.ref (X.A p)) σ Q:=by
 refine Bm T.s_lss (hr.nd p hp) ?_
 have:AO.slot 34 (setSlot [some (.int (X.D.idxOf p)),some (X.lssv p),some ((X.key p).getD .none),X.out p,some (X.parv p),some (.bool (X.key p).isSome),some (FJ p),some (.ref (X.T p))] 1 (.ref (X.A q)))=(X.setLss p q).nodeAO p:=by
  have e:(X.setLss p q).lss p=some q:=if_pos rfl
  simp only [Af.nodeAO,Af.lssv,e]
  simp [setSlot,Ew,Af.setLss,Af.parv]
 rw [this];exact h
theorem HW {v:AV} {Q:Unit→Al→Prop} (T:Tp C) (hr:AK X t d fin ci σ.hp) (hp:p∈X.D) (h:Q () (σ.put (X.A p) ((X.setOut p v).nodeAO p))) :
  Eg C A E env (fun zu (zu:Unit) (zu:Unit)=>True) (fun u w=>setAttr w "outputs" u) v (.ref (X.A p)) σ Q:=by
 refine Bm T.s_out (hr.nd p hp) ?_
 have:AO.slot 34 (setSlot [some (.int (X.D.idxOf p)),some (X.lssv p),some ((X.key p).getD .none),X.out p,some (X.parv p),some (.bool (X.key p).isSome),some (FJ p),some (.ref (X.T p))] 3 v)=(X.setOut p v).nodeAO p:=by
  have e:(X.setOut p v).out p=some v:=if_pos rfl
  simp only [Af.nodeAO,e]
  simp [setSlot,Ew,Af.setOut,Af.lssv,Af.parv]
 rw [this];exact h
theorem MI {q:Ag} {Q:AV→Al→Prop} (hr:AK X t d fin ci σ.hp) (hp:p∈X.D) (hq:q∈X.D) (h:Q (.bool (decide (p=q))) σ):Eg C A E env VR (compareOp .Is) (.ref (X.A p)) (.ref (X.A q)) σ Q:=by
 refine NW (hr.nd p hp) (hr.nd q hq) (.inl ⟨_,_,rfl⟩) ?_
 have:decide (X.A p=X.A q)=decide (p=q):=by
  by_cases e:p=q
  ·simp [e]
  ·have:X.A p≠X.A q:=fun x=>e (hr.ai hp hq x)
   simp [e,this]
 rw [this];exact h
theorem JE {q:Ag} {Q:AV→Al→Prop} (hr:AK X t d fin ci σ.hp) (hp:p∈X.D) (hq:q∈X.D) (h:Q (.bool (!decide (p=q))) σ):Eg C A E env VR (compareOp .IsNot) (.ref (X.A p)) (.ref (X.A q)) σ Q:=by
 refine Kt (hr.nd p hp) (hr.nd q hq) (.inl ⟨_,_,rfl⟩) ?_
 have:decide (X.A p=X.A q)=decide (p=q):=by
  by_cases e:p=q
  ·simp [e]
  ·have:X.A p≠X.A q:=fun x=>e (hr.ai hp hq x)
   simp [e,this]
 rw [this];exact h
end Ew
theorem L7 (T:Tp C) {r₀:FdRest} {L:Addr} {X:Af} {t d:Addr} {ci:Bool} {q:Ag} {c:Aw} (hw:X.Wf) (hr:AK X t d false ci σ.hp) (hp:q++[c]∈X.D) (had:X.AD q)
  {test:Expr} {body:List Stmt} {pos:Pos} (hst:(Ez.body.drop 3).head? = some (.While test body [] pos)) (l1:σ.v "self" = some (.ref t)) (l2:σ.v "state" = some (.ref (X.A (q++[c])))) (l3:σ.v "zero_state" = some (.ref (X.A []))) (l4:σ.v "traversed" = some (.ref (X.A (Ct X.D q)))) :
  Ex C A Bd (callEnv (r₀.fd Ez .none) L 122) (.While test body [] pos) σ (fun f σ'=>f=.next∧σ'.hp=upd σ.hp (X.A (q++[c])) ((X.setLss (q++[c]) (Ct X.D (q++[c]))).nodeAO (q++[c])) ∧
   σ'.v "self" = some (.ref t)∧σ'.v "state" = some (.ref (X.A (q++[c])))∧σ'.v "zero_state" = some (.ref (X.A []))):=by
 have hq:q∈X.D:=hw.closed q c hp
 have hsym:FJ (q++[c])=c.av:=by simp [FJ]
 cases hst
 refine Dy (fun n σ'=>σ'.hp=σ.hp∧σ'.v "self" = some (.ref t)∧σ'.v "state" = some (.ref (X.A (q++[c])))∧σ'.v "zero_state" = some (.ref (X.A [])) ∧
  ∃r,r∈X.D∧n=r.length∧r <:+ q∧σ'.v "traversed" = some (.ref (X.A r))∧((q=[]∧r=[])∨(r.length<q.length∧Ct X.D (q++[c])=Cj X.D (r++[c])))) ?_ (Ct X.D q).length ?_
 ·(rintro n σ';intro zr;refine cps fun zP zk=>?_;(rcases zr with ⟨he,m1,m2,m3,r,hrD,rfl,hrq,m4,hcase⟩)<;>(refine zk ?_;clear zk zP))
  have hr':AK X t d false ci σ'.hp:=he▸hr
  refine xa1_1 (hr'.td r hrD) ?_;intro ep htd
  have hdn:=had r hrq hrD
  refine B4 (FB (Bl ?_))
  refine Tr.gen fun K hK=>?_
  have hat:Hx (X.trv r) c=(By X.D r c).map fun x=>.ref (X.A x):=by rw [Af.at_trv,hdn.2 c]
  refine Aa (Bq (Ov (Bi (As (Ab m2 (IP T hr' hp (As (Ab m4 (DM T hr' hrD ?_)))))))))
  rw [hsym]
  refine JS T.sysm htd ⟨_,rfl,?_⟩
  rw [hat]
  cases hf:By X.D r c with
  |some x=>
   refine cps fun zP zk=>?_;(rcases EP hf with ⟨hxD,r',rfl,hr'r⟩)<;>(refine zk ?_;clear zk zP)
   simp only [Option.map_some,Option.isSome_some]
   refine Bi (Mw (As (Ab m4 (DM T hr' hrD (As (Ab m2 (IP T hr' hp ?_)))))))
   rw [hsym]
   refine GR (x:=.ref (X.A (r'++[c]))) htd (by rw [hat,hf];rfl) (Ab m2 (JE hr' hxD hp ⟨_,rfl,?_⟩))
   by_cases hx:r'++[c]=q++[c]
   ·rw [hx]
    simp only [decide_true,Bool.not_true]
    have hr'q:r'=q:=List.append_cancel_right hx
    subst hr'q
    have h1:=hr'r.length_le
    rcases hcase with ⟨rfl,rfl⟩|⟨h2,zu⟩
    ·refine Aa (Bq (Bi (Ab m4 (Ab m3 (MI hr' hrD hw.root ⟨_,rfl,?_⟩)))))
     simp only [decide_true,if_true]
     refine Aa (Ao (Ab m3 (Ab m2 (Es T hr' hp ?_))))
     refine Aa (Gz (hK _ _ ?_))
     have e:Ct X.D ([]++[c])=[]:=rfl
     rw [e]
     exact ⟨rfl,by rw [←he],m1,m2,m3⟩
    ·omega
   ·simp only [hx,decide_false,Bool.not_false]
    refine Aa (Ao (Mw (As (Ab m4 (DM T hr' hrD (As (Ab m2 (IP T hr' hp ?_))))))))
    rw [hsym]
    refine GR (x:=.ref (X.A (r'++[c]))) htd (by rw [hat,hf];rfl) (Ab m2 (Es T hr' hp ?_))
    refine Aa (Gz (hK _ _ ?_))
    have e:Ct X.D (q++[c])=r'++[c]:=by
     rcases hcase with ⟨rfl,rfl⟩|⟨zu,h2⟩
     ·simp at hr'r;subst hr'r;exact absurd rfl hx
     ·rw [h2,Ho hf]
    rw [e]
    exact ⟨rfl,by rw [←he],m1,m2,m3⟩
  |none=>
   simp only [Option.map_none,Option.isSome_none]
   refine Aa (Bq (Bi (Ab m4 (Ab m3 (MI hr' hrD hw.root ⟨_,rfl,?_⟩)))))
   by_cases hr0:r=[]
   ·subst hr0
    simp only [decide_true,if_true]
    refine Aa (Ao (Ab m3 (Ab m2 (Es T hr' hp ?_))))
    refine Aa (Gz (hK _ _ ?_))
    have e:Ct X.D (q++[c])=[]:=by
     rcases hcase with ⟨rfl,zu⟩|⟨zu,h2⟩
     ·rfl
     ·rw [h2,Ie hf]
    rw [e]
    exact ⟨rfl,by rw [←he],m1,m2,m3⟩
   ·simp only [hr0,decide_false]
    refine Aa (Ah (As (Ab m4 (EK T hr' hrD ?_))))
    refine An (An (An (hK _ _ ?_)))
    have hl:X.lssv r=.ref (X.A (Ct X.D r)):=by simp only [Af.lssv,hdn.1]
    rw [hl]
    refine ⟨(Ct X.D r).length,D6 hr0,he,Ai m1,Ai m2,Ai m3,Ct X.D r,C2 hw.pc _,rfl,DY.trans hrq,Ax,.inr ?_⟩
    rcases hcase with ⟨zu,rfl⟩|⟨h1,h2⟩
    ·exact absurd rfl hr0
    ·exact ⟨Nat.lt_trans (D6 hr0) h1,h2.trans (L6 hw.pc hr0 hf)⟩
 ·refine ⟨rfl,l1,l2,l3,Ct X.D q,C2 hw.pc _,rfl,DY,l4,?_⟩
  by_cases hq0:q=[]
  ·subst hq0;exact .inl ⟨rfl,rfl⟩
  ·exact .inr ⟨D6 hq0,Kq hw.pc hq0 c⟩
end
section
variable {C:Cf} {A:Around} {E:Value→Shared→Prop} {env:Env} {σ:Al}
theorem FQ (X:Af) (p:Ag):X.setTr p (X.tr p)=X:=by
 have:(fun x=>if x=p then X.tr p else X.tr x)=X.tr:=by funext x;split<;>simp_all
 simp only [Af.setTr,this]
theorem HJ (X:Af) (p:Ag) (m m':List (Aw×Ag)):(X.setTr p m).setTr p m'=X.setTr p m':=by
 have:(fun x=>if x=p then m' else if x=p then m else X.tr x)=fun x=>if x=p then m' else X.tr x:=by funext x;split<;>rfl
 simp only [Af.setTr,this]
theorem Kg {l:List (Aw×Ag)} {f:Ag→Addr} {c:Aw} {a:Addr} (h:Bk l c=none):FO (l.map fun e=>(e.1,AV.ref (f e.2))) c (.ref a)=(l.map fun e=>(e.1,AV.ref (f e.2)))++[(c,.ref a)]:=by
 have:(l.map fun e=>(e.1,AV.ref (f e.2))).any (fun p=>p.1=c)=false:=by
  rw [List.any_eq_false]
  intro p hp
  refine xa1_2 (List.mem_map.mp hp) ?_;intro e' he';rintro rfl
  simpa using CU h e' he'
 simp only [FO,this];rfl
theorem Cc.wide {P Q:Addr→Prop} {h h':HP} (f:Cc P h P h') (w:∀a,P a→Q a):Cc Q h Q h':=⟨fun a x n=>f.keep a x (fun p=>n (w a p)),fun zu q=>.inl q⟩
theorem Kr (T:Tp C) {r₀:FdRest} {L:Addr} {X:Af} {t d:Addr} {ci:Bool} {p s:Ag} (hA:A.handled=none) (hw:X.Wf) (hr:AK X t d false ci σ.hp) (hp:p∈X.D) (hs:s∈X.D) (hps:p≠s) (hz:X.D.length≤4000)
  {target iter:Expr} {body:List Stmt} {pos:Pos} (hst:(Ez.body.drop 7).head? = some (.For target iter body [] pos)) (l2:σ.v "state" = some (.ref (X.A p))) (l3:σ.v "suffix" = some (.ref (X.A s))) :
  Ex C A Bd (callEnv (r₀.fd Ez .none) L 122) (.For target iter body [] pos) σ (fun f σ'=>f=.next∧∃m,(X.setTr p m).Wf∧AK (X.setTr p m) t d false ci σ'.hp∧Cc (·=X.T p) σ.hp (·=X.T p) σ'.hp ∧
   ∀c,Bk m c=(X.look p c).or (X.look s c)):=by
 refine xa1_1 (hr.td s hs) ?_;intro ep htd
 cases hst
 refine H7 (fun zu zu hp=>hp (X.T s)=some (.dict (X.trv s) ep))
  (fun zu zu xs σ'=>∃dn rest m,X.tr s=dn++rest∧xs=rest.map (fun e=>AV.tup [e.1.av,.ref (X.A e.2)])∧(X.setTr p m).Wf∧AK (X.setTr p m) t d false ci σ'.hp∧Cc (·=X.T p) σ.hp (·=X.T p) σ'.hp ∧
   (∀c,Bk m c=(X.look p c).or (Bk dn c))∧σ'.v "state" = some (.ref (X.A p))∧σ'.hp (X.T s)=some (.dict (X.trv s) ep))
  (A2 (As (Ab l3 (DM T hr hs (MK htd (At (A6 (dict_items T.sysm htd (fun v hv=>⟨_,IS hA (Ae _ _ _) ?_,?_⟩))))))))) ?_ ?_ ?_
 ·exact (Ad _ _ (by rintro e;rw [←e,htd] at hv;exact Ap hv)).trans htd
 ·refine ⟨[],X.tr s,X.tr p,rfl,?_,by rw [FQ];exact hw,by rw [FQ];exact hr.new hv,Cc.new _ hv,fun c=>by simp [Bk,Af.look],l2,(Ad _ _ (by rintro e;rw [←e,htd] at hv;exact Ap hv)).trans htd⟩
  simp [Af.trv]
 ·(rintro zu zu xs σ';intro zr;refine xa3_8 zr ?_;(try clear zr);intro zu zu zu zu zu zu zu zu zu zu h)
  exact h
 ·(rintro zu zu x xs σ';intro zr;refine xa3_8 zr ?_;(try clear zr);intro dn rest m e1 e2 hw' hr' hf' hl' m2 m5)
  obtain ⟨c,y,rest',rfl,rfl,rfl⟩:∃c y rest',rest=(c,y)::rest'∧x=.tup [c.av,.ref (X.A y)]∧xs=rest'.map (fun e=>AV.tup [e.1.av,.ref (X.A e.2)]):=by
   cases rest with
   |nil=>cases e2
   |cons e rest'=>simp only [List.map_cons,List.cons.injEq] at e2;exact ⟨e.1,e.2,rest',rfl,e2.1,e2.2⟩
  have hcy:(c,y)∈X.tr s:=by rw [e1];simp
  have hyD:=hw.trD s hs _ hcy
  have hyL:=hw.trL s hs _ hcy
  have hdn:Bk dn c=none:=by
   have hn:=hw.trN s hs
   rw [e1,List.map_append,List.nodup_append] at hn
   cases h:Bk dn c with
   |none=>rfl
   |some z=>
    have:=EN h
    exact absurd rfl (hn.2.2 c (List.mem_map_of_mem (f:=(·.1)) this) c (by simp))
  refine xa1_1 (hr'.td p hp) ?_;intro ep' htp
  have htp:σ'.hp (X.T p)=some (.dict (m.map fun e=>(e.1,AV.ref (X.A e.2))) ep'):=by
   rw [show (X.setTr p m).trv p=m.map fun e=>(e.1,AV.ref (X.A e.2)) by simp only [Af.trv,Af.setTr,if_true]] at htp
   exact htp
  refine EE hA ?_
  refine Tr.gen fun K hK=>?_
  refine Aa (Bq (Bi (Ab (Ai Ax) (As (Ab (Ai (Ai m2)) (DM (X:=X.setTr p m) T hr' hp (Ga (JS T.sysm htp ⟨_,rfl,_,rfl,?_⟩))))))))
  rw [Mc]
  cases hm:Bk m c with
  |some z=>
   simp only [Option.map_some,Option.isSome_some,Bool.not_true]
   refine An (An (hK _ _ ?_))
   refine ⟨dn++[(c,y)],rest',m,by simp [e1],rfl,hw',hr',hf',fun c'=>?_,Ai (Ai m2),m5⟩
   rw [hl' c',BF]
   by_cases e:c'=c
   ·subst e
    rw [hl' c',hdn] at hm
    cases hx:X.look p c' with
    |none=>rw [hx] at hm;exact Aj hm
    |some zu=>rfl
   ·have:Bk [(c,y)] c'=none:=by
     have e':¬c=c':=fun x=>e x.symm
     simp [Bk,e']
    rw [this];simp
  |none=>
   simp only [Option.map_none,Option.isSome_none,Bool.not_false,if_true]
   refine Aa (Bh (Ab Ax (As (Ab (Ai (Ai m2)) (DM (X:=X.setTr p m) T hr' hp (Ab (Ai Ax) (Iu htp ?_ ?_)))))))
   ·have:=hw'.trlen hp
    have e:(X.setTr p m).tr p=m:=if_pos rfl
    rw [e] at this
    simp only [List.length_map]
    exact Nat.le_trans this (Nat.le_trans hz (A8 [] [] (Zn 4000) (Zn 4096) rfl))
   intro ep''
   refine An (An (hK _ _ ?_))
   rw [Kg hm]
   have hmap:(m.map fun e=>(e.1,AV.ref (X.A e.2)))++[(c,.ref (X.A y))]=(m++[(c,y)]).map fun e=>(e.1,AV.ref (X.A e.2)):=by simp
   rw [hmap]
   have hmW:∀e∈m,e.2∈X.D:=fun e he=>hw'.trD p hp e (by rw [show (X.setTr p m).tr p=m from if_pos rfl];exact he)
   have hmN:(m.map (·.1)).Nodup:=by have:=hw'.trN p hp;rw [show (X.setTr p m).tr p=m from if_pos rfl] at this;exact this
   have hmL:∀e∈m,e.2.getLast? = some e.1:=fun e he=>hw'.trL p hp e (by rw [show (X.setTr p m).tr p=m from if_pos rfl];exact he)
   refine ⟨dn++[(c,y)],rest',m++[(c,y)],by simp [e1],rfl,Mi hw ?_ ?_ ?_,?_,hf'.trans (Cc.upd _ rfl),fun c'=>?_,Ai (Ai m2),?_⟩
   ·intro e he
    rcases List.mem_append.mp he with q|q
    ·exact hmW e q
    ·simp at q;subst q;exact hyD
   ·rw [List.map_append,List.nodup_append]
    refine ⟨hmN,by simp,?_⟩
    intro a ha b hb
    simp at hb;subst hb
    refine xa1_2 (List.mem_map.mp ha) ?_;intro e he;rintro rfl
    exact CU hm e he
   ·intro e he
    rcases List.mem_append.mp he with q|q
    ·exact hmL e q
    ·simp at q;subst q;exact hyL
   ·have:=Kh (p:=p) (m:=m++[(c,y)]) (ep:=ep'') hw' hr' hp
    rw [HJ] at this
    exact this
   ·rw [BF,BF,hl' c']
    cases X.look p c'<;>simp
   ·exact (Ad _ _ (fun e=>hps (hw.ti s hs p hp e).symm)).trans m5
 ·(rintro zu zu σ';intro zr;refine xa3_8 zr ?_;(try clear zr);intro dn rest m e1 e2 hw' hr' hf' hl' m2 m5)
  have:rest=[]:=by cases rest with|nil=>rfl|cons=>cases e2
  subst this
  simp at e1;subst e1
  exact ⟨rfl,m,hw',hr',hf',hl'⟩
theorem HG {s q:Ag} {c:Aw} (h:s <:+ q++[c]) (hs:s≠[]):∃q',s=q'++[c]∧q' <:+ q:=by
 refine xa1_1 h ?_;(try clear h);intro z hz
 rcases List.eq_nil_or_concat s with rfl|⟨s',x,rfl⟩
 ·exact absurd rfl hs
 ·rw [List.concat_eq_append] at hz ⊢
  rw [←List.append_assoc] at hz
  have h1:=List.append_inj' hz rfl
  refine xa0_2 h1 ?_;(try clear h1);intro h2 h3
  simp at h3;subst h3
  exact ⟨s',rfl,z,h2⟩
noncomputable def F9 (X:Af) (p:Ag) (t d:Addr) (ci:Bool) (hp hp':HP):Prop:=
 ∃X':Af,X'.Wf∧AK X' t d false ci hp'∧Cc (Fp X t d) hp (Fp X t d) hp'∧X.Step X'∧X'.AD p∧(∀x∈X.D,p.length<x.length→X.Stay X' x)∧∀x∈X.D,x≠p→X.lss x≠none→hp' (X.T x)=hp (X.T x)
theorem NL (T:Tp C):∀(n:Nat) (A:Around) (X:Af) (t d:Addr) (ci:Bool) (hp:HP) (q:Ag) (c:Aw),(q++[c]).length≤n→A.handled=none→A.depth+n<recursionLimit→X.Wf→AK X t d false ci hp →
  q++[c]∈X.D→X.AD q→(∀x∈X.D,x.length<(q++[c]).length→X.UD x∨X.AD x)→(X.UD (q++[c])∨X.DN (q++[c]))→X.D.length≤4000 →
  Fn C A (.ref 122) [.ref t,.ref (X.A (q++[c]))] [] hp (fun v hp'=>v=.none∧F9 X (q++[c]) t d ci hp hp'):=by
 intro n
 induction n with
 |zero=>intro A X t d ci hp q c hn;simp at hn
 |succ n ih=>
  intro A X t d ci hp q c hn hA hroom hw hr hpD had hsh hcur hz
  refine xa1_1 T.f_lss ?_;intro r₀ hf
  have hq:q∈X.D:=hw.closed q c hpD
  have hne:q++[c]≠[]:=by simp
  refine Da (body:=Ez.body) hf (KG C r₀ _ _) (fun L=>?_) (by with_reducible exact FY ‹_›) (by kernel_rfl) (by kernel_rfl) (by kernel_rfl) (by kernel_rfl) (by kernel_rfl)
  have hpar:X.parv (q++[c])=.ref (X.A q):=by simp only [Af.parv];rw [if_neg hne,List.dropLast_concat]
  have hdq:=had q (List.suffix_refl q) hq
  have hlq:X.lssv q=.ref (X.A (Ct X.D q)):=by simp only [Af.lssv,hdq.1]
  refine Aa (Ah (As (Ab rfl (BG T.n_zero hr.tree hr.ns rfl ?_))))
  refine Aa (Ah (As (Ab rfl (NH T hr hpD ?_))))
  rw [hpar]
  refine Aa (Ah (As (Ab rfl (EK T hr hq ?_))))
  rw [hlq]
  refine Aa (Tr.mono (L7 (σ:=(Al.set (Al.set (Al.set ⟨_,hp⟩ "zero_state" _) "parent" _) "traversed" _)) T hw hr hpD had rfl rfl rfl rfl rfl) ?_)
  (rintro f σ₁;intro zr;refine xa0_5 zr ?_;(try clear zr);rintro rfl;intro e₁ m1 m2 m3)
  have hsD:Ct X.D (q++[c])∈X.D:=C2 hw.pc _
  have hslt:(Ct X.D (q++[c])).length<(q++[c]).length:=D6 hne
  have hw1:(X.setLss (q++[c]) (Ct X.D (q++[c]))).Wf:=GY hw
  have hr1:AK (X.setLss (q++[c]) (Ct X.D (q++[c]))) t d false ci σ₁.hp:=e₁▸FS hr hpD
  have hfr1:Cc (Fp X t d) hp (Fp X t d) σ₁.hp:=by rw [e₁];exact Cc.upd _ (.inr (.inr ⟨q++[c],hpD,.inl rfl⟩))
  have hlp:(X.setLss (q++[c]) (Ct X.D (q++[c]))).lss (q++[c])=some (Ct X.D (q++[c])):=if_pos rfl
  have same1:X.Same (X.setLss (q++[c]) (Ct X.D (q++[c]))):=⟨rfl,rfl,rfl,rfl,rfl⟩
  have stay1:∀x,x≠q++[c]→X.Stay (X.setLss (q++[c]) (Ct X.D (q++[c]))) x:=fun x hx=>⟨if_neg hx,rfl⟩
  have hlook:∀c',(X.setLss (q++[c]) (Ct X.D (q++[c]))).look (q++[c]) c'=X.look (q++[c]) c':=fun zu=>rfl
  have hT1:∀x∈X.D,σ₁.hp (X.T x)=hp (X.T x):=fun x hx=>by
   rw [e₁];exact Ad _ _ (Af.Wf.dist hr hpD hx).1.symm
  generalize hs:Ct X.D (q++[c])=s at *
  have hlv:(X.setLss (q++[c]) s).lssv (q++[c])=.ref (X.A s):=by simp only [Af.lssv,hlp];rfl
  refine Aa (Ah (As (Ab m2 (EK (X:=X.setLss (q++[c]) s) T hr1 hpD ?_))))
  rw [hlv]
  have hfull:∀c',(Ed X.D (q++[c]) c').or (if s=[] then none else By X.D s c')=By X.D (q++[c]) c':=fun c'=>by rw [Ky hw.pc hne,hs]
  have rest:∀(σ₂:Al) (X2:Af),s≠[]→X2.Wf→AK X2 t d false ci σ₂.hp→Cc (Fp X t d) hp (Fp X t d) σ₂.hp→(X.setLss (q++[c]) s).Step X2→X2.AD s→(∀x∈X.D,s.length<x.length→(X.setLss (q++[c]) s).Stay X2 x)→(∀x∈X.D,x≠q++[c]→X.lss x≠none→σ₂.hp (X.T x)=hp (X.T x)) →
    σ₂.v "state" = some (.ref (X.A (q++[c])))→σ₂.v "suffix" = some (.ref (X.A s)) →
    Cd C (A.deeper (callEnv (r₀.fd Ez .none) L 122)) Bd (callEnv (r₀.fd Ez .none) L 122) (Ez.body.drop 7) σ₂ (fun fl σ'=>match fl with|.ret v=>v=.none∧F9 X (q++[c]) t d ci hp σ'.hp|.next=>True∧F9 X (q++[c]) t d ci hp σ'.hp|_=>False):=by
   intro σ₂ X2 hs0 hw2 hr2 hfr2 st2 ad2 lo2 kt2 k2 k3
   have hD2:X2.D=X.D:=st2.same.D
   have hA2:X2.A=X.A:=st2.same.A
   have hfp:Fp X2 t d=Fp X t d:=st2.same.fp t d
   have hsp:q++[c]≠s:=fun e=>by rw [←e] at hslt;exact GA [_] [(1,(Zs Z0),Z0)] rfl hslt
   refine Aa (Tr.mono (Kr T (by exact hA) hw2 hr2 (hD2▸hpD) (hD2▸hsD) hsp (by rw [hD2];exact hz) rfl (by rw [hA2];exact k2) (by rw [hA2];exact k3)) ?_)
   (rintro f σ₃;intro zr;refine cps fun zP zk=>?_;(rcases zr with ⟨rfl,m,hw3,hr3,hfr3,hm⟩)<;>(refine zk ?_;clear zk zP))
   refine An ⟨trivial,X2.setTr (q++[c]) m,hw3,hr3,hfr2.trans (hfr3.wide (fun a e=>.inr (.inr ⟨q++[c],hpD,.inr (by rw [e,st2.same.T];rfl)⟩))),?_⟩
   have same3:X2.Same (X2.setTr (q++[c]) m):=⟨rfl,rfl,rfl,rfl,rfl⟩
   have stay3:∀x,x≠q++[c]→X2.Stay (X2.setTr (q++[c]) m) x:=fun x hx=>⟨rfl,if_neg hx⟩
   have hstp:=lo2 _ hpD hslt
   have dn3:(X2.setTr (q++[c]) m).DN (q++[c]):=by
    refine ⟨?_,fun c'=>?_⟩
    ·show X2.lss (q++[c])=some (Ct X2.D (q++[c]))
     rw [hstp.1,hlp,hD2,hs]
    ·show Bk (if q++[c]=q++[c] then m else X2.tr (q++[c])) c'=By X2.D (q++[c]) c'
     rw [if_pos rfl,hm c',hD2]
     have e1:X2.look (q++[c]) c'=X.look (q++[c]) c':=by simp only [Af.look,hstp.2];rfl
     have e2:X2.look s c'=By X.D s c':=by rw [(ad2 s (List.suffix_refl s) (hD2▸hsD)).2 c',hD2]
     rw [e1,e2]
     have hfu:=hfull c'
     rw [if_neg hs0] at hfu
     rcases hcur with u|u
     ·rw [u.2 c',hfu]
     ·rw [u.2 c']
      cases hx:By X.D (q++[c]) c' with
      |some zu=>rfl
      |none=>
       rw [hx] at hfu
       cases hk:Ed X.D (q++[c]) c' with
       |some zu=>rw [hk] at hfu;exact Ap hfu
       |none=>rw [hk] at hfu;simpa using hfu
   have ad3:(X2.setTr (q++[c]) m).AD (q++[c]):=by
    intro r hrs hrD
    by_cases e:r=q++[c]
    ·subst e;exact dn3
    ·have hrD':r∈X.D:=hD2▸hrD
     have h2:=J5 hrD' hrs e
     rw [hs] at h2
     exact (stay3 r e).dn same3 (ad2 r h2 hrD)
   refine ⟨⟨same1.trans (st2.same.trans same3),fun x hx=>?_⟩,ad3,fun x hx hl=>?_,fun x hx hxp hxl=>?_⟩
   ·by_cases e:x=q++[c]
    ·subst e;exact .inr ad3
    ·rcases st2.all x hx with a|a
     ·exact .inl ⟨(a.1.trans (stay1 x e).1),(stay3 x e).2.trans (a.2.trans (stay1 x e).2)⟩
     ·by_cases hl:x.length≤s.length
      ·refine .inr (fun r hrs hrD=>?_)
       refine (stay3 r ?_).dn same3 (a r hrs hrD)
       rintro rfl
       have:=hrs.length_le
       exact GA [_,_,_] [(1,(Zs Z0),Z1),(1,Z2,Z0),(1,Z1,Z2)] rfl hslt hl this
      ·have a:=lo2 x hx (C0 [_,_] [(1,(Zs Z0),Z1)] Z0 Z1 rfl (Nat.lt_of_not_le hl))
       exact .inl ⟨(a.1.trans (stay1 x e).1),(stay3 x e).2.trans (a.2.trans (stay1 x e).2)⟩
   ·have e:x≠q++[c]:=by rintro rfl;exact GA [_] [(1,(Zs Z0),Z0)] rfl hl
    have a:=lo2 x hx (by with_reducible exact Nl ‹_› ‹_›)
    exact ⟨(a.1.trans (stay1 x e).1),(stay3 x e).2.trans (a.2.trans (stay1 x e).2)⟩
   ·rw [←kt2 x hx hxp hxl]
    have hT2:X2.T=X.T:=st2.same.T
    refine xa1_1 (hr2.td x (hD2▸hx)) ?_;intro ep hx2
    rw [hT2] at hx2
    refine hfr3.keep _ (by rw [hx2];simp) (fun e=>hxp (hw2.ti x (hD2▸hx) _ (hD2▸hpD) ?_))
    rw [←e,hT2]
  refine Aa (Bq (Bi (Ab Ax (Ab (Ai m3) (MI (X:=X.setLss (q++[c]) s) hr1 hsD hw.root ⟨_,rfl,?_⟩)))))
  by_cases hs0:s=[]
  ·subst hs0
   simp only [decide_true,if_true]
   refine Aa (Dz ⟨rfl,X.setLss (q++[c]) [],hw1,hr1,hfr1,?_⟩)
   have dn1:(X.setLss (q++[c]) []).DN (q++[c]):=by
    refine ⟨hlp.trans (congrArg some hs.symm),fun c'=>?_⟩
    show X.look (q++[c]) c'=By X.D (q++[c]) c'
    have hfu:=hfull c'
    rw [if_pos rfl] at hfu
    rcases hcur with u|u
    ·rw [u.2 c',←hfu];simp
    ·exact u.2 c'
   have ad1:(X.setLss (q++[c]) []).AD (q++[c]):=by
    intro r hrs hrD
    by_cases e:r=q++[c]
    ·subst e;exact dn1
    ·have h2:=J5 hrD hrs e
     rw [show Ct (X.setLss (q++[c]) []).D (q++[c])=[] from hs] at h2
     simp at h2;subst h2
     exact (stay1 [] e).dn same1 (had [] List.nil_suffix hw.root)
   refine ⟨⟨same1,fun x hx=>?_⟩,ad1,fun x hx hl=>stay1 x (by rintro rfl;exact GA [_] [(1,(Zs Z0),Z0)] rfl hl),fun x hx zu zu=>hT1 x hx⟩
   by_cases e:x=q++[c]
   ·subst e;exact .inr ad1
   ·exact .inl (stay1 x e)
  ·simp only [hs0,decide_false]
   refine An ?_
   have hsx:s <:+ q++[c]:=hs▸DY
   refine xa1_2 (HG hsx hs0) ?_;intro q' hq' hq'q
   have hnp:s≠q++[c]:=by rintro rfl;exact GA [_] [(1,(Zs Z0),Z0)] rfl hslt
   have stay1':∀x,x.length≤s.length→X.Stay (X.setLss (q++[c]) s) x:=fun x hx=>stay1 x (by rintro rfl;exact GA [_,_] [(1,(Zs Z0),Z1),(1,Z1,Z0)] rfl hslt hx)
   have ad1:∀x,x.length≤s.length→X.AD x→(X.setLss (q++[c]) s).AD x:=fun x hx h r hrs hrD=>by
    have:=hrs.length_le
    exact (stay1' r (by with_reducible exact CG ‹_› ‹_›)).dn same1 (h r hrs hrD)
   refine Aa (Bq (Bi (As (Ab Ax (EK (X:=X.setLss (q++[c]) s) T hr1 hsD (Bu ?_))))))
   rcases hsh s hsD hslt with u|u
   ·have e:(X.setLss (q++[c]) s).lssv s=.none:=by
     have:(X.setLss (q++[c]) s).lss s=none:=(stay1 s hnp).1.trans u.1
     simp only [Af.lssv,this]
    rw [e]
    refine Ck ⟨_,rfl,?_⟩
    simp only [if_true]
    refine Aa (AM (A2 (Ab (Ai m1) (BS T.m_lss hr1.tree hr1.ns rfl (Ay (Ab Ax (At (A6 (AR hf (Fn.mono (Q:=fun v hp'=>v=.none∧F9 (X.setLss (q++[c]) s) s t d ci σ₁.hp hp') ?_ ?_))))))))))
    ·have hlen:q'.length<s.length:=by rw [hq'];simp
     have:=ih (A.deeper (callEnv (r₀.fd Ez .none) L 122)) (X.setLss (q++[c]) s) t d ci σ₁.hp q' c (by rw [←hq'];exact A8 [_,_,_] [(1,Z2,(Zs Z1)),(1,(Zs Z0),Z2)] Z0 Z1 rfl hn hslt) hA (by show A.depth+1+n<recursionLimit;exact C0 [_,_,_] [(1,(Zs (Za Z0 (Zs Z1))),Z2)] (Za (Zs Z0) Z1) Z2 rfl hroom) hw1 hr1 (by rw [←hq'];exact hsD)
      (ad1 q' (by with_reducible exact Lu ‹_›) (fun r hrs hrD=>had r (hrs.trans hq'q) hrD))
      (fun x hx hl=>by
       rw [←hq'] at hl
       rcases hsh x hx (by with_reducible exact Nl ‹_› ‹_›) with v|v
       ·exact .inl ((stay1' x (by with_reducible exact Lu ‹_›)).ud same1 v)
       ·exact .inr (ad1 x (by with_reducible exact Lu ‹_›) v))
      (by rw [←hq'];exact .inl ((stay1 s hnp).ud same1 u)) hz
     rw [←hq'] at this
     exact this
    ·(rintro v hp';intro zr;refine cps fun zP zk=>?_;(rcases zr with ⟨zu,X2,hw2,hr2,hfr2,st2,ad2,lo2,kt2⟩)<;>(refine zk ?_;clear zk zP))
     refine An ?_
     show Cd C _ Bd _ (Ez.body.drop 7) _ _
     refine rest _ X2 hs0 hw2 ?_ ?_ st2 ad2 lo2 ?_ ?_ ?_
     ·exact hr2
     ·exact hfr1.trans hfr2
     ·intro x hx hxp hxl
      rw [←hT1 x hx]
      exact kt2 x hx (fun zE=>hxl (zE▸u.1)) (by rw [(stay1 x hxp).1];exact hxl)
     ·exact Ai m2
     ·exact Ax
   ·have e:(X.setLss (q++[c]) s).lssv s=.ref (X.A (Ct X.D s)):=by
     have:(X.setLss (q++[c]) s).lss s=some (Ct X.D s):=(stay1 s hnp).1.trans (u s (List.suffix_refl s) hsD).1
     simp only [Af.lssv,this];rfl
    rw [e]
    refine Fy ⟨_,rfl⟩ ⟨_,rfl,?_⟩
    refine An ?_
    show Cd C _ Bd _ (Ez.body.drop 7) _ _
    refine rest _ _ hs0 hw1 ?_ ?_ (.refl _) (ad1 s (Nat.le_refl _) u) (fun zu zu zu=>⟨rfl,rfl⟩) ?_ ?_ ?_
    ·exact hr1
    ·exact hfr1
    ·exact fun x hx zu zu=>hT1 x hx
    ·exact Ai m2
    ·exact Ax
end
section
noncomputable def Ch (D:List Ag) (x y:Ag):Prop:=∃c,By D x c=some y
structure H8 (D st pl:List Ag) (x:Ag) (ys:List Ag):Prop where
 sD:∀z∈st,z∈D
 pD:∀z∈pl,z∈D
 pn:pl.Nodup
 rt:[]∈pl∨[]∈st
 cl:∀z∈pl,∀y,Ch D z y→y∈pl∨y∈st∨(z=x∧y∈ys)
 tp:∀l z r,st=l++z::r→z∈pl→∀y,Ch D z y→y∈pl∨y∈r∨(z=x∧y∈ys)
noncomputable def Ft (pl:List Ag) (x:Ag):List Ag:=if x∈pl then pl else pl++[x]
theorem AY {pl:List Ag} {x z:Ag}:z∈Ft pl x↔z∈pl∨z=x:=by
 simp only [Ft];split
 ·rename_i h
  constructor
  ·exact .inl
  ·rintro (q|rfl)
   ·exact q
   ·exact h
 ·simp
variable {D st pl:List Ag} {x:Ag} {ys:List Ag}
theorem H8.init (h:[]∈D) (x:Ag):H8 D [[]] [] x []:=⟨by simpa using h,by simp,List.nodup_nil,.inr (by simp),by simp,by simp⟩
theorem H8.pop {x₀:Ag} (h:H8 D (st++[x]) pl x₀ []) (hy:∀y,Ch D x y→y∈ys):H8 D st (Ft pl x) x ys where
 sD:=fun z hz=>h.sD z (List.mem_append_left _ hz)
 pD:=fun z hz=>by
  rcases AY.mp hz with q|rfl
  ·exact h.pD z q
  ·exact h.sD z (by simp)
 pn:=by
  simp only [Ft];split
  ·exact h.pn
  ·rename_i hn
   refine List.nodup_append.mpr ⟨h.pn,by simp,?_⟩
   intro a ha b hb e
   simp at hb;subst hb;subst e;exact hn ha
 rt:=by
  rcases h.rt with q|q
  ·exact .inl (AY.mpr (.inl q))
  ·rcases List.mem_append.mp q with q|q
   ·exact .inr q
   ·simp at q;exact .inl (AY.mpr (.inr q.symm))
 cl:=fun z hz y hc=>by
  rcases AY.mp hz with q|rfl
  ·rcases h.cl z q y hc with a|a|a
   ·exact .inl (AY.mpr (.inl a))
   ·rcases List.mem_append.mp a with a|a
    ·exact .inr (.inl a)
    ·simp at a;exact .inl (AY.mpr (.inr a))
   ·simp at a
  ·exact .inr (.inr ⟨rfl,hy y hc⟩)
 tp:=fun l z r e hz y hc=>by
  rcases AY.mp hz with q|rfl
  ·rcases h.tp l z (r++[x]) (by rw [e];simp) q y hc with a|a|a
   ·exact .inl (AY.mpr (.inl a))
   ·rcases List.mem_append.mp a with a|a
    ·exact .inr (.inl a)
    ·simp at a;exact .inl (AY.mpr (.inr a))
   ·simp at a
  ·exact .inr (.inr ⟨rfl,hy y hc⟩)
theorem H8.known {x₀:Ag} (h:H8 D (st++[x]) pl x₀ []) (hx:x∈pl):∀y,Ch D x y→y∈pl:=fun y hc=>by
 rcases h.tp st x [] rfl hx y hc with a|a|a
 ·exact a
 ·simp at a
 ·simp at a
theorem H8.skip {y:Ag} (h:H8 D st pl x (y::ys)) (hy:y∈pl):H8 D st pl x ys where
 sD:=h.sD
 pD:=h.pD
 pn:=h.pn
 rt:=h.rt
 cl:=fun z hz y' hc=>by
  rcases h.cl z hz y' hc with a|a|⟨a,b⟩
  ·exact .inl a
  ·exact .inr (.inl a)
  ·rcases List.mem_cons.mp b with rfl|b
   ·exact .inl hy
   ·exact .inr (.inr ⟨a,b⟩)
 tp:=fun l z r e hz y' hc=>by
  rcases h.tp l z r e hz y' hc with a|a|⟨a,b⟩
  ·exact .inl a
  ·exact .inr (.inl a)
  ·rcases List.mem_cons.mp b with rfl|b
   ·exact .inl hy
   ·exact .inr (.inr ⟨a,b⟩)
theorem H8.push {y:Ag} (h:H8 D st pl x (y::ys)) (hy:y∉pl) (hD:y∈D):H8 D (st++[y]) pl x ys where
 sD:=fun z hz=>by
  rcases List.mem_append.mp hz with q|q
  ·exact h.sD z q
  ·simp at q;subst q;exact hD
 pD:=h.pD
 pn:=h.pn
 rt:=h.rt.imp_right (List.mem_append_left _)
 cl:=fun z hz y' hc=>by
  rcases h.cl z hz y' hc with a|a|⟨a,b⟩
  ·exact .inl a
  ·exact .inr (.inl (List.mem_append_left _ a))
  ·rcases List.mem_cons.mp b with rfl|b
   ·exact .inr (.inl (by simp))
   ·exact .inr (.inr ⟨a,b⟩)
 tp:=fun l z r e hz y' hc=>by
  rcases List.eq_nil_or_concat r with rfl|⟨r',w,rfl⟩
  ·have:=List.append_inj' (s₁:=st) (t₁:=[y]) (s₂:=l) (t₂:=[z]) e rfl
   simp at this
   exact absurd (this.2▸hz) hy
  ·rw [List.concat_eq_append] at e ⊢
   have e':st++[y]=(l++z::r')++[w]:=by rw [e];simp
   refine xa0_2 (List.append_inj' e' rfl) ?_;intro e1 e2
   simp at e2;subst e2
   rcases h.tp l z r' e1 hz y' hc with a|a|⟨a,b⟩
   ·exact .inl a
   ·exact .inr (.inl (List.mem_append_left _ a))
   ·rcases List.mem_cons.mp b with rfl|b
    ·exact .inr (.inl (by simp))
    ·exact .inr (.inr ⟨a,b⟩)
theorem Ch.kid {q:Ag} {c:Aw} (h:q++[c]∈D):Ch D q (q++[c]):=by
 refine ⟨c,?_⟩
 cases q with
 |nil=>simp only [By,Ed,if_true];rw [if_pos h]
 |cons a q=>
  simp only [By,BX,BW];rw [if_neg (by simp),if_pos h]
theorem H8.all (h:H8 D [] pl x []) (hc:PC D):∀p∈D,p∈pl:=by
 intro p
 have:∀n (p:Ag),p.length=n→p∈D→p∈pl:=by
  intro n
  induction n with
  |zero=>
   intro p hn hp
   have:p=[]:=List.length_eq_zero_iff.mp hn
   subst this
   exact h.rt.resolve_right (by simp)
  |succ n ih=>
   intro p hn hp
   rcases List.eq_nil_or_concat p with rfl|⟨q,c,rfl⟩
   ·cases hn
   ·rw [List.concat_eq_append] at hn hp ⊢
    have hq:=ih q (by simpa using hn) (hc.closed q c hp)
    rcases h.cl q hq _ (Ch.kid hp) with a|a|a
    ·exact a
    ·simp at a
    ·simp at a
 exact this p.length p rfl
noncomputable def GZ (D pl:List Ag) (S:Int→Bool):Prop:=∀p∈D,S (D.idxOf p)=true↔p∈pl
theorem GZ.add {S:Int→Bool} (h:GZ D pl S) (hx:x∈D):GZ D (Ft pl x) (fun j=>S j||decide (j=(D.idxOf x:Int))):=by
 intro p hp
 rw [AY,Bool.or_eq_true,h p hp,decide_eq_true_iff]
 constructor
 ·exact Or.imp_right (fun e=>JK hp (by omega))
 ·exact Or.imp_right (fun e=>by rw [e])
theorem JJ (pl:List Ag) (x:Ag) {S:Int→Bool} (h:GZ D pl S) (hx:x∈D):(if S (D.idxOf x) then pl.length else pl.length+1)=(Ft pl x).length:=by
 by_cases e:x∈pl
 ·rw [if_pos ((h x hx).mpr e)];simp [Ft,e]
 ·rw [if_neg (fun q=>e ((h x hx).mp q))];simp [Ft,e]
theorem Fd {N a b c c':Nat} (h1:a+1≤N) (h2:c'≤c+N):(N - (a+1))*(N+1)+c'<(N - a)*(N+1)+(c+1):=by
 obtain ⟨k,rfl⟩:∃k,N=a+1+k:=⟨N - (a+1),by exact Nat.le_antisymm (A8 [_,_,_] [(1,Z0,(Za Z2 (Zs Z1)))] Z0 (Za (Zs Z1) Z2) rfl (Eh _ _)) (A8 [_,_,_] [(1,(Za Z1 (Zs Z0)),Z2)] (Za (Zs Z0) Z1) Z2 rfl (Nat.le_of_eq (Nat.sub_add_cancel (A8 [_,_] [(1,(Zs Z0),Z1)] (Zs Z0) Z1 rfl h1))))⟩
 have e1:a+1+k - (a+1)=k:=by exact Nat.le_antisymm (A8 [_,_,_] [(1,(Za Z0 (Zs Z2)),(Za (Zs Z2) Z1))] Z0 Z1 rfl (Nat.le_of_eq (Nat.sub_add_cancel (A8 [_,_] [] (Zs Z0) (Za (Zs Z0) Z1) rfl)))) (A8 [_,_,_] [(1,(Za (Zs Z2) Z0),(Za Z1 (Zs Z2)))] Z0 Z1 rfl (Eh _ _))
 have e2:a+1+k - a=k+1:=by exact Nat.le_antisymm (A8 [_,_,_] [(1,(Za Z0 Z2),(Za (Zs Z2) Z1))] Z0 (Zs Z1) rfl (Nat.le_of_eq (Nat.sub_add_cancel (A8 [_,_] [] Z0 (Za (Zs Z0) Z1) rfl)))) (A8 [_,_,_] [(1,(Za (Zs Z2) Z0),(Za Z1 Z2))] (Zs Z0) Z1 rfl (Eh _ _))
 rw [e1,e2,Nat.succ_mul];exact C0 [_,_,_,_,_] [(1,Z1,(Za Z4 (Za (Zs Z2) Z3)))] (Za Z0 Z1) (Za (Za Z0 (Zs (Za (Zs Z2) Z3))) (Zs Z4)) rfl h2
theorem Cc.upd0 {P:Addr→Prop} {h h':HP} {a:Addr} (x:AO) (f:Cc P h P h') (ha:h a=none):Cc P h P (AC.upd h' a x):=
 ⟨fun b hb nb=>(Ad _ _ (by rintro rfl;exact hb ha)).trans (f.keep b hb nb),fun zu q=>.inl q⟩
theorem AK.updOff {X:Af} {t d:Addr} {fin ci:Bool} {hp:HP} (hr:AK X t d fin ci hp) {a:Addr} {x:AO} (ha:¬Fp X t d a):AK X t d fin ci (AC.upd hp a x):=
 hr.off (fun b hb=>Ad _ _ (by rintro rfl;exact ha hb))
end
section
variable {C:Cf} {A:Around} {E:Value→Shared→Prop} {env:Env} {σ:Al}
theorem CM {hp:HP} {a b:Addr} {x:AO} (h1:hp a=some x) (h2:hp b=none):a≠b:=fun zE=>by (first|rw [zE,h1] at h2|rw [←zE,h1] at h2);exact Ap h2
theorem Pe {X:Af} {p q:Ag} (h:X.AD p) (hs:q <:+ p):X.AD q:=fun r hr hD=>h r (hr.trans hs) hD
structure Nz (X:Af) (t d:Addr) (ci:Bool) (hp:HP) (pa wa:Addr) (st pl:List Ag) (x:Ag) (ys:List Ag) (X':Af) (σ:Al):Prop where
 wf:X'.Wf
 rep:AK X' t d false ci σ.hp
 fr:Cc (Fp X t d) hp (Fp X t d) σ.hp
 step:X.Step X'
 all:∀p∈X'.D,X'.UD p∨X'.AD p
 sad:∀p∈st,X'.AD p
 pad:∀p∈pl,X'.AD p
 dfs:H8 X'.D st pl x ys
 set:∃S,σ.hp pa=some (.iset S pl.length)∧GZ X'.D pl S
 stk:σ.hp wa=some (.list (st.map fun p=>.ref (X'.A p)))
 l1:σ.v "self" = some (.ref t)
 l2:σ.v "processed" = some (.ref pa)
 l3:σ.v "to_process" = some (.ref wa)
inductive OU (X:Af) (N:Nat) (t d:Addr) (ci:Bool) (hp:HP) (pa wa:Addr) (m:Nat) (σ':Al):Prop
 |mk (st pl:List Ag) (X':Af) (h1:m=(N - pl.length)*(N+1)+st.length) (h2:st.length≤pl.length*N+1) (h3:Nz X t d ci hp pa wa st pl [] [] X' σ')
inductive OV (X:Af) (t d:Addr) (ci:Bool) (hp:HP) (pa wa:Addr) (X':Af) (st pl:List Ag) (x:Ag) (ep:Nat) (zx:AV) (zy:Al) (xs:List AV) (σ'':Al):Prop
 |mk (st' ys:List Ag) (X'':Af) (h1:xs=ys.map (fun y=>AV.ref (X'.A y))) (h2:X'.Step X'') (h3:Nz X t d ci hp pa wa st' (Ft pl x) x ys X'' σ'') (h4:∀y∈ys,Ch X'.D x y) (h5:x∈pl→st'=st) (h6:st'.length+ys.length≤st.length+X'.D.length) (h7:σ''.hp (X'.T x)=some (.dict (X'.trv x) ep))
theorem MO (T:Tp C) {X:Af} {t d:Addr} {ci:Bool} {hp:HP} {N:Nat} (hA:A.handled=none) (hroom:A.depth+N+2<recursionLimit) (hw:X.Wf) (hr:AK X t d false ci hp) (had:X.AD []) (hall:∀p∈X.D,X.UD p∨X.AD p)
  (hz:X.D.length≤300) (hN:∀p∈X.D,p.length≤N) :
  Fn C A (.ref 115) [.ref t,.ref (X.A [])] [] hp (fun v hp'=>v=.none∧∃X',X'.Wf∧AK X' t d false ci hp'∧Cc (Fp X t d) hp (Fp X t d) hp'∧X.Step X'∧∀p∈X.D,X'.DN p):=by
 refine xa1_1 T.f_kids ?_;intro r₀ hf
 refine xa1_1 T.f_lss ?_;intro r₁ hfl
 refine Da (body:=Ij.body) hf (Jf C r₀ _ _) (fun L=>?_) (C0 [_,_,_] [(1,(Zs (Za (Za Z0 Z2) (Zn 2))),Z1)] Z0 Z1 rfl hroom) (by kernel_rfl) (by kernel_rfl) (by kernel_rfl) (by kernel_rfl) (by kernel_rfl)
 refine Tr.gen fun K0 hK0=>?_
 refine Aa (Ah (AZ (C5 T.g_set (At (A6 (J6 (fun pa hpa=>?_)))))))
 refine Aa (Ah (AN (Ay (Ab rfl (At ⟨by simp,fun wa hwa=>?_⟩)))))
 have hwp:wa≠pa:=fun zE=>by (first|rw [zE] at hwa|rw [←zE] at hwa);simp at hwa
 have hwa0:hp wa=none:=by simpa [upd,hwp] using hwa
 have hpa0:hp pa=none:=hpa
 have npa:¬Fp X t d pa:=fun h=>hr.some h hpa0
 have nwa:¬Fp X t d wa:=fun h=>hr.some h hwa0
 refine Aa (Dy (OU X X.D.length t d ci hp pa wa) ?_ ((X.D.length - 0)*(X.D.length+1)+1) ?_)
 ·(rintro m σ';intro zr;refine cps fun zP zk=>?_;(rcases zr with ⟨st,pl,X',rfl,hlen0,I⟩)<;>(refine zk ?_;clear zk zP))
  have hD':X'.D=X.D:=I.step.same.D
  have hfp:Fp X' t d=Fp X t d:=I.step.same.fp t d
  have hpc:PC X'.D:=I.wf.pc
  rw [←hD'] at hz hN hlen0 ⊢
  have hplD:pl.length≤X'.D.length:=Cq I.dfs.pn I.dfs.pD
  have hlen:(st.map fun p=>AV.ref (X'.A p)).length≤100000:=by
   have h2:pl.length*X'.D.length≤300*300:=Nat.mul_le_mul (by with_reducible exact CG ‹_› ‹_›) hz
   simp;exact A8 [_,_] [(1,Z0,(Zs Z1)),(1,Z1,(.mulL 300 (Zn 300)))] Z0 (Zn 100000) rfl hlen0 h2
  refine B4 (Ab I.l3 (EW I.stk hlen ?_))
  rcases List.eq_nil_or_concat st with rfl|⟨st,x,rfl⟩
  ·simp only [List.map_nil,List.isEmpty_nil,Bool.not_true]
   exact An (hK0 _ _ ⟨rfl,X',I.wf,I.rep,I.fr,I.step,fun p hp=>I.pad p (I.dfs.all hpc p (hD'.symm▸hp)) p (List.suffix_refl p) (hD'.symm▸hp)⟩)
  ·rw [List.concat_eq_append] at *
   simp only [List.map_append,List.map_cons,List.map_nil] at hlen ⊢
   have hne:(!(st.map (fun p=>AV.ref (X'.A p))++[AV.ref (X'.A x)]).isEmpty)=true:=by simp
   rw [hne]
   refine Tr.gen fun K1 hK1=>?_
   have hstk:=I.stk
   simp only [List.map_append,List.map_cons,List.map_nil] at hstk
   have hxD:x∈X'.D:=I.dfs.sD x (by simp)
   have hx:X'.AD x:=I.sad x (by simp)
   have hxn:X'.DN x:=hx x (List.suffix_refl x) hxD
   refine xa1_2 I.set ?_;intro S hS hM
   refine Aa (Ah (A2 (Ab I.l3 (Nm hstk (At (A6 (Ii hstk (by simp at hlen ⊢;with_reducible exact Bj ‹_› (by decide)) ?_)))))))
   have hr1:AK X' t d false ci (upd σ'.hp wa (.list (st.map fun p=>.ref (X'.A p)))):=I.rep.updOff (by rw [hfp];exact nwa)
   refine Aa (AM (A2 (Ab (Ai I.l2) (L5 ((Ad _ _ hwp.symm).trans hS) (Ay (As (Ab Ax (JC (X:=X') T hr1 hxD (At (A6 (J7 ((Ad _ _ hwp.symm).trans hS) (C0 [_,_] [(1,Z1,(Zn 300)),(1,Z0,Z1)] (Zs Z0) (Zn 4096) rfl hz hplD) ?_)))))))))))
   have hr2:AK X' t d false ci (upd (upd σ'.hp wa (.list (st.map fun p=>.ref (X'.A p)))) pa (.iset (fun j=>S j||decide (j=(X'.D.idxOf x:Int))) (if S (X'.D.idxOf x) then pl.length else pl.length+1))):=hr1.updOff (by rw [hfp];exact npa)
   refine xa1_1 (hr2.td x hxD) ?_;intro ep htd
   have hkeep:∀a,Fp X' t d a→a≠wa∧a≠pa:=fun a ha=>⟨fun zE=>nwa (zE▸hfp▸ha),fun zE=>npa (zE▸hfp▸ha)⟩
   have htx:Fp X' t d (X'.T x):=.inr (.inr ⟨x,hxD,.inr rfl⟩)
   refine Aa (H7 (fun zu zu hp=>hp (X'.T x)=some (.dict (X'.trv x) ep))
    (OV X t d ci hp pa wa X' st pl x ep)
    (A2 (As (Ab Ax (DM (X:=X') T hr2 hxD (Ic htd (At (A6 (dict_values T.sysm htd (fun v hv=>⟨_,Fc CQ hA (Ae _ _ _) ?_,?_⟩))))))))) ?_ ?_ ?_)
   ·exact (Ad _ _ (CM htd hv)).trans htd
   ·have hvw:v≠wa:=fun zE=>by (first|rw [zE] at hv|rw [←zE] at hv);simp [upd,hwp] at hv
    have hvp:v≠pa:=fun zE=>by (first|rw [zE] at hv|rw [←zE] at hv);simp [upd] at hv
    have hv0:σ'.hp v=none:=by simpa [upd,hvw,hvp] using hv
    have hvh:hp v=none:=by
     cases e:hp v with
     |none=>rfl
     |some o=>
      have nf:¬Fp X t d v:=fun q=>I.rep.some (hfp▸q) hv0
      rw [I.fr.keep v (by rw [e];simp) nf,e] at hv0;exact Ap hv0
    refine ⟨st,(X'.tr x).map (·.2),X',by simp [Af.trv],.refl X',⟨I.wf,hr2.new hv,((I.fr.upd0 _ hwa0).upd0 _ hpa0).upd0 _ hvh,I.step,I.all,fun p hp=>I.sad p (by simp [hp]),fun p hp=>?_,I.dfs.pop (fun y hc=>?_),?_,?_,Ai I.l1,Ai I.l2,Ai I.l3⟩,?_,fun zu=>rfl,?_,?_⟩
    ·rcases AY.mp hp with q|rfl
     ·exact I.pad p q
     ·exact hx
    ·refine xa1_1 hc ?_;(try clear hc);intro c hc
     rw [←hxn.2 c] at hc
     exact List.mem_map.mpr ⟨(c,y),EN hc,rfl⟩
    ·refine ⟨_,?_,hM.add hxD⟩
     rw [←JJ pl x hM hxD]
     exact (Ad _ _ hvp.symm).trans (Ae _ _ _)
    ·exact (Ad _ _ hvw.symm).trans ((Ad _ _ hwp).trans (Ae _ _ _))
    ·intro y hy
     refine xa1_2 (List.mem_map.mp hy) ?_;intro e he;rintro rfl
     exact ⟨e.1,by rw [←hxn.2 e.1];exact Ig (I.wf.trN x hxD) he⟩
    ·have:=I.wf.trlen hxD
     simp;assumption
    ·exact (Ad _ _ (CM htd hv)).trans htd
   ·(rintro zu zu xs σ'';intro zr;refine cps fun zP zk=>?_;(rcases zr with ⟨zu,zu,zu,zu,zu,zu,zu,zu,zu,h⟩)<;>(refine zk ?_;clear zk zP))
    exact h
   ·(rintro zu zu z xs σ'';intro zr;refine cps fun zP zk=>?_;(rcases zr with ⟨st',ys,X'',e1,hst,J,hch,hnp,hln,htk⟩)<;>(refine zk ?_;clear zk zP))
    obtain ⟨y,ys,rfl,rfl,rfl⟩:∃y ys',ys=y::ys'∧z=.ref (X'.A y)∧xs=ys'.map (fun y=>AV.ref (X'.A y)):=by
     cases ys with
     |nil=>cases e1
     |cons y ys'=>simp only [List.map_cons,List.cons.injEq] at e1;exact ⟨y,ys',rfl,e1.1,e1.2⟩
    have hD2:X''.D=X'.D:=hst.same.D
    have hA2:X''.A=X'.A:=hst.same.A
    have hT2:X''.T=X'.T:=hst.same.T
    have hfp2:Fp X'' t d=Fp X t d:=(hst.same.fp t d).trans hfp
    refine xa1_1 (hch y (by simp)) ?_;intro c hc
    refine cps fun zP zk=>?_;(rcases EP hc with ⟨hyD,r',rfl,hr'x⟩)<;>(refine zk ?_;clear zk zP)
    rw [←hA2]
    rw [←hD2] at hyD
    refine xa1_2 J.set ?_;intro S2 hS2 hM2
    refine Bs ?_
    refine Tr.gen fun K2 hK2=>?_
    refine Aa (Bq (Bi (As (Ab Ax (JC (X:=X'') T J.rep hyD (Ab (Ai J.l2) (Ga (Ln hS2 ⟨_,rfl,_,rfl,?_⟩))))))))
    have hlen2:(st'.map fun p=>AV.ref (X''.A p)).length≤100000:=by
     have h2:pl.length*X'.D.length≤300*300:=Nat.mul_le_mul (by with_reducible exact CG ‹_› ‹_›) hz
     simp at hlen0 hln ⊢;exact A8 [_,_,_,_,_] [(1,Z1,(Zn 300)),(1,(Za Z0 (Zs Z2)),(Za Z3 Z1)),(1,Z4,(.mulL 300 (Zn 300))),(1,Z3,Z4)] Z0 (Zn 100000) rfl hz hln h2 hlen0
    by_cases hy:r'++[c]∈Ft pl x
    ·rw [(hM2 _ hyD).mpr hy]
     simp only [Bool.not_true]
     exact An (An (hK2 _ _ ⟨st',ys,X'',by rw [hA2],hst,⟨J.wf,J.rep,J.fr,J.step,J.all,J.sad,J.pad,J.dfs.skip hy,⟨S2,hS2,hM2⟩,J.stk,Ai J.l1,Ai J.l2,Ai J.l3⟩,fun y' hy'=>hch y' (by simp [hy']),hnp,by simp at hln;exact A8 [_,_,_,_] [(1,(Za Z0 (Zs Z1)),(Za Z2 Z3))] (Za Z0 Z1) (Za Z2 Z3) rfl hln,htk⟩))
    ·have hSf:S2 (X''.D.idxOf (r'++[c]))=false:=by
      cases e:S2 (X''.D.idxOf (r'++[c])) with
      |false=>rfl
      |true=>exact absurd ((hM2 _ hyD).mp e) hy
     rw [hSf]
     simp only [Bool.not_false,if_true]
     have hxJ:X''.AD x:=J.pad x (AY.mpr (.inr rfl))
     have hxD2:x∈X''.D:=hD2▸hxD
     have hcur:X''.UD (r'++[c])∨X''.DN (r'++[c]):=(J.all _ hyD).imp_right (fun a=>a _ (List.suffix_refl _) hyD)
     refine Aa (AM (A2 (Ab (Ai J.l1) (BS T.m_lss J.rep.tree J.rep.ns rfl (Ay (Ab Ax (At (A6 (AR hfl (Fn.mono
      (NL T N (A.deeper (callEnv (r₀.fd Ij .none) L 115)) X'' t d ci σ''.hp r' c (hN _ (hD2▸hyD)) hA (by show A.depth+1+N<recursionLimit;exact C0 [_,_,_] [(1,(Zs (Za (Za Z0 Z1) (Zn 2))),Z2)] (Za (Zs Z0) Z1) Z2 rfl hroom) J.wf J.rep hyD (Pe hxJ hr'x) (fun p hp zu=>J.all p hp) hcur (by rw [hD2];with_reducible exact Bj ‹_› (by decide))) ?_))))))))))
     (rintro v hp3;intro zr;refine cps fun zP zk=>?_;(rcases zr with ⟨zu,X3,hw3,hr3,hfr3,st3,ad3,zu,kt3⟩)<;>(refine zk ?_;clear zk zP))
     have hD3:X3.D=X''.D:=st3.same.D
     have hA3:X3.A=X''.A:=st3.same.A
     have hfp3:Fp X3 t d=Fp X t d:=(st3.same.fp t d).trans hfp2
     have hwk:hp3 wa=some (.list (st'.map fun p=>.ref (X''.A p))):=(hfr3.keep wa (by rw [J.stk];simp) (by rw [hfp2];exact nwa)).trans J.stk
     have hpk:hp3 pa=some (.iset S2 (Ft pl x).length):=(hfr3.keep pa (by rw [hS2];simp) (by rw [hfp2];exact npa)).trans hS2
     refine Aa (AM (A2 (Ab (Ai J.l3) (BZ hwk (Ay (Ab Ax (At (A6 (list_append hwk hlen2 ?_)))))))))
     refine An (An (hK2 _ _ ⟨st'++[r'++[c]],ys,X3,by rw [hA2],hst.trans st3,⟨hw3,AK.updOff hr3 (by rw [hfp3];exact nwa),(J.fr.trans (hfp2▸hfr3)).upd0 _ hwa0,J.step.trans st3,?_,?_,fun p hp=>st3.ad (J.pad p hp),?_,?_,?_,Ai J.l1,Ai J.l2,Ai J.l3⟩,fun y' hy'=>hch y' (by simp [hy']),?_,?_,?_⟩))
     ·intro p hp
      rw [hD3] at hp
      rcases st3.all p hp with a|a
      ·rcases J.all p hp with b|b
       ·exact .inl (a.ud st3.same b)
       ·exact .inr (st3.ad b)
      ·exact .inr a
     ·intro p hp
      rcases List.mem_append.mp hp with q|q
      ·exact st3.ad (J.sad p q)
      ·simp at q;subst q;exact ad3
     ·rw [hD3];exact J.dfs.push hy hyD
     ·exact ⟨S2,(Ad _ _ hwp.symm).trans hpk,by rw [hD3];exact hM2⟩
     ·rw [hA3];refine (Ae _ _ _).trans ?_;simp
     ·intro q
      exact absurd (AY.mpr (.inl (I.dfs.known q _ ⟨c,hc⟩))) hy
     ·simp at hln ⊢;exact A8 [_,_,_,_] [(1,(Za Z0 (Zs Z1)),(Za Z2 Z3))] (Za (Zs Z0) Z1) (Za Z2 Z3) rfl hln
     ·have hxy:x≠r'++[c]:=by rintro rfl;exact hy (AY.mpr (.inr rfl))
      have:=kt3 x hxD2 hxy (by rw [(hxJ x (List.suffix_refl x) hxD2).1];simp)
      rw [hT2] at this
      exact (Ad _ _ (hkeep _ htx).1).trans (this.trans htk)
   ·(rintro zu zu σ'';intro zr;refine cps fun zP zk=>?_;(rcases zr with ⟨st',ys,X'',e1,hst,J,hch,hnp,hln,htk⟩)<;>(refine zk ?_;clear zk zP))
    have:ys=[]:=by cases ys with|nil=>rfl|cons=>cases e1
    subst this
    have hD2:X''.D=X'.D:=hst.same.D
    refine An (hK1 _ _ ?_)
    by_cases hxp:x∈pl
    ·have e:=hnp hxp
     subst e
     have hi:Ft pl x=pl:=by simp [Ft,hxp]
     rw [hi] at J
     refine ⟨_,?_,st',pl,X'',rfl,?_,⟨J.wf,J.rep,J.fr,J.step,J.all,J.sad,J.pad,⟨J.dfs.sD,J.dfs.pD,J.dfs.pn,J.dfs.rt,fun z hz y hc=>?_,fun l z r e hz y hc=>?_⟩,J.set,J.stk,J.l1,J.l2,J.l3⟩⟩
     ·simp
     ·simp at hlen0;exact A8 [_,_] [(1,Z0,Z1)] Z0 (Zs Z1) rfl hlen0
     ·rcases J.dfs.cl z hz y hc with a|a|a
      ·exact .inl a
      ·exact .inr (.inl a)
      ·simp at a
     ·rcases J.dfs.tp l z r e hz y hc with a|a|a
      ·exact .inl a
      ·exact .inr (.inl a)
      ·simp at a
    ·have hi:(Ft pl x).length=pl.length+1:=by simp [Ft,hxp]
     have hle:(Ft pl x).length≤X'.D.length:=by rw [←hD2];exact Cq J.dfs.pn J.dfs.pD
     refine ⟨_,?_,st',Ft pl x,X'',rfl,?_,⟨J.wf,J.rep,J.fr,J.step,J.all,J.sad,J.pad,⟨J.dfs.sD,J.dfs.pD,J.dfs.pn,J.dfs.rt,fun z hz y hc=>?_,fun l z r e hz y hc=>?_⟩,J.set,J.stk,J.l1,J.l2,J.l3⟩⟩
     ·rw [hi,List.length_append]
      exact Fd (b:=0) (A8 [_,_,_] [(1,(Zs Z0),Z2),(1,Z2,Z1)] (Zs Z0) Z1 rfl (Nat.le_of_eq (Eq.symm hi)) hle) (by simpa using hln)
     ·rw [hi,Nat.succ_mul]
      simp at hln hlen0;exact A8 [_,_,_,_] [(1,Z0,(Za Z3 Z2)),(1,Z3,Z1)] Z0 (Zs (Za Z1 Z2)) rfl hln hlen0
     ·rcases J.dfs.cl z hz y hc with a|a|a
      ·exact .inl a
      ·exact .inr (.inl a)
      ·simp at a
     ·rcases J.dfs.tp l z r e hz y hc with a|a|a
      ·exact .inl a
      ·exact .inr (.inl a)
      ·simp at a
 ·refine ⟨[[]],[],X,by simp,by simp,⟨hw,(hr.new hpa0).updOff nwa,((Cc.new _ hpa0).upd0 _ hwa0),.refl X,hall,?_,by simp,H8.init hw.root [],⟨fun zu=>false,(Ad _ _ hwp.symm).trans (Ae _ _ _),fun p zu=>by simp⟩,Ae _ _ _,rfl,rfl,rfl⟩⟩
  intro p hp;simp at hp;subst hp;exact had
end
section
variable {C:Cf} {A:Around} {E:Value→Shared→Prop} {env:Env} {σ:Al}
noncomputable def outs (key:Ag→Option AV):Ag→List AV
 |[]=>[]
 |c::p=>(match key (c::p) with|some v=>[.tup [v,.int ((c::p).length:Nat)]]|none=>[])++outs key p
theorem Ea {key:Ag→Option AV}:outs key []=[]:=rfl
theorem DZ {key:Ag→Option AV} {c:Aw} {p:Ag}:outs key (c::p)=(match key (c::p) with|some v=>[.tup [v,.int ((c::p).length:Nat)]]|none=>[])++outs key p:=rfl
theorem Er (key:Ag→Option AV):∀p,(outs key p).length≤p.length
 |[]=>Nat.le_refl _
 |c::p=>by
  have:=Er key p
  simp only [Ea,DZ,List.length_append,List.length_cons]
  split<;>simp<;>omega
theorem FW {D:List Ag} {key:Ag→Option AV} (hk:∀p,p∉D→key p=none):∀p,outs key p=outs key (Cj D p)
 |[]=>rfl
 |c::p=>by
  by_cases h:(c::p)∈D
  ·rw [FM h]
  ·rw [show Cj D (c::p)=Cj D p by simp [FN,EX,h],←FW hk p]
   simp [Ea,DZ,hk _ h]
theorem Kn {D:List Ag} {key:Ag→Option AV} (hk:∀p,p∉D→key p=none) {p:Ag} (hp:p≠[]) :
  outs key p=(match key p with|some v=>[.tup [v,.int (p.length:Nat)]]|none=>[])++outs key (Ct D p):=by
 cases p with
 |nil=>exact absurd rfl hp
 |cons c p=>simp only [Ea,DZ,Ct,List.tail_cons,←FW hk p]
noncomputable def Af.wo (X:Af) (o:Ag→Option AV):Af:={ X with out:=o }
theorem Nq {X:Af} (h:X.Wf) (o:Ag→Option AV):(X.wo o).Wf:=⟨h.root,h.nodup,h.closed,h.ti,h.trD,h.trN,h.trL,h.mkD,h.mkV⟩
noncomputable def Ok (X:Af) (t d:Addr) (hp:HP):Prop:=∀p v,X.key p=some v→∃xs,xs.length=p.length∧DJ v xs hp∧∀a,v=.ref a→¬Fp X t d a
structure OJ (X:Af) (t d:Addr) (ci:Bool) (hp:HP) (pa wa:Addr) (st pl:List Ag) (x:Ag) (ys:List Ag) (o:Ag→Option AV) (σ:Al):Prop where
 rep:AK (X.wo o) t d false ci σ.hp
 fr:Cc (Fp X t d) hp (Fp X t d) σ.hp
 sad:∀p∈st,o p=some (.tup (outs X.key p))
 pad:∀p∈pl,o p=some (.tup (outs X.key p))
 dfs:H8 X.D st pl x ys
 set:∃S,σ.hp pa=some (.iset S pl.length)∧GZ X.D pl S
 stk:σ.hp wa=some (.list (st.map fun p=>.ref (X.A p)))
 l1:σ.v "zero_state" = some (.ref (X.A []))
 l2:σ.v "processed" = some (.ref pa)
 l3:σ.v "to_process" = some (.ref wa)
inductive Py (X:Af) (t d:Addr) (ci:Bool) (hp:HP) (pa wa:Addr) (m:Nat) (σ':Al):Prop
 |mk (st pl:List Ag) (o:Ag→Option AV) (h1:m=(X.D.length - pl.length)*(X.D.length+1)+st.length) (h2:st.length≤pl.length*X.D.length+1) (h3:OJ X t d ci hp pa wa st pl [] [] o σ')
inductive P0 (X:Af) (t d:Addr) (ci:Bool) (hp:HP) (pa wa:Addr) (st pl:List Ag) (x:Ag) (ep:Nat) (zx:AV) (zy:Al) (xs:List AV) (σ'':Al):Prop
 |mk (st' ys:List Ag) (o':Ag→Option AV) (h1:xs=ys.map (fun y=>AV.ref (X.A y))) (h2:OJ X t d ci hp pa wa st' (Ft pl x) x ys o' σ'') (h3:∀y∈ys,Ch X.D x y) (h4:x∈pl→st'=st) (h5:st'.length+ys.length≤st.length+X.D.length) (h6:σ''.hp (X.T x)=some (.dict (X.trv x) ep))
inductive Pz (X:Af) (pa wa oa:Addr) (y:Ag) (h0:HP) (n:Nat) (σ₃:Al):Prop
 |mk (s:Ag) (acc:List AV) (h1:s∈X.D) (h2:n=s.length) (h3:outs X.key y=acc++outs X.key s) (h4:σ₃.hp=upd h0 oa (.list acc)) (h5:σ₃.v "zero_state" = some (.ref (X.A []))) (h6:σ₃.v "processed" = some (.ref pa)) (h7:σ₃.v "to_process" = some (.ref wa)) (h8:σ₃.v "child" = some (.ref (X.A y))) (h9:σ₃.v "outputs" = some (.ref oa)) (h10:σ₃.v "suffix" = some (.ref (X.A s)))
theorem NE (T:Tp C) {X:Af} {t d:Addr} {ci:Bool} {hp:HP} {N:Nat} (hA:A.handled=none) (hroom:A.depth+2<recursionLimit) (hw:X.Wf) (hr:AK X t d false ci hp) (hdn:∀p∈X.D,X.DN p)
  (hz:X.D.length≤300) (hN:∀p∈X.D,p.length≤1000) (hk:Ok X t d hp) :
  Fn C A (.ref 108) [.ref t] [] hp (fun v hp'=>v=.none∧∃o,AK (X.wo o) t d false ci hp'∧Cc (Fp X t d) hp (Fp X t d) hp'∧∀p∈X.D,o p=some (.tup (outs X.key p))):=by
 refine xa1_1 T.f_pre ?_;intro r₀ hf
 refine Da (body:=Lr.body) hf (KD C r₀ _) (fun L=>?_) (by with_reducible exact FY ‹_›) (by kernel_rfl) (by kernel_rfl) (by kernel_rfl) (by kernel_rfl) (by kernel_rfl)
 refine Tr.gen fun K0 hK0=>?_
 refine Aa (Ah (As (Ab rfl (BG T.n_zero hr.tree hr.ns rfl ?_))))
 refine Aa (Ao (G0 (At ⟨by decide,Ab rfl (HW T hr hw.root ?_)⟩)))
 have hr0:AK (X.wo (fun x=>if x=[] then some (.tup []) else X.out x)) t d false ci (upd hp (X.A []) ((X.setOut [] (.tup [])).nodeAO [])):=FR hr hw.root
 have hf0:Cc (Fp X t d) hp (Fp X t d) (upd hp (X.A []) ((X.setOut [] (.tup [])).nodeAO [])):=Cc.upd _ (.inr (.inr ⟨[],hw.root,.inl rfl⟩))
 generalize hp0e:upd hp (X.A []) ((X.setOut [] (.tup [])).nodeAO [])=hp0 at hr0 hf0
 show Cd C _ Bd _ (Lr.body.drop 2) ⟨_,upd hp (X.A []) ((X.setOut [] (.tup [])).nodeAO [])⟩ _
 rw [hp0e]
 refine Aa (Ah (AZ (C5 T.g_set (At (A6 (J6 (fun pa hpa=>?_)))))))
 refine Aa (Ah (AN (Ay (Ab rfl (At ⟨by simp,fun wa hwa=>?_⟩)))))
 have hwp:wa≠pa:=fun zE=>by (first|rw [zE] at hwa|rw [←zE] at hwa);simp at hwa
 have hwa1:hp0 wa=none:=by simpa [upd,hwp] using hwa
 have hpa1:hp0 pa=none:=hpa
 have npa:¬Fp X t d pa:=fun h=>hr0.some h hpa1
 have nwa:¬Fp X t d wa:=fun h=>hr0.some h hwa1
 have hpa0:hp pa=none:=by
  cases e:hp pa with
  |none=>rfl
  |some o=>rw [hf0.keep pa (by rw [e];simp) npa,e] at hpa1;exact Ap hpa1
 have hwa0:hp wa=none:=by
  cases e:hp wa with
  |none=>rfl
  |some o=>rw [hf0.keep wa (by rw [e];simp) nwa,e] at hwa1;exact Ap hwa1
 refine Aa (Dy (Py X t d ci hp pa wa) ?_ ((X.D.length - 0)*(X.D.length+1)+1) ?_)
 ·(rintro m σ';intro zr;refine cps fun zP zk=>?_;(rcases zr with ⟨st,pl,o,rfl,hlen0,I⟩)<;>(refine zk ?_;clear zk zP))
  have hplD:pl.length≤X.D.length:=Cq I.dfs.pn I.dfs.pD
  have hlen:(st.map fun p=>AV.ref (X.A p)).length≤100000:=by
   have h2:pl.length*X.D.length≤300*300:=Nat.mul_le_mul (by with_reducible exact CG ‹_› ‹_›) hz
   simp;exact A8 [_,_] [(1,Z0,(Zs Z1)),(1,Z1,(.mulL 300 (Zn 300)))] Z0 (Zn 100000) rfl hlen0 h2
  refine B4 (Ab I.l3 (EW I.stk hlen ?_))
  rcases List.eq_nil_or_concat st with rfl|⟨st,x,rfl⟩
  ·simp only [List.map_nil,List.isEmpty_nil,Bool.not_true]
   exact An (hK0 _ _ ⟨rfl,o,I.rep,I.fr,fun p hp=>I.pad p (I.dfs.all hw.pc p hp)⟩)
  ·rw [List.concat_eq_append] at *
   simp only [List.map_append,List.map_cons,List.map_nil] at hlen ⊢
   have hne:(!(st.map (fun p=>AV.ref (X.A p))++[AV.ref (X.A x)]).isEmpty)=true:=by simp
   rw [hne]
   refine Tr.gen fun K1 hK1=>?_
   have hstk:=I.stk
   simp only [List.map_append,List.map_cons,List.map_nil] at hstk
   have hxD:x∈X.D:=I.dfs.sD x (by simp)
   have hxn:X.DN x:=hdn x hxD
   refine xa1_2 I.set ?_;intro S hS hM
   refine Aa (Ah (A2 (Ab I.l3 (Nm hstk (At (A6 (Ii hstk (by simp at hlen ⊢;with_reducible exact Bj ‹_› (by decide)) ?_)))))))
   have hr1:AK (X.wo o) t d false ci (upd σ'.hp wa (.list (st.map fun p=>.ref (X.A p)))):=I.rep.updOff nwa
   refine Aa (AM (A2 (Ab (Ai I.l2) (L5 ((Ad _ _ hwp.symm).trans hS) (Ay (As (Ab Ax (JC (X:=X.wo o) T hr1 hxD (At (A6 (J7 ((Ad _ _ hwp.symm).trans hS) (C0 [_,_] [(1,Z1,(Zn 300)),(1,Z0,Z1)] (Zs Z0) (Zn 4096) rfl hz hplD) ?_)))))))))))
   have hr2:AK (X.wo o) t d false ci (upd (upd σ'.hp wa (.list (st.map fun p=>.ref (X.A p)))) pa (.iset (fun j=>S j||decide (j=(X.D.idxOf x:Int))) (if S (X.D.idxOf x) then pl.length else pl.length+1))):=hr1.updOff npa
   refine xa1_1 (hr2.td x hxD) ?_;intro ep htd
   have hkeep:∀a,Fp X t d a→a≠wa∧a≠pa:=fun a ha=>⟨fun zE=>nwa (zE▸ha),fun zE=>npa (zE▸ha)⟩
   have htx:Fp X t d (X.T x):=.inr (.inr ⟨x,hxD,.inr rfl⟩)
   refine Aa (H7 (fun zu zu hp=>hp (X.T x)=some (.dict (X.trv x) ep))
    (P0 X t d ci hp pa wa st pl x ep)
    (A2 (As (Ab Ax (DM (X:=X.wo o) T hr2 hxD (Ic htd (At (A6 (dict_values T.sysm htd (fun v hv=>⟨_,Fc CQ hA (Ae _ _ _) ?_,?_⟩))))))))) ?_ ?_ ?_)
   ·exact (Ad _ _ (CM htd hv)).trans htd
   ·have hvw:v≠wa:=fun zE=>by (first|rw [zE] at hv|rw [←zE] at hv);simp [upd,hwp] at hv
    have hvp:v≠pa:=fun zE=>by (first|rw [zE] at hv|rw [←zE] at hv);simp [upd] at hv
    have hv0:σ'.hp v=none:=by simpa [upd,hvw,hvp] using hv
    have hvh:hp v=none:=by
     cases e:hp v with
     |none=>rfl
     |some ob=>
      have nf:¬Fp X t d v:=fun q=>I.rep.some q hv0
      rw [I.fr.keep v (by rw [e];simp) nf,e] at hv0;exact Ap hv0
    refine ⟨st,(X.tr x).map (·.2),o,by simp [Af.trv,Af.wo],⟨hr2.new hv,((I.fr.upd0 _ hwa0).upd0 _ hpa0).upd0 _ hvh,fun p hp=>I.sad p (by simp [hp]),fun p hp=>?_,I.dfs.pop (fun y hc=>?_),?_,?_,Ai I.l1,Ai I.l2,Ai I.l3⟩,?_,fun zu=>rfl,?_,?_⟩
    ·rcases AY.mp hp with q|rfl
     ·exact I.pad p q
     ·exact I.sad p (by simp)
    ·refine xa1_1 hc ?_;(try clear hc);intro c hc
     rw [←hxn.2 c] at hc
     exact List.mem_map.mpr ⟨(c,y),EN hc,rfl⟩
    ·refine ⟨_,?_,hM.add hxD⟩
     rw [←JJ pl x hM hxD]
     exact (Ad _ _ hvp.symm).trans (Ae _ _ _)
    ·exact (Ad _ _ hvw.symm).trans ((Ad _ _ hwp).trans (Ae _ _ _))
    ·intro y hy
     refine xa1_2 (List.mem_map.mp hy) ?_;intro e he;rintro rfl
     exact ⟨e.1,by rw [←hxn.2 e.1];exact Ig (hw.trN x hxD) he⟩
    ·have:=hw.trlen hxD
     simp;assumption
    ·exact (Ad _ _ (CM htd hv)).trans htd
   ·(rintro zu zu xs σ'';intro zr;refine cps fun zP zk=>?_;(rcases zr with ⟨zu,zu,zu,zu,zu,zu,zu,zu,h⟩)<;>(refine zk ?_;clear zk zP))
    exact h
   ·(rintro zu zu z xs σ'';intro zr;refine cps fun zP zk=>?_;(rcases zr with ⟨st',ys,o',e1,J,hch,hnp,hln,htk⟩)<;>(refine zk ?_;clear zk zP))
    obtain ⟨y,ys,rfl,rfl,rfl⟩:∃y ys',ys=y::ys'∧z=.ref (X.A y)∧xs=ys'.map (fun y=>AV.ref (X.A y)):=by
     cases ys with
     |nil=>cases e1
     |cons y ys'=>simp only [List.map_cons,List.cons.injEq] at e1;exact ⟨y,ys',rfl,e1.1,e1.2⟩
    refine xa1_1 (hch y (by simp)) ?_;intro c hc
    refine cps fun zP zk=>?_;(rcases EP hc with ⟨hyD,r',hyr,hr'x⟩)<;>(refine zk ?_;clear zk zP)
    refine xa1_2 J.set ?_;intro S2 hS2 hM2
    refine Bs ?_
    refine Tr.gen fun K2 hK2=>?_
    refine Aa (Bq (Bi (As (Ab Ax (JC (X:=X.wo o') T J.rep hyD (Ab (Ai J.l2) (Ga (Ln hS2 ⟨_,rfl,_,rfl,?_⟩))))))))
    have hlen2:(st'.map fun p=>AV.ref (X.A p)).length≤100000:=by
     have h2:pl.length*X.D.length≤300*300:=Nat.mul_le_mul (by with_reducible exact CG ‹_› ‹_›) hz
     simp at hlen0 hln ⊢;exact A8 [_,_,_,_,_] [(1,Z1,(Zn 300)),(1,(Za Z0 (Zs Z2)),(Za Z3 Z1)),(1,Z4,(.mulL 300 (Zn 300))),(1,Z3,Z4)] Z0 (Zn 100000) rfl hz hln h2 hlen0
    by_cases hy:y∈Ft pl x
    ·have hSt:S2 ((X.wo o').D.idxOf y)=true:=(hM2 _ hyD).mpr hy
     rw [hSt]
     simp only [Bool.not_true]
     exact An (An (hK2 _ _ ⟨st',ys,o',rfl,⟨J.rep,J.fr,J.sad,J.pad,J.dfs.skip hy,⟨S2,hS2,hM2⟩,J.stk,Ai J.l1,Ai J.l2,Ai J.l3⟩,fun y' hy'=>hch y' (by simp [hy']),hnp,by simp at hln;exact A8 [_,_,_,_] [(1,(Za Z0 (Zs Z1)),(Za Z2 Z3))] (Za Z0 Z1) (Za Z2 Z3) rfl hln,htk⟩))
    ·have hSf:S2 ((X.wo o').D.idxOf y)=false:=by
      cases e:S2 ((X.wo o').D.idxOf y) with
      |false=>rfl
      |true=>exact absurd ((hM2 _ hyD).mp e) hy
     rw [hSf]
     simp only [Bool.not_false,if_true]
     refine Aa (Ah (AN (At ⟨by decide,fun oa hoa=>?_⟩)))
     have hoa':σ''.hp oa=none:=hoa
     have nof:¬Fp X t d oa:=fun q=>J.rep.some q hoa'
     have hoh:hp oa=none:=by
      cases e:hp oa with
      |none=>rfl
      |some ob=>rw [J.fr.keep oa (by rw [e];simp) nof,e] at hoa';exact Ap hoa'
     have hop:oa≠pa:=fun zE=>by (first|rw [zE,hS2] at hoa'|rw [←zE,hS2] at hoa');exact Ap hoa'
     have how:oa≠wa:=fun zE=>by (first|rw [zE,J.stk] at hoa'|rw [←zE,J.stk] at hoa');exact Ap hoa'
     refine Aa (Ah (Ab (Ai Ax) ?_))
     refine Aa (Tr.mono (Dy (Q:=fun f σ₃=>f=.next∧σ₃.hp=upd σ''.hp oa (.list (outs X.key y))∧σ₃.v "zero_state" = some (.ref (X.A []))∧σ₃.v "processed" = some (.ref pa)∧σ₃.v "to_process" = some (.ref wa)∧σ₃.v "child" = some (.ref (X.A y))∧σ₃.v "outputs" = some (.ref oa))
      (Pz X pa wa oa y σ''.hp) ?_ y.length ?_) ?_)
     ·(rintro n σ₃;intro zr;refine cps fun zP zk=>?_;(rcases zr with ⟨s,acc,hsD,rfl,hacc,he,k1,k2,k3,k4,k5,k6⟩)<;>(refine zk ?_;clear zk zP))
      have hr3:AK (X.wo o') t d false ci σ₃.hp:=he▸J.rep.updOff nof
      have hacl:acc.length≤100000:=by
       have h1:=Er X.key y
       rw [hacc,List.length_append] at h1
       have:=hN y hyD
       exact A8 [_,_,_] [(1,(Za Z0 Z1),Z2),(1,Z2,(Zn 1000))] Z0 (Zn 100000) rfl h1 this
      refine Bi (Ab k6 (Ab k1 (JE (X:=X.wo o') hr3 hsD hw.root ⟨_,rfl,?_⟩)))
      by_cases hs0:s=[]
      ·subst hs0
       simp only [decide_true,Bool.not_true]
       have:acc=outs X.key y:=by rw [hacc];simp [Ea,DZ]
       exact ⟨trivial,this▸he,k1,k2,k3,k4,k5⟩
      ·simp only [hs0,decide_false,Bool.not_false]
       refine Tr.gen fun K3 hK3=>?_
       have hsn:=hdn s hsD
       have hlv:(X.wo o').lssv s=.ref (X.A (Ct X.D s)):=by
        have:(X.wo o').lss s=some (Ct X.D s):=hsn.1
        simp only [Af.lssv,this];rfl
       have hst:=Kn hw.mkD hs0
       refine Aa (Bq (B4 (As (Ab k6 (NG (X:=X.wo o') T hr3 hsD (Bl ?_))))))
       cases hkey:X.key s with
       |none=>
        have:((X.wo o').key s).isSome=false:=by show (X.key s).isSome=false;rw [hkey];rfl
        rw [this]
        refine An ?_
        refine Aa (Ah (As (Ab k6 (EK (X:=X.wo o') T hr3 hsD ?_))))
        rw [hlv]
        refine An (hK3 _ _ ⟨(Ct X.D s).length,D6 hs0,Ct X.D s,acc,C2 hw.pc _,rfl,?_,he,Ai k1,Ai k2,Ai k3,Ai k4,Ai k5,Ax⟩)
        rw [hacc,hst,hkey];rfl
       |some v=>
        have:((X.wo o').key s).isSome=true:=by show (X.key s).isSome=true;rw [hkey];rfl
        rw [this]
        refine xa1_3 (hk s v hkey) ?_;intro xs hxl hsv hsep
        have hsv3:DJ v xs σ₃.hp:=hsv.fr hsep (he▸J.fr.upd0 _ hoh)
        have hoc:σ₃.hp oa=some (.list acc):=by rw [he];exact Ae _ _ _
        simp only [if_true]
        refine Aa (Ah (As (Ab k6 (NJ (X:=X.wo o') T (Nq hw o') hr3 hsD hkey ?_))))
        refine Aa (AM (A2 (Ab (Ai k5) (BZ hoc (Ay (G0 (Ay (Ab Ax (Ay (AZ (C5 T.g_len (Ay (Ab Ax (At (A6 (JH hsv3 (At ⟨by simp,At (A6 (list_append hoc hacl ?_))⟩)))))))))))))))))
        refine An ?_
        refine Aa (Ah (As (Ab (Ai k6) (EK (X:=X.wo o') T (AK.updOff hr3 nof) hsD ?_))))
        rw [hlv,hxl]
        refine An (hK3 _ _ ⟨(Ct X.D s).length,D6 hs0,Ct X.D s,acc++[.tup [v,.int (s.length:Nat)]],C2 hw.pc _,rfl,?_,?_,Ai (Ai k1),Ai (Ai k2),Ai (Ai k3),Ai (Ai k4),Ai (Ai k5),Ax⟩)
        ·rw [hacc,hst,hkey];simp
        ·show upd σ₃.hp oa _=_
         rw [he];funext b;simp only [upd];split<;>rfl
     ·exact ⟨y,[],hyD,rfl,rfl,rfl,Ai (Ai (Ai J.l1)),Ai (Ai (Ai J.l2)),Ai (Ai (Ai J.l3)),Ai (Ai Ax),Ai Ax,Ax⟩
     ·(rintro f σ₃;intro zr;refine xa0_7 zr ?_;(try clear zr);rintro rfl;intro he k1 k2 k3 k4 k5)
      have hr3:AK (X.wo o') t d false ci σ₃.hp:=he▸J.rep.updOff nof
      have hoc:σ₃.hp oa=some (.list (outs X.key y)):=by rw [he];exact Ae _ _ _
      have hol:(outs X.key y).length≤100000:=by
       have h1:=Er X.key y
       have:=hN y hyD
       exact A8 [_,_] [(1,Z0,Z1),(1,Z1,(Zn 1000))] Z0 (Zn 100000) rfl h1 this
      refine Aa (Ao (AZ (C5 T.g_tuple (Ay (Ab k5 (At (A6 (I9 hoc hol (Ab k4 (HW (X:=X.wo o') T hr3 hyD ?_))))))))))
      have hAy:X.A y≠wa:=(hkeep _ (.inr (.inr ⟨y,hyD,.inl rfl⟩))).1
      have hAp:X.A y≠pa:=(hkeep _ (.inr (.inr ⟨y,hyD,.inl rfl⟩))).2
      have hwk:(upd σ₃.hp (X.A y) (((X.wo o').setOut y (.tup (outs X.key y))).nodeAO y)) wa=some (.list (st'.map fun p=>.ref (X.A p))):=by
       rw [Ad _ _ hAy.symm,he,Ad _ _ how.symm];exact J.stk
      refine Aa (AM (A2 (Ab k3 (BZ hwk (Ay (Ab k4 (At (A6 (list_append hwk hlen2 ?_)))))))))
      refine An (An (hK2 _ _ ⟨st'++[y],ys,fun z=>if z=y then some (.tup (outs X.key y)) else o' z,rfl,⟨AK.updOff (FR hr3 hyD) nwa,?_,?_,?_,J.dfs.push hy hyD,?_,?_,k1,k2,k3⟩,fun y' hy'=>hch y' (by simp [hy']),?_,?_,?_⟩))
      ·refine Cc.upd0 _ ?_ hwa0
       refine Cc.trans (he▸J.fr.upd0 _ hoh) (Cc.upd _ (.inr (.inr ⟨y,hyD,.inl rfl⟩)))
      ·intro p hp
       rcases List.mem_append.mp hp with q|q
       ·show (if p=y then _ else o' p)=_
        split
        ·rename_i e;rw [e]
        ·exact J.sad p q
       ·simp at q;subst q;exact if_pos rfl
      ·intro p hp
       show (if p=y then _ else o' p)=_
       split
       ·rename_i e;rw [e]
       ·exact J.pad p hp
      ·refine ⟨S2,?_,hM2⟩
       exact (Ad _ _ hwp.symm).trans ((Ad _ _ hAp.symm).trans (by rw [he];exact (Ad _ _ hop.symm).trans hS2))
      ·refine (Ae _ _ _).trans ?_;simp
      ·intro q
       exact absurd (AY.mpr (.inl (I.dfs.known q _ ⟨c,hc⟩))) hy
      ·simp at hln ⊢;exact A8 [_,_,_,_] [(1,(Za Z0 (Zs Z1)),(Za Z2 Z3))] (Za (Zs Z0) Z1) (Za Z2 Z3) rfl hln
      ·refine (Ad _ _ (hkeep _ htx).1).trans ((Ad _ _ (Af.Wf.dist J.rep hyD hxD).1.symm).trans ?_)
       rw [he]
       exact (Ad _ _ (by rintro e;exact nof (e▸htx))).trans htk
   ·(rintro zu zu σ'';intro zr;refine cps fun zP zk=>?_;(rcases zr with ⟨st',ys,o',e1,J,hch,hnp,hln,htk⟩)<;>(refine zk ?_;clear zk zP))
    have:ys=[]:=by cases ys with|nil=>rfl|cons=>cases e1
    subst this
    refine An (hK1 _ _ ?_)
    by_cases hxp:x∈pl
    ·have e:=hnp hxp
     subst e
     have hi:Ft pl x=pl:=by simp [Ft,hxp]
     rw [hi] at J
     refine ⟨_,?_,st',pl,o',rfl,?_,⟨J.rep,J.fr,J.sad,J.pad,⟨J.dfs.sD,J.dfs.pD,J.dfs.pn,J.dfs.rt,fun z hz y hc=>?_,fun l z r e hz y hc=>?_⟩,J.set,J.stk,J.l1,J.l2,J.l3⟩⟩
     ·simp
     ·simp at hlen0;exact A8 [_,_] [(1,Z0,Z1)] Z0 (Zs Z1) rfl hlen0
     ·rcases J.dfs.cl z hz y hc with a|a|a
      ·exact .inl a
      ·exact .inr (.inl a)
      ·simp at a
     ·rcases J.dfs.tp l z r e hz y hc with a|a|a
      ·exact .inl a
      ·exact .inr (.inl a)
      ·simp at a
    ·have hi:(Ft pl x).length=pl.length+1:=by simp [Ft,hxp]
     have hle:(Ft pl x).length≤X.D.length:=Cq J.dfs.pn J.dfs.pD
     refine ⟨_,?_,st',Ft pl x,o',rfl,?_,⟨J.rep,J.fr,J.sad,J.pad,⟨J.dfs.sD,J.dfs.pD,J.dfs.pn,J.dfs.rt,fun z hz y hc=>?_,fun l z r e hz y hc=>?_⟩,J.set,J.stk,J.l1,J.l2,J.l3⟩⟩
     ·rw [hi,List.length_append]
      exact Fd (b:=0) (A8 [_,_,_] [(1,(Zs Z0),Z2),(1,Z2,Z1)] (Zs Z0) Z1 rfl (Nat.le_of_eq (Eq.symm hi)) hle) (by simpa using hln)
     ·rw [hi,Nat.succ_mul]
      simp at hln hlen0;exact A8 [_,_,_,_] [(1,Z0,(Za Z3 Z2)),(1,Z3,Z1)] Z0 (Zs (Za Z1 Z2)) rfl hln hlen0
     ·rcases J.dfs.cl z hz y hc with a|a|a
      ·exact .inl a
      ·exact .inr (.inl a)
      ·simp at a
     ·rcases J.dfs.tp l z r e hz y hc with a|a|a
      ·exact .inl a
      ·exact .inr (.inl a)
      ·simp at a
 ·refine ⟨[[]],[],_,by simp,by simp,⟨(hr0.new hpa1).updOff nwa,((hf0.upd0 _ hpa0).upd0 _ hwa0),?_,by simp,H8.init hw.root [],⟨fun zu=>false,(Ad _ _ hwp.symm).trans (Ae _ _ _),fun p zu=>by simp⟩,Ae _ _ _,rfl,rfl,rfl⟩⟩
  intro p hp;simp at hp;subst hp;rfl
end
section
variable {C:Cf} {A:Around} {E:Value→Shared→Prop} {env:Env} {σ:Al}
structure Af.Ph3 (X:Af):Prop where
 wf:X.Wf
 dn:∀p∈X.D,X.DN p
 out:∀p∈X.D,X.out p=some (.tup (outs X.key p))
noncomputable def Nc (X:Af) (t d:Addr) (ci:Bool) (hp hp':HP):Prop:=
 ∃X':Af,X'.Ph3∧AK X' t d true ci hp'∧Cc (Fp X t d) hp (Fp X t d) hp'∧X'.D=X.D∧X'.A=X.A∧X'.T=X.T∧X'.key=X.key
theorem NZ (T:Tp C) {X:Af} {t d:Addr} {ci:Bool} {hp:HP} {N:Nat} (hA:A.handled=none) (hroom:A.depth+N+4<recursionLimit) (hX:X.Ph1) (hr:AK X t d false ci hp)
  (hz:X.D.length≤300) (hN:∀p∈X.D,p.length≤N) (hk:Ok X t d hp) :
  Fn C A (.ref 101) [.ref t] [] hp (fun v hp'=>v=.none∧Nc X t d ci hp hp'):=by
 refine xa1_1 T.f_fin ?_;intro r₀ hf
 refine xa1_1 T.f_kids ?_;intro r₁ hf1
 refine xa1_1 T.f_pre ?_;intro r₂ hf2
 have hw:=hX.wf
 refine Da (body:=K4.body) hf (KJ C r₀ _) (fun L=>?_) (C0 [_,_,_] [(1,(Zs (Za (Za Z0 Z2) (Zn 4))),Z1)] Z0 Z1 rfl hroom) (by kernel_rfl) (by kernel_rfl) (by kernel_rfl) (by kernel_rfl) (by kernel_rfl)
 refine Aa (Bq (B4 (As (Ab rfl (BG T.n_fin hr.tree hr.ns rfl (Bl (An ?_)))))))
 refine Aa (Ao (As (Ab rfl (BG T.n_zero hr.tree hr.ns rfl (As (Ab rfl (BG T.n_zero hr.tree hr.ns rfl (Es T hr hw.root ?_))))))))
 have hr1:AK (X.setLss [] []) t d false ci (upd hp (X.A []) ((X.setLss [] []).nodeAO [])):=FS hr hw.root
 have hf1':Cc (Fp X t d) hp (Fp X t d) (upd hp (X.A []) ((X.setLss [] []).nodeAO [])):=Cc.upd _ (.inr (.inr ⟨[],hw.root,.inl rfl⟩))
 have hw1:(X.setLss [] []).Wf:=GY hw
 have hkid:∀p∈X.D,∀c,X.look p c=Ed X.D p c:=fun p hp c=>by
  by_cases m:p++[c]∈X.D
  ·rw [hX.kid1 p hp c m];simp [Ed,m]
  ·rw [hX.kid0 p hp c m];simp [Ed,m]
 have had:(X.setLss [] []).AD []:=by
  intro r hrs hrD
  simp at hrs;subst hrs
  refine ⟨rfl,fun c=>?_⟩
  show X.look [] c=By X.D [] c
  rw [hkid [] hw.root c];simp [By]
 have hall:∀p∈X.D,(X.setLss [] []).UD p∨(X.setLss [] []).AD p:=fun p hp=>by
  by_cases e:p=[]
  ·subst e;exact .inr had
  ·refine .inl ⟨?_,fun c=>hkid p hp c⟩
   show (if p=[] then some [] else X.lss p)=none
   rw [if_neg e];exact hX.lss p hp
 have c1:=MO (A:=A.deeper (callEnv (r₀.fd K4 .none) L 101)) (N:=N) T (by exact hA) (by show A.depth+1+N+2<recursionLimit;exact C0 [_,_,_] [(1,(Zs (Za (Za Z0 Z1) (Zn 4))),Z2)] (Za (Za (Zs Z0) Z1) (Zn 2)) Z2 rfl hroom) hw1 hr1 had hall hz hN
 refine Aa (AM (A2 (Ab rfl (BS T.m_kids hr1.tree hr1.ns rfl (Ay (As (Ab rfl (BG T.n_zero hr1.tree hr1.ns rfl (At (A6 (AR hf1 (Fn.mono c1 ?_))))))))))))
 (rintro v hp2;intro zr;refine cps fun zP zk=>?_;(rcases zr with ⟨rfl,X2,hw2,hr2,hfr2,st2,hd2⟩)<;>(refine zk ?_;clear zk zP))
 have hD2:X2.D=X.D:=st2.same.D
 have hA2:X2.A=X.A:=st2.same.A
 have hT2:X2.T=X.T:=st2.same.T
 have hk2:X2.key=X.key:=st2.same.key
 have hfp2:Fp X2 t d=Fp X t d:=st2.same.fp t d
 have hF2:Cc (Fp X t d) hp (Fp X t d) hp2:=hf1'.trans hfr2
 have hkl:Ok X2 t d hp2:=by
  intro p v hv
  rw [hk2] at hv
  refine xa1_3 (hk p v hv) ?_;intro xs h1 h2 h3
  exact ⟨xs,h1,h2.fr h3 hF2,fun a e=>by rw [hfp2];exact h3 a e⟩
 have c2:=NE (A:=A.deeper (callEnv (r₀.fd K4 .none) L 101)) (N:=N) T (by exact hA) (by show A.depth+1+2<recursionLimit;exact C0 [_,_,_] [(1,(Zs (Za (Za Z0 Z2) (Zn 4))),Z1)] (Za (Zs Z0) (Zn 2)) Z1 rfl hroom) hw2 hr2 (by rw [hD2];exact hd2) (by rw [hD2];exact hz) (fun p hp=>by
  have h1:=hN p (hD2▸hp)
  have:recursionLimit=1000:=rfl
  exact A8 [_,_,_,_] [(1,(Zs (Za (Za Z1 Z2) (Zn 4))),Z3),(1,Z0,Z2),(1,Z3,(Zn 1000))] Z0 (Zn 1000) rfl hroom h1 (Nat.le_of_eq this)) hkl
 refine Aa (AM (A2 (Ab rfl (BS T.m_pre hr2.tree hr2.ns rfl (At (A6 (AR hf2 (Fn.mono c2 ?_))))))))
 (rintro v hp3;intro zr;refine cps fun zP zk=>?_;(rcases zr with ⟨rfl,o,hr3,hfr3,ho⟩)<;>(refine zk ?_;clear zk zP))
 refine Aa (Ao (FB (Ab rfl (Di T.n_fin hr3.tree hr3.ns ?_ (hz:=Nat.le_of_ble_eq_true (by rfl))))))
 refine An ⟨rfl,X2.wo o,⟨Nq hw2 o,fun p hp=>?_,ho⟩,?_,?_,hD2,hA2,hT2,hk2⟩
 ·have:=hd2 p (hD2▸hp)
  exact this
 ·have hd:∀p∈X2.D,X2.A p≠d∧X2.T p≠d:=fun p hp=>⟨(Af.Wf.dist hr3 hp hp).2.2.1,(Af.Wf.dist hr3 hp hp).2.2.2.2.1⟩
  have htd:t≠d:=(Af.Wf.dist hr3 (p:=[]) hw2.root hw2.root).2.2.2.2.2
  refine ⟨(Ad _ _ htd).trans hr3.tree,(Ae _ _ _).trans rfl,fun p hp=>(Ad _ _ (hd p hp).1).trans (hr3.nd p hp),fun p hp=>?_⟩
  refine xa1_1 (hr3.td p hp) ?_;intro ep e
  exact ⟨ep,(Ad _ _ (hd p hp).2).trans e⟩
 ·exact (hF2.trans (hfp2▸hfr3)).trans (Cc.upd _ (.inr (.inl rfl)))
end
section
variable {C:Cf} {A:Around} {c:Code} {fs:List Frame} {P:End→Shared→Prop} {s:Shared} {env:Env} {σ:Al} {F G:FH}
 {K:Flow→Sem Fin} {H:Value→Sem Fin} {gd:Bool→Bool} {lv:List Value→List Value}
theorem CO {α:Type} {m:Sem α} {K:α→Sem Fin} {H:Value→Sem Fin}
  (h:wpAny (model C.prog C.w) (A.over c fs) m (fun a s'=>SegX (model C.prog C.w) A c (K a) fs s' P) (fun x s'=>SegX (model C.prog C.w) A c (H x) fs s' P) s):SegX (model C.prog C.w) A c (m.wrap K H gd lv) fs s P:=by
 rintro Γ p rfl hΓ
 refine xa2_2 (runs_wrap_of_wp (Φ:=fun e s'=>e.quiet=true∧P e s') K H gd lv m (h (Γ.over fs) p (hΓ.over fs)) (fun a p' s' h'=>h' Γ p' rfl hΓ) (fun x p' s' h'=>h' Γ p' rfl hΓ)) ?_;intro e s' hr hq
 exact ⟨e,s',hr,hq⟩
theorem Ek {α β:Type} {R:FH→β→α→Prop} {m:Sem α} {K:α→Sem Fin} {H:Value→Sem Fin} {Q:β→Al→Prop} (h:Tr C (A.over c fs) Bd env R m σ Q) (hR:Rp C (A.over c fs) F G env σ s)
  (k:∀F' b σ' v s',AE F F'→R F' b v→Rp C (A.over c fs) F' G env σ' s'→Q b σ'→SegX (model C.prog C.w) A c (K v) fs s' P):SegX (model C.prog C.w) A c (m.wrap K H gd lv) fs s P:=by
 refine CO (wpAny_mono (h F G s hR) (fun v s' z=>?_) fun zu zu x=>x.elim)
 refine cps fun zP zk=>?_;(rcases z with ⟨F',b,σ',e,r,hR',q⟩)<;>(refine zk ?_;clear zk zP)
 exact k F' b σ' v s' e r hR' q
theorem BU {st:Stmt} {rest:List Stmt} (h:SegX (model C.prog C.w) A c ((exec st env).wrap (fun f=>match f with|.next=>(execs rest env).wrap K H gd lv|f=>K f) H gd lv) fs s P) :
  SegX (model C.prog C.w) A c ((execs (st::rest) env).wrap K H gd lv) fs s P:=by rw [execs_cons_wrap];exact h
theorem GE {p':Pos} {k:Unit→Sem Fin} (h:SegX (model C.prog C.w) A c (k ()) fs s P):SegX (model C.prog C.w) A c (.at p' k) fs s P:=
 CO (m:=standAt p') (K:=k) (H:=.raise) (gd:=id) (lv:=id) (wpAny_standAt h)
theorem Li {l:List Value} {k:Unit→Sem Fin} (h:SegX (model C.prog C.w) A c (k ()) fs s P):SegX (model C.prog C.w) A c (.point l k) fs s P:=
 CO (m:=point) (K:=k) (H:=.raise) (gd:=id) (lv:=fun zu=>l) (wpAny_point h)
theorem O1 {test:Expr} {body orelse:List Stmt} {pos:Pos} {Q:Bool→Al→Prop} (h:Et C (A.over c fs) Bd env test σ Q) (hR:Rp C (A.over c fs) F G env σ s)
  (k:∀F' b σ' s',AE F F'→Rp C (A.over c fs) F' G env σ' s'→Q b σ'→SegX (model C.prog C.w) A c ((execs (if b then body else orelse) env).wrap K H gd lv) fs s' P) :
  SegX (model C.prog C.w) A c ((exec (.If test body orelse pos) env).wrap K H gd lv) fs s P:=by
 show SegX _ A c (.at pos fun zu=>((isTrue test env (eval test env)) >>= fun b=>if b=true then execs body env else execs orelse env).wrap K H gd lv) fs s P
 refine GE ?_
 rw [Sem.bind_eq_wrap',Sem.wrap_wrap]
 refine Ek h hR (fun F' b σ' v s' e r hR' q=>?_)
 subst r
 have:=k F' b σ' s' e hR' q
 cases b
 ·exact this
 ·exact this
theorem M6 {body:List Stmt}
  (h:SegX (model C.prog C.w) A (.func body env) ((execs body env).wrap (fun f=>.pure (.done (.ret (match f with|.ret v=>v|_=>.none)))) (fun e=>(leaving env e).wrap (fun zu=>.raise e) .raise id id) id id) fs s P) :
  SegX (model C.prog C.w) A (.func body env) (denote table (.func body env)) fs s P:=by
 show SegX _ A _ (.point [] fun zu=>((execs body env).onRaise (leaving env)) >>= _) fs s P
 refine Li ?_
 rw [Sem.onRaise_eq_wrap,Sem.bind_eq_wrap',Sem.wrap_wrap]
 rw [Sem.wrap_congr (execs body env) _ _ (K':=fun f=>.pure (.done (.ret (match f with|.ret v=>v|_=>.none))))
  (H':=fun e=>(leaving env e).wrap (fun zu=>.raise e) .raise id id) (fun f=>by cases f<;>rfl)
  (fun e=>by rw [Sem.bind_eq_wrap,Sem.wrap_wrap];rfl)]
 exact h
theorem Lj {target iter:Expr} {body:List Stmt} {pos:Pos} {Q:AV→Al→Prop} (h:Ev C (A.over c fs) Bd env iter σ Q) (hR:Rp C (A.over c fs) F G env σ s) (J:FH→AV→Al→Value→Shared→Prop)
  (hi:∀F' a σ' v s',AE F F'→VR F' a v→Rp C (A.over c fs) F' G env σ' s'→Q a σ'→wpAny (model C.prog C.w) (A.over c fs) (pyIter v) (fun it s''=>J F' a σ' it s'') Bd s')
  (k:∀F' a σ' it s',AE F F'→J F' a σ' it s'→∀kf l p,(∀f,kf (.ok f)=K f)→SegX (model C.prog C.w) A (.forLoop target it body [] env) (denote table (.forLoop target it body [] env)) (.ret kf none (gd false) l c p []::fs) s' P)
  (hs:autoParam (∀x,foldedSetIterable iter env x=pure x) AC.aux4._auto_1):SegX (model C.prog C.w) A c ((exec (.For target iter body [] pos) env).wrap K H gd lv) fs s P:=by
 rw [exec_For]
 show SegX _ A c (.at pos fun zu=>(eval iter env >>= fun x=>foldedSetIterable iter env x >>= fun x=>standAt iter.pos >>= fun zu=>holding [x] (pyIter x) >>= fun it=>runOwn (.forLoop target it body [] env) env).wrap K H gd lv) fs s P
 refine GE ?_
 rw [Sem.bind_eq_wrap',Sem.wrap_wrap]
 refine Ek h hR (fun F' a σ' v s' e hv hR' q=>?_)
 rw [hs v]
 show SegX _ A c (.at iter.pos fun zu=>(holding [v] (pyIter v) >>= fun it=>runOwn (.forLoop target it body [] env) env).wrap K H gd lv) fs s' P
 refine GE ?_
 rw [Sem.bind_eq_wrap',Sem.wrap_wrap]
 refine CO (wpAny_holding (wpAny_mono (hi F' a σ' v s' e hv hR' q) (fun it s'' z=>?_) fun zu zu x=>x.elim))
 refine s_call C.prog C.w A c fs P s'' _ _ _ _ _ (fun p=>?_)
 exact k F' a σ' it s'' e z _ _ p (fun f=>rfl)
theorem CP {target:Expr} {it:Value} {body:List Stmt}
  (h:wpAny (model C.prog C.w) (A.over (.forLoop target it body [] env) fs) (pyNext it) (fun r s₁=>match r with
   |none=>SegX (model C.prog C.w) A (.block [] env) (.pure (.done .next)) fs s₁ P
   |some v=>wpAny (model C.prog C.w) (A.over (.forLoop target it body [] env) fs) (letOwnedTupleGo target it v) (fun zu s₂=>wpAny (model C.prog C.w) (A.over (.forLoop target it body [] env) fs) (assign target env v) (fun zu s₃=>
     SegX (model C.prog C.w) A (.forLoop target it body [] env) ((execs body env).wrap (fun f=>match f with
      |.next|.cont=>.pure (.again (.forLoop target it body [] env))
      |.brk=>.pure (.done .next)
      |.ret v=>.pure (.done (.ret v))) (fun e=>(do noteFrame e env;theTreesLotGoes e:Sem Unit).wrap (fun zu=>.raise e) .raise id id) id id) fs s₃ P) Bd s₂) Bd s₁) Bd s) :
  SegX (model C.prog C.w) A (.forLoop target it body [] env) (denote table (.forLoop target it body [] env)) fs s P:=by
 show SegX _ A _ ((forTurn target it body [] env).onRaise (fun x=>do noteFrame x env;theTreesLotGoes x)) fs s P
 unfold forTurn
 rw [Sem.onRaise_eq_wrap]
 show SegX _ A _ (.at target.pos fun zu=>(((pyNext it).onRaise (fun zu=>standAt { target.pos with line:=0 })) >>= _).wrap _ _ _ _) fs s P
 refine GE ?_
 rw [Sem.bind_eq_wrap',Sem.wrap_wrap]
 refine CO (wpAny_onRaise (wpAny_mono h (fun r s₁ z=>?_) fun zu zu x=>x.elim))
 cases r with
 |none=>
  refine s_again C.prog C.w A _ fs P s₁ (.block [] env) rfl ?_
  exact z
 |some v=>
  show SegX _ A _ ((letOwnedTupleGo target it v >>= fun zu=>assign target env v >>= fun zu=>execs body env >>= _).wrap _ _ _ _) fs s₁ P
  rw [Sem.bind_eq_wrap',Sem.wrap_wrap]
  refine CO (wpAny_mono z (fun zu s₂ z=>?_) fun zu zu x=>x.elim)
  rw [Sem.bind_eq_wrap',Sem.wrap_wrap]
  refine CO (wpAny_mono z (fun zu s₃ z=>?_) fun zu zu x=>x.elim)
  rw [Sem.bind_eq_wrap',Sem.wrap_wrap]
  rw [Sem.wrap_congr (execs body env) _ _ (K':=fun f=>match f with
      |.next|.cont=>.pure (.again (.forLoop target it body [] env))
      |.brk=>.pure (.done .next)
      |.ret v=>.pure (.done (.ret v))) (H':=(fun e=>(do noteFrame e env;theTreesLotGoes e:Sem Unit).wrap (fun zu=>.raise e) .raise id id))
    (fun f=>by cases f<;>rfl)
    (fun e=>by first|exact Sem.bind_eq_wrap _ _|(show (do noteFrame e env;theTreesLotGoes e:Sem Unit).bind (fun zu=>.raise e)=_;rw [Sem.bind_eq_wrap]))]
  exact z
theorem Lh {e:Expr} {ypos pos:Pos} {Q:AV→Al→Prop} (hfs:splitAtGen fs=none) (hgd:gd false=false) (hfg:fs.any Frame.guarded=false) (h:Ev C (A.over c fs) Bd env e σ Q) (hR:Rp C (A.over c fs) F G env σ s)
  (k:∀F' a σ' v s',AE F F'→VR F' a v→Rp C (A.over c fs) F' G env σ' s'→Q a σ'→∀kf l p,(∀A' s'' P',SegX (model C.prog C.w) A' c (K .next) fs s'' P'→SegX (model C.prog C.w) A' c (kf (.send .none)) fs s'' P')→P (.susp v false l kf c p fs) s')
  (hco:autoParam (env.scope.isCoroutine=false) AC.aux0._auto_1) (hi:autoParam (interactive env=false) AC.aux0._auto_1):SegX (model C.prog C.w) A c ((exec (.Expr (.Yield (some e) ypos) pos) env).wrap K H gd lv) fs s P:=by
 rw [exec_Expr env _ pos hi rfl]
 show SegX _ A c (.at pos fun zu=>((eval e env >>= fun v=>(standAt ypos >>= fun zu=>yieldOut env v)) >>= fun x=>dropValue (.Yield (some e) ypos) pos x).wrap K H gd lv) fs s P
 have hy:∀v,yieldOut env v=yieldValue v:=fun v=>by simp only [yieldOut,hco,Bool.false_eq_true,if_false]
 simp only [hy]
 refine GE ?_
 rw [Sem.bind_eq_wrap',Sem.bind_eq_wrap',Sem.wrap_wrap,Sem.wrap_wrap]
 refine Ek h hR (fun F' a σ' v s' e' hv hR' q=>?_)
 refine GE ?_
 show SegX _ A c (.yield v (gd false) _ _) fs s' P
 rw [hgd]
 refine s_yield C.prog C.w A c fs P s' v _ _ hfs hfg (fun p=>?_)
 refine k F' a σ' v s' e' hv hR' q _ _ p (fun A' s'' P' hx=>?_)
 exact hx
end
section
variable {C:Cf} {A:Around} {s:Shared} {env:Env} {σ:Al} {F G:FH} {hp:HP}
theorem OR.gensOf {g':Array GenState} {gens:Array GenState} {x:AO} {o:Obj} (h:OR C F gens x o) (hg:∀g gs,x=.gen g gs→gens[g]? = some gs→g'[g]? = some gs):OR C F g' x o:=by
 by_cases hx:Dr x=false
 ·exact h.gens hx
 ·cases h with
  |gen a a1 a2 b c=>exact .gen a a1 a2 b (hg _ _ rfl c)
  |_=>exact absurd rfl hx
theorem Wd.gen (W:Wd C F G hp s) {ga:Addr} {g:Nat} {gs:GenState} (e:hp ga=some (.gen g gs)):s.gens[g]? = some gs∧s.heap.IsGen ga g:=by
 refine cps fun zP zk=>?_;(rcases W.ob ga _ e with ⟨zu,zu,o,ho,r⟩)<;>(refine zk ?_;clear zk zP)
 (refine OR.genC r fun zv zv zv zv a a1 a2 b c=>?_;clear r)
 exact ⟨c,o,_,_,ho,a,b,a2⟩
theorem Wd.setGen (W:Wd C F G hp s) {ga:Addr} {g:Nat} {gs gs':GenState} (e:hp ga=some (.gen g gs)) (hb:gs'.bare=true):Wd C F G (upd hp ga (.gen g gs')) (s.setGen g gs'):=by
 have hg:=(W.gen e).1
 have hlt:g<s.gens.size:=by
  rcases Nat.lt_or_ge g s.gens.size with h|h
  ·exact h
  ·rw [Array.getElem?_eq_none h] at hg;exact Aj hg
 refine ⟨W.base,W.fz,W.gz,fun a x hx=>?_,W.os,fun y hy=>?_,fun a b g1 gs1 gs2 h1 h2=>?_,W.fg⟩
 ·by_cases ha:a=ga
  ·subst ha
   rw [Ae] at hx;(have zc:=Option.some.inj hx;clear hx;subst zc)
   refine cps fun zP zk=>?_;(rcases W.ob a _ e with ⟨p,q,o,ho,r⟩)<;>(refine zk ?_;clear zk zP)
   refine ⟨p,q,o,ho,?_⟩
   (refine OR.genC r fun zv zv zv zv a a1 a2 b c=>?_;clear r)
   exact .gen a a1 a2 b (by simp [Shared.setGen,hlt])
  ·rw [Ad _ _ ha] at hx
   refine cps fun zP zk=>?_;(rcases W.ob a _ hx with ⟨p,q,o,ho,r⟩)<;>(refine zk ?_;clear zk zP)
   refine ⟨p,q,o,ho,r.gensOf (fun g1 gs1 e1 h1=>?_)⟩
   subst e1
   have hne:g≠g1:=by rintro rfl;exact ha (W.gi _ _ _ _ _ hx e)
   simp only [Shared.setGen,Array.getElem?_setIfInBounds_ne hne];exact h1
 ·simp only [Shared.setGen] at hy
  rcases Array.mem_or_eq_of_mem_setIfInBounds hy with h|h
  ·exact W.bare y h
  ·rw [h];exact hb
 ·by_cases ha:a=ga<;>by_cases hbq:b=ga
  ·rw [ha,hbq]
  ·subst ha
   rw [Ae] at h1;(have zc:=MF h1;clear h1;rcases zc with ⟨zc,zd⟩;subst zc;subst zd)
   rw [Ad _ _ hbq] at h2
   exact absurd (W.gi _ _ _ _ _ h2 e) hbq
  ·subst hbq
   rw [Ae] at h2;(have zc:=MF h2;clear h2;rcases zc with ⟨zc,zd⟩;subst zc;subst zd)
   rw [Ad _ _ ha] at h1
   exact absurd (W.gi _ _ _ _ _ h1 e) ha
  ·rw [Ad _ _ ha] at h1;rw [Ad _ _ hbq] at h2
   exact W.gi _ _ _ _ _ h1 h2
noncomputable def C4 (env:Env):Prop:=∀x,env.kindOf x≠some .cell∧env.kindOf x≠some .free
theorem Wd.thaw (W:Wd C F G hp s) {loc:List (Str×AV)} (e:hp env.locals=some (.frame loc)) (hk:env.scope.kind=.function) (hn:C4 env) (hfs:G9 A G env) :
  Rp C A F G env ⟨loc,fun b=>if b=env.locals then none else hp b⟩ s:=by
 refine cps fun zP zk=>?_;(rcases W.ob _ _ e with ⟨p,q,o,ho,r⟩)<;>(refine zk ?_;clear zk zP)
 refine ⟨⟨W.base,W.fz,W.gz,fun a x hx=>?_,W.os,W.bare,fun a b g1 gs1 gs2 h1 h2=>?_,W.fg⟩,⟨hk,?_,⟨p,q,if_pos rfl⟩,fun x hx=>absurd hx (hn x).1,fun x zu zu hx=>absurd hx (hn x).1,fun x zu zu zu hx=>absurd hx (hn x).1,fun x zu zu hx=>absurd hx (hn x).2⟩,hfs⟩
 ·dsimp only at hx
  split at hx
  ·exact Aj hx
  ·exact W.ob a x hx
 ·dsimp only at h1 h2
  split at h1
  ·exact Aj h1
  ·split at h2
   ·exact Aj h2
   ·exact W.gi _ _ _ _ _ h1 h2
 ·(refine OR.frameC r fun es ep a b c=>?_;clear r)
  refine ⟨fun x=>nsFind es x,⟨o,es,ep,ho,a,b,fun zu=>rfl⟩,fun x av hx zu=>c x av hx⟩
theorem Rp.susp (hR:Rp C A F G env σ s) {loc:List (Str×AV)} (hl:∀x av,loc.lookup x=some av→σ.loc.lookup x=some av∧env.kindOf x=some .local):Wd C F G (upd σ.hp env.locals (.frame loc)) s:=by
 have W:=hR.wd
 refine xa1_2 hR.fm.ns ?_;intro m;intro zq;refine xa3_4 zq ?_;(try clear zq);intro o es ep ho hd hs hm;intro hmv
 refine xa0_3 hR.fm.lo ?_;intro l1 l2 l3
 refine ⟨W.base,W.fz,W.gz,fun a x hx=>?_,W.os,W.bare,fun a b g1 gs1 gs2 h1 h2=>?_,W.fg⟩
 ·by_cases ha:a=env.locals
  ·subst ha
   rw [Ae] at hx;(have zc:=Option.some.inj hx;clear hx;subst zc)
   refine ⟨l1,l2,o,ho,.frame hd hs (fun x av hx=>?_)⟩
   refine xa0_2 (hl x av hx) ?_;intro h1 h2
   refine xa1_2 (hmv x av h1 h2) ?_;intro v hv r
   exact ⟨v,by rw [hm];exact hv,r⟩
  ·rw [Ad _ _ ha] at hx;exact W.ob a x hx
 ·have ne:∀c g gs,upd σ.hp env.locals (.frame loc) c=some (.gen g gs)→σ.hp c=some (.gen g gs):=fun c g gs e=>by
   by_cases hc:c=env.locals
   ·subst hc;rw [Ae] at e;exact AO.noConfusion (Option.some.inj e)
   ·rw [Ad _ _ hc] at e;exact e
  exact W.gi _ _ _ _ _ (ne _ _ _ h1) (ne _ _ _ h2)
theorem Wd.newGen (W:Wd C F G hp s) {c:Code} {n q:Str} {t u:Tok} {tk:Nat} :
  Wd C F G (upd hp s.heap.objs.size (.gen s.gens.size (.fresh c))) ⟨s.heap.push { cls:=.type "generator",data:=.fields #[.int s.gens.size 0,.str n t,.str q u] },s.gens.push (.fresh c),s.drawn,tk,s.os⟩:=by
 have kp:∀b o,s.heap.get? b=some o→(s.heap.push { cls:=.type "generator",data:=.fields #[.int s.gens.size 0,.str n t,.str q u] }).get? b=some o:=fun b o e=>Heap.get?_push_of_some _ e
 refine xa0_3 (W.lt (Nat.le_refl s.heap.objs.size)) ?_;intro z1 z2 z3
 have lt:∀a g gs,hp a=some (.gen g gs)→g<s.gens.size:=fun a g gs e=>by
  have:=(W.gen e).1
  rcases Nat.lt_or_ge g s.gens.size with h|h
  ·exact h
  ·rw [Array.getElem?_eq_none h] at this;exact Aj this
 refine ⟨W.base,fun b o e=>kp _ _ (W.fz b o e),fun b o e=>?_,fun a x hx=>?_,W.os,W.bare.push rfl,fun a b g1 gs1 gs2 h1 h2=>?_,W.fg⟩
 ·refine xa1_2 (W.gz b o e) ?_;intro o' a b'
  exact ⟨o',kp _ _ a,b'⟩
 ·by_cases ha:a=s.heap.objs.size
  ·subst ha
   rw [Ae] at hx;(have zc:=Option.some.inj hx;clear hx;subst zc)
   exact ⟨z1,z2,_,Heap.get?_push_size _ rfl,.gen rfl rfl rfl rfl (by simp)⟩
  ·rw [Ad _ _ ha] at hx
   refine cps fun zP zk=>?_;(rcases W.ob a x hx with ⟨p,q,o,ho,r⟩)<;>(refine zk ?_;clear zk zP)
   refine ⟨p,q,o,kp _ _ ho,r.gensOf (fun g gs e1 h1=>?_)⟩
   subst e1
   have:=lt _ _ _ hx
   dsimp only
   rw [Array.getElem?_push_lt this]
   rw [Array.getElem?_eq_getElem this] at h1
   exact h1
 ·by_cases ha:a=s.heap.objs.size<;>by_cases hb:b=s.heap.objs.size
  ·rw [ha,hb]
  ·subst ha
   rw [Ae] at h1;(have zc:=MF h1;clear h1;rcases zc with ⟨zc,zd⟩;subst zc;subst zd)
   rw [Ad _ _ hb] at h2
   have:=lt _ _ _ h2;exact False.elim (GA [_] [(1,(Zs Z0),Z0)] rfl this)
  ·subst hb
   rw [Ae] at h2;(have zc:=MF h2;clear h2;rcases zc with ⟨zc,zd⟩;subst zc;subst zd)
   rw [Ad _ _ ha] at h1
   have:=lt _ _ _ h1;exact False.elim (GA [_] [(1,(Zs Z0),Z0)] rfl this)
  ·rw [Ad _ _ ha] at h1;rw [Ad _ _ hb] at h2
   exact W.gi _ _ _ _ _ h1 h2
theorem On {f:Addr} {fd:FuncData} {body:List Stmt} {args:List AV} {kw loc:List (Str×AV)} {Q:AV→HP→Prop} (hf:FnAt C f fd) (hb:BK C fd args kw loc)
  (h:∀L ga g,hp L=none→hp ga=none→L≠ga→C4 (callEnv fd L f)→Q (.ref ga) (upd (upd hp L (.frame loc.reverse)) ga (.gen g (.fresh (.func body (callEnv fd L f))))))
  (hroom:A.depth<recursionLimit) (hbody:autoParam (fd.body=.stmts body) AC.aux0._auto_1) (hcell:autoParam ((fd.scope.names.all fun x=>x.2 != .cell&&x.2 != .free)=true) AC.aux0._auto_1)
  (hco:autoParam (fd.scope.isCoroutine=false) AC.aux0._auto_1) (hgen:autoParam (fd.scope.isGenerator=true) AC.aux0._auto_1) (hk:autoParam (fd.scope.kind=.function) AC.aux0._auto_1) :
  Fn C A (.ref f) args kw hp Q:=by
 intro F G s vs kvs fs W hv hkv
 refine xa1_2 hf.at_ ?_;intro o ho hd
 refine xa1_3 (hb F vs kvs hv hkv) ?_;intro bs hB hbr hl
 have hc:∀x∈fd.scope.names,x.2≠.cell∧x.2≠.free:=fun x hx=>by
  have:=List.all_eq_true.mp hcell x hx
  simpa using this
 have noK:∀L,C4 (callEnv fd L f):=by
  intro L x
  have key:∀kd,fd.scope.names.lookup x=some kd→(x,kd)∈fd.scope.names:=fun kd e=>by
   refine xa2_2 (List.lookup_eq_some_iff.mp e) ?_;intro l1 l2 e1 zu
   rw [e1];simp
  constructor
  ·intro e;exact (hc _ (key _ e)).1 rfl
  ·intro e;exact (hc _ (key _ e)).2 rfl
 refine codeAny_call_generator hroom (W.old _ _ ho) hd hco hgen hbody (hf.code.keeps W.old) ?_
 refine hB _ _ _ s W.old (wpAny_newFunctionEnv (fun x hx=>(hc x hx).1) (fun x hx=>of_decide_eq_true (List.all_eq_true.mp hl x hx)) (fun h' hns hsb=>?_) hk)
 have kp:∀b o,s.heap.get? b=some o→h'.get? b=some o:=fun b o e=>hsb.extBut b o (Nat.ne_of_lt (Heap.lt_size e)) (Heap.get?_push_of_some _ e)
 refine ⟨hf.lim.keeps fun b o e=>kp _ _ (W.old _ _ e),?_⟩
 refine xa0_3 (W.lt (Nat.le_refl s.heap.objs.size)) ?_;intro z1 z2 z3
 have W1:Wd C F G (upd hp s.heap.objs.size (.frame loc.reverse)) { s with heap:=h',toks:=s.toks+bs.length }:=by
  have W0:=W.keep (t:=s.toks+bs.length) kp
  refine ⟨W0.base,W0.fz,W0.gz,fun a x hx=>?_,W0.os,W0.bare,fun a b g1 gs1 gs2 h1 h2=>?_,W0.fg⟩
  ·by_cases ha:a=s.heap.objs.size
   ·subst ha
    rw [Ae] at hx;(have zc:=Option.some.inj hx;clear hx;subst zc)
    refine xa3_4 hns ?_;(try clear hns);intro o es ep ho hd hs hm
    refine ⟨z1,z2,o,ho,.frame hd hs (fun x av hx=>?_)⟩
    refine xa1_2 (hbr.reverse.look hx) ?_;intro v hv r
    exact ⟨v,by rw [hm];exact hv,r⟩
   ·rw [Ad _ _ ha] at hx;exact W0.ob a x hx
  ·have ne:∀c g gs,upd hp s.heap.objs.size (.frame loc.reverse) c=some (.gen g gs)→hp c=some (.gen g gs):=fun c g gs e=>by
    by_cases hc:c=s.heap.objs.size
    ·subst hc;rw [Ae] at e;exact AO.noConfusion (Option.some.inj e)
    ·rw [Ad _ _ hc] at e;exact e
   exact W.gi _ _ _ _ _ (ne _ _ _ h1) (ne _ _ _ h2)
 have hlt:s.heap.objs.size<h'.objs.size:=hns.lt
 refine ⟨F,_,.ref h'.objs.size,_,rfl,AE.refl F,.ref _,W1.newGen,?_⟩
 have z4:=(W1.lt (Nat.le_refl h'.objs.size)).2.2
 rw [Ad _ _ (Nat.ne_of_gt hlt)] at z4
 exact h _ _ _ z3 z4 (Nat.ne_of_lt hlt) (noK _)
end
section
section
variable {C:Cf} {A:Around} {s:Shared} {env:Env} {σ:Al} {F G:FH} {hp:HP} {E:Value→Shared→Prop}
theorem Rp.loosen (hR:Rp C A F G env σ s) (S:List Addr) (hS:∀a∈S,∃x,σ.hp a=some x) {h':Heap} {t:Nat} (k:∀b o,b∉S→s.heap.get? b=some o→h'.get? b=some o) :
  Rp C A F G env { σ with hp:=fun b=>if b∈S then none else σ.hp b } ⟨h',s.gens,s.drawn,t,s.os⟩:=by
 refine cps fun zP zk=>?_;(rcases hR with ⟨⟨w1,w2,w3,w4,w5,w6,w7,w8⟩,⟨kd,⟨m,hm,hmv⟩,⟨l1,l2,l3⟩,co,ci,cv,fv⟩,hfs⟩)<;>(refine zk ?_;clear zk zP)
 have nF:∀{b o},F b=some o→b∉S:=fun e hb=>by
  refine xa1_1 (hS _ hb) ?_;intro x hx
  rw [(w4 _ _ hx).1] at e;exact Aj e
 have nG:∀{b o},G b=some o→b∉S:=fun e hb=>by
  refine xa1_1 (hS _ hb) ?_;intro x hx
  rw [(w4 _ _ hx).2.1] at e;exact Aj e
 have nH:∀{b},σ.hp b=none→b∉S:=fun e hb=>by
  refine xa1_1 (hS _ hb) ?_;intro x hx
  rw [hx] at e;exact Ap e
 refine ⟨⟨w1,fun b o e=>k _ _ (nF e) (w2 b o e),fun b o e=>?_,fun b x e=>?_,w5,w6,fun a b g gs gs' h1 h2=>?_,w8⟩,⟨kd,⟨m,?_,hmv⟩,⟨l1,l2,?_⟩,fun x hx=>?_,ci,fun x av c h1 h2 h3=>?_,fv⟩,hfs⟩
 ·refine xa1_2 (w3 b o e) ?_;intro o' z1 z2
  exact ⟨o',k _ _ (nG e) z1,z2⟩
 ·dsimp only at e
  split at e
  ·exact Aj e
  ·rename_i hb
   refine cps fun zP zk=>?_;(rcases w4 b x e with ⟨p,q,o,ho,r⟩)<;>(refine zk ?_;clear zk zP)
   exact ⟨p,q,o,k _ _ hb ho,r⟩
 ·dsimp only at h1 h2
  split at h1
  ·exact Aj h1
  ·split at h2
   ·exact Aj h2
   ·exact w7 _ _ _ _ _ h1 h2
 ·refine xa3_2 hm ?_;(try clear hm);intro oL es ep hL r
  exact ⟨oL,es,ep,k _ _ (nH l3) hL,r⟩
 ·dsimp only;split
  ·rfl
  ·exact l3
 ·refine cps fun zP zk=>?_;(rcases co x hx with ⟨c,g1,g2,g3,g4,g5,v,o,g6,g7⟩)<;>(refine zk ?_;clear zk zP)
  refine ⟨c,g1,g2,g3,?_,g5,v,o,k _ _ (nH g4) g6,g7⟩
  dsimp only;split
  ·rfl
  ·exact g4
 ·refine xa1_2 (cv x av c h1 h2 h3) ?_;intro v;intro zq;refine xa1_2 zq ?_;(try clear zq);intro o g6 g7;intro g8
  refine xa1_5 (co x h2) ?_;intro c' z1 z2 z3 z4 zu
  rw [h3] at z1;(have zc:=Option.some.inj z1;clear z1;subst zc)
  exact ⟨v,⟨o,k _ _ (nH z4) g6,g7⟩,g8⟩
theorem Rp.track (hR:Rp C A F G env σ s) {a:Addr} {x:AO} {o:Obj} (ho:s.heap.get? a=some o) (hF:F a=none) (hG:G a=none) (hp:σ.hp a=none) (hl:a≠env.locals) (hc:∀x c,env.kindOf x=some .cell→env.cells.lookup x=some c→a≠c)
  (hx:Dr x=false) (r:OR C F s.gens x o):Rp C A F G env { σ with hp:=upd σ.hp a x } s:=by
 refine cps fun zP zk=>?_;(rcases hR with ⟨⟨w1,w2,w3,w4,w5,w6,w7,w8⟩,⟨kd,⟨m,hm,hmv⟩,⟨l1,l2,l3⟩,co,ci,cv,fv⟩,hfs⟩)<;>(refine zk ?_;clear zk zP)
 have ne:∀c g gs,upd σ.hp a x c=some (.gen g gs)→σ.hp c=some (.gen g gs):=fun c g gs e=>by
  by_cases hc:c=a
  ·subst hc;rw [Ae] at e;(have zc:=Option.some.inj e;clear e;subst zc);exact Dc hx
  ·rw [Ad _ _ hc] at e;exact e
 refine ⟨⟨w1,w2,w3,fun b y e=>?_,w5,w6,fun b b' g gs gs' h1 h2=>w7 _ _ _ _ _ (ne _ _ _ h1) (ne _ _ _ h2),w8⟩,⟨kd,⟨m,hm,hmv⟩,⟨l1,l2,(Ad _ _ (Ne.symm hl)).trans l3⟩,fun y hy=>?_,ci,cv,fv⟩,hfs⟩
 ·dsimp only at e
  by_cases hb:b=a
  ·subst hb;rw [Ae] at e;(have zc:=Option.some.inj e;clear e;subst zc);exact ⟨hF,hG,o,ho,r⟩
  ·rw [Ad _ _ hb] at e;exact w4 b y e
 ·refine xa1_5 (co y hy) ?_;intro c g1 g2 g3 g4 g5
  exact ⟨c,g1,g2,g3,(Ad _ _ (Ne.symm (hc y c hy g1))).trans g4,g5⟩
theorem Rp.apart (hR:Rp C A F G env σ s) {a:Addr} {x:AO} (ha:σ.hp a=some x):F a=none∧G a=none∧a≠env.locals∧(∀y c,env.kindOf y=some .cell→env.cells.lookup y=some c→a≠c):=by
 refine xa0_3 (hR.wd.ob a x ha) ?_;intro p q zu
 refine ⟨p,q,?_,fun y c hy hc e=>?_⟩
 ·rintro rfl;rw [hR.fm.lo.2.2] at ha;exact Aj ha
 ·subst e
  refine xa1_5 (hR.fm.co y hy) ?_;intro c' g1 zu zu g4 zu
  rw [hc] at g1;(have zc:=Option.some.inj g1;clear g1;subst zc)
  rw [g4] at ha;exact Aj ha
inductive BI
 |own
 |live (l:Addr)
 |rd (r:Addr)
inductive B0 (r:Addr) (hp:HP):List AV→Prop
 |mid {ys:List AV} {j:Nat}:hp r=some (.itr "list_iterator" [.lst ys,.val (.int j 0)])→j≤ys.length→B0 r hp (ys.drop j)
 |out {j:Nat}:hp r=some (.itr "list_iterator" [.none,.val (.int j 0)])→B0 r hp []
theorem B0.at {r:Addr} {hp:HP} {xs:List AV} (h:B0 r hp xs):∃c vs,hp r=some (.itr c vs):=by
 cases h with
 |mid e zu=>exact ⟨_,_,e⟩
 |out e=>exact ⟨_,_,e⟩
theorem B0.off {r:Addr} {hp hp':HP} {xs:List AV} (h:B0 r hp xs) (e:hp' r=hp r):B0 r hp' xs:=by
 cases h with
 |mid a b=>exact .mid (e.trans a) b
 |out a=>exact .out (e.trans a)
inductive G8:BI→Addr→Nat→List AV→HP→Prop
 |rd {r i rest hp}:B0 r hp rest→G8 (.rd r) r i rest hp
inductive P8 (C:Cf) (F:FH) (o:BI) (ia:Addr) (i:Nat) (rest:List AV) (hp:HP) (v:Value) (h':Heap) (gens:Array GenState):Prop
 |mk (x:AV) (xs:List AV) (o':Obj) (y:AO)
  (h1:rest=x::xs)
  (h2:VR F x v)
  (h3:h'.get? ia=some o')
  (h4:OR C F gens y o')
  (h5:Dr y=false)
  (h6:(∃c vs,y=.itr c vs))
  (h7:∀hp',hp' ia=some y→(∀l zs,hp l=some (.list zs)→hp' l=some (.list zs))→G8 o ia (i+1) xs hp')
inductive P7 (C:Cf) (A:Around) (F:FH) (o:BI) (ia:Addr) (i:Nat) (rest:List AV) (hp:HP) (s:Shared):Prop
 |mk (fp:List Addr) (n:Nat) (P:Nat→Value→Prop) (St:Nat→Heap→Prop)
  (h1:Draws C.prog C.w A ia fp n P St)
  (h2:St i s.heap)
  (h3:i+rest.length=n)
  (h4:ia∈fp)
  (h5:(∀b∈fp,b=ia∨(F b).isSome=true∨∃xs,hp b=some (.list xs)))
  (h6:∀v h' gens,P i v→St (i+1) h'→P8 C F o ia i rest hp v h' gens)
structure Qd (C:Cf) (A:Around) (F:FH) (G:FH) (o:BI) (ia:Addr) (i:Nat) (rest:List AV) (hp:HP) (s:Shared):Prop where
 ex:P7 C A F o ia i rest hp s
theorem Draws.shift {prog:Program} {w:World} {it:Addr} {fp:List Addr} {n:Nat} {P:Nat→Value→Prop} {St:Nat→Heap→Prop} (D:Draws prog w A it fp n P St) (i j:Nat) (hj:j≤n) :
  Draws prog w A it fp (i+(n - j)) (fun k v=>P (k - i+j) v) (fun k h=>i≤k∧St (k - i+j) h) where
 live:=fun k h st=>D.live _ h st.2
 frame:=fun k h h' st hk=>⟨st.1,D.frame _ h h' st.2 hk⟩
 item:=fun k s Q E hk st hQ=>D.item _ s Q E (by have:=st.1;exact C0 [_,_,_,_,_,_] [(1,(Zs Z3),(Za Z4 Z5)),(1,(Za Z0 Z4),Z3),(1,(Za Z5 Z1),Z2)] (Za Z0 Z1) Z2 rfl hk (Nat.le_of_eq (Nat.sub_add_cancel (A8 [_,_] [(1,Z0,Z1)] Z0 Z1 rfl st.1))) (Nat.le_of_eq (Nat.sub_add_cancel (A8 [_,_] [(1,Z0,Z1)] Z0 Z1 rfl hj)))) st.2 fun x h' tk hP hS hb=>hQ x h' tk hP ⟨Nat.le_succ_of_le st.1,by rw [show k+1 - i+j=k - i+j+1 by have:=st.1;exact Nat.le_antisymm (A8 [_,_,_,_,_] [(1,(Za Z0 Z3),(Zs Z4)),(1,Z4,(Za Z2 Z3))] (Za Z0 Z1) (Zs (Za Z2 Z1)) rfl (Nat.le_of_eq (Nat.sub_add_cancel (A8 [_,_] [(1,Z0,Z1)] Z0 (Zs Z1) rfl this))) (Eh _ _)) (A8 [_,_,_,_,_] [(1,(Za Z0 Z3),Z4),(1,(Zs Z4),(Za Z2 Z3))] (Zs (Za Z0 Z1)) (Za Z2 Z1) rfl (Nat.le_of_eq (Nat.sub_add_cancel (A8 [_,_] [(1,Z0,Z1)] Z0 Z1 rfl this))) (Eh _ _))];exact hS⟩ hb
 done:=fun s Q E st hE=>D.done s Q E (by have:=st.2;rw [show i+(n - j) - i+j=n by exact Nat.le_antisymm (A8 [_,_,_,_,_] [(1,(Za Z0 Z3),(Za Z3 Z4)),(1,(Za Z4 Z1),Z2)] (Za Z0 Z1) Z2 rfl (Nat.le_of_eq (Nat.sub_add_cancel (A8 [_,_] [] Z0 (Za Z0 Z1) rfl))) (Nat.le_of_eq (Nat.sub_add_cancel (A8 [_,_] [(1,Z0,Z1)] Z0 Z1 rfl hj)))) (A8 [_,_,_,_,_] [(1,(Za Z3 Z4),(Za Z1 Z3)),(1,Z0,(Za Z4 Z2))] Z0 (Za Z1 Z2) rfl (Eh _ _) (Eh _ _))] at this;exact this) hE
noncomputable def I1 (h:Heap) (r:Addr) (j:Int):Prop:=∃o,h.get? r=some o∧o.cls=.type "list_iterator"∧o.data=.fields #[.none,.int j 0]
theorem HY {it:Addr} {j:Int} {Q:Value→Shared→Prop} {E:Value→Shared→Prop} {prog:Program} {w:World} (hh:A.handled=none) (hit:I1 s.heap it j)
  (hE:∀h' e,(∀b o,s.heap.get? b=some o→h'.get? b=some o)→(∃o,h'.get? e=some o∧o.cls=.type "StopIteration")→E (.ref e) { s with heap:=h' }) :
  wpAny (model prog w) A (Builtin.SmallTypes.nextOf (.ref it)) Q E s:=by
 refine xa1_3 hit ?_;(try clear hit);intro o ho hc hd
 have hT:s.TypeIs (.ref it) "list_iterator":=⟨o,ho,hc⟩
 unfold Builtin.SmallTypes.nextOf
 refine wpAny_bind (wpAny_callSpecial?_slot (name:=Str.ofString "__next__") hT slot_listiter_next
  (wpAny_call_entry slot_listiter_next hT entry_listiter_next ?_ (args_listiter_next _)))
 show wpAny _ _ (field (.ref it) 0 >>= _) _ _ s
 refine wpAny_bind (wpAny_field ho hd (x:=.none) rfl ?_)
 show wpAny _ _ (if (Value.none == Value.none)=true then _ else _) _ _ s
 rw [if_pos (by rfl)]
 refine wpAny_bind (wpAny_rule ?_)
 show wpAny _ _ ((newExc (.type "StopIteration") [] >>= _) >>= _) _ _ _
 exact wpAny_bind (wpAny_bind (CC fun h' e k _ ⟨oe,vs,q,c,_⟩=>wpAny_raiseNew_none hh (hE _ _ k ⟨oe,q,c⟩)))
theorem K9 (hh:A.handled=none) (it:Addr) (j:Int) (n:Nat) {prog:Program} {w:World}:Draws prog w A it [it] n (fun _ _=>False) (fun k h=>n≤k∧I1 h it j) where
 live:=fun _ _ st=>let ⟨o,ho,_⟩:=st.2;⟨o,ho⟩
 frame:=fun _ _ _ st hk=>let ⟨n,o,ho,r⟩:=st;⟨n,o,hk it (by simp) o ho,r⟩
 item:=fun i s Q E hi st hQ=>absurd st.1 (Nat.not_le_of_lt hi)
 done:=fun s Q E st hE=>HY hh st.2 fun h' e k x=>hE h' e (fun b o _ ho=>k b o ho) x
theorem G8.drw {o:BI} {ia:Addr} {i:Nat} {rest:List AV} (h:G8 o ia i rest σ.hp) (hA:A.handled=none) (hR:Rp C A F G env σ s):Qd C A.in1 F G o ia i rest σ.hp s:=by
 generalize hhp:σ.hp=hp at h
 cases h with
 |rd h=>
  subst hhp
  cases h with
  |@mid ys j e hle=>
   refine cps fun zP zk=>?_;(rcases hR.wd.ob _ _ e with ⟨p,q,o,ho,r⟩)<;>(refine zk ?_;clear zk zP)
   (refine OR.itrC r fun us r1 r2 r3=>?_;clear r)
   refine VRs.consC r3 fun zv zw zo a1 a2=>?_;clear r3;subst zo
   refine VRs.consC a2 fun zv zw zo b1 b2=>?_;clear a2;subst zo
   (have zc:=VRs.nilI b2;clear b2;subst zc);(have zc:=VR.valI b1;clear b1;subst zc)
   refine VR.lstC a1 fun vs l ol n zo q1 q2 q3 q4=>?_;clear a1;subst zo
   have hlen:=q4.length
   have hli:l≠ia:=fun zE=>by (first|rw [zE,p] at q1|rw [←zE,p] at q1);exact Aj q1
   have hjn:j≤vs.toArray.size:=by simp [hlen];exact hle
   refine ⟨[ia,l],_,_,_,Draws.shift (Draws.list (A:=A.in1) hA ia l hli vs.toArray) i j hjn,⟨Nat.le_refl i,by rw [Nat.sub_self,Nat.zero_add];exact ⟨⟨o,ho,r1,r2⟩,⟨ol,hR.wd.fz _ _ q1,q2,n,q3⟩⟩⟩,?_,by simp,?_,?_⟩
   ·simp [hlen]
   ·intro b hb
    simp at hb
    rcases hb with rfl|rfl
    ·exact .inl rfl
    ·exact .inr (.inl (by rw [q1];rfl))
   ·(rintro v h' gens hv;intro zr;refine xa0_2 zr ?_;(try clear zr);intro zu hst)
    rw [show i+1 - i+j=j+1 by exact Nat.le_antisymm (A8 [_,_,_] [(1,(Za Z0 Z2),(Zs Z2))] (Za Z0 Z1) (Zs Z1) rfl (Nat.le_of_eq (Nat.sub_add_cancel (A8 [_] [] Z0 (Zs Z0) rfl)))) (A8 [_,_,_] [(1,(Zs Z2),(Za Z1 Z2))] (Zs Z0) (Za Z1 Z0) rfl (Eh _ _))] at hst
    refine xa0_2 hst ?_;(try clear hst);intro zq;refine xa1_3 zq ?_;(try clear zq);intro o' ho' c1 c2;intro zu
    rw [Nat.sub_self,Nat.zero_add,List.getElem?_toArray] at hv
    have hlt:j<ys.length:=by rw [←hlen];exact (List.getElem?_eq_some_iff.mp hv).1
    refine xa1_2 (q4.get (i:=j) (x:=ys[j]) (by simp [hlt])) ?_;intro u hu hr
    rw [hv] at hu;(have zc:=Option.some.inj hu;clear hu;subst zc)
    exact ⟨ys[j],ys.drop (j+1),o',.itr "list_iterator" [.lst ys,.val (.int (j+1:Nat) 0)],(List.drop_eq_getElem_cons hlt),hr,ho',.itr (us:=[.ref l,.int (j+1:Nat) 0]) c1 c2 (.cons (.lst q1 q2 q3 q4) (.cons (.val _) .nil)),rfl,⟨_,_,rfl⟩,fun hp' e' zu=>.rd (.mid e' hlt)⟩
  |@out j e=>
   refine cps fun zP zk=>?_;(rcases hR.wd.ob _ _ e with ⟨p,q,o,ho,r⟩)<;>(refine zk ?_;clear zk zP)
   (refine OR.itrC r fun us r1 r2 r3=>?_;clear r)
   refine VRs.consC r3 fun zv zw zo a1 a2=>?_;clear r3;subst zo
   refine VRs.consC a2 fun zv zw zo b1 b2=>?_;clear a2;subst zo
   (have zc:=VRs.nilI b2;clear b2;subst zc);(have zc:=VR.valI b1;clear b1;subst zc);(have zc:=VR.noneI a1;clear a1;subst zc)
   exact ⟨[ia],_,_,_,K9 (A:=A.in1) hA ia j i,⟨Nat.le_refl i,o,ho,r1,r2⟩,by simp,by simp,fun b hb=>.inl (by simpa using hb),fun v h' gens hv zu=>hv.elim⟩
end
end
section
variable {C:Cf} {A:Around} {s:Shared} {env:Env} {σ:Al} {F G:FH} {hp:HP} {E:Value→Shared→Prop}
noncomputable def Bc (ia:Addr) (i:Nat) (old:AV):AO:=.fields "enumerate" [.none,.bool false,.ref ia,.val (rawInt i),.none,old]
theorem G8.at {o:BI} {ia:Addr} {i:Nat} {rest:List AV} (h:G8 o ia i rest hp):∃c vs,hp ia=some (.itr c vs):=by
 cases h with
 |rd h=>exact h.at
theorem Rp.isEnum (hR:Rp C A F G env σ s) {ea ia:Addr} {i:Nat} {old:AV} (he:σ.hp ea=some (Bc ia i old)):∃ov,IsEnum s.heap ea ia i ov∧VR F old ov:=by
 refine cps fun zP zk=>?_;(rcases hR.wd.ob _ _ he with ⟨zu,zu,o,ho,r⟩)<;>(refine zk ?_;clear zk zP)
 (refine OR.fieldsC r fun us r1 r2 r3 r4 r5=>?_;clear r)
 refine VRs.consC r5 fun zv zw zo a1 r5_a=>?_;clear r5;subst zo
 refine VRs.consC r5_a fun zv zw zo a2 r5_b=>?_;clear r5_a;subst zo
 refine VRs.consC r5_b fun zv zw zo a3 r5_c=>?_;clear r5_b;subst zo
 refine VRs.consC r5_c fun zv zw zo a4 r5_d=>?_;clear r5_c;subst zo
 refine VRs.consC r5_d fun zv zw zo a5 r5_e=>?_;clear r5_d;subst zo
 refine VRs.consC r5_e fun zv zw zo a6 r5_f=>?_;clear r5_e;subst zo
 (have zc:=VRs.nilI r5_f;clear r5_f;subst zc);(have zc:=VR.noneI a1;clear a1;subst zc);(have zc:=VR.boolI a2;clear a2;subst zc);(have zc:=VR.refI a3;clear a3;subst zc);(have zc:=VR.valI a4;clear a4;subst zc);(have zc:=VR.noneI a5;clear a5;subst zc)
 refine cps fun zP zk=>?_;(rcases o with ⟨c,dd,da,sl⟩)<;>(refine zk ?_;clear zk zP)
 dsimp only at r1 r2 r3 r4
 subst r1 r2 r3 r4
 exact ⟨_,ho,a6⟩
theorem Rp.top (hR:Rp C A F G env σ s):F s.heap.objs.size=none∧G s.heap.objs.size=none∧σ.hp s.heap.objs.size=none∧s.heap.objs.size≠env.locals∧(∀y c,env.kindOf y=some .cell→env.cells.lookup y=some c→s.heap.objs.size≠c):=by
 refine xa0_3 (hR.wd.lt (Nat.le_refl s.heap.objs.size)) ?_;intro z1 z2 z3
 refine ⟨z1,z2,z3,Nat.ne_of_gt (by refine xa1_2 hR.fm.ns ?_;intro m;intro zq;refine xa3_2 zq ?_;(try clear zq);intro oL es ep' hL zu;intro zu;exact Heap.lt_size hL),fun x c hx hc=>?_⟩
 refine cps fun zP zk=>?_;(rcases hR.fm.co x hx with ⟨c',g1,zu,zu,zu,zu,v',o',ho',zu⟩)<;>(refine zk ?_;clear zk zP)
 rw [hc] at g1;(have zc:=Option.some.inj g1;clear g1;subst zc)
 exact Nat.ne_of_gt (Heap.lt_size ho')
theorem K6 (hA:A.handled=none) (hR:Rp C A F G env σ s) {o:BI} {ea ia:Addr} {i:Nat} {old x:AV} {rest:List AV} (he:σ.hp ea=some (Bc ia i old)) (hs:G8 o ia i (x::rest) σ.hp) {elts:List Expr} {tn:Nat} {tpos:Pos} :
  wpAny (model C.prog C.w) A (pyNext (.ref ea)) (fun r s₁=>∃v,r=some v∧wpAny (model C.prog C.w) A (letOwnedTupleGo (.Tuple elts tn tpos) (.ref ea) v) (fun zu s₂=>
   ∃F' y,AE F F'∧VR F' (.tup [.int i,x]) v∧(∃c vs,y=.itr c vs)∧G8 o ia (i+1) rest (upd (upd σ.hp ia y) ea (Bc ia (i+1) x))∧Rp C A F' G env { σ with hp:=upd (upd σ.hp ia y) ea (Bc ia (i+1) x) } s₂) Bd s₁) Bd s:=by
 refine cps fun zP zk=>?_;(rcases (hs.drw hA hR).ex with ⟨fp,n,P,St,D,hst,hn,hifp,hfp,hfin⟩)<;>(refine zk ?_;clear zk zP)
 refine xa2_1 hs.at ?_;intro ci vi hia
 refine xa1_2 (hR.isEnum he) ?_;intro ov hE hov
 have hne:ea≠ia:=Ci he hia rfl
 have hef:ea∉fp:=fun hb=>by
  rcases hfp ea hb with h|h|⟨xs,h⟩
  ·exact hne h
  ·rw [(hR.apart he).1] at h;exact Bv h
  ·exact Gt he h rfl
 refine wpAny_pyNext_enum_itemD D hE hst (by rw [←hn];simp) hne hef (fun xv h' tk hP hout hst' htup hsz hk=>⟨_,rfl,?_⟩)
 refine wpAny_letOwnedTupleGo_enum (s:={ s with heap:=h',toks:=tk+1 }) hout (fun h'' hen hsb=>?_)
 refine cps fun zP zk=>?_;(rcases hfin xv h' s.gens hP hst' with ⟨x',xs',o',y,e1,hxv,ho',hor,hng,hy,hsrc⟩)<;>(refine zk ?_;clear zk zP)
 cases e1
 have ho'':h''.get? ia=some o':=(hsb.2 ia hne.symm).trans ho'
 have hall:∀b o,b∉[ia,ea]→s.heap.get? b=some o→h''.get? b=some o:=fun b o hb e=>by
  simp at hb
  exact (hsb.2 b hb.2).trans (hk b o hb.2 hb.1 e)
 have hR1:=hR.loosen [ia,ea] (fun a ha=>by
  simp at ha
  rcases ha with rfl|rfl
  ·exact ⟨_,hia⟩
  ·exact ⟨_,he⟩) (h':=h'') (t:=tk+1) hall
 refine xa0_4 (hR.apart hia) ?_;intro i1 i2 i3 i4
 refine xa0_4 (hR.apart he) ?_;intro e1 e2 e3 e4
 have hR2:=hR1.track (a:=ia) (x:=y) ho'' i1 i2 (by simp) i3 i4 hng hor
 have hR3:=hR2.track (a:=ea) (x:=Bc ia (i+1) x) hen e1 e2 (by
  show upd _ ia y ea=none
  rw [Ad _ _ hne];simp) e3 e4 rfl (.fields (us:=[.none,.bool false,.ref ia,rawInt (i+1:Nat),.none,xv]) rfl rfl rfl rfl (.cons .none (.cons (.bool _) (.cons (.ref _) (.cons (.val _) (.cons .none (.cons hxv .nil)))))))
 refine xa0_5 hR.top ?_;intro t1 t2 t3 t4 t5
 have nta:s.heap.objs.size≠ia:=by rintro e;rw [e,hia] at t3;exact Ap t3
 have nte:s.heap.objs.size≠ea:=by rintro e;rw [e,he] at t3;exact Ap t3
 have htup':h''.get? s.heap.objs.size=some { cls:=.type "tuple",data:=.seq #[.int i tk,xv] }:=(hsb.2 _ nte).trans htup
 have hpe:upd (upd (fun b=>if b∈[ia,ea] then none else σ.hp b) ia y) ea (Bc ia (i+1) x)=upd (upd σ.hp ia y) ea (Bc ia (i+1) x):=by
  funext b
  by_cases h1:b=ea
  ·subst h1;rw [Ae,Ae]
  ·rw [Ad _ _ h1,Ad _ _ h1]
   by_cases h2:b=ia
   ·subst h2;rw [Ae,Ae]
   ·rw [Ad _ _ h2,Ad _ _ h2];simp [h1,h2]
 have hR3:Rp C A F G env { σ with hp:=upd (upd σ.hp ia y) ea (Bc ia (i+1) x) } ⟨h'',s.gens,s.drawn,tk+1,s.os⟩:=hpe▸hR3
 refine xa0_2 (hR3.freezeAt (a:=s.heap.objs.size) htup' t1 t2 (by
  show upd _ ea _ _=none
  rw [Ad _ _ nte,Ad _ _ nta];exact t3) t4 t5) ?_;intro hR4 ex
 refine ⟨_,y,ex,.tup (vs:=[.int i tk,xv]) (Au _ _ _) rfl rfl (.cons (.int _ _) (.cons (hxv.mono ex) .nil)),hy,hsrc _ ?_ ?_,hR4⟩
 ·rw [Ad _ _ hne.symm,Ae]
 ·intro l zs hl
  have h1:l≠ea:=Ci hl he rfl
  have h2:l≠ia:=Ci hl hia rfl
  rw [Ad _ _ h1,Ad _ _ h2];exact hl
noncomputable def Jt (o:BI) (hp:HP):Prop:=match o with
 |.rd r=>B0 r hp []
 |_=>True
theorem Ly {it l:Addr} {j:Nat} {items:Array Value} {Q:Value→Shared→Prop} {prog:Program} {w:World} (hh:A.handled=none) (hit:s.heap.IsListIter it l j) (hl:s.heap.IsList l items) (hx:items[j]? = none)
  (hE:∀h' e,Heap.ExtBut it s.heap h'→I1 h' it j→(∃o,h'.get? e=some o∧o.cls=.type "StopIteration")→E (.ref e) { s with heap:=h' }) :
  wpAny (model prog w) A (Builtin.SmallTypes.nextOf (.ref it)) Q E s:=by
 refine xa1_3 (id hit) ?_;intro o ho hc hd
 refine cps fun zP zk=>?_;(rcases hl with ⟨ol,hol,zu,nl,hdl⟩)<;>(refine zk ?_;clear zk zP)
 unfold Builtin.SmallTypes.nextOf
 refine wpAny_bind (wpAny_callSpecial?_slot (name:=Str.ofString "__next__") hit.typeIs slot_listiter_next (wpAny_call_entry slot_listiter_next hit.typeIs entry_listiter_next ?_ (args_listiter_next _)))
 show wpAny _ _ (field (.ref it) 0 >>= _) _ _ s
 refine wpAny_bind (wpAny_field ho hd (x:=.ref l) rfl ?_)
 show wpAny _ _ (if (Value.ref l == Value.none)=true then _ else _) _ _ s
 rw [if_neg (show ¬((Value.ref l == Value.none)=true) from Bool.false_ne_true)]
 show wpAny _ _ (field (.ref it) 1 >>= _) _ _ s
 refine wpAny_bind (wpAny_field ho hd (x:=.int j 0) rfl ?_)
 show wpAny _ _ (seqItems? (.ref l) >>= _) _ _ s
 refine wpAny_bind (wpAny_seqItems hol hdl ?_)
 simp only [Int.toNat_natCast,hx]
 refine wpAny_bind (wpAny_rule (wpAny_bind (wpAny_setField ho hd (by simp) ?_)))
 show wpAny _ _ (newExc (.type "StopIteration") [] >>= _) _ _ _
 refine wpAny_bind (CC fun h' e k _ ⟨oe,vs,q,c,_⟩=>wpAny_raiseNew_none hh (hE _ _ (fun b o hb g=>k b o ((Heap.SameBut.update ..).extBut b o hb g)) ?_ ⟨oe,q,c⟩))
 have hdf:=Obj.data_mapFields hd (·.setIfInBounds 0 .none)
 exact ⟨_,k _ _ (Heap.get?_update_self _ ho (Obj.isFreed_of_fields hdf)),(Obj.cls_mapFields ..).trans hc,hdf⟩
theorem Iq {e it:Addr} {i:Int} {old:Value} {Q:Option Value→Shared→Prop} {P:Heap→Prop} {prog:Program} {w:World}
  (hD:∀(Q:Value→Shared→Prop) (E:Value→Shared→Prop),(∀h' x,P h'→(∃o,h'.get? x=some o∧o.cls=.type "StopIteration")→E (.ref x) { s with heap:=h' })→wpAny (model prog w) A.in1 (Builtin.SmallTypes.nextOf (.ref it)) Q E s)
  (he:IsEnum s.heap e it i old) (hQ:∀h',P h'→Q none { s with heap:=h' }):wpAny (model prog w) A (pyNext (.ref e)) Q E s:=by
 have hT:s.TypeIs (.ref e) "enumerate":=⟨_,he,rfl⟩
 unfold pyNext
 refine wpAny_bind (wpAny_attempt (wpAny_callSpecial?_slot (name:=Str.ofString "__next__") hT F.slot_enumerate_next (wpAny_call_entry F.slot_enumerate_next hT F.entry_enumerate_next ?_ (F.args_enumerate_next_1 _))))
 show wpAny _ _ (field (.ref e) 2 >>= _) _ _ _
 refine wpAny_bind (wpAny_field he rfl (x:=.ref it) rfl ?_)
 refine wpAny_bind (hD _ _ fun h' x hp' hx'=>?_)
 refine xa1_2 hx' ?_;(try clear hx');intro o ho hc
 refine wpAny_bind (wpAny_isInstance (T:="StopIteration") (b:=true) ⟨o,ho,hc⟩ isSubtype_stop ?_)
 exact wpAny_pure (hQ _ hp')
theorem Rp.outAt (hR:Rp C A F G env σ s) {r:Addr} (h:∃c vs,σ.hp r=some (.itr c vs)) {h':Heap} {j:Nat} {t:Nat} (k:∀b o,b≠r→s.heap.get? b=some o→h'.get? b=some o) (ho:I1 h' r j) :
  ∃hp',(∀a,a≠r→hp' a=σ.hp a)∧Jt (.rd r) hp'∧Rp C A F G env { σ with hp:=hp' } ⟨h',s.gens,s.drawn,t,s.os⟩:=by
 refine xa2_1 h ?_;(try clear h);intro c vs e
 refine xa1_3 ho ?_;(try clear ho);intro o h1 h2 h3
 refine xa0_4 (hR.apart e) ?_;intro i1 i2 i3 i4
 have hR1:=hR.loosen [r] (fun a ha=>by simp at ha;subst ha;exact ⟨_,e⟩) (h':=h') (t:=t) (fun b o hb q=>k b o (by simpa using hb) q)
 have hR2:=hR1.track (a:=r) (x:=.itr "list_iterator" [.none,.val (.int j 0)]) h1 i1 i2 (by simp) i3 i4 rfl (.itr (us:=[.none,.int j 0]) h2 h3 (.cons .none (.cons (.val _) .nil)))
 refine ⟨_,fun a ha=>?_,B0.out (Ae _ _ _),hR2⟩
 rw [Ad _ _ ha];exact if_neg (by simpa using ha)
theorem LO (hA:A.handled=none) (hR:Rp C A F G env σ s) {o:BI} {ea ia:Addr} {i:Nat} {old:AV} (he:σ.hp ea=some (Bc ia i old)) (hs:G8 o ia i [] σ.hp) :
  wpAny (model C.prog C.w) A (pyNext (.ref ea)) (fun r s₁=>r=none∧∃hp',(∀a,a≠ia→hp' a=σ.hp a)∧Jt o hp'∧Rp C A F G env { σ with hp:=hp' } s₁) Bd s:=by
 refine xa2_1 hs.at ?_;intro ci vi hia
 refine xa1_2 (hR.isEnum he) ?_;intro ov hE hov
 have key:Jt o=(fun _=>True)→wpAny (model C.prog C.w) A (pyNext (.ref ea)) (fun r s₁=>r=none∧∃hp',(∀a,a≠ia→hp' a=σ.hp a)∧Jt o hp'∧Rp C A F G env { σ with hp:=hp' } s₁) Bd s:=fun ho=>by
  refine cps fun zP zk=>?_;(rcases (hs.drw hA hR).ex with ⟨fp,n,P,St,D,hst,hn,hifp,hfp,hfin⟩)<;>(refine zk ?_;clear zk zP)
  simp at hn;subst hn
  refine wpAny_pyNext_enum_endD D hE hst (fun h' hx=>⟨rfl,(fun b=>if b∈[ia] then none else σ.hp b),fun a ha=>if_neg (by simpa using ha),by rw [ho];trivial,?_⟩)
  exact hR.loosen [ia] (fun a ha=>by simp at ha;subst ha;exact ⟨_,hia⟩) (h':=h') (t:=s.toks) (fun b o hb e=>hx b o (by simpa using hb) e)
 cases o with
 |own=>exact key rfl
 |live l=>exact key rfl
 |rd r=>
  generalize hhp:σ.hp=hp at hs
  generalize hrs:([]:List AV)=rest at hs
  cases hs with
  |rd h=>
   subst hhp
   have hit:=h.at
   cases h with
   |@mid ys j e hle=>
    have hj:ys.length≤j:=List.drop_eq_nil_iff.mp hrs.symm
    refine cps fun zP zk=>?_;(rcases hR.wd.ob _ _ e with ⟨p,q,o,ho,r⟩)<;>(refine zk ?_;clear zk zP)
    (refine OR.itrC r fun us r1 r2 r3=>?_;clear r)
    refine VRs.consC r3 fun zv zw zo a1 a2=>?_;clear r3;subst zo
    refine VRs.consC a2 fun zv zw zo b1 b2=>?_;clear a2;subst zo
    (have zc:=VRs.nilI b2;clear b2;subst zc);(have zc:=VR.valI b1;clear b1;subst zc)
    refine VR.lstC a1 fun vs l ol n zo q1 q2 q3 q4=>?_;clear a1;subst zo
    refine Iq (P:=fun h'=>Heap.ExtBut ia s.heap h'∧I1 h' ia j) (fun Q E k=>Ly (A:=A.in1) hA ⟨o,ho,r1,r2⟩ ⟨ol,hR.wd.fz _ _ q1,q2,n,q3⟩ (by rw [List.getElem?_toArray,List.getElem?_eq_none_iff,q4.length];exact hj) fun h' x z1 z2 z3=>k h' x ⟨z1,z2⟩ z3) hE fun h' hx=>⟨rfl,?_⟩
    exact hR.outAt hit (t:=s.toks) hx.1 hx.2
   |@out j e=>
    refine cps fun zP zk=>?_;(rcases hR.wd.ob _ _ e with ⟨p,q,o,ho,r⟩)<;>(refine zk ?_;clear zk zP)
    (refine OR.itrC r fun us r1 r2 r3=>?_;clear r)
    refine VRs.consC r3 fun zv zw zo a1 a2=>?_;clear r3;subst zo
    refine VRs.consC a2 fun zv zw zo b1 b2=>?_;clear a2;subst zo
    (have zc:=VRs.nilI b2;clear b2;subst zc);(have zc:=VR.valI b1;clear b1;subst zc);(have zc:=VR.noneI a1;clear a1;subst zc)
    refine Iq (P:=fun h'=>∀b o,s.heap.get? b=some o→h'.get? b=some o) (fun Q E k=>HY (A:=A.in1) hA ⟨o,ho,r1,r2⟩ fun h' x z1 z3=>k h' x z1 z3) hE fun h' hx=>⟨rfl,?_⟩
    exact hR.outAt hit (t:=s.toks) (fun b o zu q=>hx b o q) ⟨o,hx _ _ ho,r1,r2⟩
theorem IA (hA:A.handled=none) (hR:Rp C A F G env σ s) {ja:Addr} {i:Nat} {xs:List AV} {x:AV} (he:σ.hp ja=some (.itr "tuple_iterator" [.tup xs,.val (.int i 0)])) (hx:xs[i]? = some x) {elts:List Expr} {tn:Nat} {tpos:Pos} :
  wpAny (model C.prog C.w) A (pyNext (.ref ja)) (fun r s₁=>∃v,r=some v∧wpAny (model C.prog C.w) A (letOwnedTupleGo (.Tuple elts tn tpos) (.ref ja) v) (fun zu s₂=>
   VR F x v∧Rp C A F G env (σ.put ja (.itr "tuple_iterator" [.tup xs,.val (.int (i+1:Nat) 0)])) s₂) Bd s₁) Bd s:=by
 refine cps fun zP zk=>?_;(rcases hR.wd.ob _ _ he with ⟨p,q,o,ho,r⟩)<;>(refine zk ?_;clear zk zP)
 (refine OR.itrC r fun us r1 r2 r3=>?_;clear r)
 refine VRs.consC r3 fun zv zw zo a1 a2=>?_;clear r3;subst zo
 refine VRs.consC a2 fun zv zw zo b1 b2=>?_;clear a2;subst zo
 (have zc:=VRs.nilI b2;clear b2;subst zc);(have zc:=VR.valI b1;clear b1;subst zc)
 refine VR.tupC a1 fun vs l ol n zo q1 q2 q3 q4=>?_;clear a1;subst zo
 refine xa1_2 (q4.get hx) ?_;intro u hu hr
 refine wpAny_pyNext_tuple_item (x:=u) ⟨o,ho,r1,r2⟩ ⟨ol,hR.wd.fz _ _ q1,q2,n,q3⟩ (by rw [List.getElem?_toArray];exact hu) fun h' hit hsb=>⟨u,rfl,?_⟩
 refine xa1_3 hit ?_;(try clear hit);intro o' ho' c1 c2
 have hR':Rp C A F G env (σ.put ja (.itr "tuple_iterator" [.tup xs,.val (.int (i+1:Nat) 0)])) ⟨h',s.gens,s.drawn,s.toks,s.os⟩:=
  hR.change he rfl ho' (.itr (us:=[.ref l,.int (i+1:Nat) 0]) c1 c2 (.cons (.tup q1 q2 q3 q4) (.cons (.val _) .nil))) (SameBut.rest hsb)
 cases u with
 |ref a=>
  unfold letOwnedTupleGo
  refine wpAny_bind (wpAny_load (s:={ s with heap:=h' }) ho' ?_)
  rw [c1,c2]
  show wpAny _ _ (if (_:Bool)=true then _ else _) _ _ _
  rw [if_neg (by simp)]
  exact wpAny_pure ⟨hr,hR'⟩
 |_=>exact wpAny_pure ⟨hr,hR'⟩
theorem Ke (hA:A.handled=none) (hR:Rp C A F G env σ s) {ja:Addr} {i:Nat} {xs:List AV} (he:σ.hp ja=some (.itr "tuple_iterator" [.tup xs,.val (.int i 0)])) (hx:xs[i]? = none) :
  wpAny (model C.prog C.w) A (pyNext (.ref ja)) (fun r s₁=>r=none∧Rp C A F G env { σ with hp:=fun b=>if b∈[ja] then none else σ.hp b } s₁) Bd s:=by
 refine cps fun zP zk=>?_;(rcases hR.wd.ob _ _ he with ⟨p,q,o,ho,r⟩)<;>(refine zk ?_;clear zk zP)
 (refine OR.itrC r fun us r1 r2 r3=>?_;clear r)
 refine VRs.consC r3 fun zv zw zo a1 a2=>?_;clear r3;subst zo
 refine VRs.consC a2 fun zv zw zo b1 b2=>?_;clear a2;subst zo
 (have zc:=VRs.nilI b2;clear b2;subst zc);(have zc:=VR.valI b1;clear b1;subst zc)
 refine VR.tupC a1 fun vs l ol n zo q1 q2 q3 q4=>?_;clear a1;subst zo
 refine wpAny_pyNext_tuple_end hA ⟨o,ho,r1,r2⟩ ⟨ol,hR.wd.fz _ _ q1,q2,n,q3⟩ (by rw [List.getElem?_toArray];exact q4.none hx) fun h' hxx=>⟨rfl,?_⟩
 exact hR.loosen [ja] (fun a ha=>by simp at ha;subst ha;exact ⟨_,he⟩) (h':=h') (t:=s.toks) (fun b o hb e=>hxx b o (by simpa using hb) e)
theorem Kd (hR:Rp C A F G env σ s) {xs:List AV} {v:Value} (hv:VR F (.tup xs) v) :
  wpAny (model C.prog C.w) A (pyIter v) (fun it s'=>∃ja,it=.ref ja∧σ.hp ja=none∧Rp C A F G env (σ.put ja (.itr "tuple_iterator" [.tup xs,.val (.int 0 0)])) s') Bd s:=by
 refine VR.tupC hv fun vs t ot n zo q1 q2 q3 q4=>?_;clear hv;subst zo
 refine wpAny_pyIter_tuple ⟨ot,hR.wd.fz _ _ q1,q2,n,q3⟩ ⟨_,rfl,hR.lt,?_⟩
 exact hR.alloc (t:=s.toks) rfl rfl (.itr (us:=[.ref t,.int 0 0]) rfl rfl (.cons (.tup q1 q2 q3 q4) (.cons (.val _) .nil)))
inductive EB:BI→AV→List AV→HP→Prop
 |rd {r xs hp}:B0 r hp xs→EB (.rd r) (.ref r) xs hp
noncomputable def Ff (o:BI) (hp hp':HP):Prop:=match o with
 |.own=>True
 |.live l=>hp' l=hp l
 |.rd r=>hp' r=hp r
theorem EB.keep {o:BI} {hp hp':HP} {v:AV} {xs:List AV} (h:EB o v xs hp) (k:Ff o hp hp'):EB o v xs hp':=by
 cases h with
 |rd a=>exact .rd (a.off k)
theorem Ff.of {o:BI} {hp hp':HP} {v:AV} {xs:List AV} (h:EB o v xs hp) (k:∀a x,hp a=some x→(∃xs,x=.list xs)∨(∃c vs,x=.itr c vs)→hp' a=some x):Ff o hp hp':=by
 cases h with
 |rd a=>refine xa2_1 a.at ?_;intro c vs e;exact (k _ _ e (.inr ⟨_,_,rfl⟩)).trans e.symm
theorem GG {r:Addr} {Q:Value→Shared→Prop} {prog:Program} {w:World} (hT:s.TypeIs (.ref r) "list_iterator") (h:Q (.ref r) s):wpAny (model prog w) A (pyIter (.ref r)) Q E s:=by
 refine wpAny_pyIter_slot hT slot_listiter_iter (wpAny_call_entry slot_listiter_iter hT entry_listiter_iter ?_ (args_listiter_iter _))
 show wpAny _ _ (ret (.ref r)) _ _ s
 exact wpAny_pure ⟨_,rfl, "list_iterator",_,hT,slot_listiter_next.lookup,h⟩
theorem Ib (r:Addr) (vs:Array Value) (dct:Option Addr) (sl:Array (Option Value)) :
  Meets (Builtin.«enumerate.__new__» ⟨[.type "enumerate",.ref r],[]⟩) (fun _ R s=>s.heap.get? r=some { cls:=.type "list_iterator",dict:=dct,data:=.fields vs,slots:=sl } ∧
   R (.ok (.ret (.ref s.heap.objs.size))) { s with heap:=s.heap.push { cls:=.type "enumerate",data:=.fields #[.none,.bool false,.ref r,rawInt 0,.none,.none] } }):=
 .of_wp fun prog w A R s h=>by
  refine cps fun zP zk=>?_;(rcases s with ⟨hp,g,d,tk,os⟩)<;>(refine zk ?_;clear zk zP);refine xa0_2 h ?_;(try clear h);intro hl h
  have hsub:=sub_enumerate
  have hL:Shared.TypeIs ⟨hp,g,d,tk,os⟩ (.ref r) "list_iterator":=⟨_,hl,rfl⟩
  wp_walk using AutoSeq1.wpAny_loadPart' hl
  refine wpAny_stack_any fun st=>Nk fun b=>?_
  cases b
  ·wp_walk using AutoSeq1.wpAny_loadPart' hl,GG hL
   exact ⟨_,rfl,h⟩
  ·wp_walk using AutoSeq1.wpAny_loadPart' hl,GG hL
   exact ⟨_,rfl,h⟩
theorem Jd {r:Addr} {ob:Obj} {vs:Array Value} {Q:Value→Shared→Prop} {prog:Program} {w:World} (ho:s.heap.get? r=some ob) (hc:ob.cls=.type "list_iterator") (hd:ob.data=.fields vs)
  (h:∀h',IsEnum h' s.heap.objs.size r 0 .none→(∀b o,s.heap.get? b=some o→h'.get? b=some o)→Q (.ref s.heap.objs.size) { s with heap:=h' }) :
  wpAny (model prog w) A (call (.type "enumerate") [.ref r]) Q E s:=by
 refine cps fun zP zk=>?_;(rcases ob with ⟨c,dct,dt,sl⟩)<;>(refine zk ?_;clear zk zP)
 replace hc:c=.type "list_iterator":=hc
 replace hd:dt=.fields vs:=hd
 subst hc hd
 refine callType_new F.called_enumerate (by decide) (F.typeCall_enumerate_1 _) (F.newCall_enumerate_1 _) (fun obj=>F.args_object_init_2 obj _) F.entry_enumerate_new (Ib r vs dct sl) ⟨ho,?_⟩
 have he:=Heap.get?_push_size s.heap (o:={ cls:=.type "enumerate",data:=.fields #[.none,.bool false,.ref r,rawInt 0,.none,.none] }) rfl
 exact ⟨⟨_,he,rfl⟩,h _ he fun b o x=>Heap.get?_push_of_some _ x⟩
theorem K7 {o:BI} {v:AV} {xs:List AV} {Q:AV→Al→Prop} (hv:EB o v xs σ.hp)
  (h:∀ea ia y,σ.hp ea=none→(σ.hp ia=none∨(o=.rd ia∧σ.hp ia=some y))→ea≠ia→(∃c u,y=.itr c u)→(∀hp',hp' ia=some y→Ff o σ.hp hp'→G8 o ia 0 xs hp')→Q (.ref ea) { σ with hp:=upd (upd σ.hp ia y) ea (Bc ia 0 .none) }) :
  Br C A E env (.val (.type "enumerate")) [] [v] [] σ Q:=by
 refine Ef (fun F G s vs hR hvs=>?_)
 refine VRs.consC hvs fun zv zw zo a b=>?_;clear hvs;subst zo
 (have zc:=VRs.nilI b;clear b;subst zc)
 refine xa0_5 hR.top ?_;intro t1 t2 t3 t4 t5
 have z:=hR.wd.lt (Nat.le_succ s.heap.objs.size)
 have hlt:∀x c,env.kindOf x=some .cell→env.cells.lookup x=some c→c<s.heap.objs.size:=fun x c hx hc=>by
  refine cps fun zP zk=>?_;(rcases hR.fm.co x hx with ⟨c',g1,zu,zu,zu,zu,v',o',ho',zu⟩)<;>(refine zk ?_;clear zk zP)
  rw [hc] at g1;(have zc:=Option.some.inj g1;clear g1;subst zc)
  exact Heap.lt_size ho'
 have hL:env.locals<s.heap.objs.size:=by refine xa1_2 hR.fm.ns ?_;intro m;intro zq;refine xa3_2 zq ?_;(try clear zq);intro oL es ep' hL zu;intro zu;exact Heap.lt_size hL
 cases hv with
 |@rd r zu zu2 hr=>
  (have zc:=VR.refI a;clear a;subst zc)
  refine xa2_1 hr.at ?_;intro c vs e
  obtain ⟨ob,us,ho,hc,hd⟩:∃ob vs,s.heap.get? r=some ob∧ob.cls=.type "list_iterator"∧ob.data=.fields vs:=by
   cases hr with
   |mid e zu=>refine cps fun zP zk=>?_;(rcases hR.wd.ob _ _ e with ⟨p,q,o,ho,r⟩)<;>(refine zk ?_;clear zk zP);(refine OR.itrC r fun us r1 r2 r3=>?_;clear r);exact ⟨o,_,ho,r1,r2⟩
   |out e=>refine cps fun zP zk=>?_;(rcases hR.wd.ob _ _ e with ⟨p,q,o,ho,r⟩)<;>(refine zk ?_;clear zk zP);(refine OR.itrC r fun us r1 r2 r3=>?_;clear r);exact ⟨o,_,ho,r1,r2⟩
  refine Jd ho hc hd fun h' hE hk=>?_
  have hR1:=hR.keep (t:=s.toks) hk
  have hR2:=hR1.track (a:=s.heap.objs.size) (x:=Bc r 0 .none) hE t1 t2 t3 t4 t5 rfl (.fields (us:=[.none,.bool false,.ref r,rawInt 0,.none,.none]) rfl rfl rfl rfl (.cons .none (.cons (.bool _) (.cons (.ref _) (.cons (.val _) (.cons .none (.cons .none .nil)))))))
  have hne:s.heap.objs.size≠r:=by rintro q;rw [q] at t3;rw [e] at t3;exact Ap t3
  have hup:upd σ.hp r (.itr c vs)=σ.hp:=by
   funext b
   by_cases hb:b=r
   ·subst hb;rw [Ae];exact e.symm
   ·exact Ad _ _ hb
  refine A0.of (.ref _) hR2 ?_
  have:=h s.heap.objs.size r (.itr c vs) t3 (.inr ⟨rfl,e⟩) hne ⟨_,_,rfl⟩ fun hp' e' k=>.rd (hr.off k)
  rw [hup] at this
  exact this
theorem LN {o:BI} {v:AV} {xs:List AV} {Q:AV→Al→Prop} (hv:EB o v xs σ.hp)
  (h:∀ea ia y,σ.hp ea=none→(σ.hp ia=none∨(o=.rd ia∧σ.hp ia=some y))→ea≠ia→(∃c u,y=.itr c u)→G8 o ia 0 xs (upd (upd σ.hp ia y) ea (Bc ia 0 .none))→Q (.ref ea) { σ with hp:=upd (upd σ.hp ia y) ea (Bc ia 0 .none) }) :
  Br C A E env (.val (.type "enumerate")) [] [v] [] σ Q:=by
 refine K7 hv fun ea ia y h1 h2 h3 h4 h5=>h ea ia y h1 h2 h3 h4 (h5 _ ((Ad _ _ h3.symm).trans (Ae _ _ _)) (Ff.of hv fun a x e hx=>?_))
 have n1:a≠ea:=fun zE=>by (first|rw [zE,h1] at e|rw [←zE,h1] at e);exact Aj e
 rw [Ad _ _ n1]
 by_cases n2:a=ia
 ·subst n2
  rcases h2 with h2|⟨zu,h2⟩
  ·rw [h2] at e;exact Aj e
  ·rw [h2] at e;rw [Ae];exact e
 ·rw [Ad _ _ n2];exact e
end
section
theorem DO:typeLookup (.type "method_descriptor") "__get__" = pure (some (.builtin "method_descriptor.__get__")):=by rw [typeLookup_type,builtinLookup_eq_fast];kernel_rfl
theorem G4:typeLookup (.type "method_descriptor") "__set__" = pure none:=by rw [typeLookup_type,builtinLookup_eq_fast];kernel_rfl
theorem G5:typeLookup (.type "method_descriptor") "__delete__" = pure none:=by rw [typeLookup_type,builtinLookup_eq_fast];kernel_rfl
theorem Fb:typeOf (.builtin "dict.get")=pure (.type "method_descriptor"):=F.type_dict_get
theorem JF:Slot "method_descriptor" "__get__" "method_descriptor.__get__":=
 .of (owner:="method_descriptor") (n:="__get__") DO (by decide +kernel) (by decide +kernel) (by decide +kernel)
  (by first|exact .inl (by decide +kernel)|exact .inr (by decide +kernel)) (by rw [isSubtype_type];kernel_rfl)
theorem L4:entryFor table "method_descriptor.__get__" = some Builtin.«method_descriptor.__get__»:=entryFor_of_tree (by kernel_rfl)
theorem MJ (a b c:Value):argsOk "method_descriptor.__get__" ⟨[a,b,c],[]⟩:=by unfold argsOk;kernel_rfl
theorem L3 (a:Addr) (es:Array DictEntry) (k:Nat) (sl:Array (Option Value)) :
  Meets (Builtin.«method_descriptor.__get__» ⟨[.builtin "dict.get",.ref a,.type "dict"],[]⟩) (fun A R s=>s.heap.get? a=some { cls:=.type "dict",dict:=none,data:=.dict es k,slots:=sl } ∧
   R (.ok (.ret (.ref s.heap.objs.size))) { s with heap:=s.heap.push { cls:=.type "builtin_function_or_method",data:=.fields #[.builtin "dict.get",.ref a] } }):=
 Meets.of_wp fun prog w A R s hs=>by
  refine cps fun zP zk=>?_;(rcases s with ⟨hp,g,d,tk,os⟩)<;>(refine zk ?_;clear zk zP)
  refine xa0_2 hs ?_;(try clear hs);intro hx hs
  have hT:(⟨hp,g,d,tk,os⟩:Shared).TypeIs (.ref a) "dict":=⟨_,hx,rfl⟩
  have f1:isSubtype (.type "dict") (.type "dict")=pure true:=by rw [isSubtype_type];kernel_rfl
  unfold Builtin.«method_descriptor.__get__»
  repeat (any_goals (first|assumption|k_node|wp_step))
  exact ⟨_,rfl,hs⟩
theorem Hn (a:Addr) (es:Array DictEntry) (k:Nat) (sl:Array (Option Value)) (u:Tok) :
  Meets (Builtin.«object.__getattribute__» ⟨[.ref a,.str "get" u],[]⟩) (fun A R s=>s.heap.get? a=some { cls:=.type "dict",dict:=none,data:=.dict es k,slots:=sl } ∧
   R (.ok (.ret (.ref s.heap.objs.size))) { s with heap:=s.heap.push { cls:=.type "builtin_function_or_method",data:=.fields #[.builtin "dict.get",.ref a] } }):=
 Meets.of_wp fun prog w A R s hs=>by
  refine cps fun zP zk=>?_;(rcases s with ⟨hp,g,d,tk,os⟩)<;>(refine zk ?_;clear zk zP)
  refine xa0_2 hs ?_;(try clear hs);intro hx hs
  have hT:(⟨hp,g,d,tk,os⟩:Shared).TypeIs (.ref a) "dict":=⟨_,hx,rfl⟩
  have f1:=F.slot_dict_get.lookup
  have f2:=DO
  have f3:=G4
  have f4:=G5
  have f5:=Fb
  unfold Builtin.«object.__getattribute__»
  repeat (any_goals (first|assumption|wp_step))
  have key:∀(A':Around) (R':Result→Shared→Prop),R' (.ok (.ret (.ref hp.objs.size))) ⟨hp.push { cls:=.type "builtin_function_or_method",data:=.fields #[.builtin "dict.get",.ref a] },g,d,tk,os⟩ →
    codeAny (model prog w) A' (.call (.builtin "method_descriptor.__get__") ⟨[.builtin "dict.get",.ref a,.type "dict"],[]⟩) R' ⟨hp,g,d,tk,os⟩:=fun A' R' h'=>
   codeAny_call_builtin JF.plain L4 (JF.check _ _ _ _ _ _ _ _ (show Shared.TypeIs _ (.builtin "dict.get") "method_descriptor" from Fb) (MJ _ _ _) (L3 a es k sl prog w A' R' _ ⟨hx,h'⟩))
  exact key _ _ (wpAny_pure ⟨_,rfl,hs⟩)
section
variable {prog:Program} {w:World} {A:Around} {E:Value→Shared→Prop} {s:Shared}
theorem EO {a:Addr} {o:Obj} {es:Array DictEntry} {k:Nat} {Q:Value→Shared→Prop}
  (hx:s.heap.get? a=some o) (hc:o.cls=.type "dict") (hdat:o.data=.dict es k) (hd:o.dict=none)
  (h:Q (.ref s.heap.objs.size) { s with heap:=s.heap.push { cls:=.type "builtin_function_or_method",data:=.fields #[.builtin "dict.get",.ref a] },toks:=s.toks+1 }) :
  wpAny (model prog w) A (getAttr (.ref a) "get" true) Q E s:=by
 refine cps fun zP zk=>?_;(rcases o with ⟨c,dct,dat,sl⟩)<;>(refine zk ?_;clear zk zP)
 simp only at hc hdat hd
 subst hc hdat hd
 refine cps fun zP zk=>?_;(rcases s with ⟨hp,g,d,tk,os⟩)<;>(refine zk ?_;clear zk zP)
 have hT:∀tk',(⟨hp,g,d,tk',os⟩:Shared).TypeIs (.ref a) "dict":=fun zu=>⟨_,hx,rfl⟩
 have f3:=F.slot_dict_getattribute.lookup
 have f4:=F.slot_dict_getattribute.bind (.ref a)
 have f5:=am_dict_getattr_none
 unfold getAttr getAttrBy
 repeat (any_goals (first|assumption|exact hT _|((with_reducible show wpAny _ _ (call (Value.builtin "dict.__getattribute__") _ _) _ _ _);refine call_meets F.slot_dict_getattribute (hT _) am_entry_dict_getattribute (F.args_dict_getattribute_2 _ _) (Hn a es k sl _) ⟨hx,?_⟩)|wp_step))
 show wpAny _ _ (handedOut (.ref _)) Q E _
 rw [handedOut_of rfl];exact wpAny_pure h
theorem Gn {b d:Addr} {o od:Obj} {k:Value} {R:Result→Shared→Prop} (ho:s.heap.get? b=some o) (hc:o.cls=.type "builtin_function_or_method") (hdt:o.data=.fields #[.builtin "dict.get",.ref d])
  (hd:s.heap.get? d=some od) (hcd:od.cls=.type "dict") {es:Array DictEntry} {ep:Nat} (hdd:od.data=.dict es ep)
  (h:codeAny (model prog w) A (.builtin "dict.get" ⟨[.ref d,k],[]⟩) R s):codeAny (model prog w) A (.call (.ref b) ⟨[k],[]⟩) R s:=by
 refine cps fun zP zk=>?_;(rcases o with ⟨c,dct,dat,sl⟩)<;>(refine zk ?_;clear zk zP)
 simp only at hc hdt
 subst hc hdt
 refine cps fun zP zk=>?_;(rcases od with ⟨c,dct',dat',sl'⟩)<;>(refine zk ?_;clear zk zP)
 simp only at hcd hdd
 subst hcd hdd
 refine cps fun zP zk=>?_;(rcases s with ⟨hp,g,dr,t,os⟩)<;>(refine zk ?_;clear zk zP)
 have hT:(⟨hp,g,dr,t,os⟩:Shared).TypeIs (.ref d) "dict":=⟨_,hd,rfl⟩
 have f1:isSubtype (.type "dict") (.type "module")=pure false:=by rw [isSubtype_type];kernel_rfl
 have f2:isSubtype (.type "dict") (.type "type")=pure false:=by rw [isSubtype_type];kernel_rfl
 refine codeAny_of_tree ?_
 show wpAny _ _ (callAny (.ref b) _) _ _ _
 dsimp only at ho hd
 refine nd_load ho ?_
 show wpAny _ _ (checkBoundCall "dict.get" ⟨[.ref d,k],[]⟩ >>= fun zu=>_) _ _ _
 unfold checkBoundCall
 repeat (any_goals (first|assumption|k_node|wp_step))
 exact ⟨rfl,h⟩
end
section
variable {C:Cf} {A:Around} {E:Value→Shared→Prop} {env:Env} {σ:Al} {F G:FH} {s:Shared}
noncomputable def BA (d:Addr):AO:=.fields "builtin_function_or_method" [.val (.builtin "dict.get"),.ref d]
theorem OR.dictObj {gens:Array GenState} {l:List (Aw×AV)} {ep:Nat} {o:Obj} (r:OR C F gens (.dict l ep) o):o.cls=.type "dict"∧o.dict=none∧∃es,o.data=.dict es ep:=by
 have h:=OR.clsD F gens o r
 (refine OR.dictC r fun zv zv a b zv zv zv zv=>?_;clear r)
 exact ⟨h.1,h.2,_,b⟩
theorem O5 {a:Addr} {l:List (Aw×AV)} {ep:Nat} {Q:AV→List AV→Al→Prop} (hd:σ.hp a=some (.dict l ep)) (h:Q (.val (.builtin "dict.get")) [.ref a] σ):Du C A E env (.ref a) "get" σ Q:=
 AW hd OR.clsD F.plainAttrs_dict F.slot_dict_get F.type_dict_get h
theorem JL {l:List (Aw×AV)} {kvs:List (Aw×Value)} (sv:SV F l kvs) (k:Aw):VR F ((Hx l k).getD .none) ((valueAt kvs k).getD .none):=by
 rcases sv.at k with ⟨x,v,h1,h2,h3⟩|⟨h1,h2⟩
 ·rw [h1,h2];exact h3
 ·rw [h1,h2];exact .none
theorem LS (hs:(C.h0.get? sysModules).isSome=true) {d:Addr} {l:List (Aw×AV)} {ep:Nat} {k:Aw} {Q:AV→Al→Prop} (hd:σ.hp d=some (.dict l ep)) (h:Q ((Hx l k).getD .none) σ) :
  Br C A E env (.val (.builtin "dict.get")) [.ref d] [k.av] [] σ Q:=by
 refine AB fun F G s us vs hR hus hvs=>?_
 obtain rfl:us=[Value.ref d]:=by refine VRs.consC hus fun zv zw zo q r=>?_;clear hus;subst zo;(have zc:=VR.refI q;clear q;subst zc);(have zc:=VRs.nilI r;clear r;subst zc);rfl
 refine VRs.consC hvs fun zv zw zo q r=>?_;clear hvs;subst zo
 (have zc:=VRs.nilI r;clear r;subst zc)
 refine xa1_2 (hR.dictOf hd) ?_;intro kvs hm sv
 exact call_meetsIn PySem.F.slot_dict_get hm.typeIs PySem.F.entry_dict_get (PySem.F.args_dict_get_2 _ _) (meets_dict_get (Bt C.prog C.w) d (Aw.is_of q) (hR.low hd hs)) ⟨_,Dn hm,A0.of (JL sv k) (hR.tok _) h⟩
theorem Ku {d:Addr} {l:List (Aw×AV)} {ep:Nat} {Q:AV→Al→Prop} (hd:σ.hp d=some (.dict l ep)) (h:∀b,σ.hp b=none→Q (.ref b) (σ.put b (BA d))) :
  Hz C A E env VR (fun v=>getAttr v "get" true) (.ref d) σ Q:=by
 intro F G s v hR hv
 (have zc:=VR.refI hv;clear hv;subst zc)
 refine cps fun zP zk=>?_;(rcases hR.wd.ob _ _ hd with ⟨zu,zu,o,ho,r⟩)<;>(refine zk ?_;clear zk zP)
 refine cps fun zP zk=>?_;(rcases r.dictObj with ⟨h1,h2,es,h3⟩)<;>(refine zk ?_;clear zk zP)
 refine EO ho h1 h3 h2 ?_
 exact A0.of (.ref _) (hR.alloc (t:=s.toks+1) rfl rfl (.fields (us:=[.builtin "dict.get",.ref d]) rfl rfl rfl rfl (.cons (.val _) (.cons (.ref d) .nil)))) (h _ hR.lt)
theorem GV (hs:(C.h0.get? sysModules).isSome=true) {b d:Addr} {l:List (Aw×AV)} {ep:Nat} {k:Aw} {Q:AV→Al→Prop} (hb:σ.hp b=some (BA d)) (hd:σ.hp d=some (.dict l ep)) (h:Q ((Hx l k).getD .none) σ) :
  Br C A E env (.ref b) [] [k.av] [] σ Q:=by
 intro F G s fv us vs kvs hR hf hus hvs hk
 (have zc:=VR.refI hf;clear hf;subst zc);(have zc:=VRs.nilI hus;clear hus;subst zc);cases hk
 refine VRs.consC hvs fun zv zw zo q r=>?_;clear hvs;subst zo
 (have zc:=VRs.nilI r;clear r;subst zc)
 refine cps fun zP zk=>?_;(rcases hR.wd.ob _ _ hb with ⟨zu,zu,o,ho,r⟩)<;>(refine zk ?_;clear zk zP)
 refine cps fun zP zk=>?_;(rcases hR.wd.ob _ _ hd with ⟨zu,zu,od,hod,rd⟩)<;>(refine zk ?_;clear zk zP)
 refine xa1_2 (hR.dictOf hd) ?_;intro kvs hm sv
 refine cps fun zP zk=>?_;(rcases rd.dictObj with ⟨h1,h2,es,h3⟩)<;>(refine zk ?_;clear zk zP)
 (refine OR.fieldsC r fun us r1 r2 r3 r4 r5=>?_;clear r)
 refine VRs.consC r5 fun zv zw zo a1 r5_a=>?_;clear r5;subst zo
 refine VRs.consC r5_a fun zv zw zo a2 r5_b=>?_;clear r5_a;subst zo
 (have zc:=VRs.nilI r5_b;clear r5_b;subst zc);(have zc:=VR.valI a1;clear a1;subst zc);(have zc:=VR.refI a2;clear a2;subst zc)
 refine ⟨⟨.machine,?_⟩,?_⟩
 ·refine cps fun zP zk=>?_;(rcases o with ⟨c,dct,dat,sl⟩)<;>(refine zk ?_;clear zk zP)
  dsimp only at r1 r2 r3 r4
  subst r1 r2 r3 r4
  exact (Looks.ld ho).andThen (Looks.of_pure rfl)
 ·refine wpAny_call (Gn ho r1 r4 hod h1 h3 ?_)
  have key:∀R':Result→Shared→Prop,R' (.ok (.ret ((valueAt kvs k).getD .none))) { s with toks:=s.toks+1 }→codeAny (model C.prog C.w) A (.builtin "dict.get" ⟨[.ref d,_],[]⟩) R' s:=fun R' h'=>
   codeAny_builtin PySem.F.entry_dict_get (by
    rw [Around.under_plainId (show plainId "dict.get" = true by decide +kernel)]
    exact meets_dict_get (Bt C.prog C.w) d (Aw.is_of q) (hR.low hd hs) A R' s ⟨_,Dn hm,h'⟩)
  exact key _ (A0.of (JL sv k) (hR.tok _) h)
end
end
section
noncomputable abbrev A3 (r:FdRest) (L:Addr):Env:=callEnv (r.fd Io .none) L 94
variable {C:Cf} {A:Around} {s:Shared} {env:Env} {σ:Al} {F G:FH} {hp:HP}
noncomputable def Pp:Pos:=⟨0,0,0,0⟩
noncomputable def Gi:List Stmt→Expr×List Stmt
 |.For t _ b _ _::_=>(t,b)
 |_=>(.Name "x" Pp,[])
noncomputable def LC:List Stmt→List Stmt
 |[.If _ b _ _]=>b
 |_::r=>LC r
 |[]=>[]
noncomputable def FX:Expr×List Stmt:=Gi (Io.body.drop 3)
noncomputable def Il:Expr×List Stmt:=Gi (LC FX.2)
noncomputable def DH (env:Env) (ea:Addr):Code:=.forLoop FX.1 (.ref ea) FX.2 [] env
noncomputable def CV (env:Env) (ja:Addr):Code:=.forLoop Il.1 (.ref ja) Il.2 [] env
noncomputable def Fu (env:Env):Code:=.func Io.body env
noncomputable def Dh (n:Int):AV→AV
 |.tup [v,.int len]=>.tup [v,.int (n - len)]
 |x=>x
theorem HU {key:Ag→Option AV} {x:AV}:∀{p:Ag},x∈outs key p→∃v len,x=.tup [v,.int len]
 |[],h=>by simp [Ea,DZ] at h
 |c::p,h=>by
  simp only [Ea,DZ,List.mem_append] at h
  rcases h with h|h
  ·split at h
   ·simp at h;exact ⟨_,_,h⟩
   ·simp at h
  ·exact HU h
noncomputable def BN (key:Ag→Option AV) (u:Ag):Ag→List AV
 |[]=>[]
 |c::r=>(outs key (u++[c])).map (Dh (u++[c]).length)++BN key (u++[c]) r
theorem LI {key:Ag→Option AV} {u:Ag}:BN key u []=[]:=rfl
theorem LH {key:Ag→Option AV} {u r:Ag} {c:Aw}:BN key u (c::r)=(outs key (u++[c])).map (Dh (u++[c]).length)++BN key (u++[c]) r:=rfl
noncomputable def remn (key:Ag→Option AV) (u:Ag) (k:Nat) (rest:Ag):List AV:=((outs key u).drop k).map (Dh u.length)++BN key u rest
theorem Rp.around {A':Around} (hR:Rp C A F G env σ s) (h:G9 A' G env):Rp C A' F G env σ s:=⟨hR.wd,hR.fm,h⟩
noncomputable def Om (env:Env) (f:Frame):Prop:=∃kf l p,f=.ret kf none false l (Fu env) p []∧kf (.ok .next)=.pure (.done (.ret .none))
noncomputable def OZ (env:Env) (ea:Addr) (f:Frame):Prop:=∃kf l p,f=.ret kf none false l (DH env ea) p []∧kf (.ok .next)=.pure (.again (DH env ea))
theorem Ls (A:Around) {ea:Addr} {f:Frame} (h:Om env f):(A.over (DH env ea) [f]).handled=A.handled∧(A.over (DH env ea) [f]).depth=A.depth+1∧(A.over (DH env ea) [f]).frames=A.frames.map (env::·):=by
 refine xa3_2 h ?_;(try clear h);intro kf l p;rintro rfl;intro zu
 refine ⟨rfl,?_,?_⟩
 ·rfl
 ·refine cps fun zP zk=>?_;(rcases A with ⟨hd,dp,fr,gu,un⟩)<;>(refine zk ?_;clear zk zP);cases fr<;>rfl
theorem JA (A:Around) {ea ja:Addr} {f f':Frame} (h1:OZ env ea f) (h:Om env f'):(A.over (CV env ja) [f,f']).handled=A.handled∧(A.over (CV env ja) [f,f']).depth=A.depth+1∧(A.over (CV env ja) [f,f']).frames=A.frames.map (env::·):=by
 refine xa3_2 h ?_;(try clear h);intro kf l p;rintro rfl;intro zu
 refine xa3_2 h1 ?_;(try clear h1);intro kf1 l1 p1;rintro rfl;intro zu
 refine ⟨rfl,?_,?_⟩
 ·rfl
 ·refine cps fun zP zk=>?_;(rcases A with ⟨hd,dp,fr,gu,un⟩)<;>(refine zk ?_;clear zk zP);cases fr<;>rfl
theorem O3 (A:Around):(A.over (Fu env) []).handled=A.handled∧(A.over (Fu env) []).depth=A.depth+1∧(A.over (Fu env) []).frames=A.frames.map (env::·):=by
 refine ⟨rfl,?_,?_⟩
 ·rfl
 ·refine cps fun zP zk=>?_;(rcases A with ⟨hd,dp,fr,gu,un⟩)<;>(refine zk ?_;clear zk zP);cases fr<;>rfl
theorem G9.mk {A':Around} (h:A'.frames=A.frames.map (env::·)) (hf:Fs A G) (hk:env.scope.kind=.function) (hl:env.frame=some env.locals):G9 A' G env:=by
 refine xa1_2 hf ?_;(try clear hf);intro l h1 h2
 exact ⟨env,l,by rw [h,h1];rfl,by rw [hk];decide,rfl,.inl ⟨rfl,hl⟩,h2⟩
noncomputable def OH (C:Cf) (env:Env) (ea ja:Addr) (gs:GenState):Prop:=
 ∃k l p f1 f2,gs=.suspended k l (CV env ja) p [f1,f2] false∧OZ env ea f1∧Om env f2 ∧
  ∀A s P,SegX (model C.prog C.w) A (CV env ja) (.pure (.again (CV env ja))) [f1,f2] s P→SegX (model C.prog C.w) A (CV env ja) (k (.send .none)) [f1,f2] s P
structure Ol (C:Cf) (X:Af) (env:Env) (hp:HP) (o:BI) (ga ea ia ba ja:Addr) (g:Nat) (u:Ag) (k:Nat) (rest:Ag):Prop where
 gen:∃gs,hp ga=some (.gen g gs)∧OH C env ea ja gs
 frm:hp env.locals=some (.frame [("zero_state",.ref (X.A [])),("zero_transitions_get",.ref ba),("current_state",.ref (X.A (Cj X.D u))),("idx",.int ((u.length:Int) - 1))])
 bnd:hp ba=some (BA (X.T []))
 enm:∃old,hp ea=some (Bc ia u.length old)
 src:G8 o ia u.length (rest.map Aw.av) hp
 itr:hp ja=some (.itr "tuple_iterator" [.tup (outs X.key u),.val (.int k 0)])
 nji:ja≠ia
noncomputable def Fw (key:Ag→Option AV) (U u:Ag) (k:Nat) (rest:Ag) (y:AV):Prop:=u++rest=U∧∃j x,k=j+1∧(outs key u)[j]? = some x∧y=Dh u.length x
noncomputable def I4 (o:BI) (ga:Addr) (hp:HP):Prop:=Jt o hp∧∃g,hp ga=some (.gen g .finished)
inductive OY (C:Cf) (X:Af) (env:Env) (F':FH) (hp' hp₀:HP) (o:BI) (U:Ag) (ga ea ia ba jx:Addr) (g:Nat) (y:AV) (ys:List AV) (K:Value→Prop):Prop
 |mk (v:Value) (u:Ag) (k:Nat) (rest:Ag) (ja:Addr) (hK:K v)
  (h1:VR F' y v)
  (h2:Ol C X env hp' o ga ea ia ba ja g u k rest)
  (h3:ys=remn X.key u k rest)
  (h4:(hp₀ ja=none∨ja=jx))
  (h5:Fw X.key U u k rest y)
inductive Gy (C:Cf) (X:Af) (env:Env) (G F₀:FH) (hp₀:HP) (o:BI) (U:Ag) (ga ea ia ba jx:Addr) (g:Nat) (rem:List AV) (e:End) (s':Shared):Prop
 |mk (F':FH) (hp':HP)
  (h1:AE F₀ F')
  (h2:Wd C F' G hp' (s'.setGen g e.genState))
  (h3:(∀a,hp₀ a≠none→a≠ga→a≠ea→a≠ia→a≠env.locals→a≠jx→hp' a=hp₀ a))
  (h4:match rem with
  |[]=>e=.ret (.ok (.ret .none))∧I4 o ga hp'
  |y::ys=>OY C X env F' hp' hp₀ o U ga ea ia ba jx g y ys (fun v=>e.result=.yielded v))
theorem KM (T:Tp C) {r:FdRest} {L:Addr} {X:Af} {t d:Addr} {ci:Bool} {ba:Addr} {u:Ag} {c:Aw} (hX:X.Ph3) (hr:AK X t d true ci σ.hp) (hb:σ.hp ba=some (BA (X.T [])))
  (l1:σ.v "zero_state" = some (.ref (X.A []))) (l2:σ.v "zero_transitions_get" = some (.ref ba)) (l3:σ.v "current_state" = some (.ref (X.A (Cj X.D u)))) (l4:σ.v "symbol" = some c.av)
  {Q:A7→Al→Prop} {st:Stmt} (hst:FX.2.head? = some st)
  (h1:∀σ',σ'.hp=σ.hp→σ'.v "zero_state" = some (.ref (X.A []))→σ'.v "zero_transitions_get" = some (.ref ba)→σ'.v "idx" = σ.v "idx"→σ'.v "current_state" = some (.ref (X.A []))→Cj X.D (u++[c])=[]→Q .cont σ')
  (h2:∀σ',σ'.hp=σ.hp→σ'.v "zero_state" = some (.ref (X.A []))→σ'.v "zero_transitions_get" = some (.ref ba)→σ'.v "idx" = σ.v "idx"→σ'.v "next_state" = some (.ref (X.A (Cj X.D (u++[c]))))→Q .next σ') :
  Ex C A Bd (A3 r L) st σ Q:=by
 have hw:=hX.wf
 have hpD:=C2 hw.pc u
 have hroot:=hX.dn [] hw.root
 refine xa1_1 (hr.td [] hw.root) ?_;intro ep0 ht0
 have hz:Hx (X.trv []) c=(By X.D [] c).map fun q=>.ref (X.A q):=by rw [Af.at_trv,hroot.2 c]
 have hsuf:Cj X.D (u++[c])=Cj X.D (Cj X.D u++[c]):=J1 hw.pc u c
 generalize hp:Cj X.D u=p at *
 (have zc:=Option.some.inj hst;clear hst;subst zc)
 refine Bq (Bi (Ab l3 (Ab l1 (MI hr hpD hw.root ⟨_,rfl,?_⟩))))
 by_cases h0:p=[]
 ·subst h0
  simp only [decide_true,if_true]
  refine Aa (Ah (AZ (Ab l2 (Ay (Ab l4 (At (A6 (GV T.sysm hb ht0 ?_))))))))
  rw [hz]
  cases hf:By X.D [] c with
  |none=>
   refine Aa (Bq (Bi (Ab Ax (Bu (Ck ⟨_,rfl,?_⟩)))))
   simp only [if_true]
   exact Aa (Fi (h1 _ rfl (Ai l1) (Ai l2) (Ai rfl) (Ai l3) (by rw [hsuf];exact Ie hf)))
  |some q=>
   refine Aa (Bq (Bi (Ab Ax (Bu (Fy ⟨_,rfl⟩ ⟨_,rfl,?_⟩)))))
   refine An (An (h2 _ rfl (Ai l1) (Ai l2) (Ai rfl) ?_))
   rw [hsuf,Ho hf];exact Ax
 ·simp only [h0,decide_false]
  refine xa1_1 (hr.td p hpD) ?_;intro ep htp
  have hat:Hx (X.trv p) c=(By X.D p c).map fun q=>.ref (X.A q):=by rw [Af.at_trv,(hX.dn p hpD).2 c]
  refine Aa (Ah (A2 (As (Ab l3 (DM T hr hpD (O5 htp (Ay (Ab l4 (At (A6 (LS T.sysm htp ?_)))))))))))
  rw [hat]
  cases hf:By X.D p c with
  |some q=>
   refine Aa (Bq (Bi (Ab Ax (Bu (Fy ⟨_,rfl⟩ ⟨_,rfl,?_⟩)))))
   refine An (An (h2 _ rfl (Ai l1) (Ai l2) (Ai rfl) ?_))
   rw [hsuf,Ho hf];exact Ax
  |none=>
   refine Aa (Bq (Bi (Ab Ax (Bu (Ck ⟨_,rfl,?_⟩)))))
   simp only [if_true]
   refine Aa (Ah (AZ (Ab (Ai l2) (Ay (Ab (Ai l4) (At (A6 (GV T.sysm hb ht0 ?_))))))))
   rw [hz]
   have hN:DQ X.D p c=none:=by simpa [By,h0] using hf
   cases hg:By X.D [] c with
   |none=>
    refine Aa (Bq (Bi (Ab Ax (Bu (Ck ⟨_,rfl,?_⟩)))))
    simp only [if_true]
    refine Aa (Ah (Ab (Ai (Ai l1)) ?_))
    have:[c]∉X.D:=by
     intro hm
     simp [By,Ed,hm] at hg
    exact Aa (Fi (h1 _ rfl (Ai (Ai (Ai l1))) (Ai (Ai (Ai l2))) (Ai (Ai (Ai rfl))) Ax (by rw [hsuf,BD,hN];simp [this])))
   |some q=>
    have hm:[c]∈X.D∧q=[c]:=by
     simp only [By,Ed,if_true,List.nil_append] at hg
     split at hg
     ·(have zc:=Option.some.inj hg;clear hg;subst zc);rename_i hm;exact ⟨hm,rfl⟩
     ·exact Aj hg
    refine Aa (Bq (Bi (Ab Ax (Bu (Fy ⟨_,rfl⟩ ⟨_,rfl,?_⟩)))))
    refine An (An (An (h2 _ rfl (Ai (Ai l1)) (Ai (Ai l2)) (Ai (Ai rfl)) ?_)))
    rw [hsuf,BD,hN,Option.getD_none,if_pos hm.1,hm.2];exact Ax
theorem G8.keep {o:BI} {ia:Addr} {i:Nat} {rest:List AV} {hp':HP} (h:G8 o ia i rest hp) (e:hp' ia=hp ia) (k:∀l zs,hp l=some (.list zs)→hp' l=some (.list zs)):G8 o ia i rest hp':=by
 cases h with
 |rd a=>exact .rd (a.off e)
theorem Ge:∀{l:List (Str×AV)} {x:Str} {v:AV},l.lookup x=some v→(x,v)∈l
 |[],_,_,h=>by exact Aj h
 |(y,u)::l,x,v,h=>by
  simp only [List.lookup] at h
  split at h
  ·rename_i q;(have zc:=Option.some.inj h;clear h;subst zc);rw [beq_iff_eq.mp q];exact List.mem_cons_self ..
  ·exact List.mem_cons_of_mem _ (Ge h)
theorem Kk {key:Ag→Option AV} {u:Ag} {k:Nat} {rest:Ag} {x:AV} (h:(outs key u)[k]? = some x):remn key u k rest=Dh u.length x::remn key u (k+1) rest:=by
 refine xa1_1 (List.getElem?_eq_some_iff.mp h) ?_;intro hlt;rintro rfl
 simp only [remn]
 rw [List.drop_eq_getElem_cons hlt];rfl
theorem GM:∃p1 p2 tn tp b,Il=(Expr.Tuple [.Name "keyword" p1,.Name "keyword_length" p2] tn tp,b):=⟨_,_,_,_,_,rfl⟩
theorem GI:∃p1 p2 tn tp b,FX=(Expr.Tuple [.Name "idx" p1,.Name "symbol" p2] tn tp,b):=⟨_,_,_,_,_,rfl⟩
structure Pl (X:Af) (t d:Addr) (ci:Bool) (env:Env) (hp₀:HP) (o:BI) (ga ea ia ba jx:Addr) (g:Nat) (u rest:Ag) (σ:Al):Prop where
 rep:AK X t d true ci σ.hp
 gen:σ.hp ga=some (.gen g .running)
 bnd:σ.hp ba=some (BA (X.T []))
 enm:∃old,σ.hp ea=some (Bc ia u.length old)
 src:G8 o ia u.length (rest.map Aw.av) σ.hp
 l1:σ.v "zero_state" = some (.ref (X.A []))
 l2:σ.v "zero_transitions_get" = some (.ref ba)
 l3:σ.v "current_state" = some (.ref (X.A (Cj X.D u)))
 fr:∀a,hp₀ a≠none→a≠ga→a≠ea→a≠ia→a≠env.locals→a≠jx→σ.hp a=hp₀ a
theorem GN (T:Tp C) {r:FdRest} {L:Addr} {X:Af} {t d:Addr} {ci:Bool} {o:BI} {U:Ag} {hp₀:HP} {F₀:FH} {ga ea ia ba ja jx:Addr} {g:Nat} {u rest:Ag} {k:Nat} {x:AV} {f1 f2:Frame} (hA:A.handled=none)
  (hf1:OZ (A3 r L) ea f1) (hf2:Om (A3 r L) f2) (e₀:AE F₀ F) (hR:Rp C (A.over (CV (A3 r L) ja) [f1,f2]) F G (A3 r L) σ s)
  (hU:u++rest=U) (I:Pl X t d ci (A3 r L) hp₀ o ga ea ia ba jx g u rest σ) (hi:σ.v "idx" = some (.int ((u.length:Int) - 1))) (hja:σ.hp ja=some (.itr "tuple_iterator" [.tup (outs X.key u),.val (.int k 0)])) (hx:(outs X.key u)[k]? = some x) (hj0:hp₀ ja=none∨ja=jx) (hji:ja≠ia) :
  SegX (model C.prog C.w) A (CV (A3 r L) ja) (denote table (CV (A3 r L) ja)) [f1,f2] s (Gy C X (A3 r L) G F₀ hp₀ o U ga ea ia ba jx g (remn X.key u k rest)):=by
 refine xa0_3 (JA (env:=A3 r L) (ea:=ea) (ja:=ja) A hf1 hf2) ?_;intro o1 o2 o3
 have hA':(A.over (CV (A3 r L) ja) [f1,f2]).handled=none:=o1.trans hA
 refine xa2_1 (HU (List.mem_of_getElem? hx)) ?_;intro v len;rintro rfl
 refine xa5_1 GM ?_;(try clear GM);intro p1 p2 tn tp b hsh
 have hlt:∀it v,letOwnedTupleGo Il.1 it v=letOwnedTupleGo (.Tuple [.Name "keyword" p1,.Name "keyword_length" p2] tn tp) it v:=fun zu zu=>by rw [hsh]
 have has:∀env v,assign Il.1 env v=assign (.Tuple [.Name "keyword" p1,.Name "keyword_length" p2] tn tp) env v:=fun zu zu=>by rw [hsh]
 refine CP (wpAny_mono (IA (elts:=[.Name "keyword" p1,.Name "keyword_length" p2]) (tn:=tn) (tpos:=tp) hA' hR hja hx) (fun res s₁ z=>?_) fun zu zu x=>x.elim)
 refine xa1_2 z ?_;(try clear z);intro pv;rintro rfl;intro z
 dsimp only
 rw [hlt]
 refine wpAny_mono z (fun zu s₂ z=>?_) fun zu zu x=>x.elim
 refine xa0_2 z ?_;(try clear z);intro hpv hR2
 rw [has]
 have hasg:HA C (A.over (CV (A3 r L) ja) [f1,f2]) (A3 r L) (.Tuple [.Name "keyword" p1,.Name "keyword_length" p2] tn tp) (.tup [v,.int len]) (σ.put ja (.itr "tuple_iterator" [.tup (outs X.key u),.val (.int (k+1:Nat) 0)]))
  (fun σ'=>σ'=(Al.set (Al.set (σ.put ja (.itr "tuple_iterator" [.tup (outs X.key u),.val (.int (k+1:Nat) 0)])) "keyword" v) "keyword_length" (.int len))):=EE hA' rfl
 refine wpAny_mono (hasg F G s₂ pv hR2 hpv) (fun zu s₃ z=>?_) fun zu zu x=>x.elim
 refine xa2_3 z ?_;(try clear z);intro F3 σ3 e3 hR3;rintro rfl
 have hgl:ga≠L:=CM I.gen (show σ.hp L=none from hR.fm.lo.2.2)
 have hsplit:splitAtGen [f1,f2]=none:=by
  refine xa3_2 hf2 ?_;(try clear hf2);intro kf l p;rintro rfl;intro zu
  refine xa3_2 hf1 ?_;(try clear hf1);intro kf1 l1 p1;rintro rfl;intro zu
  rfl
 have hgd:[f1,f2].any Frame.guarded=false:=by
  refine xa3_2 hf2 ?_;(try clear hf2);intro kf l p;rintro rfl;intro zu
  refine xa3_2 hf1 ?_;(try clear hf1);intro kf1 l1 p1;rintro rfl;intro zu
  rfl
 have hσ3:Pl X t d ci (A3 r L) hp₀ o ga ea ia ba jx g u rest (Al.set (Al.set (σ.put ja (.itr "tuple_iterator" [.tup (outs X.key u),.val (.int (k+1:Nat) 0)])) "keyword" v) "keyword_length" (.int len)):=by
  have hne:∀{a y},σ.hp a=some y→(∀c vs,y≠.itr c vs)→a≠ja:=fun e h=>fun zE=>by (first|rw [zE,hja] at e|rw [←zE,hja] at e);(have zc:=Option.some.inj e;clear e;subst zc);exact h _ _ rfl
  have hjF:¬Fp X t d ja:=fun hF=>I.rep.fpNo hF hja rfl
  refine xa1_1 I.enm ?_;intro old he
  refine ⟨I.rep.updOff hjF,?_,?_,⟨old,?_⟩,?_,Ai (Ai I.l1),Ai (Ai I.l2),Ai (Ai I.l3),?_⟩
  ·exact (Ad _ _ (hne I.gen (by simp))).trans I.gen
  ·exact (Ad _ _ (hne I.bnd (by simp [BA]))).trans I.bnd
  ·exact (Ad _ _ (hne he (by simp [Bc]))).trans he
  ·refine xa2_1 I.src.at ?_;intro ci' vs' hia
   exact I.src.keep (Ad _ _ hji.symm) (fun l zs hl=>(Ad _ _ (hne hl (by simp))).trans hl)
  ·intro a h1 h2 h3 h4 h5 h6
   have:a≠ja:=by
    rintro rfl
    rcases hj0 with q|q
    ·exact h1 q
    ·exact h6 q
   exact (Ad _ _ this).trans (I.fr a h1 h2 h3 h4 h5 h6)
 refine BU (Lh (Q:=fun a σ'=>a=.tup [v,.int ((u.length:Int) - len)]∧σ'=(Al.set (Al.set (σ.put ja (.itr "tuple_iterator" [.tup (outs X.key u),.val (.int (k+1:Nat) 0)])) "keyword" v) "keyword_length" (.int len))) hsplit rfl hgd ?_ hR3 ?_)
 ·refine G0 (Ay (Ab (Ai Ax) (Ay (My (My (Ab (Ai (Ai hi)) (D0 (MR (Ab Ax (MQ (At ⟨by simp,?_,rfl⟩)))))))))))
  rw [show (u.length:Int) - 1+1 - len=u.length - len by omega]
 rintro F4 a σ4 vy s4 e4 hvy hR4 ⟨rfl,rfl⟩ kf l p hk
 have W1:=hR4.susp (loc:=[("zero_state",.ref (X.A [])),("zero_transitions_get",.ref ba),("current_state",.ref (X.A (Cj X.D u))),("idx",.int ((u.length:Int) - 1))]) (fun x av hx=>by
  have:=Ge hx
  simp only [List.mem_cons,Prod.mk.injEq,List.not_mem_nil,or_false] at this
  rcases this with ⟨rfl,rfl⟩|⟨rfl,rfl⟩|⟨rfl,rfl⟩|⟨rfl,rfl⟩
  ·exact ⟨hσ3.l1,by rfl⟩
  ·exact ⟨hσ3.l2,by rfl⟩
  ·exact ⟨hσ3.l3,by rfl⟩
  ·exact ⟨Ai (Ai hi),by rfl⟩)
 have hge:(End.susp vy false l kf (CV (A3 r L) ja) p [f1,f2]).genState=.suspended kf l (CV (A3 r L) ja) p [f1,f2] false:=by
  simp only [End.genState,hgd,Bool.or_false]
 have W2:=W1.setGen (ga:=ga) (g:=g) (gs':=.suspended kf l (CV (A3 r L) ja) p [f1,f2] false) ((Ad _ _ hgl).trans hσ3.gen) rfl
 have hLn:∀{a y},(Al.set (Al.set (σ.put ja (.itr "tuple_iterator" [.tup (outs X.key u),.val (.int (k+1:Nat) 0)])) "keyword" v) "keyword_length" (.int len)).hp a=some y→a≠L:=fun e=>CM e (show _=none from hR3.fm.lo.2.2)
 refine ⟨F4,_,e₀.trans (e3.trans e4),(congrArg (fun z=>Wd C F4 G _ (s4.setGen g z)) hge).mpr W2,?_,?_⟩
 ·intro a h1 h2 h3 h4 h5 h6
  rw [Ad _ _ h2,Ad _ _ h5]
  exact hσ3.fr a h1 h2 h3 h4 h5 h6
 ·rw [Kk hx]
  refine ⟨vy,u,k+1,rest,ja,rfl,hvy,⟨⟨_,Ae _ _ _,kf,l,p,f1,f2,rfl,hf1,hf2,hk⟩,?_,?_,?_,?_,?_,hji⟩,rfl,hj0,hU,k,_,rfl,hx,rfl⟩
  ·exact (Ad _ _ hgl.symm).trans (Ae _ _ _)
  ·have h1:ba≠ga:=Ci hσ3.bnd hσ3.gen rfl
   exact (Ad _ _ h1).trans ((Ad _ _ (hLn hσ3.bnd)).trans hσ3.bnd)
  ·refine xa1_1 hσ3.enm ?_;intro old he
   have h1:ea≠ga:=Ci he hσ3.gen rfl
   exact ⟨old,(Ad _ _ h1).trans ((Ad _ _ (hLn he)).trans he)⟩
  ·refine xa2_1 hσ3.src.at ?_;intro c' vs' hia
   have h1:ia≠ga:=Ci hia hσ3.gen rfl
   refine hσ3.src.keep ((Ad _ _ h1).trans (Ad _ _ (hLn hia))) (fun l zs hl=>?_)
   have h2:l≠ga:=Ci hl hσ3.gen rfl
   exact (Ad _ _ h2).trans ((Ad _ _ (hLn hl)).trans hl)
  ·have hj:(Al.set (Al.set (σ.put ja (.itr "tuple_iterator" [.tup (outs X.key u),.val (.int (k+1:Nat) 0)])) "keyword" v) "keyword_length" (.int len)).hp ja=some (.itr "tuple_iterator" [.tup (outs X.key u),.val (.int (k+1:Nat) 0)]):=Ae _ _ _
   have h1:ja≠ga:=Ci hj hσ3.gen rfl
   exact (Ad _ _ h1).trans ((Ad _ _ (hLn hj)).trans hj)
end
section
variable {C:Cf} {A:Around} {s:Shared} {σ:Al} {F G:FH}
theorem GO (T:Tp C) {r:FdRest} {L:Addr} {X:Af} {t d:Addr} {ci:Bool} {o:BI} {U:Ag} {hp₀:HP} {F₀:FH} {ga ea ia ba jx:Addr} {g:Nat} {f2:Frame} (hA:A.handled=none) (hFs:Fs A G) (hX:X.Ph3) (hz:∀p∈X.D,p.length≤1000)
  (hf2:Om (A3 r L) f2):∀(rest u:Ag) (F:FH) (σ:Al) (s:Shared),AE F₀ F→Rp C (A.over (DH (A3 r L) ea) [f2]) F G (A3 r L) σ s →
  u++rest=U→Pl X t d ci (A3 r L) hp₀ o ga ea ia ba jx g u rest σ →
  SegX (model C.prog C.w) A (DH (A3 r L) ea) (denote table (DH (A3 r L) ea)) [f2] s (Gy C X (A3 r L) G F₀ hp₀ o U ga ea ia ba jx g (BN X.key u rest)):=by
 refine xa0_3 (Ls (env:=A3 r L) (ea:=ea) A hf2) ?_;intro o1 o2 o3
 have hA':(A.over (DH (A3 r L) ea) [f2]).handled=none:=o1.trans hA
 have hfsO:G9 (A.over (DH (A3 r L) ea) [f2]) G (A3 r L):=G9.mk o3 hFs (by rfl) (by rfl)
 refine xa5_1 GI ?_;(try clear GI);intro p1 p2 tn tp b hsh
 have hlt:∀it v,letOwnedTupleGo FX.1 it v=letOwnedTupleGo (.Tuple [.Name "idx" p1,.Name "symbol" p2] tn tp) it v:=fun zu zu=>by rw [hsh]
 have has:∀env v,assign FX.1 env v=assign (.Tuple [.Name "idx" p1,.Name "symbol" p2] tn tp) env v:=fun zu zu=>by rw [hsh]
 intro rest
 induction rest with
 |nil=>
  intro u F σ s e₀ hR hU I
  refine xa1_1 I.enm ?_;intro old he
  refine CP (wpAny_mono (LO hA' hR he I.src) (fun res s₁ z=>?_) fun zu zu x=>x.elim)
  refine cps fun zP zk=>?_;(rcases z with ⟨rfl,hpE,hk1,hend,hR1⟩)<;>(refine zk ?_;clear zk zP)
  refine xa2_1 I.src.at ?_;intro ci' vi' hia
  have hgi:ga≠ia:=Ci I.gen hia rfl
  refine xa3_2 hf2 ?_;(try clear hf2);intro kf l p;rintro rfl;intro hk
  refine s_pop C.prog C.w A _ [] _ s₁ (.ok .next) _ rfl kf none false l _ p [] ?_
  rw [hk]
  refine s_end C.prog C.w A _ _ s₁ (.ok (.ret .none)) _ rfl ?_
  refine ⟨F,_,e₀,hR1.wd.setGen (ga:=ga) (g:=g) (gs':=.finished) ((hk1 _ hgi).trans I.gen) rfl,?_,rfl,⟨?_,g,Ae _ _ _⟩⟩
  ·intro a h1 h2 h3 h4 h5 h6
   rw [Ad _ _ h2]
   exact (hk1 _ h4).trans (I.fr a h1 h2 h3 h4 h5 h6)
  ·cases o with
   |own=>trivial
   |live l=>trivial
   |rd r=>
    have hri:r≠ga:=by
     refine xa2_1 hend.at ?_;intro c vs e
     exact Ci e ((hk1 _ hgi).trans I.gen) rfl
    exact B0.off hend (Ad _ _ hri)
 |cons c rest ih=>
  intro u F σ s e₀ hR hU I
  refine xa1_1 I.enm ?_;intro old he
  refine xa2_1 I.src.at ?_;intro ci' vi' hia
  have hgi:ga≠ia:=Ci I.gen hia rfl
  have hge:ga≠ea:=Ci I.gen he rfl
  have hbe:ba≠ea:=fun e=>by have h:=I.bnd;rw [e,he] at h;simp [Bc,BA] at h
  have hbi:ba≠ia:=Ci I.bnd hia rfl
  have hul:(u++[c]).length=u.length+1:=by simp
  refine CP (wpAny_mono (K6 (elts:=[.Name "idx" p1,.Name "symbol" p2]) (tn:=tn) (tpos:=tp) hA' hR he (x:=c.av) (rest:=rest.map Aw.av) I.src) (fun res s₁ z=>?_) fun zu zu x=>x.elim)
  refine xa1_2 z ?_;(try clear z);intro pv;rintro rfl;intro z
  dsimp only
  rw [hlt]
  refine wpAny_mono z (fun zu s₂ z=>?_) fun zu zu x=>x.elim
  refine xa2_5 z ?_;(try clear z);intro F2 y e2 hpv;intro zq;refine xa2_1 zq ?_;(try clear zq);intro yc yv;rintro rfl;intro hsrc hR2
  rw [has]
  generalize hhp:upd (upd σ.hp ia (.itr yc yv)) ea (Bc ia (u.length+1) c.av)=hp2 at hR2 hsrc
  have hasg:HA C (A.over (DH (A3 r L) ea) [f2]) (A3 r L) (.Tuple [.Name "idx" p1,.Name "symbol" p2] tn tp) (.tup [.int u.length,c.av]) { σ with hp:=hp2 }
   (fun σ'=>σ'=(Al.set (Al.set { σ with hp:=hp2 } "idx" (.int u.length)) "symbol" c.av)):=EE hA' rfl
  refine wpAny_mono (hasg F2 G s₂ pv hR2 hpv) (fun zu s₃ z=>?_) fun zu zu x=>x.elim
  refine xa2_3 z ?_;(try clear z);intro F3 σ3 e3 hR3;rintro rfl
  have nF:∀{a},Fp X t d a→a≠ia∧a≠ea:=fun {a} hF=>⟨fun e=>I.rep.fpNo hF (e▸hia) rfl,fun e=>I.rep.fpNo hF (e▸he) rfl⟩
  have hr2:AK X t d true ci hp2:=hhp▸I.rep.off (fun a hF=>(Ad _ _ (nF hF).2).trans (Ad _ _ (nF hF).1))
  have hg2:hp2 ga=some (.gen g .running):=hhp▸(Ad _ _ hge).trans ((Ad _ _ hgi).trans I.gen)
  have hb2:hp2 ba=some (BA (X.T [])):=hhp▸(Ad _ _ hbe).trans ((Ad _ _ hbi).trans I.bnd)
  have he2:hp2 ea=some (Bc ia (u++[c]).length c.av):=by rw [hul];exact hhp▸Ae _ _ _
  have hs2:G8 o ia (u++[c]).length (rest.map Aw.av) hp2:=by rw [hul];exact hsrc
  have hfr2:∀a,hp₀ a≠none→a≠ga→a≠ea→a≠ia→a≠L→a≠jx→hp2 a=hp₀ a:=fun a h1 h2 h3 h4 h5 h6=>hhp▸(Ad _ _ h3).trans ((Ad _ _ h4).trans (I.fr a h1 h2 h3 h4 h5 h6))
  have hou:outs X.key (u++[c])=outs X.key (Cj X.D (u++[c])):=FW hX.wf.mkD _
  have again:∀(σ':Al) (F':FH) (s':Shared),AE F₀ F'→Rp C (A.over (DH (A3 r L) ea) [f2]) F' G (A3 r L) σ' s'→σ'.hp=hp2→σ'.v "zero_state" = some (.ref (X.A []))→σ'.v "zero_transitions_get" = some (.ref ba) →
    σ'.v "current_state" = some (.ref (X.A (Cj X.D (u++[c]))))→outs X.key (u++[c])=[] →
    SegX (model C.prog C.w) A (DH (A3 r L) ea) (.pure (.again (DH (A3 r L) ea))) [f2] s' (Gy C X (A3 r L) G F₀ hp₀ o U ga ea ia ba jx g (BN X.key u (c::rest))):=by
   intro σ' F' s' e' hR' eh k1 k2 k3 ho
   refine s_again C.prog C.w A _ [f2] _ s' _ rfl ?_
   have:BN X.key u (c::rest)=BN X.key (u++[c]) rest:=by simp only [LI,LH,ho,List.map_nil,List.nil_append]
   rw [this]
   exact ih (u++[c]) F' σ' s' e' hR' (by rw [List.append_assoc];exact hU) ⟨eh▸hr2,eh▸hg2,eh▸hb2,⟨_,eh▸he2⟩,eh▸hs2,k1,k2,k3,eh▸hfr2⟩
  refine BU (Ek (KM (σ:=(Al.set (Al.set { σ with hp:=hp2 } "idx" (.int u.length)) "symbol" c.av)) (Q:=fun f σ'=>(f=.cont∧σ'.hp=hp2∧σ'.v "zero_state" = some (.ref (X.A []))∧σ'.v "zero_transitions_get" = some (.ref ba)∧σ'.v "current_state" = some (.ref (X.A []))∧Cj X.D (u++[c])=[]) ∨
    (f=.next∧σ'.hp=hp2∧σ'.v "zero_state" = some (.ref (X.A []))∧σ'.v "zero_transitions_get" = some (.ref ba)∧σ'.v "idx" = some (.int u.length)∧σ'.v "next_state" = some (.ref (X.A (Cj X.D (u++[c]))))))
   T (ba:=ba) (u:=u) (c:=c) hX hr2 hb2 (Ai (Ai I.l1)) (Ai (Ai I.l2)) (Ai (Ai I.l3)) Ax rfl (fun σ' a1 a2 a3 zu a4 a5=>.inl ⟨rfl,a1,a2,a3,a4,a5⟩) (fun σ' a1 a2 a3 a4 a5=>.inr ⟨rfl,a1,a2,a3,a4.trans (Ai Ax),a5⟩)) hR3 ?_)
  rintro F4 f σ4 v4 s4 e4 hfl hR4 q
  have ex4:=e₀.trans (e2.trans (e3.trans e4))
  rcases q with ⟨rfl,a1,a2,a3,a4,a5⟩|⟨rfl,a1,a2,a3,a4,a5⟩
  ·cases hfl
   exact again σ4 F4 s4 ex4 hR4 a1 a2 a3 (by rw [a5];exact a4) (by rw [hou,a5];rfl)
  ·cases hfl
   have hsD:=C2 hX.wf.pc (u++[c])
   have hout:X.out (Cj X.D (u++[c]))=some (.tup (outs X.key (u++[c]))):=by rw [hX.out _ hsD,←hou]
   have hol:(outs X.key (u++[c])).length≤100000:=by
    rw [hou]
    have h1:=Er X.key (Cj X.D (u++[c]))
    have h2:=hz _ hsD
    exact A8 [_,_] [(1,Z0,Z1),(1,Z1,(Zn 1000))] Z0 (Zn 100000) rfl h1 h2
   have hr4:AK X t d true ci σ4.hp:=a1▸hr2
   refine BU (Ek (Ah (Q:=fun f σ'=>f=.next∧σ'=σ4.set "current_state" (.ref (X.A (Cj X.D (u++[c]))))) (Ab a5 ⟨rfl,rfl⟩)) hR4 ?_)
   (rintro F5 f σ5 v5 s5 e5 hfl hR5;intro zr;refine xa0_2 zr ?_;(try clear zr);rintro rfl;rintro rfl)
   cases hfl
   refine BU (Ek (Ah (Q:=fun f σ'=>f=.next∧σ'=Al.set (σ4.set "current_state" (.ref (X.A (Cj X.D (u++[c]))))) "outputs" (.tup (outs X.key (u++[c])))) (As (Ab Ax (NI (σ:=σ4.set "current_state" (.ref (X.A (Cj X.D (u++[c]))))) T hr4 hsD hout ⟨rfl,rfl⟩ (by simp))))) hR5 ?_)
   (rintro F6 f σ6 v6 s6 e6 hfl hR6;intro zr;refine xa0_2 zr ?_;(try clear zr);rintro rfl;rintro rfl)
   cases hfl
   have ex6:=ex4.trans (e5.trans e6)
   refine BU (O1 (Q:=fun b σ'=>b=(!(outs X.key (u++[c])).isEmpty)∧σ'=Al.set (σ4.set "current_state" (.ref (X.A (Cj X.D (u++[c]))))) "outputs" (.tup (outs X.key (u++[c])))) (B4 (Ab Ax (IB hol ⟨rfl,rfl⟩))) hR6 ?_)
   (rintro F7 bb σ7 s7 e7 hR7;intro zr;refine xa0_2 zr ?_;(try clear zr);rintro rfl;rintro rfl)
   have ex7:=ex6.trans e7
   cases hO:outs X.key (u++[c]) with
   |nil=>
    rw [hO] at hR7
    exact again _ F7 s7 ex7 hR7 a1 (Ai (Ai a2)) (Ai (Ai a3)) (Ai Ax) hO
   |cons x os=>
    have hx0:(outs X.key (u++[c]))[0]? = some x:=by rw [hO];rfl
    show SegX _ A _ ((execs _ _).wrap _ _ _ _) _ _ _
    refine BU (Lj (Q:=fun a σ'=>a=.tup (outs X.key (u++[c]))∧σ'=Al.set (σ4.set "current_state" (.ref (X.A (Cj X.D (u++[c]))))) "outputs" (.tup (outs X.key (u++[c])))) (Ab Ax ⟨rfl,rfl⟩) hR7
     (fun F' a σ' it s'=>∃ja,it=.ref ja∧hp2 ja=none∧Rp C (A.over (DH (A3 r L) ea) [f2]) F' G (A3 r L) (Al.put (Al.set (σ4.set "current_state" (.ref (X.A (Cj X.D (u++[c]))))) "outputs" (.tup (outs X.key (u++[c])))) ja (.itr "tuple_iterator" [.tup (outs X.key (u++[c])),.val (.int 0 0)])) s') ?_ ?_)
    ·(rintro F8 a σ8 v8 s8 e8 hv8 hR8;intro zr;refine xa0_2 zr ?_;(try clear zr);rintro rfl;rintro rfl)
     refine wpAny_mono (Kd hR8 hv8) (fun it s9 z=>?_) fun zu zu x=>x.elim
     refine xa1_3 z ?_;(try clear z);intro ja h1 h2 h3
     exact ⟨ja,h1,by rw [←a1];exact h2,h3⟩
    ·rintro F8 a σ8 it s8 e8 ⟨ja,rfl,hj2,hR8⟩ kf l p hk
     have hj8:(Al.put (Al.set (σ4.set "current_state" (.ref (X.A (Cj X.D (u++[c]))))) "outputs" (.tup (outs X.key (u++[c])))) ja (.itr "tuple_iterator" [.tup (outs X.key (u++[c])),.val (.int 0 0)])).hp ja=some (.itr "tuple_iterator" [.tup (outs X.key (u++[c])),.val (.int 0 0)]):=Ae _ _ _
     have hjL:ja≠L:=CM hj8 (show _=none from hR8.fm.lo.2.2)
     have hjg:ja≠ga:=(CM hg2 hj2).symm
     have hje:ja≠ea:=(CM he2 hj2).symm
     refine xa2_1 hs2.at ?_;intro c9 v9 hi2
     have hji:ja≠ia:=(CM hi2 hj2).symm
     have hjb:ja≠ba:=(CM hb2 hj2).symm
     have hjF:¬Fp X t d ja:=fun hF=>hr2.some hF hj2
     have hj0:hp₀ ja=none∨ja=jx:=by
      by_cases hjx:ja=jx
      ·exact .inr hjx
      cases e:hp₀ ja with
      |none=>exact .inl rfl
      |some o=>rw [hfr2 ja (by rw [e];simp) hjg hje hji hjL hjx,e] at hj2;exact Ap hj2
     have hF1:OZ (A3 r L) ea (.ret kf none false l (DH (A3 r L) ea) p []):=⟨kf,l,p,rfl,(hk .next).trans rfl⟩
     refine xa0_3 (JA (env:=A3 r L) (ea:=ea) (ja:=ja) A hF1 hf2) ?_;intro q1 q2 q3
     have hrem:BN X.key u (c::rest)=remn X.key (u++[c]) 0 rest:=by simp only [LI,LH,remn,List.drop_zero]
     rw [hrem]
     refine GN T (t:=t) (d:=d) (ci:=ci) (k:=0) (x:=x) hA hF1 hf2 (ex7.trans e8) (hR8.around (G9.mk q3 hFs (by rfl) (by rfl))) (by rw [List.append_assoc];exact hU) ⟨?_,?_,?_,⟨c.av,?_⟩,?_,Ai (Ai a2),Ai (Ai a3),Ai Ax,?_⟩ ?_ hj8 hx0 hj0 hji
     ·exact AK.updOff hr4 hjF
     ·exact (Ad _ _ hjg.symm).trans (a1▸hg2)
     ·exact (Ad _ _ hjb.symm).trans (a1▸hb2)
     ·exact (Ad _ _ hje.symm).trans (a1▸he2)
     ·refine hs2.keep ((Ad _ _ hji.symm).trans (by rw [a1])) (fun l zs hl=>(Ad _ _ (CM hl hj2)).trans (by rw [a1];exact hl))
     ·intro a h1 h2 h3 h4 h5 h6
      exact (Ad _ _ (by
       rintro rfl
       rcases hj0 with q|q
       ·exact h1 q
       ·exact h6 q)).trans (a1▸hfr2 a h1 h2 h3 h4 h5 h6)
     ·have:((u++[c]).length:Int) - 1=u.length:=by simp
      rw [this];exact Ai (Ai a4)
end
section
variable {C:Cf} {A:Around} {s:Shared} {σ:Al} {F G:FH}
theorem Kv (T:Tp C) {r:FdRest} {L:Addr} {X:Af} {t d:Addr} {ci:Bool} {o:BI} {U:Ag} {hp₀:HP} {F₀:FH} {ga ea ia ba ja:Addr} {g:Nat} {u rest:Ag} {k:Nat} {f1 f2:Frame} (hA:A.handled=none) (hFs:Fs A G) (hX:X.Ph3) (hz:∀p∈X.D,p.length≤1000)
  (hf1:OZ (A3 r L) ea f1) (hf2:Om (A3 r L) f2) (e₀:AE F₀ F) (hR:Rp C (A.over (CV (A3 r L) ja) [f1,f2]) F G (A3 r L) σ s)
  (hU:u++rest=U) (I:Pl X t d ci (A3 r L) hp₀ o ga ea ia ba ja g u rest σ) (hi:σ.v "idx" = some (.int ((u.length:Int) - 1))) (hja:σ.hp ja=some (.itr "tuple_iterator" [.tup (outs X.key u),.val (.int k 0)])) (hji:ja≠ia) :
  SegX (model C.prog C.w) A (CV (A3 r L) ja) (denote table (CV (A3 r L) ja)) [f1,f2] s (Gy C X (A3 r L) G F₀ hp₀ o U ga ea ia ba ja g (remn X.key u k rest)):=by
 cases hx:(outs X.key u)[k]? with
 |some x=>exact GN T hA hf1 hf2 e₀ hR hU I hi hja hx (.inr rfl) hji
 |none=>
  have hrem:remn X.key u k rest=BN X.key u rest:=by
   have:(outs X.key u).drop k=[]:=List.drop_eq_nil_iff.mpr (List.getElem?_eq_none_iff.mp hx)
   simp only [remn,this,List.map_nil,List.nil_append]
  rw [hrem]
  refine xa0_3 (JA (env:=A3 r L) (ea:=ea) (ja:=ja) A hf1 hf2) ?_;intro o1 o2 o3
  refine xa0_3 (Ls (env:=A3 r L) (ea:=ea) A hf2) ?_;intro q1 q2 q3
  refine CP (wpAny_mono (Ke (o1.trans hA) hR hja hx) (fun res s₁ z=>?_) fun zu zu x=>x.elim)
  refine xa0_2 z ?_;(try clear z);rintro rfl;intro hR1
  refine xa3_2 hf1 ?_;(try clear hf1);intro kf l p;rintro rfl;intro hk
  refine s_pop C.prog C.w A _ [f2] _ s₁ (.ok .next) _ rfl kf none false l _ p [] ?_
  rw [hk]
  refine s_again C.prog C.w A _ [f2] _ s₁ _ rfl ?_
  have hne:∀{a y},σ.hp a=some y→(∀c vs,y≠.itr c vs)→a≠ja:=fun e h=>fun zE=>by (first|rw [zE,hja] at e|rw [←zE,hja] at e);(have zc:=Option.some.inj e;clear e;subst zc);exact h _ _ rfl
  have hjF:¬Fp X t d ja:=fun hF=>I.rep.fpNo hF hja rfl
  have off:∀a,a≠ja→(if a∈[ja] then none else σ.hp a)=σ.hp a:=fun a h=>if_neg (by simpa using h)
  refine xa1_1 I.enm ?_;intro old he
  refine GO T (t:=t) (d:=d) (ci:=ci) hA hFs hX hz hf2 rest u F _ s₁ e₀ (hR1.around (G9.mk q3 hFs (by rfl) (by rfl))) hU ⟨?_,?_,?_,⟨old,?_⟩,?_,I.l1,I.l2,I.l3,?_⟩
  ·exact I.rep.off (fun a hF=>off a (fun zE=>hjF (zE▸hF)))
  ·exact (off _ (hne I.gen (by simp))).trans I.gen
  ·exact (off _ (hne I.bnd (by simp [BA]))).trans I.bnd
  ·exact (off _ (hne he (by simp [Bc]))).trans he
  ·exact I.src.keep (off _ hji.symm) (fun l zs hl=>(off _ (hne hl (by simp))).trans hl)
  ·intro a h1 h2 h3 h4 h5 h6
   exact (off _ h6).trans (I.fr a h1 h2 h3 h4 h5 h6)
theorem J8 {α:Type} {Q:α→Shared→Prop} {E:Value→Shared→Prop} {g:Nat} {gs:GenState} {rr:Resume} {l:List Value} {kk:GenResult→Sem α} {c₀:Code} {t₀:Sem Fin} {fs₀:List Frame} (hg:s.gens[g]? = some gs)
  (hgs:(gs=.fresh c₀∧rr=.send .none∧t₀=denote table c₀∧fs₀=[])∨(∃k₀ l₀ p₀ cl,gs=.suspended k₀ l₀ c₀ p₀ fs₀ cl∧t₀=k₀ rr))
  (x:SegX (model C.prog C.w) A c₀ t₀ fs₀ (s.setGen g .running) (fun e s₁=>wpAny (model C.prog C.w) A (kk e.result) Q E (s₁.setGen g e.genState))):wpAny (model C.prog C.w) A (.resume g rr l kk) Q E s:=
 fun Γ p hΓ=>wake_any α C.prog C.w hg hgs (fun Γ=>Γ.In A) (fun zu h=>h) (x.mono fun zu zu h Γ p hC=>h Γ p hC) Γ p hΓ
theorem MD {ga:Addr} {g:Nat} {gs:GenState} {E:Value→Shared→Prop} {Q:Option Value→Shared→Prop} (hh:A.handled=none) (hl:s.heap.NoLimit) (hroom:A.depth<recursionLimit) (hg:s.heap.IsGen ga g) (hgs:s.gens[g]? = some gs) {c₀:Code} {t₀:Sem Fin} {fs₀:List Frame}
  (hst:(gs=.fresh c₀∧t₀=denote table c₀∧fs₀=[])∨(∃k₀ l₀ p₀ cl,gs=.suspended k₀ l₀ c₀ p₀ fs₀ cl∧t₀=k₀ (.send .none)))
  (x:SegX (model C.prog C.w) A.in1 c₀ t₀ fs₀ (s.setGen g .running) (fun (e:End) (s₁:Shared)=>match e with
   |.ret r=>r=.ok (.ret .none)∧∀h':Heap,(∀b o,s₁.heap.get? b=some o→h'.get? b=some o)→Q none { s₁.setGen g .finished with heap:=h' }
   |.susp v _ _ _ _ _ _=>Q (some v) (s₁.setGen g e.genState))):wpAny (model C.prog C.w) A (pyNext (.ref ga)) Q E s:=by
 unfold pyNext
 refine wpAny_bind (wpAny_attempt (wpAny_callSpecial?_slot (name:=Str.ofString "__next__") hg.typeIs slot_gen_next
  (wpAny_call_entry slot_gen_next hg.typeIs entry_gen_next ?_ (args_gen_next _))))
 show wpAny _ _ (Builtin.Generator.genWake (.ref ga) (.send .none)) _ _ s
 unfold Builtin.Generator.genWake
 refine wpAny_bind (wpAny_holding (wpAny_genNumber hg (wpAny_bind (wpAny_genState hgs ?_))))
 have hst':(gs=.fresh c₀∧Resume.send Value.none=.send .none∧t₀=denote table c₀∧fs₀=[])∨(∃k₀ l₀ p₀ cl,gs=.suspended k₀ l₀ c₀ p₀ fs₀ cl∧t₀=k₀ (.send .none)):=hst.imp_left (fun ⟨a,b,c⟩=>⟨a,rfl,b,c⟩)
 have fin:∀(kk:GenResult→Sem Fin) (Q':Fin→Shared→Prop) (E':Value→Shared→Prop),(∀v s',Q (some v) s'→wpAny (model C.prog C.w) A.in1 (kk (.yielded v)) Q' E' s') →
   (∀(s₁:Shared),(∀h':Heap,(∀b o,s₁.heap.get? b=some o→h'.get? b=some o)→Q none { s₁.setGen g .finished with heap:=h' })→wpAny (model C.prog C.w) A.in1 (kk (.returned .none)) Q' E' (s₁.setGen g .finished))→wpAny (model C.prog C.w) A.in1 (.resume g (.send .none) [] kk) Q' E' s:=by
  intro kk Q' E' h1 h2
  refine J8 hgs hst' (x.mono fun e s₁ h=>?_)
  cases e with
  |ret r=>refine xa0_2 h ?_;(try clear h);rintro rfl;intro h;exact h2 s₁ h
  |susp v a b c d e f=>exact h1 v _ h
 rcases hst with ⟨rfl,zu,zu⟩|⟨k₀,l₀,p₀,cl,rfl,zu⟩
 all_goals
  refine wpAny_bind (wpAny_roomToWake hl hroom ?_)
  show wpAny _ _ (.resume g (.send .none) [] _) _ _ s
  refine fin _ _ _ (fun v s' h=>wpAny_pure ⟨v,rfl,wpAny_pure h⟩) (fun s₁ hp=>?_)
  show wpAny _ _ (newExc (.type "StopIteration") [] >>= _) _ _ _
  exact wpAny_bind (CC fun h' e k _ ⟨oe,vs,q,c,_⟩=>wpAny_bind (wpAny_raiseNew_none (show A.in1.handled=none from hh) (wpAny_bind (wpAny_isInstance (T:="StopIteration") (b:=true) ⟨oe,q,c⟩ isSubtype_stop (wpAny_pure (hp _ k))))))
end
section
variable {C:Cf} {A:Around} {s:Shared} {F G:FH} {hp:HP}
inductive JY (C:Cf) (F G:FH) (hp:HP) (X:Af) (genv:Env) (o:BI) (U:Ag) (ga:Addr) (g:Nat) (Pd:Addr→Addr→Addr→Addr→Prop) (rem:List AV) (r:Option Value) (s₁:Shared):Prop
 |mk (F':FH) (hp':HP) (ea ia ba jx:Addr)
  (h1:Pd ea ia ba jx)
  (h2:AE F F')
  (h3:Wd C F' G hp' s₁)
  (h4:(∀a,hp a≠none→a≠ga→a≠ea→a≠ia→a≠genv.locals→a≠jx→hp' a=hp a))
  (h5:match rem with
  |[]=>r=none∧I4 o ga hp'
  |y::ys=>OY C X genv F' hp' hp o U ga ea ia ba jx g y ys (fun v=>r=some v))
theorem JD {ga:Addr} {g:Nat} {gs:GenState} {X:Af} {genv:Env} {o:BI} {U:Ag} {Pd:Addr→Addr→Addr→Addr→Prop} {rem:List AV} (hh:A.handled=none) (hl:C.h0.NoLimit) (hroom:A.depth<recursionLimit) (W:Wd C F G hp s) (hga:hp ga=some (.gen g gs)) {c₀:Code} {t₀:Sem Fin} {fs₀:List Frame}
  (hst:(gs=.fresh c₀∧t₀=denote table c₀∧fs₀=[])∨(∃k₀ l₀ p₀ cl,gs=.suspended k₀ l₀ c₀ p₀ fs₀ cl∧t₀=k₀ (.send .none)))
  (x:SegX (model C.prog C.w) A.in1 c₀ t₀ fs₀ (s.setGen g .running) (fun e s'=>∃ea ia ba jx,Pd ea ia ba jx∧Gy C X genv G F hp o U ga ea ia ba jx g rem e s')) :
  wpAny (model C.prog C.w) A (pyNext (.ref ga)) (JY C F G hp X genv o U ga g Pd rem) Bd s:=by
 refine xa0_2 (W.gen hga) ?_;intro hgg hig
 refine MD hh (hl.keeps W.old) hroom hig hgg hst (x.mono fun e s₁ h=>?_)
 refine cps fun zP zk=>?_;(rcases h with ⟨ea,ia,ba,jx,hpd,F',hp',ex,W',hfr,hm⟩)<;>(refine zk ?_;clear zk zP)
 cases rem with
 |nil=>
  dsimp only at hm
  refine xa0_2 hm ?_;(try clear hm);rintro rfl;intro hm
  refine ⟨rfl,fun h' hk=>⟨F',hp',ea,ia,ba,jx,hpd,ex,?_,hfr,rfl,hm⟩⟩
  exact W'.keep hk
 |cons y ys=>
  dsimp only at hm
  refine cps fun zP zk=>?_;(rcases hm with ⟨v,u,k,rest,ja,hv,h1,h2,h3,h4,h5⟩)<;>(refine zk ?_;clear zk zP)
  cases e with
  |ret r=>
   rcases r with e|f
   ·cases hv
   ·cases f<;>cases hv
  |susp v' a b c d e f=>
   cases hv
   exact ⟨F',hp',ea,ia,ba,jx,hpd,ex,W',hfr,v,u,k,rest,ja,rfl,h1,h2,h3,h4,h5⟩
theorem LG (T:Tp C) {r:FdRest} {L:Addr} {X:Af} {t d:Addr} {ci:Bool} {o:BI} {ga ea ia ba ja:Addr} {g:Nat} {u rest:Ag} {k:Nat} (hA:A.handled=none) (hl:C.h0.NoLimit) (hroom:A.depth<recursionLimit) (W:Wd C F G hp s) (hFs:Fs A G)
  (hX:X.Ph3) (hz:∀p∈X.D,p.length≤1000) (hr:AK X t d true ci hp) (hnc:C4 (A3 r L)) (hS:Ol C X (A3 r L) hp o ga ea ia ba ja g u k rest) :
  wpAny (model C.prog C.w) A (pyNext (.ref ga)) (JY C F G hp X (A3 r L) o (u++rest) ga g (fun a b c d=>a=ea∧b=ia∧c=ba∧d=ja) (remn X.key u k rest)) Bd s:=by
 refine cps fun zP zk=>?_;(rcases hS.gen with ⟨gs,hga,kk,l,p,f1,f2,rfl,hf1,hf2,hk⟩)<;>(refine zk ?_;clear zk zP)
 refine JD hA hl hroom W hga (.inr ⟨kk,l,p,false,rfl,rfl⟩) ?_
 refine (hk A.in1 _ _ (s_again C.prog C.w A.in1 _ [f1,f2] _ _ _ rfl (SegX.mono ?_ (fun e s' h=>⟨ea,ia,ba,ja,⟨rfl,rfl,rfl,rfl⟩,h⟩))))
 have W1:=W.setGen (ga:=ga) (g:=g) (gs':=.running) hga rfl
 have hLg:L≠ga:=Ci (a:=L) hS.frm hga rfl
 refine xa0_3 (JA (env:=A3 r L) (ea:=ea) (ja:=ja) A.in1 hf1 hf2) ?_;intro o1 o2 o3
 have hR1:=W1.thaw (A:=A.in1.over (CV (A3 r L) ja) [f1,f2]) (env:=A3 r L) ((Ad _ _ hLg).trans hS.frm) (by rfl) hnc (G9.mk o3 (show Fs A.in1 G from hFs) (by rfl) (by rfl))
 have hne:∀{a y},hp a=some y→(∀l,y≠.frame l)→a≠L:=fun {a y} e h=>by
  have:=hS.frm
  rintro rfl
  rw [show (callEnv (r.fd Io .none) a 94).locals=a from rfl,e] at this;(have zc:=Option.some.inj this;clear this;subst zc);exact h _ rfl
 have hng:∀{a y},hp a=some y→Dr y=false→a≠ga:=fun {a y} e h=>fun zE=>by (first|rw [zE,hga] at e|rw [←zE,hga] at e);(have zc:=Option.some.inj e;clear e;subst zc);exact Dc h
 have at':∀{a},a≠L→a≠ga→(if a=(A3 r L).locals then none else upd hp ga (.gen g .running) a)=hp a:=fun {a} h1 h2=>by
  show (if a=L then none else upd hp ga (.gen g .running) a)=hp a
  rw [if_neg h1,Ad _ _ h2]
 refine xa1_1 hS.enm ?_;intro old he
 refine xa2_1 hS.src.at ?_;intro c' vs' hia
 have hFp:∀a,Fp X t d a→a≠L∧a≠ga:=fun a hF=>by
  rcases hF with rfl|rfl|⟨p,hpD,rfl|rfl⟩
  ·exact ⟨hne hr.tree (by simp),hng hr.tree rfl⟩
  ·exact ⟨hne hr.ns (by simp),hng hr.ns rfl⟩
  ·exact ⟨hne (hr.nd p hpD) (by simp [Af.nodeAO,Ew]),hng (hr.nd p hpD) rfl⟩
  ·refine xa1_1 (hr.td p hpD) ?_;intro ep q
   exact ⟨hne q (by simp),hng q rfl⟩
 refine Kv T (t:=t) (d:=d) (ci:=ci) hA (show Fs A.in1 G from hFs) hX hz hf1 hf2 (AE.refl F) hR1 rfl ⟨?_,?_,?_,⟨old,?_⟩,?_,rfl,rfl,rfl,?_⟩ rfl ?_ hS.nji
 ·exact hr.off (fun a hF=>at' (hFp a hF).1 (hFp a hF).2)
 ·show (if ga=L then none else upd hp ga (.gen g .running) ga)=_
  rw [if_neg hLg.symm,Ae]
 ·exact (at' (hne hS.bnd (by simp [BA])) (hng hS.bnd rfl)).trans hS.bnd
 ·exact (at' (hne he (by simp [Bc])) (hng he rfl)).trans he
 ·exact hS.src.keep (at' (hne hia (by simp)) (hng hia rfl)) (fun l zs hl=>(at' (hne hl (by simp)) (hng hl rfl)).trans hl)
 ·intro a h1 h2 h3 h4 h5 h6
  exact at' h5 h2
 ·exact (at' (hne hS.itr (by simp)) (hng hS.itr rfl)).trans hS.itr
end
section
variable {C:Cf} {A:Around} {s:Shared} {σ:Al} {F G:FH} {env:Env}
theorem GP (T:Tp C) {r:FdRest} {L:Addr} {X:Af} {t d:Addr} {ci:Bool} {o:BI} {ga:Addr} {g:Nat} {w:Ag} {tv:AV} {hp:HP} (hA:A.handled=none) (W:Wd C F G hp s) (hFs:Fs A G)
  (hX:X.Ph3) (hz:∀p∈X.D,p.length≤1000) (hr:AK X t d true ci hp) (hnc:C4 (A3 r L)) (hga:hp ga=some (.gen g (.fresh (Fu (A3 r L)))))
  (hfm:hp L=some (.frame [("text",tv),("self",.ref t)])) (hsq:EB o tv (w.map Aw.av) hp) :
  SegX (model C.prog C.w) A (Fu (A3 r L)) (denote table (Fu (A3 r L))) [] (s.setGen g .running)
   (fun e s'=>∃ea ia ba jx,(hp ea=none∧(hp ia=none∨o=.rd ia)∧hp ba=none∧jx=ga)∧Gy C X (A3 r L) G F hp o w ga ea ia ba jx g (BN X.key [] w) e s'):=by
 have W1:=W.setGen (ga:=ga) (g:=g) (gs':=.running) hga rfl
 have hLg:L≠ga:=Ci hfm hga rfl
 refine xa0_3 (O3 (env:=A3 r L) A) ?_;intro o1 o2 o3
 have hR1:=W1.thaw (A:=A.over (Fu (A3 r L)) []) (env:=A3 r L) ((Ad _ _ hLg).trans hfm) (by rfl) hnc (G9.mk o3 hFs (by rfl) (by rfl))
 have hne:∀{a y},hp a=some y→(∀l,y≠.frame l)→a≠L:=fun {a y} e h=>fun zE=>by (first|rw [zE,e] at hfm|rw [←zE,e] at hfm);(have zc:=Option.some.inj hfm;clear hfm;subst zc);exact h _ rfl
 have hng:∀{a y},hp a=some y→Dr y=false→a≠ga:=fun {a y} e h=>fun zE=>by (first|rw [zE,hga] at e|rw [←zE,hga] at e);(have zc:=Option.some.inj e;clear e;subst zc);exact Dc h
 generalize hhp1:(fun b=>if b=(A3 r L).locals then none else upd hp ga (.gen g .running) b)=hp1 at hR1
 have at':∀{a},a≠L→a≠ga→hp1 a=hp a:=fun {a} h1 h2=>by
  rw [←hhp1]
  show (if a=L then none else upd hp ga (.gen g .running) a)=hp a
  rw [if_neg h1,Ad _ _ h2]
 have hg1:hp1 ga=some (.gen g .running):=by
  rw [←hhp1]
  show (if ga=L then none else upd hp ga (.gen g .running) ga)=_
  rw [if_neg hLg.symm,Ae]
 have hFp:∀a,Fp X t d a→a≠L∧a≠ga:=fun a hF=>by
  rcases hF with rfl|rfl|⟨p,hp,rfl|rfl⟩
  ·exact ⟨hne hr.tree (by simp),hng hr.tree rfl⟩
  ·exact ⟨hne hr.ns (by simp),hng hr.ns rfl⟩
  ·exact ⟨hne (hr.nd p hp) (by simp [Af.nodeAO,Ew]),hng (hr.nd p hp) rfl⟩
  ·refine xa1_1 (hr.td p hp) ?_;intro ep q
   exact ⟨hne q (by simp),hng q rfl⟩
 have hr1:AK X t d true ci hp1:=hr.off (fun a hF=>at' (hFp a hF).1 (hFp a hF).2)
 have hw:=hX.wf
 have fresh:∀b,hp1 b=none→b≠L→hp b=none:=fun b hb hL=>by
  by_cases e:b=ga
  ·subst e;rw [hg1] at hb;exact Ap hb
  ·rw [←at' hL e];exact hb
 refine M6 ?_
 refine BU (Ek (Ah (Q:=fun f σ'=>f=.next∧σ'=Al.set ⟨[("text",tv),("self",.ref t)],hp1⟩ "zero_state" (.ref (X.A []))) (As (Ab rfl (BG (σ:=⟨[("text",tv),("self",.ref t)],hp1⟩) T.n_zero hr1.tree hr1.ns rfl ⟨rfl,rfl⟩)))) hR1 ?_)
 (rintro F2 f σ2 v2 s2 e2 hfl hR2;intro zr;refine xa0_2 zr ?_;(try clear zr);rintro rfl;rintro rfl)
 cases hfl
 refine xa1_1 (hr1.td [] hw.root) ?_;intro ep htd
 refine BU (Ek (Ah (Q:=fun f σ'=>f=.next∧∃b,hp1 b=none∧σ'=Al.set (Al.put (Al.set ⟨[("text",tv),("self",.ref t)],hp1⟩ "zero_state" (.ref (X.A []))) b (BA (X.T []))) "zero_transitions_get" (.ref b))
  (As (As (Ab Ax (DM (σ:=Al.set ⟨[("text",tv),("self",.ref t)],hp1⟩ "zero_state" (.ref (X.A []))) T hr1 hw.root (Ku htd (fun b hb=>⟨rfl,b,hb,rfl⟩))))))) hR2 ?_)
 (rintro F3 f σ3 v3 s3 e3 hfl hR3;intro zr;refine cps fun zP zk=>?_;(rcases zr with ⟨rfl,ba,hb1,rfl⟩)<;>(refine zk ?_;clear zk zP))
 cases hfl
 have hbL:ba≠L:=CM (hp:=(Al.set (Al.put (Al.set ⟨[("text",tv),("self",.ref t)],hp1⟩ "zero_state" (.ref (X.A []))) ba (BA (X.T []))) "zero_transitions_get" (.ref ba)).hp) (Ae _ _ _) (show _=none from hR3.fm.lo.2.2)
 refine BU (Ek (Ah (Q:=fun f σ'=>f=.next∧σ'=Al.set (Al.set (Al.put (Al.set ⟨[("text",tv),("self",.ref t)],hp1⟩ "zero_state" (.ref (X.A []))) ba (BA (X.T []))) "zero_transitions_get" (.ref ba)) "current_state" (.ref (X.A [])))
  (Ab (Ai Ax) ⟨rfl,rfl⟩)) hR3 ?_)
 (rintro F4 f σ4 v4 s4 e4 hfl hR4;intro zr;refine xa0_2 zr ?_;(try clear zr);rintro rfl;rintro rfl)
 cases hfl
 have hsq4:EB o tv (w.map Aw.av) (upd hp1 ba (BA (X.T []))):=hsq.keep (Ff.of hsq fun a x e hx=>by
  have h1:hp1 a=some x:=(at' (hne e (by rcases hx with ⟨_,rfl⟩|⟨_,_,rfl⟩<;>simp)) (hng e (by rcases hx with ⟨_,rfl⟩|⟨_,_,rfl⟩<;>rfl))).trans e
  exact (Ad _ _ (CM h1 hb1)).trans h1)
 refine BU (Lj (Q:=fun a σ'=>∃ea ia y,a=.ref ea∧upd hp1 ba (BA (X.T [])) ea=none∧(upd hp1 ba (BA (X.T [])) ia=none∨(o=.rd ia∧upd hp1 ba (BA (X.T [])) ia=some y))∧ea≠ia∧(∃c vs,y=.itr c vs)∧G8 o ia 0 (w.map Aw.av) (upd (upd (upd hp1 ba (BA (X.T []))) ia y) ea (Bc ia 0 .none)) ∧
   σ'={ Al.set (Al.set (Al.put (Al.set ⟨[("text",tv),("self",.ref t)],hp1⟩ "zero_state" (.ref (X.A []))) ba (BA (X.T []))) "zero_transitions_get" (.ref ba)) "current_state" (.ref (X.A [])) with hp:=upd (upd (upd hp1 ba (BA (X.T []))) ia y) ea (Bc ia 0 .none) })
  (AZ (C5 T.g_enum (Ay (Ab rfl (At (A6 (LN hsq4 (fun ea ia y h1 h2 h3 h4 h5=>⟨ea,ia,y,rfl,h1,h2,h3,h4,h5,rfl⟩)))))))) hR4
  (fun F' a σ' it s'=>∃ea ia y,it=.ref ea∧upd hp1 ba (BA (X.T [])) ea=none∧(upd hp1 ba (BA (X.T [])) ia=none∨(o=.rd ia∧upd hp1 ba (BA (X.T [])) ia=some y))∧ea≠ia∧(∃c vs,y=.itr c vs)∧G8 o ia 0 (w.map Aw.av) (upd (upd (upd hp1 ba (BA (X.T []))) ia y) ea (Bc ia 0 .none)) ∧
   Rp C (A.over (Fu (A3 r L)) []) F' G (A3 r L) { Al.set (Al.set (Al.put (Al.set ⟨[("text",tv),("self",.ref t)],hp1⟩ "zero_state" (.ref (X.A []))) ba (BA (X.T []))) "zero_transitions_get" (.ref ba)) "current_state" (.ref (X.A [])) with hp:=upd (upd (upd hp1 ba (BA (X.T []))) ia y) ea (Bc ia 0 .none) } s') ?_ ?_)
 ·(rintro F5 a σ5 v5 s5 e5 hv5 hR5;intro zr;refine xa3_7 zr ?_;(try clear zr);intro ea ia y;rintro rfl;intro h1 h2 h3 h4 h5;rintro rfl)
  (have zc:=VR.refI hv5;clear hv5;subst zc)
  refine xa1_2 (hR5.isEnum (ea:=ea) (Ae _ _ _)) ?_;intro ov hE zu
  exact wpAny_pyIter_enum hE ⟨ea,ia,y,rfl,h1,h2,h3,h4,h5,hR5⟩
 ·rintro F5 a σ5 it s5 e5 ⟨ea,ia,y,rfl,h1,h2,h3,⟨yc,yv,rfl⟩,h5,hR5⟩ kf l p hk
  have hF2:Om (A3 r L) (.ret kf none false l (Fu (A3 r L)) p []):=⟨kf,l,p,rfl,(hk .next).trans rfl⟩
  refine xa0_3 (Ls (env:=A3 r L) (ea:=ea) A hF2) ?_;intro q1 q2 q3
  have hbb:upd hp1 ba (BA (X.T [])) ba=some (BA (X.T [])):=Ae _ _ _
  have heb:ea≠ba:=(CM hbb h1).symm
  have hib:ia≠ba:=by
   rcases h2 with h2|⟨zu,h2⟩
   ·exact (CM hbb h2).symm
   ·exact Ci h2 hbb rfl
  have he1:hp1 ea=none:=(Ad _ _ heb).symm.trans h1
  have hi1:hp1 ia=none∨(o=.rd ia∧hp1 ia=some (.itr yc yv)):=h2.imp (fun h=>(Ad _ _ hib).symm.trans h) fun h=>⟨h.1,(Ad _ _ hib).symm.trans h.2⟩
  have hL5:upd (upd (upd hp1 ba (BA (X.T []))) ia (.itr yc yv)) ea (Bc ia 0 .none) L=none:=hR5.fm.lo.2.2
  have heL:ea≠L:=CM (Ae _ _ _) hL5
  have hiL:ia≠L:=CM ((Ad _ _ h3.symm).trans (Ae _ _ _)) hL5
  have old:∀{a y},hp1 a=some y→upd (upd (upd hp1 ba (BA (X.T []))) ia (.itr yc yv)) ea (Bc ia 0 .none) a=some y:=fun {a y} e=>by
   refine (Ad _ _ (CM e he1)).trans ?_
   by_cases q:a=ia
   ·subst q
    rw [Ae]
    rcases hi1 with h|⟨zu,h⟩
    ·rw [h] at e;exact Aj e
    ·rw [h] at e;exact e
   ·exact (Ad _ _ q).trans ((Ad _ _ (CM e hb1)).trans e)
  have hia0:hp ia=none∨o=.rd ia:=hi1.imp (fun h=>fresh _ h hiL) fun h=>h.1
  refine SegX.mono (GO (A:=A) T (t:=t) (d:=d) (ci:=ci) (ga:=ga) (ea:=ea) (ia:=ia) (ba:=ba) (jx:=ga) (hp₀:=hp) (F₀:=F) (g:=g) hA hFs hX hz hF2 w [] F5 _ s5 (e2.trans (e3.trans (e4.trans e5))) (hR5.around (G9.mk q3 hFs (by rfl) (by rfl))) rfl ⟨?_,?_,?_,⟨.none,?_⟩,?_,?_,?_,?_,?_⟩) (fun e s' h=>⟨ea,ia,ba,ga,⟨fresh _ he1 heL,hia0,fresh _ hb1 hbL,rfl⟩,h⟩)
  ·exact hr1.off (fun a hF=>by
    cases e:hp1 a with
    |none=>exact absurd e (hr1.some hF)
    |some y=>exact old e)
  ·exact old hg1
  ·exact (Ad _ _ heb.symm).trans ((Ad _ _ hib.symm).trans hbb)
  ·exact Ae _ _ _
  ·exact h5
  ·exact Ai (Ai Ax)
  ·exact Ai Ax
  ·exact Ax
  ·intro a g1 g2 g3 g4 g5 g6
   have:=at' (a:=a) g5 g2
   cases e:hp a with
   |none=>exact absurd e g1
   |some y=>rw [e] at this;exact old this
theorem Kx (T:Tp C) {r:FdRest} {L:Addr} {X:Af} {t d:Addr} {ci:Bool} {o:BI} {ga:Addr} {g:Nat} {w:Ag} {tv:AV} {hp:HP} (hA:A.handled=none) (hl:C.h0.NoLimit) (hroom:A.depth<recursionLimit) (W:Wd C F G hp s) (hFs:Fs A G)
  (hX:X.Ph3) (hz:∀p∈X.D,p.length≤1000) (hr:AK X t d true ci hp) (hnc:C4 (A3 r L)) (hga:hp ga=some (.gen g (.fresh (Fu (A3 r L)))))
  (hfm:hp L=some (.frame [("text",tv),("self",.ref t)])) (hsq:EB o tv (w.map Aw.av) hp) :
  wpAny (model C.prog C.w) A (pyNext (.ref ga)) (JY C F G hp X (A3 r L) o w ga g (fun a b c d=>hp a=none∧(hp b=none∨o=.rd b)∧hp c=none∧d=ga) (BN X.key [] w)) Bd s:=
 JD hA hl hroom W hga (.inl ⟨rfl,rfl,rfl⟩) (GP T hA W (show Fs A.in1 G from hFs) hX hz hr hnc hga hfm hsq)
end
section
variable {C:Cf} {A:Around} {s:Shared} {σ:Al} {F G:FH} {env:Env}
structure Nb (r:FdRest) (L:Addr) (t:Addr) (tv:AV) (hp:HP) (ga:Addr) (g:Nat):Prop where
 gen:hp ga=some (.gen g (.fresh (Fu (A3 r L))))
 frm:hp L=some (.frame [("text",tv),("self",.ref t)])
 nc:C4 (A3 r L)
theorem NY (T:Tp C) {t:Addr} {tv:AV} {hp:HP} (hroom:A.depth<recursionLimit) :
  Fn C A (.ref 94) [.ref t,tv] [] hp (fun v hp'=>∃r L ga g,v=.ref ga∧Nb r L t tv hp' ga g∧hp L=none∧hp ga=none∧(∀a,hp a≠none→hp' a=hp a)):=by
 refine xa1_1 T.f_gen ?_;intro r hf
 refine On (body:=Io.body) hf (KI C r _ _) (fun L ga g h1 h2 h3 h4=>⟨r,L,ga,g,rfl,⟨Ae _ _ _,(Ad _ _ h3).trans (Ae _ _ _),h4⟩,h1,h2,fun a ha=>?_⟩) hroom (by kernel_rfl) (by kernel_rfl) (by kernel_rfl) (by kernel_rfl) (by kernel_rfl)
 exact (Ad _ _ (by rintro rfl;exact ha h2)).trans (Ad _ _ (by rintro rfl;exact ha h1))
theorem Me (T:Tp C) {X:Af} {t d:Addr} {ci:Bool} {tv tv2:AV} {hp:HP} (hroom:A.depth+1<recursionLimit) (hr:AK X t d true ci hp) (hlo:Mq ci tv tv2) :
  Fn C A (.ref 87) [.ref t,tv] [] hp (fun v hp'=>∃r L ga g,v=.ref ga∧Nb r L t tv2 hp' ga g∧hp L=none∧hp ga=none∧(∀a,hp a≠none→hp' a=hp a)):=by
 refine xa1_1 T.f_all ?_;intro r hf
 refine xa1_1 T.f_gen ?_;intro r' hf'
 refine Da (body:=Mf.body) hf (KK C r _ _) (fun L=>?_) (by with_reducible exact FY ‹_›) (by kernel_rfl) (by kernel_rfl) (by kernel_rfl) (by kernel_rfl) (by kernel_rfl)
 refine Aa (Bq (Ou (B4 (As (Ab rfl (BG T.n_fin hr.tree hr.ns rfl (Bl (An ?_))))))))
 have c1:=NY (A:=A.deeper (callEnv (r.fd Mf .none) L 87)) (t:=t) (tv:=tv2) (hp:=hp) T (by exact hroom)
 cases hlo with
 |no=>
  refine Aa (Bq (B4 (As (Ab rfl (BG T.n_ci hr.tree hr.ns rfl (Bl (An ?_)))))))
  refine Aa (BT (A2 (Ab rfl (BS T.m_gen hr.tree hr.ns rfl (Ay (Ab rfl (At (A6 (AR hf' (Fn.mono c1 ?_))))))))))
  exact fun v hp' h=>h
end
section
variable {C:Cf} {A:Around} {s:Shared} {σ:Al} {F G:FH} {env:Env}
theorem HI:isSubtype (.type "StopIteration") (.type "BaseException")=pure true:=by rw [isSubtype_type];kernel_rfl
theorem HH:isSubtype (.type "StopIteration") (.type "StopIteration")=pure true:=by rw [isSubtype_type];kernel_rfl
theorem HX:isSubtype (.type ((Manifest.find? "StopIteration").elim "type" fun y=>y.metatype)) (.type "tuple")=pure false:=by
 rw [find?_eq_fast]
 have e:(fastFind? "StopIteration").elim "type" (fun y=>y.metatype) = "type":=by kernel_rfl
 rw [e,isSubtype_type];kernel_rfl
theorem Kp {ga:Addr} {g:Nat} {gs:GenState} {E:Value→Shared→Prop} {Q:Value→Shared→Prop} (hh:A.handled=none) (hl:s.heap.NoLimit) (hroom:A.depth<recursionLimit) (hg:s.heap.IsGen ga g) (hgs:s.gens[g]? = some gs) {c₀:Code} {t₀:Sem Fin} {fs₀:List Frame}
  (hst:(gs=.fresh c₀∧t₀=denote table c₀∧fs₀=[])∨(∃k₀ l₀ p₀ cl,gs=.suspended k₀ l₀ c₀ p₀ fs₀ cl∧t₀=k₀ (.send .none)))
  (x:SegX (model C.prog C.w) A.in1.in1 c₀ t₀ fs₀ (s.setGen g .running) (fun (e:End) (s₁:Shared)=>match e with
   |.ret r=>r=.ok (.ret .none)∧∀(h':Heap) (e:Addr),(∀b o,s₁.heap.get? b=some o→h'.get? b=some o)→s₁.heap.get? e=none→(∃oe vs,h'.get? e=some oe∧oe.cls=.type "StopIteration"∧oe.data=.fields vs∧vs[1]? = some .none)→E (.ref e) { s₁.setGen g .finished with heap:=h' }
   |.susp v _ _ _ _ _ _=>Q v (s₁.setGen g e.genState))):wpAny (model C.prog C.w) A (call (.builtin "next") [.ref ga]) Q E s:=by
 refine PySem.Calls.call_function_entry (by decide +kernel) (by decide +kernel) PySem.W.kdk_entry_next (PySem.W.kdk_args_next _) ?_
 unfold Builtin.«next»
 refine wpAny_bind (m:=someArgs "next" 1 2 _) (wpAny_of_eq (a:=[Value.ref ga]) (by first|rfl|kernel_rfl!) ?_)
 dsimp only
 refine wpAny_bind (wpAny_specialOf (name:=Str.ofString "__next__") hg.typeIs slot_gen_next.lookup ?_)
 refine wpAny_ite_split (fun hab=>absurd hab (by decide)) (fun zu=>?_)
 refine wpAny_bind (wpAny_callSpecial?_slot (name:=Str.ofString "__next__") hg.typeIs slot_gen_next
  (wpAny_call_entry slot_gen_next hg.typeIs entry_gen_next ?_ (args_gen_next _)))
 show wpAny _ _ (Builtin.Generator.genWake (.ref ga) (.send .none)) _ _ s
 unfold Builtin.Generator.genWake
 refine wpAny_bind (wpAny_holding (wpAny_genNumber hg (wpAny_bind (wpAny_genState hgs ?_))))
 have hst':(gs=.fresh c₀∧Resume.send Value.none=.send .none∧t₀=denote table c₀∧fs₀=[])∨(∃k₀ l₀ p₀ cl,gs=.suspended k₀ l₀ c₀ p₀ fs₀ cl∧t₀=k₀ (.send .none)):=hst.imp_left (fun ⟨a,b,c⟩=>⟨a,rfl,b,c⟩)
 have fin:∀(kk:GenResult→Sem Fin) (Q':Fin→Shared→Prop) (E':Value→Shared→Prop),(∀v s',Q v s'→wpAny (model C.prog C.w) A.in1.in1 (kk (.yielded v)) Q' E' s') →
   (∀(s₁:Shared),(∀(h':Heap) (e:Addr),(∀b o,s₁.heap.get? b=some o→h'.get? b=some o)→s₁.heap.get? e=none→(∃oe vs,h'.get? e=some oe∧oe.cls=.type "StopIteration"∧oe.data=.fields vs∧vs[1]? = some .none)→E (.ref e) { s₁.setGen g .finished with heap:=h' })→wpAny (model C.prog C.w) A.in1.in1 (kk (.returned .none)) Q' E' (s₁.setGen g .finished))→wpAny (model C.prog C.w) A.in1.in1 (.resume g (.send .none) [] kk) Q' E' s:=by
  intro kk Q' E' h1 h2
  refine J8 hgs hst' (x.mono fun e s₁ h=>?_)
  cases e with
  |ret r=>refine xa0_2 h ?_;(try clear h);rintro rfl;intro h;exact h2 s₁ h
  |susp v a b c d e f=>exact h1 v _ h
 rcases hst with ⟨rfl,zu,zu⟩|⟨k₀,l₀,p₀,cl,rfl,zu⟩
 all_goals
  refine wpAny_bind (wpAny_roomToWake (A:=A.in1.in1) hl hroom ?_)
  show wpAny _ _ (.resume g (.send .none) [] _) _ _ s
  refine fin _ _ _ (fun v s' h=>wpAny_pure ⟨v,rfl,wpAny_pure ⟨v,rfl,h⟩⟩) (fun s₁ hp=>?_)
  show wpAny _ _ (newExc (.type "StopIteration") [] >>= _) _ _ _
  exact wpAny_bind (CC fun h' e k n x=>wpAny_bind (wpAny_raiseNew_none (show A.in1.in1.handled=none from hh) (hp _ _ k n x)))
end
section
variable {C:Cf} {A:Around} {s:Shared} {hp:HP} {F G:FH}
theorem Wd.free (W:Wd C F G hp s) {b:Addr} (h:s.heap.get? b=none):F b=none∧G b=none∧hp b=none:=by
 refine ⟨?_,?_,?_⟩
 ·cases e:F b with
  |none=>rfl
  |some o=>rw [W.fz b o e] at h;exact Ap h
 ·cases e:G b with
  |none=>rfl
  |some o=>refine xa1_2 (W.gz b o e) ?_;intro o' ho zu;rw [ho] at h;exact Ap h
 ·cases e:hp b with
  |none=>rfl
  |some x=>refine cps fun zP zk=>?_;(rcases W.ob b x e with ⟨zu,zu,o,ho,zu⟩)<;>(refine zk ?_;clear zk zP);rw [ho] at h;exact Ap h
inductive OQ (C:Cf) (F G:FH) (hp:HP) (o:BI) (genv:Env) (ga:Addr) (Pd:Addr→Addr→Addr→Addr→Prop) (e:Value) (s₁:Shared):Prop
 |mk (x:Addr) (F':FH) (hp':HP) (ea ia ba jx:Addr)
  (h1:e=.ref x)
  (h2:Pd ea ia ba jx)
  (h3:AE F F')
  (h4:Wd C F' G hp' s₁)
  (h5:(F' x=none∧G x=none∧hp' x=none))
  (h6:(∃oe vs,s₁.heap.get? x=some oe∧oe.cls=.type "StopIteration"∧oe.data=.fields vs∧vs[1]? = some .none))
  (h7:(∀a,hp a≠none→a≠ga→a≠ea→a≠ia→a≠genv.locals→a≠jx→hp' a=hp a))
  (h8:Jt o hp')
theorem HZ {ga:Addr} {g:Nat} {gs:GenState} {X:Af} {genv:Env} {o:BI} {U:Ag} {Pd:Addr→Addr→Addr→Addr→Prop} {rem:List AV} (hh:A.handled=none) (hl:C.h0.NoLimit) (hroom:A.depth<recursionLimit) (W:Wd C F G hp s) (hga:hp ga=some (.gen g gs)) {c₀:Code} {t₀:Sem Fin} {fs₀:List Frame}
  (hst:(gs=.fresh c₀∧t₀=denote table c₀∧fs₀=[])∨(∃k₀ l₀ p₀ cl,gs=.suspended k₀ l₀ c₀ p₀ fs₀ cl∧t₀=k₀ (.send .none)))
  (x:SegX (model C.prog C.w) A.in1.in1 c₀ t₀ fs₀ (s.setGen g .running) (fun e s'=>∃ea ia ba jx,Pd ea ia ba jx∧Gy C X genv G F hp o U ga ea ia ba jx g rem e s')) :
  wpAny (model C.prog C.w) A (call (.builtin "next") [.ref ga]) (fun v s₁=>(∃y ys,rem=y::ys)∧JY C F G hp X genv o U ga g Pd rem (some v) s₁) (fun e s₁=>rem=[]∧OQ C F G hp o genv ga Pd e s₁) s:=by
 refine xa0_2 (W.gen hga) ?_;intro hgg hig
 refine Kp hh (hl.keeps W.old) hroom hig hgg hst (x.mono fun e s₁ h=>?_)
 refine cps fun zP zk=>?_;(rcases h with ⟨ea,ia,ba,jx,hpd,F',hp',ex,W',hfr,hm⟩)<;>(refine zk ?_;clear zk zP)
 cases rem with
 |nil=>
  dsimp only at hm
  refine xa0_2 hm ?_;(try clear hm);rintro rfl;intro hm
  exact ⟨rfl,fun h' x hk hx hox=>⟨rfl,x,F',hp',ea,ia,ba,jx,rfl,hpd,ex,W'.keep hk,W'.free hx,hox,hfr,hm.1⟩⟩
 |cons y ys=>
  dsimp only at hm
  refine cps fun zP zk=>?_;(rcases hm with ⟨v,u,k,rest,ja,hv,h1,h2,h3,h4,h5⟩)<;>(refine zk ?_;clear zk zP)
  cases e with
  |ret r=>
   rcases r with e|f
   ·cases hv
   ·cases f<;>cases hv
  |susp v' a b c d e f=>
   cases hv
   exact ⟨⟨y,ys,rfl⟩,F',hp',ea,ia,ba,jx,hpd,ex,W',hfr,v,u,k,rest,ja,rfl,h1,h2,h3,h4,h5⟩
end
section
variable {C:Cf} {A:Around} {s:Shared} {σ:Al} {F G:FH} {env:Env}
noncomputable def DA:List AV→AV
 |[]=>.none
 |y::_=>y
theorem Kz {env:Env} {σ:Al} {F F' G:FH} {s:Shared} {hp':HP} (hR:Rp C A F G env σ s) {x:Addr} (h:F' x=none∧frz G env s.heap x=none∧hp' x=none):Gx F' G { σ with hp:=hp' } env x:=by
 refine xa0_3 h ?_;(try clear h);intro h1 h2 h3
 refine ⟨h1,?_,h3,?_,?_⟩
 ·cases q:G x with
  |none=>rfl
  |some o=>rw [Ht hR x o q] at h2;exact Ap h2
 ·rintro rfl
  refine xa1_2 hR.fm.ns ?_;intro m;intro zq;refine xa3_2 zq ?_;(try clear zq);intro o zu zu hL zu;intro zu
  unfold frz at h2
  rw [if_pos (.inl rfl),hL] at h2;exact Ap h2
 ·intro y hy hc
  refine cps fun zP zk=>?_;(rcases hR.fm.co y hy with ⟨c',g1,zu,zu,zu,zu,v,o,ho,zu⟩)<;>(refine zk ?_;clear zk zP)
  rw [hc] at g1;(have zc:=Option.some.inj g1;clear g1;subst zc)
  unfold frz at h2
  rw [if_pos (.inr ⟨y,hy,hc⟩),ho] at h2;exact Ap h2
theorem G8.reader {r ia:Addr} {i:Nat} {rest:List AV} {hp:HP} (h:G8 (.rd r) ia i rest hp):B0 r hp rest:=by
 cases h with
 |rd h=>exact h
noncomputable def Pc (o:BI) (key:Ag→Option AV) (w:Ag) (hp:HP):Prop:=match o with
 |.rd r=>match BN key [] w with
  |[]=>B0 r hp []
  |y::_=>∃u k rest,Fw key w u k rest y∧B0 r hp (rest.map Aw.av)
 |_=>True
noncomputable def C8 (o:BI) (a:Addr):Prop:=o=.rd a
theorem NF (T:Tp C) {X:Af} {t d:Addr} {ci:Bool} {o:BI} {tv tv2:AV} {w:Ag} {hp:HP} (hA:A.handled=none) (hl:C.h0.NoLimit) (hroom:A.depth+3<recursionLimit) (hX:X.Ph3) (hz:∀p∈X.D,p.length≤1000) (hr:AK X t d true ci hp) (hlo:Mq ci tv tv2) (hsq:EB o tv2 (w.map Aw.av) hp) :
  Fn C A (.ref 80) [.ref t,tv] [] hp (fun v hp'=>v=DA (BN X.key [] w)∧(∀a,hp a≠none→¬C8 o a→hp' a=hp a)∧Pc o X.key w hp'):=by
 refine xa1_1 T.f_one ?_;intro r hf
 refine xa1_1 T.f_all ?_;intro r' hf'
 refine Da (body:=Ko.body) hf (KE C r _ _) (fun L=>?_) (by with_reducible exact FY ‹_›) (by kernel_rfl) (by kernel_rfl) (by kernel_rfl) (by kernel_rfl) (by kernel_rfl)
 have c1:=Me (A:=A.deeper (callEnv (r.fd Ko .none) L 80)) (tv:=tv) T (by show A.depth+1+1<recursionLimit;with_reducible exact Hm ‹_› (by decide)) hr hlo
 refine Aa (Ah (A2 (Ab rfl (BS T.m_all hr.tree hr.ns rfl (Ay (Ab rfl (At (A6 (AR hf' (Fn.mono c1 ?_))))))))))
 (rintro v hp1;intro zr;refine xa4_5 zr ?_;(try clear zr);intro rg Lg ga g;rintro rfl;intro hG hL0 hg0 hk1)
 have hr1:AK X t d true ci hp1:=hr.off (fun a hF=>hk1 a (hr.some hF))
 have hsq1:EB o tv2 (w.map Aw.av) hp1:=hsq.keep (Ff.of hsq fun l x hl zu=>(hk1 l (by rw [hl];simp)).trans hl)
 refine Aa ?_
 intro F G s hR
 have hgl:(Al.set ⟨[("text",tv),("self",.ref t)],hp1⟩ "result_gen" (.ref ga)).v "result_gen" = some (.ref ga):=Ax
 refine wpAny_Try_except (wpAny_execs_cons (wpAny_Return_some ?_))
 show wpAny _ _ (eval _ _ >>= fun f=>callWith _ f [] _ _) _ _ _
 refine wpAny_bind (Tr.use (C5 (Q:=fun v σ'=>v=.val (.builtin "next")∧σ'=Al.set ⟨[("text",tv),("self",.ref t)],hp1⟩ "result_gen" (.ref ga)) T.g_next ⟨rfl,rfl⟩) hR (fun F1 b σ1 v1 s1 e1 hv hR1 q=>?_))
 refine xa0_2 q ?_;(try clear q);rintro rfl;rintro rfl
 (have zc:=VR.valI hv;clear hv;subst zc)
 refine BH (Bp rfl rfl (Tr.use (Ay (Q:=fun vs σ'=>vs=[.ref ga]∧σ'=Al.set ⟨[("text",tv),("self",.ref t)],hp1⟩ "result_gen" (.ref ga)) (Ab hgl (At ⟨rfl,rfl⟩))) hR1 (fun F2 b σ2 vs s2 e2 hvs hR2 q=>?_)))
 refine xa0_2 q ?_;(try clear q);rintro rfl;rintro rfl
 refine xa2_3 hvs.inv ?_;intro v3 zu;rintro rfl;intro hv3 hvs
 obtain rfl:=hvs.inv0
 (have zc:=VR.refI hv3;clear hv3;subst zc)
 refine Tr.use (A6 (Q:=fun ks σ'=>ks=[]∧σ'=Al.set ⟨[("text",tv),("self",.ref t)],hp1⟩ "result_gen" (.ref ga)) ⟨rfl,rfl⟩) hR2 (fun F3 b σ3 ks s3 e3 hks hR3 q=>?_)
 refine xa0_2 q ?_;(try clear q);rintro rfl;rintro rfl
 obtain rfl:=hks.inv0
 refine ⟨KeepOk_plain (by intro a;simp),?_⟩
 have hfrm:∀{hp':HP} {ea ia ba jx:Addr},(hp1 ea=none∧(hp1 ia=none∨o=.rd ia)∧hp1 ba=none∧jx=ga)→(∀a,hp1 a≠none→a≠ga→a≠ea→a≠ia→a≠Lg→a≠jx→hp' a=hp1 a)→∀a,hp a≠none→¬C8 o a→hp' a=hp a:=by
  intro hp' ea ia ba jx ⟨p1,p2,p3,p4⟩ h a ha hoa
  have e:=hk1 a ha
  have h1:hp1 a≠none:=by rw [e];exact ha
  rw [←e]
  refine h a h1 ?_ ?_ ?_ ?_ ?_
  ·rintro rfl;exact ha hg0
  ·rintro rfl;exact h1 p1
  ·rintro rfl;exact p2.elim h1 hoa
  ·rintro rfl;exact ha hL0
  ·rw [p4];rintro rfl;exact ha hg0
 refine wpAny_mono (HZ (X:=X) (rem:=BN X.key [] w) (A:=A.deeper (callEnv (r.fd Ko .none) L 80)) (by exact hA) hl (by show A.depth+1<recursionLimit;with_reducible exact FZ ‹_› (by decide)) (Hs hR3) hG.gen (.inl ⟨rfl,rfl,rfl⟩) (GP T (by exact hA) (Hs hR3) (show Fs (A.deeper _) _ from IV hR3) hX hz hr1 hG.nc hG.gen hG.frm hsq1)) (fun v s4 z=>?_) (fun e s4 z=>?_)
 ·refine cps fun zP zk=>?_;(rcases z with ⟨⟨y,ys,hrem⟩,F4,hp4,ea,ia,ba,jx,hpd,ex,W4,hfr,hm⟩)<;>(refine zk ?_;clear zk zP)
  have hR4:=Fz hR3 ex W4
  rw [hrem] at hm ⊢
  refine cps fun zP zk=>?_;(rcases hm with ⟨v',u,k,rest,ja,hv',hvr,hgs,zu,zu,htk⟩)<;>(refine zk ?_;clear zk zP)
  (have zc:=Option.some.inj hv';clear hv';subst zc)
  have haft:Pc o X.key w hp4:=by
   cases o with
   |own=>trivial
   |live l=>trivial
   |rd r=>show (match BN X.key [] w with | []=>B0 r hp4 []|y::_=>∃u k rest,Fw X.key w u k rest y∧B0 r hp4 (rest.map Aw.av));rw [hrem];exact ⟨u,k,rest,htk,hgs.src.reader⟩
  exact ⟨F4,.ret y,_,e1.trans (e2.trans (e3.trans ex)),.ret hvr,hR4,rfl,hfrm hpd hfr,haft⟩
 ·refine cps fun zP zk=>?_;(rcases z with ⟨hrem,x,F4,hp4,ea,ia,ba,jx,rfl,hpd,ex,W4,hlo,⟨oe,vs,hoe,hc,hd,h1⟩,hfr,hend⟩)<;>(refine zk ?_;clear zk zP)
  have hR4:=Fz hR3 ex W4
  replace hlo:=Kz hR3 hlo
  have ee:=e1.trans (e2.trans (e3.trans ex))
  have haft:Pc o X.key w hp4:=by
   cases o with
   |own=>trivial
   |live l=>trivial
   |rd r=>show (match BN X.key [] w with | []=>B0 r hp4 []|y::_=>∃u k rest,Fw X.key w u k rest y∧B0 r hp4 (rest.map Aw.av));rw [hrem];exact hend
  have hq:AV.none=DA (BN X.key [] w):=by rw [hrem];rfl
  refine wpAny_mono (LY (E:=Bd) (T:="StopIteration") (Q:=fun fl σ'=>match fl with|.ret v=>v=DA (BN X.key [] w)∧(∀a,hp a≠none→¬C8 o a→σ'.hp a=hp a)∧Pc o X.key w σ'.hp|_=>False) hR4 hlo hoe hc hd h1 (by rfl) HI HX HH T.g_SI (Aa (BT (Bu ⟨hq,hfrm hpd hfr,haft⟩))) (by rfl) (by rfl) (by rfl) (by rfl) (by decide)) (fun zu zu z=>wpAny_mono z (fun zu zu z=>wpAny_mono z (fun fl s5 z=>?_) fun zu zu x=>x) fun zu zu x=>x) fun zu zu x=>x
  refine cps fun zP zk=>?_;(rcases z with ⟨F5,b,σ5,e5,r5,hR5,q5⟩)<;>(refine zk ?_;clear zk zP)
  refine ⟨F5,b,σ5,ee.trans e5,r5,hR5,?_⟩
  cases b with
  |ret v=>exact q5
  |_=>exact q5.elim
end
section
section
variable {C:Cf} {A:Around} {s:Shared} {hp:HP} {F G:FH} {E:Value→Shared→Prop}
noncomputable abbrev G6 (vs:List Value) (n:Nat):Obj:={ cls:=.type "list",dict:=none,data:=.seq vs.toArray n,slots:=#[] }
theorem Im {G:FH} {S:Addr} {o:Obj} (h:G S=none):AE G (AS G S o):=Bb o h
theorem Fs.put {S:Addr} {o:Obj} (h:Fs A G) (hG:G S=none):Fs A (AS G S o):=let ⟨l,a,b⟩:=h;⟨l,a,fun e he=>(b e he).mono (Im hG)⟩
theorem Wd.turnG {S:Addr} {o o':Obj} (W:Wd C F (AS G S o) hp s) {h':Heap} {t:Nat} (ho:h'.get? S=some o') (k:∀b ob,b≠S→s.heap.get? b=some ob→h'.get? b=some ob):Wd C F (AS G S o') hp ⟨h',s.gens,s.drawn,t,s.os⟩:=by
 have hS:AS G S o S=some o:=Au _ _ _
 have no:∀{b},AS G S o b=none→b≠S∧AS G S o' b=none:=fun {b} e=>by
  have n:b≠S:=fun zE=>by (first|rw [zE,hS] at e|rw [←zE,hS] at e);exact Ap e
  rw [AA _ _ n] at e
  exact ⟨n,by rw [AA _ _ n];exact e⟩
 refine ⟨W.base,fun b ob e=>k b ob (no (W.fg b ob e)).1 (W.fz b ob e),fun b ob e=>?_,fun a x e=>?_,W.os,W.bare,W.gi,fun b ob e=>(no (W.fg b ob e)).2⟩
 ·by_cases q:b=S
  ·subst q;rw [Au] at e;(have zc:=Option.some.inj e;clear e;subst zc);exact ⟨_,ho,.inl rfl⟩
  ·rw [AA _ _ q] at e
   refine xa1_2 (W.gz b ob (by rw [AA _ _ q];exact e)) ?_;intro o2 h1 h2
   exact ⟨o2,k _ _ q h1,h2⟩
 ·refine cps fun zP zk=>?_;(rcases W.ob a x e with ⟨p,q,o2,h1,r⟩)<;>(refine zk ?_;clear zk zP)
  exact ⟨p,(no q).2,o2,k _ _ (no q).1 h1,r⟩
theorem Wd.pushG (W:Wd C F G hp s) {t:Nat} {o:Obj} (hf:o.isFreed=false):Wd C F (AS G s.heap.objs.size o) hp ⟨s.heap.push o,s.gens,s.drawn,t,s.os⟩:=by
 refine xa0_3 (W.lt (Nat.le_refl _)) ?_;intro z1 z2 z3
 have k:∀b ob,s.heap.get? b=some ob→(s.heap.push o).get? b=some ob:=fun b ob e=>Heap.get?_push_of_some _ e
 refine ⟨W.base,fun b ob e=>k _ _ (W.fz b ob e),fun b ob e=>?_,fun a x e=>?_,W.os,W.bare,W.gi,fun b ob e=>?_⟩
 ·by_cases q:b=s.heap.objs.size
  ·subst q;rw [Au] at e;(have zc:=Option.some.inj e;clear e;subst zc);exact ⟨_,Heap.get?_push_size _ hf,.inl rfl⟩
  ·rw [AA _ _ q] at e
   refine xa1_2 (W.gz b ob e) ?_;intro o2 h1 h2
   exact ⟨o2,k _ _ h1,h2⟩
 ·refine cps fun zP zk=>?_;(rcases W.ob a x e with ⟨p,q,o2,h1,r⟩)<;>(refine zk ?_;clear zk zP)
  exact ⟨p,(AA _ _ (fun zE=>by (first|rw [zE,z3] at e|rw [←zE,z3] at e);exact Aj e)).trans q,o2,k _ _ h1,r⟩
 ·rw [AA]
  ·exact W.fg b ob e
  ·rintro rfl;rw [z1] at e;exact Aj e
theorem Wd.heldAt {S:Addr} {o:Obj} (W:Wd C F (AS G S o) hp s) (hd:∀es ep,o.data≠.dict es ep):s.heap.get? S=some o:=by
 refine xa1_2 (W.gz S o (Au _ _ _)) ?_;intro o' h1 g
 rw [h1,g.exact hd]
theorem Wd.heldOff {S:Addr} {o:Obj} (W:Wd C F (AS G S o) hp s):F S=none∧hp S=none:=by
 refine ⟨?_,?_⟩
 ·cases q:F S with
  |none=>rfl
  |some o'=>have:=W.fg S o' q;rw [Au] at this;exact Ap this
 ·cases q:hp S with
  |none=>rfl
  |some o'=>have:=(W.ob S o' q).2.1;rw [Au] at this;exact Ap this
theorem Wd.sealG {S:Addr} {o:Obj} (W:Wd C F (AS G S o) hp s) (hG:G S=none) (hd:∀es ep,o.data≠.dict es ep):Wd C (AS F S o) G hp s∧AE F (AS F S o):=by
 refine xa0_2 W.heldOff ?_;intro z1 z3
 have ex:=Bb o z1
 have no:∀{b},AS G S o b=none→b≠S∧G b=none:=fun {b} e=>by
  have n:b≠S:=fun zE=>by (first|rw [zE,Au] at e|rw [←zE,Au] at e);exact Ap e
  rw [AA _ _ n] at e
  exact ⟨n,e⟩
 refine ⟨⟨fun b ob e=>ex _ _ (W.base b ob e),fun b ob e=>?_,fun b ob e=>W.gz b ob (Im hG _ _ e),fun a x e=>?_,W.os,W.bare,W.gi,fun b ob e=>?_⟩,ex⟩
 ·by_cases q:b=S
  ·subst q;rw [Au] at e;(have zc:=Option.some.inj e;clear e;subst zc);exact W.heldAt hd
  ·rw [AA _ _ q] at e;exact W.fz b ob e
 ·refine cps fun zP zk=>?_;(rcases W.ob a x e with ⟨p,q,o2,h1,r⟩)<;>(refine zk ?_;clear zk zP)
  exact ⟨by rw [AA _ _ (no q).1];exact p,(no q).2,o2,h1,r.mono ex⟩
 ·by_cases q:b=S
  ·subst q;exact hG
  ·rw [AA _ _ q] at e;exact (no (W.fg b ob e)).2
noncomputable def PX (C:Cf) (G F:FH) (Q:AV→HP→Prop) (v:Value) (s':Shared):Prop:=∃F' av hp',AE F F'∧VR F' av v∧Wd C F' G hp' s'∧Q av hp'
noncomputable def Cl (C:Cf) (A:Around) (f:Value) (args:List AV) (hp:HP) (Q:AV→HP→Prop):Prop:=
 ∀F G s vs (E:Value→Shared→Prop),Fs A G→Wd C F G hp s→VRs F args vs→wpAny (model C.prog C.w) A (PySem.call f vs) (PX C G F Q) E s
theorem Fn.cl {f:Value} {args:List AV} {Q:AV→HP→Prop} (h:Fn C A f args [] hp Q):Cl C A f args hp Q:=fun F G s vs E fs W hv=>
 wpAny_call (codeAny_mono (h F G s vs [] fs W hv .nil) fun r s' ⟨F',v,av,hp',a,b,c,d,q⟩=>by subst a;exact ⟨F',av,hp',b,c,d,q⟩)
theorem Cl.mono {f:Value} {args:List AV} {Q Q':AV→HP→Prop} (h:Cl C A f args hp Q) (k:∀v hp',Q v hp'→Q' v hp'):Cl C A f args hp Q':=fun F G s vs E fs W hv=>
 wpAny_mono (h F G s vs E fs W hv) (fun v s' ⟨F',av,hp',b,c,d,q⟩=>⟨F',av,hp',b,c,d,k _ _ q⟩) fun zu zu x=>x
theorem HQ {ga:Addr} {g:Nat} {Q:Option Value→Shared→Prop} {prog:Program} {w:World} (hh:A.handled=none) (hg:s.heap.IsGen ga g) (hgs:s.gens[g]? = some .finished)
  (hQ:∀h',(∀b o,s.heap.get? b=some o→h'.get? b=some o)→Q none { s with heap:=h' }):wpAny (model prog w) A (pyNext (.ref ga)) Q E s:=by
 unfold pyNext
 refine wpAny_bind (wpAny_attempt (wpAny_callSpecial?_slot (name:=Str.ofString "__next__") hg.typeIs slot_gen_next
  (wpAny_call_entry slot_gen_next hg.typeIs entry_gen_next ?_ (args_gen_next _))))
 show wpAny _ _ (Builtin.Generator.genWake (.ref ga) (.send .none)) _ _ s
 unfold Builtin.Generator.genWake
 refine wpAny_bind (wpAny_holding (wpAny_genNumber hg (wpAny_bind (wpAny_genState hgs ?_))))
 show wpAny _ _ (.resume g (.send .none) [] _) _ _ s
 intro Γ p hΓ
 rw [Sem.wp_resume]
 refine ⟨.finished,s,by unfold Wakes;rw [hgs];exact ⟨rfl,rfl⟩,?_⟩
 refine (?_:wpAny (model prog w) A.in1 (newExc (.type "StopIteration") [] >>= _) _ _ s) Γ p hΓ
 exact wpAny_bind (CC fun h' e k _ ⟨oe,vs,q,c,_⟩=>wpAny_raiseNew_none (show A.in1.handled=none from hh) (wpAny_bind (wpAny_isInstance (T:="StopIteration") (b:=true) ⟨oe,q,c⟩ isSubtype_stop (wpAny_pure (hQ _ k)))))
inductive Cz (C:Cf) (X:Af) (t d:Addr) (hp:HP) (ga:Addr) (o:BI):Ag→Nat→Ag→(Addr→Prop)→Prop
 |fresh {r:FdRest} {L:Addr} {tv:AV} {g:Nat} {w:Ag}:Nb r L t tv hp ga g→EB o tv (w.map Aw.av) hp→¬Fp X t d ga→¬Fp X t d L→Cz C X t d hp ga o [] 0 w (fun a=>a=ga∨a=L)
 |susp {r:FdRest} {L ea ia ba ja:Addr} {g:Nat} {u rest:Ag} {k:Nat}:C4 (A3 r L)→Ol C X (A3 r L) hp o ga ea ia ba ja g u k rest →
   ¬Fp X t d ga→¬Fp X t d L→¬Fp X t d ea→¬Fp X t d ia→¬Fp X t d ja→Cz C X t d hp ga o u k rest (fun a=>(a=ga∨a=L∨a=ea∨a=ia∨a=ba∨a=ja)∧¬C8 o a)
 |done {u:Ag} {k:Nat}:I4 o ga hp→(outs X.key u).drop k=[]→Cz C X t d hp ga o u k [] (fun a=>a=ga)
inductive P5 (C:Cf) (X:Af) (t d ga:Addr) (o:BI) (hp hp':HP) (F':FH) (U:Ag) (N:Addr→Prop) (r:Option Value) (y:AV) (ys:List AV):Prop
 |mk (v:Value) (N':Addr→Prop) (u':Ag) (k':Nat) (rest':Ag)
  (h1:r=some v)
  (h2:VR F' y v)
  (h3:Cz C X t d hp' ga o u' k' rest' N')
  (h4:ys=remn X.key u' k' rest')
  (h5:Fw X.key U u' k' rest' y)
  (h6:∀a,N' a→N a∨hp a=none)
inductive P4 (C:Cf) (F G:FH) (hp:HP) (X:Af) (t d ga:Addr) (o:BI) (u:Ag) (k:Nat) (rest:Ag) (N:Addr→Prop) (r:Option Value) (s₁:Shared):Prop
 |mk (F':FH) (hp':HP)
  (h1:AE F F')
  (h2:Wd C F' G hp' s₁)
  (h3:(∀a,hp a≠none→¬N a→¬C8 o a→hp' a=hp a))
  (h4:match remn X.key u k rest with
  |[]=>r=none∧I4 o ga hp'
  |y::ys=>P5 C X t d ga o hp hp' F' (u++rest) N r y ys)
theorem ND (key:Ag→Option AV) (w:Ag):remn key [] 0 w=BN key [] w:=rfl
theorem Cz.next (T:Tp C) {X:Af} {t d ga:Addr} {ci:Bool} {o:BI} {u rest:Ag} {k:Nat} {N:Addr→Prop} (hA:A.handled=none) (hl:C.h0.NoLimit) (hroom:A.depth<recursionLimit) (W:Wd C F G hp s) (hFs:Fs A G) (hX:X.Ph3) (hz:∀p∈X.D,p.length≤1000) (hr:AK X t d true ci hp) (hS:Cz C X t d hp ga o u k rest N) :
  wpAny (model C.prog C.w) A (pyNext (.ref ga)) (P4 C F G hp X t d ga o u k rest N) Bd s:=by
 cases hS with
 |@fresh r L tv g w hF hq f1 f2=>
  refine wpAny_mono (Kx T hA hl hroom W hFs hX hz hr hF.nc hF.gen hF.frm hq) (fun res s₁ z=>?_) fun zu zu x=>x
  refine cps fun zP zk=>?_;(rcases z with ⟨F',hp',ea,ia,ba,jx,⟨p1,p2,p3,rfl⟩,e,W',fr,hm⟩)<;>(refine zk ?_;clear zk zP)
  refine ⟨F',hp',e,W',fun a h1 h2 h3=>fr a h1 (fun q=>h2 (.inl q)) (fun q=>h1 (q▸p1)) (fun q=>p2.elim (fun p2=>h1 (q▸p2)) fun p2=>h3 (q▸p2)) (fun q=>h2 (.inr q)) (fun q=>h2 (.inl q)),?_⟩
  rw [ND]
  cases hrem:BN X.key [] rest with
  |nil=>rw [hrem] at hm;exact hm
  |cons y ys=>
   rw [hrem] at hm
   refine cps fun zP zk=>?_;(rcases hm with ⟨v,u,k,rest',ja,q1,q2,q3,q4,q5,tk⟩)<;>(refine zk ?_;clear zk zP)
   have nf:∀{a},hp a=none→¬Fp X t d a:=fun h hf=>hr.some hf h
   have fja:¬Fp X t d ja:=by
    rcases q5 with q5|q5
    ·exact nf q5
    ·rw [q5];exact f1
   have fia:¬Fp X t d ia:=by
    rcases p2 with p2|p2
    ·exact nf p2
    ·subst p2
     cases hq with
     |rd h=>
      refine xa2_1 h.at ?_;intro c vs q
      exact fun z=>hr.fpNo z q rfl
   refine ⟨v,_,u,k,rest',q1,q2,Cz.susp hF.nc q3 f1 f2 (nf p1) fia fja,q4,tk,fun a ha=>?_⟩
   rcases ha with ⟨rfl|rfl|rfl|rfl|rfl|rfl,hO⟩
   ·exact .inl (.inl rfl)
   ·exact .inl (.inr rfl)
   ·exact .inr p1
   ·exact .inr (p2.resolve_right hO)
   ·exact .inr p3
   ·rcases q5 with q5|q5
    ·exact .inr q5
    ·exact .inl (.inl q5)
 |@susp r L ea ia ba ja g _ _ _ nc hG f1 f2 f3 f4 f5=>
  refine wpAny_mono (LG T hA hl hroom W hFs hX hz hr nc hG) (fun res s₁ z=>?_) fun zu zu x=>x
  refine cps fun zP zk=>?_;(rcases z with ⟨F',hp',ea',ia',ba',jx,⟨rfl,rfl,rfl,rfl⟩,e,W',fr,hm⟩)<;>(refine zk ?_;clear zk zP)
  refine ⟨F',hp',e,W',fun a h1 h2 h3=>fr a h1 (fun q=>h2 ⟨.inl q,h3⟩) (fun q=>h2 ⟨.inr (.inr (.inl q)),h3⟩) (fun q=>h2 ⟨.inr (.inr (.inr (.inl q))),h3⟩) (fun q=>h2 ⟨.inr (.inl q),h3⟩) (fun q=>h2 ⟨.inr (.inr (.inr (.inr (.inr q)))),h3⟩),?_⟩
  cases hrem:remn X.key u k rest with
  |nil=>rw [hrem] at hm;exact hm
  |cons y ys=>
   rw [hrem] at hm
   refine cps fun zP zk=>?_;(rcases hm with ⟨v,u',k',rest',ja',q1,q2,q3,q4,q5,tk⟩)<;>(refine zk ?_;clear zk zP)
   have nf:∀{a},hp a=none→¬Fp X t d a:=fun h hf=>hr.some hf h
   have fja:¬Fp X t d ja':=by
    rcases q5 with q5|q5
    ·exact nf q5
    ·rw [q5];exact f5
   refine ⟨v,_,u',k',rest',q1,q2,Cz.susp nc q3 f1 f2 f3 f4 fja,q4,tk,fun a ha=>?_⟩
   rcases ha with ⟨rfl|rfl|rfl|rfl|rfl|rfl,hO⟩
   ·exact .inl ⟨.inl rfl,hO⟩
   ·exact .inl ⟨.inr (.inl rfl),hO⟩
   ·exact .inl ⟨.inr (.inr (.inl rfl)),hO⟩
   ·exact .inl ⟨.inr (.inr (.inr (.inl rfl))),hO⟩
   ·exact .inl ⟨.inr (.inr (.inr (.inr (.inl rfl)))),hO⟩
   ·rcases q5 with q5|q5
    ·exact .inr q5
    ·exact .inl ⟨.inr (.inr (.inr (.inr (.inr q5)))),hO⟩
 |@done _ _ hE hk=>
  refine cps fun zP zk=>?_;(rcases hE with ⟨hO,g,hg⟩)<;>(refine zk ?_;clear zk zP)
  refine xa0_2 (W.gen hg) ?_;intro hgg hig
  have hrem:remn X.key u k []=[]:=by unfold remn;rw [hk];rfl
  refine HQ hA hig hgg fun h' hx=>⟨F,hp,AE.refl F,W.keep (t:=s.toks) hx,fun _ _ _ _=>rfl,?_⟩
  rw [hrem]
  exact ⟨rfl,hO,g,hg⟩
theorem Cz.gen {X:Af} {t d ga:Addr} {hp:HP} {o:BI} {u rest:Ag} {k:Nat} {N:Addr→Prop} (h:Cz C X t d hp ga o u k rest N):∃g gs,hp ga=some (.gen g gs):=by
 cases h with
 |fresh a=>exact ⟨_,_,a.gen⟩
 |susp zu a=>refine xa1_2 a.gen ?_;intro gs h zu;exact ⟨_,gs,h⟩
 |done h _=>refine cps fun zP zk=>?_;(rcases h with ⟨_,g,h⟩)<;>(refine zk ?_;clear zk zP);exact ⟨g,_,h⟩
theorem Kj {X:Af} {t d:Addr} {f ci:Bool} {hp:HP} (hr:AK X t d f ci hp) {a:Addr} (hf:Fp X t d a) {c:String} {vs:List AV} (q:hp a=some (AO.itr c vs)):False:=hr.fpNo hf q rfl
theorem Cz.reader {X:Af} {t d ga r:Addr} {hp:HP} {u rest:Ag} {k:Nat} {N:Addr→Prop} (h:Cz C X t d hp ga (.rd r) u k rest N):B0 r hp (rest.map Aw.av):=by
 cases h with
 |fresh a q=>
  cases q with
  |rd h=>exact h
 |susp zu a=>exact a.src.reader
 |done h _=>exact h.1
theorem Cz.sepO {X:Af} {t d ga:Addr} {ci:Bool} {hp:HP} {o:BI} {u rest:Ag} {k:Nat} {N:Addr→Prop} (hr:AK X t d true ci hp) (h:Cz C X t d hp ga o u k rest N) {a:Addr} (hf:Fp X t d a):¬C8 o a:=by
 intro q
 unfold C8 at q
 subst q
 refine xa2_1 h.reader.at ?_;intro c vs e
 exact Kj hr hf e
theorem Cz.sep {X:Af} {t d ga:Addr} {ci:Bool} {hp:HP} {o:BI} {u rest:Ag} {k:Nat} {N:Addr→Prop} (hr:AK X t d true ci hp) (h:Cz C X t d hp ga o u k rest N) {a:Addr} (hf:Fp X t d a):¬N a:=by
 cases h with
 |fresh g q f1 f2=>
  rintro (rfl|rfl)
  ·exact f1 hf
  ·exact f2 hf
 |susp nc g f1 f2 f3 f4 f5=>
  (intro zr;(refine xa0_2 zr ?_;(try clear zr);rintro (rfl|rfl|rfl|rfl|rfl|rfl))<;>(intro hO))
  ·exact f1 hf
  ·exact f2 hf
  ·exact f3 hf
  ·exact f4 hf
  ·exact hr.fpNo hf g.bnd rfl
  ·exact f5 hf
 |done h _=>
  refine cps fun zP zk=>?_;(rcases h with ⟨_,g,h⟩)<;>(refine zk ?_;clear zk zP)
  rintro rfl
  exact hr.fpNo hf h rfl
theorem Cz.notO {X:Af} {t d ga:Addr} {hp:HP} {o:BI} {u rest:Ag} {k:Nat} {N:Addr→Prop} (h:Cz C X t d hp ga o u k rest N) {a:Addr} (ha:N a):¬C8 o a:=by
 cases h with
 |fresh g q f1 f2=>
  intro e
  unfold C8 at e
  subst e
  cases q with
  |rd h=>
   refine xa2_1 h.at ?_;intro c vs e
   rcases ha with rfl|rfl
   ·exact Gt g.gen e rfl
   ·exact Gt g.frm e rfl
 |susp nc g f1 f2 f3 f4 f5=>exact ha.2
 |done h _=>
  refine cps fun zP zk=>?_;(rcases h with ⟨hE,g,hg⟩)<;>(refine zk ?_;clear zk zP)
  intro e
  unfold C8 at e
  subst e
  refine xa2_1 (B0.at hE) ?_;intro c vs e
  subst ha
  exact Gt hg e rfl
noncomputable def OP (C:Cf) (A:Around) (G:FH) (S it:Addr) (J:List AV→HP→Prop) (Q:HP→Prop):Prop:=
 ∀rem F hp s vs n,Wd C F (AS G S (G6 vs n)) hp s→J rem hp→wpAny (model C.prog C.w) A.in1 (pyNext (.ref it)) (fun r s₁=>∃F' hp',AE F F'∧Wd C F' (AS G S (G6 vs n)) hp' s₁∧match rem with
  |[]=>r=none∧Q hp'
  |y::ys=>∃v,r=some v∧VR F' y v∧J ys hp') Bd s
theorem Fs.putL {S:Addr} (hFs:Fs A (AS G S (G6 [] 0))) (vs:List Value) (n:Nat):Fs A.in1 (AS G S (G6 vs n)):=by
 refine xa1_2 hFs ?_;(try clear hFs);intro l a b
 refine ⟨l,a,fun e he=>?_⟩
 refine cps fun zP zk=>?_;(rcases b e he with ⟨p,L,o,h1,h2,es,ep,h3⟩)<;>(refine zk ?_;clear zk zP)
 refine ⟨p,L,o,h1,?_,es,ep,h3⟩
 by_cases q:L=S
 ·subst q;rw [Au] at h2;(have zc:=Option.some.inj h2;clear h2;subst zc);cases h3
 ·rw [AA _ _ q] at h2 ⊢;exact h2
theorem LM {it S:Addr} {J:List AV→HP→Prop} {Q:HP→Prop} (nx:OP C A G S it J Q) {F₀:FH} {R:Result→Shared→Prop} :
  ∀(rem:List AV) (ys:List AV) (vs:List Value) (n:Nat) (F:FH) (hp:HP) (s:Shared),ys.length+rem.length≤100000→AE F₀ F→VRs F ys vs→Wd C F (AS G S (G6 vs n)) hp s→J rem hp →
   (∀F' hp' s' us m,AE F₀ F'→VRs F' (ys++rem) us→Wd C F' (AS G S (G6 us m)) hp' s'→Q hp'→R (.ok (.ret .none)) s') →
   codeAny (model C.prog C.w) A (.builtin "list.extend.loop" ⟨[.ref S,.ref it,.none],[]⟩) R s:=by
 intro rem
 induction rem with
 |nil=>
  intro ys vs n F hp s hlen e hv W hJ hR'
  refine codeAny_builtin PySem.F.entry_extend_loop ?_
  rw [Around.under_plainId PySem.F.plain_extend_loop _]
  show wpAny _ A.in1 (pyNext (.ref it) >>= _) _ _ s
  refine wpAny_bind (wpAny_mono (nx _ _ _ _ _ _ W hJ) (fun r s₁ z=>?_) fun zu zu x=>x.elim)
  refine xa2_4 z ?_;(try clear z);intro F' hp' e' W₁;rintro rfl;intro hq
  exact wpAny_pure (hR' F' hp' s₁ vs n (e.trans e') (by rw [List.append_nil];exact hv.mono e') W₁ hq)
 |cons y rem ih=>
  intro ys vs n F hp s hlen e hv W hJ hR'
  refine codeAny_builtin PySem.F.entry_extend_loop ?_
  rw [Around.under_plainId PySem.F.plain_extend_loop _]
  show wpAny _ A.in1 (pyNext (.ref it) >>= _) _ _ s
  refine wpAny_bind (wpAny_mono (nx _ _ _ _ _ _ W hJ) (fun r s₁ z=>?_) fun zu zu x=>x.elim)
  refine cps fun zP zk=>?_;(rcases z with ⟨F',hp',e',W₁,v,rfl,hvy,hJ'⟩)<;>(refine zk ?_;clear zk zP)
  show wpAny _ A.in1 (updateSeq S (·.push v) >>= _) _ _ _
  refine wpAny_bind ?_
  have hL:=W₁.heldAt (fun zu zu z=>nomatch z)
  have hvs:=hv.mono e'
  have e1:=hvs.length
  have e2:ys.length+(rem.length+1)≤100000:=hlen
  have z1:vs.toArray.size<sizeLine:=by simp only [List.size_toArray,e1,sizeLine_eq];exact C0 [_,_] [(1,(Za Z0 (Zs Z1)),(Zn 100000))] Z0 (Zn 16777216) rfl e2
  refine wpAny_updateSeq hL rfl (wpAny_pure ⟨plainId_quiet PySem.F.plain_extend_loop _,?_⟩) (Nat.le_of_lt z1) (by show (vs.toArray.push v).size≤sizeLine+1;rw [Array.size_push];exact Nat.succ_le_succ (Nat.le_of_lt z1))
  have hL2:IsL s₁.heap S vs.toArray n:=hL
  have hL':=hL2.update (fun x=>x.push v)
  rw [List.push_toArray] at hL'
  have W₂:=W₁.turnG (t:=s₁.toks) hL' (SameBut.rest (Heap.SameBut.update ..))
  exact ih (ys++[y]) (vs++[v]) _ F' hp' _ (by rw [List.length_append,Nat.add_assoc,Nat.add_comm _ rem.length];exact hlen) (e.trans e') (hvs.append (.cons hvy .nil)) W₂ hJ' (fun F₅ hp₅ s₅ us m e₅ hv₅ W₅ hq=>hR' F₅ hp₅ s₅ us m e₅ (by simpa using hv₅) W₅ hq)
theorem MM {it:Addr} {J:List AV→HP→Prop} {Q:HP→Prop} {rem:List AV} (hlen:rem.length≤100000) (hJ:J rem hp) (hne:hp it≠none)
  (nx:∀G S,Fs A (AS G S (G6 [] 0))→OP C A.in1 G S it J Q)
  (room:∀(F G:FH) (s:Shared) (S n:Nat) (R:Result→Shared→Prop),Wd C F (AS G S (G6 [] n)) hp s→S≠it →
   (∀s' n',Wd C F (AS G S (G6 [] n')) hp s'→codeAny (model C.prog C.w) A.in1 (.builtin "list.extend.loop" ⟨[.ref S,.ref it,.none],[]⟩) R s') →
   wpAny (model C.prog C.w) A.in1.in1 (Builtin.List.listExtendWith (.ref S) (.ref it) .none) (fun fin s'=>match fin with|.done f=>R (.ok f) s'|.again c'=>c'.quiet=true∧codeAny (model C.prog C.w) A.in1 c' R s') (fun e s'=>R (.error e) s') s) :
  Cl C A (.type "list") [.ref it] hp (fun v hp'=>v=.lst rem∧Q hp'):=by
 intro F G s vs E hFs W hvs
 refine xa2_3 hvs.inv ?_;intro v2 us2;rintro rfl;intro h3 h4
 obtain rfl:=h4.inv0
 obtain rfl:=h3.refI
 refine callType_codes (Q₁:=fun obj s₁=>obj=.ref s.heap.objs.size∧s₁={ s with heap:=s.heap.push { cls:=.type "list",data:=.seq #[] } }) PySem.F.called_list (PySem.F.typeCall_list_1 _) PySem.F.entry_list_init
  (code_list_new _ ⟨rfl,rfl⟩) fun obj s₁ h₁=>?_
 refine xa0_2 h₁ ?_;(try clear h₁);rintro rfl;rintro rfl
 have hS0:(s.heap.push { cls:=.type "list",data:=.seq #[] }).get? s.heap.objs.size=some { cls:=.type "list",data:=.seq #[] }:=Heap.get?_push_size _ rfl
 have hG:=(W.lt (Nat.le_refl s.heap.objs.size)).2.1
 have hd0:=(W.lt (Nat.le_refl s.heap.objs.size)).2.2
 have W1:=W.pushG (t:=s.toks) (o:=G6 [] 0) rfl
 generalize hSS:s.heap.objs.size=S at hS0 W1 hd0 hG ⊢
 have hne:S≠it:=fun zE=>hne (zE▸hd0)
 refine ⟨⟨_,hS0,rfl⟩,PySem.F.args_list_init_2 _ _,?_⟩
 show wpAny _ A.in1.in1 (do let old ←Builtin.List.listItems (.ref S);Builtin.List.listUpdate (.ref S) (fun zu=>#[]);letGo old.toList.reverse;Builtin.List.listExtendWith (.ref S) (.ref it) .none) _ _ _
 refine wpAny_bind ?_
 unfold Builtin.List.listItems
 refine wpAny_bind (wpAny_seqItems hS0 rfl (wpAny_pure ?_))
 show wpAny _ A.in1.in1 (updateSeq S (fun zu=>#[]) >>= fun zu=>letGo (#[]:Array Value).toList.reverse >>= fun zu=>Builtin.List.listExtendWith (.ref S) (.ref it) .none) _ _ _
 refine wpAny_bind (wpAny_updateSeq hS0 rfl ?_)
 have hS2:=Heap.get?_update_self (Obj.mapSeq (fun zu=>(#[]:Array Value))) hS0 rfl
 have W2:=W1.turnG (t:=s.toks) hS2 (SameBut.rest (Heap.SameBut.update ..))
 refine wpAny_bind (wpAny_letGo ?_)
 refine room F G _ S _ _ W2 hne fun s' n' W3=>?_
 refine LM (F₀:=F) (nx G S (Fs.put hFs hG)) rem [] [] n' F hp s' (by simpa using hlen) (AE.refl F) .nil W3 hJ (fun F' hp' s'' us m e' hv' W' hq=>?_)
 refine xa0_2 (W'.sealG hG (fun zu zu z=>nomatch z)) ?_;intro W5 e5
 exact ⟨rfl,_,.lst rem,hp',e'.trans e5,.lst (Au _ _ _) rfl rfl (by simpa using hv'.mono e5),W5,rfl,hq⟩
theorem FT {S it:Addr} (h:S≠it):Builtin.List.listSameRef (.ref S) (.ref it)=false:=by simp [Builtin.List.listSameRef,h]
inductive LJ (C:Cf) (X:Af) (t d:Addr) (ci:Bool) (ga:Addr) (o:BI) (hp:HP) (N:Addr→Prop) (rem:List AV) (hp':HP):Prop
 |mk (u':Ag) (k':Nat) (rest':Ag) (N':Addr→Prop) (h1:remn X.key u' k' rest'=rem) (h2:AK X t d true ci hp') (h3:Cz C X t d hp' ga o u' k' rest' N') (h4:∀a,hp a≠none→¬N a→¬C8 o a→hp' a=hp a) (h5:∀a,N' a→N a∨hp a=none)
theorem L8 (T:Tp C) {X:Af} {t d ga:Addr} {ci:Bool} {o:BI} {u rest:Ag} {k:Nat} {N:Addr→Prop} (hA:A.handled=none) (hl:C.h0.NoLimit) (hroom:A.depth+2<recursionLimit) (hX:X.Ph3) (hz:∀p∈X.D,p.length≤1000) (hr:AK X t d true ci hp) (hS:Cz C X t d hp ga o u k rest N)
  (hlen:(remn X.key u k rest).length≤100000):Cl C A (.type "list") [.ref ga] hp (fun v hp'=>v=.lst (remn X.key u k rest)∧(∀a,hp a≠none→¬N a→¬C8 o a→hp' a=hp a)∧Jt o hp'):=by
 refine xa2_1 hS.gen ?_;intro g0 gs0 hga
 refine MM (J:=LJ C X t d ci ga o hp N) hlen ⟨u,k,rest,N,rfl,hr,hS,fun zu zu zu zu=>rfl,fun a h=>.inl h⟩ (by rw [hga];exact fun z=>nomatch z) (fun G S hFs rem F hp' s vs n W hJ=>?_) (fun F G s S n R W hne hk=>?_)
 ·refine cps fun zP zk=>?_;(rcases hJ with ⟨u',k',rest',N',rfl,hr',hS',hfr,hN⟩)<;>(refine zk ?_;clear zk zP)
  refine wpAny_mono (Cz.next T (A:=A.in1.in1) hA hl (Nat.lt_of_succ_lt (Nat.lt_of_succ_lt hroom)) W (Fs.putL hFs vs n) hX hz hr' hS') (fun r s₁ z=>?_) fun zu zu x=>x
  refine cps fun zP zk=>?_;(rcases z with ⟨F',hp₁,e',W₁,fr,hm⟩)<;>(refine zk ?_;clear zk zP)
  have hfr':∀a,hp a≠none→¬N a→¬C8 o a→hp₁ a=hp a:=fun a h1 h2 h3=>by
   rw [fr a (by rw [hfr a h1 h2 h3];exact h1) (fun h=>by rcases hN a h with q|q;exact h2 q;exact h1 q) h3]
   exact hfr a h1 h2 h3
  refine ⟨F',hp₁,e',W₁,?_⟩
  cases hrem:remn X.key u' k' rest' with
  |nil=>rw [hrem] at hm;exact ⟨hm.1,hfr',hm.2.1⟩
  |cons y ys=>
   rw [hrem] at hm
   refine cps fun zP zk=>?_;(rcases hm with ⟨v,N₂,u₂,k₂,rest₂,h1,h2,hS₂,h4,zu,hN₂⟩)<;>(refine zk ?_;clear zk zP)
   refine ⟨v,h1,h2,u₂,k₂,rest₂,N₂,h4.symm,hr'.off fun a ha=>fr a (hr'.some ha) (hS'.sep hr' ha) (hS'.sepO hr' ha),hS₂,hfr',fun a ha=>?_⟩
   rcases hN₂ a ha with h|h
   ·exact hN a h
   ·by_cases q:N a
    ·exact .inl q
    ·right
     cases q2:hp a with
     |none=>rfl
     |some x=>rw [hfr a (by rw [q2];exact fun z=>nomatch z) q (hS₂.notO ha),q2] at h;exact Ap h
 ·have hT:s.TypeIs (.ref ga) "generator":=by
   refine cps fun zP zk=>?_;(rcases W.ob ga _ hga with ⟨zu,zu,o,ho,r⟩)<;>(refine zk ?_;clear zk zP)
   (refine OR.genC r fun zv zv zv zv a zv zv zv zv=>?_;clear r);exact ⟨o,ho,a⟩
  have hS2:=W.heldAt (fun zu zu z=>nomatch z)
  unfold Builtin.List.listExtendWith
  refine wpAny_bind (wpAny_typeOf hT ?_)
  have h2:(Value.type "generator" == Value.type "list")=false:=by decide
  have h3:(Value.type "generator" == Value.type "tuple")=false:=by decide
  simp only [FT hne,h2,h3,Bool.or_false,Bool.false_eq_true,if_false]
  refine wpAny_bind (wpAny_pyIter_gen (W.gen hga).2 ?_)
  refine wpAny_bind (wpAny_holding ?_)
  unfold Builtin.List.listLengthHint
  refine wpAny_bind (wpAny_specialOf hT PySem.F.gen_no_len ?_)
  show wpAny _ A.in1.in1 (specialOf (Value.ref ga) (Str.ofString "__length_hint__") >>= _) _ _ _
  refine wpAny_bind (wpAny_specialOf hT PySem.F.gen_no_hint ?_)
  refine wpAny_pure ?_
  show wpAny _ A.in1.in1 (rule "list.extend.makes-room" >>= fun zu=>Builtin.List.listTouch (.ref S) >>= fun zu=>again (.builtin "list.extend.loop" ⟨[.ref S,.ref ga,.none],[]⟩)) _ _ _
  refine wpAny_bind (wpAny_rule ?_)
  refine wpAny_bind ?_
  show wpAny _ A.in1.in1 (updateSeq S (·.push .none) >>= fun zu=>updateSeq S (·.pop)) _ _ _
  refine wpAny_bind (wpAny_updateSeq hS2 rfl ?_)
  have hS3:=Heap.get?_update_self (Obj.mapSeq (·.push Value.none)) hS2 rfl
  refine wpAny_updateSeq (hz:=by seq_fits) hS3 rfl ?_
  have hS4:=Heap.get?_update_self (Obj.mapSeq (·.pop)) hS3 rfl
  have oth:∀(H:Heap) b o,b≠S→H.get? b=some o→((H.update S (Obj.mapSeq (·.push Value.none))).update S (Obj.mapSeq (·.pop))).get? b=some o:=
   fun H b o hb e=>(Heap.get?_update_other _ _ (Ne.symm hb)).trans ((Heap.get?_update_other _ _ (Ne.symm hb)).trans e)
  have W3:=W.turnG (t:=s.toks) hS4 (oth _)
  exact wpAny_pure ⟨plainId_quiet PySem.F.plain_extend_loop _,hk _ _ W3⟩
end
end
section
section
variable {C:Cf} {A:Around} {hp:HP} {s s':Shared} {env:Env} {F F':FH} {E:Value→Shared→Prop} {loc:PL}
noncomputable def Sub (hp hp':HP):Prop:=∀a x,hp a=some x→hp' a=some x
theorem Sub.refl (hp:HP):Sub hp hp:=fun zu zu e=>e
theorem Sub.of {hp hp':HP} (h:∀a,hp a≠none→hp' a=hp a):Sub hp hp':=fun a x e=>by rw [h a (by rw [e];exact fun z=>nomatch z)];exact e
noncomputable def Dl (F:FH) (hp:HP) (h:Heap):FH:=fun b=>match F b,hp b with|none,none=>h.get? b|_,_=>none
theorem HN {h:Heap} {b:Addr} {o:Obj} (e:Dl F hp h b=some o):F b=none∧hp b=none∧h.get? b=some o:=by
 unfold Dl at e
 cases q1:F b with
 |some x=>rw [q1] at e;exact Aj e
 |none=>
  cases q2:hp b with
  |some x=>rw [q1,q2] at e;exact Aj e
  |none=>rw [q1,q2] at e;exact ⟨rfl,rfl,e⟩
theorem Dk {h:Heap} {b:Addr} (h1:F b=none) (h2:hp b=none):Dl F hp h b=h.get? b:=by
 unfold Dl
 rw [h1,h2]
theorem HM {h:Heap} {b:Addr} (k:F b=none→hp b=none→False):Dl F hp h b=none:=by
 cases q:Dl F hp h b with
 |none=>rfl
 |some o=>refine xa0_3 (HN q) ?_;intro h1 h2 zu;exact (k h1 h2).elim
theorem Wp.wd (w:Wp C A hp F s):Wd C F (Dl F hp s.heap) hp s:=
 ⟨w.base,w.fz,fun b o e=>⟨o,(HN e).2.2,.inl rfl⟩,fun a x e=>⟨(w.ob a x e).1,HM (fun zu q=>by rw [e] at q;exact Ap q),(w.ob a x e).2⟩,w.os,w.bare,w.gi,fun b o e=>HM (fun q zu=>by rw [e] at q;exact Ap q)⟩
theorem Wp.fs (w:Wp C A hp F s):Fs A (Dl F hp s.heap):=by
 refine xa1_2 w.fr ?_;intro l a b
 refine ⟨l,a,fun e he=>?_⟩
 refine cps fun zP zk=>?_;(rcases b e he with ⟨p,L,q1,q2,q3,o,q4,q5⟩)<;>(refine zk ?_;clear zk zP)
 exact ⟨p,L,o,q1,(Dk q2 q3).trans q4,q5⟩
theorem Wp.back (w:Wp C A hp F s) {hp':HP} (e:AE F F') (W:Wd C F' (Dl F hp s.heap) hp' s') (hs:Sub hp hp'):BC C A hp F s F' s':=by
 have kg:∀b o,s.heap.get? b=some o→hp b=none→∃o',s'.heap.get? b=some o'∧Fh o o':=fun b o h1 h2=>by
  cases q:F b with
  |none=>exact W.gz b o ((Dk q h2).trans h1)
  |some o'=>
   have:=w.fz _ _ q
   rw [h1] at this;(have zc:=Option.some.inj this;clear this;subst zc)
   exact ⟨o,W.fz _ _ (e _ _ q),.inl rfl⟩
 have off:∀{b o},s.heap.get? b=some o→F b=none→hp b=none→F' b=none:=fun {b o} h1 h2 h3=>by
  cases q:F' b with
  |none=>rfl
  |some o'=>have:=W.fg _ _ q;rw [Dk h2 h3,h1] at this;exact Ap this
 refine ⟨w,⟨W.base,W.fz,fun a x q=>⟨(W.ob a x (hs a x q)).1,(W.ob a x (hs a x q)).2.2⟩,W.os,W.bare,fun a b g gs gs' h1 h2=>W.gi a b g gs gs' (hs _ _ h1) (hs _ _ h2),?_⟩,e,kg,fun b o q=>?_⟩
 ·refine xa1_2 w.fr ?_;intro l a b
  refine ⟨l,a,fun y hy=>?_⟩
  refine cps fun zP zk=>?_;(rcases b y hy with ⟨p,L,q1,q2,q3,o,q4,es,ep,q5⟩)<;>(refine zk ?_;clear zk zP)
  refine xa1_2 (kg L o q4 q3) ?_;intro o' z1 z2
  exact ⟨p,L,q1,off q4 q2 q3,q3,o',z1,es,ep,z2.data.trans q5⟩
 ·cases z:s.heap.get? b with
  |none=>exact .inr rfl
  |some o'=>
   left
   cases z2:F b with
   |some o2=>have:=e _ _ z2;rw [q] at this;exact this.symm
   |none=>
    cases z3:hp b with
    |none=>rw [off z z2 z3] at q;exact Aj q
    |some x=>rw [(W.ob b x (hs _ _ z3)).1] at q;exact Aj q
inductive Args (hp:HP):List PV→List AV→Prop
 |nil:Args hp [] []
 |val {x pvs xs} (h:Args hp pvs xs):Args hp ((x,false)::pvs) (x::xs)
 |own {xs a pvs ys} (ho:hp a=some (.list xs)) (h:Args hp pvs ys):Args hp ((.lst xs,true)::pvs) (.ref a::ys)
theorem DK.args {pvs:List PV} {us:List Value} (r:DK hp F pvs us):∃xs,Args hp pvs xs∧VRs F xs us:=by
 induction r with
 |nil=>exact ⟨[],.nil,.nil⟩
 |cons a zu ih=>
  refine xa1_2 ih ?_;(try clear ih);intro ys h1 h2
  cases a with
  |val r=>exact ⟨_,.val h1,.cons r h2⟩
  |own ho=>exact ⟨_,.own ho h1,.cons (.ref _) h2⟩
noncomputable def OM (C:Cf) (A:Around) (hp:HP) (f:Value) (pvs:List PV) (Q:AV→HP→Prop):Prop:=∀xs,Args hp pvs xs→Cl C A f xs hp Q
inductive Pj (C:Cf) (A:Around) (hp:HP) (F:FH) (s:Shared) (Q:AV→HP→Prop) (v:Value) (s':Shared):Prop
 |mk (F₁:FH) (s₁:Shared) (st:BC C A hp F s F₁ s₁) (h:PX C (Dl F₁ hp s₁.heap) F₁ Q v s')
theorem Pj.pu {v':AV} {v:Value} (h:Pj C A hp F s (fun v hp'=>v=v'∧Sub hp hp') v s'):CB C A hp F s (fun F' v=>Cs hp F' (v',false) v) v s':=by
 refine cps fun zP zk=>?_;(rcases h with ⟨F₁,s₁,st,F',av,hp',e,hv,W,rfl,hs⟩)<;>(refine zk ?_;clear zk zP)
 exact ⟨F',st.trans (st.w'.back e W hs),.val hv⟩
theorem OM.use {f:Value} {pvs:List PV} {Q:AV→HP→Prop} (h:OM C A hp f pvs Q) (w:Wp C A hp F s) {us:List Value} (r:DK hp F pvs us):wpAny (model C.prog C.w) A (PySem.call f us) (Pj C A hp F s Q) E s:=by
 refine xa1_2 r.args ?_;intro xs h1 h2
 exact wpAny_mono (h xs h1 F _ s us E w.fs w.wd h2) (fun v s' z=>⟨F,s,.refl w,z⟩) fun zu zu x=>x
theorem OM.pc {f:Value} {pvs:List PV} {v:AV} (h:OM C A hp f pvs (fun v' hp'=>v'=v∧Sub hp hp')):PK C A hp f pvs (v,false):=fun F s E us w r=>
 wpAny_mono (h.use w r) (fun zu zu z=>z.pu) fun zu zu x=>x
noncomputable def PW (C:Cf) (A:Around) (hp:HP) (env:Env) (loc:PL) (e:Expr) (Q:AV→HP→Prop):Prop:=
 ∀F s (E:Value→Shared→Prop),CY C A hp F s env loc→wpAny (model C.prog C.w) A (eval e env) (Pj C A hp F s Q) E s
theorem Mj {x:Str} {px pos:Pos} {e:Expr} {f:Value} {Q Q':AV→HP→Prop} (hg:GL C x f) (h:PW C A hp env loc e Q) (hc:∀av hp',Q av hp'→Cl C A f [av] hp' Q') (hf:autoParam (∀h':Heap,(∀b o,C.h0.get? b=some o→h'.get? b=some o)→Dv C h' f) AC.aux6._auto_1) (hk:autoParam (env.kindOf x=some .globalImplicit) AC.aux0._auto_1)
  (he:autoParam (eval (.Call (.Name x px) [e] [] pos) env=(do callWith pos (←eval (.Name x px) env) [] [(false,eval e env)] [])) AC.aux0._auto_1) (hd:autoParam ((x == ("__debug__" : Str))=false) AC.aux1._auto_1):PW C A hp env loc (.Call (.Name x px) [e] [] pos) Q':=fun F s E c=>by
 rw [he]
 refine wpAny_bind (wpAny_Name ?_ hd)
 rw [D8 c.kind hk]
 refine hg env c.glob.1 c.glob.2 A _ E s c.wp.old (BH (Bp rfl rfl ?_))
 show wpAny _ _ (do let v ←eval e env;let here ←pure [v];return here++(←holding here (spliced []))) _ _ _
 refine wpAny_bind (wpAny_mono (h F s E c) (fun v s' z=>wpAny_bind (wpAny_pure (wpAny_bind (wpAny_holding (wpAny_pure (wpAny_pure (wpAny_pure ?_))))))) fun zu zu x=>x)
 refine cps fun zP zk=>?_;(rcases z with ⟨F₁,s₁,st,F',av,hp',e1,hv,W,q⟩)<;>(refine zk ?_;clear zk zP)
 refine ⟨hf _ W.old,wpAny_mono (hc av hp' q F' _ s' [v] E st.w'.fs W (.cons hv .nil)) (fun u s2 z=>?_) fun zu zu x=>x⟩
 refine xa3_4 z ?_;(try clear z);intro F2 av2 hp2 e2 hv2 W2 q2
 exact ⟨F₁,s₁,st,F2,av2,hp2,e1.trans e2,hv2,W2,q2⟩
end
end
section
noncomputable def Dj (K:Frag) (f:Addr):FdRest:=match K.lookup f with
 |some o=>(match o.data with|.func fd=>⟨fd.name,fd.qualname,fd.kwdefaults,fd.doc,fd.pyModule,fd.annotations,fd.code,fd.closureTuple⟩|_=>⟨"", "",.none,.none,.none,none,.none,.none⟩)
 |none=>⟨"", "",.none,.none,.none,none,.none,.none⟩
noncomputable def LW (K:Frag) (v:Value) (q:Str):Bool:=match v with
 |.ref c=>(match K.lookup c with
  |some o=>(match o.data with|.fields vs=>(match (vs[1]?:Option Value) with|some (.str q' _)=>q' == q|_=>false)|_=>false)
  |none=>false)
 |_=>false
theorem fnAt_of {C:Cf} {K:Frag} (X:K.In C.h0) (lim:C.h0.NoLimit) {f:Addr} {d:Co} {dflt:Value} (h:(K.lookup f).map (·.data)=some (.func ((Dj K f).fd d dflt))) (hc:LW K (Dj K f).code (Dj K f).qual=true):∃r:FdRest,FnAt C f (r.fd d dflt):=by
 refine xa1_2 (Option.map_eq_some_iff.mp h) ?_;intro o ho hd
 refine ⟨Dj K f,⟨o,X _ _ ho,hd⟩,?_,lim⟩
 show C.h0.CodeRec (Dj K f).code (Dj K f).qual
 generalize (Dj K f).code=v at hc
 generalize (Dj K f).qual=q at hc
 unfold LW at hc
 split at hc
 ·rename_i c
  split at hc
  ·rename_i oc hoc
   split at hc
   ·rename_i vs hvs
    split at hc
    ·rename_i q' t hq
     exact ⟨c,oc,vs,t,rfl,X _ _ hoc,hvs,by rw [hq,beq_iff_eq.mp hc]⟩
    ·exact Bv hc
   ·exact Bv hc
  ·exact Bv hc
 ·exact Bv hc
noncomputable def Np:Env:=callEnv ((⟨"", "",.none,.none,.none,none,.none,.none⟩:FdRest).fd Ji .none) 0 66
theorem gl_of {C:Cf} {K:Frag} (X:K.In C.h0) {x:Str} {v:Value} (h:peek K ⟨C.prog,C.w.params⟩ (loadGlobal Np x)=some v):GL C x v:=by
 intro env h1 h2
 have e:loadGlobal env x=loadGlobal Np x:=by
  unfold loadGlobal
  rw [h1,h2];rfl
 rw [e]
 exact Looks.of_peek (M:=model C.prog C.w) X h
noncomputable def Nn (K:Frag):Bool:=match K.lookup cStatics with
 |some o=>(match o.data with|.dict es _=>(nsFind es "sys.recursionlimit").isNone&&es.toList.all (fun e=>match e.key with|.str ..=>true|_=>false)|_=>false)
 |none=>false
theorem lim_of {h:Heap} {K:Frag} (X:K.In h) (e:Nn K=true):h.NoLimit:=by
 unfold Nn at e
 split at e
 ·rename_i o ho
  split at e
  ·rename_i es ep hd
   rw [Bool.and_eq_true] at e
   refine ⟨fun x=>nsFind es x,⟨o,es,ep,X _ _ ho,hd,fun en hen=>?_,fun zu=>rfl⟩,by simpa using e.1⟩
   have:=List.all_eq_true.mp e.2 en (by simpa using hen)
   split at this
   ·rename_i n t hk;exact ⟨n,t,hk⟩
   ·exact Bv this
  ·exact Bv e
 ·exact Bv e
theorem ns_of {C:Cf} {K:Frag} (X:K.In C.h0) {Cl:Addr} {name:Str} (h1:findIn K (.ref Cl) "__getattribute__" = some (some (.builtin "object.__getattribute__"))) (h2:findIn K (.ref Cl) "__getattr__" = some none)
  (h3:(clsIn K Cl).map (·.hasDict)=some true) (h4:findIn K (.ref Cl) name=some none) (h5:findIn K (.ref Cl) "__setattr__" = some (some (.builtin "object.__setattr__"))) (h6:plainOver K Cl=true) (h7:takerIn K Cl name=some none):H6 C Cl name:=by
 refine xa1_2 (Option.map_eq_some_iff.mp h3) ?_;intro cd hc hh
 exact ⟨K,cd,X,h1,h2,hc,hh,h4,h5,h6,h7⟩
end
section
variable {C:Cf} {A:Around} {s:Shared} {σ:Al} {F G:FH} {env:Env}
theorem BY:∀(names:List (Str×NameKind)) (n:Nat) (acc:List (Str×Addr)) (x:Str),((x,NameKind.cell)∈names∨(acc.lookup x).isSome=true)→((cellsFrom n names acc).lookup x).isSome=true
 |[],_,acc,x,h=>by
  rcases h with h|h
  ·cases h
  ·exact h
 |(y,k)::r,n,acc,x,h=>by
  unfold cellsFrom
  split
  ·rename_i hk
   refine BY r _ _ x ?_
   rcases h with h|h
   ·rcases List.mem_cons.mp h with e|h
    ·cases e;right;simp [List.lookup]
    ·exact .inl h
   ·right
    simp only [List.lookup]
    split
    ·rfl
    ·exact h
  ·rename_i hk
   refine BY r _ _ x ?_
   rcases h with h|h
   ·rcases List.mem_cons.mp h with e|h
    ·cases e;simp at hk
    ·exact .inl h
   ·exact .inr h
theorem Bo {α:Type}:∀{l:List (Str×α)} {x:Str} {v:α},l.lookup x=some v→(x,v)∈l
 |[],_,_,h=>by exact Aj h
 |(y,u)::l,x,v,h=>by
  simp only [List.lookup] at h
  split at h
  ·rename_i q;(have zc:=Option.some.inj h;clear h;subst zc);rw [beq_iff_eq.mp q];exact List.mem_cons_self ..
  ·exact List.mem_cons_of_mem _ (Bo h)
theorem Ca {α:Type}:∀(l m:List (Str×α)) (x:Str),(l++m).lookup x=(l.lookup x).or (m.lookup x)
 |[],m,x=>by simp
 |(y,u)::l,m,x=>by
  simp only [List.cons_append,List.lookup]
  split
  ·simp
  ·exact Ca l m x
theorem Gq (ko:Str→Option NameKind):∀(bs:List (Str×Value)) (m:Str→Option Value) (x:Str),bs.reverse.lookup x=none→bindL ko bs m x=m x
 |[],_,_,_=>rfl
 |(n,v)::r,m,x,h=>by
  rw [List.reverse_cons,Ca,Option.or_eq_none_iff] at h
  unfold bindL
  rw [Gq ko r _ x h.1]
  have hn:x≠n:=fun zE=>by (first|rw [zE] at h|rw [←zE] at h);simp [List.lookup] at h
  split
  ·simp [hn]
  ·rfl
theorem Gp (ko:Str→Option NameKind):∀(bs:List (Str×Value)) (m:Str→Option Value) (x:Str) (v:Value),bs.reverse.lookup x=some v→ko x=some .local→bindL ko bs m x=some v
 |[],_,_,_,h,_=>by exact Aj h
 |(n,w)::r,m,x,v,h,hk=>by
  rw [List.reverse_cons,Ca] at h
  unfold bindL
  cases hr:r.reverse.lookup x with
  |some v'=>rw [hr] at h;(have zc:=Option.some.inj h;clear h;subst zc);exact Gp ko r _ x _ hr hk
  |none=>
   rw [hr,Option.none_or] at h
   simp only [List.lookup] at h
   split at h
   ·rename_i q
    (have zc:=Option.some.inj h;clear h;subst zc)
    rw [Gq ko r _ x hr]
    have:=beq_iff_eq.mp q
    subst this
    rw [if_pos hk];simp
   ·exact Aj h
theorem Gs (ko:Str→Option NameKind):∀(bs:List (Str×Value)) (m:Str→Option Value) (x:Str),bs.reverse.lookup x=none→bindC ko bs m x=m x
 |[],_,_,_=>rfl
 |(n,v)::r,m,x,h=>by
  rw [List.reverse_cons,Ca,Option.or_eq_none_iff] at h
  unfold bindC
  rw [Gs ko r _ x h.1]
  have hn:x≠n:=fun zE=>by (first|rw [zE] at h|rw [←zE] at h);simp [List.lookup] at h
  split
  ·rfl
  ·simp [hn]
theorem Gr (ko:Str→Option NameKind):∀(bs:List (Str×Value)) (m:Str→Option Value) (x:Str) (v:Value),bs.reverse.lookup x=some v→ko x≠some .local→bindC ko bs m x=some v
 |[],_,_,_,h,_=>by exact Aj h
 |(n,w)::r,m,x,v,h,hk=>by
  rw [List.reverse_cons,Ca] at h
  unfold bindC
  cases hr:r.reverse.lookup x with
  |some v'=>rw [hr] at h;(have zc:=Option.some.inj h;clear h;subst zc);exact Gr ko r _ x _ hr hk
  |none=>
   rw [hr,Option.none_or] at h
   simp only [List.lookup] at h
   split at h
   ·rename_i q
    (have zc:=Option.some.inj h;clear h;subst zc)
    rw [Gs ko r _ x hr]
    have:=beq_iff_eq.mp q
    subst this
    rw [if_neg hk];simp
   ·exact Aj h
noncomputable def G1 (C:Cf) (fd:FuncData) (args:List AV) (kw:List (Str×AV)) (loc:List (Str×AV)):Prop:=
 ∀F vs kvs,VRs F args vs→CA F kw kvs→∃bs,Looks (model C.prog C.w) C.h0 (bindArgs fd ⟨vs,kvs⟩) bs∧BR F loc bs∧(bs.all fun x=>decide (fd.scope.names.lookup x.1=some .local)||decide (fd.scope.names.lookup x.1=some .cell))=true
theorem FA {f:Addr} {fd:FuncData} {body:List Stmt} {args:List AV} {kw loc:List (Str×AV)} {hp:HP} {Q:AV→HP→Prop} (hf:FnAt C f fd) (hb:G1 C fd args kw loc)
  (h:∀L,Cd C (A.deeper (callEnvC fd L f)) (fun zu zu=>False) (callEnvC fd L f) body ⟨loc.reverse,hp⟩ (fun fl σ'=>match fl with|.ret v=>Q v σ'.hp|.next=>Q .none σ'.hp|_=>False))
  (hroom:A.depth<recursionLimit) (hbody:autoParam (fd.body=.stmts body) AC.aux0._auto_1) (hclo:autoParam (fd.closure=[]) AC.aux0._auto_1) (hfree:autoParam ((fd.scope.names.all fun x=>x.2 != .free)=true) AC.aux0._auto_1)
  (hco:autoParam (fd.scope.isCoroutine=false) AC.aux0._auto_1) (hgen:autoParam (fd.scope.isGenerator=false) AC.aux0._auto_1) (hk:autoParam (fd.scope.kind=.function) AC.aux0._auto_1) :
  Fn C A (.ref f) args kw hp Q:=by
 intro F G s vs kvs fs W hv hkv
 refine xa1_2 hf.at_ ?_;intro o ho hd
 refine xa1_3 (hb F vs kvs hv hkv) ?_;intro bs hB hbr hl
 have noF:∀L x,(callEnvC fd L f).kindOf x≠some .free:=by
  intro L x e
  have:=List.all_eq_true.mp hfree _ (Bo (show fd.scope.names.lookup x=some .free from e))
  simp at this
 refine codeAny_call_function hroom (W.old _ _ ho) hd hco hgen hbody (hf.code.keeps W.old) ?_
 refine hB _ _ _ s W.old ?_
 rw [hclo]
 refine wpAny_newFunctionEnv_cells hk (fun x hx=>?_) (fun env he s' X=>?_)
 ·have:=List.all_eq_true.mp hl x hx
  rw [Bool.or_eq_true,decide_eq_true_iff,decide_eq_true_iff] at this
  refine this.imp_right (fun e=>⟨e,BY _ _ _ _ (.inl (Bo e))⟩)
 ·subst he
  refine ⟨hf.lim.keeps fun b o e=>X.toInCall.keep _ _ (W.old _ _ e),codeAny_func ?_⟩
  refine xa0_3 (W.lt (Nat.le_refl s.heap.objs.size)) ?_;intro z1 z2 z3
  refine xa1_2 fs ?_;(try clear fs);intro fl fs1 fs2
  have hfs:G9 (A.deeper (callEnvC fd s.heap.objs.size f)) G (callEnvC fd s.heap.objs.size f):=
   ⟨callEnvC fd s.heap.objs.size f,fl,by simp only [Around.deeper,fs1,Option.map_some],by show fd.scope.kind≠_;rw [hk];decide,rfl,.inl ⟨rfl,rfl⟩,fs2⟩
  have hR:Rp C (A.deeper (callEnvC fd s.heap.objs.size f)) F G (callEnvC fd s.heap.objs.size f) ⟨loc.reverse,hp⟩ s':=by
   refine cps fun zP zk=>?_;(rcases X with ⟨⟨⟨h',tk,rfl⟩,hns,hkp,hfr⟩,hcell,hap,hab⟩)<;>(refine zk ?_;clear zk zP)
   refine ⟨W.keep hkp,⟨hk,⟨_,hns,fun x av hx hkx=>?_⟩,⟨z1,z2,z3⟩,fun x hx=>?_,fun x y c hx hy h1 h2=>?_,fun x av c h1 h2 h3=>?_,fun x zu zu hx=>absurd hx (noF _ x)⟩,hfs⟩
   ·refine xa1_2 (hbr.reverse.look hx) ?_;intro v hv hr
    exact ⟨v,Gp _ bs _ x v hv hkx,hr⟩
   ·have hs:=BY fd.scope.names (s.heap.objs.size+1) [] x (.inl (Bo (show fd.scope.names.lookup x=some .cell from hx)))
    refine xa1_1 (Option.isSome_iff_exists.mp hs) ?_;intro c hc
    have hLc:=hab x c (Bo hc)
    refine xa0_3 (W.lt (Nat.le_of_lt hLc)) ?_;intro w1 w2 w3
    exact ⟨c,hc,w1,w2,w3,Nat.ne_of_gt hLc,_,hcell x c hc⟩
   ·exact name_of_addr hap (Bo h1) (Bo h2)
   ·refine xa1_2 (hbr.reverse.look h1) ?_;intro v hv hr
    have:=hcell x c h3
    rw [Gr _ bs _ x v hv (fun e=>by have e2:=(show (callEnvC fd s.heap.objs.size f).kindOf x=some .local from e);rw [h2] at e2;cases e2)] at this
    exact ⟨v,this,hr⟩
  refine wpAny_mono ((h s.heap.objs.size).go hR (AE.refl F)) (fun fl s' z=>?_) fun zu zu x=>x.elim
  refine cps fun zP zk=>?_;(rcases z with ⟨F',b,σ',e1,r,hR',q⟩)<;>(refine zk ?_;clear zk zP)
  cases r with
  |next=>exact ⟨F',_,.none,σ'.hp,rfl,e1,.none,hR'.wd,q⟩
  |brk=>exact q.elim
  |cont=>exact q.elim
  |ret hvr=>exact ⟨F',_,_,σ'.hp,rfl,e1,hvr,hR'.wd,q⟩
end
section
section
variable {C:Cf} {A:Around} {s:Shared} {σ:Al} {F G:FH} {env:Env} {E:Value→Shared→Prop}
theorem Jw (hp:HP) (a:Addr) (x y:AO):upd (upd hp a x) a y=upd hp a y:=by funext b;simp only [upd];split<;>rfl
theorem Rp.sub {hp:HP} (hR:Rp C A F G env σ s) (h:Sub hp σ.hp):Rp C A F G env { σ with hp:=hp } s:=by
 have W:=hR.wd
 have no:∀{b},σ.hp b=none→hp b=none:=fun {b} e=>by
  cases q:hp b with
  |none=>rfl
  |some x=>rw [h b x q] at e;exact Ap e
 refine cps fun zP zk=>?_;(rcases hR.fm with ⟨kd,ns,⟨l1,l2,l3⟩,co,ci,cv,fv⟩)<;>(refine zk ?_;clear zk zP)
 refine ⟨⟨W.base,W.fz,W.gz,fun a x e=>W.ob a x (h a x e),W.os,W.bare,fun a b g gs gs' ea eb=>W.gi _ _ _ _ _ (h _ _ ea) (h _ _ eb),W.fg⟩,⟨kd,ns,⟨l1,l2,no l3⟩,fun x hx=>?_,ci,cv,fv⟩,hR.fs⟩
 refine xa1_5 (co x hx) ?_;intro c g1 g2 g3 g4 g5
 exact ⟨c,g1,g2,g3,no g4,g5⟩
noncomputable def C1 (hp:HP) (a:Addr):HP:=fun b=>if b=a then none else hp b
theorem LT {hp:HP} {a:Addr}:Sub (C1 hp a) hp:=fun b x e=>by
 unfold C1 at e
 split at e
 ·exact Aj e
 ·exact e
theorem Iv {hp:HP} {a:Addr} {x:AO} (h:hp a=none):C1 (upd hp a x) a=hp:=by
 funext b
 simp only [upd,C1]
 by_cases q:b=a
 ·simp [q,h]
 ·simp [q]
theorem Rp.freezeL {a:Addr} {xs:List AV} (hR:Rp C A F G env σ s) (ha:σ.hp a=some (.list xs)):∃F',AE F F'∧VR F' (.lst xs) (.ref a)∧Rp C A F' G env ⟨σ.loc,C1 σ.hp a⟩ s:=by
 refine cps fun zP zk=>?_;(rcases hR.wd.ob a _ ha with ⟨p,q,o,ho,r⟩)<;>(refine zk ?_;clear zk zP)
 refine xa0_4 (hR.apart ha) ?_;intro zu zu a3 a4
 refine xa0_2 ((hR.sub (LT (a:=a))).freezeAt ho p q (if_pos rfl) a3 a4) ?_;intro hR₂ ex
 (refine OR.listC r fun zv zv b1 b2 b3 b4 b5=>?_;clear r)
 exact ⟨_,ex,.lst (Au _ _ _) b1 b4 (b5.mono ex),hR₂⟩
theorem Rp.relist {x:Str} {a:Addr} {xs:List AV} (hR:Rp C A F G env σ s) (hx:σ.loc.lookup x=some (.ref a)) (hv:VR F (.lst xs) (.ref a)):Rp C A F G env (σ.set x (.lst xs)) s:=by
 refine cps fun zP zk=>?_;(rcases hR with ⟨W,⟨kd,⟨m,hm,hmv⟩,lo,co,ci,cv,fv⟩,fs⟩)<;>(refine zk ?_;clear zk zP)
 refine ⟨W,⟨kd,⟨m,hm,fun y av h1 h2=>?_⟩,lo,co,ci,fun y av c h1 h2 h3=>?_,fun y av h1 h2=>?_⟩,fs⟩
 ·rw [AI] at h1
  split at h1
  ·rename_i q;subst q;(have zc:=Option.some.inj h1;clear h1;subst zc)
   refine xa1_2 (hmv y _ hx h2) ?_;intro v a1 a2
   (have zc:=VR.refI a2;clear a2;subst zc);exact ⟨_,a1,hv⟩
  ·exact hmv y av h1 h2
 ·rw [AI] at h1
  split at h1
  ·rename_i q;subst q;(have zc:=Option.some.inj h1;clear h1;subst zc)
   refine xa1_2 (cv y _ c hx h2 h3) ?_;intro v a1 a2
   (have zc:=VR.refI a2;clear a2;subst zc);exact ⟨_,a1,hv⟩
  ·exact cv y av c h1 h2 h3
 ·rw [AI] at h1
  split at h1
  ·rename_i q;subst q;(have zc:=Option.some.inj h1;clear h1;subst zc)
   refine xa3_4 (fv y _ hx h2) ?_;intro c v o a1 a2 a3 a4
   (have zc:=VR.refI a4;clear a4;subst zc);exact ⟨c,_,o,a1,a2,a3,hv⟩
  ·exact fv y av h1 h2
theorem Tr.freeze {α β:Type} {R:FH→β→α→Prop} {t:Sem α} {Q:β→Al→Prop} (x:Str) (a:Addr) (xs:List AV) (ha:σ.hp a=some (.list xs)) (hx:σ.loc.lookup x=some (.ref a)) (h:Tr C A E env R t ⟨Fj σ.loc x (.lst xs),C1 σ.hp a⟩ Q):Tr C A E env R t σ Q:=by
 intro F G s hR
 refine xa1_3 (hR.freezeL ha) ?_;intro F' e hv hR₂
 exact h.go (hR₂.relist hx hv) e
theorem Dx {body:List Stmt} {Q:A7→Al→Prop} {loc:List (Str×AV)} (hl:CK loc σ.loc) (h:Cd C A E env body ⟨loc,σ.hp⟩ Q):Cd C A E env body σ Q:=fun F G s hR=>h F G s (hR.weakLoc hl)
theorem A5 {l:List (Str×AV)}:CK [] l:=fun x av h=>by exact Aj h
theorem Ac {x:Str} {v:AV} {r l:List (Str×AV)} (h:l.lookup x=some v) (k:CK r l):CK ((x,v)::r) l:=fun y av e=>by
 simp only [List.lookup] at e
 split at e
 ·rename_i q
  (have zc:=Option.some.inj e;clear e;subst zc)
  rw [beq_iff_eq.mp q];exact h
 ·exact k y av e
theorem K5 (l:Addr) (items:Array Value) (n:Nat) (b:Addr) (items2:Array Value) (n2:Nat) (dd:Option Addr) (sl:Array (Option Value)) (hs0:¬(!items.isEmpty&&Builtin.List.listTooLong (items.size+items2.size))=true) (hs1:items.size≤sizeLine) (hs2:items.size+items2.size≤sizeLine+1) :
  Meets (Builtin.«list.extend» ⟨[.ref l,.ref b],[]⟩) (fun zu R s=>s.heap.get? l=some { cls:=.type "list",dict:=none,data:=.seq items n,slots:=#[] }∧s.heap.get? b=some { cls:=.type "tuple",dict:=dd,data:=.seq items2 n2,slots:=sl }∧R (.ok (.ret Value.none)) { s with heap:=s.heap.update l (Obj.mapSeq fun x=>x++items2),toks:=s.toks }):=
 .of_wp fun prog w A R s h=>by
  refine cps fun zP zk=>?_;(rcases s with ⟨hp,g,d,tk,os⟩)<;>(refine zk ?_;clear zk zP);refine xa0_3 h ?_;(try clear h);intro hl hb h
  have f1:=AutoSeq1.idx_int;have f2:=AutoSeq1.sub_tuple_tuple;have f3:=AutoSeq1.sub_list_list;have f4:=AutoSeq1.sub_tuple_list;have f5:=AutoSeq1.sub_list_tuple
  have hz':(items++items2).size≤sizeLine+1:=by rw [Array.size_append];exact hs2
  wp_walk using (wpAny_updateSeq hl rfl (hz:=hs1) (_hz':=hz')),AutoSeq1.wpAny_loadPart' hl,AutoSeq1.wpAny_loadPart' hb
  exact ⟨_,rfl,h⟩
theorem Gd {a:Addr} {xs:List AV} {Q:AV→List AV→Al→Prop} (ha:σ.hp a=some (.list xs)) (h:Q (.val (.builtin "list.extend")) [.ref a] σ):Du C A E env (.ref a) "extend" σ Q:=
 AW ha OR.clsL PySem.F.plainAttrs_list PySem.F.slot_list_extend PySem.F.type_list_extend h
theorem Fl {a:Addr} {xs ys:List AV} {Q:AV→Al→Prop} (ha:σ.hp a=some (.list xs)) (hz:xs.length+ys.length≤100000) (h:Q .none (σ.put a (.list (xs++ys)))):Br C A E env (.val (.builtin "list.extend")) [.ref a] [.tup ys] [] σ Q:=by
 refine AB fun F G s us vs hR hus hvs=>?_
 refine xa2_3 hus.inv ?_;intro v1 us1;rintro rfl;intro h1 h2
 obtain rfl:=h2.inv0
 obtain rfl:=h1.refI
 refine xa2_3 hvs.inv ?_;intro v2 us2;rintro rfl;intro h3 h4
 obtain rfl:=h4.inv0
 refine xa4_5 h3.tupInv ?_;intro b;intro zq;refine cps fun zP zk=>?_;(rcases zq with ⟨cls,dd,data,sl⟩)<;>(refine zk ?_;clear zk zP);intro ws n2;rintro rfl;intro ho hc hd hws
 replace ho:=hR.wd.fz _ _ ho
 dsimp only at hc hd
 subst hc hd
 refine xa2_2 (hR.list ha) ?_;intro us n hl hv
 have e1:=hv.length
 have e2:=hws.length
 have hsz:us.toArray.size+ws.toArray.size≤sizeLine:=by simp only [List.size_toArray,e1,e2,sizeLine_eq];with_reducible exact Bj ‹_› (by decide)
 refine call_meets PySem.F.slot_list_extend ⟨_,hl,rfl⟩ PySem.F.entry_list_extend (PySem.F.args_list_extend_2 _ _) (K5 a us.toArray n b ws.toArray n2 dd sl (extend_door hsz) (Nat.le_trans (Nat.le_add_right _ _) hsz) (Nat.le_succ_of_le hsz)) ⟨hl,ho,?_⟩
 have hl':=hl.update (fun x=>x++ws.toArray)
 refine ⟨F,.none,_,AE.refl F,.none,hR.change ha rfl hl' ?_ (SameBut.rest (Heap.SameBut.update ..)),h⟩
 have e:us.toArray++ws.toArray=(us++ws).toArray:=by simp
 rw [e]
 exact OR.ofL (hv.append hws)
theorem NB {l:Addr} {items:Array Value} {n:Nat} {k:Int} {t:Tok} {v:Value} {Q:Unit→Shared→Prop} {prog:Program} {w:World} (hl:IsL s.heap l items n) (h0:0≤k) (hfit:k<2 ^ 63) (hn:k<items.size)
  (hQ:Q () { s with heap:=s.heap.update l (Obj.mapSeq (·.setIfInBounds k.toNat v)) }):wpAny (model prog w) A (setItem (.ref l) (.int k t) v) Q E s:=by
 unfold setItem
 try with_reducible refine wpAny_holding ?_
 first|refine wpAny_bind (wpAny_pure ?_)|skip
 refine wpAny_bind (wpAny_sequenceKey hl.isList.typeIs (by decide) ?_)
 refine wpAny_bind (wpAny_callSpecial?_slot (name:=Str.ofString "__setitem__") hl.isList.typeIs slot_list_setitem (wpAny_call_entry slot_list_setitem hl.isList.typeIs entry_list_setitem ?_ (args_list_setitem _ _ _)))
 show wpAny _ _ (Builtin.List.listSubscript? (.int k t) >>= _) _ _ s
 refine wpAny_bind (wpAny_listSubscript_int (fitsIndex_of h0 hfit) ?_)
 clear hfit
 refine xa1_1 (Int.eq_ofNat_of_zero_le h0) ?_;intro j;rintro rfl
 have hj:j<items.size:=by omega
 show wpAny _ _ ((seqItemAt l j >>= fun r=>pure (r.map (j,·))) >>= _) _ _ s
 refine wpAny_bind (wpAny_bind (wpAny_seqItemAt hl rfl (wpAny_pure ?_)))
 rw [Array.getElem?_eq_getElem hj]
 show wpAny _ _ (setSeqItemAt l j v >>= _) _ _ s
 refine wpAny_bind (wpAny_setSeqItemAt hl rfl ?_)
 first
  |exact wpAny_bind (wpAny_pure (wpAny_pure ⟨.none,rfl,wpAny_pure hQ⟩))
  |exact wpAny_pure ⟨.none,rfl,wpAny_pure hQ⟩
theorem VRs.set {xs:List AV} {vs:List Value} (h:VRs F xs vs) (i:Nat) {x:AV} {v:Value} (hv:VR F x v):VRs F (xs.set i x) (vs.set i v):=by
 induction i generalizing xs vs with
 |zero=>cases h with
  |nil=>exact .nil
  |cons a b=>exact .cons hv b
 |succ i ih=>cases h with
  |nil=>exact .nil
  |cons a b=>exact .cons a (ih b)
theorem E1 {a:Addr} {xs:List AV} {k:Int} {x:AV} {Q:Al→Prop} (ha:σ.hp a=some (.list xs)) (h0:0≤k) (hk:k<xs.length) (hz:xs.length≤100000) (h:Q (σ.put a (.list (xs.set k.toNat x)))) :
  ∀F G s vv vb vk,Rp C A F G env σ s→VR F x vv→VR F (.ref a) vb→VR F (.int k) vk→wpAny (model C.prog C.w) A (setItem vb vk vv) (fun zu s'=>∃F' σ',AE F F'∧Rp C A F' G env σ' s'∧Q σ') E s:=by
 intro F G s vv vb vk hR hv hb hki
 (have zc:=VR.refI hb;clear hb;subst zc);(have zc:=VR.intI hki;clear hki;rcases zc with ⟨zu,zc⟩;subst zc)
 refine xa2_2 (hR.list ha) ?_;intro ws n hl hvs
 have hlt:k<2 ^ 63:=by omega
 refine NB hl h0 hlt (by simp only [List.size_toArray,hvs.length];exact hk) ?_
 have hl':=hl.update (fun x=>x.setIfInBounds k.toNat vv)
 refine ⟨F,_,AE.refl F,hR.change ha rfl hl' ?_ (SameBut.rest (Heap.SameBut.update ..)),h⟩
 have e:ws.toArray.setIfInBounds k.toNat vv=(ws.set k.toNat vv).toArray:=by simp
 rw [e]
 exact OR.ofL (hvs.set _ hv)
theorem I3 {elts:List Expr} {pos:Pos} {Q:AV→Al→Prop} (h:M1 C A E env (backTo pos (starEach elts env)) σ (fun vs σ'=>vs.length≤100000∧Q (.lst vs) σ')):Ev C A E env (.List elts pos) σ Q:=by
 intro F G s hR
 refine List_ (h.use hR fun F₁ vs σ₁ us s₁ e₁ hv hR₁ h₁=>?_)
 have hz:us.length≤sizeLine:=by rw [hv.length,sizeLine_eq];exact A8 [_] [(1,Z0,(Zn 100000))] Z0 (Zn 16777216) rfl h₁.1
 unfold PySem.newList
 refine wpAny_newObj_type ?_ (by show us.toArray.size≤sizeLine;rw [List.size_toArray];exact hz)
 refine xa0_2 (hR₁.freeze (t:=s₁.toks) (o':={ cls:=.type "list",data:=.seq us.toArray }) rfl) ?_;intro hR₂ e₂
 exact A0.ext (e₁.trans e₂) (A0.of (.lst (Au _ _ _) rfl rfl (hv.mono e₂)) hR₂ h₁.2)
theorem Nt.deeper {e:Env} (hN:C.h0.NoSeer) (hl:C.h0.NoLimit) (ht:C.prog.given.tree=none) (hd:A.depth+1+Builtin.pylongFrames<recursionLimit) (hgen:e.scope.isGenerator=false) (hco:e.scope.isCoroutine=false) (hb:e.builtins=builtinsNs) (hg:e.globals=mainGlobals):Nt C (A.deeper e):=by
 intro s ⟨l,hfr⟩ hk
 obtain ⟨l',hl'⟩:∃l',(A.deeper e).frames=some (e::l'):=by
  unfold Around.deeper at hfr ⊢
  dsimp only at hfr ⊢
  cases q:A.frames with
  |none=>rw [q] at hfr;exact Aj hfr
  |some l'=>exact ⟨l',by simp⟩
 refine PylongRoom.of (hl.keeps hk) (by simpa [Around.deeper] using hd) (SeerAt.of (hN.keeps hk) ht hl' hgen hco hb hg)
end
end
section
section
variable {C:Cf} {A:Around} {s:Shared} {σ:Al} {F G:FH} {env:Env} {E:Value→Shared→Prop} {hp:HP} {loc:PL}
structure TpX (C:Cf):Prop where
 t:Tp C
 lim:C.h0.NoLimit
 seer:C.h0.NoSeer
 tree:C.prog.given.tree=none
 g_range:GL C "range" (.type "range")
 g_list:GL C "list" (.type "list")
 g_min:GL C "min" (.builtin "min")
 g_max:GL C "max" (.builtin "max")
 g_Tree:GL C "KeywordTree" (.ref 125)
theorem Cr {t d f:Addr} {name:Str} {X:Af} {fin ci:Bool} {Q:AV→List AV→Al→Prop} (hm:Cy C 125 name f) (hr:AK X t d fin ci σ.hp) (h:Q (.ref f) [.ref t] σ) (hn:autoParam ((EH (X.A []) X.D.length fin ci).lookup name=none) AC.aux0._auto_1):Du C A E env (.ref t) name σ Q:=
 BS hm hr.tree hr.ns hn h
noncomputable def Af.zero (z e:Addr):Af:=⟨[[]],fun zu=>z,fun zu=>e,fun zu=>none,fun zu=>[],fun zu=>none,fun zu=>none⟩
theorem KY (z e:Addr):(Af.zero z e).Ph1 where
 wf:=by
  constructor
  ·simp [Af.zero]
  ·simp [Af.zero]
  ·intro p c h;simp [Af.zero] at h
  ·intro p hp q hq zu;simp [Af.zero] at hp hq;rw [hp,hq]
  ·intro p hp x hx;simp [Af.zero] at hx
  ·intro p hp;simp [Af.zero]
  ·intro p hp x hx;simp [Af.zero] at hx
  ·intro p zu;rfl
  ·intro p v h;exact Aj h
 kid1:=by intro p hp c h;simp [Af.zero] at h
 kid0:=by intro p hp c h;rfl
 lss:=fun zu zu=>rfl
 out:=fun zu zu=>rfl
theorem IQ (T:Tp C) (hroom:A.depth+4<recursionLimit) {hp:HP} {ci:Bool} {kw:List (Str×AV)} (hkw:(kw=([("case_insensitive",.bool ci)]:List (Str×AV)))∨(kw=[]∧ci=false)) :
  Fn C A (.ref 125) [] kw hp (fun v hp'=>∃t d z e,v=.ref t∧AK (Af.zero z e) t d false ci hp'∧Cc (fun zu=>False) hp (Fp (Af.zero z e) t d) hp'):=by
 refine Lz T hroom hkw fun t d z e hp' hnd h1 h2 h3 h4 k1 k2 k3 k4 k5=>⟨t,d,z,e,rfl,⟨k1,k2,fun p hp=>?_,fun p hp=>?_⟩,⟨fun a ha zu=>k5 a (by rintro rfl;exact ha h1) (by rintro rfl;exact ha h2) (by rintro rfl;exact ha h3) (by rintro rfl;exact ha h4),fun a ha=>?_⟩⟩
 ·have:p=[]:=by simpa [Af.zero] using hp
  subst this
  exact k3
 ·exact ⟨0,k4⟩
 ·rcases ha with rfl|rfl|⟨p,zu,rfl|rfl⟩
  ·exact .inr h1
  ·exact .inr h2
  ·exact .inr h3
  ·exact .inr h4
noncomputable abbrev Mh:=Ag×AV
structure Pw (e:Mh):Prop where
 seq:∀hp,DJ e.2 (e.1.map Aw.av) hp
 nref:∀a,e.2≠.ref a
 nval:∀u,e.2≠.val u
structure Of (ci:Bool) (e:Mh):Prop where
 low:∀hp,∃v2,Mq ci e.2 v2∧DJ v2 (e.1.map Aw.av) hp∧∀a,v2≠.ref a
 len:∀hp,∃xs,DJ e.2 xs hp∧xs.length=e.1.length
 nref:∀a,e.2≠.ref a
 nval:∀v,e.2≠.val v
theorem Pw.c {e:Mh} (h:Pw e):Of false e:=⟨fun hp=>⟨e.2,.no,h.seq hp,h.nref⟩,fun hp=>⟨_,h.seq hp,by simp⟩,h.nref,h.nval⟩
noncomputable def Dq (ws:List Mh) (p:Ag):Option AV:=if p=[] then none else (ws.reverse.find? fun e=>e.1=p).map (·.2)
theorem Ks (ws:List Mh) (w:Ag) (v:AV) (p:Ag):Dq (ws++[(w,v)]) p=if w≠[]∧p=w then some v else Dq ws p:=by
 unfold Dq
 by_cases h:p=[]
 ·subst h
  simp only [if_true]
  split
  ·rename_i q;exact absurd q.2.symm q.1
  ·rfl
 ·simp only [h,if_false,List.reverse_append,List.reverse_cons,List.reverse_nil,List.nil_append,List.cons_append,List.find?_cons]
  by_cases q:w=p
  ·subst q;simp [h]
  ·simp [q,Ne.symm q]
theorem Gf {ws:List Mh} {p:Ag} {v:AV} (h:Dq ws p=some v):p≠[]∧(p,v)∈ws:=by
 unfold Dq at h
 split at h
 ·exact Aj h
 ·rename_i hp
  rw [Option.map_eq_some_iff] at h
  refine xa1_2 h ?_;(try clear h);intro zq;refine cps fun zP zk=>?_;(rcases zq with ⟨q,u⟩)<;>(refine zk ?_;clear zk zP);intro h1;rintro rfl
  have h2:=List.mem_of_find?_eq_some h1
  have h3:=List.find?_some h1
  simp at h2 h3
  subst h3
  exact ⟨hp,h2⟩
theorem Hq {ws:List Mh} {p:Ag} (hp:p≠[]):(Dq ws p).isSome=true↔∃v,(p,v)∈ws:=by
 unfold Dq
 rw [if_neg hp]
 simp only [Option.isSome_map,List.find?_isSome,List.mem_reverse,decide_eq_true_eq]
 constructor
 ·(intro zr;refine xa1_2 zr ?_;(try clear zr);intro zq;refine cps fun zP zk=>?_;(rcases zq with ⟨q,u⟩)<;>(refine zk ?_;clear zk zP);intro h1;rintro rfl);exact ⟨u,h1⟩
 ·(intro zr;refine xa1_1 zr ?_;(try clear zr);intro v h);exact ⟨(p,v),h,rfl⟩
structure TI where
 X:Af
 t:Addr
 d:Addr
 fin:Bool
 ws:List Mh
 ci:Bool
noncomputable def TI.fp (e:TI) (a:Addr):Prop:=Fp e.X e.t e.d a
noncomputable def G3 (ws:List Mh):Nat:=(ws.map fun e=>e.1.length).sum
structure TI.ok (e:TI) (hp:HP):Prop where
 rep:AK e.X e.t e.d e.fin e.ci hp
 key:∀p,e.X.key p=Dq e.ws p
 dom:∀p,p∈e.X.D↔p=[]∨∃w∈e.ws,p <+: w.1
 len:e.X.D.length≤1+G3 e.ws
 ph1:e.fin=false→e.X.Ph1
 ph3:e.fin=true→e.X.Ph3
 wok:∀w∈e.ws,Of e.ci w
structure Bf (l:List TI) (hp:HP):Prop where
 ok:∀e∈l,e.ok hp
 sep:∀(i j:Nat) (e e':TI),l[i]? = some e→l[j]? = some e'→i≠j→∀a,e.fp a→¬e'.fp a
noncomputable def Cw (l:List TI) (a:Addr):Prop:=∃e∈l,e.fp a
theorem Bf.nil {hp:HP}:Bf [] hp:=⟨fun e h=>(by cases h),fun i j e e' h=>(by simp at h)⟩
theorem TI.ok.off {e:TI} {hp hp':HP} (h:e.ok hp) (k:∀a,e.fp a→hp' a=hp a):e.ok hp':=⟨h.rep.off k,h.key,h.dom,h.len,h.ph1,h.ph3,h.wok⟩
theorem Bf.off {l:List TI} {hp hp':HP} (h:Bf l hp) (k:∀a,Cw l a→hp' a=hp a):Bf l hp':=⟨fun e he=>(h.ok e he).off fun a ha=>k a ⟨e,he,ha⟩,h.sep⟩
theorem Bf.live {l:List TI} {hp:HP} (h:Bf l hp) {a:Addr} (ha:Cw l a):hp a≠none:=by
 refine xa1_2 ha ?_;(try clear ha);intro e he hf
 exact (h.ok e he).rep.some hf
theorem Bf.turn {l:List TI} {hp hp':HP} (h:Bf l hp) {j:Nat} {e e':TI} (hj:l[j]? = some e) (fr:Cc e.fp hp e'.fp hp') (ok:e'.ok hp'):Bf (l.set j e') hp'∧Cc (Cw l) hp (Cw (l.set j e')) hp':=by
 have hlt:j<l.length:=(List.getElem?_eq_some_iff.mp hj).1
 have he:e∈l:=List.mem_of_getElem? hj
 have new:∀a,e'.fp a→∀(i:Nat) (o:TI),l[i]? = some o→i≠j→¬o.fp a:=by
  intro a ha i o hi hne ho
  rcases fr.grow a ha with q|q
  ·exact h.sep i j o e hi hj hne a ho q
  ·exact (h.ok o (List.mem_of_getElem? hi)).rep.some ho q
 refine ⟨⟨fun o ho=>?_,fun i k o o' hi hk hne a ha hb=>?_⟩,⟨fun a ha hn=>fr.keep a ha (fun q=>hn ⟨e,he,q⟩),fun a ha=>?_⟩⟩
 ·refine xa1_1 (List.mem_iff_getElem?.mp ho) ?_;intro i hi
  by_cases q:j=i
  ·subst q
   rw [List.getElem?_set_self hlt] at hi;(have zc:=Option.some.inj hi;clear hi;subst zc);exact ok
  ·rw [List.getElem?_set_ne q] at hi
   have hoi:=List.mem_of_getElem? hi
   exact (h.ok o hoi).off fun a ha=>fr.keep a ((h.ok o hoi).rep.some ha) (h.sep i j o e hi hj (fun z=>q z.symm) a ha)
 ·by_cases q:j=i
  ·subst q
   rw [List.getElem?_set_self hlt] at hi;(have zc:=Option.some.inj hi;clear hi;subst zc)
   rw [List.getElem?_set_ne hne] at hk
   exact new a ha k o' hk (Ne.symm hne) hb
  ·rw [List.getElem?_set_ne q] at hi
   by_cases q2:j=k
   ·subst q2
    rw [List.getElem?_set_self hlt] at hk;(have zc:=Option.some.inj hk;clear hk;subst zc)
    exact new a hb i o hi (fun z=>q z.symm) ha
   ·rw [List.getElem?_set_ne q2] at hk
    exact h.sep i k o o' hi hk hne a ha hb
 ·refine xa1_2 ha ?_;(try clear ha);intro o ho hf
  refine xa1_1 (List.mem_iff_getElem?.mp ho) ?_;intro i hi
  by_cases q:j=i
  ·subst q
   rw [List.getElem?_set_self hlt] at hi;(have zc:=Option.some.inj hi;clear hi;subst zc)
   rcases fr.grow a hf with q|q
   ·exact .inl ⟨e,he,q⟩
   ·exact .inr q
  ·rw [List.getElem?_set_ne q] at hi
   exact .inl ⟨o,List.mem_of_getElem? hi,hf⟩
theorem Gh (T:Tp C) (hroom:A.depth+4<recursionLimit) {l:List TI} {hp:HP} {ci:Bool} {kw:List (Str×AV)} (hkw:(kw=([("case_insensitive",.bool ci)]:List (Str×AV)))∨(kw=[]∧ci=false)) (h:Bf l hp) :
  Fn C A (.ref 125) [] kw hp (fun v hp'=>∃e:TI,v=.ref e.t∧e.fin=false∧e.ws=[]∧e.ci=ci∧Bf (l++[e]) hp'∧Cc (Cw l) hp (Cw (l++[e])) hp'):=by
 refine (IQ T hroom hkw).mono fun v hp' hq=>?_
 refine xa4_3 hq ?_;(try clear hq);intro t d z e;rintro rfl;intro hr hfr
 have new:∀a,Fp (Af.zero z e) t d a→hp a=none:=fun a ha=>(hfr.grow a ha).resolve_left (fun q=>q)
 have old:∀a,Cw l a→hp' a=hp a:=fun a ha=>hfr.keep a (h.live ha) (fun q=>q)
 refine ⟨⟨Af.zero z e,t,d,false,[],ci⟩,rfl,rfl,rfl,rfl,⟨fun o ho=>?_,fun i j o o' hi hj hne a ha hb=>?_⟩,⟨fun a ha zu=>hfr.keep a ha (fun q=>q),fun a ha=>?_⟩⟩
 ·rcases List.mem_append.mp ho with ho|ho
  ·exact (h.off old).ok o ho
  ·simp at ho;subst ho
   refine ⟨hr,fun p=>by simp [Af.zero,Dq],fun p=>by simp [Af.zero],by simp [Af.zero],fun zu=>KY z e,fun q=>(by exact Bv q),fun w hw=>(by cases hw)⟩
 ·have sp:∀(i:Nat) (o:TI),(l++[(⟨Af.zero z e,t,d,false,[],ci⟩:TI)])[i]? = some o→l[i]? = some o∨(i=l.length∧o=⟨Af.zero z e,t,d,false,[],ci⟩):=by
   intro i o hi
   rcases Nat.lt_or_ge i l.length with q|q
   ·rw [List.getElem?_append_left q] at hi;exact .inl hi
   ·rw [List.getElem?_append_right q] at hi
    right
    have:i - l.length=0:=by
     rcases Nat.eq_zero_or_pos (i - l.length) with z|z
     ·exact z
     ·rw [List.getElem?_eq_none (by simp;with_reducible exact O4 ‹_›)] at hi;exact Aj hi
    rw [this] at hi
    simp at hi
    exact ⟨by exact Nat.le_antisymm (A8 [_,_,_] [(1,Z2,(Zn 0)),(1,Z0,(Za Z2 Z1))] Z0 Z1 rfl (Nat.le_of_eq this) (Eh _ _)) (A8 [_,_,_] [(1,(Za Z2 Z0),Z1)] Z0 Z1 rfl (Nat.le_of_eq (Nat.sub_add_cancel (A8 [_,_] [(1,Z0,Z1)] Z0 Z1 rfl q)))),hi.symm⟩
  rcases sp i o hi with h1|⟨h1,rfl⟩
  ·rcases sp j o' hj with h2|⟨h2,rfl⟩
   ·exact h.sep i j o o' h1 h2 hne a ha hb
   ·exact (h.ok o (List.mem_of_getElem? h1)).rep.some ha (new a hb)
  ·rcases sp j o' hj with h2|⟨h2,rfl⟩
   ·exact (h.ok o' (List.mem_of_getElem? h2)).rep.some hb (new a ha)
   ·exact hne (h1.trans h2.symm)
 ·refine xa1_2 ha ?_;(try clear ha);intro o ho hf
  rcases List.mem_append.mp ho with ho|ho
  ·exact .inl ⟨o,ho,hf⟩
  ·simp at ho;subst ho;exact .inr (new a hf)
theorem IX (T:Tp C) {l:List TI} {hp:HP} {j:Nat} {e:TI} {w:Mh} (hA:A.handled=none) (hroom:A.depth+2<recursionLimit) (h:Bf l hp) (hj:l[j]? = some e) (hf:e.fin=false) (hw:Of e.ci w) (hz:1+G3 e.ws+w.1.length≤4000) :
  Fn C A (.ref 66) [.ref e.t,w.2] [] hp (fun v hp'=>v=.none∧∃e':TI,e'.t=e.t∧e'.fin=false∧e'.ws=e.ws++[w]∧e'.ci=e.ci∧Bf (l.set j e') hp'∧Cc (Cw l) hp (Cw (l.set j e')) hp'):=by
 have ok:=h.ok e (List.mem_of_getElem? hj)
 have hr:=ok.rep
 rw [hf] at hr
 have hlen:=ok.len
 refine xa1_3 (hw.low hp) ?_;intro v2 lo sq nr
 refine (Oe T (w:=w.1) hA hroom (ok.ph1 hf) hr lo sq (fun a q=>absurd q (nr a)) (A8 [_,_,_] [(1,(Za (Za (Zn 1) Z2) Z1),(Zn 4000)),(1,Z0,(Za (Zn 1) Z2))] (Za Z0 Z1) (Zn 4000) rfl hz hlen) hw.nval).mono fun v hp' hq=>?_
 refine cps fun zP zk=>?_;(rcases hq with ⟨rfl,X',k1,k2,k3,k4,k5,k6,k7⟩)<;>(refine zk ?_;clear zk zP)
 refine ⟨rfl,⟨X',e.t,e.d,false,e.ws++[w],e.ci⟩,rfl,rfl,rfl,rfl,h.turn hj k3 ⟨k2,fun p=>?_,fun p=>?_,?_,fun zu=>k1,fun q=>(by exact Bv q),fun u hu=>?_⟩⟩
 ·rw [k5 p,ok.key p,Ks]
 ·rw [k4 p,ok.dom p]
  simp only [List.mem_append,List.mem_singleton]
  constructor
  ·rintro ((q|⟨u,hu,q⟩)|q)
   ·exact .inl q
   ·exact .inr ⟨u,.inl hu,q⟩
   ·exact .inr ⟨w,.inr rfl,q⟩
  ·rintro (q|⟨u,hu|rfl,q⟩)
   ·exact .inl (.inl q)
   ·exact .inl (.inr ⟨u,hu,q⟩)
   ·exact .inr q
 ·show X'.D.length≤1+G3 (e.ws++[w])
  have:G3 (e.ws++[w])=G3 e.ws+w.1.length:=by simp [G3]
  exact A8 [_,_,_,_,_] [(1,Z2,(Za (Zn 1) Z3)),(1,Z0,(Za Z2 Z4)),(1,(Za Z3 Z4),Z1)] Z0 (Za (Zn 1) Z1) rfl hlen k6 (Nat.le_of_eq (Eq.symm this))
 ·rcases List.mem_append.mp hu with q|q
  ·exact ok.wok u q
  ·simp at q;subst q;exact hw
theorem IW (T:Tp C) {l:List TI} {hp:HP} {j:Nat} {e:TI} {N:Nat} (hA:A.handled=none) (hroom:A.depth+N+4<recursionLimit) (h:Bf l hp) (hj:l[j]? = some e) (hf:e.fin=false) (hz:1+G3 e.ws≤300) (hN:∀w∈e.ws,w.1.length≤N) :
  Fn C A (.ref 101) [.ref e.t] [] hp (fun v hp'=>v=.none∧∃e':TI,e'.t=e.t∧e'.fin=true∧e'.ws=e.ws∧e'.ci=e.ci∧Bf (l.set j e') hp'∧Cc (Cw l) hp (Cw (l.set j e')) hp'):=by
 have ok:=h.ok e (List.mem_of_getElem? hj)
 have hr:=ok.rep
 rw [hf] at hr
 have hlen:=ok.len
 have hle:∀p∈e.X.D,p.length≤N:=fun p hp=>by
  rcases (ok.dom p).mp hp with rfl|⟨w,hw,q⟩
  ·simp
  ·exact Nat.le_trans q.length_le (hN w hw)
 refine (NZ T hA hroom (ok.ph1 hf) hr (by with_reducible exact CG ‹_› ‹_›) hle (fun p v hv=>?_)).mono fun v hp' hq=>?_
 ·rw [ok.key p] at hv
  have hm:=(Gf hv).2
  have wk:=ok.wok _ hm
  refine xa1_2 (wk.len hp) ?_;intro xs z1 z2
  exact ⟨xs,z2,z1,fun a q=>absurd q (wk.nref a)⟩
 ·refine cps fun zP zk=>?_;(rcases hq with ⟨rfl,X',k1,k2,k3,k4,k5,k6,k7⟩)<;>(refine zk ?_;clear zk zP)
  have hfp:(⟨X',e.t,e.d,true,e.ws,e.ci⟩:TI).fp=e.fp:=by
   funext a
   simp only [TI.fp,Fp,k4,k5,k6]
  have fr:Cc e.fp hp (⟨X',e.t,e.d,true,e.ws,e.ci⟩:TI).fp hp':=by rw [hfp];exact k3
  refine ⟨rfl,⟨X',e.t,e.d,true,e.ws,e.ci⟩,rfl,rfl,rfl,rfl,h.turn hj fr ⟨k2,fun p=>?_,fun p=>?_,?_,fun q=>(by exact Dc q),fun zu=>k1,ok.wok⟩⟩
  ·show X'.key p=_
   rw [k7];exact ok.key p
  ·show p∈X'.D↔_
   rw [k4];exact ok.dom p
  ·show X'.D.length≤_
   rw [k4];exact hlen
theorem MP {e:TI} {hp:HP} (h:e.ok hp):e.X.key=Dq e.ws:=funext h.key
theorem TI.ok.words {e:TI} (h:e.ok hp) {N:Nat} (hN:∀w∈e.ws,w.1.length≤N):∀p∈e.X.D,p.length≤N:=fun p hp=>by
 rcases (h.dom p).mp hp with rfl|⟨w,hw,q⟩
 ·exact Nat.zero_le _
 ·exact Nat.le_trans q.length_le (hN w hw)
theorem MB {X:Af} {t d L ga:Addr} {ci:Bool} {o:BI} {x2:AV} {w:Ag} {r:FdRest} {g:Nat} {hp':HP} (hr:AK X t d true ci hp) (hx:EB o x2 (w.map Aw.av) hp) (hF:Nb r L t x2 hp' ga g) (h1:hp L=none) (h2:hp ga=none) (hk:∀a,hp a≠none→hp' a=hp a) :
  Sub hp hp'∧AK X t d true ci hp'∧Cz C X t d hp' ga o [] 0 w (fun a=>a=ga∨a=L)∧∀a,(a=ga∨a=L)→hp a=none:=by
 have nf:∀{a},hp a=none→¬Fp X t d a:=fun e hf=>hr.some hf e
 exact ⟨Sub.of hk,hr.off fun a ha=>hk a (hr.some ha),Cz.fresh hF (hx.keep (Ff.of hx fun a y e zu=>(hk a (by rw [e];exact fun z=>nomatch z)).trans e)) (nf h2) (nf h1),fun a ha=>ha.elim (fun e=>e▸h2) fun e=>e▸h1⟩
end
end
section
section
variable {C:Cf} {A:Around} {s:Shared} {σ:Al} {F G:FH} {env:Env} {E:Value→Shared→Prop} {hp:HP} {loc:PL}
theorem PT.eq {α β:Type} {R:FH→β→α→Prop} {t:Sem α} {b b':β} (h:PT C A hp env loc R t b) (e:b=b'):PT C A hp env loc R t b':=e▸h
theorem PE.eqv {e:Expr} {a b:AV} (h:PE C A hp env loc e (a,false)) (q:a=b):PE C A hp env loc e (b,false):=q▸h
theorem PI.eq {target iter:Expr} {xs ys:List AV} (h:PI C A hp env loc target iter xs) (e:xs=ys):PI C A hp env loc target iter ys:=e▸h
theorem KW.eq {elt:Expr} {gens:List Comprehension} {scope:Scope} {pos:Pos} {xs ys:List AV} (h:KW C A hp env loc elt gens scope pos xs) (e:xs=ys):KW C A hp env loc elt gens scope pos ys:=e▸h
theorem Jy {xs:List AV} {p:Bool} (hz:xs.length≤100000):PR C A hp (fun zu b b'=>b=b') truthy (.lst xs,p) (!xs.isEmpty):=fun F s E v w hv=>by
 refine xa4_6 (hv.lstI w) ?_;intro a o vs n;rintro rfl;intro ho hc hd hvs zu
 refine wpAny_truthy_list ⟨o,ho,hc,n,hd⟩ (by rw [List.size_toArray,hvs.length];omega) (CB.here w ?_)
 rw [List.isEmpty_toArray]
 cases hvs<;>rfl
theorem Kl (n:Nat):C6 0 1 n=(List.range n).map fun (i:Nat)=>AV.int (i:Int):=by
 unfold C6
 apply List.map_congr_left
 intro i zu
 simp
theorem IG (a:Int) (n:Nat):C6 a 1 n=(List.range n).map fun (i:Nat)=>AV.int (a+(i:Int)):=by
 unfold C6
 apply List.map_congr_left
 intro i zu
 simp
theorem EZ {a b:Int} (h1:-1000000≤a) (h2:a≤1000000) (h3:-1000000≤b) (h4:b≤1000000):Builtin.Range.small a b 1=true:=small_one (by omega) (by omega) (by omega) (by omega)
theorem Nj {a b:Int} {n:Nat} (h:(n:Int)=b - a∨(b≤a∧n=0)):Builtin.Range.rangeSize a b 1=n:=by rw [rangeSize_one];split<;>omega
noncomputable abbrev lstI (l:List Int):AV:=.lst (l.map .int)
noncomputable abbrev tupI (l:List Int):AV:=.tup (l.map .int)
noncomputable abbrev Cu (l:List (List Int)):AV:=.lst (l.map tupI)
theorem Oi {target:Expr} {x:Str} {px pos:Pos} {arg:Expr} {b:Int} {n:Nat} (hA:A.handled=none) (hg:GL C x (.type "range")) (hv:PE C A hp env loc arg (.int b,false)) (hb:b=n) (hn:n≤1000000) (hk:autoParam (env.kindOf x=some .globalImplicit) AC.aux0._auto_1)
  (he:autoParam (eval (.Call (.Name x px) [arg] [] pos) env=(do callWith pos (←eval (.Name x px) env) [] (BP env [arg]) [])) AC.aux0._auto_1) (hd:autoParam ((x == ("__debug__" : Str))=false) AC.aux1._auto_1):PI C A hp env loc target (.Call (.Name x px) [arg] [] pos) ((List.range n).map fun (i:Nat)=>AV.int (i:Int)):=by
 subst hb
 refine (KP (n:=n) hA hg (.cons hv .nil) (EZ (by decide) (by decide) (by omega) (by omega)) (Nj (.inl (by simp))) hk he hd).eq (Kl n)
theorem MX {target:Expr} {x:Str} {px pos:Pos} {e1 e2:Expr} {a b:Int} {n:Nat} (hA:A.handled=none) (hg:GL C x (.type "range")) (hv:PE C A hp env loc e1 (.int a,false)) (hv2:PE C A hp env loc e2 (.int b,false)) (h1:-1000000≤a) (h2:a≤1000000) (h3:-1000000≤b) (h4:b≤1000000) (hn:(n:Int)=b - a∨(b≤a∧n=0)) (hk:autoParam (env.kindOf x=some .globalImplicit) AC.aux0._auto_1)
  (he:autoParam (eval (.Call (.Name x px) [e1,e2] [] pos) env=(do callWith pos (←eval (.Name x px) env) [] (BP env [e1,e2]) [])) AC.aux0._auto_1) (hd:autoParam ((x == ("__debug__" : Str))=false) AC.aux1._auto_1):PI C A hp env loc target (.Call (.Name x px) [e1,e2] [] pos) ((List.range n).map fun (i:Nat)=>AV.int (a+(i:Int))):=
 (KO (n:=n) hA hg (.cons hv (.cons hv2 .nil)) (EZ h1 h2 h3 h4) (Nj hn) hk he hd).eq (IG a n)
theorem Oj {x:Str} {px pos:Pos} {args:List Expr} {f:Addr} {fd:FuncData} {pvs:List PV} {v:AV} (hf:FnAt C f fd) (hg:GL C x (.ref f)) (hv:KQ C A hp env loc args pvs) (h:∀xs,Args hp pvs xs→Fn C A (.ref f) xs [] hp (fun v' hp'=>v'=v∧hp'=hp)) (hk:autoParam (env.kindOf x=some .globalImplicit) AC.aux0._auto_1)
  (he:autoParam (eval (.Call (.Name x px) args [] pos) env=(do callWith pos (←eval (.Name x px) env) [] (BP env args) [])) AC.aux0._auto_1) (hd:autoParam ((x == ("__debug__" : Str))=false) AC.aux1._auto_1):PE C A hp env loc (.Call (.Name x px) args [] pos) (v,false):=
 Cn hg hv (OM.pc fun xs hx=>(h xs hx).cl.mono fun v' hp' q=>⟨q.1,by rw [q.2];exact .refl _⟩) (fun zu k=>hf.keep k) hk he hd
theorem Args.vals {xs ys:List AV} (h:Args hp (vals xs) ys):ys=xs:=by
 induction xs generalizing ys with
 |nil=>cases h;rfl
 |cons x xs ih=>cases h with|val h=>rw [ih h]
end
end
section
section
variable {C:Cf} {A:Around} {s:Shared} {σ:Al} {F G:FH} {env:Env} {E:Value→Shared→Prop} {hp:HP} {loc:PL}
noncomputable def Aq (w:List Int):Ag:=w.map Aw.i
noncomputable def DV (w:List Int):Mh:=(Aq w,tupI w)
theorem Oz {w:List Int} (h:w.length≤1000):Pw (DV w) where
 seq:=fun hp=>by
  have e:(Aq w).map Aw.av=w.map AV.int:=by simp [Aq,Aw.av]
  show DJ (tupI w) ((Aq w).map Aw.av) hp
  rw [e]
  exact .tup (by simp;with_reducible exact Bj ‹_› (by decide))
 nref:=fun a h=>by cases h
 nval:=fun a h=>by cases h
theorem GD {a b:List Int} (h:Aq a=Aq b):a=b:=by
 unfold Aq at h
 exact List.map_inj_right (fun x y e=>by cases e;rfl) |>.mp h
noncomputable def Kw (us:List (List Int)):Ag→Option AV:=Dq (us.map DV)
theorem JZ {us:List (List Int)} {p:Ag} {v:AV} (h:Kw us p=some v):∃w∈us,w≠[]∧p=Aq w∧v=tupI w:=by
 refine xa0_2 (Gf h) ?_;intro h1 h2
 refine xa1_2 (List.mem_map.mp h2) ?_;intro w hw e
 cases e
 exact ⟨w,hw,fun q=>h1 (by simp [q,Aq]),rfl,rfl⟩
theorem OT {us:List (List Int)} {w:List Int} (h:w∈us) (hne:w≠[]):Kw us (Aq w)=some (tupI w):=by
 have hp:Aq w≠[]:=by simpa [Aq] using hne
 have:=(Hq (ws:=us.map DV) hp).mpr ⟨tupI w,List.mem_map.mpr ⟨w,h,rfl⟩⟩
 refine xa1_1 (Option.isSome_iff_exists.mp this) ?_;intro v hv
 refine xa1_4 (JZ hv) ?_;intro w' hw' zu e1 e2
 have:=GD e1
 subst this
 rw [e2] at hv
 exact hv
end
end
section
section
variable {C:Cf} {A:Around} {s:Shared} {F G:FH} {env:Env} {E:Value→Shared→Prop} {hp:HP} {loc:PL}
end
end
section
section
variable {C:Cf} {A:Around} {s:Shared} {F G:FH} {env:Env} {E:Value→Shared→Prop} {hp:HP} {loc:PL}
end
end
section
section
variable {C:Cf} {A:Around} {s:Shared} {F G:FH} {env:Env} {E:Value→Shared→Prop} {hp:HP} {loc:PL}
end
end
section
section
variable {C:Cf} {A:Around} {s s':Shared} {F F' G:FH} {env:Env} {E:Value→Shared→Prop} {hp hp':HP} {loc:PL} {σ:Al}
noncomputable abbrev lawP:Co:=MV "law"
noncomputable abbrev B8 (r:FdRest) (L f:Addr):Env:=callEnvC (r.fd lawP .none) L f
theorem KH (C:Cf) (r:FdRest) (x:AV):G1 C (r.fd lawP .none) [x] [] [("script",x)]:=by
 intro F vs kvs h1 h2
 refine xa2_3 h1.inv ?_;intro v1 us1;rintro rfl;intro hv1 h1
 obtain rfl:=h1.inv0
 obtain rfl:=h2.inv0
 exact ⟨[("script",v1)],Looks.of_pure (by kernel_rfl),.cons hv1 .nil,by kernel_rfl⟩
theorem VRs.ofInts {F:FH}:∀{vs:List Value} {ns:List Int},IntsAre vs ns→VRs F (ns.map .int) vs
 |_,_,.nil=>.nil
 |_,_,.cons n t h=>.cons (.int n t) (VRs.ofInts h)
theorem finish {C:Cf} {f a:Addr} {vs:List Value} {ns:List Int} {s₁:Shared} {P E:Value→Shared→Prop}
  (h:∀ns:List Int,ns.length≤63→Fn C callerA (.ref f) [.lst (ns.map .int)] [] (fun zu=>none) (fun v zu=>v=.bool true)) (hl:C.h0.IsList a vs.toArray) (hi:IntsAre vs ns) (hlen:¬((63:Nat):Int)<(ns.length:Int))
  (hh:s₁.heap=C.h0) (hos:s₁.os=C.os) (hg:s₁.gens=#[]) (hP:∀s':Shared,OldK s₁.heap s'.heap→s'.os=s₁.os→AllBare s'.gens→P (.bool true) s'):wpAny (model C.prog C.w) callerA (call (.ref f) [.ref a]) P E s₁:=by
 refine cps fun zP zk=>?_;(rcases hl with ⟨o,ho,hc,n,hd⟩)<;>(refine zk ?_;clear zk zP)
 have W:Wd C (fun b=>C.h0.get? b) (fun zu=>none) (fun zu=>none) s₁:=⟨fun b o e=>e,fun b o e=>by rw [hh];exact e,fun b o e=>(by exact Aj e),fun b x e=>(by exact Aj e),hos,by rw [hg];exact .of_eq rfl,fun a b g gs gs' e=>(by exact Aj e),fun b o e=>rfl⟩
 refine wpAny_call (codeAny_mono (h ns (by omega) _ _ s₁ [.ref a] [] ⟨[],rfl,fun e he=>(by cases he)⟩ W (.cons (.lst ho hc hd (VRs.ofInts hi)) .nil) .nil) fun r s' hr=>?_)
 refine xa4_5 hr ?_;(try clear hr);intro F' v av hp';rintro rfl;intro e1 hv W';rintro rfl
 (have zc:=VR.boolI hv;clear hv;subst zc)
 exact hP s' (.of_keep fun b o e=>W'.old b o (by rw [←hh];exact e)) (by rw [W'.os,hos]) W'.bare
end
end
section
section
variable {C:Cf} {A:Around} {s:Shared} {σ:Al} {F G:FH} {env:Env} {E:Value→Shared→Prop} {hp:HP} {loc:PL}
noncomputable abbrev rowP:Co:=MV "_law_row"
theorem KC (C:Cf) (r:FdRest) (x y:AV):G1 C (r.fd rowP .none) [x,y] [] [("number",x),("size",y)]:=by
 intro F vs kvs h1 h2
 refine xa2_3 h1.inv ?_;intro v1 us1;rintro rfl;intro hv1 h1
 refine xa2_3 h1.inv ?_;intro v2 us2;rintro rfl;intro hv2 h1
 obtain rfl:=h1.inv0
 obtain rfl:=h2.inv0
 exact ⟨[("number",v1),("size",v2)],Looks.of_pure (by kernel_rfl),.cons hv1 (.cons hv2 .nil),by kernel_rfl⟩
noncomputable def PQ (n:Int) (i:Nat):Int:=(n.fdiv (2 ^ i)).fmod 2
noncomputable def MC (n:Int) (k:Nat):List Int:=(List.range k).map (PQ n)
theorem NC (T:TpX C) {f:Addr} {r:FdRest} (hf:FnAt C f (r.fd rowP .none)) {hp:HP} {n:Int} {k:Nat} (hA:A.handled=none) (hroom:A.depth+1+Builtin.pylongFrames<recursionLimit) (hk:k≤1000) :
  Fn C A (.ref f) [.int n,.int k] [] hp (fun v hp'=>v=tupI (MC n k)∧hp'=hp):=by
 refine FA hf (KC C r _ _) (fun L=>?_) (C0 [_,_,_] [(1,(Zs (Za (Zs Z0) Z2)),Z1)] Z0 Z1 rfl hroom)
 have pl:Nt C (A.deeper (callEnvC (r.fd rowP .none) L f)):=Nt.deeper T.seer T.lim T.tree hroom (by rfl) (by rfl) (by rfl) (by rfl)
 refine Aa (Oo [] (tupI (MC n k)) (PE.eqv (Cn T.t.g_tuple (.cons (OK (JX (List.range k) _ (fun i=>.int (PQ n i)) (Oi hA T.g_range (Ak rfl) rfl (by with_reducible exact Bj ‹_› (by decide))) (by rw [List.length_range];with_reducible exact Bj ‹_› (by decide)) fun Lc i hi=>?_)) .nil) (Hr (by rw [List.length_map,List.length_range];with_reducible exact Bj ‹_› (by decide)))) (by simp [MC])) ⟨rfl,rfl⟩)
 have hi':i<k:=List.mem_range.mp hi
 exact Ce (Ce (Ak rfl) (Ce Av (Ak rfl) (OD (by exact Int.natCast_nonneg _) (by omega) (by decide))) (Mb pl (Int.pow_ne_zero (by decide)))) Av (GW (by decide))
end
end
section
section
variable {C:Cf} {A:Around} {s:Shared} {F F' G:FH} {env:Env} {hp hp':HP} {σ:Al}
inductive Nr (C:Cf) (A:Around) (F₀ G:FH) (env:Env) (I:Nat→Ag→Nat→Ag→(Addr→Prop)→Al→Prop) (n:Nat) (s:Shared):Prop
 |mk (F:FH) (σ:Al) (u:Ag) (k:Nat) (rest:Ag) (N:Addr→Prop) (e:AE F₀ F) (hR:Rp C A F G env σ s) (hI:I n u k rest N σ)
theorem Lp (T:Tp C) {target:Expr} {body:List Stmt} {X:Af} {t d ga:Addr} {ci:Bool} {o:BI} (hA:A.handled=none) (hl:C.h0.NoLimit) (hroom:A.depth<recursionLimit) (hX:X.Ph3) (hz:∀p∈X.D,p.length≤1000) (hq:B7 target) {Q:A7→Al→Prop} (I:Nat→Ag→Nat→Ag→(Addr→Prop)→Al→Prop)
  (hI:∀n u k rest N σ,I n u k rest N σ→AK X t d true ci σ.hp∧Cz C X t d σ.hp ga o u k rest N)
  (turn:∀n u k rest N σ x hp' u' k' rest' N',I n u k rest N σ→remn X.key u k rest=x::remn X.key u' k' rest'→Fw X.key (u++rest) u' k' rest' x→(∀a,σ.hp a≠none→¬N a→¬C8 o a→hp' a=σ.hp a)→AK X t d true ci hp'→Cz C X t d hp' ga o u' k' rest' N'→(∀a,N' a→N a∨σ.hp a=none)→HA C A env target x ⟨σ.loc,hp'⟩ (fun σ₁=>Cd C A Bd env body σ₁ (Ld Q (fun σ'=>∃m u k rest N,m<n∧I m u k rest N σ'))))
  (fin:∀n u k rest N σ hp',I n u k rest N σ→remn X.key u k rest=[]→(∀a,σ.hp a≠none→¬N a→¬C8 o a→hp' a=σ.hp a)→I4 o ga hp'→Q .next ⟨σ.loc,hp'⟩)
  {n₀:Nat} {F₀:FH} (h0:Nr C A F₀ G env I n₀ s) {R:Result→Shared→Prop}
  (hQ:∀f s',A0 C A G env M4 Q F₀ f s'→R (.ok f) s'):codeAny (model C.prog C.w) A (.forLoop target (.ref ga) body [] env) R s:=by
 refine codeAny_loop' rfl (Nr C A F₀ G env I) (fun n s' h=>?_) n₀ h0
 refine cps fun zP zk=>?_;(rcases h with ⟨F',σ',u,k,rest,N,e,hR',hI'⟩)<;>(refine zk ?_;clear zk zP)
 show wpAny _ _ ((forTurn target (.ref ga) body [] env).onRaise (fun x=>do noteFrame x env;theTreesLotGoes x)) _ _ s'
 refine wpAny_onRaise ?_
 simp only [forTurn]
 refine wpAny_bind (wpAny_standAt (wpAny_bind (wpAny_onRaise ?_)))
 refine xa0_2 (hI _ _ _ _ _ _ hI') ?_;intro hr hS
 refine wpAny_mono (Cz.next T hA hl hroom (Hs hR') (IV hR') hX hz hr hS) (fun r s₁ z=>?_) fun zu zu x=>x.elim
 refine cps fun zP zk=>?_;(rcases z with ⟨F₁,hp₁,e₁,W₁,fr,hm⟩)<;>(refine zk ?_;clear zk zP)
 have hR₁:=Fz hR' e₁ W₁
 cases hrem:remn X.key u k rest with
 |nil=>
  rw [hrem] at hm
  refine xa0_2 hm ?_;(try clear hm);rintro rfl;intro hend
  exact wpAny_pure (.inr ⟨rfl,codeAny_block (wpAny_execs_nil (hQ _ _ ⟨F₁,.next,_,e.trans e₁,.next,hR₁,fin _ _ _ _ _ _ _ hI' hrem fr hend⟩))⟩)
 |cons x xs'=>
  rw [hrem] at hm
  refine cps fun zP zk=>?_;(rcases hm with ⟨v,N',u',k',rest',rfl,hv,hS',rfl,htk,hN'⟩)<;>(refine zk ?_;clear zk zP)
  have hr':AK X t d true ci hp₁:=hr.off fun a ha=>fr a (hr.some ha) (hS.sep hr ha) (hS.sepO hr ha)
  show wpAny _ _ (letOwnedTupleGo target (.ref ga) v >>= _) _ _ _
  rw [hq]
  refine wpAny_bind (wpAny_pure ?_)
  refine wpAny_bind (wpAny_mono (turn n u k rest N σ' x hp₁ u' k' rest' N' hI' hrem htk fr hr' hS' hN' F₁ _ s₁ v hR₁ hv) (fun zu s₃ z=>?_) fun zu zu x=>x.elim)
  refine xa2_3 z ?_;(try clear z);intro F₃ σ₃ e₃ hR₃ h₃
  refine wpAny_bind (wpAny_mono (h₃ F₃ _ s₃ hR₃) (fun f s₄ z=>?_) fun zu zu x=>x.elim)
  refine cps fun zP zk=>?_;(rcases z with ⟨F₄,fl,σ₄,e₄,r,hR₄,h₄⟩)<;>(refine zk ?_;clear zk zP)
  have ee:=e.trans (e₁.trans (e₃.trans e₄))
  cases r with
  |next=>refine xa5_2 h₄ ?_;(try clear h₄);intro m u₂ k₂ rest₂ N₂ hlt h₄;exact wpAny_pure (.inl ⟨rfl,_,hlt,F₄,σ₄,u₂,k₂,rest₂,N₂,ee,hR₄,h₄⟩)
  |cont=>refine xa5_2 h₄ ?_;(try clear h₄);intro m u₂ k₂ rest₂ N₂ hlt h₄;exact wpAny_pure (.inl ⟨rfl,_,hlt,F₄,σ₄,u₂,k₂,rest₂,N₂,ee,hR₄,h₄⟩)
  |brk=>exact wpAny_pure (hQ _ _ ⟨F₄,.next,σ₄,ee,.next,hR₄,h₄⟩)
  |ret hv=>exact wpAny_pure (hQ _ _ ⟨F₄,_,σ₄,ee,.ret hv,hR₄,h₄⟩)
theorem Nd (T:Tp C) {E:Value→Shared→Prop} {target iter:Expr} {body:List Stmt} {pos:Pos} {X:Af} {t d:Addr} {ci:Bool} {o:BI} (hA:A.handled=none) (hl:C.h0.NoLimit) (hroom:A.depth<recursionLimit) (hX:X.Ph3) (hz:∀p∈X.D,p.length≤1000) (hq:B7 target) {Q:A7→Al→Prop} (I:Addr→Nat→Ag→Nat→Ag→(Addr→Prop)→List (Str×AV)→HP→Prop)
  (h:Ev C A E env iter σ (fun a σ₁=>∃ga n u k rest N,a=.ref ga∧KT (I ga n u k rest N) σ₁))
  (hI:∀ga n u k rest N loc hp,I ga n u k rest N loc hp→AK X t d true ci hp∧Cz C X t d hp ga o u k rest N)
  (turn:∀ga n u k rest N loc hp x hp' u' k' rest' N',I ga n u k rest N loc hp→remn X.key u k rest=x::remn X.key u' k' rest'→Fw X.key (u++rest) u' k' rest' x→(∀a,hp a≠none→¬N a→¬C8 o a→hp' a=hp a)→AK X t d true ci hp'→Cz C X t d hp' ga o u' k' rest' N'→(∀a,N' a→N a∨hp a=none)→HA C A env target x ⟨loc,hp'⟩ (fun σ₁=>Cd C A Bd env body σ₁ (Nx Q (fun loc hp=>∃m u k rest N,m<n∧I ga m u k rest N loc hp))))
  (fin:∀ga n u k rest N loc hp hp',I ga n u k rest N loc hp→remn X.key u k rest=[]→(∀a,hp a≠none→¬N a→¬C8 o a→hp' a=hp a)→I4 o ga hp'→Q .next ⟨loc,hp'⟩)
  (hs:autoParam (∀x,foldedSetIterable iter env x=Pure.pure x) AC.aux4._auto_1):Ex C A E env (.For target iter body [] pos) σ Q:=by
 have key:Ex C A E env (.For target iter body [] pos) σ (fun f σ'=>∃loc,CK loc σ'.loc∧Q f ⟨loc,σ'.hp⟩):=by
  intro F G s hR
  refine wpAny_For (h.use hR fun F₁ a σ₁ va s₁ e₁ ha hR₁ h₁=>?_) hs
  refine xa6_2 h₁ ?_;(try clear h₁);intro ga n u k rest N;rintro rfl;intro hI₁
  obtain rfl:=ha.refI
  have hga:∃g gs,σ₁.hp ga=some (.gen g gs):=by
   refine xa1_2 hI₁ ?_;(try clear hI₁);intro loc zu hi
   exact (hI _ _ _ _ _ _ _ _ hi).2.gen
  refine xa2_1 hga ?_;(try clear hga);intro g gs hga
  refine wpAny_pyIter_gen (hR₁.wd.gen hga).2 ?_
  refine Lp T hA hl hroom hX hz hq (fun n u k rest N σ=>KT (I ga n u k rest N) σ) (fun n u k rest N σ ⟨loc,hll,hi⟩=>hI _ _ _ _ _ _ _ _ hi) (fun n u k rest N σ x hp' u' k' rest' N' ⟨loc,hll,hi⟩ k0 kt k1 k2 k3 k4 F G s v hR hv=>?_) (fun n u k rest N σ hp' ⟨loc,hll,hi⟩ k0 k1 k2=>⟨loc,hll,fin _ _ _ _ _ _ _ _ _ hi k0 k1 k2⟩) ⟨F₁,σ₁,u,k,rest,N,e₁,hR₁,hI₁⟩ fun f s' z=>z
  refine wpAny_mono (turn ga n u k rest N loc σ.hp x hp' u' k' rest' N' hi k0 kt k1 k2 k3 k4 F G s v (hR.weakLoc hll) hv) (fun zu s' z=>?_) fun zu zu x=>x
  refine xa2_3 z ?_;(try clear z);intro F' σ' e hR' hb
  refine ⟨F',σ',e,hR',hb.mono fun f σ₃ hf=>?_⟩
  cases f with
  |next=>refine cps fun zP zk=>?_;(rcases hf with ⟨loc,hl1,m,u,k,rest,N,hlt,h1⟩)<;>(refine zk ?_;clear zk zP);exact ⟨m,u,k,rest,N,hlt,loc,hl1,h1⟩
  |cont=>refine cps fun zP zk=>?_;(rcases hf with ⟨loc,hl1,m,u,k,rest,N,hlt,h1⟩)<;>(refine zk ?_;clear zk zP);exact ⟨m,u,k,rest,N,hlt,loc,hl1,h1⟩
  |brk=>exact hf
  |ret v=>exact ⟨σ₃.loc,CK.refl _,hf⟩
 intro F G s hR
 refine wpAny_mono (key F G s hR) (fun v s' z=>?_) fun zu zu x=>x
 refine cps fun zP zk=>?_;(rcases z with ⟨F',b,σ',e,r,hR',loc,hl,hq⟩)<;>(refine zk ?_;clear zk zP)
 exact ⟨F',b,⟨loc,σ'.hp⟩,e,r,hR'.weakLoc hl,hq⟩
end
end
section
section
variable {C:Cf} {A:Around} {s:Shared} {F F' G:FH} {env:Env} {hp hp':HP} {σ:Al}
theorem Mo {f:Value→Value→Sem Value} {E:Value→Shared→Prop} {x y z:AV} {Q:AV→Al→Prop} (h:Jn C A σ.hp (Cs σ.hp) f (x,false) (y,false) (z,false)) (q:Q z σ):Eg C A E env VR f x y σ Q:=by
 intro F G s v u hR hv hu
 refine wpAny_mono (h F s E v u hR.wp (.val hv) (.val hu)) (fun w s' z=>?_) fun zu zu x=>x
 refine cps fun zP zk=>?_;(rcases z with ⟨F',st,r⟩)<;>(refine zk ?_;clear zk zP)
 exact ⟨F',_,σ,st.e,r.out,hR.pure st,q⟩
theorem LP:entryFor table "iter" = some Builtin.«iter»:=entryFor_of_fast (by kernel_rfl)
theorem Md (a:Value):argsOk "iter" ⟨[a],[]⟩:=by unfold argsOk;kernel_rfl
theorem KB {E:Value→Shared→Prop} {xs:List AV} {Q:AV→Al→Prop} (h:∀r,σ.hp r=none→Q (.ref r) (σ.put r (.itr "list_iterator" [.lst xs,.val (.int (0:Nat) 0)]))) :
  Br C A E env (.val (.builtin "iter")) [] [.lst xs] [] σ Q:=by
 refine AB (fun F G s us vs hR hus hvs=>?_)
 obtain rfl:=hus.inv0
 refine VRs.consC hvs fun zv zw zo a b=>?_;clear hvs;subst zo
 (have zc:=VRs.nilI b;clear b;subst zc)
 refine VR.lstC a fun vs l ol n zo q1 q2 q3 q4=>?_;clear a;subst zo
 refine PySem.Calls.call_function_entry (by decide +kernel) (by decide +kernel) LP (Md _) ?_
 unfold Builtin.«iter»
 refine wpAny_bind (m:=someArgs "iter" 1 2 _) (wpAny_of_eq (a:=[Value.ref l]) (by first|rfl|kernel_rfl!) ?_)
 show wpAny _ _ (pyIter (.ref l) >>= _) _ _ _
 refine wpAny_bind (wpAny_pyIter_list (A:=A.in1) ⟨ol,hR.wd.fz _ _ q1,q2,n,q3⟩ ?_)
 refine wpAny_pure ⟨_,rfl,?_⟩
 exact ⟨F,_,_,AE.refl F,.ref _,hR.alloc (t:=s.toks) rfl rfl (.itr (us:=[.ref l,.int 0 0]) rfl rfl (.cons (.lst q1 q2 q3 q4) (.cons (.val _) .nil))),h _ (hR.wd.lt (Nat.le_refl _)).2.2⟩
end
end
section
section
variable {C:Cf} {A:Around} {s:Shared} {F F' G:FH} {env:Env} {hp hp':HP} {σ:Al}
noncomputable abbrev firstP:Co:=MV "_law_first"
theorem Iz (C:Cf) (r:FdRest) (x:AV):G1 C (r.fd firstP .none) [x] [] [("search",x)]:=by
 intro F vs kvs h1 h2
 refine xa2_3 h1.inv ?_;intro v1 us1;rintro rfl;intro hv1 h1
 obtain rfl:=h1.inv0
 obtain rfl:=h2.inv0
 exact ⟨[("search",v1)],Looks.of_pure (by kernel_rfl),.cons hv1 .nil,by kernel_rfl⟩
theorem LL (T:TpX C) {f:Addr} {r:FdRest} (hf:FnAt C f (r.fd firstP .none)) {X:Af} {t d ga:Addr} {ci:Bool} {o:BI} {u rest:Ag} {k:Nat} {N:Addr→Prop} (hA:A.handled=none) (hroom:A.depth+2<recursionLimit) (hX:X.Ph3) (hz:∀p∈X.D,p.length≤1000) (hr:AK X t d true ci hp) (hS:Cz C X t d hp ga o u k rest N) :
  Fn C A (.ref f) [.ref ga] [] hp (fun v hp'=>v=DA (remn X.key u k rest)∧(∀a,hp a≠none→¬N a→¬C8 o a→hp' a=hp a)∧match remn X.key u k rest with
   |[]=>I4 o ga hp'
   |y::ys=>∃N' u' k' rest',Cz C X t d hp' ga o u' k' rest' N'∧ys=remn X.key u' k' rest'∧Fw X.key (u++rest) u' k' rest' y∧∀a,N' a→N a∨hp a=none):=by
 refine FA hf (Iz C r _) (fun L=>?_) (C0 [_,_] [(1,(Zs (Za Z0 (Zn 2))),Z1)] Z0 Z1 rfl hroom)
 refine Aa ?_
 refine Nd T.t (X:=X) (t:=t) (d:=d) (ci:=ci) (o:=o) (by exact hA) T.lim (by show A.depth+1<recursionLimit;exact C0 [_,_] [(1,(Zs (Za Z0 (Zn 2))),Z1)] (Zs Z0) Z1 rfl hroom) hX hz CQ
  (fun ga' n u' k' rest' N' loc hp'=>ga'=ga∧u'=u∧k'=k∧rest'=rest∧N'=N∧loc=[]∧hp'=hp) (Ab rfl ⟨ga,0,u,k,rest,N,rfl,[],A5,rfl,rfl,rfl,rfl,rfl,rfl,rfl⟩) ?_ ?_ ?_
 ·(rintro ga' n u' k' rest' N' loc hp';intro zr;refine xa0_7 zr ?_;(try clear zr);rintro rfl;rintro rfl;rintro rfl;rintro rfl;rintro rfl;rintro rfl;rintro rfl)
  exact ⟨hr,hS⟩
 ·rintro ga' n u' k' rest' N' loc hp' x hp2 u2 k2 rest2 N2 ⟨rfl,rfl,rfl,rfl,rfl,rfl,rfl⟩ h1 h2 h3 h4 h5 h6
  refine Bs (Aa (BT (Ab rfl ?_)))
  refine ⟨by rw [h1];rfl,h3,?_⟩
  rw [h1]
  exact ⟨N2,u2,k2,rest2,h5,rfl,h2,h6⟩
 ·rintro ga' n u' k' rest' N' loc hp' hp2 ⟨rfl,rfl,rfl,rfl,rfl,rfl,rfl⟩ h1 h2 h3
  refine Aa (BT (Bu ?_))
  refine ⟨by rw [h1];rfl,h2,?_⟩
  rw [h1];exact h3
end
end
section
section
variable {C:Cf} {A:Around} {s s':Shared} {F F' G:FH} {env:Env} {E:Value→Shared→Prop} {hp hp':HP} {loc:PL} {σ:Al}
theorem Op {E:Value→Shared→Prop} {x:Str} {px pos:Pos} {op:Operator} {value:Expr} {old:AV} {Q:A7→Al→Prop} (hx:σ.loc.lookup x=some old) (h:Ev C A E env value σ (fun v σ₁=>Eg C A E env VR (inplaceOp op) old v σ₁ (fun r σ₂=>Q .next (σ₂.set x r))))
  (hk:autoParam (E3 (env.kindOf x)=true) AC.aux0._auto_1) (hv:autoParam (Cg (env.kindOf x)=true) AC.aux0._auto_1) (hn:autoParam ((x == ("__classdict__" : Str))=false) AC.aux1._auto_1):Ex C A E env (.AugAssign (.Name x px) op value pos) σ Q:=by
 intro F G s hR
 refine wpAny_AugAssign_Name (Ih hR hx hv hn fun vo ho=>?_)
 refine h.use hR fun F₁ a σ₁ v s₁ e₁ hv hR₁ h₁=>?_
 refine wpAny_mono (h₁ F₁ G s₁ vo v hR₁ (ho.mono e₁) hv) (fun r s₂ z=>?_) fun zu zu x=>x
 refine cps fun zP zk=>?_;(rcases z with ⟨F₂,rv,σ₂,e₂,hr,hR₂,q⟩)<;>(refine zk ?_;clear zk zP)
 exact Cp hR₂ hr (CH hk) fun s₃ hR₃=>⟨F₂,.next,_,e₁.trans e₂,.next,hR₃,q⟩
end
end
section
section
noncomputable def HF (us:List (List Int)):List Int→List (List Int)
 |[]=>[]
 |c::p=>(if (c::p)∈us then [c::p] else [])++HF us p
noncomputable def Am (e:List Int×Nat):AV:=.tup [tupI e.1,.int (e.2:Nat)]
noncomputable def B9 (us:List (List Int)) (p:List Int):List (List Int×Nat):=(HF us p).map fun q=>(q,p.length - q.length)
noncomputable def BQ (us:List (List Int)):List Int→List Int→List (List Int×Nat)
 |_,[]=>[]
 |u,c::r=>B9 us (u++[c])++BQ us (u++[c]) r
theorem Dg {us:List (List Int)} {q:List Int}:∀{p:List Int},q∈HF us p→q.length≤p.length
 |[],h=>by cases h
 |c::p,h=>by
  rcases List.mem_append.mp h with h|h
  ·split at h
   ·rw [List.mem_singleton.mp h];exact Nat.le_refl _
   ·cases h
  ·exact Nat.le_succ_of_le (Dg h)
theorem D7 (us:List (List Int)):∀p:List Int,outs (Kw us) (Aq p)=(HF us p).map fun q=>.tup [tupI q,.int (q.length:Nat)]
 |[]=>rfl
 |c::p=>by
  have ih:=D7 us p
  show outs (Kw us) (Aw.i c::Aq p)=_
  simp only [Ea,DZ,HF,List.map_append,ih]
  congr 1
  have e:Aw.i c::Aq p=Aq (c::p):=rfl
  rw [e]
  by_cases h:(c::p)∈us
  ·rw [OT h (by simp),if_pos h];simp [Aq]
  ·rw [if_neg h]
   cases q:Kw us (Aq (c::p)) with
   |none=>rfl
   |some v=>
    refine xa1_4 (JZ q) ?_;intro w hw zu e1 zu
    rw [GD e1] at h
    exact absurd hw h
theorem ER (us:List (List Int)):∀rest u:List Int,BN (Kw us) (Aq u) (Aq rest)=(BQ us u rest).map Am
 |[],u=>rfl
 |c::r,u=>by
  have ih:=ER us r (u++[c])
  have e:Aq u++[Aw.i c]=Aq (u++[c]):=by simp [Aq]
  show (outs (Kw us) (Aq u++[Aw.i c])).map (Dh (Aq u++[Aw.i c]).length)++BN (Kw us) (Aq u++[Aw.i c]) (Aq r)=_
  rw [e,ih,D7]
  simp only [BQ,List.map_append,B9,List.map_map]
  congr 1
  refine List.map_congr_left fun q hq=>?_
  have hl:=Dg hq
  have hn:(Aq (u++[c])).length=(u++[c]).length:=by simp [Aq]
  simp only [Function.comp,Dh,Am,hn]
  congr 4
  omega
theorem FL (us:List (List Int)):∀p:List Int,HF us p=((List.range p.length).filter fun s=>decide (p.drop s∈us)).map p.drop
 |[]=>rfl
 |c::p=>by
  simp only [HF,FL us p,List.length_cons,List.range_succ_eq_map,List.filter_cons,List.drop_zero,List.filter_map,List.map_map]
  have e:((List.range p.length).filter ((fun s=>decide ((c::p).drop s∈us))∘Nat.succ)).map ((c::p).drop∘Nat.succ)=((List.range p.length).filter fun s=>decide (p.drop s∈us)).map p.drop:=rfl
  by_cases h:c::p∈us
  ·simp only [h,if_true,decide_true,List.map_cons,List.drop_zero,List.map_map,e,List.cons_append,List.nil_append]
  ·simp only [h,if_false,decide_false,List.map_map,e,List.nil_append,Bool.false_eq_true]
noncomputable def NA (us:List (List Int)) (p:List Int):List Nat:=((List.range (p.length - (p.length - 4))).map fun i=>p.length - 4+i).filter fun s=>decide (p.drop s∈us)
theorem M8 {us:List (List Int)} {p:List Int} {s:Nat} (h:s∈NA us p):s<p.length∧p.length - 4≤s∧p.drop s∈us:=by
 unfold NA at h
 refine xa0_2 (List.mem_filter.mp h) ?_;intro h1 h2
 refine xa1_2 (List.mem_map.mp h1) ?_;intro i h3;rintro rfl
 have:=List.mem_range.mp h3
 exact ⟨by exact C0 [_,_,_,_] [(1,(Zs Z1),Z3),(1,(Za Z3 Z0),Z2)] (Za Z0 Z1) Z2 rfl this (Nat.le_of_eq (Nat.sub_add_cancel (A8 [_,_] [(1,Z0,Z1)] Z0 Z1 rfl (Nat.sub_le _ _)))),by exact A8 [_,_] [] Z0 (Za Z0 Z1) rfl,of_decide_eq_true h2⟩
theorem J3 (us:List (List Int)) (p:List Int):(NA us p).length≤4:=by
 unfold NA
 refine Nat.le_trans (List.length_filter_le _ _) ?_
 rw [List.length_map,List.length_range];omega
theorem M7 {us:List (List Int)} (h4:∀w∈us,w.length≤4) (p:List Int):HF us p=(NA us p).map p.drop:=by
 rw [FL]
 unfold NA
 have e:p.length=(p.length - 4)+(p.length - (p.length - 4)):=by exact Nat.le_antisymm (A8 [_,_,_] [(1,Z0,(Za Z2 Z1))] Z0 (Za Z1 Z2) rfl (Eh _ _)) (A8 [_,_,_] [(1,(Za Z1 Z0),Z2)] (Za Z0 Z1) Z2 rfl (Nat.le_of_eq (Nat.sub_add_cancel (A8 [_,_] [(1,Z0,Z1)] Z0 Z1 rfl (Nat.sub_le _ _)))))
 conv=>lhs;rw [e,List.range_add,List.filter_append]
 have:(List.range (p.length - 4)).filter (fun s=>decide (p.drop s∈us))=[]:=by
  rw [List.filter_eq_nil_iff]
  intro s hs
  have h1:=List.mem_range.mp hs
  intro h2
  have:=h4 _ (of_decide_eq_true h2)
  rw [List.length_drop] at this;omega
 rw [this,List.nil_append]
theorem JP {us:List (List Int)} (h4:∀w∈us,w.length≤4) (p:List Int):B9 us p=(NA us p).map fun s=>(p.drop s,s):=by
 unfold B9
 rw [M7 h4,List.map_map]
 refine List.map_congr_left fun s hs=>?_
 have:=(M8 hs).1
 simp only [Function.comp,List.length_drop]
 congr 1;omega
end
end
section
section
variable {C:Cf} {A:Around} {s:Shared} {σ:Al} {F G:FH} {env:Env} {E:Value→Shared→Prop} {hp:HP} {loc:PL}
noncomputable def CT (d:List Int) (m:Nat) (ns:List Int):List Int:=(ns++d.drop ns.length).take m
theorem HV (d:List Int) (m:Nat) (ns:List Int):(CT d m ns).length≤m:=by unfold CT;rw [List.length_take];omega
theorem MG {d:List Int} {m:Nat} (ns:List Int) (h:d.length≤m):d.length≤(CT d m ns).length:=by unfold CT;rw [List.length_take,List.length_append,List.length_drop];omega
theorem Lw (d:List Int) (m:Nat) (ns:List Int):Cm (ns.map AV.int++Cm (d.map AV.int) (some ((ns.map AV.int).length:Int)) none) none (some (m:Int))=(CT d m ns).map AV.int:=by
 rw [CJ,List.length_map,DD,←List.map_append,CJ]
 exact congrArg (List.map AV.int) (DC _ m)
noncomputable def FF (l:List Int):List Int:=l.zipIdx.map fun p=>p.1+(p.2:Int)
noncomputable def O0:List Int:=[2,3,4,2,3,0,4,3,2,1,4]
noncomputable def N8 (v:Int):Nat:=((O0[(v.fmod 11).toNat]?).getD 0).toNat
noncomputable def FE (v:Int):List Int:=MC v (N8 v)
theorem LK (v:Int):0≤v.fmod 11∧v.fmod 11<11:=⟨Int.fmod_nonneg_of_pos v (by decide),Int.fmod_lt_of_pos v (by decide)⟩
theorem Jz (v:Int):∃k:Nat,k≤4∧O0[(v.fmod 11).toNat]? = some (k:Int)∧N8 v=k:=by
 have h:=LK v
 have h2:(v.fmod 11).toNat<11:=by omega
 unfold N8
 generalize (v.fmod 11).toNat=j at h2
 have:∀j:Fin 11,∃k:Nat,k≤4∧O0[j.val]? = some (k:Int):=by decide
 refine xa1_2 (this ⟨j,h2⟩) ?_;intro k h1 h3
 exact ⟨k,h1,h3,by rw [h3];simp⟩
theorem Kc (l:List Int):l.zipIdx.map (fun p=>AV.int (p.1+(p.2:Int)))=(FF l).map .int:=by unfold FF;rw [List.map_map];rfl
theorem OA (l:List Int):E4 (l.map .int)=l.zipIdx.map fun p=>.tup [.int (p.2:Int),.int p.1]:=GQ l _
theorem Lb (l:List Int):(FF l).length=l.length:=by unfold FF;simp
theorem N7 (v:Int) {k:Nat} (h:O0[(v.fmod 11).toNat]? = some (k:Int)):([AV.int 2,AV.int 3,AV.int 4,AV.int 2,AV.int 3,AV.int 0,AV.int 4,AV.int 3,AV.int 2,AV.int 1,AV.int 4]:List AV)[(v.fmod 11).toNat]? = some (.int (k:Int)):=by
 have a1:([AV.int 2,AV.int 3,AV.int 4,AV.int 2,AV.int 3,AV.int 0,AV.int 4,AV.int 3,AV.int 2,AV.int 1,AV.int 4]:List AV)=O0.map AV.int:=rfl
 rw [a1,List.getElem?_map,h];rfl
theorem Ml (T:TpX C) {fr:Addr} {rr:FdRest} (hrow:FnAt C fr (rr.fd rowP .none)) (hgr:GL C "_law_row" (.ref fr)) (hA:A.handled=none) (hroom:A.depth+1+Builtin.pylongFrames<recursionLimit) {e1 e2:Expr} {px pos:Pos} {n:Int} {k:Nat} (h1:PE C A hp env loc e1 (.int n,false)) (h2:PE C A hp env loc e2 (.int k,false)) (hk1:k≤1000)
  (hk:autoParam (env.kindOf "_law_row" = some .globalImplicit) AC.aux0._auto_1)
  (he:autoParam (eval (.Call (.Name "_law_row" px) [e1,e2] [] pos) env=(do callWith pos (←eval (.Name "_law_row" px) env) [] (BP env [e1,e2]) [])) AC.aux0._auto_1):PE C A hp env loc (.Call (.Name "_law_row" px) [e1,e2] [] pos) (tupI (MC n k),false):=
 Oj (pvs:=vals [.int n,.int k]) hrow hgr (.cons h1 (.cons h2 .nil)) (fun xs hx=>by
  obtain rfl:=hx.vals
  exact NC T hrow hA hroom hk1) hk he
noncomputable def CN (vs:List Int):List Int:=vs.flatMap fun v=>MC v 3
theorem Hh (v:Int) (k:Nat):(MC v k).length=k:=by simp [MC]
theorem FG (vs:List Int):(CN vs).length=3*vs.length:=by
 unfold CN
 induction vs with
 |nil=>rfl
 |cons v vs ih=>simp [Hh,ih];exact Nat.le_antisymm (A8 [_] [] (Za (Zn 3) (.mulL 3 Z0)) (.mulL 3 (Zs Z0)) rfl) (A8 [_] [] (.mulL 3 (Zs Z0)) (Za (Zn 3) (.mulL 3 Z0)) rfl)
end
end
section
section
variable {ws:List (List Int)}
noncomputable def DI (us:List (List Int)) (u:List Int) (k:Nat):List (List Int×Nat):=(B9 us u).drop k
theorem Lq (us:List (List Int)) (u rest:List Int) (k:Nat):remn (Kw us) (Aq u) k (Aq rest)=(DI us u k++BQ us u rest).map Am:=by
 unfold remn DI
 rw [ER,D7,List.map_append,List.map_drop,List.map_drop]
 congr 2
 unfold B9
 rw [List.map_map,List.map_map]
 refine List.map_congr_left fun q hq=>?_
 have hl:=Dg hq
 have hn:(Aq u).length=u.length:=by simp [Aq]
 have hnq:(((Aq u).length:Nat):Int) - (q.length:Int)=((u.length - q.length:Nat):Int):=by rw [hn];omega
 show AV.tup [tupI q,.int (((Aq u).length:Int) - (q.length:Int))]=.tup [tupI q,.int ((u.length - q.length:Nat):Int)]
 rw [hnq]
theorem Ir {us:List (List Int)} {p:List Int} {e:List Int×Nat} (h:e∈B9 us p):e.2+e.1.length=p.length:=by
 unfold B9 at h
 refine xa1_2 (List.mem_map.mp h) ?_;intro q hq;rintro rfl
 exact Nat.sub_add_cancel (Dg hq)
theorem Eb:∀{a b:List Int},a.map AV.int=b.map AV.int→a=b
 |[],[],_=>rfl
 |[],_::_,h=>by cases h
 |_::_,[],h=>by cases h
 |x::a,y::b,h=>by
  simp only [List.map_cons,List.cons.injEq,AV.int.injEq] at h
  rw [h.1,Eb h.2]
theorem Km {a b:List Int×Nat} (h:Am a=Am b):a=b:=by
 refine cps fun zP zk=>?_;(rcases a with ⟨a1,a2⟩)<;>(refine zk ?_;clear zk zP)
 refine cps fun zP zk=>?_;(rcases b with ⟨b1,b2⟩)<;>(refine zk ?_;clear zk zP)
 simp only [Am,AV.tup.injEq,List.cons.injEq,and_true,AV.int.injEq] at h
 refine xa0_2 h ?_;(try clear h);intro h1 h2
 rw [Eb h1,Int.ofNat.inj h2]
theorem DP:∀{a b:List (List Int×Nat)},a.map Am=b.map Am→a=b
 |[],[],_=>rfl
 |[],_::_,h=>by cases h
 |_::_,[],h=>by cases h
 |x::a,y::b,h=>by
  simp only [List.map_cons,List.cons.injEq] at h
  rw [Km h.1,DP h.2]
theorem Jx {U:List Int} {u' rest':Ag} {k':Nat} {y:List Int×Nat} (tk:Fw (Kw ws) (Aq U) u' k' rest' (Am y)):∃v r,u'=Aq v∧rest'=Aq r∧v++r=U∧y.2+y.1.length=v.length:=by
 refine cps fun zP zk=>?_;(rcases tk with ⟨h1,j,x,rfl,h3,h4⟩)<;>(refine zk ?_;clear zk zP)
 have hu:u'=Aq (U.take u'.length):=by
  have:=congrArg (List.take u'.length) h1
  rw [List.take_left'] at this
  ·exact this.trans (by unfold Aq;rw [List.map_take])
  ·rfl
 have hr:rest'=Aq (U.drop u'.length):=by
  have:=congrArg (List.drop u'.length) h1
  rw [List.drop_left'] at this
  ·exact this.trans (by unfold Aq;rw [List.map_drop])
  ·rfl
 refine ⟨_,_,hu,hr,List.take_append_drop _ _,?_⟩
 rw [hu,D7] at h3
 refine xa1_2 (List.mem_map.mp (List.mem_of_getElem? h3)) ?_;intro q hq;rintro rfl
 have hql:=Dg hq
 have hul:(U.take u'.length).length=u'.length:=by
  have:=congrArg List.length h1
  rw [List.length_append,show (Aq U).length=U.length by simp [Aq]] at this
  rw [List.length_take];omega
 simp only [Dh,Am,AV.tup.injEq,List.cons.injEq,and_true,AV.int.injEq] at h4
 refine xa0_2 h4 ?_;(try clear h4);intro e1 e2
 have e3:=Eb e1
 rw [hul] at hql ⊢
 rw [e3];omega
noncomputable def deal (W:List (List Int)):List Int→List (List Int×Nat)→List Int→List Int×List (List Int×Nat)×List Int
 |h,y::ys,r=>(h,y::ys,r)
 |h,[],[]=>(h,[],[])
 |h,[],x::r=>deal W (h++[x]) (B9 W (h++[x])) r
theorem IY {W:List (List Int)} {h:List Int} {y:List Int×Nat} {ys:List (List Int×Nat)} {r:List Int}:deal W h (y::ys) r=(h,y::ys,r):=by cases r<;>rfl
structure I5 (W:List (List Int)) (h:List Int) (y:List (List Int×Nat)) (r:List Int) (d:List Int×List (List Int×Nat)×List Int):Prop where
 k:∃k,d.2.1=DI W d.1 k
 app:d.1++d.2.2=h++r
 all:d.2.1++BQ W d.1 d.2.2=y++BQ W h r
 fin:d.2.1=[]→d.2.2=[]
theorem GS (W:List (List Int)):∀(r h:List Int) (y:List (List Int×Nat)),(∃k,y=DI W h k)→I5 W h y r (deal W h y r)
 |r,h,y::ys,hk=>by rw [IY];exact ⟨hk,rfl,rfl,fun z=>by cases z⟩
 |[],h,[],hk=>⟨hk,rfl,rfl,fun _=>rfl⟩
 |x::r,h,[],hk=>by
  refine cps fun zP zk=>?_;(rcases GS W r (h++[x]) (B9 W (h++[x])) ⟨0,rfl⟩ with ⟨a,b,c,d⟩)<;>(refine zk ?_;clear zk zP)
  exact ⟨a,b.trans (by simp),c,d⟩
theorem LU {W:List (List Int)} {h:List Int} {y:List (List Int×Nat)} {r:List Int} {d:List Int×List (List Int×Nat)×List Int} (D:I5 W h y r d) (hl:h.length≤d.1.length):d.2.2 <:+ r:=by
 have h1:=congrArg (List.drop h.length) D.app
 rw [List.drop_left,List.drop_append_of_le_length hl] at h1
 exact ⟨_,h1⟩
theorem Iw (W:List (List Int)):∀(r h:List Int) (y:List (List Int×Nat)),h.length≤(deal W h y r).1.length
 |r,h,y::ys=>by rw [IY];exact Nat.le_refl _
 |[],h,[]=>Nat.le_refl _
 |x::r,h,[]=>by
  have:=Iw W r (h++[x]) (B9 W (h++[x]))
  rw [List.length_append] at this
  exact Nat.le_trans (Nat.le_add_right _ _) this
inductive I7 (W:List (List Int)) (h:List Int) (y:List (List Int×Nat)) (r:List Int) (u:Ag) (k:Nat):Prop
 |live (e:u=Aq h) (ey:y=DI W h k)
 |done (er:r=[]) (ey:y=[]) (e:(outs (Kw W) u).drop k=[])
theorem I7.remn {W:List (List Int)} {h:List Int} {y:List (List Int×Nat)} {r:List Int} {u:Ag} {k:Nat} (a:I7 W h y r u k):remn (Kw W) u k (Aq r)=(y++BQ W h r).map Am:=by
 cases a with
 |live e ey=>rw [e,ey,Lq]
 |done er ey e=>
  subst er ey
  show ((outs (Kw W) u).drop k).map _++[]=[]
  rw [e];rfl
theorem I7.other {W:List (List Int)} {h:List Int} {y:List (List Int×Nat)} {r r':List Int} {u:Ag} {k:Nat} (a:I7 W h y r u k) (hs:r' <:+ r):I7 W h y r' u k:=by
 cases a with
 |live e ey=>exact .live e ey
 |done er ey e=>subst er;exact .done (List.suffix_nil.mp hs) ey e
theorem I7.tells {W:List (List Int)} {h:List Int} {y:List (List Int×Nat)} {r:List Int} {u:Ag} {k:Nat} (a:I7 W h y r u k) {p:List Int×Nat} {ys:List (List Int×Nat)} {h' r':List Int} (D:I5 W h y r (h',p::ys,r')) {u':Ag} {k':Nat} {rest':Ag} {x:AV}
  (hx:AC.remn (Kw W) u k (Aq r)=x::AC.remn (Kw W) u' k' rest') (tk:Fw (Kw W) (u++Aq r) u' k' rest' x):x=Am p∧rest'=Aq r'∧I7 W h' ys r' u' k':=by
 have D3:∀e∈p::ys,e.2+e.1.length=h'.length:=fun e he=>by
  refine xa1_1 D.k ?_;intro k hk
  dsimp only at hk
  rw [hk] at he
  exact Ir (List.mem_of_mem_drop he)
 have hA:=D.all
 dsimp only at hA
 rw [a.remn,←hA] at hx
 injection hx with h1 h2
 subst h1
 cases a with
 |done er ey e=>subst er ey;cases hA
 |live e ey=>
  subst e
  have hU:Aq h++Aq r=Aq (h++r):=by simp [Aq]
  rw [hU] at tk
  refine xa2_4 (Jx tk) ?_;intro v q;rintro rfl;rintro rfl;intro e3 e4
  have e5:=D3 p List.mem_cons_self
  have e6:=D.app
  dsimp only at e6
  refine xa0_2 (List.append_inj (e3.trans e6.symm) (e4.symm.trans e5)) ?_;intro e7 e8
  subst e7 e8
  refine ⟨rfl,rfl,.live rfl ?_⟩
  rw [Lq] at h2
  exact List.append_cancel_right (DP h2)
theorem I7.mute {W:List (List Int)} {h:List Int} {y:List (List Int×Nat)} {r:List Int} {u:Ag} {k:Nat} (a:I7 W h y r u k) {h' r':List Int} (D:I5 W h y r (h',[],r')):AC.remn (Kw W) u k (Aq r)=[]:=by
 have:=D.fin rfl
 dsimp only at this
 subst this
 rw [a.remn,←D.all];rfl
structure S5 where
 held:Nat→List Int
 ready:Nat→List (List Int×Nat)
 rest:List Int
 out:List (Option (List Int×Nat))
noncomputable def Ar {α:Type} (f:Nat→α) (i:Nat) (x:α):Nat→α:=fun j=>if j=i then x else f j
theorem A4 {α:Type} (f:Nat→α) (i:Nat) (x:α):Ar f i x i=x:=if_pos rfl
theorem A1 {α:Type} (f:Nat→α) {i j:Nat} (x:α) (h:j≠i):Ar f i x j=f j:=if_neg h
noncomputable def heldAt (S:S5) (i:Nat):List Int:=if i=3 then [] else S.held i
noncomputable def BV (S:S5) (i:Nat):List (List Int×Nat):=if i=3 then [] else S.ready i
noncomputable def Bw (W:Nat→List (List Int)) (S:S5) (i:Nat):List Int×List (List Int×Nat)×List Int:=deal (W i) (heldAt S i) (BV S i) S.rest
noncomputable def CD (W:Nat→List (List Int)) (S:S5) (i:Nat):S5:=⟨Ar S.held i (Bw W S i).1,Ar S.ready i (Bw W S i).2.1.tail,(Bw W S i).2.2,S.out++[(Bw W S i).2.1.head?]⟩
noncomputable def AX (W:Nat→List (List Int)) (t:List Int) (os:List Nat):S5:=os.foldl (CD W) ⟨fun _=>[],fun _=>[],t,[]⟩
theorem CE (W:Nat→List (List Int)) (t:List Int) (os:List Nat) (i:Nat):AX W t (os++[i])=CD W (AX W t os) i:=by unfold AX;rw [List.foldl_append];rfl
structure HC (W:Nat→List (List Int)) (t:List Int) (S:S5):Prop where
 k:∀i,∃k,S.ready i=DI (W i) (S.held i) k
 n:∀i,(S.held i).length+S.rest.length≤t.length
 s:S.rest <:+ t
theorem HC.at {W:Nat→List (List Int)} {t:List Int} {S:S5} (h:HC W t S) (i:Nat):(∃k,BV S i=DI (W i) (heldAt S i) k)∧(heldAt S i).length+S.rest.length≤t.length:=by
 unfold BV heldAt
 split
 ·exact ⟨⟨0,rfl⟩,by have:=h.s.length_le;simpa using this⟩
 ·exact ⟨h.k i,h.n i⟩
theorem HC.deal {W:Nat→List (List Int)} {t:List Int} {S:S5} (h:HC W t S) (i:Nat):I5 (W i) (heldAt S i) (BV S i) S.rest (Bw W S i)∧(Bw W S i).2.2 <:+ S.rest:=by
 have D:=GS (W i) S.rest (heldAt S i) (BV S i) (h.at i).1
 exact ⟨D,LU D (Iw _ _ _ _)⟩
theorem HC.step {W:Nat→List (List Int)} {t:List Int} {S:S5} (h:HC W t S) (i:Nat):HC W t (CD W S i):=by
 refine xa0_2 (h.deal i) ?_;intro D hs
 have hn:=(h.at i).2
 have hl:=congrArg List.length D.app
 rw [List.length_append,List.length_append] at hl
 refine ⟨fun j=>?_,fun j=>?_,hs.trans h.s⟩
 ·by_cases q:j=i
  ·subst q
   refine xa1_1 D.k ?_;intro k hk
   exact ⟨k+1,by show Ar S.ready j _ j=DI _ (Ar S.held j _ j) _;rw [A4,A4,hk];unfold DI;rw [List.tail_drop]⟩
  ·refine xa1_1 (h.k j) ?_;intro k hk
   exact ⟨k,by show Ar S.ready i _ j=DI _ (Ar S.held i _ j) _;rw [A1 _ _ q,A1 _ _ q];exact hk⟩
 ·show (Ar S.held i _ j).length+(Bw W S i).2.2.length≤_
  by_cases q:j=i
  ·subst q;rw [A4,hl];exact hn
  ·rw [A1 _ _ q]
   exact Nat.le_trans (Nat.add_le_add_left hs.length_le _) (h.n j)
theorem HC.run (W:Nat→List (List Int)) (t:List Int) (os:List Nat):HC W t (AX W t os):=by
 have key:∀(os:List Nat) (S:S5),HC W t S→HC W t (os.foldl (CD W) S):=fun os=>by
  induction os with
  |nil=>exact fun S h=>h
  |cons i os ih=>exact fun S h=>ih _ (h.step i)
 exact key os _ ⟨fun i=>⟨0,rfl⟩,fun i=>by simp,List.suffix_refl _⟩
end
end
section
section
variable {C:Cf} {A:Around} {s s':Shared} {F F' G:FH} {env:Env} {E:Value→Shared→Prop} {hp hp':HP} {loc:PL} {σ:Al}
structure TpR (C:Cf):Prop where
 x:TpX C
 g_iter:GL C "iter" (.builtin "iter")
noncomputable def d5:List Int:=[8,1,2,0,0]
noncomputable abbrev KV (ns:List Int):List Int:=FF (CT d5 16 ns)
noncomputable abbrev Oy (vs:List Int):List (List Int):=(vs.take 5).map FE
theorem Jv (ns:List Int):5≤(KV ns).length∧(KV ns).length≤16:=by
 have h1:=HV d5 16 ns
 have h2:=MG (d:=d5) (m:=16) ns (by decide)
 have h3:=Lb (CT d5 16 ns)
 have h4:d5.length=5:=rfl
 unfold KV;exact ⟨A8 [_,_,_] [(1,Z1,Z2),(1,Z2,Z0),(1,(Zn 5),Z1)] (Zn 5) Z0 rfl h2 (Nat.le_of_eq (Eq.symm h3)) (Nat.le_of_eq (Eq.symm h4)),A8 [_,_] [(1,Z1,(Zn 16)),(1,Z0,Z1)] Z0 (Zn 16) rfl h1 (Nat.le_of_eq h3)⟩
theorem NU (T:TpX C) {r:FdRest} {L f fr:Addr} {rr:FdRest} (hrow:FnAt C fr (rr.fd rowP .none)) (hgr:GL C "_law_row" (.ref fr)) (hA:A.handled=none) (hroom:A.depth+2+Builtin.pylongFrames<recursionLimit)
  {ns:List Int} {Q:A7→Al→Prop} (hlen:ns.length≤63)
  (h:Cd C A Bd (B8 r L f) (lawP.body.drop 3) ⟨[("values",lstI (KV ns)),("words",Cu (Oy (KV ns)))],hp⟩ Q) :
  Cd C A Bd (B8 r L f) lawP.body ⟨[("script",lstI ns)],hp⟩ Q:=by
 have hnl:=HV d5 16 ns
 refine xa0_2 (Jv ns) ?_;intro hv1 hv2
 have hz:(Cm (d5.map AV.int) (some ((ns.map AV.int).length:Int)) none).length≤5:=Gk _ _ _
 have hz1:(ns.map AV.int).length≤63:=by rw [List.length_map];exact hlen
 refine Aa ?_
 refine Jr [] (lstI (CT d5 16 ns)) (PE.eqv (B3 (Ce (Ak rfl) (B3 (Hy (d5.map AV.int) (.cons Av (.cons Av (.cons Av (.cons Av (.cons Av .nil))))) (by decide)) (Ba (Cn T.t.g_len (.cons (Ak rfl) .nil) (JI (by with_reducible exact Bj ‹_› (by decide))))) AJ AJ (C3 (by decide))) (Od (A8 [_,_] [(1,Z1,(Zn 5)),(1,Z0,(Zn 63))] (Za Z0 Z1) (Zn 100000) rfl hz hz1))) AJ (Ba Av) AJ (C3 (by rw [List.length_append];exact A8 [_,_] [(1,Z1,(Zn 5)),(1,Z0,(Zn 63))] (Za Z0 Z1) (Zn 100000) rfl hz hz1))) (congrArg AV.lst (Lw d5 16 ns))) ?_
 refine Aa (Ka [] ((KV ns).map .int) ((Mn hA (CT d5 16 ns).zipIdx (fun p=>.int (p.2:Int)) (fun p=>.int p.1) (fun p=>.int (p.1+(p.2:Int))) ((JW hA T.t.g_enum (.cons (Ak rfl) .nil) .lst).eq (OA _)) (by rw [List.length_zipIdx];exact A8 [_] [(1,Z0,(Zn 16))] Z0 (Zn 100000) rfl hnl) fun Lc a ha=>Ce (Ak rfl) (Ak rfl) OE).eq (Kc _)) ?_)
 have h5:Cm ((KV ns).map AV.int) none (some (5:Int))=((KV ns).take 5).map AV.int:=by rw [CJ];exact congrArg (List.map AV.int) (DC _ 5)
 have h6:((KV ns).take 5).length≤5:=by rw [List.length_take];omega
 refine Aa (Ka [] ((Oy (KV ns)).map tupI) (KW.eq (JX ((KV ns).take 5) .int (fun v=>tupI (FE v)) ((Dt hA (B3 (Ak rfl) AJ (Ba Av) AJ (C3 (by rw [List.length_map];exact A8 [_] [(1,Z0,(Zn 16))] Z0 (Zn 100000) rfl hv2))) .lst).eq h5) (A8 [_] [(1,Z0,(Zn 5))] Z0 (Zn 100000) rfl h6) fun Lc v hv=>?_) (by rw [List.map_map];rfl)) (Dx (Ac rfl (Ac rfl A5)) h))
 refine xa1_3 (Jz v) ?_;intro k hk1 hk2 hk3
 refine PE.eqv (Ml T hrow hgr hA (C0 [_,_,_] [(1,(Zs (Za (Za Z0 (Zn 2)) Z1)),Z2)] (Za (Zs Z0) Z1) Z2 rfl hroom) (Ak rfl) (B1 (Hy [.int 2,.int 3,.int 4,.int 2,.int 3,.int 0,.int 4,.int 3,.int 2,.int 1,.int 4] (.cons Av (.cons Av (.cons Av (.cons Av (.cons Av (.cons Av (.cons Av (.cons Av (.cons Av (.cons Av (.cons Av .nil))))))))))) (by decide)) (Ce (Ak rfl) Av (GW (by decide))) (Bx (LK v).1 (N7 v hk2) (by decide))) (by with_reducible exact Bj ‹_› (by decide))) (by rw [FE,hk3])
theorem NT (T:TpX C) {r:FdRest} {L f fr:Addr} {rr:FdRest} (hrow:FnAt C fr (rr.fd rowP .none)) (hgr:GL C "_law_row" (.ref fr)) (hA:A.handled=none) (hroom:A.depth+2+Builtin.pylongFrames<recursionLimit)
  {vs:List Int} {W:AV} {Q:A7→Al→Prop} (hlen:vs.length≤16)
  (h:Cd C A Bd (B8 r L f) (lawP.body.drop 5) ⟨[("values",lstI vs),("words",W),("text",lstI (CN (vs.take 8)))],hp⟩ Q) :
  Cd C A Bd (B8 r L f) (lawP.body.drop 3) ⟨[("values",lstI vs),("words",W)],hp⟩ Q:=by
 have h8:Cm (vs.map AV.int) none (some (8:Int))=(vs.take 8).map AV.int:=by rw [CJ];exact congrArg (List.map AV.int) (DC _ 8)
 have h8l:(vs.take 8).length≤8:=by rw [List.length_take];omega
 refine Aa (Ah (AN (At ⟨by decide,fun a ha=>?_⟩)))
 refine Aa (Ee [] (fun xs loc hp'=>∃done rest,vs.take 8=done++rest∧xs=rest.map AV.int∧loc=([("values",lstI vs),("words",W),("text",.ref a)]:List (Str×AV))∧hp'=upd hp a (.list ((CN done).map .int)))
  ((Dt hA (B3 (Ak rfl) AJ (Ba Av) AJ (C3 (by rw [List.length_map];exact A8 [_] [(1,Z0,(Zn 16))] Z0 (Zn 100000) rfl hlen))) .lst).eq h8) ⟨[("values",lstI vs),("words",W),("text",.ref a)],Ac rfl (Ac rfl (Ac rfl (A5))),[],vs.take 8,rfl,rfl,rfl,rfl⟩ ?_ ?_)
 ·(rintro x xs loc hp';intro zr;refine xa2_4 zr ?_;(try clear zr);intro done rest e1 e2;rintro rfl;rintro rfl)
  cases rest with
  |nil=>cases e2
  |cons v rest=>
   cases e2
   have hl:(CN done).length≤300:=by
    rw [FG]
    have:=congrArg List.length e1
    simp at this;omega
   refine Bs (Aa (AM (A2 (Ab rfl (Gd (Ae _ _ _) (Ay (AL [] (tupI (MC v 3)) (Ml T hrow hgr hA (C0 [_,_,_] [(1,(Zs (Za (Za Z0 (Zn 2)) Z1)),Z2)] (Za (Zs Z0) Z1) Z2 rfl hroom) (Ak rfl) Av (by decide)) (At (A6 (Fl (Ae _ _ _) (by simp [Hh];with_reducible exact Bj ‹_› (by decide)) (An ⟨[("values",lstI vs),("words",W),("text",.ref a)],Ac rfl (Ac rfl (Ac rfl (A5))),done++[v],rest,by rw [e1];simp,rfl,rfl,?_⟩)))))))))))
   exact (Jw hp a _ _).trans (congrArg (fun z=>upd hp a (AO.list z)) (by simp [CN]))
 ·(rintro loc hp';intro zr;refine xa2_4 zr ?_;(try clear zr);intro done rest e1 e2;rintro rfl;rintro rfl)
  have:rest=[]:=by simpa using e2.symm
  subst this
  rw [List.append_nil] at e1
  rw [e1] at h
  refine Tr.freeze "text" a ((CN done).map .int) (Ae _ _ _) rfl ?_
  rw [Iv ha]
  exact Dx (Ac rfl (Ac rfl (Ac rfl (A5)))) h
theorem Gj (l:Addr) (items:Array Value) (n:Nat) (b:Addr) (items2:Array Value) (n2:Nat) (dd:Option Addr) (sl:Array (Option Value)) (hne:l≠b) (hs0:¬(!items.isEmpty&&Builtin.List.listTooLong (items.size+items2.size))=true) (hs1:items.size≤sizeLine) (hs2:items.size+items2.size≤sizeLine+1) :
  Meets (Builtin.«list.extend» ⟨[.ref l,.ref b],[]⟩) (fun zu R s=>s.heap.get? l=some { cls:=.type "list",dict:=none,data:=.seq items n,slots:=#[] }∧s.heap.get? b=some { cls:=.type "list",dict:=dd,data:=.seq items2 n2,slots:=sl }∧R (.ok (.ret Value.none)) { s with heap:=s.heap.update l (Obj.mapSeq fun x=>x++items2),toks:=s.toks }):=
 .of_wp fun prog w A R s h=>by
  refine cps fun zP zk=>?_;(rcases s with ⟨hp,g,d,tk,os⟩)<;>(refine zk ?_;clear zk zP);refine xa0_3 h ?_;(try clear h);intro hl hb h
  have f1:=AutoSeq1.idx_int;have f2:=AutoSeq1.sub_tuple_tuple;have f3:=AutoSeq1.sub_list_list;have f4:=AutoSeq1.sub_tuple_list;have f5:=AutoSeq1.sub_list_tuple
  have f6:=FT hne
  have hz':(items++items2).size≤sizeLine+1:=by rw [Array.size_append];exact hs2
  wp_walk using (wpAny_updateSeq hl rfl (hz:=hs1) (_hz':=hz')),AutoSeq1.wpAny_loadPart' hl,AutoSeq1.wpAny_loadPart' hb
  exact ⟨_,rfl,h⟩
theorem Fq {a:Addr} {xs ys:List AV} {Q:AV→Al→Prop} (ha:σ.hp a=some (.list xs)) (hz:xs.length+ys.length≤100000) (h:Q .none (σ.put a (.list (xs++ys)))):Br C A E env (.val (.builtin "list.extend")) [.ref a] [.lst ys] [] σ Q:=by
 refine AB fun F G s us vs hR hus hvs=>?_
 refine xa2_3 hus.inv ?_;intro v1 us1;rintro rfl;intro h1 h2
 obtain rfl:=h2.inv0
 obtain rfl:=h1.refI
 refine xa2_3 hvs.inv ?_;intro v2 us2;rintro rfl;intro h3 h4
 obtain rfl:=h4.inv0
 refine VR.lstC h3 fun ws b ⟨cls,dd,data,sl⟩ n2 zo ho hc hd hws=>?_;clear h3;subst zo
 have hne:a≠b:=fun q=>by rw [←q,(hR.wd.ob _ _ ha).1] at ho;exact Aj ho
 replace ho:=hR.wd.fz _ _ ho
 dsimp only at hc hd
 subst hc hd
 refine xa2_2 (hR.list ha) ?_;intro us n hl hv
 have e1:=hv.length
 have e2:=hws.length
 have hsz:us.toArray.size+ws.toArray.size≤sizeLine:=by simp only [List.size_toArray,e1,e2,sizeLine_eq];with_reducible exact Bj ‹_› (by decide)
 refine call_meets PySem.F.slot_list_extend ⟨_,hl,rfl⟩ PySem.F.entry_list_extend (PySem.F.args_list_extend_2 _ _) (Gj a us.toArray n b ws.toArray n2 dd sl hne (extend_door hsz) (Nat.le_trans (Nat.le_add_right _ _) hsz) (Nat.le_succ_of_le hsz)) ⟨hl,ho,?_⟩
 have hl':=hl.update (fun x=>x++ws.toArray)
 refine ⟨F,.none,_,AE.refl F,.none,hR.change ha rfl hl' ?_ (SameBut.rest (Heap.SameBut.update ..)),h⟩
 have e:us.toArray++ws.toArray=(us++ws).toArray:=by simp
 rw [e]
 exact OR.ofL (hv.append hws)
noncomputable def Ni (v:Int):List Nat:=[(v.fmod 4).toNat,((v.fdiv 4).fmod 4).toNat]
noncomputable def DL (vs:List Int):List Nat:=vs.flatMap Ni
theorem JM (v:Int):v.fmod 4=((v.fmod 4).toNat:Int)∧(v.fmod 4).toNat<4:=by
 have h1:=Int.fmod_nonneg_of_pos v (b:=4) (by decide)
 have h2:=Int.fmod_lt_of_pos v (b:=4) (by decide)
 omega
theorem Lv (vs:List Int):∀i∈DL vs,i<4:=fun i hi=>by
 refine xa1_2 (List.mem_flatMap.mp hi) ?_;intro v zu h
 rcases List.mem_cons.mp h with rfl|h
 ·exact (JM _).2
 ·rw [List.mem_singleton.mp h];exact (JM _).2
theorem GJ (vs:List Int):(DL vs).length=2*vs.length:=by
 unfold DL
 rw [List.length_flatMap]
 induction vs with
 |nil=>rfl
 |cons v vs ih=>rw [List.map_cons,List.sum_cons,ih,List.length_cons];show 2+_=_;exact Nat.le_antisymm (A8 [_] [] (Za (Zn 2) (.mulL 2 Z0)) (.mulL 2 (Zs Z0)) rfl) (A8 [_] [] (.mulL 2 (Zs Z0)) (Za (Zn 2) (.mulL 2 Z0)) rfl)
noncomputable abbrev EM (l:List Nat):AV:=.lst (l.map fun (i:Nat)=>AV.int (i:Int))
theorem NS (T:TpX C) {r:FdRest} {L f:Addr} (hA:A.handled=none) (pl:Nt C A)
  {vs:List Int} {W X:AV} {Q:A7→Al→Prop} (hlen:vs.length≤16)
  (h:Cd C A Bd (B8 r L f) (lawP.body.drop 7) ⟨[("words",W),("text",X),("order",EM (DL vs))],hp⟩ Q) :
  Cd C A Bd (B8 r L f) (lawP.body.drop 5) ⟨[("values",lstI vs),("words",W),("text",X)],hp⟩ Q:=by
 refine Aa (Ah (AN (At ⟨by decide,fun a ha=>?_⟩)))
 refine Aa (Ee [] (fun xs loc hp'=>∃done rest,vs=done++rest∧xs=rest.map AV.int∧loc=([("words",W),("text",X),("order",.ref a)]:List (Str×AV))∧hp'=upd hp a (.list ((DL done).map fun (i:Nat)=>AV.int (i:Int))))
  (Dt hA (Ak rfl) .lst) ⟨[("words",W),("text",X),("order",.ref a)],Ac rfl (Ac rfl (Ac rfl (A5))),[],vs,rfl,rfl,rfl,rfl⟩ ?_ ?_)
 ·(rintro x xs loc hp';intro zr;refine xa2_4 zr ?_;(try clear zr);intro done rest e1 e2;rintro rfl;rintro rfl)
  cases rest with
  |nil=>cases e2
  |cons v rest=>
   cases e2
   have hl:(DL done).length≤300:=by
    rw [GJ]
    have:=congrArg List.length e1
    simp at this;exact A8 [_,_,_] [(2,Z1,(Zn 16)),(2,(Za Z0 (Zs Z2)),Z1)] (.mulL 2 Z0) (Zn 300) rfl hlen (Nat.le_of_eq (Eq.symm this))
   refine Bs (Aa (AM (A2 (Ab rfl (Gd (Ae _ _ _) (Ay (AL [] (EM (Ni v)) (PE.eqv (Hy [.int (v.fmod 4),.int ((v.fdiv 4).fmod 4)] (.cons (Ce (Ak rfl) Av (GW (by decide))) (.cons (Ce (Ce (Ak rfl) Av (Mb pl (by decide))) Av (GW (by decide))) .nil)) (Nat.le_of_ble_eq_true rfl)) ?_) (At (A6 (Fq (Ae _ _ _) (by rw [List.length_map];show _+2≤_;exact A8 [_] [(1,Z0,(Zn 300))] (Za Z0 (Zn 2)) (Zn 100000) rfl hl) (An ⟨[("words",W),("text",X),("order",.ref a)],Ac rfl (Ac rfl (Ac rfl (A5))),done++[v],rest,by rw [e1];simp,rfl,rfl,?_⟩)))))))))))
   ·show AV.lst [_,_]=AV.lst [.int ((v.fmod 4).toNat:Int),.int (((v.fdiv 4).fmod 4).toNat:Int)]
    rw [←(JM v).1,←(JM (v.fdiv 4)).1]
   ·exact (Jw hp a _ _).trans (congrArg (fun z=>upd hp a (AO.list z)) (by simp [DL]))
 ·(rintro loc hp';intro zr;refine xa2_4 zr ?_;(try clear zr);intro done rest e1 e2;rintro rfl;rintro rfl)
  have:rest=[]:=by simpa using e2.symm
  subst this
  rw [List.append_nil] at e1
  subst e1
  refine Tr.freeze "order" a ((DL vs).map fun (i:Nat)=>AV.int (i:Int)) (Ae _ _ _) rfl ?_
  rw [Iv ha]
  exact Dx (Ac rfl (Ac rfl (Ac rfl (A5)))) h
end
end
section
section
variable {C:Cf} {A:Around} {s s':Shared} {F F' G:FH} {env:Env} {E:Value→Shared→Prop} {hp hp':HP} {loc:PL} {σ:Al}
noncomputable def sel2 {α:Type} (j:Nat) (ws:List α):List α:=((ws.zipIdx).filter fun p=>p.2 % 2=j).map (·.1)
theorem GF (j:Nat) (ws:List (List Int)) (w:List Int):sel2 j (ws++[w])=if ws.length % 2=j then sel2 j ws++[w] else sel2 j ws:=by
 unfold sel2
 rw [List.zipIdx_append]
 simp only [List.zipIdx_cons,List.zipIdx_nil,Nat.zero_add,List.filter_append,List.map_append,List.filter_cons,List.filter_nil]
 split
 ·rename_i q;simp at q;simp [q]
 ·rename_i q;simp at q;simp [q]
theorem AU {j:Nat} {ws:List (List Int)} {w:List Int} (h:w∈sel2 j ws):w∈ws:=by
 unfold sel2 at h
 refine xa1_2 (List.mem_map.mp h) ?_;intro p hp;rintro rfl
 have:=(List.mem_filter.mp hp).1
 exact (List.mem_zipIdx' this).2▸List.getElem_mem _
theorem Lo (j:Nat) (ws:List (List Int)):(sel2 j ws).length≤ws.length:=by
 unfold sel2
 rw [List.length_map]
 exact Nat.le_trans (List.length_filter_le _ _) (by rw [List.length_zipIdx];exact Nat.le_refl _)
theorem N9 (ws:List (List Int)):G3 (ws.map DV)=(ws.map List.length).sum:=by
 unfold G3;rw [List.map_map];congr 1
 refine List.map_congr_left fun w _=>?_
 simp [DV,Aq]
theorem J0 {m:Nat}:∀l:List (List Int),(∀w∈l,w.length≤m)→(l.map List.length).sum≤l.length*m
 |[],_=>by simp
 |w::l,h=>by
  have h1:=J0 l fun u hu=>h u (List.mem_cons_of_mem _ hu)
  have h2:=h w List.mem_cons_self
  simp only [List.map_cons,List.sum_cons,List.length_cons,Nat.add_mul,Nat.one_mul];exact A8 [_,_,_,_] [(1,Z1,Z2),(1,Z0,Z3)] (Za Z0 Z1) (Za Z2 Z3) rfl h1 h2
theorem HK (j:Nat) (ws:List (List Int)) (hl:ws.length≤5) (h:∀w∈ws,w.length≤4):G3 ((sel2 j ws).map DV)≤20:=by
 rw [N9]
 have h1:=J0 (sel2 j ws) fun w hw=>h w (AU hw)
 have h2:=Lo j ws
 exact A8 [_,_,_] [(4,Z1,(Zn 5)),(1,Z0,(.mulR Z2 4)),(4,Z2,Z1)] Z0 (Zn 20) rfl hl h1 h2
theorem FP {α:Type} {l:List α} {j:Nat} {x:α} (h:l[j]? = some x):l.set j x=l:=by
 apply List.ext_getElem?
 intro i
 by_cases q:j=i
 ·subst q;rw [List.getElem?_set_self (List.getElem?_eq_some_iff.mp h).1,h]
 ·rw [List.getElem?_set_ne q]
structure Jj (ws:List (List Int)) (i:Nat) (l:List TI) (hp:HP):Prop where
 n:l.length=2
 F:Bf l hp
 f:∀(j:Nat) (e:TI),l[j]? = some e→e.fin=decide (j<i)∧e.ci=false∧e.ws=(sel2 j ws).map DV
noncomputable abbrev I6 (l:List TI):AV:=.lst ((l.map TI.t).map .ref)
theorem D2 {l:List TI} {j:Nat} {e:TI} (h:l[j]? = some e):((l.map TI.t).map AV.ref)[j]? = some (.ref e.t):=by rw [List.getElem?_map,List.getElem?_map,h];rfl
theorem Jj.at {ws:List (List Int)} {i:Nat} {l:List TI} {hp:HP} (h:Jj ws i l hp) {j:Nat} (hj:j<2):∃e,l[j]? = some e:=⟨_,List.getElem?_eq_getElem (by rw [h.n];exact hj)⟩
theorem Jj.turn {ws ws':List (List Int)} {i i' j:Nat} {l:List TI} {hp hp':HP} (h:Jj ws i l hp) {e e':TI} (he:l[j]? = some e) (k1:e'.t=e.t) (k2:e'.fin=decide (j<i')) (k3:e'.ci=false) (k4:e'.ws=(sel2 j ws').map DV) (k5:Bf (l.set j e') hp')
  (k:∀m,m≠j→m<2→(decide (m<i)=decide (m<i'))∧sel2 m ws=sel2 m ws'):Jj ws' i' (l.set j e') hp'∧I6 (l.set j e')=I6 l:=by
 have hj:=(List.getElem?_eq_some_iff.mp he).1
 refine ⟨⟨by rw [List.length_set];exact h.n,k5,fun m o ho=>?_⟩,?_⟩
 ·by_cases q:j=m
  ·subst q
   rw [List.getElem?_set_self hj] at ho;(have zc:=Option.some.inj ho;clear ho;subst zc)
   exact ⟨k2,k3,k4⟩
  ·rw [List.getElem?_set_ne q] at ho
   refine xa0_3 (h.f m o ho) ?_;intro a b c
   have hm:=(List.getElem?_eq_some_iff.mp ho).1
   rw [h.n] at hm
   refine xa0_2 (k m (Ne.symm q) hm) ?_;intro d g
   exact ⟨a.trans d,b,c.trans (by rw [g])⟩
 ·show AV.lst _=AV.lst _
  rw [List.map_set,k1,FP (by rw [List.getElem?_map,he];rfl)]
theorem No (n:Nat):((n:Int).fmod 2).toNat=n % 2∧0≤(n:Int).fmod 2:=by
 have hm:(n:Int).fmod 2=((n % 2:Nat):Int):=by rw [Int.fmod_eq_emod_of_nonneg _ (by decide)];simp
 rw [hm]
 exact ⟨Int.toNat_natCast _,Int.natCast_nonneg _⟩
theorem O9 (ws:List (List Int)):E4 (ws.map tupI)=ws.zipIdx.map fun p=>.tup [.int (p.2:Nat),tupI p.1]:=GQ ws _
theorem NQ (T:TpX C) {r:FdRest} {L f:Addr} (hA:A.handled=none) (hroom:A.depth+20<recursionLimit)
  {ws:List (List Int)} {TX OX:AV} {Q:A7→Al→Prop} (hlen:ws.length≤5) (hw4:∀w∈ws,w.length≤4)
  (h:∀(l:List TI) (hp':HP),Jj ws 2 l hp'→Cd C A Bd (B8 r L f) (lawP.body.drop 10) ⟨[("words",Cu ws),("text",TX),("order",OX),("trees",I6 l)],hp'⟩ Q) :
  Cd C A Bd (B8 r L f) (lawP.body.drop 7) ⟨[("words",Cu ws),("text",TX),("order",OX)],hp⟩ Q:=by
 refine Aa (Ah (I3 ?_))
 refine Ay (AZ (Db T.g_Tree (At (A6 (DF T.t.mkT ((Gh T.t (ci:=false) (by with_reducible exact FZ ‹_› (by decide)) (.inr ⟨rfl,rfl⟩) Bf.nil).mono fun v0 hp0 ⟨e0,q01,q02,q03,q04,q05,_⟩=>?_))))))
 refine Ay (AZ (Db T.g_Tree (At (A6 (DF T.t.mkT ((Gh T.t (ci:=false) (by with_reducible exact FZ ‹_› (by decide)) (.inr ⟨rfl,rfl⟩) q05).mono fun v1 hp1 ⟨e1,q11,q12,q13,q14,q15,_⟩=>?_))))))
 subst q01 q11
 refine At ⟨Nat.le_of_ble_eq_true rfl,?_⟩
 have start:Jj [] 0 [e0,e1] hp1:=by
  refine ⟨rfl,q15,fun j e he=>?_⟩
  match j,he with
  |0,he=>cases he;exact ⟨q02,q04,q03⟩
  |1,he=>cases he;exact ⟨q12,q14,q13⟩
 refine Aa ?_
 refine Ee [] (fun xs loc hp'=>∃done rest l,ws=done++rest∧Jj done 0 l hp'∧xs=(rest.zipIdx done.length).map (fun p=>AV.tup [.int (p.2:Nat),tupI p.1])∧loc=([("words",Cu ws),("text",TX),("order",OX),("trees",I6 l)]:List (Str×AV)))
  ((JW hA T.t.g_enum (.cons (Ak rfl) .nil) .lst).eq (O9 ws)) ⟨[("words",Cu ws),("text",TX),("order",OX),("trees",I6 [e0,e1])],Ac rfl (Ac rfl (Ac rfl (Ac rfl (A5)))),[],ws,[e0,e1],rfl,start,rfl,rfl⟩ ?_ ?_
 ·(rintro x xs loc hp';intro zr;refine xa3_4 zr ?_;(try clear zr);intro done rest l eW I e2';rintro rfl)
  cases rest with
  |nil=>cases e2'
  |cons w rest=>
   simp only [List.zipIdx_cons,List.map_cons] at e2'
   cases e2'
   have hwl:=hw4 w (by rw [eW];simp)
   have hdl:done.length≤5:=by
    have:=congrArg List.length eW
    rw [List.length_append] at this;exact A8 [_,_,_] [(1,Z1,(Zn 5)),(1,(Za Z0 Z2),Z1)] Z0 (Zn 5) rfl hlen (Nat.le_of_eq (Eq.symm this))
   have hd4:∀w∈done,w.length≤4:=fun w hw=>hw4 w (by rw [eW];exact List.mem_append_left _ hw)
   refine xa1_1 (I.at (Nat.mod_lt done.length (by decide:0<2))) ?_;intro e he
   refine xa0_3 (I.f _ e he) ?_;intro f1 f2 f3
   have hem:=List.mem_of_getElem? he
   have hsum:=HK (done.length % 2) done hdl hd4
   rw [←f3] at hsum
   refine xa0_2 (No done.length) ?_;intro z1 z2
   refine EE hA (Aa (AM (A2 ?_)))
   refine AL [] (.ref e.t) (B1 (Ak rfl) (Ce (Ak rfl) Av (GW (by decide))) (Bx z2 (by rw [z1];exact D2 he) (by rw [List.length_map,List.length_map,I.n];decide))) ?_
   refine Cr T.t.m_add (I.F.ok e hem).rep ?_
   refine Ay (Ab rfl (At (A6 ?_)))
   refine xa1_1 T.t.f_add ?_;intro ra hfa
   refine AR hfa ?_
   refine (IX T.t (w:=DV w) hA (by with_reducible exact FZ ‹_› (by decide)) I.F he (by rw [f1];rfl) (by rw [f2];exact (Oz (by with_reducible exact Bj ‹_› (by decide))).c) (by have:(DV w).1.length=w.length:=(by simp [DV,Aq]);exact A8 [_,_,_] [(1,Z2,(Zn 4)),(1,Z0,(Zn 20)),(1,Z1,Z2)] (Za (Za (Zn 1) Z0) Z1) (Zn 4000) rfl hwl hsum (Nat.le_of_eq this))).mono fun v hp' hq=>?_
   refine cps fun zP zk=>?_;(rcases hq with ⟨_,e',k1,k2,k3,k4,k5,_⟩)<;>(refine zk ?_;clear zk zP)
   refine xa0_2 (I.turn (ws':=done++[w]) (i':=0) he k1 (by rw [k2];rfl) (by rw [k4,f2]) (by rw [k3,f3,GF,if_pos rfl,List.map_append];rfl) k5 fun m hm _=>⟨rfl,by rw [GF,if_neg (Ne.symm hm)]⟩) ?_;intro I' et
   exact An ⟨[("words",Cu ws),("text",TX),("order",OX),("trees",I6 l)],Ac rfl (Ac rfl (Ac rfl (Ac rfl (A5)))),done++[w],rest,_,by rw [eW];simp,I',by simp,by rw [et]⟩
 ·(rintro loc hp';intro zr;refine xa3_4 zr ?_;(try clear zr);intro done rest l eW I e2';rintro rfl)
  have hr0:rest=[]:=by
   cases rest with
   |nil=>rfl
   |cons w rest=>cases e2'
  subst hr0
  rw [List.append_nil] at eW
  subst eW
  refine Aa ?_
  refine Ee [] (fun xs loc hp'=>∃i m,Jj ws i m hp'∧i≤2∧m.map TI.t=l.map TI.t∧xs=((l.map TI.t).map AV.ref).drop i∧loc=([("words",Cu ws),("text",TX),("order",OX),("trees",I6 l)]:List (Str×AV)))
   (Dt hA (Ak rfl) .lst) ⟨[("words",Cu ws),("text",TX),("order",OX),("trees",I6 l)],Ac rfl (Ac rfl (Ac rfl (Ac rfl (A5)))),0,l,I,Nat.zero_le _,rfl,rfl,rfl⟩ ?_ ?_
  ·(rintro x xs loc hp';intro zr;refine xa2_5 zr ?_;(try clear zr);intro i m J hi ht hxs;rintro rfl)
   refine xa0_2 (DB hxs) ?_;intro hx hxs'
   have hi2:i<2:=by
    have:=(List.getElem?_eq_some_iff.mp hx).1
    rw [List.length_map,List.length_map,I.n] at this;exact this
   refine xa1_1 (J.at hi2) ?_;intro e he
   refine xa0_3 (J.f _ e he) ?_;intro f1 f2 f3
   obtain rfl:x=.ref e.t:=by
    have a1:=D2 he
    rw [ht,hx] at a1;(have zc:=Option.some.inj a1;clear a1;subst zc);rfl
   have hem:=List.mem_of_getElem? he
   have hsum:=HK i ws hlen hw4
   rw [←f3] at hsum
   refine Bs (Aa (AM (A2 (Ab rfl ?_))))
   refine Cr T.t.m_fin (J.F.ok e hem).rep ?_
   refine At (A6 ?_)
   refine xa1_1 T.t.f_fin ?_;intro ra hfa
   refine AR hfa ?_
   refine (IW T.t (N:=4) hA (by with_reducible exact Hm ‹_› (by decide)) J.F he (by rw [f1];simp) (A8 [_] [(1,Z0,(Zn 20))] (Za (Zn 1) Z0) (Zn 300) rfl hsum) (fun w hw=>?_)).mono fun v hp' hq=>?_
   ·rw [f3] at hw
    refine xa1_2 (List.mem_map.mp hw) ?_;intro u hu;rintro rfl
    simpa [DV,Aq] using hw4 u (AU hu)
   refine cps fun zP zk=>?_;(rcases hq with ⟨_,e',k1,k2,k3,k4,k5,_⟩)<;>(refine zk ?_;clear zk zP)
   refine xa0_2 (J.turn (ws':=ws) (i':=i+1) he k1 (by rw [k2];simp) (by rw [k4,f2]) (by rw [k3,f3]) k5 fun m hm hm2=>⟨by simp only [decide_eq_decide];omega,rfl⟩) ?_;intro J' et
   refine An ⟨[("words",Cu ws),("text",TX),("order",OX),("trees",I6 l)],Ac rfl (Ac rfl (Ac rfl (Ac rfl (A5)))),i+1,_,J',hi2,?_,hxs',rfl⟩
   rw [List.map_set,k1,FP (by rw [List.getElem?_map,he];rfl)];exact ht
  ·(rintro loc hp';intro zr;refine xa2_5 zr ?_;(try clear zr);intro i m J hi ht hxs;rintro rfl)
   have hi2:i=2:=by
    have h1:=E5 hxs
    rw [List.getElem?_eq_none_iff,List.length_map,List.length_map,I.n] at h1
    exact Nat.le_antisymm (A8 [_] [(1,Z0,(Zn 2))] Z0 (Zn 2) rfl hi) (A8 [_] [(1,(Zn 2),Z0)] (Zn 2) Z0 rfl h1)
   subst hi2
   have et:I6 l=I6 m:=by show AV.lst _=AV.lst _;rw [ht]
   rw [et]
   exact h m hp' J
end
end
section
section
variable {C:Cf} {A:Around} {s s':Shared} {F F' G:FH} {env:Env} {E:Value→Shared→Prop} {hp hp':HP} {loc:PL} {σ:Al}
theorem EI (w:List Int):(Aq w).length=w.length:=by simp [Aq]
theorem BM (w:List Int):(Aq w).map Aw.av=w.map AV.int:=by simp [Aq,Aw.av]
theorem Kf {a b:List Int} (h:a <:+ b):Aq a <:+ Aq b:=h.map _
noncomputable def M3 (hp:HP) (a:Addr):Prop:=(∃g gs,hp a=some (.gen g gs))∨(∃l,hp a=some (.frame l))∨(∃c vs,hp a=some (.fields c vs))∨∃c vs,hp a=some (.itr c vs)
theorem M3.live {a:Addr} (h:M3 hp a):hp a≠none:=by
 rcases h with ⟨_,_,e⟩|⟨_,e⟩|⟨_,_,e⟩|⟨_,_,e⟩<;>(rw [e];exact fun z=>nomatch z)
theorem M3.noL {a:Addr} {xs:List AV} (h:M3 hp a) (hx:hp a=some (.list xs)):False:=by
 rcases h with ⟨_,_,e⟩|⟨_,e⟩|⟨_,_,e⟩|⟨_,_,e⟩<;>exact Gt hx e rfl
theorem AK.noPrv {X:Af} {t d:Addr} {f ci:Bool} (hr:AK X t d f ci hp) {a:Addr} (hf:Fp X t d a) (h:M3 hp a):False:=by
 rcases h with ⟨_,_,e⟩|⟨_,e⟩|⟨_,_,e⟩|⟨_,_,e⟩<;>exact hr.fpNo hf e rfl
theorem B0.prv {r:Addr} {xs:List AV} (h:B0 r hp xs):M3 hp r:=.inr (.inr (.inr h.at))
theorem Cz.priv {X:Af} {t d ga:Addr} {o:BI} {u rest:Ag} {k:Nat} {N:Addr→Prop} (h:Cz C X t d hp ga o u k rest N) {a:Addr} (ha:N a):M3 hp a:=by
 cases h with
 |fresh g q f1 f2=>
  rcases ha with rfl|rfl
  ·exact .inl ⟨_,_,g.gen⟩
  ·exact .inr (.inl ⟨_,g.frm⟩)
 |susp nc g f1 f2 f3 f4 f5=>
  rcases ha with ⟨rfl|rfl|rfl|rfl|rfl|rfl,hO⟩
  ·refine xa1_2 g.gen ?_;intro gs h1 zu;exact .inl ⟨_,_,h1⟩
  ·exact .inr (.inl ⟨_,g.frm⟩)
  ·refine xa1_1 g.enm ?_;intro old h1;exact .inr (.inr (.inl ⟨_,_,h1⟩))
  ·exact .inr (.inr (.inr g.src.at))
  ·exact .inr (.inr (.inl ⟨_,_,g.bnd⟩))
  ·exact .inr (.inr (.inr ⟨_,_,g.itr⟩))
 |done h _=>refine cps fun zP zk=>?_;(rcases h with ⟨_,g,h⟩)<;>(refine zk ?_;clear zk zP);rw [ha];exact .inl ⟨_,_,h⟩
theorem Cz.self {X:Af} {t d ga r:Addr} {u rest:Ag} {k:Nat} {N:Addr→Prop} (h:Cz C X t d hp ga (.rd r) u k rest N):N ga:=by
 have hr:=h.reader
 cases h with
 |fresh g q f1 f2=>exact .inl rfl
 |susp nc g f1 f2 f3 f4 f5=>
  refine ⟨.inl rfl,fun e=>?_⟩
  refine xa1_2 g.gen ?_;intro gs h1 zu
  refine xa2_1 hr.at ?_;intro c vs q
  have e':=BI.rd.inj e
  exact Gt h1 (e'▸q) rfl
 |done h _=>rfl
theorem Cz.rebase {X:Af} {t d ga r:Addr} {u rest rest':Ag} {k:Nat} {N:Addr→Prop} (h:Cz C X t d hp ga (.rd r) u k rest N) (hk:∀a,N a→hp' a=hp a) (hr:B0 r hp' (rest'.map Aw.av)) (hs:rest' <:+ rest):Cz C X t d hp' ga (.rd r) u k rest' N:=by
 have hn:=h.reader
 have nO:∀{a y},hp a=some y→(∀c vs,y≠.itr c vs)→¬C8 (.rd r) a:=fun {a y} e k z=>by
  refine xa2_1 hn.at ?_;intro c vs q
  have e':=BI.rd.inj z
  rw [e',e] at q;exact k _ _ (Option.some.inj q)
 cases h with
 |@fresh rr L tv g w q f f1 f2=>
  refine .fresh ⟨(hk _ (.inl rfl)).trans q.gen,(hk _ (.inr rfl)).trans q.frm,q.nc⟩ ?_ f1 f2
  cases f with
  |rd e=>exact .rd hr
 |@susp rr L ea ia ba ja gn _ _ _ nc g f1 f2 f3 f4 f5=>
  refine .susp (g:=gn) nc ⟨?_,?_,?_,?_,?_,?_,g.nji⟩ f1 f2 f3 f4 f5
  ·refine xa1_2 g.gen ?_;intro gs h1 h2
   exact ⟨gs,(hk _ ⟨.inl rfl,nO h1 fun _ _ z=>AO.noConfusion z⟩).trans h1,h2⟩
  ·exact (hk _ ⟨.inr (.inl rfl),nO g.frm fun _ _ z=>AO.noConfusion z⟩).trans g.frm
  ·exact (hk _ ⟨.inr (.inr (.inr (.inr (.inl rfl)))),nO g.bnd fun _ _ z=>AO.noConfusion z⟩).trans g.bnd
  ·refine xa1_1 g.enm ?_;intro old h1
   exact ⟨old,(hk _ ⟨.inr (.inr (.inl rfl)),nO h1 fun _ _ z=>AO.noConfusion z⟩).trans h1⟩
  ·have hs2:=g.src
   have nj:=g.nji
   have hj:=g.itr
   generalize hxs:rest.map Aw.av=xs at hs2
   cases hs2 with
   |rd e1=>exact .rd hr
  ·refine (hk _ ⟨.inr (.inr (.inr (.inr (.inr rfl)))),fun z=>?_⟩).trans g.itr
   have hs2:=g.src
   have nj:=g.nji
   have e':=BI.rd.inj z
   generalize hxs:rest.map Aw.av=xs at hs2
   cases hs2 with
   |rd e1=>exact nj e'.symm
 |done h h2=>
  refine cps fun zP zk=>?_;(rcases h with ⟨_,g,hg⟩)<;>(refine zk ?_;clear zk zP)
  obtain rfl:=List.suffix_nil.mp hs
  exact .done ⟨hr,g,(hk _ rfl).trans hg⟩ h2
theorem MS {e:TI} {a:Addr} {xs:List AV} (h:e.ok hp) (ha:hp a=some (.list xs)):¬e.fp a:=fun hf=>h.rep.fpNo hf ha rfl
structure DE (C:Cf) (ws:List (List Int)) (l:List TI) (rd:Addr) (n:Nat) (g:Nat→Addr) (S:S5) (N:Nat→Addr→Prop) (hp:HP):Prop where
 re:B0 rd hp (S.rest.map .int)
 tw:Jj ws 2 l hp
 se:∀i e,i<n→l[i % 2]? = some e→∃u k,Cz C e.X e.t e.d hp (g i) (.rd rd) u k (Aq S.rest) (N i)∧I7 (sel2 (i % 2) ws) (S.held i) (S.ready i) S.rest u k
 sep:∀i j a,i<n→j<n→i≠j→N i a→¬N j a
section
variable {ws:List (List Int)} {l:List TI} {rd:Addr} {n:Nat} {g:Nat→Addr} {S:S5} {N:Nat→Addr→Prop}
theorem DE.tree (W:DE C ws l rd n g S N hp) (i:Nat):∃e,l[i % 2]? = some e:=W.tw.at (Nat.mod_lt _ (by decide))
theorem DE.prv (W:DE C ws l rd n g S N hp) {i:Nat} (hi:i<n) {a:Addr} (ha:N i a):M3 hp a∧a≠rd:=by
 refine xa1_1 (W.tree i) ?_;intro e he
 refine xa2_2 (W.se i e hi he) ?_;intro u k h zu
 exact ⟨h.priv ha,fun z=>h.notO ha (by rw [z];rfl)⟩
theorem DE.fpk (W:DE C ws l rd n g S N hp) {a:Addr} (ha:Cw l a):hp a≠none∧¬M3 hp a:=by
 refine ⟨W.tw.F.live ha,fun q=>?_⟩
 refine xa1_2 ha ?_;(try clear ha);intro e he hf
 exact (W.tw.F.ok e he).rep.noPrv hf q
theorem DE.off (W:DE C ws l rd n g S N hp) (h1:∀a,M3 hp a→hp' a=hp a) (h2:∀a,Cw l a→hp' a=hp a):DE C ws l rd n g S N hp':=by
 refine ⟨W.re.off (h1 _ W.re.prv),⟨W.tw.n,W.tw.F.off h2,W.tw.f⟩,fun i e hi he=>?_,W.sep⟩
 refine xa2_2 (W.se i e hi he) ?_;intro u k h a
 exact ⟨u,k,h.rebase (fun b hb=>h1 b (h.priv hb)) (by rw [BM];exact W.re.off (h1 _ W.re.prv)) (List.suffix_refl _),a⟩
theorem DE.offL (W:DE C ws l rd n g S N hp) {a:Addr} (ha:hp a=none∨∃xs,hp a=some (.list xs)) (h:∀b,b≠a→hp' b=hp b):DE C ws l rd n g S N hp':=by
 refine W.off (fun b hb=>h b fun q=>?_) fun b hb=>h b fun q=>?_
 ·subst q
  rcases ha with ha|⟨xs,ha⟩
  ·exact hb.live ha
  ·exact hb.noL ha
 ·subst q
  rcases ha with ha|⟨xs,ha⟩
  ·exact (W.fpk hb).1 ha
  ·refine xa1_2 hb ?_;(try clear hb);intro e he hf
   exact MS (W.tw.F.ok e he) ha hf
theorem DE.others (W:DE C ws l rd n g S N hp) {S':S5} (hs:S'.rest <:+ S.rest) (hr:B0 rd hp' (S'.rest.map .int)) (P:Nat→Prop) (h1:∀i,i<n→¬P i→S'.held i=S.held i∧S'.ready i=S.ready i) (h2:∀i a,i<n→¬P i→N i a→hp' a=hp a) :
  ∀i e,i<n→¬P i→l[i % 2]? = some e→∃u k,Cz C e.X e.t e.d hp' (g i) (.rd rd) u k (Aq S'.rest) (N i)∧I7 (sel2 (i % 2) ws) (S'.held i) (S'.ready i) S'.rest u k:=fun i e hi hp he=>by
 refine xa2_2 (W.se i e hi he) ?_;intro u k h a
 refine xa0_2 (h1 i hi hp) ?_;intro e1 e2
 rw [e1,e2]
 exact ⟨u,k,h.rebase (fun b hb=>h2 i b hi hp hb) (by rw [BM];exact hr) (Kf hs),a.other hs⟩
noncomputable def Bz:Option (List Int×Nat)→AV
 |none=>.none
 |some p=>Am p
noncomputable abbrev AG (ws:List (List Int)) (i:Nat):List (List Int):=sel2 (i % 2) ws
theorem Jj.key {i:Nat} {e:TI} (h:Jj ws 2 l hp) (he:l[i % 2]? = some e):e.ok hp∧e.fin=true∧e.ci=false∧e.X.key=Kw (sel2 (i % 2) ws):=by
 have ok:=h.F.ok e (List.mem_of_getElem? he)
 refine xa0_3 (h.f _ e he) ?_;intro f1 f2 f3
 exact ⟨ok,by rw [f1];exact decide_eq_true (Nat.mod_lt _ (by decide)),f2,by rw [MP ok,f3];rfl⟩
theorem DE.ask {t:List Int} (W:DE C ws l rd n g S N hp) (ok:HC (AG ws) t S) {i:Nat} (hi:i<n) (hi3:i≠3) {e:TI} (he:l[i % 2]? = some e) {u:Ag} {k:Nat} (an:I7 (AG ws i) (S.held i) (S.ready i) S.rest u k) (hS:Cz C e.X e.t e.d hp (g i) (.rd rd) u k (Aq S.rest) (N i)) {v:AV}
  (h1:v=DA (remn e.X.key u k (Aq S.rest))) (h2:∀a,hp a≠none→¬N i a→¬C8 (.rd rd) a→hp' a=hp a)
  (h3:match remn e.X.key u k (Aq S.rest) with
   |[]=>I4 (.rd rd) (g i) hp'
   |y::ys=>∃N' u' k' rest',Cz C e.X e.t e.d hp' (g i) (.rd rd) u' k' rest' N'∧ys=remn e.X.key u' k' rest'∧Fw e.X.key (u++Aq S.rest) u' k' rest' y∧∀a,N' a→N i a∨hp a=none) :
  ∃N',DE C ws l rd n g (CD (AG ws) S i) N' hp'∧v=Bz (Bw (AG ws) S i).2.1.head?:=by
 refine xa0_4 (W.tw.key he) ?_;intro zu zu zu hk
 refine xa0_2 (ok.deal i) ?_;intro D hsuf
 have eh:heldAt S i=S.held i:=if_neg hi3
 have ey:BV S i=S.ready i:=if_neg hi3
 rw [eh,ey] at D
 rw [hk] at h1 h3
 have kN:∀j a,j<n→j≠i→N j a→hp' a=hp a:=fun j a hj hn ha=>h2 a (W.prv hj ha).1.live (W.sep j i a hj hi hn ha) fun z=>(W.prv hj ha).2 (BI.rd.inj z).symm
 have kF:∀a,Cw l a→hp' a=hp a:=fun a ha=>h2 a (W.fpk ha).1 (fun z=>(W.fpk ha).2 (W.prv hi z).1) fun z=>(W.fpk ha).2 ((BI.rd.inj z)▸W.re.prv)
 have twn:Jj ws 2 l hp':=⟨W.tw.n,W.tw.F.off kF,W.tw.f⟩
 have nH:∀j,j≠i→(CD (AG ws) S i).held j=S.held j∧(CD (AG ws) S i).ready j=S.ready j:=fun j hj=>⟨A1 _ _ hj,A1 _ _ hj⟩
 have fin:∀(N':Addr→Prop),(∀a,N' a→N i a∨hp a=none)→B0 rd hp' ((Bw (AG ws) S i).2.2.map .int)→(∃u k,Cz C e.X e.t e.d hp' (g i) (.rd rd) u k (Aq (Bw (AG ws) S i).2.2) N'∧I7 (sel2 (i % 2) ws) (Bw (AG ws) S i).1 (Bw (AG ws) S i).2.1.tail (Bw (AG ws) S i).2.2 u k)→DE C ws l rd n g (CD (AG ws) S i) (Ar N i N') hp':=fun N' hN hr hs=>by
  have oth:=W.others (S':=CD (AG ws) S i) hsuf hr (fun j=>j=i) (fun j _ hj=>nH j hj) (fun j a hj hn ha=>kN j a hj hn ha)
  refine ⟨hr,twn,fun j e' hj he'=>?_,fun j m a hj hm hne=>?_⟩
  ·by_cases q:j=i
   ·subst q
    rw [he] at he';(have zc:=Option.some.inj he';clear he';subst zc)
    show ∃u k,Cz C e.X e.t e.d hp' (g j) (.rd rd) u k (Aq (Bw (AG ws) S j).2.2) (Ar N j N' j)∧I7 _ (Ar S.held j _ j) (Ar S.ready j _ j) _ u k
    rw [A4,A4,A4]
    exact hs
   ·rw [A1 _ _ q];exact oth j e' hj q he'
  ·by_cases q:j=i
   ·subst q
    rw [A4,A1 _ _ (Ne.symm hne)]
    intro z1 z2
    rcases hN a z1 with z|z
    ·exact W.sep j m a hi hm hne z z2
    ·exact (W.prv hm z2).1.live z
   ·rw [A1 _ _ q]
    by_cases q2:m=i
    ·subst q2
     rw [A4]
     intro z1 z2
     rcases hN a z2 with z|z
     ·exact W.sep j m a hj hm hne z1 z
     ·exact (W.prv hj z1).1.live z
    ·rw [A1 _ _ q2];exact W.sep j m a hj hm hne
 generalize hd:Bw (AG ws) S i=d at D hsuf fin
 refine cps fun zP zk=>?_;(rcases d with ⟨h',y,r'⟩)<;>(refine zk ?_;clear zk zP)
 cases y with
 |nil=>
  have hm:=an.mute D
  have hr0:=D.fin rfl
  dsimp only at hr0
  subst hr0
  rw [hm] at h1 h3
  refine ⟨_,fin (fun b=>b=g i) (fun b hb=>.inl (by rw [hb];exact hS.self)) h3.1 ⟨[],0,.done h3 rfl,.done rfl rfl rfl⟩,h1⟩
 |cons p ys=>
  cases hrem:remn (Kw (sel2 (i % 2) ws)) u k (Aq S.rest) with
  |nil=>
   rw [an.remn,←D.all] at hrem
   cases hrem
  |cons x xs=>
   rw [hrem] at h1 h3
   refine xa4_4 h3 ?_;(try clear h3);intro N' u' k' rest' s1 s2 s3 s4
   rw [s2] at hrem
   refine xa0_3 (an.tells D hrem s3) ?_;intro q1 q2 q3
   subst q2
   refine ⟨_,fin N' s4 (by have:=s1.reader;rw [BM] at this;exact this) ⟨u',k',s1,q3⟩,by rw [h1,q1];rfl⟩
theorem DE.one {t:List Int} (W:DE C ws l rd 3 g S N hp) (ok:HC (AG ws) t S) {e:TI} (he:l[1]? = some e) {v:AV}
  (h1:v=DA (BN e.X.key [] (Aq S.rest))) (h2:∀a,hp a≠none→¬C8 (.rd rd) a→hp' a=hp a) (h3:Pc (.rd rd) e.X.key (Aq S.rest) hp') :
  DE C ws l rd 3 g (CD (AG ws) S 3) N hp'∧v=Bz (Bw (AG ws) S 3).2.1.head?:=by
 refine xa0_4 (W.tw.key (i:=3) he) ?_;intro zu zu zu hk
 refine xa0_2 (ok.deal 3) ?_;intro D hsuf
 have eh:heldAt S 3=[]:=if_pos rfl
 have ey:BV S 3=[]:=if_pos rfl
 rw [eh,ey] at D
 have h3':match BN e.X.key [] (Aq S.rest) with
  |[]=>B0 rd hp' []
  |y::_=>∃u k rest,Fw e.X.key (Aq S.rest) u k rest y∧B0 rd hp' (rest.map Aw.av):=h3
 clear h3
 rw [hk] at h1 h3'
 have kN:∀j a,j<3→N j a→hp' a=hp a:=fun j a hj ha=>h2 a (W.prv hj ha).1.live fun z=>(W.prv hj ha).2 (BI.rd.inj z).symm
 have kF:∀a,Cw l a→hp' a=hp a:=fun a ha=>h2 a (W.fpk ha).1 fun z=>(W.fpk ha).2 ((BI.rd.inj z)▸W.re.prv)
 have fin:B0 rd hp' ((Bw (AG ws) S 3).2.2.map .int)→DE C ws l rd 3 g (CD (AG ws) S 3) N hp':=fun hr=>by
  have oth:=W.others (S':=CD (AG ws) S 3) hsuf hr (fun _=>False) (fun j hj _=>⟨A1 _ _ (Nat.ne_of_lt hj),A1 _ _ (Nat.ne_of_lt hj)⟩) (fun j a hj _ ha=>kN j a hj ha)
  exact ⟨hr,⟨W.tw.n,W.tw.F.off kF,W.tw.f⟩,fun j e' hj he'=>oth j e' hj id he',W.sep⟩
 have hf:BN (Kw (AG ws 3)) [] (Aq S.rest)=(BQ (AG ws 3) [] S.rest).map Am:=ER _ S.rest []
 rw [hf] at h1 h3'
 have hA:=D.all
 have hC:=D.app
 have hK:=D.k
 have hE:=D.fin
 rw [List.nil_append] at hA hC
 generalize hd:Bw (AG ws) S 3=d at D fin hA hC hK hE
 refine cps fun zP zk=>?_;(rcases d with ⟨h',y,r'⟩)<;>(refine zk ?_;clear zk zP)
 dsimp only at hA hC hK hE fin
 cases y with
 |nil=>
  obtain rfl:=hE rfl
  have:BQ (AG ws 3) [] S.rest=[]:=hA.symm
  rw [this] at h1 h3'
  exact ⟨fin h3',h1⟩
 |cons p ys=>
  rw [←hA] at h1 h3'
  refine xa3_2 h3' ?_;(try clear h3');intro u' k' rest' s1 s2
  refine xa2_4 (Jx s1) ?_;intro v' q;rintro rfl;rintro rfl;intro e3 e4
  have e5:p.2+p.1.length=h'.length:=by
   refine xa1_1 hK ?_;(try clear hK);intro k hk
   have hp:p∈DI (AG ws 3) h' k:=by rw [←hk];exact List.mem_cons_self
   exact Ir (List.mem_of_mem_drop hp)
  refine xa0_2 (List.append_inj (e3.trans hC.symm) (e4.symm.trans e5)) ?_;intro e7 e8
  subst e7 e8
  rw [BM] at s2
  exact ⟨fin s2,h1⟩
end
end
end
section
section
variable {C:Cf} {A:Around} {s s':Shared} {F F' G:FH} {env:Env} {E:Value→Shared→Prop} {hp hp':HP} {loc:PL} {σ:Al}
theorem Jh (T:TpX C) {e:TI} {xs:List Int} {r:Addr} (hroom:A.depth+1<recursionLimit) (ok:e.ok hp) (hf:e.fin=true) (hc:e.ci=false) (hr:B0 r hp (xs.map .int)) :
  Fn C A (.ref 87) [.ref e.t,.ref r] [] hp (fun v hp'=>∃ga L,v=.ref ga∧(∀a,hp a≠none→hp' a=hp a)∧AK e.X e.t e.d true false hp'∧Cz C e.X e.t e.d hp' ga (.rd r) [] 0 (Aq xs) (fun a=>a=ga∨a=L)∧hp ga=none∧hp L=none):=by
 have hr0:=ok.rep
 rw [hf,hc] at hr0
 refine (Me T.t (tv:=.ref r) hroom hr0 .no).mono fun v hp' hq=>?_
 refine xa4_5 hq ?_;(try clear hq);intro rr L ga g;rintro rfl;intro hF h1 h2 hk
 have zs:=MB (C:=C) hr0 (o:=.rd r) (w:=Aq xs) (by rw [BM];exact .rd hr) hF h1 h2 hk
 exact ⟨ga,L,rfl,hk,zs.2.1,zs.2.2.1,h2,h1⟩
theorem DE.add {ws:List (List Int)} {l:List TI} {rd ga Lg:Addr} {n:Nat} {g:Nat→Addr} {S:S5} {N:Nat→Addr→Prop} (W:DE C ws l rd n g S N hp) (h1:S.held n=[]) (h2:S.ready n=[]) {e:TI} (he:l[n % 2]? = some e) (k:∀a,hp a≠none→hp' a=hp a) (hS:Cz C e.X e.t e.d hp' ga (.rd rd) [] 0 (Aq S.rest) (fun a=>a=ga∨a=Lg)) (n1:hp ga=none) (n2:hp Lg=none) :
  DE C ws l rd (n+1) (Ar g n ga) S (Ar N n fun a=>a=ga∨a=Lg) hp':=by
 have W':=W.off (hp':=hp') (fun b hb=>k b hb.live) fun b hb=>k b (W.fpk hb).1
 have nw:∀a,(a=ga∨a=Lg)→hp a=none:=fun a h=>h.elim (fun z=>z▸n1) fun z=>z▸n2
 refine ⟨W'.re,W'.tw,fun i e' hi he'=>?_,fun i j a hi hj hne=>?_⟩
 ·by_cases q:i=n
  ·subst q
   rw [he] at he';(have zc:=Option.some.inj he';clear he';subst zc)
   rw [A4,A4]
   exact ⟨[],0,hS,.live (by rw [h1];rfl) (by rw [h1,h2];rfl)⟩
  ·rw [A1 _ _ q,A1 _ _ q]
   exact W'.se i e' (by omega) he'
 ·by_cases q:i=n
  ·subst q
   rw [A4,A1 _ _ (Ne.symm hne)]
   exact fun z1 z2=>(W.prv (by omega) z2).1.live (nw a z1)
  ·rw [A1 _ _ q]
   by_cases q2:j=n
   ·subst q2
    rw [A4]
    exact fun z1 z2=>(W.prv (by omega) z1).1.live (nw a z2)
   ·rw [A1 _ _ q2]
    exact W.sep i j a (by omega) (by omega) hne
noncomputable abbrev st5 (ws:List (List Int)) (t:List Int) (os:List Nat) (l:List TI) (rd:Addr) (g:Nat→Addr) (a:Addr):List (Str×AV):=[("words",Cu ws),("text",lstI t),("order",EM os),("trees",I6 l),("reader",.ref rd),("searches",.lst [.ref (g 0),.ref (g 1),.ref (g 2)]),("told",.ref a)]
theorem Po (g:Nat→Addr) {i:Nat} (h:i<3):[AV.ref (g 0),.ref (g 1),.ref (g 2)][i]? = some (.ref (g i)):=by
 rcases Nat.lt_succ_iff_lt_or_eq.mp h with h|rfl
 ·rcases Nat.lt_succ_iff_lt_or_eq.mp h with h|rfl
  ·rcases Nat.lt_succ_iff_lt_or_eq.mp h with h|rfl
   ·exact absurd h (Nat.not_lt_zero i)
   ·rfl
  ·rfl
 ·rfl
inductive OG (C:Cf) (ws:List (List Int)) (t:List Int) (os:List Nat) (l:List TI) (rd:Addr) (g:Nat→Addr) (a:Addr) (xs:List AV) (loc:List (Str×AV)) (hp':HP):Prop
 |mk (done rest:List Nat) (N:Nat→Addr→Prop) (h1:os=done++rest) (h2:xs=rest.map (fun (i:Nat)=>AV.int (i:Int))) (h3:loc=st5 ws t os l rd g a) (h4:DE C ws l rd 3 g (AX (AG ws) t done) N hp') (h5:hp' a=some (.list ((AX (AG ws) t done).out.map Bz))) (h6:(AX (AG ws) t done).out.length=done.length)
open Classical in
theorem NP (T:TpR C) {r:FdRest} {L f ff:Addr} {rf:FdRest} (hff:FnAt C ff (rf.fd firstP .none)) (hgf:GL C "_law_first" (.ref ff)) (hA:A.handled=none) (hu:A.units≤9000) (hroom:A.depth+20<recursionLimit)
  {ws:List (List Int)} {t:List Int} {os:List Nat} {l:List TI} {Q:A7→Al→Prop} (tw:Jj ws 2 l hp) (hos:∀i∈os,i<4) (hol:os.length≤100) (hw4:∀w∈ws,w.length≤4)
  (h:∀a rd g N hp',DE C ws l rd 3 g (AX (AG ws) t os) N hp'→hp' a=some (.list ((AX (AG ws) t os).out.map Bz)) →
   Cd C A Bd (B8 r L f) (lawP.body.drop 14) ⟨[("words",Cu ws),("text",lstI t),("order",EM os),("searches",.lst [.ref (g 0),.ref (g 1),.ref (g 2)]),("told",.ref a)],hp'⟩ Q) :
  Cd C A Bd (B8 r L f) (lawP.body.drop 10) ⟨[("words",Cu ws),("text",lstI t),("order",EM os),("trees",I6 l)],hp⟩ Q:=by
 refine xa1_1 T.x.t.f_one ?_;intro r1 hf1
 refine xa1_1 T.x.t.f_all ?_;intro r2 hf2
 refine Aa (Ah (AZ (C5 T.g_iter (Ay (Ab rfl (At (A6 (KB fun rd hrd=>?_))))))))
 replace hrd:hp rd=none:=hrd
 have W0:DE C ws l rd 0 (fun _=>0) (AX (AG ws) t []) (fun _ _=>False) (upd hp rd (.itr "list_iterator" [.lst (t.map .int),.val (.int (0:Nat) 0)])):=by
  refine ⟨B0.mid (j:=0) (Ae _ _ _) (Nat.zero_le _),⟨tw.n,tw.F.off fun b hb=>Ad _ _ fun z=>tw.F.live hb (z▸hrd),tw.f⟩,fun i e hi=>absurd hi (Nat.not_lt_zero _),fun i j a hi=>absurd hi (Nat.not_lt_zero _)⟩
 show Cd C A Bd (B8 r L f) (lawP.body.drop 11) ⟨[("words",Cu ws),("text",lstI t),("order",EM os),("trees",I6 l),("reader",.ref rd)],upd hp rd (.itr "list_iterator" [.lst (t.map .int),.val (.int (0:Nat) 0)])⟩ Q
 generalize upd hp rd (.itr "list_iterator" [.lst (t.map .int),.val (.int (0:Nat) 0)])=hp1 at W0 ⊢
 refine xa1_1 (W0.tree 0) ?_;intro e0 he0
 refine xa1_1 (W0.tree 1) ?_;intro e1 he1
 have hl2:((l.map TI.t).map AV.ref).length≤100000:=by rw [List.length_map,List.length_map,tw.n];decide
 refine Aa (Ah (I3 ?_))
 refine xa0_4 (W0.tw.key (i:=0) he0) ?_;intro ok h1 h2 zu
 refine Ay (A2 (AL [] (.ref e0.t) (B1 (Ak rfl) Av (Bx (by decide) (D2 he0) hl2)) (Cr T.x.t.m_all ok.rep (Ay (Ab rfl (At (A6 ?_)))))))
 refine AR hf2 ((Jh T.x (C0 [_,_] [(1,(Zs (Za Z0 (Zn 20))),Z1)] (Zs Z0) Z1 rfl hroom) ok h1 h2 W0.re).mono fun v hp2 hq=>?_)
 refine xa2_6 hq ?_;(try clear hq);intro g0 L0;rintro rfl;intro k1 k2 k3 k4 k5
 have W1:=W0.add rfl rfl he0 k1 k3 k4 k5
 clear W0 k1 k2 k3 k4 k5 ok h1 h2
 refine xa0_4 (W1.tw.key (i:=1) he1) ?_;intro ok h1 h2 zu
 refine Ay (A2 (AL [] (.ref e1.t) (B1 (Ak rfl) Av (Bx (by decide) (D2 he1) hl2)) (Cr T.x.t.m_all ok.rep (Ay (Ab rfl (At (A6 ?_)))))))
 refine AR hf2 ((Jh T.x (C0 [_,_] [(1,(Zs (Za Z0 (Zn 20))),Z1)] (Zs Z0) Z1 rfl hroom) ok h1 h2 W1.re).mono fun v hp3 hq=>?_)
 refine xa2_6 hq ?_;(try clear hq);intro g1 L1;rintro rfl;intro k1 k2 k3 k4 k5
 have W2:=W1.add rfl rfl he1 k1 k3 k4 k5
 clear W1 k1 k2 k3 k4 k5 ok h1 h2
 refine xa0_4 (W2.tw.key (i:=2) he0) ?_;intro ok h1 h2 zu
 refine Ay (A2 (AL [] (.ref e0.t) (B1 (Ak rfl) Av (Bx (by decide) (D2 he0) hl2)) (Cr T.x.t.m_all ok.rep (Ay (Ab rfl (At (A6 ?_)))))))
 refine AR hf2 ((Jh T.x (C0 [_,_] [(1,(Zs (Za Z0 (Zn 20))),Z1)] (Zs Z0) Z1 rfl hroom) ok h1 h2 W2.re).mono fun v hp4 hq=>?_)
 refine xa2_6 hq ?_;(try clear hq);intro g2 L2;rintro rfl;intro k1 k2 k3 k4 k5
 have W3:=W2.add rfl rfl he0 k1 k3 k4 k5
 clear W2 k1 k2 k3 k4 k5 ok h1 h2
 refine At ⟨Nat.le_of_ble_eq_true rfl,?_⟩
 generalize hg:Ar (Ar (Ar (fun _=>0) 0 g0) 1 g1) 2 g2=g at W3
 generalize Ar _ 2 _=N at W3
 show Cd C A Bd (B8 r L f) (lawP.body.drop 12) ⟨[("words",Cu ws),("text",lstI t),("order",EM os),("trees",I6 l),("reader",.ref rd),("searches",.lst [.ref g0,.ref g1,.ref g2])],hp4⟩ Q
 obtain rfl:g 0=g0:=by rw [←hg];rfl
 obtain rfl:g 1=g1:=by rw [←hg];rfl
 obtain rfl:g 2=g2:=by rw [←hg];rfl
 clear hg
 refine Aa (Ah (AN (At ⟨Nat.le_of_ble_eq_true rfl,fun a ha=>?_⟩)))
 replace ha:hp4 a=none:=ha
 have W4:=W3.offL (hp':=upd hp4 a (.list [])) (.inl ha) fun b hb=>Ad _ _ hb
 refine Aa (Ee [] (fun xs loc hp'=>OG C ws t os l rd g a xs loc hp')
  (Dt hA (Ak rfl) .lst) ⟨st5 ws t os l rd g a,Ac rfl (Ac rfl (Ac rfl (Ac rfl (Ac rfl (Ac rfl (Ac rfl (A5))))))),[],os,N,rfl,rfl,rfl,W4,Ae _ _ _,rfl⟩ ?_ ?_)
 ·(rintro x xs loc hp';intro zr;refine cps fun zP zk=>?_;(rcases zr with ⟨done,rest,N,e1',e2',rfl,W,ha',hlen⟩)<;>(refine zk ?_;clear zk zP))
  cases rest with
  |nil=>cases e2'
  |cons i rest=>
   obtain ⟨rfl,rfl⟩:x=AV.int (i:Int)∧xs=rest.map (fun (i:Nat)=>AV.int (i:Int)):=by cases e2';exact ⟨rfl,rfl⟩
   clear e2'
   have hi4:i<4:=hos i (by rw [e1'];simp)
   have hdl:done.length≤100:=by
    have:=congrArg List.length e1'
    rw [List.length_append] at this;exact A8 [_,_,_] [(1,Z1,(Zn 100)),(1,(Za Z0 Z2),Z1)] Z0 (Zn 100) rfl hol (Nat.le_of_eq (Eq.symm this))
   have ok5:=HC.run (AG ws) t done
   have hz:((AX (AG ws) t done).out.map Bz).length+1≤100000:=by rw [List.length_map,hlen];exact A8 [_] [(1,Z0,(Zn 100))] (Zs Z0) (Zn 100000) rfl hdl
   refine Bs ?_
   refine Tr.gen fun K hK=>?_
   have key:∀hp2 hp3 N',DE C ws l rd 3 g (AX (AG ws) t (done++[i])) N' hp2→hp2 a=some (.list ((AX (AG ws) t done).out.map Bz))→hp3=upd hp2 a (.list ((AX (AG ws) t done).out.map Bz++[Bz (Bw (AG ws) (AX (AG ws) t done) i).2.1.head?]))→K .next ⟨[("words",Cu ws),("text",lstI t),("order",EM os),("trees",I6 l),("reader",.ref rd),("searches",.lst [.ref (g 0),.ref (g 1),.ref (g 2)]),("told",.ref a),("who",.int (i:Int))],hp3⟩:=by
    rintro hp2 hp3 N' W2 ha2 rfl
    refine hK _ _ ⟨st5 ws t os l rd g a,Ac rfl (Ac rfl (Ac rfl (Ac rfl (Ac rfl (Ac rfl (Ac rfl (A5))))))),done++[i],rest,N',by rw [e1'];simp,rfl,rfl,W2.offL (.inr ⟨_,ha2⟩) fun b hb=>Ad _ _ hb,?_,?_⟩
    ·rw [CE]
     show _=some (AO.list (((AX (AG ws) t done).out++[_]).map Bz))
     rw [List.map_append];exact Ae _ _ _
    ·rw [CE]
     show ((AX (AG ws) t done).out++[_]).length=_
     rw [List.length_append,List.length_append,hlen];rfl
   have pa:∀{b:Addr},hp' b=some (.list ((AX (AG ws) t done).out.map Bz))→hp' b≠none:=fun e=>by rw [e];exact fun z=>nomatch z
   refine Aa (Mv [] (ET (Ak rfl) Av (Oc (.int _) (.int _) (Dp.int _ _) hu)) (fun q=>?_) (fun q=>?_))
   ·have q:=of_decide_eq_true q
    have hi3:i=3:=by injection q with q;omega
    subst hi3
    refine xa1_1 (W.tree 3) ?_;intro e he
    refine xa0_4 (W.tw.key he) ?_;intro ok h1 h2 zu
    have hr0:=ok.rep
    rw [h1,h2] at hr0
    have hz3:∀w∈e.ws,w.1.length≤1000:=fun w hw=>by
     rw [(W.tw.f _ e he).2.2] at hw
     refine xa1_2 (List.mem_map.mp hw) ?_;intro u hu;rintro rfl
     have:=hw4 u (AU hu)
     have e1:(DV u).1.length=u.length:=EI u
     exact A8 [_,_] [(1,Z1,(Zn 4)),(1,Z0,Z1)] Z0 (Zn 1000) rfl this (Nat.le_of_eq e1)
    refine Aa (AM (A2 (Ab rfl (BZ ha' (Ay ?_)))))
    refine A2 (AL [] (.ref e.t) (B1 (Ak rfl) Av (Bx (k:=1) (by decide) (D2 he) hl2)) (Cr T.x.t.m_one ok.rep (Ay (Ab rfl (At (A6 ?_))))))
    refine AR hf1 ((NF T.x.t (o:=.rd rd) (w:=Aq (AX (AG ws) t done).rest) hA T.x.lim (C0 [_,_] [(1,(Zs (Za Z0 (Zn 20))),Z1)] (Za Z0 (Zn 3)) Z1 rfl hroom) (ok.ph3 h1) (ok.words hz3) hr0 .no (by rw [BM];exact .rd W.re)).mono fun v hp2 hq=>?_)
    refine xa0_3 hq ?_;(try clear hq);intro q1 q2 q3
    refine xa0_2 (W.one ok5 he q1 q2 q3) ?_;intro W2;rintro rfl
    have ha2:hp2 a=some (.list ((AX (AG ws) t done).out.map Bz)):=(q2 a (pa ha') fun z=>W.re.prv.noL (by rw [BI.rd.inj z];exact ha')).trans ha'
    refine At (A6 (list_append ha2 (Nat.le_of_succ_le hz) (An (An ?_))))
    exact key hp2 _ N (by rw [CE];exact W2) ha2 rfl
   ·have q:=of_decide_eq_false q
    have hi3:i<3:=by
     rcases Nat.lt_or_ge i 3 with z|z
     ·exact z
     ·exact absurd (by rw [show i=3 by exact Nat.le_antisymm (A8 [_] [(1,(Zs Z0),(Zn 4))] Z0 (Zn 3) rfl hi4) (A8 [_] [(1,(Zn 3),Z0)] (Zn 3) Z0 rfl z)];rfl) q
    refine xa1_1 (W.tree i) ?_;intro e he
    refine xa0_4 (W.tw.key he) ?_;intro ok h1 h2 zu
    have hr0:=ok.rep
    rw [h1,h2] at hr0
    have hz3:∀w∈e.ws,w.1.length≤1000:=fun w hw=>by
     rw [(W.tw.f _ e he).2.2] at hw
     refine xa1_2 (List.mem_map.mp hw) ?_;intro u hu;rintro rfl
     have:=hw4 u (AU hu)
     have e1:(DV u).1.length=u.length:=EI u
     exact A8 [_,_] [(1,Z1,(Zn 4)),(1,Z0,Z1)] Z0 (Zn 1000) rfl this (Nat.le_of_eq e1)
    refine xa2_2 (W.se i e hi3 he) ?_;intro u k hS an
    refine Aa (AM (A2 (Ab rfl (BZ ha' (Ay ?_)))))
    refine AZ (Db hgf (Ay ?_))
    refine AL [] (.ref (g i)) (B1 (Ak rfl) (Ak rfl) (Bx (Int.natCast_nonneg _) ?_ (Nat.le_of_ble_eq_true rfl))) ?_
    ·rw [Int.toNat_natCast]
     exact Po g hi3
    refine At (A6 (AR hff ((LL T.x hff hA (C0 [_,_] [(1,(Zs (Za Z0 (Zn 20))),Z1)] (Za Z0 (Zn 2)) Z1 rfl hroom) (ok.ph3 h1) (ok.words hz3) hr0 hS).mono fun v hp2 hq=>?_)))
    refine xa0_3 hq ?_;(try clear hq);intro q1 q2 q3
    refine xa1_2 (W.ask ok5 hi3 (Nat.ne_of_lt hi3) he an hS q1 q2 q3) ?_;intro N' W2;rintro rfl
    have ha2:hp2 a=some (.list ((AX (AG ws) t done).out.map Bz)):=(q2 a (pa ha') (fun z=>(W.prv hi3 z).1.noL ha') fun z=>W.re.prv.noL (by rw [BI.rd.inj z];exact ha')).trans ha'
    refine At (A6 (list_append ha2 (Nat.le_of_succ_le hz) (An (An ?_))))
    exact key hp2 _ N' (by rw [CE];exact W2) ha2 rfl
 ·(rintro loc hp';intro zr;refine cps fun zP zk=>?_;(rcases zr with ⟨done,rest,N,e1',e2',rfl,W,ha',hlen⟩)<;>(refine zk ?_;clear zk zP))
  have:rest=[]:=by simpa using e2'.symm
  subst this
  rw [List.append_nil] at e1'
  subst e1'
  exact Dx (Ac rfl (Ac rfl (Ac rfl (Ac rfl (Ac rfl (A5)))))) (h a rd g N hp' W ha')
end
end
section
section
variable {C:Cf} {A:Around} {s s':Shared} {F F' G:FH} {env:Env} {E:Value→Shared→Prop} {hp hp':HP} {loc:PL} {σ:Al}
theorem PE.own {e:Expr} {b:Addr} {xs:List AV} (h:PE C A hp env loc e (.ref b,false)) (hb:hp b=some (.list xs)):PE C A hp env loc e (.lst xs,true):=.mk fun F s E c=>
 wpAny_mono (h.go F s E c) (fun v s' ⟨F',st,r⟩=>⟨F',st,by obtain rfl:=r.out.refI;exact .own hb⟩) fun zu zu x=>x
theorem Rp.newL {a:Addr} {xs:List AV} {us:List Value} {n:Nat} {Q:AV→Al→Prop} (hR:Rp C A F G env σ s) (st:BC C A σ.hp F s F' s') (ho:s'.heap.get? a=some { cls:=.type "list",dict:=none,data:=.seq us.toArray n,slots:=#[] }) (hn:s.heap.get? a=none) (hF:F' a=none) (hv:VRs F' xs us)
  (q:σ.hp a=none→Q (.ref a) (σ.put a (.list xs))):A0 C A G env VR Q F (.ref a) s':=by
 refine xa0_3 (hR.wd.dead hn) ?_;intro zu z2 z3
 refine xa0_2 (hR.deadApart hn) ?_;intro z4 z5
 exact ⟨F',.ref a,_,st.e,.ref _,(hR.pure st).track (x:=.list xs) ho hF z2 z3 z4 z5 rfl (.list rfl rfl rfl rfl hv),q z3⟩
theorem Os {E:Value→Shared→Prop} {elt:Expr} {gens:List Comprehension} {scope:Scope} {pos:Pos} {res:List AV} {Q:AV→Al→Prop} (own:List (Str×List AV)) (h:KW C A σ.hp env (Ec own σ.loc) elt gens scope pos res) (q:∀a,σ.hp a=none→Q (.ref a) (σ.put a (.list res))) (ho:autoParam (OwnOk σ own) AC.aux8._auto_1) (hk:autoParam ((σ.loc.all fun p=>Cg (env.kindOf p.1))=true) AC.aux0._auto_1)
  (hg:autoParam (env.globals=mainGlobals∧env.builtins=builtinsNs) AC.aux9._auto_1):Ev C A E env (.ListComp elt gens scope pos) σ Q:=by
 intro F G s hR
 rw [eval_ListComp]
 refine h F s E none _ (hR.pctx ho hk hg) fun F' s' acc Lc hc=>?_
 refine xa2_2 hc.fr ?_;intro m c hm zu
 refine ⟨m,hm,fun h' hs'=>?_⟩
 have k:=SameBut.rest hs'
 refine xa2_2 hc.ac ?_;intro vs n hl hv
 exact hR.newL (hc.st.mod (X:=(·=Lc.1)) (fun b hb=>by subst hb;exact ⟨hc.nL _ (.inl rfl),hc.oL _ (.inl rfl)⟩) k (t:=s'.toks)) (k _ _ (fun q=>hc.ne (.inl q)) hl) hc.na hc.oa hv (q acc)
theorem KU {E:Value→Shared→Prop} {value:Expr} {lower upper:Option Expr} {p pos:Pos} {xs:List AV} {b:Bool} {lo hi:Option Int} {Q:AV→Al→Prop} (own:List (Str×List AV)) (h:PE C A σ.hp env (Ec own σ.loc) value (.lst xs,b)) (h1:Gv C A σ.hp env (Ec own σ.loc) lower lo) (h2:Gv C A σ.hp env (Ec own σ.loc) upper hi) (hz:xs.length≤100000)
  (q:∀a,σ.hp a=none→Q (.ref a) (σ.put a (.list (Cm xs lo hi)))) (ho:autoParam (OwnOk σ own) AC.aux8._auto_1) (hk:autoParam ((σ.loc.all fun p=>Cg (env.kindOf p.1))=true) AC.aux0._auto_1)
  (hg:autoParam (env.globals=mainGlobals∧env.builtins=builtinsNs) AC.aux9._auto_1):Ev C A E env (.Subscript value (.Slice lower upper none p) pos) σ Q:=by
 intro F G s hR
 refine Subscript_ (h.use (hR.pctx ho hk hg) fun F₁ s₁ v st₁ c₁ r=>wpAny_Slice (h1.use c₁ fun F₂ s₂ l st₂ c₂ r1=>h2.use c₂ fun F₃ s₃ u st₃ c₃ r2=>(AJ (env:=env) (loc:=Ec own σ.loc)).use c₃ fun F₄ s₄ w st₄ c₄ r3=>?_))
 have st5:BC C A σ.hp F₄ s₄ F₄ { s₄ with heap:=s₄.heap.push { cls:=.type "slice",data:=.fields #[l,u,w] } }:=.keep c₄.wp fun zu zu e=>Heap.get?_push_of_some _ e
 have st:=(((st₁.trans st₂).trans st₃).trans st₄).trans st5
 refine xa4_6 (((((r.step st₂).step st₃).step st₄).step st5).lstI st5.w') ?_;intro a o vs n;rintro rfl;intro hoa hc hd hvs zu
 have ha:Heap.IsList _ a vs.toArray:=⟨o,hoa,hc,n,hd⟩
 refine D4 ha.typeIs list_getitem_lookup (wpAny_getItem_list_slice ha ⟨_,Heap.get?_push_size _ rfl,rfl,rfl⟩ r1 r2 r3 (by simp) ?_ (by rw [List.size_toArray,hvs.length,sizeLine_eq];with_reducible exact Bj ‹_› (by decide)))
 rw [HR]
 have nn:∀h:Heap,h.get? h.objs.size=none:=CW
 refine hR.newL (n:=_) (st.trans (BC.keep st5.w' (t:=s₄.toks) fun zu zu e=>Heap.get?_push_of_some _ e)) (Heap.get?_push_size _ rfl) (st.dead (nn _)) ?_ (hvs.cut lo hi) (q _)
 exact (st5.w'.dead (nn _)).1
structure Cb (n:Nat) (ad:Nat→Addr) (L:Nat→List AV) (hp:HP):Prop where
 here:∀i,i<n→hp (ad i)=some (.list (L i))
 inj:∀i j,i<n→j<n→ad i=ad j→i=j
section
variable {n:Nat} {ad:Nat→Addr} {L L':Nat→List AV}
theorem Cb.congr (c:Cb n ad L hp) (h:∀i,i<n→L i=L' i):Cb n ad L' hp:=⟨fun i hi=>by rw [c.here i hi,h i hi],c.inj⟩
theorem Cb.off (c:Cb n ad L hp) (h:∀b,hp b≠none→hp' b=hp b):Cb n ad L hp':=⟨fun i hi=>(h _ (by rw [c.here i hi];exact fun z=>nomatch z)).trans (c.here i hi),c.inj⟩
theorem Cb.put (c:Cb n ad L hp) {i:Nat} (hi:i<n) (xs:List AV):Cb n ad (Ar L i xs) (upd hp (ad i) (.list xs)):=by
 refine ⟨fun j hj=>?_,c.inj⟩
 by_cases q:j=i
 ·subst q;rw [A4];exact Ae _ _ _
 ·rw [A1 _ _ q]
  exact (Ad _ _ fun z=>q (c.inj _ _ hj hi z)).trans (c.here j hj)
theorem Cb.new (c:Cb n ad L hp) {a:Addr} (ha:hp a=none) {i m:Nat} (hm:∀j,j<m→j=i∨j<n) (xs:List AV):Cb m (Ar ad i a) (Ar L i xs) (upd hp a (.list xs)):=by
 have na:∀{j},j<n→ad j≠a:=fun hj z=>by have:=c.here _ hj;rw [z,ha] at this;exact Aj this
 refine ⟨fun j hj=>?_,fun j k hj hk e=>?_⟩
 ·by_cases q:j=i
  ·subst q;rw [A4,A4];exact Ae _ _ _
  ·rw [A1 _ _ q,A1 _ _ q]
   have hj':=(hm j hj).resolve_left q
   exact (Ad _ _ (na hj')).trans (c.here j hj')
 ·by_cases q:j=i
  ·subst q
   by_cases q2:k=j
   ·exact q2.symm
   ·rw [A4,A1 _ _ q2] at e
    exact absurd e.symm (na ((hm k hk).resolve_left q2))
  ·by_cases q2:k=i
   ·subst q2
    rw [A4,A1 _ _ q] at e
    exact absurd e (na ((hm j hj).resolve_left q))
   ·rw [A1 _ _ q,A1 _ _ q2] at e
    exact c.inj _ _ ((hm j hj).resolve_left q) ((hm k hk).resolve_left q2) e
end
end
end
section
section
variable {C:Cf} {A:Around} {s s':Shared} {F F' G:FH} {env:Env} {E:Value→Shared→Prop} {hp hp':HP} {loc:PL} {σ:Al}
theorem FV (w:List Int):Cx (tupI w):=.tup (Plns.map (fun i=>.int i) w)
theorem MT (w:List Int):Dp 60 (tupI w):=Nat.le_trans (Dp.tup (n:=0) (by intro x hx;refine xa1_2 (List.mem_map.mp hx) ?_;intro i zu;rintro rfl;exact Dp.int 0 i)) (by decide)
theorem Lf {a b:List Int} (h:tupI a=tupI b):a=b:=by
 have h':a.map AV.int=b.map AV.int:=by injection h
 exact List.map_inj_right (fun x y e=>by cases e;rfl) |>.mp h'
theorem Le {w:List Int} {ws:List (List Int)}:tupI w∈ws.map tupI↔w∈ws:=by
 constructor
 ·intro h
  refine xa1_2 (List.mem_map.mp h) ?_;intro u hu e
  rw [←Lf e];exact hu
 ·intro h;exact List.mem_map.mpr ⟨w,h,rfl⟩
theorem GH (p:List Int×Nat):Cx (Am p):=.tup (.cons (FV _) (.cons (.int _) .nil))
theorem Fx {α:Type} (j:Nat):∀(l:List α) (k:Nat) (x:α),(((x::l).zipIdx k).filter fun p=>p.2 % 2=j).map (·.1)=(if k % 2=j then [x] else [])++((l.zipIdx (k+1)).filter fun p=>p.2 % 2=j).map (·.1):=fun l k x=>by
 rw [List.zipIdx_cons,List.filter_cons]
 by_cases h:k % 2=j
 ·rw [if_pos h,if_pos (decide_eq_true h)];rfl
 ·rw [if_neg h,if_neg (by rw [decide_eq_false h];exact Bool.false_ne_true)];rfl
theorem HL {α β:Type} (f:α→β) (j:Nat) (l:List α):sel2 j (l.map f)=(sel2 j l).map f:=by
 have key:∀(l:List α) (k:Nat),(((l.map f).zipIdx k).filter fun p=>p.2 % 2=j).map (·.1)=(((l.zipIdx k).filter fun p=>p.2 % 2=j).map (·.1)).map f:=fun l=>by
  induction l with
  |nil=>exact fun k=>rfl
  |cons x l ih=>
   intro k
   rw [List.map_cons,Fx,Fx,List.map_append,ih]
   split<;>rfl
 exact key l 0
theorem VRs.sel2 {xs:List AV} {vs:List Value} (h:VRs F xs vs) (j:Nat):VRs F (AC.sel2 j xs) (AC.sel2 j vs):=by
 have key:∀(xs:List AV) {vs:List Value},VRs F xs vs→∀k,VRs F (((xs.zipIdx k).filter fun p=>p.2 % 2=j).map (·.1)) (((vs.zipIdx k).filter fun p=>p.2 % 2=j).map (·.1)):=fun xs=>by
  induction xs with
  |nil=>intro vs h k;obtain rfl:=h.nilI;exact .nil
  |cons x xs ih=>
   intro vs h k
   refine xa2_3 h.inv' ?_;intro v us;rintro rfl;intro a b
   rw [Fx,Fx]
   split
   ·exact (VRs.one a).append (ih b _)
   ·exact (ih b _)
 exact key xs h 0
theorem OF {P:Nat→Prop}:∀i,i<0→P i:=fun i z=>absurd z (Nat.not_lt_zero i)
theorem EA {P:Nat→Prop} {n:Nat} (h:∀i,i<n→P i) (k:P n):∀i,i<n+1→P i:=fun i hi=>(Nat.lt_succ_iff_lt_or_eq.mp hi).elim (h i) fun e=>e▸k
theorem O2 {vs:List Value} (h:vs.length=5) {j:Nat} (hj:j<2):slicePick vs.toArray (some (j:Int)) none (some 2)=(sel2 j vs).toArray:=by
 refine xa2_1 (List.exists_cons_of_length_eq_add_one h) ?_;intro a l1;rintro rfl
 refine xa2_1 (List.exists_cons_of_length_eq_add_one (Nat.succ.inj h)) ?_;intro b l2;rintro rfl
 refine xa2_1 (List.exists_cons_of_length_eq_add_one (Nat.succ.inj (Nat.succ.inj h))) ?_;intro c l3;rintro rfl
 refine xa2_1 (List.exists_cons_of_length_eq_add_one (Nat.succ.inj (Nat.succ.inj (Nat.succ.inj h)))) ?_;intro d l4;rintro rfl
 refine xa2_1 (List.exists_cons_of_length_eq_add_one (Nat.succ.inj (Nat.succ.inj (Nat.succ.inj (Nat.succ.inj h))))) ?_;intro e l5;rintro rfl
 cases List.eq_nil_of_length_eq_zero (Nat.succ.inj (Nat.succ.inj (Nat.succ.inj (Nat.succ.inj (Nat.succ.inj h)))))
 clear h
 exact EA (P:=fun j=>slicePick [a,b,c,d,e].toArray (some (j:Int)) none (some 2)=(sel2 j [a,b,c,d,e]).toArray) (EA OF (by show _=_;kernel_rfl)) (by show _=_;kernel_rfl) j hj
theorem Nu {xs:List AV} {p:Bool} {j:Nat} (hl:xs.length=5) (hj:j<2):P2 C A hp (.lst xs,p) (some (j:Int)) none (some 2) (.lst (sel2 j xs),false):=fun F s E v a l u w hin hv hs pl pu pw value slice=>by
 refine xa4_6 (hv.lstI hin) ?_;intro b o vs n;rintro rfl;intro ho hc hd hvs zu
 have ha:s.heap.IsList b vs.toArray:=⟨o,ho,hc,n,hd⟩
 refine D4 ha.typeIs list_getitem_lookup (wpAny_getItem_list_slice ha hs pl pu pw (by simp) ?_ (by rw [List.size_toArray,hvs.length,sizeLine_eq,hl];decide))
 rw [O2 (by rw [hvs.length,hl]) hj]
 exact CB.newL hin (hvs.sel2 j)
noncomputable abbrev endsP:Co:=MV "_law_ends"
theorem Jg (C:Cf) (r:FdRest) (x y:AV):G1 C (r.fd endsP .none) [x,y] [] [("signs",x),("words",y)]:=by
 intro F vs kvs h1 h2
 refine xa2_3 h1.inv ?_;intro v1 us1;rintro rfl;intro hv1 h1
 refine xa2_3 h1.inv ?_;intro v2 us2;rintro rfl;intro hv2 h1
 obtain rfl:=h1.inv0
 obtain rfl:=h2.inv0
 exact ⟨[("signs",v1),("words",v2)],Looks.of_pure (by kernel_rfl),.cons hv1 (.cons hv2 .nil),by kernel_rfl⟩
theorem JO (T:TpR C) {f:Addr} {r:FdRest} (hf:FnAt C f (r.fd endsP .none)) {W:List (List Int)} {p:List Int} {b:Addr} (hA:A.handled=none) (hu:A.units≤8900) (hroom:A.depth+1<recursionLimit) (hb:hp b=some (.list (p.map .int))) (h4:∀w∈W,w.length≤4) (hp1:p.length≤1000) :
  Fn C A (.ref f) [.ref b,Cu W] [] hp (fun v hp'=>∃a,v=.ref a∧hp a=none∧hp'=upd hp a (.list ((B9 W p).map Am))):=by
 refine FA hf (Jg C r _ _) (fun L=>?_) (C0 [_,_] [(1,(Zs (Zs Z0)),Z1)] Z0 Z1 rfl hroom)
 have hz:(p.map AV.int).length≤100000:=by rw [List.length_map];exact A8 [_] [(1,Z0,(Zn 1000))] Z0 (Zn 100000) rfl hp1
 refine Aa (Jr [("signs",p.map .int)] (.int (p.length:Nat)) (PE.eqv (Cn T.x.t.g_len (.cons (Ak rfl) .nil) (JI hz)) (by rw [List.length_map])) ?_ (OwnOk.cons rfl hb OwnOk.nil))
 refine Aa (BT ?_)
 have hmx:max ((p.length:Int) - 4) 0=((p.length - 4:Nat):Int):=by omega
 have hsl:=J3 W p
 have pc:∀s:Nat,Cm (p.map AV.int) (some (s:Int)) none=(p.drop s).map .int:=fun s=>by rw [CJ,DD]
 refine Os (res:=(B9 W p).map Am) [("signs",p.map .int)] ?_ (fun a ha=>⟨a,rfl,ha,rfl⟩) (OwnOk.cons rfl hb OwnOk.nil)
 refine KW.eq (Gw ((List.range (p.length - (p.length - 4))).map fun i=>p.length - 4+i) (fun (s:Nat)=>AV.int (s:Int)) (fun (s:Nat)=>Am (p.drop s,s)) (fun s=>decide (p.drop s∈W)) (fun s=>[("start",.int (s:Int))])
  (PI.eq (MX (n:=p.length - (p.length - 4)) hA T.x.g_range (PE.eqv (Cn T.x.g_max (.cons (Ce (Ak rfl) Av OC) (.cons Av .nil)) (NV hA)) (congrArg AV.int hmx)) (Ak rfl) (by omega) (by omega) (by omega) (by omega) (by omega)) (by rw [List.map_map];exact List.map_congr_left fun i _=>by show AV.int _=AV.int _;rw [Int.natCast_add])) (by rw [List.length_map,List.length_range];exact A8 [_,_] [(1,Z1,(Zn 1000)),(1,Z0,Z1)] Z0 (Zn 100000) rfl hp1 (Nat.sub_le _ _)) (fun Lc i hi=>.name rfl rfl) (fun Lc i hi=>?_)
  (fun Lc i hi hs=>Mm [tupI (p.drop i),.int (i:Int)] (.cons (PE.eqv (Cn T.x.t.g_tuple (.cons (B3 (Ak rfl) (Ba (Ak rfl)) AJ AJ (C3 hz)) .nil) (Hr (Nat.le_trans (Gk _ _ _) hz))) (congrArg AV.tup (pc i))) (.cons (Ak rfl) .nil)) (Nat.le_of_ble_eq_true rfl))) (by rw [JP h4,List.map_map];rfl)
 refine MW (PT.eq (ET (PE.eqv (Cn T.x.t.g_tuple (.cons (B3 (Ak rfl) (Ba (Ak rfl)) AJ AJ (C3 hz)) .nil) (Hr (Nat.le_trans (Gk _ _ _) hz))) (congrArg AV.tup (pc i))) (Ak rfl) (Pv (FV _) (Plns.map FV W) (MT _) (by show A.units+3≤9000;exact A8 [_] [(1,Z0,(Zn 8900))] (Za Z0 (Zn 3)) (Zn 9000) rfl hu))) ?_)
 exact decide_eq_decide.mpr Le
noncomputable def AP (ad:Nat→Addr) (k:Nat):List AV:=[.ref (ad k),.ref (ad (k+1)),.ref (ad (k+2)),.ref (ad (k+3))]
noncomputable def DR (TL:List AV) (ad:Nat→Addr) (S:S5) (i:Nat):List AV:=
 if i=0 then TL else if i<5 then (S.held (i - 1)).map .int else if i=5 then AP ad 1 else if i<10 then (S.ready (i - 6)).map Am else if i=10 then AP ad 6 else S.out.map Bz
structure H5 (TL:List AV) (ta ha ra da:Addr) (ad:Nat→Addr) (S:S5) (hp:HP):Prop where
 c:Cb 12 ad (DR TL ad S) hp
 e0:ad 0=ta
 e5:ad 5=ha
 e10:ad 10=ra
 e11:ad 11=da
theorem I0 {P:Nat→Prop} (h0:P 0) (h1:P 1) (h2:P 2) (h3:P 3):∀i,i<4→P i:=EA (EA (EA (EA OF h0) h1) h2) h3
theorem BJ {P:Nat→Prop} (h0:P 0) (h1:P 1) (h2:P 2) (h3:P 3) (h4:P 4) (h5:P 5) (h6:P 6) (h7:P 7) (h8:P 8) (h9:P 9) (h10:P 10) (h11:P 11):∀i,i<12→P i:=
 EA (EA (EA (EA (EA (EA (EA (EA (I0 h0 h1 h2 h3) h4) h5) h6) h7) h8) h9) h10) h11
section
variable {TL:List AV} {ta ha ra da:Addr} {ad:Nat→Addr} {S:S5}
theorem B6 {k:Nat}:∀i,i<4→(AP ad k)[i]? = some (.ref (ad (k+i))):=I0 rfl rfl rfl rfl
theorem H5.held (H:H5 TL ta ha ra da ad S hp):∀i,i<4→hp (ad (1+i))=some (.list ((S.held i).map .int)):=I0 (H.c.here 1 (by decide)) (H.c.here 2 (by decide)) (H.c.here 3 (by decide)) (H.c.here 4 (by decide))
theorem H5.rdy (H:H5 TL ta ha ra da ad S hp):∀i,i<4→hp (ad (6+i))=some (.list ((S.ready i).map Am)):=I0 (H.c.here 6 (by decide)) (H.c.here 7 (by decide)) (H.c.here 8 (by decide)) (H.c.here 9 (by decide))
theorem H5.hl (H:H5 TL ta ha ra da ad S hp):hp ha=some (.list (AP ad 1)):=by rw [←H.e5];exact H.c.here 5 (by decide)
theorem H5.rl (H:H5 TL ta ha ra da ad S hp):hp ra=some (.list (AP ad 6)):=by rw [←H.e10];exact H.c.here 10 (by decide)
theorem H5.due (H:H5 TL ta ha ra da ad S hp):hp da=some (.list (S.out.map Bz)):=by rw [←H.e11];exact H.c.here 11 (by decide)
theorem H5.told (H:H5 TL ta ha ra da ad S hp):hp ta=some (.list TL):=by rw [←H.e0];exact H.c.here 0 (by decide)
theorem H5.app (H:H5 TL ta ha ra da ad S hp) {i:Nat} (hi:i<4) (xs:List Int):H5 TL ta ha ra da ad ⟨Ar S.held i xs,S.ready,S.rest,S.out⟩ (upd hp (ad (1+i)) (.list (xs.map .int))):=by
 refine ⟨(H.c.put (C0 [_] [(1,(Zs Z0),(Zn 4))] (Za (Zn 1) Z0) (Zn 12) rfl hi) _).congr ?_,H.e0,H.e5,H.e10,H.e11⟩
 exact I0 (P:=fun i=>∀j,j<12→Ar (DR TL ad S) (1+i) (xs.map .int) j=DR TL ad ⟨Ar S.held i xs,S.ready,S.rest,S.out⟩ j) (BJ rfl rfl rfl rfl rfl rfl rfl rfl rfl rfl rfl rfl) (BJ rfl rfl rfl rfl rfl rfl rfl rfl rfl rfl rfl rfl) (BJ rfl rfl rfl rfl rfl rfl rfl rfl rfl rfl rfl rfl) (BJ rfl rfl rfl rfl rfl rfl rfl rfl rfl rfl rfl rfl) i hi
theorem H5.moreR (H:H5 TL ta ha ra da ad S hp) {i:Nat} (hi:i<4) (ys:List (List Int×Nat)):H5 TL ta ha ra da ad ⟨S.held,Ar S.ready i ys,S.rest,S.out⟩ (upd hp (ad (6+i)) (.list (ys.map Am))):=by
 refine ⟨(H.c.put (C0 [_] [(1,(Zs Z0),(Zn 4))] (Za (Zn 6) Z0) (Zn 12) rfl hi) _).congr ?_,H.e0,H.e5,H.e10,H.e11⟩
 exact I0 (P:=fun i=>∀j,j<12→Ar (DR TL ad S) (6+i) (ys.map Am) j=DR TL ad ⟨S.held,Ar S.ready i ys,S.rest,S.out⟩ j) (BJ rfl rfl rfl rfl rfl rfl rfl rfl rfl rfl rfl rfl) (BJ rfl rfl rfl rfl rfl rfl rfl rfl rfl rfl rfl rfl) (BJ rfl rfl rfl rfl rfl rfl rfl rfl rfl rfl rfl rfl) (BJ rfl rfl rfl rfl rfl rfl rfl rfl rfl rfl rfl rfl) i hi
theorem H5.duePut (H:H5 TL ta ha ra da ad S hp) (o:Option (List Int×Nat)):H5 TL ta ha ra da ad ⟨S.held,S.ready,S.rest,S.out++[o]⟩ (upd hp da (.list (S.out.map Bz++[Bz o]))):=by
 have e:S.out.map Bz++[Bz o]=(S.out++[o]).map Bz:=by rw [List.map_append];rfl
 rw [e,←H.e11]
 exact ⟨(H.c.put (by decide) _).congr (BJ rfl rfl rfl rfl rfl rfl rfl rfl rfl rfl rfl rfl),H.e0,H.e5,H.e10,rfl⟩
theorem H5.setH (H:H5 TL ta ha ra da ad S hp) {i:Nat} (hi:i<4) {a:Addr} (hn:hp a=none):H5 TL ta ha ra da (Ar ad (1+i) a) ⟨Ar S.held i [],S.ready,S.rest,S.out⟩ (upd (upd hp a (.list [])) ha (.list ((AP ad 1).set i (.ref a)))):=by
 have c1:=H.c.new hn (i:=1+i) (m:=12) (fun j hj=>.inr hj) []
 have e:Ar ad (1+i) a 5=ha:=(A1 _ _ (fun zh=>GA [_] [(1,(Zs Z0),(Zn 4)),(1,(Zn 5),(Za (Zn 1) Z0))] rfl hi (Nat.le_of_eq zh))).trans H.e5
 have c2:=c1.put (i:=5) (by decide) ((AP ad 1).set i (.ref a))
 rw [e] at c2
 refine ⟨c2.congr ?_,(A1 _ _ (fun zh=>GA [_] [(1,(Za (Zn 1) Z0),(Zn 0))] rfl (Nat.le_of_eq (Eq.symm zh)))).trans H.e0,e,(A1 _ _ (fun zh=>GA [_] [(1,(Zs Z0),(Zn 4)),(1,(Zn 10),(Za (Zn 1) Z0))] rfl hi (Nat.le_of_eq zh))).trans H.e10,(A1 _ _ (fun zh=>GA [_] [(1,(Zs Z0),(Zn 4)),(1,(Zn 11),(Za (Zn 1) Z0))] rfl hi (Nat.le_of_eq zh))).trans H.e11⟩
 exact I0 (P:=fun i=>∀j,j<12→Ar (Ar (DR TL ad S) (1+i) []) 5 ((AP ad 1).set i (.ref a)) j=DR TL (Ar ad (1+i) a) ⟨Ar S.held i [],S.ready,S.rest,S.out⟩ j) (BJ rfl rfl rfl rfl rfl rfl rfl rfl rfl rfl rfl rfl) (BJ rfl rfl rfl rfl rfl rfl rfl rfl rfl rfl rfl rfl) (BJ rfl rfl rfl rfl rfl rfl rfl rfl rfl rfl rfl rfl) (BJ rfl rfl rfl rfl rfl rfl rfl rfl rfl rfl rfl rfl) i hi
theorem H5.setR (H:H5 TL ta ha ra da ad S hp) {i:Nat} (hi:i<4) {a:Addr} (hn:hp a=none) (ys:List (List Int×Nat)):H5 TL ta ha ra da (Ar ad (6+i) a) ⟨S.held,Ar S.ready i ys,S.rest,S.out⟩ (upd (upd hp a (.list (ys.map Am))) ra (.list ((AP ad 6).set i (.ref a)))):=by
 have c1:=H.c.new hn (i:=6+i) (m:=12) (fun j hj=>.inr hj) (ys.map Am)
 have e:Ar ad (6+i) a 10=ra:=(A1 _ _ (fun zh=>GA [_] [(1,(Zs Z0),(Zn 4)),(1,(Zn 10),(Za (Zn 6) Z0))] rfl hi (Nat.le_of_eq zh))).trans H.e10
 have c2:=c1.put (i:=10) (by decide) ((AP ad 6).set i (.ref a))
 rw [e] at c2
 refine ⟨c2.congr ?_,(A1 _ _ (fun zh=>GA [_] [(1,(Za (Zn 6) Z0),(Zn 0))] rfl (Nat.le_of_eq (Eq.symm zh)))).trans H.e0,(A1 _ _ (fun zh=>GA [_] [(1,(Za (Zn 6) Z0),(Zn 5))] rfl (Nat.le_of_eq (Eq.symm zh)))).trans H.e5,e,(A1 _ _ (fun zh=>GA [_] [(1,(Zs Z0),(Zn 4)),(1,(Zn 11),(Za (Zn 6) Z0))] rfl hi (Nat.le_of_eq zh))).trans H.e11⟩
 exact I0 (P:=fun i=>∀j,j<12→Ar (Ar (DR TL ad S) (6+i) (ys.map Am)) 10 ((AP ad 6).set i (.ref a)) j=DR TL (Ar ad (6+i) a) ⟨S.held,Ar S.ready i ys,S.rest,S.out⟩ j) (BJ rfl rfl rfl rfl rfl rfl rfl rfl rfl rfl rfl rfl) (BJ rfl rfl rfl rfl rfl rfl rfl rfl rfl rfl rfl rfl) (BJ rfl rfl rfl rfl rfl rfl rfl rfl rfl rfl rfl rfl) (BJ rfl rfl rfl rfl rfl rfl rfl rfl rfl rfl rfl rfl) i hi
end
theorem Eo {α:Type} (f:Nat→α) (i:Nat):Ar f i (f i)=f:=by
 funext j;unfold Ar;split
 ·rename_i q;rw [q]
 ·rfl
theorem CF {α:Type} (f:Nat→α) (i:Nat) (x y:α):Ar (Ar f i x) i y=Ar f i y:=by
 funext j;unfold Ar;split<;>rfl
noncomputable def ED (Φ:HP→Prop):Prop:=∀hp hp' a,Φ hp→(hp a=none∨∃xs,hp a=some (.list xs))→(∀b,b≠a→hp' b=hp b)→Φ hp'
theorem ED.new {Φ:HP→Prop} (k:ED Φ) {hp:HP} (h:Φ hp) {a:Addr} (ha:hp a=none) (x:AO):Φ (upd hp a x):=k _ _ a h (.inl ha) fun b hb=>Ad _ _ hb
theorem ED.put {Φ:HP→Prop} (k:ED Φ) {hp:HP} (h:Φ hp) {a:Addr} {xs:List AV} (ha:hp a=some (.list xs)) (x:AO):Φ (upd hp a x):=k _ _ a h (.inr ⟨xs,ha⟩) fun b hb=>Ad _ _ hb
theorem Ej {a b:Addr} {xs:List AV} {x:AO} (ha:hp a=none) (hb:hp b=some (.list xs)):upd hp a x b=some (.list xs):=(Ad _ _ fun z=>by rw [z,ha] at hb;exact Aj hb).trans hb
theorem CI {us:List (List Int)} {p:List Int} (h4:∀w∈us,w.length≤4) (k:Nat):(DI us p k).length≤4:=by
 unfold DI
 rw [List.length_drop,JP h4,List.length_map]
 exact Nat.le_trans (Nat.sub_le _ _) (J3 us p)
end
end
section
section
variable {C:Cf} {A:Around} {s s':Shared} {F F' G:FH} {env:Env} {E:Value→Shared→Prop} {hp hp':HP} {loc:PL} {σ:Al}
noncomputable abbrev M9 (ws:List (List Int)) (t:List Int) (os:List Nat) (SV:AV) (ta ha ra da:Addr) (d:Nat):List (Str×AV):=[("words",Cu ws),("text",lstI t),("order",EM os),("searches",SV),("told",.ref ta),("dealt",.int (d:Nat)),("held",.ref ha),("ready",.ref ra),("due",.ref da)]
noncomputable abbrev ID (ws:List (List Int)) (t:List Int) (os:List Nat) (SV:AV) (ta ha ra da:Addr) (d i:Nat):List (Str×AV):=[("words",Cu ws),("text",lstI t),("order",EM os),("searches",SV),("told",.ref ta),("dealt",.int (d:Nat)),("held",.ref ha),("ready",.ref ra),("due",.ref da),("who",.int (i:Int))]
noncomputable def Fk (S:S5) (i:Nat) (h:List Int) (y:List (List Int×Nat)) (r:List Int):S5:=⟨Ar S.held i h,Ar S.ready i y,r,S.out⟩
structure Mid (W:Nat→List (List Int)) (t:List Int) (S:S5) (i:Nat) (h:List Int) (y:List (List Int×Nat)) (r:List Int):Prop where
 d:deal (W i) h y r=Bw W S i
 n:h.length+r.length≤t.length
 s:r <:+ t
 k:∃k,y=DI (W i) h k
theorem Mid.rest {W:Nat→List (List Int)} {t:List Int} {S:S5} {i:Nat} {h:List Int} {y:List (List Int×Nat)} {r:List Int} (m:Mid W t S i h y r):r=t.drop (t.length - r.length)∧r.length≤t.length:=by
 refine xa1_1 m.s ?_;intro p;rintro rfl
 refine ⟨?_,by simp⟩
 rw [List.length_append,Nat.add_sub_cancel,List.drop_left']
 rfl
inductive Pb (ws:List (List Int)) (t:List Int) (os:List Nat) (SV:AV) (TL:List AV) (ta ha ra da:Addr) (S:S5) (i:Nat) (Φ:HP→Prop) (n:Nat) (σ:Al):Prop
 |mk (ad:Nat→Addr) (hp':HP) (d:Nat) (h:List Int) (y:List (List Int×Nat)) (r:List Int) (h1:σ=⟨ID ws t os SV ta ha ra da d i,hp'⟩) (h2:d=t.length - r.length) (h3:n=r.length) (h4:H5 TL ta ha ra da ad (Fk S i h y r) hp') (h5:Mid (AG ws) t S i h y r) (h6:Φ hp')
open Classical in
theorem IZ (T:TpR C) {rr:FdRest} {L f fe:Addr} {re:FdRest} (hfe:FnAt C fe (re.fd endsP .none)) (hge:GL C "_law_ends" (.ref fe)) (hA:A.handled=none) (hu:A.units≤8900) (hroom:A.depth+20<recursionLimit)
  {ws:List (List Int)} {t:List Int} {os:List Nat} {SV:AV} {TL:List AV} {ta ha ra da:Addr} {S:S5} {i:Nat} {K:A7→Al→Prop} {test:Expr} {body:List Stmt} {pos:Pos} (hw5:ws.length=5) (hw4:∀w∈ws,w.length≤4) (htl:t.length≤100) (hi:i<4)
  (hst:(lawP.body[18]?).bind (fun s=>match s with|.For _ _ b _ _=>b[1]? | _=>none)=some (.While test body [] pos))
  {Φ:HP→Prop} (kΦ:ED Φ) {h0:List Int} {y0:List (List Int×Nat)} {r0:List Int} {ad0:Nat→Addr} (H0:H5 TL ta ha ra da ad0 (Fk S i h0 y0 r0) hp) (M0:Mid (AG ws) t S i h0 y0 r0) (hΦ:Φ hp)
  (q:∀ad hp' d h y r,(h,y,r)=Bw (AG ws) S i→H5 TL ta ha ra da ad (Fk S i h y r) hp'→Mid (AG ws) t S i h y r→Φ hp'→d=t.length - r.length→K .next ⟨ID ws t os SV ta ha ra da d i,hp'⟩) :
  Ex C A Bd (B8 rr L f) (.While test body [] pos) ⟨ID ws t os SV ta ha ra da (t.length - r0.length) i,hp⟩ K:=by
 have hst:=Option.some.inj hst
 cases hst
 refine Dy (Pb ws t os SV TL ta ha ra da S i Φ) ?_ r0.length ⟨ad0,hp,_,h0,y0,r0,rfl,rfl,rfl,H0,M0,hΦ⟩
 (rintro n σ;intro zr;refine cps fun zP zk=>?_;(rcases zr with ⟨ad,hp',d,h,y,r,rfl,rfl,rfl,H,M,hΦ⟩)<;>(refine zk ?_;clear zk zP))
 refine xa0_2 M.rest ?_;intro er hrl
 have hn:=M.n
 have hz:(t.map AV.int).length≤100000:=by rw [List.length_map];exact A8 [_] [(1,Z0,(Zn 100))] Z0 (Zn 100000) rfl htl
 have hyl:y.length≤4:=by
  refine xa1_1 M.k ?_;intro k hk
  rw [hk];exact CI (fun w hw=>hw4 w (AU hw)) k
 have hrd:hp' (ad (6+i))=some (.list (y.map Am)):=by
  have:=H.rdy i hi
  rw [show (Fk S i h y r).ready i=y from A4 _ _ _] at this;exact this
 have hhd:hp' (ad (1+i))=some (.list (h.map .int)):=by
  have:=H.held i hi
  rw [show (Fk S i h y r).held i=h from A4 _ _ _] at this;exact this
 have hsub:∀{X:List AV} {e1 e2:Expr} {p:Pos} {env:Env} {loc:PL} {hp:HP} {k:Nat} {b:Addr},hp b=some (.list X)→b=ad (k+i)→PE C A hp env loc e1 (.lst (AP ad k),true)→PE C A hp env loc e2 (.int (i:Int),false)→PE C A hp env loc (.Subscript e1 e2 p) (.lst X,true):=fun {X e1 e2 p env loc hp k b} hb hbe h1 h2=>
  PE.own (B1 h1 h2 (Bx (Int.natCast_nonneg _) (by rw [Int.toNat_natCast,hbe];exact B6 i hi) (Nat.le_of_ble_eq_true rfl))) hb
 cases y with
 |cons p ys=>
  refine FC (b:=false) [("ready",AP ad 6)] (Jp (a:=false) (Jo (EC (hsub hrd rfl (Ak rfl) (Ak rfl)) (Jy (by rw [List.length_map];exact A8 [_] [(1,Z0,(Zn 4))] Z0 (Zn 100000) rfl hyl)))) (fun z=>by cases z)) ?_ (OwnOk.cons rfl H.rl OwnOk.nil)
  exact q ad hp' _ h (p::ys) r (by rw [←M.d,IY]) H M hΦ rfl
 |nil=>
  cases r with
  |nil=>
   refine FC (b:=false) [("ready",AP ad 6)] (Jp (a:=true) (Jo (EC (hsub hrd rfl (Ak rfl) (Ak rfl)) (Jy (Nat.zero_le _)))) (fun _=>PT.eq (ET (Ak rfl) (Cn T.x.t.g_len (.cons (Ak rfl) .nil) (JI hz)) OB) (decide_eq_false (by rw [List.length_map];exact Int.lt_irrefl _)))) ?_ (OwnOk.cons rfl H.rl OwnOk.nil)
   exact q ad hp' _ h [] [] (by rw [←M.d];rfl) H M hΦ rfl
  |cons x r'=>
   have hrl':(x::r').length=r'.length+1:=rfl
   refine FC (b:=true) [("ready",AP ad 6)] (Jp (a:=true) (Jo (EC (hsub hrd rfl (Ak rfl) (Ak rfl)) (Jy (Nat.zero_le _)))) (fun _=>PT.eq (ET (Ak rfl) (Cn T.x.t.g_len (.cons (Ak rfl) .nil) (JI hz)) OB) (decide_eq_true (by rw [List.length_map];omega)))) ?_ (OwnOk.cons rfl H.rl OwnOk.nil)
   have hx:t[t.length - (x::r').length]? = some x:=by
    have:=congrArg (fun l:List Int=>l[0]?) er
    rw [List.getElem?_drop] at this
    exact this.symm
   have M':Mid (AG ws) t S i (h++[x]) (B9 (AG ws i) (h++[x])) r':=by
    refine ⟨M.d,by rw [List.length_append];simp only [List.length_cons,List.length_nil] at hn ⊢;exact A8 [_,_,_] [(1,(Za Z0 (Zs Z1)),Z2)] (Za (Za Z0 (Zs (Zn 0))) Z1) Z2 rfl hn,(List.suffix_cons x r').trans M.s,0,rfl⟩
   refine Aa (AM (A2 ?_))
   refine AL [("held",AP ad 1)] (.ref (ad (1+i))) (B1 (Ak rfl) (Ak rfl) (Bx (Int.natCast_nonneg _) (by rw [Int.toNat_natCast];exact B6 i hi) (Nat.le_of_ble_eq_true rfl))) ?_ (OwnOk.cons rfl H.hl OwnOk.nil)
   refine BZ hhd (Ay ?_)
   refine AL [] (.int x) (B1 (Ak rfl) (Ak rfl) (Bx (Int.natCast_nonneg _) (by rw [Int.toNat_natCast,List.getElem?_map,hx];rfl) hz)) ?_
   refine At (A6 (list_append hhd (by rw [List.length_map];exact A8 [_,_,_] [(1,Z1,(Zn 100)),(1,(Za Z0 Z2),Z1)] Z0 (Zn 100000) rfl htl hn) ?_))
   have H2:=H.app hi (h++[x])
   have e2:(Fk S i h [] (x::r')).held=Ar S.held i h:=rfl
   rw [e2,CF,List.map_append] at H2
   have Φ2:=kΦ.put hΦ hhd (.list (h.map .int++[.int x]))
   show Cd C A Bd (B8 rr L f) _ ⟨ID ws t os SV ta ha ra da (t.length - (x::r').length) i,upd hp' (ad (1+i)) (.list (h.map .int++[.int x]))⟩ _
   have hd2:upd hp' (ad (1+i)) (.list (h.map .int++[.int x])) (ad (1+i))=some (.list ((h++[x]).map .int)):=by rw [List.map_append];exact Ae _ _ _
   replace H2:H5 TL ta ha ra da ad ⟨Ar S.held i (h++[x]),Ar S.ready i [],x::r',S.out⟩ (upd hp' (ad (1+i)) (.list (h.map .int++[.int x]))):=H2
   generalize upd hp' (ad (1+i)) (.list (h.map .int++[.int x]))=hp2 at H2 Φ2 hd2 ⊢
   refine Aa (Op (old:=.int (t.length - (x::r').length:Nat)) rfl ?_)
   refine D0 (Ik ?_)
   rw [show ((t.length - (x::r').length:Nat):Int)+1=((t.length - r'.length:Nat):Int) by rw [hrl'] at hrl ⊢;omega]
   refine Aa (Bh ?_)
   refine AZ (Db hge (Ay ?_))
   refine AL [("held",AP ad 1)] (.ref (ad (1+i))) (B1 (Ak rfl) (Ak rfl) (Bx (Int.natCast_nonneg _) (by rw [Int.toNat_natCast];exact B6 i hi) (Nat.le_of_ble_eq_true rfl))) ?_ (OwnOk.cons rfl H2.hl OwnOk.nil)
   refine Ay ?_
   refine xa0_2 (No i) ?_;intro z1 z2
   refine AL [] (Cu (AG ws i)) (PE.eqv (B3 (Ak rfl) (Ba (PE.eqv (Ce (Ak rfl) Av (GW (by decide))) (congrArg AV.int (by rw [←z1];exact (Int.toNat_of_nonneg z2).symm)))) AJ (Ba Av) (Nu (j:=i % 2) (by rw [List.length_map,hw5]) (Nat.mod_lt _ (by decide)))) (congrArg AV.lst (HL tupI _ _))) ?_
   have hhl:(h++[x]).length≤1000:=by rw [List.length_append];simp only [List.length_cons,List.length_nil] at hn ⊢;exact A8 [_,_,_] [(1,Z1,(Zn 100)),(1,(Za Z0 (Zs Z2)),Z1)] (Za Z0 (Zs (Zn 0))) (Zn 1000) rfl htl hn
   refine At (A6 (AR hfe ((JO T hfe (W:=AG ws i) (p:=h++[x]) hA hu (C0 [_,_] [(1,(Zs (Za Z0 (Zn 20))),Z1)] (Zs Z0) Z1 rfl hroom) hd2 (fun w hw=>hw4 w (AU hw)) hhl).mono fun v hp3 hq=>?_)))
   refine xa1_3 hq ?_;(try clear hq);intro a;rintro rfl;intro hna;rintro rfl
   have H3:=H2.setR hi hna (B9 (AG ws i) (h++[x]))
   have e3:Ar (Ar S.ready i []) i (B9 (AG ws i) (h++[x]))=Ar S.ready i (B9 (AG ws i) (h++[x])):=CF _ _ _ _
   replace H3:H5 TL ta ha ra da (Ar ad (6+i) a) ⟨Ar S.held i (h++[x]),Ar (Ar S.ready i []) i (B9 (AG ws i) (h++[x])),x::r',S.out⟩ _:=H3
   rw [e3] at H3
   have Φ3:=kΦ.new Φ2 hna (.list ((B9 (AG ws i) (h++[x])).map Am))
   have hr3:=Ej (x:=.list ((B9 (AG ws i) (h++[x])).map Am)) hna H2.rl
   refine Ab rfl (Ab rfl ?_)
   refine E1 hr3 (Int.natCast_nonneg _) (by show (i:Int)<4;omega) (Nat.le_of_ble_eq_true rfl) ?_
   rw [Int.toNat_natCast]
   exact An ⟨r'.length,Nat.lt_succ_self _,_,_,_,h++[x],_,r',rfl,rfl,rfl,⟨H3.c,H3.e0,H3.e5,H3.e10,H3.e11⟩,M',kΦ.put Φ3 hr3 _⟩
end
end
section
section
variable {C:Cf} {A:Around} {s s':Shared} {F F' G:FH} {env:Env} {E:Value→Shared→Prop} {hp hp':HP} {loc:PL} {σ:Al}
theorem Cb.push {n:Nat} {ad:Nat→Addr} {L:Nat→List AV} (c:Cb n ad L hp) {a:Addr} (ha:hp a=none) (xs:List AV):Cb (n+1) (Ar ad n a) (Ar L n xs) (upd hp a (.list xs)):=c.new ha (i:=n) (fun j hj=>by omega) xs
theorem Ps (y:List (List Int×Nat)):Cm (y.map Am) (some 1) none=y.tail.map Am:=by
 have:Cm (y.map Am) (some ((1:Nat):Int)) none=(y.map Am).drop 1:=DD _ 1
 rw [show (1:Int)=((1:Nat):Int) from rfl,this]
 cases y<;>rfl
inductive P6 (ws:List (List Int)) (t:List Int) (os:List Nat) (SV:AV) (TL:List AV) (ta ha ra da:Addr) (Φ:HP→Prop) (xs:List AV) (loc:List (Str×AV)) (hp':HP):Prop
 |mk (done rest:List Nat) (ad:Nat→Addr) (h1:os=done++rest) (h2:xs=rest.map (fun (i:Nat)=>AV.int (i:Int))) (h3:loc=M9 ws t os SV ta ha ra da (t.length - (AX (AG ws) t done).rest.length)) (h4:H5 TL ta ha ra da ad (AX (AG ws) t done) hp') (h5:Φ hp') (h6:(AX (AG ws) t done).out.length=done.length)
open Classical in
set_option maxHeartbeats 4000000 in
theorem NO (T:TpR C) {rr:FdRest} {L f fe:Addr} {re:FdRest} (hfe:FnAt C fe (re.fd endsP .none)) (hge:GL C "_law_ends" (.ref fe)) (hA:A.handled=none) (hu:A.units≤8900) (hroom:A.depth+20<recursionLimit)
  {ws:List (List Int)} {t:List Int} {os:List Nat} {SV:AV} {TL:List AV} {ta:Addr} {Q:A7→Al→Prop} (hw5:ws.length=5) (hw4:∀w∈ws,w.length≤4) (htl:t.length≤100) (hos:∀i∈os,i<4) (hol:os.length≤100) (hta:hp ta=some (.list TL))
  {Φ:HP→Prop} (kΦ:ED Φ) (hΦ:Φ hp)
  (hQ:∀ad ha ra da hp',H5 TL ta ha ra da ad (AX (AG ws) t os) hp'→(AX (AG ws) t os).out.length=os.length→Φ hp'→Cd C A Bd (B8 rr L f) (lawP.body.drop 19) ⟨M9 ws t os SV ta ha ra da (t.length - (AX (AG ws) t os).rest.length),hp'⟩ Q) :
  Cd C A Bd (B8 rr L f) (lawP.body.drop 14) ⟨[("words",Cu ws),("text",lstI t),("order",EM os),("searches",SV),("told",.ref ta)],hp⟩ Q:=by
 refine Aa (Jr [] (.int (0:Nat)) Av ?_)
 have c0:Cb 1 (fun _=>ta) (fun _=>TL) hp:=⟨fun i _=>hta,fun i j hi hj _=>by exact Nat.le_antisymm (A8 [_,_] [(1,(Zs Z0),(Zn 1))] Z0 Z1 rfl hi) (A8 [_,_] [(1,(Zs Z0),(Zn 1))] Z0 Z1 rfl hj)⟩
 refine Aa (Ah (AN ?_))
 refine Ay ?_
 refine AN ?_
 refine At ⟨Nat.le_of_ble_eq_true rfl,fun a1 h1=>?_⟩
 have c1:=c0.push h1 []
 have Φ1:=kΦ.new hΦ h1 (.list [])
 clear c0 hΦ
 refine Ay ?_
 refine AN ?_
 refine At ⟨Nat.le_of_ble_eq_true rfl,fun a2 h2=>?_⟩
 have c2:=c1.push h2 []
 have Φ2:=kΦ.new Φ1 h2 (.list [])
 clear c1 Φ1
 refine Ay ?_
 refine AN ?_
 refine At ⟨Nat.le_of_ble_eq_true rfl,fun a3 h3=>?_⟩
 have c3:=c2.push h3 []
 have Φ3:=kΦ.new Φ2 h3 (.list [])
 clear c2 Φ2
 refine Ay ?_
 refine AN ?_
 refine At ⟨Nat.le_of_ble_eq_true rfl,fun a4 h4=>?_⟩
 have c4:=c3.push h4 []
 have Φ4:=kΦ.new Φ3 h4 (.list [])
 clear c3 Φ3
 refine At ⟨Nat.le_of_ble_eq_true rfl,fun a5 h5=>?_⟩
 have c5:=c4.push h5 [.ref a1,.ref a2,.ref a3,.ref a4]
 have Φ5:=kΦ.new Φ4 h5 (.list [.ref a1,.ref a2,.ref a3,.ref a4])
 clear c4 Φ4
 show Cd C A Bd (B8 rr L f) (lawP.body.drop 16) ⟨[("words",Cu ws),("text",lstI t),("order",EM os),("searches",SV),("told",.ref ta),("dealt",.int (0:Nat)),("held",.ref a5)],upd _ a5 (.list [.ref a1,.ref a2,.ref a3,.ref a4])⟩ Q
 generalize upd _ a5 (.list [.ref a1,.ref a2,.ref a3,.ref a4])=hp5 at c5 Φ5 ⊢
 refine Aa (Ah (AN ?_))
 refine Ay ?_
 refine AN ?_
 refine At ⟨Nat.le_of_ble_eq_true rfl,fun a6 h6=>?_⟩
 have c6:=c5.push h6 []
 have Φ6:=kΦ.new Φ5 h6 (.list [])
 clear c5 Φ5
 refine Ay ?_
 refine AN ?_
 refine At ⟨Nat.le_of_ble_eq_true rfl,fun a7 h7=>?_⟩
 have c7:=c6.push h7 []
 have Φ7:=kΦ.new Φ6 h7 (.list [])
 clear c6 Φ6
 refine Ay ?_
 refine AN ?_
 refine At ⟨Nat.le_of_ble_eq_true rfl,fun a8 h8=>?_⟩
 have c8:=c7.push h8 []
 have Φ8:=kΦ.new Φ7 h8 (.list [])
 clear c7 Φ7
 refine Ay ?_
 refine AN ?_
 refine At ⟨Nat.le_of_ble_eq_true rfl,fun a9 h9=>?_⟩
 have c9:=c8.push h9 []
 have Φ9:=kΦ.new Φ8 h9 (.list [])
 clear c8 Φ8
 refine At ⟨Nat.le_of_ble_eq_true rfl,fun a10 h10=>?_⟩
 have c10:=c9.push h10 [.ref a6,.ref a7,.ref a8,.ref a9]
 have Φ10:=kΦ.new Φ9 h10 (.list [.ref a6,.ref a7,.ref a8,.ref a9])
 clear c9 Φ9
 refine Aa (Ah (AN (At ⟨Nat.le_of_ble_eq_true rfl,fun a11 h11=>?_⟩)))
 have c11:=c10.push h11 []
 have Φ11:=kΦ.new Φ10 h11 (.list [])
 clear c10 Φ10
 show Cd C A Bd (B8 rr L f) (lawP.body.drop 18) ⟨M9 ws t os SV ta a5 a10 a11 0,upd _ a11 (.list [])⟩ Q
 generalize upd _ a11 (.list [])=hp11 at c11 Φ11 ⊢
 clear h1 h2 h3 h4 h5 h6 h7 h8 h9 h10 h11
 have c12:=c11.congr (L':=DR TL (Ar (Ar (Ar (Ar (Ar (Ar (Ar (Ar (Ar (Ar (Ar (fun _=>ta) 1 a1) 2 a2) 3 a3) 4 a4) 5 a5) 6 a6) 7 a7) 8 a8) 9 a9) 10 a10) 11 a11) (AX (AG ws) t [])) (BJ rfl rfl rfl rfl rfl rfl rfl rfl rfl rfl rfl rfl)
 have H:H5 TL ta a5 a10 a11 (Ar (Ar (Ar (Ar (Ar (Ar (Ar (Ar (Ar (Ar (Ar (fun _=>ta) 1 a1) 2 a2) 3 a3) 4 a4) 5 a5) 6 a6) 7 a7) 8 a8) 9 a9) 10 a10) 11 a11) (AX (AG ws) t []) hp11:=⟨c12,rfl,rfl,rfl,rfl⟩
 generalize Ar (Ar (Ar (Ar (Ar (Ar (Ar (Ar (Ar (Ar (Ar (fun _=>ta) 1 a1) 2 a2) 3 a3) 4 a4) 5 a5) 6 a6) 7 a7) 8 a8) 9 a9) 10 a10) 11 a11=ad0 at H
 clear c11 c12
 generalize a5=ha at H ⊢
 generalize a10=ra at H ⊢
 generalize a11=da at H ⊢
 refine Aa (Ee [] (fun xs loc hp'=>P6 ws t os SV TL ta ha ra da Φ xs loc hp')
  (Dt hA (Ak rfl) .lst) ⟨M9 ws t os SV ta ha ra da 0,Ac rfl (Ac rfl (Ac rfl (Ac rfl (Ac rfl (Ac rfl (Ac rfl (Ac rfl (Ac rfl (A5))))))))),[],os,ad0,rfl,rfl,by rw [show (AX (AG ws) t []).rest=t from rfl,Nat.sub_self],H,Φ11,rfl⟩ ?_ ?_)
 ·(rintro x xs loc hp';intro zr;refine cps fun zP zk=>?_;(rcases zr with ⟨done,rest,ad,e1',e2',rfl,H,hΦ,hlen⟩)<;>(refine zk ?_;clear zk zP))
  cases rest with
  |nil=>cases e2'
  |cons i rest=>
   obtain ⟨rfl,rfl⟩:x=AV.int (i:Int)∧xs=rest.map (fun (i:Nat)=>AV.int (i:Int)):=by cases e2';exact ⟨rfl,rfl⟩
   clear e2'
   have hi:i<4:=hos i (by rw [e1'];simp)
   have hdl:done.length≤100:=by
    have:=congrArg List.length e1'
    rw [List.length_append] at this;exact A8 [_,_,_] [(1,Z1,(Zn 100)),(1,(Za Z0 Z2),Z1)] Z0 (Zn 100) rfl hol (Nat.le_of_eq (Eq.symm this))
   have ok5:=HC.run (AG ws) t done
   have hsn:=CE (AG ws) t done i
   refine Bs ?_
   refine Tr.gen fun K hK=>?_
   have fin:∀ad hp2 h y r,(h,y,r)=Bw (AG ws) (AX (AG ws) t done) i→H5 TL ta ha ra da ad ⟨Ar (AX (AG ws) t done).held i h,Ar (AX (AG ws) t done).ready i y.tail,r,(AX (AG ws) t done).out++[y.head?]⟩ hp2→Φ hp2→K .next ⟨ID ws t os SV ta ha ra da (t.length - r.length) i,hp2⟩:=by
    intro ad hp2 h y r e H2 hΦ2
    have es:AX (AG ws) t (done++[i])=⟨Ar (AX (AG ws) t done).held i h,Ar (AX (AG ws) t done).ready i y.tail,r,(AX (AG ws) t done).out++[y.head?]⟩:=by
     rw [hsn];unfold CD;rw [←e]
    refine hK _ _ ⟨M9 ws t os SV ta ha ra da (t.length - r.length),Ac rfl (Ac rfl (Ac rfl (Ac rfl (Ac rfl (Ac rfl (Ac rfl (Ac rfl (Ac rfl (A5))))))))),done++[i],rest,ad,by rw [e1'];simp,rfl,by rw [es],by rw [es];exact H2,hΦ2,?_⟩
    rw [es]
    show ((AX (AG ws) t done).out++[y.head?]).length=_
    rw [List.length_append,List.length_append,hlen];rfl
   clear hK hsn
   generalize hS:AX (AG ws) t done=S at H hlen ok5 fin ⊢
   have go:∀ad hp2,H5 TL ta ha ra da ad (Fk S i (heldAt S i) (BV S i) S.rest) hp2→Φ hp2→Cd C A Bd (B8 rr L f) ((Gi (lawP.body.drop 18)).2.drop 1) ⟨ID ws t os SV ta ha ra da (t.length - S.rest.length) i,hp2⟩ K:=by
    intro ad hp2 H hΦ
    refine Aa (IZ T hfe hge hA hu hroom hw5 hw4 htl hi rfl kΦ H ⟨rfl,(ok5.at i).2,ok5.s,(ok5.at i).1⟩ hΦ ?_)
    rintro ad hp3 d h y r e H M hΦ rfl
    have hyl:y.length≤4:=by
     refine xa1_1 M.k ?_;intro k hk
     rw [hk];exact CI (fun w hw=>hw4 w (AU hw)) k
    have hz:(y.map Am).length≤100000:=by rw [List.length_map];exact A8 [_] [(1,Z0,(Zn 4))] Z0 (Zn 100000) rfl hyl
    have rdy:∀{hp4},H5 TL ta ha ra da ad ⟨Ar S.held i h,Ar S.ready i y,r,S.out++[y.head?]⟩ hp4∨H5 TL ta ha ra da ad (Fk S i h y r) hp4→hp4 (ad (6+i))=some (.list (y.map Am)):=by
     rintro hp4 (H|H)
     ·exact (H.rdy i hi).trans (by show some (AO.list ((Ar S.ready i y i).map Am))=_;rw [A4])
     ·exact (H.rdy i hi).trans (by show some (AO.list ((Ar S.ready i y i).map Am))=_;rw [A4])
    have hsub:∀{e1 e2:Expr} {p:Pos} {env:Env} {loc:PL} {hp:HP},hp (ad (6+i))=some (.list (y.map Am))→PE C A hp env loc e1 (.lst (AP ad 6),true)→PE C A hp env loc e2 (.int (i:Int),false)→PE C A hp env loc (.Subscript e1 e2 p) (.lst (y.map Am),true):=fun {e1 e2 p env loc hp} hb h1 h2=>
     PE.own (B1 h1 h2 (Bx (Int.natCast_nonneg _) (by rw [Int.toNat_natCast];exact B6 i hi) (Nat.le_of_ble_eq_true rfl))) hb
    refine Aa (AM (A2 (Ab rfl (BZ H.due (Ay ?_)))))
    refine AL [("ready",AP ad 6)] (Bz y.head?) (OL (q:=!(y.map Am).isEmpty) (EC (hsub (rdy (.inr H)) (Ak rfl) (Ak rfl)) (Jy hz)) (fun z=>?_) (fun z=>?_)) ?_ (OwnOk.cons rfl H.rl OwnOk.nil)
    ·cases y with
     |nil=>cases z
     |cons p ys=>exact B1 (hsub (rdy (.inr H)) (Ak rfl) (Ak rfl)) Av (Bx (by decide) rfl hz)
    ·cases y with
     |nil=>exact MZ
     |cons p ys=>cases z
    refine At (A6 (list_append H.due (by rw [List.length_map];show S.out.length≤_;exact A8 [_,_] [(1,Z1,(Zn 100)),(1,Z0,Z1)] Z0 (Zn 100000) rfl hdl (Nat.le_of_eq hlen)) ?_))
    have H2:=H.duePut y.head?
    have Φ2:=kΦ.put hΦ H.due (.list ((Fk S i h y r).out.map Bz++[Bz y.head?]))
    have hr2:=rdy (.inl H2)
    refine Aa (Bh ?_)
    refine KU [("ready",AP ad 6)] (hsub hr2 (Ak rfl) (Ak rfl)) (Ba Av) AJ hz (fun a hna=>?_) (OwnOk.cons rfl H2.rl OwnOk.nil)
    rw [Ps]
    replace hna:upd hp3 da (.list ((Fk S i h y r).out.map Bz++[Bz y.head?])) a=none:=hna
    have H3:=H2.setR hi hna y.tail
    replace H3:H5 TL ta ha ra da (Ar ad (6+i) a) ⟨Ar S.held i h,Ar (Ar S.ready i y) i y.tail,r,S.out++[y.head?]⟩ _:=H3
    rw [CF] at H3
    have Φ3:=kΦ.new Φ2 hna (.list (y.tail.map Am))
    have hr3:=Ej (x:=.list (y.tail.map Am)) hna H2.rl
    refine Ab rfl (Ab rfl ?_)
    refine E1 hr3 (Int.natCast_nonneg _) (by show (i:Int)<4;omega) (Nat.le_of_ble_eq_true rfl) ?_
    rw [Int.toNat_natCast]
    exact An (fin _ _ h y r e H3 (kΦ.put Φ3 hr3 _))
   refine Aa (Mv [] (ET (Ak rfl) Av (Oc (.int _) (.int _) (Dp.int _ _) (Nat.le_trans hu (by decide)))) (fun q=>?_) (fun q=>?_))
   ·have q:=of_decide_eq_true q
    have hi3:i=3:=by injection q with q;omega
    subst hi3
    refine Aa (Bh (AN (At ⟨Nat.le_of_ble_eq_true rfl,fun a hna=>Ab rfl (D0 ?_)⟩)))
    replace hna:hp' a=none:=hna
    have H1:=H.setH hi hna
    have Φ1:=kΦ.new hΦ hna (.list [])
    have hh1:=Ej (x:=.list []) hna H.hl
    refine E1 hh1 (by decide) (by show (3:Int)<4;decide) (Nat.le_of_ble_eq_true rfl) ?_
    have Φ2:=kΦ.put Φ1 hh1 (.list ((AP ad 1).set 3 (.ref a)))
    replace H1:H5 TL ta ha ra da (Ar ad (1+3) a) ⟨Ar S.held 3 [],S.ready,S.rest,S.out⟩ (upd (upd hp' a (.list [])) ha (.list ((AP ad 1).set 3 (.ref a)))):=H1
    show Cd C A Bd (B8 rr L f) _ ⟨ID ws t os SV ta ha ra da (t.length - S.rest.length) 3,upd (upd hp' a (.list [])) ha (.list ((AP ad 1).set 3 (.ref a)))⟩ _
    generalize upd (upd hp' a (.list [])) ha (.list ((AP ad 1).set 3 (.ref a)))=hp2 at H1 Φ2 ⊢
    refine Aa (Bh (AN (At ⟨Nat.le_of_ble_eq_true rfl,fun a2 hna2=>Ab rfl (D0 ?_)⟩)))
    replace hna2:hp2 a2=none:=hna2
    have H3:=H1.setR hi hna2 []
    have Φ3:=kΦ.new Φ2 hna2 (.list [])
    have hh2:=Ej (x:=.list []) hna2 H1.rl
    refine E1 hh2 (by decide) (by show (3:Int)<4;decide) (Nat.le_of_ble_eq_true rfl) ?_
    exact An (go _ _ H3 (kΦ.put Φ3 hh2 _))
   ·have q:=of_decide_eq_false q
    have hi3:i≠3:=fun z=>q (by rw [z];rfl)
    refine An (go ad hp' ?_ hΦ)
    have e:Fk S i (heldAt S i) (BV S i) S.rest=S:=by
     unfold Fk heldAt BV
     rw [if_neg hi3,if_neg hi3,Eo,Eo]
    rw [e];exact H
 ·(rintro loc hp';intro zr;refine cps fun zP zk=>?_;(rcases zr with ⟨done,rest,ad,e1',e2',rfl,H,hΦ,hlen⟩)<;>(refine zk ?_;clear zk zP))
  have:rest=[]:=by simpa using e2'.symm
  subst this
  rw [List.append_nil] at e1'
  subst e1'
  exact hQ ad ha ra da hp' H hlen hΦ
end
end
section
section
variable {C:Cf} {A:Around} {s s':Shared} {F F' G:FH} {env:Env} {E:Value→Shared→Prop} {hp hp':HP} {loc:PL} {σ:Al}
structure KN (C:Cf) (A:Around) (hp:HP) (F:FH) (s:Shared) (hp':HP) (F':FH) (s':Shared):Prop where
 w':Wp C A hp' F' s'
 e:AE F F'
 kg:∀b o,s.heap.get? b=some o→hp b=none→(∃o',s'.heap.get? b=some o'∧Fh o o')∧hp' b=none
 new:∀b o,F' b=some o→F b=some o∨s.heap.get? b=none∨hp b≠none
theorem BC.two (st:BC C A hp F s F' s'):KN C A hp F s hp F' s':=⟨st.w',st.e,fun b o h q=>⟨st.kg b o h q,q⟩,fun b o e=>(st.new b o e).imp_right .inl⟩
theorem KN.off (st:KN C A hp F s hp' F' s') {b:Addr} {o:Obj} (h:s.heap.get? b=some o) (hF:F b=none) (q:hp b=none):F' b=none:=by
 cases z:F' b with
 |none=>rfl
 |some o'=>
  rcases st.new b o' z with k|k|k
  ·rw [hF] at k;exact Aj k
  ·rw [h] at k;exact Ap k
  ·exact absurd q k
theorem KN.trans {hp₁ hp₂:HP} {F₁ F₂:FH} {s₁ s₂:Shared} (a:KN C A hp F s hp₁ F₁ s₁) (b:KN C A hp₁ F₁ s₁ hp₂ F₂ s₂):KN C A hp F s hp₂ F₂ s₂:=by
 refine ⟨b.w',a.e.trans b.e,fun x o h q=>?_,fun x o e=>?_⟩
 ·refine xa0_2 (a.kg x o h q) ?_;intro zq;refine xa1_2 zq ?_;(try clear zq);intro o' h1 g1;intro q1
  refine xa0_2 (b.kg x o' h1 q1) ?_;intro zq;refine xa1_2 zq ?_;(try clear zq);intro o2 h2 g2;intro q2
  exact ⟨⟨o2,h2,g1.trans g2⟩,q2⟩
 ·rcases b.new x o e with k|k
  ·exact a.new x o k
  ·right
   cases z:s.heap.get? x with
   |none=>exact .inl rfl
   |some o1=>
    right
    intro q
    refine xa0_2 (a.kg x o1 z q) ?_;intro zq;refine xa1_2 zq ?_;(try clear zq);intro o' h1 zu;intro q1
    rcases k with k|k
    ·rw [h1] at k;exact Ap k
    ·exact k q1
theorem Wp.two (w:Wp C A hp F s) (e:AE F F') (W:Wd C F' (Dl F hp s.heap) hp' s'):KN C A hp F s hp' F' s':=by
 have kg:∀b o,s.heap.get? b=some o→hp b=none→(∃o',s'.heap.get? b=some o'∧Fh o o')∧hp' b=none:=fun b o h1 h2=>by
  cases q:F b with
  |none=>
   have hg:=(Dk q h2).trans h1
   refine ⟨W.gz b o hg,?_⟩
   cases z:hp' b with
   |none=>rfl
   |some x=>have:=(W.ob b x z).2.1;rw [hg] at this;exact Ap this
  |some o'=>
   have:=w.fz _ _ q
   rw [h1] at this;(have zc:=Option.some.inj this;clear this;subst zc)
   refine ⟨⟨o,W.fz _ _ (e _ _ q),.inl rfl⟩,?_⟩
   cases z:hp' b with
   |none=>rfl
   |some x=>have:=(W.ob b x z).1;rw [e _ _ q] at this;exact Ap this
 have off:∀{b o},s.heap.get? b=some o→F b=none→hp b=none→F' b=none:=fun {b o} h1 h2 h3=>by
  cases q:F' b with
  |none=>rfl
  |some o'=>have:=W.fg _ _ q;rw [Dk h2 h3,h1] at this;exact Ap this
 refine ⟨⟨W.base,W.fz,fun a x q=>⟨(W.ob a x q).1,(W.ob a x q).2.2⟩,W.os,W.bare,W.gi,?_⟩,e,kg,fun b o q=>?_⟩
 ·refine xa1_2 w.fr ?_;intro l a b
  refine ⟨l,a,fun y hy=>?_⟩
  refine cps fun zP zk=>?_;(rcases b y hy with ⟨p,L,q1,q2,q3,o,q4,es,ep,q5⟩)<;>(refine zk ?_;clear zk zP)
  refine xa0_2 (kg L o q4 q3) ?_;intro zq;refine xa1_2 zq ?_;(try clear zq);intro o' z1 z2;intro z3
  exact ⟨p,L,q1,off q4 q2 q3,z3,o',z1,es,ep,z2.data.trans q5⟩
 ·cases z:s.heap.get? b with
  |none=>exact .inr (.inl rfl)
  |some o'=>
   cases z2:F b with
   |some o2=>have:=e _ _ z2;rw [q] at this;exact .inl this.symm
   |none=>
    cases z3:hp b with
    |none=>rw [off z z2 z3] at q;exact Aj q
    |some x=>exact .inr (.inr fun z=>nomatch z)
theorem KN.mod {hp₀:HP} {F₀:FH} {s₀:Shared} (st:KN C A hp₀ F₀ s₀ hp F s) (w0:Wp C A hp₀ F₀ s₀) {X:Addr→Prop} (hX:∀b,X b→s₀.heap.get? b=none∧F b=none∧hp b=none) {h':Heap} {t:Nat} (k:∀b o,¬X b→s.heap.get? b=some o→h'.get? b=some o):KN C A hp₀ F₀ s₀ hp F ⟨h',s.gens,s.drawn,t,s.os⟩:=by
 refine ⟨st.w'.turn (X:=X) (AE.refl F) (fun b o e=>k b o (fun hb=>?_) (st.w'.fz _ _ e)) (fun b x hb q=>?_) (fun zu zu zu=>id) (w0.frOff fun b hb=>(hX b hb).1) k,st.e,fun b o e q=>?_,st.new⟩
 ·rw [(hX b hb).2.1] at e;exact Aj e
 ·rw [(hX b hb).2.2] at q;exact Aj q
 ·refine xa0_2 (st.kg b o e q) ?_;intro zq;refine xa1_2 zq ?_;(try clear zq);intro o' h1 g;intro q2
  exact ⟨⟨o',k b o' (fun hb=>by rw [(hX b hb).1] at e;exact Aj e) h1,g⟩,q2⟩
theorem Rp.two (hR:Rp C A F G env σ s) (st:KN C A σ.hp F s hp' F' s'):Rp C A F' G env ⟨σ.loc,hp'⟩ s':=by
 have ghp:∀{b o},G b=some o→σ.hp b=none:=fun {b o} e=>by
  cases q:σ.hp b with
  |none=>rfl
  |some x=>rw [(hR.wd.ob _ _ q).2.1] at e;exact Aj e
 have ck:∀{c v},σ.hp c=none→s.heap.IsCell c v→s'.heap.IsCell c v:=fun {c v} e h=>IsCell.geq h fun o ho=>(st.kg _ o ho e).1
 refine ⟨⟨st.w'.base,st.w'.fz,fun b o e=>?_,fun a x e=>⟨(st.w'.ob a x e).1,?_,(st.w'.ob a x e).2⟩,st.w'.os,st.w'.bare,st.w'.gi,fun b o e=>?_⟩,⟨hR.fm.kind,?_,⟨?_,hR.fm.lo.2.1,?_⟩,fun x hx=>?_,hR.fm.ci,fun x av c a b d=>?_,fun x av a b=>?_⟩,hR.fs⟩
 ·refine xa1_2 (hR.wd.gz b o e) ?_;intro o' h1 g
  refine xa1_2 ((st.kg b o' h1 (ghp e)).1) ?_;intro o2 h2 g2
  exact ⟨o2,h2,g.trans g2⟩
 ·cases z:G a with
  |none=>rfl
  |some o=>
   refine xa1_2 (hR.wd.gz a o z) ?_;intro o' h1 zu
   exact Ap (e.symm.trans (st.kg a o' h1 (ghp z)).2)
 ·rcases st.new b o e with q|q|q
  ·exact hR.wd.fg b o q
  ·exact (hR.wd.dead q).2.1
  ·cases z:σ.hp b with
   |none=>exact absurd z q
   |some x=>exact (hR.wd.ob b x z).2.1
 ·refine xa1_2 hR.fm.ns ?_;intro m hm hv
  exact ⟨m,Ns.geq hm fun o h=>(st.kg _ o h hR.fm.lo.2.2).1,fun x av a b=>let ⟨v,p,q⟩:=hv x av a b;⟨v,p,q.mono st.e⟩⟩
 ·refine xa1_2 hR.fm.ns ?_;intro m;intro zq;refine xa3_2 zq ?_;(try clear zq);intro oL es ep hL zu;intro zu
  exact st.off hL hR.fm.lo.1 hR.fm.lo.2.2
 ·refine xa1_2 hR.fm.ns ?_;intro m;intro zq;refine xa3_2 zq ?_;(try clear zq);intro oL es ep hL zu;intro zu
  exact (st.kg _ _ hL hR.fm.lo.2.2).2
 ·refine cps fun zP zk=>?_;(rcases hR.fm.co x hx with ⟨c,g1,g2,g3,g4,g5,v,o',ho',g7⟩)<;>(refine zk ?_;clear zk zP)
  exact ⟨c,g1,st.off ho' g2 g4,g3,(st.kg _ _ ho' g4).2,g5,v,ck g4 ⟨o',ho',g7⟩⟩
 ·refine xa1_2 (hR.fm.cv x av c a b d) ?_;intro v p q
  refine xa1_5 (hR.fm.co x b) ?_;intro c' g1 zu zu g4 zu
  rw [d] at g1;(have zc:=Option.some.inj g1;clear g1;subst zc)
  exact ⟨v,ck g4 p,q.mono st.e⟩
 ·refine xa3_4 (hR.fm.fv x av a b) ?_;intro c v o a1 a2 a3 a4
  exact ⟨c,v,o,a1,a2,a3,a4.mono st.e⟩
structure LX (C:Cf) (A:Around) (hp₀:HP) (F₀:FH) (s₀:Shared) (acc L:Addr) (wr:List Addr) (St:Nat→Heap→Prop) (F₂:FH) (i:Nat) (ys:List AV) (hp:HP) (F:FH) (s:Shared):Prop where
 st:KN C A hp₀ F₀ s₀ hp F s
 ac:D1 F s.heap acc ys
 fr:∃m,s.heap.Ns L m
 it:St i s.heap
 off:∀b,(b=acc∨b=L∨b∈wr)→F b=none∧hp b=none
 e:AE F₂ F
inductive PS (C:Cf) (A:Around) (hp₀:HP) (F₀:FH) (s₀:Shared) (acc L:Addr) (wr:List Addr) (St:Nat→Heap→Prop) (F₂:FH) (N:Nat) (em:Nat→AV) (J:Nat→HP→Prop) (n:Nat) (s:Shared):Prop
 |mk (i:Nat) (hp:HP) (F:FH) (x:LX C A hp₀ F₀ s₀ acc L wr St F₂ i ((List.range i).map em) hp F s) (j:J i hp) (hn:i+n=N)
theorem ML {elt iter:Expr} {scope:Scope} {pos px:Pos} {x:Str} {hp₀:HP} {F₀ F₂:FH} {s₀:Shared} {acc L I:Addr} {fp wr:List Addr} {St:Nat→Heap→Prop} {l:List AV} {em:Nat→AV} {J:Nat→HP→Prop} (w0:Wp C A hp₀ F₀ s₀) (W:Wk C A (.Name x px) I fp wr St l F₂ F₂) (hl:∀a∈l,∃b,a=.ref b) (hz:l.length≤100)
  (hnew:∀b,(b=acc∨b=L∨b∈wr)→s₀.heap.get? b=none) (d1:acc≠L) (d2:acc∉wr) (d3:L∉wr) (ck:scope.kind=.function) (hk:(Az env scope (L,false)).kindOf x=some .local) (hcells:∀y,(Az env scope (L,false)).kindOf y=some .cell→((Az env scope (L,false)).cells.lookup y).isSome=true) (hg:env.globals=mainGlobals∧env.builtins=builtinsNs)
  (turn:∀i a hp,l[i]? = some a→J i hp→PW C A hp (Az env scope (L,false)) [(x,(a,false))] elt (fun v hp'=>v=em i∧J (i+1) hp')) {R:Result→Shared→Prop}
  (hQ:∀hp F s,LX C A hp₀ F₀ s₀ acc L wr St F₂ l.length ((List.range l.length).map em) hp F s→J l.length hp→∀h' tk,(∀b o,b∉wr→s.heap.get? b=some o→h'.get? b=some o)→R (.ok .next) ⟨h',s.gens,s.drawn,tk,s.os⟩) {n:Nat}
  (h0:PS C A hp₀ F₀ s₀ acc L wr St F₂ l.length em J n s):codeAny (model C.prog C.w) A (.compLoop (.ListComp elt [⟨.Name x px,iter,[],0⟩] scope pos) 0 (.ref I) (.ref acc) (Az env scope (L,false))) R s:=by
 refine codeAny_loop' rfl (PS C A hp₀ F₀ s₀ acc L wr St F₂ l.length em J) (fun n s' hI=>?_) n h0
 refine cps fun zP zk=>?_;(rcases hI with ⟨i,hp,F,X,hJ,hn⟩)<;>(refine zk ?_;clear zk zP)
 show wpAny _ _ ((compTurn (.ListComp elt [⟨.Name x px,iter,[],0⟩] scope pos) 0 (.ref I) (.ref acc) (Az env scope (L,false))).onRaise (fun x=>do noteFrame x (Az env scope (L,false));theTreesLotGoes x)) _ _ s'
 refine wpAny_onRaise ?_
 rw [turn1 elt (.Name x px) iter [] scope pos (.ref I) (.ref acc) (Az env scope (L,false))]
 refine wpAny_bind (wpAny_standAt (wpAny_bind ?_))
 cases hx:l[i]? with
 |none=>
  have hi:i=l.length:=Nat.le_antisymm (A8 [_,_,_] [(1,(Za Z0 Z2),Z1)] Z0 Z1 rfl (Nat.le_of_eq hn)) (List.getElem?_eq_none_iff.mp hx)
  subst hi
  refine wpAny_mono (W.done s' X.it) (fun r s₁ z=>?_) fun zu zu x=>x.elim
  refine cps fun zP zk=>?_;(rcases z with ⟨rfl,h',tk,rfl,k⟩)<;>(refine zk ?_;clear zk zP)
  exact wpAny_pure (hQ hp F s' X hJ h' tk k)
 |some a=>
  refine xa1_1 (hl a (List.mem_of_getElem? hx)) ?_;intro ga;rintro rfl
  refine wpAny_mono (W.more i _ s' hx X.it) (fun r s₁ z=>?_) fun zu zu x=>x.elim
  refine xa1_2 z ?_;(try clear z);intro v;rintro rfl;intro z
  refine wpAny_bind (wpAny_mono z (fun zu s₂ z=>?_) fun zu zu x=>x.elim)
  refine cps fun zP zk=>?_;(rcases z with ⟨h',tk,rfl,st',k,hv⟩)<;>(refine zk ?_;clear zk zP)
  cases hv with
  |tup T o vs kk cs ev hT ho hc hd hv ex=>cases ex
  |old hv=>
  have prv:∀(X':Addr→Prop),(∀b,X' b→b=acc∨b=L∨b∈wr)→∀b,X' b→s₀.heap.get? b=none∧F b=none∧hp b=none:=fun X' h b hb=>⟨hnew b (h b hb),X.off b (h b hb)⟩
  have S1:=X.st.mod w0 (t:=tk) (prv (·∈wr) fun b hb=>.inr (.inr hb)) k
  refine xa1_1 X.fr ?_;intro m hm
  have hm1:h'.Ns L m:=Ns.geq hm fun o q=>⟨o,k _ _ d3 q,.inl rfl⟩
  have ac1:=X.ac.keep (h':=h') (AE.refl F) fun o=>k _ o d2
  refine wpAny_bind (wpAny_mono (CZ (C:=C) (A:=A) (cenv:=Az env scope (L,false)) (Lc:=(L,false)) (px:=px) (bl:=[]) ck rfl rfl hk F ⟨h',s'.gens,s'.drawn,tk,s'.os⟩ v ⟨m,none,hm1,fun q=>(by cases q),fun y a q=>(by cases q)⟩ (hv.mono X.e)) (fun zu s₃ z=>?_) fun zu zu x=>x.elim)
  refine xa2_3 z ?_;(try clear z);intro h3 t3;rintro rfl;intro b3 k3
  have nXL:∀b,b≠L→¬XL (L,false) b:=fun b hb q=>q.elim hb fun q=>by cases q.1
  have S2:=S1.mod w0 (t:=t3) (prv (·=L) fun b hb=>.inr (.inl hb)) (fun b o hb q=>k3 b o (nXL b hb) q)
  have ac2:=ac1.keep (h':=h3) (AE.refl F) fun o=>k3 _ o (nXL _ d1)
  have it2:St (i+1) h3:=W.frame _ _ _ st' fun b hb o ho=>by
   by_cases q:b=L
   ·subst q
    rcases W.frz b hb with z|⟨o',z⟩
    ·exact absurd z d3
    ·have:=(X.off b (.inr (.inl rfl))).1
     rw [X.e _ _ z] at this;exact Ap this
   ·exact k3 b o (nXL b q) ho
  refine wpAny_bind (wpAny_tests_nil ?_)
  simp only [if_true]
  have pc:CY C A hp F ⟨h3,s'.gens,s'.drawn,t3,s'.os⟩ (Az env scope (L,false)) [(x,(.ref ga,false))]:=by
   refine ⟨S2.w',ck,hg,hcells,fun y pv q=>?_⟩
   simp only [List.lookup] at q
   split at q
   ·rename_i z
    (have zc:=Option.some.inj q;clear q;subst zc)
    have z:=beq_iff_eq.mp z
    subst z
    refine xa2_3 b3 ?_;(try clear b3);intro m3 c3 hn3 zu hb3
    refine xa1_2 (hb3 y (.ref ga) (by simp [List.lookup])) ?_;intro v' z1 z2
    exact ⟨v',.val z2,.loc hk hn3 z1 (X.off _ (.inr (.inl rfl))).2⟩
   ·cases q
  refine wpAny_bind (wpAny_bind (wpAny_mono (turn i _ hp hx hJ F _ Bd pc) (fun vv s₄ z=>?_) fun zu zu x=>x.elim))
  refine cps fun zP zk=>?_;(rcases z with ⟨F₁,s₁,stp,F',av,hp',e',hv',Wd',rfl,hJ'⟩)<;>(refine zk ?_;clear zk zP)
  have S3:=stp.two.trans (stp.w'.two e' Wd')
  have S4:=S2.trans S3
  refine xa2_3 b3 ?_;(try clear b3);intro m3 c3 hn3 zu zu
  have live:∀b,(b=acc∨b=L∨b∈wr)→∃o,h3.get? b=some o:=fun b hb=>by
   rcases hb with rfl|rfl|hb
   ·exact ac2.live
   ·refine xa3_2 hn3 ?_;(try clear hn3);intro o zu zu q zu;exact ⟨o,q⟩
   ·refine xa1_2 (W.inert _ _ st' b hb) ?_;intro o q zu
    exact ⟨o,k3 b o (nXL b fun z=>d3 (z▸hb)) q⟩
  have off4:∀b,(b=acc∨b=L∨b∈wr)→F' b=none∧hp' b=none:=fun b hb=>by
   refine xa1_1 (live b hb) ?_;intro o q
   refine xa0_2 (X.off b hb) ?_;intro z1 z2
   exact ⟨S3.off q z1 z2,(S3.kg b o q z2).2⟩
  have ac3:=ac2.keepG (h':=s₄.heap) S3.e fun o q=>(S3.kg _ o q (X.off _ (.inl rfl)).2).1
  have it3:St (i+1) s₄.heap:=W.frame _ _ _ it2 fun b hb o ho=>by
   rcases W.frz b hb with z|⟨o',z⟩
   ·refine xa1_2 ((S3.kg b o ho (X.off b (.inr (.inr z))).2).1) ?_;intro o2 h1 g
    refine xa1_2 (W.inert _ _ it2 b z) ?_;intro o3 q1 q2
    rw [ho] at q1;(have zc:=Option.some.inj q1;clear q1;subst zc)
    rw [h1,g.exact q2.2]
   ·have q1:=S2.w'.fz b o' (X.e _ _ z)
    rw [show h3.get? b=_ from ho] at q1;(have zc:=Option.some.inj q1;clear q1;subst zc)
    exact S3.w'.fz _ _ (S3.e _ _ (X.e _ _ z))
  have fr3:∃m,s₄.heap.Ns L m:=⟨_,Ns.geq hn3 fun o q=>(S3.kg _ o q (X.off _ (.inr (.inl rfl))).2).1⟩
  have hlt:=(List.getElem?_eq_some_iff.mp hx).1
  refine wpAny_bind ?_
  refine xa2_2 ac3 ?_;(try clear ac3);intro ws nn hll hvv
  refine call_meets PySem.F.slot_list_append ⟨_,hll,rfl⟩ PySem.F.entry_list_append (PySem.F.args_list_append_2 _ _) (PySem.list_append acc ws.toArray nn vv (by rw [List.size_toArray,hvv.length,sizeLine_eq,List.length_map,List.length_range];exact A8 [_,_,_] [(1,Z1,(Zn 100)),(1,(Za Z0 Z2),Z1)] Z0 (Zn 16777216) rfl hz (Nat.le_of_eq hn))) ⟨hll,wpAny_pure ?_⟩
  have hl2:IsL s₄.heap acc ws.toArray nn:=hll
  have hl':=hl2.update (fun x=>x.push vv)
  rw [List.push_toArray] at hl'
  have kk:=SameBut.rest (Heap.SameBut.update s₄.heap acc (Obj.mapSeq fun x=>x.push vv))
  have prv4:∀b,b=acc→s₀.heap.get? b=none∧F' b=none∧hp' b=none:=fun b hb=>⟨hnew b (.inl hb),off4 b (.inl hb)⟩
  have S5:=S4.mod w0 (t:=s₄.toks) (X:=(·=acc)) prv4 kk
  refine xa1_1 fr3 ?_;(try clear fr3);intro m4 hm4
  refine wpAny_pure (.inl ⟨rfl,n - 1,by exact C0 [_,_] [(1,(Zs Z0),Z1)] Z0 Z1 rfl (Nat.le_of_eq (Nat.sub_add_cancel (A8 [_,_,_] [(1,Z1,(Za Z2 Z0)),(1,(Zs Z2),Z1)] (Zn 1) Z0 rfl (Nat.le_of_eq (Eq.symm hn)) hlt))),i+1,hp',F',⟨S5,?_,⟨m4,Ns.geq hm4 fun o q=>⟨o,kk _ _ d1.symm q,.inl rfl⟩⟩,?_,off4,X.e.trans S3.e⟩,hJ',by exact Nat.le_antisymm (A8 [_,_,_,_] [(1,(Za Z0 Z3),Z2),(1,(Zs Z1),Z3)] (Za (Zs Z0) Z1) Z2 rfl (Nat.le_of_eq hn) (Nat.le_of_eq (Nat.sub_add_cancel (A8 [_,_,_] [(1,Z1,(Za Z2 Z0)),(1,(Zs Z2),Z1)] (Zn 1) Z0 rfl (Nat.le_of_eq (Eq.symm hn)) hlt)))) (A8 [_,_,_,_] [(1,Z0,(Za Z1 Z3)),(1,Z3,(Zs Z2))] Z0 (Za (Zs Z1) Z2) rfl (Nat.le_of_eq (Eq.symm hn)) (Eh _ _))⟩)
  ·rw [List.range_succ,List.map_append]
   exact ⟨_,_,hl',hvv.append (.cons hv' .nil)⟩
  ·refine W.frame _ _ _ it3 fun b hb o ho=>kk _ _ (fun q=>?_) ho
   subst q
   rcases W.frz b hb with z|⟨o',z⟩
   ·exact d2 z
   ·have:=(X.off b (.inl rfl)).1
    rw [X.e _ _ z] at this;exact Ap this
theorem Oq {E:Value→Shared→Prop} {elt iter:Expr} {scope:Scope} {pos px:Pos} {x:Str} {l:List AV} {em:Nat→AV} {J:Nat→HP→Prop} {Q:AV→Al→Prop} (own:List (Str×List AV)) (hi:PI C A σ.hp env (Ec own σ.loc) (.Name x px) iter l) (hl:∀a∈l,∃b,a=.ref b) (hz:l.length≤100)
  (turn:∀L i a hp,l[i]? = some a→J i hp→PW C A hp (Az env scope (L,false)) [(x,(a,false))] elt (fun v hp'=>v=em i∧J (i+1) hp')) (h0:J 0 σ.hp) (q:∀hp',J l.length hp'→Q (.lst ((List.range l.length).map em)) ⟨σ.loc,hp'⟩)
  (hxk:autoParam (∀L,(Az env scope (L,false)).kindOf x=some .local) AC.aux4._auto_1) (cs:autoParam (AT env scope) AC.aux7._auto_1) (hs:autoParam (∀x,foldedSetIterable iter env x=Pure.pure x) AC.aux4._auto_1) (hmd:autoParam (md scope=false) AC.aux0._auto_1) (ho:autoParam (OwnOk σ own) AC.aux8._auto_1) (hk:autoParam ((σ.loc.all fun p=>Cg (env.kindOf p.1))=true) AC.aux0._auto_1)
  (hg:autoParam (env.globals=mainGlobals∧env.builtins=builtinsNs) AC.aux9._auto_1):Ev C A E env (.ListComp elt [⟨.Name x px,iter,[],0⟩] scope pos) σ Q:=by
 intro F G s hR
 have c:=hR.pctx ho hk hg
 have w0:=c.wp
 rw [eval_ListComp]
 refine wpAny_comprehension_free (use:=none) (g:=⟨.Name x px,iter,[],0⟩) (gs:=[]) rfl hs (cs.closure fun x hx=>c.cells x hx) cs.kind (fun x hx hl=>?_) ?_
 ·have:=List.all_eq_true.mp cs.lo _ hx
  rw [hl] at this
  simpa using this
 show wpAny _ A (eval iter env) _ _ s
 refine wpAny_mono (hi F s E c) (fun v s₁ z=>wpAny_mono z (fun iv s₂ z=>?_) fun zu zu x=>x) fun zu zu x=>x
 refine cps fun zP zk=>?_;(rcases z with ⟨F₂,I,fp,wr,St,st,rfl,W,hW,hw⟩)<;>(refine zk ?_;clear zk zP)
 refine wpAny_newList ?_
 generalize hacc:s₂.heap.objs.size=acc
 have a0:s₂.heap.get? acc=none:=by rw [←hacc];exact CW _
 refine Gb ?_
 have hL0:(s₂.heap.push { cls:=.type "list",data:=.seq ([]:List Value).toArray }).objs.size=acc+1:=by rw [←hacc,Heap.size_push]
 generalize hh0:s₂.heap.push { cls:=.type "list",data:=.seq ([]:List Value).toArray }=h₀' at hL0 ⊢
 dsimp only
 have kh0:∀b o,s₂.heap.get? b=some o→h₀'.get? b=some o:=fun b o e=>by rw [←hh0];exact Heap.get?_push_of_some _ e
 have hacc':h₀'.get? acc=some { cls:=.type "list",data:=.seq ([]:List Value).toArray }:=by rw [←hh0,←hacc];exact Heap.get?_push_size _ rfl
 rw [hL0]
 generalize hh1:pushCells (h₀'.push { cls:=.type "dict",data:=.dict #[] }) scope.names=h₁
 have k₁:∀b o,h₀'.get? b=some o→h₁.get? b=some o:=fun b o e=>by rw [←hh1];exact pushCells_keeps _ _ _ _ (Heap.get?_push_of_some _ e)
 have k₂:∀b o,s₂.heap.get? b=some o→h₁.get? b=some o:=fun b o e=>k₁ b o (kh0 b o e)
 have dead:∀b,acc<b→s₂.heap.get? b=none:=fun b hb=>by
  cases q:s₂.heap.get? b with
  |none=>rfl
  |some o=>have:=Heap.lt_size q;rw [hacc] at this;exact absurd this (Nat.not_lt.mpr (Nat.le_of_lt hb))
 have hns:h₁.Ns (acc+1) (fun _=>none):=by
  rw [←hh1,←hL0]
  exact (Heap.Ns.new h₀' (.type "dict")).keeps (pushCells_keeps _ _)
 generalize hs4:(⟨h₁,s₂.gens,s₂.drawn,s₂.toks,s₂.os⟩:Shared)=s₄
 have st4:BC C A σ.hp F₂ s₂ F₂ s₄:=hs4▸BC.keep (t:=s₂.toks) st.w' k₂
 have dL:=dead (acc+1) (Nat.lt_succ_self _)
 have hnew:∀b,(b=acc∨b=acc+1∨b∈wr)→s.heap.get? b=none:=fun b hb=>by
  rcases hb with rfl|rfl|hb
  ·exact st.dead a0
  ·exact st.dead dL
  ·exact (hw b hb).1
 have hcd:∀y,(Az env scope (acc+1,false)).kindOf y=some .cell→((Az env scope (acc+1,false)).cells.lookup y).isSome=true:=fun y hy=>cs.cell hy
 have inw:∀b∈wr,∃o,s₂.heap.get? b=some o:=fun b hb=>let ⟨o,h,_⟩:=W.inert _ _ hW b hb;⟨o,h⟩
 show codeAny _ A (.compStart _ 0 (.ref I) (.ref acc) (Az env scope (acc+1,false))) _ _
 refine Gl (d:=0) (target:=.Name x px) (iter:=iter) (ifs:=[]) rfl (fun Q E q=>W.self 0 s₄ Q E (W.frame _ _ _ hW fun b zu o e=>by rw [←hs4];exact k₂ b o e) q) ?_
 refine ML w0 W hl hz hnew (Nat.ne_of_lt (Nat.lt_succ_self _)) (fun q=>by refine xa1_1 (inw _ q) ?_;intro o h;rw [a0] at h;exact Aj h) (fun q=>by refine xa1_1 (inw _ q) ?_;intro o h;rw [dL] at h;exact Aj h) cs.kind (hxk _) hcd hg (turn (acc+1)) (fun hp' F' s' X hJ h' tk k=>?_) (n:=l.length)
  ⟨0,σ.hp,F₂,⟨(st.trans st4).two,⟨[],0,by rw [←hs4];exact k₁ _ _ hacc',.nil⟩,⟨_,by rw [←hs4];exact hns⟩,W.frame _ _ _ hW fun b zu o e=>by rw [←hs4];exact k₂ b o e,fun b hb=>?_,AE.refl _⟩,h0,Nat.zero_add _⟩
 ·refine xa1_1 X.fr ?_;intro m hm
  have dw:∀b,(b=acc∨b=acc+1)→b∉wr:=fun b hb q=>by
   refine xa1_1 (inw _ q) ?_;intro o h
   rcases hb with rfl|rfl
   ·rw [a0] at h;exact Aj h
   ·rw [dL] at h;exact Aj h
  refine ⟨m,Ns.geq hm fun o q=>⟨o,k _ _ (dw _ (.inr rfl)) q,.inl rfl⟩,fun h2 hs2=>?_⟩
  have kk:=SameBut.rest hs2
  have S:=(X.st.mod w0 (t:=tk) (X:=(·∈wr)) (fun b hb=>⟨hnew b (.inr (.inr hb)),X.off b (.inr (.inr hb))⟩) k).mod w0 (t:=tk) (X:=(·=acc+1)) (fun b hb=>⟨hnew b (.inr (.inl hb)),X.off b (.inr (.inl hb))⟩) kk
  have hR':=hR.two S
  refine xa2_2 X.ac ?_;intro vs n hll hvv
  have ha:=kk _ _ (Nat.ne_of_lt (Nat.lt_succ_self _)) (k _ _ (dw _ (.inl rfl)) hll)
  have hn:=hnew acc (.inl rfl)
  refine xa0_2 (hR.deadApart hn) ?_;intro z4 z5
  refine xa0_2 (hR'.freezeAt ha (X.off acc (.inl rfl)).1 (hR.wd.dead hn).2.1 (X.off acc (.inl rfl)).2 z4 z5) ?_;intro hR2 ex
  exact ⟨_,.lst ((List.range l.length).map em),_,X.st.e.trans ex,.lst (Au _ _ _) rfl rfl (hvv.mono ex),hR2,q hp' hJ⟩
 ·rcases hb with rfl|rfl|hb
  ·exact st.w'.dead a0
  ·exact st.w'.dead dL
  ·exact ⟨(hw b hb).2,(w0.dead (hw b hb).1).2⟩
end
end
section
section
variable {C:Cf} {A:Around} {s s':Shared} {F F' G:FH} {env:Env} {E:Value→Shared→Prop} {hp hp':HP} {loc:PL} {σ:Al}
theorem PE.pw {e:Expr} {v:AV} (h:PE C A hp env loc e (v,false)):PW C A hp env loc e (fun v' hp'=>v'=v∧hp'=hp):=fun F s E c=>
 wpAny_mono (h.go F s E c) (fun u s' ⟨F',st,r⟩=>⟨F',s',st,F',v,hp,AE.refl _,r.out,st.w'.wd,rfl,rfl⟩) fun zu zu x=>x
theorem Fo {a b:Addr} {xs ys:List AV} {Q:AV→Al→Prop} (ha:σ.hp a=some (.list xs)) (hb:σ.hp b=some (.list ys)) (hne:a≠b) (hz:xs.length+ys.length≤100000) (h:Q .none (σ.put a (.list (xs++ys)))):Br C A E env (.val (.builtin "list.extend")) [.ref a] [.ref b] [] σ Q:=by
 refine AB fun F G s us vs hR hus hvs=>?_
 refine xa2_3 hus.inv ?_;intro v1 us1;rintro rfl;intro h1 h2
 obtain rfl:=h2.inv0
 obtain rfl:=h1.refI
 refine xa2_3 hvs.inv ?_;intro v2 us2;rintro rfl;intro h3 h4
 obtain rfl:=h4.inv0
 obtain rfl:=h3.refI
 refine xa2_2 (hR.list ha) ?_;intro us n hl hv
 refine xa2_2 (hR.list hb) ?_;intro ws n2 hl2 hws
 have e1:=hv.length
 have e2:=hws.length
 have hsz:us.toArray.size+ws.toArray.size≤sizeLine:=by simp only [List.size_toArray,e1,e2,sizeLine_eq];with_reducible exact Bj ‹_› (by decide)
 refine call_meets PySem.F.slot_list_extend ⟨_,hl,rfl⟩ PySem.F.entry_list_extend (PySem.F.args_list_extend_2 _ _) (Gj a us.toArray n b ws.toArray n2 none #[] hne (extend_door hsz) (Nat.le_trans (Nat.le_add_right _ _) hsz) (Nat.le_succ_of_le hsz)) ⟨hl,hl2,?_⟩
 have hl':=hl.update (fun x=>x++ws.toArray)
 refine ⟨F,.none,_,AE.refl F,.none,hR.change ha rfl hl' ?_ (SameBut.rest (Heap.SameBut.update ..)),h⟩
 have e:us.toArray++ws.toArray=(us++ws).toArray:=by simp
 rw [e]
 exact OR.ofL (hv.append hws)
theorem Tr.freezeIn {α β:Type} {R:FH→β→α→Prop} {t:Sem α} {Q:β→Al→Prop} {i:Nat} {a b:Addr} {xs ys:List AV} (ha:σ.hp a=some (.list xs)) (hi:xs[i]? = some (.ref b)) (hb:σ.hp b=some (.list ys)) (hne:a≠b) (h:Tr C A E env R t ⟨σ.loc,upd (C1 σ.hp b) a (.list (xs.set i (.lst ys)))⟩ Q):Tr C A E env R t σ Q:=by
 intro F G s hR
 refine xa1_3 (hR.freezeL hb) ?_;intro F' e hv hR2
 have ha2:C1 σ.hp b a=some (.list xs):=(if_neg hne).trans ha
 refine xa2_2 (Rp.list (σ:=⟨σ.loc,C1 σ.hp b⟩) hR2 ha2) ?_;intro us n hl hvs
 refine xa1_2 (hvs.get hi) ?_;intro v h1 h2
 obtain rfl:=h2.refI
 have h3:=hvs.set i hv
 rw [FP h1] at h3
 exact h.go (Rp.change (σ:=⟨σ.loc,C1 σ.hp b⟩) (t:=s.toks) hR2 ha2 rfl hl (OR.ofL h3) fun _ _ _ q=>q) e
theorem J9 (o:Option (List Int×Nat)):Cx (Bz o):=by
 cases o with
 |none=>exact .none
 |some p=>exact GH p
theorem LQ (l:List Int):Dp 1 (tupI l):=Dp.tup (n:=0) fun x hx=>by refine xa1_2 (List.mem_map.mp hx) ?_;intro i zu;rintro rfl;exact Dp.int 0 i
theorem JR (p:List Int×Nat):Dp 2 (Am p):=Dp.tup (n:=1) fun y hy=>by
 rcases List.mem_cons.mp hy with rfl|hy
 ·exact LQ _
 ·rw [List.mem_singleton.mp hy];exact Dp.int _ _
theorem MU (l:List (Option (List Int×Nat))):Dp 60 (.lst (l.map Bz)):=Nat.le_trans (Dp.lst (n:=2) fun x hx=>by
 refine xa1_2 (List.mem_map.mp hx) ?_;intro o zu;rintro rfl
 cases o with
 |none=>exact Dp.none _
 |some p=>exact JR p) (by decide)
theorem GX (us:List (List Int)) (x:Int):∀(m u:List Int),BQ us u (m++[x])=BQ us u m++B9 us (u++m++[x])
 |[],u=>by simp [BQ]
 |c::m,u=>by
  have ih:=GX us x m (u++[c])
  show B9 us (u++[c])++BQ us (u++[c]) (m++[x])=(B9 us (u++[c])++BQ us (u++[c]) m)++_
  rw [ih,List.append_assoc,List.append_assoc,List.append_assoc];simp
theorem Gu {us:List (List Int)} (h4:∀w∈us,w.length≤4):∀(m u:List Int),(BQ us u m).length≤m.length*4
 |[],u=>Nat.zero_le _
 |c::m,u=>by
  have ih:=Gu h4 m (u++[c])
  have:=CI (p:=u++[c]) h4 0
  show (B9 us (u++[c])++BQ us (u++[c]) m).length≤_
  rw [List.length_append,List.length_cons]
  have e:DI us (u++[c]) 0=B9 us (u++[c]):=rfl
  rw [e] at this;exact A8 [_,_,_] [(1,Z1,(.mulR Z2 4)),(1,Z0,(Zn 4))] (Za Z0 Z1) (.mulR (Zs Z2) 4) rfl ih this
noncomputable def AF (ws:List (List Int)) (S:S5) (i:Nat):List (List Int×Nat):=if i=0 then S.ready 0++BQ (AG ws 0) (S.held 0) S.rest else S.ready i
noncomputable def Ki (S:S5) (i:Nat):List Int:=if i=0 then S.rest else []
structure Mu (C:Cf) (ws:List (List Int)) (l:List TI) (rd:Addr) (g:Nat→Addr) (S:S5) (N:Nat→Addr→Prop) (i:Nat) (hp:HP):Prop where
 re:B0 rd hp ((Ki S i).map .int)
 tw:Jj ws 2 l hp
 se:∀j e,i≤j→j<3→l[j % 2]? = some e→∃u k,Cz C e.X e.t e.d hp (g j) (.rd rd) u k (Aq (Ki S i)) (N j)∧I7 (AG ws j) (S.held j) (S.ready j) (Ki S i) u k
theorem Mu.turn (T:TpR C) {ws:List (List Int)} {l:List TI} {rd:Addr} {g:Nat→Addr} {S:S5} {N:Nat→Addr→Prop} {i:Nat} (hA:A.handled=none) (hroom:A.depth+2<recursionLimit) (hw4:∀w∈ws,w.length≤4) (hz:(AF ws S i).length≤1000) (W:Mu C ws l rd g S N i hp) (hi:i<3)
  (sep:∀i j a,i<3→j<3→i≠j→N i a→¬N j a):Cl C A (.type "list") [.ref (g i)] hp (fun v hp'=>v=.lst ((AF ws S i).map Am)∧Mu C ws l rd g S N (i+1) hp'):=by
 refine xa1_1 (W.tw.at (Nat.mod_lt i (by decide:0<2))) ?_;intro e he
 refine xa0_4 (W.tw.key he) ?_;intro ok h1 h2 hk
 refine xa2_2 (W.se i e (Nat.le_refl _) hi he) ?_;intro u k hS an
 have hr0:=ok.rep
 rw [h1,h2] at hr0
 have hz3:∀w∈e.ws,w.1.length≤1000:=fun w hw=>by
  rw [(W.tw.f _ e he).2.2] at hw
  refine xa1_2 (List.mem_map.mp hw) ?_;intro u hu;rintro rfl
  have:=hw4 u (AU hu)
  have e1:(DV u).1.length=u.length:=EI u
  exact A8 [_,_] [(1,Z1,(Zn 4)),(1,Z0,Z1)] Z0 (Zn 1000) rfl this (Nat.le_of_eq e1)
 have hrm:remn e.X.key u k (Aq (Ki S i))=(AF ws S i).map Am:=by
  rw [hk,an.remn]
  unfold Ki AF
  split
  ·rename_i q;subst q;rfl
  ·exact congrArg (List.map Am) (List.append_nil _)
 refine (L8 T.x.t hA T.x.lim hroom (ok.ph3 h1) (ok.words hz3) hr0 hS (by rw [hrm,List.length_map];exact A8 [_] [(1,Z0,(Zn 1000))] Z0 (Zn 100000) rfl hz)).mono fun v hp' q=>?_
 refine xa0_3 q ?_;(try clear q);intro q1 q2 q3
 rw [hrm] at q1
 have e0:Ki S (i+1)=[]:=if_neg (Nat.succ_ne_zero i)
 refine ⟨q1,by rw [e0];exact q3,⟨W.tw.n,W.tw.F.off fun a ha=>?_,W.tw.f⟩,fun j e' hj hj3 he'=>?_⟩
 ·refine xa1_2 ha ?_;(try clear ha);intro e2 he2 hf
  have hr2:=(W.tw.F.ok e2 he2).rep
  exact q2 a (hr2.some hf) (fun z=>hr2.noPrv hf (hS.priv z)) fun z=>hr2.noPrv hf ((BI.rd.inj z)▸W.re.prv)
 ·refine xa2_2 (W.se j e' (A8 [_,_] [(1,(Zs Z0),Z1)] Z0 Z1 rfl hj) hj3 he') ?_;intro u' k' hS' an'
  rw [e0]
  refine ⟨u',k',hS'.rebase (fun a ha=>q2 a (hS'.priv ha).live (sep j i a hj3 hi (fun zh=>GA [_,_] [(1,(Zs Z0),Z1),(1,Z1,Z0)] rfl hj (Nat.le_of_eq zh)) ha) fun z=>hS'.notO ha z) (by rw [BM];exact q3) List.nil_suffix,an'.other List.nil_suffix⟩
theorem H5.off {TL:List AV} {ta ha ra da:Addr} {ad:Nat→Addr} {S:S5} (H:H5 TL ta ha ra da ad S hp) (h:∀b,hp b≠none→hp' b=hp b):H5 TL ta ha ra da ad S hp':=⟨H.c.off h,H.e0,H.e5,H.e10,H.e11⟩
noncomputable abbrev HO (ws:List (List Int)) (S:S5) (m:List Int):S5:=⟨Ar S.held 0 (S.held 0++m),Ar S.ready 0 (S.ready 0++BQ (AG ws 0) (S.held 0) m),S.rest,S.out⟩
theorem Lk {r t:List Int} (h:r <:+ t):t.drop (t.length - r.length)=r:=by
 refine xa1_1 h ?_;(try clear h);intro p;rintro rfl
 rw [List.length_append,Nat.add_sub_cancel,List.drop_left']
 rfl
theorem NN (T:TpR C) {rr:FdRest} {L f fe:Addr} {re:FdRest} (hfe:FnAt C fe (re.fd endsP .none)) (hge:GL C "_law_ends" (.ref fe)) (hA:A.handled=none) (hu:A.units≤8900) (hroom:A.depth+20<recursionLimit)
  {ws:List (List Int)} {t:List Int} {os:List Nat} {SV:AV} {ta ha ra da:Addr} {ad:Nat→Addr} {S:S5} {Q:A7→Al→Prop} (hw5:ws.length=5) (hw4:∀w∈ws,w.length≤4) (htl:t.length≤100) (ok5:HC (AG ws) t S) (hol:S.out.length≤100)
  {Φ:HP→Prop} (kΦ:ED Φ) (hΦ:Φ hp) (H:H5 (S.out.map Bz) ta ha ra da ad S hp)
  (hQ:∀hp',H5 (S.out.map Bz) ta ha ra da ad (HO ws S S.rest) hp'→Φ hp'→Cd C A Bd (B8 rr L f) (lawP.body.drop 21) ⟨[("searches",SV),("ready",.ref ra)],hp'⟩ Q) :
  Cd C A Bd (B8 rr L f) (lawP.body.drop 19) ⟨M9 ws t os SV ta ha ra da (t.length - S.rest.length),hp⟩ Q:=by
 have hz:(t.map AV.int).length≤100000:=by rw [List.length_map];exact A8 [_] [(1,Z0,(Zn 100))] Z0 (Zn 100000) rfl htl
 refine Aa (Mv [("told",S.out.map Bz),("due",S.out.map Bz)] (PT.eq (ET (Ak rfl) (Ak rfl) (Pu (.lst (Plns.map J9 _)) (.lst (Plns.map J9 _)) (MU _) (Nat.le_trans hu (by decide)))) (b':=false) (by simp)) (fun q=>absurd q (by simp)) (fun _=>An ?_) (OwnOk.cons rfl H.told (OwnOk.cons rfl H.due OwnOk.nil)))
 refine Aa (Ee [] (fun xs loc hp'=>∃done rest,S.rest=done++rest∧xs=rest.map AV.int∧loc=M9 ws t os SV ta ha ra da (t.length - S.rest.length)∧H5 (S.out.map Bz) ta ha ra da ad (HO ws S done) hp'∧Φ hp')
  ((Dt hA (B3 (Ak rfl) (Ba (Ak rfl)) AJ AJ (C3 hz)) .lst).eq (by rw [CJ,DD,Lk ok5.s])) ⟨M9 ws t os SV ta ha ra da (t.length - S.rest.length),Ac rfl (Ac rfl (Ac rfl (Ac rfl (Ac rfl (Ac rfl (Ac rfl (Ac rfl (Ac rfl (A5))))))))),[],S.rest,rfl,rfl,rfl,?_,hΦ⟩ ?_ ?_)
 ·have e:HO ws S []=S:=by
   show S5.mk (Ar S.held 0 (S.held 0++[])) (Ar S.ready 0 (S.ready 0++[])) S.rest S.out=S
   rw [List.append_nil,List.append_nil,Eo,Eo]
  rw [e];exact H
 ·(rintro x xs loc hp';intro zr;refine xa2_5 zr ?_;(try clear zr);intro done rest e1 e2;rintro rfl;intro H hΦ)
  cases rest with
  |nil=>cases e2
  |cons x' rest=>
   obtain ⟨rfl,rfl⟩:x=AV.int x'∧xs=rest.map AV.int:=by cases e2;exact ⟨rfl,rfl⟩
   clear e2
   have hn:=ok5.n 0
   have e3:=congrArg List.length e1
   rw [List.length_append,List.length_cons] at e3
   refine xa1_1 (ok5.k 0) ?_;intro k0 hk0
   have hy0:=CI (us:=AG ws 0) (p:=S.held 0) (fun w hw=>hw4 w (AU hw)) k0
   have hy1:=Gu (us:=AG ws 0) (fun w hw=>hw4 w (AU hw)) done (S.held 0)
   have hy2:=CI (us:=AG ws 0) (p:=S.held 0++done++[x']) (fun w hw=>hw4 w (AU hw)) 0
   have ed:DI (AG ws 0) (S.held 0++done++[x']) 0=B9 (AG ws 0) (S.held 0++done++[x']):=rfl
   rw [ed] at hy2
   rw [←hk0] at hy0
   refine Bs ?_
   refine Tr.gen fun K hK=>?_
   have hhd:hp' (ad (1+0))=some (.list ((S.held 0++done).map .int)):=H.held 0 (by decide)
   refine Aa (AM (A2 ?_))
   refine AL [("held",AP ad 1)] (.ref (ad (1+0))) (B1 (Ak rfl) Av (Bx (by decide) (B6 0 (by decide)) (Nat.le_of_ble_eq_true rfl))) ?_ (OwnOk.cons rfl H.hl OwnOk.nil)
   refine BZ hhd (Ay (Ab rfl ?_))
   refine At (A6 (list_append hhd (by rw [List.length_map,List.length_append];exact A8 [_,_,_,_,_] [(1,Z2,(Zn 100)),(1,(Za Z0 Z3),Z2),(1,(Za Z1 (Zs Z4)),Z3)] (Za Z0 Z1) (Zn 100000) rfl htl hn (Nat.le_of_eq (Eq.symm e3))) ?_))
   have H2:=H.app (i:=0) (by decide) (S.held 0++done++[x'])
   have hd2:upd hp' (ad (1+0)) (.list ((S.held 0++done++[x']).map .int)) (ad (1+0))=some (.list ((S.held 0++done++[x']).map .int)):=Ae _ _ _
   have Φ2:=kΦ.put hΦ hhd (.list ((S.held 0++done++[x']).map .int))
   have el:((S.held 0++done).map AV.int++[AV.int x'])=(S.held 0++done++[x']).map AV.int:=by rw [List.map_append (l₁:=S.held 0++done)];rfl
   show Cd C A Bd (B8 rr L f) _ ⟨[("words",Cu ws),("text",lstI t),("order",EM os),("searches",SV),("told",.ref ta),("dealt",.int (t.length - S.rest.length:Nat)),("held",.ref ha),("ready",.ref ra),("due",.ref da),("sign",.int x')],upd hp' (ad (1+0)) (.list ((S.held 0++done).map AV.int++[AV.int x']))⟩ _
   rw [el]
   replace H2:H5 (S.out.map Bz) ta ha ra da ad ⟨Ar (Ar S.held 0 (S.held 0++done)) 0 (S.held 0++done++[x']),Ar S.ready 0 (S.ready 0++BQ (AG ws 0) (S.held 0) done),S.rest,S.out⟩ (upd hp' (ad (1+0)) (.list ((S.held 0++done++[x']).map .int))):=H2
   rw [CF] at H2
   generalize upd hp' (ad (1+0)) (.list ((S.held 0++done++[x']).map .int))=hp2 at H2 Φ2 hd2 ⊢
   have hrd:hp2 (ad (6+0))=some (.list ((S.ready 0++BQ (AG ws 0) (S.held 0) done).map Am)):=H2.rdy 0 (by decide)
   refine Aa (AM (A2 ?_))
   refine AL [("ready",AP ad 6)] (.ref (ad (6+0))) (B1 (Ak rfl) Av (Bx (by decide) (B6 0 (by decide)) (Nat.le_of_ble_eq_true rfl))) ?_ (OwnOk.cons rfl H2.rl OwnOk.nil)
   refine Gd hrd (Ay ?_)
   refine AZ (Db hge (Ay ?_))
   refine AL [("held",AP ad 1)] (.ref (ad (1+0))) (B1 (Ak rfl) Av (Bx (by decide) (B6 0 (by decide)) (Nat.le_of_ble_eq_true rfl))) ?_ (OwnOk.cons rfl H2.hl OwnOk.nil)
   refine Ay ?_
   refine AL [] (Cu (AG ws 0)) (PE.eqv (B3 (Ak rfl) (Ba Av) AJ (Ba Av) (Nu (j:=0) (by rw [List.length_map,hw5]) (by decide))) (congrArg AV.lst (HL tupI _ _))) ?_
   refine At (A6 (AR hfe ((JO T hfe (W:=AG ws 0) (p:=S.held 0++done++[x']) hA hu (C0 [_,_] [(1,(Zs (Za Z0 (Zn 20))),Z1)] (Zs Z0) Z1 rfl hroom) hd2 (fun w hw=>hw4 w (AU hw)) (by rw [List.length_append,List.length_append];simp only [List.length_cons,List.length_nil];exact A8 [_,_,_,_,_] [(1,Z2,(Zn 100)),(1,(Za Z0 Z3),Z2),(1,(Za Z1 (Zs Z4)),Z3)] (Za (Za Z0 Z1) (Zs (Zn 0))) (Zn 1000) rfl htl hn (Nat.le_of_eq (Eq.symm e3)))).mono fun v hp3 hq=>?_)))
   refine xa1_3 hq ?_;(try clear hq);intro a;rintro rfl;intro hna;rintro rfl
   have hr3:=Ej (x:=.list ((B9 (AG ws 0) (S.held 0++done++[x'])).map Am)) hna hrd
   have H3:=H2.off (hp':=upd hp2 a (.list ((B9 (AG ws 0) (S.held 0++done++[x'])).map Am))) fun b hb=>Ad _ _ fun z=>hb (z▸hna)
   have Φ3:=kΦ.new Φ2 hna (.list ((B9 (AG ws 0) (S.held 0++done++[x'])).map Am))
   have hne:ad (6+0)≠a:=fun z=>by rw [z,hna] at hrd;exact Aj hrd
   refine At (A6 (Fo hr3 (Ae _ _ _) hne (by rw [List.length_map,List.length_map,List.length_append];exact A8 [_,_,_,_,_,_,_,_] [(4,Z3,(Zn 100)),(4,(Za Z4 Z5),Z3),(4,(Za Z6 (Zs Z7)),Z5),(1,Z0,(Zn 4)),(1,Z1,(.mulR Z6 4)),(1,Z2,(Zn 4))] (Za (Za Z0 Z1) Z2) (Zn 100000) rfl htl hn (Nat.le_of_eq (Eq.symm e3)) hy0 hy1 hy2) (An ?_)))
   have H4:=H3.moreR (i:=0) (by decide) (S.ready 0++BQ (AG ws 0) (S.held 0) (done++[x']))
   have Φ4:=kΦ.put Φ3 hr3 (.list ((S.ready 0++BQ (AG ws 0) (S.held 0) (done++[x'])).map Am))
   replace H4:H5 (S.out.map Bz) ta ha ra da ad ⟨Ar S.held 0 (S.held 0++done++[x']),Ar (Ar S.ready 0 (S.ready 0++BQ (AG ws 0) (S.held 0) done)) 0 (S.ready 0++BQ (AG ws 0) (S.held 0) (done++[x'])),S.rest,S.out⟩ _:=H4
   rw [CF] at H4
   have er:(S.ready 0++BQ (AG ws 0) (S.held 0) (done++[x'])).map Am=(S.ready 0++BQ (AG ws 0) (S.held 0) done).map Am++(B9 (AG ws 0) (S.held 0++done++[x'])).map Am:=by rw [GX,←List.append_assoc,List.map_append (l₁:=S.ready 0++_)]
   rw [er] at H4 Φ4
   refine hK _ _ ⟨M9 ws t os SV ta ha ra da (t.length - S.rest.length),Ac rfl (Ac rfl (Ac rfl (Ac rfl (Ac rfl (Ac rfl (Ac rfl (Ac rfl (Ac rfl (A5))))))))),done++[x'],rest,by rw [e1];simp,rfl,rfl,?_,Φ4⟩
   rw [show HO ws S (done++[x'])=⟨Ar S.held 0 (S.held 0++done++[x']),Ar S.ready 0 (S.ready 0++BQ (AG ws 0) (S.held 0) (done++[x'])),S.rest,S.out⟩ by show S5.mk _ _ _ _=S5.mk _ _ _ _;rw [List.append_assoc]]
   exact H4
 ·(rintro loc hp';intro zr;refine xa2_5 zr ?_;(try clear zr);intro done rest e1 e2;rintro rfl;intro H hΦ)
  have:rest=[]:=by simpa using e2.symm
  subst this
  rw [List.append_nil] at e1
  rw [←e1] at H
  exact Dx (Ac rfl (Ac rfl (A5))) (hQ hp' H hΦ)
end
end
section
section
variable {C:Cf} {A:Around} {s s':Shared} {F F' G:FH} {env:Env} {E:Value→Shared→Prop} {hp hp':HP} {loc:PL} {σ:Al}
open Classical in
theorem NM (T:TpR C) {rr:FdRest} {L f:Addr} (hA:A.handled=none) (hu:A.units≤8900) (hroom:A.depth+20<recursionLimit)
  {ws:List (List Int)} {t:List Int} {ta ha ra da rd:Addr} {ad:Nat→Addr} {S:S5} {TL:List AV} {l:List TI} {g:Nat→Addr} {N:Nat→Addr→Prop} {Q:A7→Al→Prop} (hw4:∀w∈ws,w.length≤4) (htl:t.length≤100) (ok5:HC (AG ws) t S) (W:DE C ws l rd 3 g S N hp) (H:H5 TL ta ha ra da ad (HO ws S S.rest) hp)
  (h:∀σ,Q (.ret (.bool true)) σ):Cd C A Bd (B8 rr L f) (lawP.body.drop 21) ⟨[("searches",.lst [.ref (g 0),.ref (g 1),.ref (g 2)]),("ready",.ref ra)],hp⟩ Q:=by
 have hr0:hp (ad (6+0))=some (.list ((AF ws S 0).map Am)):=H.rdy 0 (by decide)
 have hr1:hp (ad (6+1))=some (.list ((AF ws S 1).map Am)):=H.rdy 1 (by decide)
 have hr2:hp (ad (6+2))=some (.list ((AF ws S 2).map Am)):=H.rdy 2 (by decide)
 have hra:=H.rl
 have hne:∀i,i<4→ra≠ad (6+i):=fun i hi z=>by
  have:=H.c.inj 10 (6+i) (by decide) (C0 [_] [(1,(Zs Z0),(Zn 4))] (Za (Zn 6) Z0) (Zn 12) rfl hi) (H.e10.trans z)
  exact GA [_] [(1,(Zs Z0),(Zn 4)),(1,(Zn 10),(Za (Zn 6) Z0))] rfl hi (Nat.le_of_eq this)
 have hn2:∀i j,i<4→j<4→i≠j→ad (6+i)≠ad (6+j):=fun i j hi hj hn z=>by
  have:=H.c.inj (6+i) (6+j) (C0 [_] [(1,(Zs Z0),(Zn 4))] (Za (Zn 6) Z0) (Zn 12) rfl hi) (C0 [_] [(1,(Zs Z0),(Zn 4))] (Za (Zn 6) Z0) (Zn 12) rfl hj) z
  omega
 have kΦ:ED fun hp=>DE C ws l rd 3 g S N hp:=fun hp hp' a W ha hk=>W.offL ha hk
 have kd:∀{hp:HP} {b:Addr} {xs:List AV},DE C ws l rd 3 g S N hp→hp b=some (.list xs)→DE C ws l rd 3 g S N (C1 hp b):=fun {hp b xs} W hb=>kΦ _ _ b W (.inr ⟨xs,hb⟩) fun c hc=>if_neg hc
 have step:∀{hp:HP} {b c:Addr} {xs ys zs:List AV},hp b=some (.list ys)→c≠b→c≠ra→hp c=some (.list zs)→upd (C1 hp b) ra (.list xs) c=some (.list zs):=fun {hp b c xs ys zs} hb h1 h2 h3=>(Ad _ _ h2).trans ((if_neg h1).trans h3)
 refine Tr.freezeIn (i:=0) hra (B6 0 (by decide)) hr0 (hne 0 (by decide)) ?_
 have W1:=kΦ.put (kd W hr0) ((if_neg (hne 0 (by decide))).trans hra) (.list ((AP ad 6).set 0 (.lst ((AF ws S 0).map Am))))
 have hr1:=step (xs:=(AP ad 6).set 0 (.lst ((AF ws S 0).map Am))) hr0 (hn2 1 0 (by decide) (by decide) (by decide)) (hne 1 (by decide)).symm hr1
 have hr2:=step (xs:=(AP ad 6).set 0 (.lst ((AF ws S 0).map Am))) hr0 (hn2 2 0 (by decide) (by decide) (by decide)) (hne 2 (by decide)).symm hr2
 dsimp only
 have ha1:upd (C1 hp (ad (6+0))) ra (.list ((AP ad 6).set 0 (.lst ((AF ws S 0).map Am)))) ra=some (.list [.lst ((AF ws S 0).map Am),.ref (ad 7),.ref (ad 8),.ref (ad 9)]):=Ae _ _ _
 generalize upd (C1 hp (ad (6+0))) ra (.list ((AP ad 6).set 0 (.lst ((AF ws S 0).map Am))))=hp1 at W1 hr1 hr2 ha1 ⊢
 refine Tr.freezeIn (i:=1) ha1 rfl hr1 (hne 1 (by decide)) ?_
 have W2:=kΦ.put (kd W1 hr1) ((if_neg (hne 1 (by decide))).trans ha1) (.list [.lst ((AF ws S 0).map Am),.lst ((AF ws S 1).map Am),.ref (ad 8),.ref (ad 9)])
 have hr2:=step (xs:=[.lst ((AF ws S 0).map Am),.lst ((AF ws S 1).map Am),.ref (ad 8),.ref (ad 9)]) hr1 (hn2 2 1 (by decide) (by decide) (by decide)) (hne 2 (by decide)).symm hr2
 show Cd C A Bd _ _ ⟨_,upd (C1 hp1 (ad (6+1))) ra (.list [.lst ((AF ws S 0).map Am),.lst ((AF ws S 1).map Am),.ref (ad 8),.ref (ad 9)])⟩ _
 have ha2:upd (C1 hp1 (ad (6+1))) ra (.list [.lst ((AF ws S 0).map Am),.lst ((AF ws S 1).map Am),.ref (ad 8),.ref (ad 9)]) ra=some (.list [.lst ((AF ws S 0).map Am),.lst ((AF ws S 1).map Am),.ref (ad 8),.ref (ad 9)]):=Ae _ _ _
 generalize upd (C1 hp1 (ad (6+1))) ra (.list [.lst ((AF ws S 0).map Am),.lst ((AF ws S 1).map Am),.ref (ad 8),.ref (ad 9)])=hp2 at W2 hr2 ha2 ⊢
 refine Tr.freezeIn (i:=2) ha2 rfl hr2 (hne 2 (by decide)) ?_
 have W3:=kΦ.put (kd W2 hr2) ((if_neg (hne 2 (by decide))).trans ha2) (.list [.lst ((AF ws S 0).map Am),.lst ((AF ws S 1).map Am),.lst ((AF ws S 2).map Am),.ref (ad 9)])
 show Cd C A Bd _ _ ⟨_,upd (C1 hp2 (ad (6+2))) ra (.list [.lst ((AF ws S 0).map Am),.lst ((AF ws S 1).map Am),.lst ((AF ws S 2).map Am),.ref (ad 9)])⟩ _
 have ha3:upd (C1 hp2 (ad (6+2))) ra (.list [.lst ((AF ws S 0).map Am),.lst ((AF ws S 1).map Am),.lst ((AF ws S 2).map Am),.ref (ad 9)]) ra=some (.list [.lst ((AF ws S 0).map Am),.lst ((AF ws S 1).map Am),.lst ((AF ws S 2).map Am),.ref (ad 9)]):=Ae _ _ _
 generalize upd (C1 hp2 (ad (6+2))) ra (.list [.lst ((AF ws S 0).map Am),.lst ((AF ws S 1).map Am),.lst ((AF ws S 2).map Am),.ref (ad 9)])=hp3 at W3 ha3 ⊢
 refine Tr.freeze "ready" ra _ ha3 rfl ?_
 have W4:=kd W3 ha3
 show Cd C A Bd (B8 rr L f) (lawP.body.drop 21) ⟨[("searches",.lst [.ref (g 0),.ref (g 1),.ref (g 2)]),("ready",.lst [.lst ((AF ws S 0).map Am),.lst ((AF ws S 1).map Am),.lst ((AF ws S 2).map Am),.ref (ad 9)])],C1 hp3 ra⟩ Q
 generalize C1 hp3 ra=hp4 at W4 ⊢
 clear W W1 W2 W3 kΦ kd step hn2 hne hra hr0 hr1 hr2 ha1 ha2 ha3 H
 have hz:∀i,i<3→(AF ws S i).length≤1000:=fun i hi=>by
  refine xa1_1 (ok5.k i) ?_;intro k hk
  have hn:=ok5.n 0
  have hy:=CI (us:=AG ws i) (p:=S.held i) (fun w hw=>hw4 w (AU hw)) k
  rw [←hk] at hy
  unfold AF
  split
  ·rename_i q;subst q
   have:=Gu (us:=AG ws 0) (fun w hw=>hw4 w (AU hw)) S.rest (S.held 0)
   rw [List.length_append];exact A8 [_,_,_,_,_] [(4,Z2,(Zn 100)),(4,(Za Z3 Z4),Z2),(1,Z0,(Zn 4)),(1,Z1,(.mulR Z4 4))] (Za Z0 Z1) (Zn 1000) rfl htl hn hy this
  ·exact A8 [_] [(1,Z0,(Zn 4))] Z0 (Zn 1000) rfl hy
 have F0:Mu C ws l rd g S N 0 hp4:=⟨W4.re,W4.tw,fun j e _ hj he=>W4.se j e hj he⟩
 refine Aa (BT (Ot ?_))
 refine Oq (em:=fun i=>.lst ((AF ws S i).map Am)) (J:=fun i hp=>Mu C ws l rd g S N i hp) [] (Dt hA (Ak rfl) .lst) (fun a ha=>?_) (Nat.le_of_ble_eq_true rfl) (fun L i a hp hia W=>?_) F0 (fun hp5 W5=>?_)
 ·simp only [List.mem_cons,List.not_mem_nil,or_false] at ha
  rcases ha with rfl|rfl|rfl<;>exact ⟨_,rfl⟩
 ·have hi:i<3:=(List.getElem?_eq_some_iff.mp hia).1
  have ea:a=.ref (g i):=by
   match i,hi with
   |0,_=>exact (Option.some.inj hia).symm
   |1,_=>exact (Option.some.inj hia).symm
   |2,_=>exact (Option.some.inj hia).symm
  subst ea
  exact Mj T.x.g_list (PE.pw (Ak rfl)) fun av hp' q=>by
   refine xa0_2 q ?_;(try clear q);rintro rfl;rintro rfl
   exact W.turn T hA (C0 [_,_] [(1,(Zs (Za Z0 (Zn 20))),Z1)] (Za Z0 (Zn 2)) Z1 rfl hroom) hw4 (hz i hi) hi W4.sep
 ·refine AL [] (.lst [.lst ((AF ws S 0).map Am),.lst ((AF ws S 1).map Am),.lst ((AF ws S 2).map Am)]) (PE.eqv (B3 (Ak rfl) AJ (Ba Av) AJ (C3 (Nat.le_of_ble_eq_true rfl))) (congrArg AV.lst (DC _ 3))) ?_
  have pl:∀i,Cx (.lst ((AF ws S i).map Am)):=fun i=>.lst (Plns.map GH _)
  have pl3:Cx (.lst [.lst ((AF ws S 0).map Am),.lst ((AF ws S 1).map Am),.lst ((AF ws S 2).map Am)]):=.lst (.cons (pl 0) (.cons (pl 1) (.cons (pl 2) .nil)))
  have dp:∀i,Dp 3 (.lst ((AF ws S i).map Am)):=fun i=>Dp.lst (n:=2) fun x hx=>by
   refine xa1_2 (List.mem_map.mp hx) ?_;intro p zu;rintro rfl
   exact JR p
  have dp3:Dp 60 (.lst [.lst ((AF ws S 0).map Am),.lst ((AF ws S 1).map Am),.lst ((AF ws S 2).map Am)]):=Nat.le_trans (Dp.lst (n:=3) fun x hx=>by
   simp only [List.mem_cons,List.not_mem_nil,or_false] at hx
   rcases hx with rfl|rfl|rfl
   ·exact dp 0
   ·exact dp 1
   ·exact dp 2) (by decide)
  refine Mo (Oc pl3 pl3 dp3 (Nat.le_trans hu (by decide))) ?_
  have e9:∀(x y:AV) (i:Decidable (x=y)),x=y→@decide (x=y) i=true:=fun x y i h=>decide_eq_true h
  rw [e9]
  ·exact h _
  ·rfl
theorem law5_fn (T:TpR C) {r:FdRest} {f:Addr} (hf:FnAt C f (r.fd lawP .none)) {fr:Addr} {rr:FdRest} (hrow:FnAt C fr (rr.fd rowP .none)) (hgr:GL C "_law_row" (.ref fr)) {ff:Addr} {rf:FdRest} (hff:FnAt C ff (rf.fd firstP .none)) (hgf:GL C "_law_first" (.ref ff))
  {fe:Addr} {re:FdRest} (hfe:FnAt C fe (re.fd endsP .none)) (hge:GL C "_law_ends" (.ref fe)) (hA:A.handled=none) (hroom:A.depth+70+Builtin.pylongFrames<recursionLimit) (hu:A.units≤8000)
  {ns:List Int} (hlen:ns.length≤63):Fn C A (.ref f) [lstI ns] [] hp (fun v zu=>v=.bool true):=by
 refine FA hf (KH C r _) (fun L=>?_) (C0 [_,_,_] [(1,(Zs (Za (Za Z0 (Zn 70)) Z2)),Z1)] Z0 Z1 rfl hroom)
 have hA':(A.deeper (B8 r L f)).handled=none:=hA
 have hd:(A.deeper (B8 r L f)).depth=A.depth+1:=rfl
 have hu':(A.deeper (B8 r L f)).units≤8500:=by show A.units+3≤8500;exact A8 [_] [(1,Z0,(Zn 8000))] (Za Z0 (Zn 3)) (Zn 8500) rfl hu
 have pl:Nt C (A.deeper (B8 r L f)):=Nt.deeper T.x.seer T.x.lim T.x.tree (C0 [_,_,_] [(1,(Zs (Za (Za Z0 (Zn 70)) Z1)),Z2)] (Za (Zs Z0) Z1) Z2 rfl hroom) (by rfl) (by rfl) (by rfl) (by rfl)
 show Cd C _ _ (B8 r L f) lawP.body ⟨[("script",lstI ns)],hp⟩ _
 refine xa0_2 (Jv ns) ?_;intro hv1 hv2
 refine NU T.x hrow hgr hA' (by rw [hd];exact C0 [_,_,_] [(1,(Zs (Za (Za Z0 (Zn 70)) Z1)),Z2)] (Za (Za (Zs Z0) (Zn 2)) Z1) Z2 rfl hroom) hlen ?_
 generalize KV ns=vs at hv1 hv2 ⊢
 refine NT T.x hrow hgr hA' (by rw [hd];exact C0 [_,_,_] [(1,(Zs (Za (Za Z0 (Zn 70)) Z1)),Z2)] (Za (Za (Zs Z0) (Zn 2)) Z1) Z2 rfl hroom) hv2 ?_
 refine NS T.x hA' pl hv2 ?_
 have htl:(CN (vs.take 8)).length≤100:=by rw [FG,List.length_take];omega
 have hw4:∀w∈Oy vs,w.length≤4:=fun w hw=>by
  refine xa1_2 (List.mem_map.mp hw) ?_;intro v zu;rintro rfl
  refine xa1_3 (Jz v) ?_;intro k h1 zu h3
  unfold FE
  rw [Hh,h3];exact h1
 have hw5:(Oy vs).length=5:=by show ((vs.take 5).map FE).length=5;rw [List.length_map,List.length_take];omega
 have hos:=Lv vs
 have hol:(DL vs).length≤100:=by rw [GJ];exact A8 [_] [(2,Z0,(Zn 16))] (.mulL 2 Z0) (Zn 100) rfl hv2
 generalize CN (vs.take 8)=t at htl ⊢
 generalize Oy vs=ws at hw4 hw5 ⊢
 generalize DL vs=os at hos hol ⊢
 refine NQ T.x hA' (by rw [hd];exact C0 [_,_,_] [(1,(Zs (Za (Za Z0 (Zn 70)) Z2)),Z1)] (Za (Zs Z0) (Zn 20)) Z1 rfl hroom) (Nat.le_of_eq hw5) hw4 fun l hp1 tw=>?_
 refine NP T hff hgf hA' (A8 [_] [(1,Z0,(Zn 8500))] Z0 (Zn 9000) rfl hu') (by rw [hd];exact C0 [_,_,_] [(1,(Zs (Za (Za Z0 (Zn 70)) Z2)),Z1)] (Za (Zs Z0) (Zn 20)) Z1 rfl hroom) tw hos hol hw4 fun a rd g N hp2 W ha=>?_
 have kΦ:ED fun hp=>DE C ws l rd 3 g (AX (AG ws) t os) N hp:=fun hp hp' a W ha hk=>W.offL ha hk
 refine NO T hfe hge hA' (A8 [_] [(1,Z0,(Zn 8500))] Z0 (Zn 8900) rfl hu') (by rw [hd];exact C0 [_,_,_] [(1,(Zs (Za (Za Z0 (Zn 70)) Z2)),Z1)] (Za (Zs Z0) (Zn 20)) Z1 rfl hroom) hw5 hw4 htl hos hol ha kΦ W fun ad ha' ra da hp3 H ho W3=>?_
 have ok5:=HC.run (AG ws) t os
 generalize AX (AG ws) t os=S at H ho W3 ok5 kΦ ⊢
 refine NN T hfe hge hA' (A8 [_] [(1,Z0,(Zn 8500))] Z0 (Zn 8900) rfl hu') (by rw [hd];exact C0 [_,_,_] [(1,(Zs (Za (Za Z0 (Zn 70)) Z2)),Z1)] (Za (Zs Z0) (Zn 20)) Z1 rfl hroom) hw5 hw4 htl ok5 (A8 [_,_] [(1,Z1,(Zn 100)),(1,Z0,Z1)] Z0 (Zn 100) rfl hol (Nat.le_of_eq ho)) kΦ W3 H fun hp4 H4 W4=>?_
 exact NM T hA' (A8 [_] [(1,Z0,(Zn 8500))] Z0 (Zn 8900) rfl hu') (by rw [hd];exact C0 [_,_,_] [(1,(Zs (Za (Za Z0 (Zn 70)) Z2)),Z1)] (Za (Zs Z0) (Zn 20)) Z1 rfl hroom) hw4 htl ok5 W4 H4 fun σ'=>rfl
end
end
end AC
namespace AC
noncomputable def O6:Stmt→Bool
 |.ClassDef ..=>true
 |.FunctionDef ..=>true
 |_=>false
noncomputable def theQ:Program:={ GC with main:={ GC.main with body:=GC.main.body.filter O6 } }
noncomputable def endOf' (w:World):Option (Heap×Nat):=(openEnds treeTable GC w 2016).map fun s=>(s.heap,s.toks)
noncomputable def fragOf (n:Nat):Option (Heap×Nat)→Frag
 |some (h,_)=>(List.range n).filterMap fun a=>(h.get? a).map fun o=>(a,o)
 |none=>[]
theorem Do {h:Heap} {a:Addr} {o:Obj}:∀{l:List Nat},(l.filterMap fun a=>(h.get? a).map fun o=>(a,o)).lookup a=some o→h.get? a=some o
 |[],e=>by cases e
 |b::l,e=>by
  rw [List.filterMap_cons] at e
  cases q:h.get? b with
  |none=>rw [q] at e;exact Do e
  |some ob=>
   rw [q] at e
   simp only [Option.map_some,List.lookup_cons] at e
   split at e
   ·rename_i h1;cases e;rw [beq_iff_eq.mp h1];exact q
   ·exact Do e
theorem frag_in {h:Heap} {t n:Nat} {r:Option (Heap×Nat)} (e:some (h,t)=r):(fragOf n r).In h:=by
 subst e
 exact fun a o e=>Do e
theorem some_of {C:Cf} {K:Frag} (X:K.In C.h0) {a:Addr} (e:(K.lookup a).isSome=true):(C.h0.get? a).isSome=true:=by
 refine xa1_1 (Option.isSome_iff_exists.mp e) ?_;intro o ho
 rw [X _ _ ho];rfl
end AC
theorem PySem.Challenge.cw_nc0002_05_holds : PySem.Challenge.rw_nc0002_05.Holds := by
 w_on
 refine holds_law (by decide +kernel) fun said=>?_
 refine holds_openX (q:=AC.theQ) (loose:=["State", "KeywordTree"]) (Xt:=fun s=>xlAt AC.theQ [] s&&recOk [] s) (XP:=XL AC.theQ []) (Yf:=fun s=>some (s.heap,s.toks)) (Ya:=AC.endOf') (N:=2016) ?hl (fun s e=>xl_of s (Bool.and_eq_true_iff.mp e).1) XL.keeps (by rfl) (by rfl) (by rfl) (fun s e=>recFacts_of (Bool.and_eq_true_iff.mp e).2) (by rfl) (by first|assumption|decide +kernel) (by decide +kernel) ⟨rfl,rfl,rfl,rfl,rfl,by decide +kernel⟩ ?hw ?hc
 case hl=>intro w;kernel_rfl
 case hw=>w_witness2
 intro w s₀ s₁ mg mb G y fa o pm cd doc dV kV ho hd hcd hD hmg hg args vals as L hpre hlay hrd hwl hlo
 have KX:(AC.fragOf 160 (AC.endOf' w)).In s₁.heap:=Frag.In.keeps (AC.frag_in y) L.keeps
 refine Ground.open G ?_;intro T B D TE TW
 have seer:s₁.heap.NoSeer:=by first|exact PyProof.Rows.Glob.seer (by assumption)|exact PyProof.Rows.Top.seer (by assumption) (by decide +kernel)
 clear T B D TE TW
 obtain rfl:dV=.none:=by rcases hD.pos with ⟨zu,e⟩|⟨e,zu⟩;exact e;exact absurd rfl e
 clear hD
 wrow_args hpre hlay hrd hwl hlo
 all_lens
 have lim:s₁.heap.NoLimit:=AC.lim_of KX (by kernel_rfl)
 have TP:AC.Tp ⟨PySem.Challenge.pw_nc0002_05,w,s₁.heap,s₁.os⟩:=by
  constructor
  ·show (s₁.heap.get? sysModules).isSome=true
   exact AC.some_of (C:=⟨PySem.Challenge.pw_nc0002_05,w,s₁.heap,s₁.os⟩) KX (by kernel_rfl)
  ·exact AC.gl_of KX (by kernel_rfl)
  ·exact AC.gl_of KX (by kernel_rfl)
  ·exact AC.gl_of KX (by kernel_rfl)
  ·exact AC.gl_of KX (by kernel_rfl)
  ·exact AC.gl_of KX (by kernel_rfl)
  ·exact AC.gl_of KX (by kernel_rfl)
  ·exact AC.gl_of KX (by kernel_rfl)
  ·exact AC.gl_of KX (by kernel_rfl)
  ·exact AC.gl_of KX (by kernel_rfl)
  ·exact ⟨_,35,KX,by kernel_rfl,by kernel_rfl,by kernel_rfl,by kernel_rfl,by kernel_rfl,by kernel_rfl,by kernel_rfl,by kernel_rfl,by decide⟩
  ·exact ⟨_,36,KX,by kernel_rfl,by kernel_rfl,by kernel_rfl,by kernel_rfl,by kernel_rfl,by kernel_rfl,by kernel_rfl,by kernel_rfl,by decide⟩
  ·exact ⟨_,37,KX,by kernel_rfl,by kernel_rfl,by kernel_rfl,by kernel_rfl,by kernel_rfl,by kernel_rfl,by kernel_rfl,by kernel_rfl,by decide⟩
  ·exact ⟨_,38,KX,by kernel_rfl,by kernel_rfl,by kernel_rfl,by kernel_rfl,by kernel_rfl,by kernel_rfl,by kernel_rfl,by kernel_rfl,by decide⟩
  ·exact ⟨_,39,KX,by kernel_rfl,by kernel_rfl,by kernel_rfl,by kernel_rfl,by kernel_rfl,by kernel_rfl,by kernel_rfl,by kernel_rfl,by decide⟩
  ·exact ⟨_,40,KX,by kernel_rfl,by kernel_rfl,by kernel_rfl,by kernel_rfl,by kernel_rfl,by kernel_rfl,by kernel_rfl,by kernel_rfl,by decide⟩
  ·exact ⟨_,41,KX,by kernel_rfl,by kernel_rfl,by kernel_rfl,by kernel_rfl,by kernel_rfl,by kernel_rfl,by kernel_rfl,by kernel_rfl,by decide⟩
  ·exact ⟨_,42,KX,by kernel_rfl,by kernel_rfl,by kernel_rfl,by kernel_rfl,by kernel_rfl,by kernel_rfl,by kernel_rfl,by kernel_rfl,by decide⟩
  ·exact ⟨_,KX,by kernel_rfl,by kernel_rfl,by kernel_rfl⟩
  ·exact ⟨_,KX,by kernel_rfl,by kernel_rfl,by kernel_rfl⟩
  ·exact AC.ns_of KX (by kernel_rfl) (by kernel_rfl) (by kernel_rfl) (by kernel_rfl) (by kernel_rfl) (by kernel_rfl) (by kernel_rfl)
  ·exact AC.ns_of KX (by kernel_rfl) (by kernel_rfl) (by kernel_rfl) (by kernel_rfl) (by kernel_rfl) (by kernel_rfl) (by kernel_rfl)
  ·exact AC.ns_of KX (by kernel_rfl) (by kernel_rfl) (by kernel_rfl) (by kernel_rfl) (by kernel_rfl) (by kernel_rfl) (by kernel_rfl)
  ·exact AC.ns_of KX (by kernel_rfl) (by kernel_rfl) (by kernel_rfl) (by kernel_rfl) (by kernel_rfl) (by kernel_rfl) (by kernel_rfl)
  ·exact AC.ns_of KX (by kernel_rfl) (by kernel_rfl) (by kernel_rfl) (by kernel_rfl) (by kernel_rfl) (by kernel_rfl) (by kernel_rfl)
  ·exact AC.ns_of KX (by kernel_rfl) (by kernel_rfl) (by kernel_rfl) (by kernel_rfl) (by kernel_rfl) (by kernel_rfl) (by kernel_rfl)
  ·exact KX 23 _ (by kernel_rfl)
  ·exact KX 52 _ (by kernel_rfl)
  ·exact AC.fnAt_of KX lim (by kernel_rfl) (by kernel_rfl)
  ·exact AC.fnAt_of KX lim (by kernel_rfl) (by kernel_rfl)
  ·exact AC.fnAt_of KX lim (by kernel_rfl) (by kernel_rfl)
  ·exact AC.fnAt_of KX lim (by kernel_rfl) (by kernel_rfl)
  ·exact AC.fnAt_of KX lim (by kernel_rfl) (by kernel_rfl)
  ·exact AC.fnAt_of KX lim (by kernel_rfl) (by kernel_rfl)
  ·exact AC.fnAt_of KX lim (by kernel_rfl) (by kernel_rfl)
  ·exact AC.fnAt_of KX lim (by kernel_rfl) (by kernel_rfl)
  ·exact AC.fnAt_of KX lim (by kernel_rfl) (by kernel_rfl)
  ·exact AC.fnAt_of KX lim (by kernel_rfl) (by kernel_rfl)
  ·exact AC.fnAt_of KX lim (by kernel_rfl) (by kernel_rfl)
  ·exact ⟨_,KX,by kernel_rfl,by kernel_rfl,by kernel_rfl,by kernel_rfl⟩
  ·exact ⟨_,KX,by kernel_rfl,by kernel_rfl,by kernel_rfl,by kernel_rfl⟩
  ·exact ⟨_,KX,by kernel_rfl,by kernel_rfl,by kernel_rfl,by kernel_rfl⟩
  ·exact ⟨_,KX,by kernel_rfl,by kernel_rfl,by kernel_rfl,by kernel_rfl⟩
  ·exact ⟨_,KX,by kernel_rfl,by kernel_rfl,by kernel_rfl,by kernel_rfl⟩
  ·exact ⟨_,KX,by kernel_rfl,by kernel_rfl,by kernel_rfl,by kernel_rfl⟩
  ·exact ⟨_,KX,by kernel_rfl,by kernel_rfl,by kernel_rfl,by kernel_rfl⟩
  ·exact ⟨_,KX,by kernel_rfl,by kernel_rfl,by kernel_rfl,by kernel_rfl⟩
  ·exact ⟨_,KX,by kernel_rfl,by kernel_rfl,by kernel_rfl,by kernel_rfl⟩
 have TX:AC.TpX ⟨PySem.Challenge.pw_nc0002_05,w,s₁.heap,s₁.os⟩:=by
  refine ⟨TP,lim,?_,by rfl,?_,?_,?_,?_,?_⟩
  ·exact seer
  ·exact AC.gl_of KX (by kernel_rfl)
  ·exact AC.gl_of KX (by kernel_rfl)
  ·exact AC.gl_of KX (by kernel_rfl)
  ·exact AC.gl_of KX (by kernel_rfl)
  ·exact AC.gl_of KX (by kernel_rfl)
 have TR:AC.TpR ⟨PySem.Challenge.pw_nc0002_05,w,s₁.heap,s₁.os⟩:=⟨TX,AC.gl_of KX (by kernel_rfl)⟩
 obtain ⟨r1,f1⟩:∃r:AC.FdRest,AC.FnAt ⟨PySem.Challenge.pw_nc0002_05,w,s₁.heap,s₁.os⟩ 134 (r.fd AC.rowP .none):=AC.fnAt_of KX lim (by kernel_rfl) (by kernel_rfl)
 have g1:AC.GL ⟨PySem.Challenge.pw_nc0002_05,w,s₁.heap,s₁.os⟩ "_law_row" (.ref 134):=AC.gl_of KX (by kernel_rfl)
 obtain ⟨r3,f3⟩:∃r:AC.FdRest,AC.FnAt ⟨PySem.Challenge.pw_nc0002_05,w,s₁.heap,s₁.os⟩ 141 (r.fd AC.firstP .none):=AC.fnAt_of KX lim (by kernel_rfl) (by kernel_rfl)
 have g3:AC.GL ⟨PySem.Challenge.pw_nc0002_05,w,s₁.heap,s₁.os⟩ "_law_first" (.ref 141):=AC.gl_of KX (by kernel_rfl)
 obtain ⟨r4,f4⟩:∃r:AC.FdRest,AC.FnAt ⟨PySem.Challenge.pw_nc0002_05,w,s₁.heap,s₁.os⟩ 146 (r.fd AC.endsP .none):=AC.fnAt_of KX lim (by kernel_rfl) (by kernel_rfl)
 have g4:AC.GL ⟨PySem.Challenge.pw_nc0002_05,w,s₁.heap,s₁.os⟩ "_law_ends" (.ref 146):=AC.gl_of KX (by kernel_rfl)
 obtain ⟨r2,f2⟩:∃r:AC.FdRest,AC.FnAt ⟨PySem.Challenge.pw_nc0002_05,w,s₁.heap,s₁.os⟩ fa (r.fd AC.lawP .none):=⟨⟨_,_,kV,doc,pm,_,cd,_⟩,⟨o,ho,hd⟩,hcd,lim⟩
 refine AC.finish (C:=⟨PySem.Challenge.pw_nc0002_05,w,s₁.heap,s₁.os⟩) (fun ns hn=>AC.law5_fn TR f2 f1 g1 f3 g3 f4 g4 rfl (by decide) (by decide) hn) (by assumption) (by assumption) (by assumption) rfl rfl hg ?_
 intro s' k1 k2 k3
 exact ⟨.inl ⟨.bool true,.bool true,[],rfl,fun cls=>rfl,.bool true,(by first|with_unfolding_all rfl|kernel_rfl),unshared_nil⟩,k1,k2,k3⟩
