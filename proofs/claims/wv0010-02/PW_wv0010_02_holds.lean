import PyProof.Rows.All
import Lean
import Wide.All
import OpenK.AllK
import Wide.FinOn
import KE.KCallOwn
import KE.KBytesWalk
import KE.KBytesCut
import KE.KSortTup
import PySem.Challenge.RW_wv0010_02
set_option Elab.async false
set_option linter.unusedVariables false
set_option maxRecDepth 100000
set_option maxHeartbeats 8000000
section
namespace Mine
namespace Z
noncomputable def at_:List Nat→Nat→Nat
  | [],_=>0
  | x::_,0=>x
  | _::r,i+1=>at_ r i
noncomputable abbrev E:=Nat.Internal.Linear.Expr
noncomputable def den (c:List Nat):E→Nat
  | .num k=>k
  | .var i=>at_ c i
  | .add a b=>den c a+den c b
  | .mulL k a=>k*den c a
  | .mulR a k=>den c a*k
noncomputable def addL:List Nat→List Nat→List Nat
  | [],b=>b
  | a::x,[]=>a::x
  | a::x,b::y=>(a+b)::addL x y
noncomputable def mulL (k:Nat):List Nat→List Nat
  | []=>[]
  | a::x=>(k*a)::mulL k x
noncomputable def unit:Nat→List Nat
  | 0=>[1]
  | i+1=>0::unit i
noncomputable def lin:E→List Nat
  | .num k=>[k]
  | .var i=>0::unit i
  | .add a b=>addL (lin a) (lin b)
  | .mulL k a=>mulL k (lin a)
  | .mulR a k=>mulL k (lin a)
noncomputable def dot:List Nat→List Nat→Nat
  | [],_=>0
  | _::_,[]=>0
  | x::c,k::l=>k*x+dot c l
theorem dot_nil:∀ c,dot c []=0
  | []=>rfl
  | _::_=>rfl
theorem dot_add:∀ c a b,dot c (addL a b)=dot c a+dot c b
  | [],_,_=>rfl
  | x::c,[],b=>by rw [dot_nil,Nat.zero_add];rfl
  | x::c,a::s,[]=>rfl
  | x::c,a::s,b::t=>by
    show (a+b)*x+dot c (addL s t)=a*x+dot c s+(b*x+dot c t)
    rw [dot_add c s t,Nat.add_mul,Nat.add_add_add_comm]
theorem dot_mul (k:Nat):∀ c a,dot c (mulL k a)=k*dot c a
  | [],_=>rfl
  | _::_,[]=>rfl
  | x::c,a::s=>by
    show k*a*x+dot c (mulL k s)=k*(a*x+dot c s)
    rw [dot_mul k c s,Nat.mul_add,Nat.mul_assoc]
theorem dot_unit:∀ c i,dot c (unit i)=at_ c i
  | [],_=>rfl
  | x::c,0=>by show 1*x+dot c []=x;rw [dot_nil,Nat.one_mul];rfl
  | x::c,i+1=>by show 0*x+dot c (unit i)=at_ c i;rw [Nat.zero_mul,Nat.zero_add,dot_unit c i]
theorem lin_den (c:List Nat):∀ e,dot (1::c) (lin e)=den c e
  | .num k=>by show k*1+dot c []=k;rw [dot_nil,Nat.mul_one];rfl
  | .var i=>by show 0*1+dot c (unit i)=at_ c i;rw [Nat.zero_mul,Nat.zero_add,dot_unit]
  | .add a b=>(dot_add ..).trans (by rw [lin_den c a,lin_den c b];rfl)
  | .mulL k a=>(dot_mul ..).trans (by rw [lin_den c a];rfl)
  | .mulR a k=>(dot_mul ..).trans (by rw [lin_den c a,Nat.mul_comm];rfl)
noncomputable def geL:List Nat→List Nat→Bool
  | _,[]=>true
  | [],b::r=>Nat.beq b 0 && geL [] r
  | a::l,b::r=>Nat.ble b a && geL l r
theorem dot_zero:∀ c r,geL [] r=true→dot c r=0
  | [],_,_=>rfl
  | _::_,[],_=>rfl
  | x::c,b::r,h=>by
    have h:=Bool.and_eq_true_iff.mp (show (Nat.beq b 0 && geL [] r)=true from h)
    show b*x+dot c r=0
    rw [Nat.eq_of_beq_eq_true h.1,dot_zero c r h.2,Nat.zero_mul]
theorem dot_ge:∀ c l r,geL l r=true→dot c r≤dot c l
  | [],_,_,_=>Nat.le_refl _
  | _::_,_,[],_=>Nat.zero_le _
  | x::c,[],b::r,h=>by rw [dot_zero _ _ h];exact Nat.zero_le _
  | x::c,a::l,b::r,h=>by
    have h:=Bool.and_eq_true_iff.mp (show (Nat.ble b a && geL l r)=true from h)
    exact Nat.add_le_add (Nat.mul_le_mul_right x (Nat.le_of_ble_eq_true h.1)) (dot_ge c l r h.2)
noncomputable def Den (c:List Nat):List (Nat × E × E)→Prop
  | []=>False
  | p::cs=>den c p.2.1≤den c p.2.2→Den c cs
noncomputable def sumL:List (Nat × E × E)→List Nat
  | []=>[]
  | p::cs=>addL (mulL p.1 (lin p.2.1)) (sumL cs)
noncomputable def sumR:List (Nat × E × E)→List Nat
  | []=>[1]
  | p::cs=>addL (mulL p.1 (lin p.2.2)) (sumR cs)
theorem den_of (c:List Nat):∀ (cs:List (Nat × E × E)) (x y:Nat),x≤y→dot (1::c) (sumR cs)+y≤dot (1::c) (sumL cs)+x→Den c cs
  | [],x,y,h,g=>by
    have:dot (1::c) (sumR [])=1:=by show 1*1+dot c []=1;rw [dot_nil]
    rw [this,show dot (1::c) (sumL [])=0 from rfl,Nat.zero_add] at g
    exact absurd (Nat.le_trans g h) (by rw [Nat.add_comm];exact Nat.not_succ_le_self y)
  | (k,a,b)::cs,x,y,h,g=>fun q=>by
    refine den_of c cs (k*den c a+x) (k*den c b+y) (Nat.add_le_add (Nat.mul_le_mul_left k q) h) ?_
    have e1:dot (1::c) (sumR ((k,a,b)::cs))=k*den c b+dot (1::c) (sumR cs):=(dot_add ..).trans (by rw [dot_mul,lin_den])
    have e2:dot (1::c) (sumL ((k,a,b)::cs))=k*den c a+dot (1::c) (sumL cs):=(dot_add ..).trans (by rw [dot_mul,lin_den])
    rw [e1,e2,Nat.add_comm (k*den c b),Nat.add_comm (k*den c a),Nat.add_assoc,Nat.add_assoc] at g
    exact g
theorem no (c:List Nat) (cs:List (Nat × E × E)) (h:geL (sumL cs) (sumR cs)=true):Den c cs:=den_of c cs 0 0 (Nat.le_refl 0) (dot_ge _ _ _ h)
noncomputable abbrev O:E:=.num 0
noncomputable abbrev I:E:=.num 1
noncomputable abbrev P (a b:E):E:=.add a b
noncomputable abbrev M (k:Nat) (a:E):E:=.mulL k a
noncomputable abbrev R (a:E) (k:Nat):E:=.mulR a k
noncomputable abbrev V0:E:=.var 0
noncomputable abbrev V1:E:=.var 1
noncomputable abbrev V2:E:=.var 2
noncomputable abbrev V3:E:=.var 3
noncomputable abbrev V4:E:=.var 4
noncomputable abbrev V5:E:=.var 5
noncomputable abbrev V6:E:=.var 6
noncomputable abbrev V7:E:=.var 7
noncomputable abbrev V8:E:=.var 8
noncomputable abbrev V9:E:=.var 9
noncomputable abbrev V10:E:=.var 10
noncomputable abbrev V11:E:=.var 11
noncomputable abbrev V12:E:=.var 12
section
variable {a b:Nat} {p q:Prop}
theorem EL (h:a=b):a≤b:=Nat.le_of_eq h
theorem ER (h:a=b):b≤a:=Nat.le_of_eq h.symm
theorem SC (h:b≤a):a - b+b=a:=Nat.sub_add_cancel h
theorem SZ (h:a≤b):a - b=0:=Nat.sub_eq_zero_of_le h
theorem NL (h:¬ a < b):b≤a:=Nat.le_of_not_lt h
theorem NT (h:¬ b≤a):a < b:=Nat.lt_of_not_le h
theorem GE (h:¬ a≤b):b≤a:=Nat.le_of_lt (Nat.lt_of_not_le h)
theorem AN (h:a≤b) (k:b≤a):a=b:=Nat.le_antisymm h k
theorem TO (a b:Nat) (h:a≤b→p) (k:b≤a→p):p:=(Nat.le_total a b).elim h k
theorem NE (n:a≠b) (h:a < b→p) (k:b < a→p):p:=(Nat.lt_or_gt_of_ne n).elim h k
theorem DM (a b:Nat):b*(a / b)+a % b=a:=Nat.div_add_mod a b
theorem ML (a b:Nat):a % (b+1) < b+1:=Nat.mod_lt a (Nat.zero_lt_succ b)
theorem NA [Decidable p] (h:¬ (p∧q)):¬ p∨¬ q:=if g:p then .inr fun k=>h ⟨g,k⟩ else .inl g
end
noncomputable abbrev ZE:=Int.Internal.Linear.Expr
noncomputable def atz:List Int→Nat→Int
  | [],_=>0
  | x::_,0=>x
  | _::r,i+1=>atz r i
noncomputable def denz (c:List Int):ZE→Int
  | .num k=>k
  | .var i=>atz c i
  | .add a b=>denz c a+denz c b
  | .sub a b=>denz c a - denz c b
  | .neg a=>-denz c a
  | .mulL k a=>k*denz c a
  | .mulR a k=>denz c a*k
noncomputable def addZ:List Int→List Int→List Int
  | [],b=>b
  | a::x,[]=>a::x
  | a::x,b::y=>(a+b)::addZ x y
noncomputable def mulZ (k:Int):List Int→List Int
  | []=>[]
  | a::x=>(k*a)::mulZ k x
noncomputable def unitz:Nat→List Int
  | 0=>[1]
  | i+1=>0::unitz i
noncomputable def linz:ZE→List Int
  | .num k=>[k]
  | .var i=>0::unitz i
  | .add a b=>addZ (linz a) (linz b)
  | .sub a b=>addZ (linz a) (mulZ (-1) (linz b))
  | .neg a=>mulZ (-1) (linz a)
  | .mulL k a=>mulZ k (linz a)
  | .mulR a k=>mulZ k (linz a)
noncomputable def dotz:List Int→List Int→Int
  | [],_=>0
  | _::_,[]=>0
  | x::c,k::l=>k*x+dotz c l
theorem dotz_nil:∀ c,dotz c []=0
  | []=>rfl
  | _::_=>rfl
theorem dotz_add:∀ c a b,dotz c (addZ a b)=dotz c a+dotz c b
  | [],_,_=>rfl
  | x::c,[],b=>by rw [dotz_nil,Int.zero_add];rfl
  | x::c,a::s,[]=>(Int.add_zero _).symm
  | x::c,a::s,b::t=>by
    show (a+b)*x+dotz c (addZ s t)=a*x+dotz c s+(b*x+dotz c t)
    rw [dotz_add c s t,Int.add_mul];ac_rfl
theorem dotz_mul (k:Int):∀ c a,dotz c (mulZ k a)=k*dotz c a
  | [],_=>(Int.mul_zero k).symm
  | _::_,[]=>(Int.mul_zero k).symm
  | x::c,a::s=>by
    show k*a*x+dotz c (mulZ k s)=k*(a*x+dotz c s)
    rw [dotz_mul k c s,Int.mul_add,Int.mul_assoc]
theorem dotz_unit:∀ c i,dotz c (unitz i)=atz c i
  | [],_=>rfl
  | x::c,0=>by show 1*x+dotz c []=x;rw [dotz_nil,Int.one_mul];exact Int.add_zero x
  | x::c,i+1=>by show 0*x+dotz c (unitz i)=atz c i;rw [Int.zero_mul,Int.zero_add,dotz_unit c i]
theorem linz_den (c:List Int):∀ e,dotz (1::c) (linz e)=denz c e
  | .num k=>by show k*1+dotz c []=k;rw [dotz_nil,Int.mul_one];exact Int.add_zero k
  | .var i=>by show 0*1+dotz c (unitz i)=atz c i;rw [Int.zero_mul,Int.zero_add,dotz_unit]
  | .add a b=>(dotz_add ..).trans (by rw [linz_den c a,linz_den c b];rfl)
  | .sub a b=>(dotz_add ..).trans (by rw [dotz_mul,linz_den c a,linz_den c b,Int.neg_one_mul];rfl)
  | .neg a=>(dotz_mul ..).trans (by rw [linz_den c a,Int.neg_one_mul];rfl)
  | .mulL k a=>(dotz_mul ..).trans (by rw [linz_den c a];rfl)
  | .mulR a k=>(dotz_mul ..).trans (by rw [linz_den c a,Int.mul_comm];rfl)
noncomputable def Denz (c:List Int):List (Nat × ZE × ZE)→Prop
  | []=>False
  | p::cs=>denz c p.2.1≤denz c p.2.2→Denz c cs
noncomputable def sumz:List (Nat × ZE × ZE)→List Int
  | []=>[]
  | p::cs=>addZ (mulZ p.1 (addZ (linz p.2.1) (mulZ (-1) (linz p.2.2)))) (sumz cs)
noncomputable def zeros (l:List Int):Bool:=l.all (· == 0)
noncomputable def posz:List Int→Bool
  | []=>false
  | a::l=>decide (0 < a) && zeros l
theorem dotz_zeros:∀ c l,zeros l=true→dotz c l=0
  | [],_,_=>rfl
  | _::_,[],_=>rfl
  | x::c,a::l,h=>by
    have h:=Bool.and_eq_true_iff.mp (show (a == 0 && zeros l)=true from h)
    show a*x+dotz c l=0
    rw [eq_of_beq h.1,dotz_zeros c l h.2,Int.zero_mul];rfl
theorem dotz_pos (c:List Int):∀ l,posz l=true→0 < dotz (1::c) l
  | [],h=>nomatch h
  | a::l,h=>by
    have h:=Bool.and_eq_true_iff.mp (show (decide (0 < a) && zeros l)=true from h)
    show 0 < a*1+dotz c l
    rw [dotz_zeros c l h.2,Int.mul_one,Int.add_zero];exact of_decide_eq_true h.1
theorem denz_of (c:List Int):∀ (cs:List (Nat × ZE × ZE)) (x:Int),x≤0→0 < dotz (1::c) (sumz cs)+x→Denz c cs
  | [],x,h,g=>absurd (Int.lt_of_lt_of_le (by rwa [show dotz (1::c) (sumz [])=0 from rfl,Int.zero_add] at g) h) (Int.lt_irrefl 0)
  | (k,a,b)::cs,x,h,g=>fun q=>by
    have e:dotz (1::c) (sumz ((k,a,b)::cs))=(k:Int)*(denz c a - denz c b)+dotz (1::c) (sumz cs):=(dotz_add ..).trans (by rw [dotz_mul,dotz_add,dotz_mul,linz_den,linz_den,Int.neg_one_mul];rfl)
    have hk:(k:Int)*(denz c a - denz c b)≤0:=by
      have:=Int.mul_le_mul_of_nonneg_left (Int.sub_nonpos_of_le q) (Int.natCast_nonneg k)
      rwa [Int.mul_zero] at this
    refine denz_of c cs ((k:Int)*(denz c a - denz c b)+x) (Int.add_le_add hk h) ?_
    rw [e,Int.add_comm ((k:Int)*_),Int.add_assoc] at g
    exact g
theorem noz (c:List Int) (cs:List (Nat × ZE × ZE)) (h:posz (sumz cs)=true):Denz c cs:=denz_of c cs 0 (Int.le_refl 0) (by rw [Int.add_zero];exact dotz_pos c _ h)
noncomputable abbrev ZO:ZE:=.num 0
noncomputable abbrev ZI:ZE:=.num 1
noncomputable abbrev ZP (a b:ZE):ZE:=.add a b
noncomputable abbrev ZS (a b:ZE):ZE:=.sub a b
noncomputable abbrev ZM (k:Int) (a:ZE):ZE:=.mulL k a
noncomputable abbrev ZR (a:ZE) (k:Int):ZE:=.mulR a k
noncomputable abbrev W0:ZE:=.var 0
noncomputable abbrev W1:ZE:=.var 1
noncomputable abbrev W2:ZE:=.var 2
noncomputable abbrev W3:ZE:=.var 3
noncomputable abbrev W4:ZE:=.var 4
noncomputable abbrev W5:ZE:=.var 5
noncomputable abbrev W6:ZE:=.var 6
noncomputable abbrev W7:ZE:=.var 7
noncomputable abbrev W8:ZE:=.var 8
noncomputable abbrev W9:ZE:=.var 9
section
variable {a b:Int} {p:Prop}
theorem ZEL (h:a=b):a≤b:=Int.le_of_eq h
theorem ZER (h:a=b):b≤a:=Int.le_of_eq h.symm
theorem ZNL (h:¬ a < b):b≤a:=Int.not_lt.mp h
theorem ZNT (h:¬ b≤a):a < b:=Int.not_le.mp h
theorem ZAN (h:a≤b) (k:b≤a):a=b:=Int.le_antisymm h k
theorem ZTO (a b:Int) (h:a≤b→p) (k:b≤a→p):p:=(Int.le_total a b).elim h k
theorem ZNE (n:a≠b) (h:a < b→p) (k:b < a→p):p:=(Int.lt_or_gt_of_ne n).elim h k
theorem ZML (a b:Int) (h:decide (0 < b)=true):a % b < b:=Int.emod_lt_of_pos a (of_decide_eq_true h)
theorem ZMN (a b:Int) (h:decide (b≠0)=true):0≤a % b:=Int.emod_nonneg a (of_decide_eq_true h)
theorem IO {a b:Nat} (h:a≤b):(a:Int)≤b:=Int.ofNat_le.mpr h
theorem NN (a:Nat):(0:Int)≤a:=Int.natCast_nonneg a
end
end Z
end Mine
end
section
namespace Mine
namespace Z
variable {a b c d e f g i j k l m n o p s t u v w:Nat} {a' b' c' d' e' f' g' i' j' k' l' m':Int}
theorem l0(A:b<c-a):a+b<c:=NT fun z=>(TO a c (fun y=>(no [b,(c-a),c,a] [(1,(P V0 I),V1),(1,V2,(P V3 V0)),(1,(P V1 V3),V2)] rfl A z (EL (SC y)))) (fun x=>(no [b,(c-a)] [(1,(P V0 I),V1),(1,V1,O)] rfl A (EL (SZ x)))))
theorem l1(A:a<b+c)(B:¬a<b):a-b<c:=NT fun z=>(no [a,b,c,(a-b)] [(1,(P V0 I),(P V1 V2)),(1,V2,V3),(1,(P V3 V1),V0)] rfl A z (EL (SC (NL fun y=>(no [b,a] [(1,V0,V1),(1,(P V1 I),V0)] rfl (NL B) y)))))
theorem l2(A:¬c<b):a+b+(c-b)=a+c:=AN (NL fun y=>(no [a,c,b,(c-b)] [(1,(P (P V0 V1) I),(P (P V0 V2) V3)),(1,(P V3 V2),V1)] rfl y (EL (SC (NL fun x=>(no [b,c] [(1,V0,V1),(1,(P V1 I),V0)] rfl (NL A) x)))))) (NL fun q=>(no [a,b,(c-b),c] [(1,(P (P (P V0 V1) V2) I),(P V0 V3)),(1,V3,(P V2 V1))] rfl q (ER (SC (NL fun r=>(no [b,c] [(1,V0,V1),(1,(P V1 I),V0)] rfl (NL A) r))))))
theorem l3(A:¬c<b):a+b+b+(c-b)=a+b+c:=AN (NL fun y=>(no [a,b,c,(c-b)] [(1,(P (P (P V0 V1) V2) I),(P (P (P V0 V1) V1) V3)),(1,(P V3 V1),V2)] rfl y (EL (SC (NL fun x=>(no [b,c] [(1,V0,V1),(1,(P V1 I),V0)] rfl (NL A) x)))))) (NL fun q=>(no [a,b,(c-b),c] [(1,(P (P (P (P V0 V1) V1) V2) I),(P (P V0 V1) V3)),(1,V3,(P V2 V1))] rfl q (ER (SC (NL fun r=>(no [b,c] [(1,V0,V1),(1,(P V1 I),V0)] rfl (NL A) r))))))
theorem l4:a+(b+c)=a+b+c:=AN (NL fun y=>(no [a,b,c] [(1,(P (P (P V0 V1) V2) I),(P V0 (P V1 V2)))] rfl y)) (NL fun x=>(no [a,b,c] [(1,(P (P V0 (P V1 V2)) I),(P (P V0 V1) V2))] rfl x))
theorem l5:a+b+(b+c)=a+b+b+c:=AN (NL fun y=>(no [a,b,c] [(1,(P (P (P (P V0 V1) V1) V2) I),(P (P V0 V1) (P V1 V2)))] rfl y)) (NL fun x=>(no [a,b,c] [(1,(P (P (P V0 V1) (P V1 V2)) I),(P (P (P V0 V1) V1) V2))] rfl x))
theorem l6(A:0<a):0<a+b:=NT fun z=>(no [a,b] [(1,(P O I),V0),(1,(P V0 V1),O)] rfl A z)
theorem l8(A:a<c):a<b+c-b:=NT fun z=>(no [a,c,(b+c-b),b] [(1,(P V0 I),V1),(1,V2,V0),(1,(P V3 V1),(P V2 V3))] rfl A z (ER (SC (NL fun y=>(no [a,c,b] [(1,(P V0 I),V1),(1,(P (P V2 V1) I),V2)] rfl A y)))))
theorem l9(A:a≠b)(B:¬a<b):0<a-b:=NT fun z=>(NE A (fun y=>(no [b,a] [(1,V0,V1),(1,(P V1 I),V0)] rfl (NL B) y)) (fun x=>(no [(a-b),b,a] [(1,V0,O),(1,(P V1 I),V2),(1,V2,(P V0 V1))] rfl z x (ER (SC (NL fun q=>(no [b,a] [(1,(P V0 I),V1),(1,(P V1 I),V0)] rfl x q)))))))
theorem l10(A:¬c<b):a+b+(c-b)+d=a+c+d:=AN (NL fun y=>(no [a,c,d,b,(c-b)] [(1,(P (P (P V0 V1) V2) I),(P (P (P V0 V3) V4) V2)),(1,(P V4 V3),V1)] rfl y (EL (SC (NL fun x=>(no [b,c] [(1,V0,V1),(1,(P V1 I),V0)] rfl (NL A) x)))))) (NL fun q=>(no [a,b,(c-b),d,c] [(1,(P (P (P (P V0 V1) V2) V3) I),(P (P V0 V4) V3)),(1,V4,(P V2 V1))] rfl q (ER (SC (NL fun r=>(no [b,c] [(1,V0,V1),(1,(P V1 I),V0)] rfl (NL A) r))))))
theorem l11(A:a<c-(d-b)):a<b+c-d:=NT fun z=>(TO d (b+c) (fun y=>(TO b d (fun q=>(no [a,(c-(d-b)),(b+c-d),b,c,d,(d-b)] [(1,(P V0 I),V1),(1,V2,V0),(1,(P V3 V4),(P V2 V5)),(1,V5,(P V6 V3)),(1,(P V1 V6),V4)] rfl A z (ER (SC y)) (ER (SC q)) (EL (SC (NL fun z1=>(no [d,b,c,(d-b)] [(1,V0,(P V1 V2)),(1,(P V3 V1),V0),(1,(P V2 I),V3)] rfl y (EL (SC q)) z1)))))) (fun r=>(no [a,(c-(d-b)),(b+c-d),b,c,d,(d-b)] [(1,(P V0 I),V1),(1,V2,V0),(1,(P V3 V4),(P V2 V5)),(1,V5,V3),(1,O,V6),(1,(P V1 V6),V4)] rfl A z (ER (SC y)) r (ER (SZ r)) (EL (SC (NL fun y1=>(no [(d-b),c] [(1,V0,O),(1,(P V1 I),V0)] rfl (EL (SZ r)) y1)))))))) (fun x=>(TO (d-b) c (fun q1=>(no [a,(c-(d-b)),(b+c-d),b,c,d,(d-b)] [(1,(P V0 I),V1),(1,V2,V0),(1,(P V3 V4),V5),(1,O,V2),(1,V5,(P V6 V3)),(1,(P V1 V6),V4)] rfl A z x (ER (SZ x)) (ER (SC (NL fun x1=>(no [b,c,d] [(1,(P V0 V1),V2),(1,(P V2 I),V0)] rfl x x1)))) (EL (SC q1)))) (fun r1=>(no [a,(c-(d-b)),(b+c-d)] [(1,(P V0 I),V1),(1,V2,V0),(1,O,V2),(1,V1,O)] rfl A z (ER (SZ x)) (EL (SZ r1)))))))
theorem l12(A:a<c)(B:c<b):a<b:=NT fun z=>(no [a,c,b] [(1,(P V0 I),V1),(1,(P V1 I),V2),(1,V2,V0)] rfl A B z)
theorem l14(A:a+b=c):a+b≤c:=NL fun z=>(no [a,b,c] [(1,(P V0 V1),V2),(1,(P V2 I),(P V0 V1))] rfl (EL A) z)
theorem l15(A:a+b=c)(B:a+b+d<c):False:=no [c,a,b,d] [(1,V0,(P V1 V2)),(1,(P (P (P V1 V2) V3) I),V0)] rfl (ER A) B
theorem l16(A:a+b+d≤c):a+b≤c:=NL fun z=>(no [a,b,d,c] [(1,(P (P V0 V1) V2),V3),(1,(P V3 I),(P V0 V1))] rfl A z)
theorem l17(A:c≤b∧c<d)(B:a<c):a<b:=NT fun z=>(no [c,b,a] [(1,V0,V1),(1,(P V2 I),V0),(1,V1,V2)] rfl (And.left A) B z)
theorem l18(A:¬(c≤b∧c<a))(B:¬(b<c∧b<a)):a≤b:=NL fun z=>(Or.elim (NA A) (fun y=>(Or.elim (NA B) (fun q=>(no [b,c] [(1,(P V0 I),V1),(1,V1,V0)] rfl (NT y) (NL q))) (fun r=>(no [b,a] [(1,(P V0 I),V1),(1,V1,V0)] rfl z (NL r))))) (fun x=>(Or.elim (NA B) (fun z1=>(no [b,a,c] [(1,(P V0 I),V1),(1,V1,V2),(1,V2,V0)] rfl z (NL x) (NL z1))) (fun y1=>(no [b,a] [(1,(P V0 I),V1),(1,V1,V0)] rfl z (NL y1))))))
theorem l19(A:a≤c)(B:¬(b≤c∧b<a)):a≤b:=NL fun z=>(Or.elim (NA B) (fun y=>(no [a,c,b] [(1,V0,V1),(1,(P V2 I),V0),(1,(P V1 I),V2)] rfl A z (NT y))) (fun x=>(no [b,a] [(1,(P V0 I),V1),(1,V1,V0)] rfl z (NL x))))
theorem l20(A:b≤c):a+b+(c-b)=a+c:=AN (NL fun y=>(no [a,c,b,(c-b)] [(1,(P (P V0 V1) I),(P (P V0 V2) V3)),(1,(P V3 V2),V1)] rfl y (EL (SC (NL fun x=>(no [b,c] [(1,V0,V1),(1,(P V1 I),V0)] rfl A x)))))) (NL fun q=>(no [a,b,(c-b),c] [(1,(P (P (P V0 V1) V2) I),(P V0 V3)),(1,V3,(P V2 V1))] rfl q (ER (SC (NL fun r=>(no [b,c] [(1,V0,V1),(1,(P V1 I),V0)] rfl A r))))))
theorem l21(A:c≤d):a+b+c+(d-c)=a+b+d:=AN (NL fun y=>(no [a,b,d,c,(d-c)] [(1,(P (P (P V0 V1) V2) I),(P (P (P V0 V1) V3) V4)),(1,(P V4 V3),V2)] rfl y (EL (SC (NL fun x=>(no [c,d] [(1,V0,V1),(1,(P V1 I),V0)] rfl A x)))))) (NL fun q=>(no [a,b,c,(d-c),d] [(1,(P (P (P (P V0 V1) V2) V3) I),(P (P V0 V1) V4)),(1,V4,(P V3 V2))] rfl q (ER (SC (NL fun r=>(no [c,d] [(1,V0,V1),(1,(P V1 I),V0)] rfl A r))))))
theorem l22:a+b+(c+d)=a+b+c+d:=AN (NL fun y=>(no [a,b,c,d] [(1,(P (P (P (P V0 V1) V2) V3) I),(P (P V0 V1) (P V2 V3)))] rfl y)) (NL fun x=>(no [a,b,c,d] [(1,(P (P (P V0 V1) (P V2 V3)) I),(P (P (P V0 V1) V2) V3))] rfl x))
theorem l23(A:b≤c)(B:a+b+c<d):a+b+b+(c-b)<d:=NT fun z=>(no [a,b,c,d,(c-b)] [(1,(P (P (P V0 V1) V2) I),V3),(1,V3,(P (P (P V0 V1) V1) V4)),(1,(P V4 V1),V2)] rfl B z (EL (SC (NL fun y=>(no [b,c] [(1,V0,V1),(1,(P V1 I),V0)] rfl A y)))))
theorem l24(A:a≤b)(B:a≠b):a<b:=NT fun z=>(NE B (fun y=>(no [b,a] [(1,V0,V1),(1,(P V1 I),V0)] rfl z y)) (fun x=>(no [a,b] [(1,V0,V1),(1,(P V1 I),V0)] rfl A x)))
theorem l25(A:a+b+f<e)(B:d<f-c):a+b+c+d<e:=NT fun z=>(TO c f (fun y=>(no [a,b,f,e,d,(f-c),c] [(1,(P (P (P V0 V1) V2) I),V3),(1,(P V4 I),V5),(1,V3,(P (P (P V0 V1) V6) V4)),(1,(P V5 V6),V2)] rfl A B z (EL (SC y)))) (fun x=>(no [d,(f-c)] [(1,(P V0 I),V1),(1,V1,O)] rfl B (EL (SZ x)))))
theorem l26(A:a<c)(B:c<b-d):a<b:=NT fun z=>(TO d b (fun y=>(no [a,c,(b-d),b,d] [(1,(P V0 I),V1),(1,(P V1 I),V2),(1,V3,V0),(1,(P V2 V4),V3)] rfl A B z (EL (SC y)))) (fun x=>(no [a,c,(b-d)] [(1,(P V0 I),V1),(1,(P V1 I),V2),(1,V2,O)] rfl A B (EL (SZ x)))))
theorem l27(A:a<b-c):a<b:=NT fun z=>(TO c b (fun y=>(no [a,(b-c),b,c] [(1,(P V0 I),V1),(1,V2,V0),(1,(P V1 V3),V2)] rfl A z (EL (SC y)))) (fun x=>(no [a,(b-c)] [(1,(P V0 I),V1),(1,V1,O)] rfl A (EL (SZ x)))))
theorem l28(A:d=f-c)(B:c≤f)(C:a+b+f<e):a+b+c+d<e:=NT fun z=>(no [d,(f-c),a,b,f,e,c] [(1,V0,V1),(1,(P (P (P V2 V3) V4) I),V5),(1,V5,(P (P (P V2 V3) V6) V0)),(1,(P V1 V6),V4)] rfl (EL A) C z (EL (SC (NL fun y=>(no [c,f] [(1,V0,V1),(1,(P V1 I),V0)] rfl B y)))))
theorem l29(A:c=b-d)(B:a<c):a<b:=NT fun z=>(TO d b (fun y=>(no [c,(b-d),a,b,d] [(1,V0,V1),(1,(P V2 I),V0),(1,V3,V2),(1,(P V1 V4),V3)] rfl (EL A) B z (EL (SC y)))) (fun x=>(no [c,(b-d),a] [(1,V0,V1),(1,(P V2 I),V0),(1,V1,O)] rfl (EL A) B (EL (SZ x)))))
theorem l30(A:c=b)(B:a<c):a<b:=NT fun z=>(no [c,b,a] [(1,V0,V1),(1,(P V2 I),V0),(1,V1,V2)] rfl (EL A) B z)
theorem l31(A:a=b-c)(B:c≤b)(C:0<c):a<b:=NT fun z=>(no [a,(b-c),c,b] [(1,V0,V1),(1,(P O I),V2),(1,V3,V0),(1,(P V1 V2),V3)] rfl (EL A) C z (EL (SC (NL fun y=>(no [c,b] [(1,V0,V1),(1,(P V1 I),V0)] rfl B y)))))
theorem l32(A:c≤d)(B:a+b+d<e):a+b+c+(d-c)<e:=NT fun z=>(no [a,b,d,e,c,(d-c)] [(1,(P (P (P V0 V1) V2) I),V3),(1,V3,(P (P (P V0 V1) V4) V5)),(1,(P V5 V4),V2)] rfl B z (EL (SC (NL fun y=>(no [c,d] [(1,V0,V1),(1,(P V1 I),V0)] rfl A y)))))
theorem l33(A:b≤a)(B:0<b):a-b<a:=NT fun z=>(no [b,a,(a-b)] [(1,(P O I),V0),(1,V1,V2),(1,(P V2 V0),V1)] rfl B z (EL (SC (NL fun y=>(no [b,a] [(1,V0,V1),(1,(P V1 I),V0)] rfl A y)))))
theorem l34(A:¬b≤a):a<b:=NT fun z=>(no [a,b] [(1,(P V0 I),V1),(1,V1,V0)] rfl (NT A) z)
theorem l35(A:a+e≤d)(B:c<e-b):a+b+c<d:=NT fun z=>(TO b e (fun y=>(no [a,e,d,c,(e-b),b] [(1,(P V0 V1),V2),(1,(P V3 I),V4),(1,V2,(P (P V0 V5) V3)),(1,(P V4 V5),V1)] rfl A B z (EL (SC y)))) (fun x=>(no [c,(e-b)] [(1,(P V0 I),V1),(1,V1,O)] rfl B (EL (SZ x)))))
theorem l36:a≤a+b:=NL fun z=>(no [a,b] [(1,(P (P V0 V1) I),V0)] rfl z)
theorem l37(A:b<d-c):a+b+c<a+d:=NT fun z=>(TO c d (fun y=>(no [b,(d-c),a,d,c] [(1,(P V0 I),V1),(1,(P V2 V3),(P (P V2 V0) V4)),(1,(P V1 V4),V3)] rfl A z (EL (SC y)))) (fun x=>(no [b,(d-c)] [(1,(P V0 I),V1),(1,V1,O)] rfl A (EL (SZ x)))))
theorem l38:a+b+c=a+c+b:=AN (NL fun y=>(no [a,c,b] [(1,(P (P (P V0 V1) V2) I),(P (P V0 V2) V1))] rfl y)) (NL fun x=>(no [a,b,c] [(1,(P (P (P V0 V1) V2) I),(P (P V0 V2) V1))] rfl x))
theorem l39(A:a=b)(B:a<b):False:=no [b,a] [(1,V0,V1),(1,(P V1 I),V0)] rfl (ER A) B
theorem l40(A:a+b≤d)(B:d≤c):a+b≤c:=NL fun z=>(no [a,b,d,c] [(1,(P V0 V1),V2),(1,V2,V3),(1,(P V3 I),(P V0 V1))] rfl A B z)
theorem l41(A:a≤b):a≤b+c:=NL fun z=>(no [a,b,c] [(1,V0,V1),(1,(P (P V1 V2) I),V0)] rfl A z)
theorem l42(A:a+c+b<d):a+b+c<d:=NT fun z=>(no [a,c,b,d] [(1,(P (P (P V0 V1) V2) I),V3),(1,V3,(P (P V0 V2) V1))] rfl A z)
theorem l43(A:c+d+e<b)(B:¬c+d+e<a):a<b:=NT fun z=>(no [c,d,e,b,a] [(1,(P (P (P V0 V1) V2) I),V3),(1,V4,(P (P V0 V1) V2)),(1,V3,V4)] rfl A (NL B) z)
theorem l46(A:a<b)(B:b<a):False:=no [a,b] [(1,(P V0 I),V1),(1,(P V1 I),V0)] rfl A B
theorem l50(A:a=b)(B:b<a):False:=no [a,b] [(1,V0,V1),(1,(P V1 I),V0)] rfl (EL A) B
theorem l51(A:2≤a):0<a-1:=NT fun z=>(no [a,(a-1)] [(1,(.num 2),V0),(1,V1,O),(1,V0,(P V1 I))] rfl A z (ER (SC (NL fun y=>(no [a] [(1,(.num 2),V0),(1,(P V0 I),I)] rfl A y)))))
theorem l52(A:2≤a):a-1<a:=NT fun z=>(no [a,(a-1)] [(1,V0,V1),(1,(P V1 I),V0)] rfl z (EL (SC (NL fun y=>(no [a] [(1,(.num 2),V0),(1,(P V0 I),I)] rfl A y)))))
theorem l53(A:a<b-(b-1)):a=0:=AN (NL fun y=>(TO 1 b (fun x=>(no [a,(b-(b-1)),b,(b-1)] [(1,(P V0 I),V1),(1,(P O I),V0),(1,V2,(P V3 I)),(1,(P V1 V3),V2)] rfl A y (ER (SC x)) (EL (SC (NL fun r=>(no [(b-1),b] [(1,(P V0 I),V1),(1,(P V1 I),V0)] rfl (EL (SC x)) r)))))) (fun q=>(no [a,(b-(b-1)),b,(b-1)] [(1,(P V0 I),V1),(1,(P O I),V0),(1,V2,I),(1,O,V3),(1,(P V1 V3),V2)] rfl A y q (ER (SZ q)) (EL (SC (NL fun z1=>(no [(b-1),b] [(1,V0,O),(1,(P V1 I),V0)] rfl (EL (SZ q)) z1)))))))) (NL fun y1=>(no [a] [(1,(P V0 I),O)] rfl y1))
theorem l54(A:a≠0):0<a:=NT fun z=>(NE A (fun y=>(no [a] [(1,(P V0 I),O)] rfl y)) (fun x=>(no [a] [(1,V0,O),(1,(P O I),V0)] rfl z x)))
theorem l55(A:a<b):a≤b:=NL fun z=>(no [a,b] [(1,(P V0 I),V1),(1,(P V1 I),V0)] rfl A z)
theorem l56(A:a=b):a≤b:=NL fun z=>(no [a,b] [(1,V0,V1),(1,(P V1 I),V0)] rfl (EL A) z)
theorem l57(A:0<a)(B:a≠1):2≤a:=NL fun z=>(NE B (fun y=>(no [a] [(1,(P O I),V0),(1,(P V0 I),I)] rfl A y)) (fun x=>(no [a] [(1,(P V0 I),(.num 2)),(1,(P I I),V0)] rfl z x)))
theorem l58(A:a+c≤b)(B:0<c):a<b:=NT fun z=>(no [a,c,b] [(1,(P V0 V1),V2),(1,(P O I),V1),(1,V2,V0)] rfl A B z)
theorem l59(A:a+b≤c)(B:0<b):a+(b-1)<c:=NT fun z=>(no [a,b,c,(b-1)] [(1,(P V0 V1),V2),(1,V2,(P V0 V3)),(1,(P V3 I),V1)] rfl A z (EL (SC (NL fun y=>(no [b] [(1,(P O I),V0),(1,(P V0 I),I)] rfl B y)))))
theorem l60(A:a≤b)(B:0<a):a-1<b:=NT fun z=>(no [a,b,(a-1)] [(1,V0,V1),(1,V1,V2),(1,(P V2 I),V0)] rfl A z (EL (SC (NL fun y=>(no [a] [(1,(P O I),V0),(1,(P V0 I),I)] rfl B y)))))
theorem l61(A:b≤a):¬a<b:=fun z=>(no [b,a] [(1,V0,V1),(1,(P V1 I),V0)] rfl A z)
theorem l62(A:a<b)(B:¬a<b):False:=no [a,b] [(1,(P V0 I),V1),(1,V1,V0)] rfl A (NL B)
theorem l63(A:¬b≤a):a-1<b:=NT fun z=>(TO 1 a (fun y=>(no [a,b,(a-1)] [(1,(P V0 I),V1),(1,V1,V2),(1,(P V2 I),V0)] rfl (NT A) z (EL (SC y)))) (fun x=>(no [a,b,(a-1)] [(1,(P V0 I),V1),(1,V1,V2),(1,V2,O)] rfl (NT A) z (EL (SZ x)))))
theorem l64(A:a≤b)(B:b<a):False:=no [a,b] [(1,V0,V1),(1,(P V1 I),V0)] rfl A B
theorem l65(A:b<a):0<a-b:=NT fun z=>(no [b,a,(a-b)] [(1,(P V0 I),V1),(1,V2,O),(1,V1,(P V2 V0))] rfl A z (ER (SC (NL fun y=>(no [b,a] [(1,(P V0 I),V1),(1,(P V1 I),V0)] rfl A y)))))
theorem l66(A:a<b+c)(B:b<a):a-b<c:=NT fun z=>(no [a,b,c,(a-b)] [(1,(P V0 I),(P V1 V2)),(1,V2,V3),(1,(P V3 V1),V0)] rfl A z (EL (SC (NL fun y=>(no [b,a] [(1,(P V0 I),V1),(1,(P V1 I),V0)] rfl B y)))))
theorem l67(A:b<a):0<a:=NT fun z=>(no [b,a] [(1,(P V0 I),V1),(1,V1,O)] rfl A z)
theorem l68(A:c<b)(B:d<a-(b-c)):a-(b-c)<a:=NT fun z=>(TO (b-c) a (fun x=>(no [c,b,a,(a-(b-c)),(b-c)] [(1,(P V0 I),V1),(1,V2,V3),(1,V1,(P V4 V0)),(1,(P V3 V4),V2)] rfl A z (ER (SC (NL fun y=>(no [c,b] [(1,(P V0 I),V1),(1,(P V1 I),V0)] rfl A y)))) (EL (SC x)))) (fun q=>(no [d,(a-(b-c))] [(1,(P V0 I),V1),(1,V1,O)] rfl B (EL (SZ q)))))
theorem l69(A:a<b):a+(b-a)+c=b+c:=AN (NL fun y=>(no [b,c,a,(b-a)] [(1,(P (P V0 V1) I),(P (P V2 V3) V1)),(1,(P V3 V2),V0)] rfl y (EL (SC (NL fun x=>(no [a,b] [(1,(P V0 I),V1),(1,(P V1 I),V0)] rfl A x)))))) (NL fun q=>(no [a,(b-a),c,b] [(1,(P (P (P V0 V1) V2) I),(P V3 V2)),(1,V3,(P V1 V0))] rfl q (ER (SC (NL fun r=>(no [a,b] [(1,(P V0 I),V1),(1,(P V1 I),V0)] rfl A r))))))
theorem l72:a≤a:=NL fun z=>(no [a] [(1,(P V0 I),V0)] rfl z)
theorem l73(A:a<a):False:=no [a] [(1,(P V0 I),V0)] rfl A
theorem l74:¬(0:Nat)<0:=fun z=>(no [] [(1,(P O I),O)] rfl z)
theorem l75:(0:Nat)<1:=NT fun z=>(no [] [(1,I,O)] rfl z)
theorem l76(A:a<1):a=0:=AN (NL fun y=>(no [a] [(1,(P V0 I),I),(1,(P O I),V0)] rfl A y)) (NL fun x=>(no [a] [(1,(P V0 I),O)] rfl x))
theorem l77:0<a+1:=NT fun z=>(no [a] [(1,(P V0 I),O)] rfl z)
theorem l78:a+1<a+2:=NT fun z=>(no [a] [(1,(P V0 (.num 2)),(P V0 I))] rfl z)
theorem l79(A:a<b+2)(B:a≠b+1):a<b+1:=NT fun z=>(NE B (fun y=>(no [b,a] [(1,(P V0 I),V1),(1,(P V1 I),(P V0 I))] rfl z y)) (fun x=>(no [a,b] [(1,(P V0 I),(P V1 (.num 2))),(1,(P (P V1 I) I),V0)] rfl A x)))
theorem l80(A:a<b+1):a<b+2:=NT fun z=>(no [a,b] [(1,(P V0 I),(P V1 I)),(1,(P V1 (.num 2)),V0)] rfl A z)
theorem l81(A:c<0):a=b:=AN (NL fun y=>(no [c] [(1,(P V0 I),O)] rfl A)) (NL fun x=>(no [c] [(1,(P V0 I),O)] rfl A))
theorem l82(A:a<b+1)(B:a≠b):a<b:=NT fun z=>(NE B (fun y=>(no [b,a] [(1,V0,V1),(1,(P V1 I),V0)] rfl z y)) (fun x=>(no [a,b] [(1,(P V0 I),(P V1 I)),(1,(P V1 I),V0)] rfl A x)))
theorem l83:a<a+1:=NT fun z=>(no [a] [(1,(P V0 I),V0)] rfl z)
theorem l84(A:a<b):a<b+1:=NT fun z=>(no [a,b] [(1,(P V0 I),V1),(1,(P V1 I),V0)] rfl A z)
theorem l85(A:c≤b+1)(B:a<c):a≤b:=NL fun z=>(no [c,b,a] [(1,V0,(P V1 I)),(1,(P V2 I),V0),(1,(P V1 I),V2)] rfl A B z)
theorem l86(A:b+c=d):a+b+c=a+d:=AN (NL fun y=>(no [b,c,d,a] [(1,(P V0 V1),V2),(1,(P (P V3 V2) I),(P (P V3 V0) V1))] rfl (EL A) y)) (NL fun x=>(no [d,b,c,a] [(1,V0,(P V1 V2)),(1,(P (P (P V3 V1) V2) I),(P V3 V0))] rfl (ER A) x))
theorem l87(A:a≤0):a=0:=AN (NL fun y=>(no [a] [(1,V0,O),(1,(P O I),V0)] rfl A y)) (NL fun x=>(no [a] [(1,(P V0 I),O)] rfl x))
theorem l88(A:a+b<d)(B:¬b<c):a+(b-c)+c<d:=NT fun z=>(no [a,b,d,(b-c),c] [(1,(P (P V0 V1) I),V2),(1,V2,(P (P V0 V3) V4)),(1,(P V3 V4),V1)] rfl A z (EL (SC (NL fun y=>(no [c,b] [(1,V0,V1),(1,(P V1 I),V0)] rfl (NL B) y)))))
theorem l89(A:¬b<c):a+(b-c)+c=a+b:=AN (NL fun y=>(no [a,b,(b-c),c] [(1,(P (P V0 V1) I),(P (P V0 V2) V3)),(1,(P V2 V3),V1)] rfl y (EL (SC (NL fun x=>(no [c,b] [(1,V0,V1),(1,(P V1 I),V0)] rfl (NL A) x)))))) (NL fun q=>(no [a,(b-c),c,b] [(1,(P (P (P V0 V1) V2) I),(P V0 V3)),(1,V3,(P V1 V2))] rfl q (ER (SC (NL fun r=>(no [c,b] [(1,V0,V1),(1,(P V1 I),V0)] rfl (NL A) r))))))
theorem l90(A:a≤c+1)(B:0<b):a-b≤c:=NL fun z=>(TO b a (fun y=>(no [a,c,b,(a-b)] [(1,V0,(P V1 I)),(1,(P O I),V2),(1,(P V1 I),V3),(1,(P V3 V2),V0)] rfl A B z (EL (SC y)))) (fun x=>(no [c,(a-b)] [(1,(P V0 I),V1),(1,V1,O)] rfl z (EL (SZ x)))))
theorem l91(A:a+b<d):a+(b-c)<d:=NT fun z=>(TO c b (fun y=>(no [a,b,d,(b-c),c] [(1,(P (P V0 V1) I),V2),(1,V2,(P V0 V3)),(1,(P V3 V4),V1)] rfl A z (EL (SC y)))) (fun x=>(no [a,b,d,(b-c)] [(1,(P (P V0 V1) I),V2),(1,V2,(P V0 V3)),(1,V3,O)] rfl A z (EL (SZ x)))))
theorem l92(A:¬a<b):a-b+b=a:=AN (NL fun y=>(no [a,(a-b),b] [(1,(P V0 I),(P V1 V2)),(1,(P V1 V2),V0)] rfl y (EL (SC (NL fun x=>(no [b,a] [(1,V0,V1),(1,(P V1 I),V0)] rfl (NL A) x)))))) (NL fun q=>(no [(a-b),b,a] [(1,(P (P V0 V1) I),V2),(1,V2,(P V0 V1))] rfl q (ER (SC (NL fun r=>(no [b,a] [(1,V0,V1),(1,(P V1 I),V0)] rfl (NL A) r))))))
theorem l93(A:b<c):a+b<a+c:=NT fun z=>(no [b,c,a] [(1,(P V0 I),V1),(1,(P V2 V1),(P V2 V0))] rfl A z)
theorem l94(A:a+2*e≤d)(B:b<e)(C:c<e):a+(b+c)<d:=NT fun z=>(no [a,e,d,b,c] [(1,(P V0 (M 2 V1)),V2),(1,(P V3 I),V1),(1,(P V4 I),V1),(1,V2,(P V0 (P V3 V4)))] rfl A B C z)
theorem l95(A:a<c):a-b<c:=NT fun z=>(TO b a (fun y=>(no [a,c,(a-b),b] [(1,(P V0 I),V1),(1,V1,V2),(1,(P V2 V3),V0)] rfl A z (EL (SC y)))) (fun x=>(no [a,c,(a-b)] [(1,(P V0 I),V1),(1,V1,V2),(1,V2,O)] rfl A z (EL (SZ x)))))
theorem l96(A:a≤b):a+(b-a)=b:=AN (NL fun y=>(no [b,a,(b-a)] [(1,(P V0 I),(P V1 V2)),(1,(P V2 V1),V0)] rfl y (EL (SC (NL fun x=>(no [a,b] [(1,V0,V1),(1,(P V1 I),V0)] rfl A x)))))) (NL fun q=>(no [a,(b-a),b] [(1,(P (P V0 V1) I),V2),(1,V2,(P V1 V0))] rfl q (ER (SC (NL fun r=>(no [a,b] [(1,V0,V1),(1,(P V1 I),V0)] rfl A r))))))
theorem l97(A:c<b)(B:¬c≤a):a+b-c<b:=NT fun z=>(no [a,c,b,(a+b-c)] [(1,(P V0 I),V1),(1,V2,V3),(1,(P V3 V1),(P V0 V2))] rfl (NT B) z (EL (SC (NL fun y=>(no [c,b,a] [(1,(P V0 I),V1),(1,(P (P V2 V1) I),V0)] rfl A y)))))
theorem l98(A:a<c):a+(b+c-a)=b+c:=AN (NL fun y=>(no [b,c,a,(b+c-a)] [(1,(P (P V0 V1) I),(P V2 V3)),(1,(P V3 V2),(P V0 V1))] rfl y (EL (SC (NL fun x=>(no [a,c,b] [(1,(P V0 I),V1),(1,(P (P V2 V1) I),V0)] rfl A x)))))) (NL fun q=>(no [a,(b+c-a),b,c] [(1,(P (P V0 V1) I),(P V2 V3)),(1,(P V2 V3),(P V1 V0))] rfl q (ER (SC (NL fun r=>(no [a,(b+c-a),b,c] [(1,(P (P V0 V1) I),(P V2 V3)),(1,(P (P V2 V3) I),V0)] rfl q r))))))
theorem l99(A:a≤b)(B:b+d<c):a+(b-a)<c:=NT fun z=>(no [b,d,c,a,(b-a)] [(1,(P (P V0 V1) I),V2),(1,V2,(P V3 V4)),(1,(P V4 V3),V0)] rfl B z (EL (SC (NL fun y=>(no [a,b] [(1,V0,V1),(1,(P V1 I),V0)] rfl A y)))))
theorem l100(A:a≤b)(B:b+c<d):a+(b-a+c)<d:=NT fun z=>(no [b,c,d,a,(b-a)] [(1,(P (P V0 V1) I),V2),(1,V2,(P V3 (P V4 V1))),(1,(P V4 V3),V0)] rfl B z (EL (SC (NL fun y=>(no [a,b] [(1,V0,V1),(1,(P V1 I),V0)] rfl A y)))))
theorem l101(A:a≤b):a+(b-a+c)=b+c:=AN (NL fun y=>(no [b,c,a,(b-a)] [(1,(P (P V0 V1) I),(P V2 (P V3 V1))),(1,(P V3 V2),V0)] rfl y (EL (SC (NL fun x=>(no [a,b] [(1,V0,V1),(1,(P V1 I),V0)] rfl A x)))))) (NL fun q=>(no [a,(b-a),c,b] [(1,(P (P V0 (P V1 V2)) I),(P V3 V2)),(1,V3,(P V1 V0))] rfl q (ER (SC (NL fun r=>(no [a,b] [(1,V0,V1),(1,(P V1 I),V0)] rfl A r))))))
theorem l102(A:b<d)(B:d<c-a):a+b<c:=NT fun z=>(TO a c (fun y=>(no [b,d,(c-a),c,a] [(1,(P V0 I),V1),(1,(P V1 I),V2),(1,V3,(P V4 V0)),(1,(P V2 V4),V3)] rfl A B z (EL (SC y)))) (fun x=>(no [b,d,(c-a)] [(1,(P V0 I),V1),(1,(P V1 I),V2),(1,V2,O)] rfl A B (EL (SZ x)))))
theorem l103:a+b+c+d=a+b+(c+d):=AN (NL fun y=>(no [a,b,c,d] [(1,(P (P (P V0 V1) (P V2 V3)) I),(P (P (P V0 V1) V2) V3))] rfl y)) (NL fun x=>(no [a,b,c,d] [(1,(P (P (P (P V0 V1) V2) V3) I),(P (P V0 V1) (P V2 V3)))] rfl x))
theorem l104:a+b+c=a+(b+c):=AN (NL fun y=>(no [a,b,c] [(1,(P (P V0 (P V1 V2)) I),(P (P V0 V1) V2))] rfl y)) (NL fun x=>(no [a,b,c] [(1,(P (P (P V0 V1) V2) I),(P V0 (P V1 V2)))] rfl x))
theorem l105(A:a<b):a<b:=NT fun z=>(no [a,b] [(1,(P V0 I),V1),(1,V1,V0)] rfl A z)
theorem l106(A:b<c):a+b+(c-b+d)=a+d+c:=AN (NL fun y=>(no [a,d,c,b,(c-b)] [(1,(P (P (P V0 V1) V2) I),(P (P V0 V3) (P V4 V1))),(1,(P V4 V3),V2)] rfl y (EL (SC (NL fun x=>(no [b,c] [(1,(P V0 I),V1),(1,(P V1 I),V0)] rfl A x)))))) (NL fun q=>(no [a,b,(c-b),d,c] [(1,(P (P (P V0 V1) (P V2 V3)) I),(P (P V0 V3) V4)),(1,V4,(P V2 V1))] rfl q (ER (SC (NL fun r=>(no [b,c] [(1,(P V0 I),V1),(1,(P V1 I),V0)] rfl A r))))))
theorem l109(A:d+e=a+b):a+b+c=d+c+e:=AN (NL fun y=>(no [a,b,d,e,c] [(1,(P V0 V1),(P V2 V3)),(1,(P (P (P V2 V4) V3) I),(P (P V0 V1) V4))] rfl (ER A) y)) (NL fun x=>(no [d,e,a,b,c] [(1,(P V0 V1),(P V2 V3)),(1,(P (P (P V2 V3) V4) I),(P (P V0 V4) V1))] rfl (EL A) x))
theorem l110(A:a+b+c+1=a+c+d)(B:e+d=f*0):(0:Nat)=1:=AN (NL fun y=>(no [] [(1,(P I I),O)] rfl y)) (NL fun x=>(no [a,b,c,d,e,f] [(1,(P (P (P V0 V1) V2) I),(P (P V0 V2) V3)),(1,(P V4 V3),(R V5 0))] rfl (EL A) (EL B)))
theorem l111(A:1≤a)(B:a<2):a=1:=AN (NL fun y=>(no [a] [(1,(P V0 I),(.num 2)),(1,(P I I),V0)] rfl B y)) (NL fun x=>(no [a] [(1,I,V0),(1,(P V0 I),I)] rfl A x))
theorem l113(A:a+(c-b)=c*1)(B:b<c):a=b:=AN (NL fun y=>(no [a,(c-b),c,b] [(1,(P V0 V1),(R V2 1)),(1,(P V3 I),V0),(1,V2,(P V1 V3))] rfl (EL A) y (ER (SC (NL fun x=>(no [b,c] [(1,(P V0 I),V1),(1,(P V1 I),V0)] rfl B x)))))) (NL fun q=>(no [c,a,(c-b),b] [(1,(R V0 1),(P V1 V2)),(1,(P V1 I),V3),(1,(P V2 V3),V0)] rfl (ER A) q (EL (SC (NL fun r=>(no [b,c] [(1,(P V0 I),V1),(1,(P V1 I),V0)] rfl B r))))))
theorem l115:a+1+b=a+b+1:=AN (NL fun y=>(no [a,b] [(1,(P (P (P V0 V1) I) I),(P (P V0 I) V1))] rfl y)) (NL fun x=>(no [a,b] [(1,(P (P (P V0 I) V1) I),(P (P V0 V1) I))] rfl x))
theorem l116(A:c+e=a)(B:d+f=b):a+b=c+d+(e+f):=AN (NL fun y=>(no [a,c,e,b,d,f] [(1,V0,(P V1 V2)),(1,V3,(P V4 V5)),(1,(P (P (P V1 V4) (P V2 V5)) I),(P V0 V3))] rfl (ER A) (ER B) y)) (NL fun x=>(no [c,e,a,d,f,b] [(1,(P V0 V1),V2),(1,(P V3 V4),V5),(1,(P (P V2 V5) I),(P (P V0 V3) (P V1 V4)))] rfl (EL A) (EL B) x))
theorem l117(A:a<c)(B:b<c):a+b-c<c:=NT fun z=>(TO c (a+b) (fun y=>(no [a,c,b,(a+b-c)] [(1,(P V0 I),V1),(1,(P V2 I),V1),(1,V1,V3),(1,(P V3 V1),(P V0 V2))] rfl A B z (EL (SC y)))) (fun x=>(no [a,c,(a+b-c)] [(1,(P V0 I),V1),(1,V1,V2),(1,V2,O)] rfl A z (EL (SZ x)))))
theorem l119(A:a=0)(B:¬a≤b):False:=no [a,b] [(1,V0,O),(1,(P V1 I),V0)] rfl (EL A) (NT B)
theorem l120(A:¬b≤a):a≤b-1:=NL fun z=>(no [a,b,(b-1)] [(1,(P V0 I),V1),(1,(P V2 I),V0),(1,V1,(P V2 I))] rfl (NT A) z (ER (SC (NL fun y=>(no [a,b] [(1,(P V0 I),V1),(1,(P V1 I),I)] rfl (NT A) y)))))
theorem l121(A:d+b≤c)(B:a≤d)(C:¬a≤e):a-1+b<c:=NT fun z=>(no [d,b,c,a,(a-1)] [(1,(P V0 V1),V2),(1,V3,V0),(1,V2,(P V4 V1)),(1,(P V4 I),V3)] rfl A B z (EL (SC (NL fun y=>(no [e,a] [(1,(P V0 I),V1),(1,(P V1 I),I)] rfl (NT C) y)))))
theorem l122(A:a=b)(B:c≤b)(C:¬c≤a):False:=no [b,a,c] [(1,V0,V1),(1,V2,V0),(1,(P V1 I),V2)] rfl (ER A) B (NT C)
theorem l123(A:d+c≤b)(B:a≤d):a≤b-c:=NL fun z=>(no [d,c,b,a,(b-c)] [(1,(P V0 V1),V2),(1,V3,V0),(1,(P V4 I),V3),(1,V2,(P V4 V1))] rfl A B z (ER (SC (NL fun y=>(no [d,c,b] [(1,(P V0 V1),V2),(1,(P V2 I),V1)] rfl A y)))))
theorem l124(A:d+b≤a)(B:¬c≤a):a-b+b<c:=NT fun z=>(no [a,c,(a-b),b] [(1,(P V0 I),V1),(1,V1,(P V2 V3)),(1,(P V2 V3),V0)] rfl (NT B) z (EL (SC (NL fun y=>(no [d,b,a] [(1,(P V0 V1),V2),(1,(P V2 I),V1)] rfl A y)))))
theorem l125(A:c+b≤a):a-b+b=a:=AN (NL fun y=>(no [a,(a-b),b] [(1,(P V0 I),(P V1 V2)),(1,(P V1 V2),V0)] rfl y (EL (SC (NL fun x=>(no [c,b,a] [(1,(P V0 V1),V2),(1,(P V2 I),V1)] rfl A x)))))) (NL fun q=>(no [(a-b),b,a] [(1,(P (P V0 V1) I),V2),(1,V2,(P V0 V1))] rfl q (ER (SC (NL fun r=>(no [c,b,a] [(1,(P V0 V1),V2),(1,(P V2 I),V1)] rfl A r))))))
theorem l126(A:a+(b+d)<c):a+b<c:=NT fun z=>(no [a,b,d,c] [(1,(P (P V0 (P V1 V2)) I),V3),(1,V3,(P V0 V1))] rfl A z)
theorem l127(A:a+(b+c)<d):a+b+c<d:=NT fun z=>(no [a,b,c,d] [(1,(P (P V0 (P V1 V2)) I),V3),(1,V3,(P (P V0 V1) V2))] rfl A z)
theorem l128(A:a=0)(B:b<a):(1:Nat)≤0:=NL fun z=>(no [a,b] [(1,V0,O),(1,(P V1 I),V0)] rfl (EL A) B)
theorem l129(A:1≤a):(Nat.succ (a-1))=a:=AN (NL fun y=>(no [a,(a-1)] [(1,(P V0 I),(P V1 I)),(1,(P V1 I),V0)] rfl y (EL (SC (NL fun x=>(no [a] [(1,I,V0),(1,(P V0 I),I)] rfl A x)))))) (NL fun q=>(no [(a-1),a] [(1,(P (P V0 I) I),V1),(1,V1,(P V0 I))] rfl q (ER (SC (NL fun r=>(no [a] [(1,I,V0),(1,(P V0 I),I)] rfl A r))))))
theorem l130(A:d+b=e)(B:a+2*e≤c):a+2*b≤c:=NL fun z=>(no [d,b,e,a,c] [(2,(P V0 V1),V2),(1,(P V3 (M 2 V2)),V4),(1,(P V4 I),(P V3 (M 2 V1)))] rfl (EL A) B z)
theorem l131:0≤a+b:=NL fun z=>(no [a,b] [(1,(P (P V0 V1) I),O)] rfl z)
theorem l132(A:b+a=d)(B:0+2*d≤c)(C:a<d):0-1+a+b<c:=NT fun z=>(no [b,a,d,c,(0-1)] [(1,(P V0 V1),V2),(1,(P O (M 2 V2)),V3),(1,(P V1 I),V2),(1,V3,(P (P V4 V1) V0)),(1,V4,O)] rfl (EL A) B C z (EL (SZ (GE fun y=>(no [] [(1,I,O)] rfl y)))))
theorem l133(A:c+b=d):a+b+c=a+d:=AN (NL fun y=>(no [c,b,d,a] [(1,(P V0 V1),V2),(1,(P (P V3 V2) I),(P (P V3 V1) V0))] rfl (EL A) y)) (NL fun x=>(no [d,c,b,a] [(1,V0,(P V1 V2)),(1,(P (P (P V3 V2) V1) I),(P V3 V0))] rfl (ER A) x))
theorem l134(A:0<b):a≤a-1+b:=NL fun z=>(no [b,(a-1),a] [(1,(P O I),V0),(1,(P (P V1 V0) I),V2),(1,V2,(P V1 I))] rfl A z (ER (SC (NL fun y=>(no [b,(a-1),a] [(1,(P O I),V0),(1,(P (P V1 V0) I),V2),(1,(P V2 I),I)] rfl A z y)))))
theorem l135(A:c+b=e)(B:a+2*e≤d)(C:b<e):a-1+b+c<d:=NT fun z=>(TO 1 a (fun y=>(no [c,b,e,a,d,(a-1)] [(1,(P V0 V1),V2),(1,(P V3 (M 2 V2)),V4),(1,(P V1 I),V2),(1,V4,(P (P V5 V1) V0)),(1,(P V5 I),V3)] rfl (EL A) B C z (EL (SC y)))) (fun x=>(no [c,b,e,a,d,(a-1)] [(1,(P V0 V1),V2),(1,(P V3 (M 2 V2)),V4),(1,(P V1 I),V2),(1,V4,(P (P V5 V1) V0)),(1,V5,O)] rfl (EL A) B C z (EL (SZ x)))))
theorem l136(A:a+2*c≤b):a≤b-c:=NL fun z=>(no [a,c,b,(b-c)] [(1,(P V0 (M 2 V1)),V2),(1,(P V3 I),V0),(1,V2,(P V3 V1))] rfl A z (ER (SC (NL fun y=>(no [a,c,b] [(1,(P V0 (M 2 V1)),V2),(1,(P V2 I),V1)] rfl A y)))))
theorem l137(A:c+d=b)(B:e+2*b≤a)(C:0<d):a-b+c<a:=NT fun z=>(no [c,d,b,a,(a-b)] [(1,(P V0 V1),V2),(1,(P O I),V1),(1,V3,(P V4 V0)),(1,(P V4 V2),V3)] rfl (EL A) C z (EL (SC (NL fun y=>(no [c,d,b,e,a] [(1,(P V0 V1),V2),(1,(P V3 (M 2 V2)),V4),(1,(P O I),V1),(1,(P V4 I),V2)] rfl (EL A) B C y)))))
theorem l139(A:a+2*c≤d)(B:b<c):a+b+c<d:=NT fun z=>(no [a,c,d,b] [(1,(P V0 (M 2 V1)),V2),(1,(P V3 I),V1),(1,V2,(P (P V0 V3) V1))] rfl A B z)
theorem l140(A:a+(b+c)+c≤d):a+b+c≤d:=NL fun z=>(no [a,b,c,d] [(1,(P (P V0 (P V1 V2)) V2),V3),(1,(P V3 I),(P (P V0 V1) V2))] rfl A z)
theorem l141(A:a+(b+c)+c≤d):a+b+2*c≤d:=NL fun z=>(no [a,b,c,d] [(1,(P (P V0 (P V1 V2)) V2),V3),(1,(P V3 I),(P (P V0 V1) (M 2 V2)))] rfl A z)
theorem l142(A:d≤b)(B:a<d+c):a<b+c:=NT fun z=>(no [d,b,a,c] [(1,V0,V1),(1,(P V2 I),(P V0 V3)),(1,(P V1 V3),V2)] rfl A B z)
theorem l143(A:e+b=f-a)(B:f+c≤d)(C:¬f<a):a+b+c≤d:=NL fun z=>(no [e,b,(f-a),f,c,d,a] [(1,(P V0 V1),V2),(1,(P V3 V4),V5),(1,(P V5 I),(P (P V6 V1) V4)),(1,(P V2 V6),V3)] rfl (EL A) B z (EL (SC (NL fun y=>(no [a,f] [(1,V0,V1),(1,(P V1 I),V0)] rfl (NL C) y)))))
theorem l144(A:d+c=a-b)(B:d=0)(C:¬a<b):a=b+c:=AN (NL fun y=>(no [(a-b),d,c,b,a] [(1,V0,(P V1 V2)),(1,V1,O),(1,(P (P V3 V2) I),V4),(1,V4,(P V0 V3))] rfl (ER A) (EL B) y (ER (SC (NL fun x=>(no [b,a] [(1,V0,V1),(1,(P V1 I),V0)] rfl (NL C) x)))))) (NL fun q=>(no [d,c,(a-b),a,b] [(1,(P V0 V1),V2),(1,O,V0),(1,(P V3 I),(P V4 V1)),(1,(P V2 V4),V3)] rfl (EL A) (ER B) q (EL (SC (NL fun r=>(no [b,a] [(1,V0,V1),(1,(P V1 I),V0)] rfl (NL C) r))))))
theorem l145(A:d+b=c-a)(B:d≠0):a+b<c:=NT fun z=>(NE B (fun y=>(no [d] [(1,(P V0 I),O)] rfl y)) (fun x=>(TO a c (fun q=>(no [d,b,(c-a),c,a] [(1,(P V0 V1),V2),(1,V3,(P V4 V1)),(1,(P O I),V0),(1,(P V2 V4),V3)] rfl (EL A) z x (EL (SC q)))) (fun r=>(no [d,b,(c-a)] [(1,(P V0 V1),V2),(1,(P O I),V0),(1,V2,O)] rfl (EL A) x (EL (SZ r)))))))
theorem l146(A:e+c=a-b)(B:e<d):a<b+c+d:=NT fun z=>(no [(a-b),e,c,d,b,a] [(1,V0,(P V1 V2)),(1,(P V1 I),V3),(1,(P (P V4 V2) V3),V5),(1,V5,(P V0 V4))] rfl (ER A) B z (ER (SC (NL fun y=>(no [e,d,b,c,a] [(1,(P V0 I),V1),(1,(P (P V2 V3) V1),V4),(1,(P V4 I),V2)] rfl B z y)))))
theorem l147(A:¬a≤b):a=b+(a-b):=AN (NL fun y=>(no [b,(a-b),a] [(1,(P (P V0 V1) I),V2),(1,V2,(P V1 V0))] rfl y (ER (SC (NL fun x=>(no [b,a] [(1,(P V0 I),V1),(1,(P V1 I),V0)] rfl (NT A) x)))))) (NL fun q=>(no [a,b,(a-b)] [(1,(P V0 I),(P V1 V2)),(1,(P V2 V1),V0)] rfl q (EL (SC (NL fun r=>(no [b,a] [(1,(P V0 I),V1),(1,(P V1 I),V0)] rfl (NT A) r))))))
theorem l148(A:d+a=e+c)(B:d+b=e):a=b+c:=AN (NL fun y=>(no [d,a,e,c,b] [(1,(P V0 V1),(P V2 V3)),(1,V2,(P V0 V4)),(1,(P (P V4 V3) I),V1)] rfl (EL A) (ER B) y)) (NL fun x=>(no [e,c,d,a,b] [(1,(P V0 V1),(P V2 V3)),(1,(P V2 V4),V0),(1,(P V3 I),(P V4 V1))] rfl (ER A) (EL B) x))
theorem l149(A:d≤b)(B:a<d+c)(C:¬a≤b):a-b<c:=NT fun z=>(no [d,b,a,c,(a-b)] [(1,V0,V1),(1,(P V2 I),(P V0 V3)),(1,V3,V4),(1,(P V4 V1),V2)] rfl A B z (EL (SC (NL fun y=>(no [b,a] [(1,(P V0 I),V1),(1,(P V1 I),V0)] rfl (NT C) y)))))
theorem l150(A:a-b=0)(B:¬a≤b):False:=no [(a-b),b,a] [(1,V0,O),(1,(P V1 I),V2),(1,V2,(P V0 V1))] rfl (EL A) (NT B) (ER (SC (NL fun y=>(no [b,a] [(1,(P V0 I),V1),(1,(P V1 I),V0)] rfl (NT B) y))))
theorem l151(A:0+b=e-a)(B:e+c≤d)(C:a≤e):a+b+c≤d:=NL fun z=>(no [b,(e-a),e,c,d,a] [(1,(P O V0),V1),(1,(P V2 V3),V4),(1,(P V4 I),(P (P V5 V0) V3)),(1,(P V1 V5),V2)] rfl (EL A) B z (EL (SC (NL fun y=>(no [a,e] [(1,V0,V1),(1,(P V1 I),V0)] rfl C y)))))
theorem l152(A:0+b=c-a)(B:a≤c):a+b=c:=AN (NL fun y=>(no [b,(c-a),c,a] [(1,(P O V0),V1),(1,(P V2 I),(P V3 V0)),(1,(P V1 V3),V2)] rfl (EL A) y (EL (SC (NL fun x=>(no [a,c] [(1,V0,V1),(1,(P V1 I),V0)] rfl B x)))))) (NL fun q=>(no [(c-a),b,a,c] [(1,V0,(P O V1)),(1,(P (P V2 V1) I),V3),(1,V3,(P V0 V2))] rfl (ER A) q (ER (SC (NL fun r=>(no [a,c] [(1,V0,V1),(1,(P V1 I),V0)] rfl B r))))))
theorem l153(A:c≤b)(B:d+1<c)(C:a<d+1):a<b:=NT fun z=>(no [c,b,d,a] [(1,V0,V1),(1,(P (P V2 I) I),V0),(1,(P V3 I),(P V2 I)),(1,V1,V3)] rfl A B C z)
theorem l154(A:c≤b)(B:a+1<c):a<b:=NT fun z=>(no [c,b,a] [(1,V0,V1),(1,(P (P V2 I) I),V0),(1,V1,V2)] rfl A B z)
theorem l155(A:c≤b)(B:a+1<c):a+1<b:=NT fun z=>(no [c,b,a] [(1,V0,V1),(1,(P (P V2 I) I),V0),(1,V1,(P V2 I))] rfl A B z)
theorem l156(A:a+1<b):a<b:=NT fun z=>(no [a,b] [(1,(P (P V0 I) I),V1),(1,V1,V0)] rfl A z)
theorem l157:a≤a+(b+1):=NL fun z=>(no [a,b] [(1,(P (P V0 (P V1 I)) I),V0)] rfl z)
theorem l158(A:a+1≤b):a≤b:=NL fun z=>(no [a,b] [(1,(P V0 I),V1),(1,(P V1 I),V0)] rfl A z)
theorem l159(A:a≤b+1+c):a≤b+(c+1):=NL fun z=>(no [a,b,c] [(1,V0,(P (P V1 I) V2)),(1,(P (P V1 (P V2 I)) I),V0)] rfl A z)
theorem l160(A:a<b+(c+1)):a<b+1+c:=NT fun z=>(no [a,b,c] [(1,(P V0 I),(P V1 (P V2 I))),(1,(P (P V1 I) V2),V0)] rfl A z)
theorem l161(A:a≤b)(B:b≠a):a+1≤b:=NL fun z=>(NE B (fun y=>(no [a,b] [(1,V0,V1),(1,(P V1 I),V0)] rfl A y)) (fun x=>(no [b,a] [(1,(P V0 I),(P V1 I)),(1,(P V1 I),V0)] rfl z x)))
theorem l162(A:a+(b+1)≤c):a+1+b≤c:=NL fun z=>(no [a,b,c] [(1,(P V0 (P V1 I)),V2),(1,(P V2 I),(P (P V0 I) V1))] rfl A z)
theorem l163(A:a+(c+1)≤b):a<b:=NT fun z=>(no [a,c,b] [(1,(P V0 (P V1 I)),V2),(1,V2,V0)] rfl A z)
theorem l164(A:a+(c+1)≤b):a-1<b:=NT fun z=>(TO 1 a (fun y=>(no [a,c,b,(a-1)] [(1,(P V0 (P V1 I)),V2),(1,V2,V3),(1,(P V3 I),V0)] rfl A z (EL (SC y)))) (fun x=>(no [a,c,b,(a-1)] [(1,(P V0 (P V1 I)),V2),(1,V2,V3),(1,V3,O)] rfl A z (EL (SZ x)))))
theorem l165(A:a=a-1)(B:0<a):False:=no [a,(a-1)] [(1,V0,V1),(1,(P V1 I),V0)] rfl (EL A) (EL (SC (NL fun y=>(no [a] [(1,(P O I),V0),(1,(P V0 I),I)] rfl B y))))
theorem l167(A:c-1-a=b)(B:a<c)(C:¬b<c):a=b:=AN (NL fun y=>(no [a,c,b] [(1,(P V0 I),V1),(1,V1,V2),(1,(P V2 I),V0)] rfl B (NL C) y)) (NL fun x=>(no [b,(c-1-a),c,(c-1),a] [(1,V0,V1),(1,V2,V0),(1,(P V3 I),V2),(1,(P V1 V4),V3)] rfl (ER A) (NL C) (EL (SC (NL fun q=>(no [a,c] [(1,(P V0 I),V1),(1,(P V1 I),I)] rfl B q)))) (EL (SC (NL fun r=>(no [a,c,(c-1)] [(1,(P V0 I),V1),(1,V1,(P V2 I)),(1,(P V2 I),V0)] rfl B (ER (SC (NL fun q=>(no [a,c] [(1,(P V0 I),V1),(1,(P V1 I),I)] rfl B q)))) r))))))
theorem l168(A:a=c-1-b)(B:b<c)(C:¬a<c):a=b:=AN (NL fun y=>(no [a,(c-1-b),c,(c-1),b] [(1,V0,V1),(1,V2,V0),(1,(P V3 I),V2),(1,(P V1 V4),V3)] rfl (EL A) (NL C) (EL (SC (NL fun x=>(no [b,c] [(1,(P V0 I),V1),(1,(P V1 I),I)] rfl B x)))) (EL (SC (NL fun q=>(no [b,c,(c-1)] [(1,(P V0 I),V1),(1,V1,(P V2 I)),(1,(P V2 I),V0)] rfl B (ER (SC (NL fun x=>(no [b,c] [(1,(P V0 I),V1),(1,(P V1 I),I)] rfl B x)))) q)))))) (NL fun r=>(no [b,c,a] [(1,(P V0 I),V1),(1,V1,V2),(1,(P V2 I),V0)] rfl B (NL C) r))
theorem l169(A:a<b):a-1<b:=NT fun z=>(TO 1 a (fun y=>(no [a,b,(a-1)] [(1,(P V0 I),V1),(1,V1,V2),(1,(P V2 I),V0)] rfl A z (EL (SC y)))) (fun x=>(no [a,b,(a-1)] [(1,(P V0 I),V1),(1,V1,V2),(1,V2,O)] rfl A z (EL (SZ x)))))
theorem l170(A:2≤b)(B:a≤1+(b-1)):a≤b:=NL fun z=>(no [a,(b-1),b] [(1,V0,(P I V1)),(1,(P V2 I),V0),(1,(P V1 I),V2)] rfl B z (EL (SC (NL fun y=>(no [b] [(1,(.num 2),V0),(1,(P V0 I),I)] rfl A y)))))
theorem l171(A:2≤b)(B:c≤1+(b-1))(C:a<c):a<b:=NT fun z=>(no [c,(b-1),a,b] [(1,V0,(P I V1)),(1,(P V2 I),V0),(1,V3,V2),(1,(P V1 I),V3)] rfl B C z (EL (SC (NL fun y=>(no [b] [(1,(.num 2),V0),(1,(P V0 I),I)] rfl A y)))))
theorem l172(A:0<a):1≤a:=NL fun z=>(no [a] [(1,(P O I),V0),(1,(P V0 I),I)] rfl A z)
theorem l175(A:1<a):0<a-1:=NT fun z=>(no [a,(a-1)] [(1,(P I I),V0),(1,V1,O),(1,V0,(P V1 I))] rfl A z (ER (SC (NL fun y=>(no [a] [(1,(P I I),V0),(1,(P V0 I),I)] rfl A y)))))
theorem l176(A:1≤a):a-1<a:=NT fun z=>(no [a,(a-1)] [(1,V0,V1),(1,(P V1 I),V0)] rfl z (EL (SC (NL fun y=>(no [a] [(1,I,V0),(1,(P V0 I),I)] rfl A y)))))
theorem l177(A:1≤a):1≤a:=NL fun z=>(no [a] [(1,I,V0),(1,(P V0 I),I)] rfl A z)
theorem l178(A:1≤a)(B:¬1<a):a=1:=AN (NL fun y=>(no [a] [(1,V0,I),(1,(P I I),V0)] rfl (NL B) y)) (NL fun x=>(no [a] [(1,I,V0),(1,(P V0 I),I)] rfl A x))
theorem l179(A:2≤a):1<1+(a-1):=NT fun z=>(no [a,(a-1)] [(1,(.num 2),V0),(1,(P I V1),I),(1,V0,(P V1 I))] rfl A z (ER (SC (NL fun y=>(no [a] [(1,(.num 2),V0),(1,(P V0 I),I)] rfl A y)))))
theorem l180:(0:Nat)<1+1:=NT fun z=>(no [] [(1,(P I I),O)] rfl z)
theorem l181(A:2≤a):1+1+(a-(1+1))≤a:=NL fun z=>(no [a,(a-(1+1))] [(1,(P V0 I),(P (P I I) V1)),(1,(P V1 (P I I)),V0)] rfl z (EL (SC (NL fun y=>(no [a] [(1,(.num 2),V0),(1,(P V0 I),(P I I))] rfl A y)))))
theorem l182(A:2≤b)(B:a≤1+1+(b-(1+1))):a≤b:=NL fun z=>(no [a,(b-(1+1)),b] [(1,V0,(P (P I I) V1)),(1,(P V2 I),V0),(1,(P V1 (P I I)),V2)] rfl B z (EL (SC (NL fun y=>(no [b] [(1,(.num 2),V0),(1,(P V0 I),(P I I))] rfl A y)))))
theorem l183(A:1+1≤b)(B:b≤a):1≤a:=NL fun z=>(no [b,a] [(1,(P I I),V0),(1,V0,V1),(1,(P V1 I),I)] rfl A B z)
theorem l184(A:2≤b)(B:a≤c+(b-c))(C:c≤1+1+(b-(1+1))):a≤b:=NL fun z=>(TO c b (fun y=>(no [a,c,(b-c),b] [(1,V0,(P V1 V2)),(1,(P V3 I),V0),(1,(P V2 V1),V3)] rfl B z (EL (SC y)))) (fun x=>(no [a,c,(b-c),(b-(1+1)),b] [(1,V0,(P V1 V2)),(1,V1,(P (P I I) V3)),(1,(P V4 I),V0),(1,V2,O),(1,(P V3 (P I I)),V4)] rfl B C z (EL (SZ x)) (EL (SC (NL fun q=>(no [b] [(1,(.num 2),V0),(1,(P V0 I),(P I I))] rfl A q)))))))
theorem l185(A:2≤b)(B:c≤1+1+(b-(1+1)))(C:a<c):a-1<b:=NT fun z=>(TO 1 a (fun y=>(no [c,(b-(1+1)),a,b,(a-1)] [(1,V0,(P (P I I) V1)),(1,(P V2 I),V0),(1,V3,V4),(1,(P V4 I),V2),(1,(P V1 (P I I)),V3)] rfl B C z (EL (SC y)) (EL (SC (NL fun q=>(no [b] [(1,(.num 2),V0),(1,(P V0 I),(P I I))] rfl A q)))))) (fun x=>(no [b,(a-1)] [(1,(.num 2),V0),(1,V0,V1),(1,V1,O)] rfl A z (EL (SZ x)))))
theorem l186(A:2≤b)(B:c≤1+1+(b-(1+1)))(C:a<c):a<b:=NT fun z=>(no [c,(b-(1+1)),a,b] [(1,V0,(P (P I I) V1)),(1,(P V2 I),V0),(1,V3,V2),(1,(P V1 (P I I)),V3)] rfl B C z (EL (SC (NL fun y=>(no [b] [(1,(.num 2),V0),(1,(P V0 I),(P I I))] rfl A y)))))
theorem l188(A:1+1≤a):a-1-b<a:=NT fun z=>(TO b (a-1) (fun x=>(no [a,(a-1-b),(a-1),b] [(1,V0,V1),(1,(P V2 I),V0),(1,(P V1 V3),V2)] rfl z (EL (SC (NL fun y=>(no [a] [(1,(P I I),V0),(1,(P V0 I),I)] rfl A y)))) (EL (SC x)))) (fun q=>(no [a,(a-1-b)] [(1,(P I I),V0),(1,V0,V1),(1,V1,O)] rfl A z (EL (SZ q)))))
theorem l190(A:c≤d+(b-d))(B:a<c)(C:¬a<d):a<b:=NT fun z=>(TO d b (fun y=>(no [c,d,(b-d),a,b] [(1,V0,(P V1 V2)),(1,(P V3 I),V0),(1,V4,V3),(1,(P V2 V1),V4)] rfl A B z (EL (SC y)))) (fun x=>(no [c,d,(b-d),a] [(1,V0,(P V1 V2)),(1,(P V3 I),V0),(1,V1,V3),(1,V2,O)] rfl A B (NL C) (EL (SZ x)))))
theorem l191(A:¬b<a):a≤b:=NL fun z=>(no [a,b] [(1,V0,V1),(1,(P V1 I),V0)] rfl (NL A) z)
theorem l192(A:b-a≤0)(B:a≤b):a=b:=AN (NL fun y=>(no [a,b] [(1,V0,V1),(1,(P V1 I),V0)] rfl B y)) (NL fun x=>(no [(b-a),a,b] [(1,V0,O),(1,(P V1 I),V2),(1,V2,(P V0 V1))] rfl A x (ER (SC (NL fun q=>(no [a,b] [(1,(P V0 I),V1),(1,(P V1 I),V0)] rfl x q))))))
theorem l193(A:a≤b)(B:b≤a):a=b:=AN (NL fun y=>(no [a,b] [(1,V0,V1),(1,(P V1 I),V0)] rfl A y)) (NL fun x=>(no [b,a] [(1,V0,V1),(1,(P V1 I),V0)] rfl B x))
theorem l194(A:¬b≤a):a≤(a+b)/2:=NL fun z=>(no [a,b,((a+b)/2),((a+b)%2)] [(1,(P V0 I),V1),(2,(P V2 I),V0),(1,(P V3 I),(.num 2)),(1,(P V0 V1),(P (M 2 V2) V3))] rfl (NT A) z (ML (a+b) 1) (ER (DM (a+b) 2)))
theorem l195(A:¬b≤a):(a+b)/2<b:=NT fun z=>(no [a,b,((a+b)/2),((a+b)%2)] [(1,(P V0 I),V1),(2,V1,V2),(1,(P (M 2 V2) V3),(P V0 V1))] rfl (NT A) z (EL (DM (a+b) 2)))
theorem l196(A:a≤b):a≤b:=NL fun z=>(no [a,b] [(1,V0,V1),(1,(P V1 I),V0)] rfl A z)
theorem l197(A:c≤b)(B:a<c):a≤b:=NL fun z=>(no [c,b,a] [(1,V0,V1),(1,(P V2 I),V0),(1,(P V1 I),V2)] rfl A B z)
theorem l198(A:d-b≤c+1)(B:a<d):a-b≤c:=NL fun z=>(TO b a (fun y=>(no [(d-b),c,a,d,(a-b),b] [(1,V0,(P V1 I)),(1,(P V2 I),V3),(1,(P V1 I),V4),(1,(P V4 V5),V2),(1,V3,(P V0 V5))] rfl A B z (EL (SC y)) (ER (SC (NL fun q=>(no [a,d,b] [(1,(P V0 I),V1),(1,V2,V0),(1,(P V1 I),V2)] rfl B y q)))))) (fun x=>(no [c,(a-b)] [(1,(P V0 I),V1),(1,V1,O)] rfl z (EL (SZ x)))))
theorem l199(A:c≤d)(B:a<c)(C:d<b):a<b:=NT fun z=>(no [c,d,a,b] [(1,V0,V1),(1,(P V2 I),V0),(1,(P V1 I),V3),(1,V3,V2)] rfl A B C z)
theorem l200(A:a≤b)(B:b≠a):a<b:=NT fun z=>(NE B (fun y=>(no [a,b] [(1,V0,V1),(1,(P V1 I),V0)] rfl A y)) (fun x=>(no [b,a] [(1,V0,V1),(1,(P V1 I),V0)] rfl z x)))
theorem l201(A:a<b):a+1≤b:=NL fun z=>(no [a,b] [(1,(P V0 I),V1),(1,(P V1 I),(P V0 I))] rfl A z)
theorem l202(A:a-d≤c+1)(B:d≤b):a-(b+1)≤c:=NL fun z=>(TO (b+1) a (fun y=>(no [(a-d),c,d,b,(a-(b+1)),a] [(1,V0,(P V1 I)),(1,V2,V3),(1,(P V1 I),V4),(1,(P V4 (P V3 I)),V5),(1,V5,(P V0 V2))] rfl A B z (EL (SC y)) (ER (SC (NL fun q=>(no [d,b,a] [(1,V0,V1),(1,(P V1 I),V2),(1,(P V2 I),V0)] rfl B y q)))))) (fun x=>(no [c,(a-(b+1))] [(1,(P V0 I),V1),(1,V1,O)] rfl z (EL (SZ x)))))
theorem l203(A:c≤d)(B:a<e+1)(C:d<b)(D:e<c):a<b:=NT fun z=>(no [c,d,a,e,b] [(1,V0,V1),(1,(P V2 I),(P V3 I)),(1,(P V1 I),V4),(1,(P V3 I),V0),(1,V4,V2)] rfl A B C D z)
theorem l204(A:c≤b)(B:a<c):a<b:=NT fun z=>(no [c,b,a] [(1,V0,V1),(1,(P V2 I),V0),(1,V1,V2)] rfl A B z)
theorem l205(A:a+0=b):a=b:=AN (NL fun y=>(no [a,b] [(1,(P V0 O),V1),(1,(P V1 I),V0)] rfl (EL A) y)) (NL fun x=>(no [b,a] [(1,V0,(P V1 O)),(1,(P V1 I),V0)] rfl (ER A) x))
theorem l206(A:a+(c+1)=b):a<b:=NT fun z=>(no [a,c,b] [(1,(P V0 (P V1 I)),V2),(1,V2,V0)] rfl (EL A) z)
theorem l207:0≤a:=NL fun z=>(no [a] [(1,(P V0 I),O)] rfl z)
theorem l208:a-0≤a:=NL fun z=>(no [a,(a-0)] [(1,(P V0 I),V1),(1,(P V1 O),V0)] rfl z (EL (SC (NL fun y=>(no [a] [(1,(P V0 I),O)] rfl y)))))
theorem l209:a-b≤a:=NL fun z=>(TO b a (fun y=>(no [a,(a-b),b] [(1,(P V0 I),V1),(1,(P V1 V2),V0)] rfl z (EL (SC y)))) (fun x=>(no [a,(a-b)] [(1,(P V0 I),V1),(1,V1,O)] rfl z (EL (SZ x)))))
theorem l219(A:a=b):a=b:=AN (NL fun y=>(no [a,b] [(1,V0,V1),(1,(P V1 I),V0)] rfl (EL A) y)) (NL fun x=>(no [b,a] [(1,V0,V1),(1,(P V1 I),V0)] rfl (ER A) x))
theorem l220(A:a+(b+1)=c):a+1+b=c:=AN (NL fun y=>(no [a,b,c] [(1,(P V0 (P V1 I)),V2),(1,(P V2 I),(P (P V0 I) V1))] rfl (EL A) y)) (NL fun x=>(no [c,a,b] [(1,V0,(P V1 (P V2 I))),(1,(P (P (P V1 I) V2) I),V0)] rfl (ER A) x))
theorem l221(A:c+(d+1)=b)(B:a<e)(C:e<c+1):a<b:=NT fun z=>(no [c,d,b,a,e] [(1,(P V0 (P V1 I)),V2),(1,(P V3 I),V4),(1,(P V4 I),(P V0 I)),(1,V2,V3)] rfl (EL A) B C z)
theorem l222(A:c+(d+1)=b)(B:a<c+1):a<b:=NT fun z=>(no [c,d,b,a] [(1,(P V0 (P V1 I)),V2),(1,(P V3 I),(P V0 I)),(1,V2,V3)] rfl (EL A) B z)
theorem l223(A:c=b)(B:a<c):a≠b:=fun z=>(no [c,b,a] [(1,V0,V1),(1,(P V2 I),V0),(1,V1,V2)] rfl (EL A) B (ER z))
theorem l224(A:d=a)(B:b<d):¬(a<b∧b≤c):=fun z=>(no [d,a,b] [(1,V0,V1),(1,(P V2 I),V0),(1,(P V1 I),V2)] rfl (EL A) B (And.left z))
theorem l225(A:c+(d+1)=b)(B:e=f)(C:f≤c)(D:a<e):a<b:=NT fun z=>(no [c,d,b,e,f,a] [(1,(P V0 (P V1 I)),V2),(1,V3,V4),(1,V4,V0),(1,(P V5 I),V3),(1,V2,V5)] rfl (EL A) (EL B) C D z)
theorem l226(A:a=b)(B:c=d)(C:b≤c)(D:d<a):False:=no [a,b,c,d] [(1,V0,V1),(1,V2,V3),(1,V1,V2),(1,(P V3 I),V0)] rfl (EL A) (EL B) C D
theorem l227(A:d=a)(B:b<c+1)(C:d<b):a<b∧b≤c:=And.intro (NT fun y=>(no [a,d,b] [(1,V0,V1),(1,(P V1 I),V2),(1,V2,V0)] rfl (ER A) C y)) (NL fun x=>(no [b,c] [(1,(P V0 I),(P V1 I)),(1,(P V1 I),V0)] rfl B x))
theorem l228(A:c=a)(B:c<b):a≤b-1:=NL fun z=>(no [a,c,b,(b-1)] [(1,V0,V1),(1,(P V1 I),V2),(1,(P V3 I),V0),(1,V2,(P V3 I))] rfl (ER A) B z (ER (SC (NL fun y=>(no [c,b] [(1,(P V0 I),V1),(1,(P V1 I),I)] rfl B y)))))
theorem l229(A:a<b+1)(B:c<a):a-1<b:=NT fun z=>(no [a,b,(a-1)] [(1,(P V0 I),(P V1 I)),(1,V1,V2),(1,(P V2 I),V0)] rfl A z (EL (SC (NL fun y=>(no [c,a] [(1,(P V0 I),V1),(1,(P V1 I),I)] rfl B y)))))
theorem l230(A:c<a∧a≤d)(B:a<b):a-1<b-1:=NT fun z=>(no [a,b,(b-1),(a-1)] [(1,(P V0 I),V1),(1,V2,V3),(1,(P V3 I),V0),(1,V1,(P V2 I))] rfl B z (EL (SC (NL fun y=>(no [c,a] [(1,(P V0 I),V1),(1,(P V1 I),I)] rfl (And.left A) y)))) (ER (SC (NL fun x=>(no [c,a,b] [(1,(P V0 I),V1),(1,(P V1 I),V2),(1,(P V2 I),I)] rfl (And.left A) B x)))))
theorem l231(A:c<a∧a≤b):a-1<b:=NT fun z=>(no [a,b,(a-1)] [(1,V0,V1),(1,V1,V2),(1,(P V2 I),V0)] rfl (And.right A) z (EL (SC (NL fun y=>(no [c,a] [(1,(P V0 I),V1),(1,(P V1 I),I)] rfl (And.left A) y)))))
theorem l233(A:b<d)(B:d<c+1)(C:¬(a<d∧d≤c)):¬(a<b∧b≤c):=fun z=>(Or.elim (NA C) (fun y=>(no [b,d,a] [(1,(P V0 I),V1),(1,(P V2 I),V0),(1,V1,V2)] rfl A (And.left z) (NL y))) (fun x=>(no [d,c] [(1,(P V0 I),(P V1 I)),(1,(P V1 I),V0)] rfl B (NT x))))
theorem l234(A:c≤b)(B:a<b+1)(C:a≠c)(D:¬(c<a∧a≤b)):a<b:=NT fun z=>(NE C (fun y=>(no [c,b,a] [(1,V0,V1),(1,V1,V2),(1,(P V2 I),V0)] rfl A z y)) (fun x=>(Or.elim (NA D) (fun q=>(no [c,a] [(1,(P V0 I),V1),(1,V1,V0)] rfl x (NL q))) (fun r=>(no [a,b] [(1,(P V0 I),(P V1 I)),(1,(P V1 I),V0)] rfl B (NT r))))))
theorem l235(A:a<b):a+(b-a)=b:=AN (NL fun y=>(no [b,a,(b-a)] [(1,(P V0 I),(P V1 V2)),(1,(P V2 V1),V0)] rfl y (EL (SC (NL fun x=>(no [a,b] [(1,(P V0 I),V1),(1,(P V1 I),V0)] rfl A x)))))) (NL fun q=>(no [a,(b-a),b] [(1,(P (P V0 V1) I),V2),(1,V2,(P V1 V0))] rfl q (ER (SC (NL fun r=>(no [a,b] [(1,(P V0 I),V1),(1,(P V1 I),V0)] rfl A r))))))
theorem l236(A:a≤b)(B:¬a<b):a=b:=AN (NL fun y=>(no [a,b] [(1,V0,V1),(1,(P V1 I),V0)] rfl A y)) (NL fun x=>(no [b,a] [(1,V0,V1),(1,(P V1 I),V0)] rfl (NL B) x))
theorem l237(A:¬a<2):2≤a:=NL fun z=>(no [a] [(1,(.num 2),V0),(1,(P V0 I),(.num 2))] rfl (NL A) z)
theorem l238(A:c<d+1-(b+2*(1+a))):0<1+a∧b+2*(1+a)≤b+2*(1+a)+c∧b+2*(1+a)+c≤d:=And.intro (NT fun y=>(no [a] [(1,(P I V0),O)] rfl y)) (And.intro (NL fun q=>(no [b,a,c] [(1,(P (P (P V0 (M 2 (P I V1))) V2) I),(P V0 (M 2 (P I V1))))] rfl q)) (NL fun r=>(TO (b+2*(1+a)) (d+1) (fun z1=>(no [c,(d+1-(b+2*(1+a))),d,b,a] [(1,(P V0 I),V1),(1,(P V2 I),(P (P V3 (M 2 (P I V4))) V0)),(1,(P V1 (P V3 (M 2 (P I V4)))),(P V2 I))] rfl A r (EL (SC z1)))) (fun y1=>(no [c,(d+1-(b+2*(1+a)))] [(1,(P V0 I),V1),(1,V1,O)] rfl A (EL (SZ y1)))))))
theorem l239(A:c+2*a≤d)(B:d≤b)(C:0<a):a-1<b/2:=NT fun z=>(no [c,a,d,b,(b/2),(a-1),(b%2)] [(1,(P V0 (M 2 V1)),V2),(1,V2,V3),(2,V4,V5),(2,(P V5 I),V1),(1,(P V6 I),(.num 2)),(1,V3,(P (M 2 V4) V6))] rfl A B z (EL (SC (NL fun y=>(no [a] [(1,(P O I),V0),(1,(P V0 I),I)] rfl C y)))) (ML b 1) (ER (DM b 2)))
theorem l240(A:a+2*c≤d)(B:d≤b)(C:0<c):a<b-2*(1+(c-1))+1:=NT fun z=>(no [a,c,d,b,(b-2*(1+(c-1))),(c-1)] [(1,(P V0 (M 2 V1)),V2),(1,V2,V3),(1,(P V4 I),V0),(2,(P V5 I),V1),(1,V3,(P V4 (M 2 (P I V5))))] rfl A B z (EL (SC (NL fun y=>(no [c] [(1,(P O I),V0),(1,(P V0 I),I)] rfl C y)))) (ER (SC (NL fun x=>(no [a,c,d,b,(c-1)] [(1,(P V0 (M 2 V1)),V2),(1,V2,V3),(2,(P V4 I),V1),(1,(P V3 I),(M 2 (P I V4)))] rfl A B (EL (SC (NL fun y=>(no [c] [(1,(P O I),V0),(1,(P V0 I),I)] rfl C y)))) x)))))
theorem l243(A:0<a):1+(a-1)=a:=AN (NL fun y=>(no [a,(a-1)] [(1,(P V0 I),(P I V1)),(1,(P V1 I),V0)] rfl y (EL (SC (NL fun x=>(no [a] [(1,(P O I),V0),(1,(P V0 I),I)] rfl A x)))))) (NL fun q=>(no [(a-1),a] [(1,(P (P I V0) I),V1),(1,V1,(P V0 I))] rfl q (ER (SC (NL fun r=>(no [a] [(1,(P O I),V0),(1,(P V0 I),I)] rfl A r))))))
theorem l244(A:a<b):1+a≤1+b:=NL fun z=>(no [a,b] [(1,(P V0 I),V1),(1,(P (P I V1) I),(P I V0))] rfl A z)
theorem l245(A:a≤c):a-b≤c:=NL fun z=>(TO b a (fun y=>(no [a,c,(a-b),b] [(1,V0,V1),(1,(P V1 I),V2),(1,(P V2 V3),V0)] rfl A z (EL (SC y)))) (fun x=>(no [a,c,(a-b)] [(1,V0,V1),(1,(P V1 I),V2),(1,V2,O)] rfl A z (EL (SZ x)))))
theorem l246(A:a+2*c≤d)(B:d≤b):a≤b:=NL fun z=>(no [a,c,d,b] [(1,(P V0 (M 2 V1)),V2),(1,V2,V3),(1,(P V3 I),V0)] rfl A B z)
theorem l247(A:a+2*b≤d)(B:d≤c):a+b≤c:=NL fun z=>(no [a,b,d,c] [(1,(P V0 (M 2 V1)),V2),(1,V2,V3),(1,(P V3 I),(P V0 V1))] rfl A B z)
theorem l249(A:b≤a)(B:a+d<c):a-b<c-(b+d):=NT fun z=>(no [a,d,c,(c-(b+d)),(a-b),b] [(1,(P (P V0 V1) I),V2),(1,V3,V4),(1,(P V4 V5),V0),(1,V2,(P V3 (P V5 V1)))] rfl B z (EL (SC (NL fun y=>(no [b,a] [(1,V0,V1),(1,(P V1 I),V0)] rfl A y)))) (ER (SC (NL fun x=>(no [b,a,d,c] [(1,V0,V1),(1,(P (P V1 V2) I),V3),(1,(P V3 I),(P V0 V2))] rfl A B x)))))
theorem l250(A:a≤c):a+b+(c-a)=c+b:=AN (NL fun y=>(no [c,b,a,(c-a)] [(1,(P (P V0 V1) I),(P (P V2 V1) V3)),(1,(P V3 V2),V0)] rfl y (EL (SC (NL fun x=>(no [a,c] [(1,V0,V1),(1,(P V1 I),V0)] rfl A x)))))) (NL fun q=>(no [a,b,(c-a),c] [(1,(P (P (P V0 V1) V2) I),(P V3 V1)),(1,V3,(P V2 V0))] rfl q (ER (SC (NL fun r=>(no [a,c] [(1,V0,V1),(1,(P V1 I),V0)] rfl A r))))))
theorem l251(A:c≤b)(B:a+d<c):a<b:=NT fun z=>(no [c,b,a,d] [(1,V0,V1),(1,(P (P V2 V3) I),V0),(1,V1,V2)] rfl A B z)
theorem l252(A:d≤c)(B:a+b<d):a+b<c:=NT fun z=>(no [d,c,a,b] [(1,V0,V1),(1,(P (P V2 V3) I),V0),(1,V1,(P V2 V3))] rfl A B z)
theorem l255(A:e≤d)(B:c<e-b-a):a+b+c<d:=NT fun z=>(TO b e (fun y=>(TO a (e-b) (fun q=>(no [e,d,c,(e-b-a),a,b,(e-b)] [(1,V0,V1),(1,(P V2 I),V3),(1,V1,(P (P V4 V5) V2)),(1,(P V6 V5),V0),(1,(P V3 V4),V6)] rfl A B z (EL (SC y)) (EL (SC q)))) (fun r=>(no [c,(e-b-a)] [(1,(P V0 I),V1),(1,V1,O)] rfl B (EL (SZ r)))))) (fun x=>(TO a (e-b) (fun z1=>(no [c,(e-b-a),(e-b),a] [(1,(P V0 I),V1),(1,V2,O),(1,(P V1 V3),V2)] rfl B (EL (SZ x)) (EL (SC z1)))) (fun y1=>(no [c,(e-b-a)] [(1,(P V0 I),V1),(1,V1,O)] rfl B (EL (SZ y1)))))))
theorem l256(A:b<d-c-a):a+b+c<d:=NT fun z=>(TO c d (fun y=>(TO a (d-c) (fun q=>(no [b,(d-c-a),d,a,c,(d-c)] [(1,(P V0 I),V1),(1,V2,(P (P V3 V0) V4)),(1,(P V5 V4),V2),(1,(P V1 V3),V5)] rfl A z (EL (SC y)) (EL (SC q)))) (fun r=>(no [b,(d-c-a)] [(1,(P V0 I),V1),(1,V1,O)] rfl A (EL (SZ r)))))) (fun x=>(TO a (d-c) (fun z1=>(no [b,(d-c-a),(d-c),a] [(1,(P V0 I),V1),(1,V2,O),(1,(P V1 V3),V2)] rfl A (EL (SZ x)) (EL (SC z1)))) (fun y1=>(no [b,(d-c-a)] [(1,(P V0 I),V1),(1,V1,O)] rfl A (EL (SZ y1)))))))
theorem l258(A:¬0<a):a=0:=AN (NL fun y=>(no [a] [(1,V0,O),(1,(P O I),V0)] rfl (NL A) y)) (NL fun x=>(no [a] [(1,(P V0 I),O)] rfl x))
theorem l259(A:a=0):¬0<a:=fun z=>(no [a] [(1,V0,O),(1,(P O I),V0)] rfl (EL A) z)
theorem l260(A:a=b):¬a<b:=fun z=>(no [b,a] [(1,V0,V1),(1,(P V1 I),V0)] rfl (ER A) z)
theorem l261(A:c+a≤b):(min a (b-c))=a:=AN (NL fun y=>(TO a (b-c) (fun q=>(no [a,(min a (b-c))] [(1,(P V0 I),V1),(1,V1,V0)] rfl y (EL (Nat.min_eq_left q)))) (fun r=>(no [a,(min a (b-c)),(b-c)] [(1,(P V0 I),V1),(1,V2,V0),(1,V1,V2)] rfl y r (EL (Nat.min_eq_right r)))))) (NL fun z1=>(TO a (b-c) (fun x1=>(no [(min a (b-c)),a] [(1,(P V0 I),V1),(1,V1,V0)] rfl z1 (ER (Nat.min_eq_left x1)))) (fun q1=>(no [c,a,b,(min a (b-c)),(b-c)] [(1,(P V0 V1),V2),(1,(P V3 I),V1),(1,V2,(P V4 V0)),(1,V4,V3)] rfl A z1 (ER (SC (NL fun y1=>(no [c,a,b] [(1,(P V0 V1),V2),(1,(P V2 I),V0)] rfl A y1)))) (ER (Nat.min_eq_right q1))))))
theorem l262(A:d=e)(B:a+e≤c)(C:b<d):a+b<c:=NT fun z=>(no [d,e,a,c,b] [(1,V0,V1),(1,(P V2 V1),V3),(1,(P V4 I),V0),(1,V3,(P V2 V4))] rfl (EL A) B C z)
theorem l263(A:c=a)(B:d=b)(C:c<d):a<b:=NT fun z=>(no [a,c,d,b] [(1,V0,V1),(1,V2,V3),(1,(P V1 I),V2),(1,V3,V0)] rfl (ER A) (EL B) C z)
theorem l264(A:b=c)(B:a<c):a<b:=NT fun z=>(no [c,b,a] [(1,V0,V1),(1,(P V2 I),V0),(1,V1,V2)] rfl (ER A) B z)
theorem l265(A:c=d)(B:a<d)(C:c<b):a<b:=NT fun z=>(no [d,c,a,b] [(1,V0,V1),(1,(P V2 I),V0),(1,(P V1 I),V3),(1,V3,V2)] rfl (ER A) B C z)
theorem l266(A:a=c)(B:b=d)(C:c<d):a<b:=NT fun z=>(no [a,c,d,b] [(1,V0,V1),(1,V2,V3),(1,(P V1 I),V2),(1,V3,V0)] rfl (EL A) (ER B) C z)
theorem l267(A:a=c)(B:b=d)(C:c<d):a=(min a b):=AN (NL fun y=>(TO a b (fun x=>(no [(min a b),a] [(1,(P V0 I),V1),(1,V1,V0)] rfl y (ER (Nat.min_eq_left x)))) (fun q=>(no [a,c,d,b] [(1,V0,V1),(1,V2,V3),(1,(P V1 I),V2),(1,V3,V0)] rfl (EL A) (ER B) C q)))) (NL fun r=>(TO a b (fun z1=>(no [a,(min a b)] [(1,(P V0 I),V1),(1,V1,V0)] rfl r (EL (Nat.min_eq_left z1)))) (fun y1=>(no [a,c,d,b] [(1,V0,V1),(1,V2,V3),(1,(P V1 I),V2),(1,V3,V0)] rfl (EL A) (ER B) C y1))))
theorem l268(A:b<a):a-1-b<a:=NT fun z=>(no [a,(a-1-b),(a-1),b] [(1,V0,V1),(1,(P V2 I),V0),(1,(P V1 V3),V2)] rfl z (EL (SC (NL fun y=>(no [b,a] [(1,(P V0 I),V1),(1,(P V1 I),I)] rfl A y)))) (EL (SC (NL fun x=>(no [b,a,(a-1)] [(1,(P V0 I),V1),(1,V1,(P V2 I)),(1,(P V2 I),V0)] rfl A (ER (SC (NL fun y=>(no [b,a] [(1,(P V0 I),V1),(1,(P V1 I),I)] rfl A y)))) x)))))
theorem l270(A:b=c)(B:a≤c):a≤b:=NL fun z=>(no [c,b,a] [(1,V0,V1),(1,V2,V0),(1,(P V1 I),V2)] rfl (ER A) B z)
theorem l272(A:c+d=e+f∧a≤g∧f≤d)(B:g≤b):a≤b:=NL fun z=>(no [a,g,b] [(1,V0,V1),(1,V1,V2),(1,(P V2 I),V0)] rfl (And.left (And.right A)) B z)
theorem l273(A:a<b+1)(B:¬a<b):a=b:=AN (NL fun y=>(no [a,b] [(1,(P V0 I),(P V1 I)),(1,(P V1 I),V0)] rfl A y)) (NL fun x=>(no [b,a] [(1,V0,V1),(1,(P V1 I),V0)] rfl (NL B) x))
theorem l274(A:a+1≤b):a<b:=NT fun z=>(no [a,b] [(1,(P V0 I),V1),(1,V1,V0)] rfl A z)
theorem l275(A:b+1≤a):a-1-b<a:=NT fun z=>(no [a,(a-1-b),(a-1),b] [(1,V0,V1),(1,(P V2 I),V0),(1,(P V1 V3),V2)] rfl z (EL (SC (NL fun y=>(no [b,a] [(1,(P V0 I),V1),(1,(P V1 I),I)] rfl A y)))) (EL (SC (NL fun x=>(no [b,a,(a-1)] [(1,(P V0 I),V1),(1,V1,(P V2 I)),(1,(P V2 I),V0)] rfl A (ER (SC (NL fun y=>(no [b,a] [(1,(P V0 I),V1),(1,(P V1 I),I)] rfl A y)))) x)))))
theorem l276(A:c=a)(B:b<a):a-1-b<c:=NT fun z=>(no [a,c,(a-1-b),(a-1),b] [(1,V0,V1),(1,V1,V2),(1,(P V3 I),V0),(1,(P V2 V4),V3)] rfl (ER A) z (EL (SC (NL fun y=>(no [b,a] [(1,(P V0 I),V1),(1,(P V1 I),I)] rfl B y)))) (EL (SC (NL fun x=>(no [b,a,(a-1)] [(1,(P V0 I),V1),(1,V1,(P V2 I)),(1,(P V2 I),V0)] rfl B (ER (SC (NL fun y=>(no [b,a] [(1,(P V0 I),V1),(1,(P V1 I),I)] rfl B y)))) x)))))
theorem l278(A:a+b≤c):a+b≤c:=NL fun z=>(no [a,b,c] [(1,(P V0 V1),V2),(1,(P V2 I),(P V0 V1))] rfl A z)
theorem l279(A:a+c≤b):a≤b:=NL fun z=>(no [a,c,b] [(1,(P V0 V1),V2),(1,(P V2 I),V0)] rfl A z)
theorem l280:a+b-a=b:=AN (NL fun y=>(no [b,(a+b-a),a] [(1,(P V0 I),V1),(1,(P V1 V2),(P V2 V0))] rfl y (EL (SC (NL fun x=>(no [a,b] [(1,(P (P V0 V1) I),V0)] rfl x)))))) (NL fun q=>(no [(a+b-a),b,a] [(1,(P V0 I),V1),(1,(P V2 V1),(P V0 V2))] rfl q (ER (SC (NL fun r=>(no [(a+b-a),b,a] [(1,(P V0 I),V1),(1,(P (P V2 V1) I),V2)] rfl q r))))))
theorem l281(A:a+c≤d)(B:b<c):a+b+(c-b)≤d:=NL fun z=>(no [a,c,d,b,(c-b)] [(1,(P V0 V1),V2),(1,(P V2 I),(P (P V0 V3) V4)),(1,(P V4 V3),V1)] rfl A z (EL (SC (NL fun y=>(no [b,c] [(1,(P V0 I),V1),(1,(P V1 I),V0)] rfl B y)))))
theorem l282(A:0<a)(B:a<b):a-1<b-1:=NT fun z=>(no [a,b,(b-1),(a-1)] [(1,(P V0 I),V1),(1,V2,V3),(1,(P V3 I),V0),(1,V1,(P V2 I))] rfl B z (EL (SC (NL fun y=>(no [a] [(1,(P O I),V0),(1,(P V0 I),I)] rfl A y)))) (ER (SC (NL fun x=>(no [a,b] [(1,(P O I),V0),(1,(P V0 I),V1),(1,(P V1 I),I)] rfl A B x)))))
theorem l283:0<1+a:=NT fun z=>(no [a] [(1,(P I V0),O)] rfl z)
theorem l284(A:a<b-1):1+a<b:=NT fun z=>(TO 1 b (fun y=>(no [a,(b-1),b] [(1,(P V0 I),V1),(1,V2,(P I V0)),(1,(P V1 I),V2)] rfl A z (EL (SC y)))) (fun x=>(no [a,(b-1)] [(1,(P V0 I),V1),(1,V1,O)] rfl A (EL (SZ x)))))
theorem l285(A:c<b-(1+a)):1+a<b:=NT fun z=>(TO (1+a) b (fun y=>(no [c,(b-(1+a)),b,a] [(1,(P V0 I),V1),(1,V2,(P I V3)),(1,(P V1 (P I V3)),V2)] rfl A z (EL (SC y)))) (fun x=>(no [c,(b-(1+a))] [(1,(P V0 I),V1),(1,V1,O)] rfl A (EL (SZ x)))))
theorem l286(A:a<b-(1+c)):a<b:=NT fun z=>(TO (1+c) b (fun y=>(no [a,(b-(1+c)),b,c] [(1,(P V0 I),V1),(1,V2,V0),(1,(P V1 (P I V3)),V2)] rfl A z (EL (SC y)))) (fun x=>(no [a,(b-(1+c))] [(1,(P V0 I),V1),(1,V1,O)] rfl A (EL (SZ x)))))
theorem l287(A:a+1+(b+1)≤c):a+1+b≤c:=NL fun z=>(no [a,b,c] [(1,(P (P V0 I) (P V1 I)),V2),(1,(P V2 I),(P (P V0 I) V1))] rfl A z)
theorem l288:0<2+a:=NT fun z=>(no [a] [(1,(P (.num 2) V0),O)] rfl z)
theorem l289(A:a+1+(b+1)≤c):a+(2+b)≤c:=NL fun z=>(no [a,b,c] [(1,(P (P V0 I) (P V1 I)),V2),(1,(P V2 I),(P V0 (P (.num 2) V1)))] rfl A z)
theorem l290:a+(2+b)=a+2+b:=AN (NL fun y=>(no [a,b] [(1,(P (P (P V0 (.num 2)) V1) I),(P V0 (P (.num 2) V1)))] rfl y)) (NL fun x=>(no [a,b] [(1,(P (P V0 (P (.num 2) V1)) I),(P (P V0 (.num 2)) V1))] rfl x))
theorem l291:2+a≤1+(a+1):=NL fun z=>(no [a] [(1,(P (P I (P V0 I)) I),(P (.num 2) V0))] rfl z)
theorem l292(A:a≤1+(b+1)):a≤2+b:=NL fun z=>(no [a,b] [(1,V0,(P I (P V1 I))),(1,(P (P (.num 2) V1) I),V0)] rfl A z)
theorem l293(A:a≤1+b):a≤1+(b+1):=NL fun z=>(no [a,b] [(1,V0,(P I V1)),(1,(P (P I (P V1 I)) I),V0)] rfl A z)
theorem l294(A:a≤1+(b+1))(B:a≠2+b):a≤1+b:=NL fun z=>(NE B (fun y=>(no [b,a] [(1,(P (P I V0) I),V1),(1,(P V1 I),(P (.num 2) V0))] rfl z y)) (fun x=>(no [a,b] [(1,V0,(P I (P V1 I))),(1,(P (P (.num 2) V1) I),V0)] rfl A x)))
theorem l295(A:a+c≤b)(B:0<c):a+1+(b+1-(a+2))≤b:=NL fun z=>(no [b,a,(b+1-(a+2))] [(1,(P V0 I),(P (P V1 I) V2)),(1,(P V2 (P V1 (.num 2))),(P V0 I))] rfl z (EL (SC (NL fun y=>(no [a,c,b] [(1,(P V0 V1),V2),(1,(P O I),V1),(1,(P (P V2 I) I),(P V0 (.num 2)))] rfl A B y)))))
theorem l296(A:a+d≤c)(B:b≤1+(c+1-(a+2)))(C:0<d):a+b≤c:=NL fun z=>(no [b,(c+1-(a+2)),c,a] [(1,V0,(P I V1)),(1,(P V2 I),(P V3 V0)),(1,(P V1 (P V3 (.num 2))),(P V2 I))] rfl B z (EL (SC (NL fun y=>(no [a,d,c] [(1,(P V0 V1),V2),(1,(P O I),V1),(1,(P (P V2 I) I),(P V0 (.num 2)))] rfl A C y)))))
theorem l297(A:c+a≤b):a≤1+(b+1-(c+2)):=NL fun z=>(no [c,a,b,(b+1-(c+2))] [(1,(P V0 V1),V2),(1,(P (P I V3) I),V1),(1,(P V2 I),(P V3 (P V0 (.num 2))))] rfl A z (ER (SC (NL fun y=>(no [c,a,b,(b+1-(c+2))] [(1,(P V0 V1),V2),(1,(P (P I V3) I),V1),(1,(P (P V2 I) I),(P V0 (.num 2)))] rfl A z y)))))
theorem l299(A:a+(c+1)<b):a+1<b:=NT fun z=>(no [a,c,b] [(1,(P (P V0 (P V1 I)) I),V2),(1,V2,(P V0 I))] rfl A z)
theorem l300:a+(1+b)=a+1+b:=AN (NL fun y=>(no [a,b] [(1,(P (P (P V0 I) V1) I),(P V0 (P I V1)))] rfl y)) (NL fun x=>(no [a,b] [(1,(P (P V0 (P I V1)) I),(P (P V0 I) V1))] rfl x))
theorem l301(A:a≤b):1+a≤b+1:=NL fun z=>(no [a,b] [(1,V0,V1),(1,(P (P V1 I) I),(P I V0))] rfl A z)
theorem l302(A:a=b):1+a=b+1:=AN (NL fun y=>(no [a,b] [(1,V0,V1),(1,(P (P V1 I) I),(P I V0))] rfl (EL A) y)) (NL fun x=>(no [b,a] [(1,V0,V1),(1,(P (P I V1) I),(P V0 I))] rfl (ER A) x))
theorem l303:1+a+1=1+(a+1):=AN (NL fun y=>(no [a] [(1,(P (P I (P V0 I)) I),(P (P I V0) I))] rfl y)) (NL fun x=>(no [a] [(1,(P (P (P I V0) I) I),(P I (P V0 I)))] rfl x))
theorem l304:a+(1+b)+1=a+(1+(b+1)):=AN (NL fun y=>(no [a,b] [(1,(P (P V0 (P I (P V1 I))) I),(P (P V0 (P I V1)) I))] rfl y)) (NL fun x=>(no [a,b] [(1,(P (P (P V0 (P I V1)) I) I),(P V0 (P I (P V1 I))))] rfl x))
theorem l305(A:b+c≤a)(B:1≤c):a-(b+c)<a-b:=NT fun z=>(no [c,(a-b),(a-(b+c)),b,a] [(1,I,V0),(1,V1,V2),(1,(P V2 (P V3 V0)),V4),(1,V4,(P V1 V3))] rfl B z (EL (SC (NL fun y=>(no [b,c,a] [(1,(P V0 V1),V2),(1,(P V2 I),(P V0 V1))] rfl A y)))) (ER (SC (NL fun x=>(no [b,c,a] [(1,(P V0 V1),V2),(1,I,V1),(1,(P V2 I),V0)] rfl A B x)))))
theorem l306(A:a+b≤d)(B:c≤d-(a+b)):a+b+c≤d:=NL fun z=>(no [c,(d-(a+b)),d,a,b] [(1,V0,V1),(1,(P V2 I),(P (P V3 V4) V0)),(1,(P V1 (P V3 V4)),V2)] rfl B z (EL (SC (NL fun y=>(no [a,b,d] [(1,(P V0 V1),V2),(1,(P V2 I),(P V0 V1))] rfl A y)))))
theorem l307(A:c=d-(a+b))(B:a+b≤d):a+b+c=d:=AN (NL fun y=>(no [c,(d-(a+b)),d,a,b] [(1,V0,V1),(1,(P V2 I),(P (P V3 V4) V0)),(1,(P V1 (P V3 V4)),V2)] rfl (EL A) y (EL (SC (NL fun x=>(no [a,b,d] [(1,(P V0 V1),V2),(1,(P V2 I),(P V0 V1))] rfl B x)))))) (NL fun q=>(no [(d-(a+b)),c,a,b,d] [(1,V0,V1),(1,(P (P (P V2 V3) V1) I),V4),(1,V4,(P V0 (P V2 V3)))] rfl (ER A) q (ER (SC (NL fun r=>(no [a,b,d] [(1,(P V0 V1),V2),(1,(P V2 I),(P V0 V1))] rfl B r))))))
theorem l308(A:1+a=0):False:=no [a] [(1,(P I V0),O)] rfl (EL A)
theorem l309(A:1+a=1+b):a=b:=AN (NL fun y=>(no [a,b] [(1,(P I V0),(P I V1)),(1,(P V1 I),V0)] rfl (EL A) y)) (NL fun x=>(no [b,a] [(1,(P I V0),(P I V1)),(1,(P V1 I),V0)] rfl (ER A) x))
theorem l310(A:a+d+e≤c)(B:b<e):a+b<c:=NT fun z=>(no [a,d,e,c,b] [(1,(P (P V0 V1) V2),V3),(1,(P V4 I),V2),(1,V3,(P V0 V4))] rfl A B z)
theorem l311(A:a+b+e≤d)(B:c<e):a+b+c<d:=NT fun z=>(no [a,b,e,d,c] [(1,(P (P V0 V1) V2),V3),(1,(P V4 I),V2),(1,V3,(P (P V0 V1) V4))] rfl A B z)
theorem l312(A:a+d+b≤c)(B:1≤d):a+b<c:=NT fun z=>(no [a,d,b,c] [(1,(P (P V0 V1) V2),V3),(1,I,V1),(1,V3,(P V0 V2))] rfl A B z)
theorem l313(A:a+b+c≤d)(B:a+b+c≠d):a+b+c<d:=NT fun z=>(NE B (fun y=>(no [d,a,b,c] [(1,V0,(P (P V1 V2) V3)),(1,(P (P (P V1 V2) V3) I),V0)] rfl z y)) (fun x=>(no [a,b,c,d] [(1,(P (P V0 V1) V2),V3),(1,(P V3 I),(P (P V0 V1) V2))] rfl A x)))
theorem l316(A:b=0)(B:b≠a):a≠0:=fun z=>(NE B (fun y=>(no [b,a] [(1,O,V0),(1,V1,O),(1,(P V0 I),V1)] rfl (ER A) (EL z) y)) (fun x=>(no [b,a] [(1,V0,O),(1,O,V1),(1,(P V1 I),V0)] rfl (EL A) (ER z) x)))
theorem l318(A:a<2)(B:b<2)(C:b≠0)(D:b≠a):a=0:=AN (NL fun y=>(NE C (fun x=>(no [b] [(1,(P V0 I),O)] rfl x)) (fun q=>(NE D (fun r=>(no [a,b] [(1,(P V0 I),(.num 2)),(1,(P O I),V1),(1,(P V1 I),V0)] rfl A q r)) (fun z1=>(no [b,a] [(1,(P V0 I),(.num 2)),(1,(P O I),V1),(1,(P V1 I),V0)] rfl B y z1)))))) (NL fun y1=>(no [a] [(1,(P V0 I),O)] rfl y1))
theorem l320(A:a+c+1=b):a<b:=NT fun z=>(no [a,c,b] [(1,(P (P V0 V1) I),V2),(1,V2,V0)] rfl (EL A) z)
theorem l322(A:c=b+d+e)(B:e+d+a≤c):a≤b:=NL fun z=>(no [c,b,d,e,a] [(1,V0,(P (P V1 V2) V3)),(1,(P (P V3 V2) V4),V0),(1,(P V1 I),V4)] rfl (EL A) B z)
theorem l323(A:c+b=d+1+a)(B:c≤d):a<b:=NT fun z=>(no [d,a,c,b] [(1,(P (P V0 I) V1),(P V2 V3)),(1,V2,V0),(1,V3,V1)] rfl (ER A) B z)
theorem l324(A:f+g=c+1+b)(B:e=f+g+d+a):a+b+(c+d)+1=e:=AN (NL fun y=>(no [c,b,f,g,d,a,e] [(1,(P (P V0 I) V1),(P V2 V3)),(1,(P (P (P V2 V3) V4) V5),V6),(1,(P V6 I),(P (P (P V5 V1) (P V0 V4)) I))] rfl (ER A) (ER B) y)) (NL fun x=>(no [f,g,c,b,e,d,a] [(1,(P V0 V1),(P (P V2 I) V3)),(1,V4,(P (P (P V0 V1) V5) V6)),(1,(P (P (P (P V6 V3) (P V2 V5)) I) I),V4)] rfl (EL A) (EL B) x))
theorem l325(A:f+g=d+1+c)(B:e=f+g+b+a):a+b+c+d+1=e:=AN (NL fun y=>(no [d,c,f,g,b,a,e] [(1,(P (P V0 I) V1),(P V2 V3)),(1,(P (P (P V2 V3) V4) V5),V6),(1,(P V6 I),(P (P (P (P V5 V4) V1) V0) I))] rfl (ER A) (ER B) y)) (NL fun x=>(no [f,g,d,c,e,b,a] [(1,(P V0 V1),(P (P V2 I) V3)),(1,V4,(P (P (P V0 V1) V5) V6)),(1,(P (P (P (P (P V6 V5) V3) V2) I) I),V4)] rfl (EL A) (EL B) x))
theorem l326(A:c+d+a+e<c+d+e+b):a<b:=NT fun z=>(no [c,d,a,e,b] [(1,(P (P (P (P V0 V1) V2) V3) I),(P (P (P V0 V1) V3) V4)),(1,V4,V2)] rfl A z)
theorem l327(A:a+b+c=d)(B:d=e+1+c+b+a):False:=no [d,a,b,c,e] [(1,V0,(P (P V1 V2) V3)),(1,(P (P (P (P V4 I) V3) V2) V1),V0)] rfl (ER A) (ER B)
theorem l328(A:e=c+1+b+d+a):a+b+(c+d)+1=e:=AN (NL fun y=>(no [c,b,d,a,e] [(1,(P (P (P (P V0 I) V1) V2) V3),V4),(1,(P V4 I),(P (P (P V3 V1) (P V0 V2)) I))] rfl (ER A) y)) (NL fun x=>(no [e,c,b,d,a] [(1,V0,(P (P (P (P V1 I) V2) V3) V4)),(1,(P (P (P (P V4 V2) (P V1 V3)) I) I),V0)] rfl (EL A) x))
theorem l329(A:e=d+1+c+b+a):a+b+c+d+1=e:=AN (NL fun y=>(no [d,c,b,a,e] [(1,(P (P (P (P V0 I) V1) V2) V3),V4),(1,(P V4 I),(P (P (P (P V3 V2) V1) V0) I))] rfl (ER A) y)) (NL fun x=>(no [e,d,c,b,a] [(1,V0,(P (P (P (P V1 I) V2) V3) V4)),(1,(P (P (P (P (P V4 V3) V2) V1) I) I),V0)] rfl (EL A) x))
theorem l330:(0:Nat)<2:=NT fun z=>(no [] [(1,(.num 2),O)] rfl z)
theorem l331:(1:Nat)<2:=NT fun z=>(no [] [(1,(.num 2),I)] rfl z)
theorem l332(A:a<b):a≠b:=fun z=>(no [a,b] [(1,(P V0 I),V1),(1,V1,V0)] rfl A (ER z))
theorem l333(A:a<256)(B:b<a):255-a<255-b:=NT fun z=>(no [b,a,(255-b),(255-a)] [(1,(P V0 I),V1),(1,V2,V3),(1,(P V3 V1),(.num 255)),(1,(.num 255),(P V2 V0))] rfl B z (EL (SC (NL fun y=>(no [a] [(1,(P V0 I),(.num 256)),(1,(P (.num 255) I),V0)] rfl A y)))) (ER (SC (NL fun x=>(no [a,b] [(1,(P V0 I),(.num 256)),(1,(P V1 I),V0),(1,(P (.num 255) I),V1)] rfl A B x)))))
theorem l334(A:a≠b)(B:¬b<a):a<b:=NT fun z=>(NE A (fun y=>(no [b,a] [(1,V0,V1),(1,(P V1 I),V0)] rfl z y)) (fun x=>(no [a,b] [(1,V0,V1),(1,(P V1 I),V0)] rfl (NL B) x)))
theorem l335(A:a+c≤d)(B:d≤b)(C:0<c):a<b:=NT fun z=>(no [a,c,d,b] [(1,(P V0 V1),V2),(1,V2,V3),(1,(P O I),V1),(1,V3,V0)] rfl A B C z)
theorem l336(A:2*b≤c-a)(B:0<b):a+2*b≤c:=NL fun z=>(TO a c (fun y=>(no [b,(c-a),c,a] [(1,(M 2 V0),V1),(1,(P V2 I),(P V3 (M 2 V0))),(1,(P V1 V3),V2)] rfl A z (EL (SC y)))) (fun x=>(no [b,(c-a)] [(1,(M 2 V0),V1),(2,(P O I),V0),(1,V1,O)] rfl A B (EL (SZ x)))))
theorem l337(A:c+d≤e)(B:e≤b)(C:a+f<c+d):a<b:=NT fun z=>(no [c,d,e,b,a,f] [(1,(P V0 V1),V2),(1,V2,V3),(1,(P (P V4 V5) I),(P V0 V1)),(1,V3,V4)] rfl A B C z)
theorem l338(A:d+e≤f)(B:f≤c)(C:a+b<d+e):a+b<c:=NT fun z=>(no [d,e,f,c,a,b] [(1,(P V0 V1),V2),(1,V2,V3),(1,(P (P V4 V5) I),(P V0 V1)),(1,V3,(P V4 V5))] rfl A B C z)
theorem l339(A:a≤c)(B:c≤b):a≤b:=NL fun z=>(no [a,c,b] [(1,V0,V1),(1,V1,V2),(1,(P V2 I),V0)] rfl A B z)
theorem l340(A:d+e≤c)(B:a+b<d+e):a+b<c:=NT fun z=>(no [d,e,c,a,b] [(1,(P V0 V1),V2),(1,(P (P V3 V4) I),(P V0 V1)),(1,V2,(P V3 V4))] rfl A B z)
theorem l341(A:d+2*b≤c)(B:a<d+b):a+b≤c:=NL fun z=>(no [d,b,c,a] [(1,(P V0 (M 2 V1)),V2),(1,(P V3 I),(P V0 V1)),(1,(P V2 I),(P V3 V1))] rfl A B z)
theorem l342(A:c+2*d≤e)(B:e≤b)(C:a<c+d):a<b:=NT fun z=>(no [c,d,e,b,a] [(1,(P V0 (M 2 V1)),V2),(1,V2,V3),(1,(P V4 I),(P V0 V1)),(1,V3,V4)] rfl A B C z)
theorem l343(A:d+2*b≤c)(B:¬c≤a):a-b+b<c:=NT fun z=>(TO b a (fun y=>(no [a,c,(a-b),b] [(1,(P V0 I),V1),(1,V1,(P V2 V3)),(1,(P V2 V3),V0)] rfl (NT B) z (EL (SC y)))) (fun x=>(no [d,b,c,a,(a-b)] [(1,(P V0 (M 2 V1)),V2),(1,(P V3 I),V2),(2,V2,(P V4 V1)),(2,V4,O)] rfl A (NT B) z (EL (SZ x)))))
theorem l344(A:d+2*b≤c)(B:a≤e)(C:e<d+b):a-1+b<c:=NT fun z=>(TO 1 a (fun y=>(no [d,b,c,a,e,(a-1)] [(1,(P V0 (M 2 V1)),V2),(1,V3,V4),(1,(P V4 I),(P V0 V1)),(1,V2,(P V5 V1)),(1,(P V5 I),V3)] rfl A B C z (EL (SC y)))) (fun x=>(no [d,b,c,a,e,(a-1)] [(1,(P V0 (M 2 V1)),V2),(1,V3,V4),(1,(P V4 I),(P V0 V1)),(1,V2,(P V5 V1)),(1,V5,O)] rfl A B C z (EL (SZ x)))))
theorem l345(A:d+2*b≤e)(B:a≤d)(C:e≤c):a+2*b≤c:=NL fun z=>(no [d,b,e,a,c] [(1,(P V0 (M 2 V1)),V2),(1,V3,V0),(1,V2,V4),(1,(P V4 I),(P V3 (M 2 V1)))] rfl A B C z)
theorem l346(A:c+2*a≤b):2*a≤b-c:=NL fun z=>(no [c,a,b,(b-c)] [(1,(P V0 (M 2 V1)),V2),(1,(P V3 I),(M 2 V1)),(1,V2,(P V3 V0))] rfl A z (ER (SC (NL fun y=>(no [c,a,b] [(1,(P V0 (M 2 V1)),V2),(1,(P V2 I),V0)] rfl A y)))))
theorem l348:a≤a+1+b:=NL fun z=>(no [a,b] [(1,(P (P (P V0 I) V1) I),V0)] rfl z)
theorem l349(A:b<d-c-a):a+1+b+c≤d:=NL fun z=>(TO c d (fun y=>(TO a (d-c) (fun q=>(no [b,(d-c-a),d,a,c,(d-c)] [(1,(P V0 I),V1),(1,(P V2 I),(P (P (P V3 I) V0) V4)),(1,(P V5 V4),V2),(1,(P V1 V3),V5)] rfl A z (EL (SC y)) (EL (SC q)))) (fun r=>(no [b,(d-c-a)] [(1,(P V0 I),V1),(1,V1,O)] rfl A (EL (SZ r)))))) (fun x=>(TO a (d-c) (fun z1=>(no [b,(d-c-a),(d-c),a] [(1,(P V0 I),V1),(1,V2,O),(1,(P V1 V3),V2)] rfl A (EL (SZ x)) (EL (SC z1)))) (fun y1=>(no [b,(d-c-a)] [(1,(P V0 I),V1),(1,V1,O)] rfl A (EL (SZ y1)))))))
theorem l350(A:c+2*a≤b):a≤b-c:=NL fun z=>(no [c,a,b,(b-c)] [(1,(P V0 (M 2 V1)),V2),(1,(P V3 I),V1),(1,V2,(P V3 V0))] rfl A z (ER (SC (NL fun y=>(no [c,a,b] [(1,(P V0 (M 2 V1)),V2),(1,(P V2 I),V0)] rfl A y)))))
theorem l352:a<a+1+b:=NT fun z=>(no [a,b] [(1,(P (P V0 I) V1),V0)] rfl z)
theorem l353(A:b<c+1-(a+1)):a+1+b≤c:=NL fun z=>(TO (a+1) (c+1) (fun y=>(no [b,(c+1-(a+1)),c,a] [(1,(P V0 I),V1),(1,(P V2 I),(P (P V3 I) V0)),(1,(P V1 (P V3 I)),(P V2 I))] rfl A z (EL (SC y)))) (fun x=>(no [b,(c+1-(a+1))] [(1,(P V0 I),V1),(1,V1,O)] rfl A (EL (SZ x)))))
theorem l354(A:d+2*b≤c)(B:a≤c-b):a+b≤c:=NL fun z=>(no [a,(c-b),c,b] [(1,V0,V1),(1,(P V2 I),(P V0 V3)),(1,(P V1 V3),V2)] rfl B z (EL (SC (NL fun y=>(no [d,b,c] [(1,(P V0 (M 2 V1)),V2),(1,(P V2 I),V1)] rfl A y)))))
theorem l355(A:b=1)(B:d=1)(C:e+2*d≤c)(D:a≤c-d):a+b≤c:=NL fun z=>(no [b,d,a,(c-d),c] [(1,V0,I),(1,I,V1),(1,V2,V3),(1,(P V4 I),(P V2 V0)),(1,(P V3 V1),V4)] rfl (EL A) (ER B) D z (EL (SC (NL fun y=>(no [d,e,c] [(1,I,V0),(1,(P V1 (M 2 V0)),V2),(1,(P V2 I),V0)] rfl (ER B) C y)))))
theorem l356(A:a<b):a≤b-1:=NL fun z=>(no [a,b,(b-1)] [(1,(P V0 I),V1),(1,(P V2 I),V0),(1,V1,(P V2 I))] rfl A z (ER (SC (NL fun y=>(no [a,b] [(1,(P V0 I),V1),(1,(P V1 I),I)] rfl A y)))))
theorem l357(A:a≤c-b)(B:d<a):a-1+b<c:=NT fun z=>(TO b c (fun x=>(no [a,(c-b),c,(a-1),b] [(1,V0,V1),(1,V2,(P V3 V4)),(1,(P V3 I),V0),(1,(P V1 V4),V2)] rfl A z (EL (SC (NL fun y=>(no [d,a] [(1,(P V0 I),V1),(1,(P V1 I),I)] rfl B y)))) (EL (SC x)))) (fun q=>(no [a,(c-b),d] [(1,V0,V1),(1,(P V2 I),V0),(1,V1,O)] rfl A B (EL (SZ q)))))
theorem l358(A:b<a):a-1+1=a:=AN (NL fun y=>(no [a,(a-1)] [(1,(P V0 I),(P V1 I)),(1,(P V1 I),V0)] rfl y (EL (SC (NL fun x=>(no [b,a] [(1,(P V0 I),V1),(1,(P V1 I),I)] rfl A x)))))) (NL fun q=>(no [(a-1),a] [(1,(P (P V0 I) I),V1),(1,V1,(P V0 I))] rfl q (ER (SC (NL fun r=>(no [b,a] [(1,(P V0 I),V1),(1,(P V1 I),I)] rfl A r))))))
theorem l360(A:c+2*d≤e)(B:a≤e-d)(C:e≤b)(D:0<d):a<b:=NT fun z=>(no [a,(e-d),e,b,d] [(1,V0,V1),(1,V2,V3),(1,(P O I),V4),(1,V3,V0),(1,(P V1 V4),V2)] rfl B C D z (EL (SC (NL fun y=>(no [c,d,e] [(1,(P V0 (M 2 V1)),V2),(1,(P O I),V1),(1,(P V2 I),V1)] rfl A D y)))))
theorem l361(A:a≤d-b)(B:d≤c)(C:0<b)(D:e<a):a+(b-1)<c:=NT fun z=>(TO b d (fun x=>(no [a,(d-b),d,c,(b-1),b] [(1,V0,V1),(1,V2,V3),(1,V3,(P V0 V4)),(1,(P V4 I),V5),(1,(P V1 V5),V2)] rfl A B z (EL (SC (NL fun y=>(no [b] [(1,(P O I),V0),(1,(P V0 I),I)] rfl C y)))) (EL (SC x)))) (fun q=>(no [a,(d-b),e] [(1,V0,V1),(1,(P V2 I),V0),(1,V1,O)] rfl A D (EL (SZ q)))))
theorem l363(A:d+2*b≤e)(B:a≤e-b)(C:e≤c):a+b≤c:=NL fun z=>(no [a,(e-b),e,c,b] [(1,V0,V1),(1,V2,V3),(1,(P V3 I),(P V0 V4)),(1,(P V1 V4),V2)] rfl B C z (EL (SC (NL fun y=>(no [d,b,e] [(1,(P V0 (M 2 V1)),V2),(1,(P V2 I),V1)] rfl A y)))))
theorem l364(A:b<c):a+1+b≠a+1+c:=fun z=>(no [b,c,a] [(1,(P V0 I),V1),(1,(P (P V2 I) V1),(P (P V2 I) V0))] rfl A (ER z))
theorem l365(A:a=a-b)(B:b<a)(C:b≠0):False:=NE C (fun y=>(no [b] [(1,(P V0 I),O)] rfl y)) (fun x=>(no [a,(a-b),b] [(1,V0,V1),(1,(P O I),V2),(1,(P V1 V2),V0)] rfl (EL A) x (EL (SC (NL fun q=>(no [b,a] [(1,(P V0 I),V1),(1,(P V1 I),V0)] rfl B q))))))
theorem l366(A:a=7∨a=8):0<a:=NT fun z=>(Or.elim A (fun y=>(no [a] [(1,V0,O),(1,(.num 7),V0)] rfl z (ER y))) (fun x=>(no [a] [(1,V0,O),(1,(.num 8),V0)] rfl z (ER x))))
theorem l367:(Int.toNat (a'/((3:Int)^a)%(3:Int)))<3:=NT fun z=>(noz [(((Int.toNat (a'/((3:Int)^a)%(3:Int))):Nat):Int),(a'/((3:Int)^a)%(3:Int))] [(1,(.num 3),W0),(1,(ZP W1 ZI),(.num 3)),(1,W0,W1)] rfl (IO z) (ZML (a'/((3:Int)^a)) (3:Int) rfl) (ZEL (Int.toNat_of_nonneg (ZNL fun y=>(noz [(a'/((3:Int)^a)%(3:Int))] [(1,ZO,W0),(1,(ZP W0 ZI),ZO)] rfl (ZMN (a'/((3:Int)^a)) (3:Int) rfl) y)))))
theorem l368:(Int.toNat (a'/(72:Int)%(3:Int)))<3:=NT fun z=>(noz [(((Int.toNat (a'/(72:Int)%(3:Int))):Nat):Int),(a'/(72:Int)%(3:Int))] [(1,(.num 3),W0),(1,(ZP W1 ZI),(.num 3)),(1,W0,W1)] rfl (IO z) (ZML (a'/(72:Int)) (3:Int) rfl) (ZEL (Int.toNat_of_nonneg (ZNL fun y=>(noz [(a'/(72:Int)%(3:Int))] [(1,ZO,W0),(1,(ZP W0 ZI),ZO)] rfl (ZMN (a'/(72:Int)) (3:Int) rfl) y)))))
theorem l370(A:b=3)(B:a<3):a<b:=NT fun z=>(no [b,a] [(1,(.num 3),V0),(1,(P V1 I),(.num 3)),(1,V0,V1)] rfl (ER A) B z)
theorem l372:(Int.toNat (a'/(6561:Int)%(5:Int)))<5:=NT fun z=>(noz [(((Int.toNat (a'/(6561:Int)%(5:Int))):Nat):Int),(a'/(6561:Int)%(5:Int))] [(1,(.num 5),W0),(1,(ZP W1 ZI),(.num 5)),(1,W0,W1)] rfl (IO z) (ZML (a'/(6561:Int)) (5:Int) rfl) (ZEL (Int.toNat_of_nonneg (ZNL fun y=>(noz [(a'/(6561:Int)%(5:Int))] [(1,ZO,W0),(1,(ZP W0 ZI),ZO)] rfl (ZMN (a'/(6561:Int)) (5:Int) rfl) y)))))
theorem l373:((a:Nat):Int)+(1:Int)≠(0:Int):=fun z=>(noz [(a:Int)] [(1,(ZP W0 ZI),ZO),(1,ZO,W0)] rfl (ZEL z) (NN a))
theorem l374(A:a=b)(B:b≤899):a≤900:=NL fun z=>(no [a,b] [(1,V0,V1),(1,V1,(.num 899)),(1,(P (.num 900) I),V0)] rfl (EL A) B z)
theorem l375(A:a≤1000∧b≤1000):a≤100000:=NL fun z=>(no [a] [(1,V0,(.num 1000)),(1,(P (.num 100000) I),V0)] rfl (And.left A) z)
theorem l376(A:b≤1000∧a≤1000):a≤100000:=NL fun z=>(no [a] [(1,V0,(.num 1000)),(1,(P (.num 100000) I),V0)] rfl (And.right A) z)
theorem l377(A:a≤1000∧b≤1000):a+b≤100000:=NL fun z=>(no [a,b] [(1,V0,(.num 1000)),(1,V1,(.num 1000)),(1,(P (.num 100000) I),(P V0 V1))] rfl (And.left A) (And.right A) z)
theorem l378(A:b=16777216)(B:c+a≤1048576):a≤b:=NL fun z=>(no [b,c,a] [(1,(.num 16777216),V0),(1,(P V1 V2),(.num 1048576)),(1,(P V0 I),V2)] rfl (ER A) B z)
theorem l379(A:b=16777216)(B:a≤100000):a≤b:=NL fun z=>(no [b,a] [(1,(.num 16777216),V0),(1,V1,(.num 100000)),(1,(P V0 I),V1)] rfl (ER A) B z)
theorem l380(A:b=16777216)(B:a≤100000):a+1≤b:=NL fun z=>(no [b,a] [(1,(.num 16777216),V0),(1,V1,(.num 100000)),(1,(P V0 I),(P V1 I))] rfl (ER A) B z)
theorem l381:(0:Int)≤((a:Nat):Int):=ZNL fun z=>(noz [(a:Int)] [(1,(ZP W0 ZI),ZO),(1,ZO,W0)] rfl z (NN a))
theorem l382(A:b=16777216)(B:a≤100000):((a:Nat):Int)≤((b:Nat):Int):=ZNL fun z=>(noz [(b:Int),(a:Int)] [(1,(.num 16777216),W0),(1,W1,(.num 100000)),(1,(ZP W0 ZI),W1)] rfl (IO (ER A)) (IO B) z)
theorem l383(A:0<a):(0:Int)<((a:Nat):Int):=ZNT fun z=>(noz [(a:Int)] [(1,(ZP ZO ZI),W0),(1,W0,ZO)] rfl (IO A) z)
theorem l384(A:b=c)(B:a≤c)(C:b≤100000):((a:Nat):Int)<((2:Int)^64):=ZNT fun z=>(noz [(c:Int),(b:Int),(a:Int)] [(1,W0,W1),(1,W2,W0),(1,W1,(.num 100000)),(1,(.num 18446744073709551616),W2)] rfl (IO (ER A)) (IO B) (IO C) z)
theorem l385(A:b=a)(B:b≤100000):a≤16777216:=NL fun z=>(no [a,b] [(1,V0,V1),(1,V1,(.num 100000)),(1,(P (.num 16777216) I),V0)] rfl (ER A) B z)
theorem l386(A:b=c)(B:a≤c)(C:b≤100000):a≤16777216:=NL fun z=>(no [c,b,a] [(1,V0,V1),(1,V2,V0),(1,V1,(.num 100000)),(1,(P (.num 16777216) I),V2)] rfl (ER A) B C z)
theorem l389:(0:Int)≤((a:Nat):Int)+((b:Nat):Int):=ZNL fun z=>(noz [(a:Int),(b:Int)] [(1,(ZP (ZP W0 W1) ZI),ZO),(1,ZO,W0),(1,ZO,W1)] rfl z (NN a) (NN b))
theorem l390(A:c<b):(0:Int)≤((a:Nat):Int)+((b:Nat):Int)-(1:Int)-((c:Nat):Int):=ZNL fun z=>(noz [(c:Int),(b:Int),(a:Int)] [(1,(ZP W0 ZI),W1),(1,(ZP (ZS (ZS (ZP W2 W1) ZI) W0) ZI),ZO),(1,ZO,W2)] rfl (IO A) z (NN a))
theorem l392(A:a<256):((a:Nat):Int)<(256:Int):=ZNT fun z=>(noz [(a:Int)] [(1,(ZP W0 ZI),(.num 256)),(1,(.num 256),W0)] rfl (IO A) z)
theorem l393(A:b=16777216)(B:c=a)(C:c≤100000):a≤b:=NL fun z=>(no [b,a,c] [(1,(.num 16777216),V0),(1,V1,V2),(1,V2,(.num 100000)),(1,(P V0 I),V1)] rfl (ER A) (ER B) C z)
theorem l394(A:b=16777216)(B:a≤1048576):a≤b:=NL fun z=>(no [b,a] [(1,(.num 16777216),V0),(1,V1,(.num 1048576)),(1,(P V0 I),V1)] rfl (ER A) B z)
theorem l395(A:a≤1048576):a≤16777216:=NL fun z=>(no [a] [(1,V0,(.num 1048576)),(1,(P (.num 16777216) I),V0)] rfl A z)
theorem l396:a%3<3:=NT fun z=>(no [(a%3)] [(1,(.num 3),V0),(1,(P V0 I),(.num 3))] rfl z (ML a 2))
theorem l398:(0:Int)≤((a:Nat):Int)%(3:Int):=ZNL fun z=>(noz [(((a:Nat):Int)%(3:Int))] [(1,(ZP W0 ZI),ZO),(1,ZO,W0)] rfl z (ZMN ((a:Nat):Int) (3:Int) rfl))
theorem l399(A:a=3)(B:b=16777216):a≤b:=NL fun z=>(no [a,b] [(1,V0,(.num 3)),(1,(.num 16777216),V1),(1,(P V1 I),V0)] rfl (EL A) (ER B) z)
theorem l401:(0:Int)<((a:Nat):Int)+(1:Int):=ZNT fun z=>(noz [(a:Int)] [(1,(ZP W0 ZI),ZO),(1,ZO,W0)] rfl z (NN a))
theorem l405:(1:Nat)≤5:=NL fun z=>(no [] [(1,(P (.num 5) I),I)] rfl z)
theorem l423(A:¬b≤a):a≤b:=NL fun z=>(no [a,b] [(1,(P V0 I),V1),(1,(P V1 I),V0)] rfl (NT A) z)
theorem l447:(2:Nat)≤3:=NL fun z=>(no [] [(1,(P (.num 3) I),(.num 2))] rfl z)
theorem l475(A:(0:Int)≤a'):(0:Int)≤((a+b:Nat):Int)+a':=ZNL fun z=>(noz [a',(a:Int),(b:Int)] [(1,ZO,W0),(1,(ZP (ZP (ZP W1 W2) W0) ZI),ZO),(1,ZO,W1),(1,ZO,W2)] rfl A z (NN a) (NN b))
theorem l476:7+(Int.toNat (a'%(2:Int)))≤8∧7≤7+(Int.toNat (a'%(2:Int))):=And.intro (NL fun y=>(noz [(((Int.toNat (a'%(2:Int))):Nat):Int),(a'%(2:Int))] [(1,(ZP (.num 8) ZI),(ZP (.num 7) W0)),(1,(ZP W1 ZI),(.num 2)),(1,W0,W1)] rfl (IO y) (ZML a' (2:Int) rfl) (ZEL (Int.toNat_of_nonneg (ZNL fun x=>(noz [(a'%(2:Int))] [(1,ZO,W0),(1,(ZP W0 ZI),ZO)] rfl (ZMN a' (2:Int) rfl) x)))))) (NL fun q=>(no [(Int.toNat (a'%(2:Int)))] [(1,(P (P (.num 7) V0) I),(.num 7))] rfl q))
theorem l477:(Int.toNat (a'/(2:Int)%(4:Int)))<4:=NT fun z=>(noz [(((Int.toNat (a'/(2:Int)%(4:Int))):Nat):Int),(a'/(2:Int)%(4:Int))] [(1,(.num 4),W0),(1,(ZP W1 ZI),(.num 4)),(1,W0,W1)] rfl (IO z) (ZML (a'/(2:Int)) (4:Int) rfl) (ZEL (Int.toNat_of_nonneg (ZNL fun y=>(noz [(a'/(2:Int)%(4:Int))] [(1,ZO,W0),(1,(ZP W0 ZI),ZO)] rfl (ZMN (a'/(2:Int)) (4:Int) rfl) y)))))
theorem l478(A:a≤8∧7≤a):a≤8∧2≤a:=And.intro (NL fun y=>(no [a] [(1,V0,(.num 8)),(1,(P (.num 8) I),V0)] rfl (And.left A) y)) (NL fun x=>(no [a] [(1,(.num 7),V0),(1,(P V0 I),(.num 2))] rfl (And.right A) x))
theorem l480:(0:Int)≤a'/(2:Int)%(4:Int):=ZNL fun z=>(noz [(a'/(2:Int)%(4:Int))] [(1,(ZP W0 ZI),ZO),(1,ZO,W0)] rfl z (ZMN (a'/(2:Int)) (4:Int) rfl))
theorem l481(A:a=16777216):4≤a:=NL fun z=>(no [a] [(1,(.num 16777216),V0),(1,(P V0 I),(.num 4))] rfl (ER A) z)
theorem l482(A:a≤8∧7≤a):a≤16777216:=NL fun z=>(no [a] [(1,V0,(.num 8)),(1,(P (.num 16777216) I),V0)] rfl (And.left A) z)
theorem l483(A:a≤8∧7≤a)(B:b=16777216):a≤b:=NL fun z=>(no [a,b] [(1,V0,(.num 8)),(1,(.num 16777216),V1),(1,(P V1 I),V0)] rfl (And.left A) (ER B) z)
theorem l484(A:a≤8∧2≤a):0<a:=NT fun z=>(no [a] [(1,(.num 2),V0),(1,V0,O)] rfl (And.right A) z)
theorem l485(A:b≤8∧2≤b)(B:a<b):a≤20:=NL fun z=>(no [b,a] [(1,V0,(.num 8)),(1,(P V1 I),V0),(1,(P (.num 20) I),V1)] rfl (And.left A) B z)
theorem l486(A:a≤8∧2≤a):(0:Int)<((a:Nat):Int):=ZNT fun z=>(noz [(a:Int)] [(1,(.num 2),W0),(1,W0,ZO)] rfl (IO (And.right A)) z)
theorem l487(A:a≤8∧2≤a):((a:Nat):Int)≠(0:Int):=fun z=>(noz [(a:Int)] [(1,(.num 2),W0),(1,W0,ZO)] rfl (IO (And.right A)) (ZEL z))
theorem l488(A:b≤8∧2≤b)(B:a<b):((a:Nat):Int)≤(1000:Int):=ZNL fun z=>(noz [(b:Int),(a:Int)] [(1,W0,(.num 8)),(1,(ZP W1 ZI),W0),(1,(ZP (.num 1000) ZI),W1)] rfl (IO (And.left A)) (IO B) z)
theorem l491(A:((a:Nat):Int)<((b:Nat):Int)):a<b:=NT fun z=>(noz [(a:Int),(b:Int)] [(1,(ZP W0 ZI),W1),(1,W1,W0)] rfl A (IO z))
theorem l493(A:((a:Nat):Int)<((b:Nat):Int)):((a:Nat):Int)<((b:Nat):Int):=ZNT fun z=>(noz [(a:Int),(b:Int)] [(1,(ZP W0 ZI),W1),(1,W1,W0)] rfl A z)
theorem l494(A:¬((a:Nat):Int)<((b:Nat):Int)):¬a<b:=fun z=>(noz [(b:Int),(a:Int)] [(1,W0,W1),(1,(ZP W1 ZI),W0)] rfl (ZNL A) (IO z))
theorem l495:a'%(85:Int)=(((Int.toNat (a'%(85:Int))):Nat):Int):=ZAN (ZNL fun y=>(noz [(((Int.toNat (a'%(85:Int))):Nat):Int),(a'%(85:Int))] [(1,(ZP W0 ZI),W1),(1,W1,W0)] rfl y (ZER (Int.toNat_of_nonneg (ZNL fun x=>(noz [(a'%(85:Int))] [(1,ZO,W0),(1,(ZP W0 ZI),ZO)] rfl (ZMN a' (85:Int) rfl) x)))))) (ZNL fun q=>(noz [(a'%(85:Int)),(((Int.toNat (a'%(85:Int))):Nat):Int)] [(1,(ZP W0 ZI),W1),(1,W1,W0)] rfl q (ZEL (Int.toNat_of_nonneg (ZNL fun r=>(noz [(a'%(85:Int))] [(1,ZO,W0),(1,(ZP W0 ZI),ZO)] rfl (ZMN a' (85:Int) rfl) r))))))
theorem l498:(0:Int)≤a'/(6561:Int)%(5:Int):=ZNL fun z=>(noz [(a'/(6561:Int)%(5:Int))] [(1,(ZP W0 ZI),ZO),(1,ZO,W0)] rfl z (ZMN (a'/(6561:Int)) (5:Int) rfl))
theorem l499(A:c≤8∧7≤c)(B:a=c)(C:b=16777216):a≤b:=NL fun z=>(no [c,a,b] [(1,V0,(.num 8)),(1,V1,V0),(1,(.num 16777216),V2),(1,(P V2 I),V1)] rfl (And.left A) (EL B) (ER C) z)
theorem l500:a'/(6561:Int)%(5:Int)<(5:Int):=ZNT fun z=>(noz [(a'/(6561:Int)%(5:Int))] [(1,(.num 5),W0),(1,(ZP W0 ZI),(.num 5))] rfl z (ZML (a'/(6561:Int)) (5:Int) rfl))
theorem l501(A:b=16777216)(B:a≤1000):a≤b:=NL fun z=>(no [b,a] [(1,(.num 16777216),V0),(1,V1,(.num 1000)),(1,(P V0 I),V1)] rfl (ER A) B z)
theorem l502(A:a<b):a+2≤b+1:=NL fun z=>(no [a,b] [(1,(P V0 I),V1),(1,(P (P V1 I) I),(P V0 (.num 2)))] rfl A z)
theorem l503(A:a≤1000):a+1≤16777216:=NL fun z=>(no [a] [(1,V0,(.num 1000)),(1,(P (.num 16777216) I),(P V0 I))] rfl A z)
theorem l504:a≤a+2+b:=NL fun z=>(no [a,b] [(1,(P (P (P V0 (.num 2)) V1) I),V0)] rfl z)
theorem l505(A:b<c+1-(a+2)):a+2+b≤c:=NL fun z=>(TO (a+2) (c+1) (fun y=>(no [b,(c+1-(a+2)),c,a] [(1,(P V0 I),V1),(1,(P V2 I),(P (P V3 (.num 2)) V0)),(1,(P V1 (P V3 (.num 2))),(P V2 I))] rfl A z (EL (SC y)))) (fun x=>(no [b,(c+1-(a+2))] [(1,(P V0 I),V1),(1,V1,O)] rfl A (EL (SZ x)))))
theorem l506:a+2+b-a=2+b:=AN (NL fun y=>(no [b,(a+2+b-a),a] [(1,(P (P (.num 2) V0) I),V1),(1,(P V1 V2),(P (P V2 (.num 2)) V0))] rfl y (EL (SC (NL fun x=>(no [a,b] [(1,(P (P (P V0 (.num 2)) V1) I),V0)] rfl x)))))) (NL fun q=>(no [(a+2+b-a),b,a] [(1,(P V0 I),(P (.num 2) V1)),(1,(P (P V2 (.num 2)) V1),(P V0 V2))] rfl q (ER (SC (NL fun r=>(no [(a+2+b-a),b,a] [(1,(P V0 I),(P (.num 2) V1)),(1,(P (P (P V2 (.num 2)) V1) I),V2)] rfl q r))))))
theorem l507(A:a=2+c)(B:b=16777216)(C:d≤1000)(D:c<d+1-(e+2)):a≤b:=NL fun z=>(TO (e+2) (d+1) (fun y=>(no [a,c,b,d,(d+1-(e+2)),e] [(1,V0,(P (.num 2) V1)),(1,(.num 16777216),V2),(1,V3,(.num 1000)),(1,(P V1 I),V4),(1,(P V2 I),V0),(1,(P V4 (P V5 (.num 2))),(P V3 I))] rfl (EL A) (ER B) C D z (EL (SC y)))) (fun x=>(no [a,c,b,(d+1-(e+2))] [(1,V0,(P (.num 2) V1)),(1,(.num 16777216),V2),(1,(P V1 I),V3),(1,(P V2 I),V0),(1,V3,O)] rfl (EL A) (ER B) D z (EL (SZ x)))))
theorem l508(A:a=2+b):1≤a:=NL fun z=>(no [b,a] [(1,(P (.num 2) V0),V1),(1,(P V1 I),I)] rfl (ER A) z)
theorem l509(A:a=2+b)(B:c≤1000)(C:b<c+1-(d+2)):a≤16777216:=NL fun z=>(TO (d+2) (c+1) (fun y=>(no [a,b,c,(c+1-(d+2)),d] [(1,V0,(P (.num 2) V1)),(1,V2,(.num 1000)),(1,(P V1 I),V3),(1,(P (.num 16777216) I),V0),(1,(P V3 (P V4 (.num 2))),(P V2 I))] rfl (EL A) B C z (EL (SC y)))) (fun x=>(no [a,b,(c+1-(d+2))] [(1,V0,(P (.num 2) V1)),(1,(P V1 I),V2),(1,(P (.num 16777216) I),V0),(1,V2,O)] rfl (EL A) C z (EL (SZ x)))))
theorem l510(A:a=2+c)(B:b=16777216)(C:d≤1000)(D:c<d+1-(e+2)):a≤b+1:=NL fun z=>(TO (e+2) (d+1) (fun y=>(no [a,c,b,d,(d+1-(e+2)),e] [(1,V0,(P (.num 2) V1)),(1,(.num 16777216),V2),(1,V3,(.num 1000)),(1,(P V1 I),V4),(1,(P (P V2 I) I),V0),(1,(P V4 (P V5 (.num 2))),(P V3 I))] rfl (EL A) (ER B) C D z (EL (SC y)))) (fun x=>(no [a,c,b,(d+1-(e+2))] [(1,V0,(P (.num 2) V1)),(1,(.num 16777216),V2),(1,(P V1 I),V3),(1,(P (P V2 I) I),V0),(1,V3,O)] rfl (EL A) (ER B) D z (EL (SZ x)))))
theorem l511:((a+2+b:Nat):Int)-((a:Nat):Int)=((2+b:Nat):Int):=ZAN (ZNL fun y=>(noz [(b:Int),(a:Int)] [(1,(ZP (ZP (.num 2) W0) ZI),(ZS (ZP (ZP W1 (.num 2)) W0) W1))] rfl y)) (ZNL fun x=>(noz [(a:Int),(b:Int)] [(1,(ZP (ZS (ZP (ZP W0 (.num 2)) W1) W0) ZI),(ZP (.num 2) W1))] rfl x))
theorem l512(A:a≤10)(B:b≤11*c):0+1+a+b≤11*(c+1):=NL fun z=>(no [a,b,c] [(1,V0,(.num 10)),(1,V1,(M 11 V2)),(1,(P (M 11 (P V2 I)) I),(P (P (P O I) V0) V1))] rfl A B z)
theorem l513(A:b=16777216)(B:a≤100):a≤b:=NL fun z=>(no [b,a] [(1,(.num 16777216),V0),(1,V1,(.num 100)),(1,(P V0 I),V1)] rfl (ER A) B z)
theorem l514(A:b=16777216)(B:a≤c)(C:c≤100):a≤b:=NL fun z=>(no [b,a,c] [(1,(.num 16777216),V0),(1,V1,V2),(1,V2,(.num 100)),(1,(P V0 I),V1)] rfl (ER A) B C z)
theorem l515(A:b=16777216)(B:a≤10):1+a≤b:=NL fun z=>(no [b,a] [(1,(.num 16777216),V0),(1,V1,(.num 10)),(1,(P V0 I),(P I V1))] rfl (ER A) B z)
theorem l516(A:a≤11*b)(B:b≤c)(C:c≤100):a+b≤1048576:=NL fun z=>(no [a,b,c] [(1,V0,(M 11 V1)),(12,V1,V2),(12,V2,(.num 100)),(1,(P (.num 1048576) I),(P V0 V1))] rfl A B C z)
theorem l517(A:a≤100):a≤16777216:=NL fun z=>(no [a] [(1,V0,(.num 100)),(1,(P (.num 16777216) I),V0)] rfl A z)
theorem l518(A:c<d-(a+b)):a+b+c<d:=NT fun z=>(TO (a+b) d (fun y=>(no [c,(d-(a+b)),d,a,b] [(1,(P V0 I),V1),(1,V2,(P (P V3 V4) V0)),(1,(P V1 (P V3 V4)),V2)] rfl A z (EL (SC y)))) (fun x=>(no [c,(d-(a+b))] [(1,(P V0 I),V1),(1,V1,O)] rfl A (EL (SZ x)))))
theorem l519(A:a+b+c<d):a+b+c<d:=NT fun z=>(no [a,b,c,d] [(1,(P (P (P V0 V1) V2) I),V3),(1,V3,(P (P V0 V1) V2))] rfl A z)
theorem l520(A:b=16777216)(B:a≤11*c)(C:d≤100)(D:e+f+c<d):a+1≤b:=NL fun z=>(no [b,a,c,d,e,f] [(1,(.num 16777216),V0),(1,V1,(M 11 V2)),(11,V3,(.num 100)),(11,(P (P (P V4 V5) V2) I),V3),(1,(P V0 I),(P V1 I))] rfl (ER A) B C D z)
theorem l521:(0:Int)≤((a+b+c:Nat):Int):=ZNL fun z=>(noz [(a:Int),(b:Int),(c:Int)] [(1,(ZP (ZP (ZP W0 W1) W2) ZI),ZO),(1,ZO,W0),(1,ZO,W1),(1,ZO,W2)] rfl z (NN a) (NN b) (NN c))
theorem l522(A:c=16777216)(B:a≤11*d)(C:b≤10)(D:e≤100)(F:f+g+d<e):a+1+b≤c:=NL fun z=>(no [c,a,d,b,e,f,g] [(1,(.num 16777216),V0),(1,V1,(M 11 V2)),(1,V3,(.num 10)),(11,V4,(.num 100)),(11,(P (P (P V5 V6) V2) I),V4),(1,(P V0 I),(P (P V1 I) V3))] rfl (ER A) B C D F z)
theorem l523(A:a≤11*c)(B:b≤10):a+(b+1)≤11*(c+1):=NL fun z=>(no [a,c,b] [(1,V0,(M 11 V1)),(1,V2,(.num 10)),(1,(P (M 11 (P V1 I)) I),(P V0 (P V2 I)))] rfl A B z)
theorem l524(A:a≤11*(b+1))(B:c≤100)(C:d+e+b<c):a≤100000:=NL fun z=>(no [a,b,c,d,e] [(1,V0,(M 11 (P V1 I))),(11,V2,(.num 100)),(11,(P (P (P V3 V4) V1) I),V2),(1,(P (.num 100000) I),V0)] rfl A B C z)
theorem l525(A:a≤11*b)(B:c≤100)(C:b≤c):a≤100000:=NL fun z=>(no [a,b,c] [(1,V0,(M 11 V1)),(11,V2,(.num 100)),(11,V1,V2),(1,(P (.num 100000) I),V0)] rfl A B C z)
theorem l526:((a+b+c:Nat):Int)-((a:Nat):Int)-((b:Nat):Int)=((c+0:Nat):Int):=ZAN (ZNL fun y=>(noz [(c:Int),(a:Int),(b:Int)] [(1,(ZP (ZP W0 ZO) ZI),(ZS (ZS (ZP (ZP W1 W2) W0) W1) W2))] rfl y)) (ZNL fun x=>(noz [(a:Int),(b:Int),(c:Int)] [(1,(ZP (ZS (ZS (ZP (ZP W0 W1) W2) W0) W1) ZI),(ZP W2 ZO))] rfl x))
theorem l527:a≤b+c+(a-(b+c)):=NL fun z=>(no [b,c,(a-(b+c)),a] [(1,(P (P (P V0 V1) V2) I),V3),(1,V3,(P V2 (P V0 V1)))] rfl z (ER (SC (NL fun y=>(no [b,c,(a-(b+c)),a] [(1,(P (P (P V0 V1) V2) I),V3),(1,(P V3 I),(P V0 V1))] rfl z y)))))
theorem l529:a≤a+1:=NL fun z=>(no [a] [(1,(P (P V0 I) I),V0)] rfl z)
theorem l530(A:a=7∨a=8):a≤8:=NL fun z=>(Or.elim A (fun y=>(no [a] [(1,(P (.num 8) I),V0),(1,V0,(.num 7))] rfl z (EL y))) (fun x=>(no [a] [(1,(P (.num 8) I),V0),(1,V0,(.num 8))] rfl z (EL x))))
theorem l531(A:b=16777216)(B:a≤8):a≤b:=NL fun z=>(no [b,a] [(1,(.num 16777216),V0),(1,V1,(.num 8)),(1,(P V0 I),V1)] rfl (ER A) B z)
theorem l532:1≤a+1:=NL fun z=>(no [a] [(1,(P (P V0 I) I),I)] rfl z)
theorem l533(A:a≤8):a/2+1≤16777216:=NL fun z=>(no [a,(a/2),(a%2)] [(1,V0,(.num 8)),(2,(P (.num 16777216) I),(P V1 I)),(1,(P (M 2 V1) V2),V0)] rfl A z (EL (DM a 2)))
theorem l534(A:a<b/2+1-1):2*(1+a)≤b:=NL fun z=>(no [a,(b/2+1-1),b,(b/2),(b%2)] [(2,(P V0 I),V1),(1,(P V2 I),(M 2 (P I V0))),(1,(P (M 2 V3) V4),V2),(2,(P V1 I),(P V3 I))] rfl A z (EL (DM b 2)) (EL (SC (NL fun y=>(no [(b%2),b,(b/2)] [(1,(P V0 I),(.num 2)),(1,V1,(P (M 2 V2) V0)),(2,(P (P V2 I) I),I)] rfl (ML b 1) (ER (DM b 2)) y)))))
theorem l535(A:a≤8):a-2*(1+b)+1≤16777216:=NL fun z=>(TO (2*(1+b)) a (fun y=>(no [a,(a-2*(1+b)),b] [(1,V0,(.num 8)),(1,(P (.num 16777216) I),(P V1 I)),(1,(P V1 (M 2 (P I V2))),V0)] rfl A z (EL (SC y)))) (fun x=>(no [(a-2*(1+b))] [(1,(P (.num 16777216) I),(P V0 I)),(1,V0,O)] rfl z (EL (SZ x)))))
theorem l537(A:a≤8):a+1≤16777216:=NL fun z=>(no [a] [(1,V0,(.num 8)),(1,(P (.num 16777216) I),(P V0 I))] rfl A z)
theorem l538:2*(1+a)≤b+2*(1+a)+c:=NL fun z=>(no [b,a,c] [(1,(P (P (P V0 (M 2 (P I V1))) V2) I),(M 2 (P I V1)))] rfl z)
theorem l539(A:c<d+1-(a+2*(1+b))):a+2*(1+b)+c≤d:=NL fun z=>(TO (a+2*(1+b)) (d+1) (fun y=>(no [c,(d+1-(a+2*(1+b))),d,a,b] [(1,(P V0 I),V1),(1,(P V2 I),(P (P V3 (M 2 (P I V4))) V0)),(1,(P V1 (P V3 (M 2 (P I V4)))),(P V2 I))] rfl A z (EL (SC y)))) (fun x=>(no [c,(d+1-(a+2*(1+b)))] [(1,(P V0 I),V1),(1,V1,O)] rfl A (EL (SZ x)))))
theorem l540(A:c<b+1-(a+2*(1+d))):a-1<b:=NT fun z=>(TO 1 a (fun y=>(no [c,(b+1-(a+2*(1+d)))] [(1,(P V0 I),V1),(1,V1,O)] rfl A (EL (SZ (GE fun q=>(no [b,(a-1),a,d] [(1,V0,V1),(1,(P V1 I),V2),(1,(P V2 (M 2 (P I V3))),(P V0 I))] rfl z (EL (SC y)) q)))))) (fun x=>(no [c,(b+1-(a+2*(1+d)))] [(1,(P V0 I),V1),(1,V1,O)] rfl A (EL (SZ (GE fun r=>(no [b,(a-1),a,d] [(1,V0,V1),(1,V1,O),(1,(P V2 (M 2 (P I V3))),(P V0 I))] rfl z (EL (SZ x)) r)))))))
theorem l542(A:2*(1+a)≤b):1+a≤b:=NL fun z=>(no [a,b] [(1,(M 2 (P I V0)),V1),(1,(P V1 I),(P I V0))] rfl A z)
theorem l543(A:a<c):a-(1+b)<c:=NT fun z=>(TO (1+b) a (fun y=>(no [a,c,(a-(1+b)),b] [(1,(P V0 I),V1),(1,V1,V2),(1,(P V2 (P I V3)),V0)] rfl A z (EL (SC y)))) (fun x=>(no [a,c,(a-(1+b))] [(1,(P V0 I),V1),(1,V1,V2),(1,V2,O)] rfl A z (EL (SZ x)))))
theorem l544(A:a≤e+1)(B:e≤100*b+10*c+d):a≤100*b+10*c+(d+1):=NL fun z=>(no [a,e,b,c,d] [(1,V0,(P V1 I)),(1,V1,(P (P (M 100 V2) (M 10 V3)) V4)),(1,(P (P (P (M 100 V2) (M 10 V3)) (P V4 I)) I),V0)] rfl A B z)
theorem l545(A:b=16777216)(B:a≤100*c+10*d+e)(C:f≤8)(D:e<f+1-(d+2*(1+c))):a≤b:=NL fun z=>(TO (d+2*(1+c)) (f+1) (fun y=>(no [b,a,c,d,e,f,(f+1-(d+2*(1+c)))] [(1,(.num 16777216),V0),(1,V1,(P (P (M 100 V2) (M 10 V3)) V4)),(50,V5,(.num 8)),(1,(P V4 I),V6),(1,(P V0 I),V1),(49,(P V3 (M 2 (P I V2))),(P V5 I)),(1,(P V6 (P V3 (M 2 (P I V2)))),(P V5 I))] rfl (ER A) B C D z y (EL (SC y)))) (fun x=>(no [e,(f+1-(d+2*(1+c)))] [(1,(P V0 I),V1),(1,V1,O)] rfl D (EL (SZ x)))))
theorem l546(A:a≤100*b+10*c+(d+1-(c+2*(1+b))))(B:d≤8):a≤100*b+10*(c+1):=NL fun z=>(TO (c+2*(1+b)) (d+1) (fun y=>(no [a,b,c,(d+1-(c+2*(1+b))),d] [(50,V0,(P (P (M 100 V1) (M 10 V2)) V3)),(50,V4,(.num 8)),(49,(P (P (M 100 V1) (M 10 (P V2 I))) I),V0),(50,(P V3 (P V2 (M 2 (P I V1)))),(P V4 I))] rfl A B z (EL (SC y)))) (fun x=>(no [a,b,c,(d+1-(c+2*(1+b)))] [(1,V0,(P (P (M 100 V1) (M 10 V2)) V3)),(1,(P (P (M 100 V1) (M 10 (P V2 I))) I),V0),(1,V3,O)] rfl A z (EL (SZ x)))))
theorem l547(A:a≤100*b+10*(c-2*(1+b)+1))(B:c≤8):a≤100*(b+1):=NL fun z=>(TO (2*(1+b)) c (fun y=>(no [a,b,(c-2*(1+b)),c] [(5,V0,(P (M 100 V1) (M 10 (P V2 I)))),(50,V3,(.num 8)),(4,(P (M 100 (P V1 I)) I),V0),(50,(P V2 (M 2 (P I V1))),V3)] rfl A B z (EL (SC y)))) (fun x=>(no [a,b,(c-2*(1+b))] [(1,V0,(P (M 100 V1) (M 10 (P V2 I)))),(1,(P (M 100 (P V1 I)) I),V0),(10,V2,O)] rfl A z (EL (SZ x)))))
theorem l548:a+b≤a+b+c:=NL fun z=>(no [a,b,c] [(1,(P (P (P V0 V1) V2) I),(P V0 V1))] rfl z)
theorem l549(A:a+b≤e):a+b≤c+d+e:=NL fun z=>(no [a,b,e,c,d] [(1,(P V0 V1),V2),(1,(P (P (P V3 V4) V2) I),(P V0 V1))] rfl A z)
theorem l550:((a:Nat):Int)+((b:Nat):Int)+((c:Nat):Int)=((a:Nat):Int)+((b:Nat):Int)+((c:Nat):Int):=ZAN (ZNL fun y=>(noz [(a:Int),(b:Int),(c:Int)] [(1,(ZP (ZP (ZP W0 W1) W2) ZI),(ZP (ZP W0 W1) W2))] rfl y)) (ZNL fun x=>(noz [(a:Int),(b:Int),(c:Int)] [(1,(ZP (ZP (ZP W0 W1) W2) ZI),(ZP (ZP W0 W1) W2))] rfl x))
theorem l551:a-1≤a:=NL fun z=>(TO 1 a (fun y=>(no [a,(a-1)] [(1,(P V0 I),V1),(1,(P V1 I),V0)] rfl z (EL (SC y)))) (fun x=>(no [a,(a-1)] [(1,(P V0 I),V1),(1,V1,O)] rfl z (EL (SZ x)))))
theorem l552(A:a+0=c):a+b=c+b:=AN (NL fun y=>(no [a,c,b] [(1,(P V0 O),V1),(1,(P (P V1 V2) I),(P V0 V2))] rfl (EL A) y)) (NL fun x=>(no [c,a,b] [(1,V0,(P V1 O)),(1,(P (P V1 V2) I),(P V0 V2))] rfl (ER A) x))
theorem l553(A:a+b=e+(d+(f+g))∧i≤j∧d+(f+g)≤b)(B:e+(f+g)=c):a+b=c+d:=AN (NL fun y=>(no [a,b,e,d,f,g,c] [(1,(P V0 V1),(P V2 (P V3 (P V4 V5)))),(1,(P V2 (P V4 V5)),V6),(1,(P (P V6 V3) I),(P V0 V1))] rfl (EL (And.left A)) (EL B) y)) (NL fun x=>(no [e,d,f,g,a,b,c] [(1,(P V0 (P V1 (P V2 V3))),(P V4 V5)),(1,V6,(P V0 (P V2 V3))),(1,(P (P V4 V5) I),(P V6 V1))] rfl (ER (And.left A)) (ER B) x))
theorem l554(A:c+d=e+(f+(g+i))∧a≤j∧f+(g+i)≤d)(B:j≤b):a≤b:=NL fun z=>(no [a,j,b] [(1,V0,V1),(1,V1,V2),(1,(P V2 I),V0)] rfl (And.left (And.right A)) B z)
theorem l555(A:c+b=d+(a+(e+f))∧g≤i∧a+(e+f)≤b):a≤b:=NL fun z=>(no [a,e,f,b] [(1,(P V0 (P V1 V2)),V3),(1,(P V3 I),V0)] rfl (And.right (And.right A)) z)
theorem l556(A:a+(b+c)=e):a+(b+c+0)+d=e+d:=AN (NL fun y=>(no [a,b,c,e,d] [(1,(P V0 (P V1 V2)),V3),(1,(P (P V3 V4) I),(P (P V0 (P (P V1 V2) O)) V4))] rfl (EL A) y)) (NL fun x=>(no [e,a,b,c,d] [(1,V0,(P V1 (P V2 V3))),(1,(P (P (P V1 (P (P V2 V3) O)) V4) I),(P V0 V4))] rfl (ER A) x))
theorem l557(A:0<a):a-1+1≤a:=NL fun z=>(no [a,(a-1)] [(1,(P V0 I),(P V1 I)),(1,(P V1 I),V0)] rfl z (EL (SC (NL fun y=>(no [a] [(1,(P O I),V0),(1,(P V0 I),I)] rfl A y)))))
theorem l558(A:a=1+b):1≤a:=NL fun z=>(no [b,a] [(1,(P I V0),V1),(1,(P V1 I),I)] rfl (ER A) z)
theorem l559(A:a=1+b):(min 1 a)=1:=AN (NL fun y=>(TO 1 a (fun x=>(no [(min 1 a)] [(1,(P I I),V0),(1,V0,I)] rfl y (EL (Nat.min_eq_left x)))) (fun q=>(no [(min 1 a),a] [(1,(P I I),V0),(1,V1,I),(1,V0,V1)] rfl y q (EL (Nat.min_eq_right q)))))) (NL fun r=>(TO 1 a (fun z1=>(no [(min 1 a)] [(1,(P V0 I),I),(1,I,V0)] rfl r (ER (Nat.min_eq_left z1)))) (fun y1=>(no [b,a,(min 1 a)] [(1,(P I V0),V1),(1,(P V2 I),I),(1,V1,V2)] rfl (ER A) r (ER (Nat.min_eq_right y1))))))
theorem l560:(1:Nat)≤4:=NL fun z=>(no [] [(1,(P (.num 4) I),I)] rfl z)
theorem l561:(2:Nat)≤4:=NL fun z=>(no [] [(1,(P (.num 4) I),(.num 2))] rfl z)
theorem l562(A:a<256):((a:Nat):Int)≤(1114111:Int):=ZNL fun z=>(noz [(a:Int)] [(1,(ZP W0 ZI),(.num 256)),(1,(ZP (.num 1114111) ZI),W0)] rfl (IO A) z)
theorem l563(A:a=c)(B:b=16777216)(C:d≤8)(D:c<d):a≤b:=NL fun z=>(no [a,c,b,d] [(1,V0,V1),(1,(.num 16777216),V2),(1,V3,(.num 8)),(1,(P V1 I),V3),(1,(P V2 I),V0)] rfl (EL A) (ER B) C D z)
theorem l564(A:a=b)(B:c≤8)(C:b<c):a≤16777216:=NL fun z=>(no [a,b,c] [(1,V0,V1),(1,V2,(.num 8)),(1,(P V1 I),V2),(1,(P (.num 16777216) I),V0)] rfl (EL A) B C z)
theorem l567(A:d+(a+b)=e)(B:e+f=g+1)(C:c=16777216)(D:i≤8)(F:g<i):a+b≤c:=NL fun z=>(no [d,a,b,e,f,g,c,i] [(1,(P V0 (P V1 V2)),V3),(1,(P V3 V4),(P V5 I)),(1,(.num 16777216),V6),(1,V7,(.num 8)),(1,(P V5 I),V7),(1,(P V6 I),(P V1 V2))] rfl (EL A) (EL B) (ER C) D F z)
theorem l568(A:a+d=e)(B:e+b=c+1)(C:d=0):a+b=c+1:=AN (NL fun y=>(no [a,d,e,b,c] [(1,(P V0 V1),V2),(1,(P V2 V3),(P V4 I)),(1,O,V1),(1,(P (P V4 I) I),(P V0 V3))] rfl (EL A) (EL B) (ER C) y)) (NL fun x=>(no [e,a,d,c,b] [(1,V0,(P V1 V2)),(1,(P V3 I),(P V0 V4)),(1,V2,O),(1,(P (P V1 V4) I),(P V3 I))] rfl (ER A) (ER B) (EL C) x))
theorem l569(A:a=c-1)(B:c≤b):a≤b:=NL fun z=>(TO 1 c (fun y=>(no [a,(c-1),c,b] [(1,V0,V1),(1,V2,V3),(1,(P V3 I),V0),(1,(P V1 I),V2)] rfl (EL A) B z (EL (SC y)))) (fun x=>(no [a,(c-1),c,b] [(1,V0,V1),(1,V2,V3),(1,(P V3 I),V0),(1,V1,O)] rfl (EL A) B z (EL (SZ x)))))
theorem l571(A:a+f=g)(B:b+c=f)(C:g+d=e+1):a+(b+c+0)+d=e+1:=AN (NL fun y=>(no [a,f,g,b,c,d,e] [(1,(P V0 V1),V2),(1,(P V3 V4),V1),(1,(P V2 V5),(P V6 I)),(1,(P (P V6 I) I),(P (P V0 (P (P V3 V4) O)) V5))] rfl (EL A) (EL B) (EL C) y)) (NL fun x=>(no [g,a,f,b,c,e,d] [(1,V0,(P V1 V2)),(1,V2,(P V3 V4)),(1,(P V5 I),(P V0 V6)),(1,(P (P (P V1 (P (P V3 V4) O)) V6) I),(P V5 I))] rfl (ER A) (ER B) (ER C) x))
theorem l572(A:a≤b)(B:0<a):a-1+1≤b:=NL fun z=>(no [a,b,(a-1)] [(1,V0,V1),(1,(P V1 I),(P V2 I)),(1,(P V2 I),V0)] rfl A z (EL (SC (NL fun y=>(no [a] [(1,(P O I),V0),(1,(P V0 I),I)] rfl B y)))))
theorem l573(A:d+a=e+1)(B:f+b=d)(C:c=16777216)(D:g≤8)(F:e<g):a+b≤c:=NL fun z=>(no [d,a,e,f,b,c,g] [(1,(P V0 V1),(P V2 I)),(1,(P V3 V4),V0),(1,(.num 16777216),V5),(1,V6,(.num 8)),(1,(P V2 I),V6),(1,(P V5 I),(P V1 V4))] rfl (EL A) (EL B) (ER C) D F z)
theorem l574(A:a+c=e)(B:e+b=d+1):a+(b+c)=d+1:=AN (NL fun y=>(no [a,c,e,b,d] [(1,(P V0 V1),V2),(1,(P V2 V3),(P V4 I)),(1,(P (P V4 I) I),(P V0 (P V3 V1)))] rfl (EL A) (EL B) y)) (NL fun x=>(no [e,a,c,d,b] [(1,V0,(P V1 V2)),(1,(P V3 I),(P V0 V4)),(1,(P (P V1 (P V4 V2)) I),(P V3 I))] rfl (ER A) (ER B) x))
theorem l575(A:1≤a):1≤a+b:=NL fun z=>(no [a,b] [(1,I,V0),(1,(P (P V0 V1) I),I)] rfl A z)
theorem l577(A:c+a=d+1)(B:b=16777216)(C:e≤8)(D:d<e):a≤b:=NL fun z=>(no [c,a,d,b,e] [(1,(P V0 V1),(P V2 I)),(1,(.num 16777216),V3),(1,V4,(.num 8)),(1,(P V2 I),V4),(1,(P V3 I),V1)] rfl (EL A) (ER B) C D z)
theorem l578(A:a+(b+1)=c+1):a+(0+1+b+0)=c+1:=AN (NL fun y=>(no [a,b,c] [(1,(P V0 (P V1 I)),(P V2 I)),(1,(P (P V2 I) I),(P V0 (P (P (P O I) V1) O)))] rfl (EL A) y)) (NL fun x=>(no [c,a,b] [(1,(P V0 I),(P V1 (P V2 I))),(1,(P (P V1 (P (P (P O I) V2) O)) I),(P V0 I))] rfl (ER A) x))
theorem l579(A:c=d+1)(B:a+b≤c)(C:e≤8)(D:d<e):a≤1000∧b≤1000:=And.intro (NL fun y=>(no [c,d,a,b,e] [(1,V0,(P V1 I)),(1,(P V2 V3),V0),(1,V4,(.num 8)),(1,(P V1 I),V4),(1,(P (.num 1000) I),V2)] rfl (EL A) B C D y)) (NL fun x=>(no [c,d,a,b,e] [(1,V0,(P V1 I)),(1,(P V2 V3),V0),(1,V4,(.num 8)),(1,(P V1 I),V4),(1,(P (.num 1000) I),V3)] rfl (EL A) B C D x))
theorem l580:(0:Int)≤((a+1:Nat):Int):=ZNL fun z=>(noz [(a:Int)] [(1,(ZP (ZP W0 ZI) ZI),ZO),(1,ZO,W0)] rfl z (NN a))
theorem l581(A:b≤8)(B:a<b):((a+1:Nat):Int)<((2:Int)^63):=ZNT fun z=>(noz [(b:Int),(a:Int)] [(1,W0,(.num 8)),(1,(ZP W1 ZI),W0),(1,(.num 9223372036854775808),(ZP W1 ZI))] rfl (IO A) (IO B) z)
theorem l582(A:a=c)(B:b=16777216)(C:d≤8)(D:c<d):a+1≤b:=NL fun z=>(no [a,c,b,d] [(1,V0,V1),(1,(.num 16777216),V2),(1,V3,(.num 8)),(1,(P V1 I),V3),(1,(P V2 I),(P V0 I))] rfl (EL A) (ER B) C D z)
theorem l583(A:b=a):a=b:=AN (NL fun y=>(no [a,b] [(1,V0,V1),(1,(P V1 I),V0)] rfl (ER A) y)) (NL fun x=>(no [b,a] [(1,V0,V1),(1,(P V1 I),V0)] rfl (EL A) x))
theorem l584(A:a=c)(B:b=16777216)(C:c≤8):a≤b:=NL fun z=>(no [a,c,b] [(1,V0,V1),(1,(.num 16777216),V2),(1,V1,(.num 8)),(1,(P V2 I),V0)] rfl (EL A) (ER B) C z)
theorem l585(A:a≤8):a+a≤1048576:=NL fun z=>(no [a] [(2,V0,(.num 8)),(1,(P (.num 1048576) I),(P V0 V0))] rfl A z)
theorem l586(A:b<a):¬a≤b:=fun z=>(no [b,a] [(1,(P V0 I),V1),(1,V1,V0)] rfl A z)
theorem l587(A:a+(c+1)=d)(B:b=16777216)(C:e≤8)(D:d≤e):a≤b:=NL fun z=>(no [a,c,d,b,e] [(1,(P V0 (P V1 I)),V2),(1,(.num 16777216),V3),(1,V4,(.num 8)),(1,V2,V4),(1,(P V3 I),V0)] rfl (EL A) (ER B) C D z)
theorem l588(A:0<a):((a:Nat):Int)≠(0:Int):=fun z=>(noz [(a:Int)] [(1,(ZP ZO ZI),W0),(1,W0,ZO)] rfl (IO A) (ZEL z))
theorem l589(A:0=a)(B:0<a):False:=no [a] [(1,V0,O),(1,(P O I),V0)] rfl (ER A) B
theorem l590(A:a=0)(B:0<a):False:=no [a] [(1,V0,O),(1,(P O I),V0)] rfl (EL A) B
theorem l591:(3:Nat)≤4:=NL fun z=>(no [] [(1,(P (.num 4) I),(.num 3))] rfl z)
theorem l592(A:c=d)(B:a+b≤c)(C:d≤8):a≤8∧b≤8:=And.intro (NL fun y=>(no [c,d,a,b] [(1,V0,V1),(1,(P V2 V3),V0),(1,V1,(.num 8)),(1,(P (.num 8) I),V2)] rfl (EL A) B C y)) (NL fun x=>(no [c,d,a,b] [(1,V0,V1),(1,(P V2 V3),V0),(1,V1,(.num 8)),(1,(P (.num 8) I),V3)] rfl (EL A) B C x))
theorem l593(A:a≤8∧b≤8):a≤1000∧b≤1000:=And.intro (NL fun y=>(no [a] [(1,V0,(.num 8)),(1,(P (.num 1000) I),V0)] rfl (And.left A) y)) (NL fun x=>(no [b] [(1,V0,(.num 8)),(1,(P (.num 1000) I),V0)] rfl (And.right A) x))
theorem l595(A:b=16777216)(B:a≤c)(C:c≤8):a≤b:=NL fun z=>(no [b,a,c] [(1,(.num 16777216),V0),(1,V1,V2),(1,V2,(.num 8)),(1,(P V0 I),V1)] rfl (ER A) B C z)
theorem l596(A:a≤8)(B:b≤a):a+b≤1048576:=NL fun z=>(no [a,b] [(2,V0,(.num 8)),(1,V1,V0),(1,(P (.num 1048576) I),(P V0 V1))] rfl A B z)
theorem l597(A:a=b)(B:b≤8):((a:Nat):Int)<((2:Int)^63):=ZNT fun z=>(noz [(a:Int),(b:Int)] [(1,W0,W1),(1,W1,(.num 8)),(1,(.num 9223372036854775808),W0)] rfl (IO (EL A)) (IO B) z)
theorem l598(A:a≤c)(B:c≤8):a≤8+(b+1):=NL fun z=>(no [a,c,b] [(1,V0,V1),(1,V1,(.num 8)),(1,(P (P (.num 8) (P V2 I)) I),V0)] rfl A B z)
theorem l599(A:a≤8):a≤899:=NL fun z=>(no [a] [(1,V0,(.num 8)),(1,(P (.num 899) I),V0)] rfl A z)
theorem l600(A:b=16777216)(B:a≤8):a+1≤b:=NL fun z=>(no [b,a] [(1,(.num 16777216),V0),(1,V1,(.num 8)),(1,(P V0 I),(P V1 I))] rfl (ER A) B z)
theorem l602(A:a=b):2*a=a+b:=AN (NL fun y=>(no [a,b] [(1,V0,V1),(1,(P (P V0 V1) I),(M 2 V0))] rfl (EL A) y)) (NL fun x=>(no [b,a] [(1,V0,V1),(1,(P (M 2 V1) I),(P V1 V0))] rfl (ER A) x))
theorem l603(A:b<a):0*a+(a-1-b)<a:=NT fun z=>(no [a,(a-1-b),(a-1),b] [(1,V0,(P (M 0 V0) V1)),(1,(P V2 I),V0),(1,(P V1 V3),V2)] rfl z (EL (SC (NL fun y=>(no [b,a] [(1,(P V0 I),V1),(1,(P V1 I),I)] rfl A y)))) (EL (SC (NL fun x=>(no [b,a,(a-1)] [(1,(P V0 I),V1),(1,V1,(P V2 I)),(1,(P V2 I),V0)] rfl A (ER (SC (NL fun y=>(no [b,a] [(1,(P V0 I),V1),(1,(P V1 I),I)] rfl A y)))) x)))))
theorem l604(A:b<2*a)(B:¬b<a):1*a≤b∧b≤1*a+a-1:=And.intro (NL fun y=>(no [a,b] [(1,V0,V1),(1,(P V1 I),(M 1 V0))] rfl (NL B) y)) (NL fun x=>(no [b,a,(1*a+a-1)] [(1,(P V0 I),(M 2 V1)),(1,(P V2 I),V0),(1,(P (M 1 V1) V1),(P V2 I))] rfl A x (ER (SC (NL fun q=>(no [b,a] [(2,(P V0 I),(M 2 V1)),(2,V1,V0),(1,(P (P (M 1 V1) V1) I),I)] rfl A (NL B) q))))))
theorem l605(A:a<2*b):a-b<b:=NT fun z=>(TO b a (fun y=>(no [a,b,(a-b)] [(1,(P V0 I),(M 2 V1)),(1,V1,V2),(1,(P V2 V1),V0)] rfl A z (EL (SC y)))) (fun x=>(no [a,b,(a-b)] [(1,(P V0 I),(M 2 V1)),(2,V1,V2),(2,V2,O)] rfl A z (EL (SZ x)))))
theorem l606:a≤1*a+b:=NL fun z=>(no [a,b] [(1,(P (P (M 1 V0) V1) I),V0)] rfl z)
theorem l609(A:a<256):(0:Int)≤((a:Nat):Int)∧((a:Nat):Int)<(256:Int):=And.intro (ZNL fun y=>(noz [(a:Int)] [(1,(ZP W0 ZI),ZO),(1,ZO,W0)] rfl y (NN a))) (ZNT fun x=>(noz [(a:Int)] [(1,(ZP W0 ZI),(.num 256)),(1,(.num 256),W0)] rfl (IO A) x))
theorem l610:(2:Nat)≤5:=NL fun z=>(no [] [(1,(P (.num 5) I),(.num 2))] rfl z)
theorem l611:(2:Nat)≤16777216:=NL fun z=>(no [] [(1,(P (.num 16777216) I),(.num 2))] rfl z)
theorem l612(A:a=7∨a=8):a≤16777216:=NL fun z=>(Or.elim A (fun y=>(no [a] [(1,(P (.num 16777216) I),V0),(1,V0,(.num 7))] rfl z (EL y))) (fun x=>(no [a] [(1,(P (.num 16777216) I),V0),(1,V0,(.num 8))] rfl z (EL x))))
theorem l613(A:a≤4):a≤10:=NL fun z=>(no [a] [(1,V0,(.num 4)),(1,(P (.num 10) I),V0)] rfl A z)
theorem l614(A:a=b)(B:b=7∨b=8):a≤100:=NL fun z=>(Or.elim B (fun y=>(no [a,b] [(1,V0,V1),(1,(P (.num 100) I),V0),(1,V1,(.num 7))] rfl (EL A) z (EL y))) (fun x=>(no [a,b] [(1,V0,V1),(1,(P (.num 100) I),V0),(1,V1,(.num 8))] rfl (EL A) z (EL x))))
theorem l615(A:c=d)(B:a+b≤d):a+b≤c:=NL fun z=>(no [d,c,a,b] [(1,V0,V1),(1,(P V2 V3),V0),(1,(P V1 I),(P V2 V3))] rfl (ER A) B z)
theorem l616(A:d=a)(B:b+c≤a):a-b-c+c≤d:=NL fun z=>(no [a,d,(a-b-c),c,(a-b),b] [(1,V0,V1),(1,(P V1 I),(P V2 V3)),(1,(P V4 V5),V0),(1,(P V2 V3),V4)] rfl (ER A) z (EL (SC (NL fun y=>(no [b,c,a] [(1,(P V0 V1),V2),(1,(P V2 I),V0)] rfl B y)))) (EL (SC (NL fun x=>(no [b,c,a,(a-b)] [(1,(P V0 V1),V2),(1,V2,(P V3 V0)),(1,(P V3 I),V1)] rfl B (ER (SC (NL fun y=>(no [b,c,a] [(1,(P V0 V1),V2),(1,(P V2 I),V0)] rfl B y)))) x)))))
theorem l617(A:a=c)(B:b=16777216)(C:c=7∨c=8):a≤b:=NL fun z=>(Or.elim C (fun y=>(no [a,c,b] [(1,V0,V1),(1,(.num 16777216),V2),(1,(P V2 I),V0),(1,V1,(.num 7))] rfl (EL A) (ER B) z (EL y))) (fun x=>(no [a,c,b] [(1,V0,V1),(1,(.num 16777216),V2),(1,(P V2 I),V0),(1,V1,(.num 8))] rfl (EL A) (ER B) z (EL x))))
theorem l618(A:c+a≤b):a≤b-c:=NL fun z=>(no [c,a,b,(b-c)] [(1,(P V0 V1),V2),(1,(P V3 I),V1),(1,V2,(P V3 V0))] rfl A z (ER (SC (NL fun y=>(no [c,a,b] [(1,(P V0 V1),V2),(1,(P V2 I),V0)] rfl A y)))))
theorem l620:a-b≤a+c+d:=NL fun z=>(TO b a (fun y=>(no [a,c,d,(a-b),b] [(1,(P (P (P V0 V1) V2) I),V3),(1,(P V3 V4),V0)] rfl z (EL (SC y)))) (fun x=>(no [a,c,d,(a-b)] [(1,(P (P (P V0 V1) V2) I),V3),(1,V3,O)] rfl z (EL (SZ x)))))
theorem l621(A:a≤d+1)(B:d≤8*b+c):a≤8*b+(c+1):=NL fun z=>(no [a,d,b,c] [(1,V0,(P V1 I)),(1,V1,(P (M 8 V2) V3)),(1,(P (P (M 8 V2) (P V3 I)) I),V0)] rfl A B z)
theorem l622(A:b=16777216)(B:c+d≤e)(C:a≤8*f+c)(D:f<2)(F:e=7∨e=8):a≤b:=NL fun z=>(Or.elim F (fun y=>(no [b,c,d,e,a,f] [(1,(.num 16777216),V0),(1,(P V1 V2),V3),(1,V4,(P (M 8 V5) V1)),(8,(P V5 I),(.num 2)),(1,(P V0 I),V4),(1,V3,(.num 7))] rfl (ER A) B C D z (EL y))) (fun x=>(no [b,c,d,e,a,f] [(1,(.num 16777216),V0),(1,(P V1 V2),V3),(1,V4,(P (M 8 V5) V1)),(8,(P V5 I),(.num 2)),(1,(P V0 I),V4),(1,V3,(.num 8))] rfl (ER A) B C D z (EL x))))
theorem l623(A:a≤8*b+c)(B:c=7∨c=8):a≤8*(b+1):=NL fun z=>(Or.elim B (fun y=>(no [a,b,c] [(1,V0,(P (M 8 V1) V2)),(1,(P (M 8 (P V1 I)) I),V0),(1,V2,(.num 7))] rfl A z (EL y))) (fun x=>(no [a,b,c] [(1,V0,(P (M 8 V1) V2)),(1,(P (M 8 (P V1 I)) I),V0),(1,V2,(.num 8))] rfl A z (EL x))))
theorem l624(A:a≠b):((a:Nat):Int)≠((b:Nat):Int):=fun z=>(NE A (fun y=>(noz [(b:Int),(a:Int)] [(1,W0,W1),(1,(ZP W1 ZI),W0)] rfl (ZER z) (IO y))) (fun x=>(noz [(a:Int),(b:Int)] [(1,W0,W1),(1,(ZP W1 ZI),W0)] rfl (ZEL z) (IO x))))
theorem l625(A:((a:Nat):Int)=((b:Nat):Int)):a=b:=AN (NL fun y=>(noz [(a:Int),(b:Int)] [(1,W0,W1),(1,(ZP W1 ZI),W0)] rfl (ZEL A) (IO y))) (NL fun x=>(noz [(b:Int),(a:Int)] [(1,W0,W1),(1,(ZP W1 ZI),W0)] rfl (ZER A) (IO x)))
theorem l626(A:a<(min b c)):a<b:=NT fun z=>(TO b c (fun y=>(no [a,(min b c),b] [(1,(P V0 I),V1),(1,V2,V0),(1,V1,V2)] rfl A z (EL (Nat.min_eq_left y)))) (fun x=>(no [a,(min b c),b,c] [(1,(P V0 I),V1),(1,V2,V0),(1,V3,V2),(1,V1,V3)] rfl A z x (EL (Nat.min_eq_right x)))))
theorem l627:a+b=b+a:=AN (NL fun y=>(no [b,a] [(1,(P (P V0 V1) I),(P V1 V0))] rfl y)) (NL fun x=>(no [a,b] [(1,(P (P V0 V1) I),(P V1 V0))] rfl x))
theorem l628(A:a≤b+1*c):a≤b+c:=NL fun z=>(no [a,b,c] [(1,V0,(P V1 (M 1 V2))),(1,(P (P V1 V2) I),V0)] rfl A z)
theorem l629(A:a≤0+b*2):a≤2*b:=NL fun z=>(no [a,b] [(1,V0,(P O (R V1 2))),(1,(P (M 2 V1) I),V0)] rfl A z)
theorem l630:a≤a+b+c:=NL fun z=>(no [a,b,c] [(1,(P (P (P V0 V1) V2) I),V0)] rfl z)
theorem l631(A:a≤2*b)(B:b=7∨b=8):a<64:=NT fun z=>(Or.elim B (fun y=>(no [a,b] [(1,V0,(M 2 V1)),(1,(.num 64),V0),(2,V1,(.num 7))] rfl A z (EL y))) (fun x=>(no [a,b] [(1,V0,(M 2 V1)),(1,(.num 64),V0),(2,V1,(.num 8))] rfl A z (EL x))))
theorem l632(A:b=16777216)(B:a=7∨a=8):a≤b:=NL fun z=>(Or.elim B (fun y=>(no [b,a] [(1,(.num 16777216),V0),(1,(P V0 I),V1),(1,V1,(.num 7))] rfl (ER A) z (EL y))) (fun x=>(no [b,a] [(1,(.num 16777216),V0),(1,(P V0 I),V1),(1,V1,(.num 8))] rfl (ER A) z (EL x))))
theorem l633(A:c+2*a≤b):a≤b:=NL fun z=>(no [c,a,b] [(1,(P V0 (M 2 V1)),V2),(1,(P V2 I),V1)] rfl A z)
theorem l634(A:a+2*c≤b):a+1≤b-c+1:=NL fun z=>(no [a,c,b,(b-c)] [(1,(P V0 (M 2 V1)),V2),(1,(P (P V3 I) I),(P V0 I)),(1,V2,(P V3 V1))] rfl A z (ER (SC (NL fun y=>(no [a,c,b] [(1,(P V0 (M 2 V1)),V2),(1,(P V2 I),V1)] rfl A y)))))
theorem l636(A:b=16777216)(B:a≤e)(C:e=7∨e=8):a≤b+c+d:=NL fun z=>(Or.elim C (fun y=>(no [b,a,e,c,d] [(1,(.num 16777216),V0),(1,V1,V2),(1,(P (P (P V0 V3) V4) I),V1),(1,V2,(.num 7))] rfl (ER A) B z (EL y))) (fun x=>(no [b,a,e,c,d] [(1,(.num 16777216),V0),(1,V1,V2),(1,(P (P (P V0 V3) V4) I),V1),(1,V2,(.num 8))] rfl (ER A) B z (EL x))))
theorem l638(A:1≤a):0<a:=NT fun z=>(no [a] [(1,I,V0),(1,V0,O)] rfl A z)
theorem l639(A:c+2*a≤b):1*a≤b-c:=NL fun z=>(no [c,a,b,(b-c)] [(1,(P V0 (M 2 V1)),V2),(1,(P V3 I),(M 1 V1)),(1,V2,(P V3 V0))] rfl A z (ER (SC (NL fun y=>(no [c,a,b] [(1,(P V0 (M 2 V1)),V2),(1,(P V2 I),V0)] rfl A y)))))
theorem l640(A:a+2*c≤b):a≤b:=NL fun z=>(no [a,c,b] [(1,(P V0 (M 2 V1)),V2),(1,(P V2 I),V0)] rfl A z)
theorem l641(A:b+2*a≤c)(B:c≤d)(C:d=7∨d=8):a<1000000:=NT fun z=>(Or.elim C (fun y=>(no [b,a,c,d] [(1,(P V0 (M 2 V1)),V2),(1,V2,V3),(2,(.num 1000000),V1),(1,V3,(.num 7))] rfl A B z (EL y))) (fun x=>(no [b,a,c,d] [(1,(P V0 (M 2 V1)),V2),(1,V2,V3),(2,(.num 1000000),V1),(1,V3,(.num 8))] rfl A B z (EL x))))
theorem l642(A:b=16777216)(B:a≤c)(C:c≤d)(D:d=7∨d=8):a≤b:=NL fun z=>(Or.elim D (fun y=>(no [b,a,c,d] [(1,(.num 16777216),V0),(1,V1,V2),(1,V2,V3),(1,(P V0 I),V1),(1,V3,(.num 7))] rfl (ER A) B C z (EL y))) (fun x=>(no [b,a,c,d] [(1,(.num 16777216),V0),(1,V1,V2),(1,V2,V3),(1,(P V0 I),V1),(1,V3,(.num 8))] rfl (ER A) B C z (EL x))))
theorem l644(A:a≤8*c)(B:b≤d)(C:d≤e)(D:c<64)(F:e=7∨e=8):a+b≤1000:=NL fun z=>(Or.elim F (fun y=>(no [a,c,b,d,e] [(1,V0,(M 8 V1)),(1,V2,V3),(1,V3,V4),(8,(P V1 I),(.num 64)),(1,(P (.num 1000) I),(P V0 V2)),(1,V4,(.num 7))] rfl A B C D z (EL y))) (fun x=>(no [a,c,b,d,e] [(1,V0,(M 8 V1)),(1,V2,V3),(1,V3,V4),(8,(P V1 I),(.num 64)),(1,(P (.num 1000) I),(P V0 V2)),(1,V4,(.num 8))] rfl A B C D z (EL x))))
theorem l645(A:a≤8*c)(B:b≤d)(C:d≤e)(D:e=7∨e=8):a+b≤8*(c+1):=NL fun z=>(Or.elim D (fun y=>(no [a,c,b,d,e] [(1,V0,(M 8 V1)),(1,V2,V3),(1,V3,V4),(1,(P (M 8 (P V1 I)) I),(P V0 V2)),(1,V4,(.num 7))] rfl A B C z (EL y))) (fun x=>(no [a,c,b,d,e] [(1,V0,(M 8 V1)),(1,V2,V3),(1,V3,V4),(1,(P (M 8 (P V1 I)) I),(P V0 V2)),(1,V4,(.num 8))] rfl A B C z (EL x))))
theorem l646(A:a≤8*b)(B:b<64):a≤1000:=NL fun z=>(no [a,b] [(1,V0,(M 8 V1)),(8,(P V1 I),(.num 64)),(1,(P (.num 1000) I),V0)] rfl A B z)
theorem l647(A:b=16777216)(B:a≤8*c)(C:c<64):a≤b:=NL fun z=>(no [b,a,c] [(1,(.num 16777216),V0),(1,V1,(M 8 V2)),(8,(P V2 I),(.num 64)),(1,(P V0 I),V1)] rfl (ER A) B C z)
theorem l648(A:b=3)(B:a≤b):1+a≤4:=NL fun z=>(no [b,a] [(1,V0,(.num 3)),(1,V1,V0),(1,(P (.num 4) I),(P I V1))] rfl (EL A) B z)
theorem l649(A:a=b)(B:b=7∨b=8):a≤1000:=NL fun z=>(Or.elim B (fun y=>(no [a,b] [(1,V0,V1),(1,(P (.num 1000) I),V0),(1,V1,(.num 7))] rfl (EL A) z (EL y))) (fun x=>(no [a,b] [(1,V0,V1),(1,(P (.num 1000) I),V0),(1,V1,(.num 8))] rfl (EL A) z (EL x))))
theorem l650(A:a=7∨a=8):a+a≤1048576:=NL fun z=>(Or.elim A (fun y=>(no [a] [(1,(P (.num 1048576) I),(P V0 V0)),(2,V0,(.num 7))] rfl z (EL y))) (fun x=>(no [a] [(1,(P (.num 1048576) I),(P V0 V0)),(2,V0,(.num 8))] rfl z (EL x))))
theorem l651(A:b=16777216)(B:a≤4):1+a≤b:=NL fun z=>(no [b,a] [(1,(.num 16777216),V0),(1,V1,(.num 4)),(1,(P V0 I),(P I V1))] rfl (ER A) B z)
theorem l652(A:b=c)(B:a≤11*c)(C:c=7∨c=8):a+b≤1048576:=NL fun z=>(Or.elim C (fun y=>(no [b,c,a] [(1,V0,V1),(1,V2,(M 11 V1)),(1,(P (.num 1048576) I),(P V2 V0)),(12,V1,(.num 7))] rfl (EL A) B z (EL y))) (fun x=>(no [b,c,a] [(1,V0,V1),(1,V2,(M 11 V1)),(1,(P (.num 1048576) I),(P V2 V0)),(12,V1,(.num 8))] rfl (EL A) B z (EL x))))
theorem l653(A:a≤11*b)(B:b=7∨b=8):a≤1000:=NL fun z=>(Or.elim B (fun y=>(no [a,b] [(1,V0,(M 11 V1)),(1,(P (.num 1000) I),V0),(11,V1,(.num 7))] rfl A z (EL y))) (fun x=>(no [a,b] [(1,V0,(M 11 V1)),(1,(P (.num 1000) I),V0),(11,V1,(.num 8))] rfl A z (EL x))))
theorem l654(A:a≤1000):a≤100000:=NL fun z=>(no [a] [(1,V0,(.num 1000)),(1,(P (.num 100000) I),V0)] rfl A z)
theorem l655(A:a≤11*b)(B:b=7∨b=8):a≤100000:=NL fun z=>(Or.elim B (fun y=>(no [a,b] [(1,V0,(M 11 V1)),(1,(P (.num 100000) I),V0),(11,V1,(.num 7))] rfl A z (EL y))) (fun x=>(no [a,b] [(1,V0,(M 11 V1)),(1,(P (.num 100000) I),V0),(11,V1,(.num 8))] rfl A z (EL x))))
theorem l656:(0:Nat)≤100000:=NL fun z=>(no [] [(1,(P (.num 100000) I),O)] rfl z)
theorem l657(A:b=16777216)(B:a≤11*c)(C:c=7∨c=8):a≤b:=NL fun z=>(Or.elim C (fun y=>(no [b,a,c] [(1,(.num 16777216),V0),(1,V1,(M 11 V2)),(1,(P V0 I),V1),(11,V2,(.num 7))] rfl (ER A) B z (EL y))) (fun x=>(no [b,a,c] [(1,(.num 16777216),V0),(1,V1,(M 11 V2)),(1,(P V0 I),V1),(11,V2,(.num 8))] rfl (ER A) B z (EL x))))
theorem l658(A:a≤11*b)(B:b=7∨b=8):a+a≤1048576:=NL fun z=>(Or.elim B (fun y=>(no [a,b] [(2,V0,(M 11 V1)),(1,(P (.num 1048576) I),(P V0 V0)),(22,V1,(.num 7))] rfl A z (EL y))) (fun x=>(no [a,b] [(2,V0,(M 11 V1)),(1,(P (.num 1048576) I),(P V0 V0)),(22,V1,(.num 8))] rfl A z (EL x))))
theorem l659(A:b=16777216)(B:a≤11*c)(C:c=7∨c=8):a+1≤b:=NL fun z=>(Or.elim C (fun y=>(no [b,a,c] [(1,(.num 16777216),V0),(1,V1,(M 11 V2)),(1,(P V0 I),(P V1 I)),(11,V2,(.num 7))] rfl (ER A) B z (EL y))) (fun x=>(no [b,a,c] [(1,(.num 16777216),V0),(1,V1,(M 11 V2)),(1,(P V0 I),(P V1 I)),(11,V2,(.num 8))] rfl (ER A) B z (EL x))))
theorem l660(A:a=b)(B:b≤11*c)(C:c=7∨c=8):a≤100000:=NL fun z=>(Or.elim C (fun y=>(no [a,b,c] [(1,V0,V1),(1,V1,(M 11 V2)),(1,(P (.num 100000) I),V0),(11,V2,(.num 7))] rfl (EL A) B z (EL y))) (fun x=>(no [a,b,c] [(1,V0,V1),(1,V1,(M 11 V2)),(1,(P (.num 100000) I),V0),(11,V2,(.num 8))] rfl (EL A) B z (EL x))))
theorem l661(A:a≤11*b)(B:b=7∨b=8):a≤99999:=NL fun z=>(Or.elim B (fun y=>(no [a,b] [(1,V0,(M 11 V1)),(1,(P (.num 99999) I),V0),(11,V1,(.num 7))] rfl A z (EL y))) (fun x=>(no [a,b] [(1,V0,(M 11 V1)),(1,(P (.num 99999) I),V0),(11,V1,(.num 8))] rfl A z (EL x))))
theorem l662:(0:Int)≤(1:Int)+((a:Nat):Int):=ZNL fun z=>(noz [(a:Int)] [(1,(ZP (ZP ZI W0) ZI),ZO),(1,ZO,W0)] rfl z (NN a))
theorem l663(A:b≤100)(B:a<b):(1:Int)+((a:Nat):Int)≤(1000:Int):=ZNL fun z=>(noz [(b:Int),(a:Int)] [(1,W0,(.num 100)),(1,(ZP W1 ZI),W0),(1,(ZP (.num 1000) ZI),(ZP ZI W1))] rfl (IO A) (IO B) z)
theorem l665:(2:Nat)≤6:=NL fun z=>(no [] [(1,(P (.num 6) I),(.num 2))] rfl z)
theorem l666:(5:Nat)≤6:=NL fun z=>(no [] [(1,(P (.num 6) I),(.num 5))] rfl z)
theorem l667:255-a<256:=NT fun z=>(TO a 255 (fun y=>(no [(255-a),a] [(1,(.num 256),V0),(1,(P V0 V1),(.num 255))] rfl z (EL (SC y)))) (fun x=>(no [(255-a)] [(1,(.num 256),V0),(1,V0,O)] rfl z (EL (SZ x)))))
theorem l668(A:b=a)(B:c=16777216)(C:a=7∨a=8):a+b≤c:=NL fun z=>(Or.elim C (fun y=>(no [b,a,c] [(1,V0,V1),(1,(.num 16777216),V2),(1,(P V2 I),(P V1 V0)),(2,V1,(.num 7))] rfl (EL A) (ER B) z (EL y))) (fun x=>(no [b,a,c] [(1,V0,V1),(1,(.num 16777216),V2),(1,(P V2 I),(P V1 V0)),(2,V1,(.num 8))] rfl (EL A) (ER B) z (EL x))))
theorem l669(A:a=b)(B:b=7∨b=8):a≤8:=NL fun z=>(Or.elim B (fun y=>(no [a,b] [(1,V0,V1),(1,(P (.num 8) I),V0),(1,V1,(.num 7))] rfl (EL A) z (EL y))) (fun x=>(no [a,b] [(1,V0,V1),(1,(P (.num 8) I),V0),(1,V1,(.num 8))] rfl (EL A) z (EL x))))
theorem l670(A:a=b)(B:b=7∨b=8):0<a:=NT fun z=>(Or.elim B (fun y=>(no [b,a] [(1,V0,V1),(1,V1,O),(1,(.num 7),V0)] rfl (ER A) z (ER y))) (fun x=>(no [b,a] [(1,V0,V1),(1,V1,O),(1,(.num 8),V0)] rfl (ER A) z (ER x))))
theorem l671(A:a=3):a≤100:=NL fun z=>(no [a] [(1,V0,(.num 3)),(1,(P (.num 100) I),V0)] rfl (EL A) z)
theorem l672:(1:Nat)≤6:=NL fun z=>(no [] [(1,(P (.num 6) I),I)] rfl z)
theorem l673(A:a<256):a≤255:=NL fun z=>(no [a] [(1,(P V0 I),(.num 256)),(1,(P (.num 255) I),V0)] rfl A z)
theorem l674(A:b=a):a+b=2*a:=AN (NL fun y=>(no [b,a] [(1,V0,V1),(1,(P (M 2 V1) I),(P V1 V0))] rfl (EL A) y)) (NL fun x=>(no [a,b] [(1,V0,V1),(1,(P (P V0 V1) I),(M 2 V0))] rfl (ER A) x))
theorem l675(A:b=a)(B:a=7∨a=8):a+b≤100000:=NL fun z=>(Or.elim B (fun y=>(no [b,a] [(1,V0,V1),(1,(P (.num 100000) I),(P V1 V0)),(2,V1,(.num 7))] rfl (EL A) z (EL y))) (fun x=>(no [b,a] [(1,V0,V1),(1,(P (.num 100000) I),(P V1 V0)),(2,V1,(.num 8))] rfl (EL A) z (EL x))))
theorem l676(A:a+10*(b+1)≤900):a+1+10*b≤900:=NL fun z=>(no [a,b] [(1,(P V0 (M 10 (P V1 I))),(.num 900)),(1,(P (.num 900) I),(P (P V0 I) (M 10 V1)))] rfl A z)
theorem l677(A:a+100*(b+1)≤9000):a+3+100*b≤9000:=NL fun z=>(no [a,b] [(1,(P V0 (M 100 (P V1 I))),(.num 9000)),(1,(P (.num 9000) I),(P (P V0 (.num 3)) (M 100 V1)))] rfl A z)
theorem l678(A:a+10*c≤900)(B:b≤c):a+10*b≤900:=NL fun z=>(no [a,c,b] [(1,(P V0 (M 10 V1)),(.num 900)),(10,V2,V1),(1,(P (.num 900) I),(P V0 (M 10 V2)))] rfl A B z)
theorem l679(A:a+100*c≤9000)(B:b≤c):a+100*b≤9000:=NL fun z=>(no [a,c,b] [(1,(P V0 (M 100 V1)),(.num 9000)),(100,V2,V1),(1,(P (.num 9000) I),(P V0 (M 100 V2)))] rfl A B z)
theorem l680(A:a+10*(b+1)≤900):a+10*b≤900:=NL fun z=>(no [a,b] [(1,(P V0 (M 10 (P V1 I))),(.num 900)),(1,(P (.num 900) I),(P V0 (M 10 V1)))] rfl A z)
theorem l681(A:a+100*(b+1)≤9000):a+1+100*b≤9000:=NL fun z=>(no [a,b] [(1,(P V0 (M 100 (P V1 I))),(.num 9000)),(1,(P (.num 9000) I),(P (P V0 I) (M 100 V1)))] rfl A z)
theorem l682(A:a+10*b≤900):a<1000:=NT fun z=>(no [a,b] [(1,(P V0 (M 10 V1)),(.num 900)),(1,(.num 1000),V0)] rfl A z)
theorem l683(A:a+100*b≤9000):a<9900:=NT fun z=>(no [a,b] [(1,(P V0 (M 100 V1)),(.num 9000)),(1,(.num 9900),V0)] rfl A z)
theorem l684(A:a+100*b≤9000):a+1<9900:=NT fun z=>(no [a,b] [(1,(P V0 (M 100 V1)),(.num 9000)),(1,(.num 9900),(P V0 I))] rfl A z)
theorem l685(A:a=c)(B:b=c):a≤b:=NL fun z=>(no [a,c,b] [(1,V0,V1),(1,V1,V2),(1,(P V2 I),V0)] rfl (EL A) (ER B) z)
theorem l686(A:b<a):a+1-(b+1)<a+1-b:=NT fun z=>(no [(a+1-b),(a+1-(b+1)),b,a] [(1,V0,V1),(1,(P V1 (P V2 I)),(P V3 I)),(1,(P V3 I),(P V0 V2))] rfl z (EL (SC (NL fun y=>(no [b,a] [(1,(P V0 I),V1),(1,(P (P V1 I) I),(P V0 I))] rfl A y)))) (ER (SC (NL fun x=>(no [b,a] [(1,(P V0 I),V1),(1,(P (P V1 I) I),V0)] rfl A x)))))
theorem l687(A:a+1≠b+1):a≠b:=fun z=>(NE A (fun y=>(no [b,a] [(1,V0,V1),(1,(P (P V1 I) I),(P V0 I))] rfl (ER z) y)) (fun x=>(no [a,b] [(1,V0,V1),(1,(P (P V1 I) I),(P V0 I))] rfl (EL z) x)))
theorem l688(A:b≤d)(B:a+d<c):a+b<c:=NT fun z=>(no [b,d,a,c] [(1,V0,V1),(1,(P (P V2 V1) I),V3),(1,V3,(P V2 V0))] rfl A B z)
theorem l689(A:a+(c+1)<b):a<b:=NT fun z=>(no [a,c,b] [(1,(P (P V0 (P V1 I)) I),V2),(1,V2,V0)] rfl A z)
theorem l690(A:a+(b+1)<c):a+1+b<c:=NT fun z=>(no [a,b,c] [(1,(P (P V0 (P V1 I)) I),V2),(1,V2,(P (P V0 I) V1))] rfl A z)
theorem l691(A:b=9900)(B:a+100*0≤9000):a<b:=NT fun z=>(no [b,a] [(1,(.num 9900),V0),(1,(P V1 (M 100 O)),(.num 9000)),(1,V0,V1)] rfl (ER A) B z)
theorem l692(A:c=9900)(B:a+100*0≤9000)(C:b<500):a+1+b<c:=NT fun z=>(no [c,a,b] [(1,(.num 9900),V0),(1,(P V1 (M 100 O)),(.num 9000)),(1,(P V2 I),(.num 500)),(1,V0,(P (P V1 I) V2))] rfl (ER A) B C z)
theorem l693:¬(300:Nat)<0:=fun z=>(no [] [(1,(P (.num 300) I),O)] rfl z)
theorem l694(A:a<64):¬300<a/30+1:=fun z=>(no [a,(a/30),(a%30)] [(1,(P V0 I),(.num 64)),(30,(P (.num 300) I),(P V1 I)),(1,(P (M 30 V1) V2),V0)] rfl A z (EL (DM a 30)))
theorem l695(A:(0:Int)<a'):a'≠(0:Int):=fun z=>(noz [a'] [(1,(ZP ZO ZI),W0),(1,W0,ZO)] rfl A (ZEL z))
theorem l697(A:(0:Int)<a'):(0:Int)≤a':=ZNL fun z=>(noz [a'] [(1,(ZP ZO ZI),W0),(1,(ZP W0 ZI),ZO)] rfl A z)
theorem l698:(0:Int)≤(0:Int):=ZNL fun z=>(noz [] [(1,(ZP ZO ZI),ZO)] rfl z)
theorem l699(A:(0:Int)≤a'):(0:Int)≤a':=ZNL fun z=>(noz [a'] [(1,ZO,W0),(1,(ZP W0 ZI),ZO)] rfl A z)
theorem l700(A:(2:Int)≤a'):a'≠(0:Int)∧a'≠(1:Int):=And.intro (fun y=>(noz [a'] [(1,(.num 2),W0),(1,W0,ZO)] rfl A (ZEL y))) (fun x=>(noz [a'] [(1,(.num 2),W0),(1,W0,ZI)] rfl A (ZEL x)))
theorem l701(A:(2:Int)≤a'):a'≠(-(1:Int)):=fun z=>(noz [a'] [(1,(.num 2),W0),(1,W0,(.neg ZI))] rfl A (ZEL z))
theorem l704(A:(2:Int)≤a'):a'≠(0:Int):=fun z=>(noz [a'] [(1,(.num 2),W0),(1,W0,ZO)] rfl A (ZEL z))
theorem l705(A:a<10):((a+1:Nat):Int)≤(10:Int):=ZNL fun z=>(noz [(a:Int)] [(1,(ZP W0 ZI),(.num 10)),(1,(ZP (.num 10) ZI),(ZP W0 ZI))] rfl (IO A) z)
theorem l706(A:a'≤(1000:Int)):(10:Int)*a'≤(10:Int)*(1000:Int):=ZNL fun z=>(noz [a'] [(10,W0,(.num 1000)),(1,(ZP (ZM 10 (.num 1000)) ZI),(ZM 10 W0))] rfl A z)
theorem l707(A:((a+1:Nat):Int)*a'≤(10:Int)*(1000:Int))(B:(10:Int)*(1000:Int)≤((b:Nat):Int)):((a+1:Nat):Int)*a'≤((b:Nat):Int):=ZNL fun z=>(noz [(((a+1:Nat):Int)*a'),(b:Int)] [(1,W0,(ZM 10 (.num 1000))),(1,(ZM 10 (.num 1000)),W1),(1,(ZP W1 ZI),W0)] rfl A B z)
theorem l708(A:a'<(1:Int)):(Int.toNat a')=0:=AN (NL fun y=>(ZTO 0 a' (fun x=>(noz [a',(((Int.toNat a'):Nat):Int)] [(1,(ZP W0 ZI),ZI),(1,(ZP ZO ZI),W1),(1,W1,W0)] rfl A (IO y) (ZEL (Int.toNat_of_nonneg x)))) (fun q=>(noz [(((Int.toNat a'):Nat):Int)] [(1,(ZP ZO ZI),W0),(1,W0,ZO)] rfl (IO y) (IO (EL (Int.toNat_of_nonpos q))))))) (NL fun r=>(noz [(((Int.toNat a'):Nat):Int)] [(1,(ZP W0 ZI),ZO),(1,ZO,W0)] rfl (IO r) (NN (Int.toNat a'))))
theorem l709(A:(0:Int)≤a')(B:a'≤(1000:Int)):(-(9223372036854775808:Int))≤a'∧a'<(9223372036854775808:Int):=And.intro (ZNL fun y=>(noz [a'] [(1,ZO,W0),(1,(ZP W0 ZI),(.neg (.num 9223372036854775808)))] rfl A y)) (ZNT fun x=>(noz [a'] [(1,W0,(.num 1000)),(1,(.num 9223372036854775808),W0)] rfl B x))
theorem l710(A:¬a'<(1:Int)):(0:Int)<a':=ZNT fun z=>(noz [a'] [(1,ZI,W0),(1,W0,ZO)] rfl (ZNL A) z)
theorem l711(A:a'≤(1000:Int)):(1000:Int)*a'≤(1000:Int)*(1000:Int):=ZNL fun z=>(noz [a'] [(1000,W0,(.num 1000)),(1,(ZP (ZM 1000 (.num 1000)) ZI),(ZM 1000 W0))] rfl A z)
theorem l712(A:a≤1000)(B:(1000:Int)≤(((2:Int)^63)-(1:Int))/a'):¬(((2:Int)^63)-(1:Int))/a'<((a:Nat):Int):=fun z=>(noz [(a:Int),((((2:Int)^63)-(1:Int))/a')] [(1,W0,(.num 1000)),(1,(.num 1000),W1),(1,(ZP W1 ZI),W0)] rfl (IO A) B z)
theorem l713(A:a'≤(1000:Int)):(Int.toNat a')≤1000:=NL fun z=>(ZTO 0 a' (fun y=>(noz [a',(((Int.toNat a'):Nat):Int)] [(1,W0,(.num 1000)),(1,(ZP (.num 1000) ZI),W1),(1,W1,W0)] rfl A (IO z) (ZEL (Int.toNat_of_nonneg y)))) (fun x=>(noz [(((Int.toNat a'):Nat):Int)] [(1,(ZP (.num 1000) ZI),W0),(1,W0,ZO)] rfl (IO z) (IO (EL (Int.toNat_of_nonpos x))))))
theorem l714(A:b=16777216)(B:a≤1000*1000):a≤b:=NL fun z=>(no [b,a] [(1,(.num 16777216),V0),(1,V1,(M 1000 (.num 1000))),(1,(P V0 I),V1)] rfl (ER A) B z)
theorem l717(A:a=16777216)(B:b≤a)(C:(Int.toNat a')<b):a'<((2:Int)^63):=ZNT fun z=>(noz [(a:Int),(b:Int),(((Int.toNat a'):Nat):Int),a'] [(1,W0,(.num 16777216)),(1,W1,W0),(1,(ZP W2 ZI),W1),(1,(.num 9223372036854775808),W3),(1,W3,W2)] rfl (IO (EL A)) (IO B) (IO C) z (ZER (Int.toNat_of_nonneg (ZNL fun y=>(noz [a'] [(1,(.num 9223372036854775808),W0),(1,(ZP W0 ZI),ZO)] rfl z y)))))
theorem l718(A:(0:Int)≤a'):(-((2:Int)^63))≤a':=ZNL fun z=>(noz [a'] [(1,ZO,W0),(1,(ZP W0 ZI),(.neg (.num 9223372036854775808)))] rfl A z)
theorem l721(A:(0:Int)≤a'):¬a'<(0:Int):=fun z=>(noz [a'] [(1,ZO,W0),(1,(ZP W0 ZI),ZO)] rfl A z)
theorem l722(A:(0:Int)≤a')(B:(Int.toNat a')<a):(0:Int)≤a'∧a'<((a:Nat):Int):=And.intro (ZNL fun y=>(noz [a'] [(1,ZO,W0),(1,(ZP W0 ZI),ZO)] rfl A y)) (ZNT fun x=>(noz [(((Int.toNat a'):Nat):Int),(a:Int),a'] [(1,(ZP W0 ZI),W1),(1,W1,W2),(1,W2,W0)] rfl (IO B) x (ZER (Int.toNat_of_nonneg (ZNL fun q=>(noz [a'] [(1,ZO,W0),(1,(ZP W0 ZI),ZO)] rfl A q))))))
theorem l723(A:b=16777216)(B:a≤b):((a:Nat):Int)<((2:Int)^63):=ZNT fun z=>(noz [(b:Int),(a:Int)] [(1,W0,(.num 16777216)),(1,W1,W0),(1,(.num 9223372036854775808),W1)] rfl (IO (EL A)) (IO B) z)
theorem l724(A:b=16777216)(B:a≤b):¬((2:Int)^63)≤((a:Nat):Int):=fun z=>(noz [(b:Int),(a:Int)] [(1,W0,(.num 16777216)),(1,W1,W0),(1,(.num 9223372036854775808),W1)] rfl (IO (EL A)) (IO B) z)
theorem l725(A:b=16777216)(B:a≤b):a≤1099511627776:=NL fun z=>(no [b,a] [(1,V0,(.num 16777216)),(1,V1,V0),(1,(P (.num 1099511627776) I),V1)] rfl (EL A) B z)
theorem l726(A:a≤b-1)(B:0<b):a<b:=NT fun z=>(no [a,(b-1),b] [(1,V0,V1),(1,V2,V0),(1,(P V1 I),V2)] rfl A z (EL (SC (NL fun y=>(no [b] [(1,(P O I),V0),(1,(P V0 I),I)] rfl B y)))))
theorem l727(A:a'≤b')(B:b'≤a'):a'=b':=ZAN (ZNL fun y=>(noz [a',b'] [(1,W0,W1),(1,(ZP W1 ZI),W0)] rfl A y)) (ZNL fun x=>(noz [b',a'] [(1,W0,W1),(1,(ZP W1 ZI),W0)] rfl B x))
theorem l730:(min a b)≤b:=NL fun z=>(TO a b (fun y=>(no [b,(min a b),a] [(1,(P V0 I),V1),(1,V2,V0),(1,V1,V2)] rfl z y (EL (Nat.min_eq_left y)))) (fun x=>(no [b,(min a b)] [(1,(P V0 I),V1),(1,V1,V0)] rfl z (EL (Nat.min_eq_right x)))))
theorem l731(A:b=16777216)(B:c≤b)(C:a<c):((a:Nat):Int)<((2:Int)^63)-(1:Int):=ZNT fun z=>(noz [(b:Int),(c:Int),(a:Int)] [(1,W0,(.num 16777216)),(1,W1,W0),(1,(ZP W2 ZI),W1),(1,(ZS (.num 9223372036854775808) ZI),W2)] rfl (IO (EL A)) (IO B) (IO C) z)
theorem l733(A:a=16777216)(B:b≤a)(C:a'<((b:Nat):Int)):a'<((2:Int)^63):=ZNT fun z=>(noz [(a:Int),(b:Int),a'] [(1,W0,(.num 16777216)),(1,W1,W0),(1,(ZP W2 ZI),W1),(1,(.num 9223372036854775808),W2)] rfl (IO (EL A)) (IO B) C z)
theorem l734(A:(Int.toNat a')<a):a'<((a:Nat):Int):=ZNT fun z=>(noz [(((Int.toNat a'):Nat):Int),(a:Int),a'] [(1,(ZP W0 ZI),W1),(1,W1,W2),(1,W2,W0)] rfl (IO A) z (ZER (Int.toNat_of_nonneg (ZNL fun y=>(noz [(((Int.toNat a'):Nat):Int),(a:Int),a'] [(1,(ZP W0 ZI),W1),(1,W1,W2),(1,(ZP W2 ZI),ZO),(1,ZO,W0)] rfl (IO A) z y (NN (Int.toNat a')))))))
theorem l735(A:a=c)(B:b=16777216)(C:c+d≤1000):a≤b:=NL fun z=>(no [a,c,b,d] [(1,V0,V1),(1,(.num 16777216),V2),(1,(P V1 V3),(.num 1000)),(1,(P V2 I),V0)] rfl (EL A) (ER B) C z)
theorem l736(A:a=d)(B:b=e)(C:c=16777216)(D:d+e≤1000):a+b≤c+1:=NL fun z=>(no [a,d,b,e,c] [(1,V0,V1),(1,V2,V3),(1,(.num 16777216),V4),(1,(P V1 V3),(.num 1000)),(1,(P (P V4 I) I),(P V0 V2))] rfl (EL A) (EL B) (ER C) D z)
theorem l737(A:a=d)(B:b=e)(C:c=16777216)(D:d+e≤1000):a+b≤c:=NL fun z=>(no [a,d,b,e,c] [(1,V0,V1),(1,V2,V3),(1,(.num 16777216),V4),(1,(P V1 V3),(.num 1000)),(1,(P V4 I),(P V0 V2))] rfl (EL A) (EL B) (ER C) D z)
theorem l738(A:b=16777216)(B:a≤1000):a≤b+1:=NL fun z=>(no [b,a] [(1,(.num 16777216),V0),(1,V1,(.num 1000)),(1,(P (P V0 I) I),V1)] rfl (ER A) B z)
theorem l739(A:a≤1000):a≤16777216+1:=NL fun z=>(no [a] [(1,V0,(.num 1000)),(1,(P (P (.num 16777216) I) I),V0)] rfl A z)
theorem l740(A:a=b)(B:b<1000):a≤1000:=NL fun z=>(no [a,b] [(1,V0,V1),(1,(P V1 I),(.num 1000)),(1,(P (.num 1000) I),V0)] rfl (EL A) B z)
theorem l741(A:a=b)(B:b<1000):a≤999:=NL fun z=>(no [a,b] [(1,V0,V1),(1,(P V1 I),(.num 1000)),(1,(P (.num 999) I),V0)] rfl (EL A) B z)
theorem l742:(0:Int)≤(-(1:Int))+((a+1:Nat):Int):=ZNL fun z=>(noz [(a:Int)] [(1,(ZP (ZP (.neg ZI) (ZP W0 ZI)) ZI),ZO),(1,ZO,W0)] rfl z (NN a))
theorem l743:(-(1:Int))+((a+1:Nat):Int)<((a+1:Nat):Int):=ZNT fun z=>(noz [(a:Int)] [(1,(ZP W0 ZI),(ZP (.neg ZI) (ZP W0 ZI)))] rfl z)
theorem l745(A:a≤900):a≤999:=NL fun z=>(no [a] [(1,V0,(.num 900)),(1,(P (.num 999) I),V0)] rfl A z)
theorem l746(A:a≤900):a≤1000:=NL fun z=>(no [a] [(1,V0,(.num 900)),(1,(P (.num 1000) I),V0)] rfl A z)
theorem l747(A:a=16777216)(B:(0:Int)≤a')(C:a'≤((a:Nat):Int)):(-(9223372036854775808:Int))≤a'∧a'<(9223372036854775808:Int):=And.intro (ZNL fun y=>(noz [a'] [(1,ZO,W0),(1,(ZP W0 ZI),(.neg (.num 9223372036854775808)))] rfl B y)) (ZNT fun x=>(noz [(a:Int),a'] [(1,W0,(.num 16777216)),(1,W1,W0),(1,(.num 9223372036854775808),W1)] rfl (IO (EL A)) C x))
theorem l748(A:a=16777216)(B:a'≤((a:Nat):Int)):a'≠(9223372036854775807:Int):=fun z=>(noz [(a:Int),a'] [(1,W0,(.num 16777216)),(1,W1,W0),(1,(.num 9223372036854775807),W1)] rfl (IO (EL A)) B (ZER z))
theorem l749(A:a'≤((a:Nat):Int)):a'≤((a:Nat):Int):=ZNL fun z=>(noz [a',(a:Int)] [(1,W0,W1),(1,(ZP W1 ZI),W0)] rfl A z)
theorem l750(A:a'≤((a:Nat):Int)):(Int.toNat a')≤a:=NL fun z=>(ZTO 0 a' (fun y=>(noz [a',(a:Int),(((Int.toNat a'):Nat):Int)] [(1,W0,W1),(1,(ZP W1 ZI),W2),(1,W2,W0)] rfl A (IO z) (ZEL (Int.toNat_of_nonneg y)))) (fun x=>(noz [(a:Int),(((Int.toNat a'):Nat):Int)] [(1,(ZP W0 ZI),W1),(1,W1,ZO),(1,ZO,W0)] rfl (IO z) (IO (EL (Int.toNat_of_nonpos x))) (NN a))))
theorem l751(A:(0:Int)≤a')(B:¬(0:Int)<a'):a'=(0:Int):=ZAN (ZNL fun y=>(noz [a'] [(1,W0,ZO),(1,(ZP ZO ZI),W0)] rfl (ZNL B) y)) (ZNL fun x=>(noz [a'] [(1,ZO,W0),(1,(ZP W0 ZI),ZO)] rfl A x))
theorem l752(A:a=16777216)(B:b≤a)(C:(0:Int)≤a')(D:a'<((b:Nat):Int)):(-(9223372036854775808:Int))≤a'∧a'<(9223372036854775808:Int):=And.intro (ZNL fun y=>(noz [a'] [(1,ZO,W0),(1,(ZP W0 ZI),(.neg (.num 9223372036854775808)))] rfl C y)) (ZNT fun x=>(noz [(a:Int),(b:Int),a'] [(1,W0,(.num 16777216)),(1,W1,W0),(1,(ZP W2 ZI),W1),(1,(.num 9223372036854775808),W2)] rfl (IO (EL A)) (IO B) D x))
theorem l753(A:(0:Int)≤a')(B:a'<(256:Int)):(0:Int)≤a'∧a'<(256:Int):=And.intro (ZNL fun y=>(noz [a'] [(1,ZO,W0),(1,(ZP W0 ZI),ZO)] rfl A y)) (ZNT fun x=>(noz [a'] [(1,(ZP W0 ZI),(.num 256)),(1,(.num 256),W0)] rfl B x))
theorem l754(A:(0:Int)≤a')(B:a'<((a:Nat):Int)):(0:Int)≤a'∧a'<((a:Nat):Int):=And.intro (ZNL fun y=>(noz [a'] [(1,ZO,W0),(1,(ZP W0 ZI),ZO)] rfl A y)) (ZNT fun x=>(noz [a',(a:Int)] [(1,(ZP W0 ZI),W1),(1,W1,W0)] rfl B x))
theorem l757(A:a'≠b'):a'<b'↔a'≤b':=Iff.intro (fun y=>(ZNL fun x=>(noz [a',b'] [(1,(ZP W0 ZI),W1),(1,(ZP W1 ZI),W0)] rfl y x))) (fun q=>(ZNT fun r=>(ZNE A (fun z1=>(noz [b',a'] [(1,W0,W1),(1,(ZP W1 ZI),W0)] rfl r z1)) (fun y1=>(noz [a',b'] [(1,W0,W1),(1,(ZP W1 ZI),W0)] rfl q y1)))))
theorem l758(A:a-b=0):a≤b:=NL fun z=>(no [(a-b),b,a] [(1,V0,O),(1,(P V1 I),V2),(1,V2,(P V0 V1))] rfl (EL A) z (ER (SC (NL fun y=>(no [b,a] [(1,(P V0 I),V1),(1,(P V1 I),V0)] rfl z y)))))
theorem l759(A:b-a=c+1):a<b:=NT fun z=>(TO a b (fun y=>(no [c,(b-a),b,a] [(1,(P V0 I),V1),(1,V2,V3),(1,(P V1 V3),V2)] rfl (ER A) z (EL (SC y)))) (fun x=>(no [c,(b-a)] [(1,(P V0 I),V1),(1,V1,O)] rfl (ER A) (EL (SZ x)))))
theorem l761(A:a=b)(B:b≤1000):a+1<4096:=NT fun z=>(no [a,b] [(1,V0,V1),(1,V1,(.num 1000)),(1,(.num 4096),(P V0 I))] rfl (EL A) B z)
theorem l762(A:a=b)(B:c≤1000)(C:b≤c):((a:Nat):Int)<((2:Int)^63):=ZNT fun z=>(noz [(a:Int),(b:Int),(c:Int)] [(1,W0,W1),(1,W2,(.num 1000)),(1,W1,W2),(1,(.num 9223372036854775808),W0)] rfl (IO (EL A)) (IO B) (IO C) z)
theorem l763(A:a<64):a≤16777216:=NL fun z=>(no [a] [(1,(P V0 I),(.num 64)),(1,(P (.num 16777216) I),V0)] rfl A z)
theorem l764(A:a=b)(B:b<64):a≤16777216+1:=NL fun z=>(no [a,b] [(1,V0,V1),(1,(P V1 I),(.num 64)),(1,(P (P (.num 16777216) I) I),V0)] rfl (EL A) B z)
theorem l765(A:¬a<2):0<a:=NT fun z=>(no [a] [(1,(.num 2),V0),(1,V0,O)] rfl (NL A) z)
theorem l766(A:a=b)(B:b<64):a<64:=NT fun z=>(no [a,b] [(1,V0,V1),(1,(P V1 I),(.num 64)),(1,(.num 64),V0)] rfl (EL A) B z)
theorem l767(A:a=b)(B:2≤b):0<a:=NT fun z=>(no [b,a] [(1,V0,V1),(1,(.num 2),V0),(1,V1,O)] rfl (ER A) B z)
theorem l768:((a:Nat):Int)*((b:Nat):Int)+((b:Nat):Int)-(0:Int)-(1:Int)=((b:Nat):Int)-(1:Int)+((a:Nat):Int)*((b:Nat):Int):=ZAN (ZNL fun y=>(noz [(b:Int),(((a:Nat):Int)*((b:Nat):Int))] [(1,(ZP (ZP (ZS W0 ZI) W1) ZI),(ZS (ZS (ZP W1 W0) ZO) ZI))] rfl y)) (ZNL fun x=>(noz [(((a:Nat):Int)*((b:Nat):Int)),(b:Int)] [(1,(ZP (ZS (ZS (ZP W0 W1) ZO) ZI) ZI),(ZP (ZS W1 ZI) W0))] rfl x))
theorem l769(A:0<a):(0:Int)≤((a:Nat):Int)-(1:Int):=ZNL fun z=>(noz [(a:Int)] [(1,(ZP ZO ZI),W0),(1,(ZP (ZS W0 ZI) ZI),ZO)] rfl (IO A) z)
theorem l770:((a:Nat):Int)-(1:Int)<((a:Nat):Int):=ZNT fun z=>(noz [(a:Int)] [(1,W0,(ZS W0 ZI))] rfl z)
theorem l771:(0:Int)+((a:Nat):Int)+(1:Int)=((a:Nat):Int)+(1:Int):=ZAN (ZNL fun y=>(noz [(a:Int)] [(1,(ZP (ZP W0 ZI) ZI),(ZP (ZP ZO W0) ZI))] rfl y)) (ZNL fun x=>(noz [(a:Int)] [(1,(ZP (ZP (ZP ZO W0) ZI) ZI),(ZP W0 ZI))] rfl x))
theorem l772(A:0<b):((a:Nat):Int)+(((b:Nat):Int)-(1:Int))=((a+(b-1):Nat):Int):=ZAN (ZNL fun y=>(noz [(a:Int),((b-1:Nat):Int),(b:Int)] [(1,(ZP (ZP W0 W1) ZI),(ZP W0 (ZS W2 ZI))),(1,W2,(ZP W1 ZI))] rfl y (IO (ER (SC (NL fun x=>(noz [(b:Int)] [(1,(ZP ZO ZI),W0),(1,(ZP W0 ZI),ZI)] rfl (IO A) (IO x)))))))) (ZNL fun q=>(noz [(a:Int),(b:Int),((b-1:Nat):Int)] [(1,(ZP (ZP W0 (ZS W1 ZI)) ZI),(ZP W0 W2)),(1,(ZP W2 ZI),W1)] rfl q (IO (EL (SC (NL fun r=>(noz [(b:Int)] [(1,(ZP ZO ZI),W0),(1,(ZP W0 ZI),ZI)] rfl (IO A) (IO r))))))))
theorem l773:(-((2:Int)^62))≤(0:Int):=ZNL fun z=>(noz [] [(1,(ZP ZO ZI),(.neg (.num 4611686018427387904)))] rfl z)
theorem l774:(0:Int)<((2:Int)^62):=ZNT fun z=>(noz [] [(1,(.num 4611686018427387904),ZO)] rfl z)
theorem l775:(-((2:Int)^62))≤((a:Nat):Int):=ZNL fun z=>(noz [(a:Int)] [(1,(ZP W0 ZI),(.neg (.num 4611686018427387904))),(1,ZO,W0)] rfl z (NN a))
theorem l776(A:a≤16777216):((a:Nat):Int)<((2:Int)^62):=ZNT fun z=>(noz [(a:Int)] [(1,W0,(.num 16777216)),(1,(.num 4611686018427387904),W0)] rfl (IO A) z)
theorem l779(A:a≤b)(B:b≤16777216):((a:Nat):Int)<((2:Int)^62):=ZNT fun z=>(noz [(a:Int),(b:Int)] [(1,W0,W1),(1,W1,(.num 16777216)),(1,(.num 4611686018427387904),W0)] rfl (IO A) (IO B) z)
theorem l782:((a:Nat):Int)+((b:Nat):Int)=((a+b:Nat):Int):=ZAN (ZNL fun y=>(noz [(a:Int),(b:Int)] [(1,(ZP (ZP W0 W1) ZI),(ZP W0 W1))] rfl y)) (ZNL fun x=>(noz [(a:Int),(b:Int)] [(1,(ZP (ZP W0 W1) ZI),(ZP W0 W1))] rfl x))
theorem l783(A:a≤(3^20))(B:0<a):(0:Int)<((a:Nat):Int)∧((a:Nat):Int)<((2:Int)^64):=And.intro (ZNT fun y=>(noz [(a:Int)] [(1,(ZP ZO ZI),W0),(1,W0,ZO)] rfl (IO B) y)) (ZNT fun x=>(noz [(a:Int)] [(1,W0,(.num 3486784401)),(1,(.num 18446744073709551616),W0)] rfl (IO A) x))
theorem l785(A:b≤a):((a:Nat):Int)-((b:Nat):Int)=((a-b:Nat):Int):=ZAN (ZNL fun y=>(noz [((a-b:Nat):Int),(a:Int),(b:Int)] [(1,(ZP W0 ZI),(ZS W1 W2)),(1,W1,(ZP W0 W2))] rfl y (IO (ER (SC (NL fun x=>(noz [(b:Int),(a:Int)] [(1,W0,W1),(1,(ZP W1 ZI),W0)] rfl (IO A) (IO x)))))))) (ZNL fun q=>(noz [(a:Int),(b:Int),((a-b:Nat):Int)] [(1,(ZP (ZS W0 W1) ZI),W2),(1,(ZP W2 W1),W0)] rfl q (IO (EL (SC (NL fun r=>(noz [(b:Int),(a:Int)] [(1,W0,W1),(1,(ZP W1 ZI),W0)] rfl (IO A) (IO r))))))))
theorem l786:(-((2:Int)^64))<((a:Nat):Int):=ZNT fun z=>(noz [(a:Int)] [(1,W0,(.neg (.num 18446744073709551616))),(1,ZO,W0)] rfl z (NN a))
theorem l787(A:a<1000000):((a:Nat):Int)<((2:Int)^64):=ZNT fun z=>(noz [(a:Int)] [(1,(ZP W0 ZI),(.num 1000000)),(1,(.num 18446744073709551616),W0)] rfl (IO A) z)
theorem l788:((a:Nat):Int)=((b:Nat):Int)↔a=b:=Iff.intro (fun y=>(AN (NL fun q=>(noz [(a:Int),(b:Int)] [(1,W0,W1),(1,(ZP W1 ZI),W0)] rfl (ZEL y) (IO q))) (NL fun r=>(noz [(b:Int),(a:Int)] [(1,W0,W1),(1,(ZP W1 ZI),W0)] rfl (ZER y) (IO r))))) (fun z1=>(ZAN (ZNL fun x1=>(noz [(a:Int),(b:Int)] [(1,W0,W1),(1,(ZP W1 ZI),W0)] rfl (IO (EL z1)) x1)) (ZNL fun q1=>(noz [(b:Int),(a:Int)] [(1,W0,W1),(1,(ZP W1 ZI),W0)] rfl (IO (ER z1)) q1))))
theorem l790(A:a≤e+d)(B:e≤b+c):a≤b+(c+d):=NL fun z=>(no [a,e,d,b,c] [(1,V0,(P V1 V2)),(1,V1,(P V3 V4)),(1,(P (P V3 (P V4 V2)) I),V0)] rfl A B z)
theorem l791(A:a≤100000):¬((2:Int)^63)≤((a:Nat):Int):=fun z=>(noz [(a:Int)] [(1,W0,(.num 100000)),(1,(.num 9223372036854775808),W0)] rfl (IO A) z)
theorem l792(A:a+b≤100000):a+b≤1048574:=NL fun z=>(no [a,b] [(1,(P V0 V1),(.num 100000)),(1,(P (.num 1048574) I),(P V0 V1))] rfl A z)
theorem l793(A:a'<((2:Int)^63)):¬((2:Int)^63)≤a':=fun z=>(noz [a'] [(1,(ZP W0 ZI),(.num 9223372036854775808)),(1,(.num 9223372036854775808),W0)] rfl A z)
end Z
end Mine
end
section
open PySem PySem.Calls PySem.W PyProof.Rows
namespace Mine
inductive D where
  | val (v:Value)
  | int (i:Int)
  | str (x:Str)
  | bytes (b:Array UInt8)
  | tup (ds:List D)
  | lst (ds:List D)
  | rng (a b c:Int)
noncomputable abbrev D.bool (b:Bool):D:=.val (.bool b)
noncomputable abbrev D.nil:D:=.val .none
noncomputable abbrev tupO (vs:List Value) (n:Nat):Obj:={ cls:=.type "tuple",data:=.seq vs.toArray n }
noncomputable abbrev lstO (vs:List Value) (n:Nat):Obj:={ cls:=.type "list",data:=.seq vs.toArray n }
mutual
inductive Rep (X:List Addr) (h:Heap):Value→D→Prop
  | val (v:Value):Rep X h v (.val v)
  | int (i:Int) (t:Tok):Rep X h (.int i t) (.int i)
  | str (x:Str) (t:Tok):Rep X h (.str x t) (.str x)
  | bytes (b:Array UInt8) (t:Tok):Rep X h (.bytes b t) (.bytes b)
  | tup {a:Addr} {vs:List Value} {n:Nat} {ds:List D}:a∉X→h.get? a=some (tupO vs n)→RepL X h vs ds→Rep X h (.ref a) (.tup ds)
  | lst {a:Addr} {vs:List Value} {n:Nat} {ds:List D}:a∉X→h.get? a=some (lstO vs n)→RepL X h vs ds→Rep X h (.ref a) (.lst ds)
  | rng {r:Addr} {a b c:Int} {t u v:Tok}:r∉X→IsRange h r a b c t u v→Rep X h (.ref r) (.rng a b c)
inductive RepL (X:List Addr) (h:Heap):List Value→List D→Prop
  | nil:RepL X h [] []
  | cons {v:Value} {vs:List Value} {d:D} {ds:List D}:Rep X h v d→RepL X h vs ds→RepL X h (v::vs) (d::ds)
end
section
variable {X X':List Addr} {h h':Heap} (hk:∀ b o,b∉X→h.get? b=some o→b∉X'∧h'.get? b=some o)
include hk
theorem Rep.mono {v:Value} {d:D} (r:Rep X h v d):Rep X' h' v d :=
  Rep.rec (motive_1:=fun v d _=>Rep X' h' v d) (motive_2:=fun vs ds _=>RepL X' h' vs ds) .val .int .str .bytes (fun a e _ r=>.tup (hk _ _ a e).1 (hk _ _ a e).2 r) (fun a e _ r=>.lst (hk _ _ a e).1 (hk _ _ a e).2 r) (fun a e=>.rng (hk _ _ a e).1 (hk _ _ a e).2) .nil (fun _ _ a r=>.cons a r) r
theorem RepL.mono {vs:List Value} {ds:List D} (r:RepL X h vs ds):RepL X' h' vs ds :=
  RepL.rec (motive_1:=fun v d _=>Rep X' h' v d) (motive_2:=fun vs ds _=>RepL X' h' vs ds) .val .int .str .bytes (fun a e _ r=>.tup (hk _ _ a e).1 (hk _ _ a e).2 r) (fun a e _ r=>.lst (hk _ _ a e).1 (hk _ _ a e).2 r) (fun a e=>.rng (hk _ _ a e).1 (hk _ _ a e).2) .nil (fun _ _ a r=>.cons a r) r
end
noncomputable def Rep.Shape (X:List Addr) (h:Heap) (v:Value):D→Prop
  | .val w=>w=v
  | .int i=>∃ t,Value.int i t=v
  | .str x=>∃ t,Value.str x t=v
  | .bytes b=>∃ t,Value.bytes b t=v
  | .tup ds=>∃ a vs n,Value.ref a=v∧a∉X∧h.get? a=some (tupO vs n)∧RepL X h vs ds
  | .lst ds=>∃ a vs n,Value.ref a=v∧a∉X∧h.get? a=some (lstO vs n)∧RepL X h vs ds
  | .rng a b c=>∃ r t u w,Value.ref r=v∧r∉X∧IsRange h r a b c t u w
section
variable {X:List Addr} {h:Heap} {v:Value}
theorem Rep.inv {d:D} (r:Rep X h v d):Rep.Shape X h v d:=Rep.casesOn (motive_1:=fun v d _=>Rep.Shape X h v d) r (fun _=>rfl) (fun _ t=>⟨t,rfl⟩) (fun _ t=>⟨t,rfl⟩) (fun _ t=>⟨t,rfl⟩) (fun a b c=>⟨_,_,_,rfl,a,b,c⟩) (fun a b c=>⟨_,_,_,rfl,a,b,c⟩) (fun a b=>⟨_,_,_,_,rfl,a,b⟩)
theorem Rep.vI {w:Value} (r:Rep X h v (.val w)):w=v:=r.inv
theorem Rep.iI {i:Int} (r:Rep X h v (.int i)):∃ t,Value.int i t=v:=r.inv
theorem Rep.sI {x:Str} (r:Rep X h v (.str x)):∃ t,Value.str x t=v:=r.inv
theorem Rep.bI {b:Array UInt8} (r:Rep X h v (.bytes b)):∃ t,Value.bytes b t=v:=r.inv
theorem Rep.tI {ds:List D} (r:Rep X h v (.tup ds)):∃ a vs n,Value.ref a=v∧a∉X∧h.get? a=some (tupO vs n)∧RepL X h vs ds:=r.inv
theorem Rep.lI {ds:List D} (r:Rep X h v (.lst ds)):∃ a vs n,Value.ref a=v∧a∉X∧h.get? a=some (lstO vs n)∧RepL X h vs ds:=r.inv
theorem RepL.ind {M:List Value→List D→Prop} (n:M [] []) (c:∀ v vs d ds,Rep X h v d→RepL X h vs ds→M vs ds→M (v::vs) (d::ds)) {vs:List Value} {ds:List D} (r:RepL X h vs ds):M vs ds :=
  RepL.rec (motive_1:=fun _ _ _=>True) (motive_2:=fun vs ds _=>M vs ds) (fun _=>trivial) (fun _ _=>trivial) (fun _ _=>trivial) (fun _ _=>trivial) (fun _ _ _ _=>trivial) (fun _ _ _ _=>trivial) (fun _ _=>trivial) n (fun a r _ ih=>c _ _ _ _ a r ih) r
noncomputable def RepL.Shape (X:List Addr) (h:Heap) (vs:List Value):List D→Prop
  | []=>[]=vs
  | d::ds=>∃ v ws,v::ws=vs∧Rep X h v d∧RepL X h ws ds
theorem RepL.inv {vs:List Value} {ds:List D} (r:RepL X h vs ds):RepL.Shape X h vs ds:=r.ind rfl fun _ _ _ _ a r _=>⟨_,_,rfl,a,r⟩
theorem RepL.nI {vs:List Value} (r:RepL X h vs []):[]=vs:=r.inv
theorem RepL.cI {vs:List Value} {d:D} {ds:List D} (r:RepL X h vs (d::ds)):∃ v ws,v::ws=vs∧Rep X h v d∧RepL X h ws ds:=r.inv
end
theorem lenS {vs:List Value} {n:Nat} (h:vs.length=n+1):∃ a r,List.length r=n∧vs=a::r:=by
  cases vs with
  | nil=>cases h
  | cons a r=>exact ⟨a,r,Nat.succ.inj h,rfl⟩
theorem len1 {vs:List Value} (h:vs.length=1):∃ a,vs=[a]:=(lenS h).elim fun a q=>q.elim fun r q=>⟨a,q.2.trans (congrArg (a::·) (List.eq_nil_of_length_eq_zero q.1))⟩
theorem len2 {vs:List Value} (h:vs.length=2):∃ a b,vs=[a,b]:=(lenS h).elim fun a q=>q.elim fun r q=>(len1 q.1).elim fun b e=>⟨a,b,q.2.trans (congrArg (a::·) e)⟩
theorem len3 {vs:List Value} (h:vs.length=3):∃ a b c,vs=[a,b,c]:=(lenS h).elim fun a q=>q.elim fun r q=>(len2 q.1).elim fun b e=>e.elim fun c e=>⟨a,b,c,q.2.trans (congrArg (a::·) e)⟩
theorem len4 {vs:List Value} (h:vs.length=4):∃ a b c d,vs=[a,b,c,d]:=(lenS h).elim fun a q=>q.elim fun r q=>(len3 q.1).elim fun b e=>e.elim fun c e=>e.elim fun d e=>⟨a,b,c,d,q.2.trans (congrArg (a::·) e)⟩
section
variable {X:List Addr} {h:Heap} {vs ws:List Value} {ds es:List D} {v:Value} {d:D}
theorem RepL.length (r:RepL X h vs ds):vs.length=ds.length:=r.ind (M:=fun vs ds=>vs.length=ds.length) rfl fun _ _ _ _ _ _ ih=>congrArg (·+1) ih
theorem RepL.append (r:RepL X h vs ds) (q:RepL X h ws es):RepL X h (vs++ws) (ds++es):=r.ind (M:=fun vs ds=>RepL X h (vs++ws) (ds++es)) q fun _ _ _ _ a _ ih=>.cons a ih
theorem RepL.snoc (r:RepL X h vs ds) (q:Rep X h v d):RepL X h (vs++[v]) (ds++[d]):=r.append (.cons q .nil)
theorem RepL.get (r:RepL X h vs ds) {k:Nat} {d:D} (hk:ds[k]?=some d):∃ v,vs[k]?=some v∧Rep X h v d :=
  r.ind (M:=fun vs ds=>∀ k,ds[k]?=some d→∃ v,vs[k]?=some v∧Rep X h v d) (fun _ e=>nomatch (List.getElem?_nil.symm.trans e)) (fun v _ _ _ a _ ih k=>Nat.casesOn k (fun e=>⟨v,rfl,Option.some.inj e ▸ a⟩) fun k e=>ih k e) k hk
theorem RepL.get' (r:RepL X h vs ds) {k:Nat} {v:Value} (hk:vs[k]?=some v):∃ d,ds[k]?=some d∧Rep X h v d :=
  r.ind (M:=fun vs ds=>∀ k,vs[k]?=some v→∃ d,ds[k]?=some d∧Rep X h v d) (fun _ e=>nomatch (List.getElem?_nil.symm.trans e)) (fun _ _ d _ a _ ih k=>Nat.casesOn k (fun e=>⟨d,rfl,Option.some.inj e ▸ a⟩) fun k e=>ih k e) k hk
theorem RepL.set (r:RepL X h vs ds) (k:Nat) (q:Rep X h v d):RepL X h (vs.set k v) (ds.set k d) :=
  r.ind (M:=fun vs ds=>∀ k,RepL X h (vs.set k v) (ds.set k d)) (fun _=>.nil) (fun _ _ _ _ a r ih k=>Nat.casesOn k (.cons q r) fun k=>.cons a (ih k)) k
theorem RepL.take (r:RepL X h vs ds) (k:Nat):RepL X h (vs.take k) (ds.take k) :=
  r.ind (M:=fun vs ds=>∀ k,RepL X h (vs.take k) (ds.take k)) (fun k=>Nat.casesOn k .nil fun _=>.nil) (fun _ _ _ _ a _ ih k=>Nat.casesOn k .nil fun k=>.cons a (ih k)) k
theorem RepL.drop (r:RepL X h vs ds) (k:Nat):RepL X h (vs.drop k) (ds.drop k) :=
  r.ind (M:=fun vs ds=>∀ k,RepL X h (vs.drop k) (ds.drop k)) (fun k=>Nat.casesOn k .nil fun _=>.nil) (fun _ _ _ _ a r ih k=>Nat.casesOn k (.cons a r) fun k=>ih k) k
theorem RepL.reverse (r:RepL X h vs ds):RepL X h vs.reverse ds.reverse :=
  r.ind (M:=fun vs ds=>RepL X h vs.reverse ds.reverse) .nil fun _ _ _ _ a _ ih=>by rw [List.reverse_cons,List.reverse_cons];exact ih.snoc a
end
structure Cx where
  prog:Program
  w:World
  K:Frag
  hb:Heap
  P:List Addr
  mg:Str→Option Value
  mb:Str→Option Value
  os:OsState
noncomputable abbrev Cx.M (C:Cx):Model:=model C.prog C.w
structure Base (C:Cx):Prop where
  g:C.hb.Ns mainGlobals C.mg
  b:C.hb.Ns builtinsNs C.mb
  lim:C.hb.NoLimit
  bi:∀ x:Str,x≠"__name__"→C.mb x=bootBuiltins x
  X:C.K.In C.hb
  gP:mainGlobals∉C.P
  bP:builtinsNs∉C.P
  sP:cStatics∉C.P
  KP:∀ a o,C.K.lookup a=some o→a∉C.P
noncomputable def Tab (C:Cx) (h:Heap) (p:Addr):Prop:=∃ c ps₀ more,c∉C.P∧C.hb.TableAt c p ps₀∧h.TableAt c p (ps₀++more)∧h.IsCode c p (ps₀++more)
structure Inv (C:Cx) (X:List Addr) (s:Shared):Prop where
  base:Base C
  keep:∀ b o,b∉C.P→C.hb.get? b=some o→s.heap.get? b=some o
  tab:∀ p∈C.P,Tab C s.heap p
  os:s.os=C.os
  gens:AllBare s.gens
  pin:∀ p∈C.P,p∈X
  new:∀ a∈X,a∉C.P→C.hb.get? a=none
  occ:∀ a∈X,∃ o,s.heap.get? a=some o
structure Ext (C:Cx) (S:List Addr) (s s':Shared):Prop where
  keep:∀ b o,b∉S→b∉C.P→s.heap.get? b=some o→s'.heap.get? b=some o
  occ:∀ b o,s.heap.get? b=some o→∃ o',s'.heap.get? b=some o'
  tab:(∀ p∈C.P,Tab C s.heap p)→∀ p∈C.P,Tab C s'.heap p
  os:s'.os=s.os
  gens:AllBare s.gens→AllBare s'.gens
theorem Tab.keeps {C:Cx} {h h':Heap} {p:Addr} (t:Tab C h p) (hk:∀ b o,h.get? b=some o→h'.get? b=some o):Tab C h' p:=by
  obtain ⟨c,ps₀,more,hc,a,b,i⟩:=t
  exact ⟨c,ps₀,more,hc,a,b.keeps hk,i.keeps hk⟩
theorem Ext.refl (C:Cx) (S:List Addr) (s:Shared):Ext C S s s:=⟨fun _ _ _ _ e=>e,fun _ o e=>⟨o,e⟩,fun t=>t,rfl,fun g=>g⟩
theorem Ext.trans {C:Cx} {S:List Addr} {s s₁ s₂:Shared} (a:Ext C S s s₁) (b:Ext C S s₁ s₂):Ext C S s s₂ :=
  ⟨fun x o h1 h2 e=>b.keep x o h1 h2 (a.keep x o h1 h2 e),fun x o e=>let ⟨o',e'⟩:=a.occ x o e;b.occ x o' e',fun t=>b.tab (a.tab t),b.os.trans a.os,fun g=>b.gens (a.gens g)⟩
theorem Ext.of_keeps {C:Cx} {S:List Addr} {s s':Shared} (k:∀ b o,s.heap.get? b=some o→s'.heap.get? b=some o) (os:s'.os=s.os) (g:s'.gens=s.gens):Ext C S s s' :=
  ⟨fun b o _ _ e=>k b o e,fun b o e=>⟨o,k b o e⟩,fun t p hp=>(t p hp).keeps k,os,fun x=>g ▸ x⟩
theorem Ext.up {C:Cx} {S:List Addr} {s:Shared} {h':Heap} {tk:Nat} (k:∀ b o,s.heap.get? b=some o→h'.get? b=some o):Ext C S s { s with heap:=h',toks:=tk }:=.of_keeps k rfl rfl
theorem Ext.tok {C:Cx} {S:List Addr} {s:Shared} {tk:Nat}:Ext C S s { s with toks:=tk }:=.of_keeps (fun _ _ e=>e) rfl rfl
theorem Ext.push {C:Cx} {S:List Addr} {s:Shared} {o:Obj} {tk:Nat}:Ext C S s { s with heap:=s.heap.push o,toks:=tk }:=.up fun _ _ e=>Heap.get?_push_of_some _ e
theorem Ext.push' {C:Cx} {S:List Addr} {s:Shared} {o:Obj}:Ext C S s { s with heap:=s.heap.push o }:=.up fun _ _ e=>Heap.get?_push_of_some _ e
theorem Ext.wider {C:Cx} {S S':List Addr} {s s':Shared} (a:Ext C S s s') (h:∀ b∈S,b∈S'∨s.heap.get? b=none):Ext C S' s s' :=
  ⟨fun b o h1 h2 e=>a.keep b o (fun hb=>(h b hb).elim h1 fun z=>by rw [z] at e;cases e) h2 e,a.occ,a.tab,a.os,a.gens⟩
theorem Ext.same {C : Cx} {S : List Addr} {s : Shared} {h' : Heap} {tk : Nat} {a : Addr} (hs : Heap.SameBut a s.heap h') (ha : a ∈ S) (hn : C.hb.get? a = none)
    (ho:∀ o,s.heap.get? a=some o→∃ o',h'.get? a=some o'):Ext C S s { s with heap:=h',toks:=tk }:=by
  refine ⟨fun b o h1 _ e=>(hs.2 b (fun q=>h1 (q ▸ ha))).trans e,fun b o e=>?_,fun t p hp=>?_,rfl,fun g=>g⟩
  · by_cases q:b=a
    · subst q;exact ho o e
    · exact ⟨o,(hs.2 b q).trans e⟩
  · obtain ⟨c,ps₀,more,hc,x,y,i⟩:=t p hp
    have hca:c≠a:=by
      rintro rfl
      obtain ⟨⟨o,vs,e,_⟩,_⟩:=x
      rw [hn] at e;cases e
    have hpa:p≠a:=by
      rintro rfl
      obtain ⟨_,e⟩:=x
      rw [hn] at e;cases e
    refine ⟨c,ps₀,more,hc,x,y.sameBut hs hca hpa,?_⟩
    exact i.extBut hs.extBut hca hpa
section
variable {C:Cx} {X S:List Addr} {s s':Shared}
theorem Inv.ext (I:Inv C X s) (e:Ext C S s s') (hS:∀ a∈S,C.hb.get? a=none):Inv C X s' where
  base:=I.base
  keep:=fun b o hb h=>e.keep b o (fun q=>by rw [hS b q] at h;cases h) hb (I.keep b o hb h)
  tab:=e.tab I.tab
  os:=e.os.trans I.os
  gens:=e.gens I.gens
  pin:=I.pin
  new:=I.new
  occ:=fun a ha=>let ⟨o,h⟩:=I.occ a ha;e.occ a o h
theorem Inv.ext0 (I:Inv C X s) (e:Ext C [] s s'):Inv C X s':=I.ext e fun _ h=>nomatch h
theorem Rep.ext {v:Value} {d:D} (r:Rep X s.heap v d) (e:Ext C S s s') (hS:∀ a∈S,a∈X) (hP:∀ p∈C.P,p∈X):Rep X s'.heap v d :=
  r.mono fun b o hb h=>⟨hb,e.keep b o (fun q=>hb (hS b q)) (fun q=>hb (hP b q)) h⟩
theorem RepL.ext {v:List Value} {d:List D} (r:RepL X s.heap v d) (e:Ext C S s s') (hS:∀ a∈S,a∈X) (hP:∀ p∈C.P,p∈X):RepL X s'.heap v d :=
  r.mono fun b o hb h=>⟨hb,e.keep b o (fun q=>hb (hS b q)) (fun q=>hb (hP b q)) h⟩
end
noncomputable abbrev NoE:Value→Shared→Prop:=fun _ _=>False
end Mine
end
section
open PySem PySem.Calls PySem.W PyProof.Rows
namespace Mine
structure Room (A:Around) (k:Nat):Prop where
  h:A.handled=none
  d:A.depth+10*k≤900
  u:A.units+100*k≤9000
  g:A.guards=some []
noncomputable def Bound (h:Heap) (env:Env) (x:Str) (v:Value):Prop :=
  (env.kindOf x=some .local∧∃ m,h.Ns env.locals m∧m x=some v) ∨
  ((env.kindOf x=some .cell∨env.kindOf x=some .free)∧∃ c,env.cells.lookup x=some c∧h.IsCell c (some v))
structure EnvOk (C:Cx) (X:List Addr) (h:Heap) (env:Env):Prop where
  kind:env.scope.kind=.function
  glob:env.globals=mainGlobals
  bi:env.builtins=builtinsNs
  ns:∃ m,h.Ns env.locals m
  inX:env.locals∈X
  lP:env.locals∉C.P
  cel:∀ x c,env.cells.lookup x=some c→c∉C.P∧c≠env.locals∧∃ v,h.IsCell c v
  own:∀ x c,env.kindOf x=some .cell→env.cells.lookup x=some c→c∈X
  inj:∀ x y c,env.cells.lookup x=some c→env.cells.lookup y=some c→x=y
inductive Mut where
  | lst (ds:List D)
  | acc (cls:Addr) (dx:Addr) (ds:List D)
  | inst (cls:Addr) (dx:Addr)
  | ba (b:Array UInt8)
  | obj (o:Obj) (dx:Addr) (od:Obj)
noncomputable def Mut.more:Mut→List Addr
  | .acc _ dx _=>[dx]
  | .inst _ dx=>[dx]
  | .obj _ dx _=>[dx]
  | _=>[]
noncomputable def doms (μ:List (Addr × Mut)):List Addr:=μ.flatMap fun p=>p.1::p.2.more
noncomputable def accO (cls dx:Addr) (vs:List Value) (n:Nat):Obj:={ cls:=.ref cls,dict:=some dx,data:=.seq vs.toArray n }
noncomputable def MutOk (X:List Addr) (h:Heap) (a:Addr):Mut→Prop
  | .lst ds=>∃ vs n,h.get? a=some (lstO vs n)∧RepL X h vs ds
  | .acc cls dx ds=>(∃ vs n,h.get? a=some (accO cls dx vs n)∧RepL X h vs ds)∧dx≠a∧∃ (hsh:Int) (t u:Tok) (n:Nat),h.get? dx=some (dictOf [⟨hsh,.str "_initial_size" t,.int 0 u⟩] n)
  | .inst cls dx=>(∃ sl,h.get? a=some ⟨.ref cls,some dx,.plain,sl⟩)∧dx≠a∧∃ (hsh:Int) (t:Tok) (v:Value) (n:Nat),h.get? dx=some (dictOf [⟨hsh,.str "passwd" t,v⟩] n)
  | .ba b=>∃ n,h.get? a=some { cls:=.type "bytearray",data:=.bytearray b n }
  | .obj o dx od=>h.get? a=some o∧dx≠a∧h.get? dx=some od
structure G where
  C:Cx
  A:Around
  X:List Addr
  env:Env
  ns:List Str
structure St (g:G) (ρ:List (Option D)) (μ:List (Addr × Mut)) (s:Shared):Prop where
  inv:Inv g.C g.X s
  envOk:EnvOk g.C g.X s.heap g.env
  vars:∀ (i:Nat) x d,g.ns[i]?=some x→ρ[i]?=some (some d)→∃ v,Bound s.heap g.env x v∧Rep g.X s.heap v d
  muts:∀ p∈μ,MutOk g.X s.heap p.1 p.2
  mX:∀ a∈doms μ,a∈g.X∧a∉g.C.P∧a≠g.env.locals∧∀ x c,g.env.cells.lookup x=some c→a≠c
  apart:(doms μ).Nodup
  nd:g.ns.Nodup
theorem Bound.ext {C : Cx} {S X : List Addr} {s s' : Shared} {env : Env} {x : Str} {v : Value} (b : Bound s.heap env x v) (e : Ext C S s s') (k : EnvOk C X s.heap env)
    (hL:env.locals∉S) (hC:∀ y c,env.cells.lookup y=some c→c∉S):Bound s'.heap env x v:=by
  rcases b with ⟨hk,m,hn,hm⟩ | ⟨hk,c,hc,o,ho,hd⟩
  · exact .inl ⟨hk,m,hn.at' fun o e'=>e.keep _ o hL k.lP e',hm⟩
  · exact .inr ⟨hk,c,hc,o,e.keep _ o (hC _ _ hc) (k.cel _ _ hc).1 ho,hd⟩
theorem EnvOk.ext {C : Cx} {S X : List Addr} {s s' : Shared} {env : Env} (k : EnvOk C X s.heap env) (e : Ext C S s s') (hL : env.locals ∉ S) (hC : ∀ y c, env.cells.lookup y = some c → c ∉ S) :
    EnvOk C X s'.heap env where
  kind:=k.kind
  glob:=k.glob
  bi:=k.bi
  ns:=let ⟨m,hn⟩:=k.ns;⟨m,hn.at' fun o e'=>e.keep _ o hL k.lP e'⟩
  inX:=k.inX
  lP:=k.lP
  cel:=fun x c h=>let ⟨a,b,v,o,ho,hd⟩:=k.cel x c h;⟨a,b,v,o,e.keep _ o (hC _ _ h) a ho,hd⟩
  own:=k.own
  inj:=k.inj
theorem nil_doms {l:List Addr} {b:Addr} (h:b∈l++doms []):b∈l:=(List.mem_append.mp h).elim id fun q=>nomatch q
theorem one_dom {a b:Addr} {ds:List D} (h:b∈doms [(a,.lst ds)]):b=a:=List.mem_singleton.mp h
theorem ba_dom {a b:Addr} {ds:Array UInt8} (h:b∈doms [(a,.ba ds)]):b=a:=List.mem_singleton.mp h
theorem inst_dom {a b c d:Addr} (h:b∈doms [(a,.inst c d)]):b=a∨b=d:=(List.mem_cons.mp h).imp id List.mem_singleton.mp
theorem mem_doms {μ:List (Addr × Mut)} {p:Addr × Mut} (h:p∈μ):p.1∈doms μ:=List.mem_flatMap.mpr ⟨p,h,.head _⟩
theorem more_doms {μ:List (Addr × Mut)} {p:Addr × Mut} {b:Addr} (h:p∈μ) (hb:b∈p.2.more):b∈doms μ:=List.mem_flatMap.mpr ⟨p,h,.tail _ hb⟩
theorem MutOk.mono {X : List Addr} {h h' : Heap} {a : Addr} {m : Mut} (x : MutOk X h a m) (ha : ∀ o, h.get? a = some o → h'.get? a = some o) (hm : ∀ b ∈ m.more, ∀ o, h.get? b = some o → h'.get? b = some o)
    (hk:∀ b o,b∉X→h.get? b=some o→h'.get? b=some o):MutOk X h' a m:=by
  cases m with
  | lst ds=>obtain ⟨vs,n,e,r⟩:=x;exact ⟨vs,n,ha _ e,r.mono fun b o hb e=>⟨hb,hk b o hb e⟩⟩
  | acc cls dx ds =>
    obtain ⟨⟨vs,n,e,r⟩,hne,hsh,t,u,n',e2⟩:=x
    exact ⟨⟨vs,n,ha _ e,r.mono fun b o hb e=>⟨hb,hk b o hb e⟩⟩,hne,hsh,t,u,n',hm dx (.head _) _ e2⟩
  | inst cls dx =>
    obtain ⟨⟨sl,e⟩,hne,hsh,t,v,n,e2⟩:=x
    exact ⟨⟨sl,ha _ e⟩,hne,hsh,t,v,n,hm dx (.head _) _ e2⟩
  | ba b=>obtain ⟨n,e⟩:=x;exact ⟨n,ha _ e⟩
  | obj o dx od=>exact ⟨ha _ x.1,x.2.1,hm dx (.head _) _ x.2.2⟩
theorem St.ext {g:G} {ρ:List (Option D)} {μ:List (Addr × Mut)} {s s':Shared} (x:St g ρ μ s) (e:Ext g.C [] s s'):St g ρ μ s' where
  inv:=x.inv.ext0 e
  envOk:=x.envOk.ext e (fun h=>nomatch h) fun _ _ _ h=>nomatch h
  vars:=fun i y d h1 h2=>let ⟨v,b,r⟩:=x.vars i y d h1 h2;⟨v,b.ext e x.envOk (fun h=>nomatch h) (fun _ _ _ h=>nomatch h),r.ext e (fun _ h=>nomatch h) x.inv.pin⟩
  muts:=fun p hp=>(x.muts p hp).mono (fun o h=>e.keep _ o (fun h=>nomatch h) (x.mX _ (mem_doms hp)).2.1 h) (fun b hb o h=>e.keep _ o (fun h=>nomatch h) (x.mX _ (more_doms hp hb)).2.1 h)
    fun b o hb h=>e.keep _ o (fun h=>nomatch h) (fun q=>hb (x.inv.pin _ q)) h
  mX:=x.mX
  apart:=x.apart
  nd:=x.nd
noncomputable def Dn {α:Type} (C:Cx) (A:Around) (S:List Addr) (s:Shared) (t:Sem α) (Φ:α→Shared→Prop):Prop :=
  wpAny C.M A t (fun v s'=>Ext C S s s'∧Φ v s') NoE s
section
variable {α β:Type} {C:Cx} {A:Around} {S:List Addr} {s:Shared} {t:Sem α} {Φ Ψ:α→Shared→Prop}
theorem Dn.mono (h:Dn C A S s t Φ) (k:∀ v s',Ext C S s s'→Φ v s'→Ψ v s'):Dn C A S s t Ψ:=wpAny_mono h (fun _ _ q=>⟨q.1,k _ _ q.1 q.2⟩) fun _ _ e=>e
theorem Dn.use (h:Dn C A S s t Φ) {Q:α→Shared→Prop} {E:Value→Shared→Prop} (k:∀ v s',Ext C S s s'→Φ v s'→Q v s'):wpAny C.M A t Q E s:=wpAny_mono h (fun _ _ q=>k _ _ q.1 q.2) fun _ _ e=>e.elim
theorem Dn.wider {S':List Addr} (h:Dn C A S s t Φ) (k:∀ b∈S,b∈S'∨s.heap.get? b=none):Dn C A S' s t Φ:=wpAny_mono h (fun _ _ q=>⟨q.1.wider k,q.2⟩) fun _ _ e=>e
end
noncomputable def Ev (g:G) (ρ:List (Option D)) (μ:List (Addr × Mut)) (e:Expr) (d:D):Prop:=∀ s,St g ρ μ s→Dn g.C g.A [] s (eval e g.env) fun v s'=>Rep g.X s'.heap v d
noncomputable def EvT (g:G) (ρ:List (Option D)) (μ:List (Addr × Mut)) (e:Expr) (b:Bool):Prop:=∀ s,St g ρ μ s→Dn g.C g.A [] s (isTrue e g.env (eval e g.env)) fun v _=>v=b
noncomputable def Bin (op:Operator) (a b d:D):Prop:=∀ (C:Cx) (A:Around) X s va vb,Inv C X s→Room A 0→Rep X s.heap va a→Rep X s.heap vb b→Dn C A [] s (binaryOp op va vb) fun v s'=>Rep X s'.heap v d
noncomputable def Cmp (op:CmpOp) (a b d:D):Prop:=∀ (C:Cx) (A:Around) X s va vb,Inv C X s→Room A 0→Rep X s.heap va a→Rep X s.heap vb b→Dn C A [] s (compareOp op va vb) fun v s'=>Rep X s'.heap v d
noncomputable def Tru (a:D) (b:Bool):Prop:=∀ (C:Cx) (A:Around) X s va,Inv C X s→Room A 0→Rep X s.heap va a→Dn C A [] s (truthy va) fun v _=>v=b
section
variable {g:G} {ρ:List (Option D)} {μ:List (Addr × Mut)}
theorem Ev.wp {e : Expr} {d : D} {s : Shared} (h : Ev g ρ μ e d) (x : St g ρ μ s) {Q : Value → Shared → Prop} {E : Value → Shared → Prop}
    (k:∀ v s',St g ρ μ s'→Rep g.X s'.heap v d→Ext g.C [] s s'→Q v s'):wpAny g.C.M g.A (eval e g.env) Q E s :=
  (h s x).use fun v s' q r=>k v s' (x.ext q) r q
theorem EvT.wp {e : Expr} {b : Bool} {s : Shared} (h : EvT g ρ μ e b) (x : St g ρ μ s) {Q : Bool → Shared → Prop} {E : Value → Shared → Prop}
    (k:∀ s',St g ρ μ s'→Ext g.C [] s s'→Q b s'):wpAny g.C.M g.A (isTrue e g.env (eval e g.env)) Q E s :=
  (h s x).use fun v s' q r=>by subst r;exact k s' (x.ext q) q
theorem Ev.name (i : Nat) {x : Str} {pos : Pos} {d : D} (h1 : g.ns[i]? = some x) (h2 : ρ[i]? = some (some d)) (hd : (x == ("__debug__" : Str)) = false := by decide)
    (hc:(x == ("__classdict__":Str))=false:=by decide):Ev g ρ μ (.Name x pos) d:=fun s y=>by
  obtain ⟨v,b,r⟩:=y.vars i x d h1 h2
  refine wpAny_Name ?_ hd
  rcases b with ⟨hk,m,hn,hm⟩ | ⟨hk | hk,c,hcl,hv⟩
  · exact wpAny_loadName_local y.envOk.kind hk hn hm ⟨.refl ..,r⟩
  · exact wpAny_loadName_cell y.envOk.kind hk hcl hv ⟨.refl ..,r⟩
  · exact wpAny_loadName_free y.envOk.kind hk hcl hv ⟨.refl ..,r⟩ hc
theorem St.mg {s:Shared} (y:St g ρ μ s):s.heap.Ns mainGlobals g.C.mg:=y.inv.base.g.at' fun o e=>y.inv.keep _ o y.inv.base.gP e
theorem St.mb {s:Shared} (y:St g ρ μ s):s.heap.Ns builtinsNs g.C.mb:=y.inv.base.b.at' fun o e=>y.inv.keep _ o y.inv.base.bP e
theorem Ev.glob {x:Str} {pos:Pos} {v:Value} (h:g.C.mg x=some v) (hx:g.env.kindOf x=some .globalImplicit) (hd:(x == ("__debug__":Str))=false:=by decide):Ev g ρ μ (.Name x pos) (.val v):=fun s y =>
  Name_function_global y.envOk.kind hx (loadGlobal_global (by rw [y.envOk.glob];exact y.mg) h ⟨.refl ..,.val v⟩) hd
theorem Ev.bltn {x : Str} {pos : Pos} {v : Value} (h : g.C.mg x = none) (hb : bootBuiltins x = some v) (hx : g.env.kindOf x = some .globalImplicit) (hn : x ≠ "__name__" := by decide) (hd : (x == ("__debug__" : Str)) = false := by decide) :
    Ev g ρ μ (.Name x pos) (.val v):=fun s y =>
  Name_function_global y.envOk.kind hx (loadGlobal_builtin (by rw [y.envOk.glob];exact y.mg) h (by rw [y.envOk.bi];exact y.mb) ((y.inv.base.bi x hn).trans hb) ⟨.refl ..,.val v⟩) hd
theorem Ev.int {i:Int} {k:Nat} {pos:Pos}:Ev g ρ μ (.Constant (.int i) k pos) (.int i):=fun s _=>wpAny_Constant_int (env:=g.env) (k:=k) (pos:=pos) ⟨.tok,.int ..⟩
theorem Ev.str {x:Str} {k:Nat} {pos:Pos}:Ev g ρ μ (.Constant (.str x) k pos) (.str x):=fun s _=>Constant_str ⟨.tok,.str ..⟩
theorem Ev.none {k:Nat} {pos:Pos}:Ev g ρ μ (.Constant .none k pos) D.nil:=fun s _=>wpAny_Constant_none ⟨.refl ..,.val _⟩
theorem Ev.bool {b:Bool} {k:Nat} {pos:Pos}:Ev g ρ μ (.Constant (.bool b) k pos) (D.bool b):=fun s _=>wpAny_Constant_bool ⟨.refl ..,.val _⟩
theorem Ev.bin {l r:Expr} {op:Operator} {pos:Pos} {a b d:D} (R:Room g.A 0) (hl:Ev g ρ μ l a) (hr:Ev g ρ μ r b) (o:Bin op a b d):Ev g ρ μ (.BinOp l op r pos) d:=fun s x =>
  wpAny_BinOp (hl.wp x fun va s₁ x₁ r₁ e₁=>hr.wp x₁ fun vb s₂ x₂ r₂ e₂=>(o _ _ _ _ _ _ x₂.inv R (r₁.ext e₂ (fun _ h=>nomatch h) x₁.inv.pin) r₂).use fun v s₃ e₃ r₃=>⟨(e₁.trans e₂).trans e₃,r₃⟩)
theorem Ev.cmp {l r:Expr} {op:CmpOp} {pos:Pos} {a b d:D} (R:Room g.A 0) (hl:Ev g ρ μ l a) (hr:Ev g ρ μ r b) (o:Cmp op a b d) (hm:behindInMarks op r=false:=by with_unfolding_all rfl):Ev g ρ μ (.Compare l [op] [r] pos) d:=fun s x =>
  wpAny_Compare1 (hl.wp x fun va s₁ x₁ r₁ e₁=>hr.wp x₁ fun vb s₂ x₂ r₂ e₂=>(o _ _ _ _ _ _ x₂.inv R (r₁.ext e₂ (fun _ h=>nomatch h) x₁.inv.pin) r₂).use fun v s₃ e₃ r₃=>⟨(e₁.trans e₂).trans e₃,r₃⟩) hm
theorem EvT.cmp {l r : Expr} {op : CmpOp} {pos : Pos} {a b : D} {c : Bool} (R : Room g.A 0) (hl : Ev g ρ μ l a) (hr : Ev g ρ μ r b) (o : Cmp op a b (D.bool c)) (hm : behindInMarks op r = false := by with_unfolding_all rfl) :
    EvT g ρ μ (.Compare l [op] [r] pos) c:=fun s x =>
  wpAny_isTrue_Compare1 (hl.wp x fun va s₁ x₁ r₁ e₁=>hr.wp x₁ fun vb s₂ x₂ r₂ e₂=>(o _ _ _ _ _ _ x₂.inv R (r₁.ext e₂ (fun _ h=>nomatch h) x₁.inv.pin) r₂).use fun v s₃ e₃ r₃=>by
    (first | obtain rfl:=r₃.vI | obtain ⟨_,rfl⟩:=r₃.iI | obtain ⟨_,rfl⟩:=r₃.sI | obtain ⟨_,rfl⟩:=r₃.bI | obtain rfl:=r₃.nI | cases r₃);exact wpAny_truthy_bool ⟨(e₁.trans e₂).trans e₃,rfl⟩) hm
theorem EvT.not {e:Expr} {pos:Pos} {b:Bool} (h:EvT g ρ μ e b):EvT g ρ μ (.UnaryOp .Not e pos) (!b):=fun s x=>wpAny_isTrue_Not (h.wp x fun s' _ e=>⟨e,rfl⟩)
theorem EvT.val {e:Expr} {d:D} {b:Bool} (R:Room g.A 0) (h:Ev g ρ μ e d) (t:Tru d b) (he:isTrue e g.env (eval e g.env)=(do let v ← eval e g.env;standAt e.pos;holding [v] (truthy v)):=by rfl):EvT g ρ μ e b:=fun s x =>
  wpAny_isTrue_value (h.wp x fun v s₁ x₁ r₁ e₁=>(t _ _ _ _ _ x₁.inv R r₁).use fun v s₂ e₂ r₂=>⟨e₁.trans e₂,r₂⟩) he
theorem Tru.bool (b:Bool):Tru (D.bool b) b:=fun C A X s va _ _ r=>by (first | obtain rfl:=r.vI | obtain ⟨_,rfl⟩:=r.iI | obtain ⟨_,rfl⟩:=r.sI | obtain ⟨_,rfl⟩:=r.bI | obtain rfl:=r.nI | cases r);exact wpAny_truthy_bool ⟨.refl ..,rfl⟩
noncomputable def EvAnd (g:G) (ρ:List (Option D)) (μ:List (Addr × Mut)) (es:List Expr) (b:Bool):Prop:=∀ s,St g ρ μ s→Dn g.C g.A [] s (allTrue .And es g.env) fun v _=>v=b
noncomputable def EvOr (g:G) (ρ:List (Option D)) (μ:List (Addr × Mut)) (es:List Expr) (b:Bool):Prop:=∀ s,St g ρ μ s→Dn g.C g.A [] s (allTrue .Or es g.env) fun v _=>v=b
theorem EvAnd.nil:EvAnd g ρ μ [] true:=fun s _=>wpAny_allTrue_And_nil ⟨.refl ..,rfl⟩
theorem EvOr.nil:EvOr g ρ μ [] false:=fun s _=>wpAny_allTrue_Or_nil ⟨.refl ..,rfl⟩
theorem EvAnd.cons {e:Expr} {es:List Expr} {a b:Bool} (h:EvT g ρ μ e a) (k:a=true→EvAnd g ρ μ es b):EvAnd g ρ μ (e::es) (a && b):=fun s x=>wpAny_allTrue_And_cons (h.wp x fun s₁ x₁ e₁=>by
  cases a with
  | true=>exact (k rfl s₁ x₁).use fun v s₂ e₂ r=>⟨e₁.trans e₂,r⟩
  | false=>exact ⟨e₁,rfl⟩)
theorem EvOr.cons {e:Expr} {es:List Expr} {a b:Bool} (h:EvT g ρ μ e a) (k:a=false→EvOr g ρ μ es b):EvOr g ρ μ (e::es) (a || b):=fun s x=>wpAny_allTrue_Or_cons (h.wp x fun s₁ x₁ e₁=>by
  cases a with
  | true=>exact ⟨e₁,rfl⟩
  | false=>exact (k rfl s₁ x₁).use fun v s₂ e₂ r=>⟨e₁.trans e₂,r⟩)
theorem EvT.and {es:List Expr} {pos:Pos} {b:Bool} (h:EvAnd g ρ μ es b):EvT g ρ μ (.BoolOp .And es pos) b:=fun s x=>wpAny_isTrue_BoolOp (h s x)
theorem EvT.or {es:List Expr} {pos:Pos} {b:Bool} (h:EvOr g ρ μ es b):EvT g ρ μ (.BoolOp .Or es pos) b:=fun s x=>wpAny_isTrue_BoolOp (h s x)
theorem boolOp_cons2 (pos : Pos) (op : BoolOp) (x y : Sem Value) (rest : List (Sem Value)) : boolOp pos op (x :: y :: rest) = (do
    let v ← x
    standAt pos
    let t ← holding [v] (truthy v)
    match op,t with
    | .And,false | .Or,true=>pure v
    | _,_=>boolOp pos op (y::rest)):=rfl
noncomputable def EvAndV (g:G) (ρ:List (Option D)) (μ:List (Addr × Mut)) (pos:Pos) (es:List Expr) (d:D):Prop:=∀ s,St g ρ μ s→Dn g.C g.A [] s (boolOp pos .And (evalEach es g.env)) fun v s'=>Rep g.X s'.heap v d
theorem EvAndV.one {pos:Pos} {e:Expr} {d:D} (h:Ev g ρ μ e d):EvAndV g ρ μ pos [e] d:=fun s x=>h s x
theorem EvAndV.cons {pos:Pos} {e e':Expr} {es:List Expr} {a b:Bool} (h:Ev g ρ μ e (D.bool a)) (k:a=true→EvAndV g ρ μ pos (e'::es) (D.bool b)):EvAndV g ρ μ pos (e::e'::es) (D.bool (a && b)):=fun s x=>by
  show Dn g.C g.A [] s (boolOp pos .And (eval e g.env::eval e' g.env::evalEach es g.env)) _
  rw [boolOp_cons2]
  refine wpAny_bind (h.wp x fun v s₁ x₁ r e₁=>wpAny_bind (wpAny_standAt (wpAny_bind (wpAny_holding ?_))))
  (first | obtain rfl:=r.vI | obtain ⟨_,rfl⟩:=r.iI | obtain ⟨_,rfl⟩:=r.sI | obtain ⟨_,rfl⟩:=r.bI | obtain rfl:=r.nI | cases r)
  refine wpAny_truthy_bool ?_
  cases a with
  | true=>exact (k rfl s₁ x₁).use fun v s₂ e₂ r=>⟨e₁.trans e₂,r⟩
  | false=>exact wpAny_pure ⟨e₁,.val _⟩
theorem Ev.and {es:List Expr} {pos:Pos} {d:D} (h:EvAndV g ρ μ pos es d):Ev g ρ μ (.BoolOp .And es pos) d:=fun s x=>h s x
theorem Ev.ite {t b o:Expr} {pos:Pos} {c:Bool} {d:D} (h:EvT g ρ μ t c) (h1:c=true→Ev g ρ μ b d) (h2:c=false→Ev g ρ μ o d):Ev g ρ μ (.IfExp t b o pos) d:=fun s x=>wpAny_IfExp (h.wp x fun s₁ x₁ e₁=>by
  cases c with
  | true=>exact (h1 rfl s₁ x₁).use fun v s₂ e₂ r=>⟨e₁.trans e₂,r⟩
  | false=>exact (h2 rfl s₁ x₁).use fun v s₂ e₂ r=>⟨e₁.trans e₂,r⟩)
noncomputable def EvL (g:G) (ρ:List (Option D)) (μ:List (Addr × Mut)) (pos:Pos) (es:List Expr) (ds:List D):Prop:=∀ s,St g ρ μ s→Dn g.C g.A [] s (spliced (backTo pos (starEach es g.env))) fun vs s'=>RepL g.X s'.heap vs ds
theorem EvL.nil {pos:Pos}:EvL g ρ μ pos [] []:=fun s _=>spliced_nil ⟨.refl ..,.nil⟩
theorem EvL.cons {pos : Pos} {e : Expr} {es : List Expr} {d : D} {ds : List D} (h : Ev g ρ μ e d) (k : EvL g ρ μ pos es ds) (he : starEach (e :: es) g.env = (false, eval e g.env) :: starEach es g.env := by rfl) :
    EvL g ρ μ pos (e::es) (d::ds):=fun s x=>by
  show wpAny _ _ (spliced (backTo pos (starEach (e::es) g.env))) _ _ _
  rw [he]
  exact spliced_cons (h.wp x fun v s₁ x₁ r e₁=>(k s₁ x₁).use fun vs s₂ e₂ q=>⟨e₁.trans e₂,.cons (r.ext e₂ (fun _ h=>nomatch h) x₁.inv.pin) q⟩)
theorem Inv.fresh {C:Cx} {X:List Addr} {s:Shared} (I:Inv C X s):s.heap.objs.size∉X:=fun h=>by
  obtain ⟨o,e⟩:=I.occ _ h
  exact Nat.lt_irrefl _ (Heap.lt_size e)
theorem newTuple_rep {C:Cx} {A:Around} {X:List Addr} {s:Shared} {vs:List Value} {ds:List D} (I:Inv C X s) (r:RepL X s.heap vs ds) (hsz:ds.length≤sizeLine):Dn C A [] s (newTuple vs) fun v s'=>Rep X s'.heap v (.tup ds) :=
  wpAny_newObj_type ⟨.push',.tup I.fresh (Heap.get?_push_size _ rfl) (r.mono fun b o hb e=>⟨hb,Heap.get?_push_of_some _ e⟩)⟩ (by show vs.toArray.size≤sizeLine;rw [List.size_toArray,r.length];exact hsz)
theorem newList_rep {C:Cx} {A:Around} {X:List Addr} {s:Shared} {vs:List Value} {ds:List D} (I:Inv C X s) (r:RepL X s.heap vs ds) (hsz:ds.length≤sizeLine):Dn C A [] s (newList vs) fun v s'=>Rep X s'.heap v (.lst ds) :=
  wpAny_newObj_type ⟨.push',.lst I.fresh (Heap.get?_push_size _ rfl) (r.mono fun b o hb e=>⟨hb,Heap.get?_push_of_some _ e⟩)⟩ (by show vs.toArray.size≤sizeLine;rw [List.size_toArray,r.length];exact hsz)
theorem Ev.tup {es:List Expr} {k:Nat} {pos:Pos} {ds:List D} (h:EvL g ρ μ pos es ds) (hsz:ds.length≤sizeLine:=by decide):Ev g ρ μ (.Tuple es k pos) (.tup ds):=fun s x =>
  Tuple_ ((h s x).use fun vs s₁ e₁ r=>(newTuple_rep (x.ext e₁).inv r hsz).use fun v s₂ e₂ q=>⟨e₁.trans e₂,q⟩)
theorem Ev.lst {es:List Expr} {pos:Pos} {ds:List D} (h:EvL g ρ μ pos es ds) (hsz:ds.length≤sizeLine:=by decide):Ev g ρ μ (.List es pos) (.lst ds):=fun s x =>
  List_ ((h s x).use fun vs s₁ e₁ r=>(newList_rep (x.ext e₁).inv r hsz).use fun v s₂ e₂ q=>⟨e₁.trans e₂,q⟩)
noncomputable def Sub (value slice:Expr) (a b d:D):Prop:=∀ (C:Cx) (A:Around) X s va vb,Inv C X s→Room A 0→Rep X s.heap va a→Rep X s.heap vb b→Dn C A [] s (subscriptTail value slice va vb) fun v s'=>Rep X s'.heap v d
theorem Ev.sub {v i:Expr} {pos:Pos} {a b d:D} (R:Room g.A 0) (hl:Ev g ρ μ v a) (hr:Ev g ρ μ i b) (o:Sub v i a b d):Ev g ρ μ (.Subscript v i pos) d:=fun s x =>
  Subscript_ (hl.wp x fun va s₁ x₁ r₁ e₁=>hr.wp x₁ fun vb s₂ x₂ r₂ e₂=>(o _ _ _ _ _ _ x₂.inv R (r₁.ext e₂ (fun _ h=>nomatch h) x₁.inv.pin) r₂).use fun v s₃ e₃ r₃=>⟨(e₁.trans e₂).trans e₃,r₃⟩)
end
section
variable {a b:Int}
theorem Bin.add:Bin .Add (.int a) (.int b) (.int (a+b)):=fun C A X s va vb _ _ r q=>by (first | obtain rfl:=r.vI | obtain ⟨_,rfl⟩:=r.iI | obtain ⟨_,rfl⟩:=r.sI | obtain ⟨_,rfl⟩:=r.bI | obtain rfl:=r.nI | cases r);(first | obtain rfl:=q.vI | obtain ⟨_,rfl⟩:=q.iI | obtain ⟨_,rfl⟩:=q.sI | obtain ⟨_,rfl⟩:=q.bI | obtain rfl:=q.nI | cases q);exact P.add_int ⟨.tok,.int ..⟩
theorem Bin.minus:Bin .Sub (.int a) (.int b) (.int (a - b)):=fun C A X s va vb _ _ r q=>by (first | obtain rfl:=r.vI | obtain ⟨_,rfl⟩:=r.iI | obtain ⟨_,rfl⟩:=r.sI | obtain ⟨_,rfl⟩:=r.bI | obtain rfl:=r.nI | cases r);(first | obtain rfl:=q.vI | obtain ⟨_,rfl⟩:=q.iI | obtain ⟨_,rfl⟩:=q.sI | obtain ⟨_,rfl⟩:=q.bI | obtain rfl:=q.nI | cases q);exact P.sub_int ⟨.tok,.int ..⟩
theorem Bin.mul (h:IntMulOk a b):Bin .Mult (.int a) (.int b) (.int (a*b)):=fun C A X s va vb _ _ r q=>by (first | obtain rfl:=r.vI | obtain ⟨_,rfl⟩:=r.iI | obtain ⟨_,rfl⟩:=r.sI | obtain ⟨_,rfl⟩:=r.bI | obtain rfl:=r.nI | cases r);(first | obtain rfl:=q.vI | obtain ⟨_,rfl⟩:=q.iI | obtain ⟨_,rfl⟩:=q.sI | obtain ⟨_,rfl⟩:=q.bI | obtain rfl:=q.nI | cases q);exact P.mul_int ⟨.tok,.int ..⟩ h
theorem Cmp.eq:Cmp .Eq (.int a) (.int b) (D.bool (a == b)):=fun C A X s va vb _ _ r q=>by (first | obtain rfl:=r.vI | obtain ⟨_,rfl⟩:=r.iI | obtain ⟨_,rfl⟩:=r.sI | obtain ⟨_,rfl⟩:=r.bI | obtain rfl:=r.nI | cases r);(first | obtain rfl:=q.vI | obtain ⟨_,rfl⟩:=q.iI | obtain ⟨_,rfl⟩:=q.sI | obtain ⟨_,rfl⟩:=q.bI | obtain rfl:=q.nI | cases q);exact P.eq_int ⟨.refl ..,.val _⟩
theorem Cmp.ne:Cmp .NotEq (.int a) (.int b) (D.bool (a != b)):=fun C A X s va vb _ _ r q=>by (first | obtain rfl:=r.vI | obtain ⟨_,rfl⟩:=r.iI | obtain ⟨_,rfl⟩:=r.sI | obtain ⟨_,rfl⟩:=r.bI | obtain rfl:=r.nI | cases r);(first | obtain rfl:=q.vI | obtain ⟨_,rfl⟩:=q.iI | obtain ⟨_,rfl⟩:=q.sI | obtain ⟨_,rfl⟩:=q.bI | obtain rfl:=q.nI | cases q);exact P.ne_int ⟨.refl ..,.val _⟩
theorem Cmp.lt:Cmp .Lt (.int a) (.int b) (D.bool (decide (a < b))):=fun C A X s va vb _ _ r q=>by (first | obtain rfl:=r.vI | obtain ⟨_,rfl⟩:=r.iI | obtain ⟨_,rfl⟩:=r.sI | obtain ⟨_,rfl⟩:=r.bI | obtain rfl:=r.nI | cases r);(first | obtain rfl:=q.vI | obtain ⟨_,rfl⟩:=q.iI | obtain ⟨_,rfl⟩:=q.sI | obtain ⟨_,rfl⟩:=q.bI | obtain rfl:=q.nI | cases q);exact P.lt_int ⟨.refl ..,.val _⟩
theorem Cmp.gt:Cmp .Gt (.int a) (.int b) (D.bool (decide (a > b))):=fun C A X s va vb _ _ r q=>by (first | obtain rfl:=r.vI | obtain ⟨_,rfl⟩:=r.iI | obtain ⟨_,rfl⟩:=r.sI | obtain ⟨_,rfl⟩:=r.bI | obtain rfl:=r.nI | cases r);(first | obtain rfl:=q.vI | obtain ⟨_,rfl⟩:=q.iI | obtain ⟨_,rfl⟩:=q.sI | obtain ⟨_,rfl⟩:=q.bI | obtain rfl:=q.nI | cases q);exact P.gt_int ⟨.refl ..,.val _⟩
theorem Cmp.ge:Cmp .GtE (.int a) (.int b) (D.bool (decide (a≥b))):=fun C A X s va vb _ _ r q=>by (first | obtain rfl:=r.vI | obtain ⟨_,rfl⟩:=r.iI | obtain ⟨_,rfl⟩:=r.sI | obtain ⟨_,rfl⟩:=r.bI | obtain rfl:=r.nI | cases r);(first | obtain rfl:=q.vI | obtain ⟨_,rfl⟩:=q.iI | obtain ⟨_,rfl⟩:=q.sI | obtain ⟨_,rfl⟩:=q.bI | obtain rfl:=q.nI | cases q);exact P.ge_int ⟨.refl ..,.val _⟩
end
section
variable {x y:Str}
theorem Cmp.eqS:Cmp .Eq (.str x) (.str y) (D.bool (x.cps.toList == y.cps.toList)):=fun C A X s va vb _ _ r q=>by (first | obtain rfl:=r.vI | obtain ⟨_,rfl⟩:=r.iI | obtain ⟨_,rfl⟩:=r.sI | obtain ⟨_,rfl⟩:=r.bI | obtain rfl:=r.nI | cases r);(first | obtain rfl:=q.vI | obtain ⟨_,rfl⟩:=q.iI | obtain ⟨_,rfl⟩:=q.sI | obtain ⟨_,rfl⟩:=q.bI | obtain rfl:=q.nI | cases q);exact P.eq_str ⟨.refl ..,.val _⟩
theorem Cmp.neS:Cmp .NotEq (.str x) (.str y) (D.bool (x.cps.toList != y.cps.toList)):=fun C A X s va vb _ _ r q=>by (first | obtain rfl:=r.vI | obtain ⟨_,rfl⟩:=r.iI | obtain ⟨_,rfl⟩:=r.sI | obtain ⟨_,rfl⟩:=r.bI | obtain rfl:=r.nI | cases r);(first | obtain rfl:=q.vI | obtain ⟨_,rfl⟩:=q.iI | obtain ⟨_,rfl⟩:=q.sI | obtain ⟨_,rfl⟩:=q.bI | obtain rfl:=q.nI | cases q);exact P.ne_str ⟨.refl ..,.val _⟩
theorem Cmp.ltS:Cmp .Lt (.str x) (.str y) (D.bool (x.cps.toList < y.cps.toList)):=fun C A X s va vb _ _ r q=>by (first | obtain rfl:=r.vI | obtain ⟨_,rfl⟩:=r.iI | obtain ⟨_,rfl⟩:=r.sI | obtain ⟨_,rfl⟩:=r.bI | obtain rfl:=r.nI | cases r);(first | obtain rfl:=q.vI | obtain ⟨_,rfl⟩:=q.iI | obtain ⟨_,rfl⟩:=q.sI | obtain ⟨_,rfl⟩:=q.bI | obtain rfl:=q.nI | cases q);exact P.lt_str ⟨.refl ..,.val _⟩
theorem Cmp.gtS:Cmp .Gt (.str x) (.str y) (D.bool (y.cps.toList < x.cps.toList)):=fun C A X s va vb _ _ r q=>by (first | obtain rfl:=r.vI | obtain ⟨_,rfl⟩:=r.iI | obtain ⟨_,rfl⟩:=r.sI | obtain ⟨_,rfl⟩:=r.bI | obtain rfl:=r.nI | cases r);(first | obtain rfl:=q.vI | obtain ⟨_,rfl⟩:=q.iI | obtain ⟨_,rfl⟩:=q.sI | obtain ⟨_,rfl⟩:=q.bI | obtain rfl:=q.nI | cases q);exact P.gt_str ⟨.refl ..,.val _⟩
end
end Mine
end
section
open PySem PySem.Calls PySem.W PyProof.Rows
namespace Mine
theorem Ns.unique {h:Heap} {a:Addr} {m m':Str→Option Value} (x:h.Ns a m) (y:h.Ns a m'):m=m':=by
  obtain ⟨o,es,ep,e,d,_,f⟩:=x
  obtain ⟨o',es',ep',e',d',_,f'⟩:=y
  rw [e] at e';cases e'
  rw [d] at d';cases d'
  funext n
  rw [← f n,← f' n]
noncomputable def Stored (g:G) (S:List Addr) (x:Str):Prop:=(g.env.kindOf x=some .local∧g.env.locals∈S)∨(g.env.kindOf x=some .cell∧∃ c,g.env.cells.lookup x=some c∧c∈S)
section
variable {g:G} {ρ:List (Option D)} {μ:List (Addr × Mut)} {S:List Addr} {s:Shared}
theorem St.change {a : Addr} {h' : Heap} {tk : Nat} {i : Nat} {d : D} {n : Str} {v : Value} (y : St g ρ μ s) (h1 : g.ns[i]? = some n) (hs : Heap.SameBut a s.heap h') (haX : a ∈ g.X) (haP : a ∉ g.C.P) (haS : a ∉ doms μ)
    (ho:∀ o,s.heap.get? a=some o→∃ o',h'.get? a=some o') (hE:EnvOk g.C g.X h' g.env) (hB:Bound h' g.env n v) (hO:∀ x w,x≠n→Bound s.heap g.env x w→Bound h' g.env x w) (r:Rep g.X s.heap v d) :
    Ext g.C [a] s { s with heap:=h',toks:=tk }∧St g (ρ.set i (some d)) μ { s with heap:=h',toks:=tk }:=by
  have hn:=y.inv.new a haX haP
  have e:Ext g.C [a] s { s with heap:=h',toks:=tk }:=Ext.same hs (.head _) hn ho
  have up:∀ b o,b∉g.X→s.heap.get? b=some o→b∉g.X∧h'.get? b=some o:=fun b o hb q=>⟨hb,(hs.2 b (fun z=>hb (z ▸ haX))).trans q⟩
  refine ⟨e,⟨y.inv.ext e (fun b hb=>by rw [List.mem_singleton.mp hb];exact hn),hE,fun j x d' hj hr=>?_,fun p hp=>(y.muts p hp).mono (fun o q=>(hs.2 _ (fun z=>haS (z ▸ mem_doms hp))).trans q)
    (fun b hb o q=>(hs.2 _ (fun z=>haS (z ▸ more_doms hp hb))).trans q) (fun b o hb q=>(up b o hb q).2),y.mX,y.apart,y.nd⟩⟩
  by_cases hij:j=i
  · subst hij
    rw [h1] at hj;cases hj
    have hlt:j < ρ.length:=by
      by_cases q:j < ρ.length
      · exact q
      · rw [List.getElem?_set,if_pos rfl,if_neg q] at hr;cases hr
    rw [List.getElem?_set,if_pos rfl,if_pos hlt] at hr
    cases hr
    exact ⟨v,hB,r.mono up⟩
  · rw [List.getElem?_set,if_neg (fun z=>hij z.symm)] at hr
    obtain ⟨w,b,q⟩:=y.vars j x d' hj hr
    refine ⟨w,hO x w (fun z=>?_) b,q.mono up⟩
    subst z
    obtain ⟨hj1,hj2⟩:=List.getElem?_eq_some_iff.mp hj
    obtain ⟨hi1,hi2⟩:=List.getElem?_eq_some_iff.mp h1
    exact hij ((List.getElem_inj y.nd).mp (hj2.trans hi2.symm))
theorem St.store {i:Nat} {n:Str} {v:Value} {d:D} (y:St g ρ μ s) (h1:g.ns[i]?=some n) (hk:Stored g S n) (r:Rep g.X s.heap v d):Dn g.C g.A S s (storeName g.env n v) fun _ s'=>St g (ρ.set i (some d)) μ s':=by
  obtain ⟨m₀,hn₀⟩:=y.envOk.ns
  rcases hk with ⟨hk,hS⟩ | ⟨hk,c,hc,hS⟩
  · refine wpAny_storeName_local hk hn₀ (fun h' hn' hs'=>?_) (by rw [y.envOk.kind];rfl)
    have q:=y.change (a:=g.env.locals) (h':=h') (tk:=s.toks+1) (d:=d) (v:=v) h1 hs' y.envOk.inX y.envOk.lP (fun z=>(y.mX _ z).2.2.1 rfl) (fun o _=>let ⟨o',_,_,e,_⟩:=hn';⟨o',e⟩)
      ⟨y.envOk.kind,y.envOk.glob,y.envOk.bi,⟨_,hn'⟩,y.envOk.inX,y.envOk.lP,fun x c h=>let ⟨a,b,w,t⟩:=y.envOk.cel x c h;⟨a,b,w,t.sameBut hs' b⟩,y.envOk.own,y.envOk.inj⟩
      (.inl ⟨hk,_,hn',by simp⟩) (fun x w hx b=>by
        rcases b with ⟨hk',m,hn,hm⟩ | ⟨hk',c,hc,t⟩
        · exact .inl ⟨hk',_,hn',by rw [if_neg hx,Ns.unique hn₀ hn];exact hm⟩
        · exact .inr ⟨hk',c,hc,t.sameBut hs' (y.envOk.cel x c hc).2.1⟩) r
    exact ⟨q.1.wider (fun b hb=>.inl (by rw [List.mem_singleton.mp hb];exact hS)),q.2⟩
  · obtain ⟨a1,a2,w₀,t₀⟩:=y.envOk.cel n c hc
    refine wpAny_storeName_cell y.envOk.kind hk hc t₀ (fun h' t' hs'=>?_)
    have q:=y.change (a:=c) (h':=h') (tk:=s.toks) (d:=d) (v:=v) h1 hs' (y.envOk.own n c hk hc) a1 (fun z=>(y.mX _ z).2.2.2 n c hc rfl) (fun o _=>let ⟨o',e,_⟩:=t';⟨o',e⟩)
      ⟨y.envOk.kind,y.envOk.glob,y.envOk.bi,⟨m₀,hn₀.sameBut hs' (Ne.symm a2)⟩,y.envOk.inX,y.envOk.lP,fun x c' h=>by
        obtain ⟨b1,b2,w,t⟩:=y.envOk.cel x c' h
        by_cases z:c'=c
        · subst z;exact ⟨b1,b2,_,t'⟩
        · exact ⟨b1,b2,w,t.sameBut hs' z⟩,y.envOk.own,y.envOk.inj⟩
      (.inr ⟨.inl hk,c,hc,t'⟩) (fun x w hx b=>by
        rcases b with ⟨hk',m,hn,hm⟩ | ⟨hk',c',hc',t⟩
        · exact .inl ⟨hk',m,hn.sameBut hs' (Ne.symm a2),hm⟩
        · exact .inr ⟨hk',c',hc',t.sameBut hs' fun z=>hx (y.envOk.inj x n c (z ▸ hc') hc)⟩) r
    exact ⟨q.1.wider (fun b hb=>.inl (by rw [List.mem_singleton.mp hb];exact hS)),q.2⟩
noncomputable def Ex (g:G) (S:List Addr) (ρ:List (Option D)) (μ:List (Addr × Mut)) (ss:List Stmt) (Φ:Flow→Shared→Prop):Prop:=∀ s,St g ρ μ s→Dn g.C g.A S s (execs ss g.env) Φ
variable {Φ:Flow→Shared→Prop} {rest:List Stmt}
theorem Ex.nil (h:∀ s,St g ρ μ s→Φ .next s):Ex g S ρ μ [] Φ:=fun s x=>wpAny_execs_nil ⟨.refl ..,h s x⟩
theorem Ex.step {st:Stmt} (h:∀ s,St g ρ μ s→Dn g.C g.A S s (exec st g.env) fun f s'=>match f with | .next=>Dn g.C g.A S s' (execs rest g.env) Φ | f=>Φ f s'):Ex g S ρ μ (st::rest) Φ:=fun s x =>
  wpAny_execs_cons (wpAny_mono (h s x) (fun f s' q=>by
    obtain ⟨e,q⟩:=q
    cases f with
    | next=>exact q.use fun v s₂ e₂ r=>⟨e.trans e₂,r⟩
    | brk=>exact ⟨e,q⟩
    | cont=>exact ⟨e,q⟩
    | ret v=>exact ⟨e,q⟩) fun _ _ e=>e)
theorem Ex.assign (i : Nat) {x : Str} {p pos : Pos} {e : Expr} {d : D} (h1 : g.ns[i]? = some x) (hk : Stored g S x) (he : Ev g ρ μ e d) (k : Ex g S (ρ.set i (some d)) μ rest Φ)
    (hs:swapsWith e (some (.Name x p)) pos.line g.env=pure false:=by rfl):Ex g S ρ μ (.Assign [.Name x p] e pos::rest) Φ:=Ex.step fun s y =>
  wpAny_Assign_Name (he.wp y fun v s₁ y₁ r e₁=>(y₁.store h1 hk r).use fun _ s₂ e₂ y₂=>⟨(e₁.wider (fun _ h=>nomatch h)).trans e₂,k s₂ y₂⟩) hs
noncomputable def Inp (op:Operator) (a b d:D):Prop:=∀ (C:Cx) (A:Around) X s va vb,Inv C X s→Room A 0→Rep X s.heap va a→Rep X s.heap vb b→Dn C A [] s (inplaceOp op va vb) fun v s'=>Rep X s'.heap v d
theorem Inp.add {a b:Int}:Inp .Add (.int a) (.int b) (.int (a+b)):=fun C A X s va vb _ _ r q=>by (first | obtain rfl:=r.vI | obtain ⟨_,rfl⟩:=r.iI | obtain ⟨_,rfl⟩:=r.sI | obtain ⟨_,rfl⟩:=r.bI | obtain rfl:=r.nI | cases r);(first | obtain rfl:=q.vI | obtain ⟨_,rfl⟩:=q.iI | obtain ⟨_,rfl⟩:=q.sI | obtain ⟨_,rfl⟩:=q.bI | obtain rfl:=q.nI | cases q);exact P.iadd_int ⟨.tok,.int ..⟩
theorem Ex.aug (i : Nat) {x : Str} {p pos : Pos} {op : Operator} {e : Expr} {a b d : D} (R : Room g.A 0) (h1 : g.ns[i]? = some x) (h2 : ρ[i]? = some (some a)) (hk : Stored g S x) (he : Ev g ρ μ e b) (o : Inp op a b d) (k : Ex g S (ρ.set i (some d)) μ rest Φ)
    (hd:(x == ("__debug__":Str))=false:=by decide) (hc:(x == ("__classdict__":Str))=false:=by decide):Ex g S ρ μ (.AugAssign (.Name x p) op e pos::rest) Φ:=Ex.step fun s y=>by
  have nm:=Ev.name (g:=g) (ρ:=ρ) (μ:=μ) i (pos:=p) h1 h2 hd hc
  have ld:Dn g.C g.A [] s (loadName g.env x) fun v s'=>Rep g.X s'.heap v a:=by
    obtain ⟨v,b,r⟩:=y.vars i x a h1 h2
    rcases b with ⟨hk,m,hn,hm⟩ | ⟨hk | hk,c,hcl,hv⟩
    · exact wpAny_loadName_local y.envOk.kind hk hn hm ⟨.refl ..,r⟩
    · exact wpAny_loadName_cell y.envOk.kind hk hcl hv ⟨.refl ..,r⟩
    · exact wpAny_loadName_free y.envOk.kind hk hcl hv ⟨.refl ..,r⟩ hc
  refine wpAny_AugAssign_Name (ld.use fun va s₁ e₁ r₁=>he.wp (y.ext e₁) fun vb s₂ y₂ r₂ e₂=>(o _ _ _ _ _ _ y₂.inv R (r₁.ext e₂ (fun _ h=>nomatch h) y.inv.pin) r₂).use fun v s₃ e₃ r₃ =>
    ((y₂.ext e₃).store h1 hk r₃).use fun _ s₄ e₄ y₄=>⟨(((e₁.trans e₂).trans e₃).wider (fun _ h=>nomatch h)).trans e₄,k s₄ y₄⟩)
theorem Ex.ret {e:Expr} {pos:Pos} {d:D} (he:Ev g ρ μ e d) (k:∀ v s,St g ρ μ s→Rep g.X s.heap v d→Φ (.ret v) s):Ex g S ρ μ (.Return (some e) pos::rest) Φ:=Ex.step fun s y =>
  wpAny_Return_some (he.wp y fun v s₁ y₁ r e₁=>⟨e₁.wider (fun _ h=>nomatch h),k v s₁ y₁ r⟩)
theorem Ex.brk {pos:Pos} (k:∀ s,St g ρ μ s→Φ .brk s):Ex g S ρ μ (.Break pos::rest) Φ:=Ex.step fun s y=>wpAny_Break ⟨.refl ..,k s y⟩
noncomputable def Then (g:G) (S:List Addr) (rest:List Stmt) (Φ:Flow→Shared→Prop) (f:Flow) (s:Shared):Prop:=match f with | .next=>Dn g.C g.A S s (execs rest g.env) Φ | f=>Φ f s
theorem Ex.ite {t:Expr} {b o:List Stmt} {pos:Pos} {c:Bool} (ht:EvT g ρ μ t c) (h1:c=true→Ex g S ρ μ b (Then g S rest Φ)) (h2:c=false→Ex g S ρ μ o (Then g S rest Φ)):Ex g S ρ μ (.If t b o pos::rest) Φ:=Ex.step fun s y =>
  wpAny_If (ht.wp y fun s₁ y₁ e₁=>by
    cases c with
    | true=>exact (h1 rfl s₁ y₁).use fun v s₂ e₂ r=>⟨(e₁.wider (fun _ h=>nomatch h)).trans e₂,by cases v <;> exact r⟩
    | false=>exact (h2 rfl s₁ y₁).use fun v s₂ e₂ r=>⟨(e₁.wider (fun _ h=>nomatch h)).trans e₂,by cases v <;> exact r⟩)
theorem Ex.on {g':G} {S':List Addr} (k:∀ s,St g ρ μ s→Dn g'.C g'.A S' s (execs rest g'.env) Φ):Ex g S ρ μ [] (Then g' S' rest Φ):=fun s y=>wpAny_execs_nil ⟨.refl ..,k s y⟩
theorem Ex.go (k:Ex g S ρ μ rest Φ):Ex g S ρ μ [] (Then g S rest Φ):=Ex.on k
theorem Ex.mono {ss:List Stmt} {Ψ:Flow→Shared→Prop} (h:Ex g S ρ μ ss Φ) (k:∀ f s,Φ f s→Ψ f s):Ex g S ρ μ ss Ψ:=fun s y=>(h s y).mono fun f s' _ q=>k f s' q
end
end Mine
end
section
open PySem PySem.Calls PySem.W PyProof.Rows
namespace Mine
noncomputable def Fn (C:Cx) (k:Nat) (f:Value) (args:List D) (d:D):Prop:=∀ (A:Around) X s vals,Room A k→Inv C X s→RepL X s.heap vals args →
  codeAny C.M A (.call f ⟨vals,[]⟩) (fun r s'=>∃ v,r=.ok (.ret v)∧Ext C [] s s'∧Rep X s'.heap v d) s
noncomputable def FnM (C:Cx) (k:Nat) (f:Value) (args:List D) (μ:List (Addr × Mut)) (d:D) (μ':List (Addr × Mut)):Prop:=∀ (A:Around) X s vals,Room A k→Inv C X s→RepL X s.heap vals args →
  (∀ p∈μ,MutOk X s.heap p.1 p.2)→(∀ a∈doms μ,a∈X∧a∉C.P)→(doms μ).Nodup →
  codeAny C.M A (.call f ⟨vals,[]⟩) (fun r s'=>∃ v,r=.ok (.ret v)∧Ext C (doms μ) s s'∧Rep X s'.heap v d∧∀ p∈μ',MutOk X s'.heap p.1 p.2) s
noncomputable def ownS (env:Env):List Addr:=env.locals::env.cells.map (·.2)
theorem Stored.l {g:G} {S:List Addr} {x:Str} (h:g.env.kindOf x=some .local) (hS:g.env.locals∈S):Stored g S x:=.inl ⟨h,hS⟩
theorem Stored.c {g:G} {S:List Addr} {x:Str} (h:g.env.kindOf x=some .cell) (hc:(g.env.cells.lookup x).isSome=true) (hS:∀ a∈g.env.cells.map (·.2),a∈S):Stored g S x:=by
  obtain ⟨c,hc⟩:=Option.isSome_iff_exists.mp hc
  exact .inr ⟨h,c,hc,hS _ (List.mem_map.mpr ⟨_,mem_of_lookup hc,rfl⟩)⟩
theorem bind_lookup {kindOf : Str → Option NameKind} : ∀ {binds : List (Str × Value)} (m cm : Str → Option Value), (binds.map (·.1)).Nodup → ∀ {n : Str} {v : Value}, (n, v) ∈ binds →
    (kindOf n=some .local→bindL kindOf binds m n=some v)∧(kindOf n≠some .local→bindC kindOf binds cm n=some v):=by
  have keepL:∀ (binds:List (Str × Value)) (m:Str→Option Value) (n:Str),n∉binds.map (·.1)→bindL kindOf binds m n=m n:=by
    intro binds
    induction binds with
    | nil=>intro m n _;rfl
    | cons p r ih =>
      intro m n hn
      obtain ⟨k,v⟩:=p
      simp only [List.map_cons,List.mem_cons,not_or] at hn
      unfold bindL
      rw [ih _ _ hn.2]
      split
      · simp [hn.1]
      · rfl
  have keepC:∀ (binds:List (Str × Value)) (m:Str→Option Value) (n:Str),n∉binds.map (·.1)→bindC kindOf binds m n=m n:=by
    intro binds
    induction binds with
    | nil=>intro m n _;rfl
    | cons p r ih =>
      intro m n hn
      obtain ⟨k,v⟩:=p
      simp only [List.map_cons,List.mem_cons,not_or] at hn
      unfold bindC
      rw [ih _ _ hn.2]
      split
      · rfl
      · simp [hn.1]
  intro binds
  induction binds with
  | nil=>intro m cm _ n v h;cases h
  | cons p r ih =>
    intro m cm hnd n v h
    obtain ⟨k,w⟩:=p
    simp only [List.map_cons,List.nodup_cons] at hnd
    rcases List.mem_cons.mp h with e | h
    · cases e
      refine ⟨fun hk=>?_,fun hk=>?_⟩
      · unfold bindL;rw [if_pos hk,keepL _ _ _ hnd.1];simp
      · unfold bindC;rw [if_neg hk,keepC _ _ _ hnd.1];simp
    · unfold bindL bindC
      exact ih _ _ hnd.2 h
section
variable {C:Cx} {A:Around} {X:List Addr} {s:Shared}
theorem Room.deeper {k:Nat} {env:Env} (R:Room A (k+1)):Room (A.deeper env) k:=⟨R.h,by have:=R.d;show A.depth+1+10*k≤900;exact Z.l676 this,by have:=R.u;show A.units+3+100*k≤9000;exact Z.l677 this,R.g⟩
theorem Room.less {k j:Nat} (R:Room A k) (h:j≤k):Room A j:=⟨R.h,by have:=R.d;exact Z.l678 this h,by have:=R.u;exact Z.l679 this h,R.g⟩
theorem Room.in1 {k:Nat} (R:Room A (k+1)):Room A.in1 k:=⟨R.h,by have:=R.d;show A.depth+10*k≤900;exact Z.l680 this,by have:=R.u;show A.units+1+100*k≤9000;exact Z.l681 this,R.g⟩
theorem Room.depth {k:Nat} (R:Room A k):A.depth < recursionLimit:=by have:=R.d;show A.depth < 1000;exact Z.l682 this
theorem Room.units {k:Nat} (R:Room A k):A.units < cLine:=by have:=R.u;show A.units < 9900;exact Z.l683 this
theorem Inv.K (I:Inv C X s):C.K.In s.heap:=fun a o h=>I.keep a o (I.base.KP a o h) (I.base.X a o h)
theorem Inv.lim (I:Inv C X s):s.heap.NoLimit:=let ⟨mc,a,b⟩:=I.base.lim;⟨mc,a.at' fun o e=>I.keep _ o I.base.sP e,b⟩
theorem Inv.lt (I:Inv C X s) {a:Addr} (h:a∈X):a < s.heap.objs.size:=let ⟨o,e⟩:=I.occ a h;Heap.lt_size e
theorem none_of_ge {h:Heap} {a:Addr} (hs:h.objs.size≤a):h.get? a=none:=by
  cases e:h.get? a with
  | none=>rfl
  | some o=>exact absurd (Heap.lt_size e) (Nat.not_lt.mpr hs)
theorem Inv.hb_none (I:Inv C X s) {a:Addr} (ha:s.heap.get? a=none) (hP:a∉C.P):C.hb.get? a=none:=by
  cases e:C.hb.get? a with
  | none=>rfl
  | some o=>rw [I.keep a o hP e] at ha;cases ha
theorem Rep.more {X X':List Addr} {h h':Heap} {v:Value} {d:D} (r:Rep X h v d) (hk:∀ b o,h.get? b=some o→h'.get? b=some o) (hX:∀ a∈X',a∈X∨h.get? a=none):Rep X' h' v d :=
  r.mono fun b o hb e=>⟨fun q=>(hX b q).elim hb (fun z=>by rw [z] at e;cases e),hk b o e⟩
theorem RepL.more {X X':List Addr} {h h':Heap} {v:List Value} {d:List D} (r:RepL X h v d) (hk:∀ b o,h.get? b=some o→h'.get? b=some o) (hX:∀ a∈X',a∈X∨h.get? a=none):RepL X' h' v d :=
  r.mono fun b o hb e=>⟨fun q=>(hX b q).elim hb (fun z=>by rw [z] at e;cases e),hk b o e⟩
theorem MutOk.more {X X':List Addr} {h h':Heap} {a:Addr} {m:Mut} (x:MutOk X h a m) (hk:∀ b o,h.get? b=some o→h'.get? b=some o) (hX:∀ a∈X',a∈X∨h.get? a=none):MutOk X' h' a m:=by
  cases m with
  | lst ds=>obtain ⟨vs,n,e,r⟩:=x;exact ⟨vs,n,hk _ _ e,r.more hk hX⟩
  | acc cls dx ds=>obtain ⟨⟨vs,n,e,r⟩,hne,hsh,t,u,n',e2⟩:=x;exact ⟨⟨vs,n,hk _ _ e,r.more hk hX⟩,hne,hsh,t,u,n',hk _ _ e2⟩
  | inst cls dx=>obtain ⟨⟨sl,e⟩,hne,hsh,t,v,n,e2⟩:=x;exact ⟨⟨sl,hk _ _ e⟩,hne,hsh,t,v,n,hk _ _ e2⟩
  | ba b=>obtain ⟨n,e⟩:=x;exact ⟨n,hk _ _ e⟩
  | obj o dx od=>exact ⟨hk _ _ x.1,x.2.1,hk _ _ x.2.2⟩
noncomputable def RetAs (X:List Addr) (d:D) (μ':List (Addr × Mut)) (fl:Flow) (s':Shared):Prop:=Rep X s'.heap (match fl with | .ret v=>v | _=>.none) d∧∀ p∈μ',MutOk X s'.heap p.1 p.2
theorem cells_lookup {sc:List (Str × NameKind)} {L:Nat} (hcn:((cellsFrom 0 sc []).map (·.1)).Nodup) {n:Str} {c:Addr} (h:(n,c)∈cellsFrom L sc []):(cellsFrom L sc []).lookup n=some c :=
  lookup_of_mem_nodup (cellsFrom_names sc 0 L [] [] rfl ▸ hcn) h
theorem Rep.sub {X X':List Addr} {h:Heap} {v:Value} {d:D} (r:Rep X h v d) (hX:∀ a∈X',a∈X):Rep X' h v d:=r.mono fun b o hb e=>⟨fun q=>hb (hX b q),e⟩
theorem RepL.sub {X X':List Addr} {h:Heap} {v:List Value} {d:List D} (r:RepL X h v d) (hX:∀ a∈X',a∈X):RepL X' h v d:=r.mono fun b o hb e=>⟨fun q=>hb (hX b q),e⟩
theorem MutOk.sub {X X':List Addr} {h:Heap} {a:Addr} {m:Mut} (x:MutOk X h a m) (hX:∀ a∈X',a∈X):MutOk X' h a m:=x.more (fun _ _ e=>e) fun a ha=>.inl (hX a ha)
variable {oc:Value} {od:Option Addr} {osl:Array (Option Value)} {fd:FuncData} {body:List Stmt} {f:Addr}
theorem FnM.intro {k : Nat} {ds : List D} {μ μ' : List (Addr × Mut)} {d : D} (pn others : List Str) (j : Nat)
    (ho:C.K.lookup f=some ⟨oc,od,.func fd,osl⟩) (hcd:codeIn C.K fd.code fd.qualname=true) (hbody:fd.body=.stmts body) (hclo:fd.closure=[]) (hgl:fd.globals=mainGlobals) (hbi:fd.builtins=builtinsNs)
    (hbind:∀ vals:List Value,vals.length=ds.length→bindArgs fd ⟨vals,[]⟩=pure (pn.zip vals)) (hlen:pn.length=ds.length)
    (hnd:(pn++others).Nodup) (hkind:∀ n,∀ x∈pn,fd.scope.names.lookup x=some .local∨(fd.scope.names.lookup x=some .cell∧((cellsFrom n fd.scope.names []).lookup x).isSome=true))
    (hcn:((cellsFrom 0 fd.scope.names []).map (·.1)).Nodup)
    (h:∀ (A:Around) (X:List Addr) (L:Addr),Room A k→(∀ a∈doms μ,a∈X∧a≠L∧a∉C.P) →
      Ex ⟨C,A,ownS (callEnvC fd L f)++X,callEnvC fd L f,pn++others⟩ (ownS (callEnvC fd L f)++doms μ) (ds.map some++List.replicate j none) μ body (RetAs (ownS (callEnvC fd L f)++X) d μ'))
    (hco:fd.scope.isCoroutine=false:=by rfl) (hgen:fd.scope.isGenerator=false:=by rfl) (hk:fd.scope.kind=.function:=by rfl):FnM C (k+1) (.ref f) ds μ d μ':=by
  intro A X s vals R I rv hm hmX hmd
  have hvl:vals.length=ds.length:=rv.length
  refine codeAny_call_cells (fd:=fd) (body:=body) R.depth (I.K _ _ ho) rfl I.lim (codeRec_of I.K hcd) hbody (hbind vals hvl) hclo
    (fun x hx=>hkind _ x.1 (List.of_mem_zip hx).1) (fun s₁ x=>?_) hco hgen hk
  generalize hL:s.heap.objs.size=L at x ⊢
  obtain ⟨⟨h₁,tk,rfl⟩,xns,xkeep,xfresh⟩:=x.toInCall
  have hLn:s.heap.get? L=none:=none_of_ge (by exact Z.l56 hL)
  have own:∀ a∈ownS (callEnvC fd L f),s.heap.get? a=none:=by
    intro a ha
    rcases List.mem_cons.mp ha with rfl | ha
    · exact hLn
    · obtain ⟨⟨n,c⟩,hc,rfl⟩:=List.mem_map.mp ha
      have:=x.above n c hc
      exact none_of_ge (Nat.le_of_lt (by rw [hL];exact this))
  have ownP:∀ a∈ownS (callEnvC fd L f),a∉C.P:=fun a ha hP=>by
    obtain ⟨o,e⟩:=I.occ a (I.pin a hP)
    rw [own a ha] at e;cases e
  have hcells:∀ n c,(callEnvC fd L f).cells.lookup n=some c→c∈ownS (callEnvC fd L f) :=
    fun n c hc=>.tail _ (List.mem_map.mpr ⟨_,mem_of_lookup hc,rfl⟩)
  have hXnew:∀ a∈ownS (callEnvC fd L f)++X,a∈X∨s.heap.get? a=none:=fun a ha =>
    (List.mem_append.mp ha).elim (fun q=>.inr (own a q)) .inl
  have hdl:∀ a∈doms μ,a≠L:=fun a ha e=>by
    obtain ⟨o,q⟩:=I.occ a (hmX a ha).1
    rw [e,hLn] at q;(first | obtain rfl:=q.vI | obtain ⟨_,rfl⟩:=q.iI | obtain ⟨_,rfl⟩:=q.sI | obtain ⟨_,rfl⟩:=q.bI | obtain rfl:=q.nI | cases q)
  have st:St ⟨C,A.deeper (callEnvC fd L f),ownS (callEnvC fd L f)++X,callEnvC fd L f,pn++others⟩ (ds.map some++List.replicate j none) μ { s with heap:=h₁,toks:=tk }:=by
    refine ⟨⟨I.base,fun b o hb e=>xkeep b o (I.keep b o hb e),fun p hp=>(I.tab p hp).keeps xkeep,I.os,I.gens,fun p hp=>List.mem_append_right _ (I.pin p hp),fun a ha hP=>?_,fun a ha=>?_⟩,
      ⟨hk,hgl,hbi,⟨_,xns⟩,.head _,ownP _ (.head _),fun n c hc=>⟨ownP c (hcells n c hc),Nat.ne_of_gt (x.above n c (mem_of_lookup hc)),_,x.cell n c hc⟩,fun n c _ hc=>List.mem_append_left _ (hcells n c hc),fun n n' c hc hc'=>name_of_addr x.apart (mem_of_lookup hc) (mem_of_lookup hc')⟩,
      fun i n d' hn hd=>?_,fun p hp=>(hm p hp).more xkeep hXnew,fun a ha=>⟨List.mem_append_right _ (hmX a ha).1,(hmX a ha).2,hdl a ha,fun n c hc e=>?_⟩,hmd,hnd⟩
    · rcases List.mem_append.mp ha with q | q
      · exact I.hb_none (own a q) hP
      · exact I.new a q hP
    · rcases List.mem_append.mp ha with q | q
      · rcases List.mem_cons.mp q with rfl | q
        · obtain ⟨o,_,_,e,_⟩:=xns;exact ⟨o,e⟩
        · obtain ⟨⟨n,c⟩,hc,rfl⟩:=List.mem_map.mp q
          obtain ⟨o,e,_⟩:=x.cell n c (cells_lookup hcn hc)
          exact ⟨o,e⟩
      · obtain ⟨o,e⟩:=I.occ a q
        exact ⟨o,xkeep a o e⟩
    · have hi:i < ds.length:=by
        by_cases q:i < ds.length
        · exact q
        · rw [List.getElem?_append_right (by rw [List.length_map];exact Z.l191 q)] at hd
          have:=List.mem_of_getElem? hd
          rw [List.mem_replicate] at this
          cases this.2
      rw [List.getElem?_append_left (by rw [List.length_map];exact hi),List.getElem?_map] at hd
      rw [List.getElem?_append_left (by exact Z.l264 hlen hi)] at hn
      cases hdi:ds[i]? with
      | none=>rw [hdi] at hd;cases hd
      | some d₀ =>
        rw [hdi] at hd;cases hd
        obtain ⟨v,hv,r⟩:=rv.get hdi
        have hz:(pn.zip vals)[i]?=some (n,v):=List.getElem?_zip_eq_some.mpr ⟨hn,hv⟩
        have hnn:((pn.zip vals).map (·.1)).Nodup:=by
          rw [List.map_fst_zip (by exact Z.l685 hlen hvl)]
          exact (List.nodup_append.mp hnd).1
        have bl:=bind_lookup (kindOf:=(callEnvC fd L f).kindOf) (fun _=>none) (fun _=>none) hnn (List.mem_of_getElem? hz)
        refine ⟨v,?_,r.more xkeep hXnew⟩
        rcases hkind (L+1) n (List.mem_of_getElem? hn) with q | ⟨q,q'⟩
        · exact .inl ⟨q,_,xns,bl.1 q⟩
        · obtain ⟨c,hc⟩:=Option.isSome_iff_exists.mp q'
          have hkc:(callEnvC fd L f).kindOf n=some .cell:=q
          exact .inr ⟨.inl hkc,c,hc,(bl.2 (by rw [hkc];decide)) ▸ x.cell n c hc⟩
    · subst e
      obtain ⟨o,q⟩:=I.occ a (hmX a ha).1
      rw [own a (hcells n a hc)] at q;(first | obtain rfl:=q.vI | obtain ⟨_,rfl⟩:=q.iI | obtain ⟨_,rfl⟩:=q.sI | obtain ⟨_,rfl⟩:=q.bI | obtain rfl:=q.nI | cases q)
  refine wpAny_mono (h _ X L R.deeper (fun a ha=>⟨(hmX a ha).1,hdl a ha,(hmX a ha).2⟩) _ st) (fun fl s' q=>?_) fun _ _ e=>e.elim
  obtain ⟨e,r,m⟩:=q
  have e₁:Ext C (doms μ) s { s with heap:=h₁,toks:=tk }:=.up xkeep
  have e':Ext C (ownS (callEnvC fd L f)++doms μ) s s':=(e₁.wider fun b hb=>.inl (List.mem_append_right _ hb)).trans e
  exact ⟨_,rfl,e'.wider (fun b hb=>(List.mem_append.mp hb).elim (fun q=>.inr (own b q)) .inl),r.sub fun a ha=>List.mem_append_right _ ha,fun p hp=>(m p hp).sub fun a ha=>List.mem_append_right _ ha⟩
theorem Fn.of_M {k:Nat} {f:Value} {ds:List D} {d:D} (h:FnM C k f ds [] d []):Fn C k f ds d:=fun A X s vals R I rv =>
  codeAny_mono (h A X s vals R I rv (fun _ h=>nomatch h) (fun _ h=>nomatch h) List.nodup_nil) fun r s' q=>by
    obtain ⟨v,e,x,r',_⟩:=q
    exact ⟨v,e,x,r'⟩
end
section
variable {g:G} {ρ:List (Option D)} {μ:List (Addr × Mut)}
theorem Ev.call {func e : Expr} {es : List Expr} {pos : Pos} {k : Nat} {f : Value} {ds : List D} {d : D} (R : Room g.A k) (hf : Ev g ρ μ func (.val f)) (hkeep : keepIn g.C.K f = true) (ha : EvL g ρ μ pos (e :: es) ds) (hc : Fn g.C k f ds d)
    (he:starEach (e::es) g.env=(false,eval e g.env)::starEach es g.env:=by rfl) (hplain:(backTo pos (starEach es g.env)).any (·.1)=false:=by rfl)
    (hq:eval (.Call func (e::es) [] pos) g.env=(eval func g.env >>= fun v=>callWith pos v [] (backTo pos (starEach (e::es) g.env)) []):=by rfl):Ev g ρ μ (.Call func (e::es) [] pos) d:=fun s x=>by
  show wpAny _ _ _ _ _ _
  rw [hq]
  refine wpAny_bind (hf.wp x fun v s₁ x₁ r₁ e₁=>?_)
  (first | obtain rfl:=r₁.vI | obtain ⟨_,rfl⟩:=r₁.iI | obtain ⟨_,rfl⟩:=r₁.sI | obtain ⟨_,rfl⟩:=r₁.bI | obtain rfl:=r₁.nI | cases r₁)
  refine callWith_K (h₀:=s₁.heap) x₁.inv.K hkeep ((ha s₁ x₁).use fun vs s₂ e₂ r₂=>⟨(x₁.ext e₂).inv.K,wpAny_call (codeAny_mono (hc _ _ _ _ R (x₁.ext e₂).inv r₂) fun r s₃ q=>?_)⟩) he hplain
  obtain ⟨v,rfl,e₃,r₃⟩:=q
  exact ⟨(e₁.trans e₂).trans e₃,r₃⟩
end
end Mine
end
section
open PySem PySem.Calls PySem.W PyProof.Rows
namespace Mine
noncomputable def ownedKinds:List String:=["enumerate","zip","dict_itemiterator","dict_reverseitemiterator","odict_iterator","itertools.zip_longest","itertools.pairwise"]
theorem letOwned_skip {M : Model} {A : Around} {E : Value → Shared → Prop} {s : Shared} {target : Expr} {I : Addr} {v : Value} {Q : Unit → Shared → Prop} {o : Obj} {n : String} (ho : s.heap.get? I = some o) (hc : o.cls = .type n) (hn : ownedKinds.contains n = false) (h : Q () s) :
    wpAny M A (letOwnedTupleGo target (.ref I) v) Q E s:=by
  have body : wpAny M A (do
      let (.ref r,.ref a):=(Value.ref I,v) | return
      let o ← load r
      match o.cls,o.data with
      | .type n,.fields vs =>
        if ["enumerate","zip","dict_itemiterator","dict_reverseitemiterator","odict_iterator","itertools.zip_longest","itertools.pairwise"].contains n && vs[0]? == some (rawInt a) then
          rule "for.unpacks-the-owned-tuple"
          updateField r 0 .none
      | _,_=>pure ():Sem Unit) Q E s:=by
    cases v <;> first | exact wpAny_pure h | skip
    rename_i a
    refine wpAny_bind (wpAny_load ho ?_)
    rw [hc]
    cases o.data <;> first | exact wpAny_pure h | skip
    rename_i vs
    show wpAny M A (if (["enumerate","zip","dict_itemiterator","dict_reverseitemiterator","odict_iterator","itertools.zip_longest","itertools.pairwise"].contains n && vs[0]? == some (rawInt a))=true then _ else _) Q E s
    rw [if_neg (by
      have:(["enumerate","zip","dict_itemiterator","dict_reverseitemiterator","odict_iterator","itertools.zip_longest","itertools.pairwise"]:List String).contains n=false:=hn
      rw [this];simp)]
    exact wpAny_pure h
  cases target <;> first | exact wpAny_pure h | exact body
structure IterAt (C:Cx) (A:Around) (X:List Addr) (s₀:Shared) (I:Addr) (fp wr:List Addr) (P:Nat→Value→Prop) (W:Nat→Heap→Prop) (ds:List D):Prop where
  walk:Walks C.prog C.w A I fp wr ds.length P W
  new:∀ b∈wr,s₀.heap.get? b=none
  fpX:∀ b∈fp,b∈wr∨(b∉X∧∃ o,s₀.heap.get? b=some o)
  occ:∀ i h,W i h→∀ b∈wr,∃ o,h.get? b=some o
  item:∀ i v h',(∀ b o,b∉X→s₀.heap.get? b=some o→h'.get? b=some o)→P i v→∃ d,ds[i]?=some d∧Rep X h' v d
  lt:∀ i (s:Shared) (A':Around) target v (Q:Unit→Shared→Prop) (E:Value→Shared→Prop),W i s.heap→Q () s→wpAny C.M A' (letOwnedTupleGo target (.ref I) v) Q E s
noncomputable def Src (d:D) (ds:List D):Prop:=∀ (C:Cx) (A:Around) X s v (Q:Value→Shared→Prop) (E:Value→Shared→Prop),Inv C X s→A.handled=none→Rep X s.heap v d →
  (∀ I fp wr P W s',Ext C [] s s'→IterAt C A X s I fp wr P W ds→W 0 s'.heap→Q (.ref I) s')→wpAny C.M A (pyIter v) Q E s
theorem Src.lst {ds:List D}:Src (.lst ds) ds:=fun C A X s v Q E I hh r h=>by
  cases r with
  | @lst a vs n _ ha e rl =>
    have hl:s.heap.IsList a vs.toArray:=⟨_,e,rfl,n,rfl⟩
    have hne:a≠s.heap.objs.size:=Nat.ne_of_lt (Heap.lt_size e)
    have hlen:vs.toArray.size=ds.length:=by simp [rl.length]
    have W:=Walks.list (prog:=C.prog) (w:=C.w) hh s.heap.objs.size a hne vs.toArray
    rw [hlen] at W
    refine wpAny_pyIter_list hl (h _ _ _ _ _ _ .push' ⟨W,?_,?_,?_,?_,?_⟩ ⟨⟨_,Heap.get?_push_size _ rfl,rfl,rfl⟩,hl.at fun o e=>Heap.get?_push_of_some _ e⟩)
    · intro b hb;rw [List.mem_singleton.mp hb];exact none_of_ge (Nat.le_refl _)
    · intro b hb
      rcases List.mem_cons.mp hb with rfl | hb
      · exact .inl (.head _)
      · rw [List.mem_singleton.mp hb];exact .inr ⟨ha,_,e⟩
    · rintro i h' ⟨⟨o,e,_⟩,_⟩ b hb;rw [List.mem_singleton.mp hb];exact ⟨o,e⟩
    · intro i v h' hk hv
      have hv':vs[i]?=some v:=by simpa using hv
      obtain ⟨d,hd,r⟩:=rl.get' hv'
      exact ⟨d,hd,r.mono fun b o hb e=>⟨hb,hk b o hb e⟩⟩
    · rintro i s' A' t v Q E ⟨⟨o,e,hc,_⟩,_⟩ hq
      exact letOwned_skip e hc (by decide) hq
noncomputable def rngD (a c:Int) (n:Nat):List D:=(List.range n).map fun i=>D.int (a+(i:Nat)*c)
theorem Src.rng {a b c:Int} (n:Nat) (hsmall:Builtin.Range.small a b c=true) (hn:Builtin.Range.rangeSize a b c=(n:Int)):Src (.rng a b c) (rngD a c n):=fun C A X s v Q E I hh r h=>by
  cases r with
  | @rng r _ _ _ t u w ha e =>
    have W:=Walks.range (prog:=C.prog) (w:=C.w) hh s.heap.objs.size a c n
    have hlen:(rngD a c n).length=n:=by simp [rngD]
    rw [← hlen] at W
    refine wpAny_pyIter_range e hsmall (h _ _ _ _ _ _ .push' ⟨W.bound,?_,?_,?_,?_,?_⟩ ?_)
    · intro b hb;rw [List.mem_singleton.mp hb];exact none_of_ge (Nat.le_refl _)
    · intro b hb;exact .inl hb
    · intro i h' e b hb;rw [List.mem_singleton.mp hb];exact ⟨_,e⟩
    · rintro i v h' hk ⟨hi,t,rfl⟩
      rw [hlen] at hi
      exact ⟨.int (a+(i:Nat)*c),by simp [rngD,hi],.int ..⟩
    · intro i s' A' t v Q E e hq
      exact letOwned_skip e rfl (by decide) hq
    · show IsRangeIter _ _ _ _ _
      rw [hn,hlen]
      simpa using Heap.get?_push_size _ rfl
section
variable {g:G} {ρ:List (Option D)} {μ:List (Addr × Mut)} {S:List Addr} {s:Shared} {Φ:Flow→Shared→Prop} {rest:List Stmt}
theorem St.iter {X' : List Addr} {wr : List Addr} {h' : Heap} {tk : Nat} (y : St { g with X := wr ++ g.X } ρ μ s) (hk : ∀ b o, b ∉ wr → s.heap.get? b = some o → h'.get? b = some o)
    (hX:∀ a∈X',a∈wr++g.X) (hX':∀ a∈g.X,a∈X') (ho:∀ a∈wr,a∈X'→∃ o,h'.get? a=some o) (hw:∀ a∈wr,a∉g.X∧a∉g.C.P∧g.C.hb.get? a=none∧∀ x c,g.env.cells.lookup x=some c→a≠c)
    (hμ:∀ a∈doms μ,a∈g.X) (hE:EnvOk g.C g.X s.heap g.env) (hP:∀ p∈g.C.P,p∈g.X):St { g with X:=X' } ρ μ { s with heap:=h',toks:=tk }:=by
  have nP:∀ p∈g.C.P,p∉wr:=fun p hp hq=>(hw p hq).2.1 hp
  have hL:g.env.locals∉wr:=fun q=>(hw _ q).1 hE.inX
  have hcell:∀ x c,g.env.cells.lookup x=some c→c∉wr:=fun x c hc q=>(hw c q).2.2.2 x c hc rfl
  have up:∀ b o,b∉wr++g.X→s.heap.get? b=some o→b∉X'∧h'.get? b=some o:=fun b o hb e=>⟨fun q=>hb (hX b q),hk b o (fun q=>hb (List.mem_append_left _ q)) e⟩
  have bd:∀ x v,Bound s.heap g.env x v→Bound h' g.env x v:=fun x v b=>by
    rcases b with ⟨hk',m,hn,hm⟩ | ⟨hk',c,hc,o,e,hd⟩
    · exact .inl ⟨hk',m,hn.at' fun o e=>hk _ o hL e,hm⟩
    · exact .inr ⟨hk',c,hc,o,hk _ o (hcell x c hc) e,hd⟩
  refine ⟨⟨y.inv.base,fun b o hb e=>hk b o (fun q=>by rw [(hw b q).2.2.1] at e;cases e) (y.inv.keep b o hb e),fun p hp=>?_,y.inv.os,y.inv.gens,fun p hp=>hX' _ (hP p hp),fun a ha=>y.inv.new a (hX a ha),fun a ha=>?_⟩,
    ⟨hE.kind,hE.glob,hE.bi,let ⟨m,hn⟩:=hE.ns;⟨m,hn.at' fun o e=>hk _ o hL e⟩,hX' _ hE.inX,hE.lP,fun x c hc=>let ⟨a,b,v,o,e,hd⟩:=hE.cel x c hc;⟨a,b,v,o,hk _ o (hcell x c hc) e,hd⟩,fun x c h1 h2=>hX' _ (hE.own x c h1 h2),hE.inj⟩,
    fun i x d h1 h2=>let ⟨v,b,r⟩:=y.vars i x d h1 h2;⟨v,bd x v b,r.mono up⟩,fun p hp=>?_,fun a ha=>⟨hX' _ (hμ a ha),(y.mX a ha).2⟩,y.apart,y.nd⟩
  · obtain ⟨c,ps₀,more,hc,x,z,i⟩:=y.inv.tab p hp
    have hcw:c∉wr:=fun q=>by
      obtain ⟨⟨o,vs,e,_⟩,_⟩:=x
      rw [(hw c q).2.2.1] at e;cases e
    obtain ⟨⟨o,vs,e,e2,e3,e4⟩,e5⟩:=z
    refine ⟨c,ps₀,more,hc,x,⟨⟨o,vs,hk _ _ hcw e,e2,e3,e4⟩,hk _ _ (nP p hp) e5⟩,?_⟩
    obtain ⟨o,vs,file,tf,flags,tg,inF,text,tt,op,ho,hd,h11,h2,h7,h9,h10,hop,r⟩:=i
    exact ⟨o,vs,file,tf,flags,tg,inF,text,tt,op,hk _ _ hcw ho,hd,h11,h2,h7,h9,h10,hk _ _ (nP p hp) hop,r⟩
  · rcases List.mem_append.mp (hX a ha) with q | q
    · exact ho a q ha
    · obtain ⟨o,e⟩:=y.inv.occ a (List.mem_append_right _ q)
      exact ⟨o,hk _ o (fun z=>(hw a z).1 q) e⟩
  · have mo:=y.muts p hp
    have h1:p.1∉wr:=fun q=>(hw _ q).1 (hμ _ (mem_doms hp))
    have h2:∀ b∈p.2.more,b∉wr:=fun b hb q=>(hw _ q).1 (hμ _ (more_doms hp hb))
    have mo':MutOk (wr++g.X) h' p.1 p.2:=mo.mono (fun o e=>hk _ o h1 e) (fun b hb o e=>hk _ o (h2 b hb) e) (fun b o hb e=>(up b o hb e).2)
    exact mo'.sub fun a ha=>hX a ha
theorem St.wide {wr:List Addr} {s':Shared} (y:St g ρ μ s) (e:Ext g.C [] s s') (hn:∀ b∈wr,s.heap.get? b=none) (ho:∀ b∈wr,∃ o,s'.heap.get? b=some o):St { g with X:=wr++g.X } ρ μ s':=by
  have y':=y.ext e
  have up:∀ b o,b∉g.X→s.heap.get? b=some o→b∉wr++g.X∧s'.heap.get? b=some o:=fun b o hb q=>⟨fun z=>(List.mem_append.mp z).elim (fun z=>by rw [hn b z] at q;(first | obtain rfl:=q.vI | obtain ⟨_,rfl⟩:=q.iI | obtain ⟨_,rfl⟩:=q.sI | obtain ⟨_,rfl⟩:=q.bI | obtain rfl:=q.nI | cases q)) hb,e.keep b o (fun h=>nomatch h) (fun z=>hb (y.inv.pin _ z)) q⟩
  have nP:∀ b∈wr,b∉g.C.P:=fun b hb hP=>by
    obtain ⟨o,q⟩:=y.inv.occ b (y.inv.pin b hP)
    rw [hn b hb] at q;(first | obtain rfl:=q.vI | obtain ⟨_,rfl⟩:=q.iI | obtain ⟨_,rfl⟩:=q.sI | obtain ⟨_,rfl⟩:=q.bI | obtain rfl:=q.nI | cases q)
  refine ⟨⟨y'.inv.base,y'.inv.keep,y'.inv.tab,y'.inv.os,y'.inv.gens,fun p hp=>List.mem_append_right _ (y'.inv.pin p hp),fun a ha hP=>?_,fun a ha=>?_⟩,
    ⟨y'.envOk.kind,y'.envOk.glob,y'.envOk.bi,y'.envOk.ns,List.mem_append_right _ y'.envOk.inX,y'.envOk.lP,y'.envOk.cel,fun x c h1 h2=>List.mem_append_right _ (y'.envOk.own x c h1 h2),y'.envOk.inj⟩,
    fun i x d h1 h2=>?_,fun p hp=>?_,fun a ha=>⟨List.mem_append_right _ (y'.mX a ha).1,(y'.mX a ha).2⟩,y'.apart,y'.nd⟩
  · rcases List.mem_append.mp ha with q | q
    · exact y.inv.hb_none (hn a q) hP
    · exact y'.inv.new a q hP
  · rcases List.mem_append.mp ha with q | q
    · exact ho a q
    · exact y'.inv.occ a q
  · obtain ⟨v,b,r⟩:=y.vars i x d h1 h2
    exact ⟨v,b.ext e y.envOk (fun h=>nomatch h) (fun _ _ _ h=>nomatch h),r.mono up⟩
  · have m:=y.muts p hp
    have k:∀ b o,b∉g.C.P→s.heap.get? b=some o→s'.heap.get? b=some o:=fun b o hb q=>e.keep b o (fun h=>nomatch h) hb q
    cases hm:p.2 with
    | lst ds=>rw [hm] at m;obtain ⟨vs,n,z,r⟩:=m;exact ⟨vs,n,k _ _ (y.mX _ (mem_doms hp)).2.1 z,r.mono up⟩
    | acc cls dx ds =>
      rw [hm] at m;obtain ⟨⟨vs,n,z,r⟩,hne,hsh,t,u,n',z2⟩:=m
      exact ⟨⟨vs,n,k _ _ (y.mX _ (mem_doms hp)).2.1 z,r.mono up⟩,hne,hsh,t,u,n',k _ _ (y.mX _ (more_doms hp (by rw [hm];exact .head _))).2.1 z2⟩
    | inst cls dx =>
      rw [hm] at m;obtain ⟨⟨sl,z⟩,hne,hsh,t,v,n,z2⟩:=m
      exact ⟨⟨sl,k _ _ (y.mX _ (mem_doms hp)).2.1 z⟩,hne,hsh,t,v,n,k _ _ (y.mX _ (more_doms hp (by rw [hm];exact .head _))).2.1 z2⟩
    | ba b=>rw [hm] at m;obtain ⟨n,z⟩:=m;exact ⟨n,k _ _ (y.mX _ (mem_doms hp)).2.1 z⟩
    | obj o dx od=>rw [hm] at m;exact ⟨k _ _ (y.mX _ (mem_doms hp)).2.1 m.1,m.2.1,k _ _ (y.mX _ (more_doms hp (by rw [hm];exact .head _))).2.1 m.2.2⟩
end
end Mine
end
section
open PySem PySem.Calls PySem.W PyProof.Rows
namespace Mine
section
variable {g:G} {ρ:List (Option D)} {μ:List (Addr × Mut)} {S:List Addr} {s:Shared} {Φ:Flow→Shared→Prop} {rest:List Stmt}
theorem Ext.iter {C : Cx} {s₀ s : Shared} {wr : List Addr} {h' : Heap} {tk : Nat} (e : Ext C S s₀ s) (hk : ∀ b o, b ∉ wr → s.heap.get? b = some o → h'.get? b = some o) (hn : ∀ b ∈ wr, s₀.heap.get? b = none)
    (hw:∀ b∈wr,C.hb.get? b=none):Ext C S s₀ { s with heap:=h',toks:=tk } where
  keep:=fun b o h1 h2 q=>hk b o (fun z=>by rw [hn b z] at q;(first | obtain rfl:=q.vI | obtain ⟨_,rfl⟩:=q.iI | obtain ⟨_,rfl⟩:=q.sI | obtain ⟨_,rfl⟩:=q.bI | obtain rfl:=q.nI | cases q)) (e.keep b o h1 h2 q)
  occ:=fun b o q=>let ⟨o',q'⟩:=e.occ b o q;⟨o',hk b o' (fun z=>by rw [hn b z] at q;(first | obtain rfl:=q.vI | obtain ⟨_,rfl⟩:=q.iI | obtain ⟨_,rfl⟩:=q.sI | obtain ⟨_,rfl⟩:=q.bI | obtain rfl:=q.nI | cases q)) q'⟩
  tab:=fun t p hp=>by
    obtain ⟨c,ps₀,more,hc,x,z,i⟩:=e.tab t p hp
    have hcw:c∉wr:=fun q=>by
      obtain ⟨⟨o,vs,e,_⟩,_⟩:=x
      rw [hw c q] at e;cases e
    have hpw:p∉wr:=fun q=>by
      obtain ⟨_,e⟩:=x
      rw [hw p q] at e;cases e
    obtain ⟨⟨o,vs,e,e2,e3,e4⟩,e5⟩:=z
    refine ⟨c,ps₀,more,hc,x,⟨⟨o,vs,hk _ _ hcw e,e2,e3,e4⟩,hk _ _ hpw e5⟩,?_⟩
    obtain ⟨o,vs,file,tf,flags,tg,inF,text,tt,op,ho,hd,h11,h2,h7,h9,h10,hop,r⟩:=i
    exact ⟨o,vs,file,tf,flags,tg,inF,text,tt,op,hk _ _ hcw ho,hd,h11,h2,h7,h9,h10,hk _ _ hpw hop,r⟩
  os:=e.os
  gens:=e.gens
noncomputable def Turn (g:G) (J:List (Option D)→List (Addr × Mut)→Prop) (B:List (Option D)→List (Addr × Mut)→Prop) (Φ:Flow→Shared→Prop) (fl:Flow) (s':Shared):Prop:=match fl with
  | .next | .cont=>∃ ρ' μ',J ρ' μ'∧St g ρ' μ' s'
  | .brk=>∃ ρ' μ',B ρ' μ'∧St g ρ' μ' s'
  | .ret v=>Φ (.ret v) s'
theorem Ex.for {target iter : Expr} {body : List Stmt} {pos : Pos} {d : D} {ds : List D} (R : Room g.A 0) (hS : ∀ a ∈ S, a ∈ g.X) (hi : Ev g ρ μ iter d) (src : Src d ds)
    (J:Nat→List (Option D)→List (Addr × Mut)→Prop) (B:List (Option D)→List (Addr × Mut)→Prop) (upd:List (Option D)→D→List (Option D))
    (hμ:∀ i ρ' μ',J i ρ' μ'→doms μ'=doms μ) (hB:∀ ρ' μ',B ρ' μ'→doms μ'=doms μ) (j0:J 0 ρ μ)
    (asg:∀ X',(∀ a∈g.X,a∈X')→∀ ρ' μ' a s v,St { g with X:=X' } ρ' μ' s→Rep X' s.heap v a→a∈ds→Dn g.C g.A S s (PySem.assign target g.env v) fun _ s'=>St { g with X:=X' } (upd ρ' a) μ' s')
    (turn:∀ wr i a ρ' μ',ds[i]?=some a→J i ρ' μ'→Ex { g with X:=wr++g.X } S (upd ρ' a) μ' body (Turn { g with X:=wr++g.X } (J (i+1)) B Φ))
    (done:∀ ρ' μ',J ds.length ρ' μ'→Ex g S ρ' μ' rest Φ) (brk:∀ ρ' μ',B ρ' μ'→Ex g S ρ' μ' rest Φ)
    (hs:∀ x,foldedSetIterable iter g.env x=pure x:=by intro _;rfl):Ex g S ρ μ (.For target iter body [] pos::rest) Φ:=Ex.step fun s y=>by
  refine wpAny_For (hi.wp y fun v s₁ y₁ r₁ e₁=>src g.C g.A g.X s₁ v _ _ y₁.inv R.h r₁ fun I fp wr P W s₂ e₂ it w0=>?_) hs
  have hwX:∀ a∈wr,a∉g.X:=fun a ha q=>by
    obtain ⟨o,e⟩:=y₁.inv.occ a q
    rw [it.new a ha] at e;cases e
  have hwP:∀ a∈wr,a∉g.C.P:=fun a ha q=>hwX a ha (y₁.inv.pin a q)
  have hwn:∀ a∈wr,g.C.hb.get? a=none:=fun a ha=>y₁.inv.hb_none (it.new a ha) (hwP a ha)
  have hwc:∀ a∈wr,∀ x c,g.env.cells.lookup x=some c→a≠c:=fun a ha x c hc e=>by
    obtain ⟨_,_,v,o,q,_⟩:=y₁.envOk.cel x c hc
    rw [← e,it.new a ha] at q;(first | obtain rfl:=q.vI | obtain ⟨_,rfl⟩:=q.iI | obtain ⟨_,rfl⟩:=q.sI | obtain ⟨_,rfl⟩:=q.bI | obtain rfl:=q.nI | cases q)
  have hwS:∀ a∈wr,a∉S:=fun a ha q=>hwX a ha (hS a q)
  have frame:∀ i (t t':Shared),Ext g.C S s₁ t→Ext g.C S t t'→W i t.heap→W i t'.heap:=fun i t t' e0 e w=>it.walk.frame i _ _ w fun b hb o q=>by
    rcases it.fpX b hb with hb' | ⟨hb',_⟩
    · exact e.keep b o (hwS b hb') (hwP b hb') q
    · exact e.keep b o (fun z=>hb' (hS b z)) (fun z=>hb' (y₁.inv.pin b z)) q
  have y₂:St { g with X:=wr++g.X } ρ μ s₂:=y₁.wide e₂ it.new (it.occ _ _ w0)
  have wide0:∀ {t t':Shared},Ext g.C [] t t'→Ext g.C S t t':=fun e=>e.wider fun _ h=>nomatch h
  refine codeAny_forLoop_any (fun n t=>∃ i ρ' μ',i≤ds.length∧n=ds.length+1 - i∧J i ρ' μ'∧W i t.heap∧St { g with X:=wr++g.X } ρ' μ' t∧EnvOk g.C g.X t.heap g.env∧Ext g.C S s₁ t) ?_ (ds.length+1)
    ⟨0,ρ,μ,Nat.zero_le _,rfl,j0,w0,y₂,y₁.envOk.ext e₂ (fun h=>nomatch h) (fun _ _ _ h=>nomatch h),wide0 e₂⟩
  rintro n t ⟨i,ρ',μ',hle,rfl,hj,hw,yt,ht,et⟩
  have hμ':∀ a∈doms μ',a∈g.X:=fun a ha=>(y.mX a (by rw [hμ i ρ' μ' hj] at ha;exact ha)).1
  have hwall:∀ a∈wr,a∉g.X∧a∉g.C.P∧g.C.hb.get? a=none∧∀ x c,g.env.cells.lookup x=some c→a≠c:=fun a ha=>⟨hwX a ha,hwP a ha,hwn a ha,hwc a ha⟩
  by_cases hlt:i < ds.length
  · refine it.walk.item i _ _ _ hlt hw fun v h' tk hP hw' hk=>?_
    have et':Ext g.C S s₁ { t with heap:=h',toks:=tk }:=et.iter hk it.new hwn
    have y':St { g with X:=wr++g.X } ρ' μ' { t with heap:=h',toks:=tk }:=yt.iter hk (fun _ h=>h) (fun _ h=>List.mem_append_right _ h) (fun a ha _=>it.occ _ _ hw' a ha) hwall hμ' ht y.inv.pin
    obtain ⟨a,ha,ra⟩:=it.item i v h' (fun b o hb q=>et'.keep b o (fun z=>hb (hS b z)) (fun z=>hb (y₁.inv.pin b z)) q) hP
    have ra':Rep (wr++g.X) h' v a:=by
      obtain ⟨d',hd',rr⟩:=it.item i v s₁.heap (fun b o _ q=>q) hP
      rw [ha] at hd';cases hd'
      exact rr.mono fun b o hb q=>⟨fun z=>(List.mem_append.mp z).elim (fun z=>by rw [it.new b z] at q;(first | obtain rfl:=q.vI | obtain ⟨_,rfl⟩:=q.iI | obtain ⟨_,rfl⟩:=q.sI | obtain ⟨_,rfl⟩:=q.bI | obtain rfl:=q.nI | cases q)) hb,et'.keep b o (fun z=>hb (hS b z)) (fun z=>hb (y₁.inv.pin b z)) q⟩
    refine it.lt (i+1) { t with heap:=h',toks:=tk } g.A target v _ _ hw' ?_
    refine (asg (wr++g.X) (fun _ h=>List.mem_append_right _ h) ρ' μ' a _ v y' ra' (List.mem_of_getElem? ha)).use fun _ s₃ e₃ y₃=>?_
    refine (turn wr i a ρ' μ' ha hj s₃ y₃).use fun fl s₄ e₄ q=>?_
    have e₃₄:=e₃.trans e₄
    have fin:∀ ρ'' μ'',J (i+1) ρ'' μ''→St { g with X:=wr++g.X } ρ'' μ'' s₄→∃ m,m < ds.length+1 - i∧∃ i ρ' μ',i≤ds.length∧m=ds.length+1 - i∧J i ρ' μ'∧W i s₄.heap∧St { g with X:=wr++g.X } ρ' μ' s₄∧EnvOk g.C g.X s₄.heap g.env∧Ext g.C S s₁ s₄:=fun ρ'' μ'' hj'' y₄ =>
      ⟨ds.length+1 - (i+1),by exact Z.l686 hlt,i+1,ρ'',μ'',hlt,rfl,hj'',frame _ _ _ et' e₃₄ hw',y₄,⟨y₄.envOk.kind,y₄.envOk.glob,y₄.envOk.bi,y₄.envOk.ns,y.envOk.inX,y₄.envOk.lP,y₄.envOk.cel,y.envOk.own,y₄.envOk.inj⟩,et'.trans e₃₄⟩
    cases fl with
    | next=>obtain ⟨ρ'',μ'',hj'',y₄⟩:=q;exact fin ρ'' μ'' hj'' y₄
    | cont=>obtain ⟨ρ'',μ'',hj'',y₄⟩:=q;exact fin ρ'' μ'' hj'' y₄
    | brk =>
      obtain ⟨ρ'',μ'',hb,y₄⟩:=q
      have hμ'':∀ a∈doms μ'',a∈g.X:=fun a ha=>(y.mX a (by rw [hB ρ'' μ'' hb] at ha;exact ha)).1
      have y₅:St g ρ'' μ'' s₄:=y₄.iter (X':=g.X) (h':=s₄.heap) (tk:=s₄.toks) (fun b o _ e=>e) (fun a h=>List.mem_append_right _ h) (fun _ h=>h) (fun a ha q=>absurd q (hwX a ha)) hwall hμ''
        ⟨y₄.envOk.kind,y₄.envOk.glob,y₄.envOk.bi,y₄.envOk.ns,y.envOk.inX,y₄.envOk.lP,y₄.envOk.cel,y.envOk.own,y₄.envOk.inj⟩ y.inv.pin
      exact ⟨(wide0 e₁).trans (et'.trans e₃₄),brk ρ'' μ'' hb s₄ y₅⟩
    | ret v=>exact ⟨(wide0 e₁).trans (et'.trans e₃₄),q⟩
  · have hi':i=ds.length:=by exact Z.l236 hle hlt
    subst hi'
    refine it.walk.done _ _ _ hw fun h' tk hk=>?_
    have et':Ext g.C S s₁ { t with heap:=h',toks:=tk }:=et.iter hk it.new hwn
    have y':St g ρ' μ' { t with heap:=h',toks:=tk }:=yt.iter (X':=g.X) hk (fun _ h=>List.mem_append_right _ h) (fun _ h=>h) (fun a ha q=>absurd q (hwX a ha)) hwall hμ' ht y.inv.pin
    exact wpAny_execs_nil ⟨(wide0 e₁).trans et',done ρ' μ' hj _ y'⟩
theorem asg_name {x : Str} {p : Pos} (i : Nat) (h1 : g.ns[i]? = some x) (hk : Stored g S x) {X' : List Addr} {ρ' : List (Option D)} {μ' : List (Addr × Mut)} {a : D} {v : Value} (y : St { g with X := X' } ρ' μ' s) (r : Rep X' s.heap v a) :
    Dn g.C g.A S s (assign (.Name x p) g.env v) fun _ s'=>St { g with X:=X' } (ρ'.set i (some a)) μ' s' :=
  wpAny_assign_Name (St.store (g:={ g with X:=X' }) y h1 hk r)
theorem Ex.forN (i : Nat) {x : Str} {p : Pos} {iter : Expr} {body : List Stmt} {pos : Pos} {d : D} {ds : List D} (R : Room g.A 0) (h1 : g.ns[i]? = some x) (hk : Stored g S x) (hS : ∀ a ∈ S, a ∈ g.X) (hi : Ev g ρ μ iter d) (src : Src d ds)
    (J:Nat→List (Option D)→List (Addr × Mut)→Prop) (B:List (Option D)→List (Addr × Mut)→Prop)
    (hμ:∀ i ρ' μ',J i ρ' μ'→doms μ'=doms μ) (hB:∀ ρ' μ',B ρ' μ'→doms μ'=doms μ) (j0:J 0 ρ μ)
    (turn:∀ wr j a ρ' μ',ds[j]?=some a→J j ρ' μ'→Ex { g with X:=wr++g.X } S (ρ'.set i (some a)) μ' body (Turn { g with X:=wr++g.X } (J (j+1)) B Φ))
    (done:∀ ρ' μ',J ds.length ρ' μ'→Ex g S ρ' μ' rest Φ) (brk:∀ ρ' μ',B ρ' μ'→Ex g S ρ' μ' rest Φ)
    (hs:∀ x,foldedSetIterable iter g.env x=pure x:=by intro _;rfl):Ex g S ρ μ (.For (.Name x p) iter body [] pos::rest) Φ :=
  Ex.for R hS hi src J B (fun ρ a=>ρ.set i (some a)) hμ hB j0 (fun X' _ ρ' μ' a s v y r _=>asg_name i h1 hk y r) turn done brk hs
theorem Ex.while {test : Expr} {body : List Stmt} {pos : Pos} (J : Nat → List (Option D) → List (Addr × Mut) → Prop) (B : List (Option D) → List (Addr × Mut) → Prop) (n : Nat) (j0 : J n ρ μ)
    (turn:∀ n ρ' μ',J n ρ' μ'→∃ b,EvT g ρ' μ' test b∧(b=true→Ex g S ρ' μ' body (Turn g (fun ρ'' μ''=>∃ m,m < n∧J m ρ'' μ'') B Φ))∧(b=false→Ex g S ρ' μ' rest Φ)) (brk:∀ ρ' μ',B ρ' μ'→Ex g S ρ' μ' rest Φ) :
    Ex g S ρ μ (.While test body [] pos::rest) Φ:=Ex.step fun s y=>by
  refine wpAny_While (codeAny_whileLoop (fun n t=>∃ ρ' μ',J n ρ' μ'∧St g ρ' μ' t∧Ext g.C S s t) ?_ n ⟨ρ,μ,j0,y,.refl ..⟩)
  rintro n t ⟨ρ',μ',hj,yt,et⟩
  obtain ⟨b,hb,h1,h2⟩:=turn n ρ' μ' hj
  refine hb.wp yt fun s₁ y₁ e₁=>?_
  have e₁':Ext g.C S s s₁:=et.trans (e₁.wider fun _ h=>nomatch h)
  cases b with
  | false=>exact wpAny_execs_nil ⟨e₁',h2 rfl s₁ y₁⟩
  | true =>
    refine (h1 rfl s₁ y₁).use fun fl s₂ e₂ q=>?_
    cases fl with
    | next=>obtain ⟨ρ'',μ'',⟨m,hm,hj'⟩,y₂⟩:=q;exact ⟨m,hm,ρ'',μ'',hj',y₂,e₁'.trans e₂⟩
    | cont=>obtain ⟨ρ'',μ'',⟨m,hm,hj'⟩,y₂⟩:=q;exact ⟨m,hm,ρ'',μ'',hj',y₂,e₁'.trans e₂⟩
    | brk=>obtain ⟨ρ'',μ'',hb',y₂⟩:=q;exact ⟨e₁'.trans e₂,brk ρ'' μ'' hb' s₂ y₂⟩
    | ret v=>exact ⟨e₁'.trans e₂,q⟩
end
end Mine
end
section
open PySem PySem.Calls PySem.W PyProof.Rows
namespace Mine
noncomputable def closL (cells:List (Str × Addr)):List (Str × NameKind)→List (Str × Addr)→List (Str × Addr)
  | [],acc=>acc
  | (n,k)::r,acc=>if k == .free then closL cells r (match cells.lookup n with | some c=>(n,c)::acc | none=>acc) else closL cells r acc
theorem closureFor_is {scope:Scope} {env:Env} (h:∀ x∈scope.names,x.2=.free→(env.cells.lookup x.1).isSome=true):closureFor scope env=pure (closL env.cells scope.names []):=by
  have key : ∀ (l : List (Str × NameKind)) (acc : List (Str × Addr)), (∀ x ∈ l, x.2 = .free → (env.cells.lookup x.1).isSome = true) →
      (forIn l acc fun (x:Str × NameKind) (r:List (Str × Addr))=>match x with
        | (name,kind)=>if (kind == .free)=true then (do let c ← cellOf env name;pure (ForInStep.yield ((name,c)::r))) else pure (ForInStep.yield r):Sem (List (Str × Addr)))=pure (closL env.cells l acc):=by
    intro l
    induction l with
    | nil=>intro acc _;rfl
    | cons x r ih =>
      intro acc hx
      obtain ⟨n,k⟩:=x
      rw [List.forIn_cons]
      dsimp only
      cases hk:(k == NameKind.free) with
      | false =>
        simp only [Bool.false_eq_true,if_false,pure_bind]
        rw [ih _ fun y hy=>hx y (.tail _ hy)]
        simp only [closL,hk,Bool.false_eq_true,if_false]
      | true =>
        obtain ⟨c,hc⟩:=Option.isSome_iff_exists.mp (hx (n,k) (.head _) (by simpa using hk))
        simp only [if_true]
        have e:cellOf env n=pure c:=by unfold cellOf;rw [hc]
        rw [e]
        simp only [pure_bind]
        rw [ih _ fun y hy=>hx y (.tail _ hy)]
        simp only [closL,hk,if_true,hc]
  have:=key scope.names [] h
  unfold closureFor
  refine Eq.trans ?_ this
  show (forIn scope.names ([]:List (Str × Addr)) _ >>= fun r=>pure r)=_
  rw [bind_pure]
theorem closL_lookup {cells:List (Str × Addr)} {x:Str} {c:Addr} (hc:cells.lookup x=some c):∀ (l:List (Str × NameKind)) (acc:List (Str × Addr)),((x,.free)∈l∨acc.lookup x=some c)→(closL cells l acc).lookup x=some c
  | [],acc,h=>h.elim (fun h=>nomatch h) id
  | (n,k)::r,acc,h=>by
    unfold closL
    by_cases hk:k=.free
    · subst hk
      simp only [beq_self_eq_true,if_true]
      by_cases hn:n=x
      · subst hn
        rw [hc]
        exact closL_lookup hc r _ (.inr (by simp))
      · have hxn:(x == n)=false:=beq_eq_false_iff_ne.mpr (Ne.symm hn)
        refine closL_lookup hc r _ ?_
        rcases h with h | h
        · rcases List.mem_cons.mp h with e | h
          · exact absurd (by injection e with a b;exact a.symm) hn
          · exact .inl h
        · right
          cases cells.lookup n with
          | none=>exact h
          | some c'=>simp only [List.lookup_cons,hxn];exact h
    · have hk':(k == NameKind.free)=false:=by simpa using hk
      simp only [hk',Bool.false_eq_true,if_false]
      refine closL_lookup hc r _ (h.imp (fun h=>?_) id)
      rcases List.mem_cons.mp h with e | h
      · exact absurd (by injection e with a b;exact b.symm) hk
      · exact h
theorem closL_mem {cells:List (Str × Addr)} {x:Str} {c:Addr}:∀ (l:List (Str × NameKind)) (acc:List (Str × Addr)),(x,c)∈closL cells l acc→(x,c)∈acc∨(cells.lookup x=some c∧(x,NameKind.free)∈l)
  | [],acc,h=>.inl h
  | (n,k)::r,acc,h=>by
    unfold closL at h
    by_cases hk:k=.free
    · subst hk
      simp only [beq_self_eq_true,if_true] at h
      rcases closL_mem r _ h with h | h
      · cases hc:cells.lookup n with
        | none=>rw [hc] at h;exact .inl h
        | some c' =>
          rw [hc] at h
          rcases List.mem_cons.mp h with e | h
          · injection e with a b;subst a;subst b;exact .inr ⟨hc,.head _⟩
          · exact .inl h
      · exact .inr ⟨h.1,.tail _ h.2⟩
    · have hk':(k == NameKind.free)=false:=by simpa using hk
      simp only [hk',Bool.false_eq_true,if_false] at h
      rcases closL_mem r _ h with h | h
      · exact .inl h
      · exact .inr ⟨h.1,.tail _ h.2⟩
theorem closL_apart {cells : List (Str × Addr)} (inj : ∀ x y c, cells.lookup x = some c → cells.lookup y = some c → x = y) : ∀ (l : List (Str × NameKind)) (acc : List (Str × Addr)), (l.map (·.1)).Nodup →
    (∀ x c,(x,c)∈acc→cells.lookup x=some c∧x∉l.map (·.1))→acc.Pairwise (fun a b=>a.2≠b.2)→(closL cells l acc).Pairwise fun a b=>a.2≠b.2
  | [],acc,_,_,h=>h
  | (n,k)::r,acc,hnd,hacc,h=>by
    simp only [List.map_cons,List.nodup_cons] at hnd
    have hacc':∀ x c,(x,c)∈acc→cells.lookup x=some c∧x∉r.map (·.1):=fun x c hx=>⟨(hacc x c hx).1,fun q=>(hacc x c hx).2 (by simp only [List.map_cons];exact .tail _ q)⟩
    unfold closL
    split
    · cases hc:cells.lookup n with
      | none=>exact closL_apart inj r acc hnd.2 hacc' h
      | some c =>
        refine closL_apart inj r _ hnd.2 (fun x c' hx=>?_) (List.pairwise_cons.mpr ⟨fun b hb e=>?_,h⟩)
        · rcases List.mem_cons.mp hx with e | hx
          · injection e with a b;subst a;subst b;exact ⟨hc,hnd.1⟩
          · exact hacc' x c' hx
        · obtain ⟨x,c'⟩:=b
          have e':c=c':=e
          subst e'
          have:=inj n x c hc (hacc x c hb).1
          exact (hacc x c hb).2 (by rw [← this];simp)
    · exact closL_apart inj r acc hnd.2 hacc' h
theorem cellsFrom_old {x:Str}:∀ (l:List (Str × NameKind)) (k:Nat) (acc:List (Str × Addr)),(x,NameKind.cell)∉l→(cellsFrom k l acc).lookup x=acc.lookup x
  | [],_,_,_=>rfl
  | (n,kd)::r,k,acc,h=>by
    have hr:(x,NameKind.cell)∉r:=fun q=>h (.tail _ q)
    unfold cellsFrom
    split
    · rename_i hk
      rw [cellsFrom_old r _ _ hr]
      have hne:(x == n)=false:=beq_eq_false_iff_ne.mpr fun e=>h (by
        have:kd=NameKind.cell:=by simpa using hk
        rw [e,this];exact .head _)
      simp only [List.lookup_cons,hne]
    · exact cellsFrom_old r _ _ hr
theorem cellsFrom_cases:∀ (l:List (Str × NameKind)) (h:Heap) (acc:List (Str × Addr)) {n:Str} {c:Addr},(n,c)∈cellsFrom h.objs.size l acc→(n,c)∈acc∨(h.objs.size≤c∧(n,NameKind.cell)∈l∧(pushCells h l).IsCell c none)
  | [],_,_,_,_,h=>.inl h
  | (x,k)::r,h,acc,n,c,hm=>by
    unfold cellsFrom at hm
    unfold pushCells
    split
    · rename_i hk
      rw [if_pos hk] at hm
      rw [← Heap.size_push h { cls:=.type "cell",data:=.cell none }] at hm
      rcases cellsFrom_cases r _ _ hm with q | ⟨q1,q2,q3⟩
      · rcases List.mem_cons.mp q with e | q
        · injection e with a b
          subst a;subst b
          refine .inr ⟨Nat.le_refl _,?_,⟨_,pushCells_keeps r _ _ _ (Heap.get?_push_size _ rfl),rfl⟩⟩
          have:k=NameKind.cell:=by simpa using hk
          rw [this];exact .head _
        · exact .inl q
      · exact .inr ⟨by rw [Heap.size_push] at q1;exact Z.l158 q1,.tail _ q2,q3⟩
    · rename_i hk
      rw [if_neg hk] at hm
      rcases cellsFrom_cases r _ _ hm with q | ⟨q1,q2,q3⟩
      · exact .inl q
      · exact .inr ⟨q1,.tail _ q2,q3⟩
theorem cellsFrom_apart:∀ (l:List (Str × NameKind)) (k:Nat) (acc:List (Str × Addr)),(∀ x c,(x,c)∈acc→c < k)→acc.Pairwise (fun a b=>a.2≠b.2)→(cellsFrom k l acc).Pairwise fun a b=>a.2≠b.2
  | [],_,_,_,h=>h
  | (x,kd)::r,k,acc,hl,h=>by
    unfold cellsFrom
    split
    · refine cellsFrom_apart r _ _ (fun y c hy=>?_) (List.pairwise_cons.mpr ⟨fun b hb e=>?_,h⟩)
      · rcases List.mem_cons.mp hy with e | hy
        · injection e with a b;subst b;exact Nat.lt_succ_self _
        · exact Nat.lt_succ_of_lt (hl y c hy)
      · have h1:b.2 < k:=hl b.1 b.2 hb
        have e':k=b.2:=e
        rw [← e'] at h1
        exact Nat.lt_irrefl _ h1
    · exact cellsFrom_apart r _ _ hl h
noncomputable def compCells (env:Env) (scope:Scope) (L:Addr):List (Str × Addr):=cellsFrom (L+1) scope.names (closL env.cells scope.names [])
noncomputable def cEnv (env:Env) (scope:Scope) (L:Addr):Env:=compEnvC scope (compCells env scope L) L env
theorem newCompEnv {M : Model} {A : Around} {E : Value → Shared → Prop} {s : Shared} {scope : Scope} {env : Env} {Q : Env → Shared → Prop}
    (hQ:Q (newEnv scope s.heap.objs.size env.globals (compCells env scope s.heap.objs.size) env.qual none .none (some env) builtinsNs) { s with heap:=pushCells (s.heap.push { cls:=.type "dict",data:=.dict #[] }) scope.names }) :
    wpAny M A (newFunctionEnv scope env.globals (closL env.cells scope.names []) [] env.qual none .none (some env)) Q E s:=by
  simp only [newFunctionEnv,Option.isSome_some,if_true]
  refine wpAny_bind (wpAny_alloc ?_)
  refine wpAny_bind (wpAny_layCells _ (fun name kind cells=>by cases hkc:kind == NameKind.cell <;> simp [hkc]) _ _ _ _ ?_)
  rw [show ({ s with heap:=s.heap.push { cls:=.type "dict",data:=.dict #[] } }:Shared).heap.objs.size=s.heap.objs.size+1 from Heap.size_push ..]
  rw [List.forIn_nil]
  exact wpAny_bind (wpAny_pure (wpAny_pure hQ))
noncomputable def compOk (env:Env) (gns:List Str) (scope:Scope) (tn:List Str) (cs:List (Nat × Str)):Bool :=
  scope.kind == .function && decide (scope.names.map (·.1)).Nodup && decide (tn++cs.map (·.2)).Nodup && (cs.all fun p=>gns[p.1]? == some p.2 && scope.names.contains (p.2,.free)) &&
  (scope.names.all fun x=>x.2 != .free || ((env.cells.lookup x.1).isSome && (env.kindOf x.1 == some .cell || env.kindOf x.1 == some .free))) &&
  (tn.all fun x=>scope.names.contains (x,.local) || scope.names.contains (x,.cell))
theorem lookup_of_nodup {α:Type}:∀ {l:List (Str × α)} {x:Str} {k:α},(l.map (·.1)).Nodup→(x,k)∈l→l.lookup x=some k
  | (n,k')::r,x,k,hn,h=>by
    simp only [List.map_cons,List.nodup_cons] at hn
    rw [List.lookup_cons]
    rcases List.mem_cons.mp h with e | h
    · injection e with a b;subst a;subst b;simp
    · have hb:(x == n)=false:=beq_eq_false_iff_ne.mpr fun e=>hn.1 (e ▸ List.mem_map.mpr ⟨_,h,rfl⟩)
      rw [hb];exact lookup_of_nodup hn.2 h
theorem cellsFrom_app:∀ (l:List (Str × NameKind)) (k:Nat) (acc:List (Str × Addr)),cellsFrom k l acc=cellsFrom k l []++acc
  | [],_,_=>rfl
  | (n,kd)::r,k,acc=>by
    unfold cellsFrom
    split
    · rw [cellsFrom_app r _ ((n,k)::acc),cellsFrom_app r _ [(n,k)],List.append_assoc];rfl
    · exact cellsFrom_app r _ acc
theorem lookup_relabel {env:Env} {scope:Scope} {x:Str} {k:NameKind} (h:scope.names.lookup x=some k):(relabel scope env).names.lookup x=some (if (k == .free && env.scope.kind == .function && env.kindOf x == some .cell)=true then .cell else k):=by
  unfold relabel
  dsimp only
  generalize scope.names=l at h
  induction l with
  | nil=>cases h
  | cons p r ih =>
    obtain ⟨n,k'⟩:=p
    simp only [List.map_cons]
    by_cases hx:x=n
    · subst hx
      simp only [List.lookup_cons,beq_self_eq_true] at h
      cases h
      by_cases hc:(k == .free && env.scope.kind == .function && env.kindOf x == some .cell)=true
      · rw [if_pos hc,if_pos hc];simp
      · rw [if_neg hc,if_neg hc];simp
    · have hb:(x == n)=false:=beq_eq_false_iff_ne.mpr hx
      simp only [List.lookup_cons,hb] at h
      have:=ih h
      by_cases hc:(k' == .free && env.scope.kind == .function && env.kindOf n == some .cell)=true
      · rw [if_pos hc];simp only [List.lookup_cons,hb];exact this
      · rw [if_neg hc];simp only [List.lookup_cons,hb];exact this
noncomputable def capD (ρ:List (Option D)) (cs:List (Nat × Str)):List (Option D):=cs.map fun p=>(ρ[p.1]?).join
section
variable {g:G} {ρ:List (Option D)} {μ:List (Addr × Mut)} {S:List Addr} {s:Shared}
theorem St.forget {ρ':List (Option D)} (y:St g ρ μ s) (h:∀ (i:Nat) d,ρ'[i]?=some (some d)→ρ[i]?=some (some d)):St g ρ' μ s :=
  ⟨y.inv,y.envOk,fun i x d h1 h2=>y.vars i x d h1 (h i d h2),y.muts,y.mX,y.apart,y.nd⟩
noncomputable def cOwn (scope:Scope) (L:Addr):List Addr:=L::(cellsFrom (L+1) scope.names []).map (·.2)
theorem St.comp {scope : Scope} {tn : List Str} {cs : List (Nat × Str)} {s₃ : Shared} {W : List Addr} (ok : compOk g.env g.ns scope tn cs = true) (y : St g ρ μ s)
    (e:Ext g.C [] s { s₃ with heap:=pushCells (s₃.heap.push { cls:=.type "dict",data:=.dict #[] }) scope.names }) (hle:∀ b o,s.heap.get? b=some o→b < s₃.heap.objs.size)
    (hW:∀ b∈W,s.heap.get? b=none∧∃ o,s₃.heap.get? b=some o) :
    St { g with X:=W++(cOwn scope s₃.heap.objs.size++g.X),env:=cEnv g.env scope s₃.heap.objs.size,ns:=tn++cs.map (·.2) }
      (tn.map (fun _=>none)++capD ρ cs) μ { s₃ with heap:=pushCells (s₃.heap.push { cls:=.type "dict",data:=.dict #[] }) scope.names }:=by
  simp only [compOk,Bool.and_eq_true,decide_eq_true_eq,beq_iff_eq,List.all_eq_true,List.contains_iff_mem,Bool.or_eq_true,bne_iff_ne,ne_eq] at ok
  obtain ⟨⟨⟨⟨⟨k1,k2⟩,k3⟩,k4⟩,k5⟩,k6⟩:=ok
  generalize hH:s₃.heap.push { cls:=.type "dict",data:=.dict #[] }=H at e ⊢
  have hHs:H.objs.size=s₃.heap.objs.size+1:=by rw [← hH,Heap.size_push]
  have hk:∀ b o,s₃.heap.get? b=some o→(pushCells H scope.names).get? b=some o:=fun b o q=>pushCells_keeps _ _ b o (hH ▸ Heap.get?_push_of_some _ q)
  have hns:(pushCells H scope.names).Ns s₃.heap.objs.size (fun _=>none):=(hH ▸ Heap.Ns.new s₃.heap (.type "dict")).keeps (pushCells_keeps _ _)
  generalize hL:s₃.heap.objs.size=L at *
  have fresh:∀ c:Addr,@LE.le Nat _ L c→s.heap.get? c=none:=fun c hc=>by
    cases q:s.heap.get? c with
    | none=>rfl
    | some o=>exact absurd (hle c o q) (Nat.not_lt.mpr hc)
  have own:∀ n c,(n,c)∈cellsFrom (L+1) scope.names []→@LE.le Nat _ (L+1) c∧(n,NameKind.cell)∈scope.names∧(pushCells H scope.names).IsCell c none:=fun n c hm=>by
    rw [← hHs] at hm
    rcases cellsFrom_cases _ _ _ hm with q | q
    · (first | obtain rfl:=q.vI | obtain ⟨_,rfl⟩:=q.iI | obtain ⟨_,rfl⟩:=q.sI | obtain ⟨_,rfl⟩:=q.bI | obtain rfl:=q.nI | cases q)
    · rw [hHs] at q;exact q
  have cc:∀ n c,(n,c)∈compCells g.env scope L→(g.env.cells.lookup n=some c∧(n,NameKind.free)∈scope.names)∨(n,c)∈cellsFrom (L+1) scope.names []:=by
    intro n c hm
    unfold compCells at hm
    rw [cellsFrom_app] at hm
    rcases List.mem_append.mp hm with q | q
    · exact .inr q
    · rcases closL_mem _ _ q with q | q
      · (first | obtain rfl:=q.vI | obtain ⟨_,rfl⟩:=q.iI | obtain ⟨_,rfl⟩:=q.sI | obtain ⟨_,rfl⟩:=q.bI | obtain rfl:=q.nI | cases q)
      · exact .inl q
  have apart:(compCells g.env scope L).Pairwise fun a b=>a.2≠b.2:=by
    refine cellsFrom_apart _ _ _ (fun x c hx=>?_) (closL_apart y.envOk.inj _ _ k2 (fun _ _ h=>nomatch h) List.Pairwise.nil)
    rcases closL_mem _ _ hx with q | q
    · (first | obtain rfl:=q.vI | obtain ⟨_,rfl⟩:=q.iI | obtain ⟨_,rfl⟩:=q.sI | obtain ⟨_,rfl⟩:=q.bI | obtain rfl:=q.nI | cases q)
    · obtain ⟨_,_,v,o,ho,_⟩:=y.envOk.cel x c q.1
      exact Nat.lt_succ_of_lt (hle c o ho)
  have kOwn:∀ a∈cOwn scope L,s.heap.get? a=none∧∃ o,(pushCells H scope.names).get? a=some o:=fun a ha=>by
    rcases List.mem_cons.mp ha with rfl | q
    · obtain ⟨o,_,_,h,_⟩:=hns
      exact ⟨fresh _ (Nat.le_refl _),o,h⟩
    · obtain ⟨⟨n,c⟩,hc,rfl⟩:=List.mem_map.mp q
      obtain ⟨z1,_,o,z2,_⟩:=own n c hc
      exact ⟨fresh c (Nat.le_of_succ_le z1),o,z2⟩
  have new:∀ a∈W++(cOwn scope L++g.X),(s.heap.get? a=none∧∃ o,(pushCells H scope.names).get? a=some o)∨a∈g.X:=by
    intro a ha
    rcases List.mem_append.mp ha with q | q
    · obtain ⟨h1,o,h2⟩:=hW a q
      exact .inl ⟨h1,o,hk _ _ h2⟩
    · rcases List.mem_append.mp q with q | q
      · exact .inl (kOwn a q)
      · exact .inr q
  have inX:∀ a∈g.X,a∈W++(cOwn scope L++g.X):=fun a ha=>List.mem_append_right _ (List.mem_append_right _ ha)
  have ownX:∀ a∈cOwn scope L,a∈W++(cOwn scope L++g.X):=fun a ha=>List.mem_append_right _ (List.mem_append_left _ ha)
  have nP:∀ a,s.heap.get? a=none→a∉g.C.P:=fun a h hP=>by
    obtain ⟨o,q⟩:=y.inv.occ a (y.inv.pin a hP)
    rw [h] at q;(first | obtain rfl:=q.vI | obtain ⟨_,rfl⟩:=q.iI | obtain ⟨_,rfl⟩:=q.sI | obtain ⟨_,rfl⟩:=q.bI | obtain rfl:=q.nI | cases q)
  have y':=y.ext e
  have up:∀ b o,b∉g.X→s.heap.get? b=some o→b∉W++(cOwn scope L++g.X)∧(pushCells H scope.names).get? b=some o:=fun b o hb q =>
    ⟨fun z=>(new b z).elim (fun z=>by rw [z.1] at q;(first | obtain rfl:=q.vI | obtain ⟨_,rfl⟩:=q.iI | obtain ⟨_,rfl⟩:=q.sI | obtain ⟨_,rfl⟩:=q.bI | obtain rfl:=q.nI | cases q)) hb,e.keep b o (fun h=>nomatch h) (fun z=>hb (y.inv.pin b z)) q⟩
  have clo:∀ x c,(cEnv g.env scope L).cells.lookup x=some c→(g.env.cells.lookup x=some c∧(x,NameKind.free)∈scope.names)∨(x,c)∈cellsFrom (L+1) scope.names []:=fun x c h=>cc x c (mem_of_lookup h)
  have kd:∀ x k,(x,k)∈scope.names→(cEnv g.env scope L).kindOf x=some (if (k == .free && g.env.scope.kind == .function && g.env.kindOf x == some .cell)=true then .cell else k):=fun x k h=>lookup_relabel (lookup_of_nodup k2 h)
  refine ⟨⟨y.inv.base,y'.inv.keep,y'.inv.tab,y'.inv.os,y'.inv.gens,fun p hp=>inX _ (y.inv.pin p hp),fun a ha hP=>?_,fun a ha=>?_⟩,
    ⟨k1,y.envOk.glob,y.envOk.bi,⟨_,hns⟩,ownX _ (.head _),nP _ (fresh _ (Nat.le_refl _)),fun x c h=>?_,fun x c hx h=>?_,fun x x' c h h'=>name_of_addr apart (mem_of_lookup h) (mem_of_lookup h')⟩,
    fun i x d h1 h2=>?_,fun p hp=>?_,fun a ha=>⟨inX _ (y.mX a ha).1,(y.mX a ha).2.1,fun q=>?_,fun x c h q=>?_⟩,y.apart,k3⟩
  · rcases new a ha with q | q
    · exact y.inv.hb_none q.1 hP
    · exact y.inv.new a q hP
  · rcases new a ha with q | q
    · exact q.2
    · exact y'.inv.occ a q
  · rcases clo x c h with q | q
    · obtain ⟨a,b,v,o,ho,hd⟩:=y.envOk.cel x c q.1
      exact ⟨a,Nat.ne_of_lt (hle c o ho),v,o,e.keep c o (fun h=>nomatch h) a ho,hd⟩
    · obtain ⟨z1,_,z2⟩:=own x c q
      exact ⟨nP c (fresh c (Nat.le_of_succ_le z1)),Nat.ne_of_gt z1,_,z2⟩
  · rcases clo x c h with q | q
    · have hx':=kd x .free q.2
      rw [hx] at hx'
      split at hx'
      · rename_i hc
        simp only [Bool.and_eq_true,beq_iff_eq] at hc
        exact inX _ (y.envOk.own x c hc.2 q.1)
      · cases hx'
    · exact ownX _ (.tail _ (List.mem_map.mpr ⟨_,q,rfl⟩))
  · by_cases hi:i < tn.length
    · rw [List.getElem?_append_left (by rw [List.length_map];exact hi),List.getElem?_map] at h2
      cases hz:tn[i]? with
      | none=>rw [hz] at h2;cases h2
      | some z=>rw [hz] at h2;cases h2
    · rw [List.getElem?_append_right (by rw [List.length_map];exact Z.l191 hi),List.length_map] at h2
      rw [List.getElem?_append_right (by exact Z.l191 hi)] at h1
      simp only [capD,List.getElem?_map,Option.map_eq_some_iff] at h1 h2
      obtain ⟨p,hp,rfl⟩:=h1
      obtain ⟨p',hp',h2⟩:=h2
      rw [hp] at hp';cases hp'
      obtain ⟨q1,q2⟩:=k4 p (List.mem_of_getElem? hp)
      have h2':ρ[p.1]?=some (some d):=by
        cases z:ρ[p.1]? with
        | none=>rw [z] at h2;cases h2
        | some w=>rw [z] at h2;cases w <;> simp_all
      obtain ⟨v,b,r⟩:=y.vars p.1 p.2 d q1 h2'
      have hkx:=(k5 _ q2).resolve_left (fun h=>h rfl)
      have hlk:∀ c,g.env.cells.lookup p.2=some c→(cEnv g.env scope L).cells.lookup p.2=some c:=fun c hc=>by
        show (cellsFrom (L+1) scope.names (closL g.env.cells scope.names [])).lookup p.2=some c
        rw [cellsFrom_old _ _ _ (fun h=>by
          have a1:=lookup_of_nodup k2 h
          have a2:=lookup_of_nodup k2 q2
          rw [a1] at a2;cases a2)]
        exact closL_lookup hc _ _ (.inl q2)
      have hkd:=kd p.2 .free q2
      rcases b with ⟨hk',m,hn,hm⟩ | ⟨hk',c,hc,t⟩
      · rcases hkx.2 with z | z
        · rw [z] at hk';cases hk'
        · rw [z] at hk';cases hk'
      · refine ⟨v,.inr ⟨?_,c,hlk c hc,?_⟩,r.mono up⟩
        · show (cEnv g.env scope L).kindOf p.2=_∨(cEnv g.env scope L).kindOf p.2=_
          rw [hkd]
          split
          · exact .inl rfl
          · exact .inr rfl
        · obtain ⟨o,ho,hd⟩:=t
          exact ⟨o,e.keep c o (fun h=>nomatch h) (y.envOk.cel _ c hc).1 ho,hd⟩
  · have m:=y.muts p hp
    have k:∀ b o,b∉g.C.P→s.heap.get? b=some o→(pushCells H scope.names).get? b=some o:=fun b o hb q=>e.keep b o (fun h=>nomatch h) hb q
    cases hm:p.2 with
    | lst ds=>rw [hm] at m;obtain ⟨vs,n,z,r⟩:=m;exact ⟨vs,n,k _ _ (y.mX _ (mem_doms hp)).2.1 z,r.mono up⟩
    | acc cls dx ds =>
      rw [hm] at m;obtain ⟨⟨vs,n,z,r⟩,hne,hsh,t,u,n',z2⟩:=m
      exact ⟨⟨vs,n,k _ _ (y.mX _ (mem_doms hp)).2.1 z,r.mono up⟩,hne,hsh,t,u,n',k _ _ (y.mX _ (more_doms hp (by rw [hm];exact .head _))).2.1 z2⟩
    | inst cls dx =>
      rw [hm] at m;obtain ⟨⟨sl,z⟩,hne,hsh,t,v,n,z2⟩:=m
      exact ⟨⟨sl,k _ _ (y.mX _ (mem_doms hp)).2.1 z⟩,hne,hsh,t,v,n,k _ _ (y.mX _ (more_doms hp (by rw [hm];exact .head _))).2.1 z2⟩
    | ba b=>rw [hm] at m;obtain ⟨n,z⟩:=m;exact ⟨n,k _ _ (y.mX _ (mem_doms hp)).2.1 z⟩
    | obj o dx od=>rw [hm] at m;exact ⟨k _ _ (y.mX _ (mem_doms hp)).2.1 m.1,m.2.1,k _ _ (y.mX _ (more_doms hp (by rw [hm];exact .head _))).2.1 m.2.2⟩
  · obtain ⟨o,z⟩:=y.inv.occ a (y.mX a ha).1
    have:s.heap.get? L=none:=fresh L (Nat.le_refl _)
    have q':a=L:=q
    rw [q',this] at z;cases z
  · rcases clo x c h with z | z
    · exact (y.mX a ha).2.2.2 x c z.1 q
    · obtain ⟨o,w⟩:=y.inv.occ a (y.mX a ha).1
      rw [q,fresh c (Nat.le_of_succ_le (own x c z).1)] at w;cases w
end
end Mine
end
section
open PySem PySem.Calls PySem.W PyProof.Rows
namespace Mine
theorem Ext.fresh {C:Cx} {S:List Addr} {s s₁ s₂:Shared} (a:Ext C [] s s₁) (b:Ext C S s₁ s₂) (h:∀ x∈S,s.heap.get? x=none):Ext C [] s s₂ :=
  (a.wider (S':=S) fun _ h=>nomatch h).trans b |>.wider fun x hx=>.inr (h x hx)
section
variable {g:G} {ρ:List (Option D)} {μ:List (Addr × Mut)} {S:List Addr} {s:Shared}
theorem St.touch {a : Addr} {h' : Heap} {tk : Nat} (y : St g ρ μ s) (hs : Heap.SameBut a s.heap h') (haX : a ∈ g.X) (haP : a ∉ g.C.P) (haS : a ∉ doms μ) (hL : a ≠ g.env.locals) (hC : ∀ x c, g.env.cells.lookup x = some c → a ≠ c)
    (ho:∀ o,s.heap.get? a=some o→∃ o',h'.get? a=some o'):Ext g.C [a] s { s with heap:=h',toks:=tk }∧St g ρ μ { s with heap:=h',toks:=tk }:=by
  have hn:=y.inv.new a haX haP
  have e:Ext g.C [a] s { s with heap:=h',toks:=tk }:=Ext.same hs (.head _) hn ho
  have up:∀ b o,b∉g.X→s.heap.get? b=some o→b∉g.X∧h'.get? b=some o:=fun b o hb q=>⟨hb,(hs.2 b (fun z=>hb (z ▸ haX))).trans q⟩
  refine ⟨e,⟨y.inv.ext e (fun b hb=>by rw [List.mem_singleton.mp hb];exact hn),y.envOk.ext e (fun q=>hL (List.mem_singleton.mp q).symm) (fun x c hc q=>hC x c hc (List.mem_singleton.mp q).symm),fun j x d' hj hr=>?_,fun p hp=>(y.muts p hp).mono (fun o q=>(hs.2 _ (fun z=>haS (z ▸ mem_doms hp))).trans q)
    (fun b hb o q=>(hs.2 _ (fun z=>haS (z ▸ more_doms hp hb))).trans q) (fun b o hb q=>(up b o hb q).2),y.mX,y.apart,y.nd⟩⟩
  obtain ⟨w,b,q⟩:=y.vars j x d' hj hr
  exact ⟨w,b.ext e y.envOk (fun q=>hL (List.mem_singleton.mp q).symm) (fun x c hc q=>hC x c hc (List.mem_singleton.mp q).symm),q.mono up⟩
noncomputable def EvIfs (g:G) (ρ:List (Option D)) (μ:List (Addr × Mut)) (ifs:List Expr) (b:Bool):Prop:=∀ s,St g ρ μ s→Dn g.C g.A [] s (forIn ifs true fun c r=>if r=true then do let ok ← isTrue c g.env (eval c g.env);pure (ForInStep.yield ok) else pure (ForInStep.yield r)) fun v _=>v=b
theorem EvIfs.nil:EvIfs g ρ μ [] true:=fun s y=>wpAny_tests_nil ⟨.refl ..,rfl⟩
theorem EvIfs.one {c:Expr} {b:Bool} (h:EvT g ρ μ c b):EvIfs g ρ μ [c] b:=fun s y=>wpAny_tests_one (h.wp y fun s' y' e=>⟨e,rfl⟩)
noncomputable abbrev cG (g:G) (scope:Scope) (x:Str) (cs:List (Nat × Str)) (X':List Addr) (L:Addr):G:={ g with X:=X',env:=cEnv g.env scope L,ns:=[x]++cs.map (·.2) }
theorem comp_core {α : Type} {elt iter : Expr} {x : Str} {px : Pos} {ifs : List Expr} {scope : Scope} {pos : Pos} {use : Option (Value → Sem Unit)} {d : D} (mk : α → D) (xs : List α) (p : α → Bool) (f : α → D) (cs : List (Nat × Str))
    (R:Room g.A 0) (ok:compOk g.env g.ns scope [x] cs=true) (hi:Ev g ρ μ iter d) (src:Src d (xs.map mk)) (hlen:xs.length≤sizeLine)
    (body:∀ X' L,∀ a∈xs,EvIfs (cG g scope x cs X' L) (some (mk a)::capD ρ cs) μ ifs (p a)∧(p a=true→Ev (cG g scope x cs X' L) (some (mk a)::capD ρ cs) μ elt (f a)))
    {Q:Value→Shared→Prop} {E:Value→Shared→Prop} (y:St g ρ μ s)
    (hQ:∀ L Dd t,St { g with X:=L::g.X } ρ μ t→Ext g.C [] s t→s.heap.get? Dd=none→(∃ m,t.heap.Ns L m)→s.heap.get? L=none→(∃ vs nn,t.heap.get? Dd=some (lstO vs nn)∧RepL (Dd::L::g.X) t.heap vs ((xs.filter p).map f))→Dd∉L::g.X→compPost g.C.M g.A E use Q (.ref Dd) L (.ok .next) t)
    (hs:∀ x,foldedSetIterable iter g.env x=pure x:=by intro _;rfl) :
    wpAny g.C.M g.A (comprehension (.ListComp elt [⟨.Name x px,iter,ifs,0⟩] scope pos) scope g.env (firstIterPos [⟨.Name x px,iter,ifs,0⟩] pos) (newList []) false (eval iter g.env) use) Q E s:=by
  have ok':=ok
  simp only [compOk,Bool.and_eq_true,decide_eq_true_eq,beq_iff_eq,List.all_eq_true,List.contains_iff_mem,Bool.or_eq_true,bne_iff_ne,ne_eq] at ok'
  obtain ⟨⟨⟨⟨⟨k1,k2⟩,k3⟩,k4⟩,k5⟩,k6⟩:=ok'
  have hclos:=closureFor_is (scope:=scope) (env:=g.env) fun z hz hf=>((k5 z hz).resolve_left fun h=>h hf).1
  refine wpAny_comprehension_free (g:=⟨.Name x px,iter,ifs,0⟩) (gs:=[]) (use:=use) rfl hs hclos k1 (fun z hz hl=>lookup_of_nodup k2 (hl ▸ hz)) ?_
  refine hi.wp y fun v s₁ y₁ r₁ e₁=>src g.C g.A g.X s₁ v _ _ y₁.inv R.h r₁ fun I fp wr P W s₂ e₂ it w0=>?_
  refine wpAny_newObj_type ?_ (by show (0:Nat)≤sizeLine;exact Nat.zero_le _)
  refine newCompEnv ?_
  generalize hD:s₂.heap.objs.size=Dd
  generalize hH3:s₂.heap.push { cls:=.type "list",data:=.seq ([]:List Value).toArray }=H3
  have hH3s:H3.objs.size=Dd+1:=by rw [← hH3,Heap.size_push,hD]
  show codeAny _ _ (.compStart _ 0 (.ref I) (.ref Dd) (cEnv g.env scope H3.objs.size)) _ { s₂ with heap:=pushCells (H3.push { cls:=.type "dict",data:=.dict #[] }) scope.names }
  have lt1:∀ b o,s₁.heap.get? b=some o→@LT.lt Nat _ b Dd:=fun b o q=>by
    obtain ⟨o',q'⟩:=e₂.occ b o q
    rw [← hD];exact Heap.lt_size q'
  have e₃:Ext g.C [] s₂ { s₂ with heap:=pushCells (H3.push { cls:=.type "dict",data:=.dict #[] }) scope.names } :=
    .up fun b o q=>pushCells_keeps _ _ b o (Heap.get?_push_of_some _ (hH3 ▸ Heap.get?_push_of_some _ q))
  have hDget:H3.get? Dd=some (lstO [] 0):=by rw [← hH3,← hD];exact Heap.get?_push_size _ rfl
  have hDn:s₁.heap.get? Dd=none:=by
    cases q:s₁.heap.get? Dd with
    | none=>rfl
    | some o=>exact absurd (lt1 Dd o q) (Nat.lt_irrefl _)
  have hwlt:∀ b∈wr,s₁.heap.get? b=none∧∃ o,H3.get? b=some o:=fun b hb=>⟨it.new b hb,by
    obtain ⟨o,q⟩:=it.occ _ _ w0 b hb
    exact ⟨o,hH3 ▸ Heap.get?_push_of_some _ q⟩⟩
  have y₃:=y₁.comp (s₃:={ s₂ with heap:=H3 }) (W:=wr++[Dd]) ok (e₂.trans e₃) (fun b o q=>by show @LT.lt Nat _ b H3.objs.size;rw [hH3s];exact Nat.lt_succ_of_lt (lt1 b o q)) (fun b hb=>by
    rcases List.mem_append.mp hb with q | q
    · exact hwlt b q
    · rw [List.mem_singleton.mp q];exact ⟨hDn,_,hDget⟩)
  generalize hLe:H3.objs.size=L at y₃ ⊢
  rw [List.append_assoc] at y₃
  dsimp only at y₃
  generalize hst:({ s₂ with heap:=pushCells (H3.push { cls:=.type "dict",data:=.dict #[] }) scope.names }:Shared)=s₄ at e₃ y₃ ⊢
  have e₁₄:Ext g.C [] s₁ s₄:=e₂.trans e₃
  have y₄:St (cG g scope x cs (wr++([Dd]++(cOwn scope L++g.X))) L) (none::capD ρ cs) μ s₄:=y₃
  have hacc:s₄.heap.get? Dd=some (lstO [] 0):=by rw [← hst];exact pushCells_keeps _ _ _ _ (Heap.get?_push_of_some _ hDget)
  have hL1:@LT.lt Nat _ Dd L:=by rw [← hLe,hH3s];exact Nat.lt_succ_self _
  have freshOf:∀ a:Addr,@LE.le Nat _ Dd a→s₁.heap.get? a=none:=fun a ha=>by
    cases q:s₁.heap.get? a with
    | none=>rfl
    | some o=>exact absurd (lt1 a o q) (Nat.not_lt.mpr ha)
  have ownge:∀ a∈cOwn scope L,@LE.le Nat _ L a:=fun a ha=>by
    rcases List.mem_cons.mp ha with rfl | q
    · exact Nat.le_refl _
    · obtain ⟨⟨n,c⟩,hc,rfl⟩:=List.mem_map.mp q
      have hs1:(H3.push { cls:=.type "dict",data:=.dict #[] }).objs.size=L+1:=by rw [Heap.size_push,hLe]
      rw [← hs1] at hc
      rcases cellsFrom_cases _ _ _ hc with q | q
      · (first | obtain rfl:=q.vI | obtain ⟨_,rfl⟩:=q.iI | obtain ⟨_,rfl⟩:=q.sI | obtain ⟨_,rfl⟩:=q.bI | obtain rfl:=q.nI | cases q)
      · have:=q.1;rw [hs1] at this;exact Nat.le_of_succ_le this
  have ownFresh:∀ a∈cOwn scope L,s₁.heap.get? a=none:=fun a ha=>freshOf a (Nat.le_trans (Nat.le_of_lt hL1) (ownge a ha))
  have hDown:Dd∉cOwn scope L:=fun q=>absurd (ownge Dd q) (Nat.not_le.mpr hL1)
  have notX:∀ a,s₁.heap.get? a=none→a∉g.X:=fun a h q=>by
    obtain ⟨o,z⟩:=y₁.inv.occ a q
    rw [h] at z;cases z
  have wrlt:∀ a∈wr,@LT.lt Nat _ a Dd:=fun a ha=>by
    obtain ⟨o,q⟩:=it.occ _ _ w0 a ha
    rw [← hD];exact Heap.lt_size q
  have wrOut:∀ a∈wr,a∉[Dd]++(cOwn scope L++g.X):=fun a ha q=>by
    rcases List.mem_append.mp q with q | q
    · rw [List.mem_singleton.mp q] at ha;exact Nat.lt_irrefl _ (wrlt Dd ha)
    · rcases List.mem_append.mp q with q | q
      · exact Nat.lt_irrefl _ (Nat.lt_of_lt_of_le (Nat.lt_trans (wrlt a ha) hL1) (ownge a q))
      · exact notX a (it.new a ha) q
  have nP:∀ a,s₁.heap.get? a=none→a∉g.C.P:=fun a h q=>notX a h (y₁.inv.pin a q)
  have hwn:∀ a∈wr,g.C.hb.get? a=none:=fun a ha=>y₁.inv.hb_none (it.new a ha) (nP a (it.new a ha))
  have hDb:g.C.hb.get? Dd=none:=y₁.inv.hb_none hDn (nP Dd hDn)
  have cellsOut:∀ z c,(cEnv g.env scope L).cells.lookup z=some c→c∉wr∧c≠Dd:=fun z c hc=>by
    have hm:=mem_of_lookup hc
    unfold cEnv compEnvC compCells at hm
    dsimp only at hm
    rw [cellsFrom_app] at hm
    rcases List.mem_append.mp hm with q | q
    · have hc':c∈cOwn scope L:=.tail _ (List.mem_map.mpr ⟨_,q,rfl⟩)
      exact ⟨fun w=>wrOut c w (List.mem_append_right _ (List.mem_append_left _ hc')),fun e=>hDown (e ▸ hc')⟩
    · rcases closL_mem _ _ q with q | q
      · (first | obtain rfl:=q.vI | obtain ⟨_,rfl⟩:=q.iI | obtain ⟨_,rfl⟩:=q.sI | obtain ⟨_,rfl⟩:=q.bI | obtain rfl:=q.nI | cases q)
      · obtain ⟨_,_,w,o,ho,_⟩:=y₁.envOk.cel z c q.1
        exact ⟨(fun h=>by rw [it.new c h] at ho;cases ho),(fun h=>by rw [h,hDn] at ho;cases ho)⟩
  have hwall:∀ a∈wr,a∉[Dd]++(cOwn scope L++g.X)∧a∉g.C.P∧g.C.hb.get? a=none∧∀ z c,(cEnv g.env scope L).cells.lookup z=some c→a≠c:=fun a ha =>
    ⟨wrOut a ha,nP a (it.new a ha),hwn a ha,fun z c hc e=>(cellsOut z c hc).1 (e ▸ ha)⟩
  have hμX:∀ a∈doms μ,a∈[Dd]++(cOwn scope L++g.X):=fun a ha=>List.mem_append_right _ (List.mem_append_right _ (y.mX a ha).1)
  have hPX:∀ p∈g.C.P,p∈[Dd]++(cOwn scope L++g.X):=fun p hp=>List.mem_append_right _ (List.mem_append_right _ (y.inv.pin p hp))
  have hDμ:Dd∉doms μ:=fun q=>notX Dd hDn (y.mX _ q).1
  have env':∀ {ρ' t},St (cG g scope x cs (wr++([Dd]++(cOwn scope L++g.X))) L) ρ' μ t→EnvOk g.C ([Dd]++(cOwn scope L++g.X)) t.heap (cEnv g.env scope L):=fun yt =>
    ⟨yt.envOk.kind,yt.envOk.glob,yt.envOk.bi,yt.envOk.ns,List.mem_append_right _ (List.mem_append_left _ (.head _)),yt.envOk.lP,yt.envOk.cel,fun z c h1 h2 =>
      (List.mem_append.mp (yt.envOk.own z c h1 h2)).elim (fun q=>absurd q (cellsOut z c h2).1) id,yt.envOk.inj⟩
  have stored:Stored (cG g scope x cs (wr++([Dd]++(cOwn scope L++g.X))) L) (cOwn scope L) x:=by
    rcases k6 x (.head _) with q | q
    · exact .inl ⟨lookup_relabel (lookup_of_nodup k2 q),.head _⟩
    · have hk:=lookup_relabel (env:=g.env) (lookup_of_nodup k2 q)
      right
      refine ⟨hk,?_⟩
      show ∃ c,(cellsFrom (L+1) scope.names (closL g.env.cells scope.names [])).lookup x=some c∧c∈cOwn scope L
      obtain ⟨c,hc⟩:=Option.isSome_iff_exists.mp (cellsFrom_some (x:=x) scope.names (L+1) [] (.inl (lookup_of_nodup k2 q)))
      have hm:=mem_of_lookup hc
      refine ⟨c,?_,.tail _ (List.mem_map.mpr ⟨_,hm,rfl⟩)⟩
      rw [cellsFrom_app,List.lookup_append,hc]
      rfl
  have frame:∀ i (t t':Shared),Ext g.C (cOwn scope L++[Dd]) t t'→W i t.heap→W i t'.heap:=fun i t t' e w=>it.walk.frame i _ _ w fun b hb o q=>by
    refine e.keep b o (fun z=>?_) (fun z=>?_) q
    · rcases it.fpX b hb with hb' | ⟨hb',o',ho'⟩
      · exact wrOut b hb' ((List.mem_append.mp z).elim (fun z=>List.mem_append_right _ (List.mem_append_left _ z)) fun z=>List.mem_append_left _ z)
      · rcases List.mem_append.mp z with z | z
        · rw [ownFresh b z] at ho';cases ho'
        · rw [List.mem_singleton.mp z,hDn] at ho';cases ho'
    · rcases it.fpX b hb with hb' | ⟨hb',o',ho'⟩
      · exact nP b (it.new b hb') z
      · exact hb' (y₁.inv.pin b z)
  have loop:codeAny g.C.M g.A (.compLoop (.ListComp elt [⟨.Name x px,iter,ifs,0⟩] scope pos) 0 (.ref I) (.ref Dd) (cEnv g.env scope L)) (compPost g.C.M g.A E use Q (.ref Dd) L) s₄:=by
    refine codeAny_compLoop_tests (fun n t=>∃ i vs nn,i≤xs.length∧n=xs.length+1 - i∧W i t.heap∧St (cG g scope x cs (wr++([Dd]++(cOwn scope L++g.X))) L) (none::capD ρ cs) μ t ∧
      t.heap.get? Dd=some (lstO vs nn)∧RepL (wr++([Dd]++(cOwn scope L++g.X))) t.heap vs (((xs.take i).filter p).map f)∧Ext g.C [] s₁ t) ?_ (xs.length+1) ⟨0,[],0,Nat.zero_le _,rfl,hst ▸ (it.walk.frame 0 _ _ w0 fun b hb o q=>pushCells_keeps _ _ b o (Heap.get?_push_of_some _ (hH3 ▸ Heap.get?_push_of_some _ q))),y₄,hacc,.nil,e₁₄⟩
    rintro n t ⟨i,vs,nn,hle,rfl,hw,yt,hat,hrep,et⟩
    have hlm:(xs.map mk).length=xs.length:=List.length_map ..
    have hDk:∀ {h':Heap},(∀ b o,b∉wr→t.heap.get? b=some o→h'.get? b=some o)→h'.get? Dd=some (lstO vs nn):=fun hk=>hk Dd _ (fun q=>wrOut Dd q (List.mem_append_left _ (.head _))) hat
    by_cases hlt:i < xs.length
    · refine it.walk.item i _ _ _ (by rw [hlm];exact hlt) hw fun v h' tk hP hw' hk=>?_
      have et':Ext g.C [] s₁ { t with heap:=h',toks:=tk }:=et.iter hk it.new hwn
      have y':St (cG g scope x cs (wr++([Dd]++(cOwn scope L++g.X))) L) (none::capD ρ cs) μ { t with heap:=h',toks:=tk } :=
        St.iter (g:=cG g scope x cs ([Dd]++(cOwn scope L++g.X)) L) yt hk (fun _ h=>h) (fun _ h=>List.mem_append_right _ h) (fun a ha _=>it.occ _ _ hw' a ha) hwall hμX (env' yt) hPX
      have hrep':RepL (wr++([Dd]++(cOwn scope L++g.X))) h' vs (((xs.take i).filter p).map f):=hrep.mono fun b o hb q=>⟨hb,hk b o (fun z=>hb (List.mem_append_left _ z)) q⟩
      obtain ⟨a',ha',ra'⟩:=it.item i v h' (fun b o hb q=>et'.keep b o (fun h=>nomatch h) (fun z=>hb (y₁.inv.pin b z)) q) hP
      obtain ⟨a,ha,rfl⟩:∃ a,xs[i]?=some a∧mk a=a':=by
        rw [List.getElem?_map] at ha'
        cases z:xs[i]? with
        | none=>rw [z] at ha';cases ha'
        | some a=>rw [z] at ha';exact ⟨a,rfl,Option.some.inj ha'⟩
      have ra:Rep (wr++([Dd]++(cOwn scope L++g.X))) h' v (mk a):=by
        obtain ⟨d',hd',rr⟩:=it.item i v s₁.heap (fun b o _ q=>q) hP
        rw [ha'] at hd';cases hd'
        refine rr.mono fun b o hb q=>⟨fun z=>?_,et'.keep b o (fun h=>nomatch h) (fun z=>hb (y₁.inv.pin b z)) q⟩
        rcases List.mem_append.mp z with z | z
        · rw [it.new b z] at q;(first | obtain rfl:=q.vI | obtain ⟨_,rfl⟩:=q.iI | obtain ⟨_,rfl⟩:=q.sI | obtain ⟨_,rfl⟩:=q.bI | obtain rfl:=q.nI | cases q)
        · rcases List.mem_append.mp z with z | z
          · rw [List.mem_singleton.mp z,hDn] at q;(first | obtain rfl:=q.vI | obtain ⟨_,rfl⟩:=q.iI | obtain ⟨_,rfl⟩:=q.sI | obtain ⟨_,rfl⟩:=q.bI | obtain rfl:=q.nI | cases q)
          · rcases List.mem_append.mp z with z | z
            · rw [ownFresh b z] at q;(first | obtain rfl:=q.vI | obtain ⟨_,rfl⟩:=q.iI | obtain ⟨_,rfl⟩:=q.sI | obtain ⟨_,rfl⟩:=q.bI | obtain rfl:=q.nI | cases q)
            · exact hb z
      refine (asg_name (g:=cG g scope x cs (wr++([Dd]++(cOwn scope L++g.X))) L) (p:=px) 0 rfl stored y' ra).use fun _ s₅ e₅ y₅=>?_
      have y₅':St (cG g scope x cs (wr++([Dd]++(cOwn scope L++g.X))) L) (some (mk a)::capD ρ cs) μ s₅:=y₅
      have et₅:Ext g.C [] s₁ s₅:=et'.fresh e₅ ownFresh
      obtain ⟨b1,b2⟩:=body (wr++([Dd]++(cOwn scope L++g.X))) L a (List.mem_of_getElem? ha)
      have hpin:∀ p∈g.C.P,p∈wr++([Dd]++(cOwn scope L++g.X)):=fun p hp=>List.mem_append_right _ (hPX p hp)
      have hD₅:s₅.heap.get? Dd=some (lstO vs nn):=e₅.keep Dd _ hDown (nP Dd hDn) (hDk hk)
      have hrep₅:RepL (wr++([Dd]++(cOwn scope L++g.X))) s₅.heap vs (((xs.take i).filter p).map f):=hrep'.ext e₅ (fun b hb=>List.mem_append_right _ (List.mem_append_right _ (List.mem_append_left _ hb))) hpin
      have htake:xs.take (i+1)=xs.take i++[a]:=by simp [List.take_add_one,ha]
      refine (b1 s₅ y₅').use fun bb s₆ e₆ hbb=>?_
      subst hbb
      have y₆:=y₅'.ext e₆
      have et₆:Ext g.C [] s₁ s₆:=et₅.trans e₆
      have hD₆:s₆.heap.get? Dd=some (lstO vs nn):=e₆.keep Dd _ (fun h=>nomatch h) (nP Dd hDn) hD₅
      have hrep₆:=hrep₅.ext e₆ (fun _ h=>nomatch h) hpin
      have hw₆:W (i+1) s₆.heap:=frame _ _ _ ((e₅.wider fun b hb=>.inl (List.mem_append_left _ hb)).trans (e₆.wider fun _ h=>nomatch h)) hw'
      have forg:∀ {t'},St (cG g scope x cs (wr++([Dd]++(cOwn scope L++g.X))) L) (some (mk a)::capD ρ cs) μ t'→St (cG g scope x cs (wr++([Dd]++(cOwn scope L++g.X))) L) (none::capD ρ cs) μ t':=fun z=>z.forget fun j d h=>by
        cases j with
        | zero=>cases h
        | succ j=>exact h
      cases hpa:p a with
      | false =>
        simp only [Bool.false_eq_true,if_false]
        exact ⟨xs.length+1 - (i+1),by exact Z.l686 hlt,i+1,vs,nn,hlt,rfl,hw₆,forg y₆,hD₆,by rw [htake,List.filter_append,List.map_append];simpa [hpa] using hrep₆,et₆⟩
      | true =>
        simp only [if_true]
        refine (b2 hpa).wp y₆ fun w s₇ y₇ r₇ e₇=>?_
        have hD₇:s₇.heap.get? Dd=some (lstO vs nn):=e₇.keep Dd _ (fun h=>nomatch h) (nP Dd hDn) hD₆
        have hvs:vs.length≤i:=by
          rw [hrep.length,List.length_map]
          exact Nat.le_trans (List.length_filter_le _ _) (by rw [List.length_take];exact Nat.min_le_left _ _)
        refine wpAny_list_append_plain (items:=vs.toArray) ⟨nn,hD₇⟩ (fun h₈ hp₈ hs₈=>?_) (by rw [List.size_toArray];exact Nat.le_trans hvs (Nat.le_trans hle hlen))
        obtain ⟨nn',hp₈⟩:=hp₈
        have hp₈':h₈.get? Dd=some (lstO (vs++[w]) nn'):=by rw [hp₈,List.push_toArray]
        obtain ⟨e₈,y₈⟩:=y₇.touch (tk:=s₇.toks) hs₈ (List.mem_append_right _ (List.mem_append_left _ (.head _))) (nP Dd hDn) hDμ (fun h=>hDown (h ▸ .head _)) (fun z c hc h=>(cellsOut z c hc).2 h.symm) (fun o _=>⟨_,hp₈'⟩)
        have et₈:Ext g.C [] s₁ { s₇ with heap:=h₈ }:=(et₆.trans e₇).fresh e₈ fun z hz=>by rw [List.mem_singleton.mp hz];exact hDn
        refine ⟨xs.length+1 - (i+1),by exact Z.l686 hlt,i+1,vs++[w],nn',hlt,rfl,frame _ _ _ ((e₇.wider fun _ h=>nomatch h).trans (e₈.wider fun b hb=>.inl (List.mem_append_right _ hb))) hw₆,forg y₈,hp₈',?_,et₈⟩
        have r8:=((hrep₆.ext e₇ (fun _ h=>nomatch h) hpin).snoc r₇).ext e₈ (fun b hb=>by rw [List.mem_singleton.mp hb];exact List.mem_append_right _ (List.mem_append_left _ (.head _))) hpin
        rw [htake,List.filter_append,List.map_append]
        simpa [hpa] using r8
    · have hi':i=xs.length:=by exact Z.l236 hle hlt
      subst hi'
      rw [← hlm] at hw
      refine it.walk.done _ _ _ hw fun h' tk hk=>?_
      have et':Ext g.C [] s₁ { t with heap:=h',toks:=tk }:=et.iter hk it.new hwn
      have hLw:L∉wr:=fun q=>wrOut L q (List.mem_append_right _ (List.mem_append_left _ (.head _)))
      have hns:∃ m,h'.Ns L m:=let ⟨m,hn⟩:=yt.envOk.ns;⟨m,hn.at' fun o q=>hk L o hLw q⟩
      have hLn:s₁.heap.get? L=none:=freshOf L (Nat.le_of_lt hL1)
      have back:∀ a,s₁.heap.get? a=none→s.heap.get? a=none:=fun a h=>by
        cases q:s.heap.get? a with
        | none=>rfl
        | some o=>obtain ⟨o',q'⟩:=e₁.occ a o q;rw [h] at q';(first | obtain rfl:=q'.vI | obtain ⟨_,rfl⟩:=q'.iI | obtain ⟨_,rfl⟩:=q'.sI | obtain ⟨_,rfl⟩:=q'.bI | obtain rfl:=q'.nI | cases q')
      refine hQ L Dd _ (y₁.wide (wr:=[L]) et' (fun b hb=>by rw [List.mem_singleton.mp hb];exact hLn) (fun b hb=>by
        rw [List.mem_singleton.mp hb];obtain ⟨m,o,_,_,q,_⟩:=hns;exact ⟨o,q⟩)) (e₁.trans et') (back _ hDn) hns (back _ hLn) ?_ ?_
      rw [List.take_length] at hrep
      rotate_left
      · intro q
        rcases List.mem_cons.mp q with q | q
        · exact Nat.lt_irrefl _ (q ▸ hL1)
        · exact notX Dd hDn q
      · refine ⟨vs,nn,hDk hk,?_⟩
        exact hrep.mono fun b o hb q=>⟨fun z=>hb (List.mem_append_right _ ((List.mem_cons.mp z).elim (fun z=>List.mem_append_left _ (z ▸ .head _)) fun z=>List.mem_append_right _ ((List.mem_cons.mp z).elim (fun z=>List.mem_append_left _ (z ▸ .head _)) fun z=>List.mem_append_right _ z))),hk b o (fun z=>hb (List.mem_append_left _ z)) q⟩
  have hw4:W 0 s₄.heap:=hst ▸ (it.walk.frame 0 _ _ w0 fun b hb o q=>pushCells_keeps _ _ b o (Heap.get?_push_of_some _ (hH3 ▸ Heap.get?_push_of_some _ q)))
  exact codeAny_compStart_list loop (it.walk.self 0 _ _ _ hw4 loop)
end
end Mine
end
section
open PySem PySem.Calls PySem.W PyProof.Rows
namespace Mine
theorem doms_set {μ:List (Addr × Mut)} {k:Nat} {a:Addr} {m m':Mut} (h:μ[k]?=some (a,m)) (hm:m'.more=m.more):doms (μ.set k (a,m'))=doms μ:=by
  induction μ generalizing k with
  | nil=>simp at h
  | cons p r ih =>
    cases k with
    | zero =>
      simp at h;subst h
      simp only [List.set_cons_zero,doms,List.flatMap_cons,hm]
    | succ k =>
      simp at h
      have:=ih h
      simp only [List.set_cons_succ,doms,List.flatMap_cons] at this ⊢
      rw [this]
section
variable {g:G} {ρ:List (Option D)} {μ:List (Addr × Mut)} {S:List Addr} {s:Shared} {Φ:Flow→Shared→Prop} {rest:List Stmt}
theorem apart_other {μ:List (Addr × Mut)} (nd:(doms μ).Nodup) {i k:Nat} {p q:Addr × Mut} (hi:μ[i]?=some p) (hk:μ[k]?=some q) (hik:i≠k):∀ b∈p.1::p.2.more,∀ c∈q.1::q.2.more,b≠c:=by
  induction μ generalizing i k with
  | nil=>simp at hi
  | cons x r ih =>
    simp only [doms,List.flatMap_cons,List.nodup_append] at nd
    obtain ⟨_,n2,n3⟩:=nd
    cases i with
    | zero =>
      cases k with
      | zero=>exact absurd rfl hik
      | succ k =>
        simp at hi hk;subst hi
        intro b hb c hc
        exact n3 b hb c (List.mem_flatMap.mpr ⟨q,List.mem_of_getElem? hk,hc⟩)
    | succ i =>
      cases k with
      | zero =>
        simp at hi hk;subst hk
        intro b hb c hc e
        exact n3 c hc b (List.mem_flatMap.mpr ⟨p,List.mem_of_getElem? hi,hb⟩) e.symm
      | succ k =>
        simp at hi hk
        exact ih n2 hi hk (by exact Z.l687 hik)
theorem St.setmut {k : Nat} {a b : Addr} {m m' : Mut} {h' : Heap} {tk : Nat} (y : St g ρ μ s) (hk : μ[k]? = some (a, m)) (hb : b ∈ a :: m.more) (hm : m'.more = m.more) (hs : Heap.SameBut b s.heap h') (hm' : MutOk g.X h' a m') (ho : ∃ o', h'.get? b = some o') :
    Ext g.C (doms μ) s { s with heap:=h',toks:=tk }∧St g ρ (μ.set k (a,m')) { s with heap:=h',toks:=tk }:=by
  have hbd:b∈doms μ:=List.mem_flatMap.mpr ⟨_,List.mem_of_getElem? hk,hb⟩
  obtain ⟨hX,hP,hL,hC⟩:=y.mX b hbd
  have hn:=y.inv.new b hX hP
  have e:Ext g.C [b] s { s with heap:=h',toks:=tk }:=Ext.same hs (.head _) hn fun o _=>ho
  have up:∀ c o,c∉g.X→s.heap.get? c=some o→h'.get? c=some o:=fun c o hc q=>(hs.2 c (fun z=>hc (z ▸ hX))).trans q
  refine ⟨e.wider fun c hc=>.inl (by rw [List.mem_singleton.mp hc];exact hbd),⟨y.inv.ext e (fun c hc=>by rw [List.mem_singleton.mp hc];exact hn),y.envOk.ext e (fun q=>hL (List.mem_singleton.mp q).symm) (fun x c hc q=>hC x c hc (List.mem_singleton.mp q).symm),
    fun j x d' hj hr=>?_,fun p hp=>?_,by rw [doms_set hk hm];exact y.mX,by rw [doms_set hk hm];exact y.apart,y.nd⟩⟩
  · obtain ⟨w,bd,q⟩:=y.vars j x d' hj hr
    exact ⟨w,bd.ext e y.envOk (fun q=>hL (List.mem_singleton.mp q).symm) (fun x c hc q=>hC x c hc (List.mem_singleton.mp q).symm),q.mono fun c o hc z=>⟨hc,up c o hc z⟩⟩
  · obtain ⟨i,hi⟩:=List.mem_iff_getElem?.mp hp
    by_cases hik:i=k
    · subst hik
      have hlt:i < μ.length:=(List.getElem?_eq_some_iff.mp hk).1
      rw [List.getElem?_set,if_pos rfl,if_pos hlt] at hi
      cases hi
      exact hm'
    · rw [List.getElem?_set,if_neg (fun z=>hik z.symm)] at hi
      have ap:=apart_other y.apart hi hk hik
      exact (y.muts p (List.mem_of_getElem? hi)).mono (fun o q=>(hs.2 _ (ap _ (.head _) b hb)).trans q) (fun c hc o q=>(hs.2 _ (ap c (.tail _ hc) b hb)).trans q) up
theorem St.addmut {a:Addr} {m:Mut} (y:St g ρ μ s) (hm:MutOk g.X s.heap a m) (h:∀ b∈a::m.more,b∈g.X∧b∉g.C.P∧b≠g.env.locals∧(∀ x c,g.env.cells.lookup x=some c→b≠c)∧b∉doms μ) (hnd:(a::m.more).Nodup):St g ρ ((a,m)::μ) s where
  inv:=y.inv
  envOk:=y.envOk
  vars:=y.vars
  muts:=fun p hp=>by
    rcases List.mem_cons.mp hp with rfl | hp
    · exact hm
    · exact y.muts p hp
  mX:=fun b hb=>by
    rcases List.mem_append.mp (show b∈(a::m.more)++doms μ from hb) with q | q
    · obtain ⟨h1,h2,h3,h4,_⟩:=h b q
      exact ⟨h1,h2,h3,h4⟩
    · exact y.mX b q
  apart:=by
    show ((a::m.more)++doms μ).Nodup
    exact List.nodup_append.mpr ⟨hnd,y.apart,fun b hb c hc e=>(h b hb).2.2.2.2 (e ▸ hc)⟩
  nd:=y.nd
theorem St.fresh {a:Addr} (y:St g ρ μ s) (h:s.heap.get? a=none):a∉g.X∧a∉g.C.P∧a≠g.env.locals∧(∀ x c,g.env.cells.lookup x=some c→a≠c)∧a∉doms μ:=by
  have hX:a∉g.X:=fun q=>by obtain ⟨o,e⟩:=y.inv.occ a q;rw [h] at e;cases e
  refine ⟨hX,fun q=>hX (y.inv.pin a q),fun e=>hX (e ▸ y.envOk.inX),fun x c hc e=>?_,fun q=>hX (y.mX a q).1⟩
  obtain ⟨_,_,v,o,ho,_⟩:=y.envOk.cel x c hc
  rw [← e,h] at ho;cases ho
theorem Ext.none_back {C:Cx} {S:List Addr} {s s':Shared} (e:Ext C S s s') {a:Addr} (h:s'.heap.get? a=none):s.heap.get? a=none:=by
  cases q:s.heap.get? a with
  | none=>rfl
  | some o=>obtain ⟨o',q'⟩:=e.occ a o q;rw [h] at q';(first | obtain rfl:=q'.vI | obtain ⟨_,rfl⟩:=q'.iI | obtain ⟨_,rfl⟩:=q'.sI | obtain ⟨_,rfl⟩:=q'.bI | obtain rfl:=q'.nI | cases q')
theorem St.adopt {a:Addr} {ds:List D} {vs:List Value} {n:Nat} {s':Shared} (y:St g ρ μ s) (e:Ext g.C [] s s') (hn:s.heap.get? a=none) (ho:s'.heap.get? a=some (lstO vs n)) (r:RepL (a::g.X) s'.heap vs ds):St { g with X:=a::g.X } ρ ((a,.lst ds)::μ) s':=by
  have y':=y.wide (wr:=[a]) e (fun b hb=>by rw [List.mem_singleton.mp hb];exact hn) (fun b hb=>by rw [List.mem_singleton.mp hb];exact ⟨_,ho⟩)
  have f:=y.fresh hn
  refine St.addmut (g:={ g with X:=a::g.X }) y' ⟨vs,n,ho,r⟩ (fun b hb=>?_) (by simp [Mut.more])
  have hb':b=a:=by simpa [Mut.more] using hb
  subst hb'
  exact ⟨.head _,f.2⟩
noncomputable def EvN (g:G) (ρ:List (Option D)) (μ:List (Addr × Mut)) (e:Expr) (ds:List D):Prop:=∀ s,St g ρ μ s→Dn g.C g.A [] s (eval e g.env) fun v s'=>∃ a vs n,v=.ref a∧s.heap.get? a=none∧s'.heap.get? a=some (lstO vs n)∧RepL (a::g.X) s'.heap vs ds
theorem EvN.ev {e:Expr} {ds:List D} (h:EvN g ρ μ e ds):Ev g ρ μ e (.lst ds):=fun s y=>(h s y).mono fun v s' ex q=>by
  obtain ⟨a,vs,n,rfl,hn,ho,r⟩:=q
  exact .lst (y.fresh hn).1 ho (r.sub fun _ h=>.tail _ h)
theorem EvN.lst {es:List Expr} {pos:Pos} {ds:List D} (h:EvL g ρ μ pos es ds) (hsz:ds.length≤sizeLine:=by decide):EvN g ρ μ (.List es pos) ds:=fun s x =>
  List_ ((h s x).use fun vs s₁ e₁ r=>wpAny_newObj_type ⟨e₁.trans .push',_,vs,0,rfl,e₁.none_back (none_of_ge (Nat.le_refl _)),Heap.get?_push_size _ rfl,r.mono fun b o hb q=>⟨fun z=>by
    rcases List.mem_cons.mp z with rfl | z
    · rw [none_of_ge (Nat.le_refl _)] at q;(first | obtain rfl:=q.vI | obtain ⟨_,rfl⟩:=q.iI | obtain ⟨_,rfl⟩:=q.sI | obtain ⟨_,rfl⟩:=q.bI | obtain rfl:=q.nI | cases q)
    · exact hb z,Heap.get?_push_of_some _ q⟩⟩ (by show vs.toArray.size≤sizeLine;rw [List.size_toArray,r.length];exact hsz))
theorem Ex.step2 {st:Stmt} (h:∀ s,St g ρ μ s→wpAny g.C.M g.A (exec st g.env) (fun f s'=>match f with | .next=>wpAny g.C.M g.A (execs rest g.env) (fun f s''=>Ext g.C S s s''∧Φ f s'') NoE s' | f=>Ext g.C S s s'∧Φ f s') NoE s):Ex g S ρ μ (st::rest) Φ:=fun s x =>
  wpAny_execs_cons (wpAny_mono (h s x) (fun f s' q=>by cases f <;> exact q) fun _ _ e=>e)
theorem Ex.assignN (i : Nat) {x : Str} {p pos : Pos} {e : Expr} {ds : List D} (h1 : g.ns[i]? = some x) (hk : Stored g S x) (he : EvN g ρ μ e ds) (k : ∀ a, a ∉ g.X → a ∉ S → Ex { g with X := a :: g.X } (a :: S) (ρ.set i (some (.val (.ref a)))) ((a, .lst ds) :: μ) rest Φ)
    (hS:∀ a∈S,a∈g.X) (hs:swapsWith e (some (.Name x p)) pos.line g.env=pure false:=by rfl):Ex g S ρ μ (.Assign [.Name x p] e pos::rest) Φ:=Ex.step2 fun s y =>
  wpAny_Assign_Name ((he s y).use fun v s₁ e₁ ⟨a,vs,n,hv,hn,ho,r⟩=>by
    subst hv
    have y₁:=y.adopt e₁ hn ho r
    have f:=y.fresh hn
    have haS:a∉S:=fun q=>f.1 (hS a q)
    refine (St.store (g:={ g with X:=a::g.X }) y₁ h1 hk (.val (.ref a))).use fun _ s₂ e₂ y₂=>?_
    refine (k a f.1 haS s₂ y₂).use fun fl s₃ e₃ q=>⟨?_,q⟩
    have e₁₂:Ext g.C S s s₂:=(e₁.wider (fun _ h=>nomatch h)).trans e₂
    exact ((e₁₂.wider fun b hb=>.inl (.tail _ hb)).trans e₃).wider fun b hb=>(List.mem_cons.mp hb).elim (fun z=>.inr (z ▸ hn)) .inl) hs
theorem EvN.comp {α : Type} {elt iter : Expr} {x : Str} {px : Pos} {ifs : List Expr} {scope : Scope} {pos : Pos} {d : D} (mk : α → D) (xs : List α) (p : α → Bool) (f : α → D) (cs : List (Nat × Str))
    (R:Room g.A 0) (ok:compOk g.env g.ns scope [x] cs=true) (hi:Ev g ρ μ iter d) (src:Src d (xs.map mk)) (hlen:xs.length≤sizeLine)
    (body:∀ X' L,∀ a∈xs,EvIfs (cG g scope x cs X' L) (some (mk a)::capD ρ cs) μ ifs (p a)∧(p a=true→Ev (cG g scope x cs X' L) (some (mk a)::capD ρ cs) μ elt (f a)))
    (hs:∀ x,foldedSetIterable iter g.env x=pure x:=by intro _;rfl):EvN g ρ μ (.ListComp elt [⟨.Name x px,iter,ifs,0⟩] scope pos) ((xs.filter p).map f):=fun s y=>by
  show wpAny _ _ _ _ _ _
  rw [eval_ListComp]
  refine comp_core (use:=none) mk xs p f cs R ok hi src hlen body y (fun L Dd t yt et hD ⟨m,hn⟩ hL ⟨vs,nn,ho,r⟩ hDX=>⟨m,hn,fun h' hs'=>?_⟩) hs
  have hne:Dd≠L:=fun e=>hDX (e ▸ .head _)
  have e':Ext g.C [] s { t with heap:=h' }:=et.iter (wr:=[L]) (tk:=t.toks) (fun b o hb q=>(hs'.2 b fun z=>hb (z ▸ .head _)).trans q) (fun z hz=>by rw [List.mem_singleton.mp hz];exact hL)
    fun z hz=>by rw [List.mem_singleton.mp hz];exact y.inv.hb_none hL (y.fresh hL).2.1
  exact ⟨e',Dd,vs,nn,rfl,hD,(hs'.2 Dd hne).trans ho,r.mono fun b o hb q=>⟨fun z=>hb ((List.mem_cons.mp z).elim (fun z=>z ▸ .head _) fun z=>.tail _ (.tail _ z)),(hs'.2 b (fun z=>hb (z ▸ .tail _ (.head _)))).trans q⟩⟩
end
end Mine
end
section
open PySem PySem.Calls PySem.W PyProof.Rows
namespace Mine
section
variable {g:G} {ρ:List (Option D)} {μ:List (Addr × Mut)} {S:List Addr} {s:Shared} {Φ:Flow→Shared→Prop} {rest:List Stmt}
theorem St.dropX {L : Addr} {h' : Heap} {tk : Nat} (y : St { g with X := L :: g.X } ρ μ s) (hk : ∀ b o, b ≠ L → s.heap.get? b = some o → h'.get? b = some o) (hL : L ∉ g.X) (hLP : L ∉ g.C.P) (hLn : g.C.hb.get? L = none) (hC : ∀ x c, g.env.cells.lookup x = some c → L ≠ c)
    (hμ:∀ a∈doms μ,a∈g.X) (hE:EnvOk g.C g.X s.heap g.env) (hP:∀ p∈g.C.P,p∈g.X):St g ρ μ { s with heap:=h',toks:=tk } :=
  St.iter (g:=g) (X':=g.X) (wr:=[L]) y (fun b o hb q=>hk b o (fun z=>hb (z ▸ .head _)) q) (fun a h=>.tail _ h) (fun _ h=>h) (fun a ha h=>by rw [List.mem_singleton.mp ha] at h;exact absurd h hL)
    (fun a ha=>by rw [List.mem_singleton.mp ha];exact ⟨hL,hLP,hLn,hC⟩) hμ hE hP
theorem EnvOk.of {C:Cx} {X X':List Addr} {h h':Heap} {env:Env} (k:EnvOk C X h env) (k':EnvOk C X' h' env):EnvOk C X h' env:=⟨k'.kind,k'.glob,k'.bi,k'.ns,k.inX,k'.lP,k'.cel,k.own,k'.inj⟩
theorem Ex.assignC {α : Type} (i : Nat) {x z : Str} {px pz : Pos} {elt iter : Expr} {ifs : List Expr} {scope : Scope} {pos spos : Pos} {d : D} (mk : α → D) (xs : List α) (p : α → Bool) (f : α → D) (cs : List (Nat × Str))
    (R:Room g.A 0) (h1:g.ns[i]?=some z) (hk:Stored g S z) (hS:∀ a∈S,a∈g.X) (ok:compOk g.env g.ns scope [x] cs=true) (hi:Ev g ρ μ iter d) (src:Src d (xs.map mk)) (hlen:xs.length≤sizeLine)
    (body:∀ X' L,∀ a∈xs,EvIfs (cG g scope x cs X' L) (some (mk a)::capD ρ cs) μ ifs (p a)∧(p a=true→Ev (cG g scope x cs X' L) (some (mk a)::capD ρ cs) μ elt (f a)))
    (k:Ex g S (ρ.set i (some (.lst ((xs.filter p).map f)))) μ rest Φ)
    (hs:∀ x,foldedSetIterable iter g.env x=pure x:=by intro _;rfl)
    (hsw:swapsWith (.ListComp elt [⟨.Name x px,iter,ifs,0⟩] scope pos) (some (.Name z pz)) spos.line g.env=pure true:=by rfl) :
    Ex g S ρ μ (.Assign [.Name z pz] (.ListComp elt [⟨.Name x px,iter,ifs,0⟩] scope pos) spos::rest) Φ:=Ex.step fun s y=>by
  show wpAny _ _ _ _ _ _
  rw [exec_Assign_Name_used _ _ _ _ hsw]
  refine wpAny_bind (wpAny_standAt (wpAny_bind ?_))
  show wpAny _ g.A (do let _ ← comprehension (.ListComp elt [⟨.Name x px,iter,ifs,0⟩] scope pos) scope g.env _ (newList []) false (eval iter g.env) (some (PySem.assign (.Name z pz) g.env))) _ _ s
  refine wpAny_bind (wpAny_mono (comp_core (use:=some (PySem.assign (.Name z pz) g.env)) (E:=NoE) (Q:=fun _ s'=>Ext g.C S s s'∧St g (ρ.set i (some (.lst ((xs.filter p).map f)))) μ s') mk xs p f cs R ok hi src hlen body y
    (fun L Dd t yt et hD ⟨m,hn⟩ hL ⟨vs,nn,ho,r⟩ hDX=>?_) hs) (fun v s' q=>wpAny_pure (wpAny_pure ⟨q.1,k s' q.2⟩)) fun _ _ e=>e)
  have fL:=y.fresh hL
  have rr:Rep (L::g.X) t.heap (.ref Dd) (.lst ((xs.filter p).map f)):=.lst hDX ho (r.sub fun _ h=>.tail _ h)
  show wpAny _ _ (PySem.assign (.Name z pz) g.env (.ref Dd)) _ _ _
  refine wpAny_assign_Name ((St.store (g:={ g with X:=L::g.X }) yt h1 hk rr).use fun _ s₂ e₂ y₂=>?_)
  have hLS:L∉S:=fun q=>fL.1 (hS L q)
  refine ⟨m,hn.at' fun o q=>e₂.keep L o hLS fL.2.1 q,fun h' hs'=>?_⟩
  have e₃:Ext g.C S s s₂:=(et.wider fun _ h=>nomatch h).trans e₂
  refine ⟨e₃.iter (wr:=[L]) (fun b o hb q=>(hs'.2 b fun z=>hb (z ▸ .head _)).trans q) (fun a ha=>by rw [List.mem_singleton.mp ha];exact hL) fun a ha=>by rw [List.mem_singleton.mp ha];exact y.inv.hb_none hL fL.2.1,?_⟩
  exact y₂.dropX (fun b o hb q=>(hs'.2 b hb).trans q) fL.1 fL.2.1 (y.inv.hb_none hL fL.2.1) fL.2.2.2.1 (fun a ha=>(y.mX a ha).1) (y.envOk.of y₂.envOk) y.inv.pin
theorem Ex.assignCN {α : Type} (i : Nat) {x z : Str} {px pz : Pos} {elt iter : Expr} {ifs : List Expr} {scope : Scope} {pos spos : Pos} {d : D} (mk : α → D) (xs : List α) (p : α → Bool) (f : α → D) (cs : List (Nat × Str))
    (R:Room g.A 0) (h1:g.ns[i]?=some z) (hk:Stored g S z) (hS:∀ a∈S,a∈g.X) (ok:compOk g.env g.ns scope [x] cs=true) (hi:Ev g ρ μ iter d) (src:Src d (xs.map mk)) (hlen:xs.length≤sizeLine)
    (body:∀ X' L,∀ a∈xs,EvIfs (cG g scope x cs X' L) (some (mk a)::capD ρ cs) μ ifs (p a)∧(p a=true→Ev (cG g scope x cs X' L) (some (mk a)::capD ρ cs) μ elt (f a)))
    (k:∀ a,a∉g.X→a∉S→Ex { g with X:=a::g.X } (a::S) (ρ.set i (some (.val (.ref a)))) ((a,.lst ((xs.filter p).map f))::μ) rest Φ)
    (hs:∀ x,foldedSetIterable iter g.env x=pure x:=by intro _;rfl)
    (hsw:swapsWith (.ListComp elt [⟨.Name x px,iter,ifs,0⟩] scope pos) (some (.Name z pz)) spos.line g.env=pure true:=by rfl) :
    Ex g S ρ μ (.Assign [.Name z pz] (.ListComp elt [⟨.Name x px,iter,ifs,0⟩] scope pos) spos::rest) Φ:=Ex.step2 fun s y=>by
  rw [exec_Assign_Name_used _ _ _ _ hsw]
  refine wpAny_bind (wpAny_standAt (wpAny_bind ?_))
  show wpAny _ g.A (do let _ ← comprehension (.ListComp elt [⟨.Name x px,iter,ifs,0⟩] scope pos) scope g.env _ (newList []) false (eval iter g.env) (some (PySem.assign (.Name z pz) g.env))) _ _ s
  refine wpAny_bind (wpAny_mono (comp_core (use:=some (PySem.assign (.Name z pz) g.env)) (E:=NoE) (Q:=fun _ s'=>∃ a,s.heap.get? a=none∧a∉S∧Ext g.C S s s'∧St { g with X:=a::g.X } (ρ.set i (some (.val (.ref a)))) ((a,.lst ((xs.filter p).map f))::μ) s') mk xs p f cs R ok hi src hlen body y
    (fun L Dd t yt et hD ⟨m,hn⟩ hL ⟨vs,nn,ho,r⟩ hDX=>?_) hs) (fun v s' q=>wpAny_pure (wpAny_pure ?_)) fun _ _ e=>e)
  · have fL:=y.fresh hL
    have fD:=y.fresh hD
    have hDL:Dd≠L:=fun e=>hDX (e ▸ .head _)
    have hLD:L∉Dd::g.X:=fun q=>(List.mem_cons.mp q).elim (fun z=>hDL z.symm) fL.1
    have ya:St { g with X:=L::Dd::g.X } ρ ((Dd,.lst ((xs.filter p).map f))::μ) t:=by
      have yw:St { g with X:=[L,Dd]++g.X } ρ μ t:=y.wide (wr:=[L,Dd]) et (fun b hb=>by
        rcases List.mem_cons.mp hb with rfl | hb
        · exact hL
        · rw [List.mem_singleton.mp hb];exact hD) (fun b hb=>by
        rcases List.mem_cons.mp hb with rfl | hb
        · obtain ⟨o,_,_,q,_⟩:=hn;exact ⟨o,q⟩
        · rw [List.mem_singleton.mp hb];exact ⟨_,ho⟩)
      refine St.addmut (g:={ g with X:=L::Dd::g.X }) yw ⟨vs,nn,ho,r.sub fun b hb=>?_⟩ (fun b hb=>?_) (by simp [Mut.more])
      · rcases List.mem_cons.mp hb with rfl | hb
        · exact .tail _ (.head _)
        · rcases List.mem_cons.mp hb with rfl | hb
          · exact .head _
          · exact .tail _ (.tail _ hb)
      · have hb':b=Dd:=by simpa [Mut.more] using hb
        subst hb'
        exact ⟨.tail _ (.head _),fD.2⟩
    show wpAny _ _ (PySem.assign (.Name z pz) g.env (.ref Dd)) _ _ _
    refine wpAny_assign_Name ((St.store (g:={ g with X:=L::Dd::g.X }) ya h1 hk (.val (.ref Dd))).use fun _ s₂ e₂ y₂=>?_)
    have hLS:L∉S:=fun q=>fL.1 (hS L q)
    have hDS:Dd∉S:=fun q=>fD.1 (hS Dd q)
    refine ⟨m,hn.at' fun o q=>e₂.keep L o hLS fL.2.1 q,fun h' hs'=>?_⟩
    have e₃:Ext g.C S s s₂:=(et.wider fun _ h=>nomatch h).trans e₂
    have hLn:=y.inv.hb_none hL fL.2.1
    refine ⟨Dd,hD,hDS,e₃.iter (wr:=[L]) (fun b o hb q=>(hs'.2 b fun z=>hb (z ▸ .head _)).trans q) (fun a ha=>by rw [List.mem_singleton.mp ha];exact hL) (fun a ha=>by rw [List.mem_singleton.mp ha];exact hLn),?_⟩
    refine St.dropX (g:={ g with X:=Dd::g.X }) (L:=L) (tk:=s₂.toks) y₂ (fun b o hb q=>(hs'.2 b hb).trans q) hLD fL.2.1 hLn fL.2.2.2.1 (fun a ha=>?_) ⟨y₂.envOk.kind,y₂.envOk.glob,y₂.envOk.bi,y₂.envOk.ns,.tail _ y.envOk.inX,y₂.envOk.lP,y₂.envOk.cel,fun x c q1 q2=>.tail _ (y.envOk.own x c q1 q2),y₂.envOk.inj⟩ fun p hp=>.tail _ (y.inv.pin p hp)
    rcases List.mem_cons.mp (show a∈Dd::doms μ from ha) with rfl | q
    · exact .head _
    · exact .tail _ (y.mX a q).1
  · obtain ⟨a,hn,haS,e₁,y₁⟩:=q
    refine (k a (y.fresh hn).1 haS s' y₁).use fun fl s₃ e₃ q=>⟨?_,q⟩
    exact ((e₁.wider fun b hb=>.inl (.tail _ hb)).trans e₃).wider fun b hb=>(List.mem_cons.mp hb).elim (fun z=>.inr (z ▸ hn)) .inl
noncomputable def Bi (f:Value) (ds:List D) (d:D):Prop:=∀ (C:Cx) (A:Around) X s vals,Inv C X s→Room A 0→RepL X s.heap vals ds→Dn C A [] s (call f vals) fun v s'=>Rep X s'.heap v d
noncomputable def notRef:Value→Bool
  | .ref _=>false
  | _=>true
theorem mach_of {M:Model} {f:Value} (h:notRef f=true) (hp:Heap) (_:True):∃ k,(k=Keeper.frame∨k=Keeper.machine∨k=Keeper.boundFrame)∧Looks M hp (keeperOf f) k :=
  ⟨.machine,.inr (.inl rfl),by cases f <;> first | exact Looks.now | exact absurd h Bool.false_ne_true⟩
theorem callWith_B {M : Model} {A : Around} {E : Value → Shared → Prop} {env : Env} {pos : Pos} {f : Value} {first : List Value} {e : Expr} {es : List Expr} {Q : Value → Shared → Prop} (hf : notRef f = true)
    (h:wpAny M A (spliced (backTo pos (starEach (e::es) env))) (fun vs s₁=>wpAny M A (call f (first++vs)) Q E s₁) E s)
    (he:starEach (e::es) env=(false,eval e env)::starEach es env:=by rfl) (hplain:(backTo pos (starEach es env)).any (·.1)=false:=by rfl) :
    wpAny M A (callWith pos f first (backTo pos (starEach (e::es) env)) []) Q E s:=by
  rw [he] at h ⊢
  exact callWith_of (P:=fun _=>True) (by show ((false || (backTo pos (starEach es env)).any (·.1)) || false)=false;rw [hplain];rfl) (mach_of hf) (evalArgs_plain (wpAny_mono h (fun _ _ q=>⟨trivial,q⟩) fun _ _ e=>e))
theorem callWith_B0 {M : Model} {A : Around} {E : Value → Shared → Prop} {env : Env} {pos : Pos} {f : Value} {first : List Value} {Q : Value → Shared → Prop} (hf : notRef f = true)
    (h:wpAny M A (call f (first++[])) Q E s):wpAny M A (callWith pos f first (backTo pos (starEach [] env)) []) Q E s :=
  callWith_of (P:=fun _=>True) rfl (mach_of hf) (evalArgs_nil3 ⟨trivial,h⟩)
theorem Ev.callB {func e : Expr} {es : List Expr} {pos : Pos} {f : Value} {ds : List D} {d : D} (R : Room g.A 0) (hf : Ev g ρ μ func (.val f)) (ha : EvL g ρ μ pos (e :: es) ds) (hc : Bi f ds d) (hr : notRef f = true := by rfl)
    (he:starEach (e::es) g.env=(false,eval e g.env)::starEach es g.env:=by rfl) (hplain:(backTo pos (starEach es g.env)).any (·.1)=false:=by rfl)
    (hq:eval (.Call func (e::es) [] pos) g.env=(eval func g.env >>= fun v=>callWith pos v [] (backTo pos (starEach (e::es) g.env)) []):=by rfl):Ev g ρ μ (.Call func (e::es) [] pos) d:=fun s x=>by
  show wpAny _ _ _ _ _ _
  rw [hq]
  refine wpAny_bind (hf.wp x fun v s₁ x₁ r₁ e₁=>?_)
  (first | obtain rfl:=r₁.vI | obtain ⟨_,rfl⟩:=r₁.iI | obtain ⟨_,rfl⟩:=r₁.sI | obtain ⟨_,rfl⟩:=r₁.bI | obtain rfl:=r₁.nI | cases r₁)
  exact callWith_B hr ((ha s₁ x₁).use fun vs s₂ e₂ r₂=>(hc _ _ _ _ _ (x₁.ext e₂).inv R r₂).use fun v s₃ e₃ r₃=>⟨(e₁.trans e₂).trans e₃,r₃⟩) he hplain
theorem Ev.meth {o e : Expr} {es : List Expr} {name : Str} {apos pos : Pos} {T id : String} {d₀ : D} {ds : List D} {d : D} (R : Room g.A 0) (pa : PlainAttrs T) (slot : Slot T name id) (hty : typeOf (.builtin id) = pure (.type "method_descriptor"))
    (ho:Ev g ρ μ o d₀) (hT:∀ (X:List Addr) (s:Shared) v,Rep X s.heap v d₀→s.TypeIs v T∧(∀ a,v=.ref a→∃ ob,s.heap.get? a=some ob∧ob.dict=Option.none)) (ha:EvL g ρ μ pos (e::es) ds) (hc:Bi (.builtin id) (d₀::ds) d)
    (hbase:attributeBase o name g.env (eval o g.env)=eval o g.env:=by rfl)
    (hfew:((backTo pos (starEach (e::es) g.env)).all (fun x=>!x.1) && (backToKw pos (keywordEach [] g.env)).all (fun x=>x.1.isSome) && decide ((e::es).length+([]:List Keyword).length+(if ([]:List Keyword).isEmpty then 0 else 1) < 30))=true:=by rfl)
    (hline:(apos.endLine == pos.line)=true:=by rfl)
    (he:starEach (e::es) g.env=(false,eval e g.env)::starEach es g.env:=by rfl) (hplain:(backTo pos (starEach es g.env)).any (·.1)=false:=by rfl):Ev g ρ μ (.Call (.Attribute o name apos) (e::es) [] pos) d:=fun s x =>
  wpAny_Call_method hbase hfew hline pa slot hty (ho.wp x fun v s₁ x₁ r₁ e₁=>⟨(hT _ _ _ r₁).1,(hT _ _ _ r₁).2,callWith_B rfl ((ha s₁ x₁).use fun vs s₂ e₂ r₂ =>
    (hc _ _ _ _ (v::vs) (x₁.ext e₂).inv R (.cons (r₁.ext e₂ (fun _ h=>nomatch h) x₁.inv.pin) r₂)).use fun v s₃ e₃ r₃=>⟨(e₁.trans e₂).trans e₃,r₃⟩) he hplain⟩)
theorem Ev.meth0 {o : Expr} {name : Str} {apos pos : Pos} {T id : String} {d₀ d : D} (R : Room g.A 0) (pa : PlainAttrs T) (slot : Slot T name id) (hty : typeOf (.builtin id) = pure (.type "method_descriptor"))
    (ho:Ev g ρ μ o d₀) (hT:∀ (X:List Addr) (s:Shared) v,Rep X s.heap v d₀→s.TypeIs v T∧(∀ a,v=.ref a→∃ ob,s.heap.get? a=some ob∧ob.dict=Option.none)) (hc:Bi (.builtin id) [d₀] d)
    (hbase:attributeBase o name g.env (eval o g.env)=eval o g.env:=by rfl)
    (hfew:((backTo pos (starEach [] g.env)).all (fun x=>!x.1) && (backToKw pos (keywordEach [] g.env)).all (fun x=>x.1.isSome) && decide (([]:List Expr).length+([]:List Keyword).length+(if ([]:List Keyword).isEmpty then 0 else 1) < 30))=true:=by rfl)
    (hline:(apos.endLine == pos.line)=true:=by rfl):Ev g ρ μ (.Call (.Attribute o name apos) [] [] pos) d:=fun s x =>
  wpAny_Call_method hbase hfew hline pa slot hty (ho.wp x fun v s₁ x₁ r₁ e₁=>⟨(hT _ _ _ r₁).1,(hT _ _ _ r₁).2,callWith_B0 rfl ((hc _ _ _ _ [v] x₁.inv R (.cons r₁ .nil)).use fun v s₃ e₃ r₃=>⟨e₁.trans e₃,r₃⟩)⟩)
theorem isStr {x:Str}:∀ (X:List Addr) (s:Shared) v,Rep X s.heap v (.str x)→s.TypeIs v "str"∧(∀ a,v=.ref a→∃ ob,s.heap.get? a=some ob∧ob.dict=Option.none):=fun X s v r=>by
  (first | obtain rfl:=r.vI | obtain ⟨_,rfl⟩:=r.iI | obtain ⟨_,rfl⟩:=r.sI | obtain ⟨_,rfl⟩:=r.bI | obtain rfl:=r.nI | cases r);exact ⟨typeIs_str _ _ _,fun a h=>nomatch h⟩
theorem isLst {ds:List D}:∀ (X:List Addr) (s:Shared) v,Rep X s.heap v (.lst ds)→s.TypeIs v "list"∧(∀ a,v=.ref a→∃ ob,s.heap.get? a=some ob∧ob.dict=Option.none):=fun X s v r=>by
  cases r with | lst _ e _=>exact ⟨⟨_,e,rfl⟩,fun a h=>by cases h;exact ⟨_,e,rfl⟩⟩
theorem Ex.append (i k : Nat) {o e : Expr} {apos pos spos : Pos} {a : Addr} {ds : List D} {d : D} (ho : Ev g ρ μ o (.val (.ref a))) (hk : μ[k]? = some (a, .lst ds)) (hS : ∀ b ∈ doms μ, b ∈ S) (he : Ev g ρ μ e d) (hlen : ds.length ≤ sizeLine)
    (kk:Ex g S ρ (μ.set k (a,.lst (ds++[d]))) rest Φ)
    (hbase:attributeBase o "append" g.env (eval o g.env)=eval o g.env:=by rfl)
    (hfew:((backTo pos (starEach [e] g.env)).all (fun x=>!x.1) && (backToKw pos (keywordEach [] g.env)).all (fun x=>x.1.isSome) && decide ([e].length+([]:List Keyword).length+(if ([]:List Keyword).isEmpty then 0 else 1) < 30))=true:=by rfl)
    (hline:(apos.endLine == pos.line)=true:=by rfl) (hst:starEach [e] g.env=(false,eval e g.env)::starEach [] g.env:=by rfl)
    (hi:interactive g.env=false:=by rfl) (hs:swapsWith (.Call (.Attribute o "append" apos) [e] [] pos) none spos.line g.env=pure false:=by rfl) :
    Ex g S ρ μ (.Expr (.Call (.Attribute o "append" apos) [e] [] pos) spos::rest) Φ:=Ex.step fun s y=>by
  refine wpAny_Expr_any (wpAny_Call_method hbase hfew hline F.plainAttrs_list slot_list_append F.type_list_append (ho.wp y fun v s₁ y₁ r₁ e₁=>?_)) hi hs
  (first | obtain rfl:=r₁.vI | obtain ⟨_,rfl⟩:=r₁.iI | obtain ⟨_,rfl⟩:=r₁.sI | obtain ⟨_,rfl⟩:=r₁.bI | obtain rfl:=r₁.nI | cases r₁)
  obtain ⟨vs,n,hg,r⟩:=y₁.muts _ (List.mem_of_getElem? hk)
  refine ⟨⟨_,hg,rfl⟩,fun b hb=>by cases hb;exact ⟨_,hg,rfl⟩,callWith_B rfl ?_ hst⟩
  refine (EvL.cons he EvL.nil hst s₁ y₁).use fun ws s₂ e₂ r₂=>?_
  have y₂:=y₁.ext e₂
  obtain ⟨vs,n,hg,r⟩:=y₂.muts _ (List.mem_of_getElem? hk)
  cases r₂ with
  | @cons w _ _ _ rw' rn =>
  cases rn
  refine wpAny_list_append_plain (items:=vs.toArray) ⟨n,hg⟩ (fun h' hp hs'=>?_) (by rw [List.size_toArray,r.length];exact hlen)
  obtain ⟨n',hp⟩:=hp
  have hp':h'.get? a=some (lstO (vs++[w]) n'):=by rw [hp,List.push_toArray]
  have haX:=(y₂.mX a (mem_doms (List.mem_of_getElem? hk))).1
  obtain ⟨e₃,y₃⟩:=y₂.setmut (m':=.lst (ds++[d])) (tk:=s₂.toks) hk (.head _) rfl hs' ⟨vs++[w],n',hp',(r.snoc rw').mono fun b o hb q=>⟨hb,(hs'.2 b (fun z=>hb (z ▸ haX))).trans q⟩⟩ ⟨_,hp'⟩
  exact ⟨((e₁.trans e₂).wider fun _ h=>nomatch h).trans (e₃.wider fun b hb=>.inl (hS b hb)),kk _ y₃⟩
end
end Mine
end
section
open PySem PySem.Calls PySem.W PyProof.Rows PySem.SeqAt
open AutoSeq1 (wpAny_loadPart')
namespace Mine
noncomputable abbrev sl (l:List Nat):Str:=⟨l.toArray⟩
noncomputable abbrev D.s (l:List Nat):D:=.str (sl l)
theorem sl_add (a b:List Nat):sl a++sl b=sl (a++b):=by
  show Str.mk (a.toArray++b.toArray)=_
  simp [sl]
theorem sl_len (a:List Nat):(sl a).length=a.length:=by show a.toArray.size=_;simp
theorem sl_inj {a b:List Nat} (h:sl a=sl b):a=b:=by
  have:(sl a).cps=(sl b).cps:=by rw [h]
  simpa [sl] using this
structure Kd {α:Type} [DecidableEq α] (n:Nat) (f:α→D):Prop where
  inj:∀ X h v x y,Rep X h v (f x)→Rep X h v (f y)→x=y
  eq:∀ x y (A:Around) X (s:Shared) va vb,A.units+n < cLine→Rep X s.heap va (f x)→Rep X s.heap vb (f y)→EqAt A s va vb (decide (x=y))
section
variable {α β γ:Type} [DecidableEq α] [DecidableEq β] [DecidableEq γ] {n m k:Nat} {f:α→D} {g:β→D} {e:γ→D}
theorem Kd.up (K:Kd n f) (h:n≤m):Kd m f:=⟨K.inj,fun x y A X s va vb hu=>K.eq x y A X s va vb (by exact Z.l688 h hu)⟩
theorem Kd.int:Kd 0 D.int where
  inj:=fun X h v x y r q=>by
    obtain ⟨t,rfl⟩:=r.iI
    obtain ⟨u,e⟩:=q.iI
    injection e with e;exact e.symm
  eq:=fun x y A X s va vb hu r q=>by
    obtain ⟨t,rfl⟩:=r.iI
    obtain ⟨u,rfl⟩:=q.iI
    exact (MeetsSeq.EqGives.int _ _ _ _).at A s
theorem Kd.s:Kd 0 D.s where
  inj:=fun X h v x y r q=>by
    obtain ⟨t,rfl⟩:=r.sI
    obtain ⟨u,e⟩:=q.sI
    injection e with e;exact (sl_inj e).symm
  eq:=fun x y A X s va vb hu r q=>by
    obtain ⟨t,rfl⟩:=r.sI
    obtain ⟨u,rfl⟩:=q.sI
    have e:((sl x) == (sl y))=decide (x=y):=by
      rw [Bool.eq_iff_iff,beq_iff_eq,decide_eq_true_eq]
      exact ⟨sl_inj,congrArg sl⟩
    exact e ▸ (eqGives_str (sl x) (sl y) t u).at A s
theorem eqAt_bool (x y:Bool) {A:Around} {s:Shared}:EqAt A s (.bool x) (.bool y) (x == y):=fun prog w E Q h=>by
  unfold eqBool
  refine wpAny_holding ?_
  refine wpAny_ite_split (fun hab=>?_) (fun hab=>?_)
  · have e:x=y:=by
      have:=eq_of_beq hab
      injection this
    subst e
    rw [beq_self_eq_true] at h
    exact wpAny_bind (wpAny_rule (wpAny_pure h))
  · exact wpAny_bind (RcAt.bool_bool (A:=A) (s:=s) x y prog w _ _ (wpAny_truthy_bool h))
theorem Kd.bool:Kd 0 D.bool where
  inj:=fun X h v x y r q=>by
    obtain rfl:=r.vI
    injection q.vI with e;exact e.symm
  eq:=fun x y A X s va vb hu r q=>by
    obtain rfl:=r.vI
    obtain rfl:=q.vI
    have e:(x == y)=decide (x=y):=by cases x <;> cases y <;> rfl
    exact e ▸ eqAt_bool x y
theorem seqO_inj {c:Value} {vs ws:List Value} {n m:Nat} (h:some ({ cls:=c,data:=.seq vs.toArray n }:Obj)=some { cls:=c,data:=.seq ws.toArray m }):vs=ws:=by
  injection h with h;injection h with _ _ h _;injection h with h _
  exact congrArg Array.toList h
omit [DecidableEq α] in
theorem RepL.atM {X:List Addr} {h:Heap} {vs:List Value} {xs:List α} {j:Nat} {v:Value} (r:RepL X h vs (xs.map f)) (hv:vs[j]?=some v):∃ x,xs[j]?=some x∧Rep X h v (f x):=by
  obtain ⟨d,hd,rr⟩:=r.get' hv
  rw [List.getElem?_map] at hd
  obtain ⟨x,hx,rfl⟩:=Option.map_eq_some_iff.mp hd
  exact ⟨x,hx,rr⟩
omit [DecidableEq α] in
theorem RepL.lenM {X:List Addr} {h:Heap} {vs:List Value} {xs:List α} (r:RepL X h vs (xs.map f)):vs.toArray.size=xs.length:=r.length.trans (List.length_map ..)
theorem RepL.duo {X:List Addr} {h:Heap} {vs:List Value} {d d':D} (r:RepL X h vs [d,d']):∃ v w,[v,w]=vs∧Rep X h v d∧Rep X h w d':=by
  obtain ⟨v,ws,rfl,a,r⟩:=r.cI
  obtain ⟨w,us,rfl,b,r⟩:=r.cI
  obtain rfl:=r.nI
  exact ⟨v,w,rfl,a,b⟩
theorem RepL.injF {X h} (inj:∀ X h v x y,Rep X h v (f x)→Rep X h v (f y)→x=y) {vs:List Value} {xs ys:List α} (r:RepL X h vs (xs.map f)) (q:RepL X h vs (ys.map f)):xs=ys:=by
  have l1:=r.lenM
  refine List.ext_getElem (l1.symm.trans q.lenM) fun j h1 h2=>?_
  obtain ⟨x,hx,a⟩:=r.atM (List.getElem?_eq_getElem (show j < vs.length from Nat.lt_of_lt_of_eq h1 l1.symm))
  obtain ⟨y,hy,b⟩:=q.atM (List.getElem?_eq_getElem (show j < vs.length from Nat.lt_of_lt_of_eq h1 l1.symm))
  exact Option.some.inj ((List.getElem?_eq_getElem h1).symm.trans (hx.trans ((congrArg some (inj _ _ _ _ _ a b)).trans (hy.symm.trans (List.getElem?_eq_getElem h2)))))
theorem all_eq (xs ys:List α) (h:xs.length=ys.length):((List.range xs.length).all fun j=>decide (xs[j]?=ys[j]?))=decide (xs=ys):=by
  rw [Bool.eq_iff_iff,decide_eq_true_eq,List.all_eq_true]
  refine ⟨fun z=>List.ext_getElem? fun j=>?_,fun e j _=>decide_eq_true (e ▸ rfl)⟩
  by_cases hj:j < xs.length
  · exact of_decide_eq_true (z j (List.mem_range.mpr hj))
  · rw [List.getElem?_eq_none (Nat.not_lt.mp hj),List.getElem?_eq_none (Nat.not_lt.mp (h ▸ hj))]
theorem items_at (K : Kd n f) {X : List Addr} {s : Shared} {A : Around} (hu : A.units + n < cLine) {vs ws : List Value} {xs ys : List α} (r : RepL X s.heap vs (xs.map f)) (q : RepL X s.heap ws (ys.map f)) :
    ∀ j (h1:j < vs.toArray.size) (h2:j < ws.toArray.size),EqAt A s vs.toArray[j] ws.toArray[j] (decide (xs[j]?=ys[j]?)):=fun j h1 h2=>by
  obtain ⟨x,hx,r1⟩:=r.atM (List.getElem?_eq_getElem (show j < vs.length from h1))
  obtain ⟨y,hy,q1⟩:=q.atM (List.getElem?_eq_getElem (show j < ws.length from h2))
  rw [hx,hy,show decide (some x=some y)=decide (x=y) from decide_eq_decide.mpr ⟨Option.some.inj,congrArg some⟩]
  exact K.eq x y A X s _ _ hu r1 q1
theorem Kd.lst (K:Kd n f):Kd (n+1) fun xs:List α=>D.lst (xs.map f) where
  inj:=fun X h v x y r q=>by
    obtain ⟨l,vs,nn,rfl,h1,e1,rr⟩:=r.lI
    obtain ⟨b,ws,nm,hE,h2,e2,qq⟩:=q.lI
    obtain rfl:=Value.ref.inj hE
    obtain rfl:=seqO_inj (e1.symm.trans e2)
    exact RepL.injF K.inj rr qq
  eq:=fun x y A X s va vb hu r q=>by
    obtain ⟨l,vs,nn,rfl,h1,e1,rr⟩:=r.lI
    obtain ⟨b,ws,nm,rfl,h2,e2,qq⟩:=q.lI
    by_cases hlb:l=b
    · subst hlb
      obtain rfl:=seqO_inj (e1.symm.trans e2)
      rw [decide_eq_true (RepL.injF K.inj rr qq)]
      exact EqAt.same _
    · have hl:s.heap.IsList l vs.toArray:=⟨_,e1,rfl,nn,rfl⟩
      have hb:s.heap.IsList b ws.toArray:=⟨_,e2,rfl,nm,rfl⟩
      have lx:=rr.lenM
      have ly:=qq.lenM
      refine EqAt.of_refs hlb ?_
      by_cases hxy:x.length=y.length
      · have:=RcAt.lists (A:=A) hl hb (lx.trans (hxy.trans ly.symm)) (by exact Z.l689 hu) (items_at K (A:=A.in1) (by show A.units+1+n < cLine;exact Z.l690 hu) rr qq)
        rwa [lx,all_eq x y hxy] at this
      · rw [decide_eq_false (fun e=>hxy (by rw [e]))]
        exact RcAt.lists_lengths (A:=A) hl hb (bne_iff_ne.mpr fun e=>hxy (lx.symm.trans (e.trans ly))) (by exact Z.l689 hu)
theorem pair_at (K : Kd n f) (K' : Kd n g) {X : List Addr} {s : Shared} {A : Around} (hu : A.units + n < cLine) {vs ws : List Value} {x y : α × β} (r : RepL X s.heap vs [f x.1, g x.2]) (q : RepL X s.heap ws [f y.1, g y.2]) :
    ∀ j (h1:j < vs.toArray.size) (h2:j < ws.toArray.size),EqAt A s vs.toArray[j] ws.toArray[j] ([decide (x.1=y.1),decide (x.2=y.2)].getD j true):=by
  obtain ⟨_,_,rfl,a,b⟩:=r.duo
  obtain ⟨_,_,rfl,a',b'⟩:=q.duo
  intro j h1 h2
  cases j with
  | zero=>exact K.eq _ _ A X s _ _ hu a a'
  | succ j=>cases j with
    | zero=>exact K'.eq _ _ A X s _ _ hu b b'
    | succ j=>exact absurd h1 (Nat.not_lt.mpr (Nat.le_add_left 2 j))
theorem pairAll {x y:α × β}:((List.range (min 2 2)).all (fun j=>[decide (x.1=y.1),decide (x.2=y.2)].getD j true) && (2 == 2))=decide (x=y):=by
  show ((decide (x.1=y.1) && (decide (x.2=y.2) && true)) && true)=_
  rw [Bool.and_true,Bool.and_true,← Bool.decide_and]
  exact decide_eq_decide.mpr Prod.ext_iff.symm
theorem pair_inj (K:Kd n f) (K':Kd m g) {X:List Addr} {h:Heap} {vs:List Value} {x y:α × β} (r:RepL X h vs [f x.1,g x.2]) (q:RepL X h vs [f y.1,g y.2]):x=y:=by
  obtain ⟨_,_,rfl,a,b⟩:=r.duo
  obtain ⟨_,_,e,a',b'⟩:=q.duo
  injection e with e1 e2;injection e2 with e2
  exact Prod.ext (K.inj _ _ _ _ _ a (e1 ▸ a')) (K'.inj _ _ _ _ _ b (e2 ▸ b'))
theorem Kd.pair (K:Kd n f) (K':Kd n g):Kd (n+1) fun x:α × β=>D.tup [f x.1,g x.2] where
  inj:=fun X h v x y r q=>by
    obtain ⟨l,vs,nn,rfl,h1,e1,rr⟩:=r.tI
    obtain ⟨b,ws,nm,hE,h2,e2,qq⟩:=q.tI
    obtain rfl:=Value.ref.inj hE
    obtain rfl:=seqO_inj (e1.symm.trans e2)
    exact pair_inj K K' rr qq
  eq:=fun x y A X s va vb hu r q=>by
    obtain ⟨l,vs,nn,rfl,h1,e1,rr⟩:=r.tI
    obtain ⟨b,ws,nm,rfl,h2,e2,qq⟩:=q.tI
    by_cases hlb:l=b
    · subst hlb
      obtain rfl:=seqO_inj (e1.symm.trans e2)
      rw [decide_eq_true (pair_inj K K' rr qq)]
      exact EqAt.same _
    · have lx:vs.toArray.size=2:=rr.length
      have ly:ws.toArray.size=2:=qq.length
      have:=RcAt.tuples (A:=A) ⟨_,e1,rfl,nn,rfl⟩ ⟨_,e2,rfl,nm,rfl⟩ (by exact Z.l689 hu) (pair_at K K' (A:=A.in1) (by show A.units+1+n < cLine;exact Z.l690 hu) rr qq)
      rw [lx,ly,pairAll] at this
      exact EqAt.of_refs hlb this
theorem Cmp.eqP (K:Kd n f) (K':Kd n g) (hn:n < 500) (x y:α × β):Cmp .Eq (.tup [f x.1,g x.2]) (.tup [f y.1,g y.2]) (D.bool (decide (x=y))):=fun C A X s va vb I R r q=>by
  have hu:=R.u
  have hc:cLine=9900:=rfl
  obtain ⟨l,vs,nn,rfl,h1,e1,rr⟩:=r.tI
  obtain ⟨b,ws,nm,rfl,h2,e2,qq⟩:=q.tI
  have lx:vs.toArray.size=2:=rr.length
  have ly:ws.toArray.size=2:=qq.length
  refine RcAt.tuples (A:=A) ⟨_,e1,rfl,nn,rfl⟩ ⟨_,e2,rfl,nm,rfl⟩ (by exact Z.l691 hc hu) (pair_at K K' (A:=A.in1) (by show A.units+1+n < cLine;exact Z.l692 hc hu hn) rr qq) C.prog C.w _ _ ⟨.refl ..,?_⟩
  rw [lx,ly,pairAll];exact .val _
theorem Cmp.neP (K:Kd n f) (K':Kd n g) (hn:n < 500) (x y:α × β):Cmp .NotEq (.tup [f x.1,g x.2]) (.tup [f y.1,g y.2]) (D.bool (decide (x≠y))):=fun C A X s va vb I R r q=>by
  have hu:=R.u
  have hc:cLine=9900:=rfl
  obtain ⟨l,vs,nn,rfl,h1,e1,rr⟩:=r.tI
  obtain ⟨b,ws,nm,rfl,h2,e2,qq⟩:=q.tI
  have lx:vs.toArray.size=2:=rr.length
  have ly:ws.toArray.size=2:=qq.length
  refine RcNeAt.tuples (A:=A) ⟨_,e1,rfl,nn,rfl⟩ ⟨_,e2,rfl,nm,rfl⟩ (by exact Z.l691 hc hu) (pair_at K K' (A:=A.in1) (by show A.units+1+n < cLine;exact Z.l692 hc hu hn) rr qq) C.prog C.w _ _ ⟨.refl ..,?_⟩
  rw [lx,ly,pairAll,decide_not];exact .val _
theorem Cmp.eqL (K:Kd n f) (hn:n < 500) (xs ys:List α):Cmp .Eq (.lst (xs.map f)) (.lst (ys.map f)) (D.bool (decide (xs=ys))):=fun C A X s va vb I R r q=>by
  have hu:=R.u
  have hc:cLine=9900:=rfl
  obtain ⟨l,vs,nn,rfl,h1,e1,rr⟩:=r.lI
  obtain ⟨b,ws,nm,rfl,h2,e2,qq⟩:=q.lI
  have hl:s.heap.IsList l vs.toArray:=⟨_,e1,rfl,nn,rfl⟩
  have hb:s.heap.IsList b ws.toArray:=⟨_,e2,rfl,nm,rfl⟩
  have lx:=rr.lenM
  have ly:=qq.lenM
  by_cases hxy:xs.length=ys.length
  · refine eq_listAt hl hb (lx.trans (hxy.trans ly.symm)) (by exact Z.l691 hc hu) (items_at K (A:=A.in1) (by show A.units+1+n < cLine;exact Z.l692 hc hu hn) rr qq) ⟨.refl ..,?_⟩
    rw [lx,all_eq xs ys hxy];exact .val _
  · refine eq_list_lengthsAt hl hb (bne_iff_ne.mpr fun e=>hxy (lx.symm.trans (e.trans ly))) (by exact Z.l691 hc hu) ⟨.refl ..,?_⟩
    rw [decide_eq_false (fun e=>hxy (by rw [e]))];exact .val _
theorem Cmp.neL (K:Kd n f) (hn:n < 500) (xs ys:List α):Cmp .NotEq (.lst (xs.map f)) (.lst (ys.map f)) (D.bool (decide (xs≠ys))):=fun C A X s va vb I R r q=>by
  have hu:=R.u
  have hc:cLine=9900:=rfl
  obtain ⟨l,vs,nn,rfl,h1,e1,rr⟩:=r.lI
  obtain ⟨b,ws,nm,rfl,h2,e2,qq⟩:=q.lI
  have hl:s.heap.IsList l vs.toArray:=⟨_,e1,rfl,nn,rfl⟩
  have hb:s.heap.IsList b ws.toArray:=⟨_,e2,rfl,nm,rfl⟩
  have lx:=rr.lenM
  have ly:=qq.lenM
  by_cases hxy:xs.length=ys.length
  · refine RcNeAt.lists (A:=A) hl hb (lx.trans (hxy.trans ly.symm)) (by exact Z.l691 hc hu) (items_at K (A:=A.in1) (by show A.units+1+n < cLine;exact Z.l692 hc hu hn) rr qq) C.prog C.w _ _ ⟨.refl ..,?_⟩
    rw [lx,all_eq xs ys hxy,decide_not];exact .val _
  · refine RcNeAt.lists_lengths (A:=A) hl hb (bne_iff_ne.mpr fun e=>hxy (lx.symm.trans (e.trans ly))) (by exact Z.l691 hc hu) C.prog C.w _ _ ⟨.refl ..,?_⟩
    rw [show decide (xs≠ys)=true from decide_eq_true (fun e=>hxy (by rw [e]))];exact .val _
theorem any_at (K : Kd n f) {X : List Addr} {s : Shared} {x : α} {vx : Value} {vs : List Value} {xs : List α} (rx : Rep X s.heap vx (f x)) (r : RepL X s.heap vs (xs.map f)) :
    ∃ e:Value→Bool,(∀ A:Around,A.units+n < cLine→∀ v,v∈vs.toArray→EqAt A s v vx (e v))∧vs.toArray.any e=decide (x∈xs)∧(∀ (j:Nat) v y,vs[j]?=some v→xs[j]?=some y→e v=decide (y=x)):=by
  have one:∀ v y,Rep X s.heap v (f y)→@decide (Rep X s.heap v (f x)) (Classical.propDecidable _)=decide (y=x):=fun v y ry=>decide_eq_decide.mpr ⟨fun z=>K.inj _ _ _ _ _ ry z,fun z=>z ▸ ry⟩
  refine ⟨fun v=>@decide (Rep X s.heap v (f x)) (Classical.propDecidable _),fun A hu v hv=>?_,?_,fun j v y h1 h2=>?_⟩
  · obtain ⟨j,hj⟩:=List.mem_iff_getElem?.mp (List.mem_toArray.mp hv)
    obtain ⟨y,_,ry⟩:=r.atM hj
    have:=K.eq y x A X s _ _ hu ry rx
    rwa [← one v y ry] at this
  · rw [List.any_toArray,Bool.eq_iff_iff,List.any_eq_true,decide_eq_true_eq]
    refine ⟨fun ⟨v,hv,he⟩=>?_,fun hx=>?_⟩
    · obtain ⟨j,hj⟩:=List.mem_iff_getElem?.mp hv
      obtain ⟨y,hy,ry⟩:=r.atM hj
      rw [one v y ry] at he
      exact of_decide_eq_true he ▸ List.mem_of_getElem? hy
    · obtain ⟨j,hj⟩:=List.mem_iff_getElem?.mp hx
      obtain ⟨v,hv,rr⟩:=r.get (k:=j) (d:=f x) (by rw [List.getElem?_map,hj];rfl)
      exact ⟨v,List.mem_of_getElem? hv,(one v x rr).trans (decide_eq_true rfl)⟩
  · obtain ⟨z,hz,rz⟩:=r.atM h1
    exact (one v z rz).trans (Option.some.inj (hz.symm.trans h2) ▸ rfl)
theorem Cmp.notInL (K:Kd n f) (hn:n < 500) (x:α) (xs:List α):Cmp .NotIn (f x) (.lst (xs.map f)) (D.bool (decide (x∉xs))):=fun C A X s va vb I R r q=>by
  have hu:=R.u
  have hc:cLine=9900:=rfl
  obtain ⟨b,ws,nm,rfl,h2,e2,qq⟩:=q.lI
  have hb:s.heap.IsList b ws.toArray:=⟨_,e2,rfl,nm,rfl⟩
  obtain ⟨e,h1,h3,_⟩:=any_at K r qq
  refine notIn_listAt e hb (h1 A.in1 (by show A.units+1+n < cLine;exact Z.l692 hc hu hn)) ⟨.refl ..,?_⟩
  rw [h3,decide_not];exact .val _
end
theorem Cmp.is (a b:Value) (hp:plainIs a b=true):Cmp .Is (.val a) (.val b) (D.bool (a == b)):=fun C A X s va vb I R r q=>by
  (first | obtain rfl:=r.vI | obtain ⟨_,rfl⟩:=r.iI | obtain ⟨_,rfl⟩:=r.sI | obtain ⟨_,rfl⟩:=r.bI | obtain rfl:=r.nI | cases r);(first | obtain rfl:=q.vI | obtain ⟨_,rfl⟩:=q.iI | obtain ⟨_,rfl⟩:=q.sI | obtain ⟨_,rfl⟩:=q.bI | obtain rfl:=q.nI | cases q);exact wpAny_is_plain hp ⟨.refl ..,.val _⟩
theorem Cmp.isNot (a b:Value) (hp:plainIs a b=true):Cmp .IsNot (.val a) (.val b) (D.bool (!(a == b))):=fun C A X s va vb I R r q=>by
  (first | obtain rfl:=r.vI | obtain ⟨_,rfl⟩:=r.iI | obtain ⟨_,rfl⟩:=r.sI | obtain ⟨_,rfl⟩:=r.bI | obtain rfl:=r.nI | cases r);(first | obtain rfl:=q.vI | obtain ⟨_,rfl⟩:=q.iI | obtain ⟨_,rfl⟩:=q.sI | obtain ⟨_,rfl⟩:=q.bI | obtain rfl:=q.nI | cases q);exact wpAny_isNot_plain hp ⟨.refl ..,.val _⟩
theorem Cmp.isB (a b:Bool):Cmp .Is (D.bool a) (D.bool b) (D.bool (decide (a=b))):=by
  have:=Cmp.is (.bool a) (.bool b) (by cases a <;> cases b <;> rfl)
  have e:(Value.bool a == Value.bool b)=decide (a=b):=by cases a <;> cases b <;> rfl
  rwa [e] at this
theorem Cmp.isNotB (a b:Bool):Cmp .IsNot (D.bool a) (D.bool b) (D.bool (decide (a≠b))):=by
  have:=Cmp.isNot (.bool a) (.bool b) (by cases a <;> cases b <;> rfl)
  have e:(!(Value.bool a == Value.bool b))=decide (a≠b):=by cases a <;> cases b <;> rfl
  rwa [e] at this
theorem Cmp.isNone:Cmp .Is D.nil D.nil (D.bool true):=Cmp.is .none .none rfl
theorem Cmp.eqs (a b:List Nat):Cmp .Eq (.s a) (.s b) (D.bool (decide (a=b))):=by
  have:=Cmp.eqS (x:=sl a) (y:=sl b)
  rwa [show ((sl a).cps.toList == (sl b).cps.toList)=decide (a=b) from by rw [show (sl a).cps.toList=a from rfl,show (sl b).cps.toList=b from rfl];exact Bool.beq_eq_decide_eq a b] at this
theorem Cmp.nes (a b:List Nat):Cmp .NotEq (.s a) (.s b) (D.bool (decide (a≠b))):=by
  have:=Cmp.neS (x:=sl a) (y:=sl b)
  rwa [show ((sl a).cps.toList != (sl b).cps.toList)=decide (a≠b) from by
    by_cases h:a=b
    · subst h;simp
    · simp [sl,h,bne]] at this
theorem Cmp.lts (a b:List Nat):Cmp .Lt (.s a) (.s b) (D.bool (decide (a < b))):=by
  have:=Cmp.ltS (x:=sl a) (y:=sl b)
  simpa [sl] using this
theorem Cmp.gts (a b:List Nat):Cmp .Gt (.s a) (.s b) (D.bool (decide (b < a))):=by
  have:=Cmp.gtS (x:=sl a) (y:=sl b)
  simpa [sl] using this
end Mine
end
section
open PySem PySem.Calls PySem.W PyProof.Rows PySem.SeqAt PySem.Builtin.Str
open AutoSeq1 (wpAny_loadPart')
namespace Mine
section
variable {α β γ:Type} [DecidableEq α] [DecidableEq β] [DecidableEq γ] {n m k:Nat} {f:α→D} {g:β→D} {e:γ→D}
theorem tupAll {x y:List α}:((List.range (min x.length y.length)).all (fun j=>decide (x[j]?=y[j]?)) && x.length == y.length)=decide (x=y):=by
  by_cases hxy:x.length=y.length
  · rw [← hxy,Nat.min_self,all_eq x y hxy,beq_self_eq_true,Bool.and_true]
  · rw [decide_eq_false (fun e=>hxy (by rw [e])),beq_eq_false_iff_ne.mpr hxy,Bool.and_false]
theorem Kd.tupL (K:Kd n f):Kd (n+1) fun xs:List α=>D.tup (xs.map f) where
  inj:=fun X h v x y r q=>by
    obtain ⟨l,vs,nn,rfl,h1,e1,rr⟩:=r.tI
    obtain ⟨b,ws,nm,hE,h2,e2,qq⟩:=q.tI
    obtain rfl:=Value.ref.inj hE
    obtain rfl:=seqO_inj (e1.symm.trans e2)
    exact RepL.injF K.inj rr qq
  eq:=fun x y A X s va vb hu r q=>by
    obtain ⟨l,vs,nn,rfl,h1,e1,rr⟩:=r.tI
    obtain ⟨b,ws,nm,rfl,h2,e2,qq⟩:=q.tI
    by_cases hlb:l=b
    · subst hlb
      obtain rfl:=seqO_inj (e1.symm.trans e2)
      rw [decide_eq_true (RepL.injF K.inj rr qq)]
      exact EqAt.same _
    · have:=RcAt.tuples (A:=A) ⟨_,e1,rfl,nn,rfl⟩ ⟨_,e2,rfl,nm,rfl⟩ (by exact Z.l689 hu) (items_at K (A:=A.in1) (by show A.units+1+n < cLine;exact Z.l690 hu) rr qq)
      rw [rr.lenM,qq.lenM,tupAll] at this
      exact EqAt.of_refs hlb this
theorem Kd.comap (K:Kd n f) (φ:β→α) (hi:∀ x y,φ x=φ y→x=y) (hg:∀ x,g x=f (φ x)):Kd n g where
  inj:=fun X h v x y r q=>by rw [hg] at r q;exact hi _ _ (K.inj _ _ _ _ _ r q)
  eq:=fun x y A X s va vb hu r q=>by
    rw [hg] at r q
    have:=K.eq _ _ A X s va vb hu r q
    rwa [show decide (φ x=φ y)=decide (x=y) from decide_eq_decide.mpr ⟨hi _ _,congrArg φ⟩] at this
noncomputable abbrev D.t3 (x:Int × Int × Int):D:=.tup [.int x.1,.int x.2.1,.int x.2.2]
theorem Kd.t3:Kd 1 D.t3:=Kd.comap Kd.int.tupL (fun x=>[x.1,x.2.1,x.2.2]) (fun x y h=>by
  injection h with h1 h;injection h with h2 h;injection h with h3
  exact Prod.ext h1 (Prod.ext h2 h3)) fun _=>rfl
end
theorem Bin.fdiv {a b:Int} (hb:b≠0) (hp:Builtin.divisionGoesByPylong a b=false):Bin .FloorDiv (.int a) (.int b) (.int (a.fdiv b)):=fun C A X s va vb _ _ r q=>by
  (first | obtain rfl:=r.vI | obtain ⟨_,rfl⟩:=r.iI | obtain ⟨_,rfl⟩:=r.sI | obtain ⟨_,rfl⟩:=r.bI | obtain rfl:=r.nI | cases r);(first | obtain rfl:=q.vI | obtain ⟨_,rfl⟩:=q.iI | obtain ⟨_,rfl⟩:=q.sI | obtain ⟨_,rfl⟩:=q.bI | obtain rfl:=q.nI | cases q);exact AutoIntOps.floordiv_1 (by simpa using hb) (by rw [hp];exact Bool.false_ne_true) ⟨.tok,.int ..⟩
theorem Bin.fmod {a b:Int} (hb:b≠0):Bin .Mod (.int a) (.int b) (.int (a.fmod b)):=fun C A X s va vb _ _ r q=>by
  (first | obtain rfl:=r.vI | obtain ⟨_,rfl⟩:=r.iI | obtain ⟨_,rfl⟩:=r.sI | obtain ⟨_,rfl⟩:=r.bI | obtain rfl:=r.nI | cases r);(first | obtain rfl:=q.vI | obtain ⟨_,rfl⟩:=q.iI | obtain ⟨_,rfl⟩:=q.sI | obtain ⟨_,rfl⟩:=q.bI | obtain rfl:=q.nI | cases q);exact AutoIntOps.mod_1 (by simpa using hb) ⟨.tok,.int ..⟩
theorem Bin.addS {a b:List Nat} (h:a.length+b.length≤sizeLine):Bin .Add (.s a) (.s b) (.s (a++b)):=fun C A X s va vb _ _ r q=>by
  (first | obtain rfl:=r.vI | obtain ⟨_,rfl⟩:=r.iI | obtain ⟨_,rfl⟩:=r.sI | obtain ⟨_,rfl⟩:=r.bI | obtain rfl:=r.nI | cases r);(first | obtain rfl:=q.vI | obtain ⟨_,rfl⟩:=q.iI | obtain ⟨_,rfl⟩:=q.sI | obtain ⟨_,rfl⟩:=q.bI | obtain rfl:=q.nI | cases q)
  refine SB.add (fun t' k=>⟨.tok,?_⟩) (by rw [sl_len,sl_len];exact h)
  rw [sl_add];exact .str ..
theorem Inp.addS {a b:List Nat} (h:a.length+b.length≤sizeLine):Inp .Add (.s a) (.s b) (.s (a++b)):=fun C A X s va vb _ _ r q=>by
  (first | obtain rfl:=r.vI | obtain ⟨_,rfl⟩:=r.iI | obtain ⟨_,rfl⟩:=r.sI | obtain ⟨_,rfl⟩:=r.bI | obtain rfl:=r.nI | cases r);(first | obtain rfl:=q.vI | obtain ⟨_,rfl⟩:=q.iI | obtain ⟨_,rfl⟩:=q.sI | obtain ⟨_,rfl⟩:=q.bI | obtain rfl:=q.nI | cases q)
  refine SB.iadd (fun t' k=>⟨.tok,?_⟩) (by rw [sl_len,sl_len];exact h)
  rw [sl_add];exact .str ..
theorem Bin.addL {as bs:List D} (h:as.length+bs.length≤sizeLine):Bin .Add (.lst as) (.lst bs) (.lst (as++bs)):=fun C A X s va vb I _ r q=>by
  have hI:=r.lI;clear r;obtain ⟨l,vs,nn,hE,h1,e1,r⟩:=hI;cases hE
  have hI:=q.lI;clear q;obtain ⟨b,ws,nm,hE,h2,e2,q⟩:=hI;cases hE
  refine P.add_list (n:=nn) (n2:=nm) e1 e2 ⟨.push',?_⟩ (by rw [List.size_toArray,List.size_toArray,r.length,q.length];exact h)
  refine .lst (vs:=vs++ws) (n:=0) I.fresh ?_ ((r.append q).mono fun b o hb e=>⟨hb,Heap.get?_push_of_some _ e⟩)
  rw [List.append_toArray];exact Heap.get?_push_size _ rfl
theorem noPylong {a b:Int} (h:b.natAbs < 2 ^ 64):Builtin.divisionGoesByPylong a b=false:=by
  unfold Builtin.divisionGoesByPylong
  have:b.natAbs.log2 < 64∨b.natAbs=0:=by
    by_cases h0:b.natAbs=0
    · exact .inr h0
    · exact .inl ((Nat.log2_lt h0).mpr h)
  simp only [Bool.and_eq_false_iff,decide_eq_false_iff_not]
  left
  split
  · exact Z.l693
  · rename_i hb
    have hb':b.natAbs≠0:=by simpa using hb
    have:=this.resolve_right hb'
    exact Z.l694 this
theorem Bin.div {a b:Int} (h0:0 < b) (h:b < 2 ^ 64):Bin .FloorDiv (.int a) (.int b) (.int (a / b)):=by
  have:=Bin.fdiv (a:=a) (b:=b) (by exact Z.l695 h0) (noPylong (by lia))
  rwa [Int.fdiv_eq_ediv_of_nonneg _ (by exact Z.l697 h0)] at this
theorem Bin.mod {a b:Int} (h0:0 < b):Bin .Mod (.int a) (.int b) (.int (a % b)):=by
  have:=Bin.fmod (a:=a) (b:=b) (by exact Z.l695 h0)
  rwa [Int.fmod_eq_emod_of_nonneg _ (by exact Z.l697 h0)] at this
theorem Bin.pow {a b:Int} (ha:2≤a) (ha':a < 2 ^ 10) (hb:0≤b) (hb':b≤1000):Bin .Pow (.int a) (.int b) (.int (a ^ b.toNat)):=fun C A X s va vb _ _ r q=>by
  (first | obtain rfl:=r.vI | obtain ⟨_,rfl⟩:=r.iI | obtain ⟨_,rfl⟩:=r.sI | obtain ⟨_,rfl⟩:=r.bI | obtain rfl:=r.nI | cases r);(first | obtain rfl:=q.vI | obtain ⟨_,rfl⟩:=q.iI | obtain ⟨_,rfl⟩:=q.sI | obtain ⟨_,rfl⟩:=q.bI | obtain rfl:=q.nI | cases q)
  by_cases h0:b=0
  · subst h0
    exact AutoIntOps.pow_0 (by exact Z.l698) rfl ⟨.tok,by simpa using Rep.int (X:=X) 1 _⟩
  · refine AutoIntOps.pow_4 (by exact Z.l699 hb) (by simpa using h0) (by simp;exact Z.l700 ha) (by simp;exact Z.l701 ha) ?_ ⟨.tok,.int ..⟩
    unfold Builtin.Int.intTooBig Builtin.Int.intBits
    have hl:a.natAbs.log2 < 10:=(Nat.log2_lt (by lia)).mpr (by lia)
    rw [if_neg (by simp;exact Z.l704 ha)]
    simp only [decide_eq_true_eq,Int.not_lt]
    have h1:((a.natAbs.log2+1:Nat):Int)*b≤10*1000:=by
      refine Int.le_trans (Int.mul_le_mul_of_nonneg_right (b:=10) (by exact Z.l705 hl) hb) (by exact Z.l706 hb')
    have h2:(10*1000:Int)≤((bitsLine:Nat):Int):=by decide
    exact Z.l707 h1 h2
theorem rep_fold (l:List Nat):∀ (n:Nat) (acc:Array Nat),((List.replicate n l.toArray).foldl (·++·) acc)=acc++((List.replicate n l).flatten).toArray
  | 0,acc=>by simp
  | n+1,acc=>by
    rw [List.replicate_succ,List.foldl_cons,rep_fold l n,List.replicate_succ,List.flatten_cons]
    simp [Array.append_assoc]
theorem Bin.mulS {a:List Nat} {n:Int} (h0:0≤n) (h:n≤1000) (ha:a.length≤1000):Bin .Mult (.s a) (.int n) (.s ((List.replicate n.toNat a).flatten)):=fun C A X s va vb _ _ r q=>by
  (first | obtain rfl:=r.vI | obtain ⟨_,rfl⟩:=r.iI | obtain ⟨_,rfl⟩:=r.sI | obtain ⟨_,rfl⟩:=r.bI | obtain rfl:=r.nI | cases r);(first | obtain rfl:=q.vI | obtain ⟨_,rfl⟩:=q.iI | obtain ⟨_,rfl⟩:=q.sI | obtain ⟨_,rfl⟩:=q.bI | obtain rfl:=q.nI | cases q)
  have e:Txt.mul (sl a) n=sl ((List.replicate n.toNat a).flatten):=by
    unfold Txt.mul
    by_cases h1:n < 1
    · rw [if_pos h1,show n.toNat=0 from by exact Z.l708 h1];rfl
    · rw [if_neg h1]
      split
      · rename_i hc
        rw [sl_len] at hc
        rcases Bool.or_eq_true _ _ ▸ hc with hc | hc
        · have:n=1:=by simpa using hc
          subst this;simp
        · have:a=[]:=by simpa using hc
          subst this;simp [sl]
      · show Str.mk _=_
        rw [rep_fold];simp [sl]
  refine SB.mul ⟨by simp;exact Z.l709 h0 h,fun _ _=>?_,fun _ _=>?_⟩ (fun t' k=>⟨.tok,e ▸ .str ..⟩)
  · rw [sl_len]
    have:1000≤(2 ^ 63 - 1) / n:=by
      refine (Int.le_ediv_iff_mul_le (by exact Z.l710 (by assumption))).mpr ?_
      have:1000*n≤1000*1000:=by exact Z.l711 h
      exact Int.le_trans this (by decide)
    exact Z.l712 ha this
  · rw [sl_len]
    have h3:a.length*n.toNat≤1000*1000:=Nat.mul_le_mul ha (by exact Z.l713 h)
    unfold tooLong
    have:sizeLine=16777216:=rfl
    simp;exact Z.l714 this h3
noncomputable def clipN (n:Nat) (i:Int):Nat:=(max 0 (min (if i < 0 then i+n else i) n)).toNat
noncomputable def cut {α:Type} (l:List α) (lo hi:Option Int):List α :=
  (l.drop (lo.elim 0 (clipN l.length))).take (hi.elim l.length (clipN l.length) - lo.elim 0 (clipN l.length))
theorem bounds_clip (lo hi:Option Int) (n:Nat):sliceBounds lo hi none n=(((lo.elim 0 (clipN n):Nat):Int),((hi.elim n (clipN n):Nat):Int),1):=by
  unfold sliceBounds clipN
  cases lo <;> cases hi <;> simp <;> lia
theorem slicePick_cut (vs:List Value) (lo hi:Option Int):slicePick vs.toArray lo hi none=(cut vs lo hi).toArray:=by
  unfold slicePick
  rw [bounds_clip]
  simp only [sliceRange_one,pick_run]
  simp [cut]
theorem strSlice_cut (l:List Nat) (lo hi:Option Int):(strSliceIndices lo hi 1 l.length).filterMap (l.toArray[·]?)=cut l lo hi:=by
  have:strSliceIndices lo hi 1 l.length=sliceRange (sliceBounds lo hi none l.length).1 (sliceBounds lo hi none l.length).2.1 (sliceBounds lo hi none l.length).2.2:=rfl
  rw [this,bounds_clip]
  simp only [sliceRange_one,pick_run]
  simp [cut]
theorem cut_len_le {α:Type} (l:List α) (lo hi:Option Int):(cut l lo hi).length≤l.length:=((List.take_sublist _ _).trans (List.drop_sublist _ _)).length_le
theorem RepL.cut {X:List Addr} {h:Heap} {vs:List Value} {ds:List D} (r:RepL X h vs ds) (lo hi:Option Int):RepL X h (cut vs lo hi) (cut ds lo hi):=by
  unfold Mine.cut
  rw [r.length]
  exact (r.drop _).take _
theorem cut_map {α β:Type} (f:α→β) (l:List α) (lo hi:Option Int):cut (l.map f) lo hi=(cut l lo hi).map f:=by
  unfold cut
  simp [List.map_drop,List.map_take]
noncomputable def EvP (g:G) (ρ:List (Option D)) (μ:List (Addr × Mut)) (e:Option Expr) (i:Option Int):Prop:=∀ s,St g ρ μ s→Dn g.C g.A [] s (evalPart e g.env) fun v s'=>IsPart v i
section
variable {g:G} {ρ:List (Option D)} {μ:List (Addr × Mut)} {S:List Addr} {s:Shared}
theorem EvP.none:EvP g ρ μ none none:=fun s y=>by rw [evalPart_none];exact wpAny_pure ⟨.refl ..,.none⟩
theorem EvP.some {e:Expr} {i:Int} (h:Ev g ρ μ e (.int i)):EvP g ρ μ (some e) (some i):=fun s y=>by
  rw [evalPart_some]
  exact (h s y).mono fun v s' ex r=>by (first | obtain rfl:=r.vI | obtain ⟨_,rfl⟩:=r.iI | obtain ⟨_,rfl⟩:=r.sI | obtain ⟨_,rfl⟩:=r.bI | obtain rfl:=r.nI | cases r);exact .int ..
theorem Ev.slice {v : Expr} {lo hi st : Option Expr} {p pos : Pos} {a d : D} {i j k : Option Int} (hv : Ev g ρ μ v a) (hl : EvP g ρ μ lo i) (hh : EvP g ρ μ hi j) (hs : EvP g ρ μ st k)
    (o:∀ (C:Cx) (A:Around) X s va l u c,Inv C X s→Room A 0→Rep X s.heap va a→IsPart l i→IsPart u j→IsPart c k →
      Dn C A [] { s with heap:=s.heap.push { cls:=.type "slice",data:=.fields #[l,u,c] } } (subscriptTail v (.Slice lo hi st p) va (.ref s.heap.objs.size)) fun w s'=>Rep X s'.heap w d) (R:Room g.A 0) :
    Ev g ρ μ (.Subscript v (.Slice lo hi st p) pos) d:=fun s x =>
  Subscript_ (hv.wp x fun va s₁ x₁ r₁ e₁=>wpAny_Slice ((hl s₁ x₁).use fun l s₂ e₂ p₂=>(hh s₂ (x₁.ext e₂)).use fun u s₃ e₃ p₃=>(hs s₃ ((x₁.ext e₂).ext e₃)).use fun c s₄ e₄ p₄=>by
    have e₁₄:Ext g.C [] s₁ s₄:=(e₂.trans e₃).trans e₄
    refine (o g.C g.A g.X s₄ va l u c (x₁.ext e₁₄).inv R (r₁.ext e₁₄ (fun _ h=>nomatch h) x₁.inv.pin) p₂ p₃ p₄).use fun w s₅ e₅ r₅=>⟨((e₁.trans e₁₄).trans .push').trans e₅,r₅⟩))
theorem Ev.sliceL {v : Expr} {lo hi : Option Expr} {p pos : Pos} {ds : List D} {i j : Option Int} (R : Room g.A 0) (hv : Ev g ρ μ v (.lst ds)) (hl : EvP g ρ μ lo i) (hh : EvP g ρ μ hi j) (hz : ds.length ≤ sizeLine) :
    Ev g ρ μ (.Subscript v (.Slice lo hi Option.none p) pos) (.lst (cut ds i j)):=Ev.slice hv hl hh EvP.none (fun C A X s va l u c I R r p1 p2 p3=>by
  (first | obtain rfl:=p3.vI | obtain ⟨_,rfl⟩:=p3.iI | obtain ⟨_,rfl⟩:=p3.sI | obtain ⟨_,rfl⟩:=p3.bI | obtain rfl:=p3.nI | cases p3)
  have hI:=r.lI;clear r;obtain ⟨a,vs,nn,hE,h1,e1,r⟩:=hI;cases hE
  have hL:s.heap.IsList a vs.toArray:=⟨_,e1,rfl,nn,rfl⟩
  refine tail_any (s:={ s with heap:=s.heap.push { cls:=.type "slice",data:=.fields #[l,u,.none] } }) (Heap.IsList.typeIs (s:={ s with heap:=s.heap.push { cls:=.type "slice",data:=.fields #[l,u,.none] } }) (hL.push _)) slot_list_getitem.lookup (wpAny_getItem_list_slice (hL.push _) (Heap.IsSliceOf.new ..) p1 p2 .none (by simp) ⟨.push',?_⟩ (by rw [List.size_toArray,r.length];exact hz)) rfl
  refine .lst (vs:=cut vs i j) (n:=0) ?_ ?_ ((r.cut i j).mono fun b o hb e=>⟨hb,Heap.get?_push_of_some _ (Heap.get?_push_of_some _ e)⟩)
  · intro q
    have:=I.lt q
    rw [Heap.size_push] at this
    exact Nat.lt_irrefl _ (Nat.lt_of_succ_lt this)
  · rw [slicePick_cut];exact Heap.get?_push_size _ rfl) R
theorem slice_cut (t:List Nat) (i j:Option Int):Txt.slice (sl t) i j=sl (cut t i j):=by
  unfold Txt.slice
  rw [sl_len,strSlice_cut]
  split
  · rename_i h
    have hl:(strSliceIndices i j 1 t.length).length=t.length:=by simpa using h
    rw [show strSliceIndices i j 1 t.length=sliceRange (sliceBounds i j Option.none t.length).1 (sliceBounds i j Option.none t.length).2.1 (sliceBounds i j Option.none t.length).2.2 from rfl,bounds_clip,sliceRange_one,List.length_map,List.length_range] at hl
    have hb:j.elim t.length (clipN t.length)≤t.length:=by
      cases j
      · exact Nat.le_refl _
      · show clipN t.length _≤_;unfold clipN;lia
    refine congrArg sl (List.Sublist.eq_of_length ((List.take_sublist _ _).trans (List.drop_sublist _ _)) ?_).symm
    rw [List.length_take,List.length_drop]
    lia
  · rfl
theorem partOpt {v:Value} {i:Option Int} (p:IsPart v i):∃ o:Option (Int × Tok),partValue o=v∧o.map (·.1)=i:=by
  cases p with
  | none=>exact ⟨Option.none,rfl,rfl⟩
  | int i t=>exact ⟨some (i,t),rfl,rfl⟩
theorem Ev.sliceS {v : Expr} {lo hi : Option Expr} {p pos : Pos} {t : List Nat} {i j : Option Int} (R : Room g.A 0) (hv : Ev g ρ μ v (.s t)) (hl : EvP g ρ μ lo i) (hh : EvP g ρ μ hi j) (hz : t.length ≤ sizeLine) :
    Ev g ρ μ (.Subscript v (.Slice lo hi Option.none p) pos) (.s (cut t i j)):=Ev.slice hv hl hh EvP.none (fun C A X s va l u c I R r p1 p2 p3=>by
  cases p3
  obtain ⟨t',rfl⟩:=r.sI
  obtain ⟨l,rfl,rfl⟩:=partOpt p1
  obtain ⟨u,rfl,rfl⟩:=partOpt p2
  have fin:∀ (z:Str) (h:Heap) t',z=Txt.slice (sl t) (l.map (·.1)) (u.map (·.1))→Rep X h (.str z t') (.s (cut t (l.map (·.1)) (u.map (·.1)))):=fun z h t' e=>by rw [e,slice_cut];exact .str ..
  exact tail_any (typeIs_str _ _ _) F.slot_str_getitem.lookup (wpAny_getItem_str_slice (l:=l) (u:=u) (st:=Option.none) ⟨_,Heap.get?_push_size _ rfl,rfl,rfl⟩ rfl (post_val_or_str ⟨Nat.le_trans (Txt.slice_le _ _ _) (by rw [sl_len];exact hz),fun t' k=>⟨.tok,fin _ _ _ rfl⟩⟩)) rfl) R
theorem Ev.revL {v st : Expr} {p pos : Pos} {ds : List D} (R : Room g.A 0) (hv : Ev g ρ μ v (.lst ds)) (hst : Ev g ρ μ st (.int (-1))) (hz : ds.length ≤ sizeLine) :
    Ev g ρ μ (.Subscript v (.Slice Option.none Option.none (Option.some st) p) pos) (.lst ds.reverse):=Ev.slice hv EvP.none EvP.none (EvP.some hst) (fun C A X s va l u c I R r p1 p2 p3=>by
  (first | obtain rfl:=p1.vI | obtain ⟨_,rfl⟩:=p1.iI | obtain ⟨_,rfl⟩:=p1.sI | obtain ⟨_,rfl⟩:=p1.bI | obtain rfl:=p1.nI | cases p1);(first | obtain rfl:=p2.vI | obtain ⟨_,rfl⟩:=p2.iI | obtain ⟨_,rfl⟩:=p2.sI | obtain ⟨_,rfl⟩:=p2.bI | obtain rfl:=p2.nI | cases p2);(first | obtain rfl:=p3.vI | obtain ⟨_,rfl⟩:=p3.iI | obtain ⟨_,rfl⟩:=p3.sI | obtain ⟨_,rfl⟩:=p3.bI | obtain rfl:=p3.nI | cases p3)
  have hI:=r.lI;clear r;obtain ⟨a,vs,nn,hE,h1,e1,r⟩:=hI;cases hE
  have hL:s.heap.IsList a vs.toArray:=⟨_,e1,rfl,nn,rfl⟩
  refine tail_any (s:={ s with heap:=s.heap.push { cls:=.type "slice",data:=.fields #[.none,.none,.int (-1) _] } }) (Heap.IsList.typeIs (s:={ s with heap:=s.heap.push { cls:=.type "slice",data:=.fields #[.none,.none,.int (-1) _] } }) (hL.push _)) slot_list_getitem.lookup (wpAny_getItem_list_slice (hL.push _) (Heap.IsSliceOf.new ..) .none .none (.int ..) (by simp) ⟨.push',?_⟩ (by rw [List.size_toArray,r.length];exact hz)) rfl
  refine .lst (vs:=vs.reverse) (n:=0) ?_ ?_ (r.reverse.mono fun b o hb e=>⟨hb,Heap.get?_push_of_some _ (Heap.get?_push_of_some _ e)⟩)
  · intro q
    have:=I.lt q
    rw [Heap.size_push] at this
    exact Nat.lt_irrefl _ (Nat.lt_of_succ_lt this)
  · rw [PySem.W.krv_pick];exact Heap.get?_push_size _ rfl) R
theorem Ev.itemL {v i : Expr} {pos : Pos} {ds : List D} {k : Int} {d : D} (R : Room g.A 0) (hv : Ev g ρ μ v (.lst ds)) (hi : Ev g ρ μ i (.int k)) (h0 : 0 ≤ k) (hd : ds[k.toNat]? = Option.some d) (hz : ds.length ≤ sizeLine)
    (hs:∀ a t,subscripted i false (.ref a) (.int k t)=operate [.ref a,.int k t] (getItem (.ref a) (.int k t)):=by intro _ _;rfl):Ev g ρ μ (.Subscript v i pos) d:=Ev.sub R hv hi fun C A X s va vb I R r q=>by
  (first | obtain rfl:=q.vI | obtain ⟨_,rfl⟩:=q.iI | obtain ⟨_,rfl⟩:=q.sI | obtain ⟨_,rfl⟩:=q.bI | obtain rfl:=q.nI | cases q)
  have hI:=r.lI;clear r;obtain ⟨a,vs,nn,hE,h1,e1,r⟩:=hI;cases hE
  have hL:s.heap.IsList a vs.toArray:=⟨_,e1,rfl,nn,rfl⟩
  obtain ⟨w,hw,rw'⟩:=r.get hd
  have hlt:k.toNat < ds.length:=(List.getElem?_eq_some_iff.mp hd).1
  have:sizeLine=16777216:=rfl
  exact tail_any hL.typeIs slot_list_getitem.lookup (wpAny_getItem_list hL h0 (by exact Z.l717 this hz hlt) (by simpa using hw) ⟨.refl ..,rw'⟩) (hs _ _)
theorem Ev.itemT {v i : Expr} {pos : Pos} {ds : List D} {k : Int} {d : D} (R : Room g.A 0) (hv : Ev g ρ μ v (.tup ds)) (hi : Ev g ρ μ i (.int k)) (h0 : 0 ≤ k) (hd : ds[k.toNat]? = Option.some d) (hz : ds.length ≤ sizeLine)
    (hs:∀ a t,subscripted i false (.ref a) (.int k t)=operate [.ref a,.int k t] (getItem (.ref a) (.int k t)):=by intro _ _;rfl):Ev g ρ μ (.Subscript v i pos) d:=Ev.sub R hv hi fun C A X s va vb I R r q=>by
  (first | obtain rfl:=q.vI | obtain ⟨_,rfl⟩:=q.iI | obtain ⟨_,rfl⟩:=q.sI | obtain ⟨_,rfl⟩:=q.bI | obtain rfl:=q.nI | cases q)
  have hI:=r.tI;clear r;obtain ⟨a,vs,nn,hE,h1,e1,r⟩:=hI;cases hE
  have hL:IsTup s.heap a vs.toArray:=⟨_,e1,rfl,nn,rfl⟩
  obtain ⟨w,hw,rw'⟩:=r.get hd
  have hlt:k.toNat < ds.length:=(List.getElem?_eq_some_iff.mp hd).1
  have:sizeLine=16777216:=rfl
  refine item_tupleT hL (by exact Z.l718 h0) (by exact Z.l717 this hz hlt) (j:=k.toNat) ?_ hw ⟨.refl ..,rw'⟩ (hs _ _)
  unfold seqIndex?
  rw [r.length]
  simp;lia
theorem Ev.itemS {v i : Expr} {pos : Pos} {t : List Nat} {k : Int} {c : Nat} (R : Room g.A 0) (hv : Ev g ρ μ v (.s t)) (hi : Ev g ρ μ i (.int k)) (h0 : 0 ≤ k) (hd : t[k.toNat]? = Option.some c) (hz : t.length ≤ sizeLine)
    (hs:∀ x u t,subscripted i false (.str x u) (.int k t)=operate [.str x u,.int k t] (getItem (.str x u) (.int k t)):=by intro _ _ _;rfl):Ev g ρ μ (.Subscript v i pos) (.s [c]):=Ev.sub R hv hi fun C A X s va vb I R r q=>by
  (first | obtain rfl:=q.vI | obtain ⟨_,rfl⟩:=q.iI | obtain ⟨_,rfl⟩:=q.sI | obtain ⟨_,rfl⟩:=q.bI | obtain rfl:=q.nI | cases q)
  (first | obtain rfl:=r.vI | obtain ⟨_,rfl⟩:=r.iI | obtain ⟨_,rfl⟩:=r.sI | obtain ⟨_,rfl⟩:=r.bI | obtain rfl:=r.nI | cases r)
  have hlt:k.toNat < t.length:=(List.getElem?_eq_some_iff.mp hd).1
  have:sizeLine=16777216:=rfl
  refine tail_any (typeIs_str _ _ _) F.slot_str_getitem.lookup (P.getItem_str (c:=c) (by simp;lia) ?_ ⟨.tok,.str ..⟩) (hs _ _ _)
  have hj:seqIndex? k t.length=Option.some k.toNat:=by
    unfold seqIndex?
    simp only [if_neg (show ¬ k < 0 by exact Z.l721 h0)]
    rw [if_pos (by simp;exact Z.l722 h0 hlt)]
  rw [sl_len,hj]
  simpa using hd
end
end Mine
end
section
open PySem PySem.Calls PySem.W PyProof.Rows PySem.SeqAt PySem.Builtin.Str
open AutoSeq1 (wpAny_loadPart')
namespace Mine
theorem RepL.ints {X:List Addr} {h:Heap} {vs:List Value} {ns:List Int} (r:RepL X h vs (ns.map D.int)):IntsAre vs ns:=by
  induction ns generalizing vs with
  | nil=>obtain rfl:=r.nI;exact .nil
  | cons n ns ih =>
    obtain ⟨v,ws,rfl,a,r'⟩:=r.cI
    obtain ⟨t,rfl⟩:=a.iI
    exact .cons _ _ (ih r')
theorem RepL.strs {X:List Addr} {h:Heap} {vs:List Value} {ns:List (List Nat)} (r:RepL X h vs (ns.map D.s)):StrsAre vs (ns.map sl):=by
  induction ns generalizing vs with
  | nil=>obtain rfl:=r.nI;exact .nil
  | cons n ns ih =>
    obtain ⟨v,ws,rfl,a,r'⟩:=r.cI
    obtain ⟨t,rfl⟩:=a.sI
    exact .cons _ _ (ih r')
theorem RepL.one {X:List Addr} {h:Heap} {vs:List Value} {d:D} (r:RepL X h vs [d]):∃ v,vs=[v]∧Rep X h v d:=by
  obtain ⟨v,ws,rfl,a,r⟩:=r.cI
  obtain rfl:=r.nI
  exact ⟨_,rfl,a⟩
theorem RepL.two {X:List Addr} {h:Heap} {vs:List Value} {d e:D} (r:RepL X h vs [d,e]):∃ v w,vs=[v,w]∧Rep X h v d∧Rep X h w e:=by
  obtain ⟨_,_,rfl,a,b⟩:=r.duo
  exact ⟨_,_,rfl,a,b⟩
theorem RepL.three {X:List Addr} {h:Heap} {vs:List Value} {d e f:D} (r:RepL X h vs [d,e,f]):∃ v w z,vs=[v,w,z]∧Rep X h v d∧Rep X h w e∧Rep X h z f:=by
  obtain ⟨v,ws,rfl,a,r⟩:=r.cI
  obtain ⟨_,_,rfl,b,c⟩:=r.duo
  exact ⟨_,_,_,rfl,a,b,c⟩
theorem Bi.lenL {ds:List D} (h:ds.length≤sizeLine):Bi (.builtin "len") [.lst ds] (.int ds.length):=fun C A X s vals I R rl=>by
  obtain ⟨v,rfl,r⟩:=rl.one
  have hI:=r.lI;clear r;obtain ⟨l,vs,nn,hE,h1,e1,r⟩:=hI;cases hE
  have:sizeLine=16777216:=rfl
  have hl:s.heap.IsList l vs.toArray:=⟨_,e1,rfl,nn,rfl⟩
  refine PyProof.Rows.len_list hl (by rw [List.size_toArray,r.length];exact Z.l723 this h) ⟨.tok,?_⟩
  rw [List.size_toArray,r.length];exact .int ..
theorem Bi.lenS {t:List Nat} (h:t.length≤sizeLine):Bi (.builtin "len") [.s t] (.int t.length):=fun C A X s vals I R rl=>by
  obtain ⟨v,rfl,r⟩:=rl.one
  (first | obtain rfl:=r.vI | obtain ⟨_,rfl⟩:=r.iI | obtain ⟨_,rfl⟩:=r.sI | obtain ⟨_,rfl⟩:=r.bI | obtain rfl:=r.nI | cases r)
  have:sizeLine=16777216:=rfl
  refine PyProof.Rows.len_str (by rw [sl_len];exact Z.l724 this h) ⟨.tok,?_⟩
  rw [sl_len];exact .int ..
theorem Bi.lenB {b:Array UInt8} (h:b.size≤sizeLine):Bi (.builtin "len") [.bytes b] (.int b.size):=fun C A X s vals I R rl=>by
  obtain ⟨v,rfl,r⟩:=rl.one
  (first | obtain rfl:=r.vI | obtain ⟨_,rfl⟩:=r.iI | obtain ⟨_,rfl⟩:=r.sI | obtain ⟨_,rfl⟩:=r.bI | obtain rfl:=r.nI | cases r)
  have:sizeLine=16777216:=rfl
  exact PySem.W.len_bytes (by exact Z.l725 this h) ⟨.tok,.int ..⟩
theorem Bi.range1 {n:Int}:Bi (.type "range") [.int n] (.rng 0 n 1):=fun C A X s vals I R rl=>by
  obtain ⟨v,rfl,r⟩:=rl.one
  (first | obtain rfl:=r.vI | obtain ⟨_,rfl⟩:=r.iI | obtain ⟨_,rfl⟩:=r.sI | obtain ⟨_,rfl⟩:=r.bI | obtain rfl:=r.nI | cases r)
  exact call_range_1 ⟨.push,.rng I.fresh (Heap.get?_push_size _ rfl)⟩
theorem Bi.range2 {a b:Int}:Bi (.type "range") [.int a,.int b] (.rng a b 1):=fun C A X s vals I R rl=>by
  obtain ⟨v,w,rfl,r,q⟩:=rl.two
  (first | obtain rfl:=r.vI | obtain ⟨_,rfl⟩:=r.iI | obtain ⟨_,rfl⟩:=r.sI | obtain ⟨_,rfl⟩:=r.bI | obtain rfl:=r.nI | cases r);(first | obtain rfl:=q.vI | obtain ⟨_,rfl⟩:=q.iI | obtain ⟨_,rfl⟩:=q.sI | obtain ⟨_,rfl⟩:=q.bI | obtain rfl:=q.nI | cases q)
  exact call_range_2 ⟨.push,.rng I.fresh (Heap.get?_push_size _ rfl)⟩
theorem Bi.range3 {a b c:Int} (hc:0 < c) (hc':c < 2 ^ 64):Bi (.type "range") [.int a,.int b,.int c] (.rng a b c):=fun C A X s vals I R rl=>by
  obtain ⟨v,w,z,rfl,r,q,p⟩:=rl.three
  (first | obtain rfl:=r.vI | obtain ⟨_,rfl⟩:=r.iI | obtain ⟨_,rfl⟩:=r.sI | obtain ⟨_,rfl⟩:=r.bI | obtain rfl:=r.nI | cases r);(first | obtain rfl:=q.vI | obtain ⟨_,rfl⟩:=q.iI | obtain ⟨_,rfl⟩:=q.sI | obtain ⟨_,rfl⟩:=q.bI | obtain rfl:=q.nI | cases q);cases p
  exact PySem.call_range_3 (by exact Z.l695 hc) ⟨.push',.rng I.fresh (Heap.get?_push_size _ rfl)⟩ (.inl (noPylong (by lia)))
theorem Bi.chr {n:Int} (h0:0≤n) (h1:n≤1114111):Bi (.builtin "chr") [.int n] (.s [n.toNat]):=fun C A X s vals I R rl=>by
  obtain ⟨v,rfl,r⟩:=rl.one
  (first | obtain rfl:=r.vI | obtain ⟨_,rfl⟩:=r.iI | obtain ⟨_,rfl⟩:=r.sI | obtain ⟨_,rfl⟩:=r.bI | obtain rfl:=r.nI | cases r)
  exact chr_of_range h0 h1 ⟨.tok,.str ..⟩
theorem Bi.bytes {ns:List Int} (h:∀ n∈ns,0≤n∧n < 256) (hz:ns.length≤sizeLine):Bi (.type "bytes") [.lst (ns.map D.int)] (.bytes (byteArr ns)):=fun C A X s vals I R rl=>by
  obtain ⟨v,rfl,r⟩:=rl.one
  have hI:=r.lI;clear r;obtain ⟨l,vs,nn,hE,h1,e1,r⟩:=hI;cases hE
  have hl:s.heap.IsList l vs.toArray:=⟨_,e1,rfl,nn,rfl⟩
  have hi:=r.ints
  exact call_bytes_ints hl hi h (by rw [hi.length];exact hz) R.h fun h' t k hk=>⟨.up hk,.bytes ..⟩
theorem join_flat:∀ ls:List (List Nat),Str.join (sl []) (ls.map sl)=sl ls.flatten
  | []=>rfl
  | [a]=>by
    show sl a=_
    simp
  | a::b::r=>by
    have h:=join_flat (b::r)
    show sl a++sl []++Str.join (sl []) ((b::r).map sl)=_
    rw [h,sl_add,sl_add]
    simp
theorem sum_len (ls:List (List Nat)):((ls.map sl).map (·.length)).sum=ls.flatten.length:=by
  rw [List.length_flatten,List.map_map]
  congr 1
theorem Bi.join {ls:List (List Nat)} (h:ls.flatten.length+ls.length≤1048576):Bi (.builtin "str.join") [.s [],.lst (ls.map D.s)] (.s ls.flatten):=fun C A X s vals I R rl=>by
  obtain ⟨v,w,rfl,r,q⟩:=rl.two
  (first | obtain rfl:=r.vI | obtain ⟨_,rfl⟩:=r.iI | obtain ⟨_,rfl⟩:=r.sI | obtain ⟨_,rfl⟩:=r.bI | obtain rfl:=r.nI | cases r)
  have hI:=q.lI;clear q;obtain ⟨l,vs,nn,hE,h1,e1,r⟩:=hI;cases hE
  have hl:s.heap.IsList l vs.toArray:=⟨_,e1,rfl,nn,rfl⟩
  refine PyProof.Rows.join_listW hl (by simpa using r.strs) (by rw [sl_len];simp) ?_ fun t' k=>⟨.tok,?_⟩
  · rw [sum_len,List.length_map];exact h
  · show Rep X s.heap (.str (glued (sl []) (ls.map sl)) t') _
    rw [StrLaws.glued_eq_join,join_flat];exact .str ..
theorem starts_sl (a b:List Nat):Txt.startswith (sl a) (sl b)=b.isPrefixOf a:=by
  unfold Txt.startswith
  rw [StrLaws.subAt_eq,sl_len,sl_len,Bool.eq_iff_iff,List.isPrefixOf_iff_prefix,List.prefix_iff_eq_take]
  simp only [decide_eq_true_eq,List.drop_zero,Nat.zero_add,Bool.and_eq_true,beq_iff_eq]
  constructor
  · rintro ⟨_,h⟩;exact h.symm
  · intro h;refine ⟨?_,h.symm⟩
    rw [h,List.length_take];exact Z.l730
theorem Bi.starts {a b:List Nat}:Bi (.builtin "str.startswith") [.s a,.s b] (D.bool (b.isPrefixOf a)):=fun C A X s vals I R rl=>by
  obtain ⟨v,w,rfl,r,q⟩:=rl.two
  (first | obtain rfl:=r.vI | obtain ⟨_,rfl⟩:=r.iI | obtain ⟨_,rfl⟩:=r.sI | obtain ⟨_,rfl⟩:=r.bI | obtain rfl:=r.nI | cases r);(first | obtain rfl:=q.vI | obtain ⟨_,rfl⟩:=q.iI | obtain ⟨_,rfl⟩:=q.sI | obtain ⟨_,rfl⟩:=q.bI | obtain rfl:=q.nI | cases q)
  exact SC.startswith ⟨.refl ..,by rw [starts_sl];exact .val _⟩
noncomputable def spaces (a:List Nat):Bool:=!a.isEmpty && a.all Unicode.isSpace
theorem Bi.isspace {a:List Nat}:Bi (.builtin "str.isspace") [.s a] (D.bool (spaces a)):=fun C A X s vals I R rl=>by
  obtain ⟨v,rfl,r⟩:=rl.one
  (first | obtain rfl:=r.vI | obtain ⟨_,rfl⟩:=r.iI | obtain ⟨_,rfl⟩:=r.sI | obtain ⟨_,rfl⟩:=r.bI | obtain rfl:=r.nI | cases r)
  refine SC.isspace ⟨.refl ..,?_⟩
  rw [show Txt.isspace (sl a)=spaces a from by unfold Txt.isspace spaces;rw [sl_len];cases a <;> simp]
  exact .val _
section
variable {α β γ:Type} [DecidableEq α] {n:Nat} {f:α→D}
theorem Bi.index (K:Kd n f) (hn:n < 500) {x:α} {xs:List α} (hx:x∈xs) (hz:xs.length≤sizeLine):Bi (.builtin "list.index") [.lst (xs.map f),f x] (.int (xs.idxOf x)):=fun C A X s vals I R rl=>by
  obtain ⟨v,w,rfl,q,r⟩:=rl.two
  have hu:=R.u
  have hc:cLine=9900:=rfl
  have hsz:sizeLine=16777216:=rfl
  have hI:=q.lI;clear q;obtain ⟨b,ws,nm,hE,h2,e2,q⟩:=hI;cases hE
  obtain ⟨e,h1,h3,h4⟩:=any_at K r q
  have hlt:xs.idxOf x < xs.length:=List.idxOf_lt_length_iff.mpr hx
  have hlen:ws.length=xs.length:=by rw [q.length,List.length_map]
  have hlt':xs.idxOf x < ws.toArray.size:=by simpa [hlen] using hlt
  refine call_meets PySem.F.slot_list_index ⟨_,e2,rfl⟩ PySem.F.entry_list_index (PySem.F.args_list_index_2 _ _)
    (list_indexAt b ws.toArray nm none #[] w e (xs.idxOf x) hlt' (by exact Z.l731 hsz hz hlt) ?_ fun m hm hlt2=>?_) ⟨e2,h1 _ (by show A.units+1+n < cLine;exact Z.l692 hc hu hn),?_⟩
  · have:=h4 (xs.idxOf x) (ws[xs.idxOf x]'(by simpa using hlt')) x (List.getElem?_eq_getElem _) (by rw [List.getElem?_eq_getElem hlt];simp)
    simpa using this
  · have hm':m < xs.length:=by exact Z.l12 hlt2 hlt
    have:=h4 m (ws[m]'(by lia)) xs[m] (List.getElem?_eq_getElem _) (List.getElem?_eq_getElem _)
    have hne:xs[m]≠x:=fun z=>by
      have h5:m < xs.findIdx (· == x):=hlt2
      have:=List.not_of_lt_findIdx h5
      simp [z] at this
    rw [decide_eq_false hne] at this
    simpa using this
  · exact ⟨.tok,.int ..⟩
end
theorem Cmp.neB {a b:Array UInt8}:Cmp .NotEq (.bytes a) (.bytes b) (D.bool (decide (a≠b))):=fun C A X s va vb I R r q=>by
  (first | obtain rfl:=r.vI | obtain ⟨_,rfl⟩:=r.iI | obtain ⟨_,rfl⟩:=r.sI | obtain ⟨_,rfl⟩:=r.bI | obtain rfl:=r.nI | cases r);(first | obtain rfl:=q.vI | obtain ⟨_,rfl⟩:=q.iI | obtain ⟨_,rfl⟩:=q.sI | obtain ⟨_,rfl⟩:=q.bI | obtain rfl:=q.nI | cases q)
  refine PySem.W.ne_bytes ⟨.refl ..,?_⟩
  rw [show (a.toList != b.toList)=decide (a≠b) from by by_cases h:a=b <;> simp [h,bne]]
  exact .val _
theorem Bi.isiInt {n:Int}:Bi (.builtin "isinstance") [.int n,.val (.type "int")] (D.bool true):=fun C A X s vals I R rl=>by
  obtain ⟨v,w,rfl,r,q⟩:=rl.two
  (first | obtain rfl:=r.vI | obtain ⟨_,rfl⟩:=r.iI | obtain ⟨_,rfl⟩:=r.sI | obtain ⟨_,rfl⟩:=r.bI | obtain rfl:=r.nI | cases r);(first | obtain rfl:=q.vI | obtain ⟨_,rfl⟩:=q.iI | obtain ⟨_,rfl⟩:=q.sI | obtain ⟨_,rfl⟩:=q.bI | obtain rfl:=q.nI | cases q)
  exact PySem.IsiPair.int_int ⟨.refl ..,.val _⟩
theorem Bi.isiBytes {b:Array UInt8}:Bi (.builtin "isinstance") [.bytes b,.val (.type "bytes")] (D.bool true):=fun C A X s vals I R rl=>by
  obtain ⟨v,w,rfl,r,q⟩:=rl.two
  (first | obtain rfl:=r.vI | obtain ⟨_,rfl⟩:=r.iI | obtain ⟨_,rfl⟩:=r.sI | obtain ⟨_,rfl⟩:=r.bI | obtain rfl:=r.nI | cases r);(first | obtain rfl:=q.vI | obtain ⟨_,rfl⟩:=q.iI | obtain ⟨_,rfl⟩:=q.sI | obtain ⟨_,rfl⟩:=q.bI | obtain rfl:=q.nI | cases q)
  exact call_isinstance (isinstance_true (Tx:="bytes") F.isi_meta_bytes F.isi_self_bytes) ⟨rfl,.refl ..,.val _⟩
theorem Bi.isiBool {n:Int}:Bi (.builtin "isinstance") [.int n,.val (.type "bool")] (D.bool false):=fun C A X s vals I R rl=>by
  obtain ⟨v,w,rfl,r,q⟩:=rl.two
  (first | obtain rfl:=r.vI | obtain ⟨_,rfl⟩:=r.iI | obtain ⟨_,rfl⟩:=r.sI | obtain ⟨_,rfl⟩:=r.bI | obtain rfl:=r.nI | cases r);(first | obtain rfl:=q.vI | obtain ⟨_,rfl⟩:=q.iI | obtain ⟨_,rfl⟩:=q.sI | obtain ⟨_,rfl⟩:=q.bI | obtain rfl:=q.nI | cases q)
  exact PySem.IsiPair.int_bool ⟨.tok,.val _⟩
end Mine
end
section
open PySem PySem.Calls PySem.W PyProof.Rows PySem.SeqAt PySem.Builtin.Str
open Sem (wp)
namespace Mine
noncomputable def decoding:Code→Bool
  | .builtin id _=>Builtin.Bytes.decodersThatHold.contains id
  | _=>false
noncomputable def Low (l:List (Code × Pos)):Prop:=∀ x∈l,decoding x.1=false
noncomputable def wpS {α:Type} (M:Model) (A:Around) (t:Sem α) (Q:α→Shared→Prop) (E:Value→Shared→Prop) (s:Shared):Prop :=
  ∀ Γ p,Γ.In A→decoding Γ.code=false→Low Γ.below→wp M Γ t (fun a _ s'=>Q a s') (fun e _ s'=>E e s') p s
noncomputable def codeS (M:Model) (A:Around) (c:Code) (R:Result→Shared→Prop) (s:Shared):Prop :=
  ∀ Γ p,Γ.code=c→Γ.Below A→Low Γ.below→wpCode M Γ R p s
section
variable {α β:Type} {M:Model} {A:Around} {E:Value→Shared→Prop} {s:Shared}
theorem anyS {t:Sem α} {Q:α→Shared→Prop} (h:wpAny M A t Q E s):wpS M A t Q E s:=fun Γ p hΓ _ _=>h Γ p hΓ
theorem wpS_mono {t:Sem α} {Q Q':α→Shared→Prop} {E':Value→Shared→Prop} (h:wpS M A t Q E s) (hQ:∀ a s,Q a s→Q' a s) (hE:∀ e s,E e s→E' e s):wpS M A t Q' E' s :=
  fun Γ p hΓ h1 h2=>Sem.wp_mono M Γ t (fun a _ s=>hQ a s) (fun e _ s=>hE e s) p s (h Γ p hΓ h1 h2)
theorem wpS_bind {m:Sem α} {f:α→Sem β} {Q:β→Shared→Prop} (h:wpS M A m (fun a s'=>wpS M A (f a) Q E s') E s):wpS M A (m >>= f) Q E s:=fun Γ p hΓ h1 h2=>by
  rw [Sem.wp_bind']
  exact Sem.wp_mono M Γ m (fun a p' s' h'=>h' Γ p' hΓ h1 h2) (fun _ _ _ h'=>h') p s (h Γ p hΓ h1 h2)
theorem wpS_bindA {m:Sem α} {f:α→Sem β} {Q:β→Shared→Prop} (h:wpAny M A m (fun a s'=>wpS M A (f a) Q E s') E s):wpS M A (m >>= f) Q E s:=wpS_bind (anyS h)
theorem wpS_pure {a:α} {Q:α→Shared→Prop} (h:Q a s):wpS M A (pure a) Q E s:=anyS (wpAny_pure h)
theorem wpS_holding {vs:List Value} {m:Sem α} {Q:α→Shared→Prop} (h:wpS M A m Q E s):wpS M A (holding vs m) Q E s :=
  fun Γ p hΓ h1 h2=>by rw [Sem.wp_holding];exact h Γ p hΓ h1 h2
theorem wpS_onRaise {m:Sem α} {k:Value→Sem Unit} {Q:α→Shared→Prop} (h:wpS M A m Q (fun e s'=>wpS M A (k e) (fun _ s''=>E e s'') E s') s):wpS M A (m.onRaise k) Q E s:=fun Γ p hΓ h1 h2=>by
  rw [Sem.wp_onRaise]
  exact Sem.wp_mono M Γ m (fun _ _ _ h'=>h') (fun e p' s' h'=>h' Γ p' hΓ h1 h2) p s (h Γ p hΓ h1 h2)
theorem codeS_mono {c:Code} {R R':Result→Shared→Prop} (h:codeS M A c R s) (hR:∀ r s,R r s→R' r s):codeS M A c R' s :=
  fun Γ p hc hΓ hl=>wpCode_mono hR (h Γ p hc hΓ hl)
theorem codeS_of_tree {c : Code} {R : Result → Shared → Prop} (hd : decoding c = false)
    (h:wpS M (A.under c) (M.den c) (fun fin s'=>match fin with | .done f=>R (.ok f) s' | .again c'=>c'.quiet=true∧codeS M A c' R s') (fun e s'=>R (.error e) s') s):codeS M A c R s:=fun Γ p hc hΓ hl=>by
  rw [wpCode_iff_wp,hc]
  refine Sem.wp_mono M Γ _ (fun fin p' s' h'=>?_) (fun _ _ _ h'=>h') p s (h Γ p (hc ▸ hΓ.in) (hc ▸ hd) hl)
  cases fin with
  | done f=>exact h'
  | again c'=>exact ⟨h'.1,h'.2 (Γ.goto c') p' rfl (hΓ.goto c') hl⟩
theorem wpS_runValue {c:Code} {Q:Value→Shared→Prop} (hc:codeS M A c (fun r s'=>match r with | .ok (.ret v)=>Q v s' | .ok _=>False | .error e=>E e s') s):wpS M A (runValue c) Q E s:=fun Γ p hΓ h1 h2=>by
  rw [Sem.wp_runValue]
  refine hc _ p rfl (hΓ.enter c none p (by intro x;cases x)) fun x hx=>?_
  rcases List.mem_cons.mp hx with rfl | hx
  · exact h1
  · exact h2 x hx
theorem wpS_call {f : Value} {pos : List Value} {kw : List (Str × Value)} {Q : Value → Shared → Prop} (hc : codeS M A (.call f ⟨pos, kw⟩) (fun r s' => match r with | .ok (.ret v) => Q v s' | .ok _ => False | .error e => E e s') s) :
    wpS M A (call f pos kw) Q E s:=wpS_runValue hc
end
section
variable {prog:Program} {w:World} {A:Around} {s:Shared}
theorem codeS_builtin {id : String} {args : Args} {b : Builtin} {R : Result → Shared → Prop} (hd : Builtin.Bytes.decodersThatHold.contains id = false) (hb : entryFor table id = some b)
    (h:wpS (model prog w) (A.under (.builtin id args)) (b args) (fun fin s'=>match fin with | .done f=>R (.ok f) s' | .again c'=>c'.quiet=true∧codeS (model prog w) A c' R s') (fun e s'=>R (.error e) s') s):codeS (model prog w) A (.builtin id args) R s:=by
  refine codeS_of_tree hd ?_
  show wpS _ _ (match entryFor table id with | some b=>b args | none=>unsupported ((withoutEnding? id "#data").getD id)) _ _ s
  rw [hb];exact h
theorem codeS_func {body env} {R:Result→Shared→Prop} (h:wpS (model prog w) (A.deeper env) (execs body env) (fun f s'=>R (.ok (.ret (match f with | .ret v=>v | _=>.none))) s') (fun _ _=>False) s):codeS (model prog w) A (.func body env) R s:=by
  refine codeS_of_tree rfl ?_
  show wpS _ (A.deeper env) (do point;match ← (execs body env).onRaise (leaving env) with | .ret v=>ret v | _=>ret .none) _ _ s
  refine wpS_bindA (wpAny_point (wpS_bind (wpS_onRaise (wpS_mono h (fun f s' h'=>?_) fun _ _ h'=>h'.elim))))
  cases f <;> exact wpS_pure h'
theorem codeS_call_function {a : Addr} {args : Args} {o : Obj} {fd : FuncData} {body : List Stmt} {R : Result → Shared → Prop} (hroom : A.depth < recursionLimit) (ho : s.heap.get? a = some o)
    (hd':o.data=.func fd) (hco:fd.scope.isCoroutine=false) (hgen:fd.scope.isGenerator=false) (hbody:fd.body=.stmts body) (hcd:s.heap.CodeRec fd.code fd.qualname)
    (h : wpAny (model prog w) A.in1 (bindArgs fd args) (fun binds s₁ => wpAny (model prog w) A.in1 (newFunctionEnv fd.scope fd.globals fd.closure binds (fd.qualname ++ ".<locals>.") (some a) fd.code none fd.builtins)
        (fun env s₂=>s₂.heap.NoLimit∧codeS (model prog w) A (.func body env) R s₂) (fun e s'=>R (.error e) s') s₁) (fun e s'=>R (.error e) s') s):codeS (model prog w) A (.call (.ref a) args) R s:=by
  refine codeS_of_tree rfl ?_
  show wpS _ A.in1 (callAny (.ref a) args) _ _ s
  simp only [callAny]
  refine wpS_bindA (wpAny_load ho ?_)
  obtain ⟨c,oc,vs,tq,hc,hoc,hdc,hq⟩:=hcd
  simp only [hd',callFunction,hco,hgen,hbody,hc]
  rw [hc] at h
  refine wpS_bindA (m:=field (.ref c) 1) (wpAny_field hoc hdc hq (wpS_bindA (wpAny_pure ?_)))
  exact wpS_bindA (wpAny_mono h (fun binds s₁ h₁=>wpS_bindA (wpAny_mono h₁ (fun env s₂ h₂=>wpS_bindA (wpAny_enterFrame h₂.1 hroom (wpS_pure (And.intro rfl h₂.2)))) fun _ _ h'=>h')) fun _ _ h'=>h')
theorem codeS_call_cells {R : Result → Shared → Prop} {a : Addr} {o : Obj} {fd : FuncData} {body : List Stmt} {vals : List Value} {binds : List (Str × Value)}
    (hroom:A.depth < recursionLimit) (ho:s.heap.get? a=some o) (hdata:o.data=.func fd) (hlim:s.heap.NoLimit) (hcd:s.heap.CodeRec fd.code fd.qualname)
    (hbody:fd.body=.stmts body) (hbind:bindArgs fd ⟨vals,[]⟩=pure binds) (hclo:fd.closure=[])
    (hkind:∀ x∈binds,fd.scope.names.lookup x.1=some .local∨(fd.scope.names.lookup x.1=some .cell∧((cellsFrom (s.heap.objs.size+1) fd.scope.names []).lookup x.1).isSome=true))
    (h : ∀ s₁, InCallC s (callEnvC fd s.heap.objs.size a).locals (bindL (callEnvC fd s.heap.objs.size a).kindOf binds fun _ => none) (callEnvC fd s.heap.objs.size a).cells
        (bindC (callEnvC fd s.heap.objs.size a).kindOf binds fun _=>none) s₁ →
      wpS (model prog w) (A.deeper (callEnvC fd s.heap.objs.size a)) (execs body (callEnvC fd s.heap.objs.size a)) (fun f s'=>R (.ok (.ret (match f with | .ret v=>v | _=>.none))) s') (fun _ _=>False) s₁)
    (hco:fd.scope.isCoroutine=false:=by rfl) (hgen:fd.scope.isGenerator=false:=by rfl) (hk:fd.scope.kind=.function:=by rfl):codeS (model prog w) A (.call (.ref a) ⟨vals,[]⟩) R s:=by
  refine codeS_call_function hroom ho hdata hco hgen hbody hcd ?_
  rw [hbind,hclo]
  refine wpAny_pure (wpAny_newFunctionEnv_cells hk hkind fun env he s' x=>?_)
  subst he
  exact ⟨hlim.keeps x.toInCall.keep,codeS_func (h s' x)⟩
end
end Mine
end
section
open PySem PySem.Calls PySem.W PyProof.Rows PySem.SeqAt PySem.Builtin.Str
open Sem (wp)
namespace Mine
namespace BA
theorem mro:mroOf (.type "bytearray")=pure [.type "bytearray",.type "object"]:=by rw [mroOf_type];kernel_rfl
theorem lookup_new:typeLookup (.type "bytearray") "__new__"=pure (some (.builtin "bytearray.__new__")):=by rw [typeLookup_type,builtinLookup_eq_fast];kernel_rfl
theorem slot_init:Slot "bytearray" "__init__" "bytearray.__init__" :=
  .of (owner:="bytearray") (n:="__init__") (by rw [typeLookup_type,builtinLookup_eq_fast];kernel_rfl) (by decide +kernel) (by decide +kernel) (by decide +kernel)
    (by first | exact .inl (by decide +kernel) | exact .inr (by decide +kernel)) (by rw [isSubtype_type];kernel_rfl)
theorem called:TypeCalled "bytearray" "bytearray.__new__" "bytearray.__init__" :=
  ⟨by decide +kernel,by decide +kernel,⟨_,_,mro⟩,madeBy_type mro lookup_new (by decide +kernel),by decide +kernel,by rw [isSubtype_type];kernel_rfl,slot_init⟩
theorem typeCall (a:Value):checkTypeCall "bytearray" ⟨[a],[]⟩=pure ():=by kernel_rfl
theorem newCall (a:Value):checkBuiltinCall "bytearray.__new__" ⟨[.type "bytearray",a],[]⟩=pure ():=by kernel_rfl
theorem entry_new:entryFor table "bytearray.__new__"=some Builtin.«list.__new__»:=entryFor_alias (id':="list.__new__") (by first | kernel_rfl | (rw [fastTable_eq_tree];kernel_rfl)) (by first | rfl | decide +kernel) (by decide +kernel) (by first | kernel_rfl | (rw [fastTable_eq_tree];kernel_rfl))
theorem entry_init:entryFor table "bytearray.__init__"=some Builtin.«bytearray.__init__»:=by first | exact entryFor_of_tree (by kernel_rfl) | exact entryFor_of_fast (by kernel_rfl)
theorem plain_new:plainId "bytearray.__new__"=true:=by decide +kernel
theorem plain_init:plainId "bytearray.__init__"=true:=by decide +kernel
theorem sub:isSubtype (.type "bytearray") (.type "bytearray")=pure true:=by rw [isSubtype_type];kernel_rfl
theorem owner:("bytearray.__new__".splitOn ".__new__").headD ""="bytearray":=by rw [split_bytearray];rfl
theorem bind (v:Value):Builtin.Bytes.bindOptional "bytearray.__init__" "bytearray" ["source","encoding","errors"] [v] []=pure [some v,none,none]:=by kernel_rfl
theorem rel:typeLookup (.type "bytearray") "__release_buffer__"=pure (some (.builtin "bytearray.__release_buffer__")):=by rw [typeLookup_type,builtinLookup_eq_fast];kernel_rfl
theorem idx:typeLookup (.type "int") "__index__"=pure (some (.builtin "int.__index__")):=by rw [typeLookup_type,builtinLookup_eq_fast];kernel_rfl
end BA
section
variable {prog:Program} {w:World} {A:Around} {E:Value→Shared→Prop} {s:Shared}
theorem code_ba_new (a : Value) {Q₁ : Value → Shared → Prop}
    (h:Q₁ (.ref s.heap.objs.size) { s with heap:=s.heap.push { cls:=.type "bytearray",data:=.bytearray #[] } }) :
    codeAny (model prog w) A (.call (.builtin "bytearray.__new__") ⟨[.type "bytearray",a],[]⟩) (wants Q₁ E) s:=by
  refine codeAny_of_tree ?_
  show wpAny _ A.in1 (do checkBuiltinCall "bytearray.__new__" ⟨[.type "bytearray",a],[]⟩;again (.builtin "bytearray.__new__" ⟨[.type "bytearray",a],[]⟩)) _ _ s
  refine wpAny_bind (wpAny_of_eq (BA.newCall a) (wpAny_pure ⟨plainId_quiet BA.plain_new _,codeAny_builtin_stack BA.entry_new rfl fun p st=>?_⟩))
  rw [Around.under_plainId BA.plain_new _]
  have hsub:=BA.sub
  have hown:=BA.owner
  obtain ⟨hp,g,d,tk,os⟩:=s
  simp only [hown]
  wp_walk
  exact h
theorem unguarded {c : Code} (hd : decoding c = false) (self : Value) (p : Pos) (hg : c.isGuard = false) : (match (c, p) with
    | (.builtin "bytearray.__contains__" ⟨v::_,_⟩,_) | (.builtin "bytearray.__mod__" ⟨v::_,_⟩,_)
    | (.builtin "bytearray.__rmod__" ⟨_::v::_,_⟩,_) | (.builtin "_struct.pack_into.held" ⟨v::_,_⟩,_)=>Builtin.Bytes.sameRef v self
    | (.builtin "bytearray.find.held" ⟨_::_::held,_⟩,_)=>held.any (Builtin.Bytes.sameRef self)
    | (.builtin id ⟨v::_,_⟩,_)=>Builtin.Bytes.sameRef v self && Builtin.Bytes.decodersThatHold.contains id
    | _=>false)=false:=by
  cases c with
  | builtin id args =>
    have hid:guardIds.contains id=false:=hg
    have hdd:Builtin.Bytes.decodersThatHold.contains id=false:=hd
    have n1:id≠"bytearray.__contains__":=fun e=>absurd (e ▸ hid) (by decide +kernel)
    have n2:id≠"bytearray.__mod__":=fun e=>absurd (e ▸ hid) (by decide +kernel)
    have n3:id≠"bytearray.__rmod__":=fun e=>absurd (e ▸ hid) (by decide +kernel)
    have n4:id≠"_struct.pack_into.held":=fun e=>absurd (e ▸ hid) (by decide +kernel)
    have n5:id≠"bytearray.find.held":=fun e=>absurd (e ▸ hid) (by decide +kernel)
    delta unguarded.match_1
    refine (dif_neg n1).trans ((dif_neg n2).trans ((dif_neg n3).trans ((dif_neg n4).trans ((dif_neg n5).trans ?_))))
    obtain ⟨as,ks⟩:=args
    cases as with
    | nil=>rfl
    | cons v as=>exact (congrArg (_ && ·) hdd).trans (Bool.and_false _)
  | _=>rfl
theorem wpS_exported {self:Value} {Q:Bool→Shared→Prop} (hg:A.guards=some []) (h:Q false s):wpS (model prog w) A (Builtin.Bytes.exported self) Q E s:=fun Γ p hΓ h1 h2=>by
  unfold Builtin.Bytes.exported
  show Q (List.any ((Γ.code,p)::Γ.below) _) s
  have hgs:guardsOf ((Γ.code,p)::Γ.below)=[]:=by rw [guardsOf_cons];exact hΓ.2.2.2.1 [] hg
  have:∀ l:List (Code × Pos),guardsOf l=[]→Low l→l.any (fun x=>match x with
    | (.builtin "bytearray.__contains__" ⟨v::_,_⟩,_) | (.builtin "bytearray.__mod__" ⟨v::_,_⟩,_)
    | (.builtin "bytearray.__rmod__" ⟨_::v::_,_⟩,_) | (.builtin "_struct.pack_into.held" ⟨v::_,_⟩,_)=>Builtin.Bytes.sameRef v self
    | (.builtin "bytearray.find.held" ⟨_::_::held,_⟩,_)=>held.any (Builtin.Bytes.sameRef self)
    | (.builtin id ⟨v::_,_⟩,_)=>Builtin.Bytes.sameRef v self && Builtin.Bytes.decodersThatHold.contains id
    | _=>false)=false:=by
    intro l
    induction l with
    | nil=>intro _ _;rfl
    | cons x r ih =>
      intro hg hl
      obtain ⟨c,q⟩:=x
      rw [guardsOf_cons] at hg
      have hgc:c.isGuard=false:=by
        cases h:c.isGuard with
        | false=>rfl
        | true=>simp [Code.guards,h] at hg
      rw [List.any_cons,ih (List.append_eq_nil_iff.mp hg).2 (fun y hy=>hl y (.tail _ hy))]
      have:=unguarded (hl (c,q) (.head _)) self q hgc
      exact (Bool.or_false _).trans this
  have e:=this ((Γ.code,p)::Γ.below) hgs (fun x hx=>(List.mem_cons.mp hx).elim (fun e=>e ▸ h1) fun hx=>h2 x hx)
  have h':∀ b:Bool,b=false→Q b s:=fun b hb=>hb ▸ h
  exact h' _ e
theorem wpS_ite_no {α:Type} {M:Model} {c:Bool} {a b:Sem α} {Q:α→Shared→Prop} (hc:c=false) (h:wpS M A b Q E s):wpS M A (if c=true then a else b) Q E s:=by subst hc;exact h
theorem wpS_ite_yes {α:Type} {M:Model} {c:Bool} {a b:Sem α} {Q:α→Shared→Prop} (hc:c=true) (h:wpS M A a Q E s):wpS M A (if c=true then a else b) Q E s:=by subst hc;exact h
theorem wpS_of_eq {α:Type} {M:Model} {t:Sem α} {a:α} {Q:α→Shared→Prop} (e:t=pure a) (h:Q a s):wpS M A t Q E s:=e ▸ wpS_pure h
theorem pay_ba {b:Array UInt8} {k:Nat} {a:Addr} {Q:Array UInt8→Shared→Prop} (ho:s.heap.get? a=some { cls:=.type "bytearray",data:=.bytearray b k }) (h:Q b s):wpAny (model prog w) A (Builtin.Bytes.payload (.ref a)) Q E s:=by
  unfold Builtin.Bytes.payload Builtin.Bytes.payload?
  exact wpAny_bind (wpAny_bind (wpAny_load ho (wpAny_pure (wpAny_pure h))))
theorem write_ba {b : Array UInt8} {k : Nat} {a : Addr} {g : Array UInt8 → Array UInt8} {Q : Unit → Shared → Prop} (ho : s.heap.get? a = some { cls := .type "bytearray", data := .bytearray b k }) (hz : (g b).size ≤ sizeLine)
    (h:∀ h',Heap.SameBut a s.heap h'→h'.get? a=some { cls:=.type "bytearray",data:=.bytearray (g b) k }→Q () { s with heap:=h' }):wpAny (model prog w) A (Builtin.Bytes.write (.ref a) g) Q E s:=by
  show wpAny _ _ (updateBytearray a g) _ _ _
  unfold updateBytearray
  refine wpAny_bind (wpAny_load ho ?_)
  show wpAny _ _ (update a (Obj.mapBytearray g) >>= fun _=>lookBehind a) _ _ _
  refine wpAny_bind (wpAny_update ho ?_)
  have hS₂:(s.heap.update a (Obj.mapBytearray g)).get? a=some { cls:=.type "bytearray",data:=.bytearray (g b) k }:=Heap.get?_update_self (Obj.mapBytearray g) ho rfl
  refine wpAny_lookBehind hS₂ ?_ ?_
  · show (if (g b).size > sizeLine then some "bytearray:memory" else none)=none
    rw [if_neg (by exact Z.l61 hz)]
  · exact h _ (Heap.SameBut.update ..) hS₂
theorem release_ba {a:Addr} {o:Obj} {Q:Bool→Shared→Prop} (ho:s.heap.get? a=some o) (hc:o.cls=.type "bytearray") (h:Q false s):wpAny (model prog w) A (Builtin.Bytes.ownRelease (.ref a)) Q E s:=by
  unfold Builtin.Bytes.ownRelease Builtin.Bytes.slotIsOwn
  have hT:s.TypeIs (.ref a) "bytearray":=⟨o,ho,hc⟩
  refine wpAny_bind (wpAny_bind (wpAny_specialOf hT BA.rel ?_))
  dsimp only
  rw [show (!("bytearray.__release_buffer__".endsWith ("."++"__release_buffer__")))=false from by decide +kernel]
  refine bm_if_false rfl ?_
  rw [show "bytearray.__release_buffer__".dropRight ("__release_buffer__".length+1)="bytearray" from by decide +kernel]
  exact wpAny_isInstance hT BA.sub (wpAny_pure h)
theorem ba_init {a : Addr} {n : Int} {t : Tok} {P : Shared → Prop} (ho : s.heap.get? a = some { cls := .type "bytearray", data := .bytearray #[] 0 }) (h0 : 0 ≤ n) (hz : n ≤ sizeLine) (hg : A.guards = some [])
    (h:∀ h',Heap.SameBut a s.heap h'→(∃ k,h'.get? a=some { cls:=.type "bytearray",data:=.bytearray (Array.replicate n.toNat 0) k })→P { s with heap:=h' }) :
    wpS (model prog w) A (Builtin.«bytearray.__init__» ⟨[.ref a,.int n t],[]⟩) (fun fin s'=>fin=.done (.ret .none)∧P s') E s:=by
  unfold Builtin.«bytearray.__init__»
  refine wpS_bindA (release_ba ho rfl ?_)
  refine wpS_ite_no rfl ?_
  refine wpS_bind (wpS_of_eq (BA.bind _) ?_)
  refine wpS_bind (wpS_of_eq (a:=()) rfl ?_)
  refine wpS_bind (wpS_of_eq (a:=()) rfl ?_)
  refine wpS_bind ?_
  unfold orM
  refine wpS_bind (wpS_exported hg ?_)
  refine anyS ?_
  show wpAny _ _ (do let x ← Builtin.Bytes.exportsOf (Value.ref a);pure (decide (x > 0))) _ _ _
  refine wpAny_bind ?_
  unfold Builtin.Bytes.exportsOf
  refine wpAny_bind (wpAny_load ho (wpAny_pure (wpAny_pure ?_)))
  refine wpS_ite_no rfl ?_
  refine wpS_bindA (write_ba ho (Nat.zero_le _) fun h₁ hs₁ ho₁=>?_)
  refine wpS_bind (wpS_of_eq (a:=none) rfl ?_)
  refine wpS_ite_no rfl ?_
  refine wpS_bind (wpS_of_eq (a:=()) rfl ?_)
  refine wpS_bindA (wpAny_specialOf (typeIs_int _ _ _) BA.idx ?_)
  refine wpS_ite_yes rfl ?_
  refine wpS_bind (wpS_of_eq (a:=.ok n) rfl ?_)
  dsimp only
  have hs:sizeLine=16777216:=rfl
  refine wpS_ite_no (by simp [Builtin.Bytes.fitsIndex];exact Z.l747 hs h0 hz) ?_
  rw [if_neg (show ¬ n < 0 by exact Z.l721 h0)]
  refine wpS_ite_no (by simp;exact Z.l748 hs hz) ?_
  refine wpS_ite_no (by simp [Builtin.Bytes.tooLong];exact Z.l749 hz) ?_
  refine wpS_bind (anyS (wpAny_rule ?_))
  by_cases hn:n > 0
  · rw [if_pos hn]
    refine wpS_bindA (write_ba ho₁ (by rw [Array.size_replicate];exact Z.l750 hz) fun h₂ hs₂ ho₂=>wpS_pure ⟨rfl,?_⟩)
    exact h h₂ (hs₁.trans hs₂) ⟨_,ho₂⟩
  · rw [if_neg hn]
    refine wpS_pure ⟨rfl,?_⟩
    have:n=0:=by exact Z.l751 h0 hn
    subst this
    exact h h₁ hs₁ ⟨_,ho₁⟩
end
end Mine
end
section
open PySem PySem.Calls PySem.W PyProof.Rows PySem.SeqAt PySem.Builtin.Str
open Sem (wp)
namespace Mine
section
variable {prog:Program} {w:World} {A:Around} {E:Value→Shared→Prop} {s:Shared}
theorem call_ba {n : Int} {t : Tok} {Q : Value → Shared → Prop} (h0 : 0 ≤ n) (hz : n ≤ sizeLine) (hg : A.guards = some [])
    (h:∀ h',(∀ b o,s.heap.get? b=some o→h'.get? b=some o)→(∃ k,h'.get? s.heap.objs.size=some { cls:=.type "bytearray",data:=.bytearray (Array.replicate n.toNat 0) k })→Q (.ref s.heap.objs.size) { s with heap:=h' }) :
    wpS (model prog w) A (call (.type "bytearray") [.int n t]) Q E s:=by
  have ft:=BA.called
  have hct:=BA.typeCall (.int n t)
  obtain ⟨c,tl,hmro⟩:=ft.mro
  have hmade:=ft.made
  have hsub:=ft.sub
  have hdec:Builtin.Bytes.decodersThatHold.contains "type.__call__"=false:=by decide +kernel
  have hdec2:Builtin.Bytes.decodersThatHold.contains "bytearray.__init__"=false:=by decide +kernel
  refine wpS_call (codeS_of_tree rfl ?_)
  show wpS _ _ (callAny (.type "bytearray") _) _ _ _
  refine wpS_pure ⟨Code.quiet_builtin _ (by decide +kernel),codeS_builtin hdec F.entry_type_call ?_⟩
  rw [Around.under_plain (weight_type_call_type _ _ []) rfl]
  unfold Builtin.«type.__call__»
  dsimp only
  have h1:=ft.notType
  have h2:=ft.canCreate
  simp only [h1,h2,Bool.false_eq_true,if_false]
  refine wpS_bind (wpS_of_eq hct ?_)
  refine wpS_bind (wpS_of_eq hmro ?_)
  refine wpS_ite_no rfl ?_
  refine wpS_bind (wpS_of_eq hmade ?_)
  refine wpS_bind (wpS_pure ?_)
  refine wpS_bind (wpS_holding (anyS (wpAny_call (code_ba_new _ ?_))))
  have ho:(s.heap.push { cls:=.type "bytearray",data:=.bytearray #[] }).get? s.heap.objs.size=some { cls:=.type "bytearray",data:=.bytearray #[] 0 }:=Heap.get?_push_size _ rfl
  have hT:({ s with heap:=s.heap.push { cls:=.type "bytearray",data:=.bytearray #[] } }:Shared).TypeIs (.ref s.heap.objs.size) "bytearray":=⟨_,ho,rfl⟩
  refine wpS_bindA (wpAny_isInstance hT hsub ?_)
  refine wpS_ite_no rfl ?_
  refine wpS_bind (wpS_holding ?_)
  unfold callSpecial?
  refine wpS_bindA (wpAny_specialOf hT BA.slot_init.lookup ?_)
  simp only [BA.slot_init.bind]
  refine wpS_holding (wpS_bind (wpS_pure (wpS_bind (wpS_call (codeS_of_tree rfl ?_)))))
  show wpS _ A.in1.in1 (do checkBuiltinCall "bytearray.__init__" ⟨[.ref s.heap.objs.size,.int n t],[]⟩;again (.builtin "bytearray.__init__" ⟨[.ref s.heap.objs.size,.int n t],[]⟩)) _ _ _
  refine wpS_bindA (BA.slot_init.check _ _ _ _ _ _ _ _ hT (by unfold argsOk;kernel_rfl) ?_)
  refine wpS_pure ⟨plainId_quiet BA.plain_init _,codeS_builtin hdec2 BA.entry_init ?_⟩
  rw [Around.under_plainId BA.plain_init _]
  refine wpS_mono (ba_init (E:=E) (P:=fun s'=>Q (.ref s.heap.objs.size) s') ho h0 hz hg fun h' hs hp=>h h' (fun b o q=>?_) hp) ?_ ?_
  · have hlt:b < s.heap.objs.size:=Heap.lt_size q
    exact (hs.2 b (Nat.ne_of_lt hlt)).trans (Heap.get?_push_of_some _ q)
  · rintro fin s' ⟨rfl,hq⟩
    refine wpS_pure ?_
    refine wpS_ite_no (by decide) ?_
    exact wpS_pure hq
  · intro e s' he;exact he
end
end Mine
end
section
open PySem PySem.Calls PySem.W PyProof.Rows PySem.SeqAt PySem.Builtin.Str
open Sem (wp)
namespace Mine
namespace BA
theorem slot_set:Slot "bytearray" "__setitem__" "bytearray.__setitem__" :=
  .of (owner:="bytearray") (n:="__setitem__") (by rw [typeLookup_type,builtinLookup_eq_fast];kernel_rfl) (by decide +kernel) (by decide +kernel) (by decide +kernel)
    (by first | exact .inl (by decide +kernel) | exact .inr (by decide +kernel)) (by rw [isSubtype_type];kernel_rfl)
theorem entry_set:entryFor table "bytearray.__setitem__"=some Builtin.«bytearray.__setitem__»:=by first | exact entryFor_of_tree (by kernel_rfl) | exact entryFor_of_fast (by kernel_rfl)
theorem no_bytes:typeLookup (.type "bytearray") "__bytes__"=pure none:=by rw [typeLookup_type,builtinLookup_eq_fast];kernel_rfl
theorem noIndex:typeLookup (.type "bytearray") "__index__"=pure none:=by rw [typeLookup_type,builtinLookup_eq_fast];kernel_rfl
theorem buf:typeLookup (.type "bytearray") "__buffer__"=pure (some (.builtin "bytearray.__buffer__")):=by rw [typeLookup_type,builtinLookup_eq_fast];kernel_rfl
end BA
section
variable {prog:Program} {w:World} {A:Around} {E:Value→Shared→Prop} {s:Shared}
theorem setItem_ba {a : Addr} {b : Array UInt8} {n : Nat} {k x : Int} {t u : Tok} {Q : Unit → Shared → Prop} (ho : s.heap.get? a = some { cls := .type "bytearray", data := .bytearray b n })
    (h0:0≤k) (hk:k < b.size) (hz:b.size≤sizeLine) (hx0:0≤x) (hx:x < 256)
    (hQ:∀ h',Heap.SameBut a s.heap h'→h'.get? a=some { cls:=.type "bytearray",data:=.bytearray (b.setIfInBounds k.toNat x.toNat.toUInt8) n }→Q () { s with heap:=h' }) :
    wpAny (model prog w) A (setItem (.ref a) (.int k t) (.int x u)) Q E s:=by
  have hT:s.TypeIs (.ref a) "bytearray":=⟨_,ho,rfl⟩
  have hs:sizeLine=16777216:=rfl
  unfold setItem
  try with_reducible refine wpAny_holding ?_
  first | refine wpAny_bind (wpAny_pure ?_) | skip
  refine wpAny_bind (wpAny_sequenceKey hT (by decide) ?_)
  refine wpAny_bind (wpAny_callSpecial?_slot (name:=Str.ofString "__setitem__") hT BA.slot_set (wpAny_call_entry BA.slot_set hT BA.entry_set ?_ (by unfold argsOk;kernel_rfl)))
  unfold Builtin.«bytearray.__setitem__»
  refine bm_if_false rfl ?_
  show wpAny _ _ (Builtin.Bytes.subscript? (.int k t) >>= _) _ _ s
  refine wpAny_bind ?_
  unfold Builtin.Bytes.subscript?
  refine wpAny_bind (wpAny_specialOf (typeIs_int _ _ _) BA.idx ?_)
  refine bm_if_false rfl ?_
  refine wpAny_bind (wpAny_of_eq (a:=k) rfl ?_)
  refine bm_if_false (by simp [Builtin.Bytes.fitsIndex];exact Z.l752 hs hz h0 hk) ?_
  refine wpAny_pure ?_
  dsimp only
  refine wpAny_bind ?_
  unfold Builtin.Bytes.byteValue
  refine wpAny_bind (wpAny_of_eq (a:=x) rfl ?_)
  refine bm_if_false (by simp;exact Z.l753 hx0 hx) ?_
  refine wpAny_pure ?_
  refine wpAny_bind (pay_ba ho ?_)
  have hj:seqIndex? k b.size=some k.toNat:=by
    unfold seqIndex?
    simp only [if_neg (show ¬ k < 0 by exact Z.l721 h0)]
    rw [if_pos (by simp;exact Z.l754 h0 hk)]
  rw [hj]
  dsimp only
  refine wpAny_bind (write_ba ho (by simp;exact Z.l196 hz) fun h' hs' hp=>?_)
  exact wpAny_pure ⟨_,rfl,wpAny_pure (hQ h' hs' hp)⟩
theorem bytes_ba {a : Addr} {b : Array UInt8} {n : Nat} {Q : Value → Shared → Prop} (ho : s.heap.get? a = some { cls := .type "bytearray", data := .bytearray b n }) (hz : b.size ≤ sizeLine)
    (hQ:Q (.bytes b s.toks) { s with toks:=s.toks+1 }):wpAny (model prog w) A (call (.type "bytes") [.ref a]) Q E s:=by
  have hT:s.TypeIs (.ref a) "bytearray":=⟨_,ho,rfl⟩
  refine callType_codes (Q₁:=fun obj s₁=>s₁.TypeIs obj "bytes"∧Q obj s₁) F.bm_called (F.bm_typeCall _) F.entry_object_init ?_ fun obj s₁ h₁=>?_
  · refine codeAny_of_tree ?_
    show wpAny _ A.in1.in1 (do checkBuiltinCall "bytes.__new__" ⟨[.type "bytes",.ref a],[]⟩;again (.builtin "bytes.__new__" ⟨[.type "bytes",.ref a],[]⟩)) _ _ s
    refine wpAny_bind (wpAny_of_eq (F.bm_newCall _) (wpAny_pure ⟨plainId_quiet F.bm_plain _,codeAny_builtin F.bm_entry ?_⟩))
    rw [Around.under_plainId F.bm_plain _]
    unfold Builtin.«bytes.__new__»
    refine wpAny_bind (wpAny_of_eq (a:=true) rfl ?_)
    refine bm_if_false rfl ?_
    refine wpAny_bind (wpAny_of_eq F.bm_sub ?_)
    refine bm_if_false rfl ?_
    refine wpAny_bind (wpAny_of_eq (F.bm_bind _) ?_)
    refine wpAny_bind (wpAny_of_eq (a:=()) rfl ?_)
    refine wpAny_bind (wpAny_of_eq (a:=()) rfl ?_)
    refine bm_if_false rfl ?_
    refine wpAny_bind (wpAny_specialOf hT BA.no_bytes ?_)
    refine wpAny_bind (wpAny_bind ?_)
    show wpAny _ _ (load a >>= _) _ _ _
    refine wpAny_bind (wpAny_load ho ?_)
    refine wpAny_pure (wpAny_pure ?_)
    refine bm_if_false rfl ?_
    refine wpAny_bind (wpAny_specialOf hT BA.noIndex ?_)
    refine bm_if_true rfl ?_
    first
      | show wpAny _ _ (Builtin.Bytes.buffer? "bytes.__new__" (.ref a) true >>= _) _ _ _
      | (refine wpAny_bind ?_;show wpAny _ _ (Builtin.Bytes.buffer? "bytes.__new__" (.ref a) true >>= _) _ _ _)
    refine wpAny_bind ?_
    unfold Builtin.Bytes.buffer?
    refine wpAny_bind (wpAny_specialOf hT BA.buf ?_)
    dsimp only
    refine wpAny_bind ?_
    · unfold Builtin.Bytes.slotIsOwn
      refine wpAny_bind (wpAny_specialOf hT BA.buf ?_)
      dsimp only
      rw [show (!("bytearray.__buffer__".endsWith ("."++"__buffer__")))=false from by decide +kernel]
      refine bm_if_false rfl ?_
      rw [show "bytearray.__buffer__".dropRight ("__buffer__".length+1)="bytearray" from by decide +kernel]
      refine wpAny_isInstance hT BA.sub ?_
      refine bm_if_false rfl ?_
      refine wpAny_bind (wpAny_specialOf hT BA.buf ?_)
      refine wpAny_bind (release_ba ho rfl ?_)
      refine bm_if_false rfl ?_
      refine wpAny_bind (pay_ba ho (wpAny_pure ?_))
      refine wpAny_bind (wpAny_rule ?_)
      refine wpAny_bind (wpAny_mkBytes ?_ hz)
      show wpAny _ _ (if (Value.type "bytes" == Value.type "bytes")=true then _ else _) _ _ _
      refine bm_if_true (by decide) ?_
      first
        | exact wpAny_pure ⟨PySem.W.typeIs_bytes _ _ _,hQ⟩
        | exact wpAny_bind (wpAny_pure (wpAny_pure ⟨PySem.W.typeIs_bytes _ _ _,hQ⟩))
  · exact ⟨h₁.1,F.args_object_init_2 obj _,object_init_meets F.bm_called.init.lookup F.bm_called.made (by decide) prog w A.in1 _ s₁ ⟨h₁.1,rfl,h₁.2⟩⟩
end
end Mine
end
section
open PySem PySem.Calls PySem.W PyProof.Rows
open Sem (wp)
namespace Mine
noncomputable def theTabs:List Addr:=[63,70]
theorem ends_low {prog : Program} {w : World} {t : Sem Fin} {s : Shared} {R : Result → Shared → Prop} (hreg : s.asleep)
    (h:wpS (model prog w) callerA t (fun fin s'=>∃ f,fin=.done f∧(R (.ok f) s'∧leftWithCleanup s'.gens=false)) (fun e s'=>R (.error e) s'∧leftWithCleanup s'.gens=false) s) :
    ∃ n r s' s'',runN (denote table) prog w n s ⟨t,.builtin "claim.caller" {},default,[]⟩=.halted (outcomeOf r) s' ∧
      schedN (denote table) prog w n (.single s ⟨t,.builtin "claim.caller" {},default,[]⟩)=.halted (outcomeOf r) s'∧s'.forget=s''.forget∧R r s'':=by
  have hw : wp (model prog w) ⟨.builtin "claim.caller" {}, none, none, [], none⟩ t (Sem.finPost (model prog w) ⟨.builtin "claim.caller" {}, none, none, [], none⟩ (fun r s' => R r s' ∧ leftWithCleanup s'.gens = false))
      (fun e _ s'=>R (.error e) s'∧leftWithCleanup s'.gens=false) default s:=by
    refine Sem.wp_mono _ _ t (fun fin p' s' h'=>?_) (fun _ _ _ h'=>h') default s (h _ default caller_in (by decide +kernel) (fun x hx=>nomatch hx))
    obtain ⟨f,rfl,hf⟩:=h'
    exact hf
  obtain ⟨n,r,s₁,s₂,hs,hn,hfo,hR⟩:=wp_halts_full (M:=model prog w) (R:=R) hreg hw
  exact ⟨n,r,s₂,s₁,hn,hs,hfo,hR⟩
theorem callFrom_low {c : ClaimW} {tree : List Value → Sem Fin} {w : World} {s : Shared} {free : Addr → Prop} {gens : Prop} {kept : Heap → Prop} (hz : s.asleep) (hgens : s.gens = #[])
    (hspec : ∀ args, c.pre args = true → WData.layableAll args = true → ∀ ord : List DictEntry → List DictEntry, (∀ l, (ord l).Perm l) → ∃ vs s₁, layAllW c.records (classAt s.heap) w.params ord args s = some (vs, s₁) ∧
        wpS (model c.prog w) callerA (tree vs) (fun fin s'=>∃ f,fin=.done f∧(c.Ends s args vs s₁ (.ok f) s'∧s'.os=s.os∧AllBare s'.gens∧kept s'.heap))
          (fun e s'=>c.Ends s args vs s₁ (.error e) s'∧s'.os=s.os∧AllBare s'.gens∧kept s'.heap) s₁) :
    c.CallFrom (fun vs=>⟨tree vs,.builtin "claim.caller" {},default,[]⟩) w free gens kept s:=by
  intro args hpre hlay ord hord
  obtain ⟨vs,s₁,hlaid,hcode⟩:=hspec args hpre hlay ord hord
  have hal:=layAllW_rest _ _ _ hlaid
  have hrun : wpS (model c.prog w) callerA (tree vs) (fun fin s' => ∃ f, fin = .done f ∧ ((c.Ends s args vs s₁ (.ok f) s' ∧ s'.os = s.os ∧ kept s'.heap) ∧ leftWithCleanup s'.gens = false))
      (fun e s'=>(c.Ends s args vs s₁ (.error e) s'∧s'.os=s.os∧kept s'.heap)∧leftWithCleanup s'.gens=false) s₁ :=
    wpS_mono hcode (fun fin s' ⟨f,e,h1,h2,h3,h4⟩=>⟨f,e,⟨h1,h2,h4⟩,leftWithCleanup_false_of_bare h3⟩) fun e s' ⟨h1,h2,h3,h4⟩=>⟨⟨h1,h2,h4⟩,leftWithCleanup_false_of_bare h3⟩
  obtain ⟨k,r,s',s'',hr,hsched,hfo,hcase,hos,hkp⟩:=ends_low (R:=fun r s'=>c.Ends s args vs s₁ r s'∧s'.os=s.os∧kept s'.heap) (Shared.asleep_of_life hal.2.2.2 hz) hrun
  obtain ⟨eh,_,_,eo,_⟩:=Shared.forget_eq hfo
  have hcase:=hcase.congr eh
  have hkp:kept s'.heap:=by rw [eh];exact hkp
  have hlife:s'.heap.life=s.heap.life:=(runN_life _ _ _ hr).trans hal.2.2.2
  refine ⟨vs,s₁,hlaid,k,_,s',hsched,?_,(fun _ i x hx=>by rw [hgens] at hx;simp at hx),hkp,by rw [hlife],Shared.rest_eq (eo.trans hos)⟩
  rcases hcase with ⟨v,rfl,d1,d2,d3,d4,d5⟩ | ⟨e,ob,cls,rfl,d1,d2,d3,d4,d5⟩
  · exact .inl ⟨v,rfl,d1,d2,d3,fun b o y _=>d4 b o y,d5⟩
  · exact .inr ⟨e,ob,cls,rfl,d1,d2,d3,d4,fun b o y _=>d5 b o y⟩
noncomputable abbrev tabO0:Obj:={ cls:=.none,data:=.fields #[] }
noncomputable def noneV:Value→Bool
  | .none=>true
  | _=>false
noncomputable def noF:Data→Bool
  | .fields vs=>vs.isEmpty
  | _=>false
noncomputable def isTab0 (o:Option Obj):Bool:=o.elim false fun b=>noneV b.cls && b.dict.isNone && noF b.data && b.slots.isEmpty
theorem isTab0_eq {o:Option Obj} (h:isTab0 o=true):o=some tabO0:=by
  cases o with
  | none=>cases h
  | some b =>
    obtain ⟨c,d,t,l⟩:=b
    obtain ⟨h,h4⟩:=Bool.and_eq_true_iff.mp (show (noneV c && d.isNone && noF t && l.isEmpty)=true from h)
    obtain ⟨h,h3⟩:=Bool.and_eq_true_iff.mp h
    obtain ⟨h1,h2⟩:=Bool.and_eq_true_iff.mp h
    obtain rfl:=Option.isNone_iff_eq_none.mp h2
    obtain rfl:=Array.isEmpty_iff.mp h4
    have e1:c=.none:=by unfold noneV at h1;split at h1;rfl;cases h1
    have e3:t=.fields #[]:=by
      unfold noF at h3;split at h3
      · rw [Array.isEmpty_iff.mp h3]
      · cases h3
    rw [e1,e3]
noncomputable def tabs0 (ts:List Addr) (s:Shared):Bool:=ts.all fun P=>isTab0 (s.heap.get? P)
theorem tabs0_at {ts:List Addr} {s:Shared} (h:tabs0 ts s=true):∀ P∈ts,s.heap.get? P=some tabO0:=fun P hP=>isTab0_eq (List.all_eq_true.mp h P hP)
noncomputable abbrev Walk (q:Program) (loose:List Str) (XP:(Str→Option Value)→Heap→Prop) (YP:World→Heap→Prop) (r:RowW) (d:DefRec) (kwd:List (Str × Expr)):Prop :=
  ∀ (w:World) (s₀ s₁:Shared) (mg mb:Str→Option Value),Ground q loose r.records XP w s₀ mg mb s₁.heap→YP w s₁.heap→∀ (a:Addr) (o:Obj) (pm cd doc dV kV:Value),s₁.heap.get? a=some o →
    o.data=.func { docDef d.name d.params d.body d.scope pm cd doc with defaults:=dV,kwdefaults:=kV }→s₁.heap.CodeRec cd d.name→Dflts mg s₁.heap d.params kwd dV kV→mg d.name=some (.ref a)→s₁.gens=#[] →
    ∀ (args:List WData) (vals:List Value) (as:List Addr),r.claim.pre args=true→WData.layableAll args=true→ReadsAllW r.records (classAt s₀.heap) s₁.heap vals args as→WellAll w.params s₁.heap vals args→(∀ a∈as,(a == sysModules)=false)→(∀ P∈theTabs,s₁.heap.get? P=some tabO0) →
      wpS (model r.prog w) callerA (PySem.call (.ref a) vals) (fun v s'=>GoodWG r.claim (classAt s₀.heap) (ExcName.means s₀.heap) args s₁ (.ok (.ret v)) s')
        (fun e s'=>GoodWG r.claim (classAt s₀.heap) (ExcName.means s₀.heap) args s₁ (.error e) s') s₁
theorem PySem.W.holds_open {r : OpenRow} {q : Program} {loose : List Str} {Xt : Shared → Bool} {XP : (Str → Option Value) → Heap → Prop} {α : Type} {Yf : Shared → α} {Ya : World → α} {YP : World → Heap → Prop} {d : DefRec} {kwd : List (Str × Expr)} {N : Nat}
    (whole:∀ w,(openEnds treeTable r.prog w N).map (fun s=>(tabs0 theTabs s,openSeen q loose (importedModules r.prog.main.body) Xt true s,Yf s))=some (true,openGood q loose,Ya w)) (hY:∀ w s,Yf s=Ya w→YP w s.heap) (hYk:∀ w h h',YP w h→(∀ b o,h.get? b=some o→h'.get? b=some o)→YP w h')
    (hX:∀ s,Xt s=true→XP (s.heap.nsMap mainGlobals) s.heap) (hXk:∀ mg h h',XP mg h→(∀ b o,h.get? b=some o→h'.get? b=some o)→XP mg h')
    (hdef:defOf q r.name=some (d,kwd)) (hp:r.prog.theDef r.name=some (d.params,d.body,d.scope)) (hk:kwWritten? d.params.kwonlyargs d.params.kw_defaults=some kwd) (hRf:∀ s,Xt s=true→RecFacts r.records s.heap) (hwr:(!r.writes || r.records.isEmpty)=true)
    (k1:r.wellSaid=true) (ok:(chainsOk q && opensWell r.prog && (frees r.toRowW && r.within.isEmpty))=true) (hb:r.prog.bare) (hw:r.toRowW.promised)
    (call:Walk q loose XP YP r.toRowW d kwd):r.Holds:=by
  have left:LeftO r.prog q loose (fun s=>Xt s && tabs0 theTabs s) Yf Ya N:=fun w=>by
    obtain ⟨s,h1,h2⟩:=Option.map_eq_some_iff.mp (whole w)
    obtain ⟨h3,h4⟩:=Prod.mk.inj h2
    obtain ⟨h5,h6⟩:=Prod.mk.inj h4
    refine Option.map_eq_some_iff.mpr ⟨s,h1,?_⟩
    rw [← h5,← h6]
    unfold openSeen
    dsimp only
    rw [h3,Bool.and_true]
  obtain ⟨ok,k5⟩:=Bool.and_eq_true_iff.mp ok
  obtain ⟨hch,o1⟩:=Bool.and_eq_true_iff.mp ok
  obtain ⟨k5,k6⟩:=Bool.and_eq_true_iff.mp k5
  obtain ⟨hsame,hu,ha,hap,hm⟩:=frees_parts k5
  have hXX:∀ s,(Xt s && tabs0 theTabs s)=true→XP (s.heap.nsMap mainGlobals) s.heap∧RecFacts r.records s.heap∧∀ P∈theTabs,s.heap.get? P=some tabO0:=fun s hs=>by
    obtain ⟨h1,h2⟩:=Bool.and_eq_true_iff.mp hs
    exact ⟨hX s h1,hRf s h1,tabs0_at h2⟩
  refine ⟨k1,hw,⟨hb,o1,by show r.toRowW.makers.map _=[];rw [hm];rfl⟩,hw.witness,fun w=>⟨(left.behind (XP:=fun mg h=>XP mg h∧RecFacts r.records h∧∀ P∈theTabs,h.get? P=some tabO0) hXX hch w).1,fun s' hs'=>?_⟩⟩
  obtain ⟨s₀,hf,hg0,s,hT,hz,hgens,hg,G00,y⟩:=(left.behind (XP:=fun mg h=>XP mg h∧RecFacts r.records h∧∀ P∈theTabs,h.get? P=some tabO0) hXX hch w).2 s' hs'
  have G0:Ground q loose [] XP w s (s.heap.nsMap mainGlobals) (s.heap.nsMap builtinsNs) s.heap:=⟨G00.T,G00.B,G00.D,G00.TE,G00.TD,G00.W,G00.X.1,G00.cls,G00.has,G00.apart,G00.once,G00.K⟩
  have RF:=G00.X.2.1
  have TT:=G00.X.2.2
  refine ⟨s₀,hf,hg0,s,hT,fun n hn=>?pin,RF.1,RF.2.1,?_⟩
  case pin =>
    obtain rfl:n=r.name:=by split at hn <;> simp_all
    exact pinned_of_view hg G0 hdef hp hk
  have hgens:s.gens=#[]:=Array.eq_empty_of_size_eq_zero (beq_iff_eq.mp hgens)
  have G:Ground q loose r.records XP w s _ _ s.heap:=RF.ground G0
  refine callFrom_low (c := r.toRowW.claim) (tree := fun vs => do match ← nsGet mainNs r.name with
      | some f=>do ret (← PySem.call f vs)
      | none=>unsupported "claim.caller:no-such-global") hz hgens fun args hpre hlay ord hord=>?_
  obtain ⟨⟨vs,s₁⟩,hlaid⟩:=Option.isSome_iff_exists.mp (layAllW_isSome (P:=w.params) (ord:=ord) G.has args r.args s (pre_splitW hpre).1)
  have keeps:=layAllW_keeps _ _ _ hlaid
  have hal:=layAllW_rest _ _ _ hlaid
  obtain ⟨as,hrd,hin,hold⟩:=reads_layAllW hord _ _ _ hlaid hlay s₁.heap (fun _ _ e=>e)
  have L:Laid r.records w s s₁ args vs as:=⟨⟨ord,hord,hlaid⟩,hrd,hin,hold,keeps,hal.1.trans hgens,hal.2.2.1⟩
  have G₁:=G.keeps hXk keeps
  have Y₁:=hYk _ _ _ (hY w s y) keeps
  obtain ⟨a,o,pm,cd,doc,dV,kV,h1,h2,h3,h4,h5⟩:=G₁.fn hdef
  have run:=call w s s₁ _ _ G₁ Y₁ a o pm cd doc dV kV h2 h3 h4 h5 (defOf_name hdef ▸ h1) L.gens args vs as hpre hlay L.reads L.well (L.low G.low) (fun P hP=>keeps _ _ (TT P hP))
  have hi:=ident_freeW hu ha hap
  have hwi:r.toRowW.claim.within=[]:=List.isEmpty_iff.mp k6
  refine ⟨vs,s₁,hlaid,wpS_bindA (wpAny_nsGet G₁.T.g ?_)⟩
  rw [h1]
  exact wpS_bind (wpS_mono run (fun v s' g=>wpS_pure ⟨_,rfl,have z:=g.laid (c:=r.toRowW.claim) hsame hwi hi L;⟨z.1,z.2.1,z.2.2,fun q=>⟨namesKept_of hT hg _ keeps g.2.1.old,noTable hwr q⟩⟩⟩)
    fun e s' g=>have z:=g.laid (c:=r.toRowW.claim) hsame hwi hi L;⟨z.1,z.2.1,z.2.2,fun q=>⟨namesKept_of hT hg _ keeps g.2.1.old,noTable hwr q⟩⟩)
end Mine
end
section
open PySem PySem.Calls PySem.W PyProof.Rows PySem.SeqAt PySem.Builtin.Str
namespace Mine
theorem doms_app (a b:List (Addr × Mut)):doms (a++b)=doms a++doms b:=by simp [doms]
section
variable {g:G} {ρ:List (Option D)} {μ μ' a b μ₀ μ₁:List (Addr × Mut)} {S:List Addr} {s s':Shared} {Φ:Flow→Shared→Prop} {rest:List Stmt}
theorem St.called (y:St g ρ (a++(μ₀++b)) s) (e:Ext g.C (doms μ₀) s s') (hd:doms μ₁=doms μ₀) (hm:∀ p∈μ₁,MutOk g.X s'.heap p.1 p.2):St g ρ (a++(μ₁++b)) s':=by
  have hD:doms (a++(μ₁++b))=doms (a++(μ₀++b)):=by simp only [doms_app,hd]
  have inD:∀ c∈doms μ₀,c∈doms (a++(μ₀++b)):=fun c hc=>by simp only [doms_app];exact List.mem_append_right _ (List.mem_append_left _ hc)
  have hL:g.env.locals∉doms μ₀:=fun q=>(y.mX _ (inD _ q)).2.2.1 rfl
  have hC:∀ x c,g.env.cells.lookup x=some c→c∉doms μ₀:=fun x c h q=>(y.mX _ (inD _ q)).2.2.2 x c h rfl
  have hX:∀ c∈doms μ₀,c∈g.X:=fun c hc=>(y.mX _ (inD c hc)).1
  have hP:∀ c∈doms μ₀,c∉g.C.P:=fun c hc=>(y.mX _ (inD c hc)).2.1
  have up:∀ c o,c∉g.X→s.heap.get? c=some o→s'.heap.get? c=some o:=fun c o hc q=>e.keep c o (fun z=>hc (hX c z)) (fun z=>hc (y.inv.pin c z)) q
  refine ⟨y.inv.ext e fun c hc=>y.inv.new c (hX c hc) (hP c hc),y.envOk.ext e hL hC,fun i x d h1 h2=>?_,fun p hp=>?_,by rw [hD];exact y.mX,by rw [hD];exact y.apart,y.nd⟩
  · obtain ⟨v,bd,r⟩:=y.vars i x d h1 h2
    exact ⟨v,bd.ext e y.envOk hL hC,r.mono fun c o hc q=>⟨hc,up c o hc q⟩⟩
  · have old:∀ p∈a++(μ₀++b),(∀ c∈p.1::p.2.more,c∉doms μ₀)→MutOk g.X s'.heap p.1 p.2:=fun p hp hn =>
      (y.muts p hp).mono (fun o q=>e.keep _ o (hn _ (.head _)) (y.mX _ (mem_doms hp)).2.1 q) (fun c hc o q=>e.keep _ o (hn _ (.tail _ hc)) (y.mX _ (more_doms hp hc)).2.1 q) up
    have nd:=y.apart
    simp only [doms_app,List.nodup_append] at nd
    rcases List.mem_append.mp hp with q | q
    · refine old p (List.mem_append_left _ q) fun c hc z=>?_
      exact nd.2.2 c (List.mem_flatMap.mpr ⟨p,q,hc⟩) c (List.mem_append_left _ z) rfl
    · rcases List.mem_append.mp q with q | q
      · exact hm p q
      · refine old p (List.mem_append_right _ (List.mem_append_right _ q)) fun c hc z=>?_
        exact nd.2.1.2.2 c z c (List.mem_flatMap.mpr ⟨p,q,hc⟩) rfl
theorem Ext.wideD (e:Ext g.C (doms μ₀) s s'):Ext g.C (doms (a++(μ₀++b))) s s':=e.wider fun c hc=>.inl (by simp only [doms_app];exact List.mem_append_right _ (List.mem_append_left _ hc))
noncomputable def EvM (g:G) (ρ:List (Option D)) (μ:List (Addr × Mut)) (e:Expr) (d:D) (μ':List (Addr × Mut)):Prop:=doms μ'=doms μ∧∀ s,St g ρ μ s→Dn g.C g.A (doms μ) s (eval e g.env) fun v s'=>St g ρ μ' s'∧Rep g.X s'.heap v d
theorem Ev.M {e:Expr} {d:D} (h:Ev g ρ μ e d):EvM g ρ μ e d μ:=⟨rfl,fun s y=>(h s y).use fun v s' ex r=>⟨ex.wider (fun _ h=>nomatch h),y.ext ex,r⟩⟩
noncomputable def EvTM (g:G) (ρ:List (Option D)) (μ:List (Addr × Mut)) (e:Expr) (b:Bool) (μ':List (Addr × Mut)):Prop:=doms μ'=doms μ∧∀ s,St g ρ μ s→Dn g.C g.A (doms μ) s (isTrue e g.env (eval e g.env)) fun v s'=>St g ρ μ' s'∧v=b
theorem EvM.wp {e:Expr} {d:D} (h:EvM g ρ μ e d μ') (y:St g ρ μ s) {Q:Value→Shared→Prop} {E:Value→Shared→Prop} (k:∀ v s',St g ρ μ' s'→Rep g.X s'.heap v d→Ext g.C (doms μ) s s'→Q v s'):wpAny g.C.M g.A (eval e g.env) Q E s :=
  (h.2 s y).use fun v s' ex q=>k v s' q.1 q.2 ex
theorem EvTM.wp {e:Expr} {b:Bool} (h:EvTM g ρ μ e b μ') (y:St g ρ μ s) {Q:Bool→Shared→Prop} {E:Value→Shared→Prop} (k:∀ s',St g ρ μ' s'→Ext g.C (doms μ) s s'→Q b s'):wpAny g.C.M g.A (isTrue e g.env (eval e g.env)) Q E s :=
  (h.2 s y).use fun v s' ex q=>by obtain ⟨q,rfl⟩:=q;exact k s' q ex
theorem Ext.eqD {C:Cx} {S S':List Addr} (e:Ext C S s s') (h:S=S'):Ext C S' s s':=h ▸ e
theorem Ext.up0 {C:Cx} (e:Ext C [] s s'):Ext C S s s':=e.wider fun _ h=>nomatch h
theorem EvM.call {func e : Expr} {es : List Expr} {pos : Pos} {k : Nat} {f : Value} {ds : List D} {d : D} (a b : List (Addr × Mut)) (R : Room g.A k) (hf : Ev g ρ (a ++ (μ₀ ++ b)) func (.val f)) (hkeep : keepIn g.C.K f = true) (ha : EvL g ρ (a ++ (μ₀ ++ b)) pos (e :: es) ds) (hc : FnM g.C k f ds μ₀ d μ₁) (hd : doms μ₁ = doms μ₀)
    (he:starEach (e::es) g.env=(false,eval e g.env)::starEach es g.env:=by rfl) (hplain:(backTo pos (starEach es g.env)).any (·.1)=false:=by rfl)
    (hq:eval (.Call func (e::es) [] pos) g.env=(eval func g.env >>= fun v=>callWith pos v [] (backTo pos (starEach (e::es) g.env)) []):=by rfl):EvM g ρ (a++(μ₀++b)) (.Call func (e::es) [] pos) d (a++(μ₁++b)):=by
  refine ⟨by simp only [doms_app,hd],fun s x=>?_⟩
  show wpAny _ _ _ _ _ _
  rw [hq]
  refine wpAny_bind (hf.wp x fun v s₁ x₁ r₁ e₁=>?_)
  (first | obtain rfl:=r₁.vI | obtain ⟨_,rfl⟩:=r₁.iI | obtain ⟨_,rfl⟩:=r₁.sI | obtain ⟨_,rfl⟩:=r₁.bI | obtain rfl:=r₁.nI | cases r₁)
  refine callWith_K (h₀:=s₁.heap) x₁.inv.K hkeep ((ha s₁ x₁).use fun vs s₂ e₂ r₂=>⟨(x₁.ext e₂).inv.K,?_⟩) he hplain
  have x₂:=x₁.ext e₂
  refine wpAny_call (codeAny_mono (hc _ _ _ _ R x₂.inv r₂ (fun p hp=>x₂.muts p (List.mem_append_right _ (List.mem_append_left _ hp))) (fun c hc=>?_) ?_) fun r s₃ q=>?_)
  · have:=x₂.mX c (by simp only [doms_app];exact List.mem_append_right _ (List.mem_append_left _ hc))
    exact ⟨this.1,this.2.1⟩
  · have nd:=x₂.apart
    simp only [doms_app,List.nodup_append] at nd
    exact nd.2.1.1
  · obtain ⟨v,rfl,e₃,r₃,m₃⟩:=q
    exact ⟨((e₁.trans e₂).up0).trans e₃.wideD,x₂.called e₃ hd m₃,r₃⟩
theorem EvM.cmp {l r:Expr} {op:CmpOp} {pos:Pos} {x y d:D} (R:Room g.A 0) (hl:EvM g ρ μ l x μ') (hr:Ev g ρ μ' r y) (o:Cmp op x y d) (hm:behindInMarks op r=false:=by with_unfolding_all rfl):EvM g ρ μ (.Compare l [op] [r] pos) d μ':=⟨hl.1,fun s z =>
  wpAny_Compare1 (hl.wp z fun va s₁ x₁ r₁ e₁=>hr.wp x₁ fun vb s₂ x₂ r₂ e₂=>(o _ _ _ _ _ _ x₂.inv R (r₁.ext e₂ (fun _ h=>nomatch h) x₁.inv.pin) r₂).use fun v s₃ e₃ r₃=>⟨e₁.trans (e₂.trans e₃).up0,x₂.ext e₃,r₃⟩) hm⟩
theorem EvTM.cmp {l r : Expr} {op : CmpOp} {pos : Pos} {x y : D} {c : Bool} (R : Room g.A 0) (hl : EvM g ρ μ l x μ') (hr : Ev g ρ μ' r y) (o : Cmp op x y (D.bool c)) (hm : behindInMarks op r = false := by with_unfolding_all rfl) :
    EvTM g ρ μ (.Compare l [op] [r] pos) c μ':=⟨hl.1,fun s z =>
  wpAny_isTrue_Compare1 (hl.wp z fun va s₁ x₁ r₁ e₁=>hr.wp x₁ fun vb s₂ x₂ r₂ e₂=>(o _ _ _ _ _ _ x₂.inv R (r₁.ext e₂ (fun _ h=>nomatch h) x₁.inv.pin) r₂).use fun v s₃ e₃ r₃=>by
    (first | obtain rfl:=r₃.vI | obtain ⟨_,rfl⟩:=r₃.iI | obtain ⟨_,rfl⟩:=r₃.sI | obtain ⟨_,rfl⟩:=r₃.bI | obtain rfl:=r₃.nI | cases r₃);exact wpAny_truthy_bool ⟨e₁.trans (e₂.trans e₃).up0,x₂.ext e₃,rfl⟩) hm⟩
noncomputable def EvAndM (g:G) (ρ:List (Option D)) (μ:List (Addr × Mut)) (pos:Pos) (es:List Expr) (d:D) (μ':List (Addr × Mut)):Prop:=doms μ'=doms μ∧∀ s,St g ρ μ s→Dn g.C g.A (doms μ) s (boolOp pos .And (evalEach es g.env)) fun v s'=>St g ρ μ' s'∧Rep g.X s'.heap v d
theorem EvAndM.one {pos:Pos} {e:Expr} {d:D} (h:EvM g ρ μ e d μ'):EvAndM g ρ μ pos [e] d μ':=⟨h.1,fun s x=>h.2 s x⟩
theorem EvAndM.cons {pos:Pos} {e e':Expr} {es:List Expr} {p q:Bool} {μ₂:List (Addr × Mut)} (h:EvM g ρ μ e (D.bool p) μ') (k:p=true→EvAndM g ρ μ' pos (e'::es) (D.bool q) μ₂) (hd:doms μ₂=doms μ):EvAndM g ρ μ pos (e::e'::es) (D.bool (p && q)) (if p then μ₂ else μ'):=by
  refine ⟨by cases p with | true=>exact hd | false=>exact h.1,fun s x=>?_⟩
  show Dn g.C g.A _ s (boolOp pos .And (eval e g.env::eval e' g.env::evalEach es g.env)) _
  rw [boolOp_cons2]
  refine wpAny_bind (h.wp x fun v s₁ x₁ r e₁=>wpAny_bind (wpAny_standAt (wpAny_bind (wpAny_holding ?_))))
  (first | obtain rfl:=r.vI | obtain ⟨_,rfl⟩:=r.iI | obtain ⟨_,rfl⟩:=r.sI | obtain ⟨_,rfl⟩:=r.bI | obtain rfl:=r.nI | cases r)
  refine wpAny_truthy_bool ?_
  cases p with
  | true=>exact ((k rfl).2 s₁ x₁).use fun v s₂ e₂ r=>⟨e₁.trans (e₂.eqD h.1),by simpa using r⟩
  | false=>exact wpAny_pure ⟨e₁,by simpa using x₁,.val _⟩
theorem EvM.and {es:List Expr} {pos:Pos} {d:D} (h:EvAndM g ρ μ pos es d μ'):EvM g ρ μ (.BoolOp .And es pos) d μ':=⟨h.1,fun s x=>h.2 s x⟩
noncomputable def EvLM (g:G) (ρ:List (Option D)) (μ:List (Addr × Mut)) (pos:Pos) (es:List Expr) (ds:List D) (μ':List (Addr × Mut)):Prop:=doms μ'=doms μ∧∀ s,St g ρ μ s→Dn g.C g.A (doms μ) s (spliced (backTo pos (starEach es g.env))) fun vs s'=>St g ρ μ' s'∧RepL g.X s'.heap vs ds
theorem EvL.M {pos:Pos} {es:List Expr} {ds:List D} (h:EvL g ρ μ pos es ds):EvLM g ρ μ pos es ds μ:=⟨rfl,fun s y=>(h s y).use fun v s' ex r=>⟨ex.up0,y.ext ex,r⟩⟩
theorem EvLM.nil {pos:Pos}:EvLM g ρ μ pos [] [] μ:=EvL.nil.M
theorem EvLM.cons {pos : Pos} {e : Expr} {es : List Expr} {d : D} {ds : List D} {μ₂ : List (Addr × Mut)} (h : EvM g ρ μ e d μ') (k : EvLM g ρ μ' pos es ds μ₂) (he : starEach (e :: es) g.env = (false, eval e g.env) :: starEach es g.env := by rfl) :
    EvLM g ρ μ pos (e::es) (d::ds) μ₂:=⟨k.1.trans h.1,fun s x=>by
  show wpAny _ _ (spliced (backTo pos (starEach (e::es) g.env))) _ _ _
  rw [he]
  refine spliced_cons (h.wp x fun v s₁ x₁ r e₁=>(k.2 s₁ x₁).use fun vs s₂ e₂ q=>⟨e₁.trans (e₂.eqD h.1),q.1,.cons (r.ext e₂ (fun c hc=>?_) x₁.inv.pin) q.2⟩)
  exact (x₁.mX c hc).1⟩
theorem EvM.tup {es:List Expr} {k:Nat} {pos:Pos} {ds:List D} (h:EvLM g ρ μ pos es ds μ') (hsz:ds.length≤sizeLine:=by decide):EvM g ρ μ (.Tuple es k pos) (.tup ds) μ':=⟨h.1,fun s x =>
  Tuple_ ((h.2 s x).use fun vs s₁ e₁ q=>(newTuple_rep q.1.inv q.2 hsz).use fun v s₂ e₂ z=>⟨e₁.trans e₂.up0,q.1.ext e₂,z⟩)⟩
theorem Ex.assignM (i : Nat) {x : Str} {p pos : Pos} {e : Expr} {d : D} (h1 : g.ns[i]? = some x) (hk : Stored g S x) (he : EvM g ρ μ e d μ') (hS : ∀ c ∈ doms μ, c ∈ S) (k : Ex g S (ρ.set i (some d)) μ' rest Φ)
    (hs:swapsWith e (some (.Name x p)) pos.line g.env=pure false:=by rfl):Ex g S ρ μ (.Assign [.Name x p] e pos::rest) Φ:=Ex.step fun s y =>
  wpAny_Assign_Name (he.wp y fun v s₁ y₁ r e₁=>(y₁.store h1 hk r).use fun _ s₂ e₂ y₂=>⟨(e₁.wider fun c hc=>.inl (hS c hc)).trans e₂,k s₂ y₂⟩) hs
theorem Ex.exprM {e:Expr} {pos:Pos} {d:D} (he:EvM g ρ μ e d μ') (hS:∀ c∈doms μ,c∈S) (k:Ex g S ρ μ' rest Φ) (hi:interactive g.env=false:=by rfl) (hs:swapsWith e none pos.line g.env=pure false:=by rfl):Ex g S ρ μ (.Expr e pos::rest) Φ:=Ex.step fun s y =>
  wpAny_Expr_any (he.wp y fun v s₁ y₁ r e₁=>⟨e₁.wider fun c hc=>.inl (hS c hc),k s₁ y₁⟩) hi hs
theorem Ex.retM {e:Expr} {pos:Pos} {d:D} (he:EvM g ρ μ e d μ') (hS:∀ c∈doms μ,c∈S) (k:∀ v s,St g ρ μ' s→Rep g.X s.heap v d→Φ (.ret v) s):Ex g S ρ μ (.Return (some e) pos::rest) Φ:=Ex.step fun s y =>
  wpAny_Return_some (he.wp y fun v s₁ y₁ r e₁=>⟨e₁.wider fun c hc=>.inl (hS c hc),k v s₁ y₁ r⟩)
theorem St.frozen {p q : List (Addr × Mut)} {c : Addr} {ds : List D} {i : Nat} (y : St g ρ (p ++ ((c, .lst ds) :: q)) s) (h2 : ρ[i]? = some (some (.val (.ref c)))) :
    St { g with X:=g.X.filter fun a=>decide (a≠c) } (ρ.set i (some (.lst ds))) (p++q) s:=by
  have hcd:c∈doms (p++((c,.lst ds)::q)):=by simp [doms_app,doms]
  obtain ⟨hcX,hcP,hcL,hcC⟩:=y.mX c hcd
  have nd:(doms p++(c::doms q)).Nodup:=by
    have:=y.apart
    rw [doms_app] at this
    exact this
  obtain ⟨n1,n2,n3⟩:=List.nodup_append.mp nd
  obtain ⟨n4,n5⟩:=List.nodup_cons.mp n2
  have inX:∀ a∈g.X,a≠c→a∈g.X.filter fun a=>decide (a≠c):=fun a ha hne=>List.mem_filter.mpr ⟨ha,decide_eq_true hne⟩
  have sub:∀ a∈g.X.filter fun a=>decide (a≠c),a∈g.X:=fun a ha=>(List.mem_filter.mp ha).1
  have out:c∉g.X.filter fun a=>decide (a≠c):=fun h=>of_decide_eq_true (List.mem_filter.mp h).2 rfl
  have hdom:∀ a∈doms (p++q),a∈doms (p++((c,.lst ds)::q))∧a≠c:=fun a ha=>by
    rw [doms_app] at ha
    rcases List.mem_append.mp ha with z | z
    · exact ⟨by rw [doms_app];exact List.mem_append_left _ z,fun e=>n3 a z c (.head _) e⟩
    · exact ⟨by rw [doms_app];exact List.mem_append_right _ (List.mem_append_right _ z),fun e=>n4 (e ▸ z)⟩
  have y':St { g with X:=g.X.filter fun a=>decide (a≠c) } ρ (p++q) s :=
    ⟨⟨y.inv.base,y.inv.keep,y.inv.tab,y.inv.os,y.inv.gens,fun z hz=>inX z (y.inv.pin z hz) (fun e=>hcP (e ▸ hz)),fun a ha=>y.inv.new a (sub a ha),fun a ha=>y.inv.occ a (sub a ha)⟩,
     ⟨y.envOk.kind,y.envOk.glob,y.envOk.bi,y.envOk.ns,inX _ y.envOk.inX (fun e=>hcL e.symm),y.envOk.lP,y.envOk.cel,fun x z h1 h2=>inX z (y.envOk.own x z h1 h2) (fun e=>hcC x z h2 e.symm),y.envOk.inj⟩,
     fun j x d h1 h2=>let ⟨v,b,r⟩:=y.vars j x d h1 h2;⟨v,b,r.sub sub⟩,
     fun z hz=>(y.muts z (by rcases List.mem_append.mp hz with w | w;exact List.mem_append_left _ w;exact List.mem_append_right _ (.tail _ w))).sub sub,
     fun a ha=>⟨inX a (y.mX a (hdom a ha).1).1 (hdom a ha).2,(y.mX a (hdom a ha).1).2⟩,
     by
      rw [doms_app,List.nodup_append]
      exact ⟨n1,n5,fun a ha b hb=>n3 a ha b (.tail _ hb)⟩,y.nd⟩
  refine ⟨y'.inv,y'.envOk,fun j x d h1 hr=>?_,y'.muts,y'.mX,y'.apart,y'.nd⟩
  by_cases hij:j=i
  · subst hij
    have hlt:j < ρ.length:=(List.getElem?_eq_some_iff.mp h2).1
    rw [List.getElem?_set,if_pos rfl,if_pos hlt] at hr
    cases hr
    obtain ⟨v,b,r⟩:=y.vars j x _ h1 h2
    (first | obtain rfl:=r.vI | obtain ⟨_,rfl⟩:=r.iI | obtain ⟨_,rfl⟩:=r.sI | obtain ⟨_,rfl⟩:=r.bI | obtain rfl:=r.nI | cases r)
    obtain ⟨vs,n,ho,rl⟩:=y.muts (c,.lst ds) (List.mem_append_right _ (.head _))
    exact ⟨_,b,.lst out ho (rl.sub sub)⟩
  · rw [List.getElem?_set,if_neg (fun z=>hij z.symm)] at hr
    exact y'.vars j x d h1 hr
theorem Ex.freeze (i : Nat) {p q : List (Addr × Mut)} {c : Addr} {ds : List D} {ss : List Stmt} (h2 : ρ[i]? = some (some (.val (.ref c)))) (k : Ex { g with X := g.X.filter fun a => decide (a ≠ c) } S (ρ.set i (some (.lst ds))) (p ++ q) ss Φ) :
    Ex g S ρ (p++((c,.lst ds)::q)) ss Φ:=fun s y=>k s (y.frozen h2)
noncomputable def D.flat:D→Bool
  | .val (.ref _)=>false
  | .val _=>true
  | .int _ | .str _ | .bytes _=>true
  | _=>false
theorem Rep.anyX {X X':List Addr} {h:Heap} {v:Value} {d:D} (r:Rep X h v d) (hd:d.flat=true):Rep X' h v d:=by
  cases r with
  | val v=>exact .val v
  | int i t=>exact .int i t
  | str x t=>exact .str x t
  | bytes b t=>exact .bytes b t
  | tup=>cases hd
  | lst=>cases hd
  | rng=>cases hd
theorem Ev.look (i : Nat) {p q : List (Addr × Mut)} {c : Addr} {ds : List D} {e : Expr} {d : D} (h2 : ρ[i]? = some (some (.val (.ref c)))) (h : Ev { g with X := g.X.filter fun a => decide (a ≠ c) } (ρ.set i (some (.lst ds))) (p ++ q) e d) (hd : d.flat = true := by rfl) :
    Ev g ρ (p++((c,.lst ds)::q)) e d:=fun s y=>(h s (y.frozen h2)).mono fun v s' ex r=>r.anyX hd
theorem EvT.look (i : Nat) {p q : List (Addr × Mut)} {c : Addr} {ds : List D} {e : Expr} {b : Bool} (h2 : ρ[i]? = some (some (.val (.ref c)))) (h : EvT { g with X := g.X.filter fun a => decide (a ≠ c) } (ρ.set i (some (.lst ds))) (p ++ q) e b) :
    EvT g ρ (p++((c,.lst ds)::q)) e b:=fun s y=>(h s (y.frozen h2)).mono fun v s' ex r=>r
end
end Mine
end
section
open PySem PySem.Calls PySem.W PyProof.Rows PySem.SeqAt PySem.Builtin.Str
namespace Mine
theorem mapSeq_lst (f:Array Value→Array Value) (vs:List Value) (n:Nat) (ws:List Value) (h:f vs.toArray=ws.toArray):∃ n',Obj.mapSeq f (lstO vs n)=lstO ws n':=by
  unfold Obj.mapSeq
  simp only [h]
  exact ⟨_,rfl⟩
section
variable {prog:Program} {w:World} {A:Around} {E:Value→Shared→Prop} {s:Shared}
theorem setItem_lst {l : Addr} {vs : List Value} {n : Nat} {k : Int} {t : Tok} {v : Value} {Q : Unit → Shared → Prop} (ho : s.heap.get? l = some (lstO vs n)) (h0 : 0 ≤ k) (hfit : k < 2 ^ 63) (hn : k < vs.length)
    (hQ:∀ h',(∃ n',h'.get? l=some (lstO (vs.set k.toNat v) n'))→Heap.SameBut l s.heap h'→Q () { s with heap:=h' }):wpAny (model prog w) A (setItem (.ref l) (.int k t) v) Q E s:=by
  have hl:s.heap.IsList l vs.toArray:=⟨_,ho,rfl,n,rfl⟩
  unfold setItem
  try with_reducible refine wpAny_holding ?_
  first | refine wpAny_bind (wpAny_pure ?_) | skip
  refine wpAny_bind (wpAny_sequenceKey hl.typeIs (by decide) ?_)
  refine wpAny_bind (wpAny_callSpecial?_slot (name:=Str.ofString "__setitem__") hl.typeIs slot_list_setitem
    (wpAny_call_entry slot_list_setitem hl.typeIs entry_list_setitem ?_ (args_list_setitem _ _ _)))
  show wpAny _ _ (Builtin.List.listSubscript? (.int k t) >>= _) _ _ s
  refine wpAny_bind (wpAny_listSubscript_int (fitsIndex_of h0 hfit) ?_)
  clear hfit
  obtain ⟨j,rfl⟩:=Int.eq_ofNat_of_zero_le h0
  have hj:j < vs.toArray.size:=by simp;exact Z.l491 hn
  have hx':vs.toArray[j]?=some vs.toArray[j]:=Array.getElem?_eq_getElem hj
  show wpAny _ _ ((seqItemAt l j >>= fun r=>pure (r.map (j,·))) >>= _) _ _ s
  refine wpAny_bind (wpAny_bind (wpAny_seqItemAt ho rfl (wpAny_pure ?_)))
  rw [hx']
  show wpAny _ _ (setSeqItemAt l j v >>= _) _ _ s
  obtain ⟨n',hd'⟩:=mapSeq_lst (·.setIfInBounds j v) vs n (vs.set j v) (by simp)
  have hfin:(s.heap.update l (Obj.mapSeq (·.setIfInBounds j v))).get? l=some (lstO (vs.set j v) n'):=by
    rw [Heap.get?_update_self _ ho (by rw [hd'];rfl),hd']
  refine wpAny_bind (wpAny_setSeqItemAt ho rfl ?_)
  first
    | exact wpAny_bind (wpAny_pure (wpAny_pure ⟨.none,rfl,wpAny_pure (hQ _ ⟨n',hfin⟩ (Heap.SameBut.update ..))⟩))
    | exact wpAny_pure ⟨.none,rfl,wpAny_pure (hQ _ ⟨n',hfin⟩ (Heap.SameBut.update ..))⟩
end
section
variable {g:G} {ρ:List (Option D)} {μ μ' p q:List (Addr × Mut)} {S:List Addr} {s s':Shared} {Φ:Flow→Shared→Prop} {rest:List Stmt} {c:Addr} {ds:List D}
theorem mem_mid {m:Mut}:(p++((c,m)::q))[p.length]?=some (c,m):=by simp
theorem set_mid {m m':Mut}:(p++((c,m)::q)).set p.length (c,m')=p++((c,m')::q):=by simp
theorem dom_mid {m m':Mut} (h:m'.more=m.more):doms (p++((c,m')::q))=doms (p++((c,m)::q)):=by simp [doms_app,doms,h]
theorem St.relst {vs : List Value} {n : Nat} {es : List D} {h' : Heap} {tk : Nat} (y : St g ρ (p ++ ((c, .lst ds) :: q)) s) (hs : Heap.SameBut c s.heap h') (ho : h'.get? c = some (lstO vs n)) (r : RepL g.X s.heap vs es) :
    Ext g.C (doms (p++((c,.lst ds)::q))) s { s with heap:=h',toks:=tk }∧St g ρ (p++((c,.lst es)::q)) { s with heap:=h',toks:=tk }:=by
  have hcX:=(y.mX c (mem_doms (List.mem_of_getElem? mem_mid))).1
  have:=y.setmut (m':=.lst es) (tk:=tk) mem_mid (.head _) rfl hs ⟨vs,n,ho,r.mono fun b o hb z=>⟨hb,(hs.2 b (fun w=>hb (w ▸ hcX))).trans z⟩⟩ ⟨_,ho⟩
  rw [set_mid] at this
  exact this
theorem Ex.setItem {o i e : Expr} {tp pos : Pos} {k : Int} {d : D} (he : Ev g ρ (p ++ ((c, .lst ds) :: q)) e d) (ho : Ev g ρ (p ++ ((c, .lst ds) :: q)) o (.val (.ref c))) (hi : Ev g ρ (p ++ ((c, .lst ds) :: q)) i (.int k)) (h0 : 0 ≤ k) (hk : k < ds.length) (hz : ds.length ≤ sizeLine)
    (hS:∀ b∈doms (p++((c,.lst ds)::q)),b∈S) (kk:Ex g S ρ (p++((c,.lst (ds.set k.toNat d))::q)) rest Φ) (hs:swapsWith e (some (.Subscript o i tp)) pos.line g.env=pure false:=by rfl) :
    Ex g S ρ (p++((c,.lst ds)::q)) (.Assign [.Subscript o i tp] e pos::rest) Φ:=Ex.step fun s y =>
  wpAny_Assign_Subscript (he.wp y fun v s₁ y₁ r₁ e₁=>ho.wp y₁ fun ov s₂ y₂ r₂ e₂=>hi.wp y₂ fun iv s₃ y₃ r₃ e₃=>by
    (first | obtain rfl:=r₂.vI | obtain ⟨_,rfl⟩:=r₂.iI | obtain ⟨_,rfl⟩:=r₂.sI | obtain ⟨_,rfl⟩:=r₂.bI | obtain rfl:=r₂.nI | cases r₂);(first | obtain rfl:=r₃.vI | obtain ⟨_,rfl⟩:=r₃.iI | obtain ⟨_,rfl⟩:=r₃.sI | obtain ⟨_,rfl⟩:=r₃.bI | obtain rfl:=r₃.nI | cases r₃)
    have hsz:sizeLine=16777216:=rfl
    obtain ⟨vs,n,hg,r⟩:=y₃.muts (c,.lst ds) (List.mem_of_getElem? mem_mid)
    refine setItem_lst hg h0 (by exact Z.l733 hsz hz hk) (by rw [r.length];exact hk) fun h' ⟨n',hp⟩ hs'=>?_
    have rd:=(r₁.ext e₂ (fun _ h=>nomatch h) y₁.inv.pin).ext e₃ (fun _ h=>nomatch h) y₂.inv.pin
    obtain ⟨e₄,y₄⟩:=y₃.relst (tk:=s₃.toks) hs' hp (r.set k.toNat rd)
    exact ⟨((e₁.trans e₂).trans e₃).up0.trans (e₄.wider fun b hb=>.inl (hS b hb)),kk _ y₄⟩) hs
theorem Ex.augItem {o i e : Expr} {tp pos : Pos} {op : Operator} {k : Int} {a b d : D} (R : Room g.A 0) (ho : Ev g ρ (p ++ ((c, .lst ds) :: q)) o (.val (.ref c))) (hi : Ev g ρ (p ++ ((c, .lst ds) :: q)) i (.int k)) (h0 : 0 ≤ k) (ha : ds[k.toNat]? = some a) (hz : ds.length ≤ sizeLine)
    (he:Ev g ρ (p++((c,.lst ds)::q)) e b) (oo:Inp op a b d) (hS:∀ b∈doms (p++((c,.lst ds)::q)),b∈S) (kk:Ex g S ρ (p++((c,.lst (ds.set k.toNat d))::q)) rest Φ)
    (hi':∀ ov iv new,augStore i ov iv new=(do holding [new,ov,iv] (PySem.setItem ov iv new);release [new,ov,iv] [];pure .next):=by intros;rfl) :
    Ex g S ρ (p++((c,.lst ds)::q)) (.AugAssign (.Subscript o i tp) op e pos::rest) Φ:=Ex.step fun s y =>
  wpAny_AugAssign_SubscriptAny (ho.wp y fun ov s₁ y₁ r₁ e₁=>hi.wp y₁ fun iv s₂ y₂ r₂ e₂=>by
    (first | obtain rfl:=r₁.vI | obtain ⟨_,rfl⟩:=r₁.iI | obtain ⟨_,rfl⟩:=r₁.sI | obtain ⟨_,rfl⟩:=r₁.bI | obtain rfl:=r₁.nI | cases r₁);(first | obtain rfl:=r₂.vI | obtain ⟨_,rfl⟩:=r₂.iI | obtain ⟨_,rfl⟩:=r₂.sI | obtain ⟨_,rfl⟩:=r₂.bI | obtain rfl:=r₂.nI | cases r₂)
    have hsz:sizeLine=16777216:=rfl
    obtain ⟨vs,n,hg,r⟩:=y₂.muts (c,.lst ds) (List.mem_of_getElem? mem_mid)
    have hL:s₂.heap.IsList c vs.toArray:=⟨_,hg,rfl,n,rfl⟩
    obtain ⟨w,hw,rw'⟩:=r.get ha
    have hlt:k.toNat < ds.length:=(List.getElem?_eq_some_iff.mp ha).1
    refine wpAny_getItem_list hL h0 (by exact Z.l717 hsz hz hlt) (by simpa using hw) ?_
    refine he.wp y₂ fun v s₃ y₃ r₃ e₃=>?_
    refine (oo g.C g.A g.X s₃ w v y₃.inv R (rw'.ext e₃ (fun _ h=>nomatch h) y₂.inv.pin) r₃).use fun new s₄ e₄ r₄=>?_
    have y₄:=y₃.ext e₄
    obtain ⟨vs',n',hg',r'⟩:=y₄.muts (c,.lst ds) (List.mem_of_getElem? mem_mid)
    refine setItem_lst hg' h0 (by exact Z.l717 hsz hz hlt) (by rw [r'.length];exact Z.l734 hlt) fun h' ⟨n'',hp⟩ hs'=>?_
    obtain ⟨e₅,y₅⟩:=y₄.relst (tk:=s₄.toks) hs' hp (r'.set k.toNat r₄)
    exact ⟨(((e₁.trans e₂).trans e₃).trans e₄).up0.trans (e₅.wider fun b hb=>.inl (hS b hb)),kk _ y₅⟩) hi'
theorem Ex.setBa {o i e : Expr} {tp pos : Pos} {k x : Int} {b : Array UInt8} (he : Ev g ρ (p ++ ((c, .ba b) :: q)) e (.int x)) (ho : Ev g ρ (p ++ ((c, .ba b) :: q)) o (.val (.ref c))) (hi : Ev g ρ (p ++ ((c, .ba b) :: q)) i (.int k)) (h0 : 0 ≤ k) (hk : k < b.size) (hz : b.size ≤ sizeLine) (hx0 : 0 ≤ x) (hx : x < 256)
    (hS:∀ z∈doms (p++((c,.ba b)::q)),z∈S) (kk:Ex g S ρ (p++((c,.ba (b.setIfInBounds k.toNat x.toNat.toUInt8))::q)) rest Φ) (hs:swapsWith e (some (.Subscript o i tp)) pos.line g.env=pure false:=by rfl) :
    Ex g S ρ (p++((c,.ba b)::q)) (.Assign [.Subscript o i tp] e pos::rest) Φ:=Ex.step fun s y =>
  wpAny_Assign_Subscript (he.wp y fun v s₁ y₁ r₁ e₁=>ho.wp y₁ fun ov s₂ y₂ r₂ e₂=>hi.wp y₂ fun iv s₃ y₃ r₃ e₃=>by
    (first | obtain rfl:=r₁.vI | obtain ⟨_,rfl⟩:=r₁.iI | obtain ⟨_,rfl⟩:=r₁.sI | obtain ⟨_,rfl⟩:=r₁.bI | obtain rfl:=r₁.nI | cases r₁);(first | obtain rfl:=r₂.vI | obtain ⟨_,rfl⟩:=r₂.iI | obtain ⟨_,rfl⟩:=r₂.sI | obtain ⟨_,rfl⟩:=r₂.bI | obtain rfl:=r₂.nI | cases r₂);(first | obtain rfl:=r₃.vI | obtain ⟨_,rfl⟩:=r₃.iI | obtain ⟨_,rfl⟩:=r₃.sI | obtain ⟨_,rfl⟩:=r₃.bI | obtain rfl:=r₃.nI | cases r₃)
    obtain ⟨n,hg⟩:=y₃.muts (c,.ba b) (List.mem_of_getElem? mem_mid)
    refine setItem_ba hg h0 hk hz hx0 hx fun h' hs' hp=>?_
    have:=y₃.setmut (m':=.ba (b.setIfInBounds k.toNat x.toNat.toUInt8)) (tk:=s₃.toks) mem_mid (.head _) rfl hs' ⟨n,hp⟩ ⟨_,hp⟩
    rw [set_mid] at this
    exact ⟨((e₁.trans e₂).trans e₃).up0.trans (this.1.wider fun b hb=>.inl (hS b hb)),kk _ this.2⟩) hs
theorem Ex.extend {o e : Expr} {apos pos spos : Pos} {es : List D} {μ₁ : List (Addr × Mut)} {ds' : List D} {p' q' : List (Addr × Mut)} (hd : doms (p' ++ ((c, .lst ds') :: q')) = doms (p ++ ((c, .lst ds) :: q))) (ho : Ev g ρ (p ++ ((c, .lst ds) :: q)) o (.val (.ref c))) (hS : ∀ b ∈ doms (p ++ ((c, .lst ds) :: q)), b ∈ S)
    (he:EvM g ρ (p++((c,.lst ds)::q)) e (.lst es) (p'++((c,.lst ds')::q'))) (hlen:ds'.length+es.length≤1000)
    (kk:Ex g S ρ (p'++((c,.lst (ds'++es))::q')) rest Φ)
    (hbase:attributeBase o "extend" g.env (eval o g.env)=eval o g.env:=by rfl)
    (hfew:((backTo pos (starEach [e] g.env)).all (fun x=>!x.1) && (backToKw pos (keywordEach [] g.env)).all (fun x=>x.1.isSome) && decide ([e].length+([]:List Keyword).length+(if ([]:List Keyword).isEmpty then 0 else 1) < 30))=true:=by rfl)
    (hline:(apos.endLine == pos.line)=true:=by rfl) (hst:starEach [e] g.env=(false,eval e g.env)::starEach [] g.env:=by rfl)
    (hi:interactive g.env=false:=by rfl) (hs:swapsWith (.Call (.Attribute o "extend" apos) [e] [] pos) none spos.line g.env=pure false:=by rfl) :
    Ex g S ρ (p++((c,.lst ds)::q)) (.Expr (.Call (.Attribute o "extend" apos) [e] [] pos) spos::rest) Φ:=Ex.step fun s y=>by
  refine wpAny_Expr_any (wpAny_Call_method hbase hfew hline F.plainAttrs_list F.slot_list_extend F.type_list_extend (ho.wp y fun v s₁ y₁ r₁ e₁=>?_)) hi hs
  (first | obtain rfl:=r₁.vI | obtain ⟨_,rfl⟩:=r₁.iI | obtain ⟨_,rfl⟩:=r₁.sI | obtain ⟨_,rfl⟩:=r₁.bI | obtain rfl:=r₁.nI | cases r₁)
  obtain ⟨vs,n,hg,r⟩:=y₁.muts (c,.lst ds) (List.mem_of_getElem? mem_mid)
  refine ⟨⟨_,hg,rfl⟩,fun b hb=>by cases hb;exact ⟨_,hg,rfl⟩,callWith_B rfl ?_ hst⟩
  refine ((EvLM.cons he EvLM.nil hst).2 s₁ y₁).use fun ws s₂ e₂ q₂=>?_
  obtain ⟨y₂,r₂⟩:=q₂
  obtain ⟨vs,n,hg,r⟩:=y₂.muts (c,.lst ds') (List.mem_of_getElem? mem_mid)
  obtain ⟨w,rfl,rw'⟩:=r₂.one
  cases rw' with | @lst b us m _ hb ho' ru =>
  have hsz:sizeLine=16777216:=rfl
  obtain ⟨n',hm⟩:=mapSeq_lst (fun xs=>xs++us.toArray) vs n (vs++us) (by simp)
  have lv:=r.length
  have lu:=ru.length
  refine call_meets PySem.F.slot_list_extend ⟨_,hg,rfl⟩ PySem.F.entry_list_extend (PySem.F.args_list_extend_2 _ _) (PySem.AutoSeq1.list_extend_list_list_0 c vs.toArray n b us.toArray m ?_ (by simp;exact Z.l735 lv hsz hlen) (by simp;exact Z.l736 lv lu hsz hlen)) ⟨hg,ho',?_⟩
  · have:Builtin.List.listTooLong (vs.toArray.size+us.toArray.size)=false:=by
      unfold Builtin.List.listTooLong
      simp;exact Z.l737 lv lu hsz hlen
    rw [this];simp
  have hfin:(s₂.heap.update c (Obj.mapSeq fun xs=>xs++us.toArray)).get? c=some (lstO (vs++us) n'):=by
    rw [Heap.get?_update_self _ hg (by rw [hm];rfl),hm]
  obtain ⟨e₃,y₃⟩:=y₂.relst (tk:=s₂.toks) (Heap.SameBut.update ..) hfin (r.append ru)
  exact ⟨(e₁.up0.trans (e₂.wider fun b hb=>.inl (hS b hb))).trans (e₃.wider fun b hb=>.inl (hS b (hd ▸ hb))),kk _ y₃⟩
theorem unpack_D {ds : List D} {v : Value} {targets : List (Bool × (Value → Sem Unit))} {Ψ : Unit → Shared → Prop} (y : St g ρ μ s) (R : Room g.A 0) (r : Rep g.X s.heap v (.tup ds)) (hn : targets.length = ds.length) (hstar : targets.findIdx? (·.1) = none)
    (h:∀ s' vs,St g ρ μ s'→Ext g.C [] s s'→RepL g.X s'.heap vs ds→Dn g.C g.A S s' (assignInOrder (targets.map (·.2)) vs) Ψ):Dn g.C g.A S s (unpack v targets) Ψ:=by
  have hI:=r.tI;clear r;obtain ⟨t,vs,n,hE,ht,ho,rl⟩:=hI;cases hE
  have hT:s.heap.IsTuple t vs.toArray:=⟨_,ho,rfl,n,rfl⟩
  refine wpAny_unpack_tuple R.h hT (by rw [hn,List.size_toArray,rl.length]) hstar fun h' hx=>?_
  have k:∀ b o,s.heap.get? b=some o→h'.get? b=some o:=fun b o e=>hx b o (Nat.ne_of_lt (Heap.lt_size e)) e
  have e₁:Ext g.C [] s { s with heap:=h' }:=.of_keeps k rfl rfl
  exact (h { s with heap:=h' } vs (y.ext e₁) e₁ (rl.mono fun b o hb z=>⟨hb,k b o z⟩)).use fun v s' e q=>⟨e₁.up0.trans e,q⟩
theorem aio_cons {x:Value→Sem Unit} {xs:List (Value→Sem Unit)} {v:Value} {vs:List Value} {M:Model} {A:Around} {E:Value→Shared→Prop} {Q:Unit→Shared→Prop} {s:Shared} (h:wpAny M A (x v) (fun _ s'=>wpAny M A (assignInOrder xs vs) Q E s') E s):wpAny M A (assignInOrder (x::xs) (v::vs)) Q E s:=by
  unfold assignInOrder
  exact wpAny_bind (wpAny_holding h)
end
end Mine
end
section
open PySem PySem.Calls PySem.W PyProof.Rows PySem.SeqAt
open Sem (wp)
set_option maxHeartbeats 4000000
namespace Mine
structure MakesL (M:Model) (h:Heap) (C:Addr):Prop where
  obj:∃ oc od cd sl,h.get? C=some ⟨oc,od,.cls cd,sl⟩∧cd.hasDel=false∧cd.mro.isEmpty=false
  made:Looks M h (Bind.madeBy (.ref C)) (some "list.__new__")
  base:Looks M h (Bind.staticBase (.ref C)) (.ref C)
  self:Looks M h (isSubtype (.ref C) (.ref C)) true
  top:Looks M h (isSubtype (.ref C) (.type "list")) true
  call:Looks M h (specialOf (.ref C) "__call__") (some (.builtin "type.__call__"))
  typ:Looks M h (isInstance (.ref C) (.type "type")) true
noncomputable def makesLIn (K:Frag) (C:Addr):Bool:=match K.lookup C with
  | some ⟨_, _, .cls cd, sl⟩ => !cd.hasDel && (sl.toList[4]?).join == some (.builtin "list.__new__") && !cd.mro.isEmpty && cd.mro.contains (.ref C) && cd.mro.contains (.type "list") &&
      specialIn K (.ref C) "__call__" == some (some (.builtin "type.__call__")) && instIn K (.ref C) (.type "type") == some true
  | _=>false
theorem makesL_of {K:Frag} {M:Model} {h:Heap} (X:K.In h) {C:Addr} (e:makesLIn K C=true):MakesL M h C:=by
  unfold makesLIn at e
  split at e
  · rename_i oc od cd sl ho
    simp only [Bool.and_eq_true,Bool.not_eq_true',beq_iff_eq] at e
    obtain ⟨⟨⟨⟨⟨⟨e2,e3⟩,e4⟩,e5⟩,e6⟩,e7⟩,e8⟩:=e
    have hc:clsIn K C=some cd:=by unfold clsIn;rw [ho]
    have hm:Looks M h (mroOf (.ref C)) cd.mro:=(looks_clsIn X hc).andThen .now
    obtain ⟨c,l,hl⟩:∃ c l,cd.mro=c::l:=by cases q:cd.mro with | nil=>rw [q] at e4;cases e4 | cons c l=>exact ⟨c,l,rfl⟩
    have made:Looks M h (Bind.madeBy (.ref C)) (some "list.__new__"):=by
      intro A Q E s k q
      unfold Bind.madeBy
      refine wpAny_bind (hm A _ E s k ?_)
      rw [hl,List.forIn_cons]
      refine wpAny_bind (wpAny_bind (wpAny_bind (wpAny_bind (wpAny_loadPart (k _ _ (X _ _ ho)) (wpAny_pure ?_)))))
      dsimp only
      rw [← Array.getElem?_toList,e3]
      exact wpAny_pure (wpAny_pure (wpAny_pure q))
    refine ⟨⟨oc,od,cd,sl,X _ _ ho,e2,e4⟩,made,?_,looks_mroIn X ?_,looks_mroIn X ?_,looks_specialIn X e7,looks_instIn X e8⟩
    · intro A Q E s k q
      unfold Bind.staticBase
      refine wpAny_bind (hm A _ E s k ?_)
      rw [hl,List.forIn_cons]
      exact wpAny_bind (wpAny_bind (wpAny_bind (made A _ E s k (wpAny_pure (wpAny_pure (wpAny_pure q))))))
    · unfold mroIn;rw [hc,Option.bind_some,if_neg (by rw [e4];decide),e5]
    · unfold mroIn;rw [hc,Option.bind_some,if_neg (by rw [e4];decide),e6]
  · cases e
theorem ln_kind:builtinKind "list.__new__"=some .builtinFn:=by decide +kernel
theorem ln_split:splitId "list.__new__"=some ("list","__new__"):=by decide +kernel
theorem ln_quiet:"list.__new__".startsWith "lifetime."=false:=by decide +kernel
theorem ln_sig:(Manifest.signature? "list.__new__").isSome=true:=by decide +kernel
theorem ln_args (c:Addr):argsOk "list.__new__" ⟨[.ref c],[]⟩:=by unfold argsOk;kernel_rfl
noncomputable abbrev accObj (C dx:Addr):Obj:={ cls:=.ref C,dict:=some dx,data:=.seq #[] }
theorem check_meth {M : Model} {A : Around} {E : Value → Shared → Prop} {s : Shared} {i owner n : String} {self : Value} {rest : List Value} {kw : List (Str × Value)} {Q : Unit → Shared → Prop}
    (hk:builtinKind i=some .method) (hs:splitId i=some (owner,n)) (hi:Looks M s.heap (isInstance self (.type owner)) true) (ha:argsOk i ⟨self::rest,kw⟩) (q:Q () s) :
    wpAny M A (checkBuiltinCall i ⟨self::rest,kw⟩) Q E s:=by
  simp only [checkBuiltinCall,hk,hs]
  refine wpAny_bind (hi.here ?_)
  simp only [Bool.not_true,Bool.false_eq_true,if_false]
  cases hsig:Manifest.signature? i with
  | none=>exact wpAny_pure q
  | some sig =>
    simp only [argsOk,hsig] at ha
    have h2:Bind.checkArgs i sig ⟨self::rest,kw⟩=pure ():=ha
    show wpAny M A (Bind.checkArgs i sig ⟨self::rest,kw⟩) Q E s
    rw [h2];exact wpAny_pure q
section
variable {prog:Program} {w:World} {A:Around} {K:Frag} {C:Addr} {R:Result→Shared→Prop} {h:Heap} {g:Array GenState} {d:Drawn} {t:Nat} {os:OsState}
theorem newL_K (Y : MakesL (model prog w) h C)
    (hq:R (.ok (.ret (.ref (h.objs.size+1)))) ⟨(h.push emptyDict).push (accObj C h.objs.size),g,d,t,os⟩) :
    codeAny (model prog w) A (.call (.builtin "list.__new__") ⟨[.ref C],[]⟩) R ⟨h,g,d,t,os⟩:=by
  obtain ⟨⟨oc,od,cd,sl,hC,e2,e4⟩,made,base,self,top,call,typ⟩:=Y
  refine codeAny_call_builtin_code (Code.quiet_builtin _ ln_quiet) ?_
  simp only [checkBuiltinCall,ln_kind,ln_split]
  cases hsig:Manifest.signature? "list.__new__" with
  | none=>have:=ln_sig;rw [hsig] at this;cases this
  | some sig =>
    have args:Bind.checkArgs "list.__new__" sig ⟨[.ref C],[]⟩=pure ():=by
      have:=ln_args C
      unfold argsOk at this
      rw [hsig] at this
      exact this
    simp only [args]
    repeat (first | simp only [bne_self_eq_false,Bool.false_eq_true,if_false] | lk)
    refine codeAny_builtin_stack F.entry_list_new rfl fun p st=>?_
    rw [Around.under_plainId F.plain_list_new _]
    have hown:=owner_list_new
    simp only [hown]
    repeat (first | simp only [Bool.false_eq_true,if_false] | lk)
    refine nd_load (Heap.get?_push_of_some _ (Heap.get?_push_of_some _ hC)) (nd_pure ?_)
    refine wpAny_pure ?_
    simp only [e2,Bool.false_eq_true,if_false]
    refine wpAny_pure (wpAny_pure ?_)
    rw [Heap.size_push]
    exact hq
theorem makeL_core {init : Value} (Y : MakesL (model prog w) h C) (hi : Looks (model prog w) h (typeLookup (.ref C) "__init__") (some init))
    (hb:∀ self,Looks (model prog w) h (bindSpecial init self) (init,[self]))
    (hq:codeAny (model prog w) (A.under (.builtin "type.__call__" ⟨[.ref C],[]⟩)) (.call init ⟨[.ref (h.objs.size+1)],[]⟩) (InitBack (h.objs.size+1) R) ⟨(h.push emptyDict).push (accObj C h.objs.size),g,d,t,os⟩) :
    codeAny (model prog w) A (.call (.ref C) ⟨[],[]⟩) R ⟨h,g,d,t,os⟩:=by
  have Y':=Y
  obtain ⟨⟨oc,od,cd,sl,hC,e2,e4⟩,made,base,self,top,call,typ⟩:=Y
  refine codeAny_of_tree ?_
  show wpAny _ _ (callAny (.ref C) _) _ _ _
  refine nd_load hC ?_
  show wpAny _ _ (callAny.viaDunder (.ref C) _) _ _ _
  unfold callAny.viaDunder
  refine wpAny_bind (call.at ?_)
  dsimp only
  rw [tc_bind]
  refine wpAny_bind (wpAny_pure (wpAny_bind (wpAny_pure ?_)))
  refine wpAny_pure (a:=Fin.again (.call (.builtin "type.__call__") ⟨[.ref C],[]⟩)) (And.intro rfl ?_)
  refine codeAny_call_builtin_at (Code.quiet_builtin _ (by decide +kernel)) entry_typeCall (check_slot tc_kind tc_split typ (tc_args _ _ _) ?_)
  unfold Builtin.«type.__call__»
  have hm:Looks (model prog w) h (mroOf (.ref C)) cd.mro:=((Looks.ld (part:=none) hC).andThen .now).andThen .now
  repeat (first | simp only [e4,Bool.false_eq_true,if_false] | with_reducible refine wpAny_call ?_ | lk)
  refine newL_K Y' ?_
  have k:∀ b o,h.get? b=some o→((h.push emptyDict).push (accObj C h.objs.size)).get? b=some o:=fun b o e=>Heap.get?_push_of_some _ (Heap.get?_push_of_some _ e)
  have hx:((h.push emptyDict).push (accObj C h.objs.size)).get? (h.objs.size+1)=some (accObj C h.objs.size):=by heap_get
  have t1:Looks (model prog w) ((h.push emptyDict).push (accObj C h.objs.size)) (typeOf (.ref (h.objs.size+1))) (.ref C):=(Looks.ld hx).andThen .now
  have s1:=self.keeps k
  have i1:=hi.keeps k
  have b1:=(hb (.ref (h.objs.size+1))).keeps k
  unfold isInstance callSpecial? specialOf
  repeat (first | with_reducible refine wpAny_call ?_ | lk)
  refine codeAny_mono hq fun r s' z=>?_
  rcases r with e | (v | _ | _ | _) <;> first | exact z | exact z.elim | skip
  obtain ⟨rfl,z⟩:=z
  exact wpAny_pure (wpAny_pure z)
end
end Mine
end
section
open PySem PySem.Calls PySem.W PyProof.Rows PySem.SeqAt Builtin.ObjectAttr
open Sem (wp)
set_option maxHeartbeats 4000000
namespace Mine
noncomputable def Mut.cls?:Mut→Option (Addr × Str)
  | .acc c _ _=>some (c,"_initial_size")
  | .inst c _=>some (c,"passwd")
  | _=>none
theorem shadow_one {hsh:Int} {key name:Str} {t:Tok} {v:Value} {n:Nat} (hr:v=v) (hne:(key == name)=false):shadowIn (some (dictOf [⟨hsh,.str key t,v⟩] n)) name=some false:=by
  have h1:(Value.str key t).isStr name=false:=hne
  have:lookIn name (dictOf [⟨hsh,.str key t,v⟩] n)=some none:=by
    unfold lookIn
    simp only [List.toList_toArray,List.find?_cons,h1,List.find?_nil,List.any_cons,List.any_nil,Bool.or_false]
    rfl
  unfold shadowIn
  simp only [this]
  rfl
theorem MutOk.instAt {X:List Addr} {hp:Heap} {a:Addr} {m:Mut} {c:Addr} {key:Str} (h:MutOk X hp a m) (hc:m.cls?=some (c,key)):∃ ox od,InstAt hp a ox c (some od)∧∀ name,(key == name)=false→shadowIn (some od) name=some false:=by
  cases m with
  | lst ds=>cases hc
  | ba b=>cases hc
  | obj o dx od=>cases hc
  | acc cls dx ds =>
    cases hc
    obtain ⟨⟨vs,n,ho,_⟩,_,hsh,t,u,n',hd⟩:=h
    exact ⟨_,_,⟨ho,rfl,rfl,hd⟩,fun name hn=>shadow_one rfl hn⟩
  | inst cls dx =>
    cases hc
    obtain ⟨⟨sl,ho⟩,_,hsh,t,v,n',hd⟩:=h
    exact ⟨_,_,⟨ho,rfl,rfl,hd⟩,fun name hn=>shadow_one rfl hn⟩
section
variable {prog:Program} {w:World} {A:Around} {E:Value→Shared→Prop} {s:Shared} {K:Frag} {x C:Addr} {ox:Obj} {od:Option Obj} {name:Str}
theorem method_md {f : Value} {T : Value} {ga : String} {pl : Sem Bool} {Q : Value × List Value → Shared → Prop} (X : K.In s.heap) (I : InstAt s.heap x ox C od) (hga : findIn K (.ref C) "__getattribute__" = some (some (.builtin ga))) (hcan : Manifest.canonical ga = "object.__getattribute__") (hk : findIn K (.ref C) "__getattr__" = some none)
    (hf:findIn K (.ref C) name=some (some f)) (ht:typeIn K f=some T) (hT:(T != .type "function" && T != .type "method_descriptor" && T != .type "wrapper_descriptor")=false) (hs:shadowIn od name=some false) (h:Q (f,[.ref x]) s) :
    wpAny (model prog w) A (getMethod (.ref x) name pl) Q E s:=by
  unfold getMethod specialOf
  refine wpAny_bind (wpAny_bind (I.type.here ((looks_findIn X hga).here ?_)))
  dsimp only
  rw [if_neg (by rw [hcan];decide)]
  refine wpAny_bind (wpAny_bind (I.type.here ((looks_findIn X hk).here ?_)))
  refine wpAny_bind (wpAny_bind (I.type.here ((looks_findIn X hf).here (wpAny_bind ((looks_typeIn X ht).here ?_)))))
  rw [if_neg (by rw [hT];decide)]
  refine wpAny_bind (wpAny_loadPart I.at_ ?_)
  have hd:=I.dict
  cases e:ox.dict with
  | none=>exact wpAny_bind (wpAny_rule (wpAny_pure h))
  | some dx =>
    cases od with
    | none=>rw [e] at hd;exact hd.elim
    | some o =>
      rw [e] at hd
      obtain ⟨r,a,b⟩:=Option.map_eq_some_iff.mp hs
      refine wpAny_bind (wpAny_bind (wpAny_loadPart hd ?_))
      rw [nsLook_of a]
      refine wpAny_pure ?_
      rw [b]
      exact wpAny_bind (wpAny_rule (wpAny_pure h))
theorem eval_MethodCall {M : Model} {o : Expr} {apos pos : Pos} {args : List Expr} {env : Env} {pl : Sem Bool} {Q : Value → Shared → Prop} (hbase : attributeBase o name env (eval o env) = eval o env)
    (h:wpAny M A (eval o env) (fun ov s₁=>wpAny M A (getMethod ov name pl) (fun fx s₂=>wpAny M A (callWith pos fx.1 fx.2 (backTo pos (starEach args env)) []) Q E s₂) E s₁) E s)
    (he:eval (.Call (.Attribute o name apos) args [] pos) env=(do
      let ov ← attributeBase o name env (eval o env)
      standAt apos.atName
      let (f,first) ← holding [ov] (getMethod ov name pl)
      callWith pos f first (backTo pos (starEach args env)) [])) :
    wpAny M A (eval (.Call (.Attribute o name apos) args [] pos) env) Q E s:=by
  rw [he,hbase]
  exact wpAny_bind (wpAny_mono h (fun ov s₁ h₁=>wpAny_bind (wpAny_standAt (wpAny_bind (wpAny_holding (wpAny_mono h₁ (fun fx s₂ h₂=>h₂) fun _ _ x=>x))))) fun _ _ x=>x)
theorem call_derived {id owner n : String} {b : Builtin} {rest : List Value} {Q : Value → Shared → Prop} (X : K.In s.heap) (I : InstAt s.heap x ox C od) (hp : plainId id = true) (hb : entryFor table id = some b)
    (hk:builtinKind id=some .method∨builtinKind id=some .slot) (hs:splitId id=some (owner,n)) (hi:mroIn K C (.type owner)=some true) (ha:argsOk id ⟨.ref x::rest,[]⟩)
    (h:wpAny (model prog w) A.in1 (b ⟨.ref x::rest,[]⟩) (fun fin s'=>match fin with | .done (.ret v)=>Q v s' | _=>False) E s):wpAny (model prog w) A (call (.builtin id) (.ref x::rest)) Q E s:=by
  have L:Looks (model prog w) s.heap (isInstance (.ref x) (.type owner)) true:=I.type.andThen (looks_mroIn X hi)
  have fin : ∀ (fin : Fin) (s' : Shared), (match fin with | .done (.ret v) => Q v s' | _ => False) → (match fin with
      | .done f=>(match (.ok f:Result) with | .ok (.ret v)=>Q v s' | .ok _=>False | .error e=>E e s')
      | .again c'=>c'.quiet=true∧codeAny (model prog w) A c' (fun r s'=>match r with | .ok (.ret v)=>Q v s' | .ok _=>False | .error e=>E e s') s'):=fun fin s' q=>by
    rcases fin with (_ | _ | _ | _) | _ <;> first | exact q | exact q.elim
  refine wpAny_call (codeAny_mono (codeAny_call_builtin (R:=fun r s'=>match r with | .ok (.ret v)=>Q v s' | .ok _=>False | .error e=>E e s') hp hb ?_) fun r s' q=>?_)
  · rcases hk with hk | hk
    · exact check_meth hk hs L ha (wpAny_mono h (fun f s' q=>fin f s' q) fun _ _ e=>e)
    · exact check_slot hk hs L ha (wpAny_mono h (fun f s' q=>fin f s' q) fun _ _ e=>e)
  · rcases r with e | (v | _ | _ | _) <;> first | exact q | exact q.elim
theorem mapSeq_acc (f:Array Value→Array Value) (cls dx:Addr) (vs:List Value) (n:Nat) (ws:List Value) (h:f vs.toArray=ws.toArray):∃ n',Obj.mapSeq f (accO cls dx vs n)=accO cls dx ws n':=by
  unfold Obj.mapSeq accO
  simp only [h]
  exact ⟨_,rfl⟩
theorem acc_update {dx : Addr} {vs ws : List Value} {n : Nat} {f : Array Value → Array Value} {Q : Unit → Shared → Prop} (ho : s.heap.get? x = some (accO C dx vs n)) (hf : f vs.toArray = ws.toArray) (hz : vs.length ≤ 1000) (hz' : ws.length ≤ 1000)
    (h:∀ h',(∃ n',h'.get? x=some (accO C dx ws n'))→Heap.SameBut x s.heap h'→Q () { s with heap:=h' }):wpAny (model prog w) A (updateSeq x f) Q E s:=by
  obtain ⟨n',hm⟩:=mapSeq_acc f C dx vs n ws hf
  have hz1:sizeLine=16777216:=rfl
  refine wpAny_updateSeq ho rfl (h _ ⟨n',?_⟩ (Heap.SameBut.update ..)) (by simp;exact Z.l501 hz1 hz) (by rw [hf];simp;exact Z.l738 hz1 hz')
  rw [Heap.get?_update_self _ ho (by rw [hm];rfl),hm]
end
end Mine
end
section
open PySem PySem.Calls PySem.W PyProof.Rows PySem.SeqAt Builtin.ObjectAttr
open Sem (wp)
set_option maxHeartbeats 4000000
namespace Mine
theorem slot_md_get:Slot "method_descriptor" "__get__" "method_descriptor.__get__":=.of (owner:="method_descriptor") (n:="__get__") (by rw [typeLookup_type,builtinLookup_eq_fast];kernel_rfl) (by decide +kernel) (by decide +kernel) (by decide +kernel)
  (by first | exact .inl (by decide +kernel) | exact .inr (by decide +kernel)) (by rw [isSubtype_type];kernel_rfl)
theorem slot_wd_get:Slot "wrapper_descriptor" "__get__" "wrapper_descriptor.__get__":=.of (owner:="wrapper_descriptor") (n:="__get__") (by rw [typeLookup_type,builtinLookup_eq_fast];kernel_rfl) (by decide +kernel) (by decide +kernel) (by decide +kernel)
  (by first | exact .inl (by decide +kernel) | exact .inr (by decide +kernel)) (by rw [isSubtype_type];kernel_rfl)
theorem entry_md_get:entryFor table "method_descriptor.__get__"=some Builtin.«method_descriptor.__get__»:=entryFor_of_tree (by kernel_rfl)
theorem entry_wd_get:entryFor table "wrapper_descriptor.__get__"=some Builtin.«wrapper_descriptor.__get__»:=entryFor_of_tree (by kernel_rfl)
theorem args_md_get (a b c:Value):argsOk "method_descriptor.__get__" ⟨[a,b,c],[]⟩:=by unfold argsOk;kernel_rfl
theorem args_wd_get (a b c:Value):argsOk "wrapper_descriptor.__get__" ⟨[a,b,c],[]⟩:=by unfold argsOk;kernel_rfl
noncomputable abbrev boundObj (kind id:String) (x:Addr):Obj:={ cls:=.type kind,dict:=none,data:=.fields #[.builtin id,.ref x],slots:=#[] }
structure Descr (id n T kind:String):Prop where
  own:(kfb_private% "ownerAndName") id=("list",n)
  ty:typeOf (.builtin id)=pure (.type T)
  get:∃ g B,Slot T "__get__" g∧entryFor table g=some B∧(∀ a b c,argsOk g ⟨[a,b,c],[]⟩) ∧
    ∀ (prog:Program) (w:World) (A:Around) (E:Value→Shared→Prop) (s:Shared) (x C:Addr) (P:Fin→Shared→Prop),Looks (model prog w) s.heap (isInstance (.ref x) (.type "list")) true →
      P (.done (.ret (.ref s.heap.objs.size))) { s with heap:=s.heap.push (boundObj kind id x) }→wpAny (model prog w) A (B ⟨[.builtin id,.ref x,.ref C],[]⟩) P E s
theorem check_own {prog : Program} {w : World} {A : Around} {E : Value → Shared → Prop} {s : Shared} {id n : String} {x : Addr} {Q : Unit → Shared → Prop} (ho : (kfb_private% "ownerAndName") id = ("list", n)) (L : Looks (model prog w) s.heap (isInstance (.ref x) (.type "list")) true)
    (h:Q () s):wpAny (model prog w) A ((kfb_private% "checkInstance") (.builtin id) (.ref x)) Q E s:=by
  have e:(kfb_private% "nameAndClass") (.builtin id)=pure ((Str.ofString n),Value.type "list"):=by
    show pure (Str.ofString ((kfb_private% "ownerAndName") id).2,Value.type ((kfb_private% "ownerAndName") id).1)=_
    rw [ho]
  show wpAny _ _ ((kfb_private% "nameAndClass") (.builtin id) >>= _) _ _ _
  rw [e]
  refine wpAny_bind (wpAny_pure ?_)
  refine wpAny_bind (L.here ?_)
  exact wpAny_pure h
theorem bind_run {prog : Program} {w : World} {A : Around} {E : Value → Shared → Prop} {s : Shared} {id n kind : String} {x : Addr} {P : Fin → Shared → Prop} (ho : (kfb_private% "ownerAndName") id = ("list", n)) (L : Looks (model prog w) s.heap (isInstance (.ref x) (.type "list")) true)
    (h:P (.done (.ret (.ref s.heap.objs.size))) { s with heap:=s.heap.push (boundObj kind id x) }):wpAny (model prog w) A ((kfb_private% "bindBuiltin") kind (.builtin id) (some (.ref x))) P E s:=by
  show wpAny _ _ ((kfb_private% "checkInstance") (.builtin id) (.ref x) >>= fun _=>newFields kind [.builtin id,.ref x] >>= fun v=>ret v) _ _ _
  refine wpAny_bind (check_own ho L ?_)
  exact wpAny_bind (wpAny_newObj_type (wpAny_pure h))
theorem Descr.md {id n:String} (ho:(kfb_private% "ownerAndName") id=("list",n)) (ty:typeOf (.builtin id)=pure (.type "method_descriptor")) (ht:Manifest.toldItsClass.contains id=false):Descr id n "method_descriptor" "builtin_function_or_method" where
  own:=ho
  ty:=ty
  get:=⟨_,_,slot_md_get,entry_md_get,args_md_get,fun prog w A E s x C P L h=>by
    unfold Builtin.«method_descriptor.__get__»
    refine wpAny_bind (wpAny_of_eq (a:=(.builtin id,some (.ref x),some (.ref C))) (by first | rfl | kernel_rfl) ?_)
    simp only [ht,Bool.false_eq_true,if_false]
    exact bind_run ho L h⟩
theorem Descr.wd {id n:String} (ho:(kfb_private% "ownerAndName") id=("list",n)) (ty:typeOf (.builtin id)=pure (.type "wrapper_descriptor")):Descr id n "wrapper_descriptor" "method-wrapper" where
  own:=ho
  ty:=ty
  get:=⟨_,_,slot_wd_get,entry_wd_get,args_wd_get,fun prog w A E s x C P L h=>by
    unfold Builtin.«wrapper_descriptor.__get__»
    refine wpAny_bind (wpAny_of_eq (a:=(.builtin id,some (.ref x),some (.ref C))) (by first | rfl | kernel_rfl) ?_)
    exact bind_run ho L h⟩
theorem descr_pop:Descr "list.pop" "pop" "method_descriptor" "builtin_function_or_method":=.md (by first | decide +kernel | kernel_rfl) F.type_list_pop (by decide +kernel)
theorem descr_len:Descr "list.__len__" "__len__" "wrapper_descriptor" "method-wrapper":=.wd (by first | decide +kernel | kernel_rfl) (by kernel_rfl)
theorem descr_init:Descr "list.__init__" "__init__" "wrapper_descriptor" "method-wrapper":=.wd (by first | decide +kernel | kernel_rfl) (by kernel_rfl)
section
variable {prog:Program} {w:World} {A:Around} {E:Value→Shared→Prop} {h:Heap} {g:Array GenState} {d:Drawn} {t:Nat} {os:OsState}
theorem super_ga {so D x C : Addr} {id n T kind : String} {l₀ l : List Value} {K : Frag} {name : Str} {tk : Tok} {Q : Fin → Shared → Prop} (Ds : Descr id n T kind) (hT : T = "method_descriptor" ∨ T = "wrapper_descriptor")
    (hso:h.get? so=some { cls:=.type "super",dict:=none,data:=.fields #[.ref D,.ref x,.ref C],slots:=#[] }) (hno:Looks (model prog w) h (opaqueClassAbove (.ref C)) none)
    (hC:Looks (model prog w) h (mroOf (.ref C)) l₀) (hl:(l₀.dropWhile (· != .ref D)).drop 1=l) (X:K.In h)
    (hf:alongIn K name l=some (some (.builtin id))) (L:Looks (model prog w) h (isInstance (.ref x) (.type "list")) true) (hxC:x≠C) (hn:(name == ("__class__":Str))=false)
    (hq:Q (.done (.ret (.ref h.objs.size))) ⟨h.push (boundObj kind id x),g,d,t,os⟩) :
    wpAny (model prog w) A (Builtin.«super.__getattribute__» ⟨[.ref so,.str name tk],[]⟩) Q E ⟨h,g,d,t,os⟩:=by
  obtain ⟨gid,B,slot,entry,gargs,run⟩:=Ds.get
  have hty:=Ds.ty
  have hlk:=slot.lookup
  have hne:(Value.ref x == Value.ref C)=false:=by simp [hxC]
  have hTf:(⟨h,g,d,t,os⟩:Shared).TypeIs (.builtin id) T:=Ds.ty
  have hdt:({ cls:=.type "super",dict:=none,data:=.fields #[.ref D,.ref x,.ref C],slots:=#[] }:Obj).data=.fields #[.ref D,.ref x,.ref C]:=rfl
  have f0:(#[.ref D,.ref x,.ref C]:Array Value)[0]?=some (.ref D):=rfl
  have f1:(#[.ref D,.ref x,.ref C]:Array Value)[1]?=some (.ref x):=rfl
  have f2:(#[.ref D,.ref x,.ref C]:Array Value)[2]?=some (.ref C):=rfl
  unfold Builtin.«super.__getattribute__»
  repeat (first
    | (with_reducible refine wpAny_field hso hdt f0 ?_) | (with_reducible refine wpAny_field hso hdt f1 ?_) | (with_reducible refine wpAny_field hso hdt f2 ?_)
    | (with_reducible refine ks_wpAny_notOpaque hno ?_)
    | (with_reducible refine Looks.at hC ?_;rw [hl])
    | (refine ks_forIn_along X (fun _ _=>rfl) rfl ?_ hf)
    | (with_reducible refine wpAny_typeOf hTf ?_)
    | (with_reducible refine wpAny_call_entry slot hTf entry ?_ (gargs _ _ _))
    | (with_reducible refine ⟨_,rfl,?_⟩)
    | (simp only [hn,hne,hty,Bool.or_false,Bool.false_eq_true,if_false])
    | wp_step
    | dsimp only)
  all_goals exact run _ _ _ _ _ _ _ _ L ⟨_,rfl,wpAny_bind (wpAny_pure (wpAny_pure (wpAny_pure hq)))⟩
theorem super_method {so D x C : Addr} {id n T kind : String} {l₀ l : List Value} {K : Frag} {name : Str} {pl : Sem Bool} {Q : Value × List Value → Shared → Prop} (Ds : Descr id n T kind) (hT : T = "method_descriptor" ∨ T = "wrapper_descriptor")
    (hso:h.get? so=some { cls:=.type "super",dict:=none,data:=.fields #[.ref D,.ref x,.ref C],slots:=#[] }) (hno:Looks (model prog w) h (opaqueClassAbove (.ref C)) none)
    (hC:Looks (model prog w) h (mroOf (.ref C)) l₀) (hl:(l₀.dropWhile (· != .ref D)).drop 1=l) (X:K.In h)
    (hf:alongIn K name l=some (some (.builtin id))) (L:Looks (model prog w) h (isInstance (.ref x) (.type "list")) true) (hxC:x≠C) (hn:(name == ("__class__":Str))=false)
    (hq:Q (.ref h.objs.size,[]) ⟨h.push (boundObj kind id x),g,d,t+1,os⟩) :
    wpAny (model prog w) A (getMethod (.ref so) name pl) Q E ⟨h,g,d,t,os⟩:=by
  have hlk:=F.ks_slot_super_ga.lookup
  have hcan:=F.ks_canon_super_ga
  have hT':∀ t',(⟨h,g,d,t',os⟩:Shared).TypeIs (.ref so) "super":=fun _=>⟨_,hso,rfl⟩
  unfold getMethod
  refine wpAny_bind (wpAny_specialOf (hT' _) hlk ?_)
  show wpAny _ _ (if (Manifest.canonical "super.__getattribute__" != "object.__getattribute__")=true then _ else _) _ _ _
  rw [if_pos hcan]
  unfold getAttr getAttrBy
  refine wpAny_bind (wpAny_bind (wpAny_mkText (wpAny_holding (wpAny_bind (wpAny_typeOf (hT' _) (wpAny_bind (wpAny_of_eq hlk ?_)))))))
  show wpAny _ _ (getAttrByItsOwn (.ref so) (.str name t) (.type "super") (.builtin "super.__getattribute__") true false) _ _ _
  unfold getAttrByItsOwn hookBefore callGetattribute boundAndCalled
  refine wpAny_bind (wpAny_of_eq (show (if onTheHeap (.type "super") then typeLookup (.type "super") "__getattr__" else pure none)=pure none from rfl) ?_)
  refine wpAny_bind (wpAny_attempt (wpAny_holding ?_))
  show wpAny _ _ (bindSpecial (.builtin "super.__getattribute__") (.ref so) >>= _) _ _ _
  refine wpAny_bind (wpAny_of_eq (F.ks_slot_super_ga.bind _) ?_)
  refine wpAny_mono (Q:=fun v s'=>v=.ref h.objs.size∧s'=⟨h.push (boundObj kind id x),g,d,t+1,os⟩) (E:=fun _ _=>False)
    (wpAny_call_entry F.ks_slot_super_ga (hT' _) F.ks_entry_super_ga (super_ga Ds hT hso hno hC hl X hf L hxC hn ⟨_,rfl,rfl,rfl⟩) (F.ks_gaArgs_super _ _)) (fun v s' hv=>?_) fun _ _ z=>z.elim
  obtain ⟨rfl,rfl⟩:=hv
  exact wpAny_pure (wpAny_pure hq)
end
section
variable {prog:Program} {w:World} {A:Around} {E:Value→Shared→Prop} {s:Shared}
theorem bound_slot {id:String} {args:Args} {sig:Manifest.Signature} (hs:Manifest.signature? id=some sig) (hk:builtinKind id=some .slot) (ha:Bind.checkArgs id sig args=pure ()):checkBoundCall id args=pure ():=by
  unfold checkBoundCall
  rw [hs]
  dsimp only
  rw [hk]
  obtain ⟨pos,kw⟩:=args
  cases pos with
  | nil=>exact ha
  | cons v r=>exact ha
theorem bound_meth {id : String} {x : Addr} {rest : List Value} {Q : Unit → Shared → Prop} {C : Addr} {ox : Obj} {od : Option Obj} {K : Frag} {sig : Manifest.Signature} {cd : ClassData} (hs : Manifest.signature? id = some sig) (hk : builtinKind id = some .method) (hv : Manifest.varargsMethods.contains id = false)
    (X:K.In s.heap) (I:InstAt s.heap x ox C od) (hmod:mroIn K C (.type "module")=some false) (hcd:clsIn K C=some cd) (hty:typeIn K (.ref C)=some (.type "type"))
    (ha:Bind.checkArgs id { sig with full:=s!"{cd.qualname.toString}.{Bind.lastOf id}" } ⟨.ref x::rest,[]⟩=pure ()) (h:Q () s):wpAny (model prog w) A (checkBoundCall id ⟨.ref x::rest,[]⟩) Q E s:=by
  have L:Looks (model prog w) s.heap (isInstance (.ref x) (.type "module")) false:=I.type.andThen (looks_mroIn X hmod)
  have hno:=I.no
  unfold checkBoundCall
  rw [hs]
  dsimp only
  rw [hk]
  show wpAny _ _ (isInstance (.ref x) (.type "module") >>= _) _ _ _
  refine wpAny_bind (L.here ?_)
  rw [hv,Bool.false_or,if_neg (by decide)]
  obtain ⟨hh,g,d,t,os⟩:=s
  refine wpAny_bind (ks_wpAny_isType_inst I.at_ (fun c e=>?_) ?_)
  · unfold notCls at hno;rw [e] at hno;cases hno
  · rw [if_neg (by decide)]
    refine wpAny_bind (I.type.here ?_)
    dsimp only
    refine wpAny_bind ((looks_clsIn X hcd).here ?_)
    refine wpAny_bind ((looks_typeIn X hty).here ?_)
    rw [if_pos (by decide),ha]
    exact wpAny_pure h
noncomputable abbrev sigPop:Manifest.Signature:=⟨.positional,"list.pop","pop",.self,[⟨"index",.posOnly,false⟩]⟩
noncomputable abbrev sigLen:Manifest.Signature:=⟨.exact,"wrapper __len__","",.self,[]⟩
noncomputable abbrev sigInit:Manifest.Signature:=⟨.constructor,"list","list",.self,[⟨"iterable",.posOnly,false⟩]⟩
theorem sig_pop:Manifest.signature? "list.pop"=some sigPop:=by kernel_rfl
theorem sig_len:Manifest.signature? "list.__len__"=some sigLen:=by kernel_rfl
theorem sig_init:Manifest.signature? "list.__init__"=some sigInit:=by kernel_rfl
theorem chk_pop (x:Addr):Bind.checkArgs "list.pop" { sigPop with full:="_Accumulator.pop" } ⟨[.ref x],[]⟩=pure ():=by kernel_rfl
theorem chk_len (x:Addr):Bind.checkArgs "list.__len__" sigLen ⟨[.ref x],[]⟩=pure ():=by kernel_rfl
theorem chk_init (x:Addr):Bind.checkArgs "list.__init__" sigInit ⟨[.ref x],[]⟩=pure ():=by kernel_rfl
theorem call_bound {kind id : String} {b x : Addr} {B : Builtin} {rest : List Value} {Q : Value → Shared → Prop} (hk : kind = "builtin_function_or_method" ∨ kind = "method-wrapper") (ho : s.heap.get? b = some (boundObj kind id x)) (hp : plainId id = true) (hb : entryFor table id = some B)
    (hc:∀ (A:Around) (Q:Unit→Shared→Prop) (E:Value→Shared→Prop),Q () s→wpAny (model prog w) A (checkBoundCall id ⟨.ref x::rest,[]⟩) Q E s)
    (h:wpAny (model prog w) A.in1 (B ⟨.ref x::rest,[]⟩) (fun fin s'=>match fin with | .done (.ret v)=>Q v s' | _=>False) E s):wpAny (model prog w) A (call (.ref b) rest) Q E s:=by
  refine wpAny_call (codeAny_of_tree ?_)
  show wpAny _ A.in1 (callAny (.ref b) ⟨rest,[]⟩) _ _ _
  unfold callAny
  refine wpAny_bind (wpAny_load ho ?_)
  have c1:((boundObj kind id x).cls == .type "method" || (boundObj kind id x).cls == .type "builtin_function_or_method" || (boundObj kind id x).cls == .type "method-wrapper")=true:=by rcases hk with rfl | rfl <;> rfl
  have c2:((boundObj kind id x).cls != .type "method")=true:=by rcases hk with rfl | rfl <;> rfl
  dsimp only
  rw [if_pos c1]
  show wpAny _ _ (if (boundObj kind id x).cls != .type "method" then _ else _) _ _ _
  rw [if_pos c2]
  refine wpAny_bind (hc _ _ _ ?_)
  refine wpAny_pure ⟨plainId_quiet hp _,codeAny_builtin hb ?_⟩
  rw [Around.under_plainId hp _]
  refine wpAny_mono h (fun fin s' q=>?_) fun _ _ e=>e
  rcases fin with (_ | _ | _ | _) | _ <;> first | exact q | exact q.elim
theorem callWith_bound {pos : Pos} {kind id : String} {b x : Addr} {Q : Value → Shared → Prop} {M : Model} {env : Env} (hk : kind = "builtin_function_or_method" ∨ kind = "method-wrapper") (ho : s.heap.get? b = some (boundObj kind id x))
    (h:wpAny M A (call (.ref b) []) Q E s):wpAny M A (callWith pos (.ref b) [] (backTo pos (starEach [] env)) []) Q E s:=by
  unfold callWith
  refine wpAny_bind (wpAny_holding (evalArgs_nil3 ?_))
  refine wpAny_bind (wpAny_standAt ?_)
  refine wpAny_bind (m:=keeperOf (.ref b)) ?_
  unfold keeperOf
  refine wpAny_bind (wpAny_load ho ?_)
  have c2:((boundObj kind id x).cls != .type "method")=true:=by rcases hk with rfl | rfl <;> rfl
  have c3:((boundObj kind id x).cls == .type "builtin_function_or_method" || (boundObj kind id x).cls == .type "method-wrapper")=true:=by rcases hk with rfl | rfl <;> rfl
  dsimp only
  rw [if_pos c2,if_pos c3]
  refine wpAny_pure ?_
  exact wpAny_bind (wpAny_mono h (fun r s₂ hr=>wpAny_bind (wpAny_holding (wpAny_point (wpAny_pure hr)))) fun _ _ x=>x)
end
end Mine
end
section
open PySem PySem.Calls PySem.W PyProof.Rows PySem.SeqAt Builtin.ObjectAttr
open Sem (wp)
set_option maxHeartbeats 4000000
namespace Mine
theorem Room.zero {A:Around} {k:Nat} (R:Room A k):Room A 0:=R.less (Nat.zero_le _)
theorem Bin.subB {p q:Bool}:Bin .Sub (D.bool p) (D.bool q) (.int ((if p then 1 else 0) - (if q then 1 else 0))):=fun C A X s va vb _ _ r q'=>by
  (first | obtain rfl:=r.vI | obtain ⟨_,rfl⟩:=r.iI | obtain ⟨_,rfl⟩:=r.sI | obtain ⟨_,rfl⟩:=r.bI | obtain rfl:=r.nI | cases r);(first | obtain rfl:=q'.vI | obtain ⟨_,rfl⟩:=q'.iI | obtain ⟨_,rfl⟩:=q'.sI | obtain ⟨_,rfl⟩:=q'.bI | obtain rfl:=q'.nI | cases q')
  refine sub_bool ⟨.tok,?_⟩
  have:∀ b,b2i b=if b=true then (1:Int) else 0:=fun b=>by cases b <;> rfl
  rw [this,this]
  exact .int ..
noncomputable def typ:Value→Option String
  | .type n=>some n
  | _=>none
noncomputable def isRef:Value→Bool
  | .ref _=>true
  | _=>false
noncomputable def plainL:List Value→Bool
  | []=>false
  | v::r=>(isRef v && plainL r) || (decide ((v::r).map typ=["list","object"].map some) || decide ((v::r).map typ=["object"].map some))
theorem typ_eq {v:Value} {n:String} (h:typ v=some n):v=.type n:=by
  unfold typ at h
  split at h
  · rw [Option.some.inj h]
  · cases h
theorem typ_map {l:List Value}:∀ {ns:List String},l.map typ=ns.map some→l=ns.map Value.type:=by
  induction l with
  | nil=>intro ns h;rw [List.map_eq_nil_iff.mp h.symm];rfl
  | cons v r ih =>
    intro ns h
    cases ns with
    | nil=>cases h
    | cons n ns =>
      injection h with h1 h2
      rw [typ_eq h1,ih h2];rfl
theorem refuse_list (self:Value):refuseLoop self "__setattr__" [.type "list",.type "object"]=pure ():=by
  have:refuseLoop self "__setattr__" [.type "list",.type "object"]=refuseLoop self "__setattr__" [.type "object"]:=by
    unfold refuseLoop
    kernel_rfl
  rw [this]
  exact PySem.F.store_object.passes self
theorem refuse_plain (self:Value) {l:List Value}:plainL l=true→refuseLoop self "__setattr__" l=pure ():=by
  induction l with
  | nil=>intro e;cases e
  | cons v r ih =>
    intro e
    rcases Bool.or_eq_true_iff.mp e with e | e
    · obtain ⟨e1,e2⟩:=Bool.and_eq_true_iff.mp e
      have:∃ c,v=.ref c:=by
        unfold isRef at e1
        split at e1
        · exact ⟨_,rfl⟩
        · cases e1
      obtain ⟨c,rfl⟩:=this
      rw [refuseLoop_ref];exact ih e2
    · rcases Bool.or_eq_true_iff.mp e with e | e
      · rw [typ_map (of_decide_eq_true e)];exact refuse_list self
      · rw [typ_map (of_decide_eq_true e)];exact PySem.F.store_object.passes self
noncomputable def plainOverL (K:Frag) (C:Addr):Bool:=(clsIn K C).any fun cd=>plainL cd.mro && cd.mro.contains (.type "object") && cd.hasDict
section
variable {prog:Program} {w:World} {A:Around} {E:Value→Shared→Prop} {s:Shared} {K:Frag} {x C:Addr} {R:Result→Shared→Prop}
theorem set_raw {ox od od' : Obj} {dx : Addr} {name : Str} {v : Value} {es : List DictEntry} {n : Nat} {Q : Unit → Shared → Prop} (X : K.In s.heap) (I : InstAt s.heap x ox C (some od)) (hd : ox.dict = some dx) (hs : findIn K (.ref C) "__setattr__" = some (some (.builtin "object.__setattr__")))
    (hp:plainOverL K C=true) (ht:takerIn K C name=some none) (hl:(lookIn name od).isSome=true)
    (e:Obj.putName name (PyData.keyHash w.params name) (.str name (s.toks+1)) v od=od') (e':od'.data=.dict es.toArray n) (hf:od'.isFreed=false) (hz:es.length≤1000)
    (h:∀ h',Heap.SameBut dx s.heap h'→h'.get? dx=some od'→Q () { s with heap:=h',toks:=s.toks+2 }):wpAny (model prog w) A (setAttr (.ref x) name v) Q E s:=by
  have SF:=PySem.F.store_object
  obtain ⟨cd,hc,ho⟩:=any_some hp
  rw [Bool.and_eq_true,Bool.and_eq_true] at ho
  obtain ⟨⟨ho1,ho2⟩,ho3⟩:=ho
  have ne:cd.mro.isEmpty=false:=by cases q:cd.mro with | nil=>rw [q] at ho2;cases ho2 | cons _ _=>rfl
  refine set_plain X I hs ?_
  have sub:Looks (model prog w) s.heap (isInstance (.ref x) (.type "object")) true:=I.type.andThen (looks_mroIn X (by unfold mroIn;rw [hc,Option.bind_some,if_neg (by rw [ne];decide),ho2]))
  refine codeAny_call_builtin SF.slot.plain SF.entry (@check_slot (model prog w) _ _ { s with toks:=s.toks+1 } "object.__setattr__" "object" "__setattr__" (.ref x) [.str name s.toks,v] [] _ SF.kind SF.split sub (SF.args (.ref x) (.str name s.toks) v) ?_)
  obtain ⟨attr,ha,hr⟩:=Option.bind_eq_some_iff.mp ht
  have hm:Looks (model prog w) s.heap (mroOf (.ref C)) cd.mro:=(looks_clsIn X hc).andThen .now
  have L3:Looks (model prog w) s.heap (storeTaker? attr) none:=by
    cases attr with
    | none=>exact .now
    | some a =>
      obtain ⟨b,hb,hbn⟩:=Option.map_eq_some_iff.mp hr
      refine (looks_takesIn X hb).andThen ?_
      cases b with
      | false=>exact .now
      | true=>cases hbn
  rw [osa_eq,refuse_eq]
  have hI:=I.dict
  rw [hd] at hI
  have I0:=I
  obtain ⟨hx,hcl,hn,-⟩:=I
  obtain ⟨oc,odi,oda,osl⟩:=ox
  dsimp only at hcl hd
  subst hcl hd
  refine wpAny_bind (wpAny_bind (I0.type.here (s:={ s with toks:=s.toks+1 }) (wpAny_bind (hm.here (s:={ s with toks:=s.toks+1 }) ?_))))
  rw [refuse_plain _ ho1]
  refine wpAny_pure (wpAny_bind (I0.type.here (s:={ s with toks:=s.toks+1 }) (wpAny_bind ((looks_findIn X ha).here (s:={ s with toks:=s.toks+1 }) (wpAny_bind (L3.here (s:={ s with toks:=s.toks+1 }) ?_))))))
  refine wpAny_bind (wpAny_pure (wpAny_bind (wpAny_bind (wpAny_loadPart hx (wpAny_bind ((looks_clsIn X hc).here (s:={ s with toks:=s.toks+1 }) ?_))))))
  rw [ho3]
  refine wpAny_pure (a:=some dx) (wpAny_bind (wpAny_pure (wpAny_bind ?_)))
  unfold nsSet
  refine wpAny_bind (wpAny_bind (wpAny_askSetting (wpAny_pure (wpAny_bind (wpAny_mkText (wpAny_bind (wpAny_loadPart hI ?_)))))))
  unfold lookIn at hl
  split at hl
  · rename_i es₀ n₀ q
    rw [q]
    dsimp only
    have c:(!es₀.any (·.key.isStr name) && es₀.any (·.refKey))=false:=by
      rw [← Array.any_toList,← Array.any_toList]
      split at hl
      · rename_i en he
        rw [List.any_eq_true.mpr ⟨en,List.mem_of_find?_eq_some he,List.find?_some he⟩];rfl
      · split at hl
        · cases hl
        · rename_i z;rw [Bool.not_eq_true] at z;rw [z,Bool.and_false]
    rw [aRefKeyMayBeTheName_at,c]
    refine wpAny_updatePart hI ?_
    have D':(s.heap.update dx (Obj.putName name (PyData.keyHash w.params name) (.str name (s.toks+1)) v)).get? dx=some od':=by
      rw [Heap.get?_update_self _ hI (by rw [e];exact hf),e]
    refine wpAny_bind (wpAny_lookBehind D' (by rw [e'];exact pastItsLine_dict (by rw [List.size_toArray,sizeLine_eq];exact Z.l739 hz)) ?_)
    exact wpAny_pure (h _ (Heap.SameBut.update ..) D')
  · cases hl
end
end Mine
end
section
open PySem PySem.Calls PySem.W PyProof.Rows PySem.SeqAt Builtin.ObjectAttr
open Sem (wp)
set_option maxHeartbeats 4000000
namespace Mine
section
variable {C:Cx} {oc:Value} {od:Option Addr} {osl:Array (Option Value)} {fd:FuncData} {body:List Stmt} {f:Addr}
theorem FnM.introAt {k : Nat} {ds es : List D} {μ μ' : List (Addr × Mut)} {d : D} (pn others : List Str) (j : Nat)
    (ho:C.K.lookup f=some ⟨oc,od,.func fd,osl⟩) (hcd:codeIn C.K fd.code fd.qualname=true) (hbody:fd.body=.stmts body) (hclo:∀ x c,fd.closure.lookup x=some c→c∉C.P∧∃ v,∃ oc od osl,C.K.lookup c=some ⟨oc,od,.cell (some v),osl⟩)
    (hinj:∀ x y c,fd.closure.lookup x=some c→fd.closure.lookup y=some c→x=y) (hgl:fd.globals=mainGlobals) (hbi:fd.builtins=builtinsNs)
    (hbind:∀ s vals,C.K.In s.heap→vals.length=ds.length→∃ ex,(∀ X h,RepL X h ex es)∧BindsTo s fd ⟨vals,[]⟩ (pn.zip (vals++ex))) (hlen:pn.length=(ds++es).length)
    (hnd:(pn++others).Nodup) (hkind:∀ x∈pn,fd.scope.names.lookup x=some .local)
    (hcn:∀ x∈fd.scope.names,x.2≠.cell)
    (h:∀ (A:Around) (X:List Addr) (L:Addr),Room A k→(∀ a∈doms μ,a∈X∧a≠L∧a∉C.P) →
      ∀ s,St ⟨C,A,L::X,callEnv fd L f,pn++others⟩ ((ds++es).map some++List.replicate j none) μ s→_root_.PySem.wpAt C.M A (.func body (callEnv fd L f)) (execs body (callEnv fd L f)) (fun fl s'=>Ext C (L::doms μ) s s'∧RetAs (L::X) d μ' fl s') NoE s)
    (hco:fd.scope.isCoroutine=false:=by rfl) (hgen:fd.scope.isGenerator=false:=by rfl) (hk:fd.scope.kind=.function:=by rfl):FnM C (k+1) (.ref f) ds μ d μ':=by
  intro A X s vals R I rv hm hmX hmd
  have hvl:vals.length=ds.length:=rv.length
  obtain ⟨ex,rex,hb⟩:=hbind s vals I.K hvl
  have rva:RepL X s.heap (vals++ex) (ds++es):=rv.append (rex _ _)
  refine ks_codeAny_call_defAt (fd:=fd) (body:=body) R.depth (I.K _ _ ho) rfl I.lim (codeRec_of I.K hcd) hbody hb hcn
    (fun x hx=>hkind _ (List.of_mem_zip hx).1) (fun h₁ xns xkeep=>?_) hco hgen hk
  generalize hL:s.heap.objs.size=L at xns ⊢
  have hLn:s.heap.get? L=none:=none_of_ge (by exact Z.l56 hL)
  have hLP:L∉C.P:=fun hP=>by
    obtain ⟨o,e⟩:=I.occ L (I.pin L hP)
    rw [hLn] at e;cases e
  have hXnew:∀ a∈L::X,a∈X∨s.heap.get? a=none:=fun a ha =>
    (List.mem_cons.mp ha).elim (fun q=>.inr (q ▸ hLn)) .inl
  have hdl:∀ a∈doms μ,a≠L:=fun a ha e=>by
    obtain ⟨o,q⟩:=I.occ a (hmX a ha).1
    rw [e,hLn] at q;(first | obtain rfl:=q.vI | obtain ⟨_,rfl⟩:=q.iI | obtain ⟨_,rfl⟩:=q.sI | obtain ⟨_,rfl⟩:=q.bI | obtain rfl:=q.nI | cases q)
  have hcell:∀ x c,(callEnv fd L f).cells.lookup x=some c→c∉C.P∧c≠L∧(∃ v,h₁.IsCell c v)∧c∉X:=fun x c hc=>by
    obtain ⟨hP,v,oc',od',osl',hl⟩:=hclo x c hc
    have e:=I.base.X _ _ hl
    have e₁:=I.K _ _ hl
    refine ⟨hP,(fun z=>by rw [← z,e₁] at hLn;cases hLn),⟨some v,_,xkeep _ _ e₁,rfl⟩,fun hX=>?_⟩
    have:=I.new c hX hP
    rw [e] at this;cases this
  have hkn:∀ x,(callEnv fd L f).kindOf x≠some .cell:=fun x e=>by
    have:(x,NameKind.cell)∈fd.scope.names:=mem_of_lookup e
    exact hcn _ this rfl
  have st:St ⟨C,A.deeper (callEnv fd L f),L::X,callEnv fd L f,pn++others⟩ ((ds++es).map some++List.replicate j none) μ { s with heap:=h₁,toks:=s.toks+(pn.zip (vals++ex)).length }:=by
    refine ⟨⟨I.base,fun b o hb e=>xkeep b o (I.keep b o hb e),fun p hp=>(I.tab p hp).keeps xkeep,I.os,I.gens,fun p hp=>.tail _ (I.pin p hp),fun a ha hP=>?_,fun a ha=>?_⟩,
      ⟨hk,hgl,hbi,⟨_,xns⟩,.head _,hLP,fun n c hc=>⟨(hcell n c hc).1,(hcell n c hc).2.1,(hcell n c hc).2.2.1⟩,fun n c hkc _=>absurd hkc (hkn n),fun n n' c hc hc'=>hinj n n' c hc hc'⟩,
      fun i n d' hn hd=>?_,fun p hp=>(hm p hp).more xkeep hXnew,fun a ha=>⟨.tail _ (hmX a ha).1,(hmX a ha).2,hdl a ha,fun n c hc e=>(hcell n c hc).2.2.2 (e ▸ (hmX a ha).1)⟩,hmd,hnd⟩
    · rcases List.mem_cons.mp ha with rfl | q
      · exact I.hb_none hLn hP
      · exact I.new a q hP
    · rcases List.mem_cons.mp ha with rfl | q
      · obtain ⟨o,_,_,e,_⟩:=xns;exact ⟨o,e⟩
      · obtain ⟨o,e⟩:=I.occ a q
        exact ⟨o,xkeep a o e⟩
    · have hi:i < (ds++es).length:=by
        by_cases q:i < (ds++es).length
        · exact q
        · rw [List.getElem?_append_right (by rw [List.length_map];exact Z.l191 q)] at hd
          have:=List.mem_of_getElem? hd
          rw [List.mem_replicate] at this
          cases this.2
      rw [List.getElem?_append_left (by rw [List.length_map];exact hi),List.getElem?_map] at hd
      rw [List.getElem?_append_left (by exact Z.l264 hlen hi)] at hn
      cases hdi:(ds++es)[i]? with
      | none=>rw [hdi] at hd;cases hd
      | some d₀ =>
        rw [hdi] at hd;cases hd
        obtain ⟨v,hv,r⟩:=rva.get hdi
        have hz:(pn.zip (vals++ex))[i]?=some (n,v):=List.getElem?_zip_eq_some.mpr ⟨hn,hv⟩
        have hnn:((pn.zip (vals++ex)).map (·.1)).Nodup:=by
          rw [List.map_fst_zip (by have:=rva.length;exact Z.l685 hlen this)]
          exact (List.nodup_append.mp hnd).1
        refine ⟨v,.inl ⟨hkind n (List.mem_of_getElem? hn),_,xns,?_⟩,r.more xkeep hXnew⟩
        show (pn.zip (vals++ex)).reverse.lookup n=some v
        refine lookup_of_nodup ?_ (List.mem_reverse.mpr (List.mem_of_getElem? hz))
        rw [List.map_reverse]
        exact List.pairwise_reverse.mpr (List.Pairwise.imp (fun h=>Ne.symm h) hnn)
  have e₁:Ext C (doms μ) s { s with heap:=h₁,toks:=s.toks+(pn.zip (vals++ex)).length }:=.up xkeep
  refine ks_wpAt_mono (h _ X L R.deeper (fun a ha=>⟨(hmX a ha).1,hdl a ha,(hmX a ha).2⟩) _ st) (fun fl s' q=>?_) fun _ _ e=>e.elim
  obtain ⟨e,r,m⟩:=q
  have e':Ext C (L::doms μ) s s':=(e₁.wider fun b hb=>.inl (.tail _ hb)).trans e
  exact ⟨_,rfl,e'.wider (fun b hb=>(List.mem_cons.mp hb).elim (fun q=>.inr (q ▸ hLn)) .inl),r.sub fun a ha=>.tail _ ha,fun p hp=>(m p hp).sub fun a ha=>.tail _ ha⟩
end
end Mine
end
section
open PySem PySem.Calls PySem.W PyProof.Rows PySem.SeqAt Builtin.ObjectAttr
open Sem (wp)
set_option maxHeartbeats 4000000
namespace Mine
structure ClsOk (K:Frag) (c:Addr):Prop where
  ga:∃ id,findIn K (.ref c) "__getattribute__"=some (some (.builtin id))∧Manifest.canonical id="object.__getattribute__"
  gt:findIn K (.ref c) "__getattr__"=some none
structure MethOk (K:Frag) (c:Addr) (name:Str) (f:Addr):Prop where
  fnd:findIn K (.ref c) name=some (some (.ref f))
  ty:typeIn K (.ref f)=some (.type "function")
  keep:keepIn K (.ref f)=true
section
variable {g:G} {ρ:List (Option D)} {μ μ' a b μ₀ μ₁ p q:List (Addr × Mut)} {s s':Shared} {S:List Addr} {Φ:Flow→Shared→Prop} {rest:List Stmt}
theorem EvM.own {o e : Expr} {es : List Expr} {name : Str} {apos pos : Pos} {k : Nat} {f x c : Addr} {m : Mut} {key : Str} {ds : List D} {d : D} {pl : Sem Bool} (a b : List (Addr × Mut)) (R : Room g.A k) (ho : Ev g ρ (a ++ (μ₀ ++ b)) o (.val (.ref x))) (hx : (x, m) ∈ a ++ (μ₀ ++ b)) (hm : m.cls? = some (c, key))
    (O:ClsOk g.C.K c) (F:MethOk g.C.K c name f) (hn:(key == name)=false) (ha:EvL g ρ (a++(μ₀++b)) pos (e::es) ds) (hc:FnM g.C k (.ref f) (.val (.ref x)::ds) μ₀ d μ₁) (hd:doms μ₁=doms μ₀)
    (hbase:attributeBase o name g.env (eval o g.env)=eval o g.env:=by rfl)
    (heq:eval (.Call (.Attribute o name apos) (e::es) [] pos) g.env=(do
      let ov ← attributeBase o name g.env (eval o g.env)
      standAt apos.atName
      let (f,first) ← holding [ov] (getMethod ov name pl)
      callWith pos f first (backTo pos (starEach (e::es) g.env)) []):=by rfl)
    (he:starEach (e::es) g.env=(false,eval e g.env)::starEach es g.env:=by rfl) (hplain:(backTo pos (starEach es g.env)).any (·.1)=false:=by rfl) :
    EvM g ρ (a++(μ₀++b)) (.Call (.Attribute o name apos) (e::es) [] pos) d (a++(μ₁++b)):=by
  refine ⟨by simp only [doms_app,hd],fun s y=>?_⟩
  refine eval_MethodCall hbase (ho.wp y fun v s₁ x₁ r₁ e₁=>?_) heq
  (first | obtain rfl:=r₁.vI | obtain ⟨_,rfl⟩:=r₁.iI | obtain ⟨_,rfl⟩:=r₁.sI | obtain ⟨_,rfl⟩:=r₁.bI | obtain rfl:=r₁.nI | cases r₁)
  obtain ⟨ox,od,I,hsh⟩:=(x₁.muts _ hx).instAt hm
  obtain ⟨gid,hg1,hg2⟩:=O.ga
  refine method_md x₁.inv.K I hg1 hg2 O.gt F.fnd F.ty (by decide) (hsh _ hn) ?_
  refine callWith_K (h₀:=s₁.heap) x₁.inv.K F.keep ((ha s₁ x₁).use fun vs s₂ e₂ r₂=>⟨(x₁.ext e₂).inv.K,?_⟩) he hplain
  have x₂:=x₁.ext e₂
  refine wpAny_call (codeAny_mono (hc _ _ _ _ R x₂.inv (.cons (.val _) r₂) (fun p hp=>x₂.muts p (List.mem_append_right _ (List.mem_append_left _ hp))) (fun c hc=>?_) ?_) fun r s₃ q=>?_)
  · have:=x₂.mX c (by simp only [doms_app];exact List.mem_append_right _ (List.mem_append_left _ hc))
    exact ⟨this.1,this.2.1⟩
  · have nd:=x₂.apart
    simp only [doms_app,List.nodup_append] at nd
    exact nd.2.1.1
  · obtain ⟨v,rfl,e₃,r₃,m₃⟩:=q
    exact ⟨((e₁.trans e₂).up0).trans e₃.wideD,x₂.called e₃ hd m₃,r₃⟩
theorem EvM.own0 {o : Expr} {name : Str} {apos pos : Pos} {k : Nat} {f x c : Addr} {m : Mut} {key : Str} {d : D} {pl : Sem Bool} (a b : List (Addr × Mut)) (R : Room g.A k) (ho : Ev g ρ (a ++ (μ₀ ++ b)) o (.val (.ref x))) (hx : (x, m) ∈ a ++ (μ₀ ++ b)) (hm : m.cls? = some (c, key))
    (O:ClsOk g.C.K c) (F:MethOk g.C.K c name f) (hn:(key == name)=false) (hc:FnM g.C k (.ref f) [.val (.ref x)] μ₀ d μ₁) (hd:doms μ₁=doms μ₀)
    (hbase:attributeBase o name g.env (eval o g.env)=eval o g.env:=by rfl)
    (heq:eval (.Call (.Attribute o name apos) [] [] pos) g.env=(do
      let ov ← attributeBase o name g.env (eval o g.env)
      standAt apos.atName
      let (f,first) ← holding [ov] (getMethod ov name pl)
      callWith pos f first (backTo pos (starEach [] g.env)) []):=by rfl) :
    EvM g ρ (a++(μ₀++b)) (.Call (.Attribute o name apos) [] [] pos) d (a++(μ₁++b)):=by
  refine ⟨by simp only [doms_app,hd],fun s y=>?_⟩
  refine eval_MethodCall hbase (ho.wp y fun v s₁ x₁ r₁ e₁=>?_) heq
  (first | obtain rfl:=r₁.vI | obtain ⟨_,rfl⟩:=r₁.iI | obtain ⟨_,rfl⟩:=r₁.sI | obtain ⟨_,rfl⟩:=r₁.bI | obtain rfl:=r₁.nI | cases r₁)
  obtain ⟨ox,od,I,hsh⟩:=(x₁.muts _ hx).instAt hm
  obtain ⟨gid,hg1,hg2⟩:=O.ga
  refine method_md x₁.inv.K I hg1 hg2 O.gt F.fnd F.ty (by decide) (hsh _ hn) ?_
  refine callWith_K0 x₁.inv.K F.keep ?_
  refine wpAny_call (codeAny_mono (hc _ _ _ _ R x₁.inv (.cons (.val _) .nil) (fun p hp=>x₁.muts p (List.mem_append_right _ (List.mem_append_left _ hp))) (fun c hc=>?_) ?_) fun r s₃ q=>?_)
  · have:=x₁.mX c (by simp only [doms_app];exact List.mem_append_right _ (List.mem_append_left _ hc))
    exact ⟨this.1,this.2.1⟩
  · have nd:=x₁.apart
    simp only [doms_app,List.nodup_append] at nd
    exact nd.2.1.1
  · obtain ⟨v,rfl,e₃,r₃,m₃⟩:=q
    exact ⟨e₁.up0.trans e₃.wideD,x₁.called e₃ hd m₃,r₃⟩
theorem St.reacc {x c dx : Addr} {ds es : List D} {vs : List Value} {n : Nat} {h' : Heap} {tk : Nat} (y : St g ρ (p ++ ((x, .acc c dx ds) :: q)) s) (hs : Heap.SameBut x s.heap h') (ho : h'.get? x = some (accO c dx vs n)) (r : RepL g.X s.heap vs es) :
    Ext g.C (doms (p++((x,.acc c dx ds)::q))) s { s with heap:=h',toks:=tk }∧St g ρ (p++((x,.acc c dx es)::q)) { s with heap:=h',toks:=tk }:=by
  have hxX:=(y.mX x (mem_doms (List.mem_of_getElem? mem_mid))).1
  obtain ⟨_,hne,hsh,t,u,n',hd⟩:=y.muts (x,.acc c dx ds) (List.mem_of_getElem? mem_mid)
  have:=y.setmut (m':=.acc c dx es) (tk:=tk) mem_mid (.head _) rfl hs ⟨⟨vs,n,ho,r.mono fun b o hb z=>⟨hb,(hs.2 b (fun w=>hb (w ▸ hxX))).trans z⟩⟩,hne,hsh,t,u,n',(hs.2 dx hne).trans hd⟩ ⟨_,ho⟩
  rw [set_mid] at this
  exact this
theorem EvM.accAppend {o e : Expr} {apos pos : Pos} {x c dx : Addr} {ds : List D} {d : D} {pl : Sem Bool} (ho : Ev g ρ (p ++ ((x, .acc c dx ds) :: q)) o (.val (.ref x))) (he : Ev g ρ (p ++ ((x, .acc c dx ds) :: q)) e d) (hz : ds.length < 1000)
    (O:ClsOk g.C.K c) (hf:findIn g.C.K (.ref c) "append"=some (some (.builtin "list.append"))) (hi:mroIn g.C.K c (.type "list")=some true)
    (hbase:attributeBase o "append" g.env (eval o g.env)=eval o g.env:=by rfl)
    (heq:eval (.Call (.Attribute o "append" apos) [e] [] pos) g.env=(do
      let ov ← attributeBase o "append" g.env (eval o g.env)
      standAt apos.atName
      let (f,first) ← holding [ov] (getMethod ov "append" pl)
      callWith pos f first (backTo pos (starEach [e] g.env)) []):=by rfl)
    (hst:starEach [e] g.env=(false,eval e g.env)::starEach [] g.env:=by rfl) :
    EvM g ρ (p++((x,.acc c dx ds)::q)) (.Call (.Attribute o "append" apos) [e] [] pos) D.nil (p++((x,.acc c dx (ds++[d]))::q)):=by
  refine ⟨(dom_mid (m:=.acc c dx ds) (m':=.acc c dx (ds++[d])) rfl),fun s y=>?_⟩
  refine eval_MethodCall hbase (ho.wp y fun v s₁ x₁ r₁ e₁=>?_) heq
  (first | obtain rfl:=r₁.vI | obtain ⟨_,rfl⟩:=r₁.iI | obtain ⟨_,rfl⟩:=r₁.sI | obtain ⟨_,rfl⟩:=r₁.bI | obtain rfl:=r₁.nI | cases r₁)
  have hmem:(x,Mut.acc c dx ds)∈p++((x,.acc c dx ds)::q):=List.mem_of_getElem? mem_mid
  obtain ⟨ox,od,I,hsh⟩:=(x₁.muts _ hmem).instAt rfl
  obtain ⟨gid,hg1,hg2⟩:=O.ga
  refine method_md x₁.inv.K I hg1 hg2 O.gt hf (T:=.type "method_descriptor") (by rfl) (by decide) (hsh _ (by decide)) ?_
  refine callWith_B rfl ?_ hst
  refine ((EvL.cons he EvL.nil hst) s₁ x₁).use fun ws s₂ e₂ r₂=>?_
  obtain ⟨w,rfl,rw'⟩:=r₂.one
  have x₂:=x₁.ext e₂
  obtain ⟨ox,od,I,_⟩:=(x₂.muts _ hmem).instAt rfl
  obtain ⟨⟨vs,n,ho,r⟩,_⟩:=x₂.muts _ hmem
  have hl:=r.length
  refine call_derived x₂.inv.K I (by decide +kernel) F.entry_list_append (owner:="list") (n:="append") (.inl (by decide +kernel)) (by decide +kernel) hi (F.args_list_append_2 _ _) ?_
  unfold Builtin.«list.append»
  refine wpAny_bind (wpAny_pure (wpAny_bind ?_))
  show wpAny _ _ (updateSeq x _) _ _ _
  refine acc_update (ws:=vs++[w]) ho (by simp) (by exact Z.l740 hl hz) (by simp;exact Z.l741 hl hz) fun h' ⟨n',hp⟩ hs=>?_
  obtain ⟨e₃,x₃⟩:=x₂.reacc (tk:=s₂.toks) hs hp (r.snoc rw')
  exact wpAny_pure ⟨((e₁.trans e₂).up0).trans e₃,x₃,.val _⟩
end
end Mine
end
section
open PySem PySem.Calls PySem.W PyProof.Rows PySem.SeqAt Builtin.ObjectAttr
open Sem (wp)
set_option maxHeartbeats 4000000
namespace Mine
structure SuperOk (C:Cx) (env:Env) (f c:Addr) (name:Str) (id n T kind:String):Prop where
  ks:env.kindOf "super"=some .globalImplicit
  kc:env.kindOf "__class__"=some .free
  kself:env.kindOf "self"=some .local
  fu:env.func=some f
  hf:∃ oc od fd osl,C.K.lookup f=some ⟨oc,od,.func fd,osl⟩∧∃ ar,(fd.params.posonlyargs++fd.params.args).head?=some ar∧ar.arg="self"
  code:∃ cda oc od vs osl file tf,env.code=.ref cda∧C.K.lookup cda=some ⟨oc,od,.fields vs,osl⟩∧vs[2]?=some (.str file tf)∧((C.prog.main.file:Str) == file)=true
  top:(C.prog.main.scope.names.lookup ("super":Str)).isSome=false
  cell:∃ cc oc od osl,env.cells.lookup ("__class__":Str)=some cc∧C.K.lookup cc=some ⟨oc,od,.cell (some (.ref c)),osl⟩
  glob:nsIn C.K mainGlobals "super"=some none
  third:nsIn C.K cStatics "thirdparty.any"=some none
  cls:∃ cd,clsIn C.K c=some cd∧alongIn C.K name ((cd.mro.dropWhile (· != .ref c)).drop 1)=some (some (.builtin id))
  self:mroIn C.K c (.ref c)=some true
  lst:mroIn C.K c (.type "list")=some true
  ds:Descr id n T kind
  hT:(T="method_descriptor"∧kind="builtin_function_or_method")∨(T="wrapper_descriptor"∧kind="method-wrapper")
  hn:(name == ("__class__":Str))=false
section
variable {g:G} {ρ:List (Option D)} {μ μ' a b μ₀ μ₁ p q:List (Addr × Mut)} {s s':Shared}
theorem super_run {body : List Stmt} {f c dx x : Addr} {name : Str} {id n T kind : String} {p0 p1 apos pos : Pos} {i : Nat} {ds : List D} {B : Builtin} {Q : Value → Shared → Prop} {pl : Sem Bool} (V : SuperOk g.C g.env f c name id n T kind) (y : St g ρ μ s)
    (h1:g.ns[i]?=some "self") (h2:ρ[i]?=some (some (.val (.ref x)))) (hx:(x,.acc c dx ds)∈μ) (hp:plainId id=true) (hb:entryFor table id=some B)
    (hc:∀ (s:Shared) (A:Around) (Q:Unit→Shared→Prop) (E:Value→Shared→Prop) ox od,g.C.K.In s.heap→InstAt s.heap x ox c (some od)→Q () s→wpAny g.C.M A (checkBoundCall id ⟨[.ref x],[]⟩) Q E s)
    (h:∀ s',Ext g.C [] s s'→St g ρ μ s'→wpAny g.C.M g.A.in1 (B ⟨[.ref x],[]⟩) (fun fin s''=>match fin with | .done (.ret v)=>Q v s'' | _=>False) NoE s')
    (heq:eval (.Call (.Attribute (.Call (.Name "super" p0) [] [] p1) name apos) [] [] pos) g.env=(do
      let ov ← attributeBase (.Call (.Name "super" p0) [] [] p1) name g.env (eval (.Call (.Name "super" p0) [] [] p1) g.env)
      standAt apos.atName
      let (f,first) ← holding [ov] (getMethod ov name pl)
      callWith pos f first (backTo pos (starEach [] g.env)) []):=by rfl) :
    _root_.PySem.wpAt g.C.M g.A (.func body g.env) (eval (.Call (.Attribute (.Call (.Name "super" p0) [] [] p1) name apos) [] [] pos) g.env) Q NoE s:=by
  obtain ⟨oc,od,fd,osl,hf,ar,har,hself⟩:=V.hf
  obtain ⟨cda,occ,odc,vs,osc,file,tf,hcode,hcda,hvs,hfile⟩:=V.code
  obtain ⟨cc,oce,ode,ose,hcl,hcc⟩:=V.cell
  obtain ⟨cd,hcd,hal⟩:=V.cls
  obtain ⟨oD,hD1,hD2⟩:∃ oD,s.heap.get? c=some oD∧oD.data=.cls cd:=by
    unfold clsIn at hcd
    split at hcd
    · rename_i c d cd' sl ho
      cases hcd
      exact ⟨_,y.inv.K _ _ ho,rfl⟩
    · cases hcd
  obtain ⟨ox,ood,I,hsh⟩:=(y.muts _ hx).instAt rfl
  obtain ⟨v,bd,r⟩:=y.vars i _ _ h1 h2
  (first | obtain rfl:=r.vI | obtain ⟨_,rfl⟩:=r.iI | obtain ⟨_,rfl⟩:=r.sI | obtain ⟨_,rfl⟩:=r.bI | obtain rfl:=r.nI | cases r)
  obtain ⟨hv1,m,hm,hv2⟩:g.env.kindOf "self"=some .local∧∃ m,s.heap.Ns g.env.locals m∧m "self"=some (.ref x):=by
    rcases bd with q | ⟨q,_⟩
    · exact q
    · rw [V.kself] at q;rcases q with q | q <;> (first | obtain rfl:=q.vI | obtain ⟨_,rfl⟩:=q.iI | obtain ⟨_,rfl⟩:=q.sI | obtain ⟨_,rfl⟩:=q.bI | obtain rfl:=q.nI | cases q)
  have hxc:x≠c:=ks_ne y.inv.K I hcd
  refine ks_wpAt_MethodCall (pl:=pl) ?_ heq
  refine ks_wpAt_super_base V.ks V.kc V.hn V.fu (y.inv.K _ _ hf) rfl har hcode (y.inv.K _ _ hcda) rfl hvs hfile V.top ?_
  refine ks_loadName_global y.envOk.kind V.ks (loadGlobal_builtin (by rw [y.envOk.glob];exact y.mg) (mg_none_of y.inv.K y.mg V.glob) (by rw [y.envOk.bi];exact y.mb) ((y.inv.base.bi _ (by decide)).trans (by rfl)) ⟨rfl,?_⟩)
  refine wpAny_loadName_free y.envOk.kind V.kc hcl ⟨_,y.inv.K _ _ hcc,rfl⟩ ?_
  rw [hself]
  refine wpAny_loadName_local y.envOk.kind hv1 hm hv2 ?_
  obtain ⟨hh,gs,d,t,os⟩:=s
  refine ks_wpAny_isType_cls hD1 hD2 ⟨rfl,?_⟩
  refine ks_wpAny_call_super hD1 hD2 I.at_ I.cls (fun c e=>?_) (looks_mroIn y.inv.K V.self) (fun h' e k=>?_)
  · have:=I.no
    unfold notCls at this
    rw [e] at this
    exact Bool.noConfusion this
  have e₁:Ext g.C [] ⟨hh,gs,d,t,os⟩ ⟨h',gs,d,t,os⟩:=.of_keeps k rfl rfl
  have y₁:=y.ext e₁
  have X₁:=y₁.inv.K
  obtain ⟨ox,ood,I₁,_⟩:=(y₁.muts _ hx).instAt rfl
  refine super_method (l₀:=cd.mro) V.ds (V.hT.elim (fun q=>.inl q.1) fun q=>.inr q.1) e (looks_opaque X₁ V.third) ((looks_clsIn X₁ hcd).andThen .now) rfl X₁ hal (I₁.type.andThen (looks_mroIn X₁ V.lst)) hxc V.hn ?_
  have e₂:Ext g.C [] ⟨h',gs,d,t,os⟩ ⟨h'.push (boundObj kind id x),gs,d,t+1,os⟩:=.push
  have y₂:=y₁.ext e₂
  have hk:kind="builtin_function_or_method"∨kind="method-wrapper":=V.hT.elim (fun q=>.inl q.2) fun q=>.inr q.2
  have hbo:(h'.push (boundObj kind id x)).get? h'.objs.size=some (boundObj kind id x):=Heap.get?_push_size _ rfl
  refine callWith_bound hk hbo (call_bound hk hbo hp hb (fun A Q E hq=>?_) (h _ (e₁.trans e₂) y₂))
  obtain ⟨ox,ood,I₂,_⟩:=(y₂.muts _ hx).instAt rfl
  exact hc _ A Q E _ _ y₂.inv.K I₂ hq
end
end Mine
end
section
open PySem PySem.Calls PySem.W PyProof.Rows PySem.SeqAt Builtin.ObjectAttr
open Sem (wp)
set_option maxHeartbeats 4000000
namespace Mine
section
variable {prog:Program} {w:World} {A:Around} {E:Value→Shared→Prop} {s:Shared} {x c dx:Addr} {vs:List Value} {n:Nat} {v:Value} {Q:Value→Shared→Prop}
theorem run_len (ho : s.heap.get? x = some (accO c dx vs n)) (h : Q (.int vs.length s.toks) { s with toks := s.toks + 1 }) :
    wpAny (model prog w) A (Builtin.«list.__len__» ⟨[.ref x],[]⟩) (fun fin s'=>match fin with | .done (.ret v)=>Q v s' | _=>False) E s:=by
  unfold Builtin.«list.__len__»
  refine wpAny_bind (wpAny_of_eq (a:=(Value.ref x,[])) rfl ?_)
  show wpAny _ _ (seqSize x >>= _) _ _ _
  unfold seqSize
  refine wpAny_bind (wpAny_bind (wpAny_loadPart ho (wpAny_pure ?_)))
  show wpAny _ _ (mkInt _ >>= fun v=>ret v) _ _ _
  refine wpAny_bind (wpAny_mkInt (wpAny_pure ?_))
  simpa using h
theorem run_init (ho : s.heap.get? x = some (accO c dx vs n)) (hz : vs.length ≤ 1000) (h : ∀ h', (∃ n', h'.get? x = some (accO c dx [] n')) → Heap.SameBut x s.heap h' → Q .none { s with heap := h' }) :
    wpAny (model prog w) A (Builtin.«list.__init__» ⟨[.ref x],[]⟩) (fun fin s'=>match fin with | .done (.ret v)=>Q v s' | _=>False) E s:=by
  unfold Builtin.«list.__init__»
  show wpAny _ _ (Builtin.List.listItems (.ref x) >>= _) _ _ _
  refine wpAny_bind (wpAny_listItems ho rfl ?_)
  show wpAny _ _ (updateSeq x _ >>= _) _ _ _
  refine wpAny_bind (acc_update (ws:=[]) ho (by simp) hz (by simp) fun h' hp hs=>?_)
  refine wpAny_bind (wpAny_letGo ?_)
  exact wpAny_pure (h _ hp hs)
theorem run_pop (ho : s.heap.get? x = some (accO c dx (vs ++ [v]) n)) (hz : vs.length ≤ 900) (h : ∀ h', (∃ n', h'.get? x = some (accO c dx vs n')) → Heap.SameBut x s.heap h' → Q v { s with heap := h' }) :
    wpAny (model prog w) A (Builtin.«list.pop» ⟨[.ref x],[]⟩) (fun fin s'=>match fin with | .done (.ret v)=>Q v s' | _=>False) E s:=by
  unfold Builtin.«list.pop»
  refine wpAny_bind (wpAny_of_eq (a:=(Value.ref x,[])) rfl ?_)
  refine wpAny_bind (wpAny_pure ?_)
  show wpAny _ _ (Builtin.List.listItems (.ref x) >>= _) _ _ _
  refine wpAny_bind (wpAny_listItems ho rfl ?_)
  have he:(vs++[v]).toArray.isEmpty=false:=by simp
  rw [he,if_neg (by decide)]
  have hs:seqIndex? (-1) (vs++[v]).toArray.size=some vs.length:=by
    unfold seqIndex?
    simp only [List.size_toArray,List.length_append,List.length_singleton,show ((-1:Int) < 0) from by decide,if_true]
    have h1:(0≤(-1+((vs.length+1:Nat):Int))):=by exact Z.l742
    have h2:(-1+((vs.length+1:Nat):Int)) < ((vs.length+1:Nat):Int):=by exact Z.l743
    rw [decide_eq_true h1,decide_eq_true h2]
    simp only [Bool.and_self,if_true]
    congr 1;lia
  have hm:(vs++[v]).toArray[vs.length]?=some v:=by simp
  rw [hs]
  simp only [Option.bind_some,hm,Option.map_some]
  show wpAny _ _ (updateSeq x _ >>= _) _ _ _
  refine wpAny_bind (acc_update (ws:=vs) ho ?_ (by simp;exact Z.l745 hz) (by exact Z.l746 hz) fun h' hp hs=>?_)
  · simp [Array.eraseIdxIfInBounds]
    rw [List.eraseIdx_append_of_length_le (Nat.le_refl _)];simp
  exact wpAny_pure (h _ hp hs)
end
end Mine
end
section
open PySem PySem.Calls PySem.W PyProof.Rows PySem.SeqAt Builtin.ObjectAttr
open Sem (wp)
set_option maxHeartbeats 4000000
namespace Mine
noncomputable abbrev D.ss (p:List Nat × List Nat):D:=.tup [.s p.1,.s p.2]
section
variable {prog:Program} {w:World} {A:Around} {E:Value→Shared→Prop} {s:Shared}
noncomputable def RowAt (h:Heap) (x:Addr) (items:Array Value):Prop:=∃ o n,h.get? x=some o∧o.data=.seq items n
theorem next_item {it l : Addr} {i : Nat} {items} {x : Value} {Q : Option Value → Shared → Prop} (hit : s.heap.IsListIter it l i)
    (hl:RowAt s.heap l items) (hx:items[i]?=some x)
    (hQ:∀ h',h'.IsListIter it l (i+1)→Heap.SameBut it s.heap h'→Q (some x) { s with heap:=h' }) :
    wpAny (model prog w) A (pyNext (.ref it)) Q E s:=by
  obtain ⟨o,ho,hc,hd⟩:=id hit
  obtain ⟨ol,nl,hol,hdl⟩:=hl
  unfold pyNext
  refine wpAny_bind (wpAny_attempt (wpAny_callSpecial?_slot (name:=Str.ofString "__next__") hit.typeIs slot_listiter_next
    (wpAny_call_entry slot_listiter_next hit.typeIs entry_listiter_next ?_ (args_listiter_next _))))
  show wpAny _ _ (field (.ref it) 0 >>= _) _ _ s
  refine wpAny_bind (wpAny_field ho hd (x:=.ref l) rfl ?_)
  show wpAny _ _ (if (Value.ref l == Value.none)=true then _ else _) _ _ s
  rw [if_neg (show ¬ ((Value.ref l == Value.none)=true) from Bool.false_ne_true)]
  show wpAny _ _ (field (.ref it) 1 >>= _) _ _ s
  refine wpAny_bind (wpAny_field ho hd (x:=.int i 0) rfl ?_)
  show wpAny _ _ (seqItems? (.ref l) >>= _) _ _ s
  refine wpAny_bind (wpAny_seqItems hol hdl ?_)
  simp only [Int.toNat_natCast,hx]
  refine wpAny_bind (wpAny_setField ho hd (by simp) (wpAny_pure ⟨x,rfl,wpAny_pure (hQ _ ?_ (Heap.SameBut.update ..))⟩))
  exact ⟨_,Heap.get?_update_self _ ho (Obj.isFreed_of_fields (Obj.data_mapFields hd _)),(Obj.cls_mapFields ..).trans hc,by
    rw [Obj.data_mapFields hd];simp [rawInt]⟩
theorem next_end {it l : Addr} {i : Nat} {items} {Q : Option Value → Shared → Prop} (hh : A.handled = none)
    (hit:s.heap.IsListIter it l i) (hl:RowAt s.heap l items) (hx:items[i]?=none)
    (hQ:∀ h',Heap.ExtBut it s.heap h'→Q none { s with heap:=h' }):wpAny (model prog w) A (pyNext (.ref it)) Q E s:=by
  obtain ⟨o,ho,hc,hd⟩:=id hit
  obtain ⟨ol,nl,hol,hdl⟩:=hl
  unfold pyNext
  refine wpAny_bind (wpAny_attempt (wpAny_callSpecial?_slot (name:=Str.ofString "__next__") hit.typeIs slot_listiter_next
    (wpAny_call_entry slot_listiter_next hit.typeIs entry_listiter_next ?_ (args_listiter_next _))))
  show wpAny _ _ (field (.ref it) 0 >>= _) _ _ s
  refine wpAny_bind (wpAny_field ho hd (x:=.ref l) rfl ?_)
  show wpAny _ _ (if (Value.ref l == Value.none)=true then _ else _) _ _ s
  rw [if_neg (show ¬ ((Value.ref l == Value.none)=true) from Bool.false_ne_true)]
  show wpAny _ _ (field (.ref it) 1 >>= _) _ _ s
  refine wpAny_bind (wpAny_field ho hd (x:=.int i 0) rfl ?_)
  show wpAny _ _ (seqItems? (.ref l) >>= _) _ _ s
  refine wpAny_bind (wpAny_seqItems hol hdl ?_)
  simp only [Int.toNat_natCast,hx]
  refine wpAny_bind (wpAny_rule (wpAny_bind (wpAny_setField ho hd (by simp) ?_)))
  show wpAny _ _ (newExc (.type "StopIteration") [] >>= _) _ _ _
  refine wpAny_bind ?_
  simp only [newExc,newTuple]
  refine wpAny_bind (wpAny_newObj_type ?_ (by size_fits))
  refine wpAny_bind (m:=firstArgMember _ _) (wpAny_of_eq (a:=Value.none) (by first | rfl | (simp only [firstArgMember];rfl)) ?_)
  refine wpAny_newObj_type ?_ (by size_fits)
  simp only [raiseNew]
  refine wpAny_bind (wpAny_handled ?_)
  rw [show A.in1.handled=none from hh]
  refine wpAny_bind (wpAny_pure (wpAny_throw ?_))
  refine wpAny_bind (wpAny_isInstance (T:="StopIteration") (b:=true) ⟨_,Heap.get?_push_size _ rfl,rfl⟩ isSubtype_stop ?_)
  exact wpAny_pure (hQ _ (((Heap.SameBut.update ..).extBut.push _).push _))
end
noncomputable def refsOf (vs:List Value):List Addr:=vs.filterMap fun | .ref a=>some a | _=>none
noncomputable def PairAt (xs:List (List Nat × List Nat)) (i:Nat) (vals:Array Value):Prop:=∃ p ta tb,xs[i]?=some p∧vals=#[.str (sl p.1) ta,.str (sl p.2) tb]
noncomputable def AccIter (I x:Addr) (vs:List Value) (xs:List (List Nat × List Nat)) (i:Nat) (h:Heap):Prop :=
  h.IsListIter I x i∧RowAt h x vs.toArray∧∀ k p,xs[k]?=some p→∃ T vals,vs[k]?=some (.ref T)∧T≠I∧PairAt xs k vals∧h.IsTuple T vals
theorem AccIter.keeps {I x:Addr} {vs:List Value} {xs:List (List Nat × List Nat)} {i:Nat} {h h':Heap} (a:AccIter I x vs xs i h) (hk:∀ b∈I::x::refsOf vs,∀ o,h.get? b=some o→h'.get? b=some o):AccIter I x vs xs i h':=by
  obtain ⟨a1,⟨o,n,a2,a3⟩,a4⟩:=a
  refine ⟨a1.at fun o e=>hk I (.head _) o e,⟨o,n,hk x (.tail _ (.head _)) o a2,a3⟩,fun k p hp=>?_⟩
  obtain ⟨T,vals,h1,h2,h3,⟨o,h4,h5⟩⟩:=a4 k p hp
  exact ⟨T,vals,h1,h2,h3,o,hk T (.tail _ (.tail _ (List.mem_filterMap.mpr ⟨_,List.mem_of_getElem? h1,rfl⟩))) o h4,h5⟩
theorem WalksU.acc {prog : Program} {w : World} {A : Around} (hh : A.handled = none) (I x : Addr) (hne : x ≠ I) (vs : List Value) (xs : List (List Nat × List Nat)) (hl : vs.length = xs.length) :
    WalksU prog w A I (I::x::refsOf vs) [I] xs.length (PairAt xs) (AccIter I x vs xs) (fun i T h=>AccIter I x vs xs (i+1) h∧T≠I) where
  sub:=fun b hb=>by rw [List.mem_singleton.mp hb];exact .head _
  frame:=fun _ _ _ st hk=>st.keeps hk
  item:=fun i s Q E hi st hQ=>by
    obtain ⟨a1,a2,a4⟩:=st
    obtain ⟨T,vals,h1,h2,h3,h4⟩:=a4 i xs[i] (List.getElem?_eq_getElem hi)
    have hsz:vs.toArray[i]?=some (.ref T):=by simpa using h1
    refine next_item a1 a2 hsz fun h' hit' hs'=>?_
    have up:∀ b o,b≠I→s.heap.get? b=some o→h'.get? b=some o:=fun b o hb e=>(hs'.2 b hb).trans e
    have hT:h'.IsTuple T vals:=let ⟨o,e,r⟩:=h4;⟨o,up T o h2 e,r⟩
    refine hQ T vals h' s.toks h3 hT ⟨⟨hit',?_,fun k p hp=>?_⟩,h2⟩ fun b o hb e=>up b o (fun z=>hb (by simp [z])) e
    · obtain ⟨o,n,e,r⟩:=a2;exact ⟨o,n,up x o hne e,r⟩
    · obtain ⟨T,vals,h1,h2,h3,⟨o,e,r⟩⟩:=a4 k p hp
      exact ⟨T,vals,h1,h2,h3,o,up T o h2 e,r⟩
  go:=fun elts k pos i T s Q E mid hQ=>by
    obtain ⟨o,ho,hc,_⟩:=mid.1.1
    exact letOwned_skip ho hc (by decide) (hQ s.heap mid.1 fun _ _ _ e=>e)
  apart:=fun i T h mid hb=>mid.2 (List.mem_singleton.mp hb)
  done:=fun s Q E st hQ=>next_end hh st.1 st.2.1 (by simp [hl]) fun h' he'=>hQ h' s.toks fun b o hb e=>he' b o (fun h=>hb (by simp [h])) e
  self:=fun _ _ _ _ st hQ=>wpAny_pyIter_listiter st.1 hQ
end Mine
end
section
open PySem PySem.Calls PySem.W PyProof.Rows PySem.SeqAt Builtin.ObjectAttr
open Sem (wp)
set_option maxHeartbeats 4000000
namespace Mine
theorem IsCode.swap {h h':Heap} {c c₁ p:Addr} {ps ps':Array Value} (a:h.IsCode c₁ p ps) (b:h'.IsCode c p ps') (hk:∀ o,h.get? c₁=some o→h'.get? c₁=some o):h'.IsCode c₁ p ps':=by
  obtain ⟨o,vs,file,tf,flags,tg,inF,text,tt,op,ho,hd,h11,h2,h7,h9,h10,hop,hpd,htr,hne⟩:=a
  obtain ⟨o',vs',file',tf',flags',tg',inF',text',tt',op',ho',hd',h11',h2',h7',h9',h10',hop',hpd',htr',hne'⟩:=b
  exact ⟨o,vs,file,tf,flags,tg,inF,text,tt,op',hk o ho,hd,h11,h2,h7,h9,h10,hop',hpd',htr',hne⟩
structure CodeOk (C:Cx) (c p:Addr):Prop where
  mem:p∈C.P
  rec_:∃ oc od osl vs file tf flags tg inF text tt,C.K.lookup c=some ⟨oc,od,.fields vs,osl⟩∧oc=.type "code"∧vs[11]?=some (.ref p)∧vs.getD 18 .none=.str file tf∧vs.getD 7 .none=.int flags tg∧vs.getD 9 .none=.bool inF∧vs.getD 10 .none=.int text tt
section
variable {g:G} {ρ:List (Option D)} {μ:List (Addr × Mut)} {s:Shared}
theorem genCode {c p : Addr} {pos : Pos} {q : Str} {scope : Scope} {Q : Value → Shared → Prop} {E : Value → Shared → Prop} (y : St g ρ μ s) (hc : g.env.code = .ref c) (K : CodeOk g.C c p)
    (h:∀ v s',Ext g.C [] s s'→s'.gens=s.gens→Q v s'):wpAny g.C.M g.A (genexprCode g.env pos q scope) Q E s:=by
  obtain ⟨oc,od,osl,vs,file,tf,flags,tg,inF,text,tt,hl,rfl,h11,h2,h7,h9,h10⟩:=K.rec_
  have I:=y.inv
  have hcP:c∉g.C.P:=I.base.KP c _ hl
  have hcp:c≠p:=fun e=>hcP (e ▸ K.mem)
  have ho:=I.K _ _ hl
  obtain ⟨c₁,ps₀,more,hc₁,t0,t1,i1⟩:=I.tab p K.mem
  have h11':vs.getD 11 .none=.ref p:=by
    simp only [Array.getD_eq_getD_getElem?,h11];rfl
  obtain ⟨_,op⟩:=t1
  have htr:TriplesOk (ps₀++more).toList:=by
    obtain ⟨o',vs',file',tf',flags',tg',inF',text',tt',op',ho',hd',h11',h2',h7',h9',h10',hop',hpd',htr',hne'⟩:=i1
    rw [op] at hop';cases hop';cases hpd';exact htr'
  have ic:s.heap.IsCode c p (ps₀++more):=⟨_,vs,file,tf,flags,tg,inF,text,tt,_,ho,rfl,h11',h2,h7,h9,h10,op,rfl,htr,hcp⟩
  have tc:s.heap.TableAt c p (ps₀++more):=⟨⟨_,vs,ho,rfl,rfl,h11⟩,op⟩
  cases hf:codeAmong pos (ps₀++more).toList with
  | some c'=>exact wpAny_genexprCode_hit hc ic hf (h _ _ (.refl ..) rfl)
  | none =>
    refine wpAny_genexprCodeX hc ic tc hf fun c' h' tk hx hle hlt ic' hr tc' _=>h _ _ ⟨fun b o _ hb e=>hx b o (fun z=>hb (z ▸ K.mem)) e,fun b o e=>?_,fun t q hq=>?_,rfl,fun g=>g⟩ rfl
    · by_cases hb:b=p
      · subst hb;exact ⟨_,tc'.2⟩
      · exact ⟨o,hx b o hb e⟩
    · obtain ⟨c₂,qs₀,more₂,hc₂,u0,u1,u2⟩:=t q hq
      have hc₂p:c₂≠p:=fun e=>hc₂ (e ▸ K.mem)
      by_cases hqp:q=p
      · subst hqp
        have e:=u1.2
        rw [op] at e
        have e':ps₀++more=qs₀++more₂:=by injection e with e;injection e with _ _ e _;injection e
        refine ⟨c₂,qs₀,more₂++#[rawInt pos.line,rawInt pos.col,.ref c'],hc₂,u0,?_,?_⟩
        · obtain ⟨⟨o,vs,a,b⟩,_⟩:=u1
          refine ⟨⟨o,vs,hx _ _ hc₂p a,b⟩,?_⟩
          rw [← Array.append_assoc,← e']
          exact tc'.2
        · rw [← Array.append_assoc,← e']
          exact IsCode.swap u2 ic' fun o e=>hx _ _ hc₂p e
      · exact ⟨c₂,qs₀,more₂,hc₂,u0,u1.extBut hx hc₂p hqp,u2.extBut hx hc₂p hqp⟩
end
end Mine
end
section
open PySem PySem.Calls PySem.W PyProof.Rows PySem.SeqAt Builtin.ObjectAttr
open Sem (wp)
set_option maxHeartbeats 4000000
namespace Mine
theorem pyIter_acc {prog : Program} {w : World} {A : Around} {E : Value → Shared → Prop} {s : Shared} {K : Frag} {x C : Addr} {ox : Obj} {od : Option Obj} {Q : Value → Shared → Prop} (X : K.In s.heap) (I : InstAt s.heap x ox C od)
    (hs:findIn K (.ref C) "__iter__"=some (some (.builtin "list.__iter__"))) (hi:mroIn K C (.type "list")=some true)
    (h:Q (.ref s.heap.objs.size) { s with heap:=s.heap.push { cls:=.type "list_iterator",data:=.fields #[.ref x,.int 0 0] } }):wpAny (model prog w) A (pyIter (.ref x)) Q E s:=by
  unfold pyIter specialOf
  refine wpAny_bind (wpAny_bind (I.type.here ((looks_findIn X hs).here ?_)))
  dsimp only
  unfold callSpecialIfBoundUnlessNone? bindSpecialIfBound? specialOf
  refine wpAny_bind (wpAny_holding (wpAny_bind (wpAny_bind (wpAny_bind (I.type.here ((looks_findIn X hs).here ?_))))))
  simp only [slot_list_iter.bind]
  refine wpAny_bind (wpAny_askSetting (wpAny_ite ?_))
  have run:wpAny (model prog w) A (call (.builtin "list.__iter__") [.ref x]) (fun it s'=>it=.ref s.heap.objs.size∧s'={ s with heap:=s.heap.push { cls:=.type "list_iterator",data:=.fields #[.ref x,.int 0 0] } }) E s:=by
    refine call_derived X I (by decide +kernel) entry_list_iter (owner:="list") (n:="__iter__") (.inr (by decide +kernel)) (by decide +kernel) hi (args_list_iter _) ?_
    show wpAny _ _ (do ret (← newFields "list_iterator" [.ref x,rawInt 0])) _ _ s
    exact wpAny_bind (wpAny_newObj_type (wpAny_pure ⟨rfl,rfl⟩))
  have fin : wpAny (model prog w) A (if (Value.builtin "list.__iter__" == Value.none) = true then ((do rule "iter.none"; raiseError "TypeError" s!"'{← typeNameOf (.ref x)}' object is not iterable") >>= fun v => pure (some v)) else (call (.builtin "list.__iter__") [.ref x] >>= fun v => pure (some v)))
      (fun r s'=>r=some (.ref s.heap.objs.size)∧s'={ s with heap:=s.heap.push { cls:=.type "list_iterator",data:=.fields #[.ref x,.int 0 0] } }) E s:=by
    rw [if_neg (by decide)]
    exact wpAny_bind (wpAny_mono run (fun v s' h'=>wpAny_pure ⟨by rw [h'.1],h'.2⟩) fun _ _ h'=>h')
  have last : ∀ (r : Option Value) (s' : Shared), (r = some (.ref s.heap.objs.size) ∧ s' = { s with heap := s.heap.push { cls := .type "list_iterator", data := .fields #[.ref x, .int 0 0] } }) → wpAny (model prog w) A (match r with
      | some it=>do match ← specialOf it "__next__" with
        | none=>rule "iter.non-iterator";raiseError "TypeError" s!"iter() returned non-iterator of type '{← typeNameOf it}'"
        | some _=>pure it
      | none=>do match ← bindSpecialIfBound? (.ref x) "__getitem__" with
        | none=>rule "iter.not-iterable";raiseError "TypeError" s!"'{← typeNameOf (.ref x)}' object is not iterable"
        | some _=>rule "iter.getitem-fallback";newFields "iterator" [.ref x,← mkInt 0]) Q E s':=by
    rintro r s' ⟨rfl,rfl⟩
    exact wpAny_bind (wpAny_specialOf (T:="list_iterator") ⟨_,Heap.get?_push_size _ rfl,rfl⟩ slot_listiter_next.lookup (wpAny_pure h))
  split
  · exact wpAny_bind (wpAny_pure (wpAny_pure (wpAny_mono fin (fun r s' q=>last r s' q) fun _ _ e=>e)))
  · exact wpAny_tryCatch (wpAny_bind (wpAny_pure (wpAny_pure (wpAny_mono fin (fun r s' q=>last r s' q) fun _ _ e=>e))))
end Mine
end
section
open PySem PySem.Calls PySem.W PyProof.Rows PySem.SeqAt Builtin.ObjectAttr
open Sem (wp)
set_option maxHeartbeats 4000000
namespace Mine
theorem passing_all (n:Nat):passing (fun _=>true) n 0=List.range n:=by
  unfold passing
  rw [List.drop_zero]
  exact List.filter_eq_self.mpr fun _ _=>rfl
theorem Ext.moved {C:Cx} {S wr:List Addr} {s₀ s s':Shared} {k:Nat} (e:Ext C S s₀ s) (m:Moved wr (GenOnlyQ k) s s') (hn:∀ b∈wr,s₀.heap.get? b=none) (hP:∀ b∈wr,C.hb.get? b=none):Ext C S s₀ s':=by
  have z:Ext C S s₀ { s with heap:=s'.heap,toks:=s.toks }:=e.iter m.heap hn hP
  exact ⟨z.keep,z.occ,z.tab,m.os.trans e.os,fun a=>m.gens.bare (e.gens a)⟩
section
variable {g:G} {ρ:List (Option D)} {μ:List (Addr × Mut)} {s:Shared}
structure AccOk (K:Frag) (c:Addr):Prop where
  ok:ClsOk K c
  lst:mroIn K c (.type "list")=some true
  iter:findIn K (.ref c) "__iter__"=some (some (.builtin "list.__iter__"))
theorem gen_acc {c p c₀ dx x : Addr} {xs : List (List Nat × List Nat)} {elt : Expr} {xa xb : Str} {pa pb pt ps pos : Pos} {kt i : Nat} {scope : Scope} {Q : Value → Shared → Prop} (F : (List Nat × List Nat) → Value → Prop)
    (R:Room g.A 0) (y:St g ρ μ s) (hc:g.env.code=.ref c) (K:CodeOk g.C c p) (O:AccOk g.C.K c₀) (hx:(x,.acc c₀ dx (xs.map D.ss))∈μ) (h1:g.ns[i]?=some "self") (h2:ρ[i]?=some (some (.val (.ref x))))
    (hbm:∃ a o,BMod g.C.hb mainGlobals g.C.mg a o∧a∉g.C.P)
    (hco:scope.isCoroutine=false) (hkind:scope.kind=.function) (hclos:closureFor scope g.env=pure []) (hcell:∀ y∈scope.names,y.2≠.cell) (h0:scope.names.lookup (".0":Str)=some NameKind.local)
    (hxa:scope.names.lookup xa=some .local) (hxb:scope.names.lookup xb=some .local) (hab:xa≠xb)
    (helt:∀ (cenv:Env),cenv.scope=scope→cenv.globals=mainGlobals→cenv.builtins=builtinsNs→∀ (A':Around) (E':Value→Shared→Prop) p ta tb (s₂:Shared) m₂,p∈xs→s₂.heap.Ns cenv.locals m₂→m₂ xa=some (.str (sl p.1) ta)→m₂ xb=some (.str (sl p.2) tb) →
      s₂.heap.Ns mainGlobals g.C.mg→s₂.heap.Ns builtinsNs g.C.mb→wpAny g.C.M A' (eval elt cenv) (fun y s₃=>F p y∧Keeps s₂ s₃) E' s₂)
    (cont:∀ a s₅ fp wr k (P':Nat→Value→Prop) St',(∀ j y,P' j y→∃ p,xs[j]?=some p∧F p y)→WalksS g.C.prog g.C.w g.A.in4 a fp wr (GenOnlyQ k) xs.length P' St'→(∀ j s,St' j s→s.TypeIs (.ref a) "generator")→St' 0 s₅→(∀ b∈fp,b < s₅.heap.objs.size)→a∈fp→Ext g.C [] s s₅ →
      (∀ s₆ s',Ext g.C [] s s₆→Moved wr (GenOnlyQ k) s₆ s'→Ext g.C [] s s')→Q (.ref a) s₅) :
    wpAny g.C.M g.A (eval (.GeneratorExp elt [⟨.Tuple [.Name xa pa,.Name xb pb] kt pt,.Name "self" ps,[],0⟩] scope pos) g.env) Q NoE s:=by
  have hh:=R.h
  refine wpAny_GeneratorExp_walksQT hh hco hclos hcell h0 hxa hxb hab hkind (R.depth (k:=0)) ?_ (fun _=>rfl)
  refine (Ev.name i h1 h2).wp y fun v s₁ y₁ r₁ e₁=>?_
  (first | obtain rfl:=r₁.vI | obtain ⟨_,rfl⟩:=r₁.iI | obtain ⟨_,rfl⟩:=r₁.sI | obtain ⟨_,rfl⟩:=r₁.bI | obtain rfl:=r₁.nI | cases r₁)
  obtain ⟨ox,od,I,_⟩:=(y₁.muts _ hx).instAt rfl
  refine pyIter_acc y₁.inv.K I O.iter O.lst ?_
  have e₂:Ext g.C [] s₁ { s₁ with heap:=s₁.heap.push { cls:=.type "list_iterator",data:=.fields #[.ref x,.int 0 0] } }:=.push'
  have y₂:=y₁.ext e₂
  refine ⟨y₂.inv.lim,?_⟩
  refine genCode y₂ hc K fun code s₃ e₃ g₃=>?_
  have y₃:=y₂.ext e₃
  obtain ⟨bm,ob,BM,hbP⟩:=hbm
  refine wpAny_builtinsFor (bm:=bm) (o:=ob) (by rw [y₃.envOk.glob];exact y₃.mg) BM.name BM.ne (y₃.inv.keep _ _ hbP BM.obj) BM.cls BM.dict BM.data ?_
  generalize hI:s₁.heap.objs.size=It at *
  have hIn:s.heap.get? It=none:=e₁.none_back (none_of_ge (by exact Z.l56 hI))
  have hIh:g.C.hb.get? It=none:=y.inv.hb_none hIn (fun hP=>by obtain ⟨o,q⟩:=y.inv.occ It (y.inv.pin It hP);rw [hIn] at q;(first | obtain rfl:=q.vI | obtain ⟨_,rfl⟩:=q.iI | obtain ⟨_,rfl⟩:=q.sI | obtain ⟨_,rfl⟩:=q.bI | obtain rfl:=q.nI | cases q))
  have hIP:It∉g.C.P:=(y.fresh hIn).2.1
  obtain ⟨⟨vs,n,ho,rl⟩,_⟩:=y₃.muts _ hx
  have hlen:vs.length=xs.length:=by rw [rl.length,List.length_map]
  have hxI:x≠It:=fun e=>by
    have:=(y.mX x (mem_doms hx)).1
    obtain ⟨o,q⟩:=y.inv.occ x this
    rw [e,hIn] at q;(first | obtain rfl:=q.vI | obtain ⟨_,rfl⟩:=q.iI | obtain ⟨_,rfl⟩:=q.sI | obtain ⟨_,rfl⟩:=q.bI | obtain rfl:=q.nI | cases q)
  have hit:s₃.heap.IsListIter It x 0:=⟨_,e₃.keep It _ (fun h=>nomatch h) hIP (by rw [← hI];exact Heap.get?_push_size _ rfl),rfl,rfl⟩
  have st:AccIter It x vs xs 0 s₃.heap:=by
    refine ⟨hit,⟨_,n,ho,rfl⟩,fun k p hp=>?_⟩
    obtain ⟨v,hv,r⟩:=rl.get (k:=k) (d:=D.ss p) (by rw [List.getElem?_map,hp];rfl)
    have hI:=r.tI;clear r;obtain ⟨t,ws,m,hE,ht,hot,rt⟩:=hI;cases hE
    obtain ⟨u,w,rfl,ru,rw'⟩:=rt.two
    cases ru;cases rw'
    refine ⟨t,_,hv,fun e=>?_,⟨p,_,_,hp,rfl⟩,⟨_,hot,rfl,m,rfl⟩⟩
    obtain ⟨o,q,c,_⟩:=hit
    rw [e,q] at hot;cases hot
    exact absurd (Value.type.inj c) (by decide)
  have lt:∀ b o,s₃.heap.get? b=some o→b < s₃.heap.objs.size:=fun b o e=>Heap.lt_size e
  refine ⟨It,It::x::refsOf vs,[It],xs.length,PairAt xs,AccIter It x vs xs,_,fun _=>true,fun j y=>∃ p,xs[j]?=some p∧F p y,by rw [← hI],fun A' hA=>WalksU.acc hA It x hxI vs xs hlen,?_,st,?_,y₃.inv.lim,?_,?_,?_⟩
  · rintro j vals ⟨p,ta,tb,_,rfl⟩;exact ⟨_,_,rfl⟩
  · intro b hb
    rcases List.mem_cons.mp hb with rfl | hb
    · obtain ⟨o,q,_⟩:=hit;exact lt _ _ q
    rcases List.mem_cons.mp hb with rfl | hb
    · exact lt _ _ ho
    · obtain ⟨v,hv,hb⟩:=List.mem_filterMap.mp hb
      cases v <;> cases hb
      obtain ⟨k,hk⟩:=List.mem_iff_getElem?.mp hv
      obtain ⟨d,hd,r⟩:=rl.get' hk
      rw [List.getElem?_map] at hd
      cases hxk:xs[k]? with
      | none=>rw [hxk] at hd;cases hd
      | some p=>rw [hxk] at hd;cases hd;cases r with | tup _ hot _=>exact lt _ _ hot
  · intro hb
    obtain ⟨mc,⟨o,_,_,q,_⟩,_⟩:=y.inv.lim
    rw [List.mem_singleton.mp hb,hIn] at q
    (first | obtain rfl:=q.vI | obtain ⟨_,rfl⟩:=q.iI | obtain ⟨_,rfl⟩:=q.sI | obtain ⟨_,rfl⟩:=q.bI | obtain rfl:=q.nI | cases q)
  · intro href hk
    refine ⟨fun A' E' j va vb s₂ m₂ hA hP hn ha hb hkp=>?_,fun A' E' j va vb s₂ m₂ hA hP _ hn ha hb hkp=>?_⟩
    · exact wpAny_tests_nil ⟨rfl,_,_,rfl,fun _ _ e=>e⟩
    · obtain ⟨p,ta,tb,hp,hv⟩:=hP
      obtain ⟨rfl,rfl⟩:va=.str (sl p.1) ta∧vb=.str (sl p.2) tb:=by simpa using congrArg Array.toList hv
      have up:∀ b o,b≠It→s₃.heap.get? b=some o→s₂.heap.get? b=some o:=fun b o hb e=>hkp b (List.mem_range.mpr (lt b o e)) (by simpa using hb) o (hk b o e)
      have ns:∀ {b:Addr} {m},s.heap.Ns b m→b≠It:=fun {b m} ⟨o,_,_,q,_⟩ e=>by rw [e,hIn] at q;(first | obtain rfl:=q.vI | obtain ⟨_,rfl⟩:=q.iI | obtain ⟨_,rfl⟩:=q.sI | obtain ⟨_,rfl⟩:=q.bI | obtain rfl:=q.nI | cases q)
      exact wpAny_mono (helt (genEnv scope [] s₃.heap.objs.size code builtinsNs g.env) rfl y.envOk.glob rfl A' E' p ta tb s₂ m₂ (List.mem_of_getElem? hp) hn ha hb (y₃.mg.at' fun o e=>up _ o (ns y.mg) e) (y₃.mb.at' fun o e=>up _ o (ns y.mb) e))
        (fun v s₄ q=>⟨⟨p,hp,q.1⟩,q.2⟩) fun _ _ e=>e
  · intro a h₅ tk gs hgs hlt hsz hk W G
    have e₀₃:Ext g.C [] s s₃:=(e₁.trans e₂).trans e₃
    have hCn:s.heap.get? s₃.heap.objs.size=none:=e₀₃.none_back (none_of_ge (Nat.le_refl _))
    have e₃₅:Ext g.C [] s₃ { s₃ with gens:=s₃.gens.push gs,toks:=tk,heap:=h₅ } :=
      ⟨fun b o _ _ e=>hk b o e,fun b o e=>⟨o,hk b o e⟩,fun t p hp=>(t p hp).keeps hk,rfl,fun z b hb=>by
        rcases Array.mem_push.mp hb with hb | rfl
        · exact z b hb
        · exact hgs⟩
    rw [passing_all,List.length_range] at W
    refine cont a _ _ _ _ _ _ (fun j v q=>?_) W (fun j s st=>st.1.typeIs) G (fun b hb=>?_) (.head _) (e₀₃.trans e₃₅) fun s₆ s' e₆ m=>?_
    · obtain ⟨k,hkj,p,hp,hF⟩:=q
      obtain ⟨hj,rfl⟩:=List.getElem?_eq_some_iff.mp hkj
      rw [List.getElem_range] at hp
      exact ⟨p,hp,hF⟩
    · have hlt':s₃.heap.objs.size < a:=hlt
      have hsz':h₅.objs.size=a+1:=hsz
      show b < h₅.objs.size
      rw [hsz']
      show b < a+1
      rcases List.mem_cons.mp hb with rfl | hb
      · exact Nat.lt_succ_self _
      rcases List.mem_cons.mp hb with rfl | hb
      · exact Nat.lt_succ_of_lt hlt'
      · exact Nat.lt_succ_of_lt (Nat.lt_trans (List.mem_range.mp hb) hlt')
    · have hw:∀ b∈(s₃.heap.objs.size::[It]),s.heap.get? b=none:=fun b hb=>by
        rcases List.mem_cons.mp hb with rfl | hb
        · exact hCn
        · rw [List.mem_singleton.mp hb];exact hIn
      exact Ext.moved e₆ m hw fun b hb=>y.inv.hb_none (hw b hb) (y.fresh (hw b hb)).2.1
end
end Mine
end
section
open PySem PySem.Calls PySem.W PyProof.Rows PySem.SeqAt Builtin.ObjectAttr
open Sem (wp)
set_option maxHeartbeats 4000000
namespace Mine
theorem args_sum2 (a b:Value):argsOk "sum" ⟨[a,b],[]⟩:=by unfold argsOk;kernel_rfl
section
variable {prog:Program} {w:World} {A:Around} {E:Value→Shared→Prop} {s:Shared}
theorem call_sum2 {I : Addr} {fp wr : List Addr} {G : Array GenState → Array GenState → Prop} {n : Nat} {P : Nat → Value → Prop} {St : Nat → Shared → Prop} {val : Nat → Int} {u : Tok} {Q : Value → Shared → Prop}
    (W:WalksS prog w A.in1 I fp wr G n P St) (hst:St 0 s) (hfp:∀ b∈fp,b < s.heap.objs.size) (hval:∀ i v,P i v→∃ t,v=.int (val i) t)
    (hQ:∀ s' t',Moved wr G s s'→Q (.int (preSum val n) t') s'):wpAny (model prog w) A (call (.builtin "sum") [.ref I,.int 0 u]) Q E s:=by
  refine call_function_tree F.kind_sum F.plain_sum F.entry_sum (args_sum2 _ _) ?_
  unfold Builtin.«sum»
  simp only [List.length_cons,List.length_nil]
  rw [if_neg (by decide)]
  refine wpAny_bind (wpAny_of_eq (show Builtin.Builtins.bindParams "sum" ["start"] 0 ⟨[.int 0 u],[]⟩=pure [some (.int 0 u)] from rfl) ?_)
  refine wpAny_bind (W.self 0 s _ _ hst ?_)
  dsimp only
  rw [if_pos (by decide)]
  refine wpAny_bind (wpAny_rule (wpAny_bind (wpAny_mkInt (wpAny_bind (wpAny_pure ?_)))))
  simp only [List.forIn_cons,List.forIn_nil]
  refine wpAny_bind (wpAny_bind (wpAny_bind (wpAny_isInstance (T:="int") (b:=false) (typeIs_int _ _ _) PyProof.Rows.sub_int_str ?_)))
  simp only [Bool.false_eq_true,if_false]
  refine wpAny_pure (wpAny_bind (wpAny_bind (wpAny_isInstance (T:="int") (b:=false) (typeIs_int _ _ _) sub_int_bytes ?_)))
  simp only [Bool.false_eq_true,if_false]
  refine wpAny_pure (wpAny_bind (wpAny_bind (wpAny_isInstance (T:="int") (b:=false) (typeIs_int _ _ _) sub_int_bytearray ?_)))
  simp only [Bool.false_eq_true,if_false]
  refine wpAny_pure (wpAny_pure ?_)
  refine wpAny_bind (wpAny_newObj_type ?_)
  have hSf:s.heap.objs.size∉fp:=fun hm=>Nat.lt_irrefl _ (hfp _ hm)
  refine wpAny_pure ⟨plainId_quiet F.plain_sum_loop _,codeAny_sum_loopAnyS W val hval s.heap.objs.size hSf n 0 _ s.toks 0 0 (.inl rfl) rfl (Nat.zero_le _)
    (W.frame 0 s _ _ hst (by first | exact Nat.le_refl _ | exact Nat.le_succ _ | lia) fun b _ o e=>Heap.get?_push_of_some _ e) (Heap.get?_push_size _ rfl) fun s' t' hm=>?_⟩
  exact hQ s' t' (hm.drop_new (by first | exact Nat.le_refl _ | exact Nat.le_succ _ | lia))
end
theorem preSum_list (l:List Int) (val:Nat→Int) (h:∀ i (hi:i < l.length),val i=l[i]):preSum val l.length=l.sum:=by
  have:∀ k,k≤l.length→preSum val k=(l.take k).sum:=by
    intro k
    induction k with
    | zero=>intro _;rfl
    | succ k ih =>
      intro hk
      have e:preSum val (k+1)=preSum val k+val k:=rfl
      rw [e,ih (by exact Z.l158 hk),h k (by exact Z.l274 hk),List.take_succ_eq_append_getElem (by exact Z.l274 hk),List.sum_append]
      simp
  rw [this _ (Nat.le_refl _),List.take_length]
end Mine
end
section
open PySem PySem.Calls PySem.W PyProof.Rows PySem.SeqAt Builtin.ObjectAttr
open Sem (wp)
set_option maxHeartbeats 4000000
namespace Mine
section
variable {prog:Program} {w:World} {A:Around} {E:Value→Shared→Prop} {s:Shared} {K:Frag} {x C:Addr} {ox:Obj} {od:Option Obj} {name:Str} {expr:Bool} {Q:Value→Shared→Prop}
theorem get_valueL {v : Value} (X : K.In s.heap) (I : InstAt s.heap x ox C od) (hga : findIn K (.ref C) "__getattribute__" = some (some (.builtin "list.__getattribute__"))) (hgt : findIn K (.ref C) "__getattr__" = some none)
    (hf:findObj K C od name=some (.value v)) (hh:handedIn v=true) (hi:mroIn K C (.type "list")=some true) (h:Q v { s with toks:=s.toks+1 }):wpAny (model prog w) A (getAttr (.ref x) name expr) Q E s:=by
  obtain ⟨hp,g,d,t,os⟩:=s
  have L0:=I.type (M:=model prog w)
  have L1:=looks_findIn (M:=model prog w) X hga
  have L2:=looks_findIn (M:=model prog w) X hgt
  have L3:=looks_find (M:=model prog w) X I hf
  unfold getAttr getAttrBy
  refine wpAny_bind (wpAny_mkText (wpAny_holding (wpAny_bind (L0.at (wpAny_bind (L1.at ?_))))))
  show wpAny _ _ (getAttrByItsOwn _ _ _ _ _ _) _ _ _
  unfold getAttrByItsOwn hookBefore callGetattribute boundAndCalled
  refine wpAny_bind ?_
  rw [if_pos (show onTheHeap (.ref C)=true from rfl)]
  refine L2.at ?_
  refine wpAny_bind (wpAny_attempt (wpAny_holding ?_))
  have he:(expr && onTheHeap (Value.builtin "list.__getattribute__"))=false:=by simp [onTheHeap]
  rw [he,if_neg (by decide),F.slot_list_getattribute.bind]
  refine wpAny_bind (wpAny_pure ?_)
  show wpAny _ _ (call (.builtin "list.__getattribute__") [.ref x,.str name t]) _ _ _
  refine call_derived (s:=⟨hp,g,d,t+1,os⟩) X I F.slot_list_getattribute.plain am_entry_list_getattribute (owner:="list") (n:="__getattribute__") (.inr (by decide +kernel)) (by decide +kernel) hi (F.args_list_getattribute_2 _ _) ?_
  unfold Builtin.«object.__getattribute__»
  refine wpAny_bind (wpAny_pure (wpAny_bind (wpAny_pure (wpAny_bind (L0.at (wpAny_bind (L3.at ?_)))))))
  refine wpAny_pure ?_
  show wpAny _ _ (handedOut v) _ _ _
  rw [handedOut_of hh];exact wpAny_pure h
end
end Mine
end
section
open PySem PySem.Calls PySem.W PyProof.Rows PySem.SeqAt Builtin.ObjectAttr
open Sem (wp)
set_option maxHeartbeats 4000000
namespace Mine
section
variable {M:Model} {prog:Program} {w:World} {A:Around} {E:Value→Shared→Prop} {s:Shared} {env:Env}
theorem call_open {func e : Expr} {es : List Expr} {pos : Pos} {Q : Value → Shared → Prop} (hq : eval (.Call func (e :: es) [] pos) env = (eval func env >>= fun v => callWith pos v [] (backTo pos (starEach (e :: es) env)) []))
    (h:wpAny M A (eval func env) (fun v s₁=>wpAny M A (callWith pos v [] (backTo pos (starEach (e::es) env)) []) Q E s₁) E s):wpAny M A (eval (.Call func (e::es) [] pos) env) Q E s:=by
  rw [hq];exact wpAny_bind h
theorem spliced_open {e : Expr} {es : List Expr} {pos : Pos} {Q : List Value → Shared → Prop} (he : starEach (e :: es) env = (false, eval e env) :: starEach es env)
    (h:wpAny M A (eval e env) (fun v s₁=>wpAny M A (spliced (backTo pos (starEach es env))) (fun vs s₂=>Q (v::vs) s₂) E s₁) E s):wpAny M A (spliced (backTo pos (starEach (e::es) env))) Q E s:=by
  rw [he];exact spliced_cons h
theorem name_local {n:Str} {px:Pos} {m:Str→Option Value} {v:Value} {Q:Value→Shared→Prop} (hkind:env.scope.kind=.function) (hn:env.kindOf n=some .local) (hns:s.heap.Ns env.locals m) (hv:m n=some v) (h:Q v s) (hd:(n == ("__debug__":Str))=false):wpAny M A (eval (.Name n px) env) Q E s :=
  wpAny_Name (wpAny_loadName_local hkind hn hns hv h) hd
theorem name_bltn {n:Str} {px:Pos} {mg mb:Str→Option Value} {v:Value} {Q:Value→Shared→Prop} (hkind:env.scope.kind=.function) (hn:env.kindOf n=some .globalImplicit) (hg:s.heap.Ns env.globals mg) (hm:mg n=none) (hb:s.heap.Ns env.builtins mb) (hb':mb n=some v) (h:Q v s) (hd:(n == ("__debug__":Str))=false):wpAny M A (eval (.Name n px) env) Q E s :=
  Name_function_global hkind hn (loadGlobal_builtin hg hm hb hb' h) hd
theorem name_glob {n:Str} {px:Pos} {mg:Str→Option Value} {v:Value} {Q:Value→Shared→Prop} (hkind:env.scope.kind=.function) (hn:env.kindOf n=some .globalImplicit) (hg:s.heap.Ns env.globals mg) (hm:mg n=some v) (h:Q v s) (hd:(n == ("__debug__":Str))=false):wpAny M A (eval (.Name n px) env) Q E s :=
  Name_function_global hkind hn (loadGlobal_global hg hm h) hd
theorem raw_len {n : Str} {pf px pos : Pos} {mg mb m : Str → Option Value} {t : List Nat} {u : Tok} {Q : Value → Shared → Prop} (hkind : env.scope.kind = .function) (hl : env.kindOf "len" = some .globalImplicit) (hn : env.kindOf n = some .local) (hg : s.heap.Ns env.globals mg) (hm : mg "len" = none) (hb : s.heap.Ns env.builtins mb)
    (hb':mb "len"=some (.builtin "len")) (hns:s.heap.Ns env.locals m) (hv:m n=some (.str (sl t) u)) (hz:t.length≤100000) (hd:(n == ("__debug__":Str))=false)
    (h:∀ t',Q (.int t.length t') { s with toks:=s.toks+1+1 })
    (hq:eval (.Call (.Name "len" pf) [.Name n px] [] pos) env=(eval (.Name "len" pf) env >>= fun v=>callWith pos v [] (backTo pos (starEach [.Name n px] env)) []):=by rfl)
    (he:starEach [.Name n px] env=(false,eval (.Name n px) env)::starEach [] env:=by rfl):wpAny (model prog w) A (eval (.Call (.Name "len" pf) [.Name n px] [] pos) env) Q E s:=by
  refine call_open hq (name_bltn hkind hl hg hm hb hb' ?_ (by decide))
  refine callWith_B rfl (spliced_open he (name_local hkind hn hns hv ?_ hd)) he
  refine spliced_nil ?_
  refine PyProof.Rows.len_str (by rw [sl_len];exact Z.l791 hz) ?_
  rw [sl_len];exact h _
end
end Mine
end
section
open PySem PySem.Calls PySem.W PyProof.Rows PySem.SeqAt Builtin.ObjectAttr
open Sem (wp)
set_option maxHeartbeats 4000000
namespace Mine
structure SizeOk (K:Frag) (c:Addr):Prop where
  ga:findIn K (.ref c) "__getattribute__"=some (some (.builtin "list.__getattribute__"))
  gt:findIn K (.ref c) "__getattr__"=some none
  lst:mroIn K c (.type "list")=some true
  fnd:∀ hsh t u n,findObj K c (some (dictOf [⟨hsh,.str "_initial_size" t,.int 0 u⟩] n)) "_initial_size"=some (.value (.int 0 u))
section
variable {g:G} {ρ:List (Option D)} {μ:List (Addr × Mut)} {s:Shared}
theorem self_at {i : Nat} {x : Addr} {p : Pos} {Q : Value → Shared → Prop} {E : Value → Shared → Prop} (y : St g ρ μ s) (h1 : g.ns[i]? = some (Str.ofString "self")) (h2 : ρ[i]? = some (some (.val (.ref x)))) (hk : g.env.kindOf "self" = some .local) (h : Q (.ref x) s) :
    wpAny g.C.M g.A (eval (.Name "self" p) g.env) Q E s:=by
  obtain ⟨v,bd,r⟩:=y.vars i _ _ h1 h2
  (first | obtain rfl:=r.vI | obtain ⟨_,rfl⟩:=r.iI | obtain ⟨_,rfl⟩:=r.sI | obtain ⟨_,rfl⟩:=r.bI | obtain rfl:=r.nI | cases r)
  rcases bd with ⟨q,m,hm,hv⟩ | ⟨q,_⟩
  · exact name_local y.envOk.kind q hm hv h (by decide)
  · rw [hk] at q;rcases q with q | q <;> (first | obtain rfl:=q.vI | obtain ⟨_,rfl⟩:=q.iI | obtain ⟨_,rfl⟩:=q.sI | obtain ⟨_,rfl⟩:=q.bI | obtain rfl:=q.nI | cases q)
theorem attr_size {i : Nat} {x c dx : Addr} {ds : List D} {p pos : Pos} {Q : Value → Shared → Prop} {E : Value → Shared → Prop} (y : St g ρ μ s) (h1 : g.ns[i]? = some (Str.ofString "self")) (h2 : ρ[i]? = some (some (.val (.ref x)))) (hk : g.env.kindOf "self" = some .local)
    (hx:(x,.acc c dx ds)∈μ) (K:SizeOk g.C.K c) (h:∀ u,Q (.int 0 u) { s with toks:=s.toks+1 }):wpAny g.C.M g.A (eval (.Attribute (.Name "self" p) "_initial_size" pos) g.env) Q E s:=by
  obtain ⟨⟨vs,n,ho,r⟩,hne,hsh,t,u,n',hd⟩:=y.muts _ hx
  refine Attribute_any_ (self_at y h1 h2 hk ?_)
  exact get_valueL y.inv.K ⟨ho,rfl,rfl,hd⟩ K.ga K.gt (K.fnd hsh t u n') rfl K.lst (h u)
theorem Ev.size {i : Nat} {x c dx : Addr} {ds : List D} {p pos : Pos} (h1 : g.ns[i]? = Option.some (Str.ofString "self")) (h2 : ρ[i]? = Option.some (Option.some (.val (.ref x)))) (hk : g.env.kindOf "self" = Option.some .local)
    (hx:(x,.acc c dx ds)∈μ) (K:SizeOk g.C.K c):Ev g ρ μ (.Attribute (.Name "self" p) "_initial_size" pos) (.int 0):=fun s y=>attr_size y h1 h2 hk hx K fun u=>⟨.tok,.int ..⟩
end
end Mine
end
section
open PySem PySem.Calls PySem.W PyProof.Rows PySem.SeqAt Builtin.ObjectAttr PySem.Builtin.Str
open Sem (wp)
set_option maxHeartbeats 4000000
namespace Mine
theorem Ev.globS {g:G} {ρ:List (Option D)} {μ:List (Addr × Mut)} {x:Str} {pos:Pos} {v:Str} {t:Tok} (h:g.C.mg x=Option.some (.str v t)) (hx:g.env.kindOf x=Option.some .globalImplicit) (hd:(x == ("__debug__":Str))=false:=by decide):Ev g ρ μ (.Name x pos) (.str v):=fun s y =>
  Name_function_global y.envOk.kind hx (loadGlobal_global (by rw [y.envOk.glob];exact y.mg) h ⟨.refl ..,.str ..⟩) hd
section
variable {M:Model} {prog:Program} {w:World} {A:Around} {E:Value→Shared→Prop} {s:Shared} {env:Env}
theorem raw_join2 {a b : Str} {pe pa pb pt apos pos : Pos} {k : Nat} {mg m : Str → Option Value} {t : Tok} {x y : List Nat} {ta tb : Tok} {n : Str} {Q : Value → Shared → Prop} (hkind : env.scope.kind = .function) (hl : env.kindOf n = some .globalImplicit) (ha : env.kindOf a = some .local) (hb : env.kindOf b = some .local)
    (hg:s.heap.Ns env.globals mg) (hm:mg n=some (.str (sl []) t)) (hns:s.heap.Ns env.locals m) (hva:m a=some (.str (sl x) ta)) (hvb:m b=some (.str (sl y) tb)) (hz:x.length+y.length≤100000)
    (hdn:(n == ("__debug__":Str))=false) (hda:(a == ("__debug__":Str))=false) (hdb:(b == ("__debug__":Str))=false)
    (h:∀ t' k,Q (.str (sl (x++y)) t') { s with heap:=s.heap.push (tupO [.str (sl x) ta,.str (sl y) tb] 0),toks:=k })
    (hline:(apos.endLine == pos.line)=true) :
    wpAny (model prog w) A (eval (.Call (.Attribute (.Name n pe) "join" apos) [.Tuple [.Name a pa,.Name b pb] k pt] [] pos) env) Q E s:=by
  refine wpAny_Call_method (by rfl) (by rfl) hline F.plainAttrs_str F.slot_str_join F.type_str_join (name_glob hkind hl hg hm ⟨typeIs_str _ _ _,(fun a h=>nomatch h),?_⟩ hdn)
  refine callWith_B rfl (spliced_open (by rfl) ?_) (by rfl)
  refine Tuple_ (spliced_open (pos:=pt) (by rfl) ?_)
  refine name_local hkind ha hns hva ?_ hda
  refine spliced_open (by rfl) (name_local hkind hb hns hvb ?_ hdb)
  refine spliced_nil ?_
  show wpAny _ _ (newTuple _) _ _ _
  refine wpAny_newObj_type ?_ (by show 2≤_;decide)
  refine spliced_nil ?_
  refine join_tupleW (ys:=[sl x,sl y]) ⟨_,Heap.get?_push_size _ rfl,rfl,0,rfl⟩ (.cons _ _ (.cons _ _ .nil)) (by rw [sl_len];decide) (by simp [sl_len];exact Z.l792 hz) fun t' k=>?_
  have e:Txt.join (sl []) [sl x,sl y]=sl (x++y):=by
    show glued (sl []) [sl x,sl y]=_
    rw [StrLaws.glued_eq_join]
    simpa using join_flat [x,y]
  rw [e];exact h t' k
end
end Mine
end
section
open PySem PySem.Calls PySem.W PyProof.Rows PySem.SeqAt Builtin.ObjectAttr PySem.Builtin.Str
open Sem (wp)
set_option maxHeartbeats 4000000
namespace Mine
section
variable {prog:Program} {w:World} {A:Around} {E:Value→Shared→Prop} {s:Shared} {K:Frag} {x C f:Addr} {ox:Obj} {od:Option Obj}
theorem len_body {Q : Value → Shared → Prop} (X : K.In s.heap) (I : InstAt s.heap x ox C od) (hs : findIn K (.ref C) "__len__" = some (some (.ref f))) (hf : typeIn K (.ref f) = some (.type "function"))
    (h:wpAny (model prog w) A (call (.ref f) [.ref x]) (fun v s'=>∃ n t,v=.int n t∧0≤n∧n < 2 ^ 63∧Q (.int n s'.toks) { s' with toks:=s'.toks+1 }) E s) :
    wpAny (model prog w) A (Builtin.«len» ⟨[.ref x],[]⟩) (fun fin s'=>match fin with | .done (.ret v)=>Q v s' | _=>False) E s:=by
  unfold Builtin.«len»
  refine wpAny_bind (m:=oneArg "len" _) (wpAny_pure ?_)
  refine wpAny_bind (m:=callSpecial? (.ref x) (Str.ofString "__len__")) (special_fn X I hs hf (wpAny_mono h (fun v s' q=>?_) fun _ _ e=>e))
  obtain ⟨n,t,rfl,h0,hfit,q⟩:=q
  refine wpAny_bind (wpAny_holding (wpAny_pure ?_))
  refine wpAny_bind (wpAny_letGo ?_)
  show wpAny _ _ (if n < 0 then _ else _) _ _ _
  rw [if_neg (by exact Z.l721 h0)]
  show wpAny _ _ (if n≥2 ^ 63 then _ else _) _ _ _
  rw [if_neg (by exact Z.l793 hfit)]
  exact wpAny_bind (wpAny_mkInt (wpAny_pure q))
theorem len_own {Q : Value → Shared → Prop} (X : K.In s.heap) (I : InstAt s.heap x ox C od) (hs : findIn K (.ref C) "__len__" = some (some (.ref f))) (hf : typeIn K (.ref f) = some (.type "function"))
    (h:wpAny (model prog w) A.in1 (call (.ref f) [.ref x]) (fun v s'=>∃ n t,v=.int n t∧0≤n∧n < 2 ^ 63∧Q (.int n s'.toks) { s' with toks:=s'.toks+1 }) E s):wpAny (model prog w) A (call (.builtin "len") [.ref x]) Q E s:=by
  refine call_function_tree kind_len plain_len entry_len (args_len1 _) ?_
  exact wpAny_mono (len_body X I hs hf h) (fun fin s' q=>by rcases fin with (_ | _ | _ | _) | _ <;> first | exact q | exact q.elim) fun _ _ e=>e
theorem truthy_own {Q : Bool → Shared → Prop} (X : K.In s.heap) (I : InstAt s.heap x ox C od) (hb : findIn K (.ref C) "__bool__" = some none) (hs : findIn K (.ref C) "__len__" = some (some (.ref f))) (hf : typeIn K (.ref f) = some (.type "function"))
    (h:wpAny (model prog w) A.in1 (call (.ref f) [.ref x]) (fun v s'=>∃ n t,v=.int n t∧0≤n∧n < 2 ^ 63∧Q (n != 0) { s' with toks:=s'.toks+1 }) E s):wpAny (model prog w) A (truthy (.ref x)) Q E s:=by
  unfold truthy
  refine wpAny_bind ?_
  unfold callSpecial? specialOf
  refine wpAny_bind (wpAny_bind (I.type.here ((looks_findIn X hb).here ?_)))
  refine wpAny_pure ?_
  refine wpAny_bind (wpAny_bind (I.type.here ((looks_findIn X hs).here ?_)))
  rw [if_neg (by simp)]
  refine wpAny_bind (wpAny_runValue (codeAny_builtin entry_len ?_))
  rw [Around.under_plainId plain_len _]
  have:=len_body (Q:=fun v s'=>∃ n t,v=.int n t∧Q (n != 0) s') (A:=A.in1) X I hs hf (wpAny_mono h (fun v s' ⟨n,t,a,b,c,q⟩=>⟨n,t,a,b,c,n,_,rfl,q⟩) fun _ _ e=>e)
  refine wpAny_mono this (fun fin s' q=>?_) fun _ _ e=>e
  rcases fin with (v | _ | _ | _) | _ <;> first | exact q.elim | skip
  obtain ⟨n,t,rfl,q⟩:=q
  exact wpAny_pure q
end
end Mine
end
section
open PySem PySem.Calls PySem.W PyProof.Rows PySem.SeqAt Builtin.ObjectAttr PySem.Builtin.Str
open Sem (wp)
set_option maxHeartbeats 4000000
namespace Mine
section
variable {g:G} {ρ:List (Option D)} {μ μ' a b μ₀ μ₁ p q:List (Addr × Mut)} {s s':Shared} {S:List Addr} {Φ:Flow→Shared→Prop} {rest:List Stmt}
noncomputable def EvOrVM (g:G) (ρ:List (Option D)) (μ:List (Addr × Mut)) (pos:Pos) (es:List Expr) (d:D) (μ':List (Addr × Mut)):Prop:=doms μ'=doms μ∧∀ s,St g ρ μ s→Dn g.C g.A (doms μ) s (boolOp pos .Or (evalEach es g.env)) fun v s'=>St g ρ μ' s'∧Rep g.X s'.heap v d
theorem EvOrVM.one {pos:Pos} {e:Expr} {d:D} (h:EvM g ρ μ e d μ'):EvOrVM g ρ μ pos [e] d μ':=⟨h.1,fun s x=>h.2 s x⟩
theorem EvOrVM.cons {pos:Pos} {e e':Expr} {es:List Expr} {p q:Bool} {μ₂:List (Addr × Mut)} (h:EvM g ρ μ e (D.bool p) μ') (k:p=false→EvOrVM g ρ μ' pos (e'::es) (D.bool q) μ₂) (hd:doms μ₂=doms μ):EvOrVM g ρ μ pos (e::e'::es) (D.bool (p || q)) (if p then μ' else μ₂):=by
  refine ⟨by cases p with | true=>exact h.1 | false=>exact hd,fun s x=>?_⟩
  show Dn g.C g.A _ s (boolOp pos .Or (eval e g.env::eval e' g.env::evalEach es g.env)) _
  rw [boolOp_cons2]
  refine wpAny_bind (h.wp x fun v s₁ x₁ r e₁=>wpAny_bind (wpAny_standAt (wpAny_bind (wpAny_holding ?_))))
  (first | obtain rfl:=r.vI | obtain ⟨_,rfl⟩:=r.iI | obtain ⟨_,rfl⟩:=r.sI | obtain ⟨_,rfl⟩:=r.bI | obtain rfl:=r.nI | cases r)
  refine wpAny_truthy_bool ?_
  cases p with
  | true=>exact wpAny_pure ⟨e₁,by simpa using x₁,.val _⟩
  | false=>exact ((k rfl).2 s₁ x₁).use fun v s₂ e₂ r=>⟨e₁.trans (e₂.eqD h.1),by simpa using r⟩
theorem EvM.or {es:List Expr} {pos:Pos} {d:D} (h:EvOrVM g ρ μ pos es d μ'):EvM g ρ μ (.BoolOp .Or es pos) d μ':=⟨h.1,fun s x=>h.2 s x⟩
theorem EvOrVM.same {pos:Pos} {e e':Expr} {es:List Expr} {p q:Bool} (h:EvM g ρ μ e (D.bool p) μ') (k:p=false→EvOrVM g ρ μ' pos (e'::es) (D.bool q) μ') (hd:doms μ'=doms μ):EvOrVM g ρ μ pos (e::e'::es) (D.bool (p || q)) μ':=by
  have:=EvOrVM.cons h k hd
  rwa [ite_self] at this
theorem EvAndM.same {pos:Pos} {e e':Expr} {es:List Expr} {p q:Bool} (h:EvM g ρ μ e (D.bool p) μ') (k:p=true→EvAndM g ρ μ' pos (e'::es) (D.bool q) μ') (hd:doms μ'=doms μ):EvAndM g ρ μ pos (e::e'::es) (D.bool (p && q)) μ':=by
  have:=EvAndM.cons h k hd
  rwa [ite_self] at this
structure LenOk (K:Frag) (c f:Addr):Prop where
  fnd:findIn K (.ref c) "__len__"=some (some (.ref f))
  ty:typeIn K (.ref f)=some (.type "function")
  nob:findIn K (.ref c) "__bool__"=some none
structure StrOk (K:Frag) (c f:Addr):Prop where
  fnd:findIn K (.ref c) "__str__"=some (some (.ref f))
  ty:typeIn K (.ref f)=some (.type "function")
theorem call_contract {k : Nat} {f : Addr} {ds : List D} {vs : List Value} {d : D} {A : Around} {Q : Value → Shared → Prop} {E : Value → Shared → Prop} (y : St g ρ (a ++ (μ₀ ++ b)) s) (R : Room A k) (r : RepL g.X s.heap vs ds) (hc : FnM g.C k (.ref f) ds μ₀ d μ₁) (hd : doms μ₁ = doms μ₀)
    (h:∀ v s',St g ρ (a++(μ₁++b)) s'→Ext g.C (doms (a++(μ₀++b))) s s'→Rep g.X s'.heap v d→Q v s'):wpAny g.C.M A (call (.ref f) vs) Q E s:=by
  refine wpAny_call (codeAny_mono (hc _ _ _ _ R y.inv r (fun p hp=>y.muts p (List.mem_append_right _ (List.mem_append_left _ hp))) (fun c hc=>?_) ?_) fun r s₃ q=>?_)
  · have:=y.mX c (by simp only [doms_app];exact List.mem_append_right _ (List.mem_append_left _ hc))
    exact ⟨this.1,this.2.1⟩
  · have nd:=y.apart
    simp only [doms_app,List.nodup_append] at nd
    exact nd.2.1.1
  · obtain ⟨v,rfl,e₃,r₃,m₃⟩:=q
    exact h v s₃ (y.called e₃ hd m₃) e₃.wideD r₃
theorem EvM.len {o func : Expr} {pos : Pos} {k : Nat} {f x c : Addr} {m : Mut} {key : Str} {n : Int} (a b : List (Addr × Mut)) (R : Room g.A (k + 1)) (hf : Ev g ρ (a ++ (μ₀ ++ b)) func (.val (.builtin "len"))) (ho : Ev g ρ (a ++ (μ₀ ++ b)) o (.val (.ref x))) (hx : (x, m) ∈ a ++ (μ₀ ++ b)) (hm : m.cls? = some (c, key)) (L : LenOk g.C.K c f)
    (hc:FnM g.C k (.ref f) [.val (.ref x)] μ₀ (.int n) μ₁) (hd:doms μ₁=doms μ₀) (h0:0≤n) (hn:n < 2 ^ 63)
    (hq:eval (.Call func [o] [] pos) g.env=(eval func g.env >>= fun v=>callWith pos v [] (backTo pos (starEach [o] g.env)) []):=by rfl)
    (he:starEach [o] g.env=(false,eval o g.env)::starEach [] g.env:=by rfl):EvM g ρ (a++(μ₀++b)) (.Call func [o] [] pos) (.int n) (a++(μ₁++b)):=by
  refine ⟨by simp only [doms_app,hd],fun s y=>?_⟩
  refine call_open hq (hf.wp y fun v s₁ y₁ r₁ e₁=>?_)
  (first | obtain rfl:=r₁.vI | obtain ⟨_,rfl⟩:=r₁.iI | obtain ⟨_,rfl⟩:=r₁.sI | obtain ⟨_,rfl⟩:=r₁.bI | obtain rfl:=r₁.nI | cases r₁)
  refine callWith_B rfl (spliced_open he (ho.wp y₁ fun v s₂ y₂ r₂ e₂=>?_)) he
  (first | obtain rfl:=r₂.vI | obtain ⟨_,rfl⟩:=r₂.iI | obtain ⟨_,rfl⟩:=r₂.sI | obtain ⟨_,rfl⟩:=r₂.bI | obtain rfl:=r₂.nI | cases r₂)
  refine spliced_nil ?_
  obtain ⟨ox,od,I,hsh⟩:=(y₂.muts _ hx).instAt hm
  refine len_own y₂.inv.K I L.fnd L.ty ?_
  refine call_contract y₂ R.in1 (.cons (.val _) .nil) hc hd fun v s₃ y₃ e₃ r₃=>?_
  (first | obtain rfl:=r₃.vI | obtain ⟨_,rfl⟩:=r₃.iI | obtain ⟨_,rfl⟩:=r₃.sI | obtain ⟨_,rfl⟩:=r₃.bI | obtain rfl:=r₃.nI | cases r₃)
  exact ⟨n,_,rfl,h0,hn,((e₁.trans e₂).up0.trans e₃).trans .tok,y₃.ext .tok,.int ..⟩
theorem EvM.notOwn {o : Expr} {pos : Pos} {k : Nat} {f x c : Addr} {m : Mut} {key : Str} {n : Int} (a b : List (Addr × Mut)) (R : Room g.A (k + 1)) (ho : Ev g ρ (a ++ (μ₀ ++ b)) o (.val (.ref x))) (hx : (x, m) ∈ a ++ (μ₀ ++ b)) (hm : m.cls? = some (c, key)) (L : LenOk g.C.K c f)
    (hc:FnM g.C k (.ref f) [.val (.ref x)] μ₀ (.int n) μ₁) (hd:doms μ₁=doms μ₀) (h0:0≤n) (hn:n < 2 ^ 63):EvM g ρ (a++(μ₀++b)) (.UnaryOp .Not o pos) (D.bool (!(n != 0))) (a++(μ₁++b)):=by
  refine ⟨by simp only [doms_app,hd],fun s y=>?_⟩
  show wpAny _ _ _ _ _ _
  rw [arm_eval_UnaryOp]
  refine wpAny_bind (ho.wp y fun v s₁ y₁ r₁ e₁=>?_)
  (first | obtain rfl:=r₁.vI | obtain ⟨_,rfl⟩:=r₁.iI | obtain ⟨_,rfl⟩:=r₁.sI | obtain ⟨_,rfl⟩:=r₁.bI | obtain rfl:=r₁.nI | cases r₁)
  refine wpAny_bind (wpAny_standAt (wpAny_holding ?_))
  obtain ⟨ox,od,I,hsh⟩:=(y₁.muts _ hx).instAt hm
  show wpAny _ _ (holding [Value.ref x] (truthy (.ref x) >>= fun t=>pure (Value.bool (!t)))) _ _ _
  refine wpAny_holding ?_
  refine wpAny_bind (truthy_own y₁.inv.K I L.nob L.fnd L.ty ?_)
  refine call_contract y₁ R.in1 (.cons (.val _) .nil) hc hd fun v s₃ y₃ e₃ r₃=>?_
  (first | obtain rfl:=r₃.vI | obtain ⟨_,rfl⟩:=r₃.iI | obtain ⟨_,rfl⟩:=r₃.sI | obtain ⟨_,rfl⟩:=r₃.bI | obtain rfl:=r₃.nI | cases r₃)
  exact ⟨n,_,rfl,h0,hn,wpAny_pure ⟨(e₁.up0.trans e₃).trans .tok,y₃.ext .tok,.val _⟩⟩
theorem EvM.str {o func : Expr} {pos : Pos} {k : Nat} {f x c : Addr} {m : Mut} {key : Str} {t : Str} (a b : List (Addr × Mut)) (R : Room g.A (k + 2)) (hf : Ev g ρ (a ++ (μ₀ ++ b)) func (.val (.type "str"))) (ho : Ev g ρ (a ++ (μ₀ ++ b)) o (.val (.ref x))) (hx : (x, m) ∈ a ++ (μ₀ ++ b)) (hm : m.cls? = some (c, key)) (L : StrOk g.C.K c f)
    (hc:FnM g.C k (.ref f) [.val (.ref x)] μ₀ (.str t) μ₁) (hd:doms μ₁=doms μ₀)
    (hq:eval (.Call func [o] [] pos) g.env=(eval func g.env >>= fun v=>callWith pos v [] (backTo pos (starEach [o] g.env)) []):=by rfl)
    (he:starEach [o] g.env=(false,eval o g.env)::starEach [] g.env:=by rfl):EvM g ρ (a++(μ₀++b)) (.Call func [o] [] pos) (.str t) (a++(μ₁++b)):=by
  refine ⟨by simp only [doms_app,hd],fun s y=>?_⟩
  refine call_open hq (hf.wp y fun v s₁ y₁ r₁ e₁=>?_)
  (first | obtain rfl:=r₁.vI | obtain ⟨_,rfl⟩:=r₁.iI | obtain ⟨_,rfl⟩:=r₁.sI | obtain ⟨_,rfl⟩:=r₁.bI | obtain rfl:=r₁.nI | cases r₁)
  refine callWith_B rfl (spliced_open he (ho.wp y₁ fun v s₂ y₂ r₂ e₂=>?_)) he
  (first | obtain rfl:=r₂.vI | obtain ⟨_,rfl⟩:=r₂.iI | obtain ⟨_,rfl⟩:=r₂.sI | obtain ⟨_,rfl⟩:=r₂.bI | obtain rfl:=r₂.nI | cases r₂)
  refine spliced_nil ?_
  obtain ⟨ox,od,I,hsh⟩:=(y₂.muts _ hx).instAt hm
  have Q1:Room g.A.in1.in1 k:=R.in1.in1
  refine kso_call Q1.units y₂.inv.K I L.fnd (by unfold isFn;rw [L.ty];rfl) ?_
  refine call_contract y₂ Q1 (.cons (.val _) .nil) hc hd fun v s₃ y₃ e₃ r₃=>?_
  (first | obtain rfl:=r₃.vI | obtain ⟨_,rfl⟩:=r₃.iI | obtain ⟨_,rfl⟩:=r₃.sI | obtain ⟨_,rfl⟩:=r₃.bI | obtain rfl:=r₃.nI | cases r₃)
  exact ⟨(e₁.trans e₂).up0.trans e₃,y₃,.str ..⟩
theorem EvM.meth0 {o : Expr} {name : Str} {apos pos : Pos} {T id : String} {d₀ d : D} (R : Room g.A 0) (pa : PlainAttrs T) (slot : Slot T name id) (hty : typeOf (.builtin id) = pure (.type "method_descriptor"))
    (ho:EvM g ρ μ o d₀ μ') (hT:∀ (X:List Addr) (s:Shared) v,Rep X s.heap v d₀→s.TypeIs v T∧(∀ a,v=.ref a→∃ ob,s.heap.get? a=some ob∧ob.dict=Option.none)) (hc:Bi (.builtin id) [d₀] d)
    (hbase:attributeBase o name g.env (eval o g.env)=eval o g.env:=by rfl)
    (hfew:((backTo pos (starEach [] g.env)).all (fun x=>!x.1) && (backToKw pos (keywordEach [] g.env)).all (fun x=>x.1.isSome) && decide (([]:List Expr).length+([]:List Keyword).length+(if ([]:List Keyword).isEmpty then 0 else 1) < 30))=true:=by rfl)
    (hline:(apos.endLine == pos.line)=true:=by rfl):EvM g ρ μ (.Call (.Attribute o name apos) [] [] pos) d μ':=⟨ho.1,fun s x =>
  wpAny_Call_method hbase hfew hline pa slot hty (ho.wp x fun v s₁ x₁ r₁ e₁=>⟨(hT _ _ _ r₁).1,(hT _ _ _ r₁).2,callWith_B0 rfl ((hc _ _ _ _ [v] x₁.inv R (.cons r₁ .nil)).use fun v s₃ e₃ r₃=>⟨e₁.trans e₃.up0,x₁.ext e₃,r₃⟩)⟩)⟩
end
end Mine
end
section
open PySem PySem.Calls PySem.W PyProof.Rows PySem.SeqAt
namespace Mine
theorem Ev.neg {g:G} {ρ:List (Option D)} {μ:List (Addr × Mut)} {e:Expr} {pos:Pos} {n:Int} (h:Ev g ρ μ e (.int n)):Ev g ρ μ (.UnaryOp .USub e pos) (.int (-n)):=fun s y=>by
  show wpAny _ _ _ _ _ _
  rw [arm_eval_UnaryOp]
  refine wpAny_bind (h.wp y fun v s₁ y₁ r₁ e₁=>?_)
  (first | obtain rfl:=r₁.vI | obtain ⟨_,rfl⟩:=r₁.iI | obtain ⟨_,rfl⟩:=r₁.sI | obtain ⟨_,rfl⟩:=r₁.bI | obtain rfl:=r₁.nI | cases r₁)
  refine wpAny_bind (wpAny_standAt (wpAny_holding ?_))
  exact neg_int ⟨e₁.trans .tok,.int ..⟩
end Mine
end
section
open PySem PySem.Calls PySem.W PyProof.Rows PySem.SeqAt Builtin.ObjectAttr
set_option maxHeartbeats 4000000
namespace Mine
section
variable {g:G} {ρ:List (Option D)} {μ:List (Addr × Mut)} {s:Shared} {S:List Addr} {Φ:Flow→Shared→Prop} {rest:List Stmt}
noncomputable def EvNew (g:G) (ρ:List (Option D)) (μ:List (Addr × Mut)) (e:Expr) (m:Addr→Mut):Prop:=∀ s,St g ρ μ s→Dn g.C g.A [] s (eval e g.env) fun v s'=>∃ a dx,v=.ref a∧s.heap.get? a=none∧s.heap.get? dx=none∧a≠dx∧(∃ o,s'.heap.get? a=some o)∧(∃ o,s'.heap.get? dx=some o)∧MutOk (a::dx::g.X) s'.heap a (m dx)∧(m dx).more=[dx]
theorem Ex.assignNew (i : Nat) {x : Str} {p pos : Pos} {e : Expr} {m : Addr → Mut} (h1 : g.ns[i]? = some x) (hk : Stored g S x) (he : EvNew g ρ μ e m) (k : ∀ a dx, a ∉ g.X → a ∉ S → dx ∉ g.X → Ex { g with X := a :: dx :: g.X } (a :: dx :: S) (ρ.set i (some (.val (.ref a)))) ((a, m dx) :: μ) rest Φ)
    (hS:∀ a∈S,a∈g.X) (hs:swapsWith e (some (.Name x p)) pos.line g.env=pure false:=by rfl):Ex g S ρ μ (.Assign [.Name x p] e pos::rest) Φ:=Ex.step2 fun s y =>
  wpAny_Assign_Name ((he s y).use fun v s₁ e₁ q=>by
    obtain ⟨a,dx,rfl,hn,hd,hne,ho,hod,hm,hmore⟩:=q
    have y₁:=y.wide (wr:=[a,dx]) e₁ (fun b hb=>by simp only [List.mem_cons,List.not_mem_nil,or_false] at hb;rcases hb with rfl | rfl <;> assumption)
      (fun b hb=>by simp only [List.mem_cons,List.not_mem_nil,or_false] at hb;rcases hb with rfl | rfl <;> assumption)
    have f:=y.fresh hn
    have fd:=y.fresh hd
    have y₂:St { g with X:=a::dx::g.X } ρ ((a,m dx)::μ) s₁:=St.addmut (g:={ g with X:=a::dx::g.X }) y₁ hm (fun b hb=>by
      rw [hmore] at hb
      simp only [List.mem_cons,List.not_mem_nil,or_false] at hb
      rcases hb with rfl | rfl
      · exact ⟨.head _,f.2⟩
      · exact ⟨.tail _ (.head _),fd.2⟩) (by rw [hmore];simp [hne])
    have haS:a∉S:=fun q=>f.1 (hS a q)
    refine (St.store (g:={ g with X:=a::dx::g.X }) y₂ h1 hk (.val (.ref a))).use fun _ s₂ e₂ y₂=>?_
    refine (k a dx f.1 haS fd.1 s₂ y₂).use fun fl s₃ e₃ q=>⟨?_,q⟩
    have e₁₂:Ext g.C S s s₂:=(e₁.wider (fun _ h=>nomatch h)).trans e₂
    exact ((e₁₂.wider fun b hb=>.inl (.tail _ (.tail _ hb))).trans e₃).wider fun b hb=>by
      rcases List.mem_cons.mp hb with rfl | hb
      · exact .inr hn
      rcases List.mem_cons.mp hb with rfl | hb
      · exact .inr hd
      · exact .inl hb) hs
theorem Room.make {A:Around} {k:Nat} {C:Addr} {vals:List Value} (R:Room A (k+1)):Room (A.under (.builtin "type.__call__" ⟨.ref C::vals,[]⟩)) k:=by
  refine ⟨R.h,?_,?_,?_⟩
  · rw [depth_under_make];have:=R.d;exact Z.l676 this
  · rw [units_under_make];have:=R.u;exact Z.l681 this
  · show pushGuards (Code.guards (.builtin "type.__call__" ⟨.ref C::vals,[]⟩)) A.guards=_
    rw [R.g]
    kernel_rfl
theorem new_core {fI : Addr} {o₀ : Addr → Obj} {m : Addr → Mut} {k : Nat} {A : Around} {R' : Result → Shared → Prop} (y : St g ρ μ s) (R : Room A k)
    (hc:∀ x dx,FnM g.C k (.ref fI) [.val (.ref x)] [(x,.obj (o₀ dx) dx emptyDict)] D.nil [(x,m dx)])
    (h:∀ s' ,Ext g.C [] s s'→MutOk ((s.heap.objs.size+1)::s.heap.objs.size::g.X) s'.heap (s.heap.objs.size+1) (m s.heap.objs.size)→(∃ o,s'.heap.get? (s.heap.objs.size+1)=some o)→(∃ o,s'.heap.get? s.heap.objs.size=some o)→R' (.ok (.ret (.ref (s.heap.objs.size+1)))) s') (hf:∀ dx,(o₀ dx).isFreed=false) :
    codeAny g.C.M A (.call (.ref fI) ⟨[.ref (s.heap.objs.size+1)],[]⟩) (InitBack (s.heap.objs.size+1) R') { s with heap:=(s.heap.push emptyDict).push (o₀ s.heap.objs.size) }:=by
  have e₀:Ext g.C [] s { s with heap:=(s.heap.push emptyDict).push (o₀ s.heap.objs.size) }:=.of_keeps (fun b o e=>Heap.get?_push_of_some _ (Heap.get?_push_of_some _ e)) rfl rfl
  generalize hd:s.heap.objs.size=dx at *
  have nd:s.heap.get? dx=none:=none_of_ge (by exact Z.l56 hd)
  have na:s.heap.get? (dx+1)=none:=none_of_ge (by lia)
  have hx:((s.heap.push emptyDict).push (o₀ dx)).get? (dx+1)=some (o₀ dx):=Heap.get?_push_at (by rw [Heap.size_push,hd]) (hf dx)
  have hdx:((s.heap.push emptyDict).push (o₀ dx)).get? dx=some emptyDict:=Heap.get?_push_of_some _ (Heap.get?_push_at hd.symm rfl)
  have y₁:=y.wide (wr:=[dx+1,dx]) e₀ (fun b hb=>by simp only [List.mem_cons,List.not_mem_nil,or_false] at hb;rcases hb with rfl | rfl <;> assumption)
    (fun b hb=>by simp only [List.mem_cons,List.not_mem_nil,or_false] at hb;rcases hb with rfl | rfl <;> exact ⟨_,by assumption⟩)
  have P1:=y.fresh na
  have P2:=y.fresh nd
  refine codeAny_mono (hc (dx+1) dx A ((dx+1)::dx::g.X) _ _ R y₁.inv (.cons (.val _) .nil) (fun p hp=>?_) (fun a ha=>?_) ?_) fun r s' q=>?_
  · rw [List.mem_singleton.mp hp];exact ⟨hx,Nat.ne_of_lt (Nat.lt_succ_self _),hdx⟩
  · have:a=dx+1∨a=dx:=by simpa [doms,Mut.more] using ha
    rcases this with rfl | rfl
    · exact ⟨.head _,P1.2.1⟩
    · exact ⟨.tail _ (.head _),P2.2.1⟩
  · simp [doms,Mut.more]
  · obtain ⟨v,rfl,e₁,r₁,m₁⟩:=q
    (first | obtain rfl:=r₁.vI | obtain ⟨_,rfl⟩:=r₁.iI | obtain ⟨_,rfl⟩:=r₁.sI | obtain ⟨_,rfl⟩:=r₁.bI | obtain rfl:=r₁.nI | cases r₁)
    have e₂:Ext g.C [] s s':=(e₀.up0.trans e₁).wider fun b hb=>by
      have:b=dx+1∨b=dx:=by simpa [doms,Mut.more] using hb
      rcases this with rfl | rfl
      · exact .inr na
      · exact .inr nd
    exact ⟨rfl,h s' e₂ (m₁ _ (.head _)) (e₁.occ _ _ hx) (e₁.occ _ _ hdx)⟩
theorem EvNew.acc {func : Expr} {pos : Pos} {c fI : Addr} {k : Nat} (R : Room g.A (k + 1)) (hf : Ev g ρ μ func (.val (.ref c))) (hkeep : keepIn g.C.K (.ref c) = true) (hm : makesLIn g.C.K c = true) (hi : findIn g.C.K (.ref c) "__init__" = some (some (.ref fI))) (ht : typeIn g.C.K (.ref fI) = some (.type "function"))
    (hc:∀ x dx,FnM g.C k (.ref fI) [.val (.ref x)] [(x,.obj (accObj c dx) dx emptyDict)] D.nil [(x,.acc c dx [])])
    (hq:eval (.Call func [] [] pos) g.env=(eval func g.env >>= fun v=>callWith pos v [] (backTo pos (starEach [] g.env)) []):=by rfl):EvNew g ρ μ (.Call func [] [] pos) fun dx=>.acc c dx []:=fun s y=>by
  show wpAny _ _ _ _ _ _
  rw [hq]
  refine wpAny_bind (hf.wp y fun v s₁ y₁ r₁ e₁=>?_)
  (first | obtain rfl:=r₁.vI | obtain ⟨_,rfl⟩:=r₁.iI | obtain ⟨_,rfl⟩:=r₁.sI | obtain ⟨_,rfl⟩:=r₁.bI | obtain rfl:=r₁.nI | cases r₁)
  refine callWith_K0 y₁.inv.K hkeep (wpAny_call ?_)
  refine makeL_core (makesL_of y₁.inv.K hm) (looks_findIn y₁.inv.K hi) (fun self=>bind_fn y₁.inv.K self ht) ?_
  refine new_core (o₀:=accObj c) (m:=fun dx=>.acc c dx []) y₁ R.make hc (fun s' e m ho hd=>?_) fun _=>rfl
  exact ⟨e₁.trans e,_,_,rfl,e₁.none_back (none_of_ge (Nat.le_succ _)),e₁.none_back (none_of_ge (Nat.le_refl _)),Nat.succ_ne_self _,ho,hd,m,rfl⟩
theorem EvNew.inst {func : Expr} {pos : Pos} {c fI : Addr} {k : Nat} (R : Room g.A (k + 1)) (hf : Ev g ρ μ func (.val (.ref c))) (hkeep : keepIn g.C.K (.ref c) = true) (hm : makesIn g.C.K c = true) (hi : findIn g.C.K (.ref c) "__init__" = some (some (.ref fI))) (ht : typeIn g.C.K (.ref fI) = some (.type "function"))
    (hc:∀ x dx,FnM g.C k (.ref fI) [.val (.ref x)] [(x,.obj (instObj c dx) dx emptyDict)] D.nil [(x,.inst c dx)])
    (hq:eval (.Call func [] [] pos) g.env=(eval func g.env >>= fun v=>callWith pos v [] (backTo pos (starEach [] g.env)) []):=by rfl):EvNew g ρ μ (.Call func [] [] pos) fun dx=>.inst c dx:=fun s y=>by
  show wpAny _ _ _ _ _ _
  rw [hq]
  refine wpAny_bind (hf.wp y fun v s₁ y₁ r₁ e₁=>?_)
  (first | obtain rfl:=r₁.vI | obtain ⟨_,rfl⟩:=r₁.iI | obtain ⟨_,rfl⟩:=r₁.sI | obtain ⟨_,rfl⟩:=r₁.bI | obtain rfl:=r₁.nI | cases r₁)
  refine callWith_K0 y₁.inv.K hkeep (wpAny_call ?_)
  refine make_core (makes_of y₁.inv.K hm) (looks_findIn y₁.inv.K hi) (fun self=>bind_fn y₁.inv.K self ht) (.inl rfl) ?_
  refine new_core (o₀:=instObj c) (m:=fun dx=>.inst c dx) y₁ R.make hc (fun s' e m ho hd=>?_) fun _=>rfl
  exact ⟨e₁.trans e,_,_,rfl,e₁.none_back (none_of_ge (Nat.le_succ _)),e₁.none_back (none_of_ge (Nat.le_refl _)),Nat.succ_ne_self _,ho,hd,m,rfl⟩
end
end Mine
end
section
open PySem PySem.Calls PySem.W PyProof.Rows PySem.SeqAt
namespace Mine
noncomputable def setAll (ρ:List (Option D)):List (Nat × Str × Pos)→List D→List (Option D)
  | t::ts,d::ds=>setAll (ρ.set t.1 (some d)) ts ds
  | _,_=>ρ
section
variable {g:G} {ρ:List (Option D)} {μ μ':List (Addr × Mut)} {s:Shared} {S:List Addr} {Φ:Flow→Shared→Prop} {rest:List Stmt}
theorem asgs (ts : List (Nat × Str × Pos)) : ∀ (ds : List D) (ρ : List (Option D)) (s : Shared) (vs : List Value), ts.length = ds.length → (∀ t ∈ ts, g.ns[t.1]? = some t.2.1 ∧ Stored g S t.2.1) → (∀ a ∈ S, a ∉ doms μ → a ∈ g.X) → St g ρ μ s → RepL g.X s.heap vs ds → (∀ a ∈ S, a ∈ g.X) →
    Dn g.C g.A S s (assignInOrder (ts.map fun t v=>assign (.Name t.2.1 t.2.2) g.env v) vs) fun _ s'=>St g (setAll ρ ts ds) μ s':=by
  induction ts with
  | nil =>
    intro ds ρ s vs hl _ _ y r _
    obtain rfl:ds=[]:=List.eq_nil_of_length_eq_zero hl.symm
    (first | obtain rfl:=r.vI | obtain ⟨_,rfl⟩:=r.iI | obtain ⟨_,rfl⟩:=r.sI | obtain ⟨_,rfl⟩:=r.bI | obtain rfl:=r.nI | cases r);exact wpAny_pure ⟨.refl ..,y⟩
  | cons t ts ih =>
    intro ds ρ s vs hl h1 hx y r hS
    cases ds with
    | nil=>cases hl
    | cons d ds =>
      cases r with | cons rv r =>
      have st:Dn g.C g.A S s (assign (.Name t.2.1 t.2.2) g.env _) fun _ s'=>St g (ρ.set t.1 (some d)) μ s':=wpAny_assign_Name (St.store y (h1 t (.head _)).1 (h1 t (.head _)).2 rv)
      refine aio_cons (st.use fun _ s₁ e₁ y₁=>?_)
      refine (ih ds _ s₁ _ (Nat.succ.inj hl) (fun t ht=>h1 t (.tail _ ht)) hx y₁ (r.ext e₁ hS y.inv.pin) hS).use fun _ s₂ e₂ y₂=>⟨e₁.trans e₂,y₂⟩
theorem asg_tuple {elts : List Expr} {k : Nat} {p : Pos} {v : Value} {ds : List D} (ts : List (Nat × Str × Pos)) (R : Room g.A 0) (hl : ts.length = ds.length) (h1 : ∀ t ∈ ts, g.ns[t.1]? = some t.2.1 ∧ Stored g S t.2.1) (hS : ∀ a ∈ S, a ∈ g.X)
    (heq:assignEach elts g.env=ts.map fun t=>(false,fun v=>PySem.assign (.Name t.2.1 t.2.2) g.env v)) (y:St g ρ μ s) (r:Rep g.X s.heap v (.tup ds)) :
    Dn g.C g.A S s (assign (.Tuple elts k p) g.env v) fun _ s'=>St g (setAll ρ ts ds) μ s':=by
  show wpAny _ _ _ _ _ _
  rw [arm_assign_Tuple]
  refine wpAny_bind (wpAny_standAt ?_)
  rw [heq]
  refine unpack_D y R r (by simpa using hl) (by simp [List.findIdx?_eq_none_iff]) fun s₁ vs y₁ e₁ rl=>?_
  have:(ts.map fun t=>(false,fun v=>PySem.assign (.Name t.2.1 t.2.2) g.env v)).map (·.2)=ts.map fun t v=>assign (.Name t.2.1 t.2.2) g.env v:=by simp
  rw [this]
  exact asgs ts ds ρ s₁ vs hl h1 (fun a ha _=>hS a ha) y₁ rl hS
theorem Ex.assignT {elts : List Expr} {k : Nat} {p pos : Pos} {e : Expr} {ds : List D} (ts : List (Nat × Str × Pos)) (R : Room g.A 0) (hl : ts.length = ds.length) (h1 : ∀ t ∈ ts, g.ns[t.1]? = some t.2.1 ∧ Stored g S t.2.1) (hS : ∀ a ∈ S, a ∈ g.X) (hμ : ∀ a ∈ doms μ, a ∈ S)
    (he:EvM g ρ μ e (.tup ds) μ') (heq:assignEach elts g.env=ts.map fun t=>(false,fun v=>PySem.assign (.Name t.2.1 t.2.2) g.env v)) (kk:Ex g S (setAll ρ ts ds) μ' rest Φ)
    (hs:swapsWithSole [.Tuple elts k p] e pos.line g.env=pure false:=by rfl) (hw:swappedStores [.Tuple elts k p] e g.env=pure none:=by rfl):Ex g S ρ μ (.Assign [.Tuple elts k p] e pos::rest) Φ:=Ex.step fun s y =>
  Assign_Tuple (he.wp y fun v s₁ y₁ r₁ e₁=>(asg_tuple ts R hl h1 hS heq y₁ r₁).use fun _ s₂ e₂ y₂=>⟨(e₁.wider fun c hc=>.inl (hμ c hc)).trans e₂,kk _ y₂⟩) hs hw
theorem Ex.forT {elts : List Expr} {k : Nat} {p : Pos} {iter : Expr} {body : List Stmt} {pos : Pos} {d : D} {ds : List D} (ts : List (Nat × Str × Pos)) (row : D → List D) (R : Room g.A 0) (hrow : ∀ a ∈ ds, a = .tup (row a) ∧ ts.length = (row a).length) (h1 : ∀ t ∈ ts, g.ns[t.1]? = some t.2.1 ∧ Stored g S t.2.1) (hS : ∀ a ∈ S, a ∈ g.X)
    (heq:assignEach elts g.env=ts.map fun t=>(false,fun v=>PySem.assign (.Name t.2.1 t.2.2) g.env v)) (hi:Ev g ρ μ iter d) (src:Src d ds)
    (J:Nat→List (Option D)→List (Addr × Mut)→Prop) (B:List (Option D)→List (Addr × Mut)→Prop)
    (hμ:∀ i ρ' μ',J i ρ' μ'→doms μ'=doms μ) (hB:∀ ρ' μ',B ρ' μ'→doms μ'=doms μ) (j0:J 0 ρ μ)
    (turn:∀ wr j a ρ' μ',ds[j]?=some a→J j ρ' μ'→Ex { g with X:=wr++g.X } S (setAll ρ' ts (row a)) μ' body (Turn { g with X:=wr++g.X } (J (j+1)) B Φ))
    (done:∀ ρ' μ',J ds.length ρ' μ'→Ex g S ρ' μ' rest Φ) (brk:∀ ρ' μ',B ρ' μ'→Ex g S ρ' μ' rest Φ)
    (hs:∀ x,foldedSetIterable iter g.env x=pure x:=by intro _;rfl):Ex g S ρ μ (.For (.Tuple elts k p) iter body [] pos::rest) Φ :=
  Ex.for R hS hi src J B (fun ρ a=>setAll ρ ts (row a)) hμ hB j0 (fun X' hX ρ' μ' a s v y r ha=>by
    have h:=hrow a ha
    rw [h.1] at r
    exact asg_tuple (g:={ g with X:=X' }) ts R h.2 h1 (fun a ha=>hX a (hS a ha)) heq y r) turn done brk hs
end
end Mine
end
section
open PySem PySem.Calls PySem.W PyProof.Rows PySem.SeqAt
namespace Mine
noncomputable abbrev bl (l:List Nat):Array UInt8:=(l.map fun n=>n.toUInt8).toArray
noncomputable abbrev D.b (l:List Nat):D:=.bytes (bl l)
theorem bl_size (l:List Nat):(bl l).size=l.length:=by simp [bl]
theorem bl_get {l:List Nat} {k c:Nat} (h:l[k]?=some c):(bl l)[k]?=some c.toUInt8:=by simp [bl,h]
theorem byte_nat {c:Nat} (h:c < 256):(c.toUInt8.toNat:Nat)=c:=by
  show c % 2 ^ 8=c
  lia
theorem Src.b {l:List Nat} (h:∀ c∈l,c < 256):Src (.b l) (l.map fun c:Nat=>D.int (c:Int)):=fun C A X s v Q E I hh r hQ=>by
  cases r with | bytes _ t =>
  have W:=PySem.W.KBw.walks (prog:=C.prog) (w:=C.w) hh s.heap.objs.size (bl l) t
  have hlen:(l.map fun c:Nat=>D.int (c:Int)).length=(bl l).size:=by simp [bl]
  rw [← hlen] at W
  refine PySem.W.KBw.pyIter_bytes (hQ _ _ _ _ _ _ .push' ⟨W,?_,?_,?_,?_,?_⟩ ?_)
  · intro b hb;rw [List.mem_singleton.mp hb];exact none_of_ge (Nat.le_refl _)
  · intro b hb;exact .inl hb
  · intro i h' e b hb;rw [List.mem_singleton.mp hb];obtain ⟨o,e,_⟩:=e;exact ⟨_,e⟩
  · rintro i v h' hk ⟨c,u,hc,rfl⟩
    have hi:i < l.length:=by
      have:=(Array.getElem?_eq_some_iff.mp hc).1
      rwa [bl_size] at this
    have hc':=bl_get (List.getElem?_eq_getElem hi)
    rw [hc] at hc';cases hc'
    refine ⟨.int (l[i]:Nat),by simp [List.getElem?_eq_getElem hi],?_⟩
    rw [byte_nat (h _ (List.getElem_mem hi))];exact .int ..
  · intro i s' A' t v Q E e hq
    obtain ⟨o,ho,hc,_⟩:=e
    exact letOwned_skip ho hc (by decide) hq
  · exact ⟨_,Heap.get?_push_size _ rfl,rfl,rfl⟩
theorem iter_str {C : Cx} {A : Around} {X : List Addr} {s : Shared} {l : List Nat} {t : Tok} {T : String} (hT : ownedKinds.contains T = false)
    (W:Walks C.prog C.w A s.heap.objs.size [s.heap.objs.size] [s.heap.objs.size] (sl l).cps.size (SignAt (sl l)) (fun i h=>h.IsStrIter s.heap.objs.size T (sl l) t i)) :
    IterAt C A X s s.heap.objs.size [s.heap.objs.size] [s.heap.objs.size] (SignAt (sl l)) (fun i h=>h.IsStrIter s.heap.objs.size T (sl l) t i) (l.map fun c=>D.s [c]):=by
  have hsz:(sl l).cps.size=(l.map fun c=>D.s [c]).length:=by simp [sl]
  rw [hsz] at W
  refine ⟨W,?_,?_,?_,?_,?_⟩
  · intro b hb;rw [List.mem_singleton.mp hb];exact none_of_ge (Nat.le_refl _)
  · intro b hb;exact .inl hb
  · intro i h' e b hb;rw [List.mem_singleton.mp hb];obtain ⟨o,e,_⟩:=e;exact ⟨_,e⟩
  · rintro i v h' hk ⟨c,u,hc,rfl⟩
    have hc':l[i]?=some c:=by simpa [sl] using hc
    exact ⟨.s [c],by simp [hc'],.str ..⟩
  · intro i s' A' t v Q E e hq
    obtain ⟨o,ho,hc,_⟩:=e
    exact letOwned_skip ho hc hT hq
theorem Src.s {l:List Nat}:Src (.s l) (l.map fun c=>D.s [c]):=fun C A X s v Q E I hh r hQ=>by
  cases r with | str _ t =>
  cases ha:(sl l).cps.all (· < 128)
  · exact wpAny_pyIter_wide ha (hQ _ _ _ _ _ _ .push' (iter_str (by decide) (Walks.strWide hh _ (sl l) t)) ⟨_,Heap.get?_push_size _ rfl,rfl,rfl⟩)
  · exact wpAny_pyIter_ascii ha (hQ _ _ _ _ _ _ .push' (iter_str (by decide) (Walks.strAscii hh _ (sl l) t)) ⟨_,Heap.get?_push_size _ rfl,rfl,rfl⟩)
theorem meets_rev (b : Array UInt8) (t : Tok) (a : Addr) (u : Tok) :
    Meets (Builtin.«bytes.__getitem__» ⟨[.bytes b t,.ref a],[]⟩) (fun _ R s=>s.heap.IsSliceOf a .none .none (.int (-1) u)∧b.size≤sizeLine∧∀ t' k,R (.ok (.ret (.bytes b.toList.reverse.toArray t'))) { s with toks:=k }):=by
  refine .of_wp fun prog w A R s hS=>?_
  obtain ⟨⟨o,ho,hc,hd⟩,hsz,h⟩:=hS
  have hT:s.TypeIs (.ref a) "slice":=⟨o,ho,hc⟩
  show wpAny _ _ (Builtin.Bytes.payload (.bytes b t) >>= fun r=>_) _ _ s
  refine wpAny_bind (wpAny_of_eq (a:=b) rfl ?_)
  show wpAny _ _ (Builtin.Bytes.subscript? (.ref a) >>= fun r=>_) _ _ s
  refine wpAny_bind ?_
  unfold Builtin.Bytes.subscript?
  refine wpAny_bind (wpAny_specialOf hT slice_no_index (wpAny_pure ?_))
  refine wpAny_bind (wpAny_typeOf hT ?_)
  show wpAny _ _ (Builtin.Bytes.sliceParts (.ref a) >>= fun r=>_) _ _ s
  refine wpAny_bind ?_
  unfold Builtin.Bytes.sliceParts
  refine wpAny_bind (wpAny_field (x:=.int (-1) u) ho hd rfl ?_)
  kby_int
  refine wpAny_ite (PySem.W.KBy.ite_no (show ¬ ((rawInt (-1) == rawInt 0)=true) from by decide) ?_)
  refine wpAny_bind (wpAny_field (x:=.none) ho hd rfl ?_)
  kby_none
  refine wpAny_bind (wpAny_field (x:=.none) ho hd rfl ?_)
  kby_none
  refine wpAny_pure ?_
  have go:wpAny (model prog w) A.in1 (sliceIndices (rawPart none) (rawPart none) (rawPart (some (-1))) b.size) (fun r s'=>r=sliceBounds none none (some (-1)) b.size∧s'=s) (fun _ _=>False) s :=
    wpAny_of_eq (sliceIndices_raw none none (some (-1)) b.size (fun e=>by cases e)) ⟨rfl,rfl⟩
  refine wpAny_bind (wpAny_mono go (fun r s' hr=>?_) fun _ _ e=>e.elim)
  obtain ⟨hr1,hr2⟩:=hr
  subst hr1 hr2
  rw [krv_bounds]
  refine wpAny_ite (PySem.W.KBy.ite_no (by simp) ?_)
  have e:Builtin.Bytes.sliced b ((b.size:Int) - 1) (-1) (-1)=b.toList.reverse.toArray:=by
    unfold Builtin.Bytes.sliced
    rw [krv_sliceRange,krv_range,List.filterMap_reverse,krv_all]
  rw [e]
  exact wpAny_bind (wpAny_mkBytes (wpAny_pure ⟨_,rfl,h _ _⟩) (by simpa using hsz))
section
variable {g:G} {ρ:List (Option D)} {μ:List (Addr × Mut)}
theorem picked_cut (b:Array UInt8) (lo hi:Option Int):PySem.W.KBy.picked b lo hi=(cut b.toList lo hi).toArray:=by
  unfold PySem.W.KBy.picked Builtin.Bytes.sliced
  rw [bounds_clip]
  simp only [sliceRange_one,pick_run]
  unfold cut
  rw [Array.length_toList]
theorem Ev.itemB {v i : Expr} {pos : Pos} {l : List Nat} {k : Int} {c : Nat} (R : Room g.A 0) (hv : Ev g ρ μ v (.b l)) (hi : Ev g ρ μ i (.int k)) (h0 : 0 ≤ k) (hd : l[k.toNat]? = Option.some c) (hc : c < 256) (hz : l.length ≤ sizeLine)
    (hs:∀ u t,subscripted i false (.bytes (bl l) u) (.int k t)=operate [.bytes (bl l) u,.int k t] (getItem (.bytes (bl l) u) (.int k t)):=by intro _ _;with_unfolding_all rfl)
    (ht:∀ u r,letTemporaryGo v (.bytes (bl l) u) r=pure ():=by intro _ _;with_unfolding_all rfl):Ev g ρ μ (.Subscript v i pos) (.int c):=Ev.sub R hv hi fun C A X s va vb I R r q=>by
  (first | obtain rfl:=q.vI | obtain ⟨_,rfl⟩:=q.iI | obtain ⟨_,rfl⟩:=q.sI | obtain ⟨_,rfl⟩:=q.bI | obtain rfl:=q.nI | cases q)
  (first | obtain rfl:=r.vI | obtain ⟨_,rfl⟩:=r.iI | obtain ⟨_,rfl⟩:=r.sI | obtain ⟨_,rfl⟩:=r.bI | obtain rfl:=r.nI | cases r)
  have hlt:k.toNat < l.length:=(List.getElem?_eq_some_iff.mp hd).1
  have:sizeLine=16777216:=rfl
  have hl:(PySem.W.KBw.bInts (bl l)).length=l.length:=by rw [PySem.W.KBw.ints_length,bl_size]
  refine PySem.W.KBw.item_K (b:=bl l) rfl (by rw [hl];exact Z.l725 this hz) h0 (by rw [hl];exact Z.l734 hlt) (fun t' k' _ _=>⟨.tok,?_⟩) (hs _ _) (ht _)
  have e:(PySem.W.KBw.bInts (bl l)).getD k.toNat 0=(c:Int):=by
    have:(PySem.W.KBw.bInts (bl l))[k.toNat]?=some (c:Int):=by
      rw [PySem.W.KBw.ints_get (bl_get hd),byte_nat hc]
    rw [List.getD_eq_getElem?_getD,this];rfl
  rw [e];exact .int ..
theorem Ev.sliceB {v : Expr} {lo hi : Option Expr} {p pos : Pos} {l : List Nat} {i j : Option Int} (R : Room g.A 0) (hv : Ev g ρ μ v (.b l)) (hl : EvP g ρ μ lo i) (hh : EvP g ρ μ hi j) (hz : l.length ≤ sizeLine) :
    Ev g ρ μ (.Subscript v (.Slice lo hi Option.none p) pos) (.b (cut l i j)):=Ev.slice hv hl hh EvP.none (fun C A X s va l' u c I R r p1 p2 p3=>by
  (first | obtain rfl:=p3.vI | obtain ⟨_,rfl⟩:=p3.iI | obtain ⟨_,rfl⟩:=p3.sI | obtain ⟨_,rfl⟩:=p3.bI | obtain rfl:=p3.nI | cases p3)
  (first | obtain rfl:=r.vI | obtain ⟨_,rfl⟩:=r.iI | obtain ⟨_,rfl⟩:=r.sI | obtain ⟨_,rfl⟩:=r.bI | obtain rfl:=r.nI | cases r)
  refine tail_any (typeIs_bytes _ _ _) FB.slot_bytes_getitem.lookup (getItem_meets (typeIs_bytes _ _ _) (by decide) FB.slot_bytes_getitem FB.entry_bytes_getitem (FB.args_bytes_getitem_2 _ _) (PySem.W.KBc.meets_slice2 (bl l) _ _ p1 p2)
    ⟨Heap.IsSliceOf.new _ _ _ _,Nat.le_trans (PySem.W.KBc.size_picked_le (bl l) i j) (by rw [bl_size];exact hz),fun t' k=>⟨.tok,?_⟩⟩) rfl
  have e:PySem.W.KBy.picked (bl l) i j=bl (cut l i j):=by
    rw [picked_cut]
    show (cut (l.map _) i j).toArray=_
    rw [cut_map]
  rw [e];exact .bytes ..) R
theorem Ev.revB {v st : Expr} {p pos : Pos} {l : List Nat} (R : Room g.A 0) (hv : Ev g ρ μ v (.b l)) (hst : Ev g ρ μ st (.int (-1))) (hz : l.length ≤ sizeLine) :
    Ev g ρ μ (.Subscript v (.Slice Option.none Option.none (Option.some st) p) pos) (.b l.reverse):=Ev.slice hv EvP.none EvP.none (EvP.some hst) (fun C A X s va l' u c I R r p1 p2 p3=>by
  (first | obtain rfl:=p1.vI | obtain ⟨_,rfl⟩:=p1.iI | obtain ⟨_,rfl⟩:=p1.sI | obtain ⟨_,rfl⟩:=p1.bI | obtain rfl:=p1.nI | cases p1);(first | obtain rfl:=p2.vI | obtain ⟨_,rfl⟩:=p2.iI | obtain ⟨_,rfl⟩:=p2.sI | obtain ⟨_,rfl⟩:=p2.bI | obtain rfl:=p2.nI | cases p2);(first | obtain rfl:=p3.vI | obtain ⟨_,rfl⟩:=p3.iI | obtain ⟨_,rfl⟩:=p3.sI | obtain ⟨_,rfl⟩:=p3.bI | obtain rfl:=p3.nI | cases p3)
  (first | obtain rfl:=r.vI | obtain ⟨_,rfl⟩:=r.iI | obtain ⟨_,rfl⟩:=r.sI | obtain ⟨_,rfl⟩:=r.bI | obtain rfl:=r.nI | cases r)
  refine tail_any (typeIs_bytes _ _ _) FB.slot_bytes_getitem.lookup (getItem_meets (typeIs_bytes _ _ _) (by decide) FB.slot_bytes_getitem FB.entry_bytes_getitem (FB.args_bytes_getitem_2 _ _) (meets_rev (bl l) _ _ _)
    ⟨Heap.IsSliceOf.new _ _ _ _,by rw [bl_size];exact hz,fun t' k=>⟨.tok,?_⟩⟩) rfl
  have e:(bl l).toList.reverse.toArray=bl l.reverse:=by simp [bl]
  rw [e];exact .bytes ..) R
end
end Mine
end
section
open PySem PySem.Calls PySem.W PyProof.Rows PySem.SeqAt MeetsSeq MeetsSeq2 MeetsSeq3 SeqRoads2
open AutoSeq1 (wpAny_loadPart')
set_option maxHeartbeats 4000000
namespace Mine
inductive OrdOp:CmpOp→Int→Prop
  | le:OrdOp .LtE 1
  | gt:OrdOp .Gt 4
noncomputable def decI (op:CmpOp) (x y:Int):Bool:=match op with | .Gt=>decide (x > y) | _=>decide (x < y)
noncomputable def ordS (op:CmpOp) (m n:Nat):Bool:=match op with | .Lt=>decide (m < n) | .LtE=>decide (m≤n) | _=>decide (m > n)
noncomputable def ordI (op:CmpOp):List Int→List Int→Bool
  | [],ys=>ordS op 0 ys.length
  | x::xs,ys=>List.casesOn ys (ordS op (xs.length+1) 0) fun y ys=>if x=y then ordI op xs ys else decI op x y
theorem ordI_end {op:CmpOp} {xs ys:List Int} (h:xs=[]∨ys=[]):ordI op xs ys=ordS op xs.length ys.length:=by
  rcases h with rfl | rfl
  · rfl
  · cases xs <;> rfl
theorem ordS_sub {op:CmpOp} {code:Int} (O:OrdOp op code) {i m n:Nat} (h1:i≤m) (h2:i≤n):ordS op (m - i) (n - i)=ordS op m n:=by
  cases O with
  | le=>exact decide_eq_decide.mpr (Nat.sub_le_sub_iff_right h2)
  | gt=>exact decide_eq_decide.mpr (Nat.sub_lt_sub_iff_right h2)
theorem ordI_same {op:CmpOp} {x y:Int} {xs ys:List Int} (h:x=y):ordI op (x::xs) (y::ys)=ordI op xs ys:=if_pos h
theorem ordI_diff {op:CmpOp} {x y:Int} {xs ys:List Int} (h:¬ x=y):ordI op (x::xs) (y::ys)=decI op x y:=if_neg h
theorem rich_int {op:CmpOp} {code:Int} (O:OrdOp op code) {prog:Program} {w:World} {A:Around} {E:Value→Shared→Prop} {Q:Value→Shared→Prop} {s:Shared} {x y:Int} {t u:Tok} (hne:x≠y) (h:Q (.bool (decI op x y)) s):wpAny (model prog w) A (richCompare op (.int x t) (.int y u)) Q E s:=by
  cases O with
  | le =>
    have e:decI .LtE x y=decide (x≤y):=by show decide (x < y)=decide (x≤y);simp only [decide_eq_decide];exact Z.l757 hne
    rw [e] at h
    exact (_root_.PySem.P.le_int h:wpAny (model prog w) A (compareOp .LtE (.int x t) (.int y u)) Q E s)
  | gt=>exact (_root_.PySem.P.gt_int h:wpAny (model prog w) A (compareOp .Gt (.int x t) (.int y u)) Q E s)
noncomputable def IntAt (s:Shared) (items:Array Value) (xs:List Int):Prop:=items.size=xs.length∧∀ j,(h:j < xs.length)→∃ t,items[j]?=some (.int xs[j] t)
theorem ord_loop {op : CmpOp} {code : Int} (O : OrdOp op code) (l b : Addr) (items items2 : Array Value) (xs ys : List Int) (n n2 : Nat) (k : Nat) :
    ∀ i:Nat,xs.length - i=k→i≤xs.length→i≤ys.length→Meets (Builtin.«list.__eq__.loop» ⟨[.ref l,.ref b,rawInt i,rawInt code],[]⟩)
      (fun A R s=>s.heap.get? l=some { cls:=.type "list",dict:=none,data:=.seq items n,slots:=#[] }∧s.heap.get? b=some { cls:=.type "list",dict:=none,data:=.seq items2 n2,slots:=#[] } ∧
        IntAt s items xs∧IntAt s items2 ys∧R (.ok (.ret (.bool (ordI op (xs.drop i) (ys.drop i))))) s):=by
  have last : ∀ i : Nat, i ≤ xs.length → i ≤ ys.length → (xs.length ≤ i ∨ ys.length ≤ i) → Meets (Builtin.«list.__eq__.loop» ⟨[.ref l, .ref b, rawInt i, rawInt code], []⟩)
      (fun A R s=>s.heap.get? l=some { cls:=.type "list",dict:=none,data:=.seq items n,slots:=#[] }∧s.heap.get? b=some { cls:=.type "list",dict:=none,data:=.seq items2 n2,slots:=#[] } ∧
        IntAt s items xs∧IntAt s items2 ys∧R (.ok (.ret (.bool (ordI op (xs.drop i) (ys.drop i))))) s):=by
    intro i h1 h2 h3 prog w A R s h
    obtain ⟨hp,g,d,tk,os⟩:=s;obtain ⟨hl,hb,⟨s1,e1⟩,⟨s2,e2⟩,h⟩:=h
    rw [ordI_end (h3.imp List.drop_eq_nil_of_le List.drop_eq_nil_of_le),List.length_drop,List.length_drop,ordS_sub O h1 h2,← s1,← s2] at h
    have hi:items[((i:Nat):Int).toNat]?=none∨((∃ v,items[((i:Nat):Int).toNat]?=some v)∧items2[((i:Nat):Int).toNat]?=none):=by
      show items[i]?=none∨((∃ v,items[i]?=some v)∧items2[i]?=none)
      cases e:items[i]? with
      | none=>exact .inl rfl
      | some v=>exact .inr ⟨⟨v,rfl⟩,h3.elim (fun h=>nomatch (Array.getElem?_eq_none (s1.symm ▸ h)).symm.trans e) fun h=>Array.getElem?_eq_none (s2.symm ▸ h)⟩
    cases O <;>
    · wp_walk using wpAny_loadPart' hl,wpAny_loadPart' hb
      rcases hi with hi | ⟨⟨v,hi⟩,hi2⟩
      · rw [hi]
        wp_walk using wpAny_loadPart' hl,wpAny_loadPart' hb
        exact h
      · rw [hi,hi2]
        wp_walk using wpAny_loadPart' hl,wpAny_loadPart' hb
        exact h
  induction k with
  | zero=>intro i hk h1 h2;exact last i h1 h2 (.inl (by exact Z.l758 hk))
  | succ k ih =>
    intro i hk h1 h2
    by_cases h3:ys.length≤i
    · exact last i h1 h2 (.inr h3)
    intro prog w A R s h
    obtain ⟨hp,g,d,tk,os⟩:=s;obtain ⟨hl,hb,⟨s1,e1⟩,⟨s2,e2⟩,h⟩:=h
    have hx:i < xs.length:=by exact Z.l759 hk
    have hy:i < ys.length:=by exact Z.l34 h3
    obtain ⟨t1,f1⟩:=e1 i hx
    obtain ⟨t2,f2⟩:=e2 i hy
    have hi1:items[((i:Nat):Int).toNat]?=some (.int xs[i] t1):=f1
    have hi2:items2[((i:Nat):Int).toNat]?=some (.int ys[i] t2):=f2
    have hc:((i:Int)+1)=((i+1:Nat):Int):=rfl
    rw [List.drop_eq_getElem_cons hx,List.drop_eq_getElem_cons hy] at h
    cases O <;>
    · wp_walk using wpAny_loadPart' hl,wpAny_loadPart' hb
      rw [hi1,hi2]
      refine wpAny_bind ((MeetsSeq.EqGives.int xs[i] ys[i] t1 t2) prog w _ _ _ _ ?_)
      by_cases hxy:xs[i]=ys[i]
      · rw [ordI_same hxy] at h
        simp only [hxy,decide_true,beq_self_eq_true,if_true]
        rw [hc]
        exact wpAny_pure ⟨plainId_quiet plain_eq_loop _,codeAny_builtin entry_eq_loop (by
          rw [Around.under_plainId plain_eq_loop _]
          exact ih (i+1) (by lia) (by exact Z.l201 hx) (by exact Z.l201 hy) prog w A R _ ⟨hl,hb,⟨s1,e1⟩,⟨s2,e2⟩,h⟩)⟩
      · rw [ordI_diff hxy] at h
        simp only [hxy,decide_false,beq_eq_false_iff_ne.mpr hxy,Bool.false_eq_true,if_false]
        wp_walk using wpAny_loadPart' hl,wpAny_loadPart' hb
        rw [hi1,hi2]
        exact wpAny_bind (rich_int (by constructor) hxy (wpAny_pure h))
theorem meets_le (l b : Addr) (items items2 : Array Value) (xs ys : List Int) (n n2 : Nat) : Meets (Builtin.«list.__le__» ⟨[.ref l, .ref b], []⟩)
      (fun A R s=>s.heap.get? l=some { cls:=.type "list",dict:=none,data:=.seq items n,slots:=#[] }∧s.heap.get? b=some { cls:=.type "list",dict:=none,data:=.seq items2 n2,slots:=#[] } ∧
        IntAt s items xs∧IntAt s items2 ys∧R (.ok (.ret (.bool (ordI .LtE xs ys)))) s):=by
  intro prog w A R s h
  obtain ⟨hp,g,d,tk,os⟩:=s;obtain ⟨hl,hb,i1,i2,h⟩:=h
  have f3:=AutoSeq1.sub_list_list
  wp_walk using wpAny_loadPart' hl,wpAny_loadPart' hb
  exact ⟨plainId_quiet plain_eq_loop _,codeAny_builtin entry_eq_loop (by
    rw [Around.under_plainId plain_eq_loop _]
    exact ord_loop OrdOp.le l b items items2 xs ys n n2 _ 0 rfl (Nat.zero_le _) (Nat.zero_le _) prog w A R _ ⟨hl,hb,i1,i2,h⟩)⟩
theorem meets_gt (l b : Addr) (items items2 : Array Value) (xs ys : List Int) (n n2 : Nat) : Meets (Builtin.«list.__gt__» ⟨[.ref l, .ref b], []⟩)
      (fun A R s=>s.heap.get? l=some { cls:=.type "list",dict:=none,data:=.seq items n,slots:=#[] }∧s.heap.get? b=some { cls:=.type "list",dict:=none,data:=.seq items2 n2,slots:=#[] } ∧
        IntAt s items xs∧IntAt s items2 ys∧R (.ok (.ret (.bool (ordI .Gt xs ys)))) s):=by
  intro prog w A R s h
  obtain ⟨hp,g,d,tk,os⟩:=s;obtain ⟨hl,hb,i1,i2,h⟩:=h
  have f3:=AutoSeq1.sub_list_list
  wp_walk using wpAny_loadPart' hl,wpAny_loadPart' hb
  exact ⟨plainId_quiet plain_eq_loop _,codeAny_builtin entry_eq_loop (by
    rw [Around.under_plainId plain_eq_loop _]
    exact ord_loop OrdOp.gt l b items items2 xs ys n n2 _ 0 rfl (Nat.zero_le _) (Nat.zero_le _) prog w A R _ ⟨hl,hb,i1,i2,h⟩)⟩
theorem RepL.intAt {X:List Addr} {s:Shared} {vs:List Value} {xs:List Int} (r:RepL X s.heap vs (xs.map D.int)):IntAt s vs.toArray xs:=by
  refine ⟨r.length.trans (List.length_map ..),fun j h=>?_⟩
  obtain ⟨v,hv,rv⟩:=r.get (k:=j) (d:=.int xs[j]) ((List.getElem?_map ..).trans (congrArg (Option.map D.int) (List.getElem?_eq_getElem h)))
  obtain ⟨t,rfl⟩:=rv.iI
  exact ⟨t,(List.getElem?_toArray ..).trans hv⟩
theorem Cmp.ordL {op:CmpOp} {code:Int} (O:OrdOp op code) (xs ys:List Int):Cmp op (.lst (xs.map D.int)) (.lst (ys.map D.int)) (D.bool (ordI op xs ys)):=fun C A X s va vb I R r q=>by
  have hu:=R.u
  have hc:cLine=9900:=rfl
  have hI:=r.lI;clear r;obtain ⟨l,vs,nn,hE,h1,e1,r⟩:=hI;cases hE
  have hI:=q.lI;clear q;obtain ⟨b,ws,nm,hE,h2,e2,q⟩:=hI;cases hE
  have hT:s.TypeIs (.ref l) "list":=⟨_,e1,rfl⟩
  have hT':s.TypeIs (.ref b) "list":=⟨_,e2,rfl⟩
  have hp:e1=e1:=rfl
  cases O with
  | le=>exact richCompare_meets_room (op:=.LtE) hT hT' F.slot_list_le F.entry_list_le (F.args_list_le_2 _ _) (meets_le l b vs.toArray ws.toArray xs ys nn nm) ⟨e1,e2,r.intAt,q.intAt,(fun x=>nomatch x),.refl ..,.val _⟩ (by exact Z.l691 hc hu)
  | gt=>exact richCompare_meets_room (op:=.Gt) hT hT' F.slot_list_gt F.entry_list_gt (F.args_list_gt_2 _ _) (meets_gt l b vs.toArray ws.toArray xs ys nn nm) ⟨e1,e2,r.intAt,q.intAt,(fun x=>nomatch x),.refl ..,.val _⟩ (by exact Z.l691 hc hu)
end Mine
end
section
open PySem PySem.Calls PySem.W PyProof.Rows PySem.SeqAt
namespace Mine
noncomputable def kinds (xs:List Int):Nat:=(firstMet (fun i=>xs.getD i 0) xs.length).length
section
variable {g:G} {ρ:List (Option D)} {μ:List (Addr × Mut)}
theorem Ev.lenSet {fl fs e : Expr} {p1 p2 : Pos} {xs : List Int} (R : Room g.A 0) (hl : Ev g ρ μ fl (.val (.builtin "len"))) (hs : Ev g ρ μ fs (.val (.type "set"))) (he : Ev g ρ μ e (.lst (xs.map D.int))) (hz : xs.length ≤ 1000)
    (hq:eval (.Call fl [.Call fs [e] [] p2] [] p1) g.env=(eval fl g.env >>= fun v=>callWith p1 v [] (backTo p1 (starEach [.Call fs [e] [] p2] g.env)) []):=by rfl)
    (hq2:eval (.Call fs [e] [] p2) g.env=(eval fs g.env >>= fun v=>callWith p2 v [] (backTo p2 (starEach [e] g.env)) []):=by rfl)
    (he1:starEach [.Call fs [e] [] p2] g.env=(false,eval (.Call fs [e] [] p2) g.env)::starEach [] g.env:=by rfl) (he2:starEach [e] g.env=(false,eval e g.env)::starEach [] g.env:=by rfl) :
    Ev g ρ μ (.Call fl [.Call fs [e] [] p2] [] p1) (.int (kinds xs)):=fun s y=>by
  refine call_open hq (hl.wp y fun v s₁ y₁ r₁ e₁=>?_)
  (first | obtain rfl:=r₁.vI | obtain ⟨_,rfl⟩:=r₁.iI | obtain ⟨_,rfl⟩:=r₁.sI | obtain ⟨_,rfl⟩:=r₁.bI | obtain rfl:=r₁.nI | cases r₁)
  refine callWith_B rfl (spliced_open he1 (call_open hq2 (hs.wp y₁ fun v s₂ y₂ r₂ e₂=>?_))) he1
  (first | obtain rfl:=r₂.vI | obtain ⟨_,rfl⟩:=r₂.iI | obtain ⟨_,rfl⟩:=r₂.sI | obtain ⟨_,rfl⟩:=r₂.bI | obtain rfl:=r₂.nI | cases r₂)
  refine callWith_B rfl (spliced_open he2 (he.wp y₂ fun v s₃ y₃ r₃ e₃=>?_)) he2
  refine spliced_nil ?_
  have hI:=r₃.lI;clear r₃;obtain ⟨l,vs,nn,hE,h1,e1,r⟩:=hI;cases hE
  have hL:s₃.heap.IsList l vs.toArray:=⟨_,e1,rfl,nn,rfl⟩
  have lv:=r.length
  rw [List.length_map] at lv
  refine call_set_list R.h hL r.ints (by simp [scanBound];exact Z.l761 lv hz) fun h' tk hS hk=>?_
  refine spliced_nil ?_
  obtain ⟨o,ho,hso⟩:=hS.objOf
  obtain ⟨hex,es,ep,t,hd,_,_,hn,hf⟩:=hso
  have hsz:es.size=kinds xs:=by rw [hn];unfold kinds;rw [List.size_toArray,lv]
  have hle:kinds xs≤xs.length:=firstMet_length_le _ _
  refine call_len_set ho hex hd hf (by exact Z.l762 hsz hz hle) ⟨?_,?_⟩
  · exact (((e₁.trans e₂).trans e₃).trans (.up (s:=s₃) (tk:=tk) fun b o e=>hk b o (Heap.lt_size e) e)).trans .tok
  · rw [hsz];exact .int ..
end
end Mine
end
section
open PySem PySem.Calls PySem.W PyProof.Rows PySem.SeqAt
set_option maxHeartbeats 4000000
namespace Mine
noncomputable def evalT {α:Type} (lt:Nat→Nat→Bool):KasT α→α
  | .ret a=>a
  | .ask i j k=>evalT lt (k (lt i j))
noncomputable def TIn {α:Type} (n:Nat) (post:α→Prop):KasT α→Prop
  | .ret a=>post a
  | .ask i j k=>i < n∧j < n∧∀ b,TIn n post (k b)
theorem TIn.bind {α β:Type} {n:Nat} {p:α→Prop} {q:β→Prop} {f:α→KasT β}:∀ {t:KasT α},TIn n p t→(∀ a,p a→TIn n q (f a))→TIn n q (t.bind f)
  | .ret a,h,k=>k a h
  | .ask i j g,h,k=>⟨h.1,h.2.1,fun b=>TIn.bind (h.2.2 b) k⟩
theorem TIn.eval {α:Type} {n:Nat} {p:α→Prop} {lt:Nat→Nat→Bool}:∀ {t:KasT α},TIn n p t→p (evalT lt t)
  | .ret a,h=>h
  | .ask i j g,h=>TIn.eval (t:=g (lt i j)) (h.2.2 _)
noncomputable def LowP (n:Nat) (p:Array Nat):Prop:=∀ x∈p,x < n
theorem LowP.get {n:Nat} {p:Array Nat} (h:LowP n p) (hn:0 < n) (k:Nat):p.getD k 0 < n:=by
  rw [Array.getD_eq_getD_getElem?]
  cases e:p[k]? with
  | none=>exact hn
  | some x=>exact h x (Array.mem_of_getElem? e)
theorem LowP.perm {n:Nat} {p q:Array Nat} (h:LowP n p) (e:q.Perm p):LowP n q:=fun x hx=>h x (e.mem_iff.mp hx)
theorem LowP.rev {n:Nat} {p:Array Nat} (h:LowP n p) (i j:Nat):LowP n (kas_rev p i j):=h.perm (mirror_perm ..)
section
variable {n:Nat} (hn:0 < n)
include hn
theorem tin_asc {p:Array Nat} (h:LowP n p):∀ f k,TIn n (fun _=>True) (kas_asc p f k)
  | 0,k=>trivial
  | f+1,k=>⟨h.get hn _,h.get hn _,fun b=>by
    cases b with
    | true=>exact trivial
    | false=>exact tin_asc h f (k+1)⟩
theorem tin_desc:∀ f (p:Array Nat) k q,LowP n p→TIn n (fun r:Array Nat × Nat × Nat=>LowP n r.1) (kas_desc f p k q)
  | 0,p,k,q,h=>h
  | f+1,p,k,q,h=>⟨h.get hn _,h.get hn _,fun b=>by
    cases b with
    | true =>
      show TIn n _ (if q > 0 then _ else _)
      by_cases hq:q > 0
      · rw [if_pos hq];exact tin_desc f _ _ _ (h.rev _ _)
      · rw [if_neg hq];exact tin_desc f _ _ _ h
    | false => exact ⟨h.get hn _, h.get hn _, fun d => by
        cases d with
        | true=>exact h
        | false=>exact tin_desc f _ _ _ h⟩⟩
theorem tin_tail3 {p:Array Nat} (h:LowP n p) (k m:Nat):TIn n (fun r:Nat × Array Nat=>LowP n r.2) (kas_tail3 k m p) :=
  TIn.bind (tin_asc hn (h.rev _ _) _ _) fun a _=>h.rev _ _
theorem tin_descPart {p:Array Nat} (h:LowP n p) (k m:Nat):TIn n (fun r:Nat × Array Nat=>LowP n r.2) (kas_descPart k m p) :=
  TIn.bind (tin_desc hn _ _ _ _ h) fun r hr=>by
    show TIn n _ (if r.2.2 > 0 then _ else _)
    by_cases hq:r.2.2 > 0
    · rw [if_pos hq];exact tin_tail3 hn (hr.rev _ _) _ _
    · rw [if_neg hq];exact tin_tail3 hn hr _ _
theorem tin_count {p:Array Nat} (h:LowP n p) (m:Nat):TIn n (fun r:Nat × Array Nat=>LowP n r.2) (kas_count m p) :=
  TIn.bind (tin_asc hn h _ _) fun k _=>by
    show TIn n _ (if (k == m)=true then _ else _)
    by_cases hq:(k == m)=true
    · rw [if_pos hq];exact h
    · rw [if_neg hq]
      by_cases hk:k > 1
      · rw [if_pos hk];exact ⟨h.get hn _,h.get hn _,fun c=>by
          cases c with
          | true=>exact h
          | false=>exact tin_descPart hn (h.rev _ _) _ _⟩
      · rw [if_neg hk];exact tin_descPart hn h _ _
theorem tin_place {p:Array Nat} (h:LowP n p) (k:Nat):∀ f l r,TIn n (fun _=>True) (kas_place p k f l r)
  | 0,l,r=>trivial
  | f+1,l,r=>by
    show TIn n _ (if l≥r then _ else _)
    by_cases hq:l≥r
    · rw [if_pos hq];exact trivial
    · rw [if_neg hq];exact ⟨h.get hn _,h.get hn _,fun c=>by
        cases c with
        | true=>exact tin_place h k f _ _
        | false=>exact tin_place h k f _ _⟩
theorem tin_bin:∀ f (p:Array Nat) k,LowP n p→TIn n (LowP n) (kas_bin f p k)
  | 0,p,k,h=>h
  | f+1,p,k,h=>TIn.bind (tin_place hn h _ _ _ _) fun l _=>tin_bin f _ _ (h.perm (bubble_perm ..))
theorem tin_sort:TIn n (LowP n) (kas_sort n):=by
  have h0:LowP n (List.toArray (List.range n)):=fun x hx=>by simpa using hx
  refine TIn.bind (tin_count hn h0 _) fun r hr=>?_
  show TIn n _ (if r.1 < n then _ else _)
  by_cases hq:r.1 < n
  · rw [if_pos hq];exact tin_bin hn _ _ _ hr
  · rw [if_neg hq];exact hr
end
theorem wp_evalT {α : Type} {n : Nat} {post : α → Prop} {lt : Nat → Nat → Bool} {cmp : Nat → Nat → (Bool → Shared → Prop) → Shared → Prop} {Q : α → Shared → Prop} {s : Shared} (hC : ∀ i j C, i < n → j < n → C (lt i j) s → cmp i j C s) :
    ∀ {t:KasT α},TIn n post t→Q (evalT lt t) s→t.kasWp cmp Q s
  | .ret a,_,q=>q
  | .ask i j k,h,q=>hC i j _ h.1 h.2.1 (wp_evalT hC (h.2.2 _) q)
section
variable {prog:Program} {w:World} {A:Around} {E:Value→Shared→Prop} {s:Shared}
noncomputable def sortIx (n:Nat) (lt:Nat→Nat→Bool):List Nat:=if n < 2 then List.range n else (evalT lt (kas_sort n)).toList
theorem list_sort_raw {a : Addr} {vs : List Value} {n : Nat} {κ : PyProof.Rows.SortKind} {lt : Nat → Nat → Bool} {P : PySem.Fin → Shared → Prop} (ho : s.heap.get? a = some (seqObj "list" vs.toArray n)) (h64 : vs.length < 64)
    (hK:2≤vs.length→∀ (Q:PyProof.Rows.SortKind→Shared→Prop) s',(∀ b o,b≠a→s.heap.get? b=some o→s'.heap.get? b=some o)→Q κ s'→wpAny (model prog w) A (keyKind' vs.toArray) Q (fun _ _=>False) s')
    (hC:∀ i j (C:Bool→Shared→Prop) s',i < vs.length→j < vs.length→(∀ b o,b≠a→s.heap.get? b=some o→s'.heap.get? b=some o)→C (lt i j) s'→wpAny (model prog w) A (keyLt' κ (vs.getD i Value.none) (vs.getD j Value.none)) C (fun _ _=>False) s')
    (h:∀ h' c,(∀ b o,b≠a→s.heap.get? b=some o→h'.get? b=some o)→h'.get? a=some (seqObj "list" ((sortIx vs.length lt).map fun i=>vs.getD i Value.none).toArray c)→P (.done (.ret .none)) { s with heap:=h' }) :
    wpAny (model prog w) A (Builtin.«list.sort» ⟨[.ref a],[]⟩) P E s:=by
  have ha:a < s.heap.objs.size:=Heap.lt_size ho
  have s1:=Heap.SameBut.update s.heap a (Obj.mapSeq fun _=>(#[]:Array Value))
  obtain ⟨e1,ho1⟩:∃ e1,(s.heap.update a (Obj.mapSeq fun _=>(#[]:Array Value))).get? a=some (seqObj "list" #[] e1):=⟨_,get?_update_seq ho fun _=>#[]⟩
  have k3:∀ b o,b≠a→s.heap.get? b=some o→(((s.heap.update a (Obj.mapSeq fun _=>(#[]:Array Value))).push (seqObj "tuple" vs.toArray 0)).push (seqObj "list" #[] 0)).get? b=some o:=fun b o hb e =>
    Heap.get?_push_of_some _ (Heap.get?_push_of_some _ ((s1.2 b hb).trans e))
  have na:(((s.heap.update a (Obj.mapSeq fun _=>(#[]:Array Value))).push (seqObj "tuple" vs.toArray 0)).push (seqObj "list" #[] 0)).get? a=some (seqObj "list" #[] e1):=Heap.get?_push_of_some _ (Heap.get?_push_of_some _ ho1)
  rw [list_sort_plain]
  refine wpAny_bind (listItems_at ho rfl ?_)
  refine wpAny_bind (listUpdate_at ho rfl ?_ (by rw [List.size_toArray,sizeLine_eq];exact Z.l763 h64) (Nat.zero_le _))
  refine wpAny_bind (seqEpoch_at ho1 rfl ?_)
  refine wpAny_bind (wpAny_newTuple ?_ (by show vs.length≤_;rw [sizeLine_eq];exact Z.l763 h64))
  refine wpAny_bind (wpAny_newList ?_ (Nat.zero_le _))
  refine wpAny_holding ?_
  generalize hH:((s.heap.update a (Obj.mapSeq fun _=>(#[]:Array Value))).push (seqObj "tuple" vs.toArray 0)).push (seqObj "list" #[] 0)=H at k3 na
  dsimp only
  have fin : ∀ (st' : SortSt) (out : List Value), (arrOf st').map (·.2) = out.toArray → out.length = vs.length → failedOf st' = none → out = (sortIx vs.length lt).map (fun i => vs.getD i Value.none) →
      wpAny (model prog w) A (do
        let touched:=(← seqEpoch a) != e1
        Builtin.List.listUpdate (.ref a) fun _=>(arrOf st').map (·.2)
        if let some e:=failedOf st' then rule "list.sort.comparison-raised";throw e
        if touched then rule "list.sort.modified";raiseError "ValueError" "list modified during sort"
        ret .none) P E { s with heap:=H }:=by
    intro st' out hout hsz hf hix
    rw [hout]
    have s2:=Heap.SameBut.update H a (Obj.mapSeq fun _=>out.toArray)
    obtain ⟨c2,hc2⟩:∃ c2,(H.update a (Obj.mapSeq fun _=>out.toArray)).get? a=some (seqObj "list" out.toArray c2):=⟨_,get?_update_seq na fun _=>out.toArray⟩
    refine wpAny_bind (seqEpoch_at na rfl ?_)
    refine wpAny_bind (listUpdate_at na rfl ?_ (Nat.zero_le _) (by rw [List.size_toArray,sizeLine_eq];exact Z.l764 hsz h64))
    rw [hf]
    simp only [bne_self_eq_false,Bool.false_eq_true,if_false]
    exact wpAny_pure (h _ c2 (fun b o hb e=>(s2.2 b hb).trans (k3 b o hb e)) (by rw [hc2,hix]))
  by_cases h2:vs.length < 2
  · have hn2:vs.toArray.size < 2:=by rw [List.size_toArray];exact h2
    rw [if_pos hn2,if_pos hn2]
    refine wpAny_bind (wpAny_pure ?_)
    refine wpAny_bind (wpAny_pure ?_)
    refine fin (SortSt.mk' general' (vs.toArray.zip vs.toArray) #[] 7 none) vs ?_ rfl rfl ?_
    · show ((vs.toArray.zip vs.toArray).map (·.2))=_
      rw [Array.map_snd_zip (by simp)]
    · unfold sortIx
      rw [if_pos h2]
      refine List.ext_getElem (by simp) fun i h1 h3=>?_
      simp [List.getD_eq_getElem?_getD,List.getElem?_eq_getElem h1]
  · have hn2:¬ vs.toArray.size < 2:=by rw [List.size_toArray];exact h2
    rw [if_neg hn2,if_neg hn2]
    have hpos:0 < vs.length:=by exact Z.l765 h2
    refine wpAny_bind (wpAny_mono (hK (by exact Z.l237 h2) (fun κ' s'=>κ'=κ∧s'=_) _ k3 ⟨rfl,rfl⟩) (fun κ' s' q=>?_) fun _ _ x=>x.elim)
    obtain ⟨rfl,rfl⟩:=q
    have run : (kas_sort vs.length).kasWp (kas_ask prog w A κ' vs) (fun p s' => p = evalT lt (kas_sort vs.length) ∧ s' = { s with heap := H })
        { s with heap:=H } :=
      wp_evalT (fun i j C hi hj q=>hC i j C _ hi hj k3 q) (tin_sort hpos) ⟨rfl,rfl⟩
    refine wpAny_bind (wpAny_mono (kat_run (Q:=fun st' s'=>∃ p:Array Nat,p.size=vs.length∧arrOf st'=p.map (kas_item (vs.toArray.zip vs.toArray))∧failedOf st'=none∧p=evalT lt (kas_sort vs.length)∧s'={ s with heap:=H })
      rfl (by exact Z.l237 h2) h64 (fun p' st' s' a1 a2 a3 a4=>⟨p',a1,a2,a3,a4⟩) run) ?_ fun _ _ e=>e)
    rintro ⟨⟨⟩,st'⟩ s' ⟨p,hp,har,hf,hpe,rfl⟩
    have hout:=kat_snds rfl har
    refine fin st' (p.toList.map fun i=>vs.getD i Value.none) hout (by simp [hp]) hf ?_
    unfold sortIx
    rw [if_neg h2,hpe]
theorem sorted_raw {l : Addr} {vs : List Value} {κ : PyProof.Rows.SortKind} {lt : Nat → Nat → Bool} {Q : Value → Shared → Prop} (hl : s.heap.IsList l vs.toArray) (h64 : vs.length < 64)
    (hK:2≤vs.length→∀ (Q:PyProof.Rows.SortKind→Shared→Prop) s',(∀ b o,s.heap.get? b=some o→s'.heap.get? b=some o)→Q κ s'→wpAny (model prog w) A.in1.in1 (keyKind' vs.toArray) Q (fun _ _=>False) s')
    (hC:∀ i j (C:Bool→Shared→Prop) s',i < vs.length→j < vs.length→(∀ b o,s.heap.get? b=some o→s'.heap.get? b=some o)→C (lt i j) s'→wpAny (model prog w) A.in1.in1 (keyLt' κ (vs.getD i Value.none) (vs.getD j Value.none)) C (fun _ _=>False) s')
    (h:∀ D h' c,(∀ b o,s.heap.get? b=some o→h'.get? b=some o)→s.heap.get? D=none→h'.get? D=some (seqObj "list" ((sortIx vs.length lt).map fun i=>vs.getD i Value.none).toArray c)→Q (.ref D) { s with heap:=h' }) :
    wpAny (model prog w) A (call (.builtin "sorted") [.ref l]) Q E s:=by
  refine Calls.call_function_entry kind_sorted plain_sorted entry_sorted (args_sorted1 _) ?_
  unfold Builtin.«sorted»
  refine wpAny_bind (m:=checkCount "sorted" 1 1 _) (wpAny_pure ?_)
  refine wpAny_bind (collect_list hl ?_ (by rw [sizeLine_eq];exact Z.l763 h64))
  refine wpAny_bind (wpAny_newList ?_ (by rw [sizeLine_eq];exact Z.l763 h64))
  have hsz:((s.heap.push (seqObj "list" #[] 0)).update s.heap.objs.size (Obj.mapSeq (·++vs.toArray))).objs.size=s.heap.objs.size+1:=by
    rw [Heap.size_update,size_push']
  have hoL:(((s.heap.push (seqObj "list" #[] 0)).update s.heap.objs.size (Obj.mapSeq (·++vs.toArray))).push (seqObj "list" vs.toArray 0)).get? (s.heap.objs.size+1)=some (seqObj "list" vs.toArray 0):=by
    rw [← hsz];exact Heap.get?_push_size _ rfl
  have keep:∀ b o,s.heap.get? b=some o→(((s.heap.push (seqObj "list" #[] 0)).update s.heap.objs.size (Obj.mapSeq (·++vs.toArray))).push (seqObj "list" vs.toArray 0)).get? b=some o:=fun b o q=>by
    have hlt:b < s.heap.objs.size:=Heap.lt_size q
    rw [Heap.get?_push_ne _ _ _ (by rw [hsz];exact Nat.ne_of_lt (Nat.lt_succ_of_lt hlt)),Heap.get?_update_ne _ _ _ _ (Nat.ne_of_lt hlt),Heap.get?_push_ne _ _ _ (Nat.ne_of_lt hlt)]
    exact q
  have nD:s.heap.get? (s.heap.objs.size+1)=none:=none_of_ge (Nat.le_succ _)
  have keep':∀ {h':Heap},(∀ b o,b≠s.heap.objs.size+1→(((s.heap.push (seqObj "list" #[] 0)).update s.heap.objs.size (Obj.mapSeq (·++vs.toArray))).push (seqObj "list" vs.toArray 0)).get? b=some o→h'.get? b=some o)→∀ b o,s.heap.get? b=some o→h'.get? b=some o :=
    fun k b o e=>k b o (fun z=>by rw [z,nD] at e;cases e) (keep b o e)
  show wpAny _ _ _ _ _ { s with heap:=((s.heap.push (seqObj "list" #[] 0)).update s.heap.objs.size (Obj.mapSeq (·++vs.toArray))).push (seqObj "list" vs.toArray 0) }
  rw [hsz]
  refine wpAny_bind (wpAny_holding (wpAny_call_entry slot_list_sort ⟨_,hoL,rfl⟩ entry_list_sort ?body (args_list_sort _)))
  case body =>
    refine list_sort_raw (s:={ s with heap:=((s.heap.push (seqObj "list" #[] 0)).update s.heap.objs.size (Obj.mapSeq (·++vs.toArray))).push (seqObj "list" vs.toArray 0) }) (κ:=κ) (lt:=lt) hoL h64
      (fun h2 Q' s' k q=>hK h2 Q' s' (keep' k) q) (fun i j C s' hi hj k q=>hC i j C s' hi hj (keep' k) q) fun h' c k hD=>?_
    exact ⟨_,rfl,wpAny_pure ⟨_,rfl,h _ h' c (keep' k) nD hD⟩⟩
end
end Mine
end
section
open PySem PySem.Calls PySem.W PyProof.Rows PySem.SeqAt
set_option maxHeartbeats 4000000
namespace Mine
noncomputable def ltT (x y:Int × Int × Int):Bool:=if x.1=y.1 then (if x.2.1=y.2.1 then (if x.2.2=y.2.2 then false else decide (x.2.2 < y.2.2)) else decide (x.2.1 < y.2.1)) else decide (x.1 < y.1)
noncomputable def ltAt {α:Type} (d:α) (lt:α→α→Bool) (l:List α) (i j:Nat):Bool:=lt (l.getD i d) (l.getD j d)
noncomputable def pysort {α:Type} (d:α) (lt:α→α→Bool) (l:List α):List α:=(sortIx l.length (ltAt d lt l)).map fun i=>l.getD i d
theorem sortIx_low {n:Nat} {lt:Nat→Nat→Bool}:∀ i∈sortIx n lt,i < n:=fun i hi=>by
  unfold sortIx at hi
  by_cases h:n < 2
  · rw [if_pos h] at hi;simpa using hi
  · rw [if_neg h] at hi
    have:=(tin_sort (n:=n) (by exact Z.l765 h)).eval (lt:=lt)
    exact this i (by simpa using hi)
theorem RepL.pick {X:List Addr} {h:Heap} {vs:List Value} {α:Type} {f:α→D} {l:List α} (d:α) (r:RepL X h vs (l.map f)):∀ (ix:List Nat),(∀ i∈ix,i < l.length)→RepL X h (ix.map fun i=>vs.getD i Value.none) ((ix.map fun i=>l.getD i d).map f)
  | [],_=>.nil
  | i::ix,hi=>by
    have h1:=hi i (.head _)
    obtain ⟨v,hv,rv⟩:=r.get (k:=i) (d:=f l[i]) (by simp [List.getElem?_eq_getElem h1])
    simp only [List.map_cons]
    refine .cons ?_ (RepL.pick d r ix fun j hj=>hi j (.tail _ hj))
    rw [List.getD_eq_getElem?_getD,hv,List.getD_eq_getElem?_getD,List.getElem?_eq_getElem h1]
    exact rv
theorem lt_ints {prog:Program} {w:World} {A:Around} {s:Shared} {Q:Bool→Shared→Prop} {b:Bool} {i:Nat} {x y:Int} {t u:Tok} (h:Q (decide (x < y)) s):wpAny (model prog w) A (oneLt' (b && i == 0) (.int x t) (.int y u)) Q (fun _ _=>False) s:=by
  cases b && i == 0 with
  | true=>exact kat_lt_int h
  | false=>exact kat_one _ _ (_root_.PySem.P.lt_int h)
section
variable {g:G} {ρ:List (Option D)} {μ:List (Addr × Mut)}
theorem tup3_to {X:List Addr} {h:Heap} {v:Value} {d e f:Int} {G:Prop} (r:Rep X h v (.tup [.int d,.int e,.int f])) (k:∀ a n t u w,v=.ref a→h.get? a=some (tupO [.int d t,.int e u,.int f w] n)→G):G:=by
  obtain ⟨a,vs,n,hv,_,ho,r⟩:=r.tI
  obtain ⟨p,q,z,hl,a1,a2,a3⟩:=r.three
  obtain ⟨t,h1⟩:=a1.iI
  obtain ⟨u,h2⟩:=a2.iI
  obtain ⟨w,h3⟩:=a3.iI
  exact k a n t u w hv.symm (by rw [h1,h2,h3,← hl];exact ho)
theorem tup3_at {X:List Addr} {h:Heap} {v:Value} {x:Int × Int × Int} (r:Rep X h v (D.t3 x)):∃ a n t u w,v=.ref a∧h.get? a=some (tupO [.int x.1 t,.int x.2.1 u,.int x.2.2 w] n):=tup3_to r fun a n t u w e o=>⟨a,n,t,u,w,e,o⟩
theorem Ev.sortedT {fs e : Expr} {pos : Pos} {ts : List (Int × Int × Int)} (R : Room g.A 0) (hs : Ev g ρ μ fs (.val (.builtin "sorted"))) (he : Ev g ρ μ e (.lst (ts.map D.t3))) (h64 : ts.length < 64)
    (hq:eval (.Call fs [e] [] pos) g.env=(eval fs g.env >>= fun v=>callWith pos v [] (backTo pos (starEach [e] g.env)) []):=by rfl) (he1:starEach [e] g.env=(false,eval e g.env)::starEach [] g.env:=by rfl) :
    Ev g ρ μ (.Call fs [e] [] pos) (.lst ((pysort (0,0,0) ltT ts).map D.t3)):=fun s y=>by
  refine call_open hq (hs.wp y fun v s₁ y₁ r₁ e₁=>?_)
  (first | obtain rfl:=r₁.vI | obtain ⟨_,rfl⟩:=r₁.iI | obtain ⟨_,rfl⟩:=r₁.sI | obtain ⟨_,rfl⟩:=r₁.bI | obtain rfl:=r₁.nI | cases r₁)
  refine callWith_B rfl (spliced_open he1 (he.wp y₁ fun v s₂ y₂ r₂ e₂=>?_)) he1
  refine spliced_nil ?_
  have hI:=r₂.lI;clear r₂;obtain ⟨l,vs,nn,hE,h1,ho,r⟩:=hI;cases hE
  have hL:s₂.heap.IsList l vs.toArray:=⟨_,ho,rfl,nn,rfl⟩
  have lv:=r.length
  rw [List.length_map] at lv
  have at_:∀ i,i < vs.length→∃ a n t u w,vs.getD i Value.none=.ref a∧s₂.heap.get? a=some (tupO [.int (ts.getD i (0,0,0)).1 t,.int (ts.getD i (0,0,0)).2.1 u,.int (ts.getD i (0,0,0)).2.2 w] n):=fun i hi=>by
    obtain ⟨v,hv,rv⟩:=r.get (k:=i) (d:=D.t3 (ts.getD i (0,0,0))) (by rw [List.getElem?_map,List.getD_eq_getElem?_getD,List.getElem?_eq_getElem (by exact Z.l30 lv hi)];rfl)
    obtain ⟨a,n,t,u,w,rfl,z⟩:=tup3_at rv
    exact ⟨a,n,t,u,w,by rw [List.getD_eq_getElem?_getD,hv];rfl,z⟩
  refine sorted_raw (κ:=tuples' true) (lt:=ltAt (0,0,0) ltT ts) hL (by exact Z.l766 lv h64) (fun h2 Q' s' k q=>?_) (fun i j C s' hi hj k q=>?_) fun Dd h' c k hn hD=>?_
  · have kt:∃ fs,KatTups s'.heap vs fs∧fs.length=vs.length∧∀ v∈fs,∃ n t,v=.int n t :=
      r.ind (M:=fun vs ds=>(∀ d∈ds,∃ x,d=D.t3 x)→∃ fs,KatTups s'.heap vs fs∧fs.length=vs.length∧∀ v∈fs,∃ n t,v=.int n t) (fun _=>⟨[],.nil,rfl,fun _ h=>nomatch h⟩) (fun v vs d ds rv _ ih hd=>by
        obtain ⟨x,rfl⟩:=hd d (.head _)
        obtain ⟨a,n,t,u,w,rfl,z⟩:=tup3_at rv
        obtain ⟨fs,k1,k2,k3⟩:=ih fun d hd'=>hd d (.tail _ hd')
        refine ⟨.int x.1 t::fs,.cons (k _ _ z) rfl rfl rfl k1,congrArg (·+1) k2,fun v hv=>?_⟩
        rcases List.mem_cons.mp hv with rfl | hv
        · exact ⟨_,_,rfl⟩
        · exact k3 v hv) (fun d hd=>(List.mem_map.mp hd).elim fun x q=>⟨x,q.2.symm⟩)
    obtain ⟨fs,k1,k2,k3⟩:=kt
    refine kat_kind (T:=.type "int") k1 (by exact Z.l767 k2 h2) (fun v hv=>?_) rfl q
    obtain ⟨n,t,rfl⟩:=k3 v hv
    exact Looks.of_pure rfl
  · obtain ⟨a,n,t,u,w,ha,z⟩:=at_ i hi
    obtain ⟨b,m,t',u',w',hb,z'⟩:=at_ j hj
    rw [ha,hb]
    refine kat_lt (k _ _ z) rfl (k _ _ z') rfl ?_
    show KatLex _ _ _ _ _ _ [(_,_),(_,_),(_,_)] 0 s'
    unfold ltAt ltT at q
    refine kat_cons ((MeetsSeq.EqGives.int _ _ _ _) _ _ _ _ _ _ ?_)
    by_cases q1:(ts.getD i (0,0,0)).1=(ts.getD j (0,0,0)).1
    · rw [if_pos q1] at q
      rw [beq_iff_eq.mpr q1]
      refine kat_yes (kat_cons ((MeetsSeq.EqGives.int _ _ _ _) _ _ _ _ _ _ ?_))
      by_cases q2:(ts.getD i (0,0,0)).2.1=(ts.getD j (0,0,0)).2.1
      · rw [if_pos q2] at q
        rw [beq_iff_eq.mpr q2]
        refine kat_yes (kat_cons ((MeetsSeq.EqGives.int _ _ _ _) _ _ _ _ _ _ ?_))
        by_cases q3:(ts.getD i (0,0,0)).2.2=(ts.getD j (0,0,0)).2.2
        · rw [if_pos q3] at q
          rw [beq_iff_eq.mpr q3]
          exact kat_yes (kat_nil q)
        · rw [if_neg q3] at q
          rw [beq_eq_false_iff_ne.mpr q3]
          exact kat_no (lt_ints q)
      · rw [if_neg q2] at q
        rw [beq_eq_false_iff_ne.mpr q2]
        exact kat_no (lt_ints q)
    · rw [if_neg q1] at q
      rw [beq_eq_false_iff_ne.mpr q1]
      exact kat_no (lt_ints q)
  · have e₃:Ext g.C [] s₂ { s₂ with heap:=h' }:=.of_keeps k rfl rfl
    refine ⟨(e₁.trans e₂).trans e₃,?_⟩
    refine .lst (y₂.fresh hn).1 hD ?_
    rw [lv]
    exact (RepL.pick (0,0,0) (r.mono fun b o hb z=>⟨hb,k b o z⟩) _ sortIx_low)
end
end Mine
end
section
open PySem PySem.Calls PySem.W PyProof.Rows PySem.SeqAt
open Sem (wp)
namespace Mine
section
variable {M:Model} {A:Around} {E:Value→Shared→Prop} {s:Shared} {K:Frag} {env:Env} {pos:Pos} {f:Value} {first:List Value} {Q:Value→Shared→Prop}
theorem wpS_keep {α:Type} {vs:List Value} {m:Sem α} {Q:α→Shared→Prop} (h:wpS M A m Q E s):wpS M A (m.keep vs) Q E s :=
  fun Γ p hΓ h1 h2=>by rw [Sem.wp_keep];exact h Γ p hΓ h1 h2
theorem callWithS_K {e : Expr} {rest : List Expr} (hk : keepIn K f = true) (h : wpAny M A (spliced (backTo pos (starEach (e :: rest) env))) (fun vs s₁ => K.In s₁.heap ∧ wpS M A (call f (first ++ vs)) Q E s₁) E s)
    (he:starEach (e::rest) env=(false,eval e env)::starEach rest env:=by rfl) (hplain:(backTo pos (starEach rest env)).any (·.1)=false:=by rfl) :
    wpS M A (callWith pos f first (backTo pos (starEach (e::rest) env)) []) Q E s:=by
  rw [he] at h ⊢
  have h':=evalArgs_plain (f:=f) (Q:=fun a s₁=>K.In s₁.heap∧wpS M A (call f (first++a.pos) a.kw) Q E s₁) h
  have hpl:(((false,eval e env)::backTo pos (starEach rest env)).any (·.1) || ([]:List (Option Str × Sem Value)).any (·.1.isNone))=false:=by
    show ((false || (backTo pos (starEach rest env)).any (·.1)) || false)=false
    rw [hplain];rfl
  unfold callWith
  refine wpS_bind (wpS_holding (anyS (wpAny_mono h' (fun a s₁ h₁=>wpS_bindA (wpAny_standAt ?_)) fun _ _ x=>x)))
  obtain ⟨k,hk',L⟩:=keeps_K hk _ h₁.1
  have hpl':((backTo pos ((false,eval e env)::starEach rest env)).any (·.1) || ([]:List (Option Str × Sem Value)).any (·.1.isNone))=false:=hpl
  simp only [hpl']
  refine wpS_bindA (L.here ?_)
  have tail:∀ {t:Sem Value},wpS M A t Q E s₁→wpS M A (t >>= fun r=>holding [r] point >>= fun _=>pure r) Q E s₁ :=
    fun ht=>wpS_bind (wpS_mono ht (fun r s₂ hr=>wpS_bindA (wpAny_holding (wpAny_point (wpS_pure hr)))) fun _ _ x=>x)
  have marked (mk:Value):wpS M A (callMarked mk f (first++a.pos) a.kw) Q E s₁:=by unfold callMarked;exact wpS_keep h₁.2
  rcases hk' with rfl | rfl | rfl <;> dsimp only <;> first | exact tail h₁.2 | (split <;> first | exact tail h₁.2 | exact tail (marked _))
theorem wp_app {Γ : Ctx} {b : List Stmt} {E : Value → Pos → Shared → Prop} : ∀ {a : List Stmt} {Q : Flow → Pos → Shared → Prop} {p : Pos} {s : Shared},
    wp M Γ (execs a env) (fun f p' s'=>match f with | .next=>wp M Γ (execs b env) Q E p' s' | f=>Q f p' s') E p s→wp M Γ (execs (a++b) env) Q E p s
  | [],Q,p,s,h=>h
  | st::a,Q,p,s,h=>by
    rw [List.cons_append,execs_cons,Sem.wp_bind']
    rw [execs_cons,Sem.wp_bind'] at h
    refine Sem.wp_mono M Γ _ (fun f p' s' h'=>?_) (fun _ _ _ h'=>h') _ _ h
    cases f with
    | next=>exact wp_app h'
    | brk=>exact h'
    | cont=>exact h'
    | ret v=>exact h'
theorem execsS_app {a b:List Stmt} {Q:Flow→Shared→Prop} (h:wpAny M A (execs a env) (fun f s'=>match f with | .next=>wpS M A (execs b env) Q E s' | f=>Q f s') E s):wpS M A (execs (a++b) env) Q E s:=fun Γ p hΓ h1 h2 =>
  wp_app (Sem.wp_mono M Γ _ (fun f p' s' h'=>by
    cases f with
    | next=>exact h' Γ p' hΓ h1 h2
    | brk=>exact h'
    | cont=>exact h'
    | ret v=>exact h') (fun _ _ _ h'=>h') _ _ (h Γ p hΓ))
theorem execsS_cons {st rest} {Q : Flow → Shared → Prop}
    (h:wpS M A (exec st env) (fun f s'=>match f with | .next=>wpS M A (execs rest env) Q E s' | f=>Q f s') E s):wpS M A (execs (st::rest) env) Q E s:=fun Γ p hΓ h1 h2=>by
  rw [execs_cons,Sem.wp_bind']
  refine Sem.wp_mono M Γ _ (fun f p' s' h'=>?_) (fun _ _ _ h'=>h') _ _ (h Γ p hΓ h1 h2)
  cases f <;> first | exact h' Γ p' hΓ h1 h2 | exact h'
theorem assignS {x pos' value pos} {Q : Flow → Shared → Prop}
    (h:wpS M A (eval value env) (fun v s₁=>wpAny M A (storeName env x v) (fun _=>Q .next) E s₁) E s)
    (hs:swapsWith value (some (.Name x pos')) pos.line env=pure false:=by rfl) :
    wpS M A (exec (.Assign [.Name x pos'] value pos) env) Q E s:=fun Γ p hΓ h1 h2=>by
  simp only [exec_Assign_Name env x pos' value pos hs,Sem.wp_bind',Sem.wp_cmd_standAt,Sem.wp_bindName,Sem.wp_pure']
  exact Sem.wp_mono M Γ _ (fun v _ s₁ h₁=>h₁ Γ _ hΓ) (fun _ _ _ h'=>h') _ _ (h Γ _ hΓ h1 h2)
theorem ifS {test body orelse pos} {Q : Flow → Shared → Prop}
    (h:wpS M A (isTrue test env (eval test env))
      (fun b s₂=>if b then wpS M A (execs body env) Q E s₂ else wpS M A (execs orelse env) Q E s₂) E s) :
    wpS M A (exec (.If test body orelse pos) env) Q E s:=fun Γ p hΓ q1 q2=>by
  simp only [exec_If,Sem.wp_bind',Sem.wp_cmd_standAt]
  refine Sem.wp_mono M Γ _ (fun b p₂ s₂ h₂=>?_) (fun _ _ _ h'=>h') _ _ (h Γ _ hΓ q1 q2)
  cases b <;> exact h₂ Γ p₂ hΓ q1 q2
theorem testS_cmp {l op r pos whole} {Q : Bool → Shared → Prop}
    (h:wpS M A (eval l env) (fun a s₁=>wpAny M A (eval r env) (fun b s₂=>wpAny M A (compareOp op a b)
      (fun c s₃=>wpAny M A (truthy c) Q E s₃) E s₂) E s₁) E s)
    (hm:behindInMarks op r=false:=by with_unfolding_all rfl):wpS M A (isTrue (.Compare l [op] [r] pos) env whole) Q E s:=fun Γ p hΓ q1 q2=>by
  simp only [isTrue_Compare1,markedBehindIn_of_false hm,Sem.wp_bind',Sem.wp_holding,Sem.wp_cmd_standAt,Sem.wp_operate]
  exact Sem.wp_mono M Γ _ (fun a p₁ s₁ h₁=>Sem.wp_mono M Γ _ (fun b _ s₂ h₂=>Sem.wp_mono M Γ _ (fun c p₃ s₃ h₃=>h₃ Γ p₃ hΓ)
    (fun _ _ _ h'=>h') _ _ (h₂ Γ _ hΓ)) (fun _ _ _ h'=>h') _ _ (h₁ Γ p₁ hΓ)) (fun _ _ _ h'=>h') _ _ (h Γ p hΓ q1 q2)
theorem orS_cons {x : Expr} {rest : List Expr} {Q : Bool → Shared → Prop}
    (h:wpS M A (isTrue x env (eval x env)) (fun b s₁=>if b then Q true s₁ else wpS M A (allTrue .Or rest env) Q E s₁) E s):wpS M A (allTrue .Or (x::rest) env) Q E s:=by
  show wpS M A (do match BoolOp.Or,← isTrue x env (eval x env) with | .And,false=>pure false | .Or,true=>pure true | _,_=>allTrue .Or rest env) Q E s
  refine wpS_bind (wpS_mono h (fun b s₁ h₁=>?_) fun _ _ x=>x)
  cases b
  · exact h₁
  · exact wpS_pure h₁
theorem orS {values : List Expr} {pos : Pos} {whole : Sem Value} {Q : Bool → Shared → Prop} (h : wpS M A (allTrue .Or values env) Q E s) :
    wpS M A (isTrue (.BoolOp .Or values pos) env whole) Q E s:=by rw [arm_isTrue_BoolOp];exact h
end
noncomputable def DnS {α:Type} (C:Cx) (A:Around) (S:List Addr) (s:Shared) (t:Sem α) (Φ:α→Shared→Prop):Prop :=
  wpS C.M A t (fun v s'=>Ext C S s s'∧Φ v s') NoE s
noncomputable def FnS (C:Cx) (k:Nat) (f:Value) (args:List D) (d:D):Prop:=∀ (A:Around) X s vals,Room A k→Inv C X s→RepL X s.heap vals args →
  codeS C.M A (.call f ⟨vals,[]⟩) (fun r s'=>∃ v,r=.ok (.ret v)∧Ext C [] s s'∧Rep X s'.heap v d) s
section
variable {α:Type} {C:Cx} {A:Around} {S:List Addr} {s:Shared} {t:Sem α} {Φ Ψ:α→Shared→Prop}
theorem Dn.toS (h:Dn C A S s t Φ):DnS C A S s t Φ:=anyS h
theorem DnS.use (h:DnS C A S s t Φ) {Q:α→Shared→Prop} {E:Value→Shared→Prop} (k:∀ v s',Ext C S s s'→Φ v s'→Q v s'):wpS C.M A t Q E s:=wpS_mono h (fun _ _ q=>k _ _ q.1 q.2) fun _ _ e=>e.elim
end
noncomputable def EvS (g:G) (ρ:List (Option D)) (μ:List (Addr × Mut)) (e:Expr) (d:D):Prop:=∀ s,St g ρ μ s→DnS g.C g.A [] s (eval e g.env) fun v s'=>Rep g.X s'.heap v d
noncomputable def EvTS (g:G) (ρ:List (Option D)) (μ:List (Addr × Mut)) (e:Expr) (b:Bool):Prop:=∀ s,St g ρ μ s→DnS g.C g.A [] s (isTrue e g.env (eval e g.env)) fun v _=>v=b
noncomputable def EvOrS (g:G) (ρ:List (Option D)) (μ:List (Addr × Mut)) (es:List Expr) (b:Bool):Prop:=∀ s,St g ρ μ s→DnS g.C g.A [] s (allTrue .Or es g.env) fun v _=>v=b
noncomputable def ExS (g:G) (S:List Addr) (ρ:List (Option D)) (μ:List (Addr × Mut)) (ss:List Stmt) (Φ:Flow→Shared→Prop):Prop:=∀ s,St g ρ μ s→DnS g.C g.A S s (execs ss g.env) Φ
noncomputable def ThenS (g:G) (S:List Addr) (rest:List Stmt) (Φ:Flow→Shared→Prop) (f:Flow) (s:Shared):Prop:=match f with | .next=>DnS g.C g.A S s (execs rest g.env) Φ | f=>Φ f s
section
variable {g:G} {ρ:List (Option D)} {μ:List (Addr × Mut)} {S:List Addr} {Φ:Flow→Shared→Prop} {rest:List Stmt}
theorem EvS.wp {e : Expr} {d : D} {s : Shared} (h : EvS g ρ μ e d) (x : St g ρ μ s) {Q : Value → Shared → Prop} {E : Value → Shared → Prop}
    (k:∀ v s',St g ρ μ s'→Rep g.X s'.heap v d→Ext g.C [] s s'→Q v s'):wpS g.C.M g.A (eval e g.env) Q E s:=(h s x).use fun v s' q r=>k v s' (x.ext q) r q
theorem EvTS.wp {e : Expr} {b : Bool} {s : Shared} (h : EvTS g ρ μ e b) (x : St g ρ μ s) {Q : Bool → Shared → Prop} {E : Value → Shared → Prop}
    (k:∀ s',St g ρ μ s'→Ext g.C [] s s'→Q b s'):wpS g.C.M g.A (isTrue e g.env (eval e g.env)) Q E s:=(h s x).use fun v s' q r=>by subst r;exact k s' (x.ext q) q
theorem Ev.toS {e:Expr} {d:D} (h:Ev g ρ μ e d):EvS g ρ μ e d:=fun s x=>(h s x).toS
theorem EvT.toS {e:Expr} {b:Bool} (h:EvT g ρ μ e b):EvTS g ρ μ e b:=fun s x=>(h s x).toS
theorem EvS.call {func e : Expr} {es : List Expr} {pos : Pos} {k : Nat} {f : Value} {ds : List D} {d : D} (R : Room g.A k) (hf : Ev g ρ μ func (.val f)) (hkeep : keepIn g.C.K f = true) (ha : EvL g ρ μ pos (e :: es) ds) (hc : FnS g.C k f ds d)
    (he:starEach (e::es) g.env=(false,eval e g.env)::starEach es g.env:=by rfl) (hplain:(backTo pos (starEach es g.env)).any (·.1)=false:=by rfl)
    (hq:eval (.Call func (e::es) [] pos) g.env=(eval func g.env >>= fun v=>callWith pos v [] (backTo pos (starEach (e::es) g.env)) []):=by rfl):EvS g ρ μ (.Call func (e::es) [] pos) d:=fun s x=>by
  show wpS _ _ _ _ _ _
  rw [hq]
  refine wpS_bindA (hf.wp x fun v s₁ x₁ r₁ e₁=>?_)
  (first | obtain rfl:=r₁.vI | obtain ⟨_,rfl⟩:=r₁.iI | obtain ⟨_,rfl⟩:=r₁.sI | obtain ⟨_,rfl⟩:=r₁.bI | obtain rfl:=r₁.nI | cases r₁)
  refine callWithS_K hkeep ((ha s₁ x₁).use fun vs s₂ e₂ r₂=>⟨(x₁.ext e₂).inv.K,wpS_call (codeS_mono (hc _ _ _ _ R (x₁.ext e₂).inv r₂) fun r s₃ q=>?_)⟩) he hplain
  obtain ⟨v,rfl,e₃,r₃⟩:=q
  exact ⟨(e₁.trans e₂).trans e₃,r₃⟩
theorem EvTS.cmp {l r : Expr} {op : CmpOp} {pos : Pos} {a b : D} {c : Bool} (R : Room g.A 0) (hl : EvS g ρ μ l a) (hr : Ev g ρ μ r b) (o : Cmp op a b (D.bool c)) (hm : behindInMarks op r = false := by with_unfolding_all rfl) :
    EvTS g ρ μ (.Compare l [op] [r] pos) c:=fun s x =>
  testS_cmp (hl.wp x fun va s₁ x₁ r₁ e₁=>hr.wp x₁ fun vb s₂ x₂ r₂ e₂=>(o _ _ _ _ _ _ x₂.inv R (r₁.ext e₂ (fun _ h=>nomatch h) x₁.inv.pin) r₂).use fun v s₃ e₃ r₃=>by
    (first | obtain rfl:=r₃.vI | obtain ⟨_,rfl⟩:=r₃.iI | obtain ⟨_,rfl⟩:=r₃.sI | obtain ⟨_,rfl⟩:=r₃.bI | obtain rfl:=r₃.nI | cases r₃);exact wpAny_truthy_bool ⟨(e₁.trans e₂).trans e₃,rfl⟩) hm
theorem EvOrS.nil:EvOrS g ρ μ [] false:=fun s x=>(EvOr.nil s x).toS
theorem EvOrS.cons {e:Expr} {es:List Expr} {a b:Bool} (h:EvTS g ρ μ e a) (k:a=false→EvOrS g ρ μ es b):EvOrS g ρ μ (e::es) (a || b):=fun s x=>orS_cons (h.wp x fun s₁ x₁ e₁=>by
  cases a with
  | true=>exact ⟨e₁,rfl⟩
  | false=>exact (k rfl s₁ x₁).use fun v s₂ e₂ r=>⟨e₁.trans e₂,r⟩)
theorem EvTS.or {es:List Expr} {pos:Pos} {b:Bool} (h:EvOrS g ρ μ es b):EvTS g ρ μ (.BoolOp .Or es pos) b:=fun s x=>Mine.orS (h s x)
theorem ExS.step {st:Stmt} (h:∀ s,St g ρ μ s→DnS g.C g.A S s (exec st g.env) fun f s'=>match f with | .next=>DnS g.C g.A S s' (execs rest g.env) Φ | f=>Φ f s'):ExS g S ρ μ (st::rest) Φ:=fun s x =>
  execsS_cons (wpS_mono (h s x) (fun f s' q=>by
    obtain ⟨e,q⟩:=q
    cases f with
    | next=>exact q.use fun v s₂ e₂ r=>⟨e.trans e₂,r⟩
    | brk=>exact ⟨e,q⟩
    | cont=>exact ⟨e,q⟩
    | ret v=>exact ⟨e,q⟩) fun _ _ e=>e)
theorem Ex.toS {ss:List Stmt} (h:Ex g S ρ μ ss Φ):ExS g S ρ μ ss Φ:=fun s x=>(h s x).toS
theorem ExS.assign (i : Nat) {x : Str} {p pos : Pos} {e : Expr} {d : D} (h1 : g.ns[i]? = some x) (hk : Stored g S x) (he : EvS g ρ μ e d) (k : ExS g S (ρ.set i (some d)) μ rest Φ)
    (hs:swapsWith e (some (.Name x p)) pos.line g.env=pure false:=by rfl):ExS g S ρ μ (.Assign [.Name x p] e pos::rest) Φ:=ExS.step fun s y =>
  assignS (he.wp y fun v s₁ y₁ r e₁=>(y₁.store h1 hk r).use fun _ s₂ e₂ y₂=>⟨(e₁.wider (fun _ h=>nomatch h)).trans e₂,k s₂ y₂⟩) hs
theorem ExS.ite {t:Expr} {b o:List Stmt} {pos:Pos} {c:Bool} (ht:EvTS g ρ μ t c) (h1:c=true→ExS g S ρ μ b (ThenS g S rest Φ)) (h2:c=false→ExS g S ρ μ o (ThenS g S rest Φ)):ExS g S ρ μ (.If t b o pos::rest) Φ:=ExS.step fun s y =>
  ifS (ht.wp y fun s₁ y₁ e₁=>by
    cases c with
    | true=>exact (h1 rfl s₁ y₁).use fun v s₂ e₂ r=>⟨(e₁.wider (fun _ h=>nomatch h)).trans e₂,by cases v <;> exact r⟩
    | false=>exact (h2 rfl s₁ y₁).use fun v s₂ e₂ r=>⟨(e₁.wider (fun _ h=>nomatch h)).trans e₂,by cases v <;> exact r⟩)
theorem ExS.go (k:ExS g S ρ μ rest Φ):ExS g S ρ μ [] (ThenS g S rest Φ):=fun s y=>anyS (wpAny_execs_nil ⟨.refl ..,k s y⟩)
theorem ExS.app {a b:List Stmt} (h:Ex g S ρ μ a (ThenS g S b Φ)):ExS g S ρ μ (a++b) Φ:=fun s x=>by
  refine execsS_app ((h s x).use fun f s' e q=>?_)
  cases f with
  | next=>exact DnS.use q fun v s₂ e₂ r=>⟨e.trans e₂,r⟩
  | brk=>exact ⟨e,q⟩
  | cont=>exact ⟨e,q⟩
  | ret v=>exact ⟨e,q⟩
theorem ExS.split (n:Nat) {ss:List Stmt} (h:Ex g S ρ μ (ss.take n) (ThenS g S (ss.drop n) Φ)):ExS g S ρ μ ss Φ:=by
  have:=ExS.app h
  rwa [List.take_append_drop] at this
theorem Ex.onS {g':G} {S':List Addr} (k:∀ s,St g ρ μ s→DnS g'.C g'.A S' s (execs rest g'.env) Φ):Ex g S ρ μ [] (ThenS g' S' rest Φ):=fun s y=>wpAny_execs_nil ⟨.refl ..,k s y⟩
end
end Mine
end
section
open PySem PySem.Calls PySem.W PyProof.Rows PySem.SeqAt
namespace Mine
section
variable {C:Cx} {A:Around} {X:List Addr} {s:Shared} {oc:Value} {od:Option Addr} {osl:Array (Option Value)} {fd:FuncData} {body:List Stmt} {f:Addr}
theorem FnS.intro {k : Nat} {ds : List D} {d : D} (pn others : List Str) (j : Nat)
    (ho:C.K.lookup f=some ⟨oc,od,.func fd,osl⟩) (hcd:codeIn C.K fd.code fd.qualname=true) (hbody:fd.body=.stmts body) (hclo:fd.closure=[]) (hgl:fd.globals=mainGlobals) (hbi:fd.builtins=builtinsNs)
    (hbind:∀ vals:List Value,vals.length=ds.length→bindArgs fd ⟨vals,[]⟩=pure (pn.zip vals)) (hlen:pn.length=ds.length)
    (hnd:(pn++others).Nodup) (hkind:∀ n,∀ x∈pn,fd.scope.names.lookup x=some .local∨(fd.scope.names.lookup x=some .cell∧((cellsFrom n fd.scope.names []).lookup x).isSome=true))
    (hcn:((cellsFrom 0 fd.scope.names []).map (·.1)).Nodup)
    (h:∀ (A:Around) (X:List Addr) (L:Addr),Room A k →
      ExS ⟨C,A,ownS (callEnvC fd L f)++X,callEnvC fd L f,pn++others⟩ (ownS (callEnvC fd L f)) (ds.map some++List.replicate j none) [] body (RetAs (ownS (callEnvC fd L f)++X) d []))
    (hco:fd.scope.isCoroutine=false:=by rfl) (hgen:fd.scope.isGenerator=false:=by rfl) (hk:fd.scope.kind=.function:=by rfl):FnS C (k+1) (.ref f) ds d:=by
  intro A X s vals R I rv
  have hvl:vals.length=ds.length:=rv.length
  refine codeS_call_cells (fd:=fd) (body:=body) R.depth (I.K _ _ ho) rfl I.lim (codeRec_of I.K hcd) hbody (hbind vals hvl) hclo
    (fun x hx=>hkind _ x.1 (List.of_mem_zip hx).1) (fun s₁ x=>?_) hco hgen hk
  generalize hL:s.heap.objs.size=L at x ⊢
  obtain ⟨⟨h₁,tk,rfl⟩,xns,xkeep,xfresh⟩:=x.toInCall
  have hLn:s.heap.get? L=none:=none_of_ge (by exact Z.l56 hL)
  have own:∀ a∈ownS (callEnvC fd L f),s.heap.get? a=none:=by
    intro a ha
    rcases List.mem_cons.mp ha with rfl | ha
    · exact hLn
    · obtain ⟨⟨n,c⟩,hc,rfl⟩:=List.mem_map.mp ha
      have:=x.above n c hc
      exact none_of_ge (Nat.le_of_lt (by rw [hL];exact this))
  have ownP:∀ a∈ownS (callEnvC fd L f),a∉C.P:=fun a ha hP=>by
    obtain ⟨o,e⟩:=I.occ a (I.pin a hP)
    rw [own a ha] at e;cases e
  have hcells:∀ n c,(callEnvC fd L f).cells.lookup n=some c→c∈ownS (callEnvC fd L f) :=
    fun n c hc=>.tail _ (List.mem_map.mpr ⟨_,mem_of_lookup hc,rfl⟩)
  have hXnew:∀ a∈ownS (callEnvC fd L f)++X,a∈X∨s.heap.get? a=none:=fun a ha =>
    (List.mem_append.mp ha).elim (fun q=>.inr (own a q)) .inl
  have st:St ⟨C,A.deeper (callEnvC fd L f),ownS (callEnvC fd L f)++X,callEnvC fd L f,pn++others⟩ (ds.map some++List.replicate j none) [] { s with heap:=h₁,toks:=tk }:=by
    refine ⟨⟨I.base,fun b o hb e=>xkeep b o (I.keep b o hb e),fun p hp=>(I.tab p hp).keeps xkeep,I.os,I.gens,fun p hp=>List.mem_append_right _ (I.pin p hp),fun a ha hP=>?_,fun a ha=>?_⟩,
      ⟨hk,hgl,hbi,⟨_,xns⟩,.head _,ownP _ (.head _),fun n c hc=>⟨ownP c (hcells n c hc),Nat.ne_of_gt (x.above n c (mem_of_lookup hc)),_,x.cell n c hc⟩,fun n c _ hc=>List.mem_append_left _ (hcells n c hc),fun n n' c hc hc'=>name_of_addr x.apart (mem_of_lookup hc) (mem_of_lookup hc')⟩,
      fun i n d' hn hd=>?_,fun p hp=>(nomatch hp),fun a ha=>(nomatch ha),List.nodup_nil,hnd⟩
    · rcases List.mem_append.mp ha with q | q
      · exact I.hb_none (own a q) hP
      · exact I.new a q hP
    · rcases List.mem_append.mp ha with q | q
      · rcases List.mem_cons.mp q with rfl | q
        · obtain ⟨o,_,_,e,_⟩:=xns;exact ⟨o,e⟩
        · obtain ⟨⟨n,c⟩,hc,rfl⟩:=List.mem_map.mp q
          obtain ⟨o,e,_⟩:=x.cell n c (cells_lookup hcn hc)
          exact ⟨o,e⟩
      · obtain ⟨o,e⟩:=I.occ a q
        exact ⟨o,xkeep a o e⟩
    · have hi:i < ds.length:=by
        by_cases q:i < ds.length
        · exact q
        · rw [List.getElem?_append_right (by rw [List.length_map];exact Z.l191 q)] at hd
          have:=List.mem_of_getElem? hd
          rw [List.mem_replicate] at this
          cases this.2
      rw [List.getElem?_append_left (by rw [List.length_map];exact hi),List.getElem?_map] at hd
      rw [List.getElem?_append_left (by exact Z.l264 hlen hi)] at hn
      cases hdi:ds[i]? with
      | none=>rw [hdi] at hd;cases hd
      | some d₀ =>
        rw [hdi] at hd;cases hd
        obtain ⟨v,hv,r⟩:=rv.get hdi
        have hz:(pn.zip vals)[i]?=some (n,v):=List.getElem?_zip_eq_some.mpr ⟨hn,hv⟩
        have hnn:((pn.zip vals).map (·.1)).Nodup:=by
          rw [List.map_fst_zip (by exact Z.l685 hlen hvl)]
          exact (List.nodup_append.mp hnd).1
        have bl:=bind_lookup (kindOf:=(callEnvC fd L f).kindOf) (fun _=>none) (fun _=>none) hnn (List.mem_of_getElem? hz)
        refine ⟨v,?_,r.more xkeep hXnew⟩
        rcases hkind (L+1) n (List.mem_of_getElem? hn) with q | ⟨q,q'⟩
        · exact .inl ⟨q,_,xns,bl.1 q⟩
        · obtain ⟨c,hc⟩:=Option.isSome_iff_exists.mp q'
          have hkc:(callEnvC fd L f).kindOf n=some .cell:=q
          exact .inr ⟨.inl hkc,c,hc,(bl.2 (by rw [hkc];decide)) ▸ x.cell n c hc⟩
  refine wpS_mono (h _ X L R.deeper _ st) (fun fl s' q=>?_) fun _ _ e=>e.elim
  obtain ⟨e,r,m⟩:=q
  have e₁:Ext C [] s { s with heap:=h₁,toks:=tk }:=.up xkeep
  have e':Ext C (ownS (callEnvC fd L f)) s s':=(e₁.wider fun b hb=>nomatch hb).trans e
  exact ⟨_,rfl,e'.wider (fun b hb=>.inr (own b hb)),r.sub fun a ha=>List.mem_append_right _ ha⟩
end
section
variable {g:G} {ρ:List (Option D)} {μ:List (Addr × Mut)} {S:List Addr} {Φ:Flow→Shared→Prop} {rest:List Stmt}
theorem callWithS_T {M : Model} {A : Around} {E : Value → Shared → Prop} {s : Shared} {env : Env} {pos : Pos} {T : String} {e : Expr} {es : List Expr} {Q : Value → Shared → Prop}
    (h:wpAny M A (spliced (backTo pos (starEach (e::es) env))) (fun vs s₁=>wpS M A (call (.type T) vs) Q E s₁) E s)
    (he:starEach (e::es) env=(false,eval e env)::starEach es env:=by rfl) (hplain:(backTo pos (starEach es env)).any (·.1)=false:=by rfl) :
    wpS M A (callWith pos (.type T) [] (backTo pos (starEach (e::es) env)) []) Q E s:=by
  rw [he] at h ⊢
  have h':=evalArgs_plain (f:=.type T) (Q:=fun a s₁=>wpS M A (call (.type T) ([]++a.pos) a.kw) Q E s₁) h
  have hpl:((backTo pos ((false,eval e env)::starEach es env)).any (·.1) || ([]:List (Option Str × Sem Value)).any (·.1.isNone))=false:=by
    show ((false || (backTo pos (starEach es env)).any (·.1)) || false)=false
    rw [hplain];rfl
  unfold callWith
  refine wpS_bind (wpS_holding (anyS (wpAny_mono h' (fun a s₁ h₁=>wpS_bindA (wpAny_standAt ?_)) fun _ _ x=>x)))
  simp only [hpl]
  refine wpS_bindA (wpAny_pure ?_)
  exact wpS_bind (wpS_mono h₁ (fun r s₂ hr=>wpS_bindA (wpAny_holding (wpAny_point (wpS_pure hr)))) fun _ _ x=>x)
theorem ExS.step2 {st:Stmt} (h:∀ s,St g ρ μ s→wpS g.C.M g.A (exec st g.env) (fun f s'=>match f with | .next=>wpS g.C.M g.A (execs rest g.env) (fun f s''=>Ext g.C S s s''∧Φ f s'') NoE s' | f=>Ext g.C S s s'∧Φ f s') NoE s):ExS g S ρ μ (st::rest) Φ:=fun s x =>
  execsS_cons (wpS_mono (h s x) (fun f s' q=>by cases f <;> exact q) fun _ _ e=>e)
theorem ExS.newBa (i : Nat) {x : Str} {p pos cpos : Pos} {func e : Expr} {n : Int} (R : Room g.A 0) (h1 : g.ns[i]? = some x) (hk : Stored g S x) (hf : Ev g ρ μ func (.val (.type "bytearray"))) (ha : EvL g ρ μ cpos [e] [.int n]) (h0 : 0 ≤ n) (hz : n ≤ sizeLine)
    (k:∀ a,a∉g.X→a∉S→ExS { g with X:=a::g.X } (a::S) (ρ.set i (some (.val (.ref a)))) ((a,.ba (Array.replicate n.toNat 0))::μ) rest Φ)
    (hS:∀ a∈S,a∈g.X) (hs:swapsWith (.Call func [e] [] cpos) (some (.Name x p)) pos.line g.env=pure false:=by rfl)
    (he:starEach [e] g.env=(false,eval e g.env)::starEach [] g.env:=by rfl)
    (hq:eval (.Call func [e] [] cpos) g.env=(eval func g.env >>= fun v=>callWith cpos v [] (backTo cpos (starEach [e] g.env)) []):=by rfl):ExS g S ρ μ (.Assign [.Name x p] (.Call func [e] [] cpos) pos::rest) Φ:=ExS.step2 fun s y =>
  assignS (by
    rw [hq]
    refine wpS_bindA (hf.wp y fun v s₁ y₁ r₁ e₁=>?_)
    (first | obtain rfl:=r₁.vI | obtain ⟨_,rfl⟩:=r₁.iI | obtain ⟨_,rfl⟩:=r₁.sI | obtain ⟨_,rfl⟩:=r₁.bI | obtain rfl:=r₁.nI | cases r₁)
    refine callWithS_T ((ha s₁ y₁).use fun vs s₂ e₂ r₂=>?_) he
    have y₂:=y₁.ext e₂
    obtain ⟨v,rfl,r⟩:=r₂.one
    cases r with | int _ t =>
    refine call_ba h0 hz R.g fun h' hkeep ⟨n',ho⟩=>?_
    have hn:s₂.heap.get? s₂.heap.objs.size=Option.none:=none_of_ge (Nat.le_refl _)
    generalize s₂.heap.objs.size=a at *
    have e₃:Ext g.C [] s₂ { s₂ with heap:=h' }:=.of_keeps hkeep rfl rfl
    have f:=y₂.fresh hn
    have y₃:=y₂.wide (wr:=[a]) e₃ (fun b hb=>by rw [List.mem_singleton.mp hb];exact hn) (fun b hb=>by rw [List.mem_singleton.mp hb];exact ⟨_,ho⟩)
    have y₄:St { g with X:=a::g.X } ρ ((a,.ba (Array.replicate n.toNat 0))::μ) { s₂ with heap:=h' }:=by
      refine St.addmut (g:={ g with X:=a::g.X }) y₃ ⟨n',ho⟩ (fun b hb=>?_) (by simp [Mut.more])
      have hb':b=a:=by simpa [Mut.more] using hb
      subst hb'
      exact ⟨.head _,f.2⟩
    have haS:a∉S:=fun q=>f.1 (hS a q)
    refine (St.store (g:={ g with X:=a::g.X }) y₄ h1 hk (.val (.ref a))).use fun _ s₅ e₅ y₅=>?_
    refine (k a f.1 haS s₅ y₅).use fun fl s₆ e₆ q=>⟨?_,q⟩
    have e₁₅:Ext g.C S s s₅:=(((e₁.trans e₂).trans e₃).wider (fun _ h=>nomatch h)).trans e₅
    exact ((e₁₅.wider fun b hb=>.inl (.tail _ hb)).trans e₆).wider fun b hb=>by
      rcases List.mem_cons.mp hb with rfl | hb
      · exact .inr ((e₁.trans e₂).none_back hn)
      · exact .inl hb) hs
theorem Ev.bytesBa {func e : Expr} {pos : Pos} {a : Addr} {b : Array UInt8} (hf : Ev g ρ μ func (.val (.type "bytes"))) (ha : EvL g ρ μ pos [e] [.val (.ref a)]) (hm : (a, .ba b) ∈ μ) (hz : b.size ≤ sizeLine)
    (he:starEach [e] g.env=(false,eval e g.env)::starEach [] g.env:=by rfl)
    (hq:eval (.Call func [e] [] pos) g.env=(eval func g.env >>= fun v=>callWith pos v [] (backTo pos (starEach [e] g.env)) []):=by rfl):Ev g ρ μ (.Call func [e] [] pos) (.bytes b):=fun s y=>by
  show wpAny _ _ _ _ _ _
  rw [hq]
  refine wpAny_bind (hf.wp y fun v s₁ y₁ r₁ e₁=>?_)
  (first | obtain rfl:=r₁.vI | obtain ⟨_,rfl⟩:=r₁.iI | obtain ⟨_,rfl⟩:=r₁.sI | obtain ⟨_,rfl⟩:=r₁.bI | obtain rfl:=r₁.nI | cases r₁)
  refine callWith_B rfl ((ha s₁ y₁).use fun vs s₂ e₂ r₂=>?_) he
  have y₂:=y₁.ext e₂
  obtain ⟨v,rfl,r⟩:=r₂.one
  (first | obtain rfl:=r.vI | obtain ⟨_,rfl⟩:=r.iI | obtain ⟨_,rfl⟩:=r.sI | obtain ⟨_,rfl⟩:=r.bI | obtain rfl:=r.nI | cases r)
  obtain ⟨n,ho⟩:=y₂.muts _ hm
  exact bytes_ba ho hz ⟨(e₁.trans e₂).trans .tok,.bytes ..⟩
end
end Mine
end
section
open PySem PySem.Calls PySem.W PyProof.Rows PySem.SeqAt
namespace Mine
noncomputable def swp (w m:Nat) (l:List Nat):List Nat:=(List.range (m*w)).map fun p=>l.getD (p / w*w+(w - 1 - p % w)) 0
structure Swd (w:Nat) (l:List Nat) (i j:Nat) (B:Array UInt8):Prop where
  sz:B.size=l.length
  all:∀ i' j',i' < i→j' < w→B[i'*w+(w - 1 - j')]?=(bl l)[i'*w+j']?
  now:∀ j',j' < j→B[i*w+(w - 1 - j')]?=(bl l)[i*w+j']?
theorem Swd.zero (w:Nat) (l:List Nat):Swd w l 0 0 (Array.replicate l.length 0):=⟨by simp,fun _ _ h=>absurd h (Nat.not_lt_zero _),fun _ h=>absurd h (Nat.not_lt_zero _)⟩
theorem word_lt {i m w j:Nat} (hi:i < m) (hj:j < w):i*w+j < m*w:=Nat.lt_of_lt_of_le (Nat.add_lt_add_left hj _) ((Nat.succ_mul i w) ▸ Nat.mul_le_mul_right w hi)
theorem back_lt {w:Nat} (h:0 < w) (j:Nat):w - 1 - j < w:=Nat.lt_of_le_of_lt (Nat.sub_le ..) (Nat.sub_lt h Nat.one_pos)
theorem Swd.step {w m i j x:Nat} {l:List Nat} {B:Array UInt8} (h:Swd w l i j B) (hl:l.length=m*w) (hi:i < m) (hj:j < w) (hx:l[i*w+j]?=some x):Swd w l i (j+1) (B.setIfInBounds (i*w+(w - 1 - j)) x.toUInt8):=by
  have hw:0 < w:=Nat.lt_of_le_of_lt (Nat.zero_le j) hj
  have hin:i*w+(w - 1 - j) < B.size:=by rw [h.sz,hl];exact word_lt hi (back_lt hw j)
  refine ⟨Array.size_setIfInBounds.trans h.sz,fun i' j' hi' hj'=>?_,fun j' hj'=>?_⟩
  · rw [Array.getElem?_setIfInBounds_ne (Nat.ne_of_gt (Nat.lt_of_lt_of_le (word_lt hi' (back_lt hw j')) (Nat.le_add_right ..)))]
    exact h.all i' j' hi' hj'
  · by_cases e:j'=j
    · subst e
      rw [Array.getElem?_setIfInBounds_self_of_lt hin,bl_get hx]
    · have hlt:=Nat.lt_of_le_of_ne (Nat.le_of_lt_succ hj') e
      rw [Array.getElem?_setIfInBounds_ne (Nat.ne_of_lt (Nat.add_lt_add_left (Nat.sub_lt_sub_left (Nat.lt_of_lt_of_le hlt (Nat.le_sub_one_of_lt hj)) hlt) _))]
      exact h.now j' hlt
theorem Swd.next {w i:Nat} {l:List Nat} {B:Array UInt8} (h:Swd w l i w B):Swd w l (i+1) 0 B:=by
  refine ⟨h.sz,fun i' j' hi' hj'=>?_,fun _ q=>absurd q (Nat.not_lt_zero _)⟩
  by_cases e:i'=i
  · subst e;exact h.now j' hj'
  · exact h.all i' j' (Nat.lt_of_le_of_ne (Nat.le_of_lt_succ hi') e) hj'
theorem Swd.done {w m:Nat} {l:List Nat} {B:Array UInt8} (h:Swd w l m 0 B) (hl:l.length=m*w) (hw:0 < w):B=bl (swp w m l):=by
  refine Array.ext_getElem? fun p=>?_
  by_cases hp:p < m*w
  · have hm:p / w < m:=Nat.div_lt_of_lt_mul (by rw [Nat.mul_comm];exact hp)
    have hr:p % w < w:=Nat.mod_lt _ hw
    have e:=h.all (p / w) (w - 1 - p % w) hm (back_lt hw _)
    rw [Nat.sub_sub_self (Nat.le_sub_one_of_lt hr),Nat.div_add_mod'] at e
    rw [e]
    have hin:p / w*w+(w - 1 - p % w) < l.length:=by rw [hl];exact word_lt hm (back_lt hw _)
    rw [bl_get (List.getElem?_eq_getElem hin)]
    refine (bl_get ?_).symm
    unfold swp
    rw [List.getElem?_map,List.getElem?_range hp]
    exact congrArg some ((List.getD_eq_getElem?_getD ..).trans (congrArg (Option.getD · 0) (List.getElem?_eq_getElem hin)))
  · have hp':=Nat.not_lt.mp hp
    rw [Array.getElem?_eq_none (by rw [h.sz,hl];exact hp')]
    refine (Array.getElem?_eq_none ?_).symm
    rw [bl_size]
    simpa [swp] using hp'
theorem swp_len (w m:Nat) (l:List Nat):(swp w m l).length=m*w:=by simp [swp]
theorem words_range {w m:Nat} (hw:0 < w):Builtin.Range.rangeSize 0 ((m*w:Nat):Int) w=(m:Int):=by
  unfold Builtin.Range.rangeSize
  rw [if_pos (by exact Z.l383 hw)]
  cases m with
  | zero=>simp
  | succ k =>
    have:0 < (k+1)*w:=Nat.mul_pos (Nat.succ_pos _) hw
    rw [if_pos (by exact Z.l383 this)]
    have e:(((k+1)*w:Nat):Int) - 0 - 1=(w - 1:Int)+(k:Int)*w:=by
      rw [Nat.succ_mul];push_cast;exact Z.l768
    rw [e,Int.add_mul_ediv_right _ _ (by exact Z.l588 hw),Int.ediv_eq_zero_of_lt (by exact Z.l769 hw) (by exact Z.l770)]
    push_cast;exact Z.l771
theorem fitsI {k:Nat} (h:k≤1099511627776):Builtin.Range.rangeFitsLong (k:Int)=true:=Bool.and_eq_true_iff.mpr ⟨decide_eq_true (Int.le_trans (by decide) (Int.natCast_nonneg k)),decide_eq_true (Int.lt_of_le_of_lt (Int.ofNat_le.mpr h) (by decide))⟩
theorem words_small {w m:Nat} (hw:0 < w) (hm0:0 < m) (hz:m*w≤16777216):Builtin.Range.small 0 ((m*w:Nat):Int) w=true:=by
  have big:(16777216:Nat)≤1099511627776:=by decide
  have hw':=Nat.le_trans (Nat.le_mul_of_pos_left w hm0) hz
  unfold Builtin.Range.small
  rw [words_range hw]
  refine Bool.and_eq_true_iff.mpr ⟨Bool.and_eq_true_iff.mpr ⟨Bool.and_eq_true_iff.mpr ⟨Bool.and_eq_true_iff.mpr ⟨fitsI (k:=0) (by decide),fitsI (Nat.le_trans hz big)⟩,fitsI (Nat.le_trans hw' big)⟩,fitsI (Nat.le_trans (Nat.le_mul_of_pos_right m hw) (Nat.le_trans hz big))⟩,Bool.or_eq_true_iff.mpr (.inr ((if_pos (Int.natCast_pos.mpr hw)).trans ?_))⟩
  rw [show ((m*w:Nat):Int)+((w:Int) - 1)=((m*w+(w - 1):Nat):Int) by exact Z.l772 hw]
  exact fitsI (Nat.le_trans (Nat.add_le_add hz (Nat.le_trans (Nat.sub_le ..) hw')) (by decide))
theorem upto_src (n:Nat) (hz:n≤16777216):Src (.rng 0 n 1) (rngD 0 1 n):=Src.rng n (small_one (by exact Z.l773) (by exact Z.l774) (by exact Z.l775) (by exact Z.l776 hz)) (by
  rw [rangeSize_one]
  split <;> lia)
theorem from_src (a b:Nat) (hab:a≤b) (hz:b≤16777216):Src (.rng a b 1) (rngD a 1 (b - a)):=Src.rng (b - a) (small_one (by exact Z.l775) (by exact Z.l779 hab hz) (by exact Z.l775) (by exact Z.l776 hz)) (by
  rw [rangeSize_one]
  split <;> lia)
theorem words_src {w m:Nat} (hw:0 < w) (hm:0 < m) (hz:m*w≤16777216):Src (.rng 0 ((m*w:Nat):Int) w) (rngD 0 w m):=Src.rng m (words_small hw hm hz) (words_range hw)
end Mine
end
section
open PySem PySem.Calls PySem.W PyProof.Rows PySem.SeqAt
namespace Mine
noncomputable abbrev D.n (k:Nat):D:=.int (k:Int)
noncomputable abbrev D.ns (l:List Nat):D:=.lst (l.map D.n)
noncomputable abbrev D.is (l:List Int):D:=.lst (l.map D.int)
theorem Kd.nat:Kd 0 D.n:=Kd.int.comap (fun k:Nat=>(k:Int)) (fun x y h=>by exact Z.l625 h) fun _=>rfl
theorem Bin.addN {a b:Nat}:Bin .Add (D.n a) (D.n b) (D.n (a+b)):=by
  have:=Bin.add (a:=(a:Int)) (b:=(b:Int))
  rwa [show ((a:Int)+(b:Int))=((a+b:Nat):Int) by exact Z.l782] at this
noncomputable def cellAt (cs:List Int) (k:Nat) (x:Int):List Int:=cs.set (k % 3) (cs.getD (k % 3) 0+x % 1000000)
noncomputable def cellsOf (cs:List Int) (sc:List Int):Nat→List Int
  | 0=>cs
  | k+1=>cellAt (cellsOf cs sc k) k (sc.getD k 0)
theorem cellAt_len (cs:List Int) (k:Nat) (x:Int):(cellAt cs k x).length=cs.length:=by simp [cellAt]
theorem cellsOf_len (cs sc:List Int):∀ k,(cellsOf cs sc k).length=cs.length
  | 0=>rfl
  | k+1=>by rw [cellsOf,cellAt_len,cellsOf_len cs sc k]
theorem three {l:List Int} (h:l.length=3):l=[l.getD 0 0,l.getD 1 0,l.getD 2 0]:=by
  cases l with
  | nil=>cases h
  | cons a l=>cases l with
    | nil=>cases h
    | cons b l=>cases l with
      | nil=>cases h
      | cons c l=>rw [List.eq_nil_of_length_eq_zero (Nat.succ.inj (Nat.succ.inj (Nat.succ.inj h)))];rfl
theorem Ev.as {g:G} {ρ:List (Option D)} {μ:List (Addr × Mut)} {e:Expr} {d d':D} (h:Ev g ρ μ e d) (q:d=d'):Ev g ρ μ e d':=q ▸ h
theorem rngD_n (n:Nat):rngD 0 1 n=(List.range n).map D.n:=by simp [rngD]
theorem rngD_from (a n:Nat):rngD a 1 n=(List.range n).map fun k=>D.n (a+k):=by simp [rngD]
theorem upto (n:Nat) (hz:n≤16777216):Src (.rng 0 n 1) ((List.range n).map D.n):=rngD_n n ▸ upto_src n hz
theorem upfrom (a b:Nat) (hab:a≤b) (hz:b≤16777216):Src (.rng a b 1) ((List.range (b - a)).map fun k=>D.n (a+k)):=rngD_from a (b - a) ▸ from_src a b hab hz
theorem pow3_lt {n:Nat} (h:n≤20):(0:Int) < 3 ^ n∧(3:Int) ^ n < 2 ^ 64:=by
  have e:((3 ^ n:Nat):Int)=(3:Int) ^ n:=by simp
  have h1:0 < 3 ^ n:=Nat.pow_pos (by decide)
  have h2:3 ^ n≤3 ^ 20:=Nat.pow_le_pow_right (by decide) h
  have h3:(3:Nat) ^ 20=3486784401:=by decide
  rw [← e]
  exact Z.l783 h2 h1
theorem filter_yes {α:Type} (l:List α):l.filter (fun _=>true)=l:=by simp
theorem Ex.narrow {g:G} {S S':List Addr} {ρ:List (Option D)} {μ:List (Addr × Mut)} {ss:List Stmt} {Φ:Flow→Shared→Prop} (h:Ex g S' ρ μ ss Φ) (k:∀ b∈S',b∈S):Ex g S ρ μ ss Φ:=fun s y=>(h s y).wider fun b hb=>.inl (k b hb)
theorem Ex.freezeS {g : G} {S : List Addr} {ρ : List (Option D)} {p q : List (Addr × Mut)} {c : Addr} {ds : List D} {ss : List Stmt} {Φ : Flow → Shared → Prop} (i : Nat) (h2 : ρ[i]? = some (some (.val (.ref c)))) (hc : c ∉ S) (hX : ∀ b ∈ S, b ∈ g.X)
    (k:∀ X',(∀ b∈S,b∈X')→(∀ b∈g.X,b≠c→b∈X')→Ex { g with X:=X' } S (ρ.set i (some (.lst ds))) (p++q) ss Φ):Ex g (c::S) ρ (p++((c,.lst ds)::q)) ss Φ :=
  Ex.freeze i h2 (Ex.narrow (k _ (fun b hb=>List.mem_filter.mpr ⟨hX b hb,decide_eq_true fun e=>hc (e ▸ hb)⟩) fun b hb hne=>List.mem_filter.mpr ⟨hb,decide_eq_true hne⟩) fun b hb=>.tail _ hb)
theorem emod_n (a b:Nat):((a:Int) % (b:Int)).toNat=a % b:=rfl
theorem Ex.iteJ {g : G} {S : List Addr} {ρ : List (Option D)} {μ : List (Addr × Mut)} {rest : List Stmt} {Φ : Flow → Shared → Prop} {t : Expr} {b o : List Stmt} {pos : Pos} {c : Bool} (ρ' : List (Option D)) (μ' : List (Addr × Mut)) (ht : EvT g ρ μ t c)
    (h1:c=true→Ex g S ρ μ b (fun fl s=>fl=.next∧St g ρ' μ' s)) (h2:c=false→Ex g S ρ μ o (fun fl s=>fl=.next∧St g ρ' μ' s)) (k:Ex g S ρ' μ' rest Φ):Ex g S ρ μ (.If t b o pos::rest) Φ :=
  Ex.ite ht (fun h=>Ex.mono (h1 h) fun fl s q=>by obtain ⟨rfl,y⟩:=q;exact k s y) fun h=>Ex.mono (h2 h) fun fl s q=>by obtain ⟨rfl,y⟩:=q;exact k s y
end Mine
end
section
open PySem PySem.Calls PySem.W PyProof.Rows PySem.SeqAt
namespace Mine
noncomputable def ordN (op:CmpOp) (xs ys:List Nat):Bool:=ordI op (xs.map fun k:Nat=>(k:Int)) (ys.map fun k:Nat=>(k:Int))
theorem Cmp.ordN {op:CmpOp} {code:Int} (O:OrdOp op code) (xs ys:List Nat):Cmp op (D.ns xs) (D.ns ys) (D.bool (Mine.ordN op xs ys)):=by
  have:=Cmp.ordL O (xs.map fun k:Nat=>(k:Int)) (ys.map fun k:Nat=>(k:Int))
  rw [List.map_map,List.map_map] at this
  exact this
theorem Ev.sliceN {g : G} {ρ : List (Option D)} {μ : List (Addr × Mut)} {v : Expr} {lo hi : Option Expr} {p pos : Pos} {l : List Nat} {i j : Option Int} (R : Room g.A 0) (hv : Ev g ρ μ v (D.ns l)) (hl : EvP g ρ μ lo i) (hh : EvP g ρ μ hi j) (hz : l.length ≤ sizeLine) :
    Ev g ρ μ (.Subscript v (.Slice lo hi Option.none p) pos) (D.ns (cut l i j)):=(Ev.sliceL R hv hl hh (by rw [List.length_map];exact hz)).as (by rw [cut_map])
theorem Ev.itemN {g : G} {ρ : List (Option D)} {μ : List (Addr × Mut)} {v i : Expr} {pos : Pos} {l : List Nat} {k c : Nat} (R : Room g.A 0) (hv : Ev g ρ μ v (D.ns l)) (hi : Ev g ρ μ i (D.n k)) (hd : l[k]? = some c) (hz : l.length ≤ sizeLine)
    (hs:∀ a t,subscripted i false (.ref a) (.int k t)=operate [.ref a,.int k t] (getItem (.ref a) (.int k t)):=by intro _ _;rfl):Ev g ρ μ (.Subscript v i pos) (D.n c):=Ev.itemL R hv hi (by exact Z.l381) (by rw [List.getElem?_map,Int.toNat_natCast,hd];rfl) (by rw [List.length_map];exact hz) hs
theorem Bi.lenN {l:List Nat} (h:l.length≤sizeLine):Bi (.builtin "len") [D.ns l] (D.n l.length):=by
  have:=Bi.lenL (ds:=l.map D.n) (by rw [List.length_map];exact h)
  rwa [List.length_map] at this
theorem clipN_nat (n k:Nat):clipN n (k:Int)=min k n:=by
  unfold clipN
  rw [if_neg (Int.not_lt.mpr (Int.natCast_nonneg k)),show min (k:Int) n=((min k n:Nat):Int) by lia,Int.max_eq_right (Int.natCast_nonneg _)];rfl
theorem cut_nn {α:Type} (l:List α) (a b:Nat):cut l (some (a:Int)) (some (b:Int))=(l.drop (min a l.length)).take (min b l.length - min a l.length):=by
  unfold cut
  rw [Option.elim_some,Option.elim_some,clipN_nat,clipN_nat]
theorem cut_len {α:Type} {l:List α} {a b:Nat} (ha:a≤b) (hb:b≤l.length):(cut l (some (a:Int)) (some (b:Int))).length=b - a:=by
  rw [cut_nn,List.length_take,List.length_drop,Nat.min_eq_left hb,Nat.min_eq_left (Nat.le_trans ha hb),Nat.min_eq_left (Nat.sub_le_sub_right hb a)]
theorem foldl_step {β:Type} (f:β→Nat→β) (b:β) (n:Nat):(List.range (n+1)).foldl f b=f ((List.range n).foldl f b) n:=by rw [List.range_succ,List.foldl_append];rfl
theorem range_at {α:Type} {n k:Nat} {f:Nat→α} {d:α} (h:((List.range n).map f)[k]?=some d):k < n∧d=f k:=by
  have hk:k < n:=by
    have:=(List.getElem?_eq_some_iff.mp h).1
    simpa using this
  refine ⟨hk,?_⟩
  rw [List.getElem?_map,List.getElem?_range hk] at h
  cases h;rfl
end Mine
end
section
open PySem PySem.Calls PySem.W PyProof.Rows PySem.SeqAt
namespace Mine
section
variable {g:G} {ρ:List (Option D)} {μ:List (Addr × Mut)}
theorem Ev.own {o e : Expr} {es : List Expr} {name : Str} {apos pos : Pos} {k : Nat} {f x c : Addr} {m : Mut} {key : Str} {ds : List D} {d : D} {pl : Sem Bool} (R : Room g.A k) (ho : Ev g ρ μ o (.val (.ref x))) (hx : (x, m) ∈ μ) (hm : m.cls? = Option.some (c, key))
    (O:ClsOk g.C.K c) (F:MethOk g.C.K c name f) (hn:(key == name)=false) (ha:EvL g ρ μ pos (e::es) ds) (hc:FnM g.C k (.ref f) (.val (.ref x)::ds) [] d [])
    (hbase:attributeBase o name g.env (eval o g.env)=eval o g.env:=by rfl)
    (heq:eval (.Call (.Attribute o name apos) (e::es) [] pos) g.env=(do
      let ov ← attributeBase o name g.env (eval o g.env)
      standAt apos.atName
      let (f,first) ← holding [ov] (getMethod ov name pl)
      callWith pos f first (backTo pos (starEach (e::es) g.env)) []):=by rfl)
    (he:starEach (e::es) g.env=(false,eval e g.env)::starEach es g.env:=by rfl) (hplain:(backTo pos (starEach es g.env)).any (·.1)=false:=by rfl) :
    Ev g ρ μ (.Call (.Attribute o name apos) (e::es) [] pos) d:=by
  refine fun s y=>?_
  refine eval_MethodCall hbase (ho.wp y fun v s₁ x₁ r₁ e₁=>?_) heq
  (first | obtain rfl:=r₁.vI | obtain ⟨_,rfl⟩:=r₁.iI | obtain ⟨_,rfl⟩:=r₁.sI | obtain ⟨_,rfl⟩:=r₁.bI | obtain rfl:=r₁.nI | cases r₁)
  obtain ⟨ox,od,I,hsh⟩:=(x₁.muts _ hx).instAt hm
  obtain ⟨gid,hg1,hg2⟩:=O.ga
  refine method_md x₁.inv.K I hg1 hg2 O.gt F.fnd F.ty (by decide) (hsh _ hn) ?_
  refine callWith_K (h₀:=s₁.heap) x₁.inv.K F.keep ((ha s₁ x₁).use fun vs s₂ e₂ r₂=>⟨(x₁.ext e₂).inv.K,?_⟩) he hplain
  have x₂:=x₁.ext e₂
  refine wpAny_call (codeAny_mono (hc _ _ _ _ R x₂.inv (.cons (.val _) r₂) (fun p hp=>nomatch hp) (fun c hc=>nomatch hc) List.nodup_nil) fun r s₃ q=>?_)
  obtain ⟨v,rfl,e₃,r₃,m₃⟩:=q
  exact ⟨(e₁.trans e₂).trans e₃,r₃⟩
end
end Mine
end
section
open PySem PySem.Calls PySem.W PyProof.Rows PySem.SeqAt
namespace Mine
theorem Bin.subN {a b:Nat} (h:b≤a):Bin .Sub (D.n a) (D.n b) (D.n (a - b)):=by
  have:=Bin.minus (a:=(a:Int)) (b:=(b:Int))
  rwa [show ((a:Int) - (b:Int))=((a - b:Nat):Int) by exact Z.l785 h] at this
theorem Bin.mulN {a b:Nat} (h:a < 1000000):Bin .Mult (D.n a) (D.n b) (D.n (a*b)):=by
  have:=Bin.mul (a:=(a:Int)) (b:=(b:Int)) (IntMulOk.of_left (intBits_le_64 (by exact Z.l786) (by exact Z.l787 h)))
  rwa [show ((a:Int)*(b:Int))=((a*b:Nat):Int) by push_cast;rfl] at this
theorem Bin.divN {a b:Nat} (h:0 < b) (h':b < 1000000):Bin .FloorDiv (D.n a) (D.n b) (D.n (a / b)):=by
  have:=Bin.div (a:=(a:Int)) (b:=(b:Int)) (by exact Z.l383 h) (by exact Z.l787 h')
  exact this
theorem Cmp.ltN {a b:Nat}:Cmp .Lt (D.n a) (D.n b) (D.bool (decide (a < b))):=by
  have:=Cmp.lt (a:=(a:Int)) (b:=(b:Int))
  rwa [show decide ((a:Int) < (b:Int))=decide (a < b) by simp] at this
theorem Cmp.gtN {a b:Nat}:Cmp .Gt (D.n a) (D.n b) (D.bool (decide (b < a))):=by
  have:=Cmp.gt (a:=(a:Int)) (b:=(b:Int))
  rwa [show decide ((a:Int) > (b:Int))=decide (b < a) by simp] at this
theorem Cmp.eqN {a b:Nat}:Cmp .Eq (D.n a) (D.n b) (D.bool (decide (a=b))):=by
  have:=Cmp.eq (a:=(a:Int)) (b:=(b:Int))
  rwa [show ((a:Int) == (b:Int))=decide (a=b) by rw [Bool.eq_iff_iff];simp;exact Z.l788] at this
noncomputable abbrev D.n3 (x:Nat × Nat × Nat):D:=.tup [D.n x.1,D.n x.2.1,D.n x.2.2]
theorem Kd.n3:Kd 1 D.n3:=Kd.t3.comap (fun x:Nat × Nat × Nat=>((x.1:Int),(x.2.1:Int),(x.2.2:Int))) (fun x y h=>by
  obtain ⟨a,b,c⟩:=x;obtain ⟨a',b',c'⟩:=y
  simp at h ⊢;lia) fun _=>rfl
theorem fold_len {α:Type} {f:List α→Nat→List α} {c:Nat→Nat} (h:∀ acc i,(f acc i).length≤acc.length+c i):∀ (l:List Nat) (acc:List α),(l.foldl f acc).length≤acc.length+(l.map c).sum
  | [],acc=>by simp
  | i::l,acc=>by
    have h1:=fold_len h l (f acc i)
    have h2:=h acc i
    simp only [List.foldl_cons,List.map_cons,List.sum_cons]
    exact Z.l790 h1 h2
namespace T2
noncomputable def ahead (s:List Nat) (step begin:Nat):Bool:=decide (0 < begin) && decide (s.getD (begin - 1) 0=s.getD (begin - 1+step) 0)
noncomputable def behind (s:List Nat) (step e:Nat):Bool:=decide (e < s.length) && decide (s.getD e 0=s.getD (e - step) 0)
noncomputable def isRun (s:List Nat) (step begin e:Nat):Bool:=decide (cut s (some (begin:Int)) (some ((e - step:Nat):Int))=cut s (some ((begin+step:Nat):Int)) (some (e:Int))) && (!(ahead s step begin) && (!(behind s step e) && true))
noncomputable def told (acc:List (Nat × Nat × Nat)) (begin e:Nat):List (Nat × Nat × Nat):=acc.filter fun x=>decide (x.1=begin) && (decide (x.2.1=e) && true)
noncomputable def runStep (s:List Nat) (step begin:Nat) (acc:List (Nat × Nat × Nat)) (i:Nat):List (Nat × Nat × Nat) :=
  if isRun s step begin (begin+2*step+i)=true then if told acc begin (begin+2*step+i)=[] then acc++[(begin,begin+2*step+i,step)] else acc else acc
noncomputable def runsE (s:List Nat) (step:Nat) (acc:List (Nat × Nat × Nat)) (begin:Nat):List (Nat × Nat × Nat):=(List.range (s.length+1 - (begin+2*step))).foldl (runStep s step begin) acc
noncomputable def runsB (s:List Nat) (acc:List (Nat × Nat × Nat)) (i:Nat):List (Nat × Nat × Nat):=(List.range (s.length - 2*(1+i)+1)).foldl (runsE s (1+i)) acc
noncomputable def runs0 (s:List Nat):List (Nat × Nat × Nat):=(List.range (s.length / 2)).foldl (runsB s) []
noncomputable def sort3 (l:List (Nat × Nat × Nat)):List (Nat × Nat × Nat):=pysort (0,0,0) (fun x y=>ltT (x.1,x.2.1,x.2.2) (y.1,y.2.1,y.2.2)) l
noncomputable def runs (s:List Nat):List (Nat × Nat × Nat):=sort3 (runs0 s)
theorem runs0_len (s:List Nat) (h:s.length=7∨s.length=8):(runs0 s).length < 64:=by
  have h1:∀ step begin acc i,(runStep s step begin acc i).length≤acc.length+1:=fun step begin acc i=>by
    unfold runStep
    split
    · split
      · simp
      · exact Z.l529
    · exact Z.l529
  have h2:∀ step acc begin,(runsE s step acc begin).length≤acc.length+(s.length+1 - (begin+2*step)):=fun step acc begin=>by
    have:=fold_len (f:=runStep s step begin) (c:=fun _=>1) (h1 step begin) (List.range (s.length+1 - (begin+2*step))) acc
    have ones:∀ n,((List.range n).map fun _=>1).sum=n:=fun n=>by
      rw [List.map_const',List.sum_replicate_nat];simp
    rwa [ones] at this
  have h3:∀ acc i,(runsB s acc i).length≤acc.length+((List.range (s.length - 2*(1+i)+1)).map fun b=>s.length+1 - (b+2*(1+i))).sum:=fun acc i=>fold_len (f:=runsE s (1+i)) (c:=fun b=>s.length+1 - (b+2*(1+i))) (h2 (1+i)) _ acc
  have h4:=fold_len (f:=runsB s) h3 (List.range (s.length / 2)) []
  refine Nat.lt_of_le_of_lt h4 ?_
  rcases h with h | h <;> rw [h] <;> decide
end T2
theorem pysort_map {α β:Type} (f:α→β) (d:α) (lt:β→β→Bool) (l:List α):pysort (f d) lt (l.map f)=(pysort d (fun x y=>lt (f x) (f y)) l).map f:=by
  have e:∀ i,(l.map f).getD i (f d)=f (l.getD i d):=fun i=>by
    rw [List.getD_eq_getElem?_getD,List.getD_eq_getElem?_getD,List.getElem?_map]
    cases l[i]? <;> rfl
  have e2:ltAt (f d) lt (l.map f)=ltAt d (fun x y=>lt (f x) (f y)) l:=by
    funext i j
    simp only [ltAt,e]
  unfold pysort
  rw [e2,List.length_map,List.map_map]
  exact List.map_congr_left fun i _=>e i
end Mine
end
section
open PySem PySem.Calls PySem.W PyProof.Rows
namespace Mine
structure EvB (g:G) (ρ:List (Option D)) (μ:List (Addr × Mut)) (e:Expr) (d:D):Prop where
  h:Ev g ρ μ e d
section
variable {g:G} {ρ:List (Option D)} {μ:List (Addr × Mut)} {S:List Addr} {Φ:Flow→Shared→Prop} {rest:List Stmt}
theorem EvB.as {e:Expr} {d d':D} (h:EvB g ρ μ e d) (q:d=d'):EvB g ρ μ e d':=q ▸ h
theorem EvB.join {k : Nat} {cp apos pos : Pos} {e : Expr} {ls : List (List Nat)} (R : Room g.A 0) (he : Ev g ρ μ e (.lst (ls.map D.s))) (h : ls.flatten.length + ls.length ≤ 1048576)
    (hbase:attributeBase (.Constant (.str (Str.ofString "")) k cp) "join" g.env (eval (.Constant (.str (Str.ofString "")) k cp) g.env)=eval (.Constant (.str (Str.ofString "")) k cp) g.env:=by rfl)
    (hfew:((backTo pos (starEach [e] g.env)).all (fun x=>!x.1) && (backToKw pos (keywordEach [] g.env)).all (fun x=>x.1.isSome) && decide ([e].length+([]:List Keyword).length+(if ([]:List Keyword).isEmpty then 0 else 1) < 30))=true:=by rfl)
    (hline:(apos.endLine == pos.line)=true:=by rfl)
    (hst:starEach [e] g.env=(false,eval e g.env)::starEach [] g.env:=by rfl) :
    EvB g ρ μ (.Call (.Attribute (.Constant (.str (Str.ofString "")) k cp) "join" apos) [e] [] pos) (.s ls.flatten) :=
  ⟨@Ev.meth g ρ μ _ _ _ _ _ _ _ _ (.s []) [.lst (ls.map D.s)] _ R F.plainAttrs_str F.slot_str_join F.type_str_join (Ev.str (x:="")) isStr (EvL.cons he EvL.nil hst) (Bi.join h) hbase hfew hline hst rfl⟩
theorem Ex.assignB (i : Nat) {x : Str} {p pos : Pos} {e : Expr} {d : D} (h1 : g.ns[i]? = some x) (hk : Stored g S x) (he : EvB g ρ μ e d) (k : Ex g S (ρ.set i (some d)) μ rest Φ)
    (hs:swapsWith e (some (.Name x p)) pos.line g.env=pure false:=by rfl):Ex g S ρ μ (.Assign [.Name x p] e pos::rest) Φ:=Ex.assign i h1 hk he.h k hs
end
end Mine
end
section
open PySem PySem.Calls PySem.W PyProof.Rows
namespace Mine
local macro_rules | `(tactic| o_law)=>`(tactic| refine holds_law (by decide +kernel) fun said=>?_)
open_top hd for PySem.Challenge.rw_wv0010_02
end Mine
end
section
open PySem PySem.Calls PySem.W PyProof.Rows
namespace Mine
structure Is2 (C:Cx):Prop where
  K:∃ P,C.K=hd.heap_1 P
  prog:C.prog.main=PySem.Challenge.rw_wv0010_02.row.toRowW.claim.prog.main
  P:C.P=[63,70]
  base:Base C
  bm:∃ a o,BMod C.hb mainGlobals C.mg a o∧a∉C.P
theorem Is2.glob {C:Cx} (H:Is2 C) {n:Str} {v:Value} (h:∀ P,nsIn (hd.heap_1 P) mainGlobals n=some (some v)):C.mg n=some v:=by
  obtain ⟨P,hK⟩:=H.K
  exact mg_of H.base.X H.base.g (by rw [hK];exact h P)
theorem Is2.noGlob {C:Cx} (H:Is2 C) {n:Str} (h:∀ P,nsIn (hd.heap_1 P) mainGlobals n=some none):C.mg n=none:=by
  obtain ⟨P,hK⟩:=H.K
  exact mg_none_of H.base.X H.base.g (by rw [hK];exact h P)
theorem Is2.bltn {C:Cx} (H:Is2 C) {n:Str} {v:Value} (hb:bootBuiltins n=some v) (hn:n≠"__name__"):C.mb n=some v:=(H.base.bi n hn).trans hb
noncomputable abbrev FnAt (n:Nat):={fd:FuncData // ∀ P,∃ oc od osl,(hd.heap_1 P).lookup n=some ⟨oc,od,.func fd,osl⟩}
noncomputable def fInit:FnAt 38:=⟨_,fun P=>⟨_,_,_,rfl⟩⟩
noncomputable def fPush:FnAt 45:=⟨_,fun P=>⟨_,_,_,rfl⟩⟩
noncomputable def fPop:FnAt 61:=⟨_,fun P=>⟨_,_,_,rfl⟩⟩
noncomputable def fLen:FnAt 68:=⟨_,fun P=>⟨_,_,_,rfl⟩⟩
noncomputable def fStr:FnAt 75:=⟨_,fun P=>⟨_,_,_,rfl⟩⟩
noncomputable def fOnly:FnAt 90:=⟨_,fun P=>⟨_,_,_,rfl⟩⟩
noncomputable def fCount:FnAt 98:=⟨_,fun P=>⟨_,_,_,rfl⟩⟩
noncomputable def fColl:FnAt 112:=⟨_,fun P=>⟨_,_,_,rfl⟩⟩
noncomputable def fXfrm:FnAt 119:=⟨_,fun P=>⟨_,_,_,rfl⟩⟩
noncomputable def fMgr:FnAt 133:=⟨_,fun P=>⟨_,_,_,rfl⟩⟩
noncomputable def fSub:FnAt 162:=⟨_,fun P=>⟨_,_,_,rfl⟩⟩
noncomputable def fSwap:FnAt 176:=⟨_,fun P=>⟨_,_,_,rfl⟩⟩
theorem accOk (P:Params):AccOk (hd.heap_1 P) 101:=⟨⟨⟨_,by rfl,by decide +kernel⟩,by rfl⟩,by rfl,by rfl⟩
theorem sizeOk (P:Params):SizeOk (hd.heap_1 P) 101:=⟨by rfl,by rfl,by rfl,fun hsh t u n=>by rfl⟩
theorem mgrOk (P:Params):ClsOk (hd.heap_1 P) 165:=⟨⟨_,by rfl,by decide +kernel⟩,by rfl⟩
theorem mPush (P:Params):MethOk (hd.heap_1 P) 101 "push" 45:=⟨by rfl,by rfl,by rfl⟩
theorem mPop (P:Params):MethOk (hd.heap_1 P) 101 "pop" 61:=⟨by rfl,by rfl,by rfl⟩
theorem mOnly (P:Params):MethOk (hd.heap_1 P) 101 "is_onlyws" 90:=⟨by rfl,by rfl,by rfl⟩
theorem mCount (P:Params):MethOk (hd.heap_1 P) 101 "part_count" 98:=⟨by rfl,by rfl,by rfl⟩
theorem mSub (P:Params):MethOk (hd.heap_1 P) 165 "is_suburi" 162:=⟨by rfl,by rfl,by rfl⟩
theorem lenOk (P:Params):LenOk (hd.heap_1 P) 101 68:=⟨by rfl,by rfl,by rfl⟩
theorem strOk (P:Params):StrOk (hd.heap_1 P) 101 75:=⟨by rfl,by rfl⟩
theorem codeLen {C:Cx} (H:Is2 C):CodeOk C 67 63:=⟨by rw [H.P];decide,by obtain ⟨P,hK⟩:=H.K;rw [hK];exact ⟨_,_,_,_,_,_,_,_,_,_,_,rfl,rfl,rfl,rfl,rfl,rfl,rfl⟩⟩
theorem codeStr {C:Cx} (H:Is2 C):CodeOk C 74 70:=⟨by rw [H.P];decide,by obtain ⟨P,hK⟩:=H.K;rw [hK];exact ⟨_,_,_,_,_,_,_,_,_,_,_,rfl,rfl,rfl,rfl,rfl,rfl,rfl⟩⟩
end Mine
end
section
open PySem PySem.Calls PySem.W PyProof.Rows
namespace Mine
noncomputable abbrev sub1 (a b:Bool):Int:=(if a then 1 else 0) - (if b then 1 else 0)
noncomputable abbrev coll (a b:List Nat):Int:=sub1 (decide (b < a)) (decide (a < b))
theorem fn_coll {C:Cx} (H:Is2 C) (a b:List Nat):FnM C 1 (.ref 112) [.s a,.s b] [] (.int (coll a b)) []:=by
  obtain ⟨P,hK⟩:=H.K
  obtain ⟨oc,od,osl,ho⟩:=fColl.2 P
  refine FnM.intro (fd:=fColl.1) ["a","b"] [] 0 (by rw [hK];exact ho) (by rw [hK];rfl) rfl rfl rfl rfl (fun vals hv=>?_) rfl (by decide) (fun n x hx=>?_) (by decide) (fun A X L R hm=>?_)
  · obtain ⟨v,w,rfl⟩:=len2 hv;rfl
  · simp only [List.mem_cons,List.not_mem_nil,or_false] at hx
    rcases hx with rfl | rfl <;> exact .inl rfl
  refine Ex.ret (d:=.int (coll a b)) (Ev.bin R (Ev.cmp R (Ev.name 0 rfl rfl) (Ev.name 1 rfl rfl) (Cmp.gts a b)) (Ev.cmp R (Ev.name 0 rfl rfl) (Ev.name 1 rfl rfl) (Cmp.lts a b)) Bin.subB) fun v s y r=>⟨r,fun _ h=>nomatch h⟩
theorem fn_xfrm {C:Cx} (H:Is2 C) (d:D):FnM C 1 (.ref 119) [d] [] d []:=by
  obtain ⟨P,hK⟩:=H.K
  obtain ⟨oc,od,osl,ho⟩:=fXfrm.2 P
  refine FnM.intro (fd:=fXfrm.1) ["s"] [] 0 (by rw [hK];exact ho) (by rw [hK];rfl) rfl rfl rfl rfl (fun vals hv=>?_) rfl (by decide) (fun n x hx=>?_) (by decide) (fun A X L R hm=>?_)
  · obtain ⟨v,rfl⟩:=len1 hv;rfl
  · simp only [List.mem_cons,List.not_mem_nil,or_false] at hx
    subst hx;exact .inl rfl
  exact Ex.ret (d:=d) (Ev.name 0 rfl rfl) fun v s y r=>⟨r,fun _ h=>nomatch h⟩
theorem superAt {C : Cx} (H : Is2 C) {n q : Nat} {name : Str} {id nm T kind : String} (F : FnAt n) (L : Addr) (ds : Descr id nm T kind) (hT : (T = "method_descriptor" ∧ kind = "builtin_function_or_method") ∨ (T = "wrapper_descriptor" ∧ kind = "method-wrapper"))
    (ks:F.1.scope.names.lookup ("super":Str)=some .globalImplicit) (kc:F.1.scope.names.lookup ("__class__":Str)=some .free) (kself:F.1.scope.names.lookup ("self":Str)=some .local)
    (ar:∃ ar,(F.1.params.posonlyargs++F.1.params.args).head?=some ar∧ar.arg="self") (hcl:F.1.closure.lookup ("__class__":Str)=some 25)
    (code:∀ P,∃ cda oc od vs osl tf,F.1.code=.ref cda∧(hd.heap_1 P).lookup cda=some ⟨oc,od,.fields vs,osl⟩∧vs[2]?=some (.str "/claim/cut.py" tf))
    (hal:∀ P,alongIn (hd.heap_1 P) name [.type "list",.type "object"]=some (some (.builtin id))) (hn:(name == ("__class__":Str))=false) :
    SuperOk C (callEnv F.1 L n) n 101 name id nm T kind:=by
  obtain ⟨P,hK⟩:=H.K
  obtain ⟨oc,od,osl,ho⟩:=F.2 P
  obtain ⟨cda,oc',od',vs,osl',tf,h1,h2,h3⟩:=code P
  obtain ⟨ar,ha1,ha2⟩:=ar
  exact {
    ks:=ks,kc:=kc,kself:=kself,fu:=rfl
    hf:=⟨oc,od,F.1,osl,by rw [hK];exact ho,ar,ha1,ha2⟩
    code:=⟨cda,oc',od',vs,osl',_,tf,h1,by rw [hK];exact h2,h3,by rw [H.prog];decide +kernel⟩
    top:=by rw [H.prog];decide +kernel
    cell:=⟨25,_,_,_,hcl,by rw [hK];rfl⟩
    glob:=by rw [hK];rfl
    third:=by rw [hK];rfl
    cls:=⟨_,by rw [hK];rfl,by rw [hK];exact hal P⟩
    self:=by rw [hK];rfl
    lst:=by rw [hK];rfl
    ds:=ds,hT:=hT,hn:=hn }
theorem superCount {C:Cx} (H:Is2 C) (L:Addr):SuperOk C (callEnv fCount.1 L 98) 98 101 "__len__" "list.__len__" "__len__" "wrapper_descriptor" "method-wrapper" :=
  superAt (q:=0) H fCount L descr_len (.inr ⟨rfl,rfl⟩) rfl rfl rfl ⟨_,rfl,rfl⟩ rfl (fun P=>⟨_,_,_,_,_,_,rfl,rfl,rfl⟩) (fun P=>by rfl) (by decide)
theorem superPop {C:Cx} (H:Is2 C) (L:Addr):SuperOk C (callEnv fPop.1 L 61) 61 101 "pop" "list.pop" "pop" "method_descriptor" "builtin_function_or_method" :=
  superAt (q:=0) H fPop L descr_pop (.inl ⟨rfl,rfl⟩) rfl rfl rfl ⟨_,rfl,rfl⟩ rfl (fun P=>⟨_,_,_,_,_,_,rfl,rfl,rfl⟩) (fun P=>by rfl) (by decide)
theorem superInit {C:Cx} (H:Is2 C) (L:Addr):SuperOk C (callEnv fInit.1 L 38) 38 101 "__init__" "list.__init__" "__init__" "wrapper_descriptor" "method-wrapper" :=
  superAt (q:=0) H fInit L descr_init (.inr ⟨rfl,rfl⟩) rfl rfl rfl ⟨_,rfl,rfl⟩ rfl (fun P=>⟨_,_,_,_,_,_,rfl,rfl,rfl⟩) (fun P=>by rfl) (by decide)
end Mine
end
section
open PySem PySem.Calls PySem.W PyProof.Rows
namespace Mine
theorem clo25 {C:Cx} (H:Is2 C):∀ x c,([((Str.ofString "__class__"),25)]:List (Str × Addr)).lookup x=some c→c∉C.P∧∃ v,∃ oc od osl,C.K.lookup c=some ⟨oc,od,.cell (some v),osl⟩:=fun x c h=>by
  obtain ⟨P,hK⟩:=H.K
  have:c=25:=by
    simp only [List.lookup] at h
    split at h
    · cases h;rfl
    · cases h
  subst this
  exact ⟨by rw [H.P];decide,_,_,_,_,by rw [hK];rfl⟩
theorem inj25:∀ x y c,([((Str.ofString "__class__"),25)]:List (Str × Addr)).lookup x=some c→([((Str.ofString "__class__"),25)]:List (Str × Addr)).lookup y=some c→x=y:=fun x y c h h'=>by
  simp only [List.lookup] at h h'
  split at h
  · split at h'
    · rename_i a _ b;exact (eq_of_beq a).trans (eq_of_beq b).symm
    · cases h'
  · cases h
theorem fn_count {C:Cx} (H:Is2 C) (x dx:Addr) (ds:List D):FnM C 1 (.ref 98) [.val (.ref x)] [(x,.acc 101 dx ds)] (.int ds.length) [(x,.acc 101 dx ds)]:=by
  obtain ⟨P,hK⟩:=H.K
  obtain ⟨oc,od,osl,ho⟩:=fCount.2 P
  refine FnM.introAt (fd:=fCount.1) (es:=[]) ["self"] [] 0 (by rw [hK];exact ho) (by rw [hK];rfl) rfl (clo25 H) inj25 rfl rfl (fun s vals X hv=>⟨[],fun _ _=>.nil,?_⟩) rfl (by decide) (by decide) (by decide) (fun A X L R hm s y=>?_)
  · obtain ⟨v,rfl⟩:=len1 hv;exact BindsTo.of_eq rfl
  have hmem:(x,Mut.acc 101 dx ds)∈[(x,Mut.acc 101 dx ds)]:=.head _
  refine ks_wpAt_execs_cons (ks_wpAt_Return_some (super_run (i:=0) (superCount H L) y rfl rfl hmem (by decide +kernel) F.entry_list_len (fun s A Q E ox od X I h=>?_) fun s' e y'=>?_))
  · exact wpAny_of_eq (bound_slot sig_len (by decide +kernel) (chk_len x)) h
  · obtain ⟨⟨vs,n,ho',r⟩,_⟩:=y'.muts _ hmem
    refine run_len ho' ⟨(e.trans .tok).up0,?_,fun p hp=>(y'.ext (s':={ s' with toks:=s'.toks+1 }) .tok).muts p hp⟩
    rw [r.length];exact .int ..
theorem fn_pop {C:Cx} (H:Is2 C) (x dx:Addr) (ds:List D) (hz:ds.length≤900):FnM C 2 (.ref 61) [.val (.ref x)] [(x,.acc 101 dx ds)] (ds.getLast?.getD (.tup [.s [],.s []])) [(x,.acc 101 dx ds.dropLast)]:=by
  obtain ⟨P,hK⟩:=H.K
  obtain ⟨oc,od,osl,ho⟩:=fPop.2 P
  refine FnM.introAt (fd:=fPop.1) (es:=[]) ["self"] [] 0 (by rw [hK];exact ho) (by rw [hK];rfl) rfl (clo25 H) inj25 rfl rfl (fun s vals X hv=>⟨[],fun _ _=>.nil,?_⟩) rfl (by decide) (by decide) (by decide) (fun A X L R hm s y=>?_)
  · obtain ⟨v,rfl⟩:=len1 hv;exact BindsTo.of_eq rfl
  have hmem:(x,Mut.acc 101 dx ds)∈[(x,Mut.acc 101 dx ds)]:=.head _
  refine ks_wpAt_execs_cons (ks_wpAt_If (wpAt_of_wpAny ?_))
  refine EvTM.wp (b:=((ds.length:Int) == 0)) (μ':=[(x,.acc 101 dx ds)]) (EvTM.cmp R.zero (EvM.own0 (μ₀:=[(x,.acc 101 dx ds)]) [] [] R (Ev.name 0 rfl rfl) hmem rfl (by rw [hK];exact (accOk P).ok) (by rw [hK];exact mCount P) (by decide) (fn_count H x dx ds) rfl) Ev.int Cmp.eq) y fun s' y' e=>?_
  have eX:Ext C (L::doms [(x,Mut.acc 101 dx ds)]) s s':=e.wider fun b hb=>.inl (.tail _ hb)
  rcases List.eq_nil_or_concat ds with hd0 | ⟨r0,d0,hd0⟩
  · subst hd0
    refine wpAt_of_wpAny (wpAny_mono (Ex.ret (rest:=[]) (d:=.tup [.s [],.s []]) (Φ:=fun fl s=>(∃ v,fl=.ret v)∧RetAs (L::X) (.tup [.s [],.s []]) [(x,.acc 101 dx [])] fl s) (S:=L::doms [(x,Mut.acc 101 dx [])]) (Ev.tup (EvL.cons Ev.str (EvL.cons Ev.str EvL.nil))) (fun v s y r=>⟨⟨v,rfl⟩,r,y.muts⟩) s' y') (fun fl s'' q=>?_) fun _ _ e=>e)
    obtain ⟨q1,⟨v,rfl⟩,q2⟩:=q
    exact ⟨eX.trans q1,q2⟩
  · have hb:((ds.length:Int) == 0)=false:=by rw [hd0];simp;exact Z.l373
    rw [hb]
    refine wpAt_of_wpAny (wpAny_execs_nil ?_)
    refine ks_wpAt_execs_cons (ks_wpAt_Return_some (super_run (i:=0) (superPop H L) y' rfl rfl hmem (by decide +kernel) F.entry_list_pop (fun s A Q E ox od X I h=>?_) fun s₁ e₁ y₁=>?_))
    · obtain ⟨cd,hcd,hq⟩:∃ cd,clsIn C.K 101=some cd∧s!"{cd.qualname.toString}.{Bind.lastOf "list.pop"}"="_Accumulator.pop":=⟨_,by rw [hK];rfl,by decide +kernel⟩
      exact bound_meth (K:=C.K) (C:=101) (cd:=cd) sig_pop (by decide +kernel) (by decide +kernel) X I (by rw [hK];rfl) hcd (by rw [hK];rfl) (by have:=chk_pop x;rw [← hq] at this;exact this) h
    · obtain ⟨⟨vs,n,ho',r⟩,_⟩:=y₁.muts _ hmem
      have hl:=r.length
      subst hd0
      obtain ⟨ws,v,rfl,rw',rv⟩:∃ ws v,vs=ws++[v]∧RepL (L::X) s₁.heap ws r0∧Rep (L::X) s₁.heap v d0:=by
        have h1:=r.take r0.length
        have h2:=r.drop r0.length
        simp only [List.concat_eq_append,List.take_left',List.drop_left'] at h1 h2
        obtain ⟨v,hv,rv⟩:=h2.one
        exact ⟨_,v,by rw [← hv,List.take_append_drop],h1,rv⟩
      have hz':ws.length≤900:=by have:=rw'.length;simp at hz;exact Z.l374 this hz
      refine run_pop ho' hz' fun h' ⟨n',hp⟩ hs=>?_
      obtain ⟨e₂,y₂⟩:=y₁.reacc (p:=[]) (q:=[]) (tk:=s₁.toks) hs hp rw'
      refine ⟨(eX.trans e₁.up0).trans (e₂.wider fun b hb=>.inl (.tail _ hb)),?_,?_⟩
      · have:=rv.ext e₂ (fun b hb=>(y₁.mX b hb).1) y₁.inv.pin
        simpa using this
      · simpa using y₂.muts
end Mine
end
section
open PySem PySem.Calls PySem.W PyProof.Rows
namespace Mine
theorem fn_push {C:Cx} (H:Is2 C) (x dx:Addr) (ds:List D) (a b:List Nat) (hz:ds.length < 1000):FnM C 1 (.ref 45) [.val (.ref x),.s a,.s b] [(x,.acc 101 dx ds)] D.nil [(x,.acc 101 dx (ds++[D.ss (a,b)]))]:=by
  obtain ⟨P,hK⟩:=H.K
  obtain ⟨oc,od,osl,ho⟩:=fPush.2 P
  refine FnM.intro (fd:=fPush.1) ["self","fws","string"] [] 0 (by rw [hK];exact ho) (by rw [hK];rfl) rfl rfl rfl rfl (fun vals hv=>?_) rfl (by decide) (fun n x hx=>?_) (by decide) (fun A X L R hm=>?_)
  · obtain ⟨v,w,z,rfl⟩:=len3 hv;rfl
  · simp only [List.mem_cons,List.not_mem_nil,or_false] at hx
    rcases hx with rfl | rfl | rfl <;> exact .inl rfl
  refine Ex.exprM (μ':=[(x,.acc 101 dx (ds++[D.ss (a,b)]))]) (EvM.accAppend (p:=[]) (q:=[]) (Ev.name 0 rfl rfl) (Ev.tup (EvL.cons (Ev.name 1 rfl rfl) (EvL.cons (Ev.name 2 rfl rfl) EvL.nil)) (Nat.le_of_ble_eq_true rfl)) hz (by rw [hK];exact (accOk P).ok) (by rw [hK];rfl) (by rw [hK];rfl)) (fun c hc=>List.mem_append_right _ hc) ?_
  exact Ex.nil fun s y=>⟨.val _,y.muts⟩
noncomputable def lenOf (xs:List (List Nat × List Nat)):Int:=(xs.map fun p=>((p.1.length+p.2.length:Nat):Int)).sum
theorem fn_len {C:Cx} (H:Is2 C) (x dx:Addr) (xs:List (List Nat × List Nat)) (hz:∀ p∈xs,p.1.length≤1000∧p.2.length≤1000):FnM C 1 (.ref 68) [.val (.ref x)] [(x,.acc 101 dx (xs.map D.ss))] (.int (lenOf xs)) [(x,.acc 101 dx (xs.map D.ss))]:=by
  obtain ⟨P,hK⟩:=H.K
  obtain ⟨oc,od,osl,ho⟩:=fLen.2 P
  refine FnM.intro (fd:=fLen.1) ["self"] [] 0 (by rw [hK];exact ho) (by rw [hK];rfl) rfl rfl rfl rfl (fun vals hv=>?_) rfl (by decide) (fun n x hx=>?_) (by decide) (fun A X L R hm=>?_)
  · obtain ⟨v,rfl⟩:=len1 hv;rfl
  · simp only [List.mem_cons,List.not_mem_nil,or_false] at hx
    subst hx;exact .inl rfl
  have hmem:(x,Mut.acc 101 dx (xs.map D.ss))∈[(x,Mut.acc 101 dx (xs.map D.ss))]:=.head _
  refine Ex.retM (μ':=[(x,.acc 101 dx (xs.map D.ss))]) ⟨rfl,fun s y=>?_⟩ (fun c hc=>List.mem_append_right _ hc) (fun v s y r=>⟨r,y.muts⟩)
  have hmg:C.mg "sum"=none:=H.noGlob fun P=>by rfl
  have hml:C.mg "len"=none:=H.noGlob fun P=>by rfl
  have hbl:C.mb "len"=some (.builtin "len"):=H.bltn rfl (by decide)
  refine call_open rfl ((Ev.bltn (v:=.builtin "sum") hmg rfl rfl).wp y fun v s₁ y₁ r₁ e₁=>?_)
  (first | obtain rfl:=r₁.vI | obtain ⟨_,rfl⟩:=r₁.iI | obtain ⟨_,rfl⟩:=r₁.sI | obtain ⟨_,rfl⟩:=r₁.bI | obtain rfl:=r₁.nI | cases r₁)
  refine callWith_B rfl (spliced_open rfl ?_) rfl
  refine gen_acc (i:=0) (fun p v=>∃ t,v=.int ((p.1.length:Int)+p.2.length) t) R y₁ rfl (codeLen H) (by rw [hK];exact accOk P) hmem rfl rfl H.bm rfl rfl rfl (by decide) rfl rfl rfl (by decide) (fun cenv h1 h2 h3 A' E' p ta tb s₂ m₂ hp hn ha hb hmg' hmb'=>?_) (fun a s₅ fp wr k P' St' hP' W hT hst hfp ha e₅ hmv=>?_)
  · have hk:cenv.scope.kind=.function:=by rw [h1]
    have k1:cenv.kindOf "len"=some .globalImplicit:=by unfold Env.kindOf;rw [h1];rfl
    have k2:cenv.kindOf "fws"=some .local:=by unfold Env.kindOf;rw [h1];rfl
    have k3:cenv.kindOf "part"=some .local:=by unfold Env.kindOf;rw [h1];rfl
    refine wpAny_BinOp (raw_len hk k1 k2 (by rw [h2];exact hmg') hml (by rw [h3];exact hmb') hbl hn ha (by have:=hz p hp;exact Z.l375 this) (by decide) fun t'=>?_)
    refine raw_len (s:={ s₂ with toks:=s₂.toks+1+1 }) hk k1 k3 (by rw [h2];exact hmg') hml (by rw [h3];exact hmb') hbl hn hb (by have:=hz p hp;exact Z.l376 this) (by decide) fun t''=>?_
    exact _root_.PySem.P.add_int ⟨⟨_,rfl⟩,_,_,rfl,fun _ _ e=>e⟩
  · have y₅:=y₁.ext e₅
    refine spliced_open rfl (attr_size y₅ (i:=0) rfl rfl rfl hmem (by rw [hK];exact sizeOk P) fun u=>?_)
    refine spliced_nil ?_
    have st':=W.frame 0 s₅ s₅.heap (s₅.toks+1) hst (Nat.le_succ _) fun _ _ _ e=>e
    refine call_sum2 (s:={ s₅ with toks:=s₅.toks+1 }) (val:=fun i=>match xs[i]? with | some p=>(p.1.length:Int)+p.2.length | none=>0) W.in4_1 st' hfp (fun j v hv=>?_) fun s' t' hm'=>?_
    · obtain ⟨p,hp,t,rfl⟩:=hP' j v hv
      exact ⟨t,by rw [hp]⟩
    · have e₆:=hmv { s₅ with toks:=s₅.toks+1 } s' (e₅.trans .tok) hm'
      refine ⟨(e₁.trans e₆).up0,y₁.ext e₆,?_⟩
      have hsum:preSum (fun i=>match xs[i]? with | some p=>(p.1.length:Int)+p.2.length | none=>0) xs.length=lenOf xs:=by
        have:=preSum_list (xs.map fun p=>((p.1.length+p.2.length:Nat):Int)) (fun i=>match xs[i]? with | some p=>(p.1.length:Int)+p.2.length | none=>0) (fun i hi=>by
          rw [List.length_map] at hi
          simp [List.getElem?_eq_getElem hi])
        rw [List.length_map] at this
        exact this
      rw [hsum]
      exact .int ..
end Mine
end
section
open PySem PySem.Calls PySem.W PyProof.Rows PySem.Builtin.Str
namespace Mine
noncomputable def textOf (xs:List (List Nat × List Nat)):List Nat:=(xs.map fun p=>p.1++p.2).flatten
theorem fn_str {C:Cx} (H:Is2 C) (x dx:Addr) (xs:List (List Nat × List Nat)) (hz:∀ p∈xs,p.1.length≤1000∧p.2.length≤1000) (hz':(textOf xs).length+xs.length≤1048576):FnM C 1 (.ref 75) [.val (.ref x)] [(x,.acc 101 dx (xs.map D.ss))] (.s (textOf xs)) [(x,.acc 101 dx (xs.map D.ss))]:=by
  obtain ⟨P,hK⟩:=H.K
  obtain ⟨oc,od,osl,ho⟩:=fStr.2 P
  refine FnM.intro (fd:=fStr.1) ["self"] [] 0 (by rw [hK];exact ho) (by rw [hK];rfl) rfl rfl rfl rfl (fun vals hv=>?_) rfl (by decide) (fun n x hx=>?_) (by decide) (fun A X L R hm=>?_)
  · obtain ⟨v,rfl⟩:=len1 hv;rfl
  · simp only [List.mem_cons,List.not_mem_nil,or_false] at hx
    subst hx;exact .inl rfl
  have hmem:(x,Mut.acc 101 dx (xs.map D.ss))∈[(x,Mut.acc 101 dx (xs.map D.ss))]:=.head _
  refine Ex.retM (μ':=[(x,.acc 101 dx (xs.map D.ss))]) ⟨rfl,fun s y=>?_⟩ (fun c hc=>List.mem_append_right _ hc) (fun v s y r=>⟨r,y.muts⟩)
  obtain ⟨tk,hme⟩:∃ tk,C.mg "EMPTYSTRING"=some (.str (sl []) tk):=⟨_,H.glob fun P=>by rfl⟩
  refine wpAny_Call_method (by rfl) (by rfl) (by rfl) F.plainAttrs_str F.slot_str_join F.type_str_join ((Ev.globS hme rfl).wp y fun v s₁ y₁ r₁ e₁=>?_)
  (first | obtain rfl:=r₁.vI | obtain ⟨_,rfl⟩:=r₁.iI | obtain ⟨_,rfl⟩:=r₁.sI | obtain ⟨_,rfl⟩:=r₁.bI | obtain rfl:=r₁.nI | cases r₁)
  refine ⟨typeIs_str _ _ _,(fun a h=>nomatch h),callWith_B rfl (spliced_open (by rfl) ?_) (by rfl)⟩
  refine gen_acc (i:=0) (fun p v=>∃ t,v=.str (sl (p.1++p.2)) t) R y₁ rfl (codeStr H) (by rw [hK];exact accOk P) hmem rfl rfl H.bm rfl rfl rfl (by decide) rfl rfl rfl (by decide) (fun cenv h1 h2 h3 A' E' p ta tb s₂ m₂ hp hn ha hb hmg' hmb'=>?_) (fun a s₅ fp wr k P' St' hP' W hT hst hfp ha e₅ hmv=>?_)
  · have hk:cenv.scope.kind=.function:=by rw [h1]
    have k1:cenv.kindOf "EMPTYSTRING"=some .globalImplicit:=by unfold Env.kindOf;rw [h1];rfl
    have k2:cenv.kindOf "fws"=some .local:=by unfold Env.kindOf;rw [h1];rfl
    have k3:cenv.kindOf "part"=some .local:=by unfold Env.kindOf;rw [h1];rfl
    exact raw_join2 hk k1 k2 k3 (by rw [h2];exact hmg') hme hn ha hb (by have:=hz p hp;exact Z.l377 this) (by decide) (by decide) (by decide) (fun t' k=>⟨⟨_,rfl⟩,_,_,rfl,fun b o e=>Heap.get?_push_of_some _ e⟩) (by rfl)
  · refine spliced_nil ?_
    refine SC.joinGen W.in4_2 hT hst hfp ha (fun j v hv=>?_) (fun s' l hm' hi=>?_) ?_
    · obtain ⟨p,hp,t,rfl⟩:=hP' j v hv
      exact ⟨_,t,rfl⟩
    · have hl:l.map (·.1)=(xs.map fun p=>p.1++p.2).map sl:=by
        have hsz:l.length=xs.length:=by have:=hi.1;simpa [strValues] using this
        refine List.ext_getElem (by simp [hsz]) fun j h1 h2=>?_
        simp only [List.getElem_map]
        simp only [List.length_map] at h1 h2
        obtain ⟨p,hp,t,hv⟩:=hP' j _ (hi.2 j _ (show (strValues l).toArray[j]?=some (.str (l[j]).1 (l[j]).2) by simp [strValues,List.getElem?_eq_getElem h1]))
        rw [List.getElem?_eq_getElem (by exact Z.l105 h2)] at hp
        cases hp
        injection hv with hv
      have hw:(((xs.map fun p=>p.1++p.2).map sl).map (·.length)).sum+((xs.map fun p=>p.1++p.2).map sl).length≤1048576:=by
        rw [sum_len];simpa [textOf] using hz'
      rw [hl]
      refine ⟨joinOk_of_weight hw (by rw [sl_len];decide),fun t' k=>?_⟩
      have e₆:=hmv s₅ s' e₅ hm'
      have e₇:Ext C [] s₁ { s' with toks:=k }:=e₆.trans .tok
      refine ⟨(e₁.trans e₇).up0,y₁.ext e₇,?_⟩
      have e:Txt.join (sl []) ((xs.map fun p=>p.1++p.2).map sl)=sl (textOf xs):=by
        show glued (sl []) _=_
        rw [StrLaws.glued_eq_join,join_flat];rfl
      rw [e];exact .str ..
    · have:sizeLine=16777216:=rfl
      exact Z.l378 this hz'
end Mine
end
section
open PySem PySem.Calls PySem.W PyProof.Rows PySem.Builtin.Str
namespace Mine
noncomputable def onlyWs (xs:List (List Nat × List Nat)):Bool:=!(lenOf xs != 0) || spaces (textOf xs)
theorem lenOf_nonneg (xs:List (List Nat × List Nat)):0≤lenOf xs:=by
  unfold lenOf
  induction xs with
  | nil=>simp
  | cons p r ih=>simp only [List.map_cons,List.sum_cons];exact Z.l475 ih
theorem fn_only {C : Cx} (H : Is2 C) (x dx : Addr) (xs : List (List Nat × List Nat)) (hz : ∀ p ∈ xs, p.1.length ≤ 1000 ∧ p.2.length ≤ 1000) (hz' : (textOf xs).length + xs.length ≤ 1048576) (hz2 : lenOf xs < 2 ^ 63) :
    FnM C 4 (.ref 90) [.val (.ref x)] [(x,.acc 101 dx (xs.map D.ss))] (D.bool (onlyWs xs)) [(x,.acc 101 dx (xs.map D.ss))]:=by
  obtain ⟨P,hK⟩:=H.K
  obtain ⟨oc,od,osl,ho⟩:=fOnly.2 P
  refine FnM.intro (fd:=fOnly.1) ["self"] [] 0 (by rw [hK];exact ho) (by rw [hK];rfl) rfl rfl rfl rfl (fun vals hv=>?_) rfl (by decide) (fun n x hx=>?_) (by decide) (fun A X L R hm=>?_)
  · obtain ⟨v,rfl⟩:=len1 hv;rfl
  · simp only [List.mem_cons,List.not_mem_nil,or_false] at hx
    subst hx;exact .inl rfl
  have hmem:(x,Mut.acc 101 dx (xs.map D.ss))∈[(x,Mut.acc 101 dx (xs.map D.ss))]:=.head _
  have hms:C.mg "str"=none:=H.noGlob fun P=>by rfl
  refine Ex.retM (d:=D.bool (onlyWs xs)) (μ':=[(x,.acc 101 dx (xs.map D.ss))]) (EvM.and ?_) (fun c hc=>List.mem_append_right _ hc) (fun v s y r=>⟨r,y.muts⟩)
  refine EvAndM.same (p:=true) (q:=onlyWs xs) (Ev.cmp (R.zero) (Ev.size (i:=0) rfl rfl rfl hmem (by rw [hK];exact sizeOk P)) Ev.int Cmp.eq).M (fun _=>EvAndM.one (EvM.or ?_)) rfl
  refine EvOrVM.same (p:=!(lenOf xs != 0)) (q:=spaces (textOf xs)) ?_ (fun _=>EvOrVM.one ?_) rfl
  · exact EvM.notOwn (μ₀:=[(x,.acc 101 dx (xs.map D.ss))]) [] [] (R.less (j:=2) (by exact Z.l447)) (Ev.name 0 rfl rfl) hmem rfl (by rw [hK];exact lenOk P) (fn_len H x dx xs hz) rfl (lenOf_nonneg xs) hz2
  · exact EvM.meth0 R.zero F.plainAttrs_str F.slot_str_isspace F.type_str_isspace (EvM.str (μ₀:=[(x,.acc 101 dx (xs.map D.ss))]) [] [] R (Ev.bltn hms rfl rfl) (Ev.name 0 rfl rfl) hmem rfl (by rw [hK];exact strOk P) (fn_str H x dx xs hz hz') rfl) isStr Bi.isspace
end Mine
end
section
open PySem PySem.Calls PySem.W PyProof.Rows PySem.Builtin.Str
namespace Mine
noncomputable def slashed (p:List Nat):List Nat:=if cut p (some (-1)) none≠[47] then p++[47] else p
noncomputable def suburi (b t:List Nat × List Nat):Bool:=if b=t then true else if b.1≠t.1 then false else (slashed b.2).isPrefixOf t.2
theorem fn_sub {C:Cx} (H:Is2 C) (m:Value) (b t:List Nat × List Nat) (hb:b.2.length≤100000) (hb1:b.1.length≤100000) (ht:t.2.length≤100000):FnM C 1 (.ref 162) [.val m,D.ss b,D.ss t] [] (D.bool (suburi b t)) []:=by
  obtain ⟨P,hK⟩:=H.K
  obtain ⟨oc,od,osl,ho⟩:=fSub.2 P
  refine FnM.intro (fd:=fSub.1) ["self","base","test"] ["prefix"] 1 (by rw [hK];exact ho) (by rw [hK];rfl) rfl rfl rfl rfl (fun vals hv=>?_) rfl (by decide) (fun n x hx=>?_) (by decide) (fun A X L R hm=>?_)
  · obtain ⟨v,w,z,rfl⟩:=len3 hv;rfl
  · simp only [List.mem_cons,List.not_mem_nil,or_false] at hx
    rcases hx with rfl | rfl | rfl <;> exact .inl rfl
  have two:2≤sizeLine:=by decide
  have sz:sizeLine=16777216:=rfl
  refine Ex.ite (EvT.cmp R (Ev.name 1 rfl rfl) (Ev.name 2 rfl rfl) (Cmp.eqP Kd.s Kd.s (by decide) b t)) (fun h=>?_) (fun h=>?_)
  · exact Ex.ret Ev.bool fun v s y r=>⟨by simpa [suburi,of_decide_eq_true h] using r,fun _ h=>nomatch h⟩
  have h1:=of_decide_eq_false h
  refine Ex.go (Ex.ite (EvT.cmp R (Ev.itemT R (Ev.name 1 rfl rfl) Ev.int (by decide) rfl two) (Ev.itemT R (Ev.name 2 rfl rfl) Ev.int (by decide) rfl two) (Cmp.nes b.1 t.1)) (fun h=>?_) (fun h=>?_))
  · exact Ex.ret Ev.bool fun v s y r=>⟨by simpa [suburi,h1,of_decide_eq_true h] using r,fun _ h=>nomatch h⟩
  have h2:=of_decide_eq_false h
  refine Ex.go (Ex.assign 3 rfl (.l rfl (.head _)) (Ev.itemT (d:=.s b.2) R (Ev.name 1 rfl rfl) Ev.int (by decide) rfl two) ?_)
  have lc:(cut b.2 (some (-1)) none).length≤b.2.length:=cut_len_le _ _ _
  refine Ex.ite (EvT.cmp R (Ev.sliceS R (Ev.name 3 rfl rfl) (EvP.some (i:=-1) (Ev.neg Ev.int)) EvP.none (by exact Z.l379 sz hb)) (Ev.str (x:="/")) (Cmp.nes _ [47])) (fun h=>?_) (fun h=>?_)
  · have hs:slashed b.2=b.2++[47]:=by unfold slashed;rw [if_pos (of_decide_eq_true h)]
    refine Ex.aug 3 (d:=.s (b.2++[47])) R rfl rfl (.l rfl (.head _)) (Ev.str (x:="/")) (Inp.addS (b:=[47]) (by simp;exact Z.l380 sz hb)) (Ex.go ?_)
    have hd:D.bool ((b.2++[47]).isPrefixOf t.2)=D.bool (suburi b t):=by unfold suburi;rw [if_neg h1,if_neg h2,hs]
    refine Ex.ret (d:=D.bool (suburi b t)) (hd ▸ ?_) fun v s y r=>⟨r,fun _ h=>nomatch h⟩
    exact Ev.meth (d₀:=.s t.2) R F.plainAttrs_str F.slot_str_startswith F.type_str_startswith (Ev.itemT R (Ev.name 2 rfl rfl) Ev.int (by decide) rfl two) isStr (EvL.cons (Ev.name 3 rfl rfl) EvL.nil) Bi.starts
  · have hs:slashed b.2=b.2:=by unfold slashed;rw [if_neg (of_decide_eq_false h)]
    have hd:D.bool ((b.2).isPrefixOf t.2)=D.bool (suburi b t):=by unfold suburi;rw [if_neg h1,if_neg h2,hs]
    refine Ex.go (Ex.ret (d:=D.bool (suburi b t)) (hd ▸ ?_) fun v s y r=>⟨r,fun _ h=>nomatch h⟩)
    exact Ev.meth (d₀:=.s t.2) R F.plainAttrs_str F.slot_str_startswith F.type_str_startswith (Ev.itemT R (Ev.name 2 rfl rfl) Ev.int (by decide) rfl two) isStr (EvL.cons (Ev.name 3 rfl rfl) EvL.nil) Bi.starts
end Mine
end
section
open PySem PySem.Calls PySem.W PyProof.Rows PySem.Builtin.Str
namespace Mine
theorem fn_mgr {C:Cx} (H:Is2 C) (x dx:Addr):FnM C 1 (.ref 133) [.val (.ref x)] [(x,.obj (instObj 165 dx) dx emptyDict)] D.nil [(x,.inst 165 dx)]:=by
  obtain ⟨P,hK⟩:=H.K
  obtain ⟨oc,od,osl,ho⟩:=fMgr.2 P
  refine FnM.intro (fd:=fMgr.1) ["self"] [] 0 (by rw [hK];exact ho) (by rw [hK];rfl) rfl rfl rfl rfl (fun vals hv=>?_) rfl (by decide) (fun n x hx=>?_) (by decide) (fun A X L R hm=>?_)
  · obtain ⟨v,rfl⟩:=len1 hv;rfl
  · simp only [List.mem_cons,List.not_mem_nil,or_false] at hx
    subst hx;exact .inl rfl
  have hmem:(x,Mut.obj (instObj 165 dx) dx emptyDict)∈[(x,Mut.obj (instObj 165 dx) dx emptyDict)]:=.head _
  refine Ex.step fun s y=>plainObj_wpAny_Assign_Attribute (wpAny_Dict_empty ?_)
  have e₁:Ext C [] s { s with heap:=s.heap.push { cls:=.type "dict",data:=.dict #[] } }:=.push'
  have y₁:=y.ext e₁
  refine self_at (i:=0) y₁ rfl rfl rfl ?_
  obtain ⟨h1,h2,h3⟩:=y₁.muts _ hmem
  refine set_raw (K:=C.K) (C:=165) (od:=emptyDict) y₁.inv.K ⟨h1,rfl,rfl,h3⟩ rfl (by rw [hK];rfl) (by rw [hK];rfl) (by rw [hK];rfl) (by rfl) rfl rfl rfl (Nat.le_of_ble_eq_true rfl) fun h' hs hd=>?_
  have:=y₁.setmut (m':=.inst 165 dx) (tk:=s.toks+2) (k:=0) rfl (b:=dx) (.tail _ (.head _)) rfl hs ⟨⟨#[],(hs.2 x (Ne.symm h2)).trans h1⟩,h2,_,_,_,_,hd⟩ ⟨_,hd⟩
  refine ⟨(e₁.up0.trans this.1).wider fun b hb=>.inl (List.mem_append_right _ hb),?_⟩
  exact wpAny_execs_nil ⟨.refl ..,.val _,this.2.muts⟩
theorem fn_init {C:Cx} (H:Is2 C) (x dx:Addr):FnM C 1 (.ref 38) [.val (.ref x)] [(x,.obj (accObj 101 dx) dx emptyDict)] D.nil [(x,.acc 101 dx [])]:=by
  obtain ⟨P,hK⟩:=H.K
  obtain ⟨oc,od,osl,ho⟩:=fInit.2 P
  refine FnM.introAt (fd:=fInit.1) (es:=[.int 0]) ["self","initial_size"] [] 0 (by rw [hK];exact ho) (by rw [hK];rfl) rfl (clo25 H) inj25 rfl rfl (fun s vals X hv=>⟨[.int 0 210],fun _ _=>.cons (.int ..) .nil,?_⟩) rfl (by decide) (by decide) (by decide) (fun A X L R hm s y=>?_)
  · obtain ⟨v,rfl⟩:=len1 hv
    · refine BindsTo.of_defaults (T:=30) (o:={ cls:=.type "tuple",data:=.seq #[.int 0 210] }) (items:=#[.int 0 210]) (n:=0) rfl (X _ _ (by rw [hK];rfl)) rfl rfl rfl
  have hmem:(x,Mut.obj (accObj 101 dx) dx emptyDict)∈[(x,Mut.obj (accObj 101 dx) dx emptyDict)]:=.head _
  refine ks_wpAt_execs_cons (wpAt_of_wpAny (plainObj_wpAny_Assign_Attribute ((Ev.name 1 rfl rfl).wp y fun v s₁ y₁ r₁ e₁=>?_)))
  (first | obtain rfl:=r₁.vI | obtain ⟨_,rfl⟩:=r₁.iI | obtain ⟨_,rfl⟩:=r₁.sI | obtain ⟨_,rfl⟩:=r₁.bI | obtain rfl:=r₁.nI | cases r₁)
  refine self_at (i:=0) y₁ rfl rfl rfl ?_
  obtain ⟨h1,h2,h3⟩:=y₁.muts _ hmem
  refine set_raw (K:=C.K) (C:=101) (od:=emptyDict) y₁.inv.K ⟨h1,rfl,rfl,h3⟩ rfl (by rw [hK];rfl) (by rw [hK];rfl) (by rw [hK];rfl) (by rfl) rfl rfl rfl (Nat.le_of_ble_eq_true rfl) fun h' hs hd=>?_
  have:=y₁.setmut (m':=.acc 101 dx []) (tk:=s₁.toks+2) (k:=0) rfl (b:=dx) (.tail _ (.head _)) rfl hs ⟨⟨[],0,(hs.2 x (Ne.symm h2)).trans h1,.nil⟩,h2,_,_,_,_,hd⟩ ⟨_,hd⟩
  have hmem2:(x,Mut.acc 101 dx [])∈[(x,Mut.acc 101 dx [])]:=.head _
  refine ks_wpAt_execs_cons (ks_wpAt_Expr_any (super_run (i:=0) (superInit H L) this.2 rfl rfl hmem2 (by decide +kernel) F.entry_list_init (fun s A Q E ox od X I h=>?_) fun s₂ e₂ y₂=>?_))
  · exact wpAny_of_eq (bound_slot sig_init (by decide +kernel) (chk_init x)) h
  · obtain ⟨⟨vs,n,ho',r⟩,_⟩:=y₂.muts _ hmem2
    (first | obtain rfl:=r.vI | obtain ⟨_,rfl⟩:=r.iI | obtain ⟨_,rfl⟩:=r.sI | obtain ⟨_,rfl⟩:=r.bI | obtain rfl:=r.nI | cases r)
    refine run_init ho' (by decide) fun h₃ ⟨n',hp⟩ hs₃=>?_
    obtain ⟨e₃,y₃⟩:=y₂.reacc (p:=[]) (q:=[]) (tk:=s₂.toks) (es:=[]) hs₃ hp .nil
    refine wpAt_of_wpAny (wpAny_execs_nil ⟨?_,.val _,?_⟩)
    · exact (((e₁.up0.trans this.1).trans e₂.up0).trans e₃).wider fun b hb=>.inl (.tail _ hb)
    · simpa using y₃.muts
end Mine
end
section
open PySem PySem.Calls PySem.W PyProof.Rows
namespace Mine
theorem fn_swap {C:Cx} (H:Is2 C) (l:List Nat) (w m:Nat) (hl:l.length=m*w) (hw:0 < w) (hm:0 < m) (hb:∀ c∈l,c < 256) (hz:l.length≤100000):FnS C 1 (.ref 176) [.b l,.int w] (.b (swp w m l)):=by
  obtain ⟨P,hK⟩:=H.K
  obtain ⟨oc,od,osl,ho⟩:=fSwap.2 P
  refine FnS.intro (fd:=fSwap.1) ["data","width"] ["swapped_data","i","j"] 3 (by rw [hK];exact ho) (by rw [hK];rfl) rfl rfl rfl rfl (fun vals hv=>?_) rfl (by decide) (fun n x hx=>?_) (by decide) (fun A X L R=>?_)
  · obtain ⟨v,w,rfl⟩:=len2 hv;rfl
  · simp only [List.mem_cons,List.not_mem_nil,or_false] at hx
    rcases hx with rfl | rfl <;> exact .inl rfl
  have sz:sizeLine=16777216:=rfl
  have hwm:w≤m*w:=Nat.le_mul_of_pos_left w hm
  have hmm:m≤m*w:=Nat.le_mul_of_pos_right m hw
  have g1:C.mg "bytearray"=none:=H.noGlob fun P=>by rfl
  have g2:C.mg "len"=none:=H.noGlob fun P=>by rfl
  have g3:C.mg "range"=none:=H.noGlob fun P=>by rfl
  have g4:C.mg "bytes"=none:=H.noGlob fun P=>by rfl
  have lenB:Bi (.builtin "len") [.b l] (.int ((l.length:Nat):Int)):=by
    have:=Bi.lenB (b:=bl l) (by rw [bl_size];exact Z.l379 sz hz)
    rwa [bl_size] at this
  refine ExS.newBa (n:=(l.length:Nat)) 2 R rfl (.l rfl (.head _)) (Ev.bltn g1 rfl rfl) (EvL.cons (Ev.callB R (Ev.bltn g2 rfl rfl) (EvL.cons (Ev.name 0 rfl rfl) EvL.nil) lenB) EvL.nil) (by exact Z.l381) (by exact Z.l382 sz hz) (fun a haX haS=>?_) (fun b hb=>List.mem_append_left _ hb)
  refine Ex.toS ?_
  refine Ex.forN 3 (d:=.rng 0 ((m*w:Nat):Int) w) (ds:=rngD 0 w m) R rfl (.l rfl (.tail _ (.head _))) ?_ (Ev.callB R (Ev.bltn g3 rfl rfl) (EvL.cons Ev.int (EvL.cons (hl ▸ Ev.callB R (Ev.bltn g2 rfl rfl) (EvL.cons (Ev.name 0 rfl rfl) EvL.nil) lenB) (EvL.cons (Ev.name 1 rfl rfl) EvL.nil))) (Bi.range3 (by exact Z.l383 hw) (by exact Z.l384 hl hwm hz))) (words_src hw hm (by exact Z.l385 hl hz))
    (fun i ρ μ=>∃ x y B,Swd w l i 0 B∧ρ=[some (.b l),some (.int w),some (.val (.ref a)),x,y]∧μ=[(a,.ba B)]) (fun _ _=>False) ?_ ?_ ?_ ?_ ?_ ?_
  · intro b hb
    rcases List.mem_cons.mp hb with rfl | hb
    · exact .head _
    · exact .tail _ (List.mem_append_left _ hb)
  · rintro i ρ μ ⟨x,y,B,_,_,rfl⟩;rfl
  · intro _ _ h;exact h.elim
  · exact ⟨none,none,_,Swd.zero w l,rfl,rfl⟩
  · rintro wr i d ρ μ hd ⟨x,y,B,hB,rfl,rfl⟩
    have hi:i < m:=by
      have:=(List.getElem?_eq_some_iff.mp hd).1
      simpa [rngD] using this
    obtain rfl:d=.int ((i*w:Nat):Int):=by
      have:(rngD 0 w m)[i]?=some (.int ((i*w:Nat):Int)):=by simp [rngD,hi]
      rw [this] at hd;cases hd;rfl
    refine Ex.forN 4 (d:=.rng 0 (w:Int) 1) (ds:=rngD 0 1 w) R rfl (.l rfl (.tail _ (.head _))) ?_ (Ev.callB R (Ev.bltn g3 rfl rfl) (EvL.cons (Ev.name 1 rfl rfl) EvL.nil) Bi.range1) (upto_src w (by exact Z.l386 hl hwm hz))
      (fun j ρ μ=>∃ y B,Swd w l i j B∧ρ=[some (.b l),some (.int w),some (.val (.ref a)),some (.int ((i*w:Nat):Int)),y]∧μ=[(a,.ba B)]) (fun _ _=>False) ?_ ?_ ?_ ?_ ?_ ?_
    · intro b hb
      refine List.mem_append_right _ ?_
      rcases List.mem_cons.mp hb with rfl | hb
      · exact .head _
      · exact .tail _ (List.mem_append_left _ hb)
    · rintro i ρ μ ⟨y,B,_,_,rfl⟩;rfl
    · intro _ _ h;exact h.elim
    · exact ⟨y,B,hB,rfl,rfl⟩
    · rintro wr' j d ρ μ hd ⟨y,B,hB,rfl,rfl⟩
      have hj:j < w:=by
        have:=(List.getElem?_eq_some_iff.mp hd).1
        simpa [rngD] using this
      obtain rfl:d=.int (j:Int):=by
        have:(rngD 0 1 w)[j]?=some (.int (j:Int)):=by simp [rngD,hj]
        rw [this] at hd;cases hd;rfl
      have hlt:i*w+j < l.length:=by rw [hl];exact word_lt hi hj
      have hlt':i*w+(w - 1 - j) < l.length:=by rw [hl];exact word_lt hi (by exact Z.l268 hj)
      have hc:l[i*w+j] < 256:=hb _ (List.getElem_mem hlt)
      have e1:((((i*w:Nat):Int)+(w:Int)) - 1 - (j:Int)).toNat=i*w+(w - 1 - j):=by lia
      have e2:(((i*w:Nat):Int)+(j:Int)).toNat=i*w+j:=by lia
      refine Ex.setBa (p:=[]) (q:=[]) (c:=a) (x:=((l[i*w+j]:Nat):Int)) (k:=((i*w:Nat):Int)+(w:Int) - 1 - (j:Int)) (b:=B) (Ev.itemB R (Ev.name 0 rfl rfl) (Ev.bin R (Ev.name 3 rfl rfl) (Ev.name 4 rfl rfl) Bin.add) (by exact Z.l389) (by rw [e2];exact List.getElem?_eq_getElem hlt) hc (by exact Z.l379 sz hz)) (Ev.name 2 rfl rfl)
        (Ev.bin R (Ev.bin R (Ev.bin R (Ev.name 3 rfl rfl) (Ev.name 1 rfl rfl) Bin.add) Ev.int Bin.minus) (Ev.name 4 rfl rfl) Bin.minus) (by exact Z.l390 hj) (by rw [hB.sz];lia) (by rw [hB.sz];exact Z.l379 sz hz) (by exact Z.l381) (by exact Z.l392 hc) ?_ (Ex.nil fun s y=>⟨_,_,⟨_,_,?_,rfl,rfl⟩,y⟩)
      · intro z hz;have:z=a:=ba_dom hz
        subst this;exact .head _
      · rw [e1]
        exact hB.step hl hi hj (List.getElem?_eq_getElem hlt)
    · rintro ρ μ ⟨y,B,hB,rfl,rfl⟩
      exact Ex.nil fun s z=>⟨_,_,⟨_,_,_,(by simpa [rngD] using hB:Swd w l i w B).next,rfl,rfl⟩,z⟩
    · intro _ _ h;exact h.elim
  · rintro ρ μ ⟨x,y,B,hB,rfl,rfl⟩
    have hB':Swd w l m 0 B:=by simpa [rngD] using hB
    obtain rfl:=hB'.done hl hw
    refine Ex.ret (Ev.bytesBa (Ev.bltn g4 rfl rfl) (EvL.cons (Ev.name 2 rfl rfl) EvL.nil) (.head _) (by rw [bl_size,swp_len];exact Z.l393 sz hl hz)) fun v s y r=>⟨r.sub fun b hb=>.tail _ hb,fun _ h=>nomatch h⟩
  · intro _ _ h;exact h.elim
end Mine
end
section
open PySem PySem.Calls PySem.W PyProof.Rows
namespace Mine
noncomputable def fText:FnAt 181:=⟨_,fun P=>⟨_,_,_,rfl⟩⟩
namespace T2
noncomputable def size (c0:Int):Nat:=7+(c0 % 2).toNat
noncomputable def step (c0:Int):Nat:=[2,3,4,size c0].getD (c0 / 2 % 4).toNat 0
noncomputable def marks0 (c0 c1:Int):List Nat:=(List.range (size c0)).map fun k=>(c1 / 3 ^ (k % step c0) % 3).toNat
noncomputable def place (c0:Int):Nat:=(c0 / 8 % (size c0+1:Nat)).toNat
noncomputable def marks (c0 c1:Int):List Nat:=if place c0 < size c0 then (marks0 c0 c1).set (place c0) (c0 / 72 % 3).toNat else marks0 c0 c1
noncomputable def octets (c2:Int):List Nat:=[(c2 % 85).toNat,85+(c2 / 85 % 85).toNat,170+(c2 / 7225 % 86).toNat]
noncomputable def signs (c0 c1 c2:Int):List Nat:=(marks c0 c1).map fun m=>(octets c2).getD m 0
noncomputable def word (c1:Int):Nat:=[97,46,45,126,37].getD (c1 / 6561 % 5).toNat 0
end T2
theorem fn_text {C:Cx} (H:Is2 C) (sc:List Int) (hz:sc.length≤1048576):∃ c0 c1 c2:Int,FnM C 1 (.ref 181) [D.is sc] [] (.tup [D.ns (T2.signs c0 c1 c2),D.ns (T2.octets c2),.s [T2.word c1]]) []:=by
  have hc3:(cellsOf [123,3,217900] sc sc.length).length=3:=cellsOf_len _ _ _
  refine ⟨(cellsOf [123,3,217900] sc sc.length).getD 0 0,(cellsOf [123,3,217900] sc sc.length).getD 1 0,(cellsOf [123,3,217900] sc sc.length).getD 2 0,?_⟩
  have hcs:=three hc3
  generalize (cellsOf [123,3,217900] sc sc.length).getD 0 0=c0 at *
  generalize (cellsOf [123,3,217900] sc sc.length).getD 1 0=c1 at *
  generalize (cellsOf [123,3,217900] sc sc.length).getD 2 0=c2 at *
  obtain ⟨P,hK⟩:=H.K
  obtain ⟨oc,od,osl,ho⟩:=fText.2 P
  have sz:sizeLine=16777216:=rfl
  have g1:C.mg "range"=none:=H.noGlob fun P=>by rfl
  have g2:C.mg "len"=none:=H.noGlob fun P=>by rfl
  refine FnM.intro (fd:=fText.1) ["script"] ["cells","k","size","steps","step","marks","place","octets"] 8 (by rw [hK];exact ho) (by rw [hK];rfl) rfl rfl rfl rfl (fun vals hv=>?_) rfl (by decide) (fun n x hx=>?_) (by decide) (fun A X L R hm=>?_)
  · obtain ⟨v,rfl⟩:=len1 hv;rfl
  · simp only [List.mem_cons,List.not_mem_nil,or_false] at hx
    subst hx;exact .inl rfl
  refine Ex.assignN 1 (ds:=[123,3,217900].map D.int) rfl (.c rfl rfl fun b hb=>List.mem_append_left _ (.tail _ hb)) (EvN.lst (EvL.cons Ev.int (EvL.cons Ev.int (EvL.cons Ev.int EvL.nil)))) (fun a haX haS=>?_) (fun b hb=>List.mem_append_left _ (nil_doms hb))
  refine Ex.forN 2 (d:=.rng 0 ((sc.length:Nat):Int) 1) (ds:=rngD 0 1 sc.length) R rfl (.l rfl (.tail _ (.head _))) ?_ (Ev.callB R (Ev.bltn g1 rfl rfl) (EvL.cons (Ev.callB (ds:=[D.is sc]) R (Ev.bltn g2 rfl rfl) (EvL.cons (Ev.name 0 rfl rfl) EvL.nil) (by have:=Bi.lenL (ds:=sc.map D.int) (by rw [List.length_map];exact Z.l394 sz hz);rwa [List.length_map] at this)) EvL.nil) Bi.range1) (upto_src _ (by exact Z.l395 hz))
    (fun k ρ μ=>∃ y,ρ=[some (D.is sc),some (.val (.ref a)),y,none,none,none,none,none,none]∧μ=[(a,.lst ((cellsOf [123,3,217900] sc k).map D.int))]) (fun _ _=>False) ?_ ?_ ?_ ?_ ?_ ?_
  · intro b hb
    rcases List.mem_cons.mp hb with rfl | hb
    · exact .head _
    · exact .tail _ (List.mem_append_left _ (nil_doms hb))
  · rintro i ρ μ ⟨y,_,rfl⟩;rfl
  · intro _ _ h;exact h.elim
  · exact ⟨none,rfl,rfl⟩
  · rintro wr k d ρ μ hd ⟨y,rfl,rfl⟩
    have hk:k < sc.length:=by
      have:=(List.getElem?_eq_some_iff.mp hd).1
      simpa [rngD] using this
    obtain rfl:d=D.n k:=by
      have:(rngD 0 1 sc.length)[k]?=some (D.n k):=by simp [rngD,hk]
      rw [this] at hd;cases hd;rfl
    have hl3:(cellsOf [123,3,217900] sc k).length=3:=cellsOf_len _ _ _
    have h3:k % 3 < (cellsOf [123,3,217900] sc k).length:=by rw [hl3];exact Z.l396
    have e3:((k:Int) % 3).toNat=k % 3:=by lia
    have p6:Bin .Pow (.int 10) (.int 6) (.int 1000000):=Bin.pow (by decide) (by decide) (by decide) (by decide)
    refine Ex.augItem (p:=[]) (q:=[]) (c:=a) (k:=(k:Int) % 3) (a:=.int ((cellsOf [123,3,217900] sc k).getD (k % 3) 0)) (b:=.int (sc.getD k 0 % 1000000)) (d:=.int ((cellsOf [123,3,217900] sc k).getD (k % 3) 0+sc.getD k 0 % 1000000)) R (Ev.name 1 rfl rfl) (Ev.bin R (Ev.name 2 rfl rfl) Ev.int (Bin.mod (by decide))) (by exact Z.l398) ?_ ?_ (Ev.bin R (Ev.itemL (ds:=sc.map D.int) R (Ev.name 0 rfl rfl) (Ev.name 2 rfl rfl) (by exact Z.l381) ?_ (by rw [List.length_map];exact Z.l394 sz hz)) (Ev.bin R Ev.int Ev.int p6) (Bin.mod (by decide))) Inp.add ?_ (Ex.nil fun s y=>⟨_,_,⟨_,rfl,?_⟩,y⟩)
    · rw [e3,List.getElem?_map,List.getElem?_eq_getElem h3,List.getD_eq_getElem?_getD,List.getElem?_eq_getElem h3];rfl
    · rw [List.length_map];exact Z.l399 hl3 sz
    · rw [List.getElem?_map,Int.toNat_natCast,List.getElem?_eq_getElem hk,List.getD_eq_getElem?_getD,List.getElem?_eq_getElem hk];rfl
    · intro z hz;have:z=a:=one_dom hz
      subst this;exact .head _
    · rw [e3,cellsOf,cellAt];simp [List.map_set]
  · rintro ρ μ ⟨y,rfl,rfl⟩
    rw [show (rngD 0 1 sc.length).length=sc.length from by simp [rngD],hcs]
    have hown:∀ b∈ownS (callEnvC fText.1 L 181)++doms [],b∈a::(ownS (callEnvC fText.1 L 181)++X):=fun b hb=>.tail _ (List.mem_append_left _ (nil_doms hb))
    refine Ex.freezeS (p:=[]) (q:=[]) 1 rfl haS hown fun X₁ hS₁ hX₁=>?_
    have hX₁:∀ b∈ownS (callEnvC fText.1 L 181)++X,b∈X₁:=fun b hb=>hX₁ b (.tail _ hb) fun e=>haX (e ▸ hb)
    have c3:([c0,c1,c2].map D.int).length≤sizeLine:=by show 3≤_;decide
    have m2:=Int.emod_nonneg c0 (b:=2) (by decide)
    have hs8:T2.size c0≤8∧7≤T2.size c0:=by unfold T2.size;exact Z.l476
    have hst:T2.step c0≤8∧2≤T2.step c0:=by
      unfold T2.step
      have:(c0 / 2 % 4).toNat < 4:=by exact Z.l477
      match h:(c0 / 2 % 4).toNat,this with
      | 0,_=>simp
      | 1,_=>simp
      | 2,_=>simp
      | 3,_=>simp;exact Z.l478 hs8
    refine Ex.assign 3 (d:=D.n (T2.size c0)) rfl (.l rfl (.head _)) ((Ev.bin R Ev.int (Ev.bin R (Ev.itemL (d:=.int c0) R (Ev.name 1 rfl rfl) Ev.int (by decide) rfl c3) Ev.int (Bin.mod (by decide))) Bin.add).as (by unfold T2.size D.n;congr 1;lia)) ?_
    refine Ex.assign 4 (d:=D.ns [2,3,4,T2.size c0]) rfl (.l rfl (.head _)) (Ev.lst (EvL.cons Ev.int (EvL.cons Ev.int (EvL.cons Ev.int (EvL.cons (Ev.name 3 rfl rfl) EvL.nil)))) (by show 4≤_;decide)) ?_
    refine Ex.assign 5 (d:=D.n (T2.step c0)) rfl (.c rfl rfl fun b hb=>List.mem_append_left _ (.tail _ hb)) (Ev.itemL (k:=c0 / 2 % 4) R (Ev.name 4 rfl rfl) (Ev.bin R (Ev.bin R (Ev.itemL (d:=.int c0) R (Ev.name 1 rfl rfl) Ev.int (by decide) rfl c3) Ev.int (Bin.div (by decide) (by decide))) Ev.int (Bin.mod (by decide))) (by exact Z.l480) ?_ (by simp;exact Z.l481 sz)) ?_
    · rw [List.getElem?_map]
      unfold T2.step
      have:(c0 / 2 % 4).toNat < 4:=by exact Z.l477
      rw [List.getD_eq_getElem?_getD,List.getElem?_eq_getElem (by simpa using this)];rfl
    refine Ex.assignCN 6 D.n (List.range (T2.size c0)) (fun _=>true) (fun k=>D.n (c1 / 3 ^ (k % T2.step c0) % 3).toNat) [(1,"cells"),(5,"step")] R rfl (.l rfl (.head _)) hS₁ (by rfl) (Ev.callB (ds:=[D.n (T2.size c0)]) R (Ev.bltn g1 rfl rfl) (EvL.cons (Ev.name 3 rfl rfl) EvL.nil) Bi.range1) (upto _ (by exact Z.l482 hs8)) (by simp;exact Z.l483 hs8 sz) (fun X' L' k hk=>⟨EvIfs.nil,fun _=>?_⟩) (fun b hbX hbS=>?_)
    · have hp:=pow3_lt (n:=k % T2.step c0) (by have:=Nat.mod_lt k (show 0 < T2.step c0 by exact Z.l484 hst);exact Z.l485 hst this)
      have hlt:=Nat.mod_lt k (show 0 < T2.step c0 by exact Z.l484 hst)
      refine (Ev.bin R (Ev.bin R (Ev.itemL (d:=.int c1) R (Ev.name 1 rfl rfl) Ev.int (by decide) rfl c3) (Ev.bin R Ev.int (Ev.bin R (Ev.name 0 rfl rfl) (Ev.name 2 rfl rfl) (Bin.mod (by exact Z.l486 hst))) (Bin.pow (by decide) (by decide) (Int.emod_nonneg _ (by exact Z.l487 hst)) ?_)) (Bin.div ?_ ?_)) Ev.int (Bin.mod (by decide))).as ?_
      · show ((k % T2.step c0:Nat):Int)≤1000
        exact Z.l488 hst hlt
      · rw [emod_n];exact hp.1
      · rw [emod_n];exact hp.2
      · rw [emod_n];unfold D.n;congr 1;lia
    rw [filter_yes,show (List.range (T2.size c0)).map (fun k=>D.n (c1 / 3 ^ (k % T2.step c0) % 3).toNat)=(T2.marks0 c0 c1).map D.n from by simp [T2.marks0]]
    have hm0:(T2.marks0 c0 c1).length=T2.size c0:=by simp [T2.marks0]
    refine Ex.assign 7 (d:=D.n (T2.place c0)) rfl (.l rfl (.tail _ (.head _))) ((Ev.bin R (Ev.bin R (Ev.itemL (d:=.int c0) R (Ev.name 1 rfl rfl) Ev.int (by decide) rfl c3) Ev.int (Bin.div (by decide) (by decide))) (Ev.bin R (Ev.name 3 rfl rfl) Ev.int Bin.add) (Bin.mod (by exact Z.l401))).as ?_) ?_
    · have:=Int.emod_nonneg (c0 / 8) (b:=(T2.size c0:Int)+1) (by exact Z.l373)
      unfold D.n T2.place;congr 1;push_cast;lia
    refine Ex.iteJ (c:=decide (((T2.place c0:Nat):Int) < ((T2.size c0:Nat):Int))) [some (D.is sc),some (.lst ([c0,c1,c2].map D.int)),y,some (D.n (T2.size c0)),some (D.ns [2,3,4,T2.size c0]),some (D.n (T2.step c0)),some (.val (.ref b)),some (D.n (T2.place c0)),none] [(b,.lst ((T2.marks c0 c1).map D.n))]
      (EvT.cmp R (Ev.name 7 rfl rfl) (Ev.name 3 rfl rfl) Cmp.lt) (fun h=>?_) (fun h=>?_) ?_
    · have h:=of_decide_eq_true h
      have hlt:T2.place c0 < T2.size c0:=by exact Z.l491 h
      refine Ex.setItem (p:=[]) (q:=[]) (c:=b) (k:=((T2.place c0:Nat):Int)) (d:=D.n (c0 / 72 % 3).toNat) ((Ev.bin R (Ev.bin R (Ev.itemL (d:=.int c0) R (Ev.name 1 rfl rfl) Ev.int (by decide) rfl c3) Ev.int (Bin.div (by decide) (by decide))) Ev.int (Bin.mod (by decide))).as ?_) (Ev.name 6 rfl rfl) (Ev.name 7 rfl rfl) (by exact Z.l381) ?_ ?_ ?_ (Ex.nil fun s y=>⟨rfl,?_⟩)
      · unfold D.n;congr 1;lia
      · rw [List.length_map,hm0];exact Z.l493 h
      · rw [List.length_map,hm0];exact Z.l483 hs8 sz
      · intro z hz;have:z=b:=one_dom hz
        subst this;exact .head _
      · have e:T2.marks c0 c1=(T2.marks0 c0 c1).set (T2.place c0) (c0 / 72 % 3).toNat:=by unfold T2.marks;rw [if_pos hlt]
        rw [e,List.map_set];exact y
    · have h:=of_decide_eq_false h
      have hlt:¬ T2.place c0 < T2.size c0:=by exact Z.l494 h
      refine Ex.nil fun s y=>⟨rfl,?_⟩
      have e:T2.marks c0 c1=T2.marks0 c0 c1:=by unfold T2.marks;rw [if_neg hlt]
      rw [e];exact y
    have hbo:b∉ownS (callEnvC fText.1 L 181)++doms []:=hbS
    refine Ex.freezeS (p:=[]) (q:=[]) 6 rfl hbo (fun z hz=>.tail _ (hS₁ z hz)) fun X₂ hS₂ hX₂=>?_
    have hX₂:∀ z∈ownS (callEnvC fText.1 L 181)++X,z∈X₂:=fun z hz=>hX₂ z (.tail _ (hX₁ z hz)) fun e=>hbX (e ▸ hX₁ z hz)
    have cell2:∀ {g:G} {ρ:List (Option D)} {μ:List (Addr × Mut)} {p pos ipos:Pos} {k:Nat} {x:Str},g.ns[1]?=some x→ρ[1]?=some (some (.lst ([c0,c1,c2].map D.int)))→True:=fun _ _=>trivial
    refine Ex.assign 8 (d:=D.ns (T2.octets c2)) rfl (.c rfl rfl fun b hb=>List.mem_append_left _ (.tail _ hb)) ((Ev.lst (ds:=[.int (c2 % 85),.int (85+c2 / 85 % 85),.int (170+c2 / 7225 % 86)]) (EvL.cons (Ev.bin R (Ev.itemL (d:=.int c2) R (Ev.name 1 rfl rfl) Ev.int (by decide) rfl c3) Ev.int (Bin.mod (by decide))) (EvL.cons (Ev.bin R Ev.int (Ev.bin R (Ev.bin R (Ev.itemL (d:=.int c2) R (Ev.name 1 rfl rfl) Ev.int (by decide) rfl c3) Ev.int (Bin.div (by decide) (by decide))) Ev.int (Bin.mod (by decide))) Bin.add)
      (EvL.cons (Ev.bin R Ev.int (Ev.bin R (Ev.bin R (Ev.itemL (d:=.int c2) R (Ev.name 1 rfl rfl) Ev.int (by decide) rfl c3) Ev.int (Bin.div (by decide) (by decide))) Ev.int (Bin.mod (by decide))) Bin.add) EvL.nil))) (by show 3≤_;decide)).as ?_) ?_
    · have e1:c2 % 85=((c2 % 85).toNat:Int):=by exact Z.l495
      have e2:85+c2 / 85 % 85=((85+(c2 / 85 % 85).toNat:Nat):Int):=by lia
      have e3:170+c2 / 7225 % 86=((170+(c2 / 7225 % 86).toNat:Nat):Int):=by lia
      unfold D.ns T2.octets
      rw [e1,e2,e3];simp
    have hmk:∀ m∈T2.marks c0 c1,m < 3:=by
      have h0:∀ m∈T2.marks0 c0 c1,m < 3:=fun m hm=>by
        obtain ⟨k,_,rfl⟩:=List.mem_map.mp hm
        exact Z.l367
      intro m hm
      unfold T2.marks at hm
      split at hm
      · rcases List.mem_or_eq_of_mem_set hm with q | q
        · exact h0 m q
        · rw [q];exact Z.l368
      · exact h0 m hm
    refine Ex.ret (d:=.tup [D.ns (T2.signs c0 c1 c2),D.ns (T2.octets c2),.s [T2.word c1]]) (Ev.tup (EvL.cons ((EvN.comp D.n (T2.marks c0 c1) (fun _=>true) (fun m=>D.n ((T2.octets c2).getD m 0)) [(8,"octets")] R (by rfl) (Ev.name 6 rfl rfl) Src.lst ?_ (fun X' L' m hm'=>⟨EvIfs.nil,fun _=>?_⟩)).ev.as ?_) (EvL.cons (Ev.name 8 rfl rfl) (EvL.cons (Ev.itemS (t:=[97,46,45,126,37]) (k:=c1 / 6561 % 5) (c:=T2.word c1) R (Ev.str (x:="a.-~%")) (Ev.bin R (Ev.bin R (Ev.itemL (d:=.int c1) R (Ev.name 1 rfl rfl) Ev.int (by decide) rfl c3) Ev.int (Bin.div (by decide) (by decide))) Ev.int (Bin.mod (by decide))) (by exact Z.l498) ?_ (by decide)) EvL.nil))) (by show 3≤_;decide)) fun v s y r=>⟨r.sub hX₂,fun _ h=>nomatch h⟩
    · have:(T2.marks c0 c1).length=T2.size c0:=by unfold T2.marks;split <;> simp [hm0]
      exact Z.l499 hs8 this sz
    · have h3:=hmk m hm'
      have hl:(T2.octets c2).length=3:=rfl
      refine Ev.itemL (ds:=(T2.octets c2).map D.n) (k:=(m:Int)) R (Ev.name 1 rfl rfl) (Ev.name 0 rfl rfl) (by exact Z.l381) ?_ (by show 3≤_;decide)
      rw [List.getElem?_map,Int.toNat_natCast,List.getD_eq_getElem?_getD,List.getElem?_eq_getElem (by exact Z.l370 hl h3)];rfl
    · rw [filter_yes];simp [T2.signs]
    · unfold T2.word
      rw [List.getD_eq_getElem?_getD,List.getElem?_eq_getElem (by simp;exact Z.l500)];rfl
  · intro _ _ h;exact h.elim
end Mine
end
section
open PySem PySem.Calls PySem.W PyProof.Rows
namespace Mine
noncomputable def fLongest:FnAt 201:=⟨_,fun P=>⟨_,_,_,rfl⟩⟩
namespace T2
noncomputable def late (st:List Nat):List Nat:=((List.range (st.length - 1)).filter fun k=>ordN .LtE (cut st (some ((1+k:Nat):Int)) none) st).map fun k=>1+k
noncomputable def longStep (r:List Nat) (start:Nat) (best i:Nat):Nat:=if late (cut r (some (start:Int)) (some ((start+2+i:Nat):Int)))=[] then 2+i else best
noncomputable def longest (r:List Nat) (start:Nat):Nat:=(List.range (r.length+1 - (start+2))).foldl (longStep r start) 1
end T2
theorem fn_longest {C:Cx} (H:Is2 C) (r:List Nat) (start:Nat) (hz:r.length≤1000) (hs:start < r.length):FnM C 1 (.ref 201) [D.ns r,D.n start] [] (D.n (T2.longest r start)) []:=by
  obtain ⟨P,hK⟩:=H.K
  obtain ⟨oc,od,osl,ho⟩:=fLongest.2 P
  have sz:sizeLine=16777216:=rfl
  have g1:C.mg "range"=none:=H.noGlob fun P=>by rfl
  have g2:C.mg "len"=none:=H.noGlob fun P=>by rfl
  refine FnM.intro (fd:=fLongest.1) ["row","start"] ["best","end","stretch"] 3 (by rw [hK];exact ho) (by rw [hK];rfl) rfl rfl rfl rfl (fun vals hv=>?_) rfl (by decide) (fun n x hx=>?_) (by decide) (fun A X L R hm=>?_)
  · obtain ⟨v,w,rfl⟩:=len2 hv;rfl
  · simp only [List.mem_cons,List.not_mem_nil,or_false] at hx
    rcases hx with rfl | rfl <;> exact .inl rfl
  refine Ex.assign 2 (d:=D.n 1) rfl (.l rfl (.head _)) Ev.int ?_
  refine Ex.forN 3 (d:=.rng ((start+2:Nat):Int) ((r.length+1:Nat):Int) 1) (ds:=(List.range (r.length+1 - (start+2))).map fun k=>D.n (start+2+k)) R rfl (.l rfl (.head _)) (fun b hb=>List.mem_append_left _ (nil_doms hb))
    (Ev.callB (ds:=[D.n (start+2),D.n (r.length+1)]) R (Ev.bltn g1 rfl rfl) (EvL.cons (Ev.bin R (Ev.name 1 rfl rfl) (Ev.int (i:=2)) Bin.addN) (EvL.cons (Ev.bin R (Ev.callB R (Ev.bltn g2 rfl rfl) (EvL.cons (Ev.name 0 rfl rfl) EvL.nil) (Bi.lenN (by exact Z.l501 sz hz))) (Ev.int (i:=1)) Bin.addN) EvL.nil)) Bi.range2) (upfrom (start+2) (r.length+1) (by exact Z.l502 hs) (by exact Z.l503 hz))
    (fun k ρ μ=>∃ x y,ρ=[some (D.ns r),some (D.n start),some (D.n ((List.range k).foldl (T2.longStep r start) 1)),x,y]∧μ=[]) (fun _ _=>False) ?_ ?_ ?_ ?_ ?_ ?_
  · rintro i ρ μ ⟨x,y,_,rfl⟩;rfl
  · intro _ _ h;exact h.elim
  · exact ⟨none,none,rfl,rfl⟩
  · rintro wr k d ρ μ hd ⟨x,y,rfl,rfl⟩
    obtain ⟨hk,rfl⟩:=range_at hd
    refine Ex.assign 4 (d:=D.ns (cut r (some (start:Int)) (some ((start+2+k:Nat):Int)))) rfl (.c rfl rfl fun b hb=>List.mem_append_left _ (.tail _ hb)) (Ev.sliceN R (Ev.name 0 rfl rfl) (EvP.some (Ev.name 1 rfl rfl)) (EvP.some (Ev.name 3 rfl rfl)) (by exact Z.l501 sz hz)) ?_
    have hst:(cut r (some (start:Int)) (some ((start+2+k:Nat):Int))).length=2+k:=by rw [cut_len (by exact Z.l504) (by exact Z.l505 hk)];exact Z.l506
    generalize hce:cut r (some (start:Int)) (some ((start+2+k:Nat):Int))=st at *
    have step:(List.range (k+1)).foldl (T2.longStep r start) 1=if T2.late st=[] then 2+k else (List.range k).foldl (T2.longStep r start) 1:=by
      rw [foldl_step,T2.longStep,hce]
    refine Ex.iteJ (c:=decide (T2.late st=[])) [some (D.ns r),some (D.n start),some (D.n ((List.range (k+1)).foldl (T2.longStep r start) 1)),some (D.n (start+2+k)),some (D.ns st)] []
      (EvT.cmp R ((EvN.comp (fun k=>D.n (1+k)) (List.range (st.length - 1)) (fun k=>ordN .LtE (cut st (some ((1+k:Nat):Int)) none) st) (fun k=>D.n (1+k)) [(4,"stretch")] R (by rfl) (Ev.callB (ds:=[D.n 1,D.n st.length]) R (Ev.bltn g1 rfl rfl) (EvL.cons (Ev.int (i:=1)) (EvL.cons (Ev.callB R (Ev.bltn g2 rfl rfl) (EvL.cons (Ev.name 4 rfl rfl) EvL.nil) (Bi.lenN (by exact Z.l507 hst sz hz hk))) EvL.nil)) Bi.range2) (upfrom 1 st.length (by exact Z.l508 hst) (by exact Z.l509 hst hz hk)) (by simp;exact Z.l510 hst sz hz hk) (fun X' L' j hj=>⟨EvIfs.one ?_,fun _=>Ev.name 0 rfl rfl⟩)).ev.as (d':=D.ns (T2.late st)) ?_) (Ev.lst (ds:=[]) EvL.nil) (Cmp.eqL Kd.nat (by decide) (T2.late st) [])) (fun h=>?_) (fun h=>?_) (Ex.nil fun s y=>⟨_,_,⟨_,_,rfl,rfl⟩,y⟩)
    · exact EvT.cmp R (Ev.sliceN R (Ev.name 1 rfl rfl) (EvP.some (Ev.name 0 rfl rfl)) EvP.none (by exact Z.l507 hst sz hz hk)) (Ev.name 1 rfl rfl) (Cmp.ordN .le _ _)
    · simp [T2.late,List.map_map,Function.comp_def]
    · have h:=of_decide_eq_true h
      refine Ex.assign 2 (d:=D.n (2+k)) rfl (.l rfl (.head _)) ((Ev.bin R (Ev.name 3 rfl rfl) (Ev.name 1 rfl rfl) Bin.minus).as (by unfold D.n;congr 1;exact Z.l511)) (Ex.nil fun s z=>⟨rfl,?_⟩)
      rw [step,if_pos h];exact z
    · have h:=of_decide_eq_false h
      refine Ex.nil fun s z=>⟨rfl,?_⟩
      rw [step,if_neg h];exact z
  · rintro ρ μ ⟨x,y,rfl,rfl⟩
    refine Ex.ret (d:=D.n (T2.longest r start)) ((Ev.name 2 rfl rfl).as ?_) fun v s y r=>⟨r,fun _ h=>nomatch h⟩
    simp [T2.longest]
  · intro _ _ h;exact h.elim
end Mine
end
section
open PySem PySem.Calls PySem.W PyProof.Rows
namespace Mine
noncomputable def fReach:FnAt 191:=⟨_,fun P=>⟨_,_,_,rfl⟩⟩
namespace T2
noncomputable def slash (w:List Nat):List Nat:=[47]++w
noncomputable def whole (ws:List (List Nat)):List Nat:=(ws.map slash).flatten
noncomputable def go (wh:List Nat):List Nat→List (List Nat)→Nat
  | _,[]=>0
  | front,w::r=>if suburi ([104],front++[47]++w) ([104],wh) then 1+go wh (front++[47]++w) r else 0
noncomputable def reach (ws:List (List Nat)) (start step:Nat):Nat:=go (whole (cut ws (some (start:Int)) none)) [] (ws.drop (start+step))
theorem whole_len {ws:List (List Nat)} (h:∀ w∈ws,w.length≤10):(whole ws).length≤11*ws.length:=by
  induction ws with
  | nil=>simp [whole]
  | cons w r ih =>
    have:=ih fun x hx=>h x (.tail _ hx)
    have hw:=h w (.head _)
    simp only [whole,slash,List.map_cons,List.flatten_cons,List.length_append,List.length_cons,List.length_nil] at this ⊢
    exact Z.l512 hw this
end T2
theorem fn_reach {C : Cx} (H : Is2 C) (m dx : Addr) (ws : List (List Nat)) (start step : Nat) (hw : ∀ w ∈ ws, w.length ≤ 10) (hz : ws.length ≤ 100) (hs : start + step ≤ ws.length) :
    FnM C 2 (.ref 191) [.val (.ref m),.lst (ws.map D.s),D.n start,D.n step] [(m,.inst 165 dx)] (D.n (T2.reach ws start step)) [(m,.inst 165 dx)]:=by
  obtain ⟨P,hK⟩:=H.K
  obtain ⟨oc,od,osl,ho⟩:=fReach.2 P
  have sz:sizeLine=16777216:=rfl
  have g1:C.mg "range"=none:=H.noGlob fun P=>by rfl
  have g2:C.mg "len"=none:=H.noGlob fun P=>by rfl
  refine FnM.intro (fd:=fReach.1) ["manager","words","start","step"] ["whole","front","k","told"] 4 (by rw [hK];exact ho) (by rw [hK];rfl) rfl rfl rfl rfl (fun vals hv=>?_) rfl (by decide) (fun n x hx=>?_) (by decide) (fun A X L R hm=>?_)
  · obtain ⟨v,w,x,y,rfl⟩:=len4 hv;rfl
  · simp only [List.mem_cons,List.not_mem_nil,or_false] at hx
    rcases hx with rfl | rfl | rfl | rfl <;> exact .inl rfl
  have R0:Room A 0:=R.zero
  have hown:∀ b∈ownS (callEnvC fReach.1 L 191)++doms [(m,Mut.inst 165 dx)],b∈ownS (callEnvC fReach.1 L 191)++X:=fun b hb=>(List.mem_append.mp hb).elim (fun h=>List.mem_append_left _ h) fun h=>List.mem_append_right _ (hm b h).1
  have hcl:(cut ws (some (start:Int)) none).length≤ws.length:=cut_len_le _ _ _
  have hcw:∀ w∈cut ws (some (start:Int)) none,w.length≤10:=fun w h=>hw w (List.mem_of_mem_drop (List.mem_of_mem_take h))
  have hwl:=T2.whole_len hcw
  refine Ex.assignB 4 (d:=.s (T2.whole (cut ws (some (start:Int)) none))) rfl (.l rfl (.head _)) (EvB.join (ls:=(cut ws (some (start:Int)) none).map T2.slash) R0 ((EvN.comp D.s (cut ws (some (start:Int)) none) (fun _=>true) (fun w=>D.s (T2.slash w)) [] R0 (by rfl) ((Ev.sliceL R0 (Ev.name 1 rfl rfl) (EvP.some (Ev.name 2 rfl rfl)) EvP.none (by rw [List.length_map];exact Z.l513 sz hz)).as (by rw [cut_map])) Src.lst (by exact Z.l514 sz hcl hz) (fun X' L' w hw'=>⟨EvIfs.nil,fun _=>Ev.bin R0 (Ev.str (x:="/")) (Ev.name 0 rfl rfl) (Bin.addS (a:=[47]) (by have:=hcw w hw';simp;exact Z.l515 sz this))⟩)).ev.as (by rw [filter_yes,List.map_map];rfl)) (by simp only [T2.whole] at hwl;rw [List.length_map];exact Z.l516 hwl hcl hz)) ?_
  generalize hWH:T2.whole (cut ws (some (start:Int)) none)=wh at *
  refine Ex.assign 5 (d:=.s []) rfl (.l rfl (.head _)) (Ev.str (x:="")) ?_
  refine Ex.forN 6 (d:=.rng ((start+step:Nat):Int) ((ws.length:Nat):Int) 1) (ds:=(List.range (ws.length - (start+step))).map fun k=>D.n (start+step+k)) R0 rfl (.l rfl (.head _)) hown
    (Ev.callB (ds:=[D.n (start+step),D.n ws.length]) R0 (Ev.bltn g1 rfl rfl) (EvL.cons (Ev.bin R0 (Ev.name 2 rfl rfl) (Ev.name 3 rfl rfl) Bin.addN) (EvL.cons (Ev.callB (ds:=[.lst (ws.map D.s)]) R0 (Ev.bltn g2 rfl rfl) (EvL.cons (Ev.name 1 rfl rfl) EvL.nil) (by have:=Bi.lenL (ds:=ws.map D.s) (by rw [List.length_map];exact Z.l513 sz hz);rwa [List.length_map] at this)) EvL.nil)) Bi.range2) (upfrom (start+step) ws.length (by exact Z.l278 hs) (by exact Z.l517 hz))
    (fun j ρ μ=>∃ x y front,front.length≤11*j∧T2.reach ws start step=j+T2.go wh front ((ws.drop (start+step)).drop j)∧ρ=[some (.val (.ref m)),some (.lst (ws.map D.s)),some (D.n start),some (D.n step),some (.s wh),some (.s front),x,y]∧μ=[(m,.inst 165 dx)]) (fun _ _=>False) ?_ ?_ ?_ ?_ ?_ ?_
  · rintro i ρ μ ⟨x,y,_,_,_,_,rfl⟩;rfl
  · intro _ _ h;exact h.elim
  · exact ⟨none,none,[],by simp,by simp [T2.reach,hWH],rfl,rfl⟩
  · rintro wr k d ρ μ hd ⟨x,y,front,hf,hre,rfl,rfl⟩
    obtain ⟨hk,rfl⟩:=range_at hd
    have hlt:start+step+k < ws.length:=by exact Z.l518 hk
    have hwk:=hw _ (List.getElem_mem hlt)
    have hdr:(ws.drop (start+step)).drop k=ws[start+step+k]::(ws.drop (start+step)).drop (k+1):=by
      rw [List.drop_drop,List.drop_drop,List.drop_eq_getElem_cons (by exact Z.l519 hlt)];rfl
    have hmem:(m,Mut.inst 165 dx)∈[(m,Mut.inst 165 dx)]:=.head _
    refine Ex.assign 5 (d:=.s (front++[47]++ws[start+step+k])) rfl (.l rfl (.head _)) (Ev.bin R0 (Ev.bin R0 (Ev.name 5 rfl rfl) (Ev.str (x:="/")) (Bin.addS (b:=[47]) (by simp;exact Z.l520 sz hf hz hlt))) (Ev.itemL (ds:=ws.map D.s) (k:=((start+step+k:Nat):Int)) R0 (Ev.name 1 rfl rfl) (Ev.name 6 rfl rfl) (by exact Z.l521) (by rw [List.getElem?_map,Int.toNat_natCast,List.getElem?_eq_getElem hlt];rfl) (by rw [List.length_map];exact Z.l513 sz hz)) (Bin.addS (by simp;exact Z.l522 sz hf hwk hz hlt))) ?_
    have hfl:(front++[47]++ws[start+step+k]).length≤11*(k+1):=by simp;exact Z.l523 hf hwk
    have hgo:T2.go wh front ((ws.drop (start+step)).drop k)=if suburi ([104],front++[47]++ws[start+step+k]) ([104],wh) then 1+T2.go wh (front++[47]++ws[start+step+k]) ((ws.drop (start+step)).drop (k+1)) else 0:=by rw [hdr,T2.go]
    generalize front++[47]++ws[start+step+k]=fr at *
    refine Ex.assign 7 (d:=D.bool (suburi ([104],fr) ([104],wh))) rfl (.l rfl (.head _)) (Ev.own (m:=.inst 165 dx) R (Ev.name 0 rfl rfl) hmem rfl (by rw [hK];exact mgrOk P) (by rw [hK];exact mSub P) (by decide) (EvL.cons (Ev.tup (EvL.cons (Ev.str (x:="h")) (EvL.cons (Ev.name 5 rfl rfl) EvL.nil)) (by show 2≤_;decide)) (EvL.cons (Ev.tup (EvL.cons (Ev.str (x:="h")) (EvL.cons (Ev.name 4 rfl rfl) EvL.nil)) (by show 2≤_;decide)) EvL.nil)) (fn_sub H (.ref m) ([104],fr) ([104],wh) (by show fr.length≤_;exact Z.l524 hfl hz hlt) (by show 1≤_;decide) (by show wh.length≤_;exact Z.l525 hwl hz hcl))) ?_
    generalize suburi ([104],fr) ([104],wh)=b at *
    refine Ex.ite (c:=decide (b=false)) (EvT.cmp R0 (Ev.name 7 rfl rfl) Ev.bool (Cmp.isB b false)) (fun h=>?_) (fun h=>?_)
    · have h:=of_decide_eq_true h
      subst h
      refine Ex.ret (d:=D.n (T2.reach ws start step)) ((Ev.bin R0 (Ev.bin R0 (Ev.name 6 rfl rfl) (Ev.name 2 rfl rfl) Bin.minus) (Ev.name 3 rfl rfl) Bin.minus).as ?_) fun v s y r=>⟨r.sub fun a ha=>List.mem_append_right _ ha,fun p hp=>(y.muts p hp).sub fun a ha=>List.mem_append_right _ ha⟩
      rw [hre,hgo,if_neg (by decide)];unfold D.n;congr 1;exact Z.l526
    · have h:=of_decide_eq_false h
      have hb:b=true:=by simpa using h
      subst hb
      refine Ex.go (Ex.ite (c:=decide (true≠true)) (EvT.cmp R0 (Ev.name 7 rfl rfl) Ev.bool (Cmp.isNotB true true)) (fun h=>absurd h (by decide)) (fun h=>Ex.go (Ex.nil fun s z=>⟨_,_,⟨_,_,fr,hfl,?_,rfl,rfl⟩,z⟩)))
      rw [hre,hgo,if_pos rfl];exact Z.l300
  · rintro ρ μ ⟨x,y,front,hf,hre,rfl,rfl⟩
    refine Ex.ret (d:=D.n (T2.reach ws start step)) ((Ev.bin R0 (Ev.bin R0 (Ev.callB (ds:=[.lst (ws.map D.s)]) R0 (Ev.bltn g2 rfl rfl) (EvL.cons (Ev.name 1 rfl rfl) EvL.nil) (by have:=Bi.lenL (ds:=ws.map D.s) (by rw [List.length_map];exact Z.l513 sz hz);rwa [List.length_map] at this)) (Ev.name 2 rfl rfl) Bin.minus) (Ev.name 3 rfl rfl) Bin.minus).as ?_) fun v s y r=>⟨r,y.muts⟩
    have hl:((List.range (ws.length - (start+step))).map fun k=>D.n (start+step+k)).length=ws.length - (start+step):=by simp
    rw [hl] at hre
    have:(ws.drop (start+step)).drop (ws.length - (start+step))=[]:=by rw [List.drop_drop];exact List.drop_eq_nil_of_le (by exact Z.l527)
    rw [this,T2.go] at hre
    rw [hre];unfold D.n;congr 1;lia
  · intro _ _ h;exact h.elim
end Mine
end
section
open PySem PySem.Calls PySem.W PyProof.Rows
namespace Mine
theorem T2.runStep_len (s:List Nat) (step begin:Nat) (acc:List (Nat × Nat × Nat)) (i:Nat):(T2.runStep s step begin acc i).length≤acc.length+1:=by
  unfold T2.runStep
  split
  · split
    · simp
    · exact Z.l529
  · exact Z.l529
theorem getD_at {l:List Nat} {k:Nat} (h:k < l.length):l[k]?=some (l.getD k 0):=by rw [List.getD_eq_getElem?_getD,List.getElem?_eq_getElem h];rfl
noncomputable def fRuns:FnAt 196:=⟨_,fun P=>⟨_,_,_,rfl⟩⟩
theorem fn_runs {C:Cx} (H:Is2 C) (sg:List Nat) (hz:sg.length=7∨sg.length=8):FnM C 1 (.ref 196) [D.ns sg] [] (.lst ((T2.runs sg).map D.n3)) []:=by
  obtain ⟨P,hK⟩:=H.K
  obtain ⟨oc,od,osl,ho⟩:=fRuns.2 P
  have sz:sizeLine=16777216:=rfl
  have g1:C.mg "range"=none:=H.noGlob fun P=>by rfl
  have g2:C.mg "len"=none:=H.noGlob fun P=>by rfl
  have g3:C.mg "sorted"=none:=H.noGlob fun P=>by rfl
  have hz8:sg.length≤8:=by exact Z.l530 hz
  refine FnM.intro (fd:=fRuns.1) ["signs"] ["size","runs","step","begin","end","ahead","behind"] 7 (by rw [hK];exact ho) (by rw [hK];rfl) rfl rfl rfl rfl (fun vals hv=>?_) rfl (by decide) (fun n x hx=>?_) (by decide) (fun A X L R hm=>?_)
  · obtain ⟨v,rfl⟩:=len1 hv;rfl
  · simp only [List.mem_cons,List.not_mem_nil,or_false] at hx
    subst hx;exact .inl rfl
  refine Ex.assign 1 (d:=D.n sg.length) rfl (.l rfl (.head _)) (Ev.callB R (Ev.bltn g2 rfl rfl) (EvL.cons (Ev.name 0 rfl rfl) EvL.nil) (Bi.lenN (by exact Z.l531 sz hz8))) ?_
  refine Ex.assignN 2 (ds:=[]) rfl (.l rfl (.head _)) (EvN.lst EvL.nil) (fun a haX haS=>?_) (fun b hb=>List.mem_append_left _ (nil_doms hb))
  have hcell:∀ b∈(callEnvC fRuns.1 L 196).cells.map (·.2),b∈a::(ownS (callEnvC fRuns.1 L 196)++doms []):=fun b hb=>.tail _ (List.mem_append_left _ (.tail _ hb))
  have hown:∀ b∈a::(ownS (callEnvC fRuns.1 L 196)++doms []),b∈a::(ownS (callEnvC fRuns.1 L 196)++X):=fun b hb=>by
    rcases List.mem_cons.mp hb with rfl | hb
    · exact .head _
    · exact .tail _ (List.mem_append_left _ (nil_doms hb))
  refine Ex.forN 3 (d:=.rng ((1:Nat):Int) ((sg.length / 2+1:Nat):Int) 1) (ds:=(List.range (sg.length / 2+1 - 1)).map fun k=>D.n (1+k)) R rfl (.l rfl (.tail _ (.head _))) hown
    (Ev.callB (ds:=[D.n 1,D.n (sg.length / 2+1)]) R (Ev.bltn g1 rfl rfl) (EvL.cons (Ev.int (i:=1)) (EvL.cons (Ev.bin R (Ev.bin R (Ev.name 1 rfl rfl) (Ev.int (i:=2)) (Bin.divN (by decide) (by decide))) (Ev.int (i:=1)) Bin.addN) EvL.nil)) Bi.range2) (upfrom 1 (sg.length / 2+1) (by exact Z.l532) (by exact Z.l533 hz8))
    (fun k ρ μ=>∃ s b e ah bh,ρ=[some (D.ns sg),some (D.n sg.length),some (.val (.ref a)),s,b,e,ah,bh]∧μ=[(a,.lst (((List.range k).foldl (T2.runsB sg) []).map D.n3))]∧((List.range k).foldl (T2.runsB sg) []).length≤100*k) (fun _ _=>False) ?_ ?_ ?_ ?_ ?_ ?_
  · rintro i ρ μ ⟨s,b,e,ah,bh,_,rfl,_⟩;rfl
  · intro _ _ h;exact h.elim
  · exact ⟨none,none,none,none,none,rfl,rfl,by simp⟩
  · rintro wr i d ρ μ hd ⟨s,b,e,ah,bh,rfl,rfl,hacc⟩
    obtain ⟨hi,rfl⟩:=range_at hd
    rw [foldl_step]
    generalize hA:(List.range i).foldl (T2.runsB sg) []=acc at *
    have hcl2:∀ {Y:List Addr},∀ z∈a::(ownS (callEnvC fRuns.1 L 196)++doms []),z∈Y++(a::(ownS (callEnvC fRuns.1 L 196)++X)):=fun z hz=>List.mem_append_right _ (hown z hz)
    refine Ex.forN 4 (d:=.rng 0 ((sg.length - 2*(1+i)+1:Nat):Int) 1) (ds:=(List.range (sg.length - 2*(1+i)+1)).map D.n) R rfl (.c rfl rfl hcell) hcl2
      (Ev.callB (ds:=[D.n (sg.length - 2*(1+i)+1)]) R (Ev.bltn g1 rfl rfl) (EvL.cons (Ev.bin R (Ev.bin R (Ev.name 1 rfl rfl) (Ev.bin R (Ev.int (i:=2)) (Ev.name 3 rfl rfl) (Bin.mulN (a:=2) (by decide))) (Bin.subN (by exact Z.l534 hi))) (Ev.int (i:=1)) Bin.addN) EvL.nil) Bi.range1) (upto _ (by exact Z.l535 hz8))
      (fun j ρ μ=>∃ b e ah bh,ρ=[some (D.ns sg),some (D.n sg.length),some (.val (.ref a)),some (D.n (1+i)),b,e,ah,bh]∧μ=[(a,.lst (((List.range j).foldl (T2.runsE sg (1+i)) acc).map D.n3))]∧((List.range j).foldl (T2.runsE sg (1+i)) acc).length≤100*i+10*j) (fun _ _=>False) ?_ ?_ ?_ ?_ ?_ ?_
    · rintro i ρ μ ⟨b,e,ah,bh,_,rfl,_⟩;rfl
    · intro _ _ h;exact h.elim
    · exact ⟨b,e,ah,bh,rfl,rfl,by simpa using hacc⟩
    · rintro wr2 j d ρ μ hd ⟨b,e,ah,bh,rfl,rfl,hacc2⟩
      obtain ⟨hj,rfl⟩:=range_at hd
      rw [foldl_step]
      generalize hA2:(List.range j).foldl (T2.runsE sg (1+i)) acc=acc2 at *
      have hcl3:∀ {Y Z:List Addr},∀ z∈a::(ownS (callEnvC fRuns.1 L 196)++doms []),z∈Y++(Z++(a::(ownS (callEnvC fRuns.1 L 196)++X))):=fun z hz=>List.mem_append_right _ (List.mem_append_right _ (hown z hz))
      refine Ex.forN 5 (d:=.rng ((j+2*(1+i):Nat):Int) ((sg.length+1:Nat):Int) 1) (ds:=(List.range (sg.length+1 - (j+2*(1+i)))).map fun k=>D.n (j+2*(1+i)+k)) R rfl (.c rfl rfl hcell) hcl3
        (Ev.callB (ds:=[D.n (j+2*(1+i)),D.n (sg.length+1)]) R (Ev.bltn g1 rfl rfl) (EvL.cons (Ev.bin R (Ev.name 4 rfl rfl) (Ev.bin R (Ev.int (i:=2)) (Ev.name 3 rfl rfl) (Bin.mulN (a:=2) (by decide))) Bin.addN) (EvL.cons (Ev.bin R (Ev.name 1 rfl rfl) (Ev.int (i:=1)) Bin.addN) EvL.nil)) Bi.range2) (upfrom (j+2*(1+i)) (sg.length+1) (by lia) (by exact Z.l537 hz8))
        (fun k ρ μ=>∃ e ah bh,ρ=[some (D.ns sg),some (D.n sg.length),some (.val (.ref a)),some (D.n (1+i)),some (D.n j),e,ah,bh]∧μ=[(a,.lst (((List.range k).foldl (T2.runStep sg (1+i) j) acc2).map D.n3))]∧((List.range k).foldl (T2.runStep sg (1+i) j) acc2).length≤100*i+10*j+k) (fun _ _=>False) ?_ ?_ ?_ ?_ ?_ ?_
      · rintro i ρ μ ⟨e,ah,bh,_,rfl,_⟩;rfl
      · intro _ _ h;exact h.elim
      · exact ⟨e,ah,bh,rfl,rfl,by simpa using hacc2⟩
      · rintro wr3 k d ρ μ hd ⟨e,ah,bh,rfl,rfl,hacc3⟩
        obtain ⟨hk,rfl⟩:=range_at hd
        have hsl:=T2.runStep_len sg (1+i) j ((List.range k).foldl (T2.runStep sg (1+i) j) acc2) k
        have hrs:T2.runStep sg (1+i) j ((List.range k).foldl (T2.runStep sg (1+i) j) acc2) k=if T2.isRun sg (1+i) j (j+2*(1+i)+k)=true then if T2.told ((List.range k).foldl (T2.runStep sg (1+i) j) acc2) j (j+2*(1+i)+k)=[] then ((List.range k).foldl (T2.runStep sg (1+i) j) acc2)++[(j,j+2*(1+i)+k,1+i)] else ((List.range k).foldl (T2.runStep sg (1+i) j) acc2) else ((List.range k).foldl (T2.runStep sg (1+i) j) acc2):=rfl
        rw [foldl_step]
        generalize (List.range k).foldl (T2.runStep sg (1+i) j) acc2=acc3 at *
        generalize T2.runStep sg (1+i) j acc3 k=acc4 at *
        have he2:2*(1+i)≤j+2*(1+i)+k:=by exact Z.l538
        have hes:j+2*(1+i)+k≤sg.length:=by exact Z.l539 hk
        generalize j+2*(1+i)+k=e' at *
        refine Ex.assign 6 (d:=D.bool (T2.ahead sg (1+i) j)) rfl (.l rfl (.tail _ (.head _))) (Ev.and (EvAndV.cons (Ev.cmp R (Ev.name 4 rfl rfl) (Ev.int (i:=0)) (Cmp.gtN (b:=0))) (fun h=>EvAndV.one (Ev.cmp R (Ev.itemN R (Ev.name 0 rfl rfl) (Ev.bin R (Ev.name 4 rfl rfl) (Ev.int (i:=1)) (Bin.subN (b:=1) (of_decide_eq_true h))) (getD_at (by exact Z.l540 hk)) (by exact Z.l531 sz hz8)) (Ev.itemN R (Ev.name 0 rfl rfl) (Ev.bin R (Ev.bin R (Ev.name 4 rfl rfl) (Ev.int (i:=1)) (Bin.subN (b:=1) (of_decide_eq_true h))) (Ev.name 3 rfl rfl) Bin.addN) (getD_at (by lia)) (by exact Z.l531 sz hz8)) Cmp.eqN)))) ?_
        refine Ex.assign 7 (d:=D.bool (T2.behind sg (1+i) e')) rfl (.l rfl (.tail _ (.head _))) (Ev.and (EvAndV.cons (Ev.cmp R (Ev.name 5 rfl rfl) (Ev.name 1 rfl rfl) Cmp.ltN) (fun h=>EvAndV.one (Ev.cmp R (Ev.itemN R (Ev.name 0 rfl rfl) (Ev.name 5 rfl rfl) (getD_at (of_decide_eq_true h)) (by exact Z.l531 sz hz8)) (Ev.itemN R (Ev.name 0 rfl rfl) (Ev.bin R (Ev.name 5 rfl rfl) (Ev.name 3 rfl rfl) (Bin.subN (by exact Z.l542 he2))) (getD_at (by have:=of_decide_eq_true h;exact Z.l543 this)) (by exact Z.l531 sz hz8)) Cmp.eqN)))) ?_
        refine Ex.iteJ (c:=T2.isRun sg (1+i) j e') [some (D.ns sg),some (D.n sg.length),some (.val (.ref a)),some (D.n (1+i)),some (D.n j),some (D.n e'),some (D.bool (T2.ahead sg (1+i) j)),some (D.bool (T2.behind sg (1+i) e'))] [(a,.lst (acc4.map D.n3))]
          (EvT.and (EvAnd.cons (EvT.cmp R (Ev.sliceN R (Ev.name 0 rfl rfl) (EvP.some (Ev.name 4 rfl rfl)) (EvP.some (Ev.bin R (Ev.name 5 rfl rfl) (Ev.name 3 rfl rfl) (Bin.subN (by exact Z.l542 he2)))) (by exact Z.l531 sz hz8)) (Ev.sliceN R (Ev.name 0 rfl rfl) (EvP.some (Ev.bin R (Ev.name 4 rfl rfl) (Ev.name 3 rfl rfl) Bin.addN)) (EvP.some (Ev.name 5 rfl rfl)) (by exact Z.l531 sz hz8)) (Cmp.eqL Kd.nat (by decide) _ _)) fun _=>EvAnd.cons (EvT.not (EvT.val R (Ev.name 6 rfl rfl) (Tru.bool _))) fun _=>EvAnd.cons (EvT.not (EvT.val R (Ev.name 7 rfl rfl) (Tru.bool _))) fun _=>EvAnd.nil)) (fun h=>?_) (fun h=>?_) (Ex.nil fun s z=>⟨_,_,⟨_,_,_,rfl,rfl,by exact Z.l544 hsl hacc3⟩,z⟩)
        · rw [if_pos h] at hrs
          refine Ex.iteJ (c:=decide (T2.told acc3 j e'=[])) [some (D.ns sg),some (D.n sg.length),some (.val (.ref a)),some (D.n (1+i)),some (D.n j),some (D.n e'),some (D.bool (T2.ahead sg (1+i) j)),some (D.bool (T2.behind sg (1+i) e'))] [(a,.lst (acc4.map D.n3))]
            (EvT.look (p:=[]) (q:=[]) 2 rfl (EvT.cmp R ((EvN.comp D.n3 acc3 (fun x=>decide (x.1=j) && (decide (x.2.1=e') && true)) D.n3 [(4,"begin"),(5,"end")] R (by rfl) (Ev.name 2 rfl rfl) Src.lst (by exact Z.l545 sz hacc3 hz8 hk) (fun X' L' x hx=>⟨EvIfs.one (EvT.and (EvAnd.cons (EvT.cmp R (Ev.itemT (d:=D.n x.1) R (Ev.name 0 rfl rfl) Ev.int (by decide) rfl (by show 3≤_;decide)) (Ev.name 1 rfl rfl) Cmp.eqN) fun _=>EvAnd.cons (EvT.cmp R (Ev.itemT (d:=D.n x.2.1) R (Ev.name 0 rfl rfl) Ev.int (by decide) rfl (by show 3≤_;decide)) (Ev.name 2 rfl rfl) Cmp.eqN) fun _=>EvAnd.nil)),fun _=>Ev.name 0 rfl rfl⟩)).ev) (Ev.lst (ds:=[]) EvL.nil) (Cmp.eqL Kd.n3 (by decide) (T2.told acc3 j e') []))) (fun h=>?_) (fun h=>?_) (Ex.nil fun s z=>⟨rfl,z⟩)
          · rw [if_pos (of_decide_eq_true h)] at hrs
            refine Ex.append 2 0 (Ev.name 2 rfl rfl) rfl (fun z hz=>?_) (Ev.tup (EvL.cons (Ev.name 4 rfl rfl) (EvL.cons (Ev.name 5 rfl rfl) (EvL.cons (Ev.name 3 rfl rfl) EvL.nil))) (by show 3≤_;decide)) (by rw [List.length_map];exact Z.l545 sz hacc3 hz8 hk) (Ex.nil fun s z=>⟨rfl,?_⟩)
            · have:z=a:=one_dom hz
              subst this;exact .head _
            · rw [hrs,List.map_append];exact z
          · rw [if_neg (of_decide_eq_false h)] at hrs
            exact Ex.nil fun s z=>⟨rfl,by rw [hrs];exact z⟩
        · rw [if_neg (by rw [h];decide)] at hrs
          exact Ex.nil fun s z=>⟨rfl,by rw [hrs];exact z⟩
      · rintro ρ μ ⟨e,ah,bh,rfl,rfl,hacc3⟩
        have hl:((List.range (sg.length+1 - (j+2*(1+i)))).map fun k=>D.n (j+2*(1+i)+k)).length=sg.length+1 - (j+2*(1+i)):=by simp
        rw [hl] at hacc3
        rw [hl]
        change (T2.runsE sg (1+i) acc2 j).length≤_ at hacc3
        exact Ex.nil fun s z=>⟨_,_,⟨_,_,_,_,rfl,rfl,by exact Z.l546 hacc3 hz8⟩,z⟩
      · intro _ _ h;exact h.elim
    · rintro ρ μ ⟨b,e,ah,bh,rfl,rfl,hacc2⟩
      have hl:((List.range (sg.length - 2*(1+i)+1)).map D.n).length=sg.length - 2*(1+i)+1:=by simp
      rw [hl] at hacc2
      rw [hl]
      change (T2.runsB sg acc i).length≤_ at hacc2
      exact Ex.nil fun s z=>⟨_,_,⟨_,_,_,_,_,rfl,rfl,by exact Z.l547 hacc2 hz8⟩,z⟩
    · intro _ _ h;exact h.elim
  · rintro ρ μ ⟨s,b,e,ah,bh,rfl,rfl,hacc⟩
    have hl:((List.range (sg.length / 2+1 - 1)).map fun k=>D.n (1+k)).length=sg.length / 2:=by simp
    rw [hl,show (List.range (sg.length / 2)).foldl (T2.runsB sg) []=T2.runs0 sg from rfl]
    refine Ex.freezeS (p:=[]) (q:=[]) 2 rfl haS (fun b hb=>hown b (.tail _ hb)) fun X₁ hS₁ hX₁=>?_
    have hX₁:∀ b∈ownS (callEnvC fRuns.1 L 196)++X,b∈X₁:=fun b hb=>hX₁ b (.tail _ hb) fun e=>haX (e ▸ hb)
    have hlen:=T2.runs0_len sg hz
    refine Ex.ret (d:=.lst ((T2.runs sg).map D.n3)) ((Ev.sortedT (ts:=(T2.runs0 sg).map fun x=>((x.1:Int),(x.2.1:Int),(x.2.2:Int))) R (Ev.bltn g3 rfl rfl) ((Ev.name 2 rfl rfl).as (by rw [List.map_map];rfl)) (by rw [List.length_map];exact hlen)).as ?_) fun v s y r=>⟨r.sub hX₁,fun _ h=>nomatch h⟩
    have hp:=pysort_map (fun x:Nat × Nat × Nat=>((x.1:Int),(x.2.1:Int),(x.2.2:Int))) (0,0,0) ltT (T2.runs0 sg)
    have hp':pysort (0,0,0) ltT ((T2.runs0 sg).map fun x:Nat × Nat × Nat=>((x.1:Int),(x.2.1:Int),(x.2.2:Int)))=(T2.runs sg).map fun x:Nat × Nat × Nat=>((x.1:Int),(x.2.1:Int),(x.2.2:Int)):=hp
    rw [hp',List.map_map];rfl
  · intro _ _ h;exact h.elim
end Mine
end
section
open PySem PySem.Calls PySem.W PyProof.Rows
namespace Mine
noncomputable def fRoots:FnAt 186:=⟨_,fun P=>⟨_,_,_,rfl⟩⟩
namespace T2
noncomputable abbrev Pc:=List Nat × List Nat
noncomputable def top (xs:List Pc):Pc:=xs.getLast?.getD ([],[])
noncomputable def less (way:Nat) (a b:List Nat):Bool:=if way=0 then coll a b == -1 else decide (a < b)
noncomputable def climb (way:Nat):Nat→List Pc→List Nat→List Pc × List Nat
  | 0,xs,root=>(xs,root)
  | n+1,xs,root =>
    if (top xs).1++(top xs).2=[] then (xs.dropLast,root)
    else if less way root ((top xs).1++(top xs).2)=true then climb way n xs.dropLast (root++((top xs).1++(top xs).2))
    else (xs.dropLast++[top xs],root)
noncomputable def rootStep (way:Nat) (st:List Pc × List Nat) (c:Nat):List Pc × List Nat :=
  ((climb way st.2.length st.1 [c]).1++[((climb way st.2.length st.1 [c]).2.take 1,(climb way st.2.length st.1 [c]).2.drop 1)],st.2++[(climb way st.2.length st.1 [c]).2.length])
noncomputable def build (way:Nat) (l:List Nat):List Pc × List Nat:=l.foldl (rootStep way) ([],[])
noncomputable def plen (xs:List Pc):Nat:=(xs.map fun p=>p.1.length+p.2.length).sum
theorem plen_app (xs ys:List Pc):plen (xs++ys)=plen xs+plen ys:=by simp [plen]
theorem plen_drop (xs:List Pc):plen xs.dropLast+((top xs).1++(top xs).2).length=plen xs:=by
  cases h:xs.getLast? with
  | none=>rw [List.getLast?_eq_none_iff] at h;subst h;rfl
  | some p =>
    have e:xs.dropLast++[p]=xs:=by
      obtain ⟨ys,rfl⟩:=List.getLast?_eq_some_iff.mp h
      simp
    have ht:top xs=p:=by simp [top,h]
    rw [ht]
    have:=plen_app xs.dropLast [p]
    rw [e] at this
    rw [this];simp [plen]
theorem plen_mem {xs:List Pc} {p:Pc} (h:p∈xs):p.1.length+p.2.length≤plen xs:=by
  induction xs with
  | nil=>cases h
  | cons q r ih =>
    unfold plen
    rw [List.map_cons,List.sum_cons]
    rcases List.mem_cons.mp h with rfl | h
    · exact Z.l548
    · have:=ih h;unfold plen at this;exact Z.l549 this
theorem lenOf_plen (xs:List Pc):lenOf xs=(plen xs:Int):=by
  unfold lenOf plen
  induction xs with
  | nil=>rfl
  | cons p r ih=>simp only [List.map_cons,List.sum_cons,ih];push_cast;exact Z.l550
theorem top_D (xs:List Pc):((xs.map D.ss).getLast?.getD (.tup [.s [],.s []]))=D.ss (top xs):=by
  unfold top
  rw [List.getLast?_map]
  cases xs.getLast? <;> rfl
theorem climb_ok (way:Nat):∀ (n:Nat) (xs:List Pc) (root:List Nat),plen (climb way n xs root).1+(climb way n xs root).2.length=plen xs+root.length∧(climb way n xs root).1.length≤xs.length∧root.length≤(climb way n xs root).2.length
  | 0,xs,root=>⟨rfl,Nat.le_refl _,Nat.le_refl _⟩
  | n+1,xs,root=>by
    have hd:=plen_drop xs
    have hl:xs.dropLast.length≤xs.length:=by rw [List.length_dropLast];exact Z.l551
    unfold climb
    split
    · rename_i h
      rw [h] at hd
      exact ⟨by simp only [List.length_nil] at hd;show plen xs.dropLast+root.length=_;exact Z.l552 hd,hl,Nat.le_refl _⟩
    · rename_i hne
      split
      · have:=climb_ok way n xs.dropLast (root++((top xs).1++(top xs).2))
        simp only [List.length_append] at this hd
        exact ⟨by exact Z.l553 this hd,by exact Z.l554 this hl,by exact Z.l555 this⟩
      · refine ⟨?_,?_,Nat.le_refl _⟩
        · show plen (xs.dropLast++[top xs])+root.length=_
          rw [plen_app]
          simp only [List.length_append] at hd
          simp only [plen,List.map_cons,List.map_nil,List.sum_cons,List.sum_nil] at hd ⊢
          exact Z.l556 hd
        · show (xs.dropLast++[top xs]).length≤_
          have:xs≠[]:=fun e=>by subst e;exact hne rfl
          rw [List.length_append,List.length_dropLast]
          have:=List.length_pos_iff.mpr this
          simp;exact Z.l557 this
end T2
end Mine
end
section
open PySem PySem.Calls PySem.W PyProof.Rows
namespace Mine
namespace T2
noncomputable def txt (p:Pc):List Nat:=p.1++p.2
inductive Chain:List Nat→List Pc→Prop
  | nil:Chain [] []
  | cons {s:List Nat} {e:Pc} {es:List Pc}:s.head?=some (txt e).length→1≤(txt e).length→Chain (s.drop (txt e).length) es→Chain s (e::es)
noncomputable def flat (es:List Pc):List Nat:=(es.map txt).flatten
theorem split_last (xs:List Pc):xs=[]∨∃ ys e,xs=ys++[e]:=by
  rcases List.eq_nil_or_concat xs with h | ⟨ys,e,h⟩
  · exact .inl h
  · exact .inr ⟨ys,e,by rw [h];simp⟩
theorem climb_chain (way : Nat) : ∀ (n : Nat) (xs : List Pc) (s root : List Nat), Chain s xs.reverse → (∀ p ∈ xs, p.1.length = 1) →
    ∃ k,(climb way n xs root).2.length=root.length+k∧Chain (s.drop k) (climb way n xs root).1.reverse∧(climb way n xs root).2++flat (climb way n xs root).1.reverse=root++flat xs.reverse∧∀ p∈(climb way n xs root).1,p.1.length=1
  | 0,xs,s,root,hc,h1=>⟨0,rfl,hc,rfl,h1⟩
  | n+1,xs,s,root,hc,h1=>by
    unfold climb
    rcases split_last xs with rfl | ⟨ys,e,rfl⟩
    · rw [if_pos (by rfl)]
      exact ⟨0,rfl,hc,rfl,h1⟩
    · have ht:top (ys++[e])=e:=by simp [top]
      have hd:(ys++[e]).dropLast=ys:=by simp
      rw [ht,hd]
      rw [List.reverse_append,List.reverse_singleton,List.singleton_append] at hc
      cases hc with
      | cons a b c =>
        rw [if_neg (fun h=>by unfold txt at b;rw [h] at b;simp at b)]
        by_cases hl:less way root (e.1++e.2)=true
        · rw [if_pos hl]
          obtain ⟨k,k1,k2,k3,k4⟩:=climb_chain way n ys (s.drop (txt e).length) (root++(e.1++e.2)) c fun p hp=>h1 p (List.mem_append_left _ hp)
          refine ⟨(txt e).length+k,?_,?_,?_,k4⟩
          · rw [k1,List.length_append];show root.length+(txt e).length+k=_;exact Z.l104
          · rw [List.drop_drop] at k2;exact k2
          · rw [k3];simp [flat,txt]
        · rw [if_neg hl]
          exact ⟨0,rfl,by rw [List.reverse_append,List.reverse_singleton,List.singleton_append];exact .cons a b c,rfl,h1⟩
structure Built (l:List Nat) (st:List Pc × List Nat):Prop where
  chain:Chain st.2.reverse st.1.reverse
  text:flat st.1.reverse=l.reverse
  one:∀ p∈st.1,p.1.length=1
theorem Built.step {way:Nat} {l:List Nat} {st:List Pc × List Nat} (h:Built l st) (c:Nat):Built (l++[c]) (rootStep way st c):=by
  obtain ⟨k,k1,k2,k3,k4⟩:=climb_chain way st.2.length st.1 st.2.reverse [c] h.chain h.one
  have tx:txt ((climb way st.2.length st.1 [c]).2.take 1,(climb way st.2.length st.1 [c]).2.drop 1)=(climb way st.2.length st.1 [c]).2:=List.take_append_drop 1 _
  unfold rootStep
  generalize hq:climb way st.2.length st.1 [c]=q at *
  have hl:q.2.length=1+k:=by rw [k1];rfl
  refine ⟨?_,?_,?_⟩
  · show Chain (st.2++[q.2.length]).reverse (q.1++[(q.2.take 1,q.2.drop 1)]).reverse
    rw [List.reverse_append,List.reverse_append,List.reverse_singleton,List.reverse_singleton,List.singleton_append,List.singleton_append]
    refine .cons ?_ ?_ ?_
    · rw [tx];rfl
    · rw [tx];exact Z.l558 hl
    · rw [tx,hl,Nat.add_comm,List.drop_succ_cons];exact k2
  · show flat (q.1++[(q.2.take 1,q.2.drop 1)]).reverse=_
    rw [List.reverse_append,List.reverse_singleton,List.singleton_append]
    show (txt _++flat q.1.reverse)=_
    rw [tx,k3,h.text];simp
  · intro p hp
    rcases List.mem_append.mp hp with hp | hp
    · exact k4 p hp
    · rw [List.mem_singleton.mp hp]
      show (q.2.take 1).length=1
      rw [List.length_take];exact Z.l559 hl
theorem built (way:Nat) (l:List Nat):Built l (build way l):=by
  have:∀ (l r:List Nat) (st:List Pc × List Nat),Built r st→Built (r++l) (l.foldl (rootStep way) st):=by
    intro l
    induction l with
    | nil=>intro r st h;simpa using h
    | cons c l ih =>
      intro r st h
      have:=ih (r++[c]) (rootStep way st c) (h.step c)
      simpa using this
  have h:=this l [] ([],[]) ⟨.nil,rfl,fun p hp=>nomatch hp⟩
  exact h
end T2
end Mine
end
section
open PySem PySem.Calls PySem.W PyProof.Rows
namespace Mine
theorem EvM.as {g:G} {ρ:List (Option D)} {μ μ':List (Addr × Mut)} {e:Expr} {d d':D} (h:EvM g ρ μ e d μ') (q:d=d'):EvM g ρ μ e d' μ':=q ▸ h
theorem flat_one (l:List Nat):(l.map fun c=>[c]).flatten=l:=by
  induction l with
  | nil=>rfl
  | cons c r ih=>rw [List.map_cons,List.flatten_cons,ih];rfl
theorem cut_mid (a b c:List Nat):cut (a++(b++c)) (some (a.length:Int)) (some ((a.length+b.length:Nat):Int))=b:=by
  rw [cut_nn]
  have h1:min a.length (a++(b++c)).length=a.length:=by simp
  have h2:min (a.length+b.length) (a++(b++c)).length=a.length+b.length:=by simp
  rw [h1,h2]
  simp
theorem cut_from {α:Type} (l:List α) (a:Nat):cut l (some (a:Int)) none=l.drop a:=by
  have e:clipN l.length (a:Int)=min a l.length:=clipN_nat _ _
  unfold cut
  simp only [Option.elim_some,Option.elim_none,e]
  by_cases h:a≤l.length
  · rw [Nat.min_eq_left h,List.take_of_length_le (by simp)]
  · rw [Nat.min_eq_right (by exact Z.l423 h),List.drop_eq_nil_of_le (by exact Z.l72),List.drop_eq_nil_of_le (by exact Z.l423 h)];simp
namespace T2
theorem flat_all (p:Nat→Bool) (xs:List Pc):(flat xs.reverse).all p=(flat xs).all p:=by
  simp [flat,List.all_flatten,List.all_map]
theorem flat_len (xs:List Pc):(flat xs).length=plen xs:=by
  unfold flat plen
  induction xs with
  | nil=>rfl
  | cons p r ih=>simp only [List.map_cons,List.flatten_cons,List.length_append,List.sum_cons,ih,txt]
theorem only_spaces {l:List Nat} {xs:List Pc} (h:flat xs.reverse=l.reverse) (h0:0 < l.length) (hp:plen xs=l.length):onlyWs xs=spaces l.reverse:=by
  unfold onlyWs
  have:lenOf xs=(l.length:Int):=by rw [lenOf_plen,hp]
  rw [this]
  have e:((l.length:Int) != 0)=true:=by rw [bne_iff_ne];exact Z.l588 h0
  rw [e]
  show spaces (flat xs)=_
  unfold spaces
  have h1:(flat xs).isEmpty=false:=by
    rw [List.isEmpty_eq_false_iff];intro e;have:=flat_len xs;rw [e,hp,List.length_nil] at this;exact Z.l589 this h0
  have h2:l.reverse.isEmpty=false:=by
    rw [List.isEmpty_eq_false_iff];intro e;have:=congrArg List.length e;rw [List.length_reverse,List.length_nil] at this;exact Z.l590 this h0
  rw [h1,h2,← h,flat_all]
end T2
noncomputable def rootsB:List Stmt:=match fRoots.1.body with | .stmts b=>b | _=>[]
theorem roots_end {C : Cx} (H : Is2 C) {A : Around} (R : Room A 4) {X X₁ : List Addr} {L x dx w : Addr} {l : List Nat} {way n : Nat} {xs : List T2.Pc} {ss : List Nat} {o5 o6 o7 o8 o9 o10 : Option D}
    (hl:l.length≤8) (h0:0 < l.length) (hT:T2.flat xs.reverse=l.reverse) (h1:∀ p∈xs,p.1.length=1) (i1:T2.plen xs=l.length) (i3:xs.length≤l.length)
    (hwS:w∉x::dx::(ownS (callEnvC fRoots.1 L 186)++doms [])) (hS₁:∀ b∈x::dx::(ownS (callEnvC fRoots.1 L 186)++doms []),b∈X₁) (hX:∀ b∈ownS (callEnvC fRoots.1 L 186)++X,b∈X₁∧b≠w) :
    Ex ⟨C,A,w::X₁,callEnvC fRoots.1 L 186,(["octets","way"]:List Str)++(["pile","sizes","fine","octet","root","turn","top","piece","less","whole","pieces","start"]:List Str)⟩ (w::x::dx::(ownS (callEnvC fRoots.1 L 186)++doms []))
      [some (.b l),some (D.n way),some (.val (.ref x)),some (D.ns ss.reverse),some (D.bool true),o5,o6,o7,o8,o9,o10,some (.s l.reverse),some (.val (.ref w)),some (D.n n)]
      [(w,.lst ((xs.reverse.map T2.txt).map D.s)),(x,.acc 101 dx (xs.map D.ss))] (rootsB.drop 9) (RetAs (ownS (callEnvC fRoots.1 L 186)++X) (.tup [D.ns ss.reverse,D.bool true]) []):=by
  obtain ⟨P,hK⟩:=H.K
  have sz:sizeLine=16777216:=rfl
  have g2:C.mg "len"=none:=H.noGlob fun P=>by rfl
  have g3:C.mg "str"=none:=H.noGlob fun P=>by rfl
  have R0:Room A 0:=R.zero
  have R1:Room A 1:=R.less (by exact Z.l560)
  have R2:Room A 2:=R.less (by exact Z.l561)
  have R3:Room A 3:=R.less (by exact Z.l591)
  have hpc:∀ p∈xs,p.1.length≤8∧p.2.length≤8:=fun p hp=>by have:=T2.plen_mem hp;exact Z.l592 i1 this hl
  have htx:textOf xs=T2.flat xs:=rfl
  have hfl:(T2.flat xs).length=l.length:=by rw [T2.flat_len,i1]
  refine Ex.freezeS (p:=[]) (q:=[(x,.acc 101 dx (xs.map D.ss))]) 12 rfl hwS (fun b hb=>.tail _ (hS₁ b hb)) fun X₂ hS₂ hX₂=>?_
  have hX₂:∀ b∈ownS (callEnvC fRoots.1 L 186)++X,b∈X₂:=fun b hb=>hX₂ b (.tail _ (hX b hb).1) (hX b hb).2
  have loc:(callEnvC fRoots.1 L 186).locals∈x::dx::(ownS (callEnvC fRoots.1 L 186)++doms []):=.tail _ (.tail _ (.head _))
  have hdx:∀ (es:List D),∀ b∈doms [(x,Mut.acc 101 dx es)],b∈x::dx::(ownS (callEnvC fRoots.1 L 186)++doms []):=fun es b hb=>by
    have:b=x∨b=dx:=by simpa [doms,Mut.more] using hb
    rcases this with rfl | rfl
    · exact .head _
    · exact .tail _ (.head _)
  have cnt:∀ zs:List T2.Pc,FnM C 1 (.ref 98) [.val (.ref x)] [(x,.acc 101 dx (zs.map D.ss))] (D.n zs.length) [(x,.acc 101 dx (zs.map D.ss))]:=fun zs=>by
    have:=fn_count H x dx (zs.map D.ss);rwa [List.length_map] at this
  have popC:∀ zs:List T2.Pc,zs.length≤900→FnM C 2 (.ref 61) [.val (.ref x)] [(x,.acc 101 dx (zs.map D.ss))] (D.ss (T2.top zs)) [(x,.acc 101 dx (zs.dropLast.map D.ss))]:=fun zs hz=>by
    have:=fn_pop H x dx (zs.map D.ss) (by rw [List.length_map];lia)
    rwa [T2.top_D,← List.map_dropLast] at this
  refine Ex.assignM 4 (d:=D.bool true) (μ':=[(x,.acc 101 dx (xs.map D.ss))]) rfl (.l rfl loc) (EvM.and (EvAndM.same (p:=true) (q:=true) (Ev.name 4 rfl rfl).M (fun _=>EvAndM.same (p:=true) (q:=true) ?_ (fun _=>EvAndM.one ?_) rfl) rfl)) (hdx _) ?_
  · refine (EvM.cmp (x:=.s (textOf xs)) (y:=.s (T2.flat xs)) R0 (EvM.str (μ₀:=[(x,.acc 101 dx (xs.map D.ss))]) (μ₁:=[(x,.acc 101 dx (xs.map D.ss))]) [] [] R3 (Ev.bltn g3 rfl rfl) (Ev.name 2 rfl rfl) (.head _) rfl (by rw [hK];exact strOk P) (fn_str H x dx xs (fun p hp=>by have:=hpc p hp;exact Z.l593 this) (by rw [htx];lia)) rfl) ?_ (Cmp.eqs _ _)).as (by rw [htx];simp)
    exact (EvB.join (ls:=xs.map T2.txt) R0 ((Ev.revL (ds:=(xs.reverse.map T2.txt).map D.s) R0 (Ev.name 12 rfl rfl) (Ev.neg (Ev.int (i:=1))) (by simp;exact Z.l595 sz i3 hl)).as (by rw [← List.map_reverse,← List.map_reverse,List.reverse_reverse])) (by have:((xs.map T2.txt).flatten).length=l.length:=hfl;rw [this];simp;exact Z.l596 hl i3)).h
  · refine (EvM.cmp (x:=D.n xs.length) (y:=D.n xs.length) R0 (EvM.own0 (μ₀:=[(x,.acc 101 dx (xs.map D.ss))]) (μ₁:=[(x,.acc 101 dx (xs.map D.ss))]) [] [] R1 (Ev.name 2 rfl rfl) (.head _) rfl (by rw [hK];exact (accOk P).ok) (by rw [hK];exact mCount P) (by decide) (cnt xs) rfl) (Ev.callB (ds:=[.lst ((xs.reverse.map T2.txt).map D.s)]) R0 (Ev.bltn g2 rfl rfl) (EvL.cons (Ev.name 12 rfl rfl) EvL.nil) ?_) Cmp.eqN).as (by simp)
    have:=Bi.lenL (ds:=(xs.reverse.map T2.txt).map D.s) (by simp;exact Z.l595 sz i3 hl)
    rw [List.length_map,List.length_map,List.length_reverse] at this
    exact this
  refine Ex.assignM 4 (d:=D.bool true) (μ':=[(x,.acc 101 dx (xs.map D.ss))]) rfl (.l rfl loc) (EvM.and (EvAndM.same (p:=true) (q:=true) (Ev.name 4 rfl rfl).M (fun _=>EvAndM.one ?_) rfl)) (hdx _) ?_
  · refine (EvM.cmp (x:=D.bool (onlyWs xs)) (y:=D.bool (spaces l.reverse)) R0 (EvM.own0 (μ₀:=[(x,.acc 101 dx (xs.map D.ss))]) (μ₁:=[(x,.acc 101 dx (xs.map D.ss))]) [] [] R (Ev.name 2 rfl rfl) (.head _) rfl (by rw [hK];exact (accOk P).ok) (by rw [hK];exact mOnly P) (by decide) (fn_only H x dx xs (fun p hp=>by have:=hpc p hp;exact Z.l593 this) (by rw [htx];lia) (by rw [T2.lenOf_plen];exact Z.l597 i1 hl)) rfl) (Ev.meth0 R0 F.plainAttrs_str F.slot_str_isspace F.type_str_isspace (Ev.name 11 rfl rfl) isStr Bi.isspace) (Cmp.isB _ _)).as ?_
    rw [T2.only_spaces hT h0 i1];simp
  refine Ex.forN 9 (d:=.lst ((xs.reverse.map T2.txt).map D.s)) (ds:=(xs.reverse.map T2.txt).map D.s) R0 rfl (.l rfl loc) hS₂ (Ev.name 12 rfl rfl) Src.lst
    (fun j ρ μ=>∃ o9,ρ=[some (.b l),some (D.n way),some (.val (.ref x)),some (D.ns ss.reverse),some (D.bool true),o5,o6,o7,o8,o9,o10,some (.s l.reverse),some (.lst ((xs.reverse.map T2.txt).map D.s)),some (D.n n)]∧μ=[(x,.acc 101 dx ((xs.reverse.drop j).reverse.map D.ss))]) (fun _ _=>False) ?_ ?_ ?_ ?_ ?_ ?_
  · rintro i ρ μ ⟨o9,_,rfl⟩;rfl
  · intro _ _ h;exact h.elim
  · exact ⟨o9,rfl,by simp⟩
  · rintro wr j d ρ μ hd ⟨o9,rfl,rfl⟩
    rw [List.getElem?_map,List.getElem?_map] at hd
    cases hq:xs.reverse[j]? with
    | none=>rw [hq] at hd;cases hd
    | some p =>
    rw [hq] at hd
    cases hd
    have hpm:p∈xs:=List.mem_reverse.mp (List.mem_of_getElem? hq)
    have hp8:=hpc p hpm
    have hdr:xs.reverse.drop j=p::xs.reverse.drop (j+1):=by
      obtain ⟨hlt,he⟩:=List.getElem?_eq_some_iff.mp hq
      rw [List.drop_eq_getElem_cons hlt,he]
    have hjl:((xs.reverse.drop (j+1)).reverse).length≤8:=by simp;exact Z.l598 i3 hl
    rw [hdr,List.reverse_cons]
    generalize (xs.reverse.drop (j+1)).reverse=zs at *
    obtain ⟨pa,pb⟩:=p
    obtain ⟨c,hc⟩:∃ c,pa=[c]:=List.length_eq_one_iff.mp (h1 _ hpm)
    subst hc
    have pc:=popC (zs++[([c],pb)]) (by simp;exact Z.l599 hjl)
    have htp:T2.top (zs++[([c],pb)])=([c],pb):=by simp [T2.top]
    have hdl:(zs++[([c],pb)]).dropLast=zs:=by simp
    rw [htp,hdl] at pc
    have hpb:pb.length≤8:=hp8.2
    refine Ex.assignM 4 (d:=D.bool true) (μ':=[(x,.acc 101 dx (zs.map D.ss))]) rfl (.l rfl loc) (EvM.and (EvAndM.cons (p:=true) (q:=true) (Ev.name 4 rfl rfl).M (fun _=>EvAndM.one ?_) rfl)) (hdx _) (Ex.nil fun s y=>⟨_,_,⟨_,rfl,rfl⟩,y⟩)
    refine (EvM.cmp (x:=D.ss ([c],pb)) (y:=D.ss ([c],pb)) R0 (EvM.own0 (μ₀:=[(x,.acc 101 dx ((zs++[([c],pb)]).map D.ss))]) (μ₁:=[(x,.acc 101 dx (zs.map D.ss))]) [] [] R2 (Ev.name 2 rfl rfl) (.head _) rfl (by rw [hK];exact (accOk P).ok) (by rw [hK];exact mPop P) (by decide) pc rfl) (Ev.tup (EvL.cons (Ev.itemS (t:=c::pb) (c:=c) R0 (Ev.name 9 rfl rfl) Ev.int (by decide) rfl (by simp;exact Z.l600 sz hpb)) (EvL.cons ((Ev.sliceS (t:=c::pb) R0 (Ev.name 9 rfl rfl) (EvP.some (Ev.int (i:=1))) EvP.none (by simp;exact Z.l600 sz hpb)).as (d':=.s pb) (by rw [show (1:Int)=((1:Nat):Int) from rfl,cut_from];rfl)) EvL.nil)) (by show 2≤_;decide)) (Cmp.eqP Kd.s Kd.s (by decide) ([c],pb) ([c],pb))).as (by simp)
  · rintro ρ μ ⟨o9,rfl,rfl⟩
    have he:(xs.reverse.drop ((xs.reverse.map T2.txt).map D.s).length).reverse=[]:=by simp
    rw [he]
    have pc0:=popC [] (by decide)
    have pc1:=popC [([],[])] (by decide)
    have oc:=fn_only H x dx [] (fun _ h=>nomatch h) (by decide) (by decide)
    have pu:=fn_push H x dx [] [] [] (by decide)
    refine Ex.assignM 4 (d:=D.bool true) (μ':=[(x,.acc 101 dx [D.ss ([],[])])]) rfl (.l rfl loc) (EvM.and (EvAndM.cons (p:=true) (q:=true) (μ':=[(x,.acc 101 dx [])]) (μ₂:=[(x,.acc 101 dx [D.ss ([],[])])]) (Ev.name 4 rfl rfl).M (fun _=>EvAndM.cons (p:=true) (q:=true) (μ':=[(x,.acc 101 dx [])]) (μ₂:=[(x,.acc 101 dx [D.ss ([],[])])]) ?_ (fun _=>EvAndM.cons (p:=true) (q:=true) (μ':=[(x,.acc 101 dx [])]) (μ₂:=[(x,.acc 101 dx [D.ss ([],[])])]) ?_ (fun _=>EvAndM.one ?_) rfl) rfl) rfl)) (hdx _) ?_
    · exact (EvM.cmp (x:=D.bool true) (y:=D.bool true) R0 (EvM.own0 (μ₀:=[(x,.acc 101 dx [])]) (μ₁:=[(x,.acc 101 dx [])]) [] [] R (Ev.name 2 rfl rfl) (.head _) rfl (by rw [hK];exact (accOk P).ok) (by rw [hK];exact mOnly P) (by decide) oc rfl) Ev.bool (Cmp.isB true true)).as (by simp)
    · exact (EvM.cmp (x:=D.ss ([],[])) (y:=D.ss ([],[])) R0 (EvM.own0 (μ₀:=[(x,.acc 101 dx [])]) (μ₁:=[(x,.acc 101 dx [])]) [] [] R2 (Ev.name 2 rfl rfl) (.head _) rfl (by rw [hK];exact (accOk P).ok) (by rw [hK];exact mPop P) (by decide) pc0 rfl) (Ev.tup (EvL.cons (Ev.str (x:="")) (EvL.cons (Ev.str (x:="")) EvL.nil)) (by show 2≤_;decide)) (Cmp.eqP Kd.s Kd.s (by decide) ([],[]) ([],[]))).as (by simp)
    · exact EvM.cmp (x:=D.nil) R0 (EvM.own (μ₀:=[(x,.acc 101 dx [])]) (μ₁:=[(x,.acc 101 dx [D.ss ([],[])])]) [] [] R1 (Ev.name 2 rfl rfl) (.head _) rfl (by rw [hK];exact (accOk P).ok) (by rw [hK];exact mPush P) (by decide) (EvL.cons (Ev.str (x:="")) (EvL.cons (Ev.str (x:="")) EvL.nil)) pu rfl) Ev.none Cmp.isNone
    refine Ex.retM (d:=.tup [D.ns ss.reverse,D.bool true]) (μ':=[(x,.acc 101 dx [])]) (EvM.tup (EvLM.cons (Ev.name 3 rfl rfl).M (EvLM.cons (EvM.and (EvAndM.cons (p:=true) (q:=true) (μ':=[(x,.acc 101 dx [D.ss ([],[])])]) (μ₂:=[(x,.acc 101 dx [])]) (Ev.name 4 rfl rfl).M (fun _=>EvAndM.cons (p:=true) (q:=true) (μ':=[(x,.acc 101 dx [])]) (μ₂:=[(x,.acc 101 dx [])]) ?_ (fun _=>EvAndM.one ?_) rfl) rfl)) EvLM.nil)) (by show 2≤_;decide)) (hdx _) fun v s y r=>⟨r.sub hX₂,fun _ h=>nomatch h⟩
    · exact (EvM.cmp (x:=D.ss ([],[])) (y:=D.ss ([],[])) R0 (EvM.own0 (μ₀:=[(x,.acc 101 dx [D.ss ([],[])])]) (μ₁:=[(x,.acc 101 dx [])]) [] [] R2 (Ev.name 2 rfl rfl) (.head _) rfl (by rw [hK];exact (accOk P).ok) (by rw [hK];exact mPop P) (by decide) pc1 rfl) (Ev.tup (EvL.cons (Ev.str (x:="")) (EvL.cons (Ev.str (x:="")) EvL.nil)) (by show 2≤_;decide)) (Cmp.eqP Kd.s Kd.s (by decide) ([],[]) ([],[]))).as (by simp)
    · exact (EvM.cmp (x:=D.n 0) (y:=D.n 0) R0 (EvM.own0 (μ₀:=[(x,.acc 101 dx [])]) (μ₁:=[(x,.acc 101 dx [])]) [] [] R1 (Ev.name 2 rfl rfl) (.head _) rfl (by rw [hK];exact (accOk P).ok) (by rw [hK];exact mCount P) (by decide) (cnt []) rfl) (Ev.int (i:=0)) Cmp.eqN).as (by simp)
  · intro _ _ h;exact h.elim
end Mine
end
section
open PySem PySem.Calls PySem.W PyProof.Rows
namespace Mine
structure T2.Fit (i:Nat) (xs:List T2.Pc) (root:List Nat):Prop where
  sum:T2.plen xs+root.length=i+1
  few:xs.length≤i
  pos:1≤root.length
theorem Ex.forB {g : G} {S : List Addr} {ρ : List (Option D)} {μ : List (Addr × Mut)} {rest : List Stmt} {Φ : Flow → Shared → Prop} (i : Nat) {x : Str} {p : Pos} {iter : Expr} {body : List Stmt} {pos : Pos} {d : D} {ds : List D} (R : Room g.A 0) (h1 : g.ns[i]? = some x) (hk : Stored g S x) (hS : ∀ a ∈ S, a ∈ g.X) (hi : Ev g ρ μ iter d) (src : Src d ds)
    (J:Nat→List (Option D)→List (Addr × Mut)→Prop) (B:List (Option D)→List (Addr × Mut)→Prop)
    (hμ:∀ i ρ' μ',J i ρ' μ'→doms μ'=doms μ) (hB:∀ ρ' μ',B ρ' μ'→doms μ'=doms μ) (j0:J 0 ρ μ)
    (turn:∀ wr j a ρ' μ',ds[j]?=some a→J j ρ' μ'→Ex { g with X:=wr++g.X } S (ρ'.set i (some a)) μ' body (Turn { g with X:=wr++g.X } (J (j+1)) B Φ))
    (fin:∀ ρ' μ',J ds.length ρ' μ'∨B ρ' μ'→Ex g S ρ' μ' rest Φ)
    (hs:∀ x,foldedSetIterable iter g.env x=pure x:=by intro _;rfl):Ex g S ρ μ (.For (.Name x p) iter body [] pos::rest) Φ :=
  Ex.forN i R h1 hk hS hi src J B hμ hB j0 turn (fun ρ μ h=>fin ρ μ (.inl h)) (fun ρ μ h=>fin ρ μ (.inr h)) hs
theorem fn_roots {C:Cx} (H:Is2 C) (l:List Nat) (way:Nat) (hl:l.length≤8) (h0:0 < l.length) (hc:∀ c∈l,c < 256) (hw:way < 2):FnM C 5 (.ref 186) [.b l,D.n way] [] (.tup [D.ns (T2.build way l).2.reverse,D.bool true]) []:=by
  obtain ⟨P,hK⟩:=H.K
  obtain ⟨oc,od,osl,ho⟩:=fRoots.2 P
  have sz:sizeLine=16777216:=rfl
  have g1:C.mg "range"=none:=H.noGlob fun P=>by rfl
  have g2:C.mg "len"=none:=H.noGlob fun P=>by rfl
  have g3:C.mg "chr"=none:=H.noGlob fun P=>by rfl
  have g4:C.mg "_Accumulator"=some (.ref 101):=H.glob fun P=>by rfl
  have g5:C.mg "_strcoll"=some (.ref 112):=H.glob fun P=>by rfl
  have g6:C.mg "_strxfrm"=some (.ref 119):=H.glob fun P=>by rfl
  refine FnM.intro (fd:=fRoots.1) ["octets","way"] ["pile","sizes","fine","octet","root","turn","top","piece","less","whole","pieces","start"] 12 (by rw [hK];exact ho) (by rw [hK];rfl) rfl rfl rfl rfl (fun vals hv=>?_) rfl (by decide) (fun n x hx=>?_) (by decide) (fun A X L R hm=>?_)
  · obtain ⟨v,w,rfl⟩:=len2 hv;rfl
  · simp only [List.mem_cons,List.not_mem_nil,or_false] at hx
    rcases hx with rfl | rfl <;> exact .inl rfl
  have R0:Room A 0:=R.zero
  have R1:Room A 1:=R.less (by exact Z.l560)
  have R2:Room A 2:=R.less (by exact Z.l561)
  refine Ex.assignNew 2 (m:=fun dx=>.acc 101 dx []) rfl (.l rfl (.head _)) (EvNew.acc R2 (Ev.glob g4 rfl) (by rw [hK];rfl) (by rw [hK];rfl) (by rw [hK];rfl) (by rw [hK];rfl) (fun x dx=>fn_init H x dx)) (fun x dx hxX hxS hdX=>?_) (fun b hb=>List.mem_append_left _ (nil_doms hb))
  refine Ex.assignN 3 (ds:=[]) rfl (.l rfl (.tail _ (.tail _ (.head _)))) (EvN.lst EvL.nil) (fun z hzX hzS=>?_) (fun b hb=>by
    rcases List.mem_cons.mp hb with rfl | hb
    · exact .head _
    rcases List.mem_cons.mp hb with rfl | hb
    · exact .tail _ (.head _)
    exact .tail _ (.tail _ (List.mem_append_left _ (nil_doms hb))))
  refine Ex.assign 4 (d:=D.bool true) rfl (.l rfl (.tail _ (.tail _ (.tail _ (.head _))))) Ev.bool ?_
  have hS:∀ b∈z::x::dx::(ownS (callEnvC fRoots.1 L 186)++doms []),b∈z::x::dx::(ownS (callEnvC fRoots.1 L 186)++X):=fun b hb=>by
    rcases List.mem_cons.mp hb with rfl | hb
    · exact .head _
    rcases List.mem_cons.mp hb with rfl | hb
    · exact .tail _ (.head _)
    rcases List.mem_cons.mp hb with rfl | hb
    · exact .tail _ (.tail _ (.head _))
    exact .tail _ (.tail _ (.tail _ (List.mem_append_left _ (nil_doms hb))))
  have hdoms:∀ (zs:List D) (xs:List D),∀ b∈doms [(z,Mut.lst zs),(x,Mut.acc 101 dx xs)],b∈z::x::dx::(ownS (callEnvC fRoots.1 L 186)++doms []):=fun zs xs b hb=>by
    have:b=z∨b=x∨b=dx:=by simpa [doms,Mut.more] using hb
    rcases this with rfl | rfl | rfl
    · exact .head _
    · exact .tail _ (.head _)
    · exact .tail _ (.tail _ (.head _))
  have loc:(callEnvC fRoots.1 L 186).locals∈z::x::dx::(ownS (callEnvC fRoots.1 L 186)++doms []):=.tail _ (.tail _ (.tail _ (.head _)))
  refine Ex.forN 5 (d:=.b l) (ds:=l.map fun c:Nat=>D.int (c:Int)) R0 rfl (.l rfl loc) hS (Ev.name 0 rfl rfl) (Src.b hc)
    (fun i ρ μ=>∃ o5 o6 o7 o8 o9 o10,T2.plen (T2.build way (l.take i)).1=i∧(T2.build way (l.take i)).2.length=i∧(T2.build way (l.take i)).1.length≤i∧ρ=[some (.b l),some (D.n way),some (.val (.ref x)),some (.val (.ref z)),some (D.bool true),o5,o6,o7,o8,o9,o10,none,none,none]∧μ=[(z,.lst ((T2.build way (l.take i)).2.map D.n)),(x,.acc 101 dx ((T2.build way (l.take i)).1.map D.ss))]) (fun _ _=>False) ?_ ?_ ?_ ?_ ?_ ?_
  · rintro i ρ μ ⟨o5,o6,o7,o8,o9,o10,_,_,_,_,rfl⟩;rfl
  · intro _ _ h;exact h.elim
  · exact ⟨none,none,none,none,none,none,rfl,rfl,Nat.le_refl _,rfl,rfl⟩
  · rintro wr i d ρ μ hd ⟨o5,o6,o7,o8,o9,o10,i1,i2,i3,rfl,rfl⟩
    have hi:i < l.length:=by
      have:=(List.getElem?_eq_some_iff.mp hd).1
      simpa using this
    obtain rfl:d=D.n l[i]:=by
      rw [List.getElem?_map,List.getElem?_eq_getElem hi] at hd;cases hd;rfl
    have hci:=hc _ (List.getElem_mem hi)
    have hb:T2.build way (l.take (i+1))=T2.rootStep way (T2.build way (l.take i)) l[i]:=by
      unfold T2.build
      rw [List.take_add_one,List.getElem?_eq_getElem hi,List.foldl_append];rfl
    rw [hb]
    unfold T2.rootStep
    generalize T2.build way (l.take i)=st at *
    obtain ⟨xs0,ss⟩:=st
    dsimp only at *
    generalize l[i]=c at *
    have ck:=T2.climb_ok way ss.length xs0 [c]
    refine Ex.assign 6 (d:=.s [c]) rfl (.l rfl loc) ((Ev.callB (ds:=[D.n c]) R0 (Ev.bltn g3 rfl rfl) (EvL.cons (Ev.name 5 rfl rfl) EvL.nil) (Bi.chr (by exact Z.l381) (by exact Z.l562 hci))).as (by simp)) ?_
    refine Ex.forB 7 (d:=.rng 0 ((ss.length:Nat):Int) 1) (ds:=(List.range ss.length).map D.n) R0 rfl (.l rfl loc) (fun b hb=>List.mem_append_right _ (hS b hb)) (Ev.callB (ds:=[D.n ss.length]) R0 (Ev.bltn g1 rfl rfl) (EvL.cons (Ev.look (p:=[]) (q:=[(x,.acc 101 dx (xs0.map D.ss))]) 3 rfl (Ev.callB R0 (Ev.bltn g2 rfl rfl) (EvL.cons (Ev.name 3 rfl rfl) EvL.nil) (Bi.lenN (by exact Z.l563 i2 sz hl hi)))) EvL.nil) Bi.range1) (upto _ (by exact Z.l564 i2 hl hi))
      (fun j ρ μ=>∃ xs root o7 o8 o9 o10,T2.climb way ss.length xs0 [c]=T2.climb way (ss.length - j) xs root∧T2.Fit i xs root∧ρ=[some (.b l),some (D.n way),some (.val (.ref x)),some (.val (.ref z)),some (D.bool true),some (D.n c),some (.s root),o7,o8,o9,o10,none,none,none]∧μ=[(z,.lst (ss.map D.n)),(x,.acc 101 dx (xs.map D.ss))])
      (fun ρ μ=>∃ xs root o7 o8 o9 o10,T2.climb way ss.length xs0 [c]=(xs,root)∧T2.Fit i xs root∧ρ=[some (.b l),some (D.n way),some (.val (.ref x)),some (.val (.ref z)),some (D.bool true),some (D.n c),some (.s root),o7,o8,o9,o10,none,none,none]∧μ=[(z,.lst (ss.map D.n)),(x,.acc 101 dx (xs.map D.ss))]) ?_ ?_ ?_ ?_ ?_
    · rintro i ρ μ ⟨xs,root,o7,o8,o9,o10,_,_,_,rfl⟩;rfl
    · rintro ρ μ ⟨xs,root,o7,o8,o9,o10,_,_,_,rfl⟩;rfl
    · exact ⟨xs0,[c],o7,o8,o9,o10,rfl,⟨by simp;exact Z.l219 i1,i3,by simp⟩,rfl,rfl⟩
    · rintro wr2 j d ρ μ hd ⟨xs,root,o7,o8,o9,o10,hcl,hfit,rfl,rfl⟩
      obtain ⟨hj,rfl⟩:=range_at hd
      have hs1:ss.length - j=(ss.length - (j+1))+1:=by lia
      rw [hs1,T2.climb] at hcl
      have hpd:=T2.plen_drop xs
      have hfs:=hfit.sum
      have hff:=hfit.few
      have popC:FnM C 2 (.ref 61) [.val (.ref x)] [(x,.acc 101 dx (xs.map D.ss))] (D.ss (T2.top xs)) [(x,.acc 101 dx (xs.dropLast.map D.ss))]:=by
        have:=fn_pop H x dx (xs.map D.ss) (by rw [List.length_map];lia)
        rwa [T2.top_D,← List.map_dropLast] at this
      refine Ex.assignM 8 (d:=D.ss (T2.top xs)) (μ':=[(z,.lst (ss.map D.n)),(x,.acc 101 dx (xs.dropLast.map D.ss))]) rfl (.l rfl loc) (EvM.own0 (μ₀:=[(x,.acc 101 dx (xs.map D.ss))]) (μ₁:=[(x,.acc 101 dx (xs.dropLast.map D.ss))]) [(z,.lst (ss.map D.n))] [] R2 (Ev.name 2 rfl rfl) (.tail _ (.head _)) rfl (by rw [hK];exact (accOk P).ok) (by rw [hK];exact mPop P) (by decide) popC rfl) (hdoms _ _) ?_
      refine Ex.assign 9 (d:=.s ((T2.top xs).1++(T2.top xs).2)) rfl (.l rfl loc) (Ev.bin R0 (Ev.itemT (d:=.s (T2.top xs).1) R0 (Ev.name 8 rfl rfl) Ev.int (by decide) rfl (by show 2≤_;decide)) (Ev.itemT (d:=.s (T2.top xs).2) R0 (Ev.name 8 rfl rfl) Ev.int (by decide) rfl (by show 2≤_;decide)) (Bin.addS (by rw [List.length_append] at hpd;exact Z.l567 hpd hfs sz hl hi))) ?_
      have hdl:xs.dropLast.length=xs.length - 1:=List.length_dropLast
      have hne:(T2.top xs).1++(T2.top xs).2≠[]→0 < xs.length:=fun h=>by
        cases xs with
        | nil=>exact absurd rfl h
        | cons p r=>simp
      generalize hpc:(T2.top xs).1++(T2.top xs).2=piece at *
      refine Ex.ite (c:=decide (piece=[])) (EvT.cmp R0 (Ev.name 9 rfl rfl) (Ev.str (x:="")) (Cmp.eqs piece [])) (fun h=>Ex.brk fun s y=>?_) (fun h=>Ex.go ?_)
      · rw [if_pos (of_decide_eq_true h)] at hcl
        have hp0:piece.length=0:=by rw [of_decide_eq_true h];rfl
        exact ⟨_,_,⟨_,_,_,_,_,_,hcl,⟨by exact Z.l568 hpd hfs hp0,by exact Z.l569 hdl hff,hfit.pos⟩,rfl,rfl⟩,y⟩
      have h:=of_decide_eq_false h
      rw [if_neg h] at hcl
      refine Ex.assign 10 (d:=D.bool (T2.less way root piece)) rfl (.l rfl loc) (Ev.ite (c:=decide (way=0)) (EvT.cmp R0 (Ev.name 1 rfl rfl) (Ev.int (i:=0)) (Cmp.eqN (b:=0))) (fun h=>?_) (fun h=>?_)) ?_
      · refine (Ev.cmp (d:=D.bool (coll root piece == -1)) R0 (Ev.call R1 (Ev.glob g5 rfl) (by show keepIn C.K _=true;rw [hK];rfl) (EvL.cons (Ev.name 6 rfl rfl) (EvL.cons (Ev.name 9 rfl rfl) EvL.nil)) (Fn.of_M (fn_coll H root piece))) (Ev.neg (Ev.int (i:=1))) Cmp.eq).as ?_
        unfold T2.less;rw [if_pos (of_decide_eq_true h)]
      · refine (Ev.cmp R0 (Ev.call R1 (Ev.glob g6 rfl) (by show keepIn C.K _=true;rw [hK];rfl) (EvL.cons (Ev.name 6 rfl rfl) EvL.nil) (Fn.of_M (fn_xfrm H (.s root)))) (Ev.call R1 (Ev.glob g6 rfl) (by show keepIn C.K _=true;rw [hK];rfl) (EvL.cons (Ev.name 9 rfl rfl) EvL.nil) (Fn.of_M (fn_xfrm H (.s piece)))) (Cmp.lts root piece)).as ?_
        unfold T2.less;rw [if_neg (of_decide_eq_false h)]
      have hxl:=hne h
      refine Ex.ite (c:=!(T2.less way root piece)) (EvT.not (EvT.val R0 (Ev.name 10 rfl rfl) (Tru.bool _))) (fun h=>?_) (fun h=>Ex.go ?_)
      · have hlf:T2.less way root piece=false:=by simpa using h
        rw [if_neg (by rw [hlf];decide)] at hcl
        refine Ex.exprM (EvM.own (μ₀:=[(x,.acc 101 dx (xs.dropLast.map D.ss))]) (μ₁:=[(x,.acc 101 dx (xs.dropLast.map D.ss++[D.ss ((T2.top xs).1,(T2.top xs).2)]))]) [(z,.lst (ss.map D.n))] [] R1 (Ev.name 2 rfl rfl) (.tail _ (.head _)) rfl (by rw [hK];exact (accOk P).ok) (by rw [hK];exact mPush P) (by decide) (EvL.cons (Ev.itemT (d:=.s (T2.top xs).1) R0 (Ev.name 8 rfl rfl) Ev.int (by decide) rfl (by show 2≤_;decide)) (EvL.cons (Ev.itemT (d:=.s (T2.top xs).2) R0 (Ev.name 8 rfl rfl) Ev.int (by decide) rfl (by show 2≤_;decide)) EvL.nil)) (fn_push H x dx (xs.dropLast.map D.ss) (T2.top xs).1 (T2.top xs).2 (by rw [List.length_map];lia)) rfl) (hdoms _ _) (Ex.brk fun s y=>?_)
        refine ⟨_,_,⟨_,_,_,_,_,_,hcl,⟨?_,?_,hfit.pos⟩,rfl,?_⟩,y⟩
        · rw [T2.plen_app]
          have:(T2.top xs).1.length+(T2.top xs).2.length=piece.length:=by rw [← hpc,List.length_append]
          simp only [T2.plen,List.map_cons,List.map_nil,List.sum_cons,List.sum_nil] at hpd hfs ⊢
          exact Z.l571 hpd this hfs
        · rw [List.length_append,hdl];simp;exact Z.l572 hff hxl
        · rw [List.map_append];rfl
      · have hlt:T2.less way root piece=true:=by simpa using h
        rw [if_pos hlt] at hcl
        refine Ex.assign 6 (d:=.s (root++piece)) rfl (.l rfl loc) (Ev.bin R0 (Ev.name 6 rfl rfl) (Ev.name 9 rfl rfl) (Bin.addS (by exact Z.l573 hfs hpd sz hl hi))) (Ex.nil fun s y=>⟨_,_,⟨_,_,_,_,_,_,hcl,⟨?_,by exact Z.l569 hdl hff,?_⟩,rfl,rfl⟩,y⟩)
        · rw [List.length_append];exact Z.l574 hpd hfs
        · rw [List.length_append];have:=hfit.pos;exact Z.l575 this
    · intro ρ μ hh
      obtain ⟨xs,root,o7,o8,o9,o10,hcl,hfit,rfl,rfl⟩:∃ xs root o7 o8 o9 o10,T2.climb way ss.length xs0 [c]=(xs,root)∧T2.Fit i xs root∧ρ=[some (.b l),some (D.n way),some (.val (.ref x)),some (.val (.ref z)),some (D.bool true),some (D.n c),some (.s root),o7,o8,o9,o10,none,none,none]∧μ=[(z,.lst (ss.map D.n)),(x,.acc 101 dx (xs.map D.ss))]:=by
        rcases hh with ⟨xs,root,o7,o8,o9,o10,hcl,q⟩ | q
        · refine ⟨xs,root,o7,o8,o9,o10,?_,q⟩
          rw [hcl]
          have:ss.length - ((List.range ss.length).map D.n).length=0:=by simp
          rw [this];rfl
        · exact q
      rw [hcl]
      dsimp only
      have hfs:=hfit.sum
      have hff:=hfit.few
      have hfp:=hfit.pos
      obtain ⟨r0,rt,rfl⟩:∃ r0 rt,root=r0::rt:=by
        cases root with
        | nil=>simp at hfp
        | cons a b=>exact ⟨a,b,rfl⟩
      have ht1:(r0::rt).take 1=[r0]:=rfl
      have hd1:(r0::rt).drop 1=rt:=rfl
      rw [ht1,hd1]
      have hlr:(r0::rt).length=rt.length+1:=rfl
      have pushC:=fn_push H x dx (xs.map D.ss) [r0] rt (by rw [List.length_map];lia)
      refine Ex.assignM 4 (d:=D.bool true) (μ':=[(z,.lst (ss.map D.n)),(x,.acc 101 dx (xs.map D.ss++[D.ss ([r0],rt)]))]) rfl (.l rfl loc) (EvM.and (EvAndM.cons (p:=true) (q:=true) (Ev.name 4 rfl rfl).M (fun _=>EvAndM.one (EvM.cmp (x:=D.nil) R0 (EvM.own (μ₀:=[(x,.acc 101 dx (xs.map D.ss))]) (μ₁:=[(x,.acc 101 dx (xs.map D.ss++[D.ss ([r0],rt)]))]) [(z,.lst (ss.map D.n))] [] R1 (Ev.name 2 rfl rfl) (.tail _ (.head _)) rfl (by rw [hK];exact (accOk P).ok) (by rw [hK];exact mPush P) (by decide)
        (EvL.cons (Ev.itemS (t:=r0::rt) (c:=r0) R0 (Ev.name 6 rfl rfl) Ev.int (by decide) rfl (by exact Z.l577 hfs sz hl hi)) (EvL.cons ((Ev.sliceS R0 (Ev.name 6 rfl rfl) (EvP.some (Ev.int (i:=1))) EvP.none (by exact Z.l577 hfs sz hl hi)).as (d':=.s rt) (by rw [show (1:Int)=((1:Nat):Int) from rfl,cut_from];rfl)) EvL.nil)) pushC rfl) Ev.none Cmp.isNone)) rfl)) (hdoms _ _) ?_
      refine Ex.append 3 0 (d:=D.n (rt.length+1)) (Ev.name 3 rfl rfl) rfl (hdoms _ _) (Ev.callB (ds:=[.s (r0::rt)]) R0 (Ev.bltn g2 rfl rfl) (EvL.cons (Ev.name 6 rfl rfl) EvL.nil) (Bi.lenS (by exact Z.l577 hfs sz hl hi))) (by rw [List.length_map];exact Z.l563 i2 sz hl hi) ?_
      have hxp:(xs.map D.ss++[D.ss ([r0],rt)])=(xs++[([r0],rt)]).map D.ss:=by simp
      have hsp:(ss.map D.n++[D.n (rt.length+1)])=(ss++[rt.length+1]).map D.n:=by simp
      have hpl:T2.plen (xs++[([r0],rt)])=i+1:=by
        rw [T2.plen_app]
        simp only [T2.plen,List.map_cons,List.map_nil,List.sum_cons,List.sum_nil,List.length_cons,List.length_nil] at hfs ⊢
        exact Z.l578 hfs
      have lenC:=fn_len H x dx (xs++[([r0],rt)]) (fun p hp=>by have:=T2.plen_mem hp;exact Z.l579 hpl this hl hi)
      rw [T2.lenOf_plen,hpl] at lenC
      show Ex _ _ _ [(z,.lst (ss.map D.n++[D.n (rt.length+1)])),(x,.acc 101 dx (xs.map D.ss++[D.ss ([r0],rt)]))] _ _
      rw [hxp,hsp]
      refine Ex.assignM 4 (d:=D.bool true) (μ':=[(z,.lst ((ss++[rt.length+1]).map D.n)),(x,.acc 101 dx ((xs++[([r0],rt)]).map D.ss))]) rfl (.l rfl loc) (EvM.and (EvAndM.cons (p:=true) (q:=true) (Ev.name 4 rfl rfl).M (fun _=>EvAndM.one ?_) rfl)) (hdoms _ _) (Ex.nil fun s y=>⟨_,_,⟨_,_,_,_,_,_,hpl,?_,?_,rfl,rfl⟩,y⟩)
      · refine (EvM.cmp (x:=D.n (i+1)) (y:=D.n (ss++[rt.length+1]).length) R0 (EvM.len (key:="_initial_size") (μ₀:=[(x,.acc 101 dx ((xs++[([r0],rt)]).map D.ss))]) (μ₁:=[(x,.acc 101 dx ((xs++[([r0],rt)]).map D.ss))]) [(z,.lst ((ss++[rt.length+1]).map D.n))] [] R2 (Ev.bltn g2 rfl rfl) (Ev.name 2 rfl rfl) (.tail _ (.head _)) rfl (by rw [hK];exact lenOk P) lenC rfl (by exact Z.l580) (by exact Z.l581 hl hi)) (Ev.look (p:=[]) (q:=[(x,.acc 101 dx ((xs++[([r0],rt)]).map D.ss))]) 3 rfl (Ev.callB R0 (Ev.bltn g2 rfl rfl) (EvL.cons (Ev.name 3 rfl rfl) EvL.nil) (Bi.lenN (by rw [List.length_append];simp;exact Z.l582 i2 sz hl hi)))) Cmp.eqN).as ?_
        have:i+1=(ss++[rt.length+1]).length:=by rw [List.length_append];simp;exact Z.l583 i2
        rw [decide_eq_true this]
      · rw [List.length_append];simp;exact Z.l219 i2
      · rw [List.length_append];simp;exact Z.l196 hff
  · rintro ρ μ ⟨o5,o6,o7,o8,o9,o10,i1,i2,i3,rfl,rfl⟩
    simp only [List.length_map,List.take_length] at i1 i2 i3 ⊢
    have hB:=T2.built way l
    generalize T2.build way l=st at *
    obtain ⟨xs,ss⟩:=st
    dsimp only at *
    have hzS':z∉x::dx::(ownS (callEnvC fRoots.1 L 186)++doms []):=hzS
    refine Ex.freezeS (p:=[]) (q:=[(x,.acc 101 dx (xs.map D.ss))]) 3 rfl hzS' (fun b hb=>hS b (.tail _ hb)) fun X₁ hS₁ hX₁=>?_
    have hX₁:∀ b∈ownS (callEnvC fRoots.1 L 186)++X,b∈X₁:=fun b hb=>hX₁ b (.tail _ (.tail _ (.tail _ hb))) fun e=>hzX (e ▸ .tail _ (.tail _ hb))
    have loc1:(callEnvC fRoots.1 L 186).locals∈x::dx::(ownS (callEnvC fRoots.1 L 186)++doms []):=.tail _ (.tail _ (.head _))
    refine Ex.assign 3 (d:=D.ns ss.reverse) rfl (.l rfl loc1) ((Ev.revL (ds:=ss.map D.n) R0 (Ev.name 3 rfl rfl) (Ev.neg (Ev.int (i:=1))) (by rw [List.length_map];exact Z.l584 i2 sz hl)).as (by show _=D.lst (ss.reverse.map D.n);rw [List.map_reverse])) ?_
    refine Ex.assignB 11 (d:=.s l.reverse) rfl (.l rfl loc1) ((EvB.join (ls:=l.reverse.map fun c=>[c]) R0 ((EvN.comp (fun c:Nat=>D.int (c:Int)) l.reverse (fun _=>true) (fun c=>D.s [c]) [] R0 (by rfl) (Ev.revB R0 (Ev.name 0 rfl rfl) (Ev.neg (Ev.int (i:=1))) (by exact Z.l531 sz hl)) (Src.b fun c hc'=>hc c (List.mem_reverse.mp hc')) (by rw [List.length_reverse];exact Z.l531 sz hl) (fun X' L' c hc'=>⟨EvIfs.nil,fun _=>(Ev.callB (ds:=[D.n c]) R0 (Ev.bltn g3 rfl rfl) (EvL.cons (Ev.name 0 rfl rfl) EvL.nil) (Bi.chr (by exact Z.l381) (by have:=hc c (List.mem_reverse.mp hc');exact Z.l562 this))).as (by simp)⟩)).ev.as (by rw [filter_yes,List.map_map];rfl)) (by rw [flat_one];simp;exact Z.l585 hl)).as (by rw [flat_one])) ?_
    refine Ex.assignN 12 (ds:=[]) rfl (.l rfl loc1) (EvN.lst EvL.nil) (fun w hwX hwS=>?_) hS₁
    refine Ex.assign 13 (d:=D.n 0) rfl (.l rfl (.tail _ loc1)) (Ev.int (i:=0)) ?_
    refine Ex.while (fun m ρ μ=>∃ es dn,m=es.length∧dn++es=xs.reverse∧T2.Chain (ss.reverse.drop (T2.flat dn).length) es∧ρ=[some (.b l),some (D.n way),some (.val (.ref x)),some (D.ns ss.reverse),some (D.bool true),o5,o6,o7,o8,o9,o10,some (.s l.reverse),some (.val (.ref w)),some (D.n (T2.flat dn).length)]∧μ=[(w,.lst ((dn.map T2.txt).map D.s)),(x,.acc 101 dx (xs.map D.ss))]) (fun _ _=>False) xs.reverse.length ⟨xs.reverse,[],rfl,rfl,hB.chain,rfl,rfl⟩ ?_ (fun _ _ h=>h.elim)
    rintro m ρ μ ⟨es,dn,rfl,hde,hch,rfl,rfl⟩
    have hdw:∀ (es:List D),∀ b∈doms [(w,Mut.lst es),(x,Mut.acc 101 dx (xs.map D.ss))],b∈w::x::dx::(ownS (callEnvC fRoots.1 L 186)++doms []):=fun es b hb=>by
      have:b=w∨b=x∨b=dx:=by simpa [doms,Mut.more] using hb
      rcases this with rfl | rfl | rfl
      · exact .head _
      · exact .tail _ (.head _)
      · exact .tail _ (.tail _ (.head _))
    have hfl:T2.flat dn++T2.flat es=l.reverse:=by rw [← hB.text,← hde];simp [T2.flat]
    have hfll:(T2.flat dn).length+(T2.flat es).length=l.length:=by rw [← List.length_append,hfl,List.length_reverse]
    have hss:ss.reverse.length=l.length:=by rw [List.length_reverse,i2]
    refine ⟨decide ((T2.flat dn).length < ss.reverse.length),EvT.cmp R0 (Ev.name 13 rfl rfl) (Ev.callB R0 (Ev.bltn g2 rfl rfl) (EvL.cons (Ev.name 3 rfl rfl) EvL.nil) (Bi.lenN (by exact Z.l584 hss sz hl))) Cmp.ltN,fun h=>?_,fun h=>?_⟩
    · have h:=of_decide_eq_true h
      generalize hq:ss.reverse.drop (T2.flat dn).length=t at hch
      cases hch with
      | nil=>exact absurd (List.drop_eq_nil_iff.mp hq) (by exact Z.l586 h)
      | @cons _ e es' a b c =>
        subst hq
        rw [List.drop_drop] at c
        have hfe:T2.flat (e::es')=T2.txt e++T2.flat es':=rfl
        rw [hfe] at hfl hfll
        rw [List.length_append] at hfll
        have hg:ss.reverse[(T2.flat dn).length]?=some (T2.txt e).length:=by rw [← List.head?_drop];exact a
        have hfd:(T2.flat (dn++[e])).length=(T2.flat dn).length+(T2.txt e).length:=by simp [T2.flat]
        refine Ex.append 12 0 (d:=.s (T2.txt e)) (Ev.name 12 rfl rfl) rfl (hdw _) ((Ev.sliceS R0 (Ev.name 11 rfl rfl) (EvP.some (Ev.name 13 rfl rfl)) (EvP.some (Ev.bin R0 (Ev.name 13 rfl rfl) (Ev.itemN R0 (Ev.name 3 rfl rfl) (Ev.name 13 rfl rfl) hg (by exact Z.l584 hss sz hl)) Bin.addN)) (by rw [List.length_reverse];exact Z.l531 sz hl)).as (by rw [← hfl,cut_mid])) (by have:=congrArg List.length hde;simp at this;simp;exact Z.l587 this sz hl i3) ?_
        refine Ex.aug 13 (a:=D.n (T2.flat dn).length) (b:=D.n (T2.txt e).length) (d:=D.n (T2.flat (dn++[e])).length) R0 rfl rfl (.l rfl (.tail _ loc1)) (Ev.itemN R0 (Ev.name 3 rfl rfl) (Ev.name 13 rfl rfl) hg (by exact Z.l584 hss sz hl)) (by have:=Inp.add (a:=((T2.flat dn).length:Int)) (b:=((T2.txt e).length:Int));rw [hfd];exact this) (Ex.nil fun s y=>⟨_,_,⟨_,Nat.lt_succ_self _,es',dn++[e],rfl,by rw [← hde];simp,by rw [hfd];exact c,rfl,by simp⟩,y⟩)
    · have h:=of_decide_eq_false h
      have hes:es=[]:=by
        cases es with
        | nil=>rfl
        | cons e es' =>
          generalize hq:ss.reverse.drop (T2.flat dn).length=t at hch
          cases hch with
          | cons a b c =>
            subst hq
            rw [List.head?_drop] at a
            exact absurd (List.getElem?_eq_some_iff.mp a).1 h
      subst hes
      obtain rfl:dn=xs.reverse:=by simpa using hde
      exact roots_end H (X₁:=X₁) (X:=X) R hl h0 hB.text hB.one i1 i3 hwS hS₁ (fun b hb=>⟨hX₁ b hb,fun e=>hwX (e ▸ hX₁ b hb)⟩)
  · intro _ _ h;exact h.elim
end Mine
end
section
open PySem PySem.Calls PySem.W PyProof.Rows
namespace Mine
noncomputable def fLaw:FnAt 206:=⟨_,fun P=>⟨_,_,_,rfl⟩⟩
noncomputable def lawB:List Stmt:=match fLaw.1.body with | .stmts b=>b | _=>[]
noncomputable abbrev lns:List Str:=(["script"]:List Str)++(["signs","octets","word","size","rows","both","turned","due","told","words","back","manager","found","way","start","step","end","begin","runs","places","mine","turns","text","stands","rank","path","strange","great"]:List Str)
noncomputable abbrev lE (L:Addr):Env:=callEnvC fLaw.1 L 206
namespace T2
noncomputable def row (way:Nat) (sg:List Nat):List Nat:=if way=0 then sg else sg.map fun s=>255 - s
noncomputable def sz (way:Nat) (sg:List Nat):List Nat:=(build way (row way sg).reverse).2.reverse
noncomputable def wordsOf (w:Nat) (oc l:List Nat):List (List Nat):=l.map fun s=>List.replicate (1+oc.idxOf s) w
noncomputable def cand (sg:List Nat) (ws bk:List (List Nat)) (way st:Nat):Nat × Nat × Nat :=
  (st - reach bk (sg.length - st - (sz way sg).getD st 0) ((sz way sg).getD st 0),st+(sz way sg).getD st 0+reach ws st ((sz way sg).getD st 0),(sz way sg).getD st 0)
noncomputable def foundAdd (acc:List (Nat × Nat × Nat)) (c:Nat × Nat × Nat):List (Nat × Nat × Nat):=if (decide (2*c.2.2≤c.2.1 - c.1) && (decide (c∉acc) && true))=true then acc++[c] else acc
noncomputable def foundS (sg:List Nat) (ws bk:List (List Nat)) (way:Nat) (acc:List (Nat × Nat × Nat)) (st:Nat):List (Nat × Nat × Nat):=foundAdd acc (cand sg ws bk way st)
noncomputable def foundW (sg:List Nat) (ws bk:List (List Nat)) (acc:List (Nat × Nat × Nat)) (way:Nat):List (Nat × Nat × Nat):=(List.range sg.length).foldl (foundS sg ws bk way) acc
noncomputable def found (sg:List Nat) (ws bk:List (List Nat)):List (Nat × Nat × Nat):=(List.range 2).foldl (foundW sg ws bk) []
noncomputable def wayOf (sg:List Nat) (r:Nat × Nat × Nat):Nat:=if r.2.1 < sg.length∧sg.getD (r.2.1 - r.2.2) 0 < sg.getD r.2.1 0 then 1 else 0
noncomputable def minePos (sg:List Nat) (r:Nat × Nat × Nat):List Nat:=((List.range (r.2.1 - r.2.2+1 - (r.1+1))).map fun k=>r.1+1+k).filter fun s=>decide ((sz (wayOf sg r) sg).getD s 0=r.2.2)
structure Facts (sg oc:List Nat) (w:Nat):Prop where
  len:sg.length=7∨sg.length=8
  oct:∀ s∈sg,s∈oc
  few:oc.length=3
  byte:∀ s∈oc,s < 256
  wd:w < 256
  szl:∀ way,way < 2→(sz way sg).length=sg.length
  szp:∀ way,way < 2→∀ st,st < sg.length→1≤(sz way sg).getD st 0∧st+(sz way sg).getD st 0≤sg.length
  runs:sort3 (found sg (wordsOf w oc sg) (wordsOf w oc sg.reverse))=T2.runs sg
  runl:(T2.runs sg).length < 64
  run:∀ r∈T2.runs sg,r.1+2*r.2.2≤r.2.1∧r.2.1≤sg.length∧1≤r.2.2
  mine:∀ r∈T2.runs sg,(minePos sg r).length=(r.2.1 - r.1) / r.2.2 - 1∨(minePos sg r).length=(r.2.1 - r.1) / r.2.2 - 1+1
  apart:((T2.runs sg).flatMap (minePos sg)).Nodup
  long:∀ way,way < 2→sz way sg=(List.range sg.length).map (longest (row way sg))
  coll:∀ s,s < sg.length→Mine.coll sg (sg.drop s)=if s=0 then 0 else if ordN .Gt sg (sg.drop s)=true then 1 else -1
  path:∀ b∈[whole (wordsOf w oc sg),[]],suburi ([104],b) ([104],whole (wordsOf w oc sg))=true
  strange:∀ p∈[([104],[104,104]),([104,104],[104]),([72],[104])],suburi (p.1,[]) (p.2,whole (wordsOf w oc sg))=false
  great:suburi ([104],(whole (wordsOf w oc sg)).map fun c=>if c=97 then 65 else c) ([104],whole (wordsOf w oc sg)++[47])=decide (w≠97)
  last:suburi ([104],whole (wordsOf w oc sg)) ([104,104],whole (wordsOf w oc sg))=false
theorem reach_le (ws:List (List Nat)) (st p:Nat):reach ws st p≤ws.length - (st+p):=by
  have:∀ (wh front:List Nat) (r:List (List Nat)),go wh front r≤r.length:=by
    intro wh front r
    induction r generalizing front with
    | nil=>simp [go]
    | cons w r ih=>unfold go;split <;> have:=ih (front++[47]++w) <;> rw [List.length_cons] <;> lia
  have h:=this (whole (cut ws (some (st:Int)) none)) [] (ws.drop (st+p))
  rw [List.length_drop] at h
  exact h
theorem swp_two (a b:List Nat) (h:a.length=b.length) (h0:0 < a.length):swp a.length 2 (a++b)=a.reverse++b.reverse:=by
  refine List.ext_getElem (by simp [swp];exact Z.l602 h) fun k h1 h2=>?_
  simp only [swp,List.getElem_map,List.getElem_range,List.getD_eq_getElem?_getD]
  simp only [swp,List.length_map,List.length_range] at h1
  by_cases hk:k < a.length
  · rw [Nat.div_eq_of_lt hk,Nat.mod_eq_of_lt hk,List.getElem?_append_left (by exact Z.l603 hk),List.getElem_append_left (by simpa using hk),List.getElem_reverse,List.getElem?_eq_getElem (by exact Z.l603 hk)]
    simp
  · have e1:k / a.length=1:=by
      rw [Nat.div_eq_iff h0];exact Z.l604 h1 hk
    have e2:k % a.length=k - a.length:=by
      rw [Nat.mod_eq_sub_mod (by exact Z.l191 hk),Nat.mod_eq_of_lt (by exact Z.l605 h1)]
    rw [e1,e2,List.getElem?_append_right (by exact Z.l606),List.getElem_append_right (by simp;exact Z.l191 hk),List.getElem_reverse,List.getElem?_eq_getElem (by lia)]
    simp only [Option.getD_some]
    congr 1
    simp
    lia
end T2
theorem Bi.bytesN {l:List Nat} (h:∀ c∈l,c < 256) (hz:l.length≤sizeLine):Bi (.type "bytes") [D.ns l] (.b l):=by
  have:=Bi.bytes (ns:=l.map fun k:Nat=>(k:Int)) (fun n hn=>by
    obtain ⟨k,hk,rfl⟩:=List.mem_map.mp hn
    have:=h k hk
    exact Z.l609 this) (by rwa [List.length_map])
  rw [List.map_map] at this
  have e:byteArr (l.map fun k:Nat=>(k:Int))=bl l:=by
    unfold byteArr bl
    rw [List.map_map];rfl
  rw [e] at this
  exact this
theorem Bin.addNs {a b:List Nat} (h:a.length+b.length≤sizeLine):Bin .Add (D.ns a) (D.ns b) (D.ns (a++b)):=by
  have:=Bin.addL (as:=a.map D.n) (bs:=b.map D.n) (by simpa using h)
  unfold D.ns;rw [List.map_append];exact this
theorem Ev.revN {g : G} {ρ : List (Option D)} {μ : List (Addr × Mut)} {v st : Expr} {p pos : Pos} {l : List Nat} (R : Room g.A 0) (hv : Ev g ρ μ v (D.ns l)) (hst : Ev g ρ μ st (.int (-1))) (hz : l.length ≤ sizeLine) :
    Ev g ρ μ (.Subscript v (.Slice Option.none Option.none (Option.some st) p) pos) (D.ns l.reverse):=by
  have:=Ev.revL (p:=p) (pos:=pos) R hv hst (by rwa [List.length_map])
  rwa [← List.map_reverse] at this
theorem Cmp.geN {a b:Nat}:Cmp .GtE (D.n a) (D.n b) (D.bool (decide (b≤a))):=by
  have:=Cmp.ge (a:=(a:Int)) (b:=(b:Int))
  have e:decide ((a:Int)≥(b:Int))=decide (b≤a):=by simp
  rwa [e] at this
theorem EvM.bin {g:G} {ρ:List (Option D)} {μ μ':List (Addr × Mut)} {l r:Expr} {op:Operator} {pos:Pos} {a b d:D} (R:Room g.A 0) (hl:Ev g ρ μ l a) (hr:EvM g ρ μ r b μ') (hf:a.flat=true) (o:Bin op a b d):EvM g ρ μ (.BinOp l op r pos) d μ':=⟨hr.1,fun s x =>
  wpAny_BinOp (hl.wp x fun va s₁ x₁ r₁ e₁ => hr.wp x₁ fun vb s₂ x₂ r₂ e₂ => (o _ _ _ _ _ _ x₂.inv R (by
      cases a with
      | int i=>(first | obtain rfl:=r₁.vI | obtain ⟨_,rfl⟩:=r₁.iI | obtain ⟨_,rfl⟩:=r₁.sI | obtain ⟨_,rfl⟩:=r₁.bI | obtain rfl:=r₁.nI | cases r₁);exact .int ..
      | str t=>(first | obtain rfl:=r₁.vI | obtain ⟨_,rfl⟩:=r₁.iI | obtain ⟨_,rfl⟩:=r₁.sI | obtain ⟨_,rfl⟩:=r₁.bI | obtain rfl:=r₁.nI | cases r₁);exact .str ..
      | bytes t=>(first | obtain rfl:=r₁.vI | obtain ⟨_,rfl⟩:=r₁.iI | obtain ⟨_,rfl⟩:=r₁.sI | obtain ⟨_,rfl⟩:=r₁.bI | obtain rfl:=r₁.nI | cases r₁);exact .bytes ..
      | val v=>(first | obtain rfl:=r₁.vI | obtain ⟨_,rfl⟩:=r₁.iI | obtain ⟨_,rfl⟩:=r₁.sI | obtain ⟨_,rfl⟩:=r₁.bI | obtain rfl:=r₁.nI | cases r₁);exact .val ..
      | _=>exact absurd hf Bool.false_ne_true) r₂).use fun v s₃ e₃ r₃=>⟨(e₁.up0.trans e₂).trans e₃.up0,x₂.ext e₃,r₃⟩)⟩
theorem rep_one (n w:Nat):(List.replicate n [w]).flatten=List.replicate n w:=by
  induction n with
  | zero=>rfl
  | succ n ih=>rw [List.replicate_succ,List.replicate_succ,List.flatten_cons,ih];rfl
end Mine
end
section
open PySem PySem.Calls PySem.W PyProof.Rows
namespace Mine
theorem retT {X Y:List Addr} {s:Shared} {v:Value} (r:Rep X s.heap v (D.bool true)):RetAs Y (D.bool true) [] (.ret v) s:=⟨by (first | obtain rfl:=r.vI | obtain ⟨_,rfl⟩:=r.iI | obtain ⟨_,rfl⟩:=r.sI | obtain ⟨_,rfl⟩:=r.bI | obtain rfl:=r.nI | cases r);exact .val _,fun _ h=>nomatch h⟩
noncomputable abbrev rowsD (sg:List Nat):D:=.lst [D.ns sg,D.ns (T2.row 1 sg)]
noncomputable abbrev toldD (sg:List Nat):D:=.lst [.tup [D.ns (T2.sz 0 sg),D.bool true],.tup [D.ns (T2.sz 1 sg),D.bool true]]
theorem rows_at (sg:List Nat) {k:Nat} (h:k < 2):[D.ns sg,D.ns (T2.row 1 sg)][((k:Nat):Int).toNat]?=some (D.ns (T2.row k sg)):=by
  match k,h with
  | 0,_=>rfl
  | 1,_=>rfl
theorem told_at (sg:List Nat) {k:Nat} (h:k < 2):[D.tup [D.ns (T2.sz 0 sg),D.bool true],D.tup [D.ns (T2.sz 1 sg),D.bool true]][((k:Nat):Int).toNat]?=some (D.tup [D.ns (T2.sz k sg),D.bool true]):=by
  match k,h with
  | 0,_=>rfl
  | 1,_=>rfl
theorem row_len (k:Nat) (sg:List Nat):(T2.row k sg).length=sg.length:=by unfold T2.row;split <;> simp
theorem words_len {w:Nat} {oc l:List Nat} (h:oc.length=3):∀ x∈T2.wordsOf w oc l,x.length≤4:=fun x hx=>by
  obtain ⟨s,_,rfl⟩:=List.mem_map.mp hx
  rw [List.length_replicate]
  have:=List.idxOf_le_length (a:=s) (l:=oc)
  exact Z.l648 h this
theorem law_d {C : Cx} (H : Is2 C) {A : Around} (R : Room A 5) {X₁ Y S : List Addr} {L m dm : Addr} {sg oc : List Nat} {w : Nat} {d0 d6 d7 d8 d11 : Option D} {o13 o14 o15 o16 o17 o18 o19 o20 o21 o22 o23 o24 o25 o26 o27 o28 : Option D} (Q : T2.Facts sg oc w)
    (hloc:(lE L).locals∈S) (hcell:∀ b∈(lE L).cells.map (·.2),b∈S) (hS:∀ b∈S,b∈X₁) (hm:m∈S∧dm∈S) :
    Ex ⟨C,A,X₁,lE L,lns⟩ S [d0,some (D.ns sg),some (D.ns oc),some (.s [w]),some (D.n sg.length),some (rowsD sg),d6,d7,d8,some (toldD sg),some (.lst ((T2.wordsOf w oc sg).map D.s)),d11,some (.val (.ref m)),o13,o14,o15,o16,o17,o18,o19,o20,o21,o22,o23,o24,o25,o26,o27,o28]
      [(m,.inst 165 dm)] (lawB.drop 18) (RetAs Y (D.bool true) []):=by
  obtain ⟨P,hK⟩:=H.K
  have sz:sizeLine=16777216:=rfl
  have hl:=Q.len
  have g1:C.mg "range"=none:=H.noGlob fun P=>by rfl
  have g2:C.mg "len"=none:=H.noGlob fun P=>by rfl
  have g3:C.mg "chr"=none:=H.noGlob fun P=>by rfl
  have g4:C.mg "isinstance"=none:=H.noGlob fun P=>by rfl
  have g5:C.mg "int"=none:=H.noGlob fun P=>by rfl
  have g6:C.mg "bool"=none:=H.noGlob fun P=>by rfl
  have g7:C.mg "_law_longest"=some (.ref 201):=H.glob fun P=>by rfl
  have g8:C.mg "_strcoll"=some (.ref 112):=H.glob fun P=>by rfl
  have g9:C.mg "_strxfrm"=some (.ref 119):=H.glob fun P=>by rfl
  have R0:Room A 0:=R.zero
  have R1:Room A 1:=R.less (by exact Z.l405)
  have two:2≤sizeLine:=by decide
  have hb:∀ s∈sg,s < 256:=fun s hs=>Q.byte s (Q.oct s hs)
  have hdm:∀ b∈doms [(m,Mut.inst 165 dm)],b∈S:=fun b hb=>by
    have:b=m∨b=dm:=inst_dom hb
    rcases this with rfl | rfl
    · exact hm.1
    · exact hm.2
  have hw4:=words_len (w:=w) (oc:=oc) (l:=sg) Q.few
  have hwl:(T2.whole (T2.wordsOf w oc sg)).length≤11*sg.length:=by
    have:=T2.whole_len (ws:=T2.wordsOf w oc sg) (fun x hx=>by have:=hw4 x hx;exact Z.l613 this)
    simpa [T2.wordsOf] using this
  have hwn:(T2.wordsOf w oc sg).length=sg.length:=by simp [T2.wordsOf]
  refine Ex.forN 14 (d:=.rng 0 ((2:Nat):Int) 1) (ds:=(List.range 2).map D.n) R0 rfl (.c rfl rfl hcell) hS (Ev.callB (ds:=[D.n 2]) R0 (Ev.bltn g1 rfl rfl) (EvL.cons (Ev.int (i:=2)) EvL.nil) Bi.range1) (upto _ (by exact Z.l611))
    (fun _ ρ μ=>∃ o14,ρ=[d0,some (D.ns sg),some (D.ns oc),some (.s [w]),some (D.n sg.length),some (rowsD sg),d6,d7,d8,some (toldD sg),some (.lst ((T2.wordsOf w oc sg).map D.s)),d11,some (.val (.ref m)),o13,o14,o15,o16,o17,o18,o19,o20,o21,o22,o23,o24,o25,o26,o27,o28]∧μ=[(m,.inst 165 dm)]) (fun _ _=>False) ?_ ?_ ⟨_,rfl,rfl⟩ ?_ ?_ ?_
  · rintro i ρ μ ⟨_,_,rfl⟩;rfl
  · intro _ _ h;exact h.elim
  · rintro wr k d ρ μ hd ⟨o14,rfl,rfl⟩
    rw [List.getElem?_map] at hd
    have hk:k < 2:=by
      by_cases h:k < 2
      · exact h
      · rw [List.getElem?_eq_none (by simp;exact Z.l237 h)] at hd;cases hd
    rw [List.getElem?_range hk] at hd
    cases hd
    have hrl:(T2.row k sg).length=sg.length:=row_len k sg
    refine Ex.ite (c:=false) ?_ (fun h=>nomatch h) (fun _=>Ex.go (Ex.nil fun s y=>⟨_,_,⟨_,rfl,rfl⟩,y⟩))
    have e:false=decide ((T2.sz k sg,true)≠((List.range sg.length).map (T2.longest (T2.row k sg)),true)):=by
      rw [Q.long k hk];simp
    rw [e]
    refine EvT.cmp R0 (Ev.itemL (k:=((k:Nat):Int)) R0 (Ev.name 9 rfl rfl) (Ev.name 14 rfl rfl) (by exact Z.l381) (told_at sg hk) (by show 2≤_;decide)) (Ev.tup (EvL.cons ((EvN.comp D.n (List.range sg.length) (fun _=>true) (fun st=>D.n (T2.longest (T2.row k sg) st)) [(5,"rows"),(14,"way")] R0 (by rfl) (Ev.callB (ds:=[D.n sg.length]) R0 (Ev.bltn g1 rfl rfl) (EvL.cons (Ev.name 4 rfl rfl) EvL.nil) Bi.range1) (upto _ (by exact Z.l612 hl)) (by simp;exact Z.l632 sz hl) (fun X' L' st hst=>⟨EvIfs.nil,fun _=>?_⟩)).ev.as (d':=D.ns ((List.range sg.length).map (T2.longest (T2.row k sg)))) ?_) (EvL.cons Ev.bool EvL.nil)) (by show 2≤_;decide)) (Cmp.neP Kd.nat.lst (Kd.bool.up (Nat.zero_le _)) (by decide) (T2.sz k sg,true) ((List.range sg.length).map (T2.longest (T2.row k sg)),true))
    · exact Ev.call (ds:=[D.ns (T2.row k sg),D.n st]) R1 (Ev.glob g7 rfl) (by show keepIn C.K _=true;rw [hK];rfl) (EvL.cons (Ev.itemL (k:=((k:Nat):Int)) R0 (Ev.name 1 rfl rfl) (Ev.name 2 rfl rfl) (by exact Z.l381) (rows_at sg hk) (by show 2≤_;decide)) (EvL.cons (Ev.name 0 rfl rfl) EvL.nil)) (Fn.of_M (fn_longest H (T2.row k sg) st (by exact Z.l649 hrl hl) (by have:=List.mem_range.mp hst;exact Z.l264 hrl this)))
    · rw [filter_yes];simp [List.map_map,Function.comp_def]
  · rintro ρ μ ⟨o14,rfl,rfl⟩
    refine @Ex.assignB _ _ _ _ _ _ 23 _ _ _ _ (.s sg) rfl (.l rfl hloc) ((EvB.join (ls:=sg.map fun c=>[c]) R0 ((EvN.comp D.n sg (fun _=>true) (fun c=>D.s [c]) [] R0 (by rfl) (Ev.name 1 rfl rfl) Src.lst (by exact Z.l632 sz hl) (fun X' L' c hc'=>⟨EvIfs.nil,fun _=>(Ev.callB (ds:=[D.n c]) R0 (Ev.bltn g3 rfl rfl) (EvL.cons (Ev.name 0 rfl rfl) EvL.nil) (Bi.chr (by exact Z.l381) (by have:=hb c hc';exact Z.l562 this))).as (by simp)⟩)).ev.as (by rw [filter_yes,List.map_map];rfl)) (by rw [flat_one];simp;exact Z.l650 hl)).as (by rw [flat_one])) ?_ rfl
    refine Ex.forN 15 (d:=.rng 0 ((sg.length:Nat):Int) 1) (ds:=(List.range sg.length).map D.n) R0 rfl (.l rfl hloc) hS (Ev.callB (ds:=[D.n sg.length]) R0 (Ev.bltn g1 rfl rfl) (EvL.cons (Ev.name 4 rfl rfl) EvL.nil) Bi.range1) (upto _ (by exact Z.l612 hl))
      (fun _ ρ μ=>∃ o15 o24 o25,ρ=[d0,some (D.ns sg),some (D.ns oc),some (.s [w]),some (D.n sg.length),some (rowsD sg),d6,d7,d8,some (toldD sg),some (.lst ((T2.wordsOf w oc sg).map D.s)),d11,some (.val (.ref m)),o13,o14,o15,o16,o17,o18,o19,o20,o21,o22,some (.s sg),o24,o25,o26,o27,o28]∧μ=[(m,.inst 165 dm)]) (fun _ _=>False) ?_ ?_ ⟨_,_,_,rfl,rfl⟩ ?_ ?_ ?_
    · rintro i ρ μ ⟨_,_,_,_,rfl⟩;rfl
    · intro _ _ h;exact h.elim
    · rintro wr st d ρ μ hd ⟨o15,o24,o25,rfl,rfl⟩
      rw [List.getElem?_map] at hd
      have hk:st < sg.length:=by
        by_cases h:st < sg.length
        · exact h
        · rw [List.getElem?_eq_none (by simp;exact Z.l191 h)] at hd;cases hd
      rw [List.getElem?_range hk] at hd
      cases hd
      have hcoll:=Q.coll st hk
      refine Ex.assign 24 (d:=.int (coll sg (sg.drop st))) rfl (.l rfl hloc) (Ev.call (ds:=[.s sg,.s (sg.drop st)]) R1 (Ev.glob g8 rfl) (by show keepIn C.K _=true;rw [hK];rfl) (EvL.cons (Ev.name 23 rfl rfl) (EvL.cons ((Ev.sliceS R0 (Ev.name 23 rfl rfl) (EvP.some (Ev.name 15 rfl rfl)) EvP.none (by exact Z.l632 sz hl)).as (by rw [cut_from])) EvL.nil)) (Fn.of_M (fn_coll H sg (sg.drop st)))) ?_
      refine Ex.assign 25 (d:=.int (coll sg (sg.drop st))) rfl (.l rfl hloc) (Ev.ite (c:=decide (st=0)) (EvT.cmp R0 (Ev.name 15 rfl rfl) (Ev.int (i:=0)) (Cmp.eqN (b:=0))) (fun h=>(Ev.int (i:=0)).as ?_) (fun h=>Ev.ite (c:=ordN .Gt sg (sg.drop st)) (EvT.cmp R0 (Ev.name 1 rfl rfl) ((Ev.sliceN R0 (Ev.name 1 rfl rfl) (EvP.some (Ev.name 15 rfl rfl)) EvP.none (by exact Z.l632 sz hl)).as (by rw [cut_from])) (Cmp.ordN .gt _ _)) (fun h2=>(Ev.int (i:=1)).as ?_) (fun h2=>(Ev.neg (Ev.int (i:=1))).as ?_))) ?_
      · rw [hcoll,if_pos (of_decide_eq_true h)]
      · rw [hcoll,if_neg (of_decide_eq_false h),if_pos h2]
      · rw [hcoll,if_neg (of_decide_eq_false h),if_neg (by rw [h2];decide)]
      generalize coll sg (sg.drop st)=cl
      refine Ex.ite (c:=false) (EvT.or (EvOr.cons (a:=false) (EvT.not (b:=true) (EvT.val R0 (Ev.callB (ds:=[.int cl,.val (.type "int")]) R0 (Ev.bltn g4 rfl rfl) (EvL.cons (Ev.name 24 rfl rfl) (EvL.cons (Ev.bltn g5 rfl rfl) EvL.nil)) Bi.isiInt) (Tru.bool _))) (fun _=>EvOr.cons (a:=false) (EvT.val R0 (Ev.callB (ds:=[.int cl,.val (.type "bool")]) R0 (Ev.bltn g4 rfl rfl) (EvL.cons (Ev.name 24 rfl rfl) (EvL.cons (Ev.bltn g6 rfl rfl) EvL.nil)) Bi.isiBool) (Tru.bool _)) (fun _=>EvOr.cons (a:=false) ?_ fun _=>EvOr.nil)))) (fun h=>nomatch h) (fun _=>Ex.go (Ex.nil fun s y=>⟨_,_,⟨_,_,_,rfl,rfl⟩,y⟩))
      have e:(cl != cl)=false:=by simp
      rw [← e]
      exact EvT.cmp R0 (Ev.name 24 rfl rfl) (Ev.name 25 rfl rfl) Cmp.ne
    · rintro ρ μ ⟨o15,o24,o25,rfl,rfl⟩
      refine @Ex.assignB _ _ _ _ _ _ 26 _ _ _ _ (.s (T2.whole (T2.wordsOf w oc sg))) rfl (.c rfl rfl hcell) (EvB.join (ls:=(T2.wordsOf w oc sg).map T2.slash) R0 ((EvN.comp D.s (T2.wordsOf w oc sg) (fun _=>true) (fun w=>D.s (T2.slash w)) [] R0 (by rfl) (Ev.name 10 rfl rfl) Src.lst (by exact Z.l617 hwn sz hl) (fun X' L' w hw'=>⟨EvIfs.nil,fun _=>Ev.bin R0 (Ev.str (x:="/")) (Ev.name 0 rfl rfl) (Bin.addS (a:=[47]) (by have:=hw4 w hw';simp;exact Z.l651 sz this))⟩)).ev.as (by rw [filter_yes,List.map_map];rfl)) (by simp only [T2.whole] at hwl;rw [List.length_map];exact Z.l652 hwn hwl hl)) ?_ rfl
      have q1:=Q.path
      have q2:=Q.strange
      have q3:=Q.great
      have q4:=Q.last
      generalize T2.whole (T2.wordsOf w oc sg)=pth at *
      have hmem:(m,Mut.inst 165 dm)∈[(m,Mut.inst 165 dm)]:=.head _
      refine Ex.ite (c:=false) ?_ (fun h=>nomatch h) (fun _=>Ex.go ?_)
      · have e:false=decide (([pth,[]].filter fun b=>decide (suburi ([104],b) ([104],pth)≠true))≠[]):=by
          simp [q1]
        rw [e]
        refine EvT.cmp R0 (EvN.comp D.s [pth,[]] (fun b=>decide (suburi ([104],b) ([104],pth)≠true)) D.s [(12,"manager"),(26,"path")] R0 (by rfl) (Ev.lst (ds:=[.s pth,.s []]) (EvL.cons (Ev.name 26 rfl rfl) (EvL.cons (Ev.str (x:="")) EvL.nil)) two) Src.lst two (fun X' L' b hb'=>⟨EvIfs.one ?_,fun _=>Ev.name 0 rfl rfl⟩)).ev (Ev.lst (ds:=[]) EvL.nil) (Cmp.neL Kd.s (by decide) _ [])
        have hbl:b.length≤1000:=by
          simp only [List.mem_cons,List.not_mem_nil,or_false] at hb'
          rcases hb' with rfl | rfl
          · exact Z.l653 hwl hl
          · simp
        exact EvT.cmp R0 (Ev.own (m:=.inst 165 dm) R1 (Ev.name 1 rfl rfl) hmem rfl (by show ClsOk C.K _;rw [hK];exact mgrOk P) (by show MethOk C.K _ _ _;rw [hK];exact mSub P) (by decide) (EvL.cons (Ev.tup (EvL.cons (Ev.str (x:="h")) (EvL.cons (Ev.name 0 rfl rfl) EvL.nil)) two) (EvL.cons (Ev.tup (EvL.cons (Ev.str (x:="h")) (EvL.cons (Ev.name 2 rfl rfl) EvL.nil)) two) EvL.nil)) (fn_sub H (.ref m) ([104],b) ([104],pth) (by show b.length≤_;exact Z.l654 hbl) (by show 1≤_;decide) (by show pth.length≤_;exact Z.l655 hwl hl))) Ev.bool (Cmp.isNotB _ true)
      refine @Ex.assign _ _ _ _ _ _ 27 _ _ _ _ (.lst ([([104],[104,104]),([104,104],[104]),([72],[104])].map D.ss)) rfl (.l rfl hloc) (@Ev.lst _ _ _ _ _ _ (@EvL.cons _ _ _ _ _ _ _ _ (@Ev.tup _ _ _ _ _ _ _ (@EvL.cons _ _ _ _ _ _ _ _ (Ev.str (x:="h")) (@EvL.cons _ _ _ _ _ _ _ _ (Ev.str (x:="hh")) EvL.nil rfl) rfl) two) (@EvL.cons _ _ _ _ _ _ _ _ (@Ev.tup _ _ _ _ _ _ _ (@EvL.cons _ _ _ _ _ _ _ _ (Ev.str (x:="hh")) (@EvL.cons _ _ _ _ _ _ _ _ (Ev.str (x:="h")) EvL.nil rfl) rfl) two) (@EvL.cons _ _ _ _ _ _ _ _ (@Ev.tup _ _ _ _ _ _ _ (@EvL.cons _ _ _ _ _ _ _ _ (Ev.str (x:="H")) (@EvL.cons _ _ _ _ _ _ _ _ (Ev.str (x:="h")) EvL.nil rfl) rfl) two) EvL.nil rfl) rfl) rfl) (by show 3≤_;decide)) ?_ rfl
      refine Ex.ite (c:=false) ?_ (fun h=>nomatch h) (fun _=>Ex.go ?_)
      · have e:false=decide (([([104],[104,104]),([104,104],[104]),([72],[104])].filter fun p:List Nat × List Nat=>decide (suburi (p.1,[]) (p.2,pth)≠false))≠[]):=by
          have h:([([104],[104,104]),([104,104],[104]),([72],[104])].filter fun p:List Nat × List Nat=>decide (suburi (p.1,[]) (p.2,pth)≠false))=[]:=by
            rw [List.filter_eq_nil_iff]
            intro p hp
            rw [q2 p hp];decide
          rw [h];rfl
        rw [e]
        refine EvT.cmp R0 (EvN.comp D.ss [([104],[104,104]),([104,104],[104]),([72],[104])] (fun p=>decide (suburi (p.1,[]) (p.2,pth)≠false)) D.ss [(12,"manager"),(26,"path")] R0 (by rfl) (Ev.name 27 rfl rfl) Src.lst (by decide) (fun X' L' p hp'=>⟨EvIfs.one ?_,fun _=>Ev.name 0 rfl rfl⟩)).ev (Ev.lst (ds:=[]) EvL.nil) (Cmp.neL (Kd.pair Kd.s Kd.s) (by decide) _ [])
        have hpl:p.1.length≤1000∧p.2.length≤1000:=by
          simp only [List.mem_cons,List.not_mem_nil,or_false] at hp'
          rcases hp' with rfl | rfl | rfl <;> exact ⟨by decide,by decide⟩
        exact EvT.cmp R0 (Ev.own (m:=.inst 165 dm) R1 (Ev.name 1 rfl rfl) hmem rfl (by show ClsOk C.K _;rw [hK];exact mgrOk P) (by show MethOk C.K _ _ _;rw [hK];exact mSub P) (by decide) (EvL.cons (Ev.tup (EvL.cons (Ev.itemT (d:=.s p.1) R0 (Ev.name 0 rfl rfl) Ev.int (by decide) rfl two) (EvL.cons (Ev.str (x:="")) EvL.nil)) two) (EvL.cons (Ev.tup (EvL.cons (Ev.itemT (d:=.s p.2) R0 (Ev.name 0 rfl rfl) Ev.int (by decide) rfl two) (EvL.cons (Ev.name 2 rfl rfl) EvL.nil)) two) EvL.nil)) (fn_sub H (.ref m) (p.1,[]) (p.2,pth) (by show 0≤_;exact Z.l656) (by show p.1.length≤_;exact Z.l375 hpl) (by show pth.length≤_;exact Z.l655 hwl hl))) Ev.bool (Cmp.isNotB _ false)
      refine @Ex.assignB _ _ _ _ _ _ 28 _ _ _ _ (.s (pth.map fun c=>if c=97 then 65 else c)) rfl (.l rfl hloc) ((EvB.join (ls:=(pth.map fun c=>if c=97 then 65 else c).map fun c=>[c]) R0 ((EvN.comp (fun c:Nat=>D.s [c]) pth (fun _=>true) (fun c=>D.s [if c=97 then 65 else c]) [] R0 (by rfl) (Ev.name 26 rfl rfl) Src.s (by exact Z.l657 sz hwl hl) (fun X' L' c hc'=>⟨EvIfs.nil,fun _=>Ev.ite (c:=decide ([c]=[97])) (EvT.cmp R0 (Ev.name 0 rfl rfl) (Ev.str (x:="a")) (Cmp.eqs [c] [97])) (fun h=>(Ev.str (x:="A")).as ?_) (fun h=>(Ev.name 0 rfl rfl).as ?_)⟩)).ev.as (by rw [filter_yes];simp [List.map_map,Function.comp_def])) (by rw [flat_one];simp;exact Z.l658 hwl hl)).as (by rw [flat_one])) ?_ rfl
      · have:c=97:=by simpa using of_decide_eq_true h
        rw [if_pos this];rfl
      · have:c≠97:=by simpa using of_decide_eq_false h
        rw [if_neg this]
      have hgl:(pth.map fun c=>if c=97 then 65 else c).length=pth.length:=by simp
      generalize (pth.map fun c=>if c=97 then 65 else c)=gr at *
      refine Ex.ite (c:=false) (EvT.or (EvOr.cons (a:=false) ?_ (fun _=>EvOr.cons (a:=false) ?_ fun _=>EvOr.nil))) (fun h=>nomatch h) (fun _=>Ex.go ?_)
      · have e:false=decide (suburi ([104],gr) ([104],pth++[47])≠decide (w≠97)):=by rw [q3];simp
        rw [e]
        exact EvT.cmp R0 (Ev.own (m:=.inst 165 dm) R1 (Ev.name 12 rfl rfl) hmem rfl (by show ClsOk C.K _;rw [hK];exact mgrOk P) (by show MethOk C.K _ _ _;rw [hK];exact mSub P) (by decide) (EvL.cons (Ev.tup (EvL.cons (Ev.str (x:="h")) (EvL.cons (Ev.name 28 rfl rfl) EvL.nil)) two) (EvL.cons (Ev.tup (EvL.cons (Ev.str (x:="h")) (EvL.cons (Ev.bin R0 (Ev.name 26 rfl rfl) (Ev.str (x:="/")) (Bin.addS (b:=[47]) (by simp;exact Z.l659 sz hwl hl))) EvL.nil)) two) EvL.nil)) (fn_sub H (.ref m) ([104],gr) ([104],pth++[47]) (by show gr.length≤_;exact Z.l660 hgl hwl hl) (by show 1≤_;decide) (by show (pth++[47]).length≤_;simp;exact Z.l661 hwl hl))) ((Ev.cmp R0 (Ev.name 3 rfl rfl) (Ev.str (x:="a")) (Cmp.nes [w] [97])).as (d':=D.bool (decide (w≠97))) (by simp)) (Cmp.isNotB _ _)
      · have e:false=decide (sg≠sg):=by simp
        rw [e]
        exact EvT.cmp R0 (Ev.call (ds:=[.s sg]) R1 (Ev.glob g9 rfl) (by show keepIn C.K _=true;rw [hK];rfl) (EvL.cons (Ev.name 23 rfl rfl) EvL.nil) (Fn.of_M (fn_xfrm H (.s sg)))) (Ev.name 23 rfl rfl) (Cmp.nes sg sg)
      refine Ex.ret (d:=D.bool true) ((Ev.cmp (d:=D.bool (decide (suburi ([104],pth) ([104,104],pth)=false))) R0 (Ev.own (m:=.inst 165 dm) R1 (Ev.name 12 rfl rfl) hmem rfl (by show ClsOk C.K _;rw [hK];exact mgrOk P) (by show MethOk C.K _ _ _;rw [hK];exact mSub P) (by decide) (EvL.cons (Ev.tup (EvL.cons (Ev.str (x:="h")) (EvL.cons (Ev.name 26 rfl rfl) EvL.nil)) two) (EvL.cons (Ev.tup (EvL.cons (Ev.str (x:="hh")) (EvL.cons (Ev.name 26 rfl rfl) EvL.nil)) two) EvL.nil)) (fn_sub H (.ref m) ([104],pth) ([104,104],pth) (by show pth.length≤_;exact Z.l655 hwl hl) (by show 1≤_;decide) (by show pth.length≤_;exact Z.l655 hwl hl))) Ev.bool (Cmp.isB _ false)).as (by rw [q4];simp)) fun v s y r=>retT r
    · intro _ _ h;exact h.elim
  · intro _ _ h;exact h.elim
end Mine
end
section
open PySem PySem.Calls PySem.W PyProof.Rows
namespace Mine
section
variable {g:G} {ρ:List (Option D)} {μ μ':List (Addr × Mut)} {s:Shared} {S:List Addr} {Φ:Flow→Shared→Prop} {rest:List Stmt}
theorem Ex.assignT3 (i1 i2 i3 : Nat) {x1 x2 x3 : Str} {q1 q2 q3 p pos : Pos} {k : Nat} {e : Expr} {a b c : D} (R : Room g.A 0) (h1 : g.ns[i1]? = some x1 ∧ Stored g S x1) (h2 : g.ns[i2]? = some x2 ∧ Stored g S x2) (h3 : g.ns[i3]? = some x3 ∧ Stored g S x3) (hS : ∀ a ∈ S, a ∈ g.X) (hμ : ∀ a ∈ doms μ, a ∈ S)
    (he:EvM g ρ μ e (.tup [a,b,c]) μ') (kk:Ex g S (((ρ.set i1 (some a)).set i2 (some b)).set i3 (some c)) μ' rest Φ)
    (hs:swapsWithSole [.Tuple [.Name x1 q1,.Name x2 q2,.Name x3 q3] k p] e pos.line g.env=pure false:=by rfl) (hw:swappedStores [.Tuple [.Name x1 q1,.Name x2 q2,.Name x3 q3] k p] e g.env=pure none:=by rfl) :
    Ex g S ρ μ (.Assign [.Tuple [.Name x1 q1,.Name x2 q2,.Name x3 q3] k p] e pos::rest) Φ :=
  Ex.assignT [(i1,x1,q1),(i2,x2,q2),(i3,x3,q3)] R rfl (fun t ht=>by
    simp only [List.mem_cons,List.not_mem_nil,or_false] at ht
    rcases ht with rfl | rfl | rfl
    · exact h1
    · exact h2
    · exact h3) hS hμ he rfl kk hs hw
theorem Ex.forT3 {α : Type} (i1 i2 i3 : Nat) {x1 x2 x3 : Str} {q1 q2 q3 p pos : Pos} {k : Nat} {iter : Expr} {body : List Stmt} {d : D} (f1 f2 f3 : α → D) (xs : List α) (R : Room g.A 0) (h1 : g.ns[i1]? = some x1 ∧ Stored g S x1) (h2 : g.ns[i2]? = some x2 ∧ Stored g S x2) (h3 : g.ns[i3]? = some x3 ∧ Stored g S x3) (hS : ∀ a ∈ S, a ∈ g.X)
    (hi:Ev g ρ μ iter d) (src:Src d (xs.map fun x=>.tup [f1 x,f2 x,f3 x]))
    (J:Nat→List (Option D)→List (Addr × Mut)→Prop) (hμ:∀ i ρ' μ',J i ρ' μ'→doms μ'=doms μ) (j0:J 0 ρ μ)
    (turn:∀ wr j a ρ' μ',xs[j]?=some a→J j ρ' μ'→Ex { g with X:=wr++g.X } S (((ρ'.set i1 (some (f1 a))).set i2 (some (f2 a))).set i3 (some (f3 a))) μ' body (Turn { g with X:=wr++g.X } (J (j+1)) (fun _ _=>False) Φ))
    (done:∀ ρ' μ',J xs.length ρ' μ'→Ex g S ρ' μ' rest Φ)
    (hs:∀ x,foldedSetIterable iter g.env x=pure x:=by intro _;rfl):Ex g S ρ μ (.For (.Tuple [.Name x1 q1,.Name x2 q2,.Name x3 q3] k p) iter body [] pos::rest) Φ :=
  Ex.forT [(i1,x1,q1),(i2,x2,q2),(i3,x3,q3)] (fun d=>match d with | .tup l=>l | _=>[]) R (fun a ha=>by
    obtain ⟨x,_,rfl⟩:=List.mem_map.mp ha
    exact ⟨rfl,rfl⟩) (fun t ht=>by
    simp only [List.mem_cons,List.not_mem_nil,or_false] at ht
    rcases ht with rfl | rfl | rfl
    · exact h1
    · exact h2
    · exact h3) hS rfl hi src J (fun _ _=>False) hμ (fun _ _ h=>h.elim) j0 (fun wr j a ρ' μ' ha hj=>by
    rw [List.getElem?_map] at ha
    cases hx:xs[j]? with
    | none=>rw [hx] at ha;cases ha
    | some x =>
      rw [hx] at ha
      cases ha
      exact turn wr j x ρ' μ' hx hj) (fun ρ' μ' h=>done ρ' μ' (by rwa [List.length_map] at h)) (fun _ _ h=>h.elim) hs
end
theorem Cmp.neN {a b:Nat}:Cmp .NotEq (D.n a) (D.n b) (D.bool (decide (a≠b))):=by
  have:=Cmp.ne (a:=(a:Int)) (b:=(b:Int))
  have e:((a:Int) != (b:Int))=decide (a≠b):=by
    by_cases h:a=b
    · subst h;simp
    · have:((a:Int) != (b:Int))=true:=by rw [bne_iff_ne];exact Z.l624 h
      rw [this];simp [h]
  rwa [e] at this
theorem kinds_nodup {l:List Nat} (h:l.Nodup):kinds (l.map fun k:Nat=>(k:Int))=l.length:=by
  have key:∀ i,i≤l.length→firstMet (fun i=>(l.map fun k:Nat=>(k:Int)).getD i 0) i=(l.take i).map fun k:Nat=>(k:Int):=by
    intro i
    induction i with
    | zero=>intro _;simp [firstMet_zero]
    | succ i ih =>
      intro hi
      rw [firstMet_succ,ih (by exact Z.l158 hi),List.take_add_one,List.getElem?_eq_getElem (by exact Z.l274 hi)]
      have hv:(l.map fun k:Nat=>(k:Int)).getD i 0=((l[i]:Nat):Int):=by
        rw [List.getD_eq_getElem?_getD,List.getElem?_map,List.getElem?_eq_getElem (by exact Z.l274 hi)];rfl
      rw [hv]
      unfold step_dedup
      rw [if_neg,List.map_append]
      · rfl
      · intro hc
        obtain ⟨y,hy,he⟩:=List.any_eq_true.mp hc
        obtain ⟨k,hk,rfl⟩:=List.mem_map.mp hy
        have hkl:k=l[i]:=by have:=eq_of_beq he;exact Z.l625 this
        obtain ⟨j,hj,hjk⟩:=List.mem_iff_getElem.mp hk
        rw [List.getElem_take] at hjk
        have hj':j < i:=by rw [List.length_take] at hj;exact Z.l626 hj
        have:=(List.getElem_inj h).mp (hjk.trans hkl)
        exact Z.l39 this hj'
  unfold kinds
  rw [List.length_map,key _ (Nat.le_refl _)]
  simp
theorem T2.foundAdd_len (acc:List (Nat × Nat × Nat)) (c:Nat × Nat × Nat):(T2.foundAdd acc c).length≤acc.length+1:=by
  unfold T2.foundAdd;split <;> simp
theorem sum_ones (l:List Nat) (c:Nat):(l.map fun _=>c).sum=c*l.length:=by
  induction l with
  | nil=>simp
  | cons x r ih=>simp only [List.map_cons,List.sum_cons,List.length_cons,ih,Nat.mul_succ];exact Z.l627
theorem T2.foundW_len (sg:List Nat) (ws bk:List (List Nat)) (acc:List (Nat × Nat × Nat)) (way:Nat):(T2.foundW sg ws bk acc way).length≤acc.length+sg.length:=by
  have:=fold_len (f:=T2.foundS sg ws bk way) (c:=fun _=>1) (fun acc i=>T2.foundAdd_len acc _) (List.range sg.length) acc
  rw [sum_ones,List.length_range] at this
  unfold T2.foundW;exact Z.l628 this
theorem T2.found_len (sg:List Nat) (ws bk:List (List Nat)):(T2.found sg ws bk).length≤2*sg.length:=by
  have:=fold_len (f:=T2.foundW sg ws bk) (c:=fun _=>sg.length) (fun acc i=>T2.foundW_len sg ws bk acc i) (List.range 2) []
  rw [sum_ones,List.length_range,List.length_nil] at this
  unfold T2.found;exact Z.l629 this
theorem T2.minePos_len (sg:List Nat) (r:Nat × Nat × Nat):(T2.minePos sg r).length≤r.2.1:=by
  unfold T2.minePos
  refine Nat.le_trans (List.length_filter_le _ _) ?_
  simp;exact Z.l630
theorem law_c {C : Cx} (H : Is2 C) {A : Around} (R : Room A 5) {X₁ Y S : List Addr} {L m dm f : Addr} {sg oc : List Nat} {w : Nat} {d0 d6 d7 d8 d11 : Option D} {o14 o15 o16 o17 o18 o19 o20 o21 o22 o23 o24 o25 o26 o27 o28 : Option D} (Q : T2.Facts sg oc w)
    (hloc:(lE L).locals∈S) (hcell:∀ b∈(lE L).cells.map (·.2),b∈S) (hS:∀ b∈S,b∈X₁) (hm:m∈S∧dm∈S) (hf:f∉S) (hfX:f∈X₁) :
    Ex ⟨C,A,X₁,lE L,lns⟩ (f::S) [d0,some (D.ns sg),some (D.ns oc),some (.s [w]),some (D.n sg.length),some (rowsD sg),d6,d7,d8,some (toldD sg),some (.lst ((T2.wordsOf w oc sg).map D.s)),d11,some (.val (.ref m)),some (.val (.ref f)),o14,o15,o16,o17,o18,o19,o20,o21,o22,o23,o24,o25,o26,o27,o28]
      [(f,.lst ((T2.found sg (T2.wordsOf w oc sg) (T2.wordsOf w oc sg.reverse)).map D.n3)),(m,.inst 165 dm)] (lawB.drop 13) (RetAs Y (D.bool true) []):=by
  obtain ⟨P,hK⟩:=H.K
  have sz:sizeLine=16777216:=rfl
  have hl:=Q.len
  have g1:C.mg "range"=none:=H.noGlob fun P=>by rfl
  have g2:C.mg "len"=none:=H.noGlob fun P=>by rfl
  have g3:C.mg "sorted"=none:=H.noGlob fun P=>by rfl
  have g4:C.mg "set"=none:=H.noGlob fun P=>by rfl
  have g5:C.mg "_law_runs"=some (.ref 196):=H.glob fun P=>by rfl
  have R0:Room A 0:=R.zero
  have R1:Room A 1:=R.less (by exact Z.l405)
  have two:2≤sizeLine:=by decide
  have hfl:=T2.found_len sg (T2.wordsOf w oc sg) (T2.wordsOf w oc sg.reverse)
  refine Ex.assign 19 (d:=.lst ((T2.runs sg).map D.n3)) rfl (.l rfl (.tail _ hloc)) (Ev.call (ds:=[D.ns sg]) R1 (Ev.glob g5 rfl) (by show keepIn C.K _=true;rw [hK];rfl) (EvL.cons (Ev.name 1 rfl rfl) EvL.nil) (Fn.of_M (fn_runs H sg hl))) ?_
  refine Ex.freezeS (p:=[]) (q:=[(m,.inst 165 dm)]) 13 rfl hf hS fun X₂ hS₂ hX₂=>?_
  refine Ex.ite (c:=false) ?_ (fun h=>nomatch h) (fun _=>Ex.go ?_)
  · have e:false=decide (T2.sort3 (T2.found sg (T2.wordsOf w oc sg) (T2.wordsOf w oc sg.reverse))≠T2.runs sg):=by rw [Q.runs];simp
    rw [e]
    refine EvT.cmp R0 ((Ev.sortedT (ts:=(T2.found sg (T2.wordsOf w oc sg) (T2.wordsOf w oc sg.reverse)).map fun x=>((x.1:Int),(x.2.1:Int),(x.2.2:Int))) R0 (Ev.bltn g3 rfl rfl) ((Ev.name 13 rfl rfl).as (by rw [List.map_map];rfl)) (by rw [List.length_map];exact Z.l631 hfl hl)).as ?_) (Ev.name 19 rfl rfl) (Cmp.neL Kd.n3 (by decide) (T2.sort3 (T2.found sg (T2.wordsOf w oc sg) (T2.wordsOf w oc sg.reverse))) (T2.runs sg))
    have hp:=pysort_map (fun x:Nat × Nat × Nat=>((x.1:Int),(x.2.1:Int),(x.2.2:Int))) (0,0,0) ltT (T2.found sg (T2.wordsOf w oc sg) (T2.wordsOf w oc sg.reverse))
    have hp':pysort (0,0,0) ltT ((T2.found sg (T2.wordsOf w oc sg) (T2.wordsOf w oc sg.reverse)).map fun x:Nat × Nat × Nat=>((x.1:Int),(x.2.1:Int),(x.2.2:Int)))=(T2.sort3 (T2.found sg (T2.wordsOf w oc sg) (T2.wordsOf w oc sg.reverse))).map fun x:Nat × Nat × Nat=>((x.1:Int),(x.2.1:Int),(x.2.2:Int)):=hp
    rw [hp',List.map_map];rfl
  generalize hfd:some (D.lst ((T2.found sg (T2.wordsOf w oc sg) (T2.wordsOf w oc sg.reverse)).map D.n3))=dfd
  refine Ex.assignN 20 (ds:=[]) rfl (.l rfl hloc) (EvN.lst EvL.nil) (fun a haX haS=>?_) hS₂
  have hSa:∀ b∈a::S,b∈a::X₂:=fun b hb=>(List.mem_cons.mp hb).elim (fun h=>h ▸ .head _) fun h=>.tail _ (hS₂ b h)
  have hda:∀ (es:List D),∀ b∈doms [(a,Mut.lst es),(m,Mut.inst 165 dm)],b∈a::S:=fun es b hb=>by
    have:b=a∨b=m∨b=dm:=(List.mem_cons.mp hb).imp id inst_dom
    rcases this with rfl | rfl | rfl
    · exact .head _
    · exact .tail _ hm.1
    · exact .tail _ hm.2
  have hcell':∀ b∈(lE L).cells.map (·.2),b∈a::S:=fun b hb=>.tail _ (hcell b hb)
  refine Ex.forT3 18 17 16 (fun r:Nat × Nat × Nat=>D.n r.1) (fun r=>D.n r.2.1) (fun r=>D.n r.2.2) (T2.runs sg) R0 ⟨rfl,.l rfl (.tail _ hloc)⟩ ⟨rfl,.l rfl (.tail _ hloc)⟩ ⟨rfl,.c rfl rfl hcell'⟩ hSa (Ev.name 19 rfl rfl) Src.lst
    (fun k ρ μ=>∃ o14 o16 o17 o18 o21 o22,ρ=[d0,some (D.ns sg),some (D.ns oc),some (.s [w]),some (D.n sg.length),some (rowsD sg),d6,d7,d8,some (toldD sg),some (.lst ((T2.wordsOf w oc sg).map D.s)),d11,some (.val (.ref m)),dfd,o14,o15,o16,o17,o18,some (.lst ((T2.runs sg).map D.n3)),some (.val (.ref a)),o21,o22,o23,o24,o25,o26,o27,o28]∧μ=[(a,.lst ((((T2.runs sg).take k).flatMap (T2.minePos sg)).map D.n)),(m,.inst 165 dm)]∧(((T2.runs sg).take k).flatMap (T2.minePos sg)).length≤8*k) ?_ ⟨_,_,_,_,_,_,rfl,rfl,by simp⟩ ?_ ?_
  · rintro i ρ μ ⟨_,_,_,_,_,_,_,rfl,_⟩;rfl
  · rintro wr k r ρ μ hr ⟨o14,o16,o17,o18,o21,o22,rfl,rfl,hpl⟩
    have hrm:=List.mem_of_getElem? hr
    obtain ⟨r1,r2,r3⟩:=Q.run r hrm
    have rmine:=Q.mine r hrm
    have hk64:k < 64:=Nat.lt_of_lt_of_le (List.getElem?_eq_some_iff.mp hr).1 (Nat.le_of_lt Q.runl)
    have hml:=T2.minePos_len sg r
    have htk:((T2.runs sg).take (k+1)).flatMap (T2.minePos sg)=((T2.runs sg).take k).flatMap (T2.minePos sg)++T2.minePos sg r:=by
      rw [List.take_add_one,hr,List.flatMap_append];simp
    rw [htk]
    generalize ((T2.runs sg).take k).flatMap (T2.minePos sg)=pl at *
    obtain ⟨b,e,p⟩:=r
    dsimp only at *
    refine Ex.assign 14 (d:=D.n (T2.wayOf sg (b,e,p))) rfl (.c rfl rfl hcell') (Ev.ite (c:=decide (e < sg.length) && (decide (sg.getD (e - p) 0 < sg.getD e 0) && true)) (EvT.and (EvAnd.cons (EvT.cmp R0 (Ev.name 17 rfl rfl) (Ev.name 4 rfl rfl) Cmp.ltN) (fun h=>EvAnd.cons (EvT.cmp R0 (Ev.itemN R0 (Ev.name 1 rfl rfl) (Ev.name 17 rfl rfl) (getD_at (of_decide_eq_true h)) (by exact Z.l632 sz hl)) (Ev.itemN R0 (Ev.name 1 rfl rfl) (Ev.bin R0 (Ev.name 17 rfl rfl) (Ev.name 16 rfl rfl) (Bin.subN (by exact Z.l633 r1))) (getD_at (by have:=of_decide_eq_true h;exact Z.l95 this)) (by exact Z.l632 sz hl)) Cmp.gtN) fun _=>EvAnd.nil))) (fun h=>(Ev.int (i:=1)).as ?_) (fun h=>(Ev.int (i:=0)).as ?_)) ?_
    · unfold T2.wayOf;rw [if_pos (by simpa using h)];rfl
    · unfold T2.wayOf;rw [if_neg (fun q=>by have q1:e < sg.length:=q.1;have q2:sg.getD (e - p) 0 < sg.getD e 0:=q.2;rw [decide_eq_true q1,decide_eq_true q2] at h;cases h)];rfl
    have hw2:T2.wayOf sg (b,e,p) < 2:=by unfold T2.wayOf;split <;> lia
    have hmine:((List.range (e - p+1 - (b+1))).filter fun k=>decide ((T2.sz (T2.wayOf sg (b,e,p)) sg).getD (b+1+k) 0=p)).map (fun k=>D.n (b+1+k))=(T2.minePos sg (b,e,p)).map D.n:=by
      unfold T2.minePos
      rw [List.filter_map,List.map_map];rfl
    generalize hwy:T2.wayOf sg (b,e,p)=wy at *
    have hsl:=Q.szl wy hw2
    refine Ex.assignC 21 (fun k=>D.n (b+1+k)) (List.range (e - p+1 - (b+1))) (fun k=>decide ((T2.sz wy sg).getD (b+1+k) 0=p)) (fun k=>D.n (b+1+k)) [(9,"told"),(14,"way"),(16,"step")] R0 rfl (.l rfl (.tail _ hloc)) (fun z hz=>List.mem_append_right _ (hSa z hz)) (by rfl)
      (Ev.callB (ds:=[D.n (b+1),D.n (e - p+1)]) R0 (Ev.bltn g1 rfl rfl) (EvL.cons (Ev.bin R0 (Ev.name 18 rfl rfl) (Ev.int (i:=1)) Bin.addN) (EvL.cons (Ev.bin R0 (Ev.bin R0 (Ev.name 17 rfl rfl) (Ev.name 16 rfl rfl) (Bin.subN (by exact Z.l633 r1))) (Ev.int (i:=1)) Bin.addN) EvL.nil)) Bi.range2) (upfrom (b+1) (e - p+1) (by exact Z.l634 r1) (by lia)) (by simp;exact Z.l636 sz r2 hl) (fun X' L' j hj=>⟨EvIfs.one ?_,fun _=>Ev.name 0 rfl rfl⟩) ?_
    · have hj:=List.mem_range.mp hj
      exact EvT.cmp R0 (Ev.itemN (l:=T2.sz wy sg) R0 (Ev.itemT (ds:=[D.ns (T2.sz wy sg),D.bool true]) (d:=D.ns (T2.sz wy sg)) R0 (Ev.itemL (k:=((wy:Nat):Int)) R0 (Ev.name 1 rfl rfl) (Ev.name 2 rfl rfl) (by exact Z.l381) (told_at sg hw2) two) Ev.int (by decide) rfl two) (Ev.name 0 rfl rfl) (getD_at (by lia)) (by exact Z.l617 hsl sz hl)) (Ev.name 3 rfl rfl) Cmp.eqN
    rw [hmine]
    generalize T2.minePos sg (b,e,p)=mn at *
    have hdv:1≤(e - b) / p:=by
      rw [Nat.le_div_iff_mul_le (by exact Z.l638 r3)];exact Z.l639 r1
    refine Ex.assign 22 (d:=D.n ((e - b) / p - 1)) rfl (.l rfl (.tail _ hloc)) (Ev.bin R0 (Ev.bin R0 (Ev.bin R0 (Ev.name 17 rfl rfl) (Ev.name 18 rfl rfl) (Bin.subN (by exact Z.l640 r1))) (Ev.name 16 rfl rfl) (Bin.divN (by exact Z.l638 r3) (by exact Z.l641 r1 r2 hl))) (Ev.int (i:=1)) (Bin.subN (b:=1) hdv)) ?_
    generalize (e - b) / p - 1=tn at *
    refine Ex.ite (c:=decide (mn.length≠tn) && (decide (mn.length≠tn+1) && true)) (EvT.and (EvAnd.cons (EvT.cmp R0 (Ev.callB (ds:=[D.ns mn]) R0 (Ev.bltn g2 rfl rfl) (EvL.cons (Ev.name 21 rfl rfl) EvL.nil) (Bi.lenN (by exact Z.l642 sz hml r2 hl))) (Ev.name 22 rfl rfl) Cmp.neN) (fun _=>EvAnd.cons (EvT.cmp R0 (Ev.callB (ds:=[D.ns mn]) R0 (Ev.bltn g2 rfl rfl) (EvL.cons (Ev.name 21 rfl rfl) EvL.nil) (Bi.lenN (by exact Z.l642 sz hml r2 hl))) (Ev.bin R0 (Ev.name 22 rfl rfl) (Ev.int (i:=1)) Bin.addN) Cmp.neN) fun _=>EvAnd.nil))) (fun h=>?_) (fun _=>Ex.go ?_)
    · exfalso
      simp only [ne_eq,decide_not,Bool.and_true,Bool.and_eq_true,Bool.not_eq_true',decide_eq_false_iff_not] at h
      lia
    refine Ex.extend (μ₁:=[]) (p:=[]) (q:=[(m,.inst 165 dm)]) (p':=[]) (q':=[(m,.inst 165 dm)]) (es:=mn.map D.n) rfl (Ev.name 20 rfl rfl) (hda _) (Ev.name 21 rfl rfl).M (by rw [List.length_map,List.length_map];exact Z.l644 hpl hml r2 hk64 hl) (Ex.nil fun s y=>⟨_,_,⟨_,_,_,_,_,_,rfl,by rw [List.map_append];rfl,by rw [List.length_append];exact Z.l645 hpl hml r2 hl⟩,y⟩)
  · rintro ρ μ ⟨o14,o16,o17,o18,o21,o22,rfl,rfl,hpl⟩
    rw [List.take_length] at hpl ⊢
    have hap:=Q.apart
    have hrl:=Q.runl
    generalize (T2.runs sg).flatMap (T2.minePos sg)=pl at *
    refine Ex.freezeS (p:=[]) (q:=[(m,.inst 165 dm)]) 20 rfl haS (fun z hz=>.tail _ (hS₂ z hz)) fun X₃ hS₃ hX₃=>?_
    refine Ex.ite (c:=false) ?_ (fun h=>nomatch h) (fun _=>Ex.go ?_)
    · have e:false=decide (pl.length≠pl.length):=by simp
      rw [e]
      refine EvT.cmp R0 ((Ev.lenSet (xs:=pl.map fun k:Nat=>(k:Int)) R0 (Ev.bltn g2 rfl rfl) (Ev.bltn g4 rfl rfl) ((Ev.name 20 rfl rfl).as (by rw [List.map_map];rfl)) (by rw [List.length_map];exact Z.l646 hpl hrl)).as (d':=D.n pl.length) (by rw [kinds_nodup hap])) (Ev.callB (ds:=[D.ns pl]) R0 (Ev.bltn g2 rfl rfl) (EvL.cons (Ev.name 20 rfl rfl) EvL.nil) (Bi.lenN (by exact Z.l647 sz hpl hrl))) Cmp.neN
    exact law_d H R Q hloc hcell hS₃ hm
end Mine
end
section
open PySem PySem.Calls PySem.W PyProof.Rows
namespace Mine
theorem Cmp.notInI {α:Type} [DecidableEq α] {n:Nat} {f:α→D} (K:Kd n f) (hn:n < 500) (x:α) (xs:List α) (i:Decidable (x∉xs)):Cmp .NotIn (f x) (.lst (xs.map f)) (D.bool (@decide (x∉xs) i)):=by
  have h:=Cmp.notInL K hn x xs
  rw [Subsingleton.elim i instDecidableNot];exact h
theorem law_b2 {C : Cx} (H : Is2 C) {A : Around} (R : Room A 5) {X₁ Y S : List Addr} {L m dm f : Addr} {sg oc : List Nat} {w : Nat} {d0 d6 d7 d8 : Option D} {o14 o15 o16 o17 o18 o19 o20 o21 o22 o23 o24 o25 o26 o27 o28 : Option D} (Q : T2.Facts sg oc w)
    (hloc:(lE L).locals∈S) (hcell:∀ b∈(lE L).cells.map (·.2),b∈S) (hS:∀ b∈S,b∈X₁) (hm:m∈S∧dm∈S) (hf:f∉S) (hfX:f∈X₁) :
    Ex ⟨C,A,X₁,lE L,lns⟩ (f::S) [d0,some (D.ns sg),some (D.ns oc),some (.s [w]),some (D.n sg.length),some (rowsD sg),d6,d7,d8,some (toldD sg),some (.lst ((T2.wordsOf w oc sg).map D.s)),some (.lst ((T2.wordsOf w oc sg.reverse).map D.s)),some (.val (.ref m)),some (.val (.ref f)),o14,o15,o16,o17,o18,o19,o20,o21,o22,o23,o24,o25,o26,o27,o28]
      [(f,.lst []),(m,.inst 165 dm)] (lawB.drop 12) (RetAs Y (D.bool true) []):=by
  obtain ⟨P,hK⟩:=H.K
  have sz:sizeLine=16777216:=rfl
  have hl:=Q.len
  have g1:C.mg "range"=none:=H.noGlob fun P=>by rfl
  have g5:C.mg "_law_reach"=some (.ref 191):=H.glob fun P=>by rfl
  have R0:Room A 0:=R.zero
  have R2:Room A 2:=R.less (by exact Z.l610)
  have two:2≤sizeLine:=by decide
  have hSf:∀ b∈f::S,b∈X₁:=fun b hb=>(List.mem_cons.mp hb).elim (fun h=>h ▸ hfX) fun h=>hS b h
  have hcell':∀ b∈(lE L).cells.map (·.2),b∈f::S:=fun b hb=>.tail _ (hcell b hb)
  have hda:∀ (es:List D),∀ b∈doms [(f,Mut.lst es),(m,Mut.inst 165 dm)],b∈f::S:=fun es b hb=>by
    have:b=f∨b=m∨b=dm:=(List.mem_cons.mp hb).imp id inst_dom
    rcases this with rfl | rfl | rfl
    · exact .head _
    · exact .tail _ hm.1
    · exact .tail _ hm.2
  have hwn:(T2.wordsOf w oc sg).length=sg.length:=by simp [T2.wordsOf]
  have hbn:(T2.wordsOf w oc sg.reverse).length=sg.length:=by simp [T2.wordsOf]
  have hw4:=words_len (w:=w) (oc:=oc) (l:=sg) Q.few
  have hb4:=words_len (w:=w) (oc:=oc) (l:=sg.reverse) Q.few
  have hfin:T2.found sg (T2.wordsOf w oc sg) (T2.wordsOf w oc sg.reverse)=(List.range 2).foldl (T2.foundW sg (T2.wordsOf w oc sg) (T2.wordsOf w oc sg.reverse)) []:=rfl
  have hWl:=T2.foundW_len sg (T2.wordsOf w oc sg) (T2.wordsOf w oc sg.reverse)
  have hcc:=fun (o14 o15 o16 o17 o18 o19 o20 o21 o22 o23 o24 o25 o26 o27 o28:Option D)=>law_c H (A:=A) R (X₁:=X₁) (Y:=Y) (d0:=d0) (d6:=d6) (d7:=d7) (d8:=d8) (d11:=some (.lst ((T2.wordsOf w oc sg.reverse).map D.s))) (L:=L) (o14:=o14) (o15:=o15) (o16:=o16) (o17:=o17) (o18:=o18) (o19:=o19) (o20:=o20) (o21:=o21) (o22:=o22) (o23:=o23) (o24:=o24) (o25:=o25) (o26:=o26) (o27:=o27) (o28:=o28) Q hloc hcell hS hm hf hfX
  simp only [hfin] at hcc
  have hcand:∀ way st,T2.cand sg (T2.wordsOf w oc sg) (T2.wordsOf w oc sg.reverse) way st=(st - T2.reach (T2.wordsOf w oc sg.reverse) (sg.length - st - (T2.sz way sg).getD st 0) ((T2.sz way sg).getD st 0),st+(T2.sz way sg).getD st 0+T2.reach (T2.wordsOf w oc sg) st ((T2.sz way sg).getD st 0),(T2.sz way sg).getD st 0):=fun _ _=>rfl
  have hfW:∀ acc way,T2.foundW sg (T2.wordsOf w oc sg) (T2.wordsOf w oc sg.reverse) acc way=(List.range sg.length).foldl (T2.foundS sg (T2.wordsOf w oc sg) (T2.wordsOf w oc sg.reverse) way) acc:=fun _ _=>rfl
  have hfS:∀ way acc st,T2.foundS sg (T2.wordsOf w oc sg) (T2.wordsOf w oc sg.reverse) way acc st=T2.foundAdd acc (T2.cand sg (T2.wordsOf w oc sg) (T2.wordsOf w oc sg.reverse) way st):=fun _ _ _=>rfl
  generalize T2.wordsOf w oc sg=ws at *
  generalize T2.wordsOf w oc sg.reverse=bk at *
  refine Ex.forN 14 (d:=.rng 0 ((2:Nat):Int) 1) (ds:=(List.range 2).map D.n) R0 rfl (.c rfl rfl hcell') hSf (Ev.callB (ds:=[D.n 2]) R0 (Ev.bltn g1 rfl rfl) (EvL.cons (Ev.int (i:=2)) EvL.nil) Bi.range1) (upto _ (by exact Z.l611))
    (fun k ρ μ=>∃ o14 o15 o16 o17 o18,ρ=[d0,some (D.ns sg),some (D.ns oc),some (.s [w]),some (D.n sg.length),some (rowsD sg),d6,d7,d8,some (toldD sg),some (.lst (ws.map D.s)),some (.lst (bk.map D.s)),some (.val (.ref m)),some (.val (.ref f)),o14,o15,o16,o17,o18,o19,o20,o21,o22,o23,o24,o25,o26,o27,o28]∧μ=[(f,.lst (((List.range k).foldl (T2.foundW sg ws bk) []).map D.n3)),(m,.inst 165 dm)]∧((List.range k).foldl (T2.foundW sg ws bk) []).length≤8*k) (fun _ _=>False) ?_ ?_ ⟨_,_,_,_,_,rfl,rfl,by simp⟩ ?_ ?_ ?_
  · rintro i ρ μ ⟨_,_,_,_,_,_,rfl,_⟩;rfl
  · intro _ _ h;exact h.elim
  · rintro wr k d ρ μ hd ⟨o14,o15,o16,o17,o18,rfl,rfl,hpl⟩
    obtain ⟨hk,rfl⟩:=range_at hd
    rw [foldl_step,hfW]
    generalize (List.range k).foldl (T2.foundW sg ws bk) []=acc at *
    have hsl:=Q.szl k hk
    have hsp:=Q.szp k hk
    refine Ex.forN 15 (d:=.rng 0 ((sg.length:Nat):Int) 1) (ds:=(List.range sg.length).map D.n) R0 rfl (.l rfl (.tail _ hloc)) (fun b hb=>List.mem_append_right _ (hSf b hb)) (Ev.callB (ds:=[D.n sg.length]) R0 (Ev.bltn g1 rfl rfl) (EvL.cons (Ev.name 4 rfl rfl) EvL.nil) Bi.range1) (upto _ (by exact Z.l612 hl))
      (fun j ρ μ=>∃ o15 o16 o17 o18,ρ=[d0,some (D.ns sg),some (D.ns oc),some (.s [w]),some (D.n sg.length),some (rowsD sg),d6,d7,d8,some (toldD sg),some (.lst (ws.map D.s)),some (.lst (bk.map D.s)),some (.val (.ref m)),some (.val (.ref f)),some (D.n k),o15,o16,o17,o18,o19,o20,o21,o22,o23,o24,o25,o26,o27,o28]∧μ=[(f,.lst (((List.range j).foldl (T2.foundS sg ws bk k) acc).map D.n3)),(m,.inst 165 dm)]∧((List.range j).foldl (T2.foundS sg ws bk k) acc).length≤8*k+j) (fun _ _=>False) ?_ ?_ ⟨_,_,_,_,rfl,rfl,by simpa using hpl⟩ ?_ ?_ ?_
    · rintro i ρ μ ⟨_,_,_,_,_,rfl,_⟩;rfl
    · intro _ _ h;exact h.elim
    · rintro wr2 st d ρ μ hd ⟨o15,o16,o17,o18,rfl,rfl,hal⟩
      obtain ⟨hst,rfl⟩:=range_at hd
      rw [foldl_step,hfS,hcand]
      generalize (List.range st).foldl (T2.foundS sg ws bk k) acc=ac at *
      obtain ⟨hp1,hp2⟩:=hsp st hst
      have hg:=getD_at (l:=T2.sz k sg) (k:=st) (by exact Z.l264 hsl hst)
      generalize (T2.sz k sg).getD st 0=p at *
      have hr1:=T2.reach_le ws st p
      have hr2:=T2.reach_le bk (sg.length - st - p) p
      have c1:=fn_reach H m dm ws st p (fun x hx=>by have:=hw4 x hx;exact Z.l613 this) (by exact Z.l614 hwn hl) (by exact Z.l615 hwn hp2)
      have c2:=fn_reach H m dm bk (sg.length - st - p) p (fun x hx=>by have:=hb4 x hx;exact Z.l613 this) (by exact Z.l614 hbn hl) (by exact Z.l616 hbn hp2)
      generalize T2.reach ws st p=r1 at *
      generalize T2.reach bk (sg.length - st - p) p=r2 at *
      have hal2:=T2.foundAdd_len ac (st - r2,st+p+r1,p)
      have hmemm:∀ (es:List D),(m,Mut.inst 165 dm)∈[(f,Mut.lst es),(m,Mut.inst 165 dm)]:=fun es=>.tail _ (.head _)
      refine Ex.assign 16 (d:=D.n p) rfl (.c rfl rfl hcell') (Ev.itemN (l:=T2.sz k sg) R0 (Ev.itemT (ds:=[D.ns (T2.sz k sg),D.bool true]) (d:=D.ns (T2.sz k sg)) R0 (Ev.itemL (k:=((k:Nat):Int)) R0 (Ev.name 9 rfl rfl) (Ev.name 14 rfl rfl) (by exact Z.l381) (told_at sg hk) two) Ev.int (by decide) rfl two) (Ev.name 15 rfl rfl) hg (by exact Z.l617 hsl sz hl)) ?_
      refine Ex.assignM 17 (d:=D.n (st+p+r1)) (μ':=[(f,.lst (ac.map D.n3)),(m,.inst 165 dm)]) rfl (.l rfl (.tail _ hloc)) (EvM.bin (a:=D.n (st+p)) (b:=D.n r1) R0 (Ev.bin R0 (Ev.name 15 rfl rfl) (Ev.name 16 rfl rfl) Bin.addN) (EvM.call (ds:=[.val (.ref m),.lst (ws.map D.s),D.n st,D.n p]) (μ₀:=[(m,.inst 165 dm)]) (μ₁:=[(m,.inst 165 dm)]) [(f,.lst (ac.map D.n3))] [] R2 (Ev.glob g5 rfl) (by show keepIn C.K _=true;rw [hK];rfl) (EvL.cons (Ev.name 12 rfl rfl) (EvL.cons (Ev.name 10 rfl rfl) (EvL.cons (Ev.name 15 rfl rfl) (EvL.cons (Ev.name 16 rfl rfl) EvL.nil)))) c1 rfl) rfl Bin.addN) (hda _) ?_
      refine Ex.assignM 18 (d:=D.n (st - r2)) (μ':=[(f,.lst (ac.map D.n3)),(m,.inst 165 dm)]) rfl (.l rfl (.tail _ hloc)) (EvM.bin (a:=D.n st) (b:=D.n r2) R0 (Ev.name 15 rfl rfl) (EvM.call (ds:=[.val (.ref m),.lst (bk.map D.s),D.n (sg.length - st - p),D.n p]) (μ₀:=[(m,.inst 165 dm)]) (μ₁:=[(m,.inst 165 dm)]) [(f,.lst (ac.map D.n3))] [] R2 (Ev.glob g5 rfl) (by show keepIn C.K _=true;rw [hK];rfl) (EvL.cons (Ev.name 12 rfl rfl) (EvL.cons (Ev.name 11 rfl rfl) (EvL.cons (Ev.bin R0 (Ev.bin R0 (Ev.name 4 rfl rfl) (Ev.name 15 rfl rfl) (Bin.subN (by exact Z.l55 hst))) (Ev.name 16 rfl rfl) (Bin.subN (by exact Z.l618 hp2))) (EvL.cons (Ev.name 16 rfl rfl) EvL.nil)))) c2 rfl) rfl (Bin.subN (by lia))) (hda _) ?_
      refine Ex.iteJ (c:=decide (2*p≤st+p+r1 - (st - r2)) && (decide ((st - r2,st+p+r1,p)∉ac) && true)) [d0,some (D.ns sg),some (D.ns oc),some (.s [w]),some (D.n sg.length),some (rowsD sg),d6,d7,d8,some (toldD sg),some (.lst (ws.map D.s)),some (.lst (bk.map D.s)),some (.val (.ref m)),some (.val (.ref f)),some (D.n k),some (D.n st),some (D.n p),some (D.n (st+p+r1)),some (D.n (st - r2)),o19,o20,o21,o22,o23,o24,o25,o26,o27,o28] [(f,.lst ((T2.foundAdd ac (st - r2,st+p+r1,p)).map D.n3)),(m,.inst 165 dm)]
        (EvT.and (EvAnd.cons (EvT.cmp R0 (Ev.bin R0 (Ev.name 17 rfl rfl) (Ev.name 18 rfl rfl) (Bin.subN (by exact Z.l620))) (Ev.bin R0 (Ev.int (i:=2)) (Ev.name 16 rfl rfl) (Bin.mulN (a:=2) (by decide))) Cmp.geN) (fun _=>EvAnd.cons (EvT.look (p:=[]) (q:=[(m,.inst 165 dm)]) 13 rfl (EvT.cmp R0 (Ev.tup (EvL.cons (Ev.name 18 rfl rfl) (EvL.cons (Ev.name 17 rfl rfl) (EvL.cons (Ev.name 16 rfl rfl) EvL.nil))) (by show 3≤_;decide)) (Ev.name 13 rfl rfl) (Cmp.notInI Kd.n3 (by decide) (st - r2,st+p+r1,p) ac _))) fun _=>EvAnd.nil))) (fun h=>?_) (fun h=>?_) (Ex.nil fun s y=>⟨_,_,⟨_,_,_,_,rfl,rfl,by exact Z.l621 hal2 hal⟩,y⟩)
      · have e:T2.foundAdd ac (st - r2,st+p+r1,p)=ac++[(st - r2,st+p+r1,p)]:=if_pos h
        refine Ex.append 13 0 (d:=D.n3 (st - r2,st+p+r1,p)) (Ev.name 13 rfl rfl) rfl (hda _) (Ev.tup (EvL.cons (Ev.name 18 rfl rfl) (EvL.cons (Ev.name 17 rfl rfl) (EvL.cons (Ev.name 16 rfl rfl) EvL.nil))) (by show 3≤_;decide)) (by rw [List.length_map];exact Z.l622 sz hp2 hal hk hl) (Ex.nil fun s z=>⟨rfl,?_⟩)
        rw [e,List.map_append];exact z
      · have e:T2.foundAdd ac (st - r2,st+p+r1,p)=ac:=if_neg (by rw [h];decide)
        exact Ex.nil fun s z=>⟨rfl,by rw [e];exact z⟩
    · rintro ρ μ ⟨o15,o16,o17,o18,rfl,rfl,hal⟩
      have hlen:((List.range sg.length).map D.n).length=sg.length:=by simp
      rw [hlen] at hal ⊢
      exact Ex.nil fun s z=>⟨_,_,⟨_,_,_,_,_,rfl,rfl,by exact Z.l623 hal hl⟩,z⟩
    · intro _ _ h;exact h.elim
  · rintro ρ μ ⟨o14,o15,o16,o17,o18,rfl,rfl,hpl⟩
    have hlen:((List.range 2).map D.n).length=2:=by simp
    rw [hlen] at hpl ⊢
    exact hcc _ _ _ _ _ _ _ _ _ _ _ _ _ _ _
  · intro _ _ h;exact h.elim
end Mine
end
section
open PySem PySem.Calls PySem.W PyProof.Rows
namespace Mine
theorem cut_to {α:Type} (l:List α) (a:Nat):cut l none (some (a:Int))=l.take a:=by
  have e:clipN l.length (a:Int)=min a l.length:=clipN_nat _ _
  unfold cut
  simp only [Option.elim_some,Option.elim_none,e,List.drop_zero,Nat.sub_zero]
  by_cases h:a≤l.length
  · rw [Nat.min_eq_left h]
  · rw [Nat.min_eq_right (by exact Z.l423 h),List.take_of_length_le (Nat.le_refl _),List.take_of_length_le (by exact Z.l423 h)]
theorem word_at {g : G} {ρ : List (Option D)} {μ : List (Addr × Mut)} {a b : Expr} {pos pc p1 p2 p3 : Pos} {k : Nat} {c : Expr} {w s : Nat} {oc : List Nat} (R : Room g.A 0) (hw : Ev g ρ μ a (.s [w])) (ho : Ev g ρ μ b (D.ns oc)) (hs : Ev g ρ μ c (D.n s)) (hm : s ∈ oc) (hl : oc.length ≤ 100)
    (hbase:attributeBase b "index" g.env (eval b g.env)=eval b g.env)
    (hfew:((backTo p2 (starEach [c] g.env)).all (fun x=>!x.1) && (backToKw p2 (keywordEach [] g.env)).all (fun x=>x.1.isSome) && decide ([c].length+([]:List Keyword).length+(if ([]:List Keyword).isEmpty then 0 else 1) < 30))=true)
    (hline:(p3.endLine == p2.line)=true) (hst:starEach [c] g.env=(false,eval c g.env)::starEach [] g.env) :
    Ev g ρ μ (.BinOp a .Mult (.BinOp (.Constant (.int 1) k pc) .Add (.Call (.Attribute b "index" p3) [c] [] p2) p1) pos) (.s (List.replicate (1+oc.idxOf s) w)):=by
  have hz:sizeLine=16777216:=rfl
  have hlt:oc.idxOf s < oc.length:=List.idxOf_lt_length_iff.mpr hm
  have hi:Ev g ρ μ (.Call (.Attribute b "index" p3) [c] [] p2) (D.n (oc.idxOf s)):=@Ev.meth g ρ μ _ _ _ _ _ _ _ _ (D.ns oc) [D.n s] _ R F.plainAttrs_list F.slot_list_index F.type_list_index ho isLst (EvL.cons hs EvL.nil hst) (Bi.index Kd.nat (by decide) hm (by exact Z.l513 hz hl)) hbase hfew hline hst rfl
  have:=Ev.bin (pos:=pos) R hw (Ev.bin (pos:=p1) R (Ev.int (i:=1) (k:=k) (pos:=pc)) hi Bin.add) (Bin.mulS (a:=[w]) (n:=1+((oc.idxOf s:Nat):Int)) (by exact Z.l662) (by exact Z.l663 hl hlt) (Nat.le_of_ble_eq_true rfl))
  rw [rep_one] at this
  have e:(1+((oc.idxOf s:Nat):Int)).toNat=1+oc.idxOf s:=by lia
  rw [e] at this
  exact this
theorem law_b1 {C : Cx} (H : Is2 C) {A : Around} (R : Room A 6) {X₁ Y S : List Addr} {L : Addr} {sg oc : List Nat} {w : Nat} {d0 d6 d8 : Option D} {o9 o10 o11 o12 o13 o14 o15 o16 o17 o18 o19 o20 o21 o22 o23 o24 o25 o26 o27 o28 : Option D} (Q : T2.Facts sg oc w)
    (hloc:(lE L).locals∈S) (hcell:∀ b∈(lE L).cells.map (·.2),b∈S) (hS:∀ b∈S,b∈X₁) :
    Ex ⟨C,A,X₁,lE L,lns⟩ S [d0,some (D.ns sg),some (D.ns oc),some (.s [w]),some (D.n sg.length),some (rowsD sg),d6,some (.b (sg.reverse++(T2.row 1 sg).reverse)),d8,o9,o10,o11,o12,o13,o14,o15,o16,o17,o18,o19,o20,o21,o22,o23,o24,o25,o26,o27,o28]
      [] (lawB.drop 7) (RetAs Y (D.bool true) []):=by
  obtain ⟨P,hK⟩:=H.K
  have sz:sizeLine=16777216:=rfl
  have hl:=Q.len
  have g5:C.mg "_law_roots"=some (.ref 186):=H.glob fun P=>by rfl
  have g6:C.mg "HTTPPasswordMgr"=some (.ref 165):=H.glob fun P=>by rfl
  have R0:Room A 0:=R.zero
  have R2:Room A 2:=R.less (by exact Z.l665)
  have R5:Room A 5:=R.less (by exact Z.l666)
  have two:2≤sizeLine:=by decide
  have hb:∀ s∈sg,s < 256:=fun s hs=>Q.byte s (Q.oct s hs)
  have hb1:∀ s∈T2.row 1 sg,s < 256:=fun s hs=>by
    obtain ⟨c,_,rfl⟩:=List.mem_map.mp (show s∈sg.map fun s=>255 - s from hs)
    exact Z.l667
  have hrl:(T2.row 1 sg).length=sg.length:=row_len 1 sg
  have ht0:cut (sg.reverse++(T2.row 1 sg).reverse) none (some ((sg.length:Nat):Int))=sg.reverse:=by
    rw [cut_to,List.take_left' (by simp)]
  have ht1:cut (sg.reverse++(T2.row 1 sg).reverse) (some ((sg.length:Nat):Int)) none=(T2.row 1 sg).reverse:=by
    rw [cut_from,List.drop_left' (by simp)]
  have htl:(sg.reverse++(T2.row 1 sg).reverse).length≤sizeLine:=by simp;exact Z.l668 hrl sz hl
  refine Ex.assign 9 (d:=toldD sg) rfl (.c rfl rfl hcell) (Ev.lst (EvL.cons (Ev.call (ds:=[.b sg.reverse,D.n 0]) R5 (Ev.glob g5 rfl) (by show keepIn C.K _=true;rw [hK];rfl) (EvL.cons ((Ev.sliceB R0 (Ev.name 7 rfl rfl) EvP.none (EvP.some (Ev.name 4 rfl rfl)) htl).as (by rw [ht0])) (EvL.cons (Ev.int (i:=0)) EvL.nil)) (Fn.of_M (fn_roots H sg.reverse 0 (by simp;exact Z.l530 hl) (by simp;exact Z.l366 hl) (fun c hc=>hb c (List.mem_reverse.mp hc)) (by decide)))) (EvL.cons (Ev.call (ds:=[.b (T2.row 1 sg).reverse,D.n 1]) R5 (Ev.glob g5 rfl) (by show keepIn C.K _=true;rw [hK];rfl) (EvL.cons ((Ev.sliceB R0 (Ev.name 7 rfl rfl) (EvP.some (Ev.name 4 rfl rfl)) EvP.none htl).as (by rw [ht1])) (EvL.cons (Ev.int (i:=1)) EvL.nil)) (Fn.of_M (fn_roots H (T2.row 1 sg).reverse 1 (by simp;exact Z.l669 hrl hl) (by simp;exact Z.l670 hrl hl) (fun c hc=>hb1 c (List.mem_reverse.mp hc)) (by decide)))) EvL.nil)) two) ?_
  refine Ex.assignC 10 D.n sg (fun _=>true) (fun s=>D.s (List.replicate (1+oc.idxOf s) w)) [(3,"word"),(2,"octets")] R0 rfl (.l rfl hloc) hS (by rfl) (Ev.name 1 rfl rfl) Src.lst (by exact Z.l632 sz hl) (fun X' L' s hs=>⟨EvIfs.nil,fun _=>word_at R0 (Ev.name 1 rfl rfl) (Ev.name 2 rfl rfl) (Ev.name 0 rfl rfl) (Q.oct s hs) (by have:=Q.few;exact Z.l671 this) (by rfl) (by rfl) (by rfl) (by rfl)⟩) ?_
  refine Ex.assignC 11 D.n sg.reverse (fun _=>true) (fun s=>D.s (List.replicate (1+oc.idxOf s) w)) [(3,"word"),(2,"octets")] R0 rfl (.l rfl hloc) hS (by rfl) ((Ev.sliceB R0 (Ev.name 7 rfl rfl) EvP.none (EvP.some (Ev.name 4 rfl rfl)) htl).as (d':=.b sg.reverse) (by rw [ht0])) (Src.b fun c hc=>hb c (List.mem_reverse.mp hc)) (by simp;exact Z.l632 sz hl) (fun X' L' s hs=>⟨EvIfs.nil,fun _=>word_at R0 (Ev.name 1 rfl rfl) (Ev.name 2 rfl rfl) (Ev.name 0 rfl rfl) (Q.oct s (List.mem_reverse.mp hs)) (by have:=Q.few;exact Z.l671 this) (by rfl) (by rfl) (by rfl) (by rfl)⟩) ?_
  rw [filter_yes,filter_yes]
  have ew:∀ l:List Nat,l.map (fun s=>D.s (List.replicate (1+oc.idxOf s) w))=(T2.wordsOf w oc l).map D.s:=fun l=>by unfold T2.wordsOf;rw [List.map_map];rfl
  rw [ew,ew]
  refine Ex.assignNew 12 (m:=fun dx=>.inst 165 dx) rfl (.c rfl rfl hcell) (EvNew.inst R2 (Ev.glob g6 rfl) (by show keepIn C.K _=true;rw [hK];rfl) (by show makesIn C.K _=true;rw [hK];rfl) (by show findIn C.K _ _=_;rw [hK];rfl) (by show typeIn C.K _=_;rw [hK];rfl) (fun x dx=>fn_mgr H x dx)) (fun m dm hmX hmS hdX=>?_) hS
  refine Ex.assignN 13 (ds:=[]) rfl (.l rfl (.tail _ (.tail _ hloc))) (EvN.lst EvL.nil) (fun f hfX hfS=>?_) (fun b hb=>by
    rcases List.mem_cons.mp hb with rfl | hb
    · exact .head _
    rcases List.mem_cons.mp hb with rfl | hb
    · exact .tail _ (.head _)
    exact .tail _ (.tail _ (hS b hb)))
  exact law_b2 H R5 Q (.tail _ (.tail _ hloc)) (fun b hb=>.tail _ (.tail _ (hcell b hb))) (fun b hb=>by
    rcases List.mem_cons.mp hb with rfl | hb
    · exact .tail _ (.head _)
    rcases List.mem_cons.mp hb with rfl | hb
    · exact .tail _ (.tail _ (.head _))
    exact .tail _ (.tail _ (.tail _ (hS b hb)))) ⟨.head _,.tail _ (.head _)⟩ hfS (.head _)
theorem fn_law {C:Cx} (H:Is2 C) (sc:List Int) (hz:sc.length≤1048576) (hQ:∀ c0 c1 c2,T2.Facts (T2.signs c0 c1 c2) (T2.octets c2) (T2.word c1)):FnS C 7 (.ref 206) [D.is sc] (D.bool true):=by
  obtain ⟨c0,c1,c2,ft⟩:=fn_text H sc hz
  have Q:=hQ c0 c1 c2
  generalize T2.signs c0 c1 c2=sg at *
  generalize T2.octets c2=oc at *
  generalize T2.word c1=w at *
  obtain ⟨P,hK⟩:=H.K
  obtain ⟨occ,od,osl,ho⟩:=fLaw.2 P
  have sz:sizeLine=16777216:=rfl
  have hl:=Q.len
  have two:2≤sizeLine:=by decide
  have g1:C.mg "len"=none:=H.noGlob fun P=>by rfl
  have g2:C.mg "bytes"=none:=H.noGlob fun P=>by rfl
  have g3:C.mg "isinstance"=none:=H.noGlob fun P=>by rfl
  have g4:C.mg "_law_text"=some (.ref 181):=H.glob fun P=>by rfl
  have g5:C.mg "_byteswap"=some (.ref 176):=H.glob fun P=>by rfl
  have hb:∀ s∈sg,s < 256:=fun s hs=>Q.byte s (Q.oct s hs)
  have hb1:∀ s∈T2.row 1 sg,s < 256:=fun s hs=>by
    obtain ⟨c,_,rfl⟩:=List.mem_map.mp (show s∈sg.map fun s=>255 - s from hs)
    exact Z.l667
  have hrl:(T2.row 1 sg).length=sg.length:=row_len 1 sg
  refine FnS.intro (fd:=fLaw.1) ["script"] ["signs","octets","word","size","rows","both","turned","due","told","words","back","manager","found","way","start","step","end","begin","runs","places","mine","turns","text","stands","rank","path","strange","great"] 28 (by rw [hK];exact ho) (by rw [hK];rfl) rfl rfl rfl rfl (fun vals hv=>?_) rfl (by decide) (fun n x hx=>?_) (by decide) (fun A X L R=>?_)
  · obtain ⟨v,rfl⟩:=len1 hv;rfl
  · simp only [List.mem_cons,List.not_mem_nil,or_false] at hx
    subst hx;exact .inl rfl
  have R0:Room A 0:=R.zero
  have R1:Room A 1:=R.less (by exact Z.l672)
  have hloc:(lE L).locals∈ownS (lE L):=.head _
  have hcell:∀ b∈(lE L).cells.map (·.2),b∈ownS (lE L):=fun b hb=>.tail _ hb
  have hS:∀ b∈ownS (lE L),b∈ownS (lE L)++X:=fun b hb=>List.mem_append_left _ hb
  refine ExS.split 4 ?_
  refine Ex.assignT3 1 2 3 R0 ⟨rfl,.l rfl hloc⟩ ⟨rfl,.c rfl rfl hcell⟩ ⟨rfl,.c rfl rfl hcell⟩ hS (fun a ha=>nomatch ha) (Ev.call (ds:=[D.is sc]) R1 (Ev.glob g4 rfl) (by show keepIn C.K _=true;rw [hK];rfl) (EvL.cons (Ev.name 0 rfl rfl) EvL.nil) (Fn.of_M ft)).M ?_
  refine Ex.assign 4 (d:=D.n sg.length) rfl (.l rfl hloc) (Ev.callB (ds:=[D.ns sg]) R0 (Ev.bltn g1 rfl rfl) (EvL.cons (Ev.name 1 rfl rfl) EvL.nil) (Bi.lenN (by exact Z.l632 sz hl))) ?_
  refine Ex.assign 5 (d:=rowsD sg) rfl (.c rfl rfl hcell) (Ev.lst (EvL.cons (Ev.name 1 rfl rfl) (EvL.cons ((EvN.comp D.n sg (fun _=>true) (fun s=>D.n (255 - s)) [] R0 (by rfl) (Ev.name 1 rfl rfl) Src.lst (by exact Z.l632 sz hl) (fun X' L' s hs=>⟨EvIfs.nil,fun _=>Ev.bin R0 (Ev.int (i:=255)) (Ev.name 0 rfl rfl) (Bin.subN (a:=255) (by have:=hb s hs;exact Z.l673 this))⟩)).ev.as (d':=D.ns (T2.row 1 sg)) ?_) EvL.nil)) two) ?_
  · rw [filter_yes]
    show _=D.lst ((sg.map fun s=>255 - s).map D.n)
    rw [List.map_map];rfl
  refine Ex.assign 6 (d:=.b (sg++T2.row 1 sg)) rfl (.l rfl hloc) (Ev.callB (ds:=[D.ns (sg++T2.row 1 sg)]) R0 (Ev.bltn g2 rfl rfl) (EvL.cons (Ev.bin R0 (Ev.itemL (ds:=[D.ns sg,D.ns (T2.row 1 sg)]) (d:=D.ns sg) R0 (Ev.name 5 rfl rfl) Ev.int (by decide) rfl two) (Ev.itemL (ds:=[D.ns sg,D.ns (T2.row 1 sg)]) (d:=D.ns (T2.row 1 sg)) R0 (Ev.name 5 rfl rfl) Ev.int (by decide) rfl two) (Bin.addNs (by exact Z.l668 hrl sz hl))) EvL.nil) (Bi.bytesN (fun c hc=>(List.mem_append.mp hc).elim (hb c) (hb1 c)) (by rw [List.length_append];exact Z.l668 hrl sz hl))) ?_
  have fs:=fn_swap H (sg++T2.row 1 sg) sg.length 2 (by rw [List.length_append];exact Z.l674 hrl) (by exact Z.l366 hl) (by exact Z.l330) (fun c hc=>(List.mem_append.mp hc).elim (hb c) (hb1 c)) (by rw [List.length_append];exact Z.l675 hrl hl)
  rw [T2.swp_two sg (T2.row 1 sg) (by exact Z.l583 hrl) (by exact Z.l366 hl)] at fs
  have ft:=fn_swap H (sg.reverse++(T2.row 1 sg).reverse) sg.length 2 (by simp;exact Z.l674 hrl) (by exact Z.l366 hl) (by exact Z.l330) (fun c hc=>(List.mem_append.mp hc).elim (fun h=>hb c (List.mem_reverse.mp h)) (fun h=>hb1 c (List.mem_reverse.mp h))) (by simp;exact Z.l675 hrl hl)
  have e2:=T2.swp_two sg.reverse (T2.row 1 sg).reverse (by simp;exact Z.l583 hrl) (by simp;exact Z.l366 hl)
  rw [List.length_reverse,List.reverse_reverse,List.reverse_reverse] at e2
  rw [e2] at ft
  refine Ex.onS ?_
  show ExS _ _ _ _ _ _
  refine ExS.assign 7 (d:=.b (sg.reverse++(T2.row 1 sg).reverse)) rfl (.l rfl hloc) (EvS.call (ds:=[.b (sg++T2.row 1 sg),D.n sg.length]) R1 (Ev.glob g5 rfl) (by show keepIn C.K _=true;rw [hK];rfl) (EvL.cons (Ev.name 6 rfl rfl) (EvL.cons (Ev.name 4 rfl rfl) EvL.nil)) fs) ?_
  refine ExS.assign 8 (d:=.b (sg.reverse++(T2.row 1 sg).reverse)) rfl (.l rfl hloc) (Ev.callB (ds:=[D.ns (sg.reverse++(T2.row 1 sg).reverse)]) R0 (Ev.bltn g2 rfl rfl) (EvL.cons (Ev.bin R0 (Ev.revN R0 (Ev.itemL (ds:=[D.ns sg,D.ns (T2.row 1 sg)]) (d:=D.ns sg) R0 (Ev.name 5 rfl rfl) Ev.int (by decide) rfl two) (Ev.neg (Ev.int (i:=1))) (by exact Z.l632 sz hl)) (Ev.revN R0 (Ev.itemL (ds:=[D.ns sg,D.ns (T2.row 1 sg)]) (d:=D.ns (T2.row 1 sg)) R0 (Ev.name 5 rfl rfl) Ev.int (by decide) rfl two) (Ev.neg (Ev.int (i:=1))) (by exact Z.l617 hrl sz hl)) (Bin.addNs (by simp;exact Z.l668 hrl sz hl))) EvL.nil) (Bi.bytesN (fun c hc=>(List.mem_append.mp hc).elim (fun h=>hb c (List.mem_reverse.mp h)) (fun h=>hb1 c (List.mem_reverse.mp h))) (by simp;exact Z.l668 hrl sz hl))).toS ?_
  refine ExS.ite (c:=false) (EvTS.or (EvOrS.cons (a:=false) (EvT.not (b:=true) (EvT.val R0 (Ev.callB (ds:=[.b (sg.reverse++(T2.row 1 sg).reverse),.val (.type "bytes")]) R0 (Ev.bltn g3 rfl rfl) (EvL.cons (Ev.name 7 rfl rfl) (EvL.cons (Ev.bltn g2 rfl rfl) EvL.nil)) Bi.isiBytes) (Tru.bool _))).toS (fun _=>EvOrS.cons (a:=false) (EvT.toS ?_) (fun _=>EvOrS.cons (a:=false) ?_ fun _=>EvOrS.nil)))) (fun h=>nomatch h) (fun _=>ExS.go (Ex.toS (law_b1 H R Q hloc hcell hS)))
  · have e:false=decide (bl (sg.reverse++(T2.row 1 sg).reverse)≠bl (sg.reverse++(T2.row 1 sg).reverse)):=by simp
    rw [e]
    exact EvT.cmp R0 (Ev.name 7 rfl rfl) (Ev.name 8 rfl rfl) Cmp.neB
  · have e:false=decide (bl (sg++T2.row 1 sg)≠bl (sg++T2.row 1 sg)):=by simp
    rw [e]
    exact EvTS.cmp R0 (EvS.call (ds:=[.b (sg.reverse++(T2.row 1 sg).reverse),D.n sg.length]) R1 (Ev.glob g5 rfl) (by show keepIn C.K _=true;rw [hK];rfl) (EvL.cons (Ev.name 7 rfl rfl) (EvL.cons (Ev.name 4 rfl rfl) EvL.nil)) ft) (Ev.name 6 rfl rfl) Cmp.neB
end Mine
end
section
open PySem PySem.Calls PySem.W PyProof.Rows
namespace Mine
theorem ints_of:∀ {xs:List WData},WShape.hasItems R xs .int=true→∃ ns:List Int,xs=ns.map WData.int
  | [],_=>⟨[],rfl⟩
  | x::r,h=>by
    have h':WShape.has R x .int=true∧WShape.hasItems R r .int=true:=by simpa [WShape.hasItems] using h
    obtain ⟨i,rfl⟩:=hasW_int h'.1
    obtain ⟨ns,rfl⟩:=ints_of h'.2
    exact ⟨i::ns,rfl⟩
theorem repL_ints {P:Params} {h:Heap} {X:List Addr}:∀ {vs:List Value} {ns:List Int},WellAll P h vs (ns.map WData.int)→RepL X h vs (ns.map D.int)
  | vs,[],w=>by cases w;exact .nil
  | vs,n::ns,w=>by
    cases w with
    | cons a b=>cases a;exact .cons (.int ..) (repL_ints b)
theorem OldK.of_ext {C:Cx} {s s':Shared} (e:Ext C [] s s') (hb:C.hb=s.heap) (t0:∀ p∈C.P,Tab C s.heap p):OldK s.heap s'.heap:=by
  refine ⟨fun b o h=>?_,e.occ⟩
  by_cases hP:b∈C.P
  · obtain ⟨c,ps₀,more,hc,x,y,i⟩:=e.tab t0 b hP
    rw [hb] at x
    have:=x.2
    rw [h] at this
    cases this
    exact .inr (.inl ⟨x.isCodeTable,rfl,ps₀,more,rfl,y.2⟩)
  · exact .inl (e.keep b o (fun h=>nomatch h) hP h)
theorem law_top (hQ:∀ c0 c1 c2,T2.Facts (T2.signs c0 c1 c2) (T2.octets c2) (T2.word c1)):PySem.Challenge.rw_wv0010_02.Holds:=hd fun w s₀ s₁ mg mb G Y a o pm cd doc dV kV ho hdd hcd hD hmg hg args vals as hpre hlay hrd hwl hlo hT=>by
  have KX:(hd.heap_1 w.params).In s₁.heap:=kIn_of Y
  have hsh:=(pre_splitW hpre).1
  obtain ⟨d,r,rfl,h1,h2⟩:=hasAllW_cons hsh
  obtain rfl:=hasAllW_nil h2
  obtain ⟨xs,rfl,h3⟩:=hasW_list h1
  obtain ⟨ns,rfl⟩:=ints_of h3
  have hlen:=length_le_of_layableW (layableW_arg hlay _ (.head _))
  rw [List.length_map] at hlen
  have hT0:∀ P∈[63,70],s₁.heap.get? P=some tabO0:=hT
  have hnoP:∀ (b:Addr) (o':Obj),s₁.heap.get? b=some o'→o'.cls≠.none→b∉([63,70]:List Addr):=fun b o' hb hc hm=>by
    rw [hT0 b hm] at hb;cases hb;exact hc rfl
  let C:Cx:=⟨PySem.Challenge.rw_wv0010_02.row.toRowW.prog,w,hd.heap_1 w.params,s₁.heap,[63,70],mg,mb,s₁.os⟩
  have hbase:Base C:=⟨G.T.g,G.T.b,G.T.nolimit,G.T.builtins,KX,(by decide:mainGlobals∉([63,70]:List Addr)),(by decide:builtinsNs∉([63,70]:List Addr)),(by decide:cStatics∉([63,70]:List Addr)),fun b o' hb hm=>by
    have hm':b∈([63,70]:List Addr):=hm
    have:b=63∨b=70:=by simpa using hm'
    rcases this with rfl | rfl
    · exact absurd hb (by show (hd.heap_1 w.params).lookup 63≠_;rw [show (hd.heap_1 w.params).lookup 63=none from by rfl];exact fun h=>nomatch h)
    · exact absurd hb (by show (hd.heap_1 w.params).lookup 70≠_;rw [show (hd.heap_1 w.params).lookup 70=none from by rfl];exact fun h=>nomatch h)⟩
  have H:Is2 C:=⟨⟨_,rfl⟩,rfl,rfl,hbase,by
    obtain ⟨bm,ob,b1,b2,b3,b4,b5,b6⟩:=G.T.bmain
    exact ⟨bm,ob,⟨G.T.g,b1,b2,b3,b4,b5,b6⟩,hnoP bm ob b3 (by rw [b4];exact fun h=>nomatch h)⟩⟩
  have tab:∀ p∈C.P,Tab C s₁.heap p:=fun p hp=>by
    have hp':p∈([63,70]:List Addr):=hp
    have:p=63∨p=70:=by simpa using hp'
    rcases this with rfl | rfl
    · have c:=codeHd_of_K (c:=67) (P:=63) KX (by rfl)
      exact ⟨67,#[],#[],(by decide:(67:Addr)∉([63,70]:List Addr)),c.tab (hT0 63 hp),c.tab (hT0 63 hp),c.code (hT0 63 hp) trivial⟩
    · have c:=codeHd_of_K (c:=74) (P:=70) KX (by rfl)
      exact ⟨74,#[],#[],(by decide:(74:Addr)∉([63,70]:List Addr)),c.tab (hT0 70 hp),c.tab (hT0 70 hp),c.code (hT0 70 hp) trivial⟩
  have inv:Inv C [63,70] s₁:=⟨hbase,fun _ _ _ e=>e,tab,rfl,by rw [hg];exact AllBare.empty,fun p hp=>hp,fun a ha hP=>absurd ha hP,fun a ha=>⟨_,hT0 a ha⟩⟩
  obtain rfl:a=206:=by
    have e:mg "law"=some (.ref 206):=H.glob fun P=>by rfl
    have:=hmg.symm.trans e
    injection this with h;injection h
  have hvals:∃ v,vals=[v]∧Rep [63,70] s₁.heap v (D.is ns):=by
    cases hwl with
    | cons x y =>
      cases y
      cases x with
      | list ha wa=>exact ⟨_,rfl,.lst (hnoP _ _ ha (fun h=>nomatch h)) ha (repL_ints wa)⟩
  obtain ⟨v,rfl,rv⟩:=hvals
  have hcode:=fn_law H ns hlen hQ callerA [63,70] s₁ [v] ⟨rfl,by decide,by decide,rfl⟩ inv (.cons rv .nil)
  refine wpS_call (codeS_mono hcode fun r s' q=>?_)
  obtain ⟨v',rfl,e,r'⟩:=q
  cases r'
  refine ⟨.inl ⟨_,.bool true,[],rfl,fun _=>rfl,.bool true,?_,fun _=>⟨List.nodup_nil,fun _ h=>nomatch h⟩⟩,OldK.of_ext e rfl tab,e.os,e.gens inv.gens⟩
  exact postW_of (by wrow_shape) (by wtm_val) (by w_fin)
end Mine
end
section
namespace Mine
namespace Ly
noncomputable def LynAt (t:Nat→Nat) (i p:Nat):Prop:=0 < p∧∀ k,0 < k→k < p→∃ m,m < p - k∧(∀ j,j < m→t (i+j)=t (i+k+j))∧t (i+m) < t (i+k+m)
noncomputable def Up (t:Nat→Nat) (n i j:Nat):Prop:=∃ m,j+m < n∧(∀ a,a < m→t (i+a)=t (j+a))∧t (i+m) < t (j+m)
noncomputable def LtW (t:Nat→Nat) (i p j q:Nat):Prop:=(∃ m,m < p∧m < q∧(∀ a,a < m→t (i+a)=t (j+a))∧t (i+m) < t (j+m))∨(p < q∧∀ a,a < p→t (i+a)=t (j+a))
structure Good (t:Nat→Nat) (n i p:Nat):Prop where
  lyn:LynAt t i p
  fit:i+p≤n
  stop:¬ Up t n i (i+p)
theorem LynAt.one (t:Nat→Nat) (i:Nat):LynAt t i 1:=⟨Nat.one_pos,fun k h1 h2=>by lia⟩
theorem LynAt.join {t:Nat→Nat} {i p q:Nat} (hp:LynAt t i p) (hq:LynAt t (i+p) q) (h:LtW t i p (i+p) q):LynAt t i (p+q):=by
  have hb:∃ m,m < q∧(∀ a,a < m→t (i+a)=t (i+p+a))∧t (i+m) < t (i+p+m):=by
    rcases h with ⟨m,h1,h2,h3,h4⟩ | ⟨h1,h2⟩
    · exact ⟨m,h2,h3,h4⟩
    · obtain ⟨m,k1,k2,k3⟩:=hq.2 p hp.1 h1
      refine ⟨p+m,by exact Z.l0 k1,fun a ha=>?_,?_⟩
      · by_cases q:a < p
        · exact h2 a q
        · have:=k2 (a - p) (by exact Z.l1 ha q)
          rw [show i+p+(a - p)=i+a by exact Z.l2 q,show i+p+p+(a - p)=i+p+a by exact Z.l3 q] at this
          exact this
      · rw [show i+(p+m)=i+p+m by exact Z.l4,show i+p+(p+m)=i+p+p+m by exact Z.l5]
        exact k3
  refine ⟨by have:=hp.1;exact Z.l6 this,fun k h1 h2=>?_⟩
  by_cases c1:k < p
  · obtain ⟨m,k1,k2,k3⟩:=hp.2 k h1 c1
    exact ⟨m,by lia,k2,k3⟩
  by_cases c2:k=p
  · subst c2
    obtain ⟨m,k1,k2,k3⟩:=hb
    exact ⟨m,by exact Z.l8 k1,k2,k3⟩
  obtain ⟨m,k1,k2,k3⟩:=hq.2 (k - p) (by exact Z.l9 c2 c1) (by exact Z.l1 h2 c1)
  obtain ⟨mb,b1,b2,b3⟩:=hb
  have e:∀ a,i+p+(k - p)+a=i+k+a:=fun a=>by exact Z.l10 c1
  simp only [e] at k2 k3
  rcases Nat.lt_trichotomy m mb with c | c | c
  · exact ⟨m,by exact Z.l11 k1,fun j hj=>(b2 j (by exact Z.l12 hj c)).trans (k2 j hj),by rw [b2 m c];exact k3⟩
  · subst c
    exact ⟨m,by exact Z.l11 k1,fun j hj=>(b2 j hj).trans (k2 j hj),Nat.lt_trans b3 k3⟩
  · exact ⟨mb,by lia,fun j hj=>(b2 j hj).trans (k2 j (by exact Z.l12 hj c)),by rw [← k2 mb c];exact b3⟩
theorem Good.last {t:Nat→Nat} {n i p:Nat} (hp:LynAt t i p) (h:i+p=n):Good t n i p:=⟨hp,by exact Z.l14 h,fun ⟨m,h1,_⟩=>by exact Z.l15 h h1⟩
theorem Good.ends {t:Nat→Nat} {n i p q:Nat} (hp:LynAt t i p) (hq:Good t n (i+p) q) (h:¬ LtW t i p (i+p) q):Good t n i p:=by
  refine ⟨hp,by have:=hq.fit;exact Z.l16 this,?_⟩
  rintro ⟨m,h1,h2,h3⟩
  have hq0:=hq.lyn.1
  by_cases c1:m < p∧m < q
  · exact h (.inl ⟨m,c1.1,c1.2,h2,h3⟩)
  by_cases c2:p≤m∧p < q
  · exact h (.inr ⟨c2.2,fun a ha=>h2 a (by exact Z.l17 c2 ha)⟩)
  have hqm:q≤m:=by exact Z.l18 c2 c1
  have hqp:q≤p:=by exact Z.l19 hqm c2
  apply hq.stop
  have e3:t (i+q+(m - q)) < t (i+p+q+(m - q)):=by
    rw [show i+q+(m - q)=i+m by exact Z.l20 hqm,show i+p+q+(m - q)=i+p+m by exact Z.l21 hqm];exact h3
  have e2:∀ a,a < m - q→t (i+q+a)=t (i+p+q+a):=fun a ha=>by
    have:=h2 (q+a) (by exact Z.l0 ha)
    rw [show i+(q+a)=i+q+a by exact Z.l4,show i+p+(q+a)=i+p+q+a by exact Z.l22] at this
    exact this
  by_cases c3:q=p
  · subst c3
    exact ⟨m - q,by exact Z.l23 hqm h1,e2,e3⟩
  · obtain ⟨m2,k1,k2,k3⟩:=hp.2 q hq0 (by exact Z.l24 hqp c3)
    rcases Nat.lt_trichotomy m2 (m - q) with c | c | c
    · refine ⟨m2,by exact Z.l25 h1 c,fun a ha=>?_,?_⟩
      · rw [← h2 a (by exact Z.l26 ha c),k2 a ha,e2 a (by exact Z.l12 ha c)]
      · rw [← h2 m2 (by exact Z.l27 c),← e2 m2 c];exact k3
    · refine ⟨m2,by exact Z.l28 c hqm h1,fun a ha=>?_,?_⟩
      · rw [← h2 a (by exact Z.l29 c ha),k2 a ha,e2 a (by exact Z.l30 c ha)]
      · rw [← h2 m2 (by exact Z.l31 c hqm hq0)]
        rw [← c] at e3
        exact Nat.lt_trans k3 e3
    · refine ⟨m - q,by exact Z.l32 hqm h1,fun a ha=>?_,?_⟩
      · rw [← h2 a (by exact Z.l27 ha),k2 a (by exact Z.l12 ha c),e2 a ha]
      · rw [← h2 (m - q) (by exact Z.l33 hqm hq0),k2 (m - q) c];exact e3
theorem Good.max {t:Nat→Nat} {n i p q:Nat} (h:Good t n i p) (hq:LynAt t i q) (hn:i+q≤n):q≤p:=by
  by_cases c:q≤p
  · exact c
  obtain ⟨m,k1,k2,k3⟩:=hq.2 p h.lyn.1 (by exact Z.l34 c)
  exact absurd ⟨m,by exact Z.l35 hn k1,k2,k3⟩ h.stop
theorem Good.eq {t:Nat→Nat} {n i p q:Nat} (h:Good t n i p) (h':Good t n i q):p=q :=
  Nat.le_antisymm (h'.max h.lyn h.fit) (h.max h'.lyn h'.fit)
theorem LynAt.bare {t:Nat→Nat} {i p q:Nat} (h:LynAt t i p) (h0:0 < q) (hq:q < p) (per:∀ k,i≤k→k+q < i+p→t k=t (k+q)):False:=by
  obtain ⟨m,k1,_,k3⟩:=h.2 q h0 hq
  have:=per (i+m) (by exact Z.l36) (by exact Z.l37 k1)
  rw [show i+m+q=i+q+m by exact Z.l38] at this
  exact Z.l39 this k3
theorem root_good {t:Nat→Nat} {n b e p i:Nat} (per:∀ k,b≤k→k+p < e→t k=t (k+p)) (he:e≤n) (hend:e < n→t e < t (e - p)) (hb:b≤i) (hi:i+p≤e) (h:LynAt t i p):Good t n i p:=by
  refine ⟨h,by exact Z.l40 hi he,?_⟩
  rintro ⟨m,h1,h2,h3⟩
  have hp:=h.1
  by_cases c:i+p+m < e
  · have:=per (i+m) (by exact Z.l41 hb) (by exact Z.l42 c)
    rw [show i+m+p=i+p+m by exact Z.l38] at this
    exact Z.l39 this h3
  · have hen:e < n:=by exact Z.l43 h1 c
    have hlt:=hend hen
    by_cases c2:m=e - p - i
    · rw [show i+m=e - p by lia,show i+p+m=e by lia] at h3
      exact Z.l46 h3 hlt
    · have:=h2 (e - p - i) (by lia)
      rw [show i+(e - p - i)=e - p by lia,show i+p+(e - p - i)=e by lia] at this
      exact Z.l50 this hlt
theorem LynAt.first_last {t:Nat→Nat} {i p:Nat} (h:LynAt t i p) (hp:2≤p):t i < t (i+(p - 1)):=by
  obtain ⟨m,k1,_,k3⟩:=h.2 (p - 1) (by exact Z.l51 hp) (by exact Z.l52 hp)
  obtain rfl:m=0:=by exact Z.l53 k1
  simpa using k3
theorem LynAt.first_least {t:Nat→Nat} {i p k:Nat} (h:LynAt t i p) (hk:k < p):t i≤t (i+k):=by
  by_cases c:k=0
  · subst c;exact Nat.le_refl _
  obtain ⟨m,k1,k2,k3⟩:=h.2 k (by exact Z.l54 c) hk
  by_cases c2:m=0
  · subst c2
    have:t i < t (i+k):=by simpa using k3
    exact Z.l55 this
  · have:=k2 0 (by exact Z.l54 c2)
    simp at this
    exact Z.l56 this
theorem one_of_two {t u:Nat→Nat} {n:Nat} (hu:∀ a b,a < n→b < n→(u a < u b↔t b < t a)) {i p q:Nat} (hpn:i+p≤n) (hqn:i+q≤n) (h:LynAt t i p) (h':LynAt u i q):p=1∨q=1:=by
  have hp:=h.1
  have hq:=h'.1
  by_cases c1:p=1
  · exact .inl c1
  by_cases c2:q=1
  · exact .inr c2
  exfalso
  have a1:=h.first_last (by exact Z.l57 hp c1)
  have b1:=(hu _ _ (by exact Z.l58 hpn hp) (by exact Z.l59 hqn hq)).mp (h'.first_last (by exact Z.l57 hq c2))
  by_cases c:p≤q
  · have:=h'.first_least (k:=p - 1) (by exact Z.l60 c hp)
    have:¬ u (i+(p - 1)) < u i:=by exact Z.l61 this
    rw [hu _ _ (by exact Z.l59 hpn hp) (by exact Z.l58 hpn hp)] at this
    exact Z.l62 a1 this
  · have:=h.first_least (k:=q - 1) (by exact Z.l63 c)
    exact Z.l64 this b1
theorem apart_steps {t:Nat→Nat} {b e p i j:Nat} (per:∀ k,b≤k→k+p < e→t k=t (k+p)) (hb:b≤i) (hij:i < j) (hj:j < i+p) (he:j+p≤e) (h:LynAt t i p) (h':LynAt t j p):False:=by
  obtain ⟨m,k1,k2,k3⟩:=h.2 (j - i) (by exact Z.l65 hij) (by exact Z.l66 hj hij)
  obtain ⟨m',l1,l2,l3⟩:=h'.2 (p - (j - i)) (by exact Z.l67 k1) (by exact Z.l68 hij k1)
  have e1:∀ a,i+(j - i)+a=j+a:=fun a=>by exact Z.l69 hij
  simp only [e1] at k2 k3
  have e2:∀ a,j+(p - (j - i))+a=i+a+p:=fun a=>by lia
  simp only [e2] at l2 l3
  have pr:∀ a,a≤m'→t (i+a)=t (i+a+p):=fun a ha=>per (i+a) (by exact Z.l41 hb) (by lia)
  rcases Nat.lt_trichotomy m m' with c | c | c
  · have h1:=l2 m c
    rw [← pr m (by exact Z.l55 c)] at h1
    exact Z.l50 h1 k3
  · subst c
    rw [← pr m (by exact Z.l72)] at l3
    exact Z.l46 k3 l3
  · have h1:=k2 m' c
    rw [← pr m' (by exact Z.l72)] at l3
    exact Z.l50 h1 l3
end Ly
end Mine
end
section
namespace Mine
namespace Ly
noncomputable def LtF (f:Nat→Nat) (p i j:Nat):Prop:=∃ m,m < p∧(∀ a,a < m→f (i+a)=f (j+a))∧f (i+m) < f (j+m)
theorem LtF.trans {f:Nat→Nat} {p i j k:Nat} (h:LtF f p i j) (h':LtF f p j k):LtF f p i k:=by
  obtain ⟨m,a1,a2,a3⟩:=h
  obtain ⟨n,b1,b2,b3⟩:=h'
  rcases Nat.lt_trichotomy m n with c | c | c
  · exact ⟨m,a1,fun a ha=>(a2 a ha).trans (b2 a (by exact Z.l12 ha c)),by rw [← b2 m c];exact a3⟩
  · subst c
    exact ⟨m,a1,fun a ha=>(a2 a ha).trans (b2 a ha),Nat.lt_trans a3 b3⟩
  · exact ⟨n,b1,fun a ha=>(a2 a (by exact Z.l12 ha c)).trans (b2 a ha),by rw [a2 n c];exact b3⟩
theorem LtF.irrefl {f:Nat→Nat} {p i:Nat} (h:LtF f p i i):False:=by
  obtain ⟨m,_,_,h3⟩:=h
  exact Z.l73 h3
theorem least (f:Nat→Nat) (p:Nat):∀ n,0 < n→∃ j,j < n∧∀ k,k < n→¬ LtF f p k j
  | 0,h=>absurd h (by exact Z.l74)
  | 1,_=>⟨0,by exact Z.l75,fun k hk h=>by
    obtain rfl:k=0:=by exact Z.l76 hk
    exact h.irrefl⟩
  | n+2,_=>by
    obtain ⟨j,hj,hm⟩:=least f p (n+1) (by exact Z.l77)
    by_cases c:LtF f p (n+1) j
    · refine ⟨n+1,by exact Z.l78,fun k hk h=>?_⟩
      by_cases e:k=n+1
      · subst e;exact h.irrefl
      · exact hm k (by exact Z.l79 hk e) (h.trans c)
    · refine ⟨j,by exact Z.l80 hj,fun k hk h=>?_⟩
      by_cases e:k=n+1
      · subst e;exact c h
      · exact hm k (by exact Z.l79 hk e) h
theorem first_diff (f g:Nat→Nat):∀ n,(∀ m,m < n→f m=g m)∨∃ m,m < n∧(∀ a,a < m→f a=g a)∧f m≠g m
  | 0=>.inl fun m h=>by exact Z.l81 h
  | n+1=>by
    rcases first_diff f g n with h | ⟨m,h1,h2,h3⟩
    · by_cases c:f n=g n
      · exact .inl fun m hm=>by
          by_cases e:m=n
          · subst e;exact c
          · exact h m (by exact Z.l82 hm e)
      · exact .inr ⟨n,by exact Z.l83,h,c⟩
    · exact .inr ⟨m,by exact Z.l84 h1,h2,h3⟩
theorem period_mul {f:Nat→Nat} {g:Nat} (h:∀ x,f (x+g)=f x):∀ (k x:Nat),f (x+k*g)=f x
  | 0,x=>by simp
  | k+1,x=>by rw [Nat.succ_mul,← Nat.add_assoc,h,period_mul h k x]
theorem period_div {f:Nat→Nat} {p:Nat} (hf:∀ x,f (x+p)=f x):∀ n k,k≤n→0 < k→k < p→(∀ x,f (x+k)=f x)→∃ g,0 < g∧g < p∧g ∣ p∧∀ x,f (x+g)=f x
  | 0,k,h,h0,_,_=>by lia
  | n+1,k,h,h0,hk,hper=>by
    by_cases c:p % k=0
    · exact ⟨k,h0,hk,Nat.dvd_of_mod_eq_zero c,hper⟩
    · refine period_div hf n (p % k) (by have:=Nat.mod_lt p h0;exact Z.l85 h this) (by exact Z.l54 c) (by have:=Nat.mod_lt p h0;exact Z.l12 this hk) fun x=>?_
      rw [← period_mul hper (p / k) (x+p % k)]
      have:x+p % k+p / k*k=x+p:=by
        have:=Nat.mod_add_div p k
        rw [Nat.mul_comm] at this;exact Z.l86 this
      rw [this,hf]
theorem exists_root {t : Nat → Nat} {b e p : Nat} (hp : 0 < p) (per : ∀ k, b ≤ k → k + p < e → t k = t (k + p)) (he : b + 2 * p ≤ e)
    (prim:∀ g,0 < g→g < p→g ∣ p→¬ ∀ k,b≤k→k+g < e→t k=t (k+g)):∃ i,b≤i∧i < b+p∧LynAt t i p:=by
  let f:Nat→Nat:=fun x=>t (b+x % p)
  have hf:∀ x,f (x+p)=f x:=fun x=>by show t (b+(x+p) % p)=t (b+x % p);rw [Nat.add_mod_right]
  have hft:∀ n x,x≤n→b+x < e→t (b+x)=f x:=by
    intro n
    induction n with
    | zero => intro x hx _; obtain rfl : x = 0 := by exact Z.l87 hx
              show t (b+0)=t (b+0 % p);rw [Nat.zero_mod]
    | succ n ih =>
      intro x hx hxe
      by_cases c:x < p
      · show t (b+x)=t (b+x % p);rw [Nat.mod_eq_of_lt c]
      · have h1:=per (b+(x - p)) (by exact Z.l36) (by exact Z.l88 hxe c)
        rw [show b+(x - p)+p=b+x by exact Z.l89 c] at h1
        rw [← h1,ih (x - p) (by exact Z.l90 hx hp) (by exact Z.l91 hxe),← hf (x - p)]
        congr 1;exact Z.l92 c
  have hft:∀ x,b+x < e→t (b+x)=f x:=fun x=>hft x x (Nat.le_refl _)
  obtain ⟨j,hj,hm⟩:=least f p p hp
  have hm:∀ k,¬ LtF f p k j:=fun k h=>by
    refine hm (k % p) (Nat.mod_lt _ hp) ?_
    obtain ⟨m,h1,h2,h3⟩:=h
    have e:∀ a,f (k % p+a)=f (k+a):=fun a=>by
      show t (b+(k % p+a) % p)=t (b+(k+a) % p)
      rw [Nat.mod_add_mod]
    exact ⟨m,h1,fun a ha=>(e a).trans (h2 a ha),by rw [e];exact h3⟩
  refine ⟨b+j,by exact Z.l36,by exact Z.l93 hj,hp,fun k h0 hk=>?_⟩
  have tj:∀ a,a < p→t (b+j+a)=f (j+a):=fun a ha=>by rw [Nat.add_assoc];exact hft _ (by exact Z.l94 he hj ha)
  rcases first_diff (fun a=>f (j+a)) (fun a=>f (j+k+a)) p with h | ⟨m,h1,h2,h3⟩
  · exfalso
    have hk':∀ x,f (x+k)=f x:=fun x=>by
      have hx:∃ a,a < p∧(j+a) % p=x % p:=by
        have l2:=Nat.mod_lt x hp
        by_cases c:j≤x % p
        · exact ⟨x % p - j,by exact Z.l95 l2,by rw [show j+(x % p - j)=x % p by exact Z.l96 c,Nat.mod_mod]⟩
        · exact ⟨x % p+p - j,by exact Z.l97 hj c,by rw [show j+(x % p+p - j)=x % p+p by exact Z.l98 hj,Nat.add_mod_right,Nat.mod_mod]⟩
      obtain ⟨a,ha,hax⟩:=hx
      have e1:f (j+a)=f (j+k+a):=h a ha
      have e2:f (j+a)=f x:=by show t (b+(j+a) % p)=t (b+x % p);rw [hax]
      have e3:f (j+k+a)=f (x+k):=by
        show t (b+(j+k+a) % p)=t (b+(x+k) % p)
        rw [show j+k+a=j+a+k by exact Z.l38,← Nat.mod_add_mod (j+a),hax,Nat.mod_add_mod]
      rw [← e3,← e1,e2]
    obtain ⟨g,g0,gp,gd,gper⟩:=period_div hf k k (Nat.le_refl _) h0 hk hk'
    refine prim g g0 gp gd fun x hx hxe=>?_
    have e1:=hft (x - b) (by exact Z.l99 hx hxe)
    have e2:=hft (x - b+g) (by exact Z.l100 hx hxe)
    rw [show b+(x - b)=x by exact Z.l96 hx] at e1
    rw [show b+(x - b+g)=x+g by exact Z.l101 hx] at e2
    rw [e1,e2,gper]
  · have h2:∀ a,a < m→f (j+a)=f (j+k+a):=h2
    have h3:f (j+m)≠f (j+k+m):=h3
    have hlt:f (j+m) < f (j+k+m):=by
      rcases Nat.lt_trichotomy (f (j+m)) (f (j+k+m)) with c | c | c
      · exact c
      · exact absurd c h3
      · exact absurd ⟨m,h1,fun a ha=>(h2 a ha).symm,c⟩ (hm (j+k))
    by_cases c:m < p - k
    · refine ⟨m,c,fun a ha=>?_,?_⟩
      · have:=tj (k+a) (by exact Z.l102 ha c)
        rw [tj a (by exact Z.l12 ha h1),show b+j+k+a=b+j+(k+a) by exact Z.l103,this,h2 a ha]
        congr 1;exact Z.l104
      · have:=tj (k+m) (by exact Z.l0 c)
        rw [tj m (by exact Z.l105 h1),show b+j+k+m=b+j+(k+m) by exact Z.l103,this,show j+(k+m)=j+k+m by exact Z.l4]
        exact hlt
    · exfalso
      refine hm (j+(p - k)) ⟨m - (p - k),by exact Z.l95 h1,fun a ha=>?_,?_⟩
      · have:=h2 (p - k+a) (by exact Z.l0 ha)
        rw [show j+(p - k)+a=j+(p - k+a) by exact Z.l104,this,show j+k+(p - k+a)=j+a+p by exact Z.l106 hk,hf]
      · rw [show j+(p - k)+(m - (p - k))=j+m by exact Z.l2 c,← hf (j+(m - (p - k))),show j+(m - (p - k))+p=j+k+m by lia]
        exact hlt
end Ly
end Mine
end
section
namespace Mine
namespace Ly
theorem count_res (p r:Nat) (hp:0 < p) (hr:r < p) (d:Nat):∀ N,((List.range N).filter fun k=>decide ((d+k) % p=r)).length+(d+(p - 1 - r)) / p=(d+(p - 1 - r)+N) / p
  | 0=>by simp
  | N+1=>by
    have ih:=count_res p r hp hr d N
    rw [List.range_succ,List.filter_append,List.length_append]
    have hs:(d+(p - 1 - r)+(N+1)) / p=(d+(p - 1 - r)+N) / p+if p ∣ d+(p - 1 - r)+N+1 then 1 else 0:=Nat.succ_div
    rw [hs,← ih]
    have key:p ∣ d+(p - 1 - r)+N+1↔(d+N) % p=r:=by
      have e:d+(p - 1 - r)+N+1=(d+N)+(p - r):=by lia
      rw [e]
      have h1:=Nat.mod_add_div (d+N) p
      have h2:=Nat.mod_lt (d+N) hp
      constructor
      · intro h
        have h3:p ∣ (d+N) % p+(p - r):=by
          have h4:p ∣ p*((d+N) / p):=Nat.dvd_mul_right _ _
          have h5:(d+N)+(p - r)=((d+N) % p+(p - r))+p*((d+N) / p):=by exact Z.l109 h1
          rw [h5] at h
          exact (Nat.dvd_add_iff_left h4).mpr h
        obtain ⟨c,hc⟩:=h3
        have:c=1:=by
          rcases Nat.lt_or_ge c 1 with q | q
          · have:c=0:=by exact Z.l76 q
            subst this;exact Z.l110 e hc
          · rcases Nat.lt_or_ge c 2 with q2 | q2
            · exact Z.l111 q q2
            · have:p*2≤p*c:=Nat.mul_le_mul_left p q2
              lia
        subst this;exact Z.l113 hc hr
      · intro h
        refine ⟨(d+N) / p+1,?_⟩
        rw [Nat.mul_add];lia
    by_cases c:(d+N) % p=r
    · rw [if_pos (key.mpr c)]
      have:([N].filter fun k=>decide ((d+k) % p=r))=[N]:=by simp [c]
      rw [this];simp;exact Z.l115
    · rw [if_neg (fun h=>c (key.mp h))]
      have:([N].filter fun k=>decide ((d+k) % p=r))=[]:=by simp [c]
      rw [this];simp
theorem count_two (p r:Nat) (hp:0 < p) (hr:r < p) (d N:Nat):((List.range N).filter fun k=>decide ((d+k) % p=r)).length=N / p∨((List.range N).filter fun k=>decide ((d+k) % p=r)).length=N / p+1:=by
  have h:=count_res p r hp hr d N
  generalize d+(p - 1 - r)=A at *
  generalize ((List.range N).filter fun k=>decide ((d+k) % p=r)).length=c at *
  have h1:=Nat.mod_add_div A p
  have h2:=Nat.mod_lt A hp
  have h3:=Nat.mod_add_div N p
  have h4:=Nat.mod_lt N hp
  have e:A+N=(A % p+N % p)+p*(A / p+N / p):=by rw [Nat.mul_add];exact Z.l116 h1 h3
  rw [e,Nat.add_mul_div_left _ _ hp] at h
  have:(A % p+N % p) / p=0∨(A % p+N % p) / p=1:=by
    rcases Nat.lt_or_ge (A % p+N % p) p with q | q
    · exact .inl (Nat.div_eq_of_lt q)
    · right
      rw [Nat.div_eq_sub_div hp q,Nat.div_eq_of_lt (by exact Z.l117 h2 h4)]
  lia
structure Run (s:Nat→Nat) (n b e p:Nat):Prop where
  pos:0 < p
  two:b+2*p≤e
  fit:e≤n
  per:∀ k,b≤k→k+p < e→s k=s (k+p)
  left:b=0∨s (b - 1)≠s (b - 1+p)
  right:e=n∨s e≠s (e - p)
theorem Run.uniq {s:Nat→Nat} {n b e b' e' p i:Nat} (h:Run s n b e p) (h':Run s n b' e' p) (h1:b≤i) (h2:b'≤i) (h3:i+p≤e) (h4:i+p≤e'):b=b'∧e=e':=by
  have L:∀ {b e b' e':Nat},Run s n b e p→Run s n b' e' p→b≤i→b'≤i→i+p≤e→i+p≤e'→b≤b':=fun {b e b' e'} h h' h1 h2 h3 h4=>by
    by_cases c:b≤b'
    · exact c
    exfalso
    rcases h.left with q | q
    · exact Z.l119 q c
    · have:=h'.per (b - 1) (by exact Z.l120 c) (by have:=h.pos;exact Z.l121 h4 h1 c)
      exact q this
  have R:∀ {b e b' e':Nat},Run s n b e p→Run s n b' e' p→b≤i→b'≤i→i+p≤e→i+p≤e'→e'≤e:=fun {b e b' e'} h h' h1 h2 h3 h4=>by
    by_cases c:e'≤e
    · exact c
    exfalso
    have:=h'.fit
    rcases h.right with q | q
    · exact Z.l122 q this c
    · have:=h'.per (e - p) (by exact Z.l123 h3 h2) (by exact Z.l124 h3 c)
      rw [show e - p+p=e by exact Z.l125 h3] at this
      exact q this.symm
  exact ⟨Nat.le_antisymm (L h h' h1 h2 h3 h4) (L h' h h2 h1 h4 h3),Nat.le_antisymm (R h' h h2 h1 h4 h3) (R h h' h1 h2 h3 h4)⟩
theorem per_mul {s:Nat→Nat} {b e g:Nat} (per:∀ k,b≤k→k+g < e→s k=s (k+g)):∀ (c k:Nat),b≤k→k+c*g < e→s k=s (k+c*g)
  | 0,k,_,_=>by simp
  | c+1,k,h1,h2=>by
    rw [Nat.succ_mul] at h2 ⊢
    rw [per_mul per c k h1 (by exact Z.l126 h2),per (k+c*g) (by exact Z.l41 h1) (by exact Z.l127 h2)]
    congr 1;exact Z.l104
theorem Run.sub {s:Nat→Nat} {n b e p g:Nat} (h:Run s n b e p) (g0:0 < g) (gp:g < p) (gd:g ∣ p) (per:∀ k,b≤k→k+g < e→s k=s (k+g)):Run s n b e g:=by
  obtain ⟨c,hc⟩:=gd
  have hc':p=c*g:=by rw [hc,Nat.mul_comm]
  have htwo:=h.two
  have hc1:1≤c:=by
    rcases Nat.lt_or_ge c 1 with q | q
    · have:c=0:=by exact Z.l76 q
      subst this;simp at hc;exact Z.l128 hc gp
    · exact q
  have hg:(c - 1)*g+g=p:=by rw [hc',← Nat.succ_mul];congr 1;exact Z.l129 hc1
  refine ⟨g0,by exact Z.l130 hg htwo,h.fit,per,?_,?_⟩
  · rcases h.left with q | q
    · exact .inl q
    · right
      by_cases hb:b=0
      · subst hb
        have e:=per_mul per (c - 1) (0 - 1+g) (by exact Z.l131) (by exact Z.l132 hg htwo gp)
        rw [show 0 - 1+g+(c - 1)*g=0 - 1+p by exact Z.l133 hg] at e
        rw [e];exact q
      · have e:=per_mul per (c - 1) (b - 1+g) (by exact Z.l134 g0) (by exact Z.l135 hg htwo gp)
        rw [show b - 1+g+(c - 1)*g=b - 1+p by exact Z.l133 hg] at e
        rw [e];exact q
  · rcases h.right with q | q
    · exact .inl q
    · right
      have q2:=per_mul per (c - 1) (e - p) (by exact Z.l136 htwo) (by exact Z.l137 hg htwo g0)
      rw [show e - p+(c - 1)*g=e - g by lia] at q2
      rw [← q2];exact q
theorem LynAt.step {t:Nat→Nat} {b e p i:Nat} (per:∀ k,b≤k→k+p < e→t k=t (k+p)) (h:LynAt t i p) (hb:b≤i) (he:i+2*p≤e):LynAt t (i+p) p:=by
  have e1:∀ a,a < p→t (i+p+a)=t (i+a):=fun a ha=>by
    have:=per (i+a) (by exact Z.l41 hb) (by exact Z.l139 he ha)
    rw [this];congr 1;exact Z.l38
  refine ⟨h.1,fun k h0 hk=>?_⟩
  obtain ⟨m,h1,h2,h3⟩:=h.2 k h0 hk
  have e2:∀ a,a < p - k→t (i+p+k+a)=t (i+k+a):=fun a ha=>by
    have:=e1 (k+a) (by exact Z.l0 ha)
    rw [show i+p+(k+a)=i+p+k+a by exact Z.l22,show i+(k+a)=i+k+a by exact Z.l4] at this
    exact this
  exact ⟨m,h1,fun a ha=>by rw [e1 a (by exact Z.l26 ha h1),e2 a (by exact Z.l12 ha h1)];exact h2 a ha,by rw [e1 m (by exact Z.l27 h1),e2 m h1];exact h3⟩
theorem LynAt.steps {t:Nat→Nat} {b e p i:Nat} (per:∀ k,b≤k→k+p < e→t k=t (k+p)) (h:LynAt t i p) (hb:b≤i):∀ c,i+c*p+p≤e→LynAt t (i+c*p) p
  | 0,_=>by simpa using h
  | c+1,he=>by
    rw [Nat.succ_mul] at he ⊢
    have:=(LynAt.steps per h hb c (by exact Z.l140 he)).step per (by exact Z.l41 hb) (by exact Z.l141 he)
    rwa [show i+c*p+p=i+(c*p+p) by exact Z.l104] at this
theorem lyn_iff {t:Nat→Nat} {b e p i s:Nat} (per:∀ k,b≤k→k+p < e→t k=t (k+p)) (h:LynAt t i p) (hb:b≤i) (hi:i < b+p) (hie:i+p≤e) (hs:b≤s) (hse:s+p≤e):LynAt t s p↔s % p=i % p:=by
  have hp:=h.1
  constructor
  · intro h'
    by_cases c:s < i
    · exact (apart_steps per hs c (by exact Z.l142 hs hi) hie h' h).elim
    · have hd:=Nat.mod_add_div (s - i) p
      rw [Nat.mul_comm] at hd
      have hm:=Nat.mod_lt (s - i) hp
      have hl:=LynAt.steps per h hb ((s - i) / p) (by exact Z.l143 hd hse c)
      by_cases c0:(s - i) % p=0
      · have:s=i+(s - i) / p*p:=by exact Z.l144 hd c0 c
        rw [this,Nat.add_mul_mod_self_right]
      · exact (apart_steps (i:=i+(s - i) / p*p) (j:=s) per (by exact Z.l41 hb) (by exact Z.l145 hd c0) (by exact Z.l146 hd hm) hse hl h').elim
  · intro hmod
    have hle:i≤s:=by
      by_cases c:i≤s
      · exact c
      exfalso
      have h1:(i - s) % p=0:=by
        have:i=s+(i - s):=by exact Z.l147 c
        have h2:(s+(i - s)) % p=s % p:=by rw [← this];exact hmod.symm
        have h3:=Nat.mod_add_div s p
        have h4:=Nat.mod_add_div (s+(i - s)) p
        rw [h2] at h4
        have h5:p*((s+(i - s)) / p)=p*(s / p)+(i - s):=by exact Z.l148 h4 h3
        have h6:p ∣ (i - s):=(Nat.dvd_add_iff_right (Nat.dvd_mul_right p (s / p))).mpr (h5 ▸ Nat.dvd_mul_right _ _)
        exact Nat.mod_eq_zero_of_dvd h6
      rw [Nat.mod_eq_of_lt (by exact Z.l149 hs hi c)] at h1
      exact Z.l150 h1 c
    have hd:(s - i) % p=0:=by
      have h2:(i+(s - i)) % p=i % p:=by rw [show i+(s - i)=s by exact Z.l96 hle];exact hmod
      have h3:=Nat.mod_add_div i p
      have h4:=Nat.mod_add_div (i+(s - i)) p
      rw [h2] at h4
      have h5:p*((i+(s - i)) / p)=p*(i / p)+(s - i):=by exact Z.l148 h4 h3
      have h6:p ∣ (s - i):=(Nat.dvd_add_iff_right (Nat.dvd_mul_right p (i / p))).mpr (h5 ▸ Nat.dvd_mul_right _ _)
      exact Nat.mod_eq_zero_of_dvd h6
    have hd2:=Nat.mod_add_div (s - i) p
    rw [hd,Nat.mul_comm] at hd2
    have hl:=LynAt.steps per h hb ((s - i) / p) (by exact Z.l151 hd2 hse hle)
    rwa [show i+(s - i) / p*p=s by exact Z.l152 hd2 hle] at hl
end Ly
end Mine
end
section
open PySem PySem.Calls PySem.W PyProof.Rows
namespace Mine
namespace Srt
structure Ord (n:Nat) (lt:Nat→Nat→Bool):Prop where
  tr:∀ a b c,a < n→b < n→c < n→lt a b=true→lt b c=true→lt a c=true
  tot:∀ a b,a < n→b < n→a≠b→lt a b=true∨lt b a=true
  asym:∀ a b,a < n→b < n→lt a b=true→lt b a=false
structure Prm (n:Nat) (p:Array Nat):Prop where
  pm:p.toList.Perm (List.range n)
  sz:p.size=n
  low:∀ i,i < n→p.getD i 0 < n
  inj:∀ i j,i < n→j < n→p.getD i 0=p.getD j 0→i=j
noncomputable def UpTo (lt:Nat→Nat→Bool) (p:Array Nat) (k:Nat):Prop:=∀ i j,i < j→j < k→lt (p.getD i 0) (p.getD j 0)=true
section
variable {n:Nat} {lt:Nat→Nat→Bool} {p:Array Nat}
theorem getD_of {q:Array Nat} {i:Nat}:q.getD i 0=(q[i]?).getD 0:=by rw [Array.getD_eq_getD_getElem?]
theorem Prm.range (n:Nat):Prm n (List.toArray (List.range n)):=by
  have e:∀ i,i < n→(List.toArray (List.range n)).getD i 0=i:=fun i hi=>by rw [getD_of];simp [hi]
  exact ⟨by simp,by simp,fun i hi=>by rw [e i hi];exact hi,fun i j hi hj h=>by rw [e i hi,e j hj] at h;exact h⟩
theorem Prm.move {q:Array Nat} (h:Prm n p) (hpm:q.Perm p) (hq:q.size=n) (σ:Nat→Nat) (hσ:∀ i,i < n→σ i < n) (inj:∀ i j,i < n→j < n→σ i=σ j→i=j) (hg:∀ i,i < n→q[i]?=p[σ i]?):Prm n q:=by
  have e:∀ i,i < n→q.getD i 0=p.getD (σ i) 0:=fun i hi=>by rw [getD_of,getD_of,hg i hi]
  exact ⟨(Array.perm_iff_toList_perm.mp hpm).trans h.pm,hq,fun i hi=>by rw [e i hi];exact h.low _ (hσ i hi),fun i j hi hj hh=>inj i j hi hj (h.inj _ _ (hσ i hi) (hσ j hj) (by rw [← e i hi,← e j hj];exact hh))⟩
theorem UpTo.of_step (O:Ord n lt) (h:Prm n p) {k:Nat} (hk:k≤n) (st:∀ i,0 < i→i < k→lt (p.getD (i - 1) 0) (p.getD i 0)=true):UpTo lt p k:=by
  intro i j hij hj
  induction j with
  | zero=>lia
  | succ j ih =>
    have h1:=st (j+1) (by exact Z.l77) hj
    by_cases c:i=j
    · subst c;exact h1
    · exact O.tr _ _ _ (h.low _ (by exact Z.l153 hk hj hij)) (h.low _ (by exact Z.l154 hk hj)) (h.low _ (by exact Z.l155 hk hj)) (ih (by exact Z.l82 hij c) (by exact Z.l156 hj)) h1
theorem asc_spec (p:Array Nat):∀ f k,k≤evalT lt (kas_asc p f k)∧evalT lt (kas_asc p f k)≤k+f∧(∀ i,k≤i→i < evalT lt (kas_asc p f k)→lt (p.getD i 0) (p.getD (i - 1) 0)=false)∧(evalT lt (kas_asc p f k) < k+f→lt (p.getD (evalT lt (kas_asc p f k)) 0) (p.getD (evalT lt (kas_asc p f k) - 1) 0)=true)
  | 0,k=>⟨Nat.le_refl _,Nat.le_refl _,fun i h1 h2=>by have:i < k:=h2;lia,fun h=>absurd h (Nat.lt_irrefl _)⟩
  | f+1,k=>by
    cases c:lt (p.getD k 0) (p.getD (k - 1) 0) with
    | true =>
      have e:evalT lt (kas_asc p (f+1) k)=k:=by
        show evalT lt (if lt (p.getD k 0) (p.getD (k - 1) 0)=true then KasT.ret k else _)=k
        rw [if_pos c];rfl
      rw [e]
      exact ⟨Nat.le_refl _,by exact Z.l157,fun i h1 h2=>by lia,fun _=>c⟩
    | false =>
      have e:evalT lt (kas_asc p (f+1) k)=evalT lt (kas_asc p f (k+1)):=by
        show evalT lt (if lt (p.getD k 0) (p.getD (k - 1) 0)=true then KasT.ret k else _)=_
        rw [if_neg (by rw [c];decide)]
      rw [e]
      obtain ⟨a1,a2,a3,a4⟩:=asc_spec p f (k+1)
      refine ⟨by exact Z.l158 a1,by exact Z.l159 a2,fun i h1 h2=>?_,fun h=>a4 (by exact Z.l160 h)⟩
      by_cases q:i=k
      · subst q;exact c
      · exact a3 i (by exact Z.l161 h1 q) h2
theorem desc_spec (O:Ord n lt) (h:Prm n p):∀ f k,0 < k→k+f≤n→∃ k',evalT lt (kas_desc f p k 0)=(p,k',0)∧k≤k'∧k'≤k+f∧∀ i,k≤i→i < k'→lt (p.getD i 0) (p.getD (i - 1) 0)=true
  | 0,k,_,_=>⟨k,rfl,Nat.le_refl _,Nat.le_refl _,fun i h1 h2=>by lia⟩
  | f+1,k,h0,hk=>by
    cases c:lt (p.getD k 0) (p.getD (k - 1) 0) with
    | true =>
      have e:evalT lt (kas_desc (f+1) p k 0)=evalT lt (kas_desc f p (k+1) 0):=by
        show evalT lt (if lt (p.getD k 0) (p.getD (k - 1) 0)=true then (if 0 > 0 then _ else _) else _)=_
        rw [if_pos c,if_neg (by exact Z.l74)]
      obtain ⟨k',a1,a2,a3,a4⟩:=desc_spec O h f (k+1) (by exact Z.l77) (by exact Z.l162 hk)
      refine ⟨k',e.trans a1,by exact Z.l158 a2,by exact Z.l159 a3,fun i h1 h2=>?_⟩
      by_cases q:i=k
      · subst q;exact c
      · exact a4 i (by exact Z.l161 h1 q) h2
    | false =>
      have hne:p.getD k 0≠p.getD (k - 1) 0:=fun q=>by have:=h.inj k (k - 1) (by exact Z.l163 hk) (by exact Z.l164 hk) q;exact Z.l165 this h0
      have c2:lt (p.getD (k - 1) 0) (p.getD k 0)=true:=by
        rcases O.tot _ _ (h.low k (by exact Z.l163 hk)) (h.low (k - 1) (by exact Z.l164 hk)) hne with q | q
        · rw [c] at q;cases q
        · exact q
      refine ⟨k,?_,Nat.le_refl _,by exact Z.l157,fun i h1 h2=>by lia⟩
      show evalT lt (if lt (p.getD k 0) (p.getD (k - 1) 0)=true then _ else KasT.ask _ _ _)=_
      rw [if_neg (by rw [c];decide)]
      show evalT lt (if lt (p.getD (k - 1) 0) (p.getD k 0)=true then KasT.ret (p,k,0) else _)=_
      rw [if_pos c2];rfl
theorem evalT_bind {α β:Type} {f:α→KasT β}:∀ (t:KasT α),evalT lt (t.bind f)=evalT lt (f (evalT lt t))
  | .ret _=>rfl
  | .ask i j k=>by
    show evalT lt (((k (lt i j))).bind f)=evalT lt (f (evalT lt (k (lt i j))))
    exact evalT_bind (k (lt i j))
theorem rev_spec (h:Prm n p) {k:Nat} (hk:k≤n):Prm n (kas_rev p 0 k)∧∀ i,i < n→(kas_rev p 0 k).getD i 0=p.getD (if i < k then k - 1 - i else i) 0:=by
  have g:∀ i,i < n→(kas_rev p 0 k)[i]?=p[if i < k then k - 1 - i else i]?:=fun i hi=>by
    unfold kas_rev
    rw [getElem?_mirror_all (by rw [h.sz];exact hk)]
    by_cases c:i < k
    · rw [if_pos ⟨Nat.zero_le _,c⟩,if_pos c,Nat.zero_add]
    · rw [if_neg (fun q=>c q.2),if_neg c]
  refine ⟨h.move (by unfold kas_rev;exact mirror_perm ..) (by unfold kas_rev;rw [mirror_size,h.sz]) (fun i=>if i < k then k - 1 - i else i) (fun i hi=>?_) (fun i j hi hj hh=>?_) g,fun i hi=>by rw [getD_of,getD_of,g i hi]⟩
  · by_cases c:i < k
    · rw [if_pos c];exact Nat.lt_of_le_of_lt (Nat.sub_le (k - 1) i) (Nat.lt_of_lt_of_le (Nat.sub_lt (Nat.lt_of_le_of_lt (Nat.zero_le i) c) Nat.one_pos) hk)
    · rw [if_neg c];exact hi
  · by_cases c:i < k <;> by_cases d:j < k
    · rw [if_pos c,if_pos d] at hh;lia
    · rw [if_pos c,if_neg d] at hh;exact Z.l167 hh c d
    · rw [if_neg c,if_pos d] at hh;exact Z.l168 hh d c
    · rwa [if_neg c,if_neg d] at hh
theorem count_spec (O:Ord n lt) (hn:2≤n):∃ m q,evalT lt (kas_count n (List.toArray (List.range n)))=(m,q)∧1≤m∧m≤n∧Prm n q∧UpTo lt q m:=by
  have hp:=Prm.range n
  generalize List.toArray (List.range n)=p at *
  obtain ⟨a1,a2,a3,a4⟩:=asc_spec (lt:=lt) p (n - 1) 1
  have turn:∀ {q:Array Nat},Prm n q→∀ i,0 < i→i < n→lt (q.getD i 0) (q.getD (i - 1) 0)=false→lt (q.getD (i - 1) 0) (q.getD i 0)=true:=fun {q} hq i h0 hi hf=>by
    have hne:q.getD i 0≠q.getD (i - 1) 0:=fun z=>by have:=hq.inj i (i - 1) hi (by exact Z.l169 hi) z;exact Z.l165 this h0
    rcases O.tot _ _ (hq.low i hi) (hq.low (i - 1) (by exact Z.l169 hi)) hne with z | z
    · rw [hf] at z;cases z
    · exact z
  unfold kas_count
  rw [evalT_bind]
  generalize hm:evalT lt (kas_asc p (n - 1) 1)=m at *
  have hup:UpTo lt p m:=.of_step O hp (by exact Z.l170 hn a2) fun i h0 hi=>turn hp i h0 (by exact Z.l171 hn a2 hi) (a3 i (by exact Z.l172 h0) hi)
  by_cases c1:(m == n)=true
  · rw [if_pos c1]
    exact ⟨m,p,rfl,by lia,by lia,hp,hup⟩
  rw [if_neg c1]
  have c1':m≠n:=by simpa using c1
  by_cases c2:m > 1
  · rw [if_pos c2]
    have c3:lt (p.getD 0 0) (p.getD (m - 1) 0)=true:=hup 0 (m - 1) (by exact Z.l175 c2) (by exact Z.l176 a1)
    refine ⟨m,p,?_,by exact Z.l177 a1,by exact Z.l170 hn a2,hp,hup⟩
    show evalT lt (if lt (p.getD 0 0) (p.getD (m - 1) 0)=true then KasT.ret (m,p) else _)=_
    rw [if_pos c3];rfl
  · rw [if_neg c2]
    have hm1:m=1:=by exact Z.l178 a1 c2
    subst hm1
    have c3:=a4 (by exact Z.l179 hn)
    obtain ⟨k,d1,d2,d3,d4⟩:=desc_spec O hp (n - (1+1)) (1+1) (by exact Z.l180) (by exact Z.l181 hn)
    unfold kas_descPart
    rw [evalT_bind,d1]
    show ∃ m q,evalT lt (if 0 > 0 then _ else kas_tail3 k n p)=_∧_
    rw [if_neg (by exact Z.l74)]
    unfold kas_tail3
    rw [evalT_bind]
    obtain ⟨hq,hg⟩:=rev_spec hp (k:=k) (by exact Z.l182 hn d3)
    generalize kas_rev p 0 k=q at *
    obtain ⟨b1,b2,b3,b4⟩:=asc_spec (lt:=lt) q (n - k) k
    generalize evalT lt (kas_asc q (n - k) k)=m at *
    refine ⟨m,q,rfl,by exact Z.l183 d2 b1,by exact Z.l184 hn b2 d3,hq,.of_step O hq (by exact Z.l184 hn b2 d3) fun i h0 hi=>?_⟩
    by_cases c:i < k
    · rw [hg (i - 1) (by exact Z.l185 hn d3 c),hg i (by exact Z.l186 hn d3 c),if_pos (by exact Z.l169 c),if_pos c]
      have h2:lt (p.getD (k - 1 - (i - 1)) 0) (p.getD (k - 1 - (i - 1) - 1) 0)=true:=by
        by_cases q1:k - 1 - (i - 1)=1
        · rw [q1];exact c3
        · exact d4 _ (by lia) (by exact Z.l188 d2)
      rw [show k - 1 - (i - 1) - 1=k - 1 - i by lia] at h2
      exact h2
    · exact turn hq i h0 (by exact Z.l190 b2 hi c) (b3 i (by exact Z.l191 c) hi)
theorem place_spec (O : Ord n lt) (h : Prm n p) {k : Nat} (hk : k < n) (hup : UpTo lt p k) : ∀ f l r, l ≤ r → r ≤ k → r - l ≤ f → (∀ i, i < l → lt (p.getD k 0) (p.getD i 0) = false) → (∀ i, r ≤ i → i < k → lt (p.getD k 0) (p.getD i 0) = true) →
    evalT lt (kas_place p k f l r)≤k∧(∀ i,i < evalT lt (kas_place p k f l r)→lt (p.getD k 0) (p.getD i 0)=false)∧(∀ i,evalT lt (kas_place p k f l r)≤i→i < k→lt (p.getD k 0) (p.getD i 0)=true)
  | 0,l,r,h1,h2,h3,h4,h5=>by
    have:l=r:=by exact Z.l192 h3 h1
    subst this
    exact ⟨h2,h4,h5⟩
  | f+1,l,r,h1,h2,h3,h4,h5=>by
    by_cases c:l≥r
    · have e:evalT lt (kas_place p k (f+1) l r)=l:=by
        show evalT lt (if l≥r then KasT.ret l else _)=_
        rw [if_pos c];rfl
      rw [e]
      have:l=r:=by exact Z.l193 h1 c
      subst this
      exact ⟨h2,h4,h5⟩
    · have e:evalT lt (kas_place p k (f+1) l r)=evalT lt (if lt (p.getD k 0) (p.getD ((l+r) / 2) 0)=true then kas_place p k f l ((l+r) / 2) else kas_place p k f ((l+r) / 2+1) r):=by
        show evalT lt (if l≥r then KasT.ret l else _)=_
        rw [if_neg c];rfl
      rw [e]
      have m1:l≤(l+r) / 2:=by exact Z.l194 c
      have m2:(l+r) / 2 < r:=by exact Z.l195 c
      clear e c
      generalize (l+r) / 2=m at *
      cases q:lt (p.getD k 0) (p.getD m 0) with
      | true =>
        rw [if_pos rfl]
        refine place_spec O h hk hup f l m (by exact Z.l196 m1) (by exact Z.l197 h2 m2) (by exact Z.l198 h3 m2) h4 fun i i1 i2=>?_
        by_cases ci:i=m
        · subst ci;exact q
        · exact O.tr _ _ _ (h.low k hk) (h.low _ (by exact Z.l199 h2 m2 hk)) (h.low i (by exact Z.l12 i2 hk)) q (hup _ i (by exact Z.l200 i1 ci) i2)
      | false =>
        rw [if_neg (by decide)]
        refine place_spec O h hk hup f (m+1) r (by exact Z.l201 m2) h2 (by exact Z.l202 h3 m1) (fun i hi=>?_) h5
        by_cases ci:i=m
        · subst ci;exact q
        · cases z:lt (p.getD k 0) (p.getD i 0) with
          | false=>rfl
          | true =>
            have:=O.tr _ _ _ (h.low k hk) (h.low i (by exact Z.l203 h2 hi hk m2)) (h.low m (by exact Z.l199 h2 m2 hk)) z (hup i _ (by exact Z.l82 hi ci) (by exact Z.l204 h2 m2))
            rw [q] at this;cases this
theorem bin_spec (O:Ord n lt):∀ f (p:Array Nat) k,Prm n p→k+f=n→UpTo lt p k→Prm n (evalT lt (kas_bin f p k))∧UpTo lt (evalT lt (kas_bin f p k)) n
  | 0,p,k,h,hk,hup=>by
    have:k=n:=by exact Z.l205 hk
    subst this
    exact ⟨h,hup⟩
  | f+1,p,k,h,hk,hup=>by
    show Prm n (evalT lt ((kas_place p k k 0 k).bind fun l=>kas_bin f (bubble p k (k - l)) (k+1)))∧UpTo lt (evalT lt ((kas_place p k k 0 k).bind fun l=>kas_bin f (bubble p k (k - l)) (k+1))) n
    rw [evalT_bind]
    obtain ⟨l1,l2,l3⟩:=place_spec O h (k:=k) (by exact Z.l206 hk) hup k 0 k (by exact Z.l207) (Nat.le_refl _) (by exact Z.l208) (fun i hi=>by lia) (fun i i1 i2=>by lia)
    generalize evalT lt (kas_place p k k 0 k)=l at *
    have g:∀ i,i < n→(bubble p k (k - l))[i]?=p[if i=l then k else if l < i∧i≤k then i - 1 else i]?:=fun i hi=>by
      rw [getElem?_bubble (by rw [h.sz];exact Z.l206 hk) _ (by exact Z.l209),show k - (k - l)=l by lia]
      split
      · rfl
      · split <;> rfl
    have hq:Prm n (bubble p k (k - l)):=h.move (bubble_perm ..) (by rw [bubble_size,h.sz]) (fun i=>if i=l then k else if l < i∧i≤k then i - 1 else i) (fun i hi=>by (try dsimp only);split <;> (try split) <;> lia) (fun i j hi hj hh=>by
      try dsimp only at hh
      split at hh <;> (try split at hh) <;> (try split at hh) <;> (try split at hh) <;> lia) g
    have gd:∀ i,i < n→(bubble p k (k - l)).getD i 0=p.getD (if i=l then k else if l < i∧i≤k then i - 1 else i) 0:=fun i hi=>by rw [getD_of,getD_of,g i hi]
    refine bin_spec O f _ (k+1) hq (by exact Z.l220 hk) fun i j hij hj=>?_
    rw [gd i (by exact Z.l221 hk hij hj),gd j (by exact Z.l222 hk hj)]
    by_cases c1:j=l
    · rw [if_pos c1,if_neg (by exact Z.l223 c1 hij),if_neg (by exact Z.l224 c1 hij)]
      have hne:p.getD k 0≠p.getD i 0:=fun z=>by have:=h.inj k i (by exact Z.l206 hk) (by exact Z.l225 hk c1 l1 hij) z;exact Z.l226 c1 this l1 hij
      rcases O.tot _ _ (h.low k (by exact Z.l206 hk)) (h.low i (by exact Z.l225 hk c1 l1 hij)) hne with z | z
      · rw [l2 i (by exact Z.l30 c1 hij)] at z;cases z
      · exact z
    · rw [if_neg c1]
      by_cases c2:i=l
      · rw [if_pos c2,if_pos (by exact Z.l227 c2 hj hij)]
        exact l3 (j - 1) (by exact Z.l228 c2 hij) (by exact Z.l229 hj hij)
      · rw [if_neg c2]
        by_cases c3:l < j∧j≤k
        · rw [if_pos c3]
          by_cases c4:l < i∧i≤k
          · rw [if_pos c4];exact hup _ _ (by exact Z.l230 c4 hij) (by exact Z.l231 c3)
          · rw [if_neg c4];exact hup _ _ (by lia) (by exact Z.l231 c3)
        · rw [if_neg c3,if_neg (by exact Z.l233 hij hj c3)]
          exact hup _ _ (by exact Z.l105 hij) (by exact Z.l234 l1 hj c1 c3)
theorem sort_spec (O:Ord n lt) (hn:2≤n):Prm n (evalT lt (kas_sort n))∧UpTo lt (evalT lt (kas_sort n)) n:=by
  obtain ⟨m,q,h1,h2,h3,h4,h5⟩:=count_spec O hn
  unfold kas_sort
  rw [evalT_bind,h1]
  dsimp only
  by_cases c:m < n
  · rw [if_pos c,Nat.max_eq_left h2]
    exact bin_spec O _ _ _ h4 (by exact Z.l235 c) h5
  · rw [if_neg c]
    have:m=n:=by exact Z.l236 h3 c
    subst this
    exact ⟨h4,h5⟩
end
structure Tot {α:Type} (lt:α→α→Bool) (l:List α):Prop where
  tr:∀ a b c,a∈l→b∈l→c∈l→lt a b=true→lt b c=true→lt a c=true
  tot:∀ a b,a∈l→b∈l→a≠b→lt a b=true∨lt b a=true
  asym:∀ a b,a∈l→b∈l→lt a b=true→lt b a=false
theorem sorted_ok {α:Type} (d:α) (lt:α→α→Bool) (l:List α) (nd:l.Nodup) (T:Tot lt l):(pysort d lt l).Perm l∧(pysort d lt l).Pairwise fun a b=>lt a b=true:=by
  unfold pysort sortIx
  have hmap:(List.range l.length).map (fun i=>l.getD i d)=l:=by
    refine List.ext_getElem (by simp) fun i h1 h2=>?_
    simp [List.getD_eq_getElem?_getD,List.getElem?_eq_getElem h2]
  by_cases h:l.length < 2
  · rw [if_pos h,hmap]
    refine ⟨List.Perm.refl _,?_⟩
    cases l with
    | nil=>exact List.Pairwise.nil
    | cons a l=>rw [List.eq_nil_of_length_eq_zero (Nat.lt_one_iff.mp (Nat.lt_of_succ_lt_succ h))];exact List.pairwise_singleton _ _
  rw [if_neg h]
  have gd:∀ i,(hi:i < l.length)→l.getD i d=l[i]:=fun i hi=>by rw [List.getD_eq_getElem?_getD,List.getElem?_eq_getElem hi];rfl
  have O:Ord l.length (ltAt d lt l):=by
    refine ⟨fun a b c ha hb hc=>?_,fun a b ha hb hne=>?_,fun a b ha hb=>?_⟩
    · unfold ltAt;rw [gd a ha,gd b hb,gd c hc]
      exact T.tr _ _ _ (List.getElem_mem _) (List.getElem_mem _) (List.getElem_mem _)
    · unfold ltAt;rw [gd a ha,gd b hb]
      exact T.tot _ _ (List.getElem_mem _) (List.getElem_mem _) fun e=>hne ((List.getElem_inj nd).mp e)
    · unfold ltAt;rw [gd a ha,gd b hb]
      exact T.asym _ _ (List.getElem_mem _) (List.getElem_mem _)
  obtain ⟨hp,hu⟩:=sort_spec O (by exact Z.l237 h)
  generalize evalT (ltAt d lt l) (kas_sort l.length)=q at *
  refine ⟨?_,?_⟩
  · have:=hp.pm.map (fun i=>l.getD i d)
    rw [hmap] at this
    exact this
  · rw [List.pairwise_map,List.pairwise_iff_getElem]
    intro i j hi hj hij
    have hj':j < l.length:=by have:=hp.sz;simp at hj;exact Z.l30 this hj
    have:=hu i j hij hj'
    have e:∀ k,(hk:k < q.toList.length)→q.getD k 0=q.toList[k]:=fun k hk=>by
      rw [getD_of]
      simp at hk
      simp [hk]
    rw [e i hi,e j hj] at this
    exact this
theorem sorted_same {α:Type} (d:α) (lt:α→α→Bool) {l l':List α} (nd:l.Nodup) (nd':l'.Nodup) (T:Tot lt l) (h:∀ a,a∈l↔a∈l'):pysort d lt l=pysort d lt l':=by
  have T':Tot lt l':=⟨fun a b c ha hb hc=>T.tr a b c ((h a).mpr ha) ((h b).mpr hb) ((h c).mpr hc),fun a b ha hb=>T.tot a b ((h a).mpr ha) ((h b).mpr hb),fun a b ha hb=>T.asym a b ((h a).mpr ha) ((h b).mpr hb)⟩
  obtain ⟨p1,s1⟩:=sorted_ok d lt l nd T
  obtain ⟨p2,s2⟩:=sorted_ok d lt l' nd' T'
  have pp:l.Perm l':=(List.perm_ext_iff_of_nodup nd nd').mpr h
  refine List.Perm.eq_of_pairwise (le:=fun a b=>lt a b=true) (fun a b ha hb h1 h2=>?_) s1 s2 ((p1.trans pp).trans p2.symm)
  have:=T.asym a b (p1.mem_iff.mp ha) ((h b).mpr (p2.mem_iff.mp hb)) h1
  rw [h2] at this;cases this
noncomputable def lt3 (x y:Nat × Nat × Nat):Bool:=ltT (x.1,x.2.1,x.2.2) (y.1,y.2.1,y.2.2)
theorem lt_step {a b:Nat} {p:Bool} {as bs:List Nat} (h:p=true↔as < bs):(if (a:Int)=(b:Int) then p else decide ((a:Int) < (b:Int)))=true↔a::as < b::bs:=by
  rw [List.cons_lt_cons_iff]
  by_cases q:a=b
  · subst q
    rw [if_pos rfl,h]
    exact ⟨fun z=>.inr ⟨rfl,z⟩,fun z=>z.elim (fun z=>absurd z (Nat.lt_irrefl _)) And.right⟩
  · rw [if_neg (fun e:(a:Int)=b=>q (Int.ofNat.inj e)),decide_eq_true_iff]
    exact ⟨fun z=>.inl (Int.ofNat_lt.mp z),fun z=>z.elim Int.ofNat_lt.mpr fun z=>absurd z.1 q⟩
theorem lt3_lst (x y:Nat × Nat × Nat):lt3 x y=true↔[x.1,x.2.1,x.2.2] < [y.1,y.2.1,y.2.2] :=
  lt_step (lt_step (lt_step ⟨fun h=>(Bool.false_ne_true h).elim,fun h=>absurd h (List.lt_irrefl _)⟩))
theorem tot3 (l:List (Nat × Nat × Nat)):Tot lt3 l:=by
  refine ⟨fun a b c _ _ _ h1 h2=>(lt3_lst a c).mpr (List.lt_trans ((lt3_lst a b).mp h1) ((lt3_lst b c).mp h2)),fun a b _ _ hne=>?_,fun a b _ _ h=>?_⟩
  · rw [lt3_lst,lt3_lst]
    by_cases h:[a.1,a.2.1,a.2.2] < [b.1,b.2.1,b.2.2]
    · exact .inl h
    · refine .inr (Classical.byContradiction fun h2=>hne ?_)
      have e:=List.le_antisymm (List.not_lt.mp h2) (List.not_lt.mp h)
      injection e with e1 e;injection e with e2 e;injection e with e3
      exact Prod.ext e1 (Prod.ext e2 e3)
  · exact Bool.eq_false_iff.mpr fun q=>List.lt_asymm ((lt3_lst a b).mp h) ((lt3_lst b a).mp q)
end Srt
end Mine
end
section
open PySem PySem.Calls PySem.W PyProof.Rows
namespace Mine
namespace T2
open Ly
noncomputable abbrev at_ (r:List Nat):Nat→Nat:=fun k=>r.getD k 0
theorem at_get {r:List Nat} {k:Nat} (h:k < r.length):r[k]?=some (at_ r k):=getD_at h
noncomputable def addT (s:List Nat) (acc:List (Nat × Nat × Nat)) (x:Nat × Nat × Nat):List (Nat × Nat × Nat):=if isRun s x.2.2 x.1 x.2.1=true then if told acc x.1 x.2.1=[] then acc++[x] else acc else acc
noncomputable def triples (n:Nat):List (Nat × Nat × Nat):=(List.range (n / 2)).flatMap fun i=>(List.range (n - 2*(1+i)+1)).flatMap fun b=>(List.range (n+1 - (b+2*(1+i)))).map fun k=>(b,b+2*(1+i)+k,1+i)
theorem runs0_fold (s:List Nat):runs0 s=(triples s.length).foldl (addT s) []:=by
  unfold triples
  rw [List.foldl_flatMap]
  unfold runs0
  congr 1
  funext acc i
  rw [List.foldl_flatMap]
  unfold runsB
  congr 1
  funext acc b
  rw [List.foldl_map]
  rfl
theorem mem_triples {n:Nat} {x:Nat × Nat × Nat}:x∈triples n↔0 < x.2.2∧x.1+2*x.2.2≤x.2.1∧x.2.1≤n:=by
  obtain ⟨b,e,p⟩:=x
  unfold triples
  simp only [List.mem_flatMap,List.mem_map,List.mem_range,Prod.mk.injEq]
  constructor
  · rintro ⟨i,hi,b',hb,k,hk,rfl,rfl,rfl⟩
    exact Z.l238 hk
  · rintro ⟨h1,h2,h3⟩
    exact ⟨p - 1,by exact Z.l239 h2 h3 h1,b,by exact Z.l240 h2 h3 h1,e - (b+2*p),by lia,rfl,by lia,by exact Z.l243 h1⟩
theorem triples_step (n:Nat):(triples n).Pairwise fun x y=>x.2.2≤y.2.2:=by
  unfold triples
  have st:∀ i,∀ x∈(List.range (n - 2*(1+i)+1)).flatMap (fun b=>(List.range (n+1 - (b+2*(1+i)))).map fun k=>(b,b+2*(1+i)+k,1+i)),x.2.2=1+i:=fun i x hx=>by
    simp only [List.mem_flatMap,List.mem_map] at hx
    obtain ⟨b,_,k,_,rfl⟩:=hx
    rfl
  rw [List.pairwise_flatMap]
  refine ⟨fun i _=>List.Pairwise.imp_of_mem (R:=fun _ _=>True) (fun {x y} hx hy _=>by rw [st i x hx,st i y hy];exact Nat.le_refl _) (List.pairwise_of_forall fun _ _=>trivial),?_⟩
  refine List.Pairwise.imp (R:=fun a b=>a < b) (fun {a b} hab x hx y hy=>by rw [st a x hx,st b y hy];exact Z.l244 hab) List.pairwise_lt_range
theorem told_nil {acc:List (Nat × Nat × Nat)} {b e:Nat}:told acc b e=[]↔∀ x∈acc,¬ (x.1=b∧x.2.1=e):=by
  unfold told
  rw [List.filter_eq_nil_iff]
  refine ⟨fun h x hx q=>h x hx (by simp [q.1,q.2]),fun h x hx q=>h x hx (by simpa using q)⟩
structure Kept (s:List Nat) (T R:List (Nat × Nat × Nat)):Prop where
  sub:∀ x∈R,x∈T∧isRun s x.2.2 x.1 x.2.1=true
  key:∀ x∈T,isRun s x.2.2 x.1 x.2.1=true→∃ y∈R,y.1=x.1∧y.2.1=x.2.1
  first:∀ x∈R,∀ y∈T,isRun s y.2.2 y.1 y.2.1=true→y.1=x.1→y.2.1=x.2.1→x.2.2≤y.2.2
  nd:R.Nodup
theorem kept_fold (s:List Nat):∀ (T T0 R:List (Nat × Nat × Nat)),(T0++T).Pairwise (fun x y=>x.2.2≤y.2.2)→Kept s T0 R→Kept s (T0++T) (T.foldl (addT s) R)
  | [],T0,R,_,h=>by simpa using h
  | z::T,T0,R,hp,h=>by
    have hp':((T0++[z])++T).Pairwise fun x y=>x.2.2≤y.2.2:=by simpa using hp
    have hz:∀ x∈T0,x.2.2≤z.2.2:=fun x hx=>(List.pairwise_append.mp hp).2.2 x hx z (.head _)
    have step:Kept s (T0++[z]) (addT s R z):=by
      unfold addT
      by_cases c1:isRun s z.2.2 z.1 z.2.1=true
      · rw [if_pos c1]
        by_cases c2:told R z.1 z.2.1=[]
        · rw [if_pos c2]
          have c2:=told_nil.mp c2
          refine ⟨fun x hx=>?_,fun x hx hr=>?_,fun x hx y hy hr h1 h2=>?_,?_⟩
          · rcases List.mem_append.mp hx with q | q
            · exact ⟨List.mem_append_left _ (h.sub x q).1,(h.sub x q).2⟩
            · rw [List.mem_singleton.mp q];exact ⟨by simp,c1⟩
          · rcases List.mem_append.mp hx with q | q
            · obtain ⟨y,hy,e⟩:=h.key x q hr
              exact ⟨y,List.mem_append_left _ hy,e⟩
            · rw [List.mem_singleton.mp q];exact ⟨z,by simp,rfl,rfl⟩
          · rcases List.mem_append.mp hx with q | q
            · rcases List.mem_append.mp hy with q' | q'
              · exact h.first x q y q' hr h1 h2
              · rw [List.mem_singleton.mp q'];exact hz x (h.sub x q).1
            · rw [List.mem_singleton.mp q] at h1 h2 ⊢
              rcases List.mem_append.mp hy with q' | q'
              · obtain ⟨w,hw,e1,e2⟩:=h.key y q' hr
                exact absurd ⟨e1.trans h1,e2.trans h2⟩ (c2 w hw)
              · rw [List.mem_singleton.mp q'];exact Nat.le_refl _
          · rw [List.nodup_append]
            refine ⟨h.nd,by simp,fun a ha b hb e=>?_⟩
            rw [List.mem_singleton.mp hb] at e
            subst e
            exact c2 a ha ⟨rfl,rfl⟩
        · rw [if_neg c2]
          have ⟨w,hw,hwk⟩:∃ w∈R,w.1=z.1∧w.2.1=z.2.1:=by
            apply Classical.byContradiction
            intro hn
            exact c2 (told_nil.mpr fun x hx q=>hn ⟨x,hx,q⟩)
          refine ⟨fun x hx=>⟨List.mem_append_left _ (h.sub x hx).1,(h.sub x hx).2⟩,fun x hx hr=>?_,fun x hx y hy hr h1 h2=>?_,h.nd⟩
          · rcases List.mem_append.mp hx with q | q
            · exact h.key x q hr
            · rw [List.mem_singleton.mp q];exact ⟨w,hw,hwk⟩
          · rcases List.mem_append.mp hy with q' | q'
            · exact h.first x hx y q' hr h1 h2
            · rw [List.mem_singleton.mp q'];exact hz x (h.sub x hx).1
      · rw [if_neg c1]
        refine ⟨fun x hx=>⟨List.mem_append_left _ (h.sub x hx).1,(h.sub x hx).2⟩,fun x hx hr=>?_,fun x hx y hy hr h1 h2=>?_,h.nd⟩
        · rcases List.mem_append.mp hx with q | q
          · exact h.key x q hr
          · rw [List.mem_singleton.mp q] at hr;exact absurd hr c1
        · rcases List.mem_append.mp hy with q' | q'
          · exact h.first x hx y q' hr h1 h2
          · rw [List.mem_singleton.mp q'] at hr;exact absurd hr c1
    have:=kept_fold s T (T0++[z]) (addT s R z) hp' step
    simpa using this
theorem kept (s:List Nat):Kept s (triples s.length) (runs0 s):=by
  rw [runs0_fold]
  have:=kept_fold s (triples s.length) [] [] (by simpa using triples_step s.length) ⟨(fun _ h=>nomatch h),(fun _ h=>nomatch h),(fun _ h=>nomatch h),List.nodup_nil⟩
  simpa using this
theorem isRun_iff {s:List Nat} {b e p:Nat} (h0:0 < p) (h1:b+2*p≤e) (h2:e≤s.length):isRun s p b e=true↔Run (at_ s) s.length b e p:=by
  have hcut:cut s (some (b:Int)) (some ((e - p:Nat):Int))=cut s (some ((b+p:Nat):Int)) (some (e:Int))↔∀ k,b≤k→k+p < e→at_ s k=at_ s (k+p):=by
    rw [cut_nn,cut_nn,Nat.min_eq_left (by exact Z.l245 h2),Nat.min_eq_left (by exact Z.l246 h1 h2),Nat.min_eq_left (by exact Z.l196 h2),Nat.min_eq_left (by exact Z.l247 h1 h2)]
    constructor
    · intro h k hk hke
      have:=congrArg (·[k - b]?) h
      simp only [List.getElem?_take,List.getElem?_drop] at this
      rw [if_pos (by lia),if_pos (by exact Z.l249 hk hke),show b+(k - b)=k by exact Z.l96 hk,show b+p+(k - b)=k+p by exact Z.l250 hk,at_get (by exact Z.l251 h2 hke),at_get (by exact Z.l252 h2 hke)] at this
      exact Option.some.inj this
    · intro h
      refine List.ext_getElem? fun i=>?_
      simp only [List.getElem?_take,List.getElem?_drop]
      by_cases c:i < e - p - b
      · rw [if_pos c,if_pos (by lia),at_get (by lia),at_get (by exact Z.l255 h2 c),h (b+i) (by exact Z.l36) (by exact Z.l256 c)]
        congr 2;exact Z.l38
      · rw [if_neg c,if_neg (by lia)]
  have ha:ahead s p b=false↔(b=0∨at_ s (b - 1)≠at_ s (b - 1+p)):=by
    unfold ahead
    simp only [Bool.and_eq_false_iff,decide_eq_false_iff_not]
    constructor
    · rintro (q | q)
      · left;exact Z.l258 q
      · right;exact q
    · rintro (q | q)
      · left;exact Z.l259 q
      · right;exact q
  have hb:behind s p e=false↔(e=s.length∨at_ s e≠at_ s (e - p)):=by
    unfold behind
    simp only [Bool.and_eq_false_iff,decide_eq_false_iff_not]
    constructor
    · rintro (q | q)
      · left;exact Z.l236 h2 q
      · right;exact q
    · rintro (q | q)
      · left;exact Z.l260 q
      · right;exact q
  unfold isRun
  simp only [Bool.and_eq_true,decide_eq_true_eq,Bool.not_eq_true',Bool.and_true]
  rw [hcut,ha,hb]
  exact ⟨fun ⟨a,b,c⟩=>⟨h0,h1,h2,a,b,c⟩,fun r=>⟨r.per,r.left,r.right⟩⟩
noncomputable def Least (s:List Nat) (x:Nat × Nat × Nat):Prop:=Run (at_ s) s.length x.1 x.2.1 x.2.2∧∀ g,g < x.2.2→¬ Run (at_ s) s.length x.1 x.2.1 g
theorem mem_runs0 {s:List Nat} {x:Nat × Nat × Nat}:x∈runs0 s↔Least s x:=by
  have K:=kept s
  constructor
  · intro h
    obtain ⟨h1,h2⟩:=K.sub x h
    obtain ⟨t1,t2,t3⟩:=mem_triples.mp h1
    refine ⟨(isRun_iff t1 t2 t3).mp h2,fun g hg hr=>?_⟩
    have hm:(x.1,x.2.1,g)∈triples s.length:=mem_triples.mpr ⟨hr.pos,hr.two,hr.fit⟩
    have:=K.first x h _ hm ((isRun_iff hr.pos hr.two hr.fit).mpr hr) rfl rfl
    dsimp only at this
    exact Z.l64 this hg
  · rintro ⟨hr,hl⟩
    have hm:x∈triples s.length:=mem_triples.mpr ⟨hr.pos,hr.two,hr.fit⟩
    obtain ⟨y,hy,e1,e2⟩:=K.key x hm ((isRun_iff hr.pos hr.two hr.fit).mpr hr)
    have h1:=K.first y hy x hm ((isRun_iff hr.pos hr.two hr.fit).mpr hr) e1.symm e2.symm
    obtain ⟨hy1,hy2⟩:=K.sub y hy
    obtain ⟨t1,t2,t3⟩:=mem_triples.mp hy1
    have hyr:=(isRun_iff t1 t2 t3).mp hy2
    have:y.2.2=x.2.2:=by
      by_cases c:y.2.2 < x.2.2
      · exact absurd (e1 ▸ e2 ▸ hyr) (hl _ c)
      · exact Z.l236 h1 c
    have:y=x:=by
      obtain ⟨a,b,c⟩:=x
      obtain ⟨a',b',c'⟩:=y
      dsimp only at e1 e2 this
      rw [e1,e2,this]
    rw [← this];exact hy
end T2
end Mine
end
section
open PySem PySem.Calls PySem.W PyProof.Rows
namespace Mine
namespace T2
open Ly
theorem lt_word {r:List Nat} {i p j q:Nat} (hi:i+p≤r.length) (hj:j+q≤r.length):(r.drop i).take p < (r.drop j).take q↔LtW (at_ r) i p j q:=by
  have l1:((r.drop i).take p).length=p:=by simp;exact Z.l261 hi
  have l2:((r.drop j).take q).length=q:=by simp;exact Z.l261 hj
  have g1:∀ a,(h:a < ((r.drop i).take p).length)→((r.drop i).take p)[a]=at_ r (i+a):=fun a h=>by
    have:=at_get (r:=r) (k:=i+a) (by exact Z.l262 l1 hi h)
    rw [List.getElem_take,List.getElem_drop]
    exact Option.some.inj ((List.getElem?_eq_getElem _).symm.trans this)
  have g2:∀ a,(h:a < ((r.drop j).take q).length)→((r.drop j).take q)[a]=at_ r (j+a):=fun a h=>by
    have:=at_get (r:=r) (k:=j+a) (by exact Z.l262 l2 hj h)
    rw [List.getElem_take,List.getElem_drop]
    exact Option.some.inj ((List.getElem?_eq_getElem _).symm.trans this)
  rw [List.lt_iff_exists]
  generalize (r.drop i).take p=A at *
  generalize (r.drop j).take q=B at *
  constructor
  · rintro (⟨h1,h2⟩ | ⟨m,h1,h2,h3,h4⟩)
    · right
      refine ⟨by exact Z.l263 l1 l2 h2,fun a ha=>?_⟩
      rw [← g1 a (by exact Z.l264 l1 ha),← g2 a (by exact Z.l265 l1 ha h2)]
      have:A[a]?=(B.take A.length)[a]?:=congrArg (·[a]?) h1
      rw [List.getElem?_take,if_pos (by exact Z.l264 l1 ha),List.getElem?_eq_getElem (by exact Z.l264 l1 ha),List.getElem?_eq_getElem (by exact Z.l265 l1 ha h2)] at this
      exact Option.some.inj this
    · left
      refine ⟨m,by exact Z.l30 l1 h1,by exact Z.l30 l2 h2,fun a ha=>?_,?_⟩
      · rw [← g1 a (by exact Z.l12 ha h1),← g2 a (by exact Z.l12 ha h2)];exact h3 a ha
      · rw [← g1 m h1,← g2 m h2];exact h4
  · rintro (⟨m,h1,h2,h3,h4⟩ | ⟨h1,h2⟩)
    · right
      refine ⟨m,by exact Z.l264 l1 h1,by exact Z.l264 l2 h2,fun a ha=>?_,?_⟩
      · rw [g1,g2];exact h3 a ha
      · rw [g1,g2];exact h4
    · left
      refine ⟨?_,by exact Z.l266 l1 l2 h1⟩
      refine List.ext_getElem (by rw [List.length_take];exact Z.l267 l1 l2 h1) fun a ha hb=>?_
      rw [List.getElem_take,g1,g2]
      exact h2 a (by exact Z.l30 l1 ha)
theorem less_lt (way:Nat) (a b:List Nat):less way a b=decide (a < b):=by
  unfold less
  by_cases h:way=0
  · rw [if_pos h]
    unfold coll sub1
    by_cases c:a < b
    · have:¬ b < a:=fun h=>List.lt_irrefl a (List.lt_trans c h)
      simp [c,this]
    · by_cases c2:b < a <;> simp [c,c2]
  · rw [if_neg h]
inductive Pile (r:List Nat):Nat→List Pc→Prop
  | nil {i:Nat}:i=r.length→Pile r i []
  | cons {i:Nat} {e:Pc} {es:List Pc}:Good (at_ r) r.length i (txt e).length→txt e=(r.drop i).take (txt e).length→Pile r (i+(txt e).length) es→Pile r i (e::es)
theorem climb_spec (way : Nat) (r : List Nat) : ∀ (n : Nat) (xs : List Pc) (root : List Nat) (i : Nat), xs.length ≤ n → LynAt (at_ r) i root.length → root = (r.drop i).take root.length → Pile r (i + root.length) xs.reverse →
    Good (at_ r) r.length i (climb way n xs root).2.length∧(climb way n xs root).2=(r.drop i).take (climb way n xs root).2.length∧Pile r (i+(climb way n xs root).2.length) (climb way n xs root).1.reverse
  | 0,xs,root,i,hn,hl,hr,hp=>by
    have:xs=[]:=List.eq_nil_of_length_eq_zero (by exact Z.l87 hn)
    subst this
    cases hp with
    | nil h=>exact ⟨.last hl h,hr,.nil h⟩
  | n+1,xs,root,i,hn,hl,hr,hp=>by
    unfold climb
    rcases split_last xs with rfl | ⟨ys,e,rfl⟩
    · cases hp with
      | nil h =>
        rw [if_pos (by rfl)]
        exact ⟨.last hl h,hr,.nil h⟩
    · have ht:top (ys++[e])=e:=by simp [top]
      have hd:(ys++[e]).dropLast=ys:=by simp
      rw [ht,hd]
      have hp0:=hp
      rw [List.reverse_append,List.reverse_singleton,List.singleton_append] at hp
      cases hp with
      | cons g te pe =>
        have hq:=g.lyn.1
        have hfit:=g.fit
        rw [if_neg (fun h=>by unfold txt at hq;rw [h] at hq;simp at hq)]
        have hlt:less way root (e.1++e.2)=true↔LtW (at_ r) i root.length (i+root.length) (txt e).length:=by
          rw [less_lt,decide_eq_true_iff]
          have:=lt_word (r:=r) (i:=i) (p:=root.length) (j:=i+root.length) (q:=(txt e).length) (by exact Z.l16 hfit) hfit
          rw [← this,← hr,← te];rfl
        by_cases hc:less way root (e.1++e.2)=true
        · rw [if_pos hc]
          have hj:=hl.join g.lyn (hlt.mp hc)
          have hlen:(root++(e.1++e.2)).length=root.length+(txt e).length:=by rw [List.length_append];rfl
          refine climb_spec way r n ys (root++(e.1++e.2)) i (by simp at hn;exact Z.l196 hn) (by rw [hlen];exact hj) ?_ (by rw [hlen,← Nat.add_assoc];exact pe)
          rw [hlen]
          show root++txt e=_
          rw [List.take_add,← hr,List.drop_drop]
          exact congrArg (root++·) te
        · rw [if_neg hc]
          exact ⟨.ends hl g (fun h=>hc (hlt.mpr h)),hr,hp0⟩
structure Bld (r:List Nat) (k:Nat) (st:List Pc × List Nat):Prop where
  pile:Pile r (r.length - k) st.1.reverse
  len:st.2.length=k
  few:st.1.length≤k
  good:∀ j,j < k→Good (at_ r) r.length (r.length - 1 - j) (st.2.getD j 0)
theorem Bld.step {way:Nat} {r:List Nat} {k:Nat} {st:List Pc × List Nat} (h:Bld r k st) (hk:k < r.length):Bld r (k+1) (rootStep way st (at_ r (r.length - 1 - k))):=by
  have hg:=at_get (r:=r) (k:=r.length - 1 - k) (by exact Z.l268 hk)
  have c1:[at_ r (r.length - 1 - k)]=(r.drop (r.length - 1 - k)).take 1:=by
    rw [List.take_one,List.head?_drop,hg];rfl
  have hp:=h.pile
  rw [show r.length - k=r.length - 1 - k+[at_ r (r.length - 1 - k)].length by simp;lia] at hp
  obtain ⟨s1,s2,s3⟩:=climb_spec way r st.2.length st.1 [at_ r (r.length - 1 - k)] (r.length - 1 - k) (by have:=h.few;have:=h.len;exact Z.l270 this (by assumption)) (.one ..) c1 hp
  have ck:=climb_ok way st.2.length st.1 [at_ r (r.length - 1 - k)]
  have tx:txt ((climb way st.2.length st.1 [at_ r (r.length - 1 - k)]).2.take 1,(climb way st.2.length st.1 [at_ r (r.length - 1 - k)]).2.drop 1)=(climb way st.2.length st.1 [at_ r (r.length - 1 - k)]).2:=List.take_append_drop 1 _
  unfold rootStep
  generalize climb way st.2.length st.1 [at_ r (r.length - 1 - k)]=q at *
  refine ⟨?_,?_,?_,fun j hj=>?_⟩
  · show Pile r _ (q.1++[(q.2.take 1,q.2.drop 1)]).reverse
    rw [List.reverse_append,List.reverse_singleton,List.singleton_append,show r.length - (k+1)=r.length - 1 - k by lia]
    exact .cons (by rw [tx];exact s1) (by rw [tx];exact s2) (by rw [tx];exact s3)
  · show (st.2++[q.2.length]).length=_
    rw [List.length_append,h.len];rfl
  · show (q.1++[(q.2.take 1,q.2.drop 1)]).length≤_
    rw [List.length_append]
    have:=h.few
    simp;exact Z.l272 ck this
  · show Good _ _ _ ((st.2++[q.2.length]).getD j 0)
    rw [List.getD_eq_getElem?_getD]
    by_cases c:j < k
    · rw [List.getElem?_append_left (by rw [h.len];exact c),← List.getD_eq_getElem?_getD]
      exact h.good j c
    · have:j=k:=by exact Z.l273 hj c
      subst this
      rw [List.getElem?_append_right (by rw [h.len];exact Nat.le_refl _),h.len]
      simpa using s1
theorem bld (way:Nat) (r:List Nat):∀ k,k≤r.length→Bld r k ((r.reverse.take k).foldl (rootStep way) ([],[]))
  | 0,_=>⟨.nil rfl,rfl,Nat.le_refl _,fun j hj=>by lia⟩
  | k+1,hk=>by
    have ih:=bld way r k (by exact Z.l158 hk)
    have e:r.reverse[k]?=some (at_ r (r.length - 1 - k)):=by
      rw [List.getElem?_reverse (by exact Z.l274 hk)]
      exact at_get (by exact Z.l275 hk)
    rw [List.take_add_one,e,List.foldl_append]
    exact ih.step (by exact Z.l274 hk)
theorem row_len' (way:Nat) (sg:List Nat):(row way sg).length=sg.length:=by unfold row;split <;> simp
theorem sz_len (way:Nat) (sg:List Nat):(sz way sg).length=sg.length:=by
  have h:=bld way (row way sg) (row way sg).length (Nat.le_refl _)
  rw [show (row way sg).reverse.take (row way sg).length=(row way sg).reverse from List.take_of_length_le (by simp)] at h
  unfold sz build
  rw [List.length_reverse,h.len,row_len']
theorem sz_good (way:Nat) (sg:List Nat) (i:Nat) (hi:i < sg.length):Good (at_ (row way sg)) sg.length i ((sz way sg).getD i 0):=by
  have h:=bld way (row way sg) (row way sg).length (Nat.le_refl _)
  rw [show (row way sg).reverse.take (row way sg).length=(row way sg).reverse from List.take_of_length_le (by simp)] at h
  have hl:=row_len' way sg
  have g:=h.good (sg.length - 1 - i) (by exact Z.l276 hl hi)
  have hlen:=h.len
  rw [hl] at g hlen
  unfold sz build
  rw [List.getD_eq_getElem?_getD,List.getElem?_reverse (by exact Z.l264 hlen hi),← List.getD_eq_getElem?_getD,hlen]
  rwa [show sg.length - 1 - (sg.length - 1 - i)=i by lia] at g
theorem lt_tail {x:Nat} {xs ys:List Nat}:x::ys < x::xs↔ys < xs:=⟨fun q=>(List.cons_lt_cons_iff.mp q).elim (fun z=>absurd z (Nat.lt_irrefl _)) And.right,fun q=>List.cons_lt_cons_iff.mpr (.inr ⟨rfl,q⟩)⟩
theorem ordI_gt (xs:List Nat):∀ ys:List Nat,ordN .Gt xs ys=decide (ys < xs):=by
  induction xs with
  | nil =>
    intro ys
    show decide (0 > (ys.map fun k:Nat=>(k:Int)).length)=_
    exact decide_eq_decide.mpr ⟨fun h=>absurd h (Nat.not_lt_zero _),fun h=>absurd h (List.not_lt_nil _)⟩
  | cons x xs ih =>
    intro ys
    cases ys with
    | nil =>
      show decide ((xs.map fun k:Nat=>(k:Int)).length+1 > 0)=_
      exact decide_eq_decide.mpr ⟨fun _=>List.nil_lt_cons _ _,fun _=>Nat.succ_pos _⟩
    | cons y ys =>
      by_cases h:x=y
      · subst h
        exact (ordI_same rfl).trans ((ih ys).trans (decide_eq_decide.mpr lt_tail.symm))
      · exact (ordI_diff fun e=>h (Int.ofNat.inj e)).trans (decide_eq_decide.mpr ⟨fun q=>List.cons_lt_cons_iff.mpr (.inl (Int.ofNat_lt.mp q)),fun q=>(List.cons_lt_cons_iff.mp q).elim Int.ofNat_lt.mpr fun z=>absurd z.1.symm h⟩)
theorem ordI_le (xs:List Nat):∀ ys:List Nat,ordN .LtE xs ys=!decide (ys < xs):=by
  induction xs with
  | nil =>
    intro ys
    show decide (0≤(ys.map fun k:Nat=>(k:Int)).length)=_
    exact (decide_eq_decide.mpr ⟨fun _=>List.not_lt_nil _,fun _=>Nat.zero_le _⟩).trans decide_not
  | cons x xs ih =>
    intro ys
    cases ys with
    | nil =>
      show decide ((xs.map fun k:Nat=>(k:Int)).length+1≤0)=_
      exact (decide_eq_decide.mpr ⟨fun h=>absurd h (Nat.not_succ_le_zero _),fun h=>absurd (List.nil_lt_cons _ _) h⟩).trans decide_not
    | cons y ys =>
      by_cases h:x=y
      · subst h
        exact (ordI_same rfl).trans ((ih ys).trans (congrArg not (decide_eq_decide.mpr lt_tail.symm)))
      · exact (ordI_diff fun e=>h (Int.ofNat.inj e)).trans ((decide_eq_decide.mpr ⟨fun q z=>(List.cons_lt_cons_iff.mp z).elim (fun w=>Nat.lt_asymm w (Int.ofNat_lt.mp q)) fun w=>h w.1.symm,fun z=>Int.ofNat_lt.mpr (Nat.lt_of_le_of_ne (Nat.not_lt.mp fun w=>z (List.cons_lt_cons_iff.mpr (.inl w))) h)⟩).trans decide_not)
theorem late_nil {r:List Nat} {i L:Nat} (hL:0 < L) (hi:i+L≤r.length):late (cut r (some (i:Int)) (some ((i+L:Nat):Int)))=[]↔LynAt (at_ r) i L:=by
  have hc:cut r (some (i:Int)) (some ((i+L:Nat):Int))=(r.drop i).take L:=by
    rw [cut_nn,Nat.min_eq_left (by exact Z.l278 hi),Nat.min_eq_left (by exact Z.l279 hi)]
    congr 1;exact Z.l280
  have hlen:((r.drop i).take L).length=L:=by simp;exact Z.l261 hi
  rw [hc]
  unfold late
  rw [List.map_eq_nil_iff,List.filter_eq_nil_iff,hlen]
  have key:∀ k,0 < k→k < L→(ordN .LtE (cut ((r.drop i).take L) (some (k:Int)) none) ((r.drop i).take L)=false↔LtW (at_ r) i L (i+k) (L - k)):=fun k h0 hk=>by
    rw [ordI_le,cut_from,List.drop_take,List.drop_drop,← lt_word (by exact Z.l278 hi) (by exact Z.l281 hi hk)]
    simp
  constructor
  · intro h
    refine ⟨hL,fun k h0 hk=>?_⟩
    have h1:=h (k - 1) (by rw [List.mem_range];exact Z.l282 h0 hk)
    rw [show 1+(k - 1)=k by exact Z.l243 h0] at h1
    have h2:ordN .LtE (cut ((r.drop i).take L) (some (k:Int)) none) ((r.drop i).take L)=false:=by
      cases q:ordN .LtE (cut ((r.drop i).take L) (some (k:Int)) none) ((r.drop i).take L) with
      | false=>rfl
      | true=>exact absurd q h1
    rcases (key k h0 hk).mp h2 with ⟨m,a1,a2,a3,a4⟩ | ⟨a1,_⟩
    · exact ⟨m,a2,a3,a4⟩
    · lia
  · intro h k hk
    have hk:=List.mem_range.mp hk
    obtain ⟨m,a1,a2,a3⟩:=h.2 (1+k) (by exact Z.l283) (by exact Z.l284 hk)
    have:=(key (1+k) (by exact Z.l283) (by exact Z.l285 a1)).mpr (.inl ⟨m,by exact Z.l286 a1,a1,a2,a3⟩)
    rw [this];decide
theorem longest_is {r:List Nat} {i p:Nat} (h:Good (at_ r) r.length i p):longest r i=p:=by
  have key:∀ M,i+1+M≤r.length→LynAt (at_ r) i ((List.range M).foldl (longStep r i) 1)∧(List.range M).foldl (longStep r i) 1≤1+M∧∀ L,L≤1+M→LynAt (at_ r) i L→L≤(List.range M).foldl (longStep r i) 1:=by
    intro M
    induction M with
    | zero=>intro _;exact ⟨.one ..,by simp,fun L hL _=>by simpa using hL⟩
    | succ M ih =>
      intro hM
      obtain ⟨k1,k2,k3⟩:=ih (by exact Z.l287 hM)
      rw [foldl_step]
      generalize (List.range M).foldl (longStep r i) 1=best at *
      unfold longStep
      have hl:=late_nil (r:=r) (i:=i) (L:=2+M) (by exact Z.l288) (by exact Z.l289 hM)
      rw [show i+(2+M)=i+2+M by exact Z.l290] at hl
      by_cases c:late (cut r (some (i:Int)) (some ((i+2+M:Nat):Int)))=[]
      · rw [if_pos c]
        exact ⟨hl.mp c,by exact Z.l291,fun L hL _=>by exact Z.l292 hL⟩
      · rw [if_neg c]
        refine ⟨k1,by exact Z.l293 k2,fun L hL hLy=>?_⟩
        by_cases e:L=2+M
        · subst e;exact absurd (hl.mpr hLy) c
        · exact k3 L (by exact Z.l294 hL e) hLy
  have hp:=h.lyn.1
  have hf:=h.fit
  unfold longest
  obtain ⟨k1,k2,k3⟩:=key (r.length+1 - (i+2)) (by exact Z.l295 hf hp)
  exact Nat.le_antisymm (h.max k1 (by exact Z.l296 hf k2 hp)) (k3 p (by exact Z.l297 hf) h.lyn)
end T2
end Mine
end
section
open PySem PySem.Calls PySem.W PyProof.Rows
namespace Mine
namespace T2
open Ly
theorem whole_cons (a:List Nat) (A:List (List Nat)):whole (a::A)=47::(a++whole A):=by simp [whole,slash]
theorem whole_app (A B:List (List Nat)):whole (A++B)=whole A++whole B:=by simp [whole]
theorem whole_head (A:List (List Nat)):whole A=[]∨∃ y,whole A=47::y:=by
  cases A with
  | nil=>exact .inl rfl
  | cons a A=>exact .inr ⟨_,whole_cons a A⟩
theorem split_slash:∀ (a b x y:List Nat),47∉a→47∉b→(y=[]∨∃ z,y=47::z)→(a++47::x) <+: (b++y)→a=b∧(47::x) <+: y
  | [],[],x,y,_,_,_,h=>⟨rfl,h⟩
  | [],c::b,x,y,_,hb,_,h=>by
    rw [List.nil_append,List.cons_append,List.cons_prefix_cons] at h
    exact absurd (h.1 ▸ List.mem_cons_self) hb
  | c::a,[],x,y,ha,_,hy,h=>by
    rcases hy with rfl | ⟨z,rfl⟩
    · simp at h
    · rw [List.nil_append,List.cons_append,List.cons_prefix_cons] at h
      exact absurd (h.1 ▸ List.mem_cons_self) ha
  | c::a,d::b,x,y,ha,hb,hy,h=>by
    rw [List.cons_append,List.cons_append,List.cons_prefix_cons] at h
    obtain ⟨e1,e2⟩:=split_slash a b x y (fun q=>ha (.tail _ q)) (fun q=>hb (.tail _ q)) hy h.2
    exact ⟨by rw [h.1,e1],e2⟩
theorem prefix_words:∀ (A B:List (List Nat)),(∀ a∈A,47∉a)→(∀ b∈B,47∉b)→((whole A++[47]) <+: whole B↔A.length < B.length∧A=B.take A.length)
  | [],B,_,_=>by
    cases B with
    | nil=>simp [whole]
    | cons b B=>rw [whole_cons];simp [whole]
  | a::A,[],_,_=>by rw [whole_cons];simp [whole]
  | a::A,b::B,ha,hb=>by
    have ih:=prefix_words A B (fun x hx=>ha x (.tail _ hx)) (fun x hx=>hb x (.tail _ hx))
    rw [whole_cons,whole_cons,List.cons_append,List.append_assoc,List.cons_prefix_cons]
    obtain ⟨x,hx⟩:∃ x,whole A++[47]=47::x:=by
      rcases whole_head A with h | ⟨y,h⟩
      · exact ⟨[],by rw [h];rfl⟩
      · exact ⟨y++[47],by rw [h];rfl⟩
    constructor
    · rintro ⟨_,h⟩
      rw [hx] at h ih
      obtain ⟨e1,e2⟩:=split_slash a b x (whole B) (ha a (.head _)) (hb b (.head _)) (whole_head B) h
      obtain ⟨e3,e4⟩:=ih.mp e2
      refine ⟨by simp;exact Z.l105 e3,?_⟩
      rw [List.length_cons,List.take_succ_cons,e1,← e4]
    · rintro ⟨h1,h2⟩
      rw [List.length_cons,List.take_succ_cons] at h2
      injection h2 with e1 e2
      refine ⟨rfl,?_⟩
      rw [e1]
      exact (List.prefix_append_right_inj b).mpr (ih.mpr ⟨by simp at h1;exact Z.l105 h1,e2⟩)
theorem count_whole:∀ (A:List (List Nat)),(∀ a∈A,47∉a)→(whole A).count 47=A.length
  | [],_=>rfl
  | a::A,h=>by
    rw [whole_cons,List.count_cons,List.count_append,List.count_eq_zero.mpr (h a (.head _)),count_whole A fun x hx=>h x (.tail _ hx)]
    simp
theorem slashed_last (p:List Nat) (c:Nat):slashed (p++[c])=if c=47 then p++[c] else p++[c]++[47]:=by
  have e:cut (p++[c]) (some (-1)) none=[c]:=by
    have h1:clipN (p++[c]).length (-1)=p.length:=by unfold clipN;rw [if_pos (by decide)];simp;lia
    unfold cut
    simp only [Option.elim_some,Option.elim_none,h1]
    rw [List.drop_left' rfl];simp
  unfold slashed
  rw [e]
  by_cases h:c=47
  · rw [if_pos h,if_neg (by rw [h];decide)]
  · rw [if_neg h,if_pos (by intro q;exact h (by injection q))]
theorem slashed_whole {A:List (List Nat)} {v:List Nat} (h0:v≠[]) (h:47∉v):slashed (whole (A++[v]))=whole (A++[v])++[47]:=by
  obtain ⟨u,c,rfl⟩:∃ u c,v=u++[c]:=by
    rcases List.eq_nil_or_concat v with q | ⟨u,c,q⟩
    · exact absurd q h0
    · exact ⟨u,c,by rw [q];simp⟩
  have e:whole (A++[u++[c]])=(whole A++47::u)++[c]:=by rw [whole_app,whole_cons];simp [whole]
  rw [e,slashed_last,if_neg (fun q=>h (by rw [q];simp))]
theorem covers {A B:List (List Nat)} {v:List Nat} (h0:v≠[]) (hA:∀ a∈A++[v],47∉a) (hB:∀ b∈B,47∉b) (hl:(A++[v]).length < B.length):suburi ([104],whole (A++[v])) ([104],whole B)=true↔A++[v]=B.take (A++[v]).length:=by
  unfold suburi
  rw [if_neg,if_neg (by simp),slashed_whole h0 (hA v (by simp)),List.isPrefixOf_iff_prefix,prefix_words _ _ hA hB]
  · exact ⟨fun h=>h.2,fun h=>⟨hl,h⟩⟩
  · intro h
    have h2:whole (A++[v])=whole B:=(Prod.mk.inj h).2
    have:=congrArg (List.count 47) h2
    rw [count_whole _ hA,count_whole _ hB] at this
    exact Z.l39 this hl
theorem go_spec {B : List (List Nat)} (hB : ∀ b ∈ B, 47 ∉ b) : ∀ (r A : List (List Nat)), (∀ a ∈ A ++ r, 47 ∉ a ∧ a ≠ []) → (A ++ r).length < B.length → A = B.take A.length →
    go (whole B) (whole A) r≤r.length∧A++r.take (go (whole B) (whole A) r)=B.take (A.length+go (whole B) (whole A) r)∧(go (whole B) (whole A) r=r.length∨A++r.take (go (whole B) (whole A) r+1)≠B.take (A.length+go (whole B) (whole A) r+1))
  | [],A,_,_,h=>⟨Nat.le_refl _,by simpa [go] using h,.inl rfl⟩
  | v::r,A,hA,hl,h=>by
    have hAv:∀ a∈(A++[v])++r,47∉a∧a≠[]:=by simpa using hA
    have hv:=hA v (by simp)
    have hc:=covers (A:=A) (B:=B) (v:=v) hv.2 (fun a ha=>(hAv a (List.mem_append_left _ ha)).1) hB (by simp at hl ⊢;exact Z.l299 hl)
    have hw:whole A++[47]++v=whole (A++[v]):=by rw [whole_app,whole_cons];simp [whole]
    unfold go
    rw [hw]
    by_cases c:suburi ([104],whole (A++[v])) ([104],whole B)=true
    · rw [if_pos c]
      obtain ⟨a1,a2,a3⟩:=go_spec hB r (A++[v]) hAv (by simpa using hl) (hc.mp c)
      generalize go (whole B) (whole (A++[v])) r=m at *
      have e1:∀ k,A++(v::r).take (1+k)=(A++[v])++r.take k:=fun k=>by rw [Nat.add_comm 1 k,List.take_succ_cons];simp
      have e2:∀ k,A.length+(1+k)=(A++[v]).length+k:=fun k=>by simp;exact Z.l300
      refine ⟨by simp;exact Z.l301 a1,by rw [e1,e2];exact a2,?_⟩
      rcases a3 with a3 | a3
      · left;simp;exact Z.l302 a3
      · right
        rw [show 1+m+1=1+(m+1) by exact Z.l303,show A.length+(1+m)+1=A.length+(1+(m+1)) by exact Z.l304,e1,e2]
        exact a3
    · rw [if_neg c]
      refine ⟨Nat.zero_le _,by simpa using h,.inr ?_⟩
      have:=fun q=>c (hc.mpr q)
      simpa using this
theorem reach_words {ws : List (List Nat)} {st p : Nat} (hw : ∀ a ∈ ws, 47 ∉ a ∧ a ≠ []) (hp : 1 ≤ p) (hs : st + p ≤ ws.length) :
    st+p+reach ws st p≤ws.length∧(∀ a,a < reach ws st p→ws[st+a]?=ws[st+p+a]?)∧(st+p+reach ws st p=ws.length∨ws[st+reach ws st p]?≠ws[st+p+reach ws st p]?):=by
  unfold reach
  rw [cut_from]
  obtain ⟨a1,a2,a3⟩:=go_spec (B:=ws.drop st) (fun b hb=>(hw b (List.mem_of_mem_drop hb)).1) (ws.drop (st+p)) [] (fun a ha=>hw a (List.mem_of_mem_drop ha)) (by simp;exact Z.l305 hs hp) (by simp)
  rw [show whole []=[] from rfl] at a1 a2 a3
  generalize go (whole (ws.drop st)) [] (ws.drop (st+p))=m at *
  rw [List.length_drop] at a1 a3
  simp only [List.nil_append,List.length_nil,Nat.zero_add] at a2 a3
  refine ⟨by exact Z.l306 hs a1,fun a ha=>?_,?_⟩
  · have:=congrArg (·[a]?) a2
    simp only [List.getElem?_take,List.getElem?_drop,if_pos ha] at this
    rw [show st+p+a=st+p+a from rfl] at this
    exact this.symm
  · rcases a3 with a3 | a3
    · left;exact Z.l307 a3 hs
    · right
      intro h
      apply a3
      refine List.ext_getElem? fun i=>?_
      simp only [List.getElem?_take,List.getElem?_drop]
      by_cases c:i < m+1
      · rw [if_pos c,if_pos c]
        by_cases c2:i=m
        · subst c2;exact h.symm
        · have:=congrArg (·[i]?) a2
          simp only [List.getElem?_take,List.getElem?_drop,if_pos (show i < m by exact Z.l82 c c2)] at this
          exact this
      · rw [if_neg c,if_neg c]
theorem reach_spec {sg oc : List Nat} {w st p : Nat} (ho : ∀ s ∈ sg, s ∈ oc) (hw : w ≠ 47) (hp : 1 ≤ p) (hs : st + p ≤ sg.length) :
    st+p+reach (wordsOf w oc sg) st p≤sg.length∧(∀ a,a < reach (wordsOf w oc sg) st p→at_ sg (st+a)=at_ sg (st+p+a))∧(st+p+reach (wordsOf w oc sg) st p=sg.length∨at_ sg (st+reach (wordsOf w oc sg) st p)≠at_ sg (st+p+reach (wordsOf w oc sg) st p)):=by
  have hl:(wordsOf w oc sg).length=sg.length:=by simp [wordsOf]
  have hwd:∀ a∈wordsOf w oc sg,47∉a∧a≠[]:=fun a ha=>by
    obtain ⟨s,_,rfl⟩:=List.mem_map.mp ha
    refine ⟨fun h=>hw (List.eq_of_mem_replicate h).symm,fun h=>?_⟩
    have:=congrArg List.length h
    rw [List.length_replicate,List.length_nil] at this
    exact Z.l308 this
  obtain ⟨a1,a2,a3⟩:=reach_words hwd hp (by rw [hl];exact hs)
  rw [hl] at a1 a3
  generalize reach (wordsOf w oc sg) st p=m at *
  have ge:∀ i,i < sg.length→(wordsOf w oc sg)[i]?=some (List.replicate (1+oc.idxOf (at_ sg i)) w):=fun i hi=>by
    unfold wordsOf;rw [List.getElem?_map,at_get hi];rfl
  have inj:∀ i j,i < sg.length→j < sg.length→((wordsOf w oc sg)[i]?=(wordsOf w oc sg)[j]?↔at_ sg i=at_ sg j):=fun i j hi hj=>by
    rw [ge i hi,ge j hj]
    constructor
    · intro h
      have h1:=congrArg List.length (Option.some.inj h)
      rw [List.length_replicate,List.length_replicate] at h1
      have m1:at_ sg i∈oc:=ho _ (List.mem_of_getElem? (at_get hi))
      have m2:at_ sg j∈oc:=ho _ (List.mem_of_getElem? (at_get hj))
      have e1:=List.getElem_idxOf (List.idxOf_lt_length_iff.mpr m1)
      have e2:=List.getElem_idxOf (List.idxOf_lt_length_iff.mpr m2)
      have h2:oc.idxOf (at_ sg i)=oc.idxOf (at_ sg j):=by exact Z.l309 h1
      rw [← e1,← e2]
      simp only [h2]
    · intro h;rw [h]
  refine ⟨a1,fun a ha=>(inj _ _ (by exact Z.l310 a1 ha) (by exact Z.l311 a1 ha)).mp (a2 a ha),?_⟩
  rcases a3 with a3 | a3
  · exact .inl a3
  · by_cases c:st+p+m=sg.length
    · exact .inl c
    · exact .inr fun q=>a3 ((inj _ _ (by exact Z.l312 a1 hp) (by exact Z.l313 a1 c)).mpr q)
end T2
end Mine
end
section
open PySem PySem.Calls PySem.W PyProof.Rows
namespace Mine
namespace T2
open Ly
section
variable {sg oc:List Nat} {w:Nat}
theorem at_rev {k:Nat} (h:k < sg.length):at_ sg.reverse k=at_ sg (sg.length - 1 - k):=by
  have h1:=at_get (r:=sg.reverse) (k:=k) (by simpa using h)
  rw [List.getElem?_reverse h,at_get (by exact Z.l268 h)] at h1
  exact (Option.some.inj h1).symm
theorem row_at {way k:Nat} (hk:k < sg.length):at_ (row way sg) k=if way=0 then at_ sg k else 255 - at_ sg k:=by
  unfold row
  by_cases h:way=0
  · rw [if_pos h,if_pos h]
  · rw [if_neg h,if_neg h]
    show (sg.map fun s=>255 - s).getD k 0=_
    rw [List.getD_eq_getElem?_getD,List.getElem?_map,at_get hk];rfl
theorem row_eq (hb:∀ s∈sg,s < 256) {way i j:Nat} (hi:i < sg.length) (hj:j < sg.length):at_ (row way sg) i=at_ (row way sg) j↔at_ sg i=at_ sg j:=by
  rw [row_at hi,row_at hj]
  have h1:=hb _ (List.mem_of_getElem? (at_get hi))
  have h2:=hb _ (List.mem_of_getElem? (at_get hj))
  split <;> lia
theorem row_contra (hb:∀ s∈sg,s < 256) {way way':Nat} (h:way < 2) (h':way' < 2) (hne:way≠way') {i j:Nat} (hi:i < sg.length) (hj:j < sg.length):at_ (row way' sg) i < at_ (row way' sg) j↔at_ (row way sg) j < at_ (row way sg) i:=by
  rw [row_at hi,row_at hj,row_at hi,row_at hj]
  have h1:=hb _ (List.mem_of_getElem? (at_get hi))
  have h2:=hb _ (List.mem_of_getElem? (at_get hj))
  by_cases c:way=0
  · rw [if_pos c,if_pos c,if_neg (by exact Z.l316 c hne),if_neg (by exact Z.l316 c hne)];lia
  · rw [if_neg c,if_neg c,if_pos (by exact Z.l318 h' h c hne),if_pos (by exact Z.l318 h' h c hne)];lia
structure Full (s:Nat→Nat) (n st b e p:Nat):Prop where
  lo:b≤st
  hi:st+p≤e
  fit:e≤n
  per:∀ k,b≤k→k+p < e→s k=s (k+p)
  left:b=0∨s (b - 1)≠s (b - 1+p)
  right:e=n∨s e≠s (e - p)
theorem full_cand (ho:∀ s∈sg,s∈oc) (hw:w≠47) {way st:Nat} (hst:st < sg.length):Full (at_ sg) sg.length st (cand sg (wordsOf w oc sg) (wordsOf w oc sg.reverse) way st).1 (cand sg (wordsOf w oc sg) (wordsOf w oc sg.reverse) way st).2.1 ((sz way sg).getD st 0):=by
  have G:=sz_good way sg st hst
  unfold cand
  dsimp only
  generalize (sz way sg).getD st 0=p at *
  have hp:=G.lyn.1
  have hf:=G.fit
  have hrl:sg.reverse.length=sg.length:=List.length_reverse
  obtain ⟨a1,a2,a3⟩:=reach_spec (w:=w) (oc:=oc) (st:=st) (p:=p) ho hw hp hf
  obtain ⟨r,hr⟩:=Nat.exists_eq_add_of_le hf
  rw [show sg.length - st - p=r by rw [hr,Nat.add_assoc,Nat.add_sub_cancel_left,Nat.add_sub_cancel_left]]
  obtain ⟨b1,b2,b3⟩:=reach_spec (sg:=sg.reverse) (w:=w) (oc:=oc) (st:=r) (p:=p) (fun s hs=>ho s (List.mem_reverse.mp hs)) hw hp (by rw [hrl,hr,Nat.add_comm];exact Nat.add_le_add_right (Nat.le_add_left ..) r)
  rw [hrl] at b1 b3
  clear G hf hst
  generalize reach (wordsOf w oc sg) st p=ρ at *
  generalize reach (wordsOf w oc sg.reverse) r p=β at *
  have rv:∀ i j,i+j+1=sg.length→at_ sg.reverse i=at_ sg j:=fun i j h=>by
    rw [at_rev (by exact Z.l320 h),show sg.length - 1 - i=j by lia]
  generalize sg.length=n at *
  obtain ⟨b,rfl⟩:=Nat.exists_eq_add_of_le' (show β≤st by exact Z.l322 hr b1)
  rw [Nat.add_sub_cancel]
  refine ⟨Nat.le_add_right ..,Nat.le_add_right ..,a1,fun k hk hke=>?_,?_,a3.imp id fun h q=>h ?_⟩
  · by_cases c:k < b+β
    · obtain ⟨a,ha⟩:=Nat.exists_eq_add_of_le (show k+1≤b+β from c)
      have:=b2 a (by exact Z.l323 ha hk)
      rw [rv (r+a) (k+p) (by exact Z.l324 ha hr),rv (r+p+a) k (by exact Z.l325 ha hr)] at this
      exact this.symm
    · obtain ⟨a,rfl⟩:=Nat.exists_eq_add_of_le (Nat.not_lt.mp c)
      rw [Nat.add_right_comm (b+β) a p]
      exact a2 a (by exact Z.l326 hke)
  · cases b with
    | zero=>exact .inl rfl
    | succ b =>
      refine .inr fun q=>?_
      rcases b3 with b3 | b3
      · exact Z.l327 b3 hr
      · rw [rv (r+β) (b+p) (by exact Z.l328 hr),rv (r+p+β) b (by exact Z.l329 hr)] at b3
        exact b3 q.symm
  · rw [show b+β+p+ρ - p=b+β+ρ by rw [Nat.add_right_comm,Nat.add_sub_cancel]] at q
    exact q.symm
theorem mem_foundAdd {acc:List (Nat × Nat × Nat)} {c x:Nat × Nat × Nat}:x∈foundAdd acc c↔x∈acc∨(x=c∧2*c.2.2≤c.2.1 - c.1):=by
  unfold foundAdd
  by_cases h:2*c.2.2≤c.2.1 - c.1
  · by_cases h2:c∈acc
    · rw [if_neg (by simp [h2])]
      exact ⟨.inl,fun q=>q.elim id fun q=>q.1 ▸ h2⟩
    · rw [if_pos (by simp [h,h2])]
      simp [h]
  · rw [if_neg (by simp [h])]
    simp [h]
theorem nodup_foundAdd {acc:List (Nat × Nat × Nat)} {c:Nat × Nat × Nat} (h:acc.Nodup):(foundAdd acc c).Nodup:=by
  unfold foundAdd
  by_cases h1:(decide (2*c.2.2≤c.2.1 - c.1) && (decide (c∉acc) && true))=true
  · rw [if_pos h1]
    have h2:c∉acc:=by simp at h1;exact h1.2
    rw [List.nodup_append]
    refine ⟨h,by simp,fun a ha b hb e=>?_⟩
    rw [List.mem_singleton.mp hb] at e
    exact h2 (e ▸ ha)
  · rw [if_neg h1];exact h
theorem mem_foundW {ws bk:List (List Nat)} {way:Nat} {x:Nat × Nat × Nat}:∀ (l:List Nat) (acc:List (Nat × Nat × Nat)),(x∈l.foldl (foundS sg ws bk way) acc↔x∈acc∨∃ st∈l,x=cand sg ws bk way st∧2*x.2.2≤x.2.1 - x.1)
  | [],acc=>by simp
  | st::l,acc=>by
    rw [List.foldl_cons,mem_foundW l]
    unfold foundS
    rw [mem_foundAdd]
    constructor
    · rintro ((h | ⟨rfl,h⟩) | ⟨st',h1,h2⟩)
      · exact .inl h
      · exact .inr ⟨st,.head _,rfl,h⟩
      · exact .inr ⟨st',.tail _ h1,h2⟩
    · rintro (h | ⟨st',h1,h2,h3⟩)
      · exact .inl (.inl h)
      · rcases List.mem_cons.mp h1 with q | q
        · subst q;exact .inl (.inr ⟨h2,h2 ▸ h3⟩)
        · exact .inr ⟨st',q,h2,h3⟩
theorem nodup_foundW {ws bk:List (List Nat)} {way:Nat}:∀ (l:List Nat) (acc:List (Nat × Nat × Nat)),acc.Nodup→(l.foldl (foundS sg ws bk way) acc).Nodup
  | [],acc,h=>h
  | st::l,acc,h=>nodup_foundW l _ (nodup_foundAdd h)
theorem found_eq (ws bk:List (List Nat)):found sg ws bk=foundW sg ws bk (foundW sg ws bk [] 0) 1:=rfl
theorem nodup_found {ws bk:List (List Nat)}:(found sg ws bk).Nodup:=by
  rw [found_eq];exact nodup_foundW _ _ (nodup_foundW _ _ List.nodup_nil)
theorem mem_found {ws bk:List (List Nat)} {x:Nat × Nat × Nat}:x∈found sg ws bk↔∃ way,way < 2∧∃ st,st < sg.length∧x=cand sg ws bk way st∧2*x.2.2≤x.2.1 - x.1:=by
  rw [found_eq]
  unfold foundW
  rw [mem_foundW,mem_foundW]
  simp only [List.not_mem_nil,false_or,List.mem_range]
  constructor
  · rintro (⟨st,h⟩ | ⟨st,h⟩)
    · exact ⟨0,by exact Z.l330,st,h⟩
    · exact ⟨1,by exact Z.l331,st,h⟩
  · rintro ⟨way,hw,st,h⟩
    match way,hw with
    | 0,_=>exact .inl ⟨st,h⟩
    | 1,_=>exact .inr ⟨st,h⟩
theorem way_end (hb:∀ s∈sg,s < 256) {x:Nat × Nat × Nat} (h:Least sg x):wayOf sg x < 2∧(x.2.1 < sg.length→at_ (row (wayOf sg x) sg) x.2.1 < at_ (row (wayOf sg x) sg) (x.2.1 - x.2.2)):=by
  have h1:=h.1.pos
  have h2:=h.1.two
  have h3:=h.1.fit
  refine ⟨by unfold wayOf;split <;> lia,fun he=>?_⟩
  have hne:=h.1.right.resolve_left (by exact Z.l332 he)
  rw [row_at he,row_at (by exact Z.l95 he)]
  have b1:=hb _ (List.mem_of_getElem? (at_get he))
  have b2:=hb _ (List.mem_of_getElem? (at_get (show x.2.1 - x.2.2 < sg.length by exact Z.l95 he)))
  by_cases c:at_ sg (x.2.1 - x.2.2) < at_ sg x.2.1
  · have:wayOf sg x=1:=if_pos ⟨he,c⟩
    rw [this,if_neg (by decide),if_neg (by decide)];exact Z.l333 b1 c
  · have:wayOf sg x=0:=if_neg fun q=>c q.2
    rw [this,if_pos rfl,if_pos rfl];exact Z.l334 hne c
theorem per_row (hb:∀ s∈sg,s < 256) {x:Nat × Nat × Nat} (h:Least sg x) (way:Nat):∀ k,x.1≤k→k+x.2.2 < x.2.1→at_ (row way sg) k=at_ (row way sg) (k+x.2.2):=fun k h1 h2=>by
  have h3:=h.1.fit
  exact (row_eq hb (by exact Z.l251 h3 h2) (by exact Z.l252 h3 h2)).mpr (h.1.per k h1 h2)
theorem root_of (hb:∀ s∈sg,s < 256) {x:Nat × Nat × Nat} (h:Least sg x) (way:Nat):∃ i,x.1≤i∧i < x.1+x.2.2∧LynAt (at_ (row way sg)) i x.2.2:=by
  refine exists_root h.1.pos (per_row hb h way) h.1.two fun g g0 gp gd hper=>h.2 g gp (h.1.sub g0 gp gd fun k h1 h2=>?_)
  have h3:=h.1.fit
  exact (row_eq hb (by exact Z.l251 h3 h2) (by exact Z.l252 h3 h2)).mp (hper k h1 h2)
theorem sz_iff (hb:∀ s∈sg,s < 256) {x:Nat × Nat × Nat} (h:Least sg x) {s:Nat} (h1:x.1≤s) (h2:s+x.2.2≤x.2.1):(sz (wayOf sg x) sg).getD s 0=x.2.2↔LynAt (at_ (row (wayOf sg x) sg)) s x.2.2:=by
  have h3:=h.1.fit
  have hp:=h.1.pos
  have G:=sz_good (wayOf sg x) sg s (by exact Z.l335 h2 h3 hp)
  constructor
  · intro e;rw [← e];exact G.lyn
  · intro hl
    exact G.eq (root_good (per_row hb h _) h3 (way_end hb h).2 h1 h2 hl)
theorem mem_least (ho:∀ s∈sg,s∈oc) (hb:∀ s∈sg,s < 256) (hw:w≠47) (x:Nat × Nat × Nat):x∈found sg (wordsOf w oc sg) (wordsOf w oc sg.reverse)↔Least sg x:=by
  rw [mem_found]
  constructor
  · rintro ⟨way,hway,st,hst,e,h2⟩
    have F:=full_cand (w:=w) (way:=way) ho hw hst
    have G:=sz_good way sg st hst
    have e3:x.2.2=(sz way sg).getD st 0:=by rw [e];rfl
    rw [← e,← e3] at F
    rw [← e3] at G
    have hp:=G.lyn.1
    have f1:=F.lo
    have f2:=F.hi
    have R:Run (at_ sg) sg.length x.1 x.2.1 x.2.2:=⟨hp,by exact Z.l336 h2 hp,F.fit,F.per,F.left,F.right⟩
    refine ⟨R,fun g hg hr=>G.lyn.bare hr.pos hg fun k h3 h4=>?_⟩
    have:=F.fit
    exact (row_eq hb (by exact Z.l337 f2 this h4) (by exact Z.l338 f2 this h4)).mpr (hr.per k (by exact Z.l339 f1 h3) (by exact Z.l340 f2 h4))
  · intro h
    have h1:=h.1.pos
    have h2:=h.1.two
    have h3:=h.1.fit
    obtain ⟨i,i1,i2,i3⟩:=root_of hb h (wayOf sg x)
    have hsz:=(sz_iff hb h i1 (by exact Z.l341 h2 i2)).mpr i3
    have F:=full_cand (w:=w) (way:=wayOf sg x) (st:=i) ho hw (by exact Z.l342 h2 h3 i2)
    refine ⟨wayOf sg x,(way_end hb h).1,i,by exact Z.l342 h2 h3 i2,?_⟩
    have e3:(cand sg (wordsOf w oc sg) (wordsOf w oc sg.reverse) (wayOf sg x) i).2.2=x.2.2:=hsz
    rw [hsz] at F
    generalize cand sg (wordsOf w oc sg) (wordsOf w oc sg.reverse) (wayOf sg x) i=c at *
    have f1:=F.lo
    have f2:=F.hi
    have f3:=F.fit
    have le:x.2.1≤c.2.1:=by
      by_cases q:x.2.1≤c.2.1
      · exact q
      exfalso
      rcases F.right with r | r
      · exact Z.l122 r h3 q
      · have:=h.1.per (c.2.1 - x.2.2) (by exact Z.l123 f2 i1) (by exact Z.l343 h2 q)
        rw [show c.2.1 - x.2.2+x.2.2=c.2.1 by exact Z.l125 f2] at this
        exact r this.symm
    have ge:c.1≤x.1:=by
      by_cases q:c.1≤x.1
      · exact q
      exfalso
      rcases F.left with r | r
      · exact Z.l119 r q
      · exact r (h.1.per (c.1 - 1) (by exact Z.l120 q) (by exact Z.l344 h2 f1 i2))
    have R:Run (at_ sg) sg.length c.1 c.2.1 x.2.2:=⟨h1,by exact Z.l345 h2 ge le,f3,F.per,F.left,F.right⟩
    obtain ⟨q1,q2⟩:=h.1.uniq R (i:=i) i1 f1 (by exact Z.l341 h2 i2) f2
    refine ⟨?_,by exact Z.l346 h2⟩
    obtain ⟨x1,x2,x3⟩:=x
    obtain ⟨c1,c2,c3⟩:=c
    dsimp only at q1 q2 e3
    rw [q1,q2,← e3]
theorem sort3_eq (l:List (Nat × Nat × Nat)):sort3 l=pysort (0,0,0) Srt.lt3 l:=rfl
theorem runs_perm:(T2.runs sg).Perm (runs0 sg):=(Srt.sorted_ok (0,0,0) Srt.lt3 (runs0 sg) (kept sg).nd (Srt.tot3 _)).1
theorem mem_runs {x:Nat × Nat × Nat}:x∈T2.runs sg↔Least sg x:=runs_perm.mem_iff.trans mem_runs0
theorem mine_count (hb:∀ s∈sg,s < 256) {x:Nat × Nat × Nat} (h:Least sg x):(minePos sg x).length=(x.2.1 - x.1) / x.2.2 - 1∨(minePos sg x).length=(x.2.1 - x.1) / x.2.2 - 1+1:=by
  have h1:=h.1.pos
  have h2:=h.1.two
  obtain ⟨i,i1,i2,i3⟩:=root_of hb h (wayOf sg x)
  have e:(minePos sg x).length=((List.range (x.2.1 - x.2.2 - x.1)).filter fun k=>decide ((x.1+1+k) % x.2.2=i % x.2.2)).length:=by
    unfold minePos
    rw [List.filter_map,List.length_map,show x.2.1 - x.2.2+1 - (x.1+1)=x.2.1 - x.2.2 - x.1 by lia]
    congr 1
    refine List.filter_congr fun k hk=>?_
    have hk:=List.mem_range.mp hk
    show decide ((sz (wayOf sg x) sg).getD (x.1+1+k) 0=x.2.2)=_
    rw [decide_eq_decide,sz_iff hb h (by exact Z.l348) (by exact Z.l349 hk)]
    exact lyn_iff (per_row hb h _) i3 i1 i2 (by exact Z.l341 h2 i2) (by exact Z.l348) (by exact Z.l349 hk)
  rw [e]
  have hd:(x.2.1 - x.1) / x.2.2=(x.2.1 - x.2.2 - x.1) / x.2.2+1:=by
    rw [Nat.div_eq_sub_div h1 (by exact Z.l350 h2)]
    congr 2;lia
  rw [hd,Nat.add_sub_cancel]
  exact count_two x.2.2 (i % x.2.2) h1 (Nat.mod_lt _ h1) (x.1+1) (x.2.1 - x.2.2 - x.1)
theorem mem_mine {x:Nat × Nat × Nat} {s:Nat} (h:s∈minePos sg x):x.1 < s∧s≤x.2.1 - x.2.2∧(sz (wayOf sg x) sg).getD s 0=x.2.2:=by
  unfold minePos at h
  obtain ⟨h1,h2⟩:=List.mem_filter.mp h
  obtain ⟨k,hk,rfl⟩:=List.mem_map.mp h1
  have hk:=List.mem_range.mp hk
  exact ⟨by exact Z.l352,by exact Z.l353 hk,of_decide_eq_true h2⟩
theorem one_apart (hb:∀ s∈sg,s < 256) {x y:Nat × Nat × Nat} (hx:Least sg x) (hy:Least sg y) {s:Nat} (h1:s∈minePos sg x) (h2:s∈minePos sg y) (h:x.2.2=1):x=y:=by
  obtain ⟨a1,a2,a3⟩:=mem_mine h1
  obtain ⟨b1,b2,b3⟩:=mem_mine h2
  have px:=hx.1.pos
  have py:=hy.1.pos
  have tx:=hx.1.two
  have ty:=hy.1.two
  have fy:=hy.1.fit
  by_cases c:y.2.2=1
  · obtain ⟨q1,q2⟩:=hx.1.uniq (p:=x.2.2) (i:=s) (by rw [h,← c];exact hy.1) (by exact Z.l55 a1) (by exact Z.l55 b1) (by exact Z.l354 tx a2) (by exact Z.l355 h c ty b2)
    obtain ⟨x1,x2,x3⟩:=x
    obtain ⟨y1,y2,y3⟩:=y
    dsimp only at q1 q2 c h
    rw [q1,q2,h,c]
  · exfalso
    have e1:=hx.1.per (s - 1) (by exact Z.l356 a1) (by exact Z.l357 a2 a1)
    rw [h,show s - 1+1=s by exact Z.l358 a1] at e1
    have e2:=hy.1.per (s - 1) (by exact Z.l356 b1) (by exact Z.l357 b2 a1)
    rw [show s - 1+y.2.2=s+(y.2.2 - 1) by lia] at e2
    have L:=(sz_iff hb hy (by exact Z.l55 b1) (by exact Z.l354 ty b2)).mp b3
    have:=L.first_last (by exact Z.l57 py c)
    have e3:=(row_eq hb (way:=wayOf sg y) (i:=s) (j:=s+(y.2.2 - 1)) (by exact Z.l360 ty b2 fy py) (by exact Z.l361 b2 fy py a1)).mpr (e1.symm.trans e2)
    exact Z.l39 e3 this
theorem mine_apart (hb:∀ s∈sg,s < 256) {x y:Nat × Nat × Nat} (hx:Least sg x) (hy:Least sg y) {s:Nat} (h1:s∈minePos sg x) (h2:s∈minePos sg y):x=y:=by
  obtain ⟨a1,a2,a3⟩:=mem_mine h1
  obtain ⟨b1,b2,b3⟩:=mem_mine h2
  have tx:=hx.1.two
  have ty:=hy.1.two
  have fx:=hx.1.fit
  have fy:=hy.1.fit
  have px:=hx.1.pos
  have py:=hy.1.pos
  by_cases c:wayOf sg x=wayOf sg y
  · have e:x.2.2=y.2.2:=by rw [← a3,← b3,c]
    obtain ⟨q1,q2⟩:=hx.1.uniq (p:=x.2.2) (i:=s) (by rw [e];exact hy.1) (by exact Z.l55 a1) (by exact Z.l55 b1) (by exact Z.l354 tx a2) (by lia)
    obtain ⟨x1,x2,x3⟩:=x
    obtain ⟨y1,y2,y3⟩:=y
    dsimp only at q1 q2 e
    rw [q1,q2,e]
  · have L1:=(sz_iff hb hx (by exact Z.l55 a1) (by exact Z.l354 tx a2)).mp a3
    have L2:=(sz_iff hb hy (by exact Z.l55 b1) (by exact Z.l354 ty b2)).mp b3
    rcases one_of_two (n:=sg.length) (fun a b ha hb'=>row_contra hb (way_end hb hx).1 (way_end hb hy).1 c ha hb') (by exact Z.l363 tx a2 fx) (by exact Z.l363 ty b2 fy) L1 L2 with q | q
    · exact one_apart hb hx hy h1 h2 q
    · exact (one_apart hb hy hx h2 h1 q).symm
theorem nodup_mine (x:Nat × Nat × Nat):(minePos sg x).Nodup:=by
  unfold minePos
  refine List.Pairwise.filter _ ?_
  rw [List.pairwise_map]
  exact List.Pairwise.imp (fun {a b} (h:a < b)=>by exact Z.l364 h) List.pairwise_lt_range
theorem nodup_places (hb:∀ s∈sg,s < 256):((T2.runs sg).flatMap (minePos sg)).Nodup:=by
  have nd:(T2.runs sg).Nodup:=runs_perm.nodup_iff.mpr (kept sg).nd
  unfold List.Nodup
  rw [List.pairwise_flatMap]
  refine ⟨fun x _=>nodup_mine x,?_⟩
  refine List.Pairwise.imp_of_mem (R:=fun a b=>a≠b) (fun {a b} ha hb' hne x hx y hy e=>?_) nd
  subst e
  exact hne (mine_apart hb (mem_runs.mp ha) (mem_runs.mp hb') hx hy)
end
end T2
end Mine
end
section
open PySem PySem.Calls PySem.W PyProof.Rows
namespace Mine
namespace T2
open Ly
theorem coll_drop (sg:List Nat) (s:Nat) (hs:s < sg.length):Mine.coll sg (sg.drop s)=if s=0 then 0 else if ordN .Gt sg (sg.drop s)=true then 1 else -1:=by
  rw [ordI_gt]
  unfold Mine.coll sub1
  by_cases h:s=0
  · subst h
    simp [List.lt_irrefl]
  · rw [if_neg h]
    by_cases c:sg.drop s < sg
    · have:¬ sg < sg.drop s:=fun q=>List.lt_irrefl sg (List.lt_trans q c)
      simp [c,this]
    · have:sg < sg.drop s:=by
        apply Classical.byContradiction
        intro q
        have e:sg=sg.drop s:=List.le_antisymm c q
        have:=congrArg List.length e
        rw [List.length_drop] at this
        exact Z.l365 this hs h
      simp [c,this]
theorem isPrefix_self_app (a b:List Nat):a.isPrefixOf (a++b)=true:=by
  rw [List.isPrefixOf_iff_prefix];exact List.prefix_append a b
theorem slashed_words {oc sg:List Nat} {w:Nat} (hw:w≠47) (h0:0 < sg.length):slashed (whole (wordsOf w oc sg))=whole (wordsOf w oc sg)++[47]:=by
  obtain ⟨l,c,rfl⟩:∃ l c,sg=l++[c]:=by
    rcases List.eq_nil_or_concat sg with q | ⟨u,c,q⟩
    · rw [q] at h0;simp at h0
    · exact ⟨u,c,by rw [q];simp⟩
  have e:wordsOf w oc (l++[c])=wordsOf w oc l++[List.replicate (1+oc.idxOf c) w]:=by simp [wordsOf]
  rw [e]
  refine slashed_whole (fun h=>?_) (fun h=>hw (List.eq_of_mem_replicate h).symm)
  have:=congrArg List.length h
  rw [List.length_replicate,List.length_nil] at this
  exact Z.l308 this
theorem whole_chars {oc sg:List Nat} {w c:Nat} (h:c∈whole (wordsOf w oc sg)):c=47∨c=w:=by
  unfold whole wordsOf at h
  obtain ⟨a,ha,hc⟩:=List.mem_flatten.mp h
  obtain ⟨b,hb,rfl⟩:=List.mem_map.mp ha
  obtain ⟨s,_,rfl⟩:=List.mem_map.mp hb
  rcases List.mem_cons.mp (show c∈47::List.replicate (1+oc.idxOf s) w from hc) with q | q
  · exact .inl q
  · exact .inr (List.eq_of_mem_replicate q)
theorem facts {sg oc:List Nat} {w:Nat} (hl:sg.length=7∨sg.length=8) (ho:∀ s∈sg,s∈oc) (h3:oc.length=3) (hb:∀ s∈oc,s < 256) (hw:w≠47) (hw2:w < 256):Facts sg oc w:=by
  have hbs:∀ s∈sg,s < 256:=fun s hs=>hb s (ho s hs)
  obtain ⟨c,sg',hsg⟩:∃ c l,sg=c::l:=by
    cases sg with
    | nil=>simp at hl
    | cons a b=>exact ⟨a,b,rfl⟩
  have hwh:whole (wordsOf w oc sg)=47::w::(List.replicate (oc.idxOf c) w++whole (wordsOf w oc sg')):=by
    rw [hsg]
    show whole (List.replicate (1+oc.idxOf c) w::wordsOf w oc sg')=_
    rw [whole_cons,Nat.add_comm,List.replicate_succ];rfl
  have hsl:=slashed_words (oc:=oc) (sg:=sg) hw (by exact Z.l366 hl)
  have hch:=@whole_chars oc sg w
  refine { len:=hl,oct:=ho,few:=h3,byte:=hb,wd:=hw2,szl:=fun way _=>sz_len way sg,szp:=fun way _ st hst=>?_,runs:=?_,runl:=?_,run:=fun r hr=>?_,mine:=fun r hr=>mine_count hbs (mem_runs.mp hr),apart:=nodup_places hbs,long:=fun way _=>?_,coll:=coll_drop sg,path:=fun b hb'=>?_,strange:=fun p hp=>?_,great:=?_,last:=?_ }
  · have G:=sz_good way sg st hst
    exact ⟨G.lyn.1,G.fit⟩
  · unfold T2.runs
    rw [sort3_eq,sort3_eq]
    exact Srt.sorted_same _ _ nodup_found (kept sg).nd (Srt.tot3 _) fun a=>(mem_least ho hbs hw a).trans mem_runs0.symm
  · rw [runs_perm.length_eq];exact runs0_len sg hl
  · have h:=mem_runs.mp hr
    exact ⟨h.1.two,h.1.fit,h.1.pos⟩
  · refine List.ext_getElem (by rw [sz_len];simp) fun i h1 h2=>?_
    rw [sz_len] at h1
    simp only [List.getElem_map,List.getElem_range]
    have G:=sz_good way sg i h1
    have:=longest_is (r:=row way sg) (i:=i) (p:=(sz way sg).getD i 0) (by rw [row_len'];exact G)
    rw [this,List.getD_eq_getElem?_getD,List.getElem?_eq_getElem (by rw [sz_len];exact h1)];rfl
  · simp only [List.mem_cons,List.not_mem_nil,or_false] at hb'
    rcases hb' with rfl | rfl
    · unfold suburi;rw [if_pos rfl]
    · unfold suburi
      rw [if_neg (by rw [hwh];simp),if_neg (by simp),hwh]
      rfl
  · unfold suburi
    simp only [List.mem_cons,List.not_mem_nil,or_false] at hp
    rcases hp with rfl | rfl | rfl
    · rw [if_neg (by simp),if_pos (by simp)]
    · rw [if_neg (by simp),if_pos (by simp)]
    · rw [if_neg (by simp),if_pos (by simp)]
  · by_cases h97:w=97
    · subst h97
      unfold suburi
      rw [if_neg,if_neg (by simp),decide_eq_false (by simp)]
      · have h1:(whole (wordsOf 97 oc sg)).map (fun c=>if c=97 then 65 else c)=47::65::((List.replicate (oc.idxOf c) 97++whole (wordsOf 97 oc sg')).map fun c=>if c=97 then 65 else c):=by
          rw [hwh];simp
        cases q:(slashed ((whole (wordsOf 97 oc sg)).map fun c=>if c=97 then 65 else c)).isPrefixOf (whole (wordsOf 97 oc sg)++[47]) with
        | false=>rfl
        | true =>
          exfalso
          try dsimp only at q
          rw [List.isPrefixOf_iff_prefix] at q
          have h2:((whole (wordsOf 97 oc sg)).map fun c=>if c=97 then 65 else c) <+: slashed ((whole (wordsOf 97 oc sg)).map fun c=>if c=97 then 65 else c):=by
            unfold slashed;split
            · exact List.prefix_append _ _
            · exact List.prefix_refl _
          have h3:=h2.trans q
          rw [h1,hwh] at h3
          simp at h3
      · intro q
        have:=congrArg List.length (Prod.mk.inj q).2
        simp at this
    · have hid:(whole (wordsOf w oc sg)).map (fun c=>if c=97 then 65 else c)=whole (wordsOf w oc sg):=by
        refine (List.map_congr_left fun c hc=>?_).trans (List.map_id _)
        rcases hch hc with rfl | rfl
        · rfl
        · rw [if_neg h97];rfl
      rw [hid,decide_eq_true h97]
      unfold suburi
      rw [if_neg,if_neg (by simp),hsl]
      · exact isPrefix_self_app (whole (wordsOf w oc sg)++[47]) [] ▸ by simp
      · intro q
        have:=congrArg List.length (Prod.mk.inj q).2
        simp at this
  · unfold suburi
    rw [if_neg (by simp),if_pos (by simp)]
theorem marks_lt (c0 c1:Int):∀ m∈marks c0 c1,m < 3:=by
  have h0:∀ m∈marks0 c0 c1,m < 3:=fun m hm=>by
    obtain ⟨k,_,rfl⟩:=List.mem_map.mp hm
    exact Z.l367
  intro m hm
  unfold marks at hm
  split at hm
  · rcases List.mem_or_eq_of_mem_set hm with q | q
    · exact h0 m q
    · rw [q];exact Z.l368
  · exact h0 m hm
theorem all_facts (c0 c1 c2:Int):Facts (signs c0 c1 c2) (octets c2) (word c1):=by
  have hm:(marks c0 c1).length=7∨(marks c0 c1).length=8:=by
    have:(marks c0 c1).length=size c0:=by unfold marks;split <;> simp [marks0]
    rw [this];unfold size;lia
  refine facts ?_ (fun s hs=>?_) rfl (fun s hs=>?_) ?_ ?_
  · unfold signs;rw [List.length_map];exact hm
  · obtain ⟨m,hm,rfl⟩:=List.mem_map.mp hs
    have h3:=marks_lt c0 c1 m hm
    have hl:(octets c2).length=3:=rfl
    rw [List.getD_eq_getElem?_getD,List.getElem?_eq_getElem (by exact Z.l370 hl h3)]
    exact List.getElem_mem _
  · simp only [octets,List.mem_cons,List.not_mem_nil,or_false] at hs
    lia
  · unfold word
    have:(c1 / 6561 % 5).toNat < 5:=by exact Z.l372
    match h:(c1 / 6561 % 5).toNat,this with
    | 0,_=>decide
    | 1,_=>decide
    | 2,_=>decide
    | 3,_=>decide
    | 4,_=>decide
  · unfold word
    have:(c1 / 6561 % 5).toNat < 5:=by exact Z.l372
    match h:(c1 / 6561 % 5).toNat,this with
    | 0,_=>decide
    | 1,_=>decide
    | 2,_=>decide
    | 3,_=>decide
    | 4,_=>decide
end T2
end Mine
end

theorem PySem.Challenge.cw_wv0010_02_holds : PySem.Challenge.rw_wv0010_02.Holds :=
  Mine.law_top Mine.T2.all_facts
