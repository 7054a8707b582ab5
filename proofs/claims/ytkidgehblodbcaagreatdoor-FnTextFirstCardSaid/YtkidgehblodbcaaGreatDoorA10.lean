/- A part of the proof of FnTextFirst: moments and sort, walked. -/
import Derived.Sort.Walk13a
import Derived.Test.YtkidgehblodbcaaGreatDoorA09
set_option linter.all false
set_option maxRecDepth 100000
set_option maxHeartbeats 16000000
namespace Go.Proofs.YtkidgehblodbcaaGreatDoor
namespace En
open Go.RowKit Go.Proofs.Tryz
theorem F7 {d:Array Int} {b i:Nat} (h:i<b) (h':¬d[i]! <d[i-1]!):Go.Sort.scanSorted kA d b i=Go.Sort.scanSorted kA d b (i+1):=by
 rw[Go.Sort.scanSorted,if_pos];simp only[Bool.and_eq_true,decide_eq_true_eq];exact⟨h,by simpa using h'⟩
theorem G7 {d:Array Int} {b i:Nat} (h:i<b->d[i]! <d[i-1]!):Go.Sort.scanSorted kA d b i=i:=by
 rw[Go.Sort.scanSorted,if_neg];simp only[Bool.and_eq_true,decide_eq_true_eq,not_and];intro g;simpa using h g
theorem H7 {d:Array Int} {j:Nat} (h0:1<=j) (h:d[j]! <d[j-1]!):Go.Sort.shiftDown kA j d=Go.Sort.shiftDown kA (j-1) (Go.Sort.swp d j (j-1)):=by
 obtain⟨m,rfl⟩:∃m,j=m+1:=⟨j-1,O⟩
 rw[Nat.add_sub_cancel]at h⊢
 rw[Go.Sort.shiftDown,if_neg (by simpa using h)]
theorem ko {d:Array Int} {j:Nat} (h:1<=j->¬d[j]! <d[j-1]!):Go.Sort.shiftDown kA j d=d:=by
 cases j with
 |zero=>rfl
 |succ m=>
  rw[Nat.add_sub_cancel]at h
  rw[Go.Sort.shiftDown,if_pos (by simpa using h)]
theorem I7 {d:Array Int} {b j:Nat} (h0:j<b) (h:d[j]! <d[j-1]!):Go.Sort.shiftUp kA b j d=Go.Sort.shiftUp kA b (j+1) (Go.Sort.swp d j (j-1)):=by
 rw[Go.Sort.shiftUp,if_pos h0,if_neg (by simpa using h)]
theorem po {d:Array Int} {b j:Nat} (h:j<b->¬d[j]! <d[j-1]!):Go.Sort.shiftUp kA b j d=d:=by
 rw[Go.Sort.shiftUp]
 by_cases h0:j<b
 ·rw[if_pos h0,if_pos (by simpa using h h0)]
 ·rw[if_neg h0]
theorem dZ:∀(j:Nat) (d:Array Int),(Go.Sort.shiftDown kA j d).size=d.size
 |0,d=>rfl
 |j+1,d=>by
  rw[Go.Sort.shiftDown];split
  ·rfl
  ·rw[dZ j,swp_size]
theorem qo (b:Nat):∀(k j:Nat) (d:Array Int),b-j<=k->(Go.Sort.shiftUp kA b j d).size=d.size
 |0,j,d,h=>by rw[Go.Sort.shiftUp,if_neg O]
 |k+1,j,d,h=>by
  rw[Go.Sort.shiftUp];split
  ·split
   ·rfl
   ·rw[qo b k (j+1) _ O,swp_size]
  ·rfl
theorem uo {s i0 i a b:Nat} {q:Array Int} (hi:i=Go.Sort.scanSorted kA q b i0):Go.Sort.partialIns kA a b (s+1) i0 q=if i=b then(q,true)else if b-a<50 then(q,false)else
  Go.Sort.partialIns kA a b s i (if b-i>=2 then Go.Sort.shiftUp kA b (i+1) (if i-a>=2 then Go.Sort.shiftDown kA (i-1) (Go.Sort.swp q i (i-1))else Go.Sort.swp q i (i-1))else(if i-a>=2 then Go.Sort.shiftDown kA (i-1) (Go.Sort.swp q i (i-1))else Go.Sort.swp q i (i-1))):=by
 rw[Go.Sort.partialIns,<-hi]
def vo (R:Array Int×Bool) (n a b:Nat):MB {p:Nat×Nat×Array Int//p.1<=5/\a+1<=p.2.1/\p.2.1<=b/\p.2.2.size=n/\Go.Sort.partialIns kA a b (5-p.1) p.2.1 p.2.2=R}where
 F p:=[(0, .u (D0 n)),(1, .u (I a)),(2, .u (I b)),(7, .u (I p.1.2.1)),(8, .u (I p.1.1))]
 H p:=[(0,some (RT p.1.2.2))]
 n p:=1
def wo (q:Array Int) (n a b j i0:Nat):MB {i:Nat//i0<=i/\i<=b/\Go.Sort.scanSorted kA q b i=Go.Sort.scanSorted kA q b i0}where
 F i:=[(0, .u (D0 n)),(1, .u (I a)),(2, .u (I b)),(7, .u (I i.1)),(8, .u (I j))]
 H i:=[(0,some (RT q))]
 n i:=1
def xo (q:Array Int) (n a b j i:Nat):MB {p:Nat×Array Int//p.1<=i-1/\p.2.size=n/\Go.Sort.shiftDown kA p.1 p.2=Go.Sort.shiftDown kA (i-1) q}where
 F p:=[(0, .u (D0 n)),(1, .u (I a)),(2, .u (I b)),(7, .u (I i)),(8, .u (I j)),(9, .u (I p.1.1))]
 H p:=[(0,some (RT p.1.2))]
 n p:=1
def yo (q:Array Int) (n a b j i:Nat):MB {p:Nat×Array Int//i+1<=p.1/\p.1<=b/\p.2.size=n/\Go.Sort.shiftUp kA b p.1 p.2=Go.Sort.shiftUp kA b (i+1) q}where
 F p:=[(0, .u (D0 n)),(1, .u (I a)),(2, .u (I b)),(7, .u (I i)),(8, .u (I j)),(10, .u (I p.1.1))]
 H p:=[(0,some (RT p.1.2))]
 n p:=1
theorem zo (d:Array Int) {n:Nat} (hn:d.size=n) (a b:Nat) (xD:a+1<b) (Z:b<=n) (hs:n<=100000):
  Fn prog 180 [D0 n,I a,I b] [(0,some (RT d))] 1 (B (Go.Sort.partialInsertionSort kA d a b).2) [(0,some (RT (Go.Sort.partialInsertionSort kA d a b).1))] 1:=by
 unfold Go.Sort.partialInsertionSort
 obtain⟨R,hR⟩:∃R,Go.Sort.partialIns kA a b 5 (a+1) d=R:=⟨_,rfl⟩
 rw[hR]
 refine fm (KA 606898024738439798212551) func180 λw W G g=> ?_
 repeat' (first
  |refine tk ?_
  |refine CA ?_|refine an ?_ ?_|(intro Z;try simp at Z))
 refine FB (vo R n a b) (λp=>5-p.1.1) ?_ ?_
 ·exact⟨⟨(0,a+1,d),by dsimp only;omega,by dsimp only;omega,by dsimp only;omega,hn,hR⟩,[],U,OA.nil UA ⟨rfl,rfl,rfl,rfl,rfl,U⟩ ⟨pB rfl rfl,U⟩⟩
 ·rintro⟨⟨j,i0,q⟩,m1,m2,m3,m4,m5⟩
  intro F H Y hF hH hn;dsimp only[vo]at hF hH hn;subst hF hH hn
  dsimp only at m1 m2 m3 m4 m5
  repeat' (first
   |refine tk ?_
   |refine CA ?_|refine an ?_ ?_|(intro Z;try simp at Z))
  ·refine FB (wo q n a b j i0) (λi=>b-i.1) ?_ ?_
   ·exact⟨⟨i0,O,O,rfl⟩,[],U,OA.nil UA ⟨rfl,rfl,rfl,rfl,rfl,U⟩ ⟨pB rfl rfl,U⟩⟩
   ·rintro⟨i,k1,k2,k3⟩
    intro F H Y hF hH hn;dsimp only[wo]at hF hH hn;subst hF hH hn
    obtain⟨q1,WK⟩:∃q1,q1=Go.Sort.swp q i (i-1):=⟨_,rfl⟩
    obtain⟨q2,yD⟩:∃q2,q2=if i-a>=2 then Go.Sort.shiftDown kA (i-1) q1 else q1:=⟨_,rfl⟩
    have eZ:q1.size=n:=by rw[WK,swp_size];exact m4
    have Ap:q2.size=n:=by rw[yD];split;rw[dZ];exact eZ;exact eZ
    have e1:((i:Int)-1).toNat=i-1:=O
    repeat' (first
     |refine pC (x:= .seq (.region 12 _ _) _) [(0, .u (D0 n)),(1, .u (I a)),(2, .u (I b)),(7, .u (I i)),(8, .u (I j))] [(0,some (RT q2))] 1 ?_ ?_
     |refine tk ?_
     |(refine XF (f:=294) (T:=133) SL rfl (by first|rfl|exact⟨UB.refl _,rfl⟩) (by first|rfl|exact⟨UB.refl _,UB.refl _,rfl⟩) ?_;refine cA.R [0] func294 rfl rfl (λhc=>QL q m4 _ _ (by first|omega|(simp at hc;omega)) (by first|omega|(simp at hc;omega))) rfl rfl rfl wG rfl ?_)
     |(refine XF (f:=295) (T:=133) TL rfl (by first|rfl|exact⟨UB.refl _,rfl⟩) (by first|rfl|exact⟨UB.refl _,UB.refl _,rfl⟩) ?_;refine cA.T (d:=q) 0 func295 rfl rfl (λhc=>RL q m4 _ _ (by first|omega|(simp at hc;omega)) (by first|omega|(simp at hc;omega))) rfl rfl rfl (λ_=>rfl) ?_)
     |refine CA ?_|refine an ?_ ?_|(intro Z;try simp at Z))
    ·exact⟨⟨i+1,O,O,(F7 Z.1 O).symm.trans k3⟩,[],show b- (i+1)<b-i by omega,OA.nil UA ⟨rfl,rfl,rfl,rfl,rfl,U⟩ ⟨pB rfl rfl,U⟩⟩
    all_goals (have hi:i=Go.Sort.scanSorted kA q b i0:=by rw[<-k3,G7];assumption)
    all_goals (have EM:=uo (s:=4-j) (a:=a) hi)
    all_goals rw[show 4-j+1=5-j by omega,m5]at EM
    ·rw[if_pos O]at EM
     subst EM
     exact⟨[],OA.nil UA ⟨rfl,U⟩ ⟨pB rfl rfl,U⟩⟩
    ·rw[if_neg O,if_pos O]at EM
     subst EM
     exact⟨[],OA.nil UA ⟨rfl,U⟩ ⟨pB rfl rfl,U⟩⟩
    ·have fZ:q2=Go.Sort.shiftDown kA (i-1) q1:=by rw[yD,if_pos O]
     refine FB (xo q1 n a b j i) (λp=>p.1.1) ?_ ?_
     ·exact⟨⟨(i-1,q1),by dsimp only;omega,eZ,rfl⟩,[],U,OA.nil UA ⟨rfl,rfl,rfl,rfl,rfl,bB (show(i:Int)-1=((i-1:Nat):Int)by omega),U⟩ ⟨pB rfl (by show _=iA q1.toList;rw[WK];simp only[Int.toNat_natCast,e1]),U⟩⟩
     ·rintro⟨⟨t,e⟩,t1,t2,t3⟩
      intro F H Y hF hH hn;dsimp only[xo]at hF hH hn;subst hF hH hn
      dsimp only at t1 t2 t3
      have e2:((t:Int)-1).toNat=t-1:=O
      repeat' (first
       |refine tk ?_
       |(refine XF (f:=294) (T:=133) SL rfl (by first|rfl|exact⟨UB.refl _,rfl⟩) (by first|rfl|exact⟨UB.refl _,UB.refl _,rfl⟩) ?_;refine cA.R [0] func294 rfl rfl (λhc=>QL e t2 _ _ (by first|omega|(simp at hc;omega)) (by first|omega|(simp at hc;omega))) rfl rfl rfl wG rfl ?_)
       |(refine XF (f:=295) (T:=133) TL rfl (by first|rfl|exact⟨UB.refl _,rfl⟩) (by first|rfl|exact⟨UB.refl _,UB.refl _,rfl⟩) ?_;refine cA.T (d:=e) 0 func295 rfl rfl (λhc=>RL e t2 _ _ (by first|omega|(simp at hc;omega)) (by first|omega|(simp at hc;omega))) rfl rfl rfl (λ_=>rfl) ?_)
       |refine CA ?_|refine an ?_ ?_|(intro Z;try simp at Z))
      ·rw[ko (by intro _;simpa using Z)]at t3
       exact⟨[],OA.nil UA ⟨rfl,rfl,rfl,rfl,rfl,U⟩ ⟨pB rfl (by rw[fZ,<-t3]),U⟩⟩
      ·exact⟨⟨(t-1,Go.Sort.swp e t (t-1)),by dsimp only;omega,(swp_size _ _ _).trans t2,(H7 O (by simpa using Z)).symm.trans t3⟩,[],show t-1<t by omega,OA.nil UA ⟨rfl,rfl,rfl,rfl,rfl,bB (show(t:Int)-1=((t-1:Nat):Int)by omega),U⟩ ⟨pB rfl (by simp only[Int.toNat_natCast,e2]),U⟩⟩
      ·rw[ko O]at t3
       exact⟨[],OA.nil UA ⟨rfl,rfl,rfl,rfl,rfl,U⟩ ⟨pB rfl (by rw[fZ,<-t3]),U⟩⟩
    ·have fZ:q2=q1:=by rw[yD,if_neg O]
     exact⟨[],OA.nil UA ⟨rfl,rfl,rfl,rfl,rfl,U⟩ ⟨pB rfl (by rw[fZ,WK];simp only[Int.toNat_natCast,e1]),U⟩⟩
    ·rw[if_neg O,if_neg O,if_pos O,<-WK,<-yD]at EM
     refine FB (yo q2 n a b j i) (λp=>b-p.1.1) ?_ ?_
     ·exact⟨⟨(i+1,q2),by dsimp only;omega,by dsimp only;omega,Ap,rfl⟩,[],U,OA.nil UA ⟨rfl,rfl,rfl,rfl,rfl,rfl,U⟩ ⟨pB rfl rfl,U⟩⟩
     ·rintro⟨⟨t,e⟩,t1,t2,t4,t3⟩
      intro F H Y hF hH hn;dsimp only[yo]at hF hH hn;subst hF hH hn
      dsimp only at t1 t2 t3 t4
      have e2:((t:Int)-1).toNat=t-1:=O
      repeat' (first
       |refine tk ?_
       |(refine XF (f:=294) (T:=133) SL rfl (by first|rfl|exact⟨UB.refl _,rfl⟩) (by first|rfl|exact⟨UB.refl _,UB.refl _,rfl⟩) ?_;refine cA.R [0] func294 rfl rfl (λhc=>QL e t4 _ _ (by first|omega|(simp at hc;omega)) (by first|omega|(simp at hc;omega))) rfl rfl rfl wG rfl ?_)
       |(refine XF (f:=295) (T:=133) TL rfl (by first|rfl|exact⟨UB.refl _,rfl⟩) (by first|rfl|exact⟨UB.refl _,UB.refl _,rfl⟩) ?_;refine cA.T (d:=e) 0 func295 rfl rfl (λhc=>RL e t4 _ _ (by first|omega|(simp at hc;omega)) (by first|omega|(simp at hc;omega))) rfl rfl rfl (λ_=>rfl) ?_)
       |refine CA ?_|refine an ?_ ?_|(intro Z;try simp at Z))
      ·rw[po (by intro _;simpa using Z)]at t3
       exact⟨⟨(j+1,i,e),by dsimp only;omega,by dsimp only;omega,by dsimp only;omega,t4,by dsimp only;rw[EM,<-t3,show 5- (j+1)=4-j by omega]⟩,[],show 5- (j+1)<5-j by omega,OA.nil UA ⟨rfl,rfl,rfl,rfl,rfl,U⟩ ⟨pB rfl rfl,U⟩⟩
      ·exact⟨⟨(t+1,Go.Sort.swp e t (t-1)),by dsimp only;omega,by dsimp only;omega,(swp_size _ _ _).trans t4,(I7 O (by simpa using Z)).symm.trans t3⟩,[],show b- (t+1)<b-t by omega,OA.nil UA ⟨rfl,rfl,rfl,rfl,rfl,rfl,U⟩ ⟨pB rfl (by simp only[Int.toNat_natCast,e2]),U⟩⟩
      ·rw[po O]at t3
       exact⟨⟨(j+1,i,e),by dsimp only;omega,by dsimp only;omega,by dsimp only;omega,t4,by dsimp only;rw[EM,<-t3,show 5- (j+1)=4-j by omega]⟩,[],show 5- (j+1)<5-j by omega,OA.nil UA ⟨rfl,rfl,rfl,rfl,rfl,U⟩ ⟨pB rfl rfl,U⟩⟩
    ·rw[if_neg O,if_neg O,if_neg O,<-WK,<-yD]at EM
     exact⟨⟨(j+1,i,q2),by dsimp only;omega,by dsimp only;omega,by dsimp only;omega,Ap,by dsimp only;rw[EM,show 5- (j+1)=4-j by omega]⟩,[],show 5- (j+1)<5-j by omega,OA.nil UA ⟨rfl,rfl,rfl,rfl,rfl,U⟩ ⟨pB rfl rfl,U⟩⟩
  ·have hj:j=5:=O
   subst hj
   have EM:(q,false)=R:=m5
   subst EM
   exact⟨[],OA.nil UA ⟨rfl,U⟩ ⟨pB rfl rfl,U⟩⟩
end En
namespace En
open Go.RowKit
theorem gZ:Go.Sort.SWO kA:=Go.Sort.swo_ltInt
theorem Bp (d:Array Int) (a b pv:Nat) (xD:a+1<b) (Z:b<=d.size):a<(Go.Sort.partitionEqual kA d a b pv).1/\(Go.Sort.partitionEqual kA d a b pv).1<=b/\(Go.Sort.partitionEqual kA d a b pv).2.size=d.size:=by
 obtain⟨D,h2,h3,_⟩:=Go.Sort.partEqLoop_spec (lt:=kA) a b (b-1+1- (a+1)) (a+1) (b-1) (Go.Sort.swp d a pv) qA O O O (by rw[swp_size];exact Z) (λt _ _=>by omega) (λt _ _=>by omega)
 exact⟨D,h2,h3.1.trans (swp_size _ _ _)⟩
theorem Cp (d:Array Int) (a b pv:Nat) (hp:a<=pv/\pv<b) (Z:b<=d.size):a<=(Go.Sort.partition kA d a b pv).1/\(Go.Sort.partition kA d a b pv).1<b/\(Go.Sort.partition kA d a b pv).2.2.size=d.size:=by
 obtain⟨D,h2,h3,_⟩:=Go.Sort.partition_holds (lt:=kA) gZ d a b pv hp.1 hp.2 Z
 exact⟨D,h2,h3.1⟩
theorem Dp (a b:Nat):∀(s i0:Nat) (q:Array Int),(Go.Sort.partialIns kA a b s i0 q).1.size=q.size
 |0,i0,q=>rfl
 |s+1,i0,q=>by
  rw[uo (i:=Go.Sort.scanSorted kA q b i0) rfl]
  split
  ·rfl
  ·split
   ·rfl
   ·rw[Dp]
    split
    ·rw[qo b _ _ _ qA]
     split
     ·rw[dZ,swp_size]
     ·rw[swp_size]
    ·split
     ·rw[dZ,swp_size]
     ·rw[swp_size]
theorem Ep (q:Array Int) (a b lim:Nat) (wb wp:Bool) (xD:a<b) (Z:b<=q.size):
  (Go.Sort.rd kA q a b lim wb wp).d1.size=q.size/\(a<=(Go.Sort.rd kA q a b lim wb wp).c.1/\(Go.Sort.rd kA q a b lim wb wp).c.1<b)/\(Go.Sort.rd kA q a b lim wb wp).d2.size=q.size/\
  (a<=(Go.Sort.rd kA q a b lim wb wp).pivot/\(Go.Sort.rd kA q a b lim wb wp).pivot<b)/\(Go.Sort.rd kA q a b lim wb wp).pi.1.size=q.size:=by
 have p1:(Go.Sort.rd kA q a b lim wb wp).d1.size=q.size:=(Go.Sort.step_break q (Nat.le_of_lt xD) Z ((!wb)=true)).1
 have c1:a<=(Go.Sort.rd kA q a b lim wb wp).c.1/\(Go.Sort.rd kA q a b lim wb wp).c.1<b:=Go.Sort.choosePivot_holds kA (Go.Sort.rd kA q a b lim wb wp).d1 a b xD
 have p2:(Go.Sort.rd kA q a b lim wb wp).d2.size=q.size:=((Go.Sort.step_reverse Go.Sort.reverseRange_holds (Go.Sort.rd kA q a b lim wb wp).d1 (Nat.le_of_lt xD) (by rw[p1];exact Z) ((Go.Sort.rd kA q a b lim wb wp).c.2= .decreasing)).1).trans p1
 have pv:a<=(Go.Sort.rd kA q a b lim wb wp).pivot/\(Go.Sort.rd kA q a b lim wb wp).pivot<b:=Go.Sort.pivot_range c1.1 c1.2 ((Go.Sort.rd kA q a b lim wb wp).c.2= .decreasing)
 refine⟨p1,c1,p2,pv,?_⟩
 show(if(wb&&wp&&decide ((Go.Sort.rd kA q a b lim wb wp).hint= .increasing))=true then Go.Sort.partialInsertionSort kA (Go.Sort.rd kA q a b lim wb wp).d2 a b else((Go.Sort.rd kA q a b lim wb wp).d2,false)).1.size=_
 split
 ·unfold Go.Sort.partialInsertionSort;rw[Dp,p2]
 ·exact p2
theorem Fp:∀(m:Nat) (q:Array Int) (a b lim:Nat) (wb wp:Bool),b-a<=m->a<=b->b<=q.size->(Go.Sort.pdq kA q a b lim wb wp).size=q.size:=by
 intro m
 induction m with
 |zero=>
  intro q a b lim wb wp hm xD Z
  rw[Go.Sort.pdq_small O]
  exact(Go.Sort.insertionSort_holds gZ q a b xD Z).1.1
 |succ m ih=>
  intro q a b lim wb wp hm xD Z
  by_cases D:b-a<=12
  ·rw[Go.Sort.pdq_small D]
   exact(Go.Sort.insertionSort_holds gZ q a b xD Z).1.1
  ·by_cases h2:lim=0
   ·rw[Go.Sort.pdq_heap D h2]
    exact(Go.Sort.heapSort_holds gZ q a b xD Z).1.1
   ·obtain⟨_,_,_,r4,r5⟩:=Ep q a b lim wb wp O Z
    rw[Go.Sort.pdq_unfold,if_neg D,if_neg h2]
    have e1:=Bp (Go.Sort.rd kA q a b lim wb wp).pi.1 a b (Go.Sort.rd kA q a b lim wb wp).pivot O O
    have e2:=Cp (Go.Sort.rd kA q a b lim wb wp).pi.1 a b (Go.Sort.rd kA q a b lim wb wp).pivot r4 O
    split
    ·exact r5
    ·split
     ·rw[if_pos ⟨e1.1,e1.2.1⟩,ih _ _ _ _ _ _ O O O];omega
     ·rw[if_pos ⟨e2.1,e2.2.1⟩]
      split
      ·rw[ih _ _ _ _ _ _ O O (by rw[ih _ _ _ _ _ _ O O O];omega),ih _ _ _ _ _ _ O O O];omega
      ·rw[ih _ _ _ _ _ _ O O (by rw[ih _ _ _ _ _ _ O O O];omega),ih _ _ _ _ _ _ O O O];omega
end En
namespace En
open Go.RowKit Go.Proofs.Tryz
def Gp (R:Array Int) (n m:Nat):MB {p:Nat×Nat×Nat×Bool×Bool×Array Int//p.1<=p.2.1/\p.2.1<=n/\p.2.1-p.1<=m/\p.2.2.1<=100000/\p.2.2.2.2.2.size=n/\Go.Sort.pdq kA p.2.2.2.2.2 p.1 p.2.1 p.2.2.1 p.2.2.2.1 p.2.2.2.2.1=R}where
 F p:=[(0, .u (D0 n)),(1, .u (I p.1.1)),(2, .u (I p.1.2.1)),(3, .u (I p.1.2.2.1)),(8, .u (B p.1.2.2.2.1)),(9, .u (B p.1.2.2.2.2.1))]
 H p:=[(0,some (RT p.1.2.2.2.2.2))]
 n p:=1
theorem Hp {h:Go.Sort.Hint} (e:UL h=2):h= .decreasing:=by cases h<;>first|rfl|(simp[UL]at e)
theorem Ip {h:Go.Sort.Hint} (e:¬UL h=2):h≠ .decreasing:=by intro x;subst x;exact e rfl
theorem J7 {h:Go.Sort.Hint} (e:UL h=1):h= .increasing:=by cases h<;>first|rfl|(simp[UL]at e)
theorem K7 {h:Go.Sort.Hint} (e:¬UL h=1):h≠ .increasing:=by intro x;subst x;exact e rfl
theorem Jp {a pv:Nat} {q:Array Int} (h:0<a->q[a-1]! <q[pv]!):(decide (a>0)&& !kA q[a-1]! q[pv]!)=false:=by
 by_cases h0:a>0
 ·simp[h0,h h0]
 ·simp[h0]
theorem L7:∀(m:Nat) (d:Array Int) {n:Nat} (hn:d.size=n) (a b lim:Nat) (xD:a<=b) (Z:b<=n) (hm:b-a<=m) (hl:lim<=100000) (hs:n<=200),
  Fn prog 126 [D0 n,I a,I b,I lim] [(0,some (RT d))] 1 (.jA []) [(0,some (RT (Go.Sort.pdq kA d a b lim true true)))] 1:=by
 intro m
 induction m using Nat.strongRecOn with
 |_ m ih=>
 intro d n hn a b lim xD Z hm hl hs
 obtain⟨R,hR⟩:∃R,Go.Sort.pdq kA d a b lim true true=R:=⟨_,rfl⟩
 rw[hR]
 refine fm (KA 324518558499147520755656529805071) func126 λw W G g=> ?_
 repeat' (first
  |refine tk ?_
  |refine CA ?_|refine an ?_ ?_|(intro Z;try simp at Z))
 refine FB (Gp R n (b-a)) (λp=>p.1.2.1-p.1.1) ?_ ?_
 ·exact⟨⟨(a,b,lim,true,true,d),xD,Z,Nat.le_refl _,hl,hn,hR⟩,[],U,OA.nil UA ⟨rfl,rfl,rfl,rfl,rfl,rfl,U⟩ ⟨pB rfl rfl,U⟩⟩
 clear hR hn hl
 rintro⟨⟨a',b',lim,wb,wp,q⟩,m1,m2,m3,m4,m5,m6⟩
 intro F H Y hF hH hn;dsimp only[Gp]at hF hH hn;subst hF hH hn
 dsimp only at m1 m2 m3 m4 m5 m6
 by_cases c1:b'-a'<=12
 ·rw[Go.Sort.pdq_small c1]at m6
  subst m6
  repeat' (first
   |refine tk ?_
   |refine And.intro (λZ=> ?_) UD
   |(refine AB 175 ?_;refine cA.T (d:=q) 0 func175 rfl rfl (λ_=>S6 q m5 a' b' m1 m2 O) rfl rfl rfl (λ_=>rfl) ?_)
   |refine CA ?_|refine an ?_ ?_|(intro Z;try simp at Z))
  exact⟨[],OA.nil UA ⟨rfl,U⟩ ⟨pB rfl rfl,U⟩⟩
 by_cases c2:lim=0
 ·rw[Go.Sort.pdq_heap c1 c2]at m6
  subst m6
  repeat' (first
   |refine tk ?_
   |refine And.intro (λZ=> ?_) UD
   |refine And.intro UD (λZ=> ?_)
   |(refine AB 176 ?_;refine cA.T (d:=q) 0 func176 rfl rfl (λ_=>U6 q m5 a' b' O m2 O) rfl rfl rfl (λ_=>rfl) ?_)
   |refine CA ?_|refine an ?_ ?_|(intro Z;try simp at Z))
  exact⟨[],OA.nil UA ⟨rfl,U⟩ ⟨pB rfl rfl,U⟩⟩
 obtain⟨r1,r2,r3,r4,r5⟩:=Ep q a' b' lim wb wp O O
 have gG:(Go.Sort.rd kA q a' b' lim wb wp).pi.2=true->(Go.Sort.rd kA q a' b' lim wb wp).pi.1=R:=λh=>by rw[<-m6,Go.Sort.pdq_done c1 c2 h]
 have Kp:=Go.Sort.pdq_eq (lt:=kA) (wb:=wb) (wp:=wp) (d:=q) c1 c2
 have hle:=Go.Sort.pdq_left (lt:=kA) (wb:=wb) (wp:=wp) (d:=q) c1 c2
 have Lp:=Go.Sort.pdq_right (lt:=kA) (wb:=wb) (wp:=wp) (d:=q) c1 c2
 rw[m6]at Kp hle Lp
 have xO:=Go.Sort.rd_c (lt:=kA) (wb:=wb) (wp:=wp) (d:=q) (a:=a') (b:=b') (limit:=lim)
 have TN:=Go.Sort.rd_dec (lt:=kA) (wb:=wb) (wp:=wp) (d:=q) (a:=a') (b:=b') (limit:=lim)
 have Mp:=Go.Sort.rd_not (lt:=kA) (wb:=wb) (wp:=wp) (d:=q) (a:=a') (b:=b') (limit:=lim)
 have hZ:=Go.Sort.rd_pi_yes (lt:=kA) (wb:=wb) (wp:=wp) (d:=q) (a:=a') (b:=b') (limit:=lim)
 have oN:=Go.Sort.rd_pi_no (lt:=kA) (wb:=wb) (wp:=wp) (d:=q) (a:=a') (b:=b') (limit:=lim)
 have hl:=Go.Sort.rd_lim_le (lt:=kA) (wb:=wb) (wp:=wp) (d:=q) (a:=a') (b:=b') (limit:=lim)
 have vG:(Go.Sort.rd kA q a' b' lim wb wp).d1=if(!wb)=true then Go.Sort.breakPatterns q a' b' else q:=rfl
 have iZ:(Go.Sort.rd kA q a' b' lim wb wp).lim=if(!wb)=true then lim-1 else lim:=rfl
 generalize Go.Sort.rd kA q a' b' lim wb wp=r at*
 obtain⟨d1,lm,c,d2,pv,hi,pi⟩:=r
 dsimp only at*
 have g0:(b':Int)-a'=((b'-a':Nat):Int):=O
 have r2':a'<=(Go.Sort.choosePivot kA d1 a' b').1/\(Go.Sort.choosePivot kA d1 a' b').1<b':=by rw[<-xO];exact r2
 have jZ:∀{x y:Prop},(wb=true/\wp=true)/\UL hi=1->(wb&&wp&&decide (hi= .increasing))=true:=λh=>by rw[h.1.1,h.1.2,J7 h.2];rfl
 have bR:(wb=true->wp=true->¬UL hi=1)->(wb&&wp&&decide (hi= .increasing))=false:=λh=>by
  cases wb<;>cases wp<;>first|rfl|simp[K7 (h rfl rfl)]
 by_cases hp:pi.2=true
 ·skip
  repeat' (first
   |refine pC (x:= .seq (.region 7 _ _) _) [(0, .u (D0 n)),(1, .u (I a')),(2, .u (I b')),(3, .u (I lm)),(8, .u (B wb)),(9, .u (B wp)),(10, .u (I ((b'-a':Nat):Int)))] [(0,some (RT d1))] 1 ?_ ?_
   |refine pC (x:= .seq (.region 11 _ _) _) [(0, .u (D0 n)),(1, .u (I a')),(2, .u (I b')),(3, .u (I lm)),(8, .u (B wb)),(9, .u (B wp)),(10, .u (I ((b'-a':Nat):Int))),(11, .u (I pv)),(12, .u (I (UL hi)))] [(0,some (RT d2))] 1 ?_ ?_
   |refine tk ?_
   |refine And.intro UD (λZ=> ?_)
   |(refine AB 177 ?_;refine cA.T (d:=q) 0 func177 rfl rfl (λ_=>bo q m5 a' b' O m2 hs) rfl rfl rfl (λ_=>rfl) ?_)
   |refine cr 178 [0] func178 (λ_=>Vo d1 (r1.trans m5) a' b' O m2 O) wG ?_
   |(refine AB 179 ?_;refine cA.T (d:=d1) 0 func179 rfl rfl (λ_=>Uo d1 (r1.trans m5) a' b' O m2 O) rfl rfl rfl (λ_=>rfl) ?_)
   |(refine AB 180 ?_;refine cA.T (d:=d2) 0 func180 rfl rfl (λ_=>zo d2 (r3.trans m5) a' b' O m2 O) rfl rfl rfl (λ_=>rfl) ?_)
   |refine CA ?_|refine an ?_ ?_|(intro Z;try simp at Z))
  ·rw[Z,if_pos (show(!false)=true from rfl)]at vG iZ
   exact⟨[],OA.nil UA ⟨rfl,rfl,rfl,bB (show(lim:Int)-1=(lm:Int)by omega),rfl,rfl,bB g0,U⟩ ⟨pB rfl (by rw[vG]),U⟩⟩
  ·rw[Z,if_neg (show¬(!true)=true by simp)]at vG iZ
   exact⟨[],OA.nil UA ⟨rfl,rfl,rfl,bB (show(lim:Int)=(lm:Int)by omega),rfl,rfl,bB g0,U⟩ ⟨pB rfl (by rw[vG]),U⟩⟩
  ·obtain⟨e1,e2,e3⟩:=TN (Hp (by rw[xO];exact Z))
   rw[xO]at e2
   exact⟨[],OA.nil UA ⟨rfl,rfl,rfl,rfl,rfl,rfl,rfl,bB (show(b':Int)-1- ((Go.Sort.choosePivot kA d1 a' b').1-a')=(pv:Int)by omega),by rw[e3];rfl,U⟩ ⟨pB rfl (by rw[e1]),U⟩⟩
  ·obtain⟨e1,e2,e3⟩:=Mp (Ip (by rw[xO];exact Z))
   rw[xO]at e2 e3
   exact⟨[],OA.nil UA ⟨rfl,rfl,rfl,rfl,rfl,rfl,rfl,by rw[e2];rfl,by rw[e3];rfl,U⟩ ⟨pB rfl (by rw[e1]),U⟩⟩
  ·have e:=hZ (jZ (x:=True) (y:=True) (by assumption))
   have hR:=gG hp
   rw[e]at hR
   subst hR
   exact⟨[],OA.nil UA ⟨rfl,U⟩ ⟨pB rfl rfl,U⟩⟩
  ·have e:=hZ (jZ (x:=True) (y:=True) (by assumption))
   rw[e,Z]at hp;exact absurd hp (by simp)
  ·have e:=oN (bR Z)
   rw[e]at hp;exact absurd hp (by simp)
 ·have yO:pi.2=false:=by simpa using hp
  have hE:=Bp pi.1 a' b' pv O O
  have hP:=Cp pi.1 a' b' pv r4 O
  repeat' (first
   |refine pC (x:= .seq (.region 15 _ _) _) [(0, .u (D0 n)),(1, .u (I a')),(2, .u (I b')),(3, .u (I lm)),(8, .u (B wb)),(9, .u (B wp)),(10, .u (I ((b'-a':Nat):Int))),(11, .u (I pv))] [(0,some (RT pi.1))] 1 ?_ ?_
   |refine pC (x:= .seq (.region 7 _ _) _) [(0, .u (D0 n)),(1, .u (I a')),(2, .u (I b')),(3, .u (I lm)),(8, .u (B wb)),(9, .u (B wp)),(10, .u (I ((b'-a':Nat):Int)))] [(0,some (RT d1))] 1 ?_ ?_
   |refine pC (x:= .seq (.region 11 _ _) _) [(0, .u (D0 n)),(1, .u (I a')),(2, .u (I b')),(3, .u (I lm)),(8, .u (B wb)),(9, .u (B wp)),(10, .u (I ((b'-a':Nat):Int))),(11, .u (I pv)),(12, .u (I (UL hi)))] [(0,some (RT d2))] 1 ?_ ?_
   |refine tk ?_
   |(refine XF (f:=294) (T:=133) SL rfl (by first|rfl|exact⟨UB.refl _,rfl⟩) (by first|rfl|exact⟨UB.refl _,UB.refl _,rfl⟩) ?_;refine cA.R [0] func294 rfl rfl (λhc=>QL pi.1 (r5.trans m5) _ _ (by first|omega|(simp at hc;omega)) (by first|omega|(simp at hc;omega))) rfl rfl rfl wG rfl ?_)
   |(refine AB 181 ?_;refine cA.T (d:=pi.1) 0 func181 rfl rfl (λ_=>E7 pi.1 (r5.trans m5) a' b' pv O m2 r4 O) rfl rfl rfl (λ_=>rfl) ?_)
   |(refine AB 182 ?_;refine cA.T (d:=pi.1) 0 func182 rfl rfl (λ_=>C7 pi.1 (r5.trans m5) a' b' pv O m2 r4 O) rfl rfl rfl (λ_=>rfl) ?_)
   |refine And.intro UD (λZ=> ?_)
   |(refine AB 177 ?_;refine cA.T (d:=q) 0 func177 rfl rfl (λ_=>bo q m5 a' b' O m2 hs) rfl rfl rfl (λ_=>rfl) ?_)
   |refine cr 178 [0] func178 (λ_=>Vo d1 (r1.trans m5) a' b' O m2 O) wG ?_
   |(refine AB 179 ?_;refine cA.T (d:=d1) 0 func179 rfl rfl (λ_=>Uo d1 (r1.trans m5) a' b' O m2 O) rfl rfl rfl (λ_=>rfl) ?_)
   |(refine AB 180 ?_;refine cA.T (d:=d2) 0 func180 rfl rfl (λ_=>zo d2 (r3.trans m5) a' b' O m2 O) rfl rfl rfl (λ_=>rfl) ?_)
   |refine CA ?_|refine an ?_ ?_|(intro Z;try simp at Z))
  ·rw[Z,if_pos (show(!false)=true from rfl)]at vG iZ
   exact⟨[],OA.nil UA ⟨rfl,rfl,rfl,bB (show(lim:Int)-1=(lm:Int)by omega),rfl,rfl,bB g0,U⟩ ⟨pB rfl (by rw[vG]),U⟩⟩
  ·rw[Z,if_neg (show¬(!true)=true by simp)]at vG iZ
   exact⟨[],OA.nil UA ⟨rfl,rfl,rfl,bB (show(lim:Int)=(lm:Int)by omega),rfl,rfl,bB g0,U⟩ ⟨pB rfl (by rw[vG]),U⟩⟩
  ·obtain⟨e1,e2,e3⟩:=TN (Hp (by rw[xO];exact Z))
   rw[xO]at e2
   exact⟨[],OA.nil UA ⟨rfl,rfl,rfl,rfl,rfl,rfl,rfl,bB (show(b':Int)-1- ((Go.Sort.choosePivot kA d1 a' b').1-a')=(pv:Int)by omega),by rw[e3];rfl,U⟩ ⟨pB rfl (by rw[e1]),U⟩⟩
  ·obtain⟨e1,e2,e3⟩:=Mp (Ip (by rw[xO];exact Z))
   rw[xO]at e2 e3
   exact⟨[],OA.nil UA ⟨rfl,rfl,rfl,rfl,rfl,rfl,rfl,by rw[e2];rfl,by rw[e3];rfl,U⟩ ⟨pB rfl (by rw[e1]),U⟩⟩
  ·have e:=hZ (jZ (x:=True) (y:=True) (by assumption))
   rw[e]at hp;exact absurd Z hp
  ·have e:=hZ (jZ (x:=True) (y:=True) (by assumption))
   exact⟨[],OA.nil UA ⟨rfl,rfl,rfl,rfl,rfl,rfl,rfl,rfl,U⟩ ⟨pB rfl (by rw[e]),U⟩⟩
  ·have e:=oN (bR Z)
   exact⟨[],OA.nil UA ⟨rfl,rfl,rfl,rfl,rfl,rfl,rfl,rfl,U⟩ ⟨pB rfl (by rw[e]),U⟩⟩
  ·have hx:=Kp yO (by simp[Z.1];omega) ⟨hE.1,hE.2.1⟩
   exact⟨⟨((Go.Sort.partitionEqual kA pi.1 a' b' pv).1,b',lm,wb,wp,(Go.Sort.partitionEqual kA pi.1 a' b' pv).2),by dsimp only;omega,by dsimp only;omega,by dsimp only;omega,by dsimp only;omega,by dsimp only;omega,hx.symm⟩,[],show b'- (Go.Sort.partitionEqual kA pi.1 a' b' pv).1<b'-a' by omega,OA.nil UA ⟨rfl,rfl,rfl,rfl,rfl,rfl,U⟩ ⟨pB rfl rfl,U⟩⟩
  ·have hx:=hle yO (Jp (by assumption)) ⟨hP.1,hP.2.1⟩ O
   have hz:=Fp ((Go.Sort.partition kA pi.1 a' b' pv).1-a') (Go.Sort.partition kA pi.1 a' b' pv).2.2 a' (Go.Sort.partition kA pi.1 a' b' pv).1 lm true true O O O
   have je:decide (((b'-a':Nat):Int)/8<=((Go.Sort.partition kA pi.1 a' b' pv).1:Int)-a')=decide ((Go.Sort.partition kA pi.1 a' b' pv).1-a'>=(b'-a')/8):=by congr 1;apply propext;omega
   repeat' (first
    |refine tk ?_
    |(refine AB 126 ?_;refine cA.T (d:=(Go.Sort.partition kA pi.1 a' b' pv).2.2) 0 func126 rfl rfl (λ_=>ih ((Go.Sort.partition kA pi.1 a' b' pv).1-a') O (Go.Sort.partition kA pi.1 a' b' pv).2.2 (n:=n) O a' (Go.Sort.partition kA pi.1 a' b' pv).1 lm O O qA O hs) rfl rfl rfl (λ_=>rfl) ?_)
    |refine CA ?_|refine an ?_ ?_|(intro Z;try simp at Z))
   exact⟨⟨((Go.Sort.partition kA pi.1 a' b' pv).1+1,b',lm,decide ((Go.Sort.partition kA pi.1 a' b' pv).1-a'>=(b'-a')/8),(Go.Sort.partition kA pi.1 a' b' pv).2.1,Go.Sort.pdq kA (Go.Sort.partition kA pi.1 a' b' pv).2.2 a' (Go.Sort.partition kA pi.1 a' b' pv).1 lm true true),by dsimp only;omega,by dsimp only;omega,by dsimp only;omega,by dsimp only;omega,by dsimp only;omega,hx.symm⟩,[],show b'- ((Go.Sort.partition kA pi.1 a' b' pv).1+1)<b'-a' by omega,OA.nil UA ⟨rfl,bB (show((Go.Sort.partition kA pi.1 a' b' pv).1:Int)+1=(((Go.Sort.partition kA pi.1 a' b' pv).1+1:Nat):Int)by omega),rfl,rfl,wL je,rfl,U⟩ ⟨pB rfl rfl,U⟩⟩
  ·have hx:=Lp yO (Jp (by assumption)) ⟨hP.1,hP.2.1⟩ O
   have hz:=Fp (b'- ((Go.Sort.partition kA pi.1 a' b' pv).1+1)) (Go.Sort.partition kA pi.1 a' b' pv).2.2 ((Go.Sort.partition kA pi.1 a' b' pv).1+1) b' lm true true O O O
   have je:decide (((b'-a':Nat):Int)/8<=(b':Int)- ((Go.Sort.partition kA pi.1 a' b' pv).1:Int))=decide (b'- (Go.Sort.partition kA pi.1 a' b' pv).1>=(b'-a')/8):=by congr 1;apply propext;omega
   repeat' (first
    |refine tk ?_
    |(refine AB 126 ?_;refine cA.T (d:=(Go.Sort.partition kA pi.1 a' b' pv).2.2) 0 func126 rfl rfl (λ_=>ih (b'- ((Go.Sort.partition kA pi.1 a' b' pv).1+1)) O (Go.Sort.partition kA pi.1 a' b' pv).2.2 (n:=n) O ((Go.Sort.partition kA pi.1 a' b' pv).1+1) b' lm O O qA O hs) rfl rfl rfl (λ_=>rfl) ?_)
    |refine CA ?_|refine an ?_ ?_|(intro Z;try simp at Z))
   exact⟨⟨(a',(Go.Sort.partition kA pi.1 a' b' pv).1,lm,decide (b'- (Go.Sort.partition kA pi.1 a' b' pv).1>=(b'-a')/8),(Go.Sort.partition kA pi.1 a' b' pv).2.1,Go.Sort.pdq kA (Go.Sort.partition kA pi.1 a' b' pv).2.2 ((Go.Sort.partition kA pi.1 a' b' pv).1+1) b' lm true true),by dsimp only;omega,by dsimp only;omega,by dsimp only;omega,by dsimp only;omega,by dsimp only;omega,hx.symm⟩,[],show(Go.Sort.partition kA pi.1 a' b' pv).1-a'<b'-a' by omega,OA.nil UA ⟨rfl,rfl,rfl,rfl,wL je,rfl,U⟩ ⟨pB rfl rfl,U⟩⟩
theorem M7 (v:Value) (w:World):(method (prog.types.size+Made.depth) 133 v "Len").run prog w= .ok (293,v) w:=by kernel_rfl
theorem N7 {d:Array Int} (h:d.size<=1):Go.Sort.pdq kA d 0 d.size (Go.Sort.bitsLen d.size) true true=d:=by
 have e:=Go.Sort.sortInt d.toList
 rw[Array.toArray_toList]at e
 apply Array.ext'
 refine Eq.trans e ?_
 obtain⟨l⟩:=d
 match l,h with
 |[],_=>simp
 |[x],_=>simp
theorem O7 (d:Array Int) (hs:d.size<=200):Fn prog 82 [D0 d.size] [(0,some (RT d))] 1 (.jA []) [(0,some (RT (Go.Sort.pdq kA d 0 d.size (Go.Sort.bitsLen d.size) true true)))] 1:=by
 have Z:=Yo d.size O
 refine fm (KA 141) func82 λw W G g=> ?_
 repeat' (first
  |refine tk ?_
  |(refine XF (f:=293) (T:=133) M7 rfl (by first|rfl|exact⟨UB.refl _,rfl⟩) (by first|rfl|exact⟨UB.refl _,UB.refl _,rfl⟩) ?_;refine cA.R [0] func293 rfl rfl (λ_=>O6 d.size) rfl rfl rfl (λ_=>U) rfl ?_)
  |refine cz 125 func125 (λ_=>Xo d.size O) ?_
  |(refine AB 126 ?_;refine cA.T (d:=d) 0 func126 rfl rfl (λ_=>L7 d.size d rfl 0 d.size (Go.Sort.bitsLen d.size) O O O O hs) rfl rfl rfl (λ_=>rfl) ?_)
  |refine CA ?_|refine an ?_ ?_|(intro Z;try simp at Z))
 ·rw[N7 O]
  exact⟨[],OA.nil UA ⟨rfl,U⟩ ⟨pB rfl rfl,U⟩⟩
 ·exact⟨[],OA.nil UA ⟨rfl,U⟩ ⟨pB rfl rfl,U⟩⟩
theorem bW (zs:List Int) {n:Nat} (hn:zs.length=n) (hs:n<=200):Fn prog 82 [D0 n] [(0,some (.X 2 51 (iA zs)))] 1 (.jA []) [(0,some (.X 2 51 (iA (zs.mergeSort λx y=>decide (x<=y)))))] 1:=by
 subst hn
 have h:=O7 zs.toArray (by simpa using hs)
 have e:=Go.Sort.sortInt zs
 unfold RT at h
 have e':(Go.Sort.pdq kA zs.toArray 0 zs.toArray.size (Go.Sort.bitsLen zs.toArray.size) true true).toList=zs.mergeSort λx y=>decide (x<=y):=e
 rw[e']at h
 simpa using h
end En
end Go.Proofs.YtkidgehblodbcaaGreatDoor
