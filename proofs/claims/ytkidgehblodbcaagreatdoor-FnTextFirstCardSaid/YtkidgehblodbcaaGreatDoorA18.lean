/- A part of the proof of FnTextFirst: functions of the reference, walked. -/
import Derived.Test.YtkidgehblodbcaaGreatDoorA05
import Derived.Test.YtkidgehblodbcaaGreatDoorA12
set_option linter.all false
set_option maxRecDepth 100000
set_option maxHeartbeats 16000000
namespace Go.Proofs.YtkidgehblodbcaaGreatDoor
namespace En
open Go.RowKit Go.Proofs.Tryz
def dI (n h m:Int) (ss:List Int):List Int:=ss.map λs=>n*86400+h*3600+m*60+s
def mG (n h:Int) (ms ss:List Int):List Int:=ms.flatMap λm=>dI n h m ss
def WG (n:Int) (hs ms ss:List Int):List Int:=hs.flatMap λh=>mG n h ms ss
theorem GAA (n:Int) (hs ms ss:List Int):WG n hs ms ss=(kF hs ms ss).map λt=>n*86400+t:=by
 unfold WG mG dI kF
 rw[List.map_flatMap]
 refine xT λh _=> ?_
 rw[List.map_flatMap]
 refine xT λm _=> ?_
 rw[List.map_map]
 exact List.map_congr_left λs _=>by show n*86400+h*3600+m*60+s=n*86400+(h*3600+m*60+s);omega
theorem jf {f:Int->List Int} {l:List Int} {q:Nat} (h:q<l.length):(l.take (q+1)).flatMap f=(l.take q).flatMap f++f (l.getD q 0):=by
 rw[List.take_succ_eq_append_getElem h,List.flatMap_append,List.getD_eq_getElem?_getD,List.getElem?_eq_getElem h];simp
theorem HAA {f:Int->Int} {l:List Int} {q:Nat} (h:q<l.length):(l.take (q+1)).map f=(l.take q).map f++[f (l.getD q 0)]:=by
 rw[List.take_succ_eq_append_getElem h,List.map_append,List.getD_eq_getElem?_getD,List.getElem?_eq_getElem h];simp
theorem Ka {f:Int->List Int} {K:Nat} (hf:∀x,(f x).length<=K):∀l:List Int,(l.flatMap f).length<=l.length*K
 |[]=>by simp
 |a::l=>by
  have:=Ka hf l
  have:=hf a
  rw[List.flatMap_cons,List.length_append,List.length_cons,Nat.succ_mul];omega
theorem La {l:List Int} (h:l.length<=12) (q:Nat):(l.take q).length<=12:=by rw[List.length_take];omega
theorem Rr {n h:Int} {ms ss:List Int} (D:ms.length<=12) (h2:ss.length<=12):(mG n h ms ss).length<=144:=by
 have:=Ka (f:=λm=>dI n h m ss) (K:=12) (λm=>by unfold dI;rw[List.length_map];exact h2) ms
 unfold mG;omega
theorem Sr {n:Int} {hs ms ss:List Int} (h0:hs.length<=12) (D:ms.length<=12) (h2:ss.length<=12):(WG n hs ms ss).length<=1728:=by
 have:=Ka (f:=λh=>mG n h ms ss) (K:=144) (λh=>Rr D h2) hs
 unfold WG;omega
structure DS where
 last:Int
 ok:Bool
 n:Int
 hs:List Int
 ms:List Int
 ss:List Int
 y:Int
 m:Int
 d:Int
abbrev bJ (x:DS) (out:List Int):FS:=[(9, .u (.s 18 0 out.length)),(2, .u (.p 10 0)),(7, .u (I x.last)),(8, .u (B x.ok)),(10, .u (.s 11 0 x.hs.length)),(11, .u (.s 13 0 x.ms.length)),(12, .u (.s 15 0 x.ss.length)),(13, .u (.p 17 0)),(14, .u (I x.n))]
abbrev cJ (r:MA) (x:DS) (out:List Int):HS:=(18,some (.X 1 2 (A out)))::jB 0 r++[(10,some (.st (EC 0 r))),(11,some (.X 1 3 (A x.hs))),(13,some (.X 1 3 (A x.ms))),(15,some (.X 1 3 (A x.ss))),(17,some (.st (A [x.y,x.m,x.d])))]
structure Ma (x:DS):Prop where
 n:0<=x.n/\x.n<=4000000
 hs:x.hs.length<=12/\∀h∈x.hs,0<=h/\h<=23
 ms:x.ms.length<=12/\∀h∈x.ms,0<=h/\h<=59
 ss:x.ss.length<=12/\∀h∈x.ss,0<=h/\h<=59
theorem NX {l:List Int} {P:Int->Prop} (h:∀x∈l,P x) {q:Nat} (hq:q<l.length):P (l.getD q 0):=by
 rw[List.getD_eq_getElem?_getD,List.getElem?_eq_getElem hq];exact h _ (List.getElem_mem hq)
def Tr (r:MA) (x:DS) (out:List Int) (q1 q2:Nat) (h m:Int):MB {q:Nat//q<=x.ss.length}where
 F q:=bJ x (out++dI x.n h m (x.ss.take q.1))++[(87, .u (.s 11 0 x.hs.length)),(88, .u (I x.hs.length)),(89, .u (I q1)),(17, .u (I h)),(93, .u (.s 13 0 x.ms.length)),(94, .u (I x.ms.length)),(95, .u (I q2)),(19, .u (I m)),(99, .u (.s 15 0 x.ss.length)),(100, .u (I x.ss.length)),(101, .u (I q.1))]
 H q:=cJ r x (out++dI x.n h m (x.ss.take q.1))
 n q:=19
theorem IAA {w:World} {W:Nat->Prop} {G:wA} {g:GW w W} {Q:QT} (r:MA) (x:DS) (hx:Ma x) (out:List Int) (ho:out.length<=10000) (q1 q2:Nat) (h m:Int) (hh:0<=h/\h<=23) (hm:0<=m/\m<=59):
  En.T (cx w W f63.ntmps (KA KR) 10 G g) ((f63.body.bind (ID 22)).getD .skip) (bJ x out++[(87, .u (.s 11 0 x.hs.length)),(88, .u (I x.hs.length)),(89, .u (I q1)),(17, .u (I h)),(93, .u (.s 13 0 x.ms.length)),(94, .u (I x.ms.length)),(95, .u (I q2)),(19, .u (I m))]) (cJ r x out) 19
   (yE (cx w W f63.ntmps (KA KR) 10 G g) (bJ x (out++dI x.n h m x.ss)++[(87, .u (.s 11 0 x.hs.length)),(88, .u (I x.hs.length)),(89, .u (I q1)),(17, .u (I h)),(93, .u (.s 13 0 x.ms.length)),(94, .u (I x.ms.length)),(95, .u (I q2))]) (cJ r x (out++dI x.n h m x.ss)) 19 Q):=by
 have hxn:=hx.n
 have oB:=hx.ss.1
 repeat' (first
  |refine tk ?_
  |refine CA ?_|refine an ?_ ?_|(intro Z;try simp at Z))
 refine FB (Tr r x out q1 q2 h m) (λq=>x.ss.length-q.1) ?_ ?_
 ·have e0:out++dI x.n h m (x.ss.take 0)=out:=by simp[dI]
  refine⟨⟨0,Nat.zero_le _⟩,[],U,?_⟩
  show OA _ [] _ _ _ (bJ x (out++dI x.n h m (x.ss.take 0))++_) (cJ r x (out++dI x.n h m (x.ss.take 0))) 19
  rw[e0];exact eN eF eH
 ·rintro⟨q,hq⟩
  intro F H Y hF hH hn;dsimp only[Tr]at hF hH hn;subst hF hH hn
  have ej:0+(q:Int).toNat*1=q:=O
  have hlen:(out++dI x.n h m (x.ss.take q)).length=out.length+q:=by rw[List.length_append];unfold dI;rw[List.length_map,List.length_take];omega
  have hs:q<x.ss.length->0<=x.ss.getD (0+(q:Int).toNat*1) 0/\x.ss.getD (0+(q:Int).toNat*1) 0<=59:=λfA=>by rw[ej];exact NX hx.ss.2 fA
  repeat' (first
   |refine tk ?_
   |refine cz 109 func109 (λ_=>pk x.n h m (x.ss.getD (0+(q:Int).toNat*1) 0) O O O (by have:=hs O;omega)) ?_
   |refine⟨by simp[JD,rC],wE,O,xE,λ_=>⟨by show _*8<=_;omega,by simp only[maxLen];omega⟩,?_⟩
   |refine CA ?_|refine an ?_ ?_|(intro Z;try simp at Z))
  ·have yD:q<x.ss.length:=by assumption
   have e:out++dI x.n h m (x.ss.take (q+1))=(out++dI x.n h m (x.ss.take q))++[x.n*86400+h*3600+m*60+x.ss.getD (0+(q:Int).toNat*1) 0]:=by rw[List.append_assoc];unfold dI;rw[HAA yD,ej]
   exact⟨⟨q+1,O⟩,[(18,20)],show x.ss.length- (q+1)<x.ss.length-q by omega,eL [(18,20)] ⟨nC (by rw[e];simp;omega),eF⟩ ⟨gA rfl (by rw[e,<-jP,List.take_of_length_le (by simp[JD])];simp[A,DA.cells]),eH⟩⟩
  ·have yD:q=x.ss.length:=O
   subst yD
   rw[List.take_length]
   exact⟨[],eN eF eH⟩
def Ur (r:MA) (x:DS) (out:List Int) (q1:Nat) (h:Int):MB {q:Nat//q<=x.ms.length}where
 F q:=bJ x (out++mG x.n h (x.ms.take q.1) x.ss)++[(87, .u (.s 11 0 x.hs.length)),(88, .u (I x.hs.length)),(89, .u (I q1)),(17, .u (I h)),(93, .u (.s 13 0 x.ms.length)),(94, .u (I x.ms.length)),(95, .u (I q.1))]
 H q:=cJ r x (out++mG x.n h (x.ms.take q.1) x.ss)
 n q:=19
theorem JAA {w:World} {W:Nat->Prop} {G:wA} {g:GW w W} {Q:QT} (r:MA) (x:DS) (hx:Ma x) (out:List Int) (ho:out.length<=9000) (q1:Nat) (h:Int) (hh:0<=h/\h<=23):
  En.T (cx w W f63.ntmps (KA KR) 10 G g) ((f63.body.bind (ID 19)).getD .skip) (bJ x out++[(87, .u (.s 11 0 x.hs.length)),(88, .u (I x.hs.length)),(89, .u (I q1)),(17, .u (I h))]) (cJ r x out) 19
   (yE (cx w W f63.ntmps (KA KR) 10 G g) (bJ x (out++mG x.n h x.ms x.ss)++[(87, .u (.s 11 0 x.hs.length)),(88, .u (I x.hs.length)),(89, .u (I q1))]) (cJ r x (out++mG x.n h x.ms x.ss)) 19 Q):=by
 have MK:=hx.ms.1
 repeat' (first
  |refine tk ?_
  |refine CA ?_|refine an ?_ ?_|(intro Z;try simp at Z))
 refine FB (Ur r x out q1 h) (λq=>x.ms.length-q.1) ?_ ?_
 ·have e0:out++mG x.n h (x.ms.take 0) x.ss=out:=by simp[mG]
  refine⟨⟨0,Nat.zero_le _⟩,[],U,?_⟩
  show OA _ [] _ _ _ (bJ x (out++mG x.n h (x.ms.take 0) x.ss)++_) (cJ r x (out++mG x.n h (x.ms.take 0) x.ss)) 19
  rw[e0];exact eN eF eH
 ·rintro⟨q,hq⟩
  intro F H Y hF hH hn;dsimp only[Ur]at hF hH hn;subst hF hH hn
  have ej:0+(q:Int).toNat*1=q:=O
  have hlen:=Rr (n:=x.n) (h:=h) (La MK q) hx.ss.1
  have kf:(out++mG x.n h (x.ms.take q) x.ss).length=out.length+(mG x.n h (x.ms.take q) x.ss).length:=List.length_append
  by_cases fA:q<x.ms.length
  ·have yM:=NX hx.ms.2 fA
   repeat' (first
    |refine FQ (x:= .seq (.region 22 _ _) _) (IAA r x hx (out++mG x.n h (x.ms.take q) x.ss) O q1 q h (x.ms.getD (0+(q:Int).toNat*1) 0) hh (by rw[ej];exact yM)) (eN eF eH) ?_
    |refine tk ?_
    |refine CA ?_|refine an ?_ ?_|(intro Z;try simp at Z))
   ·have e:out++mG x.n h (x.ms.take (q+1)) x.ss=(out++mG x.n h (x.ms.take q) x.ss)++dI x.n h (x.ms.getD (0+(q:Int).toNat*1) 0) x.ss:=by rw[List.append_assoc];unfold mG;rw[jf fA,ej]
    refine⟨⟨q+1,O⟩,[],show x.ms.length- (q+1)<x.ms.length-q by omega,?_⟩
    show OA _ [] _ _ _ (bJ x (out++mG x.n h (x.ms.take (q+1)) x.ss)++_) (cJ r x (out++mG x.n h (x.ms.take (q+1)) x.ss)) 19
    rw[e];exact eN eF eH
   all_goals (exfalso;omega)
  ·have yD:q=x.ms.length:=O
   subst yD
   rw[List.take_length]at*
   repeat' (first
    |refine tk ?_
    |refine CA ?_|refine an ?_ ?_|(intro Z;try simp at Z))
   all_goals first|(exfalso;omega)|exact⟨[],eN eF eH⟩
def Vr (r:MA) (x:DS) (out:List Int):MB {q:Nat//q<=x.hs.length}where
 F q:=bJ x (out++WG x.n (x.hs.take q.1) x.ms x.ss)++[(87, .u (.s 11 0 x.hs.length)),(88, .u (I x.hs.length)),(89, .u (I q.1))]
 H q:=cJ r x (out++WG x.n (x.hs.take q.1) x.ms x.ss)
 n q:=19
theorem KAA {w:World} {W:Nat->Prop} {G:wA} {g:GW w W} {Q:QT} (r:MA) (x:DS) (hx:Ma x) (out:List Int) (ho:out.length<=4000):
  En.T (cx w W f63.ntmps (KA KR) 10 G g) ((f63.body.bind (ID 16)).getD .skip) (bJ x out) (cJ r x out) 19
   (yE (cx w W f63.ntmps (KA KR) 10 G g) (bJ x (out++WG x.n x.hs x.ms x.ss)) (cJ r x (out++WG x.n x.hs x.ms x.ss)) 19 Q):=by
 have hhl:=hx.hs.1
 repeat' (first
  |refine tk ?_
  |refine CA ?_|refine an ?_ ?_|(intro Z;try simp at Z))
 refine FB (Vr r x out) (λq=>x.hs.length-q.1) ?_ ?_
 ·have e0:out++WG x.n (x.hs.take 0) x.ms x.ss=out:=by simp[WG]
  refine⟨⟨0,Nat.zero_le _⟩,[],U,?_⟩
  show OA _ [] _ _ _ (bJ x (out++WG x.n (x.hs.take 0) x.ms x.ss)++_) (cJ r x (out++WG x.n (x.hs.take 0) x.ms x.ss)) 19
  rw[e0];exact eN eF eH
 ·rintro⟨q,hq⟩
  intro F H Y hF hH hn;dsimp only[Vr]at hF hH hn;subst hF hH hn
  have ej:0+(q:Int).toNat*1=q:=O
  have hlen:=Sr (n:=x.n) (La hhl q) hx.ms.1 hx.ss.1
  have kf:(out++WG x.n (x.hs.take q) x.ms x.ss).length=out.length+(WG x.n (x.hs.take q) x.ms x.ss).length:=List.length_append
  by_cases fA:q<x.hs.length
  ·have yM:=NX hx.hs.2 fA
   repeat' (first
    |refine FQ (x:= .seq (.region 19 _ _) _) (JAA r x hx (out++WG x.n (x.hs.take q) x.ms x.ss) O q (x.hs.getD (0+(q:Int).toNat*1) 0) (by rw[ej];exact yM)) (eN eF eH) ?_
    |refine tk ?_
    |refine CA ?_|refine an ?_ ?_|(intro Z;try simp at Z))
   ·have e:out++WG x.n (x.hs.take (q+1)) x.ms x.ss=(out++WG x.n (x.hs.take q) x.ms x.ss)++mG x.n (x.hs.getD (0+(q:Int).toNat*1) 0) x.ms x.ss:=by rw[List.append_assoc];unfold WG;rw[jf fA,ej]
    refine⟨⟨q+1,O⟩,[],show x.hs.length- (q+1)<x.hs.length-q by omega,?_⟩
    show OA _ [] _ _ _ (bJ x (out++WG x.n (x.hs.take (q+1)) x.ms x.ss)++_) (cJ r x (out++WG x.n (x.hs.take (q+1)) x.ms x.ss)) 19
    rw[e];exact eN eF eH
   all_goals (exfalso;omega)
  ·have yD:q=x.hs.length:=O
   subst yD
   rw[List.take_length]at*
   repeat' (first
    |refine tk ?_
    |refine CA ?_|refine an ?_ ?_|(intro Z;try simp at Z))
   all_goals first|(exfalso;omega)|exact⟨[],eN eF eH⟩
theorem LAA (n:Int):(oA (n+1),KB (n+1),JC (n+1))=if JC n+1>fB (oA n) (KB n)then(if KB n+1>12 then(oA n+1,1,1)else(oA n,KB n+1,1))else(oA n,KB n,JC n+1):=by
 obtain⟨y,hy⟩:∃y,y=oA n:=⟨_,rfl⟩
 obtain⟨m,hm⟩:∃m,m=KB n:=⟨_,rfl⟩
 obtain⟨d,hd⟩:∃d,d=JC n:=⟨_,rfl⟩
 have DG:1<=m/\m<=12:=by rw[hm];exact OI _ _
 have ZD:1<=d/\d<=fB y m:=by rw[hd,hy,hm];exact mM n
 have hn:NA y m d=n:=by rw[hy,hm,hd];exact iP n
 rw[<-hy,<-hm,<-hd]
 have fin:∀y' m' d',(1<=m'/\m'<=12)->(1<=d'/\d'<=fB y' m')->NA y' m' d'=n+1->(oA (n+1),KB (n+1),JC (n+1))=(y',m',d'):=λy' m' d' D h2 h3=>by
  obtain⟨e1,e2,e3,e4⟩:=dN D h2
  rw[<-h3,e1,e3,e4]
 have uG:=FL (y:=y) DG.1 DG.2
 split
 ·rename_i D
  split
  ·rename_i h2
   have:m=12:=O
   subst this
   rw[show(12:Int)+1=13 by omega,cN]at uG
   have:= @OG (y+1) 1
   exact fin _ _ _ O O (by unfold NA at hn⊢;rw[lO,NG];omega)
  ·have:= @OG y (m+1)
   exact fin _ _ _ O O (by unfold NA at hn⊢;omega)
 ·exact fin _ _ _ DG O (by unfold NA at hn⊢;omega)
abbrev FP (r:MA) (last:Int) (ok:Bool) (n n':Int):DS:=⟨last,ok,n,nB r.SA,nB r.PA,nB r.RA,oA n',KB n',JC n'⟩
def Wr (r:MA) (last:Int) (ok:Bool) (L:List Int):MB {s:Nat×Int×List Int//s.2.2.length<=3800/\0<=s.2.1/\(ok=true->(0<r.sA.length->365<=s.2.1)/\last<=3900000/\s.1=(last+1-s.2.1).toNat/\BN r (VJ r) s.1 s.2.1 s.2.2=L)/\(ok=false->s.2.2=L)}where
 F s:=bJ (FP r last ok s.1.2.1 s.1.2.1) s.1.2.2
 H s:=cJ r (FP r last ok s.1.2.1 s.1.2.1) s.1.2.2
 n s:=19
theorem MAA (r:MA) (h:r.Ok) (t:tH r) (k:Nat) (hk:(k:Int)<=OH r.BA) (h0:0<=(NC r k).1/\(NC r k).1<=300000000) (hw:0<r.sA.length->365<=(NC r k).1) (D:(NC r k).2.2=true->(NC r k).2.1<=3900000):
  Fn prog 63 [.agg (EC 0 r),I k] (jB 0 r++[]) 10 (.jA [.s 10 0 (lK r (VJ r) k).length,B (NC r k).2.2]) [(10,some (.X 1 2 (A (lK r (VJ r) k))))] 11:=by
 have BD:=h.fits
 obtain⟨L,hL⟩:∃L,L=lK r (VJ r) k:=⟨_,rfl⟩
 rw[<-hL]
 have hmx:(if 0>(NC r k).1 then 0 else(NC r k).1)=(NC r k).1:=if_neg O
 refine fm (KA KR) func63 λw W G g=> ?_
 repeat' (first
  |refine tk ?_
  |refine cr 34 [0,1,2,3,4,5,6,7,8,9] func34 (λ_=>zk r h k ⟨O,hk⟩) (λ_=>ME O rfl rfl rfl rfl rfl rfl rfl rfl rfl rfl U) ?_
  |(refine AB 107 ?_;refine cA.N [6] func107 rfl rfl (λ_=>iO r.SA t.lh t.hn) rfl rfl rfl (λ_=>⟨mS,U⟩) ?_)
  |(refine AB 107 ?_;refine cA.N [7] func107 rfl rfl (λ_=>iO r.PA t.lm t.mn) rfl rfl rfl (λ_=>⟨mS,U⟩) ?_)
  |(refine AB 107 ?_;refine cA.N [8] func107 rfl rfl (λ_=>iO r.RA t.ls t.sn) rfl rfl rfl (λ_=>⟨mS,U⟩) ?_)
  |refine cz 62 func62 (λ_=>tV _ O) ?_
  |refine CA ?_|refine an ?_ ?_|(intro Z;try simp at Z))
 refine aG 9 1 2 rfl ?_
 rw[hmx]
 refine FB (Wr r (NC r k).2.1 (NC r k).2.2 L) (λs=>s.1.1) ?_ ?_
 ·refine⟨⟨(((NC r k).2.1+1- (NC r k).1).toNat,(NC r k).1,[]),by simp,by show 0<=(NC r k).1;omega,λho=>⟨hw,D ho,rfl,?_⟩,λho=> ?_⟩,[],U,eN eF eH⟩
  ·rw[hL];unfold lK;rw[if_pos ho,show max (NC r k).1 0=(NC r k).1 by omega]
  ·rw[hL];unfold lK;rw[if_neg (by rw[ho];decide)]
 ·rintro⟨⟨m,n,out⟩,g1,g2,g3,g4⟩
  intro F H Y hF hH hn;dsimp only[Wr]at hF hH hn;subst hF hH hn
  dsimp only at g1 g2 g3 g4
  generalize (NC r k).2.1=last at*
  generalize (NC r k).2.2=ok at*
  by_cases BS:ok=true/\n<=last/\out.length<=2000
  ·obtain⟨ho,hl,hlen⟩:=BS
   obtain⟨i1,i2,i3,i4⟩:=g3 ho
   obtain⟨m,rfl⟩:∃m',m=m'+1:=⟨m-1,O⟩
   unfold BN at i4
   rw[if_neg O]at i4
   have hx:Ma (FP r last ok n (n+1)):=⟨by show 0<=n/\n<=4000000;omega,⟨by show(nB r.SA).length<=12;rw[uI];exact t.lh,λq hq=>t.h q (QH.1 hq)⟩,⟨by show(nB r.PA).length<=12;rw[uI];exact t.lm,λq hq=>t.m q (QH.1 hq)⟩,⟨by show(nB r.RA).length<=12;rw[uI];exact t.ls,λq hq=>t.s q (QH.1 hq)⟩⟩
   have Ic:=vL n
   have JH:=rI (n:=n) (y:=1) (by have:before 1=0:=(by decide);omega)
   have JI:=OJ (n:=n) (y:=10800) (by have:before 10800=3944253:=(by decide);omega)
   have DG:1<=KB n/\KB n<=12:=OI _ _
   have ZD:=mM n
   have SK:= @OG (oA n) (KB n)
   have iM:=LAA n
   repeat' (first
    |refine cT 53 rfl (by simp only[gW];simp;exact⟨⟨hl,ho⟩,O⟩) ?_
    |refine pC (x:= .seq (.region 9 _ _) _) (bJ (FP r last ok n (n+1)) out++[(15, .u (.p 19 0))]) (cJ r (FP r last ok n (n+1)) out++[(19,some (.st (A [oA n,KB n,JC n])))]) 20 ?_ ?_
    |refine AD (t:=86) (!stays r n) rfl rfl ?_
    |refine AD (t:=68) (decide (JC n+1>fB (oA n) (KB n))) rfl rfl ?_
    |refine AD (t:=76) (decide (KB n+1>12)) rfl rfl ?_
    |refine FQ (x:= .seq (.region 16 _ _) _) (KAA r (FP r last ok n (n+1)) hx out O) (eN eF eH) ?_
    |refine tk ?_
    |refine And.intro (λ_=>by show zA (JC n+1);unfold zA;omega) ?_
    |refine And.intro (λ_=>by show zA (KB n+1);unfold zA;omega) ?_
    |refine And.intro (λ_=>by show zA (oA n+1);unfold zA;omega) ?_
    |refine And.intro (λ_=>by show zA (n+1);unfold zA;omega) ?_
    |refine cz 67 func67 (λ_=>kT (oA n) (KB n) O) ?_
    |refine cr 108 [0,1,2,3,4,5,6,7,8,9] func108 (λ_=>xk r BD n (oA n) (KB n) (JC n) Ic O DG ZD h.HB i1) (λ_=>ME O rfl rfl rfl rfl rfl rfl rfl rfl rfl rfl U) ?_
    |refine CA ?_|refine an ?_ ?_|(intro Z;try simp at Z))
   ·rw[if_pos (by assumption),if_pos (by assumption)]at iM
    simp only[Prod.mk.injEq]at iM
    obtain⟨e1,e2,e3⟩:=iM
    refine⟨[],?_⟩
    simp only[FP,e1,e2,e3]
    exact eN eF eH
   ·rw[if_pos (by assumption),if_neg O]at iM
    simp only[Prod.mk.injEq]at iM
    obtain⟨e1,e2,e3⟩:=iM
    refine⟨[],?_⟩
    simp only[FP,e1,e2,e3]
    exact eN eF eH
   ·rw[if_neg O]at iM
    simp only[Prod.mk.injEq]at iM
    obtain⟨e1,e2,e3⟩:=iM
    refine⟨[],?_⟩
    simp only[FP,e1,e2,e3]
    exact eN eF eH
   ·have IC:stays r n=false:=by assumption
    have lf:DI r (VJ r) n=[]:=by unfold DI;rw[if_neg (by rw[IC];decide)]
    rw[lf,List.append_nil]at i4
    exact⟨⟨(m,n+1,out),g1,by show 0<=n+1;omega,λ_=>⟨λhw=>by show 365<=n+1;have:=i1 hw;omega,i2,by show m=(last+1- (n+1)).toNat;omega,i4⟩,λh=>by rw[ho]at h;cases h⟩,[],Nat.lt_succ_self m,eN eF eH⟩
   ·have IC:stays r n=true:=by assumption
    have lf:DI r (VJ r) n=WG n (nB r.SA) (nB r.PA) (nB r.RA):=by unfold DI;rw[if_pos IC,GAA];rfl
    rw[lf]at i4
    have pO:=Sr (n:=n) hx.hs.1 hx.ms.1 hx.ss.1
    exact⟨⟨(m,n+1,out++WG n (nB r.SA) (nB r.PA) (nB r.RA)),by rw[List.length_append];have:(WG n (nB r.SA) (nB r.PA) (nB r.RA)).length<=1728:=pO;omega,by show 0<=n+1;omega,λ_=>⟨λhw=>by show 365<=n+1;have:=i1 hw;omega,i2,by show m=(last+1- (n+1)).toNat;omega,i4⟩,λh=>by rw[ho]at h;cases h⟩,[],Nat.lt_succ_self m,eN eF eH⟩
  ·have Ab:out=L:=by
    cases ho:ok with
    |false=>exact g4 ho
    |true=>
     obtain⟨i1,i2,i3,i4⟩:=g3 ho
     cases m with
     |zero=>exact i4
     |succ m=>
      unfold BN at i4
      rw[if_pos (by have:¬(n<=last/\out.length<=2000):=(λh=>BS ⟨ho,h⟩);omega)]at i4
      exact i4
   subst Ab
   repeat' (first
    |refine cF 53 rfl (by simp only[gW];rw[<-Bool.not_eq_true];simp;intro D h2;have h3:¬(out.length<=2000):=λh=>BS ⟨h2,D,h⟩;omega) ?_
    |refine tk ?_
    |refine CA ?_|refine an ?_ ?_|(intro Z;try simp at Z))
   exact⟨[(10,18)],eL [(10,18)] ⟨rfl,U⟩ ⟨gA rfl rfl,U⟩⟩
structure CS where
 n:Int
 h:Int
 mm:Int
 s0:Int
 Ms:List Int
 Ss:List Int
structure OX (r:MA) (x:CS):Prop where
 n:0<=x.n/\x.n<=4000000
 h:0<=x.h/\x.h<=23
 ms:x.Ms.length<=12/\∀h∈x.Ms,0<=h/\h<=59
 ss:x.Ss.length<=12/\∀h∈x.Ss,0<=h/\h<=59
 rm:r.PA.length<=12
 rs:r.RA.length<=12
abbrev BO (x:CS) (out:List Int):FS:=[(11, .u (.s 14 0 out.length)),(2, .u (.p 10 0)),(8, .u (.p 11 0)),(9, .u (.s 12 0 x.Ms.length)),(10, .u (.s 13 0 x.Ss.length))]
abbrev CO (r:MA) (x:CS) (out:List Int):HS:=(14,some (.X 1 2 (A out)))::jB 0 r++[(10,some (.st (EC 0 r))),(11,some (.st (A [x.n,x.h,x.mm,x.s0]))),(12,some (.X 1 3 (A x.Ms))),(13,some (.X 1 3 (A x.Ss)))]
def nG (r:MA) (n h m:Int) (ss:List Int):List Int:=(ss.filter λs=>CC r.PA m&&CC r.RA s).map λs=>n*86400+h*3600+m*60+s
def HH (r:MA) (n h:Int) (ms ss:List Int):List Int:=ms.flatMap λm=>nG r n h m ss
theorem Xr (r:MA) (n h m:Int) {ss:List Int} (D:ss.length<=12):(nG r n h m ss).length<=12:=by
 unfold nG;rw[List.length_map];exact Nat.le_trans (List.length_filter_le _ _) D
theorem NAA (r:MA) (n h:Int) {ms ss:List Int} (D:ms.length<=12) (h2:ss.length<=12):(HH r n h ms ss).length<=144:=by
 have:=Ka (f:=λm=>nG r n h m ss) (K:=12) (λm=>Xr r n h m h2) ms
 unfold HH;omega
theorem OAA (r:MA) (n h m:Int) {l:List Int} {q:Nat} (hq:q<l.length):nG r n h m (l.take (q+1))=nG r n h m (l.take q)++(if(CC r.PA m&&CC r.RA (l.getD q 0))=true then[n*86400+h*3600+m*60+l.getD q 0]else[]):=by
 unfold nG
 rw[List.take_succ_eq_append_getElem hq,List.filter_append,List.map_append,List.getD_eq_getElem?_getD,List.getElem?_eq_getElem hq]
 congr 1
 simp only[List.filter_cons,List.filter_nil,Option.getD_some]
 split<;>rfl
def Yr (r:MA) (x:CS) (out:List Int) (q1:Nat) (m:Int):MB {q:Nat//q<=x.Ss.length}where
 F q:=BO x (out++nG r x.n x.h m (x.Ss.take q.1))++[(72, .u (.s 12 0 x.Ms.length)),(73, .u (I x.Ms.length)),(74, .u (I q1)),(13, .u (I m)),(78, .u (.s 13 0 x.Ss.length)),(79, .u (I x.Ss.length)),(80, .u (I q.1))]
 H q:=CO r x (out++nG r x.n x.h m (x.Ss.take q.1))
 n q:=15
theorem PAA {w:World} {W:Nat->Prop} {G:wA} {g:GW w W} {Q:QT} (r:MA) (x:CS) (hx:OX r x) (out:List Int) (ho:out.length<=10000) (q1:Nat) (m:Int) (hm:0<=m/\m<=59):
  En.T (cx w W f64.ntmps (KA LR) 10 G g) ((f64.body.bind (ID 22)).getD .skip) (BO x out++[(72, .u (.s 12 0 x.Ms.length)),(73, .u (I x.Ms.length)),(74, .u (I q1)),(13, .u (I m))]) (CO r x out) 15
   (yE (cx w W f64.ntmps (KA LR) 10 G g) (BO x (out++nG r x.n x.h m x.Ss)++[(72, .u (.s 12 0 x.Ms.length)),(73, .u (I x.Ms.length)),(74, .u (I q1))]) (CO r x (out++nG r x.n x.h m x.Ss)) 15 Q):=by
 have hxn:=hx.n
 have hxh:=hx.h
 have oB:=hx.ss.1
 have hrm:=hx.rm
 have WT:=hx.rs
 repeat' (first
  |refine tk ?_
  |refine CA ?_|refine an ?_ ?_|(intro Z;try simp at Z))
 refine FB (Yr r x out q1 m) (λq=>x.Ss.length-q.1) ?_ ?_
 ·have e0:out++nG r x.n x.h m (x.Ss.take 0)=out:=by simp[nG]
  refine⟨⟨0,Nat.zero_le _⟩,[],U,?_⟩
  show OA _ [] _ _ _ (BO x (out++nG r x.n x.h m (x.Ss.take 0))++_) (CO r x (out++nG r x.n x.h m (x.Ss.take 0))) 15
  rw[e0];exact eN eF eH
 ·rintro⟨q,hq⟩
  intro F H Y hF hH hn;dsimp only[Yr]at hF hH hn;subst hF hH hn
  have ej:0+(q:Int).toNat*1=q:=O
  have hlen:(out++nG r x.n x.h m (x.Ss.take q)).length=out.length+(nG r x.n x.h m (x.Ss.take q)).length:=List.length_append
  have kf:=Xr r x.n x.h m (La oB q)
  by_cases fA:q<x.Ss.length
  ·have hs:0<=x.Ss.getD (0+(q:Int).toNat*1) 0/\x.Ss.getD (0+(q:Int).toNat*1) 0<=59:=by rw[ej];exact NX hx.ss.2 fA
   have e:=OAA r x.n x.h m fA
   repeat' (first
    |refine AD (t:=93) (CC r.PA m&&CC r.RA (x.Ss.getD (0+(q:Int).toNat*1) 0)) rfl (by simp only[gW]) ?_
    |refine tk ?_
    |refine cz 109 func109 (λ_=>pk x.n x.h m (x.Ss.getD (0+(q:Int).toNat*1) 0) O O O O) ?_
    |(refine WC 111 (.s 7 0 _::_) ?_;refine cA.R [7] func111 rfl rfl (λ_=>lT r.PA m O) rfl rfl rfl BC rfl ?_)
    |(refine WC 111 (.s 8 0 _::_) ?_;refine cA.R [8] func111 rfl rfl (λ_=>lT r.RA (x.Ss.getD (0+(q:Int).toNat*1) 0) O) rfl rfl rfl BC rfl ?_)
    |refine⟨by simp[JD,rC],wE,O,xE,λ_=>⟨by show _*8<=_;omega,by simp only[maxLen];omega⟩,?_⟩
    |refine CA ?_|refine an ?_ ?_|(intro Z;try simp at Z))
   ·have hy:(CC r.PA m&&CC r.RA (x.Ss.getD q 0))=true:=by simpa using Z
    rw[if_pos hy]at e
    have e:out++nG r x.n x.h m (x.Ss.take (q+1))=(out++nG r x.n x.h m (x.Ss.take q))++[x.n*86400+x.h*3600+m*60+x.Ss.getD (0+(q:Int).toNat*1) 0]:=by rw[ej,e,List.append_assoc]
    exact⟨⟨q+1,O⟩,[(14,16)],show x.Ss.length- (q+1)<x.Ss.length-q by omega,eL [(14,16)] ⟨nC (by rw[e];simp;omega),eF⟩ ⟨gA rfl (by rw[e,<-jP,List.take_of_length_le (by simp[JD])];simp[A,DA.cells]),eH⟩⟩
   ·have hy:(CC r.PA m&&CC r.RA (x.Ss.getD q 0))=false:=by simpa using Z
    rw[if_neg (by rw[hy];decide),List.append_nil]at e
    refine⟨⟨q+1,O⟩,[],show x.Ss.length- (q+1)<x.Ss.length-q by omega,?_⟩
    show OA _ [] _ _ _ (BO x (out++nG r x.n x.h m (x.Ss.take (q+1)))++_) (CO r x (out++nG r x.n x.h m (x.Ss.take (q+1)))) 15
    rw[e];exact eN eF eH
   all_goals (exfalso;omega)
  ·have yD:q=x.Ss.length:=O
   subst yD
   rw[List.take_length]at*
   repeat' (first
    |refine tk ?_
    |refine CA ?_|refine an ?_ ?_|(intro Z;try simp at Z))
   all_goals first|(exfalso;omega)|exact⟨[],eN eF eH⟩
def Ea (r:MA) (x:CS) (out:List Int):MB {q:Nat//q<=x.Ms.length}where
 F q:=BO x (out++HH r x.n x.h (x.Ms.take q.1) x.Ss)++[(72, .u (.s 12 0 x.Ms.length)),(73, .u (I x.Ms.length)),(74, .u (I q.1))]
 H q:=CO r x (out++HH r x.n x.h (x.Ms.take q.1) x.Ss)
 n q:=15
theorem mf {w:World} {W:Nat->Prop} {G:wA} {g:GW w W} {Q:QT} (r:MA) (x:CS) (hx:OX r x) (out:List Int) (ho:out.length<=1000):
  En.T (cx w W f64.ntmps (KA LR) 10 G g) ((f64.body.bind (ID 19)).getD .skip) (BO x out) (CO r x out) 15
   (yE (cx w W f64.ntmps (KA LR) 10 G g) (BO x (out++HH r x.n x.h x.Ms x.Ss)) (CO r x (out++HH r x.n x.h x.Ms x.Ss)) 15 Q):=by
 have MK:=hx.ms.1
 repeat' (first
  |refine tk ?_
  |refine CA ?_|refine an ?_ ?_|(intro Z;try simp at Z))
 refine FB (Ea r x out) (λq=>x.Ms.length-q.1) ?_ ?_
 ·have e0:out++HH r x.n x.h (x.Ms.take 0) x.Ss=out:=by simp[HH]
  refine⟨⟨0,Nat.zero_le _⟩,[],U,?_⟩
  show OA _ [] _ _ _ (BO x (out++HH r x.n x.h (x.Ms.take 0) x.Ss)++_) (CO r x (out++HH r x.n x.h (x.Ms.take 0) x.Ss)) 15
  rw[e0];exact eN eF eH
 ·rintro⟨q,hq⟩
  intro F H Y hF hH hn;dsimp only[Ea]at hF hH hn;subst hF hH hn
  have ej:0+(q:Int).toNat*1=q:=O
  have hlen:=NAA r x.n x.h (La MK q) hx.ss.1
  have kf:(out++HH r x.n x.h (x.Ms.take q) x.Ss).length=out.length+(HH r x.n x.h (x.Ms.take q) x.Ss).length:=List.length_append
  by_cases fA:q<x.Ms.length
  ·have yM:=NX hx.ms.2 fA
   repeat' (first
    |refine FQ (x:= .seq (.region 22 _ _) _) (PAA r x hx (out++HH r x.n x.h (x.Ms.take q) x.Ss) O q (x.Ms.getD (0+(q:Int).toNat*1) 0) (by rw[ej];exact yM)) (eN eF eH) ?_
    |refine tk ?_
    |refine CA ?_|refine an ?_ ?_|(intro Z;try simp at Z))
   ·have e:out++HH r x.n x.h (x.Ms.take (q+1)) x.Ss=(out++HH r x.n x.h (x.Ms.take q) x.Ss)++nG r x.n x.h (x.Ms.getD (0+(q:Int).toNat*1) 0) x.Ss:=by rw[List.append_assoc];unfold HH;rw[jf fA,ej]
    refine⟨⟨q+1,O⟩,[],show x.Ms.length- (q+1)<x.Ms.length-q by omega,?_⟩
    show OA _ [] _ _ _ (BO x (out++HH r x.n x.h (x.Ms.take (q+1)) x.Ss)++_) (CO r x (out++HH r x.n x.h (x.Ms.take (q+1)) x.Ss)) 15
    rw[e];exact eN eF eH
   all_goals (exfalso;omega)
  ·have yD:q=x.Ms.length:=O
   subst yD
   rw[List.take_length]at*
   repeat' (first
    |refine tk ?_
    |refine CA ?_|refine an ?_ ?_|(intro Z;try simp at Z))
   all_goals first|(exfalso;omega)|exact⟨[],eN eF eH⟩
theorem QAA (r:MA) (h:r.Ok) (t:tH r) (hf:4<=r.BA) (k:Nat) (hk:k<30000):
  Fn prog 64 [.agg (EC 0 r),I k] (jB 0 r++[]) 10 (.jA [.s 10 0 (vH r k).1.length,B (vH r k).2]) [(10,some (.X 1 2 (A (vH r k).1)))] 11:=by
 have BD:=h.fits
 have ES:=h.BA
 have IC:=h.GA
 have MM:=h.IA
 obtain⟨u,hu⟩:∃u,u=pE r.BA:=⟨_,rfl⟩
 have hu3:u=60\/u=1\/u=3600:=by rw[hu];unfold pE;(repeat' split)<;>simp
 have OU:=Zc (k:=(k:Int)) (i:=r.IA) (K:=30000) ⟨O,O⟩ MM
 have Al:before 10000=3652059:=by decide
 obtain⟨P,hP⟩:∃P,P=vH r k:=⟨_,rfl⟩
 rw[<-hP]
 rcases(by omega:r.BA=4\/r.BA=5\/r.BA=6)with Na|PX|xH
 ·skip
  refine fm (KA LR) func64 λw W G g=> ?_
  repeat' (first
   |refine cF 18 rfl (by simp[Na]) ?_
   |refine cF 20 rfl (by simp[Na]) ?_
   |refine cT 62 rfl (by simp[Na]) ?_
   |refine cT 68 rfl (by simp[Na]) ?_
   |refine FG 19 ?_
   |refine HD ?_
   |refine AD (t:=40) (decide (((r.GA/3600*3600+(k:Int)*r.IA*3600)/86400)>=before 10000)) rfl rfl ?_
   |refine AD (t:=53) (!stays r ((r.GA/3600*3600+(k:Int)*r.IA*3600)/86400)|| !CC r.SA ((r.GA/3600*3600+(k:Int)*r.IA*3600)%86400/3600)) rfl (by simp only[FM]) ?_
   |refine tk ?_
   |refine cz 57 func57 (λ_=>QR (r.GA/3600*3600+(k:Int)*r.IA*3600) O) ?_
   |refine cz 24 func24 (λ_=>nM 10000 O O) ?_
   |refine cr 110 [0,1,2,3,4,5,6,7,8,9] func110 (λ_=>lc r BD ((r.GA/3600*3600+(k:Int)*r.IA*3600)/86400) O h.HB (λ_=>by omega)) (λ_=>ME O rfl rfl rfl rfl rfl rfl rfl rfl rfl rfl U) ?_
   |(refine WC 111 (.s 6 0 _::_) ?_;refine cA.R [6] func111 rfl rfl (λ_=>lT r.SA ((r.GA/3600*3600+(k:Int)*r.IA*3600)%86400/3600) (by have:=t.lh;omega)) rfl rfl rfl BC rfl ?_)
   |(refine AB 107 ?_;refine cA.N [7] func107 rfl rfl (λ_=>iO r.PA t.lm t.mn) rfl rfl rfl (λ_=>⟨mS,U⟩) ?_)
   |(refine AB 107 ?_;refine cA.N [8] func107 rfl rfl (λ_=>iO r.RA t.ls t.sn) rfl rfl rfl (λ_=>⟨mS,U⟩) ?_)
   |refine CA ?_|refine an ?_ ?_|(intro Z;try simp at Z))
  ·have IF:(r.GA/3600*3600+(k:Int)*r.IA*3600)/86400>=before 10000:=by assumption
   have QX:pE r.BA=3600:=by unfold pE;rw[if_neg O,if_neg O]
   have hI:P=([],false):=by rw[hP];unfold vH;dsimp only;rw[QX,if_pos IF]
   subst hI
   exact⟨aG 4 1 2 rfl (PD ⟨[(10,12)],eL [(10,12)] ⟨rfl,U⟩ ⟨gA rfl rfl,U⟩⟩)⟩
  ·have fA:¬(r.GA/3600*3600+(k:Int)*r.IA*3600)/86400>=before 10000:=O
   have QX:pE r.BA=3600:=by unfold pE;rw[if_neg O,if_neg O]
   have RX:stays r ((r.GA/3600*3600+(k:Int)*r.IA*3600)/86400)=false\/CC r.SA ((r.GA/3600*3600+(k:Int)*r.IA*3600)%86400/3600)=false:=by simpa using Z
   have hI:P=([],true):=by rw[hP];unfold vH;dsimp only;rw[QX,if_neg fA,if_pos RX]
   subst hI
   exact⟨aG 4 1 2 rfl (PD ⟨[(10,12)],eL [(10,12)] ⟨rfl,U⟩ ⟨gA rfl rfl,U⟩⟩)⟩
  ·have fA:¬(r.GA/3600*3600+(k:Int)*r.IA*3600)/86400>=before 10000:=O
   have QX:pE r.BA=3600:=by unfold pE;rw[if_neg O,if_neg O]
   have IC:stays r ((r.GA/3600*3600+(k:Int)*r.IA*3600)/86400)=true/\CC r.SA ((r.GA/3600*3600+(k:Int)*r.IA*3600)%86400/3600)=true:=by simpa using Z
   have hI:P=(HH r ((r.GA/3600*3600+(k:Int)*r.IA*3600)/86400) ((r.GA/3600*3600+(k:Int)*r.IA*3600)%86400/3600) (nB r.PA) (nB r.RA),true):=by
    rw[hP];unfold vH;dsimp only;rw[QX,if_neg fA,if_neg (by rw[IC.1,IC.2];simp),show(if r.BA=4 then nB r.PA else[(r.GA/3600*3600+(k:Int)*r.IA*3600)%86400/60%60])=nB r.PA from if_pos O,show(if r.BA<6 then nB r.RA else[(r.GA/3600*3600+(k:Int)*r.IA*3600)%86400%60])=nB r.RA from if_pos O];rfl
   subst hI
   have hx:OX r ⟨(r.GA/3600*3600+(k:Int)*r.IA*3600)/86400,(r.GA/3600*3600+(k:Int)*r.IA*3600)%86400/3600,(r.GA/3600*3600+(k:Int)*r.IA*3600)%86400/60%60,(r.GA/3600*3600+(k:Int)*r.IA*3600)%86400%60,nB r.PA,nB r.RA⟩:=⟨by show 0<=(r.GA/3600*3600+(k:Int)*r.IA*3600)/86400/\(r.GA/3600*3600+(k:Int)*r.IA*3600)/86400<=4000000;omega,by show 0<=(r.GA/3600*3600+(k:Int)*r.IA*3600)%86400/3600/\(r.GA/3600*3600+(k:Int)*r.IA*3600)%86400/3600<=23;omega,⟨by show(nB r.PA).length<=12;rw[uI];exact t.lm,λq hq=>t.m q (QH.1 hq)⟩,⟨by show(nB r.RA).length<=12;rw[uI];exact t.ls,λq hq=>t.s q (QH.1 hq)⟩,t.lm,t.ls⟩
   refine Stop.mk ?_
   refine aG 11 1 2 rfl ?_
   repeat' (first
    |refine FJ (x:= .seq (.region 19 _ _) _) (mf r ⟨(r.GA/3600*3600+(k:Int)*r.IA*3600)/86400,(r.GA/3600*3600+(k:Int)*r.IA*3600)%86400/3600,(r.GA/3600*3600+(k:Int)*r.IA*3600)%86400/60%60,(r.GA/3600*3600+(k:Int)*r.IA*3600)%86400%60,nB r.PA,nB r.RA⟩ hx [] (by simp)) (eL [(14,18),(12,14),(13,16)] eF eH) ?_
    |refine HD ?_
    |refine tk ?_
    |refine CA ?_|refine an ?_ ?_|(intro Z;try simp at Z))
   exact⟨PD ⟨[(10,14)],eL [(10,14)] ⟨rfl,U⟩ ⟨gA rfl rfl,U⟩⟩⟩
 ·skip
  refine fm (KA LR) func64 λw W G g=> ?_
  repeat' (first
   |refine cT 18 rfl (by simp[PX]) ?_
   |refine cF 62 rfl (by simp[PX]) ?_
   |refine cT 68 rfl (by simp[PX]) ?_
   |refine FG 19 ?_
   |refine HD ?_
   |refine AD (t:=40) (decide (((r.GA/60*60+(k:Int)*r.IA*60)/86400)>=before 10000)) rfl rfl ?_
   |refine AD (t:=53) (!stays r ((r.GA/60*60+(k:Int)*r.IA*60)/86400)|| !CC r.SA ((r.GA/60*60+(k:Int)*r.IA*60)%86400/3600)) rfl (by simp only[FM]) ?_
   |refine tk ?_
   |refine cz 57 func57 (λ_=>QR (r.GA/60*60+(k:Int)*r.IA*60) O) ?_
   |refine cz 24 func24 (λ_=>nM 10000 O O) ?_
   |refine cr 110 [0,1,2,3,4,5,6,7,8,9] func110 (λ_=>lc r BD ((r.GA/60*60+(k:Int)*r.IA*60)/86400) O h.HB (λ_=>by omega)) (λ_=>ME O rfl rfl rfl rfl rfl rfl rfl rfl rfl rfl U) ?_
   |(refine WC 111 (.s 6 0 _::_) ?_;refine cA.R [6] func111 rfl rfl (λ_=>lT r.SA ((r.GA/60*60+(k:Int)*r.IA*60)%86400/3600) (by have:=t.lh;omega)) rfl rfl rfl BC rfl ?_)
   |(refine AB 107 ?_;refine cA.N [7] func107 rfl rfl (λ_=>iO r.PA t.lm t.mn) rfl rfl rfl (λ_=>⟨mS,U⟩) ?_)
   |(refine AB 107 ?_;refine cA.N [8] func107 rfl rfl (λ_=>iO r.RA t.ls t.sn) rfl rfl rfl (λ_=>⟨mS,U⟩) ?_)
   |refine CA ?_|refine an ?_ ?_|(intro Z;try simp at Z))
  ·have fA:¬(r.GA/60*60+(k:Int)*r.IA*60)/86400>=before 10000:=O
   have nf:pE r.BA=60:=by unfold pE;rw[if_pos PX]
   have RX:stays r ((r.GA/60*60+(k:Int)*r.IA*60)/86400)=false\/CC r.SA ((r.GA/60*60+(k:Int)*r.IA*60)%86400/3600)=false:=by simpa using Z
   have hI:P=([],true):=by rw[hP];unfold vH;dsimp only;rw[nf,if_neg fA,if_pos RX]
   subst hI
   exact⟨aG 4 1 2 rfl (PD ⟨[(10,12)],eL [(10,12)] ⟨rfl,U⟩ ⟨gA rfl rfl,U⟩⟩)⟩
  ·have fA:¬(r.GA/60*60+(k:Int)*r.IA*60)/86400>=before 10000:=O
   have nf:pE r.BA=60:=by unfold pE;rw[if_pos PX]
   have IC:stays r ((r.GA/60*60+(k:Int)*r.IA*60)/86400)=true/\CC r.SA ((r.GA/60*60+(k:Int)*r.IA*60)%86400/3600)=true:=by simpa using Z
   have hI:P=(HH r ((r.GA/60*60+(k:Int)*r.IA*60)/86400) ((r.GA/60*60+(k:Int)*r.IA*60)%86400/3600) ([(r.GA/60*60+(k:Int)*r.IA*60)%86400/60%60]) (nB r.RA),true):=by
    rw[hP];unfold vH;dsimp only;rw[nf,if_neg fA,if_neg (by rw[IC.1,IC.2];simp),show(if r.BA=4 then nB r.PA else[(r.GA/60*60+(k:Int)*r.IA*60)%86400/60%60])=[(r.GA/60*60+(k:Int)*r.IA*60)%86400/60%60]from if_neg O,show(if r.BA<6 then nB r.RA else[(r.GA/60*60+(k:Int)*r.IA*60)%86400%60])=nB r.RA from if_pos O];rfl
   subst hI
   have hx:OX r ⟨(r.GA/60*60+(k:Int)*r.IA*60)/86400,(r.GA/60*60+(k:Int)*r.IA*60)%86400/3600,(r.GA/60*60+(k:Int)*r.IA*60)%86400/60%60,(r.GA/60*60+(k:Int)*r.IA*60)%86400%60,[(r.GA/60*60+(k:Int)*r.IA*60)%86400/60%60],nB r.RA⟩:=⟨by show 0<=(r.GA/60*60+(k:Int)*r.IA*60)/86400/\(r.GA/60*60+(k:Int)*r.IA*60)/86400<=4000000;omega,by show 0<=(r.GA/60*60+(k:Int)*r.IA*60)%86400/3600/\(r.GA/60*60+(k:Int)*r.IA*60)%86400/3600<=23;omega,⟨by simp,λq hq=>by rw[List.mem_singleton]at hq;subst hq;omega⟩,⟨by show(nB r.RA).length<=12;rw[uI];exact t.ls,λq hq=>t.s q (QH.1 hq)⟩,t.lm,t.ls⟩
   refine Stop.mk ?_
   refine aG 11 1 2 rfl ?_
   repeat' (first
    |refine FJ (x:= .seq (.region 19 _ _) _) (mf r ⟨(r.GA/60*60+(k:Int)*r.IA*60)/86400,(r.GA/60*60+(k:Int)*r.IA*60)%86400/3600,(r.GA/60*60+(k:Int)*r.IA*60)%86400/60%60,(r.GA/60*60+(k:Int)*r.IA*60)%86400%60,[(r.GA/60*60+(k:Int)*r.IA*60)%86400/60%60],nB r.RA⟩ hx [] (by simp)) (eL [(14,16),(13,14)] eF eH) ?_
    |refine HD ?_
    |refine tk ?_
    |refine CA ?_|refine an ?_ ?_|(intro Z;try simp at Z))
   exact⟨PD ⟨[(10,14)],eL [(10,14)] ⟨rfl,U⟩ ⟨gA rfl rfl,U⟩⟩⟩
 ·skip
  refine fm (KA LR) func64 λw W G g=> ?_
  repeat' (first
   |refine cF 18 rfl (by simp[xH]) ?_
   |refine cT 20 rfl (by simp[xH]) ?_
   |refine cF 62 rfl (by simp[xH]) ?_
   |refine cF 68 rfl (by simp[xH]) ?_
   |refine FG 19 ?_
   |refine HD ?_
   |refine AD (t:=40) (decide (((r.GA/1*1+(k:Int)*r.IA*1)/86400)>=before 10000)) rfl rfl ?_
   |refine AD (t:=53) (!stays r ((r.GA/1*1+(k:Int)*r.IA*1)/86400)|| !CC r.SA ((r.GA/1*1+(k:Int)*r.IA*1)%86400/3600)) rfl (by simp only[FM]) ?_
   |refine tk ?_
   |refine cz 57 func57 (λ_=>QR (r.GA/1*1+(k:Int)*r.IA*1) O) ?_
   |refine cz 24 func24 (λ_=>nM 10000 O O) ?_
   |refine cr 110 [0,1,2,3,4,5,6,7,8,9] func110 (λ_=>lc r BD ((r.GA/1*1+(k:Int)*r.IA*1)/86400) O h.HB (λ_=>by omega)) (λ_=>ME O rfl rfl rfl rfl rfl rfl rfl rfl rfl rfl U) ?_
   |(refine WC 111 (.s 6 0 _::_) ?_;refine cA.R [6] func111 rfl rfl (λ_=>lT r.SA ((r.GA/1*1+(k:Int)*r.IA*1)%86400/3600) (by have:=t.lh;omega)) rfl rfl rfl BC rfl ?_)
   |(refine AB 107 ?_;refine cA.N [7] func107 rfl rfl (λ_=>iO r.PA t.lm t.mn) rfl rfl rfl (λ_=>⟨mS,U⟩) ?_)
   |(refine AB 107 ?_;refine cA.N [8] func107 rfl rfl (λ_=>iO r.RA t.ls t.sn) rfl rfl rfl (λ_=>⟨mS,U⟩) ?_)
   |refine CA ?_|refine an ?_ ?_|(intro Z;try simp at Z))
  ·have fA:¬(r.GA/1*1+(k:Int)*r.IA*1)/86400>=before 10000:=O
   have pf:pE r.BA=1:=by unfold pE;rw[if_neg O,if_pos xH]
   have RX:stays r ((r.GA/1*1+(k:Int)*r.IA*1)/86400)=false\/CC r.SA ((r.GA/1*1+(k:Int)*r.IA*1)%86400/3600)=false:=by simpa using Z
   have hI:P=([],true):=by rw[hP];unfold vH;dsimp only;rw[pf,if_neg fA,if_pos RX]
   subst hI
   exact⟨aG 4 1 2 rfl (PD ⟨[(10,12)],eL [(10,12)] ⟨rfl,U⟩ ⟨gA rfl rfl,U⟩⟩)⟩
  ·have fA:¬(r.GA/1*1+(k:Int)*r.IA*1)/86400>=before 10000:=O
   have pf:pE r.BA=1:=by unfold pE;rw[if_neg O,if_pos xH]
   have IC:stays r ((r.GA/1*1+(k:Int)*r.IA*1)/86400)=true/\CC r.SA ((r.GA/1*1+(k:Int)*r.IA*1)%86400/3600)=true:=by simpa using Z
   have hI:P=(HH r ((r.GA/1*1+(k:Int)*r.IA*1)/86400) ((r.GA/1*1+(k:Int)*r.IA*1)%86400/3600) ([(r.GA/1*1+(k:Int)*r.IA*1)%86400/60%60]) ([(r.GA/1*1+(k:Int)*r.IA*1)%86400%60]),true):=by
    rw[hP];unfold vH;dsimp only;rw[pf,if_neg fA,if_neg (by rw[IC.1,IC.2];simp),show(if r.BA=4 then nB r.PA else[(r.GA/1*1+(k:Int)*r.IA*1)%86400/60%60])=[(r.GA/1*1+(k:Int)*r.IA*1)%86400/60%60]from if_neg O,show(if r.BA<6 then nB r.RA else[(r.GA/1*1+(k:Int)*r.IA*1)%86400%60])=[(r.GA/1*1+(k:Int)*r.IA*1)%86400%60]from if_neg O];rfl
   subst hI
   have hx:OX r ⟨(r.GA/1*1+(k:Int)*r.IA*1)/86400,(r.GA/1*1+(k:Int)*r.IA*1)%86400/3600,(r.GA/1*1+(k:Int)*r.IA*1)%86400/60%60,(r.GA/1*1+(k:Int)*r.IA*1)%86400%60,[(r.GA/1*1+(k:Int)*r.IA*1)%86400/60%60],[(r.GA/1*1+(k:Int)*r.IA*1)%86400%60]⟩:=⟨by show 0<=(r.GA/1*1+(k:Int)*r.IA*1)/86400/\(r.GA/1*1+(k:Int)*r.IA*1)/86400<=4000000;omega,by show 0<=(r.GA/1*1+(k:Int)*r.IA*1)%86400/3600/\(r.GA/1*1+(k:Int)*r.IA*1)%86400/3600<=23;omega,⟨by simp,λq hq=>by rw[List.mem_singleton]at hq;subst hq;omega⟩,⟨by simp,λq hq=>by rw[List.mem_singleton]at hq;subst hq;omega⟩,t.lm,t.ls⟩
   refine Stop.mk ?_
   refine aG 11 1 2 rfl ?_
   repeat' (first
    |refine FJ (x:= .seq (.region 19 _ _) _) (mf r ⟨(r.GA/1*1+(k:Int)*r.IA*1)/86400,(r.GA/1*1+(k:Int)*r.IA*1)%86400/3600,(r.GA/1*1+(k:Int)*r.IA*1)%86400/60%60,(r.GA/1*1+(k:Int)*r.IA*1)%86400%60,[(r.GA/1*1+(k:Int)*r.IA*1)%86400/60%60],[(r.GA/1*1+(k:Int)*r.IA*1)%86400%60]⟩ hx [] (by simp)) (eN eF eH) ?_
    |refine HD ?_
    |refine tk ?_
    |refine CA ?_|refine an ?_ ?_|(intro Z;try simp at Z))
   exact⟨PD ⟨[(10,14)],eL [(10,14)] ⟨rfl,U⟩ ⟨gA rfl rfl,U⟩⟩⟩
theorem RAA (r:MA) (h:r.Ok) (k:Nat) (hk:(k:Int)<=OH r.BA) (oE:0<r.sA.length->r.BA=0) (hf:r.BA<4):
  (0<=(NC r k).1/\(NC r k).1<=300000000)/\(0<r.sA.length->365<=(NC r k).1)/\((NC r k).2.2=true->(NC r k).2.1<=3900000):=by
 have hs:=h.GA
 have hi:=h.IA
 have hw:=h.HB
 have ES:=h.BA
 have TX:=bc r.BA
 have e2:before 2=365:=by decide
 have Al:before 10001=3652425:=by decide
 have JH:=rI (n:=r.GA/86400) (y:=2) O
 have JI:=OJ (n:=r.GA/86400) (y:=9010) (by have:before 9010=3290469:=(by decide);omega)
 have OU:=Zc (k:=(k:Int)) (i:=r.IA) (K:=OH r.BA) ⟨O,hk⟩ hi
 have JQ:∀{a b:Int},a<=b->before a<=before b:=VN
 unfold NC
 dsimp only
 rcases(by omega:r.BA=0\/r.BA=1\/r.BA=2\/r.BA=3)with h0|h0|h0|h0
 ·rw[if_pos h0]
  dsimp only
  rw[TX.2.2.1 h0]at OU
  have D:=JQ (show 2<=oA (r.GA/86400)+(k:Int)*r.IA by omega)
  have h2:=JQ (show oA (r.GA/86400)+(k:Int)*r.IA<=409010 by omega)
  have h3:before 409010=149387469:=by decide
  refine⟨O,λ_=>by omega,λho=> ?_⟩
  have ho:=of_decide_eq_true ho
  have h4:=JQ (show oA (r.GA/86400)+(k:Int)*r.IA+1<=10001 by omega)
  omega
 ·rw[if_neg O,if_pos h0]
  dsimp only
  rw[TX.2.2.2.1 h0]at OU
  have hm:=OI (lp (oA (r.GA/86400))) (idxOf (r.GA/86400))
  have hm:1<=KB (r.GA/86400)/\KB (r.GA/86400)<=12:=hm
  obtain⟨y,hy⟩:∃y,y=oA (r.GA/86400)+(KB (r.GA/86400)-1+(k:Int)*r.IA)/12:=⟨_,rfl⟩
  obtain⟨m,yM⟩:∃m,m=(KB (r.GA/86400)-1+(k:Int)*r.IA)%12+1:=⟨_,rfl⟩
  rw[<-hy,<-yM]
  have hyr:2<=y/\y<=260000:=O
  have hl:=tB y
  have hc:=bG (l:=lp y) (m:=m) hl
  have SK:= @OG y m
  have D:=JQ (show 2<=y by omega)
  have h2:=JQ (show y<=260000 by omega)
  have h3:before 260000=94962684:=by decide
  refine⟨by unfold NA;omega,λh=>by have:=oE h;omega,λho=> ?_⟩
  have ho:=of_decide_eq_true ho
  have h4:=JQ (show y<=9999 by omega)
  have h5:before 9999=3651694:=by decide
  unfold NA;omega
 ·rw[if_neg O,if_neg O,if_pos h0,Int.mul_assoc]
  dsimp only
  rw[TX.2.2.2.2.1 h0]at OU
  refine⟨O,λh=>by have:=oE h;omega,λho=> ?_⟩
  have ho:=of_decide_eq_true ho
  have h4:before 10000=3652059:=by decide
  omega
 ·rw[if_neg O,if_neg O,if_neg O]
  dsimp only
  rw[TX.2.2.2.2.2 h0]at OU
  refine⟨O,λh=>by have:=oE h;omega,λho=> ?_⟩
  have ho:=of_decide_eq_true ho
  have h4:before 10000=3652059:=by decide
  omega
theorem SAA (r:MA) (h:r.Ok) (t:tH r) (k:Nat) (hk:(k:Int)<OH r.BA) (oE:0<r.sA.length->r.BA=0) (uF:r.OB.length<=12):
  Fn prog 33 [.agg (EC 0 r),I k] (jB 0 r++[]) 10 (.jA [.s 10 0 (UG r k).1.length,B (UG r k).2]) [(10,some (.X 1 2 (A (UG r k).1)))] 11:=by
 have ES:=h.BA
 obtain⟨sB,hA⟩:∃sB,sB=(if r.BA<4 then(lK r (VJ r) k,(NC r k).2.2)else vH r k):=⟨_,rfl⟩
 have hI:UG r k=(if 2000<sB.1.length then sB.1 else gE sB.1 r.OB,sB.2):=by rw[hA];rfl
 have rf:r.BA<4->Fn prog 63 [.agg (EC 0 r),I k] (jB 0 r++[]) 10 (.jA [.s 10 0 sB.1.length,B sB.2]) [(10,some (.X 1 2 (A sB.1)))] 11:=λhf=>by
  obtain⟨p1,p2,p3⟩:=RAA r h k O oE hf
  rw[hA,if_pos hf]
  exact MAA r h t k O p1 p2 p3
 have tf:¬r.BA<4->Fn prog 64 [.agg (EC 0 r),I k] (jB 0 r++[]) 10 (.jA [.s 10 0 sB.1.length,B sB.2]) [(10,some (.X 1 2 (A sB.1)))] 11:=λhf=>by
  rw[hA,if_neg hf]
  exact QAA r h t O k (by have:=hk;unfold OH at this;rw[if_neg O,if_neg O,if_neg O]at this;omega)
 rw[hI]
 obtain⟨L,o⟩:=sB
 clear hA hI
 dsimp only at*
 by_cases TO:2000<L.length
 ·rw[if_pos TO]
  refine fm (KA 33555703) func33 λw W G g=> ?_
  repeat' (first
   |refine pC (x:= .seq (.region 3 _ _) _) [(2, .u (.p 10 0)),(6, .u (.s 11 0 L.length)),(7, .u (B o))] (jB 0 r++[(10,some (.st (EC 0 r))),(11,some (.X 1 2 (A L)))]) 12 ?_ ?_
   |refine AD (t:=10) (decide (r.BA<4)) rfl rfl ?_
   |refine cT 25 rfl eA ?_
   |refine tk ?_
   |refine cf 63 [0,1,2,3,4,5,6,7,8,9] (.jA [.s 11 0 L.length,B o]) [(11,some (.X 1 2 (A L)))] func63 (λ_=>rf O) (λ_=>⟨mS,mS,mS,mS,mS,mS,mS,mS,mS,mS,U⟩) (by simp[ED,iC,KE,WA,lD,mp,DA.IB,jB]) ?_
   |refine cf 64 [0,1,2,3,4,5,6,7,8,9] (.jA [.s 11 0 L.length,B o]) [(11,some (.X 1 2 (A L)))] func64 (λ_=>tf O) (λ_=>⟨mS,mS,mS,mS,mS,mS,mS,mS,mS,mS,U⟩) (by simp[ED,iC,KE,WA,lD,mp,DA.IB,jB]) ?_
   |refine CA ?_|refine an ?_ ?_|(intro Z;try simp at Z))
  all_goals first|exact⟨[(10,11)],eL [(10,11)] ⟨rfl,U⟩ ⟨gA rfl rfl,U⟩⟩|exact⟨[],eN eF eH⟩
 ·rw[if_neg TO]
  by_cases h0:r.OB=[]
  ·have hc:gE L r.OB=L:=by unfold gE;rw[if_pos h0]
   have JG:r.OB.length=0:=by rw[h0];rfl
   rw[hc]
   refine fm (KA 33555703) func33 λw W G g=> ?_
   repeat' (first
    |refine pC (x:= .seq (.region 3 _ _) _) [(2, .u (.p 10 0)),(6, .u (.s 11 0 L.length)),(7, .u (B o))] (jB 0 r++[(10,some (.st (EC 0 r))),(11,some (.X 1 2 (A L)))]) 12 ?_ ?_
    |refine AD (t:=10) (decide (r.BA<4)) rfl rfl ?_
    |refine cF 25 rfl eA ?_
    |refine tk ?_
    |refine cf 63 [0,1,2,3,4,5,6,7,8,9] (.jA [.s 11 0 L.length,B o]) [(11,some (.X 1 2 (A L)))] func63 (λ_=>rf O) (λ_=>⟨mS,mS,mS,mS,mS,mS,mS,mS,mS,mS,U⟩) (by simp[ED,iC,KE,WA,lD,mp,DA.IB,jB]) ?_
    |refine cf 64 [0,1,2,3,4,5,6,7,8,9] (.jA [.s 11 0 L.length,B o]) [(11,some (.X 1 2 (A L)))] func64 (λ_=>tf O) (λ_=>⟨mS,mS,mS,mS,mS,mS,mS,mS,mS,mS,U⟩) (by simp[ED,iC,KE,WA,lD,mp,DA.IB,jB]) ?_
    |(refine AB 65 ?_;refine cA.R [11,0] func65 rfl rfl (λ_=>qz L) rfl rfl (by show[SV.s 11 0 L.length,SV.s 0 0 r.OB.length]=_;rw[JG];rfl) BC rfl ?_)
    |refine CA ?_|refine an ?_ ?_|(intro Z;try simp at Z))
   all_goals first|exact⟨[(10,11)],eL [(10,11)] ⟨rfl,U⟩ ⟨gA rfl rfl,U⟩⟩|exact⟨[],eN eF eH⟩
  ·skip
   refine fm (KA 33555703) func33 λw W G g=> ?_
   repeat' (first
    |refine pC (x:= .seq (.region 3 _ _) _) [(2, .u (.p 10 0)),(6, .u (.s 11 0 L.length)),(7, .u (B o))] (jB 0 r++[(10,some (.st (EC 0 r))),(11,some (.X 1 2 (A L)))]) 12 ?_ ?_
    |refine AD (t:=10) (decide (r.BA<4)) rfl rfl ?_
    |refine cF 25 rfl eA ?_
    |refine tk ?_
    |refine cf 63 [0,1,2,3,4,5,6,7,8,9] (.jA [.s 11 0 L.length,B o]) [(11,some (.X 1 2 (A L)))] func63 (λ_=>rf O) (λ_=>⟨mS,mS,mS,mS,mS,mS,mS,mS,mS,mS,U⟩) (by simp[ED,iC,KE,WA,lD,mp,DA.IB,jB]) ?_
    |refine cf 64 [0,1,2,3,4,5,6,7,8,9] (.jA [.s 11 0 L.length,B o]) [(11,some (.X 1 2 (A L)))] func64 (λ_=>tf O) (λ_=>⟨mS,mS,mS,mS,mS,mS,mS,mS,mS,mS,U⟩) (by simp[ED,iC,KE,WA,lD,mp,DA.IB,jB]) ?_
    |refine cf 65 [11,0] (.s 12 0 (gE L r.OB).length) [(12,some (.X 1 2 (A (gE L r.OB))))] func65 (λ_=>rz L r.OB O O h0) (λ_=>⟨mS,mS,U⟩) (by simp[ED,iC,KE,WA,lD,mp,DA.IB]) ?_
    |refine CA ?_|refine an ?_ ?_|(intro Z;try simp at Z))
   all_goals first|exact⟨[(10,12)],eL [(10,12)] ⟨rfl,U⟩ ⟨gA rfl rfl,U⟩⟩|exact⟨[],eN eF eH⟩
end En
end Go.Proofs.YtkidgehblodbcaaGreatDoor
