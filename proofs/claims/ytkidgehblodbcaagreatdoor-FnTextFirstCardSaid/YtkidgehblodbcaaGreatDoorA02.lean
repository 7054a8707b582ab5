/- A part of the proof of FnTextFirst: an engine that steps through code. -/
import Derived.KernelRfl
import Derived.Test.YtkidgehblodbcaaGreatDoorChecked
import Derived.Test.YtkidgehblodbcaaGreatDoorProg
import Derived.Test.YtkidgehblodbcaaGreatDoorA00
set_option linter.all false
set_option maxRecDepth 100000
set_option maxHeartbeats 16000000
namespace Go.Proofs.YtkidgehblodbcaaGreatDoor
namespace En
open Go.RowKit
abbrev QT:=Exit->FS->HS->Nat->Prop
def Pn (C:Cx) (G:wA):Prop:=∀b,b<C.n0->G b=C.oI b
structure Fit (C:Cx) (F:FS) (H:HS) (Y:Nat) (G:wA) (a:Act) (w:World):Prop where
 iD:∀b,Y<=b->G b= .iD
 le:C.n0<=Y
 PK:Pn C G
 ms:MS C.w0 C.W C.N (lk F) (WA H) G a w
def gV (C:Cx) (Q:QT):Exit->Act->World->Prop:=λe a w=>∃F H Y G,Q e F H Y/\Fit C F H Y G a w
structure T (C:Cx) (c:Code) (F:FS) (H:HS) (Y:Nat) (Q:QT):Prop where
 ok:∀G a w,Fit C F H Y G a w->c.wp C.P (gV C Q) a w
theorem MS.drew {w0:World} {W:Nat->Prop} {N:Nat} {F:YG} {H:lI} {G:wA} {a:Act} {w:World} (h:MS w0 W N F H G a w):MS w0 W N F H G a {w with drawn:=w.drawn+1}:=
 ⟨h.heap.later ⟨rfl,rfl,rfl,Nat.le_refl _,λ_ _=>rfl⟩,h.size,h.defers,h.gC⟩
theorem yb {C:Cx} {F:FS} {H:HS} {Y:Nat} {Q:QT} {ks:List Key} {Es:List RD} {OK:FS} {H':HS} {CD:Nat} {G:wA} (HI:∀b,Y<=b->G b= .iD) (HF:C.n0<=Y) (WO:Pn C G)
  (hK:dP C.kp OK F λF'=>Q .normal F' H' CD)
  (tG:∀E∈Es,Y<=E.n0/\E.n0<=E.n1/\E.n1<=CD) (hle:Y<=CD) (hF:∀t,(∀r,lk OK t=some r->BL ((List.range' 0 Es.length).zip Es) (lk F) t=some r)/\(lk OK t=none->BL ((List.range' 0 Es.length).zip Es) (lk F) t=lk F t))
  (hH:dM ((List.range' 0 Es.length).zip Es) (WA H)=WA H') (uA:wA) (a':Act) (w':World) (Z:∀b,(∀x∈(List.range' 0 Es.length).zip Es,¬(x.2.n0<=b/\b<x.2.n1))->uA b=G b)
  (hM:MS C.w0 C.W C.N (BL ((List.range' 0 Es.length).zip Es) (lk F)) (dM ((List.range' 0 Es.length).zip Es) (WA H)) uA a' w'):gV C Q .normal a' w':=by
 obtain⟨F',hQ,ww⟩:=tw hK
 have hz:∀x∈(List.range' 0 Es.length).zip Es,x.2∈Es:=λx hx=>(List.of_mem_zip hx).2
 refine⟨F',H',CD,uA,hQ,⟨λb qC=> ?_,Nat.le_trans HF hle,λb hm=> ?_,⟨by rw[<-hH];exact hM.heap,hM.size,hM.defers,λt r e=> ?_⟩⟩⟩
 ·rw[Z b (λx hx h=>by have:=tG x.2 (hz x hx);omega)]
  exact HI b (Nat.le_trans hle qC)
 ·rw[Z b (λx hx h=>by have:=tG x.2 (hz x hx);omega)]
  exact WO b hm
 ·rcases ww t r e with D|⟨D,h2⟩
  ·exact hM.gC t r ((hF t).1 r D)
  ·exact hM.gC t r (((hF t).2 D).trans h2)
theorem TY (Es:List RD) (i:Nat):((List.range' i Es.length).zip Es).map (·.2.o)=Es.map (·.o):=by
 have:((List.range' i Es.length).zip Es).map (λx=>x.2.o)=(((List.range' i Es.length).zip Es).map Prod.snd).map (·.o):=by simp[List.map_map,Function.comp_def]
 rw[this,List.map_snd_zip (by simp)]
theorem UY {R:RD->RD->Prop}:∀{Es:List RD} {i:Nat},Es.Pairwise R->((List.range' i Es.length).zip Es).Pairwise (λx y=>R x.2 y.2)
 |[],i,_=>by simp
 |E::r,i,h=>by
  rw[List.pairwise_cons]at h
  simp only[List.length_cons,List.range'_succ,List.zip_cons_cons,List.pairwise_cons]
  exact⟨λy hy=>h.1 y.2 (List.of_mem_zip hy).2,UY h.2⟩
theorem gi:∀{Es:List RD} {i:Nat} {x:Nat×RD},x∈(List.range' i Es.length).zip Es->Es[x.1-i]? =some x.2/\i<=x.1
 |[],i,x,h=>by simp at h
 |E::r,i,x,h=>by
  simp only[List.length_cons,List.range'_succ,List.zip_cons_cons,List.mem_cons]at h
  rcases h with rfl|h
  ·simp
  ·obtain⟨D,h2⟩:=gi h
   refine⟨?_,O⟩
   rw[show x.1-i=(x.1- (i+1))+1 by omega,List.getElem?_cons_succ]
   exact D
theorem xw {C:Cx} {id:Nat} {ops:List Oper} {F:FS} {H:HS} {Y:Nat} {Q:QT}
  (h:oJ C ops ops F [] H Y [] λFr H' CD _=>dP C.kp Fr F λF'=>Q .normal F' H' CD):T C (.region id (List.toArray ops) false) F H Y Q:=by
 refine⟨λG a w ⟨HI,HF,WO,hM⟩=> ?_⟩
 obtain⟨Es,OK,H',CD,hK,ho,hL,hp,tG,hle⟩:=RY (AC:=lk F) h (λt r e=>by simp[lk]at e) (λt _=>rfl)
 obtain⟨l1,l2,l3⟩:=hL 0
 refine wp_region_lit ?_
 rw[<-ho,<-TY Es 0]
 rw[<-ho,<-TY Es 0]at l1
 exact Lex.run l1 (λx hx b D h2=>HI b (by have:=tG x.2 (List.of_mem_zip hx).2;omega)) (UY hp) hM
  (λuA a' w' Z mJ=>yb (ks:=[]) HI HF WO hK tG hle l2 l3 uA a' w' Z mJ)
theorem zw {C:Cx} {id:Nat} {ops:List Oper} {F:FS} {H:HS} {Y:Nat} {Q:QT}
  (h:oJ C ops ops F [] H Y [] λFr H' CD ks=>TV (List.toArray ops) [] 0 ks.reverse=true/\dP C.kp Fr F λF'=>Q .normal F' H' CD):T C (.region id (List.toArray ops) true) F H Y Q:=by
 refine⟨λG a w ⟨HI,HF,WO,hM⟩=> ?_⟩
 obtain⟨Es,OK,H',CD,⟨Ax,hK⟩,ho,hL,hp,tG,hle⟩:=RY (AC:=lk F) h (λt r e=>by simp[lk]at e) (λt _=>rfl)
 obtain⟨l1,l2,l3⟩:=hL 0
 refine wp_region_any C.mixed ?_
 have hz:∀x∈(List.range' 0 Es.length).zip Es,x.2∈Es:=λx hx=>(List.of_mem_zip hx).2
 have hlen:Es.length=ops.length:=by rw[<-ho];simp
 have Bx:=(vh (ops:=List.toArray ops) Es [] 0 (by simp) (λx hx=>by simp at hx) (λn E hn=>by
  have:(Es.map (·.o))[n]? =some E.o:=by rw[List.getElem?_map,hn];rfl
  rw[ho]at this
  simpa using this) (by simpa using Ax)).1
 have:=Lex.any (Q:=gV C Q) (ops:=List.toArray ops) ((List.toArray ops).size) (L:=(List.range' 0 Es.length).zip Es) (F:=lk F) (H:=WA H) (G:=G) (a:=a) (w:={w with drawn:=w.drawn+1}) (listed:=Array.replicate (List.toArray ops).size false)
  (by simp[hlen]) l1 Bx (λx hx=>by
   obtain⟨D,h2⟩:=gi hx
   have:(Es.map (·.o))[x.1]? =some x.2.o:=by rw[List.getElem?_map];simp only[Nat.sub_zero]at D;rw[D];rfl
   rw[ho]at this
   simpa using this) (by simp) (λi o ho hl=>by
   have fA:=(Array.getElem?_eq_some_iff.1 ho).1
   simp[Array.getD]at fA hl
   omega) (λi hi=>by
   simp only[List.size_toArray]at hi
   constructor
   ·intro _
    rw[List.map_fst_zip (by simp)]
    exact List.mem_range'_1.2 ⟨Nat.zero_le _,O⟩
   ·intro _;simp[Array.getD,hi]) (λx hx b D h2=>HI b (by have:=tG x.2 (hz x hx);omega)) (UY hp) (λx hx=>(tG x.2 (hz x hx)).2.1) hM.drew
  (λuA a' w' Z mJ=>yb (ks:=[]) HI HF WO hK tG hle l2 l3 uA a' w' Z mJ)
 exact this
def rL (C:Cx) (y:Code) (Q:QT):QT
 | .normal,F,H,Y=>T C y F H Y Q
 |e,F,H,Y=>Q e F H Y
theorem ii {C:Cx} {x y:Code} {F:FS} {H:HS} {Y:Nat} {Q:QT} (h:T C x F H Y (rL C y Q)):T C (.seq x y) F H Y Q:=by
 refine⟨λG a w hf=> ?_⟩
 refine wp_seq (wp_mono (h.ok G a w hf) λe a' w' hq=> ?_)
 obtain⟨F',H',CD,uA,hq,qI⟩:=hq
 cases e with
 |normal=>exact T.ok hq uA a' w' qI
 |_=>exact⟨F',H',CD,uA,hq,qI⟩
theorem Dx {C:Cx} {c:Operand} {x y:Code} {F:FS} {H:HS} {Y:Nat} {Q:QT}
  (h:zB F true c λs=>match s with| .v (.bool b)=>(b=true->T C x F H Y Q)/\(b=false->T C y F H Y Q)|_=>False):T C (.cond c x y) F H Y Q:=by
 refine⟨λG a w hf=> ?_⟩
 obtain⟨s,h,hs⟩:=QC h
 split at h
 ·rename_i b
  have:=hs (lk F) G a rfl (λt _=>rfl) hf.ms.gC
  simp only[aA]at this
  exact wp_cond_split this (λZ=>(h.1 Z).ok G a w hf) (λZ=>(h.2 Z).ok G a w hf)
 ·exact h.elim
def UT (id:Nat) (Q:QT):QT
 | .exit i,F,H,Y=>cond (Nat.beq i id) (Q .normal F H Y) (Q (.exit i) F H Y)
 |e,F,H,Y=>Q e F H Y
theorem Ex {C:Cx} {id:Nat} {x:Code} {F:FS} {H:HS} {Y:Nat} {Q:QT} (h:T C x F H Y (UT id Q)):T C (.block id x) F H Y Q:=by
 refine⟨λG a w hf=> ?_⟩
 refine wp_block (wp_mono (h.ok G a w hf) λe a' w' hq=> ?_)
 obtain⟨F',H',CD,uA,hq,qI⟩:=hq
 cases e with
 |exit i=>
  simp only[Exit.inBlock]
  simp only[UT]at hq
  rcases fV i id with⟨e,Z⟩|⟨e,Z⟩
  ·rw[Z]at hq;rw[if_pos e];exact⟨F',H',CD,uA,hq,qI⟩
  ·rw[Z]at hq;rw[if_neg e];exact⟨F',H',CD,uA,hq,qI⟩
 |_=>exact⟨F',H',CD,uA,hq,qI⟩
theorem Fx {C:Cx} {F:FS} {H:HS} {Y:Nat} {Q:QT} (h:Q .normal F H Y):T C .skip F H Y Q:=⟨λG a w hf=>wp_skip ⟨F,H,Y,G,h,hf⟩⟩
theorem Gx {C:Cx} {id:Nat} {F:FS} {H:HS} {Y:Nat} {Q:QT} (h:Q (.exit id) F H Y):T C (.exit id) F H Y Q:=⟨λG a w hf=>wp_exit ⟨F,H,Y,G,h,hf⟩⟩
theorem PD {C:Cx} {F:FS} {H:HS} {Y:Nat} {Q:QT} (h:Q .ret F H Y):T C .ret F H Y Q:=⟨λG a w hf=>wp_ret ⟨F,H,Y,G,h,hf⟩⟩
mutual
def SV.IB (LA:Nat->Nat):SV->SV
 | .v x=> .v x
 | .p b o=> .p (LA b) o
 | .s b o n=> .s (LA b) o n
 | .agg l=> .agg (YA LA l)
 | .jA l=> .jA (YA LA l)
 | .fn f a c=> .fn f (YA LA a) (YA LA c)
 | .gD t x=> .gD t (x.IB LA)
 | .any p=> .any p
 | .m b=> .m (LA b)
def YA (LA:Nat->Nat):List SV->List SV
 |[]=>[]
 |x::r=>x.IB LA::YA LA r
end
mutual
theorem aA.IB {LA:Nat->Nat} {G:wA}:∀{s:SV} {y:Value},aA G (s.IB LA) y->aA (λb=>G (LA b)) s y
 | .v x,y,d=>by simp only[SV.IB,aA]at*;exact d
 | .p b o,y,d=>by simp only[SV.IB,aA]at*;exact d
 | .s b o n,y,d=>by simp only[SV.IB,aA]at*;exact d
 | .agg l,y,d=>by
  simp only[SV.IB,aA]at*
  obtain⟨ys,e,d⟩:=d
  exact⟨ys,e,ZA.IB d⟩
 | .jA l,y,d=>by
  simp only[SV.IB,aA]at*
  obtain⟨ys,e,d⟩:=d
  exact⟨ys,e,ZA.IB d⟩
 | .fn f a c,y,d=>by
  simp only[SV.IB,aA]at*
  obtain⟨xs,ys,e,d,d'⟩:=d
  exact⟨xs,ys,e,ZA.IB d,ZA.IB d'⟩
 | .gD t x,y,d=>by
  simp only[SV.IB,aA]at*
  obtain⟨z,e,d⟩:=d
  exact⟨z,e,aA.IB d⟩
 | .any p,y,d=>by simp only[SV.IB,aA]at*;exact d
 | .m b,y,d=>by simp only[SV.IB,aA]at*;exact d
theorem ZA.IB {LA:Nat->Nat} {G:wA}:∀{l:List SV} {ys:List Value},ZA G (YA LA l) ys->ZA (λb=>G (LA b)) l ys
 |[],ys,d=>by simp only[YA,ZA]at*;exact d
 |x::r,ys,d=>by
  simp only[YA,ZA]at*
  obtain⟨y,q,e,d,d'⟩:=d
  exact⟨y,q,e,aA.IB d,ZA.IB d'⟩
end
def RV.IB (LA:Nat->Nat):RV->RV
 | .u x=> .u (x.IB LA)
 | .g c x=> .g c (x.IB LA)
def DA.IB (LA:Nat->Nat):DA->DA
 | .st xs=> .st (YA LA xs)
 | .X es e xs=> .X es e (YA LA xs)
 | .ro xs=> .ro (YA LA xs)
 | .obj o=> .obj o
theorem pJ (LA:Nat->Nat):∀l:List SV,YA LA l=l.map (SV.IB LA)
 |[]=>rfl
 |x::r=>by rw[YA,pJ LA r];rfl
@[simp] theorem ji (LA:Nat->Nat) (xs:List Value):YA LA (cC xs)=cC xs:=by
 rw[pJ];simp[cC,SV.IB,Function.comp_def]
@[simp] theorem kD (LA:Nat->Nat) (zs:List Int):YA LA (A zs)=A zs:=by
 rw[pJ];simp[A,SV.IB,Function.comp_def]
theorem yC.IB {LA:Nat->Nat} {G:wA} {w:World} {b:Nat}:∀{k:DA},yC G w (LA b) (k.IB LA)->yC (λb=>G (LA b)) w b k
 | .st xs,h=>by
  obtain⟨r,c,e,cs,e1,e2,d⟩:=h
  exact⟨r,c,e,cs,e1,e2,ZA.IB d⟩
 | .X es e xs,h=>by
  rcases h with⟨e1,hx⟩|⟨r,c,cs,sp,e1,e2,d,hl⟩
  ·refine .inl ⟨e1,?_⟩
   cases xs with
   |nil=>rfl
   |cons x r=>simp[YA]at hx
  ·exact .inr ⟨r,c,cs,sp,e1,e2,ZA.IB d,hl⟩
 | .ro xs,h=>by
  rcases h with⟨e1,hx⟩|⟨r,k,c,e1,hr,d⟩
  ·refine .inl ⟨e1,?_⟩
   cases xs with
   |nil=>rfl
   |cons x r=>simp[YA]at hx
  ·refine .inr ⟨r,k,c,e1,hr,λi x hx=> ?_⟩
   obtain⟨y,hy,d⟩:=d i (x.IB LA) (by rw[pJ,List.getElem?_map,hx];rfl)
   exact⟨y,hy,aA.IB d⟩
 | .obj o,h=>h
theorem DA.zU (LA:Nat->Nat) (k:DA):(k.IB LA).own=k.own:=by cases k<;>rfl
def QK (LA:Nat->Nat) (F:FS):FS->Prop
 |[]=>True
 |(t,r)::l=>lk F t=some (r.IB LA)/\QK LA F l
def aE (LA:Nat->Nat) (H:HS) (b:Nat):DA->Prop
 | .ro xs=>∃K rest,WA H (LA b)=some K/\K.cells=YA LA xs++rest
 | .st xs=>WA H (LA b)=some (.st (YA LA xs))
 | .X es e xs=>WA H (LA b)=some (.X es e (YA LA xs))
 | .obj o=>WA H (LA b)=some (.obj o)
def lC (LA:Nat->Nat) (H:HS):HS->Prop
 |[]=>True
 |(b,none)::l=>lC LA H l
 |(b,some k)::l=>aE LA H b k/\lC LA H l
theorem aE.own {LA:Nat->Nat} {H:HS} {b:Nat} {k:DA} (h:aE LA H b k) (hk:k.own=true):WA H (LA b)=some (k.IB LA):=by
 cases k<;>first|exact h|cases hk
theorem aE.any {LA:Nat->Nat} {H:HS} {b:Nat} {k:DA} (h:aE LA H b k):∃K,WA H (LA b)=some K:=by
 cases k with
 |ro=>obtain⟨K,_,h,_⟩:=h;exact⟨K,h⟩
 |st=>exact⟨_,h⟩
 |X=>exact⟨_,h⟩
 |obj=>exact⟨_,h⟩
theorem yC.view {LA:Nat->Nat} {G:wA} {w:World} {b:Nat} {K:DA} {xs rest:List SV} (h:yC G w (LA b) K) (hc:K.cells=YA LA xs++rest):yC (λb=>G (LA b)) w b (.ro xs):=by
 have XO:∀r k c,G (LA b)= .at r k c->yC (λb=>G (LA b)) w b (.ro xs):=λr k c eb=>by
  refine .inr ⟨r,k,c,eb,h.lt r k c eb,λi x hx=> ?_⟩
  have tF:K.cells[i]? =some (x.IB LA):=by
   rw[hc,List.getElem?_append_left (by rw[pJ,List.length_map];exact(List.getElem?_eq_some_iff.1 hx).1),pJ,List.getElem?_map,hx];rfl
  obtain⟨y,hy,dy⟩:=h.cell eb tF
  exact⟨y,hy,aA.IB dy⟩
 have iV:K.cells=[]->xs=[]:=λh0=>by
  rw[hc]at h0
  have:=(List.append_eq_nil_iff.1 h0).1
  rw[pJ]at this
  exact List.map_eq_nil_iff.1 this
 cases K with
 |st ys=>obtain⟨r,c,e1,cs,e2,_⟩:=h;exact XO _ _ _ e2
 |X es e1 ys=>
  rcases h with⟨e2,h2⟩|⟨r,c,cs,sp,e2,_⟩
  ·exact .inl ⟨e2,iV h2⟩
  ·exact XO _ _ _ e2
 |ro ys=>
  rcases h with⟨e2,h2⟩|⟨r,k,c,e2,_⟩
  ·exact .inl ⟨e2,iV h2⟩
  ·exact XO _ _ _ e2
 |obj o=>obtain⟨r,c,e2,_⟩:=h;exact XO _ _ _ e2
theorem aE.WM {LA:Nat->Nat} {G:wA} {w:World} {H:HS} {b:Nat} {k:DA} (h:aE LA H b k) (dB:∀i K,WA H i=some K->yC G w i K):yC (λb=>G (LA b)) w b k:=by
 cases k with
 |ro xs=>obtain⟨K,rest,h,hc⟩:=h;exact yC.view (dB _ _ h) hc
 |st xs=>exact yC.IB (k:= .st xs) (dB _ _ h)
 |X es e xs=>exact yC.IB (k:= .X es e xs) (dB _ _ h)
 |obj o=>exact yC.IB (k:= .obj o) (dB _ _ h)
theorem ki {LA:Nat->Nat} {F:FS}:∀{F':FS},QK LA F F'->∀t r,lk F' t=some r->lk F t=some (r.IB LA)
 |[],_,t,r,e=>by simp[lk]at e
 |(u,x)::l,h,t,r,e=>by
  simp only[lk]at e
  by_cases hu:u=t
  ·subst hu;rw[if_pos rfl]at e;cases e;exact h.1
  ·rw[if_neg hu]at e;exact ki h.2 t r e
theorem VT {LA:Nat->Nat} {H:HS}:∀{H':HS},lC LA H H'->∀b k,WA H' b=some k->aE LA H b k
 |[],_,t,r,e=>by simp[WA]at e
 |(u,none)::l,h,t,r,e=>by
  simp only[WA]at e
  by_cases hu:u=t
  ·subst hu;rw[if_pos rfl]at e;cases e
  ·rw[if_neg hu]at e;exact VT (H':=l) h t r e
 |(u,some x)::l,h,t,r,e=>by
  simp only[WA]at e
  by_cases hu:u=t
  ·subst hu;rw[if_pos rfl]at e;cases e;exact h.1
  ·rw[if_neg hu]at e;exact VT h.2 t r e
def sig (l:List (Nat×Nat)) (n' Y:Nat):Nat->Nat:=λb=>
 if b<n' then(match l.find? (λx=>x.1==b)with|some x=>x.2|none=>b)else Y+(b-n')
structure OA (C:Cx) (l:List (Nat×Nat)) (F:FS) (H:HS) (Y:Nat) (F':FS) (H':HS) (n':Nat):Prop where
 f:QK (sig l n' Y) F F'
 h:lC (sig l n' Y) H H'
 inj:∀b b' k k',b<n'->b'<n'->WA H' b=some k->WA H' b'=some k'->k.own=true->sig l n' Y b=sig l n' Y b'->b=b'
 PK:C.n0<=n'/\∀x∈l,C.n0<=x.1
theorem li {l:List (Nat×Nat)} {n' Y k b:Nat} (h:k<=n'/\∀x∈l,k<=x.1) (Z:b<k):sig l n' Y b=b:=by
 have hn:l.find? (λx=>x.1==b)=none:=List.find?_eq_none.2 λx hx=>by have:=h.2 x hx;simp;omega
 simp only[sig]
 rw[if_pos O,hn]
theorem MH.Gv {C:Cx} {l:List (Nat×Nat)} {F:FS} {H:HS} {Y:Nat} {F':FS} {H':HS} {n':Nat} {w0:World} {W:Nat->Prop} {G:wA} {w:World} (M:MH w0 W (WA H) G w) (h:OA C l F H Y F' H' n') (hu:∀b,n'<=b->G (sig l n' Y b)= .iD):MH w0 W (WA H') (λb=>G (sig l n' Y b)) w:=by
 refine⟨M.os,M.tape,M.output,M.size,M.eE,λb k e=>(VT h.h b k e).WM M.ok,λb k e ho r o c e'=>M.own _ _ ((VT h.h b k e).own ho) (by rw[DA.zU];exact ho) r o c e',λb b' k k' e e' ho LC r o c o' c' e1 e2=> ?_⟩
 obtain⟨K',Hx⟩:=(VT h.h b' k' e').any
 refine M.inj _ _ _ _ ((VT h.h b k e).own ho) Hx (by rw[DA.zU];exact ho) (λes=> ?_) r o c o' c' e1 e2
 rcases Nat.lt_or_ge b n' with Z|Z
 ·rcases Nat.lt_or_ge b' n' with qC|qC
  ·exact LC (h.inj b b' k k' Z qC e e' ho es)
  ·have:=hu b' qC;have e2:G (sig l n' Y b')=_:=e2;rw[this]at e2;cases e2
 ·have:=hu b Z;have e1:G (sig l n' Y b)=_:=e1;rw[this]at e1;cases e1
theorem OA.fit {C:Cx} {l:List (Nat×Nat)} {F:FS} {H:HS} {Y:Nat} {F':FS} {H':HS} {n':Nat} (h:OA C l F H Y F' H' n') {G:wA} {a:Act} {w:World} (hf:Fit C F H Y G a w):
  Fit C F' H' n' (λb=>G (sig l n' Y b)) a w:=by
 have hu:∀b,n'<=b->G (sig l n' Y b)= .iD:=λb Z=>hf.iD _ (by simp only[sig];rw[if_neg O];omega)
 refine⟨hu,h.PK.1,λb hm=> ?_,⟨?_,hf.ms.size,hf.ms.defers,λt r e=> ?_⟩⟩
 ·show G (sig l n' Y b)=_
  rw[li h.PK hm];exact hf.PK b hm
 ·exact hf.ms.heap.Gv h hu
 ·obtain⟨D,h2⟩:=hf.ms.gC t _ (ki h.f t r e)
  refine⟨D,?_⟩
  cases r with
  |u x=>exact aA.IB h2
  |g c x=>
   simp only[RV.IB,IH]at h2⊢
   by_cases hc:c=true
   ·rw[if_pos hc]at h2⊢;exact aA.IB h2
   ·rw[if_neg hc]at h2⊢;exact h2
theorem mB {C:Cx} {c:Code} {l:List (Nat×Nat)} {F:FS} {H:HS} {Y:Nat} {F':FS} {H':HS} {n':Nat} {Q:QT} (h:OA C l F H Y F' H' n') (ht:T C c F' H' n' Q):T C c F H Y Q:=
 ⟨λG a w hf=>ht.ok _ a w (h.fit hf)⟩
structure MB (LH:Type)where
 F:LH->FS
 H:LH->HS
 n:LH->Nat
def zb (C:Cx) {LH:Type} (I:MB LH) (p:LH->Prop) (F:FS) (H:HS) (Y:Nat):Prop:=∃i l,p i/\OA C l F H Y (I.F i) (I.H i) (I.n i)
def oi (C:Cx) {LH:Type} (I:MB LH) (BR:LH->Nat) (i:LH) (Q:QT):QT
 | .normal,F,H,Y=>zb C I (λj=>BR j<BR i) F H Y
 |e,F,H,Y=>Q e F H Y
theorem FB {C:Cx} {x:Code} {F:FS} {H:HS} {Y:Nat} {Q:QT} {LH:Type} (I:MB LH) (BR:LH->Nat) (h0:zb C I (λ_=>True) F H Y) (Ac:∀i F H Y,F=I.F i->H=I.H i->Y=I.n i->T C x F H Y (oi C I BR i Q)):T C (.loop x) F H Y Q:=by
 have hr:∀i,T C x (I.F i) (I.H i) (I.n i) (oi C I BR i Q):=λi=>Ac i _ _ _ rfl rfl rfl
 refine⟨λG a w hf=> ?_⟩
 obtain⟨i0,l0,_,he⟩:=h0
 have key:∀(m:Nat) (i:LH),BR i=m->∀G a w,Fit C (I.F i) (I.H i) (I.n i) G a w->∀(b:Frame) (k:List Item) (cs:List Frame),
   ∃e a' w',gV C Q e a' w'/\Arrives C.P (lone (b.at a (.code x:: .inLoop x::k)) cs w) b k cs e a' w':=by
  intro m
  induction m using Nat.strongRecOn with
  |_ m ih=>
   intro i hi G a w hf b k cs
   obtain⟨e,jV,kV,hq,YO⟩:=(hr i).ok G a w hf b (.inLoop x::k) cs
   obtain⟨F',H',CD,uA,hq,qI⟩:=hq
   cases e with
   |normal=>
    obtain⟨j,l,fA,Bc⟩:=hq
    obtain⟨Cc,Dc,Ec,Fc,Gc⟩:=ih (BR j) (hi▸fA) j rfl _ jV kV (Bc.fit qI) b k cs
    exact⟨Cc,Dc,Ec,Fc, .of_steps (Steps.trans YO (.one step_inLoop)) Gc⟩
   |_=>exact⟨_,jV,kV,⟨F',H',CD,uA,hq,qI⟩, .pass (x:= .inLoop x) rfl (λ_ _=> .inl (by simp)) YO⟩
 intro b k cs
 obtain⟨e,a',w',hq,YO⟩:=key _ i0 rfl _ a w (he.fit hf) b k cs
 exact⟨e,a',w',hq, .of_steps (.one step_loop) YO⟩
def Ix (C:Cx) {LH:Type} (I:MB LH) (Q:QT):QT
 | .normal,F,H,Y=>zb C I (λ_=>True) F H Y
 |e,F,H,Y=>Q e F H Y
theorem Jx {C:Cx} {x y:Code} {F:FS} {H:HS} {Y:Nat} {Q:QT} {LH:Type} (I:MB LH) (h:T C x F H Y (Ix C I Q)) (Ac:∀i F H Y,F=I.F i->H=I.H i->Y=I.n i->T C y F H Y Q):T C (.seq x y) F H Y Q:=by
 have hr:∀i,T C y (I.F i) (I.H i) (I.n i) Q:=λi=>Ac i _ _ _ rfl rfl rfl
 refine⟨λG a w hf=> ?_⟩
 refine wp_seq (wp_mono (h.ok G a w hf) λe a' w' hq=> ?_)
 obtain⟨F',H',CD,uA,hq,qI⟩:=hq
 cases e with
 |normal=>
  obtain⟨j,l,_,Bc⟩:=hq
  exact(hr j).ok _ a' w' (Bc.fit qI)
 |_=>exact⟨F',H',CD,uA,hq,qI⟩
theorem ZO {C:Cx} {c:Code} {F:FS} {H:HS} {Y:Nat} {Q Q':QT} (h:T C c F H Y Q) (hq:∀e F H Y,Q e F H Y->Q' e F H Y):T C c F H Y Q':=⟨λG a w hf=>
 wp_mono (h.ok G a w hf) λe a' w' ⟨F',H',CD,uA,D,h2⟩=>⟨F',H',CD,uA,hq _ _ _ _ D,h2⟩⟩
theorem Kx {C:Cx} {c:Code} {F:FS} {H:HS} {Y:Nat} {Q:QT} (t:Nat) {p:Value->Prop} (hl:lk F t=some (.u (.any p))) (h:∀y,p y->T C c ((t, .u (.v y))::F) H Y Q):T C c F H Y Q:=by
 refine⟨λG a w hf=> ?_⟩
 obtain⟨D,h2⟩:=hf.ms.gC t _ hl
 simp only[IH,aA]at h2
 refine(h _ h2).ok G a w ⟨hf.iD,hf.le,hf.PK,hf.ms.heap,hf.ms.size,hf.ms.defers,λu r hu=> ?_⟩
 simp only[lk]at hu
 by_cases e:t=u
 ·subst e;rw[if_pos rfl]at hu;cases hu;exact⟨D,by simp only[IH,aA]⟩
 ·rw[if_neg e]at hu;exact hf.ms.gC u r hu
def DR (C:Cx) (x:Code):Nat->FS->HS->Nat->QT->Prop
 |0,_,_,_,_=>False
 |n+1,F,H,Y,Q=>T C x F H Y λe F H Y=>match e with
  | .normal=>DR C x n F H Y Q
  |e=>Q e F H Y
def Lx (C:Cx) (x:Code) (n:Nat) (Q:QT):QT
 | .normal,F,H,Y=>DR C x n F H Y Q
 |e,F,H,Y=>Q e F H Y
theorem FFA {C:Cx} {x:Code} {n:Nat} {F:FS} {H:HS} {Y:Nat} {Q:QT} (h:T C x F H Y (Lx C x n Q)):DR C x (n+1) F H Y Q:=by
 unfold DR
 refine⟨λG a w hf=> ?_⟩
 have:=h.ok G a w hf
 refine wp_mono this λe a w hq=> ?_
 obtain⟨F',H',CD,uA,hq,qI⟩:=hq
 refine⟨F',H',CD,uA,?_,qI⟩
 cases e<;>exact hq
theorem qi {C:Cx} {x:Code} {Q:QT}:∀{n:Nat} {F:FS} {H:HS} {Y:Nat},DR C x n F H Y Q->∀G a w,Fit C F H Y G a w->∀(b:Frame) (k:List Item) (cs:List Frame),
   ∃e a' w',gV C Q e a' w'/\Arrives C.P (lone (b.at a (.code x:: .inLoop x::k)) cs w) b k cs e a' w'
 |0,F,H,Y,h,_,_,_,_,_,_,_=>h.elim
 |n+1,F,H,Y,h,G,a,w,hf,b,k,cs=>by
  unfold DR at h
  obtain⟨e,jV,kV,hq,YO⟩:=h.ok G a w hf b (.inLoop x::k) cs
  obtain⟨F',H',CD,uA,hq,qI⟩:=hq
  cases e with
  |normal=>
   obtain⟨Cc,Dc,Ec,Fc,Gc⟩:=qi hq uA jV kV qI b k cs
   exact⟨Cc,Dc,Ec,Fc, .of_steps (Steps.trans YO (.one step_inLoop)) Gc⟩
  |_=>exact⟨_,jV,kV,⟨F',H',CD,uA,hq,qI⟩, .pass (x:= .inLoop x) rfl (λ_ _=> .inl (by simp)) YO⟩
theorem GFA (n:Nat) {C:Cx} {x:Code} {F:FS} {H:HS} {Y:Nat} {Q:QT} (h:DR C x n F H Y Q):T C (.loop x) F H Y Q:=by
 refine⟨λG a w hf=> ?_⟩
 intro b k cs
 obtain⟨e,a',w',hq,YO⟩:=qi h G a w hf b k cs
 exact⟨e,a',w',hq, .of_steps (.one step_loop) YO⟩
def aO:List SV->List SV->Prop
 |[],[]=>True
 |x::r,y::r'=>(y=x\/y= .any λ_=>True)/\aO r r'
 |_,_=>False
theorem aO.den {G:wA}:∀{xs ys:List SV} {vs:List Value},aO xs ys->ZA G xs vs->ZA G ys vs
 |[],[],vs,_,d=>d
 |x::r,y::r',vs,h,d=>by
  simp only[ZA]at d⊢
  obtain⟨v,vs,rfl,d1,d2⟩:=d
  refine⟨v,vs,rfl,?_,aO.den h.2 d2⟩
  rcases h.1 with rfl|rfl
  ·exact d1
  ·simp only[aA]
 |[],_::_,_,h,_=>h.elim
 |_::_,[],_,h,_=>h.elim
theorem RK (b:Nat) {xs:List SV} (ys:List SV) {C:Cx} {c:Code} {F:FS} {H:HS} {Y:Nat} {Q:QT} (hl:WA H b=some (.st xs)) (hg:aO xs ys) (h:T C c F ((b,some (.st ys))::H) Y Q):T C c F H Y Q:=by
 refine⟨λG a w hf=>h.ok G a w ⟨hf.iD,hf.le,hf.PK,?_,hf.ms.size,hf.ms.defers,hf.ms.gC⟩⟩
 have M:=hf.ms.heap
 have NJ:∀i k,WA ((b,some (.st ys))::H) i=some k->(i=b/\k= .st ys)\/(i≠b/\WA H i=some k):=λi k hi=>by
  simp only[WA]at hi
  by_cases e':b=i
  ·rw[if_pos e']at hi;cases hi;exact .inl ⟨e'.symm,rfl⟩
  ·rw[if_neg e']at hi;exact .inr ⟨Ne.symm e',hi⟩
 have fix:∀i k,WA ((b,some (.st ys))::H) i=some k->∃k',WA H i=some k'/\(k.own=true->k'.own=true):=λi k hi=>by
  rcases NJ i k hi with⟨rfl,rfl⟩|⟨_,h2⟩
  ·exact⟨_,hl,λ_=>rfl⟩
  ·exact⟨k,h2,λh=>h⟩
 refine⟨M.os,M.tape,M.output,M.size,M.eE,λi k hi=> ?_,λi k hi ho r o c eb=> ?_,λi j k k' hi hj ho LC r o c o' c' eb wD=> ?_⟩
 ·rcases NJ i k hi with⟨rfl,rfl⟩|⟨_,h2⟩
  ·obtain⟨r,c,e,cs,e1,e2,d⟩:=M.ok _ _ hl
   exact⟨r,c,e,cs,e1,e2,hg.den d⟩
  ·exact M.ok i k h2
 ·obtain⟨k',D,h2⟩:=fix i k hi
  exact M.own i k' D (h2 ho) r o c eb
 ·obtain⟨k1,D,h2⟩:=fix i k hi
  obtain⟨k2,h3,h4⟩:=fix j k' hj
  exact M.inj i j k1 k2 D h3 (h2 ho) LC r o c o' c' eb wD
def ER:List SV->Nat->FS
 |[],_=>[]
 |s::r,k=>(k, .u s)::ER r (k+1)
theorem ri:∀{l:List SV} {k t:Nat} {r:RV},lk (ER l k) t=some r->∃s,l[t-k]? =some s/\r= .u s/\k<=t
 |[],k,t,r,h=>by simp[ER,lk]at h
 |s::l,k,t,r,h=>by
  simp only[ER,lk]at h
  by_cases e:k=t
  ·subst e;rw[if_pos rfl]at h;cases h;exact⟨s,by simp,rfl,Nat.le_refl _⟩
  ·rw[if_neg e]at h
   obtain⟨s',D,h2,h3⟩:=ri (l:=l) h
   exact⟨s',by rw[show t-k=(t- (k+1))+1 by omega,List.getElem?_cons_succ];exact D,h2,O⟩
theorem MH.GA (w:World) (W:Nat->Prop) (G:wA):MH w W (WA []) G w:=
 ⟨rfl,rfl,rfl,Nat.le_refl _,λ_ _ _=>rfl,λb k e=>by simp[WA]at e,λb k e=>by simp[WA]at e,λb b' k k' e=>by simp[WA]at e⟩
theorem Mx {C:Cx} {f:Nat} {fn:Func} {c:Code} {args:Array Value} {eB:List SV} {H:HS} {Y:Nat} {G:wA} {w:World} {Q:QT} {R:Ending->World->Prop} (hf:C.P.funcs[f]? =some fn) (Z:fn.body=some c) (hN:C.N=fn.ntmps)
  (HI:∀b,Y<=b->G b= .iD) (HF:C.n0<=Y) (WO:Pn C G) (hd:ZA G eB args.toList) (hH:MH C.w0 C.W (WA H) G w) (hle:eB.length<=C.N) (ht:T C c (ER eB 0) H Y Q)
  (hQ:∀e F H Y G a w',Q e F H Y->Fit C F H Y G a w'->bodyPost C.P fn R e a w'):Calls C.P f args w R:=by
 have hlen:args.size=eB.length:=by have:=ZA.length _ _ hd;simpa using this
 refine calls_of_wp hf Z (wp_mono (ht.ok G _ w ⟨HI,HF,WO,hH,?_,rfl,λt r e=> ?_⟩) λe a w' ⟨F',H',CD,uA,D,h2⟩=>hQ e F' H' CD uA a w' D h2)
 ·simp;omega
 ·obtain⟨s,D,h2,_⟩:=ri e
  subst h2
  rw[Nat.sub_zero]at D
  obtain⟨y,hy,d⟩:=ZA.get _ _ hd t s D
  have fA:t<args.size:=by
   have:=(List.getElem?_eq_some_iff.1 hy).1;simpa using this
  refine⟨by simp;omega,?_⟩
  have:(args++Array.replicate (fn.ntmps-args.size) undef).getD t undef=y:=by
   have kI:args[t]? =some y:=by simpa using hy
   simp[Array.getD,fA,Array.getElem_append_left fA]
   rw[Array.getElem?_eq_getElem fA]at kI
   have Nx:args[t]=y:=by simpa using kI
   rw[if_pos O];exact Nx
  rw[this]
  exact d
def FR (C:Cx) (F:FS) (H:HS) (rs:List ResultVar) (k:List SV->Prop):Prop:=
 match rs with
 |[]=>k []
 | .tmp t::r=>sQ F t λx=>(match x with| .u s=>FR C F H r λss=>k (s::ss)|_=>False)
 | .cell a t::r=>sQ F a λx=>(match x with
  | .u (.p b q)=>MO H b λbl=>(match C.ty t with
   |some i=>(match i.agg with
    |false=>QN bl.cells q λs=>FR C F H r λss=>k (s::ss)
    |true=>IK bl.cells q λl=>EV l i.size λl=>FR C F H r λss=>k (.agg l::ss))
   |none=>False)
  |_=>False)
theorem si {C:Cx} {H:HS} {G:wA} {w:World} {b q:Nat} {bl:DA} {t:Nat} {i:TI} {x:Value} (hM:MH C.w0 C.W (WA H) G w) (Z:WA H b=some bl) (hi:C.ty t=some i) (d:aA G (.p b q) x):
  (i.agg=false->∀s,bl.cells[q]? =some s->∃y,(asAddr x).run C.P w= .ok (match x with| .pointer (some a)=>a|_=>⟨0,0,none⟩) w/\(do loadVar t (<-asAddr x):Sem Value).run C.P w= .ok y w/\aA G s y)/\
  (i.agg=true->∀l:List SV,l.length=i.size->(∀(j:Nat) (s:SV),l[j]? =some s->bl.cells[q+j]? =some s)->∃y,(do loadVar t (<-asAddr x):Sem Value).run C.P w= .ok y w/\aA G (.agg l) y):=by
 simp only[aA]at d
 obtain⟨r,k,c,e,rfl⟩:=d
 obtain⟨dd,D,h2,h3⟩:=(C.YD t i hi).under
 have hA:=VP (P:=C.P) (w:=w) D
 rw[<-h3]at hA
 refine⟨λiH s hs=> ?_,λiH l hl hs=> ?_⟩
 ·rw[iH]at hA
  obtain⟨y,hy,dy⟩:=(hM.ok b bl Z).cell e hs
  exact⟨y,by simp[asAddr],by simp[asAddr,loadVar,hA,load,Sem.run,hy],dy⟩
 ·rw[iH]at hA
  obtain⟨ys,JH,JI,Hb⟩:=ah (G:=G) (w:=w) (r:=r) (q:=k+q) l (λj s hj=>by
   have:=(hM.ok b bl Z).cell e (hs j s hj)
   rwa [show k+(q+j)=k+q+j by omega]at this)
  obtain⟨I,i1,i2,_⟩:=(C.YD t i hi).jL
  have hL:=run_loadCells_list (P:=C.P) w ⟨r,k+q,none⟩ ys (λj v hv=>by rw[LO];exact Hb j v hv)
  rw[JH,hl,<-i2]at hL
  exact⟨.agg (List.toArray ys),by simp[asAddr,loadVar,hA,run_sizeOf i1,hL],by simp only[aA];exact⟨ys,rfl,JI⟩⟩
def GR (tmps:Array Value):ResultVar->Sem Value
 | .tmp t=>pure (tmps.getD t undef)
 | .cell a t=>do loadVar t (<-asAddr (tmps.getD a undef))
theorem Ox (fn:Func) (tmps:Array Value):results fn tmps=(do let vs<-fn.results.mapM (GR tmps);pure (if h:vs.size=1 then vs[0]else .tuple vs)):=by
 unfold results
 congr 1
theorem Hc {P:Program} {w:World} {tmps:Array Value} {x:ResultVar} {r:List ResultVar} {y:Value} {ys:List Value} (h:(GR tmps x).run P w= .ok y w) (hr:(r.mapM (GR tmps)).run P w= .ok ys w):
  ((x::r).mapM (GR tmps)).run P w= .ok (y::ys) w:=by
 rw[List.mapM_cons,Sem.run_bind,h,Result.andThen_ok,Sem.run_bind,hr,Result.andThen_ok,Sem.run_pure]
theorem VY {C:Cx} {F:FS} {H:HS}:∀{rs:List ResultVar} {k:List SV->Prop},FR C F H rs k->∃ss,k ss/\∀Y G a w,Fit C F H Y G a w->∃ys,ZA G ss ys/\
  (rs.mapM (GR a.tmps)).run C.P w= .ok ys w
 |[],k,h=>⟨[],h,λY G a w hf=>⟨[],by simp[ZA],by simp⟩⟩
 | .tmp t::r,k,h=>by
  obtain⟨x,hx,h⟩:=CV h
  split at h
  ·rename_i s
   obtain⟨ss,h,hr⟩:=VY h
   refine⟨s::ss,h,λY G a w hf=> ?_⟩
   obtain⟨ys,d,e⟩:=hr Y G a w hf
   have ds:=(hf.ms.gC t _ hx).2
   exact⟨a.tmps.getD t undef::ys,by simp only[ZA];exact⟨_,_,rfl,ds,d⟩,Hc rfl e⟩
  ·exact h.elim
 | .cell x t::r,k,h=>by
  obtain⟨v,hv,h⟩:=CV h
  split at h
  ·rename_i b q
   obtain⟨bl,Z,h⟩:=tQ h
   split at h
   ·rename_i i hi
    split at h
    ·rename_i iH
     obtain⟨s,hs,h⟩:=XP h
     obtain⟨ss,h,hr⟩:=VY h
     refine⟨s::ss,h,λY G a w hf=> ?_⟩
     obtain⟨ys,d,e⟩:=hr Y G a w hf
     have ds:=(hf.ms.gC x _ hv).2
     obtain⟨y,_,hy,dy⟩:=(si hf.ms.heap Z hi ds).1 iH s hs
     exact⟨y::ys,by simp only[ZA];exact⟨_,_,rfl,dy,d⟩,Hc hy e⟩
    ·rename_i iH
     obtain⟨h,_⟩:=Eb h
     obtain⟨l,hl,hg,h⟩:=Db h
     obtain⟨ss,h,hr⟩:=VY h
     refine⟨.agg l::ss,h,λY G a w hf=> ?_⟩
     obtain⟨ys,d,e⟩:=hr Y G a w hf
     have ds:=(hf.ms.gC x _ hv).2
     obtain⟨y,hy,dy⟩:=(si hf.ms.heap Z hi ds).2 iH l hl (λj s hj=>by have:=hg j s hj;rwa [List.getElem?_drop]at this)
     exact⟨y::ys,by simp only[ZA];exact⟨_,_,rfl,dy,d⟩,Hc hy e⟩
   ·exact h.elim
  ·exact h.elim
def one (ss:List SV):SV:=match ss with|[s]=>s|_=> .jA ss
def lV (C:Cx) (rs:List ResultVar) (R:SV->HS->Nat->Prop):QT
 | .ret,F,H,Y=>FR C F H rs λss=>R (one ss) H Y
 | .normal,F,H,Y=>FR C F H rs λss=>R (one ss) H Y
 |_,_,_,_=>False
theorem Px {C:Cx} {fn:Func} {rs:List ResultVar} {R:SV->HS->Nat->Prop} {RR:Ending->World->Prop} (WT:fn.results=List.toArray rs) (hR:∀s H Y,R s H Y->∀G y w,(∀b,Y<=b->G b= .iD)->Pn C G->aA G s y->MH C.w0 C.W (WA H) G w->RR (.returned y) w):
  ∀e F H Y G a w',lV C rs R e F H Y->Fit C F H Y G a w'->bodyPost C.P fn RR e a w':=by
 have main:∀F H Y G a w',(FR C F H rs λss=>R (one ss) H Y)->Fit C F H Y G a w'->a.defers=[]/\∃v,(results fn a.tmps).run C.P w'= .ok v w'/\RR (.returned v) w':=by
  intro F H Y G a w' h hf
  obtain⟨ss,h,hr⟩:=VY h
  obtain⟨ys,d,e⟩:=hr Y G a w' hf
  have hl:=ZA.length _ _ d
  have KT:(results fn a.tmps).run C.P w'= .ok (if h:(List.toArray ys).size=1 then(List.toArray ys)[0]else .tuple (List.toArray ys)) w':=by
   rw[Ox,WT,List.mapM_toArray]
   rw[show(List.toArray<$>(rs.mapM (GR a.tmps)):Sem (Array Value))=(do let l<-rs.mapM (GR a.tmps);pure (List.toArray l))from rfl]
   simp only[Sem.run_bind,e,Result.andThen_ok,Sem.run_pure]
  refine⟨hf.ms.defers,_,KT,hR _ H Y h G _ w' hf.iD hf.PK ?_ hf.ms.heap⟩
  match ss,ys,hl,d with
  |[s],[y],_,d=>
   simp only[ZA]at d
   obtain⟨y',r,e1,d,_⟩:=d
   cases e1
   exact d
  |[],[],_,d=>simp only[one,aA];exact⟨[],rfl,d⟩
  |s::s'::r,y::y'::r',_,d=>simp only[one,aA];exact⟨_,rfl,d⟩
 intro e F H Y G a w' h hf
 cases e<;>first|exact main F H Y G a w' h hf|exact h.elim
abbrev Pure (P:Program) (f:Nat) (args:List Value) (r:Value):Prop:=∀w:World,GV w->Calls P f (List.toArray args) w λe w'=>e= .returned r/\Below w.heap.size w w'
theorem MH.below {w0 w:World} {H:lI} {G:wA} (h:MH w0 (λ_=>False) H G w):Below w0.heap.size w0 w:=⟨h.os,h.tape,h.output,h.size,λk hk=>h.eE k hk (λe=>e)⟩
def JE:SV->Option Value
 | .v x=>some x
 | .agg l=>(vOfL l).map λys=> .agg (List.toArray ys)
 | .jA l=>(vOfL l).map λys=> .tuple (List.toArray ys)
 | .gD t x=>(JE x).map λy=> .iface t y
 |_=>none
where
 vOfL:List SV->Option (List Value)
  |[]=>some []
  |x::r=>match JE x,vOfL r with
   |some y,some ys=>some (y::ys)
   |_,_=>none
mutual
theorem jM {G:wA}:∀{s:SV} {x y:Value},JE s=some x->(aA G s y↔y=x)
 | .v z,x,y,h=>by simp only[JE,Option.some.injEq]at h;subst h;simp[aA]
 | .p b o,x,y,h=>by simp[JE]at h
 | .s b o n,x,y,h=>by simp[JE]at h
 | .fn f a c,x,y,h=>by simp[JE]at h
 | .any p,x,y,h=>by simp[JE]at h
 | .m b,x,y,h=>by simp[JE]at h
 | .agg l,x,y,h=>by
  simp only[JE,Option.map_eq_some_iff]at h
  obtain⟨ys,h,rfl⟩:=h
  simp only[aA]
  constructor
  ·rintro⟨zs,rfl,d⟩
   rw[(eP h).1 d]
  ·rintro rfl
   exact⟨ys,rfl,(eP h).2 rfl⟩
 | .jA l,x,y,h=>by
  simp only[JE,Option.map_eq_some_iff]at h
  obtain⟨ys,h,rfl⟩:=h
  simp only[aA]
  constructor
  ·rintro⟨zs,rfl,d⟩
   rw[(eP h).1 d]
  ·rintro rfl
   exact⟨ys,rfl,(eP h).2 rfl⟩
 | .gD t s,x,y,h=>by
  simp only[JE,Option.map_eq_some_iff]at h
  obtain⟨z,h,rfl⟩:=h
  simp only[aA]
  constructor
  ·rintro⟨z',rfl,d⟩
   rw[(jM h).1 d]
  ·rintro rfl
   exact⟨z,rfl,(jM h).2 rfl⟩
theorem eP {G:wA}:∀{l:List SV} {ys zs:List Value},JE.vOfL l=some ys->(ZA G l zs↔zs=ys)
 |[],ys,zs,h=>by simp only[JE.vOfL,Option.some.injEq]at h;subst h;simp[ZA]
 |x::r,ys,zs,h=>by
  simp only[JE.vOfL]at h
  split at h
  ·rename_i y qs D h2
   cases h
   simp only[ZA]
   constructor
   ·rintro⟨y',q,rfl,d,d'⟩
    rw[(jM D).1 d,(eP h2).1 d']
   ·rintro rfl
    exact⟨y,qs,rfl,(jM D).2 rfl,(eP h2).2 rfl⟩
  ·cases h
end
theorem ti {C:Cx} {f:Nat} {eB:List SV} {H:HS} {Y:Nat} {c0:Bool} {k:QD->Prop} {fn:Func} {args:List Value} {r:Value} {s:SV} (hf:C.P.funcs[f]? =some fn) (Z:fn.body.isNone=false) (ha:JE.vOfL eB=some args) (hs:JE s=some r)
  (hc:c0=true->Pure C.P f args r) (hk:k ⟨s,[],Y,[]⟩):∃fn,C.P.funcs[f]? =some fn/\fn.body.isNone=false/\EY C.P C.w0 C.W f eB H Y c0 k:=by
 refine⟨fn,hf,Z,⟨s,[],Y,[]⟩,⟨Nat.le_refl _,λh=>⟨Nat.le_refl _,λH' G w ys _ _ hM d=> ?_⟩⟩,hk⟩
 rw[(eP ha).1 d]
 refine(hc h w (hM.gv C.gw)).mono λe w' ⟨he,Z⟩=>⟨r,he,G,uD.refl G,λ_ _=>rfl,(jM hs).2 rfl,hM.later Z⟩
end En
namespace En
open Go.Proofs.Tryz
theorem DD {P:Prop} (h:P:=by kernel_rfl):P:=h
theorem gB {PB:Type _} {a b:PB} (h:a=b:=by kernel_rfl):some a=some b:=congrArg some h
def kindOf (P:Program):TypeDesc->Option TK
 | .int k=>some (.int k)
 | .string=>some .str
 | .bool=>some .bool
 | .slice e=>(P.info? e).map λI=> .sl e I.size
 | .struct fields=>(fields.toList.mapM λ(f:Field)=>do
   let I<-P.info? f.type
   let df<-P.underlying f.type
   some (f.offset,I.size,wS df)).map .st
 | .array n e=>(P.info? e).map λI=> .ar n e I.size
 | .interface _=>some .gD
 |_=>some .other
def MC (P:Program) (t:Nat):Option TI:=do
 let I<-P.info? t
 let z<-I.zero
 let d<-P.underlying t
 let k<-kindOf P d
 some ⟨wS d,I.size,I.bytes,z.cells.toList,k⟩
theorem ui {PB G:Type} {f:PB->Option G}:∀{l:List PB} {r:List G},l.mapM f=some r->r.length=l.length/\∀(i:Nat) (y:G),r[i]? =some y->∃x,l[i]? =some x/\f x=some y
 |[],r,h=>by simp at h;subst h;simp
 |x::l,r,h=>by
  simp only[List.mapM_cons,Option.bind_eq_bind,Option.bind_eq_some_iff,Option.pure_def,Option.some.injEq]at h
  obtain⟨y,hy,ys,Ic,rfl⟩:=h
  obtain⟨D,h2⟩:=ui Ic
  refine⟨by simp[D],λi z hz=> ?_⟩
  cases i with
  |zero=>simp at hz;subst hz;exact⟨x,rfl,hy⟩
  |succ i=>simp at hz⊢;exact h2 i z hz
theorem Qx {P:Program} {t:Nat} {i:TI} (h:MC P t=some i):Vh P t i:=by
 simp only[MC,Option.bind_eq_bind,Option.bind_eq_some_iff,Option.some.injEq]at h
 obtain⟨I,hI,z,hz,d,hd,k,hk,rfl⟩:=h
 refine⟨⟨I,hI,rfl,rfl,z,hz,rfl⟩,d,hd,?_,rfl⟩
 show Cb P d k
 unfold kindOf at hk
 split at hk
 ·cases hk;exact rfl
 ·cases hk;exact rfl
 ·cases hk;exact rfl
 ·simp only[Option.map_eq_some_iff]at hk
  obtain⟨I',D,rfl⟩:=hk
  exact⟨rfl,I',D,rfl⟩
 ·simp only[Option.map_eq_some_iff]at hk
  obtain⟨fs,D,rfl⟩:=hk
  obtain⟨h2,h3⟩:=ui D
  refine⟨_,rfl,by simpa using h2.symm,λi off sz ag hi=> ?_⟩
  obtain⟨f,hf,hg⟩:=h3 i _ hi
  simp only[Option.bind_eq_bind,Option.bind_eq_some_iff,Option.some.injEq,Prod.mk.injEq]at hg
  obtain⟨I',Rx,df,Jb,e1,e2,e3⟩:=hg
  exact⟨f,by simpa using hf,e1,⟨I',Rx,e2⟩,df,Jb,e3.symm⟩
 ·simp only[Option.map_eq_some_iff]at hk
  obtain⟨I',D,rfl⟩:=hk
  exact⟨rfl,I',D,rfl⟩
 ·cases hk;exact⟨_,rfl⟩
 ·rename_i D h2 h3 h4 h5 h6 h7
  cases hk
  intro ms e
  exact h7 ms e
def vi:TI:=⟨false,1,8,[.int .i64 0], .int .i64⟩
def HR:TI:=⟨false,1,8,[.int .i64 0], .int .i64⟩
def wi:TI:=⟨false,1,1,[.bool false], .bool⟩
def xi:TI:=⟨false,1,1,[.int .u8 0], .int .u8⟩
def WY:TI:=⟨false,1,16,[.string ⟨#[]⟩], .str⟩
def yi:TI:=⟨false,1,4,[.int .i32 0], .int .i32⟩
def zi:TI:=⟨false,1,24,[.slice none 0 0], .sl 3 1⟩
def Aj:TI:=⟨false,1,24,[.slice none 0 0], .sl 60 2⟩
def mV:TI:=⟨true,18,296,[.int .u8 0, .bool false, .int .i64 0, .int .i64 0, .int .i64 0, .int .i64 0, .bool false, .int .i64 0, .slice none 0 0, .slice none 0 0, .slice none 0 0, .slice none 0 0, .slice none 0 0, .slice none 0 0, .slice none 0 0, .slice none 0 0, .slice none 0 0, .slice none 0 0], .st [(0,1,false),(1,1,false),(2,1,false),(3,1,false),(4,1,false),(5,1,false),(6,1,false),(7,1,false),(8,1,false),(9,1,false),(10,1,false),(11,1,false),(12,1,false),(13,1,false),(14,1,false),(15,1,false),(16,1,false),(17,1,false)]⟩
def Bj:TI:=⟨false,1,24,[.slice none 0 0], .sl 2 1⟩
def Cj:TI:=⟨false,1,24,[.slice none 0 0], .sl 43 2⟩
def nV:TI:=⟨true,18,296,[.int .u8 0, .bool false, .int .i64 0, .int .i64 0, .int .i64 0, .int .i64 0, .bool false, .int .i64 0, .slice none 0 0, .slice none 0 0, .slice none 0 0, .slice none 0 0, .slice none 0 0, .slice none 0 0, .slice none 0 0, .slice none 0 0, .slice none 0 0, .slice none 0 0], .st [(0,1,false),(1,1,false),(2,1,false),(3,1,false),(4,1,false),(5,1,false),(6,1,false),(7,1,false),(8,1,false),(9,1,false),(10,1,false),(11,1,false),(12,1,false),(13,1,false),(14,1,false),(15,1,false),(16,1,false),(17,1,false)]⟩
def Dj:TI:=⟨true,2,16,[.int .i64 0, .int .i64 0], .st [(0,1,false),(1,1,false)]⟩
def Ej:TI:=⟨false,1,8,[.pointer none], .other⟩
def Fj:TI:=⟨false,1,16,[.nilIface], .gD⟩
def Gj:TI:=⟨false,1,8,[.int .i64 0], .int .i64⟩
def Hj:TI:=⟨true,2,16,[.int .i64 0, .int .i64 0], .st [(0,1,false),(1,1,false)]⟩
def Ij:TI:=⟨true,2,16,[.int .i64 0, .int .i64 0], .st [(0,1,false),(1,1,false)]⟩
def Jj:TI:=⟨false,1,24,[.slice none 0 0], .sl 53 2⟩
def Jc:TI:=⟨true,19,312,[.int .i64 0, .int .i64 0, .int .i64 0, .int .i64 0, .int .i64 0, .int .i64 0, .int .i64 0, .int .i64 0, .int .i64 0, .slice none 0 0, .slice none 0 0, .slice none 0 0, .slice none 0 0, .slice none 0 0, .slice none 0 0, .slice none 0 0, .slice none 0 0, .slice none 0 0, .slice none 0 0], .st [(0,1,false),(1,2,true),(3,1,false),(4,2,true),(6,1,false),(7,2,true),(9,1,false),(10,1,false),(11,1,false),(12,1,false),(13,1,false),(14,1,false),(15,1,false),(16,1,false),(17,1,false),(18,1,false)]⟩
def Kj:TI:=⟨true,2,16,[.int .i64 0, .int .i64 0], .st [(0,1,false),(1,1,false)]⟩
def Lj:TI:=⟨false,1,8,[.pointer none], .other⟩
def Mj:TI:=⟨false,1,24,[.slice none 0 0], .sl 51 2⟩
def Nj:TI:=⟨true,60,1008,[.int .i64 0, .int .i64 0, .int .i64 0, .int .i64 0, .int .i64 0, .int .i64 0, .int .i64 0, .int .i64 0, .int .i64 0, .slice none 0 0, .slice none 0 0, .slice none 0 0, .slice none 0 0, .slice none 0 0, .slice none 0 0, .slice none 0 0, .slice none 0 0, .slice none 0 0, .slice none 0 0, .int .i64 0, .int .i64 0, .int .i64 0, .int .i64 0, .int .i64 0, .int .i64 0, .int .i64 0, .int .i64 0, .int .i64 0, .slice none 0 0, .slice none 0 0, .slice none 0 0, .slice none 0 0, .slice none 0 0, .slice none 0 0, .slice none 0 0, .slice none 0 0, .slice none 0 0, .slice none 0 0, .int .i64 0, .int .i64 0, .int .i64 0, .int .i64 0, .int .i64 0, .int .i64 0, .int .i64 0, .int .i64 0, .slice none 0 0, .slice none 0 0, .slice none 0 0, .slice none 0 0, .slice none 0 0, .slice none 0 0, .slice none 0 0, .slice none 0 0, .slice none 0 0, .slice none 0 0, .slice none 0 0, .slice none 0 0, .slice none 0 0, .int .i64 0], .st [(0,19,true),(19,19,true),(38,1,false),(39,2,true),(41,1,false),(42,1,false),(43,1,false),(44,2,true),(46,1,false),(47,1,false),(48,1,false),(49,1,false),(50,1,false),(51,1,false),(52,1,false),(53,1,false),(54,1,false),(55,1,false),(56,1,false),(57,1,false),(58,1,false),(59,1,false)]⟩
def Oj:TI:=⟨false,1,8,[.int .i64 0], .int .i64⟩
def Pj:TI:=⟨true,16,256,[.pointer none, .int .i64 0, .int .i64 0, .int .i64 0, .int .i64 0, .int .i64 0, .int .i64 0, .int .i64 0, .slice none 0 0, .slice none 0 0, .slice none 0 0, .slice none 0 0, .slice none 0 0, .slice none 0 0, .slice none 0 0, .slice none 0 0], .st [(0,1,false),(1,1,false),(2,1,false),(3,1,false),(4,1,false),(5,2,true),(7,1,false),(8,1,false),(9,1,false),(10,1,false),(11,1,false),(12,1,false),(13,1,false),(14,1,false),(15,1,false)]⟩
def Qj:TI:=⟨true,2,48,[.slice none 0 0, .slice none 0 0], .st [(0,1,false),(1,1,false)]⟩
def Rj:TI:=⟨false,1,24,[.slice none 0 0], .sl 194 2⟩
def Sj:TI:=⟨true,30,432,[.int .i64 0, .int .i64 0, .int .i64 0, .int .i64 0, .int .i64 0, .int .i64 0, .int .i64 0, .pointer none, .int .i64 0, .int .i64 0, .int .i64 0, .int .i64 0, .int .i64 0, .int .i64 0, .int .i64 0, .slice none 0 0, .slice none 0 0, .slice none 0 0, .slice none 0 0, .slice none 0 0, .slice none 0 0, .slice none 0 0, .slice none 0 0, .slice none 0 0, .int .i64 0, .int .i64 0, .slice none 0 0, .slice none 0 0, .bool false, .slice none 0 0], .st [(0,1,false),(1,1,false),(2,1,false),(3,1,false),(4,1,false),(5,1,false),(6,1,false),(7,16,true),(23,1,false),(24,1,false),(25,1,false),(26,2,true),(28,1,false),(29,1,false)]⟩
def Tj:TI:=⟨false,1,8,[.int .i64 0], .int .i64⟩
def Uj:TI:=⟨false,1,8,[.pointer none], .other⟩
def Vj:TI:=⟨true,24,24,[.bool false, .bool false, .bool false, .bool false, .bool false, .bool false, .bool false, .bool false, .bool false, .bool false, .bool false, .bool false, .bool false, .bool false, .bool false, .bool false, .bool false, .bool false, .bool false, .bool false, .bool false, .bool false, .bool false, .bool false], .ar 24 4 1⟩
def Wj:TI:=⟨true,60,60,[.bool false, .bool false, .bool false, .bool false, .bool false, .bool false, .bool false, .bool false, .bool false, .bool false, .bool false, .bool false, .bool false, .bool false, .bool false, .bool false, .bool false, .bool false, .bool false, .bool false, .bool false, .bool false, .bool false, .bool false, .bool false, .bool false, .bool false, .bool false, .bool false, .bool false, .bool false, .bool false, .bool false, .bool false, .bool false, .bool false, .bool false, .bool false, .bool false, .bool false, .bool false, .bool false, .bool false, .bool false, .bool false, .bool false, .bool false, .bool false, .bool false, .bool false, .bool false, .bool false, .bool false, .bool false, .bool false, .bool false, .bool false, .bool false, .bool false, .bool false], .ar 60 4 1⟩
def Xj:TI:=⟨true,4,32,[.int .i64 0, .int .i64 0, .int .i64 0, .int .i64 0], .st [(0,1,false),(1,1,false),(2,1,false),(3,1,false)]⟩
def Yj:TI:=⟨false,1,8,[.nilFunc], .other⟩
def Zj:TI:=⟨true,3,24,[.int .i64 0, .int .i64 0, .int .i64 0], .st [(0,1,false),(1,1,false),(2,1,false)]⟩
def aj:TI:=⟨true,0,0,[], .st []⟩
def bj:TI:=⟨true,4,72,[.slice none 0 0, .string ⟨#[]⟩, .slice none 0 0, .bool false], .st [(0,1,false),(1,1,false),(2,1,false),(3,1,false)]⟩
def cj:TI:=⟨false,1,24,[.slice none 0 0], .sl 124 4⟩
def fj:TI:=⟨false,1,8,[.int .i64 0], .int .i64⟩
def gj:TI:=⟨false,1,24,[.slice none 0 0], .sl 51 2⟩
def ij:TI:=⟨false,1,24,[.slice none 0 0], .sl 22 1⟩
def jj:TI:=⟨false,1,8,[.pointer none], .other⟩
def kj:TI:=⟨true,2,16,[.int .i64 0, .int .i64 0], .ar 2 3 1⟩
def lj:TI:=⟨false,1,24,[.slice none 0 0], .sl 9 1⟩
def mj:TI:=⟨false,1,8,[.pointer none], .other⟩
def nj:TI:=⟨true,1,16,[.string ⟨#[]⟩], .st [(0,1,false)]⟩
def oj:TI:=⟨false,1,16,[.nilIface], .gD⟩
def pj:TI:=⟨false,1,8,[.int .u64 0], .int .u64⟩
def qj:TI:=⟨false,1,8,[.float .f64 0], .other⟩
def rj:TI:=⟨true,2,16,[.int .i64 0, .bool false], .st [(0,1,false),(1,1,false)]⟩
def sj:TI:=⟨false,1,8,[.int .i64 0], .int .i64⟩
def tj:TI:=⟨true,7,112,[.string ⟨#[]⟩, .string ⟨#[]⟩, .string ⟨#[]⟩, .string ⟨#[]⟩, .string ⟨#[]⟩, .string ⟨#[]⟩, .string ⟨#[]⟩], .ar 7 9 1⟩
def uj:TI:=⟨false,1,8,[.int .u64 0], .int .u64⟩
def vj:TI:=⟨false,1,8,[.pointer none], .other⟩
def wj:TI:=⟨false,1,8,[.int .i64 0], .int .i64⟩
def xj:TI:=⟨false,1,8,[.int .u64 0], .int .u64⟩
def yj:TI:=⟨false,1,4,[.int .u32 0], .int .u32⟩
def zj:TI:=⟨false,1,8,[.int .u64 0], .int .u64⟩
def Ak:TI:=⟨false,1,24,[.slice none 0 0], .sl 5 1⟩
theorem Sx:MC prog 2=some vi:=by kernel_rfl
theorem Tx:MC prog 3=some HR:=by kernel_rfl
theorem Ux:MC prog 4=some wi:=by kernel_rfl
theorem Vx:MC prog 5=some xi:=by kernel_rfl
theorem Wx:MC prog 9=some WY:=by kernel_rfl
theorem Xx:MC prog 21=some yi:=by kernel_rfl
theorem Yx:MC prog 22=some zi:=by kernel_rfl
theorem Zx:MC prog 23=some Aj:=by kernel_rfl
theorem ax:MC prog 25=some mV:=by kernel_rfl
theorem bx:MC prog 27=some Bj:=by kernel_rfl
theorem gx:MC prog 33=some Cj:=by kernel_rfl
theorem jx:MC prog 35=some nV:=by kernel_rfl
theorem kx:MC prog 43=some Dj:=by kernel_rfl
theorem lx:MC prog 44=some Ej:=by kernel_rfl
theorem mx:MC prog 46=some Fj:=by kernel_rfl
theorem ox:MC prog 49=some Gj:=by kernel_rfl
theorem px:MC prog 51=some Hj:=by kernel_rfl
theorem qx:MC prog 53=some Ij:=by kernel_rfl
theorem tx:MC prog 54=some Jj:=by kernel_rfl
theorem ux:MC prog 56=some Jc:=by kernel_rfl
theorem vx:MC prog 60=some Kj:=by kernel_rfl
theorem xx:MC prog 63=some Lj:=by kernel_rfl
theorem yx:MC prog 64=some Mj:=by kernel_rfl
theorem zx:MC prog 66=some Nj:=by kernel_rfl
theorem Ay:MC prog 87=some Oj:=by kernel_rfl
theorem By:MC prog 89=some Pj:=by kernel_rfl
theorem Cy:MC prog 91=some Qj:=by kernel_rfl
theorem Dy:MC prog 92=some Rj:=by kernel_rfl
theorem Ey:MC prog 94=some Sj:=by kernel_rfl
theorem Fy:MC prog 100=some Tj:=by kernel_rfl
theorem Gy:MC prog 104=some Uj:=by kernel_rfl
theorem Hy:MC prog 107=some Vj:=by kernel_rfl
theorem Iy:MC prog 108=some Wj:=by kernel_rfl
theorem Jy:MC prog 110=some Xj:=by kernel_rfl
theorem Ky:MC prog 113=some Yj:=by kernel_rfl
theorem Ly:MC prog 115=some Zj:=by kernel_rfl
theorem My:MC prog 122=some aj:=by kernel_rfl
theorem Ny:MC prog 124=some bj:=by kernel_rfl
theorem Oy:MC prog 125=some cj:=by kernel_rfl
theorem Py:MC prog 129=some fj:=by kernel_rfl
theorem Qy:MC prog 133=some gj:=by kernel_rfl
theorem Ry:MC prog 144=some ij:=by kernel_rfl
theorem Sy:MC prog 147=some jj:=by kernel_rfl
theorem Ty:MC prog 151=some kj:=by kernel_rfl
theorem Uy:MC prog 157=some lj:=by kernel_rfl
theorem Vy:MC prog 174=some mj:=by kernel_rfl
theorem Wy:MC prog 176=some nj:=by kernel_rfl
theorem Xy:MC prog 179=some oj:=by kernel_rfl
theorem Yy:MC prog 181=some pj:=by kernel_rfl
theorem Zy:MC prog 189=some qj:=by kernel_rfl
theorem ay:MC prog 194=some rj:=by kernel_rfl
theorem gy:MC prog 224=some sj:=by kernel_rfl
theorem iy:MC prog 232=some tj:=by kernel_rfl
theorem jy:MC prog 257=some uj:=by kernel_rfl
theorem ky:MC prog 261=some vj:=by kernel_rfl
theorem my:MC prog 270=some wj:=by kernel_rfl
theorem ny:MC prog 303=some xj:=by kernel_rfl
theorem oy:MC prog 220=some yj:=by kernel_rfl
theorem py:MC prog 222=some zj:=by kernel_rfl
theorem qy:MC prog 205=some Ak:=by kernel_rfl
def ty (t:Nat):Option TI:=(bif Nat.blt t 104 then(bif Nat.blt t 49 then(bif Nat.blt t 23 then(bif Nat.blt t 5 then(bif Nat.blt t 3 then(bif Nat.beq t 2 then some vi else none)else(bif Nat.blt t 4 then(bif Nat.beq t 3 then some HR else none)else(bif Nat.beq t 4 then some wi else none)))else(bif Nat.blt t 21 then(bif Nat.blt t 9 then(bif Nat.beq t 5 then some xi else none)else(bif Nat.beq t 9 then some WY else none))else(bif Nat.blt t 22 then(bif Nat.beq t 21 then some yi else none)else(bif Nat.beq t 22 then some zi else none))))else(bif Nat.blt t 35 then(bif Nat.blt t 27 then(bif Nat.blt t 25 then(bif Nat.beq t 23 then some Aj else none)else(bif Nat.beq t 25 then some mV else none))else(bif Nat.blt t 33 then(bif Nat.beq t 27 then some Bj else none)else(bif Nat.beq t 33 then some Cj else none)))else(bif Nat.blt t 44 then(bif Nat.blt t 43 then(bif Nat.beq t 35 then some nV else none)else(bif Nat.beq t 43 then some Dj else none))else(bif Nat.blt t 46 then(bif Nat.beq t 44 then some Ej else none)else(bif Nat.beq t 46 then some Fj else none)))))else(bif Nat.blt t 64 then(bif Nat.blt t 54 then(bif Nat.blt t 51 then(bif Nat.beq t 49 then some Gj else none)else(bif Nat.blt t 53 then(bif Nat.beq t 51 then some Hj else none)else(bif Nat.beq t 53 then some Ij else none)))else(bif Nat.blt t 60 then(bif Nat.blt t 56 then(bif Nat.beq t 54 then some Jj else none)else(bif Nat.beq t 56 then some Jc else none))else(bif Nat.blt t 63 then(bif Nat.beq t 60 then some Kj else none)else(bif Nat.beq t 63 then some Lj else none))))else(bif Nat.blt t 91 then(bif Nat.blt t 87 then(bif Nat.blt t 66 then(bif Nat.beq t 64 then some Mj else none)else(bif Nat.beq t 66 then some Nj else none))else(bif Nat.blt t 89 then(bif Nat.beq t 87 then some Oj else none)else(bif Nat.beq t 89 then some Pj else none)))else(bif Nat.blt t 94 then(bif Nat.blt t 92 then(bif Nat.beq t 91 then some Qj else none)else(bif Nat.beq t 92 then some Rj else none))else(bif Nat.blt t 100 then(bif Nat.beq t 94 then some Sj else none)else(bif Nat.beq t 100 then some Tj else none))))))else(bif Nat.blt t 174 then(bif Nat.blt t 124 then(bif Nat.blt t 110 then(bif Nat.blt t 107 then(bif Nat.beq t 104 then some Uj else none)else(bif Nat.blt t 108 then(bif Nat.beq t 107 then some Vj else none)else(bif Nat.beq t 108 then some Wj else none)))else(bif Nat.blt t 115 then(bif Nat.blt t 113 then(bif Nat.beq t 110 then some Xj else none)else(bif Nat.beq t 113 then some Yj else none))else(bif Nat.blt t 122 then(bif Nat.beq t 115 then some Zj else none)else(bif Nat.beq t 122 then some aj else none))))else(bif Nat.blt t 144 then(bif Nat.blt t 129 then(bif Nat.blt t 125 then(bif Nat.beq t 124 then some bj else none)else(bif Nat.beq t 125 then some cj else none))else(bif Nat.blt t 133 then(bif Nat.beq t 129 then some fj else none)else(bif Nat.beq t 133 then some gj else none)))else(bif Nat.blt t 151 then(bif Nat.blt t 147 then(bif Nat.beq t 144 then some ij else none)else(bif Nat.beq t 147 then some jj else none))else(bif Nat.blt t 157 then(bif Nat.beq t 151 then some kj else none)else(bif Nat.beq t 157 then some lj else none)))))else(bif Nat.blt t 220 then(bif Nat.blt t 181 then(bif Nat.blt t 176 then(bif Nat.beq t 174 then some mj else none)else(bif Nat.blt t 179 then(bif Nat.beq t 176 then some nj else none)else(bif Nat.beq t 179 then some oj else none)))else(bif Nat.blt t 194 then(bif Nat.blt t 189 then(bif Nat.beq t 181 then some pj else none)else(bif Nat.beq t 189 then some qj else none))else(bif Nat.blt t 205 then(bif Nat.beq t 194 then some rj else none)else(bif Nat.beq t 205 then some Ak else none))))else(bif Nat.blt t 257 then(bif Nat.blt t 224 then(bif Nat.blt t 222 then(bif Nat.beq t 220 then some yj else none)else(bif Nat.beq t 222 then some zj else none))else(bif Nat.blt t 232 then(bif Nat.beq t 224 then some sj else none)else(bif Nat.beq t 232 then some tj else none)))else(bif Nat.blt t 270 then(bif Nat.blt t 261 then(bif Nat.beq t 257 then some uj else none)else(bif Nat.beq t 261 then some vj else none))else(bif Nat.blt t 303 then(bif Nat.beq t 270 then some wj else none)else(bif Nat.beq t 303 then some xj else none)))))))
theorem UC {t k:Nat} {x:TI} (h:MC prog k=some x) {i:TI} (e:(bif Nat.beq t k then some x else none)=some i):MC prog t=some i:=by
 rcases fV t k with⟨e1,Z⟩|⟨e1,Z⟩
 ·rw[Z]at e;subst e1;cases e;exact h
 ·rw[Z]at e;cases e
theorem node {c:Bool} {sB B:Option TI} {i:TI} {p:Prop} (D:sB=some i->p) (h2:B=some i->p) (e:(bif c then sB else B)=some i):p:=by
 cases c
 ·exact h2 e
 ·exact D e
theorem ry:GF prog ty:=λ_ _ h=>Qx ((node (node (node (node (node (UC Sx) (node (UC Tx) (UC Ux))) (node (node (UC Vx) (UC Wx)) (node (UC Xx) (UC Yx)))) (node (node (node (UC Zx) (UC ax)) (node (UC bx) (UC gx))) (node (node (UC jx) (UC kx)) (node (UC lx) (UC mx))))) (node (node (node (UC ox) (node (UC px) (UC qx))) (node (node (UC tx) (UC ux)) (node (UC vx) (UC xx)))) (node (node (node (UC yx) (UC zx)) (node (UC Ay) (UC By))) (node (node (UC Cy) (UC Dy)) (node (UC Ey) (UC Fy)))))) (node (node (node (node (UC Gy) (node (UC Hy) (UC Iy))) (node (node (UC Jy) (UC Ky)) (node (UC Ly) (UC My)))) (node (node (node (UC Ny) (UC Oy)) (node (UC Py) (UC Qy))) (node (node (UC Ry) (UC Sy)) (node (UC Ty) (UC Uy))))) (node (node (node (UC Vy) (node (UC Wy) (UC Xy))) (node (node (UC Yy) (UC Zy)) (node (UC ay) (UC qy)))) (node (node (node (UC oy) (UC py)) (node (UC gy) (UC iy))) (node (node (UC jy) (UC ky)) (node (UC my) (UC ny))))))) h)
theorem mixedOrders:prog.follows .mixedOrders=true:=checked.mixed
theorem uy:∀(f:Nat) (fn:Func),prog.funcs[f]? =some fn->(fn.name== "runtime.NumGoroutine")=false:=by
 intro f fn h
 have vD:(prog.funcs.all λfn=> !(fn.name== "runtime.NumGoroutine"))=true:=by kernel_rfl
 have:=Array.all_eq_true'.1 vD fn (Array.mem_of_getElem? h)
 simpa using this
noncomputable def cx (w0:World) (W:Nat->Prop) (N:Nat) (kp:Nat->Bool) (n0:Nat) (oI:wA) (gw:GW w0 W):Cx:=⟨prog,ty,w0,W,N,kp,n0,oI,mixedOrders,ry,uy,gw⟩
end En
namespace En
open Go.RowKit Go.Proofs.Tryz
mutual
theorem aA.HK {LA:Nat->Nat} {G:wA}:∀{s:SV} {y:Value},aA (λb=>G (LA b)) s y->aA G (s.IB LA) y
 | .v x,y,d=>by simp only[SV.IB,aA]at*;exact d
 | .p b o,y,d=>by simp only[SV.IB,aA]at*;exact d
 | .s b o n,y,d=>by simp only[SV.IB,aA]at*;exact d
 | .agg l,y,d=>by
  simp only[SV.IB,aA]at*
  obtain⟨ys,e,d⟩:=d
  exact⟨ys,e,ZA.HK d⟩
 | .jA l,y,d=>by
  simp only[SV.IB,aA]at*
  obtain⟨ys,e,d⟩:=d
  exact⟨ys,e,ZA.HK d⟩
 | .fn f a c,y,d=>by
  simp only[SV.IB,aA]at*
  obtain⟨xs,ys,e,d,d'⟩:=d
  exact⟨xs,ys,e,ZA.HK d,ZA.HK d'⟩
 | .any p,y,d=>d
 | .m b,y,d=>by simp only[SV.IB,aA]at*;exact d
 | .gD t x,y,d=>by
  simp only[SV.IB,aA]at*
  obtain⟨z,e,d⟩:=d
  exact⟨z,e,aA.HK d⟩
theorem ZA.HK {LA:Nat->Nat} {G:wA}:∀{l:List SV} {ys:List Value},ZA (λb=>G (LA b)) l ys->ZA G (YA LA l) ys
 |[],ys,d=>by simp only[YA,ZA]at*;exact d
 |x::r,ys,d=>by
  simp only[YA,ZA]at*
  obtain⟨y,q,e,d,d'⟩:=d
  exact⟨y,q,e,aA.HK d,ZA.HK d'⟩
end
theorem yC.HK {LA:Nat->Nat} {G:wA} {w:World} {b:Nat}:∀{k:DA},yC (λb=>G (LA b)) w b k->yC G w (LA b) (k.IB LA)
 | .st xs,h=>by
  obtain⟨r,c,e,cs,e1,e2,d⟩:=h
  exact⟨r,c,e,cs,e1,e2,ZA.HK d⟩
 | .X es e xs,h=>by
  rcases h with⟨e1,rfl⟩|⟨r,c,cs,sp,e1,e2,d,hl⟩
  ·exact .inl ⟨e1,rfl⟩
  ·exact .inr ⟨r,c,cs,sp,e1,e2,ZA.HK d,hl⟩
 | .ro xs,h=>by
  rcases h with⟨e1,rfl⟩|⟨r,k,c,e1,hr,d⟩
  ·exact .inl ⟨e1,rfl⟩
  ·refine .inr ⟨r,k,c,e1,hr,λi x hx=> ?_⟩
   rw[pJ,List.getElem?_map,Option.map_eq_some_iff]at hx
   obtain⟨x',tF,rfl⟩:=hx
   obtain⟨y,hy,d'⟩:=d i x' tF
   exact⟨y,hy,aA.HK d'⟩
 | .obj o,h=>h
def Fn (P:Program) (f:FuncId) (eB:List SV) (H0:HS) (n0:Nat) (s1:SV) (H1:HS) (n1:Nat):Prop:=
 n0<=n1/\∀(w:World) (W:Nat->Prop) (G:wA) (ys:List Value),GW w W->(∀b,n0<=b->G b= .iD)->MH w W (WA H0) G w->ZA G eB ys->
  Calls P f (List.toArray ys) w λe w'=>∃y uA,e= .returned y/\(∀b,b<n0->uA b=G b)/\(∀b,n1<=b->uA b= .iD)/\aA uA s1 y/\MH w W (WA H1) uA w'
theorem Fn.mk {f:FuncId} {fn:Func} {c:Code} {rs:List ResultVar} {eB:List SV} {H0:HS} {n0:Nat} {s1:SV} {H1:HS} {n1:Nat} (kp:Nat->Bool) (hf:prog.funcs[f]? =some fn) (Z:fn.body=some c) (WT:fn.results=List.toArray rs) (hN:eB.length<=fn.ntmps) (hn:n0<=n1)
  (ht:∀w W G g,T (cx w W fn.ntmps kp n0 G g) c (ER eB 0) H0 n0 (lV (cx w W fn.ntmps kp n0 G g) rs λs H Y=>∃l,OA (cx w W fn.ntmps kp n0 G g) l [(0, .u s)] H Y [(0, .u s1)] H1 n1)):Fn prog f eB H0 n0 s1 H1 n1:=by
 refine⟨hn,λw W G ys g hu hM d=> ?_⟩
 refine Mx (C:=cx w W fn.ntmps kp n0 G g) (eB:=eB) (H:=H0) (Y:=n0) (G:=G) (c:=c) hf Z rfl hu qA (λb _=>rfl) (by simpa using d) hM hN (ht w W G g) ?_
 refine Px WT λs H Y ⟨l,hE⟩ sL y w1 vy tL hd vF=> ?_
 have Bk:∀b,n1<=b->sL (sig l n1 Y b)= .iD:=λb Z=>vy _ (by simp only[sig];rw[if_neg O];omega)
 refine⟨y,λb=>sL (sig l n1 Y b),rfl,λb Z=> ?_,Bk,?_,?_⟩
 ·show sL (sig l n1 Y b)=_
  rw[li hE.PK Z];exact tL b Z
 ·have:=hE.f
  simp only[QK,lk,if_true,RV.IB,Option.some.injEq,RV.u.injEq,and_true]at this
  rw[this]at hd
  exact aA.IB hd
 ·exact vF.Gv hE Bk
theorem OA.id {C:Cx} {F:FS} {H:HS} {Y:Nat} (hn:C.n0<=Y):OA C [] F H Y F H Y->OA C [] F H Y F H Y:=λh=>h
def mp (M:List Nat) (n0 n1 Y:Nat):Nat->Nat:=λb=>if b<n0 then M.getD b 0 else if b<n1 then Y+(b-n0)else Y+(n1-n0)
def KE:Option DA->Bool
 |some (.st _)=>true
 |some (.X _ _ _)=>true
 |some (.obj _)=>true
 |_=>false
def Kc:Option DA->Bool
 |some _=>true
 |none=>false
def XT (H:HS):List Nat:=H.map (·.1)
def iC (H:HS):List Nat:=(H.filter λx=>KE x.2).map (·.1)
def nodupB:List Nat->Bool
 |[]=>true
 |b::r=> !(r.any (Nat.beq b))&&nodupB r
def MI (M:List Nat) (H0:HS) (n0 n1 Y:Nat):Bool:=
 Nat.beq M.length n0&&M.all (λb=>Nat.blt b Y)&&(XT H0).all (λb=>Nat.blt b n0)&&nodupB (XT H0)&&nodupB ((iC H0).map (mp M n0 n1 Y))&&(H0.all λx=>Kc x.2)&&
  (H0.all λx=>KE x.2|| !((iC H0).any λb'=>Nat.beq (mp M n0 n1 Y b') (mp M n0 n1 Y x.1)))
def lD:Option DA->Option DA
 |some (.ro _)=>none
 |x=>x
def ED (M:List Nat) (H0 H1:HS) (n0 n1 Y:Nat):List (Nat×Option DA):=
 (iC H0++List.range' n0 (n1-n0)).map λb=>(mp M n0 n1 Y b,(lD (WA H1 b)).map (DA.IB (mp M n0 n1 Y)))
def NI (LA:Nat->Nat) (H:HS):HS->Prop
 |[]=>True
 |(b,none)::r=>NI LA H r
 |(b,some (.ro xs))::r=>(∃K rest,WA H (LA b)=some K/\K.cells=YA LA xs++rest)/\NI LA H r
 |(b,some (.st xs))::r=>WA H (LA b)=some (.st (YA LA xs))/\NI LA H r
 |(b,some (.X es e xs))::r=>WA H (LA b)=some (.X es e (YA LA xs))/\NI LA H r
 |(b,some (.obj o))::r=>WA H (LA b)=some (.obj o)/\NI LA H r
theorem any_beq {b:Nat} {l:List Nat}:l.any (Nat.beq b)=true↔b∈l:=by
 simp only[List.any_eq_true]
 exact⟨λ⟨x,hx,e⟩=>(Nat.eq_of_beq_eq_true e)▸hx,λh=>⟨b,h,Nat.beq_refl b⟩⟩
theorem Lc:∀{l:List Nat},nodupB l=true->l.Nodup
 |[],_=>List.nodup_nil
 |b::r,h=>by
  simp only[nodupB,Bool.and_eq_true,Bool.not_eq_true']at h
  refine List.nodup_cons.2 ⟨λhm=> ?_,Lc h.2⟩
  rw[any_beq.2 hm]at h
  exact absurd h.1 (by simp)
theorem UN:∀{H:HS} {b:Nat} {k:DA},WA H b=some k->(b,some k)∈H
 |[],b,k,h=>by simp[WA]at h
 |(u,x)::r,b,k,h=>by
  simp only[WA]at h
  by_cases e:u=b
  ·subst e;rw[if_pos rfl]at h;subst h;exact List.mem_cons_self
  ·rw[if_neg e]at h;exact List.mem_cons_of_mem _ (UN h)
theorem Ck:∀{H:HS} {b:Nat} {x:Option DA},(XT H).Nodup->(b,x)∈H->WA H b=x
 |[],b,x,_,h=>by simp at h
 |(u,y)::r,b,x,hn,h=>by
  simp only[XT,List.map_cons,List.nodup_cons]at hn
  simp only[List.mem_cons,Prod.mk.injEq]at h
  simp only[WA]
  rcases h with⟨rfl,rfl⟩|h
  ·rw[if_pos rfl]
  ·rw[if_neg (λe=>hn.1 (by subst e;exact List.mem_map.2 ⟨_,h,rfl⟩))]
   exact Ck hn.2 h
theorem XY {k:DA}:KE (some k)=k.own:=by cases k<;>rfl
theorem wy {H:HS} {b:Nat} (hn:(XT H).Nodup) (hs:∀x∈H,Kc x.2=true):b∈iC H↔∃k,WA H b=some k/\k.own=true:=by
 constructor
 ·intro h
  simp only[iC,List.mem_map,List.mem_filter]at h
  obtain⟨⟨u,x⟩,⟨D,h2⟩,rfl⟩:=h
  cases x with
  |none=>cases h2
  |some k=>exact⟨k,Ck hn D,by rw[<-XY];exact h2⟩
 ·rintro⟨k,D,h2⟩
  simp only[iC,List.mem_map,List.mem_filter]
  exact⟨(b,some k),⟨UN D,by rw[XY];exact h2⟩,rfl⟩
theorem Dk {LA:Nat->Nat} {H:HS}:∀{H0:HS} {b:Nat} {xs:List SV},NI LA H H0->(b,some (.ro xs))∈H0->∃K rest,WA H (LA b)=some K/\K.cells=YA LA xs++rest
 |[],b,xs,_,h=>by simp at h
 |(u,y)::r,b,xs,hm,h=>by
  simp only[List.mem_cons,Prod.mk.injEq]at h
  rcases h with⟨rfl,rfl⟩|h
  ·exact hm.1
  ·refine Dk (H0:=r) ?_ h
   match y,hm with
   |none,hm=>exact hm
   |some (.ro _),hm=>exact hm.2
   |some (.st _),hm=>exact hm.2
   |some (.X _ _ _),hm=>exact hm.2
   |some (.obj _),hm=>exact hm.2
theorem Ek {LA:Nat->Nat} {H:HS}:∀{H0:HS} {b:Nat} {k:DA},NI LA H H0->(b,some k)∈H0->k.own=true->WA H (LA b)=some (k.IB LA)
 |[],b,k,_,h,_=>by simp at h
 |(u,y)::r,b,k,hm,h,hk=>by
  simp only[List.mem_cons,Prod.mk.injEq]at h
  rcases h with⟨rfl,rfl⟩|h
  ·cases k with
   |ro=>cases hk
   |st=>exact hm.1
   |X=>exact hm.1
   |obj=>exact hm.1
  ·refine Ek (H0:=r) ?_ h hk
   match y,hm with
   |none,hm=>exact hm
   |some (.ro _),hm=>exact hm.2
   |some (.st _),hm=>exact hm.2
   |some (.X _ _ _),hm=>exact hm.2
   |some (.obj _),hm=>exact hm.2
theorem Fk:∀{wh:List (Nat×Option DA)} {H:Nat->Option DA},(wh.map (·.1)).Nodup->(∀i x,(i,x)∈wh->ND H wh i=x)/\(∀i,i∉wh.map (·.1)->ND H wh i=H i)
 |[],H,_=>⟨λi x h=>by simp at h,λi _=>rfl⟩
 |(b,y)::r,H,hn=>by
  simp only[List.map_cons,List.nodup_cons]at hn
  obtain⟨D,h2⟩:=Fk (wh:=r) (H:=WE H b y) hn.2
  refine⟨λi x h=> ?_,λi h=> ?_⟩
  ·simp only[ND]
   simp only[List.mem_cons,Prod.mk.injEq]at h
   rcases h with⟨rfl,rfl⟩|h
   ·rw[h2 i hn.1,YM]
   ·exact D i x h
  ·simp only[List.map_cons,List.mem_cons,not_or]at h
   simp only[ND]
   rw[h2 i h.2,sG _ _ _ _ h.1]
theorem Gk {LA:Nat->Nat}:∀{l:List Nat},(l.map LA).Nodup->∀{b b':Nat},b∈l->b'∈l->LA b=LA b'->b=b'
 |[],_,b,b',h,_,_=>by simp at h
 |x::r,hn,b,b',h,h',e=>by
  simp only[List.map_cons,List.nodup_cons]at hn
  simp only[List.mem_cons]at h h'
  rcases h with rfl|h
  ·rcases h' with rfl|h'
   ·rfl
   ·exact absurd (e▸List.mem_map.2 ⟨b',h',rfl⟩) hn.1
  ·rcases h' with rfl|h'
   ·exact absurd (e▸List.mem_map.2 ⟨b,h,rfl⟩) hn.1
   ·exact Gk hn.2 h h' e
theorem Fn.xEA {P:Program} {w0:World} {W:Nat->Prop} (hg:GW w0 W) {f:FuncId} {zC:List SV} {H0:HS} {n0:Nat} {s1:SV} {H1:HS} {n1 Y:Nat} {H:HS} (M:List Nat) (h:Fn P f zC H0 n0 s1 H1 n1) (dB:MI M H0 n0 n1 Y=true) (hH:NI (mp M n0 n1 Y) H H0):
  FV P w0 W f (YA (mp M n0 n1 Y) zC) H Y ⟨s1.IB (mp M n0 n1 Y),ED M H0 H1 n0 n1 Y,Y+(n1-n0)+1,M⟩:=by
 refine⟨by simp only;omega,λH' G w ys TN NH hM d=> ?_⟩
 simp only[MI,Bool.and_eq_true]at dB
 obtain⟨⟨⟨⟨⟨⟨k1,k2⟩,k3⟩,k4⟩,k5⟩,k6⟩,k7⟩:=dB
 have k1:=Nat.eq_of_beq_eq_true k1
 have k2:∀b∈M,b<Y:=λb Z=>by have:=List.all_eq_true.1 k2 b Z;simpa using this
 have k3:∀b∈XT H0,b<n0:=λb Z=>by have:=List.all_eq_true.1 k3 b Z;simpa using this
 have k4:=Lc k4
 have k5:=Lc k5
 have k6:∀x∈H0,Kc x.2=true:=λx hx=>List.all_eq_true.1 k6 x hx
 have hle:=h.1
 generalize IR:mp M n0 n1 Y=LA at*
 have Mc:∀b,b<n0->LA b∈M/\LA b<Y:=λb Z=>by
  have hm:LA b∈M:=by
   rw[<-IR];simp only[mp];rw[if_pos Z,List.getD,List.getElem?_eq_getElem O,Option.getD_some]
   exact List.getElem_mem _
  exact⟨hm,k2 _ hm⟩
 have YT:∀b,n0<=b->b<n1->LA b=Y+(b-n0):=λb D h2=>by rw[<-IR];simp only[mp];rw[if_neg O,if_pos h2]
 have Hk:∀b,n1<=b->LA b=Y+(n1-n0):=λb D=>by rw[<-IR];simp only[mp];rw[if_neg O,if_neg O]
 have un:∀b,n0<=b->G (LA b)= .iD:=λb Z=>by
  rcases Nat.lt_or_ge b n1 with D|D
  ·rw[YT b Z D];exact NH _ O (by simp only;omega)
  ·rw[Hk b D];exact NH _ O (by simp only;omega)
 have nm:∀{b k},WA H0 b=some k->b<n0:=λ{b k} e=>k3 b (List.mem_map.2 ⟨_,UN e,rfl⟩)
 have kH:∀b,b<n0->H' (LA b)=WA H (LA b):=λb Z=>TN _ (Mc b Z).1
 have ZT:∀{b k},WA H0 b=some k->k.own=true->H' (LA b)=some (k.IB LA):=λ{b k} e ho=>by
  rw[kH b (nm e)];exact Ek hH (UN e) ho
 have mo:∀{b},b∈iC H0↔∃k,WA H0 b=some k/\k.own=true:=λ{b}=>wy k4 k6
 have xy:∀{b b'},b∈iC H0->b'∈iC H0->LA b=LA b'->b=b':=λD h2 e=>Gk k5 D h2 e
 have k7:∀{b b' k},WA H0 b=some k->k.own=false->b'∈iC H0->LA b'≠LA b:=λ{b b' k} e ho qC e'=>by
  have:=List.all_eq_true.1 k7 _ (UN e)
  have hk:KE (some k)=false:=by rw[XY];exact ho
  simp only[hk,Bool.false_or,Bool.not_eq_true']at this
  have h2:(iC H0).any (λb'=>(LA b').beq (LA b))=true:=List.any_eq_true.2 ⟨b',qC,by rw[e'];exact Nat.beq_refl _⟩
  rw[h2]at this;cases this
 let oI:wA:=λb=>G (LA b)
 let W0:Nat->Prop:=λr=>∃b k o c,WA H0 b=some k/\k.own=true/\oI b= .at r o c
 have Nc:∀r,W0 r->w0.heap.size<=r\/W r:=by
  rintro r ⟨b,k,o,c,e,ho,eb⟩
  exact hM.own _ _ (ZT e ho) (by rw[DA.zU];exact ho) r o c eb
 have Ik:∀{b xs},WA H0 b=some (.ro xs)->yC oI w b (.ro xs)/\∀r o c,oI b= .at r o c->r<w.heap.size/\¬W0 r:=by
  intro b xs e
  obtain⟨K,rest,hK,hc⟩:=Dk hH (UN e)
  rw[<-kH b (nm e)]at hK
  have dB:=hM.ok _ _ hK
  refine⟨yC.view dB hc,λr o c eb=>⟨dB.lt r o c eb,?_⟩⟩
  ·rintro⟨b',k',o',c',e',jH,wD⟩
   have LC:=k7 e rfl (mo.2 ⟨k',e',jH⟩)
   exact hM.inj _ _ _ _ (ZT e' jH) hK (by rw[DA.zU];exact jH) LC r _ _ _ _ wD eb
 have YY:MH w W0 (WA H0) oI w:=by
  refine⟨rfl,rfl,rfl,Nat.le_refl _,λ_ _ _=>rfl,λb k e=> ?_,λb k e ho r o c eb=> .inr ⟨b,k,o,c,e,ho,eb⟩,λb b' k k' e e' ho LC r o c o' c' eb wD=> ?_⟩
  ·cases hk:k.own with
   |true=>exact yC.IB (hM.ok _ _ (ZT e hk))
   |false=>cases k with
    |ro xs=>exact(Ik e).1
    |st=>cases hk
    |X=>cases hk
    |obj=>cases hk
  ·cases ZM:k'.own with
   |true=>exact hM.inj _ _ _ _ (ZT e ho) (ZT e' ZM) (by rw[DA.zU];exact ho) (λes=>LC (xy (mo.2 ⟨k,e,ho⟩) (mo.2 ⟨k',e',ZM⟩) es)) r o c o' c' eb wD
   |false=>cases k' with
    |ro xs=>exact((Ik e').2 r o' c' wD).2 ⟨b,k,o,c,e,ho,eb⟩
    |st=>cases ZM
    |X=>cases ZM
    |obj=>cases ZM
 have yy:GW w W0:=⟨hM.gv hg,λx hx hw=>by
  obtain⟨t,fr,e⟩:=hg.1 x hx
  have:=za e
  rcases Nc _ hw with h'|h'
  ·omega
  ·exact hg.2 x hx h'⟩
 refine(h.2 w W0 oI ys yy un YY (ZA.IB d)).mono ?_
 rintro e w' ⟨y,sL,rfl,jD,lH,vG,vF⟩
 let aT:wA:=λi=>if Y<=i/\i<Y+(n1-n0)then sL (n0+(i-Y))else G i
 have Oc:(λb=>aT (LA b))=sL:=by
  funext b
  show(if Y<=LA b/\LA b<Y+(n1-n0)then sL (n0+(LA b-Y))else G (LA b))=sL b
  rcases Nat.lt_or_ge b n0 with D|D
  ·rw[if_neg (by have:=(Mc b D).2;omega),jD b D]
  ·rcases Nat.lt_or_ge b n1 with h2|h2
   ·rw[YT b D h2,if_pos O];congr 1;omega
   ·rw[Hk b h2,if_neg O,lH b h2]
    exact NH _ O (by simp only;omega)
 have Pc:∀i,¬(Y<=i/\i<Y+(n1-n0))->aT i=G i:=λi hi=>by show(if _ then _ else _)=_;rw[if_neg hi]
 have zy:((iC H0++List.range' n0 (n1-n0)).map LA).Nodup:=by
  rw[List.map_append,List.nodup_append]
  refine⟨k5,?_,λx hx y hy e=> ?_⟩
  ·rw[List.nodup_iff_pairwise_ne,List.pairwise_map]
   refine List.Pairwise.imp_of_mem (R:=λa b=>a<b) (λ{a b} ha Z xD e=> ?_) List.pairwise_lt_range'
   have ha:=List.mem_range'_1.1 ha
   have Z:=List.mem_range'_1.1 Z
   rw[YT a ha.1 O,YT b Z.1 O]at e
   omega
  ·obtain⟨b,Z,rfl⟩:=List.mem_map.1 hx
   obtain⟨b',qC,rfl⟩:=List.mem_map.1 hy
   have qC:=List.mem_range'_1.1 qC
   obtain⟨k,e1,e2⟩:=mo.1 Z
   have:=(Mc b (nm e1)).2
   rw[YT b' qC.1 O]at e
   omega
 have Jk:(ED M H0 H1 n0 n1 Y).map (·.1)=(iC H0++List.range' n0 (n1-n0)).map LA:=by
  simp only[ED,List.map_map,IR];rfl
 have oV:=Fk (wh:=ED M H0 H1 n0 n1 Y) (H:=H') (by rw[Jk];exact zy)
 have look:∀i K,ND H' (ED M H0 H1 n0 n1 Y) i=some K->
   (∃b k,i=LA b/\K=k.IB LA/\WA H1 b=some k/\k.own=true/\(b∈iC H0\/(n0<=b/\b<n1)))\/
   (H' i=some K/\aT i=G i/\∀b∈iC H0,i≠LA b):=by
  intro i K hi
  by_cases LI:i∈(iC H0++List.range' n0 (n1-n0)).map LA
  ·obtain⟨b,Z,rfl⟩:=List.mem_map.1 LI
   have:=oV.1 (LA b) _ (by unfold ED;rw[IR];exact List.mem_map.2 ⟨b,Z,rfl⟩)
   rw[hi]at this
   have this:=this.symm
   rw[Option.map_eq_some_iff]at this
   obtain⟨k,D,h2⟩:=this
   have h3:WA H1 b=some k/\k.own=true:=by
    cases hx:WA H1 b with
    |none=>rw[hx]at D;cases D
    |some z=>
     rw[hx]at D
     cases z with
     |ro=>cases D
     |st=>cases D;exact⟨rfl,rfl⟩
     |X=>cases D;exact⟨rfl,rfl⟩
     |obj=>cases D;exact⟨rfl,rfl⟩
   refine .inl ⟨b,k,rfl,h2.symm,h3.1,h3.2,?_⟩
   rcases List.mem_append.1 Z with Z|Z
   ·exact .inl Z
   ·have:=List.mem_range'_1.1 Z;exact .inr ⟨this.1,O⟩
  ·have D:=oV.2 i (by rw[Jk];exact LI)
   rw[hi]at D
   have D:=D.symm
   refine .inr ⟨D,Pc i λKG=> ?_,λb Z e=>LI (List.mem_map.2 ⟨b,List.mem_append.2 (.inl Z),e.symm⟩)⟩
   exact LI (List.mem_map.2 ⟨n0+(i-Y),List.mem_append.2 (.inr (List.mem_range'_1.2 ⟨O,O⟩)),by rw[YT _ O O];omega⟩)
 have ZY:∀b,aT (LA b)=sL b:=λb=>congrFun Oc b
 have kept:∀i K,H' i=some K->(∀b∈iC H0,i≠LA b)->∀r o c,G i= .at r o c->r<w.heap.size/\¬W0 r:=by
  intro i K hi LC r o c eb
  refine⟨(hM.ok i K hi).lt r o c eb,?_⟩
  rintro⟨b',k',o',c',e',jH,wD⟩
  have Az:=LC b' (mo.2 ⟨k',e',jH⟩)
  exact hM.inj _ _ _ _ (ZT e' jH) hi (by rw[DA.zU];exact jH) (Ne.symm Az) r _ _ _ _ wD eb
 have xF:uD G aT:=λi hi=>Pc i λKG=>hi (NH i KG.1 (by simp only;omega))
 refine⟨y,rfl,aT,xF,λi hi=>Pc i λKG=>hi ⟨KG.1,by simp only;omega⟩,aA.HK (by rw[Oc];exact vG),?_⟩
 refine⟨vF.os.trans hM.os,vF.tape.trans hM.tape,vF.output.trans hM.output,Nat.le_trans hM.size vF.size,λr hr hW=> ?_,λi K hi=> ?_,λi K hi ho r o c eb=> ?_,λi j K K' hi hj ho LC r o c o' c' eb wD=> ?_⟩
 ·rw[vF.eE r (Nat.lt_of_lt_of_le hr hM.size) (λh0=> ?_)]
  ·exact hM.eE r hr hW
  ·rcases Nc r h0 with D|D
   ·omega
   ·exact hW D
 ·rcases look i K hi with⟨b,k,rfl,rfl,e1,e2,_⟩|⟨D,h2,h3⟩
  ·exact yC.HK (by rw[Oc];exact vF.ok b k e1)
  ·refine yC.ext xF vF.size (λr o c eb=> ?_) K (hM.ok i K D)
   obtain⟨g1,g2⟩:=kept i K D h3 r o c eb
   exact vF.eE r g1 g2
 ·rcases look i K hi with⟨b,k,rfl,rfl,e1,e2,_⟩|⟨D,h2,h3⟩
  ·rw[ZY]at eb
   rcases vF.own b k e1 e2 r o c eb with h|h
   ·exact .inl (Nat.le_trans hM.size h)
   ·exact Nc r h
  ·rw[h2]at eb;exact hM.own i K D ho r o c eb
 ·
  have Kk:∀b k i K,WA H1 b=some k->k.own=true->H' i=some K->(∀b∈iC H0,i≠LA b)->∀r o c o' c',sL b= .at r o c->G i= .at r o' c'->False:=by
   intro b k i K e1 e2 D h3 r o c o' c' eb wD
   obtain⟨g1,g2⟩:=kept i K D h3 r o' c' wD
   rcases vF.own b k e1 e2 r o c eb with h|h
   ·omega
   ·exact g2 h
  rcases look i K hi with⟨b,k,rfl,rfl,e1,e2,_⟩|⟨D,h2,h3⟩
  ·rw[ZY]at eb
   rcases look j K' hj with⟨b',k',rfl,rfl,LK,Lk,_⟩|⟨kM,JR,gP⟩
   ·rw[ZY]at wD
    exact vF.inj b b' k k' e1 LK e2 (λe=>LC (by rw[e])) r o c o' c' eb wD
   ·rw[JR]at wD
    exact Kk b k j K' e1 e2 kM gP r o c o' c' eb wD
  ·rw[h2]at eb
   rcases look j K' hj with⟨b',k',rfl,rfl,LK,Lk,_⟩|⟨kM,JR,gP⟩
   ·rw[ZY]at wD
    exact Kk b' k' i K LK Lk D h3 r o' c' o c wD eb
   ·rw[JR]at wD
    exact hM.inj i j K K' D kM ho LC r o c o' c' eb wD
theorem Bz {C:Cx} {f:Nat} {eB:List SV} {H:HS} {Y:Nat} {c0:Bool} {k:QD->Prop} {fn:Func} {zC:List SV} {H0:HS} {n0:Nat} {s1:SV} {H1:HS} {n1:Nat} (M:List Nat) {s:SV} {wh:List (Nat×Option DA)} (hf:C.P.funcs[f]? =some fn) (Z:fn.body.isNone=false)
  (h:c0=true->Fn C.P f zC H0 n0 s1 H1 n1) (dB:MI M H0 n0 n1 Y=true) (YC:eB=YA (mp M n0 n1 Y) zC) (hH:c0=true->NI (mp M n0 n1 Y) H H0) (hs:s1.IB (mp M n0 n1 Y)=s) (QO:ED M H0 H1 n0 n1 Y=wh) (hk:k ⟨s,wh,Y+(n1-n0)+1,M⟩):
  ∃fn,C.P.funcs[f]? =some fn/\fn.body.isNone=false/\EY C.P C.w0 C.W f eB H Y c0 k:=by
 subst hs;subst QO;subst YC
 exact⟨fn,hf,Z,_,⟨by simp only;omega,λhc=>(h hc).xEA C.gw M dB (hH hc)⟩,hk⟩
theorem Fn.pure {P:Program} {f:FuncId} {eB:List SV} {s:SV} {args:List Value} {r:Value} (h:Fn P f eB [] 0 s [] 0) (ha:JE.vOfL eB=some args) (hs:JE s=some r):Pure P f args r:=by
 intro w hg
 refine(h.2 w (λ_=>False) (λ_=> .iD) args ⟨hg,λ_ _ h=>h⟩ (λ_ _=>rfl) (MH.GA w _ _) ((eP ha).2 rfl)).mono ?_
 rintro e w' ⟨y,uA,rfl,_,_,d,hM⟩
 exact⟨by rw[(jM hs).1 d],hM.below⟩
theorem aG {C:Cx} {c:Code} {F:FS} {H:HS} {Y:Nat} {Q:QT} (t es:Nat) (e:TypeId) (hl:lk F t=some (.u (.v (.slice none 0 0)))) (h:T C c ((t, .u (.s Y 0 0))::F) ((Y,some (.X es e []))::H) (Y+1) Q):T C c F H Y Q:=by
 refine⟨λG a w hf=> ?_⟩
 let uA:wA:=λi=>if i=Y then .nil else G i
 have b1:uA Y= .nil:=by simp[uA]
 have b2:∀i,i≠Y->uA i=G i:=λi hi=>by simp[uA,hi]
 have NH:=hf.iD Y qA
 have xF:uD G uA:=λi hi=>by
  by_cases e:i=Y
  ·subst e;exact absurd NH hi
  ·exact b2 i e
 have M:=hf.ms.heap
 have eE:∀i k,WA H i=some k->i=Y->False:=λi k e e'=>by
  subst e'
  have:=M.ok i k e
  cases k with
  |st=>obtain⟨_,_,_,_,h,_⟩:=this;rw[NH]at h;cases h
  |X=>rcases this with⟨h,_⟩|⟨_,_,_,_,h,_⟩<;>rw[NH]at h<;>cases h
  |ro=>rcases this with⟨h,_⟩|⟨_,_,_,h,_⟩<;>rw[NH]at h<;>cases h
  |obj=>obtain⟨_,_,h,_⟩:=this;rw[NH]at h;cases h
 refine h.ok uA a w ⟨λb Z=> ?_,Nat.le_succ_of_le hf.le,λb Z=> ?_,⟨?_,hf.ms.size,hf.ms.defers,λu r hu=> ?_⟩⟩
 ·rw[b2 b O];exact hf.iD b O
 ·have:=hf.le
  rw[b2 b O];exact hf.PK b Z
 ·have NJ:∀i k,WA ((Y,some (.X es e []))::H) i=some k->(i=Y/\k= .X es e [])\/(i≠Y/\WA H i=some k):=λi k hi=>by
   simp only[WA]at hi
   by_cases e':Y=i
   ·rw[if_pos e']at hi;cases hi;exact .inl ⟨e'.symm,rfl⟩
   ·rw[if_neg e']at hi;exact .inr ⟨Ne.symm e',hi⟩
  refine⟨M.os,M.tape,M.output,M.size,M.eE,λi k hi=> ?_,λi k hi ho r o c eb=> ?_,λi j k k' hi hj ho LC r o c o' c' eb wD=> ?_⟩
  ·rcases NJ i k hi with⟨rfl,rfl⟩|⟨D,h2⟩
   ·exact .inl ⟨b1,rfl⟩
   ·exact yC.ext xF qA (λ_ _ _ _=>rfl) k (M.ok i k h2)
  ·rcases NJ i k hi with⟨rfl,rfl⟩|⟨D,h2⟩
   ·rw[b1]at eb;cases eb
   ·rw[b2 i D]at eb;exact M.own i k h2 ho r o c eb
  ·rcases NJ i k hi with⟨rfl,rfl⟩|⟨D,h2⟩
   ·rw[b1]at eb;cases eb
   ·rcases NJ j k' hj with⟨rfl,rfl⟩|⟨kM,JR⟩
    ·rw[b1]at wD;cases wD
    ·rw[b2 i D]at eb;rw[b2 j kM]at wD
     exact M.inj i j k k' h2 JR ho LC r o c o' c' eb wD
 ·simp only[lk]at hu
  by_cases e':t=u
  ·subst e'
   rw[if_pos rfl]at hu;cases hu
   obtain⟨D,h2⟩:=hf.ms.gC t _ hl
   simp only[IH,aA]at h2
   exact⟨D,by simp only[IH,aA];exact .inl ⟨b1,U,U,h2⟩⟩
  ·rw[if_neg e']at hu
   obtain⟨D,h2⟩:=hf.ms.gC u r hu
   exact⟨D,h2.ext xF⟩
mutual
def uL (n:Nat):SV->Bool
 | .v _=>true
 | .p b _=>Nat.blt b n
 | .s b _ _=>Nat.blt b n
 | .agg l=>LG n l
 | .jA l=>LG n l
 | .fn _ a c=>LG n a&&LG n c
 | .gD _ x=>uL n x
 | .any _=>true
 | .m b=>Nat.blt b n
def LG (n:Nat):List SV->Bool
 |[]=>true
 |x::r=>uL n x&&LG n r
end
mutual
theorem aA.low {n:Nat} {G uA:wA} (h:∀b,b<n->uA b=G b):∀{s:SV} {y:Value},uL n s=true->aA G s y->aA uA s y
 | .v x,y,_,d=>by simp only[aA]at*;exact d
 | .p b o,y,l,d=>by
  simp only[uL]at l
  have l:b<n:=by simpa using l
  simp only[aA]at*;rw[h b l];exact d
 | .s b o m,y,l,d=>by
  simp only[uL]at l
  have l:b<n:=by simpa using l
  simp only[aA]at*;rw[h b l];exact d
 | .agg l,y,q,d=>by
  simp only[uL]at q
  simp only[aA]at*
  obtain⟨ys,e,d⟩:=d
  exact⟨ys,e,ZA.low h q d⟩
 | .jA l,y,q,d=>by
  simp only[uL]at q
  simp only[aA]at*
  obtain⟨ys,e,d⟩:=d
  exact⟨ys,e,ZA.low h q d⟩
 | .fn f a c,y,q,d=>by
  simp only[uL,Bool.and_eq_true]at q
  simp only[aA]at*
  obtain⟨xs,ys,e,d,d'⟩:=d
  exact⟨xs,ys,e,ZA.low h q.1 d,ZA.low h q.2 d'⟩
 | .gD t x,y,q,d=>by
  simp only[uL]at q
  simp only[aA]at*
  obtain⟨z,e,d⟩:=d
  exact⟨z,e,aA.low h q d⟩
 | .any p,y,_,d=>by simp only[aA]at*;exact d
 | .m b,y,l,d=>by
  simp only[uL]at l
  have l:b<n:=by simpa using l
  simp only[aA]at*;rw[h b l];exact d
theorem ZA.low {n:Nat} {G uA:wA} (h:∀b,b<n->uA b=G b):∀{l:List SV} {ys:List Value},LG n l=true->ZA G l ys->ZA uA l ys
 |[],ys,_,d=>by simp only[ZA]at*;exact d
 |x::r,ys,q,d=>by
  simp only[LG,Bool.and_eq_true]at q
  simp only[ZA]at*
  obtain⟨y,z,e,d,d'⟩:=d
  exact⟨y,z,e,aA.low h q.1 d,ZA.low h q.2 d'⟩
end
theorem Qc (n:Nat):∀xs:List Value,LG n (cC xs)=true
 |[]=>rfl
 |x::r=>by show(uL n (.v x)&&LG n (cC r))=true;rw[Qc n r];rfl
theorem RC (n:Nat) (zs:List Int):LG n (A zs)=true:=by rw[Th];exact Qc n _
theorem Mk {n:Nat}:∀{l:List SV} {i:Nat} {x:SV},LG n l=true->l[i]? =some x->uL n x=true
 |[],i,x,_,h=>by simp at h
 |y::r,0,x,q,h=>by simp only[LG,Bool.and_eq_true]at q;simp at h;subst h;exact q.1
 |y::r,i+1,x,q,h=>by simp only[LG,Bool.and_eq_true]at q;exact Mk (l:=r) (i:=i) q.2 (by simpa using h)
def cO (LA:Nat->Nat) (n0:Nat) (H:HS):HS->Prop
 |[]=>True
 |(b,some (.ro xs))::r=>(b<n0/\LG n0 xs=true/\∃K rest,WA H (LA b)=some K/\K.cells=YA LA xs++rest)/\cO LA n0 H r
 |_::_=>False
def mr (M:List Nat):Nat->Nat:=λb=>M.getD b 0
theorem Nk {LA:Nat->Nat} {n0:Nat} {H:HS}:∀{H0:HS} {b:Nat} {k:DA},cO LA n0 H H0->WA H0 b=some k->∃xs,k= .ro xs/\b<n0/\LG n0 xs=true/\∃K rest,WA H (LA b)=some K/\K.cells=YA LA xs++rest
 |[],b,k,_,h=>by simp[WA]at h
 |(u,none)::r,b,k,hm,h=>hm.elim
 |(u,some (.st _))::r,b,k,hm,h=>hm.elim
 |(u,some (.X _ _ _))::r,b,k,hm,h=>hm.elim
 |(u,some (.ro xs))::r,b,k,hm,h=>by
  simp only[WA]at h
  by_cases e:u=b
  ·subst e;rw[if_pos rfl]at h;cases h
   exact⟨xs,rfl,hm.1⟩
  ·rw[if_neg e]at h;exact Nk hm.2 h
theorem Fn.yEA {P:Program} {w0:World} {W:Nat->Prop} (hg:GW w0 W) {f:FuncId} {zC:List SV} {H0:HS} {n0:Nat} {s1:SV} {H1:HS} {Y:Nat} {H:HS} (M:List Nat) (h:Fn P f zC H0 n0 s1 H1 n0) (hM:M.length=n0) (fA:LG n0 zC=true) (hH:cO (mr M) n0 H H0):
  FV P w0 W f (YA (mr M) zC) H Y ⟨s1.IB (mr M),[],Y,M⟩:=by
 refine⟨Nat.le_refl _,λH' G w ys TN NH mJ d=> ?_⟩
 generalize IR:mr M=LA at*
 let oI:wA:=λb=>if b<n0 then G (LA b)else .iD
 have bT:∀b,b<n0->oI b=(λb=>G (LA b)) b:=λb Z=>by show(if _ then _ else _)=_;rw[if_pos Z]
 have xF:uD oI (λb=>G (LA b)):=λb Z=>by
  by_cases D:b<n0
  ·exact(bT b D).symm
  ·exact absurd (by show(if _ then _ else _)=_;rw[if_neg D]) Z
 have kH:∀b,b<n0->H' (LA b)=WA H (LA b):=λb Z=>TN _ (by
  show LA b∈M
  rw[<-IR];simp only[mr];rw[List.getD,List.getElem?_eq_getElem O,Option.getD_some];exact List.getElem_mem _)
 have dB:∀b k,WA H0 b=some k->k.own=false/\yC oI w b k:=by
  intro b k e
  obtain⟨xs,rfl,Z,hl,K,rest,hK,hc⟩:=Nk hH e
  refine⟨rfl,?_⟩
  rw[<-kH b Z]at hK
  have dB:=mJ.ok _ _ hK
  have XO:∀r k c,G (LA b)= .at r k c->yC oI w b (.ro xs):=λr k c eb=>by
   refine .inr ⟨r,k,c,by rw[bT b Z];exact eb,dB.lt r k c eb,λi x hx=> ?_⟩
   have tF:K.cells[i]? =some (x.IB LA):=by
    rw[hc,List.getElem?_append_left (by rw[pJ,List.length_map];exact(List.getElem?_eq_some_iff.1 hx).1),pJ,List.getElem?_map,hx];rfl
   obtain⟨y,hy,dy⟩:=dB.cell eb tF
   exact⟨y,hy,aA.low bT (Mk hl hx) (aA.IB dy)⟩
  have iV:K.cells=[]->xs=[]:=λh0=>by
   rw[hc]at h0
   have:=(List.append_eq_nil_iff.1 h0).1
   rw[pJ]at this
   exact List.map_eq_nil_iff.1 this
  cases K with
  |st ys=>obtain⟨r,c,e1,cs,e2,_⟩:=dB;exact XO _ _ _ e2
  |X es e1 ys=>
   rcases dB with⟨e2,h2⟩|⟨r,c,cs,sp,e2,_⟩
   ·exact .inl ⟨by rw[bT b Z];exact e2,iV h2⟩
   ·exact XO _ _ _ e2
  |ro ys=>
   rcases dB with⟨e2,h2⟩|⟨r,k,c,e2,_⟩
   ·exact .inl ⟨by rw[bT b Z];exact e2,iV h2⟩
   ·exact XO _ _ _ e2
  |obj o=>obtain⟨r,c,e2,_⟩:=dB;exact XO _ _ _ e2
 have YY:MH w (λ_=>False) (WA H0) oI w:=by
  refine⟨rfl,rfl,rfl,Nat.le_refl _,λ_ _ _=>rfl,λb k e=>(dB b k e).2,λb k e ho r o c eb=> ?_,λb b' k k' e e' ho LC r o c o' c' eb wD=> ?_⟩
  ·have:=(dB b k e).1;rw[ho]at this;cases this
  ·have:=(dB b k e).1;rw[ho]at this;cases this
 refine(h.2 w (λ_=>False) oI ys ⟨mJ.gv hg,λ_ _ h=>h⟩ (λb Z=>by show(if _ then _ else _)=_;rw[if_neg O]) YY (ZA.low bT fA (ZA.IB d))).mono ?_
 rintro e w' ⟨y,sL,rfl,jD,lH,vG,vF⟩
 have e1:sL=oI:=by
  funext b
  by_cases Z:b<n0
  ·exact jD b Z
  ·rw[lH b O];show _=(if _ then _ else _);rw[if_neg Z]
 subst e1
 exact⟨y,rfl,G,uD.refl G,λ_ _=>rfl,aA.HK (aA.ext xF _ _ vG),mJ.later vF.below⟩
theorem Cz {C:Cx} {f:Nat} {eB:List SV} {H:HS} {Y:Nat} {c0:Bool} {k:QD->Prop} {fn:Func} {zC:List SV} {H0:HS} {n0:Nat} {s1:SV} {H1:HS} (M:List Nat) {s:SV} (hf:C.P.funcs[f]? =some fn) (Z:fn.body.isNone=false)
  (h:c0=true->Fn C.P f zC H0 n0 s1 H1 n0) (hM:M.length=n0) (fA:LG n0 zC=true) (YC:eB=YA (mr M) zC) (hH:c0=true->cO (mr M) n0 H H0) (hs:s1.IB (mr M)=s) (hk:k ⟨s,[],Y,M⟩):
  ∃fn,C.P.funcs[f]? =some fn/\fn.body.isNone=false/\EY C.P C.w0 C.W f eB H Y c0 k:=by
 subst hs;subst YC
 exact⟨fn,hf,Z,_,⟨Nat.le_refl _,λhc=>(h hc).yEA C.gw M hM fA (hH hc)⟩,hk⟩
theorem dT {n Y b:Nat} (Z:b<n):sig [] n Y b=b:=by simp[sig,Z]
theorem DB {C:Cx} {s:SV} {x:Value} {H:HS} {Y n1:Nat} (h:s= .v x) (hn:C.n0<=n1):∃l,OA C l [(0, .u s)] H Y [(0, .u (.v x))] [] n1:=by
 subst h
 refine⟨[],⟨⟨rfl,U⟩,U,λb b' _ _ Z qC _ _ _ e=> ?_,hn,λx hx=>by simp at hx⟩⟩
 rw[dT Z,dT qC]at e;exact e
theorem iF {C:Cx} {s s1:SV} {H:HS} {Y n1:Nat} (h:s1.IB (sig [] n1 Y)=s) (hn:C.n0<=n1):∃l,OA C l [(0, .u s)] H Y [(0, .u s1)] [] n1:=by
 subst h
 refine⟨[],⟨⟨rfl,U⟩,U,λb b' _ _ Z qC _ _ _ e=> ?_,hn,λx hx=>by simp at hx⟩⟩
 rw[dT Z,dT qC]at e;exact e
theorem OA.nil {C:Cx} {F:FS} {H:HS} {Y:Nat} {F':FS} {H':HS} {n':Nat} (hn:C.n0<=n') (hf:QK (sig [] n' Y) F F') (hh:lC (sig [] n' Y) H H'):OA C [] F H Y F' H' n':=by
 refine⟨hf,hh,λb b' _ _ Z qC _ _ _ e=> ?_,hn,λx hx=>by simp at hx⟩
 rw[dT Z,dT qC]at e;exact e
theorem QK.cons {LA:Nat->Nat} {F l:FS} {t:Nat} {r r':RV} (h:lk F t=some r') (hr:r.IB LA=r') (hl:QK LA F l):QK LA F ((t,r)::l):=⟨by rw[hr];exact h,hl⟩
theorem TB {LA:Nat->Nat} {H:HS} {b:Nat} {K:DA} {xs:List SV} (h:WA H (LA b)=some K) (hc:K.cells=YA LA xs):aE LA H b (.ro xs):=⟨K,[],h,by rw[hc,List.append_nil]⟩
theorem OA.names {C:Cx} {F:FS} {H:HS} {Y:Nat} {F':FS} {H':HS} {n':Nat} (l:List (Nat×Nat)) (hn:C.n0<=n') (hl:(l.all λx=>Nat.ble C.n0 x.1)=true) (hj:(H'.all λx=> !KE x.2||H'.all λy=>Nat.beq x.1 y.1|| !(Nat.beq (sig l n' Y x.1) (sig l n' Y y.1)))=true) (hf:QK (sig l n' Y) F F') (hh:lC (sig l n' Y) H H'):OA C l F H Y F' H' n':=by
 refine⟨hf,hh,λb b' k k' Z qC e e' ho es=> ?_,hn,λx hx=>Nat.le_of_ble_eq_true (List.all_eq_true.1 hl x hx)⟩
 have D:=List.all_eq_true.1 hj _ (UN e)
 have jH:KE (some k)=true:=by rw[XY];exact ho
 simp only[jH,Bool.not_true,Bool.false_or]at D
 have h2:=List.all_eq_true.1 D _ (UN e')
 simp only[es,Nat.beq_refl,Bool.not_true,Bool.or_false]at h2
 exact Nat.eq_of_beq_eq_true h2
theorem Pk {n:Int} (h:0<=n/\n<256):IntKind.u8.wrap n=n:=by simp[IntKind.wrap,IntKind.bits,IntKind.signed];omega
theorem Dz {n:Int} (h:0<=n/\n<18446744073709551616):IntKind.u64.wrap n=n:=by simp[IntKind.wrap,IntKind.bits,IntKind.signed];omega
theorem aY (x:UInt8):(0:Int)<=((x.toNat:Nat):Int)/\((x.toNat:Nat):Int)<256:=by have:=x.toNat_lt;omega
theorem eT {c0:Bool} {a b:Int} (Z:0<b) (ha:c0=true->0<=a) (h:c0=true->zA (a/b)):c0=true->b≠0/\a.tdiv b=a/b/\zA (a/b):=
 λhc=>⟨O,Int.tdiv_eq_ediv_of_nonneg (ha hc),h hc⟩
theorem pV {c0:Bool} {a b:Int} (Z:0<b) (ha:c0=true->0<=a):c0=true->b≠0/\a.tmod b=a%b:=
 λhc=>⟨O,Int.tmod_eq_emod_of_nonneg (ha hc)⟩
theorem Qk {C:Cx} {f:Nat} {eB:List SV} {H:HS} {Y:Nat} {c0:Bool} {k:QD->Prop} {fn:Func} {s1:SV} (hf:prog.funcs[f]? =some fn) (hP:C.P=prog) (Z:fn.body.isNone=false)
  (h:c0=true->Fn prog f eB [] 0 s1 [] 0) {args:List Value} (ha:JE.vOfL eB=some args) {r:Value} (hr:JE s1=some r) (hk:k ⟨s1,[],Y,[]⟩):cA C f eB H Y c0 k:=
 ⟨.inl (ti (by rw[hP];exact hf) Z ha hr (λhc=>by rw[hP];exact(h hc).pure ha hr) hk)⟩
def KA (m:Nat) (t:Nat):Bool:=Nat.beq (Nat.land (Nat.shiftRight m t) 1) 1
theorem Fn.weaken {P:Program} {f:FuncId} {eB:List SV} {H0:HS} {n0:Nat} {s1:SV} {H1:HS} {n1:Nat} (h:Fn P f eB H0 n0 s1 H1 n1) {s2:SV} (e:s2=s1):Fn P f eB H0 n0 s2 H1 n1:=e▸h
theorem sd {P:Prop} (h:P:=by first|exact(λ_=>by unfold zA;omega)|exact UB.refl _|exact UB.left _ _|exact UB.uEA _ _ _|exact UB.vEA _ _ _ _|kernel_rfl|exact(λ_=>NO (by unfold zA;omega))|exact(λ_=>Pk O)|exact(λ_=>Dz O)|exact(λ_=>by omega)|exact(λhc=>by simp at hc;first|omega|(unfold zA;omega))):P:=h
theorem qd {c0:Bool} {a b:Int} {k:Int->Prop} (h:c0=true->b≠0/\a.tdiv b=a/b/\zA (a/b):=by exact eT O (λ_=>by omega) (λ_=>by unfold zA;omega)) (hk:k (a/b)):∃q,(c0=true->b≠0/\a.tdiv b=q/\zA q)/\k q:=⟨_,h,hk⟩
theorem qm {c0:Bool} {a b:Int} {k:Int->Prop} (h:c0=true->b≠0/\a.tmod b=a%b:=by exact pV O (λ_=>by omega)) (hk:k (a%b)):∃q,(c0=true->b≠0/\a.tmod b=q)/\k q:=⟨_,h,hk⟩
abbrev fE:Nat:=1688835088827610752213546359205323108571731942612938859443682911689036761005704356310115466173154636517616926364762278825580451890811623021679826782242767915071957133306621262148132164310021338290495589677403943422161105591440999957356933236479880789136134597948648052144194818489939858970591749088575720550679139075270986177766911432950557474431295943346071051350167530990832002018927434959931705189948089716405368829
abbrev yF:Nat:=2039570022089736508104941198107088647890136704597226789751805941379822419986531114378231144651565587485785773661641435905406124841580842976822605580201650931555146777549422515850884149191
abbrev dC:Nat:=14667902591426710441384011784056272625602799003566216892338123250851835
abbrev mD:Nat:=114724486188686798970792748594966336832137268193398802561788359740269372517281442479
abbrev dO:Nat:=1238091173459862059304880159
abbrev KR:Nat:=9658330891105102206788719804407
abbrev gT:Nat:=162259279248247796506203980307447
abbrev LR:Nat:=9908124921372439599824416759
abbrev Rc:Nat:=2787593169287446063957742830636199775215679
abbrev Sc:Nat:=2492464751373546479669856580541874301
abbrev bY:Nat:=9671425005912911283026975
def Rk (C:Cx) (c:Code) (F:FS) (H:HS) (Y:Nat) (Q:QT):Prop:=
 match c with
 | .seq x y=>T C x F H Y (rL C y Q)
 | .region id ⟨ops⟩ false=>oJ C ops ops F [] H Y [] λFr H' CD _=>dP C.kp Fr F λF'=>Q .normal F' H' CD
 | .region id ⟨ops⟩ true=>oJ C ops ops F [] H Y [] λFr H' CD ks=>TV (List.toArray ops) [] 0 ks.reverse=true/\dP C.kp Fr F λF'=>Q .normal F' H' CD
 | .cond c x y=>zB F true c λs=>match s with| .v (.bool b)=>(b=true->T C x F H Y Q)/\(b=false->T C y F H Y Q)|_=>False
 | .block id x=>T C x F H Y (UT id Q)
 | .skip=>Q .normal F H Y
 | .exit id=>Q (.exit id) F H Y
 | .ret=>Q .ret F H Y
 |_=>False
def Ez:Code->Bool
 | .seq _ _=>true
 | .region _ _ _=>true
 | .cond _ _ _=>true
 | .block _ _=>true
 | .skip=>true
 | .exit _=>true
 | .ret=>true
 |_=>false
theorem tk {C:Cx} {c:Code} {F:FS} {H:HS} {Y:Nat} {Q:QT} (h:Rk C c F H Y Q) (hc:Ez c=true:=by rfl):T C c F H Y Q:=by
 unfold Rk at h
 split at h
 ·exact ii h
 ·exact xw h
 ·exact zw h
 ·exact Dx h
 ·exact Ex h
 ·exact Fx h
 ·exact Gx h
 ·exact PD h
 ·exact h.elim
theorem ai {a b:Prop} (k:b) (h:a:=by exact sd):a/\b:=⟨h,k⟩
theorem qe {c0:Bool} {a b:Int} {k:Int->Prop} (hk:k (a/b)) (h:c0=true->b≠0/\a.tdiv b=a/b/\zA (a/b):=by exact eT (by omega) (λ_=>by omega) (λ_=>by unfold zA;omega)):∃q,(c0=true->b≠0/\a.tdiv b=q/\zA q)/\k q:=⟨_,h,hk⟩
theorem qf {c0:Bool} {a b:Int} {k:Int->Prop} (hk:k (a%b)) (h:c0=true->b≠0/\a.tmod b=a%b:=by exact pV (by omega) (λ_=>by omega)):∃q,(c0=true->b≠0/\a.tmod b=q)/\k q:=⟨_,h,hk⟩
theorem an {a b c d:Prop} (h:a->b) (k:c->d):(a->b)/\(c->d):=⟨h,k⟩
theorem cz (f:Nat) {C:Cx} {eB:List SV} {H:HS} {Y:Nat} {c0:Bool} {k:QD->Prop} {fn:Func} {s1:SV} (hf:prog.funcs[f]? =some fn) {args:List Value} {r:Value}
  (h:c0=true->Fn prog f eB [] 0 s1 [] 0) (hk:k ⟨s1,[],Y,[]⟩) (hP:C.P=prog:=by rfl) (Z:fn.body.isNone=false:=by rfl) (ha:JE.vOfL eB=some args:=by rfl) (hr:JE s1=some r:=by rfl):cA C f eB H Y c0 k:=Qk hf hP Z h ha hr hk
theorem HA {LA:Nat->Nat} {H:HS} {b:Nat} {K:DA} {xs:List SV} (h:WA H (LA b)=some K:=by rfl) (hc:K.cells=YA LA xs:=by simp[DA.cells]):aE LA H b (.ro xs):=TB h hc
theorem mS {H:HS} {b:Nat} {ys:List SV} (h:∃K rest,WA H b=some K/\K.cells=ys++rest:=by exact⟨_,[],rfl,by simp[DA.cells]⟩):∃K rest,WA H b=some K/\K.cells=ys++rest:=h
theorem fm {f:FuncId} {fn:Func} {c:Code} {rs:List ResultVar} {eB:List SV} {H0:HS} {n0:Nat} {s1:SV} {H1:HS} {n1:Nat} (kp:Nat->Bool) (hf:prog.funcs[f]? =some fn)
  (ht:∀w W G g,T (cx w W fn.ntmps kp n0 G g) c (ER eB 0) H0 n0 (lV (cx w W fn.ntmps kp n0 G g) rs λs H Y=>∃l,OA (cx w W fn.ntmps kp n0 G g) l [(0, .u s)] H Y [(0, .u s1)] H1 n1))
  (Z:fn.body=some c:=by rfl) (WT:fn.results=List.toArray rs:=by rfl) (hN:eB.length<=fn.ntmps:=by exact Nat.le_of_ble_eq_true rfl) (hn:n0<=n1:=by exact Nat.le_of_ble_eq_true rfl):Fn prog f eB H0 n0 s1 H1 n1:=Fn.mk kp hf Z WT hN hn ht
theorem cB {P:Prop} (h:P:=by exact⟨_,[],rfl,by first|(simp[DA.cells];done)|(simp[DA.cells];rfl)⟩):P:=h
theorem BC {P:Prop} (h:P:=by exactλ_=>⟨⟨by omega,RC _ _,_,[],rfl,by simp[DA.cells]⟩,trivial⟩):P:=h
theorem wB {P:Prop} (h:P:=by show _=some (DA.X 1 3 (YA _ (A _)));rw[kD];rfl):P:=h
end En
end Go.Proofs.YtkidgehblodbcaaGreatDoor
