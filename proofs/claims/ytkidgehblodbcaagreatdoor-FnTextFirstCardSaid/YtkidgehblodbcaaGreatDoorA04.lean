/- A part of the proof of FnTextFirst: an engine that steps through code. -/
import Derived.Laws.RangeString
import Derived.Test.YtkidgehblodbcaaGreatDoorA02
import Derived.Test.YtkidgehblodbcaaGreatDoorA03
set_option linter.all false
set_option maxRecDepth 100000
set_option maxHeartbeats 16000000
namespace Go.Proofs.YtkidgehblodbcaaGreatDoor
namespace En
open Go.RowKit
section
variable {C:Cx} {o:Oper} {F:FS} {H:HS} {Y:Nat} {c0:Bool}
abbrev gl (y:Value):Prop:=∃z:Int,y= .int .i64 z
abbrev il (y:Value):Prop:=∃b:Bool,y= .bool b
theorem C1 {t:TypeId} {i:TI} {x:Operand} {el es:Nat} (hi:C.ty t=some i) (hk:i.kind= .sl el es) (ho:o.op= .call {callee:= .builtin .cap,args:= #[x],argTypes:= #[t]}) (hx:zB F c0 x λs=>∃b q n,s= .s b q n):
  JB C.P C.w0 C.W C.N o F H Y c0 ⟨.any gl,[],Y,[]⟩:=by
 obtain⟨s,⟨b,q,n,rfl⟩,hx⟩:=QC hx
 refine JB.pure λhc F' G a w hF hS=> ?_
 have d:=hx F' G a hc (hF x (by simp[ZB,ho,Op.operands,Call.operands])) hS
 simp only[aA]at d
 obtain⟨dd,D,h2,h3⟩:=(C.YD t i hi).under
 rw[hk]at h2
 obtain⟨rfl,_⟩:=h2
 rcases d with⟨_,_,rfl,d⟩|⟨r,k,c,ad,cap,e,d,_⟩
 ·exact⟨.int .i64 0,by simp[execOp,ho,resolve,invoke,builtin,Builtin.cap_,run_underlying D,d,goInt],by simp only[aA];exact⟨_,rfl⟩⟩
 ·exact⟨.int .i64 cap,by simp[execOp,ho,resolve,invoke,builtin,Builtin.cap_,run_underlying D,d,goInt],by simp only[aA];exact⟨_,rfl⟩⟩
theorem E1 {t t':TypeId} {x y:Operand} (ho:o.op= .binOp .lss t x y t') (hx:zB F c0 x λs=>s= .any gl) (hy:zB F c0 y λs=>∃z,s= .v (.int .i64 z)):
  JB C.P C.w0 C.W C.N o F H Y c0 ⟨.any il,[],Y,[]⟩:=by
 obtain⟨_,rfl,hx⟩:=QC hx
 obtain⟨_,⟨b,rfl⟩,hy⟩:=QC hy
 refine JB.pure λhc F' G a w hF hS=> ?_
 have dx:=hx F' G a hc (hF x (by simp[ZB,ho,Op.operands])) hS
 have dy:=hy F' G a hc (hF y (by simp[ZB,ho,Op.operands])) hS
 simp only[aA]at dx dy
 obtain⟨z,dx⟩:=dx
 refine⟨.bool (decide (z<b)),?_,by simp only[aA];exact⟨_,rfl⟩⟩
 simp[execOp,ho,dx,dy,eqGuard,binOp,Op.intCmp]
theorem jl {s t:TypeId} {j:TI} {x:Operand} {z:Int} (hj:C.ty s=some j) (hu:C.P.underlying t=some (.float .f64)) (ho:o.op= .convert s t x) (hx:zB F c0 x λs=>s= .v (.int .i64 z)):
  JB C.P C.w0 C.W C.N o F H Y c0 ⟨.v (.float .f64 (FloatKind.f64.nearest z)),[],Y,[]⟩:=by
 obtain⟨_,rfl,hx⟩:=QC hx
 refine JB.dH λhc F' G a w hF hS=> ?_
 have d:=hx F' G a hc (hF x (by simp[ZB,ho,Op.operands])) hS
 simp only[aA]at d
 obtain⟨ds,h4,_,_⟩:=(C.YD s j hj).under
 have:(convert s t (.int .i64 z)).run C.P w= .ok (.float .f64 (FloatKind.f64.nearest z)) w:=by
  unfold convert
  simp[run_underlying h4,run_underlying hu,Conv.intToFloat]
 simp[execOp,ho,d,this]
theorem G1 {t t':TypeId} {x y:Operand} {u v q:Nat} (hq:c0=true->Ieee.double.div u v=some q) (hu:C.P.underlying t=some (.float .f64)) (ho:o.op= .binOp .quo t x y t') (hx:zB F c0 x λs=>s= .v (.float .f64 u)) (hy:zB F c0 y λs=>s= .v (.float .f64 v)):
  JB C.P C.w0 C.W C.N o F H Y c0 ⟨.v (.float .f64 q),[],Y,[]⟩:=by
 obtain⟨_,rfl,hx⟩:=QC hx
 obtain⟨_,rfl,hy⟩:=QC hy
 refine JB.dH λhc F' G a w hF hS=> ?_
 have dx:=hx F' G a hc (hF x (by simp[ZB,ho,Op.operands])) hS
 have dy:=hy F' G a hc (hF y (by simp[ZB,ho,Op.operands])) hS
 simp only[aA]at dx dy
 have I1:FloatKind.f64.format.div u v=some q:=hq hc
 simp[execOp,ho,dx,dy,eqGuard,binOp,run_underlying hu,Op.floatArith,I1]
theorem J1 {s t:TypeId} {i:TI} {x:Operand} {b:Nat} {z:Int} (hz:c0=true->(Ieee.double.read b).toInt .zero=some z/\zA z) (hs:C.P.underlying s=some (.float .f64)) (hi:C.ty t=some i) (hk:i.kind= .int .i64) (ho:o.op= .convert s t x) (hx:zB F c0 x λs=>s= .v (.float .f64 b)):
  JB C.P C.w0 C.W C.N o F H Y c0 ⟨.v (.int .i64 z),[],Y,[]⟩:=by
 obtain⟨_,rfl,hx⟩:=QC hx
 refine JB.dH λhc F' G a w hF hS=> ?_
 have d:=hx F' G a hc (hF x (by simp[ZB,ho,Op.operands])) hS
 simp only[aA]at d
 obtain⟨dd,D,h2,h3⟩:=(C.YD t i hi).under
 rw[hk]at h2
 have h2:dd= .int .i64:=h2
 subst h2
 obtain⟨hz,NE⟩:=hz hc
 have yQ:(FloatKind.f64.decode b).toInt .zero=some z:=hz
 have:(convert s t (.float .f64 b)).run C.P w= .ok (.int .i64 z) w:=by
  unfold convert
  have hm:IntKind.i64.min<=z/\z<=IntKind.i64.max:=by
   unfold zA at NE
   have e1:IntKind.i64.min= -9223372036854775808:=by decide
   have e2:IntKind.i64.max=9223372036854775807:=by decide
   rw[e1,e2];exact NE
  simp only[run_underlying hs,run_underlying D,Sem.run_bind,Result.andThen_ok,Conv.floatToInt,yQ,if_pos hm,Sem.run_pure]
 simp[execOp,ho,d,this]
theorem tJ {t:TypeId} {i:TI} {g:Nat} {cs:Array Value} (hg:(g,cs)∈rG) (hi:C.ty t=some i) (iH:i.agg=true) (GI:cs.size=i.size) (ho:o.op= .load t (.global g)):
  JB C.P C.w0 C.W C.N o F H Y c0 ⟨.agg (cC cs.toList),[],Y,[]⟩:=by
 refine⟨Nat.le_refl _,λhc F' H' G a w hF hH hu hM=> ?_⟩
 obtain⟨tt,fr,e⟩:=hM.heap.gv C.gw _ hg
 obtain⟨dd,D,h2,h3⟩:=(C.YD t i hi).under
 obtain⟨I,i1,i2,_⟩:=(C.YD t i hi).jL
 refine dD.value (y:= .agg cs) ?_ (LJ.same hM.heap (by simp only[aA];exact⟨cs.toList,by simp,ZA.cC G _⟩))
 have hA:=VP (P:=C.P) (w:=w) D
 rw[<-h3,iH]at hA
 have hL:=run_loadCells_list (P:=C.P) w ⟨g,0,none⟩ cs.toList (λj v hv=>by
  rw[LO];simp only[World.cell?,e,Option.isSome_none,Bool.false_eq_true,if_false]
  simpa using hv)
 have hl:cs.toList.length=I.size:=by rw[Array.length_toList,GI,<-i2]
 rw[hl]at hL
 simp[execOp,ho,Instr.loadAt,Act.eval,Instr.sureAddr,loadVar,hA,run_sizeOf i1,hL]
theorem XF {T:TypeId} {name:String} {f:Nat} {sv:SV} {xc:List SV} {x:Operand} {args:Array Operand} {at_:Array TypeId} {k:QD->Prop} (hm:∀v w,(method (C.P.types.size+Made.depth) T v name).run C.P w= .ok (f,v) w)
  (ho:o.op= .call {callee:= .invoke x name,args:=args,argTypes:=at_}) (hx:zB F c0 x λs=>s= .gD T sv) (ha:uQ F c0 args.toList λss=>ss=xc) (h:cA C f (sv::xc) H Y c0 k):∃r,JB C.P C.w0 C.W C.N o F H Y c0 r/\k r:=by
 obtain⟨_,rfl,hx⟩:=QC hx
 obtain⟨ss1,e1,II⟩:=xS ha
 rw[e1]at II
 have run:∀F' H' G a w,c0=true->(∀y∈ZB o,VF F' F y)->MS C.w0 C.W C.N F' H' G a w->∃v,aA G sv v/\(execOp a.eval o).run C.P w=(callFunc f (List.toArray (v::args.toList.map a.eval))).run C.P w:=by
  intro F' H' G a w hc hF hM
  have df:=hx F' G a hc (hF x (by simp[ZB,ho,Op.operands,Call.operands])) hM.gC
  simp only[aA]at df
  obtain⟨v,df,dv⟩:=df
  refine⟨v,dv,?_⟩
  have e: #[v]++(args.map a.eval)=List.toArray (v::args.toList.map a.eval):=by
   apply Array.toList_inj.1;simp
  have e2:(#[Value.iface T v]++args.map a.eval)[0]? =some (Value.iface T v):=by rw[<-Array.getElem?_toList];simp
  have e3:(#[Value.iface T v]++args.map a.eval).extract 1 (#[Value.iface T v]++args.map a.eval).size=args.map a.eval:=by
   apply Array.toList_inj.1;simp
   exact List.take_of_length_le (by simp)
  simp only[execOp,ho,resolve,invoke,df,Sem.run_bind,Sem.run_pure,Result.andThen_ok,e2,e3,callMethod,run_program,hm,e]
 have ml:∀F' G a,c0=true->(∀y∈ZB o,VF F' F y)->SO F' G a->ZA G xc (args.toList.map a.eval):=λF' G a hc hF hS=>
  II F' G a hc (λy hy=>hF y (by simp[ZB,ho,Op.operands,Call.operands];exact .inr (by simpa using hy))) hS
 rcases h.ok with⟨fn,D,h2,r,⟨hn,HG⟩,hk⟩|⟨z,hX,hk⟩
 ·refine⟨r,⟨hn,λhc F' H' G a w hF hH hu hM=> ?_⟩,hk⟩
  obtain⟨v,dv,hr⟩:=run F' H' G a w hc hF hM
  have d:=ml F' G a hc hF hM.gC
  have h3:fn.name≠ "runtime.NumGoroutine" :=by have:=C.MT _ fn D;intro e;rw[e]at this;simp at this
  have h4:¬fn.body=none:=by intro e;rw[e]at h2;simp at h2
  refine dD.call (f:=f) (args:=List.toArray (v::args.toList.map a.eval)) (w':=w) ?_ ?_
  ·rw[hr];simp[callFunc,D,h3,h4]
  ·exact(HG hc).2 H' G w _ hH hu hM.heap (by simp only[ZA];exact⟨v,_,rfl,dv,d⟩)
 ·refine⟨_,⟨Nat.le_refl _,λhc F' H' G a w hF hH hu hM=> ?_⟩,hk⟩
  obtain⟨v,dv,hr⟩:=run F' H' G a w hc hF hM
  have d:=ml F' G a hc hF hM.gC
  obtain⟨fn,e,vs,D,h2,h3,h4,h5,h6⟩:=hX.ok
  have ea:=h5 G (v::args.toList.map a.eval) (by simp only[ZA];exact⟨v,_,rfl,dv,d⟩)
  refine dD.value (y:=z) ?_ (LJ.same hM.heap (by simp only[aA]))
  rw[hr,run_callFunc_extern D (C.MT _ fn D) h2 h3 h4,ea,h6 hc w];rfl
end
theorem VD {C:Cx} {c:Code} {F:FS} {H:HS} {Y:Nat} {Q:QT} (b j es:Nat) (e:TypeId) {xs:List SV} (ys:List SV) (hl:WA H b=some (.st xs)) (hj:xs[j]? =some (.v (.slice none 0 0))) (hy:ys=xs.set j (.s Y 0 0)) (h:T C c F ((b,some (.st ys))::(Y,some (.X es e []))::H) (Y+1) Q):T C c F H Y Q:=by
 subst hy
 refine⟨λG a w hf=> ?_⟩
 let uA:wA:=λi=>if i=Y then .nil else G i
 have b1:uA Y= .nil:=by simp[uA]
 have b2:∀i,i≠Y->uA i=G i:=λi hi=>by simp[uA,hi]
 have NH:=hf.iD Y qA
 have xF:uD G uA:=λi hi=>by
  by_cases e:i=Y
  ·subst e;exact absurd NH hi
  ·exact b2 i e
 have M:=hf.ms.heap
 have Z:b≠Y:=λe'=>by
  subst e'
  obtain⟨_,_,_,_,h,_⟩:=M.ok b _ hl
  rw[NH]at h;cases h
 refine h.ok uA a w ⟨λi hi=> ?_,Nat.le_succ_of_le hf.le,λi hi=> ?_,⟨?_,hf.ms.size,hf.ms.defers,λu r hu=> ?_⟩⟩
 ·rw[b2 i O];exact hf.iD i O
 ·have:=hf.le
  rw[b2 i O];exact hf.PK i hi
 ·have NJ:∀i k,WA ((b,some (.st (xs.set j (.s Y 0 0))))::(Y,some (.X es e []))::H) i=some k->(i=b/\k= .st (xs.set j (.s Y 0 0)))\/(i=Y/\k= .X es e [])\/(i≠Y/\i≠b/\WA H i=some k):=λi k hi=>by
   simp only[WA]at hi
   by_cases e':b=i
   ·rw[if_pos e']at hi;cases hi;exact .inl ⟨e'.symm,rfl⟩
   ·rw[if_neg e']at hi
    by_cases DL:Y=i
    ·rw[if_pos DL]at hi;cases hi;exact .inr (.inl ⟨DL.symm,rfl⟩)
    ·rw[if_neg DL]at hi;exact .inr (.inr ⟨Ne.symm DL,Ne.symm e',hi⟩)
  have fix:∀i k,WA ((b,some (.st (xs.set j (.s Y 0 0))))::(Y,some (.X es e []))::H) i=some k->i≠Y->∃k',WA H i=some k'/\(k.own=true->k'.own=true):=λi k hi hn=>by
   rcases NJ i k hi with⟨rfl,rfl⟩|⟨rfl,rfl⟩|⟨_,_,h2⟩
   ·exact⟨_,hl,λ_=>rfl⟩
   ·exact absurd rfl hn
   ·exact⟨k,h2,λh=>h⟩
  refine⟨M.os,M.tape,M.output,M.size,M.eE,λi k hi=> ?_,λi k hi ho r o c eb=> ?_,λi j' k k' hi qL ho LC r o c o' c' eb wD=> ?_⟩
  ·rcases NJ i k hi with⟨rfl,rfl⟩|⟨rfl,rfl⟩|⟨D,_,h2⟩
   ·obtain⟨r,c,e0,cs,e1,e2,d⟩:=M.ok _ _ hl
    have d':=ZA.ext xF _ _ d
    obtain⟨y,JH,JI⟩:=ZA.get _ _ d j _ hj
    simp only[aA]at JI
    subst JI
    have d3:=ZA.set (i:=j) d' (x:= .s Y 0 0) (y:= .slice none 0 0) (by simp only[aA];exact .inl ⟨b1,U,U,U⟩)
    have e3:cs.set j (.slice none 0 0)=cs:=by
     have fA:=(List.getElem?_eq_some_iff.1 JH).1
     have:=(List.getElem?_eq_some_iff.1 JH).2
     rw[<-this,List.set_getElem_self]
    rw[e3]at d3
    exact⟨r,c,e0,cs,xF.at e1,e2,d3⟩
   ·exact .inl ⟨b1,rfl⟩
   ·exact yC.ext xF qA (λ_ _ _ _=>rfl) k (M.ok i k h2)
  ·by_cases NE:i=Y
   ·subst NE;rw[b1]at eb;cases eb
   ·obtain⟨k',D,h2⟩:=fix i k hi NE
    rw[b2 i NE]at eb;exact M.own i k' D (h2 ho) r o c eb
  ·by_cases NE:i=Y
   ·subst NE;rw[b1]at eb;cases eb
   ·by_cases VR:j'=Y
    ·subst VR;rw[b1]at wD;cases wD
    ·obtain⟨k1,D,h2⟩:=fix i k hi NE
     obtain⟨k2,h3,h4⟩:=fix j' k' qL VR
     rw[b2 i NE]at eb;rw[b2 j' VR]at wD
     exact M.inj i j' k1 k2 D h3 (h2 ho) LC r o c o' c' eb wD
 ·obtain⟨D,h2⟩:=hf.ms.gC u r hu
  exact⟨D,IH.ext xF h2⟩
def EK (es:List (Value×Value)):List MapEntry:=es.zipIdx.map λe=>{key:=e.1.1,val:=e.1.2,born:=e.2}
def YH (es:List (Value×Value)):Obj:= .map (List.toArray (EK es)) es.length
theorem M9 (es:List (Value×Value)) (k v:Value):EK (es++[(k,v)])=EK es++[{key:=k,val:=v,born:=es.length}]:=by
 unfold EK;rw[List.zipIdx_append];simp
structure NQ (P:Program) (kt:TypeId) (kv:Value) (es:List (Value×Value)) (r:Option (Nat×Value)):Prop where
 Jf:∀w b,(Instr.checkKey b 10000 kt kv).run P w= .ok () w
 Kf:∀w,(Instr.findKey kt kv (EK es)).run P w= .ok r w
theorem DX {P:Program} {w:World} {r:Nat} {o:Obj} (h:w.heap[r]? =some o) (hn:∀a b c,o≠ .cells a b c):(getObj r).run P w= .ok o w:=by
 unfold getObj Sem.run
 rw[h]
 cases o<;>first|rfl|exact absurd rfl (hn _ _ _)
theorem Lf {P:Program} {w:World} {r:Nat} {o o':Obj} (h:w.heap[r]? =some o) (hn:∀a b c,o≠ .cells a b c):(setObj r o').run P w= .ok () {w with heap:=w.heap.setIfInBounds r o'}:=by
 unfold setObj Sem.run
 rw[h]
 cases o<;>first|rfl|exact absurd rfl (hn _ _ _)
section
variable {C:Cx} {o:Oper} {F:FS} {H:HS} {Y:Nat} {c0:Bool}
theorem Mf {w0 w:World} {W:Nat->Prop} {H':Nat->Option DA} {G:wA} (hM:MH w0 W H' G w) {b r c:Nat} {o o':Obj} (Z:H' b=some (.obj o)) (e:G b= .at r 0 c):MH w0 W (WE H' b (some (.obj o'))) G {w with heap:=w.heap.setIfInBounds r o'}:=by
 have hr:r<w.heap.size:=(hM.ok b _ Z).lt _ _ _ e
 exact hM.Qh Z rfl rfl e rfl rfl rfl (by simp) (λi _ hi=>by simp[Array.getElem?_setIfInBounds,Ne.symm hi]) ⟨r,c,e,by simp[Array.getElem?_setIfInBounds,hr]⟩
theorem rq {t:TypeId} {i:TI} {x:Operand} {s:ByteArray} (hi:C.ty t=some i) (hk:i.kind= .str) (ho:o.op= .range t x) (hx:zB F c0 x λv=>v= .v (.string s)):
  JB C.P C.w0 C.W C.N o F H Y c0 ⟨.p Y 0,[(Y,some (.obj (.stringIter s 0)))],Y+1,[]⟩:=by
 obtain⟨_,rfl,hx⟩:=QC hx
 refine⟨Nat.le_succ _,λhc F' H' G a w hF hH hu hM=> ?_⟩
 have d:=hx F' G a hc (hF x (by simp[ZB,ho,Op.operands])) hM.gC
 simp only[aA]at d
 obtain⟨dd,D,h2,h3⟩:=(C.YD t i hi).under
 rw[hk]at h2
 have h2:dd= .string:=h2
 subst h2
 obtain⟨uA,he,e1,e2,e3⟩:=hM.heap.Ph (hu Y qA (Nat.lt_succ_self _)) (.stringIter s 0) 0 (.obj (.stringIter s 0)) rfl (λuA he Z=>⟨_,_,Z,heap_alloc_new _ _⟩)
 refine dD.value (y:= .pointer (some ⟨w.heap.size,0,none⟩)) (w':=w.alloc (.stringIter s 0)) ?_ ⟨uA,he,λb Z=>e1 b (λe=>Z (by simp only;omega)),?_,by simpa [ND]using e3⟩
 ·simp[execOp,ho,Instr.range,run_underlying D,d]
 ·simp only[aA];exact⟨_,_,_,e2,by simp⟩
theorem sq {x:Operand} {b pos:Nat} {s:yA} {ch:UInt8} (hs:s[pos]? =some ch) (ha:ch.toNat<128) (ho:o.op= .next x true) (hx:zB F c0 x λv=>v= .p b 0) (Z:WA H b=some (.obj (.stringIter ⟨s.toArray⟩ pos))):
  JB C.P C.w0 C.W C.N o F H Y c0 ⟨.jA [.v (.bool true), .v (.int .i64 pos), .v (.int .i32 ((ch.toNat:Nat):Int))],[(b,some (.obj (.stringIter ⟨s.toArray⟩ (pos+1))))],Y,[b]⟩:=by
 obtain⟨_,rfl,hx⟩:=QC hx
 refine⟨Nat.le_refl _,λhc F' H' G a w hF hH hu hM=> ?_⟩
 have d:=hx F' G a hc (hF x (by simp[ZB,ho,Op.operands])) hM.gC
 simp only[aA]at d
 obtain⟨r,k,c,e,d⟩:=d
 have kH:=(hH b (by simp)).trans Z
 obtain⟨r',c',e',IM⟩:=hM.heap.ok b _ kH
 rw[e]at e';cases e'
 have fA:pos<(⟨s.toArray⟩:ByteArray).size:=(List.getElem?_eq_some_iff.1 hs).1
 have UU:(⟨s.toArray⟩:ByteArray)[pos]'fA=ch:=by
  have:=(List.getElem?_eq_some_iff.1 hs).2
  show s.toArray[pos]=ch
  simpa using this
 have tq:=decode_ascii ⟨s.toArray⟩ pos fA (by rw[UU];exact ha)
 rw[UU]at tq
 refine dD.value (y:= .tuple #[.bool true, .int .i64 pos, .int .i32 ((ch.toNat:Nat):Int)]) (w':={w with heap:=w.heap.setIfInBounds r (.stringIter ⟨s.toArray⟩ (pos+1))}) ?_ ⟨G,uD.refl G,λ_ _=>rfl,?_,by simpa [ND]using Mf hM.heap kH e⟩
 ·simp only[execOp,ho,Sem.run_bind]
  rw[d]
  simp only[Instr.next,Nat.zero_add,Sem.run_bind,DX IM (by intros;simp),Result.andThen_ok,if_pos fA,tq,Lf IM (by intros;simp),Sem.run_pure]
  rfl
 ·simp only[aA]
  exact⟨_,rfl,by simp[ZA,aA]⟩
theorem uq {x:Operand} {b pos:Nat} {s:yA} (hs:s.length<=pos) (ho:o.op= .next x true) (hx:zB F c0 x λv=>v= .p b 0) (Z:WA H b=some (.obj (.stringIter ⟨s.toArray⟩ pos))):
  JB C.P C.w0 C.W C.N o F H Y c0 ⟨.jA [.v (.bool false)],[],Y,[b]⟩:=by
 obtain⟨_,rfl,hx⟩:=QC hx
 refine⟨Nat.le_refl _,λhc F' H' G a w hF hH hu hM=> ?_⟩
 have d:=hx F' G a hc (hF x (by simp[ZB,ho,Op.operands])) hM.gC
 simp only[aA]at d
 obtain⟨r,k,c,e,d⟩:=d
 obtain⟨r',c',e',IM⟩:=hM.heap.ok b _ ((hH b (by simp)).trans Z)
 rw[e]at e';cases e'
 have fA:¬pos<(⟨s.toArray⟩:ByteArray).size:=by show¬pos<s.length;omega
 refine dD.value (y:= .tuple #[.bool false]) (w':=w) ?_ (LJ.same hM.heap (by simp only[aA];exact⟨_,rfl,by simp[ZA,aA]⟩))
 simp only[execOp,ho,Sem.run_bind]
 rw[d]
 simp only[Instr.next,Nat.zero_add,Sem.run_bind,DX IM (by intros;simp),Result.andThen_ok,if_neg fA,Sem.run_pure]
theorem EX {t:TypeId} (ho:o.op= .makeMap t none):JB C.P C.w0 C.W C.N o F H Y c0 ⟨.m Y,[(Y,some (.obj (YH [])))],Y+1,[]⟩:=by
 refine⟨Nat.le_succ _,λhc F' H' G a w hF hH hu hM=> ?_⟩
 obtain⟨uA,he,e1,e2,e3⟩:=hM.heap.Ph (hu Y qA (Nat.lt_succ_self _)) (YH []) 0 (.obj (YH [])) rfl (λuA he Z=>⟨_,_,Z,heap_alloc_new _ _⟩)
 refine dD.value (y:= .map (some w.heap.size)) (w':=w.alloc (YH [])) ?_ ⟨uA,he,λb Z=>e1 b (λe=>Z (by simp only;omega)),?_,by simpa [ND]using e3⟩
 ·simp[execOp,ho,Instr.makeMap];rfl
 ·simp only[aA];exact⟨_,_,e2,rfl⟩
theorem N9 {P:Program} {t kt et:TypeId} {w:World} {r:Nat} {es:List (Value×Value)} {kv vv:Value} (hu:P.underlying t=some (.map kt et)) (IM:w.heap[r]? =some (YH es)) (hk:NQ P kt kv es none):
  (Instr.mapUpdate t (.map (some r)) kv vv).run P w= .ok () {w with heap:=w.heap.setIfInBounds r (YH (es++[(kv,vv)]))}:=by
 have hf:=hk.Kf w
 have xR:w.heap[r]? =some (.map (List.toArray (EK es)) es.length):=IM
 simp only[Instr.mapUpdate,Sem.run_bind,run_underlying hu,Result.andThen_ok,DX xR (by intros;simp),hk.Jf w false,hf,Lf xR (by intros;simp)]
 have:YH (es++[(kv,vv)])= .map ((List.toArray (EK es)).push {key:=kv,val:=vv,born:=es.length}) (es.length+1):=by
  unfold YH;rw[M9];simp
 rw[this]
theorem FX {t kt et:TypeId} {x y z:Operand} {b:Nat} {es:List (Value×Value)} {kv vv:Value} (hu:C.P.underlying t=some (.map kt et)) (hk:c0=true->NQ C.P kt kv es none) (ho:o.op= .insert t x y z\/o.op= .mapUpdate t x y z) (hx:zB F c0 x λv=>v= .m b) (hy:zB F c0 y λv=>JE v=some kv) (hz:zB F c0 z λv=>JE v=some vv) (Z:WA H b=some (.obj (YH es))):
  JB C.P C.w0 C.W C.N o F H Y c0 ⟨.v undef,[(b,some (.obj (YH (es++[(kv,vv)]))))],Y,[b]⟩:=by
 obtain⟨_,rfl,hx⟩:=QC hx
 obtain⟨sy,ey,hy⟩:=QC hy
 obtain⟨sz,ez,hz⟩:=QC hz
 refine⟨Nat.le_refl _,λhc F' H' G a w hF hH CL hM=> ?_⟩
 have NE:x∈ZB o/\y∈ZB o/\z∈ZB o:=by rcases ho with ho|ho<;>simp[ZB,ho,Op.operands]
 have d:=hx F' G a hc (hF x NE.1) hM.gC
 have dy:=(jM ey).1 (hy F' G a hc (hF y NE.2.1) hM.gC)
 have dz:=(jM ez).1 (hz F' G a hc (hF z NE.2.2) hM.gC)
 simp only[aA]at d
 obtain⟨r,c,e,d⟩:=d
 have kH:=(hH b (by simp)).trans Z
 obtain⟨r',c',e',IM⟩:=hM.heap.ok b _ kH
 rw[e]at e';cases e'
 have hr:=N9 (vv:=vv) hu IM (hk hc)
 refine dD.skip (w':={w with heap:=w.heap.setIfInBounds r (YH (es++[(kv,vv)]))}) ?_ ⟨G,uD.refl G,λ_ _=>rfl,by simp[aA],by simpa [ND]using Mf hM.heap kH e⟩
 rcases ho with ho|ho<;>simp[execOp,ho,d,dy,dz,hr]
theorem O9 {t kt et:TypeId} {x y z:Operand} {b i:Nat} {es:List (Value×Value)} {kv vv:Value} (hu:C.P.underlying t=some (.map kt et)) (hk:c0=true->NQ C.P kt kv es (some (i,vv))/\es[i]? =some (kv,vv)/\Instr.sameBits 10000 kv kv=true) (ho:o.op= .insert t x y z\/o.op= .mapUpdate t x y z) (hx:zB F c0 x λv=>v= .m b) (hy:zB F c0 y λv=>JE v=some kv) (hz:zB F c0 z λv=>JE v=some vv) (Z:WA H b=some (.obj (YH es))):
  JB C.P C.w0 C.W C.N o F H Y c0 ⟨.v undef,[(b,some (.obj (YH es)))],Y,[b]⟩:=by
 obtain⟨_,rfl,hx⟩:=QC hx
 obtain⟨sy,ey,hy⟩:=QC hy
 obtain⟨sz,ez,hz⟩:=QC hz
 refine⟨Nat.le_refl _,λhc F' H' G a w hF hH CL hM=> ?_⟩
 have NE:x∈ZB o/\y∈ZB o/\z∈ZB o:=by rcases ho with ho|ho<;>simp[ZB,ho,Op.operands]
 have d:=hx F' G a hc (hF x NE.1) hM.gC
 have dy:=(jM ey).1 (hy F' G a hc (hF y NE.2.1) hM.gC)
 have dz:=(jM ez).1 (hz F' G a hc (hF z NE.2.2) hM.gC)
 simp only[aA]at d
 obtain⟨r,c,e,d⟩:=d
 have kH:=(hH b (by simp)).trans Z
 obtain⟨r',c',e',IM⟩:=hM.heap.ok b _ kH
 rw[e]at e';cases e'
 obtain⟨hk,hi,Nf⟩:=hk hc
 have vq:(EK es)[i]? =some {key:=kv,val:=vv,born:=i}:=by unfold EK;simp[hi]
 have P9:(List.toArray (EK es)).modify i (λe=>{e with key:=kv,val:=vv})=List.toArray (EK es):=by
  apply Array.ext'
  simp only[Array.toList_modify]
  refine List.ext_getElem? λj=> ?_
  rw[List.getElem?_modify]
  by_cases hj:i=j
  ·subst hj;simp[vq]
  ·simp[hj]
 have hf:=hk.Kf w
 have xR:w.heap[r]? =some (.map (List.toArray (EK es)) es.length):=IM
 have hr:(Instr.mapUpdate t (.map (some r)) kv vv).run C.P w= .ok () {w with heap:=w.heap.setIfInBounds r (YH es)}:=by
  simp only[Instr.mapUpdate,Sem.run_bind,run_underlying hu,Result.andThen_ok,DX xR (by intros;simp),hk.Jf w false,hf,Instr.keyThatStays,List.getElem?_toArray,vq,Option.map_some,Option.getD_some,if_pos Nf,Sem.run_pure,Lf xR (by intros;simp),P9]
  rfl
 refine dD.skip (w':={w with heap:=w.heap.setIfInBounds r (YH es)}) ?_ ⟨G,uD.refl G,λ_ _=>rfl,by simp[aA],by simpa [ND]using Mf hM.heap kH e⟩
 rcases ho with ho|ho<;>simp[execOp,ho,d,dy,dz,hr]
theorem look_ok {t kt et:TypeId} {x y:Operand} {ok:Bool} {b:Nat} {es:List (Value×Value)} {kv z:Value} {r:Option (Nat×Value)} (hu:C.P.underlying t=some (.map kt et)) (hz:∀w,(zeroValue et).run C.P w= .ok z w) (hk:c0=true->NQ C.P kt kv es r) (ho:o.op= .lookup t x y ok) (hx:zB F c0 x λv=>v= .m b) (hy:zB F c0 y λv=>JE v=some kv) (Z:WA H b=some (.obj (YH es))):
  JB C.P C.w0 C.W C.N o F H Y c0 ⟨if ok=true then .jA [.v ((r.map (·.2)).getD z), .v (.bool r.isSome)]else .v ((r.map (·.2)).getD z),[],Y,[b]⟩:=by
 obtain⟨_,rfl,hx⟩:=QC hx
 obtain⟨sy,ey,hy⟩:=QC hy
 refine⟨Nat.le_refl _,λhc F' H' G a w hF hH CL hM=> ?_⟩
 have d:=hx F' G a hc (hF x (by simp[ZB,ho,Op.operands])) hM.gC
 have dy:=(jM ey).1 (hy F' G a hc (hF y (by simp[ZB,ho,Op.operands])) hM.gC)
 simp only[aA]at d
 obtain⟨rr,c,e,d⟩:=d
 obtain⟨r',c',e',IM⟩:=hM.heap.ok b _ ((hH b (by simp)).trans Z)
 rw[e]at e';cases e'
 have xR:w.heap[rr]? =some (.map (List.toArray (EK es)) es.length):=IM
 have hf:=(hk hc).Kf w
 have hr:(Instr.lookup t (.map (some rr)) kv ok).run C.P w= .ok (if ok=true then .tuple #[(r.map (·.2)).getD z, .bool r.isSome]else(r.map (·.2)).getD z) w:=by
  simp only[Instr.lookup,Sem.run_bind,run_underlying hu,Result.andThen_ok,DX xR (by intros;simp),Sem.run_pure,(hk hc).Jf w _,hf]
  cases r with
  |none=>simp[hz w]
  |some p=>simp
 refine dD.value (w':=w) (y:=if ok=true then .tuple #[(r.map (·.2)).getD z, .bool r.isSome]else(r.map (·.2)).getD z) ?_ (LJ.same hM.heap ?_)
 ·simp[execOp,ho,d,dy,hr]
 ·cases ok
  ·simp[aA]
  ·simp only[if_true,aA];exact⟨_,rfl,by simp[ZA,aA]⟩
end
end En
end Go.Proofs.YtkidgehblodbcaaGreatDoor
