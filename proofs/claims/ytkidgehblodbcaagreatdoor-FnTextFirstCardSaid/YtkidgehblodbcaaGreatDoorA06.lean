/- A part of the proof of FnTextFirst: functions of the reference, walked. -/
import Derived.Laws.StructEq
import Derived.Test.YtkidgehblodbcaaGreatDoorA01
import Derived.Test.YtkidgehblodbcaaGreatDoorA02
set_option linter.all false
set_option maxRecDepth 100000
set_option maxHeartbeats 16000000
namespace Go.Proofs.YtkidgehblodbcaaGreatDoor
namespace En
open Go.RowKit Go.Proofs.Tryz
abbrev I (n:Int):SV:= .v (.int .i64 n)
abbrev B (b:Bool):SV:= .v (.bool b)
def sV (t:TypeId):Prop:=∃f1 f2:Field,prog.underlying t=some (.struct #[f1,f2])/\(f1.name≠ "_" /\f2.name≠ "_")/\(f1.offset=0/\f2.offset=1)/\prog.underlying f1.type=some (.int .i64)/\prog.underlying f2.type=some (.int .i64)/\prog.stoodInHeld t=false/\prog.eqGuardType prog.depth t=false
theorem Gz:sV 60:=⟨_,_,underlying60,by decide,⟨rfl,rfl⟩,by kernel_rfl,by kernel_rfl,by kernel_rfl,by kernel_rfl⟩
theorem Hz:sV 53:=⟨_,_,underlying53,by decide,⟨rfl,rfl⟩,by kernel_rfl,by kernel_rfl,by kernel_rfl,by kernel_rfl⟩
theorem Iz:sV 51:=⟨_,_,underlying51,by decide,⟨rfl,rfl⟩,by kernel_rfl,by kernel_rfl,by kernel_rfl,by kernel_rfl⟩
theorem Jz {t:TypeId} (h:sV t) {w:World} {a b c d:Int}:(Op.equalIn 10000 t (.agg #[.int .i64 a, .int .i64 b]) (.agg #[.int .i64 c, .int .i64 d])).run prog w= .ok (a==c&&b==d) w:=by
 obtain⟨f1,f2,hu,⟨n1,n2⟩,⟨o1,o2⟩,u1,u2,hs,hg⟩:=h
 have hf:prog.fieldsOf t= #[f1,f2]:=by simp[Program.fieldsOf,hu]
 rw[show(10000:Nat)=9999+1 from rfl,run_equalIn_struct w 9999 t _ _ (by rw[hf];exact hu) hs,hf]
 have e1:=run_equalIn_int (P:=prog) w 9998 f1.type .i64 .i64 a c u1
 have e2:=run_equalIn_int (P:=prog) w 9998 f2.type .i64 .i64 b d u2
 have a1:=VP (P:=prog) (w:=w) u1
 have a2:=VP (P:=prog) (w:=w) u2
 simp only[wS]at a1 a2
 simp only[Op.eqFields,n1,n2,ne_eq,not_false_eq_true,if_true,part,Sem.run_bind,a1,a2,Result.andThen_ok,o1,o2]
 simp[e1,e2]
 cases D:(a==c)<;>cases h2:(b==d)<;>simp_all
theorem Uc {C:Cx} {o:Oper} {op:BinOp} {t t':TypeId} {x y:Operand} {F:FS} {H:HS} {Y:Nat} {c0:Bool} {a b c d:Int} (h:sV t) (hP:C.P=prog) (ho:o.op= .binOp op t x y t') (PO:op= .eql\/op= .neq) (hx:zB F c0 x λs=>s= .agg (A [a,b])) (hy:zB F c0 y λs=>s= .agg (A [c,d])):
  JB C.P C.w0 C.W C.N o F H Y c0 ⟨B (if op= .eql then(a==c&&b==d)else !(a==c&&b==d)),[],Y,[]⟩:=by
 obtain⟨_,rfl,hx⟩:=QC hx
 obtain⟨_,rfl,hy⟩:=QC hy
 rw[hP]
 refine JB.dH λhc F' G a' w hF hS=> ?_
 have dx:=hx F' G a' hc (hF x (by simp[ZB,ho,Op.operands])) hS
 have dy:=hy F' G a' hc (hF y (by simp[ZB,ho,Op.operands])) hS
 simp only[aA,Th]at dx dy
 obtain⟨xs,ex,dx⟩:=dx
 obtain⟨ys,ey,dy⟩:=dy
 rw[ZA.Oh dx]at ex
 rw[ZA.Oh dy]at ey
 have hr:=Jz h (w:=w) (a:=a) (b:=b) (c:=c) (d:=d)
 have hg:∀op,(eqGuard op t x y (a'.eval x) (a'.eval y)).run prog w= .ok () w:=λop=>by
  rw[ex,ey];obtain⟨f1,f2,hu,_,_,_,_,hs,hg⟩:=h;exact run_eqGuard_agg w op t x y _ _ hg
 have e:execOp a'.eval o=(do pure (.value (<-(do eqGuard op t x y (a'.eval x) (a'.eval y);binOp op t (a'.eval x) (a'.eval y):Sem Value))):Sem Next):=by
  simp[execOp,ho]
 rw[e]
 rcases PO with rfl|rfl
 ·have Z:(binOp .eql t (a'.eval x) (a'.eval y)).run prog w= .ok (.bool (a==c&&b==d)) w:=by
   rw[ex,ey,run_eql_struct];simp only[List.map_cons,List.map_nil]at*;rw[hr];rfl
  rw[Sem.run_bind,Sem.run_bind,hg,Result.andThen_ok,Z];rfl
 ·have Z:(binOp .neq t (a'.eval x) (a'.eval y)).run prog w= .ok (.bool (!(a==c&&b==d))) w:=by
   rw[ex,ey,run_neq_struct];simp only[List.map_cons,List.map_nil]at*;rw[hr];rfl
  rw[Sem.run_bind,Sem.run_bind,hg,Result.andThen_ok,Z];rfl
def xA (ds:List (Int×Int)):List SV:=ds.flatMap λd=>[I d.1,I d.2]
theorem rC (ds:List (Int×Int)):(xA ds).length=2*ds.length:=by
 induction ds with
 |nil=>rfl
 |cons d r ih=>simp[xA]at ih⊢;omega
theorem Xk:∀{ds:List (Int×Int)} {j:Nat},j<ds.length->(xA ds).drop (2*j)=I (ds.getD j (0,0)).1::I (ds.getD j (0,0)).2::xA (ds.drop (j+1))
 |[],j,h=>by simp at h
 |d::r,0,_=>rfl
 |d::r,j+1,h=>by
  have:=Xk (ds:=r) (j:=j) (by simpa using h)
  rw[show 2*(j+1)=2*j+1+1 by omega]
  simpa [xA]using this
@[simp] theorem SC (LA:Nat->Nat) (ds:List (Int×Int)):YA LA (xA ds)=xA ds:=by
 rw[pJ];induction ds with
 |nil=>rfl
 |cons d r ih=>simp only[xA,List.flatMap_cons,List.map_append]at ih⊢;rw[ih];rfl
theorem WN (n:Nat):∀ds:List (Int×Int),LG n (xA ds)=true
 |[]=>rfl
 |d::r=>by show(true&&(true&&LG n (xA r)))=true;rw[WN n r];rfl
theorem Yk {PB:Type}:∀{n:Nat} {l:List PB} {k:List PB->Prop},n<=l.length->k (l.drop n)->IK l n k
 |0,l,k,_,h=>by unfold IK;simpa using h
 |n+1,[],k,hn,_=>by simp at hn
 |n+1,x::r,k,hn,h=>by unfold IK;exact Yk (by simpa using hn) (by simpa using h)
theorem mF {ds:List (Int×Int)} {o:Nat} {k:List SV->Prop} (j:Nat) (ho:o=2*j) (hj:j<ds.length) (hk:∀rest,k (I (ds.getD j (0,0)).1::I (ds.getD j (0,0)).2::rest)):IK (xA ds) o k:=by
 subst ho
 exact Yk (by rw[rC];omega) (by rw[Xk hj];exact hk _)
theorem gA {LA:Nat->Nat} {H:HS} {b es:Nat} {e:TypeId} {xs:List SV} {zs:List Int} (h:WA H (LA b)=some (.X es e xs)) (hx:xs=A zs):aE LA H b (.X es e (A zs)):=by
 show WA H (LA b)=some (.X es e (YA LA (A zs)))
 rw[h,hx,kD]
theorem stI {LA:Nat->Nat} {H:HS} {b:Nat} {xs:List SV} {zs:List Int} (h:WA H (LA b)=some (.st xs)) (hx:xs=A zs):aE LA H b (.st (A zs)):=by
 show WA H (LA b)=some (.st (YA LA (A zs)))
 rw[h,hx,kD]
theorem nC {b o n m:Nat} (h:n=m):some (RV.u (.s b o n))=some (RV.u (.s b o m)):=by rw[h]
theorem jP (a b:List Int):A a++A b=A (a++b):=by simp[A]
theorem JD (a:List Int):(A a).length=a.length:=by simp[A]
theorem Zk (a:List Int):∀s∈A a,UP s=true:=by
 intro s hs;simp only[A,List.mem_map]at hs;obtain⟨z,_,rfl⟩:=hs;rfl
theorem bB {a b:Int} (h:a=b):some (RV.u (I a))=some (RV.u (I b)):=by rw[h]
theorem wL {a b:Bool} (h:a=b):some (RV.u (B a))=some (RV.u (B b)):=by rw[h]
theorem xL {zs:List Int} {o:Nat} {c0:Bool} {k:SV->Prop} (h:o<zs.length) (hk:k (I (zs.getD o 0))):AL (I 0) c0 (A zs) o k:=
 DV (by simp[A,h]) hk
theorem Kz {zs:List Int} {o:Nat} {c0:Bool} {k:SV->Prop} (h:c0=true->o<zs.length) (hk:k (I (zs.getD o 0))):AL (I 0) c0 (A zs) o k:=by
 cases c0 with
 |true=>exact xL (h rfl) hk
 |false=>
  refine Xh ?_
  have e:(A zs).getD o (I 0)=I (zs.getD o 0):=by simp only[A,List.getD_eq_getElem?_getD,List.getElem?_map];cases zs[o]? <;>rfl
  rw[e];exact hk
theorem ni {zs:List Int} {o:Nat} {c0:Bool} {k:SV->Prop} (hk:k (I (zs.getD o 0))) (h:o<zs.length:=by first|omega|(simp;omega)):AL (I 0) c0 (A zs) o k:=xL h hk
theorem CA {P Q:Prop} (h:Q) (k:Q->P:=by first|exactλx=>ai x|exactλx=>qe x|exactλx=>qf x|exactλx=>ni x):P:=k h
theorem wG {P:Prop} (h:P:=by exactλ_=>⟨⟨by omega,WN _ _,_,[],rfl,by simp[DA.cells]⟩,trivial⟩):P:=h
theorem wE {P:Prop} (h:P:=by first|exact Nat.le_of_ble_eq_true rfl|(simp[DA.cells,JD,rC];try omega)):P:=h
theorem xE {P:Prop} (h:P:=by exactλ_=>by(intro s hs;first|exact Zk _ s hs|exact Zk _ s (List.mem_of_mem_drop (List.mem_of_mem_take hs))|(simp[DA.cells]at hs;first|(subst hs;rfl)|(rcases hs with hs|hs<;>(subst hs;rfl))|(rcases hs with hs|hs|hs|hs|hs|hs|hs<;>(subst hs;rfl))))):P:=h
theorem nM (y:Int) (h:0<=y/\y<=1000000) (D:1<=y):Fn prog 24 [I y] [] 0 (I (before y)) [] 0:=by
 refine fm (KA 13) func24 λw W G g=> ?_
 repeat' (first
  |refine tk ?_
  |refine CA ?_|refine an ?_ ?_|(intro Z;try simp at Z))
 exact DB rfl qA
theorem ak (y:Int) (h:0<=y/\y<=1000000):Fn prog 112 [I y] [] 0 (B (iT y)) [] 0:=by
 refine fm (KA 5) func112 λw W G g=> ?_
 repeat' (first
  |refine tk ?_
  |refine CA ?_|refine an ?_ ?_|(intro Z;try simp at Z))
 refine DB ?_ qA
 show SV.v (.bool _)=SV.v (.bool _)
 congr 2
 unfold iT
 cases (y%4==0)<;>cases (y%100 !=0)<;>rfl
theorem kT (y m:Int) (h:0<=y/\y<=1000000):Fn prog 67 [I y,I m] [] 0 (I (fB y m)) [] 0:=by
 refine fm (KA 18547) func67 λw W G g=> ?_
 repeat' (first
  |refine tk ?_
  |refine cz 112 func112 (λ_=>ak y h) ?_
  |refine CA ?_|refine an ?_ ?_|(intro Z;try simp at Z))
 all_goals (refine DB ?_ qA;show SV.v (.int _ _)=SV.v (.int _ _);congr 2;have:=tB y;(try simp only[Tc]at*);simp_all [fB]<;>omega)
def bk (n:Int):MB {i:Int//1<=i/\i<=oA n}where
 F i:=[(0, .u (I n)),(2, .u (.p 0 0)),(3, .u (I i.1))]
 H i:=[(0,some (.st (A [0,0,0])))]
 n i:=1
def ck (n:Int):MB {i:Int//1<=i/\i<=KB n}where
 F i:=[(0, .u (I n)),(2, .u (.p 0 0)),(3, .u (I (oA n))),(4, .u (.p 1 0))]
 H i:=[(0,some (.st (A [0,0,0]))),(1,some (.st (A [oA n,i.1,idxOf n-GB (lp (oA n)) i.1+1])))]
 n i:=2
theorem tV (n:Int) (h:0<=n/\n<=300000000):Fn prog 62 [I n] [] 0 (.agg (A [oA n,KB n,JC n])) [] 0:=by
 have hy:=vL n
 have PJ:1<=oA n:=rI (by simp[before];omega)
 have eO:oA n<=821499:=by have:= @OJ n 821500 (by unfold before;omega);omega
 refine fm (KA 268439581) func62 λw W G g=> ?_
 repeat' (first
  |refine tk ?_
  |refine CA ?_|refine an ?_ ?_|(intro Z;try simp at Z))
 refine FB (bk n) (λi=>(oA n-i.1).toNat) ?_ ?_
 ·exact⟨⟨n/366+1,O,rI (by unfold before;omega)⟩,[],U,OA.nil UA ⟨rfl,rfl,rfl,U⟩ ⟨rfl,U⟩⟩
 ·rintro⟨i,hi⟩
  intro F H Y hF hH hn;dsimp only[bk]at hF hH hn;subst hF hH hn
  have gM:=NG i
  have fO:=tB i
  repeat' (first
   |refine tk ?_
   |refine cz 24 func24 (λ_=>nM _ O O) ?_
   |refine CA ?_|refine an ?_ ?_|(intro Z;try simp at Z))
  ·have vC:=rI Z
   exact⟨⟨i+1,O,vC⟩,[],show(oA n- (i+1)).toNat<(oA n-i).toNat by omega,OA.nil UA ⟨rfl,rfl,rfl,U⟩ ⟨rfl,U⟩⟩
  ·have OF:oA n=i:=by have:= @OJ n (i+1) O;omega
   subst OF
   repeat' (first
    |refine tk ?_
    |refine cz 24 func24 (λ_=>nM _ O O) ?_
    |refine CA ?_|refine an ?_ ?_|(intro Z;try simp at Z))
   refine FB (ck n) (λi=>(KB n-i.1).toNat) ?_ ?_
   ·exact⟨⟨1,by have:=OI (lp (oA n)) (idxOf n);unfold KB;omega⟩,[],U,OA.nil UA ⟨rfl,rfl,rfl,rfl,U⟩ ⟨rfl,congrArg (λz=>some (DA.st (A [oA n,1,z]))) (show n-before (oA n)+1=idxOf n-GB (lp (oA n)) 1+1 by simp[idxOf,GB]),U⟩⟩
   ·rintro⟨i,hi⟩
    intro F H Y hF hH hn;dsimp only[ck]at hF hH hn;subst hF hH hn
    have hx:=qJ n
    have hm:=OI (lp (oA n)) (idxOf n)
    have uG:=FL (y:=oA n) (m:=i) O (by unfold KB at hi;omega)
    have ZG:=mH (l:=lp (oA n)) (tB _) (show 0<=i by omega)
    have GL:=jT (tB (oA n)) hx
    have Vc:=mH (l:=lp (oA n)) (tB _) hi.2
    have SK:= @OG (oA n) i
    have Lz:GB (lp (oA n)) 0=0:=rfl
    rw[show BE (lp (oA n)) (idxOf n)=KB n from rfl]at GL hm
    repeat' (first
     |refine tk ?_
     |refine cz 67 func67 (λ_=>kT _ _ O) ?_
     |refine CA ?_|refine an ?_ ?_|(intro Z;try simp at Z))
    ·have fA:i<KB n:=by
      rcases(by omega:i<KB n\/i=KB n)with h|h
      ·exact h
      ·rw[h]at uG Z;omega
     exact⟨⟨i+1,O⟩,[],show(KB n- (i+1)).toNat<(KB n-i).toNat by omega,OA.nil UA ⟨rfl,rfl,rfl,rfl,U⟩
      ⟨rfl,congrArg (λz=>some (DA.st (A [oA n,i+1,z]))) (show idxOf n-GB (lp (oA n)) i+1-fB (oA n) i=idxOf n-GB (lp (oA n)) (i+1)+1 by omega),U⟩⟩
    ·have OF:i=KB n:=by
      have:= @rV (lp (oA n)) (idxOf n) i (tB _) hx O O
      exact this.symm
     subst OF
     refine iF ?_ qA
     rfl
theorem cA.R {C:Cx} {f:Nat} {eB:List SV} {H:HS} {Y:Nat} {c0:Bool} {k:QD->Prop} {fn:Func} {zC:List SV} {H0:HS} {n0:Nat} {s1:SV} {H1:HS} (M:List Nat) {s:SV} (hf:prog.funcs[f]? =some fn) (hP:C.P=prog) (Z:fn.body.isNone=false)
  (h:c0=true->Fn prog f zC H0 n0 s1 H1 n0) (hM:M.length=n0) (fA:LG n0 zC=true) (YC:eB=YA (mr M) zC) (hH:c0=true->cO (mr M) n0 H H0) (hs:s1.IB (mr M)=s) (hk:k ⟨s,[],Y,M⟩):cA C f eB H Y c0 k:=
 ⟨.inl (Cz M (by rw[hP];exact hf) Z (λhc=>by rw[hP];exact h hc) hM fA YC hH hs hk)⟩
theorem cA.F {C:Cx} {f:Nat} {eB:List SV} {H:HS} {Y:Nat} {c0:Bool} {k:QD->Prop} {fn:Func} {zC:List SV} {H0:HS} {n0:Nat} {s1:SV} {H1:HS} {n1:Nat} (M:List Nat) {s:SV} {wh:List (Nat×Option DA)} (hf:prog.funcs[f]? =some fn) (hP:C.P=prog) (Z:fn.body.isNone=false)
  (h:c0=true->Fn prog f zC H0 n0 s1 H1 n1) (dB:MI M H0 n0 n1 Y=true) (YC:eB=YA (mp M n0 n1 Y) zC) (hH:c0=true->NI (mp M n0 n1 Y) H H0) (hs:s1.IB (mp M n0 n1 Y)=s) (QO:ED M H0 H1 n0 n1 Y=wh) (hk:k ⟨s,wh,Y+(n1-n0)+1,M⟩):cA C f eB H Y c0 k:=
 ⟨.inl (Bz M (by rw[hP];exact hf) Z (λhc=>by rw[hP];exact h hc) dB YC hH hs QO hk)⟩
theorem cr (f:Nat) {C:Cx} {eB:List SV} {H:HS} {Y:Nat} {c0:Bool} {k:QD->Prop} {fn:Func} {zC:List SV} {H0:HS} {n0:Nat} {s1:SV} {H1:HS} (M:List Nat) {s:SV} (hf:prog.funcs[f]? =some fn)
  (h:c0=true->Fn prog f zC H0 n0 s1 H1 n0) (hH:c0=true->cO (mr M) n0 H H0) (hk:k ⟨s,[],Y,M⟩) (hP:C.P=prog:=by rfl) (Z:fn.body.isNone=false:=by rfl) (hM:M.length=n0:=by rfl) (fA:LG n0 zC=true:=by rfl) (YC:eB=YA (mr M) zC:=by rfl) (hs:s1.IB (mr M)=s:=by rfl):cA C f eB H Y c0 k:=cA.R M hf hP Z h hM fA YC hH hs hk
theorem cf (f:Nat) {C:Cx} {eB:List SV} {H:HS} {Y:Nat} {c0:Bool} {k:QD->Prop} {fn:Func} {zC:List SV} {H0:HS} {n0:Nat} {s1:SV} {H1:HS} {n1:Nat} (M:List Nat) (s:SV) (wh:List (Nat×Option DA)) (hf:prog.funcs[f]? =some fn)
  (h:c0=true->Fn prog f zC H0 n0 s1 H1 n1) (hH:c0=true->NI (mp M n0 n1 Y) H H0) (QO:ED M H0 H1 n0 n1 Y=wh) (hk:k ⟨s,wh,Y+(n1-n0)+1,M⟩) (hP:C.P=prog:=by rfl) (Z:fn.body.isNone=false:=by rfl) (dB:MI M H0 n0 n1 Y=true:=by rfl) (YC:eB=YA (mp M n0 n1 Y) zC:=by rfl) (hs:s1.IB (mp M n0 n1 Y)=s:=by rfl):cA C f eB H Y c0 k:=cA.F M hf hP Z h dB YC hH hs QO hk
theorem rowOf {es:Nat} {e:TypeId} {xs:List SV} {zs:List Int} (h:xs=A zs):some (DA.X es e xs)=some (DA.X es e (A zs)):=by rw[h]
def jk (zs:List Int) (x:Int):MB {i:Nat//i<=zs.length/\∀j<i,zs.getD j 0≠x}where
 F i:=[(0, .u (.s 0 0 zs.length)),(1, .u (I x)),(7, .u (I zs.length)),(8, .u (I i.1))]
 H i:=[(0,some (.ro (A zs)))]
 n i:=1
theorem Sz (zs:List Int) (x:Int) (h:zs.length<=2147483647):Fn prog 54 [.s 0 0 zs.length,I x] [(0,some (.ro (A zs)))] 1 (I (NR zs x)) [] 1:=by
 refine fm (KA 66483) func54 λw W G g=> ?_
 repeat' (first
  |refine tk ?_
  |refine CA ?_|refine an ?_ ?_|(intro Z;try simp at Z))
 refine FB (jk zs x) (λi=>zs.length-i.1) ?_ ?_
 ·exact⟨⟨0,O,by intro j hj;omega⟩,[],U,OA.nil UA ⟨rfl,rfl,rfl,rfl,U⟩ ⟨HA,U⟩⟩
 ·rintro⟨i,hi⟩
  intro F H Y hF hH hn;dsimp only[jk]at hF hH hn;subst hF hH hn
  repeat' (first
   |refine tk ?_
   |refine CA ?_|refine an ?_ ?_|(intro Z;try simp at Z))
  ·exact DB (by rw[Nz O hi.2 (by simpa using Z.symm)];rfl) qA
  ·exact⟨⟨i+1,O,λj hj=>by rcases(by omega:j<i\/j=i)with h|h;exact hi.2 j h;subst h;simpa using Ne.symm Z⟩,[],show zs.length- (i+1)<zs.length-i by omega,OA.nil UA ⟨rfl,rfl,rfl,rfl,U⟩ ⟨HA,U⟩⟩
  ·exact DB (by rw[Mz (λj hj=>hi.2 j O)];rfl) qA
theorem XN (zs:List Int) (x:Int) (h:zs.length<=2147483647):Fn prog 28 [.s 0 0 zs.length,I x] [(0,some (.ro (A zs)))] 1 (B (zs.contains x)) [] 1:=by
 refine fm (KA 19) func28 λw W G g=> ?_
 repeat' (first
  |refine tk ?_
  |refine cr 54 [0] func54 (λ_=>Sz zs x h) BC ?_
  |refine CA ?_|refine an ?_ ?_|(intro Z;try simp at Z))
 exact DB (by show SV.v (.bool _)=_;congr 2;rw[Bool.eq_iff_iff];simp[Oz]) qA
theorem Tz (zs:List Int) (x:Int):(if((zs.length:Int)==0)=true then true else zs.contains x)=CC zs x:=by
 cases zs with
 |nil=>simp[CC]
 |cons a r=>rw[if_neg eA];simp[CC]
theorem Uz (zs:List Int) (x a:Int):(if(if((zs.length:Int)==0)=true then true else zs.contains x)=true then true else zs.contains (x-a-1))=tI zs x a:=by
 cases zs with
 |nil=>simp[tI]
 |cons b r=>rw[if_neg (c:=((((b::r).length:Nat):Int)==0)=true) eA];simp[tI]
theorem lT (zs:List Int) (x:Int) (h:zs.length<=2147483647):Fn prog 111 [.s 0 0 zs.length,I x] [(0,some (.ro (A zs)))] 1 (B (CC zs x)) [] 1:=by
 refine fm (KA 19) func111 λw W G g=> ?_
 repeat' (first
  |refine tk ?_
  |refine cr 28 [0] func28 (λ_=>XN zs _ h) BC ?_
  |refine CA ?_|refine an ?_ ?_|(intro Z;try simp at Z))
 exact DB (congrArg (λb=>SV.v (.bool b)) (Tz zs x)) qA
theorem dc (zs:List Int) (x a:Int) (h:zs.length<=2147483647) (hx: -10000000<=x/\x<=10000000) (ha: -10000000<=a/\a<=10000000):Fn prog 153 [.s 0 0 zs.length,I x,I a] [(0,some (.ro (A zs)))] 1 (B (tI zs x a)) [] 1:=by
 refine fm (KA 71) func153 λw W G g=> ?_
 repeat' (first
  |refine tk ?_
  |refine cr 28 [0] func28 (λ_=>XN zs _ h) BC ?_
  |refine CA ?_|refine an ?_ ?_|(intro Z;try simp at Z))
 exact DB (congrArg (λb=>SV.v (.bool b)) (Uz zs x a)) qA
theorem nk (y:Int) (h:0<=y/\y<=1000000):Fn prog 154 [I y] [] 0 (I (oM y)) [] 0:=by
 have:=tB y
 refine fm (KA 21) func154 λw W G g=> ?_
 repeat' (first
  |refine tk ?_
  |refine cz 112 func112 (λ_=>ak y h) ?_
  |refine CA ?_|refine an ?_ ?_|(intro Z;try simp at Z))
 all_goals (refine DB ?_ qA;show SV.v (.int _ _)=SV.v (.int _ _);congr 2;(try simp only[Tc]at*);simp_all [oM]<;>omega)
theorem YN (n:Int) (h:0<=n):Fn prog 56 [I n] [] 0 (I (n%7)) [] 0:=by
 refine fm (KA 5) func56 λw W G g=> ?_
 repeat' (first
  |refine tk ?_
  |refine CA ?_|refine an ?_ ?_|(intro Z;try simp at Z))
 exact DB rfl qA
theorem QR (t:Int) (h:0<=t/\t<=400000000000):Fn prog 57 [I t] [] 0 (.agg (A [t/86400,t%86400/3600,t%86400/60%60,t%86400%60])) [] 0:=by
 refine fm (KA 13) func57 λw W G g=> ?_
 repeat' (first
  |refine tk ?_
  |refine CA ?_|refine an ?_ ?_|(intro Z;try simp at Z))
 exact iF rfl qA
theorem pk (a b c d:Int) (ha:0<=a/\a<=4000000) (Z:0<=b/\b<=1000) (hc:0<=c/\c<=1000) (hd:0<=d/\d<=1000):Fn prog 109 [.agg (A [a,b,c,d])] [] 0 (I (a*86400+b*3600+c*60+d)) [] 0:=by
 refine fm (KA 7) func109 λw W G g=> ?_
 repeat' (first
  |refine tk ?_
  |refine CA ?_|refine an ?_ ?_|(intro Z;try simp at Z))
 exact DB rfl qA
theorem dY (f:Int) (h:0<=f/\f<=6):Fn prog 32 [.v (.int .u8 f)] [] 0 (I (OH f)) [] 0:=by
 refine fm (KA 605) func32 λw W G g=> ?_
 repeat' (first
  |refine tk ?_
  |refine CA ?_|refine an ?_ ?_|(intro Z;try simp at Z))
 all_goals (refine DB ?_ qA;show SV.v (.int _ _)=SV.v (.int _ _);congr 2;simp_all [OH])
theorem fc (y k:Int) (h:1<=y/\y<=1000000) (hk:0<=k/\k<=6):Fn prog 194 [I y,I k] [] 0 (I (VK y k)) [] 0:=by
 have h0:0<=before y/\before y<=400000000:=by unfold before;omega
 refine fm (KA 65651) func194 λw W G g=> ?_
 repeat' (first
  |refine tk ?_
  |refine cz 24 func24 (λ_=>nM _ O O) ?_
  |refine cz 56 func56 (λ_=>YN _ O) ?_
  |refine CA ?_|refine an ?_ ?_|(intro Z;try simp at Z))
 all_goals (refine DB ?_ qA;show SV.v (.int _ _)=SV.v (.int _ _);congr 2;simp only[VK];split<;>omega)
theorem qk (n k:Int) (h:0<=n/\n<=4000000) (hk:0<=k/\k<=6):Fn prog 157 [I n,I k] [] 0 (I (nE n k)) [] 0:=by
 have hy:=vL n
 have PJ:1<=oA n:=rI (by simp[before];omega)
 have eO:oA n<=10953:=by have:= @OJ n 10954 (by unfold before;omega);omega
 refine fm (KA 2105395) func157 λw W G g=> ?_
 repeat' (first
  |refine tk ?_
  |refine cz 62 func62 (λ_=>tV _ O) ?_
  |refine cz 194 func194 (λ_=>fc _ _ O O) ?_
  |refine CA ?_|refine an ?_ ?_|(intro Z;try simp at Z))
 all_goals (refine DB ?_ qA;show SV.v (.int _ _)=SV.v (.int _ _);congr 2;unfold nE;(repeat' split)<;>omega)
theorem Vz (n k:Int) (h:365<=n/\n<=4000000) (hk:0<=k/\k<=6):Fn prog 155 [I n,I k] [] 0 (I (sA n k)) [] 0:=by
 have hy:=vL n
 have PJ:2<=oA n:=rI (by simp[before];omega)
 have eO:oA n<=10953:=by have:= @OJ n 10954 (by unfold before;omega);omega
 have hw:oA n-1<=nE n k/\nE n k<=oA n+1:=by unfold nE;split<;>(try split)<;>omega
 have hf:VK (nE n k) k<=n/\-10<=VK (nE n k) k:=by
  have D:=PR (oA n-1) k
  have h4:=PR (oA n) k
  have h5:=PR (oA n+1) k
  have h2:=Sk (show oA n-1<oA n by omega)
  have h3:0<=before (oA n-1):=by unfold before;omega
  unfold nE;split<;>(try split)<;>omega
 refine fm (KA 19) func155 λw W G g=> ?_
 repeat' (first
  |refine tk ?_
  |refine cz 157 func157 (λ_=>qk _ _ O O) ?_
  |refine cz 194 func194 (λ_=>fc _ _ O O) ?_
  |refine CA ?_|refine an ?_ ?_|(intro Z;try simp at Z))
 exact DB rfl qA
theorem Wz (y k:Int) (h:1<=y/\y<=100000) (hk:0<=k/\k<=6):Fn prog 156 [I y,I k] [] 0 (I (qM y k)) [] 0:=by
 have D:=PR y k
 have h2:=PR (y+1) k
 have h3:=Sk (show y<y+1 by omega)
 have h4:0<=before y/\before (y+1)<=400000000:=by unfold before;omega
 refine fm (KA 19) func156 λw W G g=> ?_
 repeat' (first
  |refine tk ?_
  |refine cz 194 func194 (λ_=>fc _ _ O O) ?_
  |refine CA ?_|refine an ?_ ?_|(intro Z;try simp at Z))
 exact DB rfl qA
def rk (y m d:Int):MB {i:Int//1<=i/\i<=m}where
 F i:=[(1, .u (.p 0 0)),(3, .u (I (before y+GB (lp y) i.1))),(4, .u (I i.1))]
 H i:=[(0,some (.st (A [y,m,d])))]
 n i:=1
theorem fY (y m d:Int) (hy:1<=y/\y<=900000) (hm:1<=m/\m<=12) (hd: -100000<=d/\d<=100000):Fn prog 66 [.agg (A [y,m,d])] [] 0 (I (NA y m d)) [] 0:=by
 have h0:0<=before y/\before y<=400000000:=by unfold before;omega
 have hl:=tB y
 refine fm (KA 2079) func66 λw W G g=> ?_
 repeat' (first
  |refine tk ?_
  |refine cz 24 func24 (λ_=>nM _ O O) ?_
  |refine CA ?_|refine an ?_ ?_|(intro Z;try simp at Z))
 refine FB (rk y m d) (λi=>(m-i.1).toNat) ?_ ?_
 ·exact⟨⟨1,O⟩,[],U,OA.nil UA ⟨rfl,bB (show before y=before y+GB (lp y) 1 by simp[GB]),rfl,U⟩ ⟨rfl,U⟩⟩
 ·rintro⟨i,hi⟩
  intro F H Y hF hH hn;dsimp only[rk]at hF hH hn;subst hF hH hn
  have hc:=mH hl (show i<=13 by omega)
  have ZG:=mH hl (show 0<=i by omega)
  have HFA:GB (lp y) 13=365+lp y:=by simp[GB]
  have Lz:GB (lp y) 0=0:=rfl
  have SK:= @OG y i
  repeat' (first
   |refine tk ?_
   |refine cz 67 func67 (λ_=>kT _ _ O) ?_
   |refine CA ?_|refine an ?_ ?_|(intro Z;try simp at Z))
  ·have uG:=FL (y:=y) (m:=i) O O
   exact⟨⟨i+1,O⟩,[],show(m- (i+1)).toNat<(m-i).toNat by omega,OA.nil UA ⟨rfl,bB (show before y+GB (lp y) i+fB y i=before y+GB (lp y) (i+1)by omega),rfl,U⟩ ⟨rfl,U⟩⟩
  ·have:i=m:=O
   subst this
   exact DB rfl qA
theorem Xz (y:Int) (h:1<=y/\y<=20000):Fn prog 158 [I y] [] 0 (I (wC y)) [] 0:=by
 have h0:0<=before y/\before y<=8000000:=by unfold before;omega
 have hl:=tB y
 have hc:GB (lp y) 3=59+lp y:=by simp[GB]
 have hn:NA y 3 28=before y+59+lp y+27:=by unfold NA;omega
 have bV:=cY (show 0<=y/\y<=100000 by omega)
 refine fm (KA 1021) func158 λw W G g=> ?_
 repeat' (first
  |refine tk ?_
  |refine CA ?_|refine an ?_ ?_|(intro Z;try simp at Z))
 generalize hE:(19*(y%19)+y/100-y/100/4- (8*(y/100)+13)/25+15)%30=e
 have gY:PI y=e:=hE
 rw[gY]at bV
 rcases(by omega:e<28\/e=28\/e=29)with D|D|D
 ·have ic:e/28=0:=O
  have hq:0<=29/(e+1)/\29/(e+1)<=29:=⟨Int.ediv_nonneg O O,Int.ediv_le_self _ O⟩
  repeat' (first
   |refine tk ?_
   |refine And.intro (λ_=>by unfold zA;simp only[ic,Int.zero_mul,Int.mul_zero];omega) ?_
   |refine⟨29/(e+1),eT O (λ_=>by omega) (λ_=>by unfold zA;omega),?_⟩
   |refine⟨_%_,pV O (λ_=>by simp only[ic,Int.zero_mul,Int.mul_zero];omega),?_⟩
   |refine cz 66 func66 (λ_=>fY _ _ _ O O O) ?_
   |refine CA ?_|refine an ?_ ?_|(intro Z;try simp at Z))
  refine DB ?_ qA
  have hf:PH y=e:=by unfold PH;rw[gY,if_pos D]
  show I _=I _
  rw[wC,hf,ic]
  simp
 ·subst D
  repeat' (first
   |refine tk ?_
   |refine And.intro (λ_=>by unfold zA;simp<;>omega) ?_
   |refine⟨_/_,eT O (λ_=>by omega) (λ_=>by unfold zA;simp<;>omega),?_⟩
   |refine⟨_%_,pV O (λ_=>by simp<;>omega),?_⟩
   |refine cz 66 func66 (λ_=>fY _ _ _ O O O) ?_
   |refine CA ?_|refine an ?_ ?_|(intro Z;try simp at Z))
  refine DB ?_ qA
  have hf:PH y=27+(21-y%19)/11:=by unfold PH;rw[gY,if_neg O,if_pos rfl]
  show I _=I _
  rw[wC,hf]
  have e1:(28:Int)-28/28*(1-28/28*(29/(28+1))*((21-y%19)/11))=27+(21-y%19)/11:=by simp;omega
  rw[e1]
 ·subst D
  repeat' (first
   |refine tk ?_
   |refine And.intro (λ_=>by unfold zA;simp<;>omega) ?_
   |refine⟨_/_,eT O (λ_=>by omega) (λ_=>by unfold zA;simp<;>omega),?_⟩
   |refine⟨_%_,pV O (λ_=>by simp<;>omega),?_⟩
   |refine cz 66 func66 (λ_=>fY _ _ _ O O O) ?_
   |refine CA ?_|refine an ?_ ?_|(intro Z;try simp at Z))
  refine DB ?_ qA
  have hf:PH y=28:=by unfold PH;rw[gY,if_neg O,if_neg O]
  show I _=I _
  rw[wC,hf]
  have e1:(29:Int)-29/28*(1-29/28*(29/(29+1))*((21-y%19)/11))=28:=by simp
  rw[e1]
def sk (ds:List (Int×Int)) (x:Int×Int):MB {i:Nat//i<=ds.length/\∀j<i,ds.getD j (0,0)≠x}where
 F i:=[(0, .u (.s 0 0 ds.length)),(3, .u (.p 1 0)),(7, .u (I ds.length)),(8, .u (I i.1))]
 H i:=[(0,some (.ro (xA ds))),(1,some (.st (A [x.1,x.2])))]
 n i:=2
theorem Yz (ds:List (Int×Int)) (x:Int×Int) (h:ds.length<=2147483647):Fn prog 52 [.s 0 0 ds.length, .agg (A [x.1,x.2])] [(0,some (.ro (xA ds)))] 1 (I (OR ds x)) [] 1:=by
 refine fm (KA 66491) func52 λw W G g=> ?_
 repeat' (first
  |refine tk ?_
  |refine CA ?_|refine an ?_ ?_|(intro Z;try simp at Z))
 refine FB (sk ds x) (λi=>ds.length-i.1) ?_ ?_
 ·exact⟨⟨0,O,by intro j hj;omega⟩,[],U,OA.nil UA ⟨rfl,rfl,rfl,rfl,U⟩ ⟨HA,rfl,U⟩⟩
 ·rintro⟨i,hi⟩
  intro F H Y hF hH hn;dsimp only[sk]at hF hH hn;subst hF hH hn
  repeat' (first
   |refine tk ?_
   |refine mF i O O λrest=> ?_
   |refine⟨_,Uc (a:=x.1) (b:=x.2) (c:=(ds.getD i (0,0)).1) (d:=(ds.getD i (0,0)).2) Gz rfl rfl (.inl rfl) rfl rfl,?_⟩
   |refine CA ?_|refine an ?_ ?_|(intro Z;try simp at Z))
  ·exact DB (by rw[Qz O hi.2 (by ext<;>simp_all)];rfl) qA
  ·exact⟨⟨i+1,O,λj hj=>by rcases(by omega:j<i\/j=i)with h|h;exact hi.2 j h;subst h;intro e;simp[<-e]at Z⟩,[],show ds.length- (i+1)<ds.length-i by omega,OA.nil UA ⟨rfl,rfl,rfl,rfl,U⟩ ⟨HA,rfl,U⟩⟩
  ·exact DB (by rw[Pz (λj hj=>hi.2 j O)];rfl) qA
theorem Zz (ds:List (Int×Int)) (x:Int×Int) (h:ds.length<=2147483647):Fn prog 26 [.s 0 0 ds.length, .agg (A [x.1,x.2])] [(0,some (.ro (xA ds)))] 1 (B (ds.contains x)) [] 1:=by
 refine fm (KA 27) func26 λw W G g=> ?_
 repeat' (first
  |refine tk ?_
  |refine cr 52 [0] func52 (λ_=>Yz ds x h) wG ?_
  |refine CA ?_|refine an ?_ ?_|(intro Z;try simp at Z))
 exact DB (by show SV.v (.bool _)=_;congr 2;rw[Bool.eq_iff_iff];simp[Rz]) qA
def EC (a:Nat) (r:MA):List SV:=[.v (.int .u8 r.BA),B r.nH,I r.GA,I r.IA,I r.HB,I r.count,B r.CE,I r.xB,
 .s a 0 r.OB.length, .s (a+1) 0 r.VA.length, .s (a+2) 0 r.TA.length, .s (a+3) 0 r.LB.length, .s (a+4) 0 r.sA.length, .s (a+5) 0 r.FA.length,
 .s (a+6) 0 r.SA.length, .s (a+7) 0 r.PA.length, .s (a+8) 0 r.RA.length, .s (a+9) 0 r.NB.length]
def jB (a:Nat) (r:MA):HS:=[(a,some (.ro (A r.OB))),(a+1,some (.ro (A r.VA))),(a+2,some (.ro (A r.TA))),(a+3,some (.ro (A r.LB))),(a+4,some (.ro (A r.sA))),(a+5,some (.ro (xA r.FA))),
 (a+6,some (.ro (A r.SA))),(a+7,some (.ro (A r.PA))),(a+8,some (.ro (A r.RA))),(a+9,some (.ro (A r.NB)))]
theorem ME {LA:Nat->Nat} {n0 a:Nat} {H rest:HS} {r:MA} (ha:a+10<=n0) (h0:WA H (LA a)=some (.ro (A r.OB))) (D:WA H (LA (a+1))=some (.ro (A r.VA))) (h2:WA H (LA (a+2))=some (.ro (A r.TA))) (h3:WA H (LA (a+3))=some (.ro (A r.LB)))
  (h4:WA H (LA (a+4))=some (.ro (A r.sA))) (h5:WA H (LA (a+5))=some (.ro (xA r.FA))) (h6:WA H (LA (a+6))=some (.ro (A r.SA))) (h7:WA H (LA (a+7))=some (.ro (A r.PA))) (h8:WA H (LA (a+8))=some (.ro (A r.RA))) (h9:WA H (LA (a+9))=some (.ro (A r.NB)))
  (hr:cO LA n0 H rest):cO LA n0 H (jB a r++rest):=by
 have i:∀{b:Nat} {zs:List Int},b<n0->WA H (LA b)=some (.ro (A zs))->b<n0/\LG n0 (A zs)=true/\∃K rest,WA H (LA b)=some K/\K.cells=YA LA (A zs)++rest:=
  λZ h=>⟨Z,RC _ _,_,[],h,by simp[DA.cells]⟩
 exact⟨i O h0,i O D,i O h2,i O h3,i O h4,⟨O,WN _ _,_,[],h5,by simp[DA.cells]⟩,i O h6,i O h7,i O h8,i O h9,hr⟩
theorem SR (r:MA) (h:r.Fits):Fn prog 53 [.agg (EC 0 r)] (jB 0 r++[]) 10 (B r.kC) [] 10:=by
 obtain⟨l0,l1,l2,l3,l4,l5,l6,l7,l8,l9⟩:=h
 refine fm (KA 7) func53 λw W G g=> ?_
 repeat' (first
  |refine tk ?_
  |refine CA ?_|refine an ?_ ?_|(intro Z;try simp at Z))
 refine DB ?_ qA
 show SV.v (.bool _)=_
 congr 2
 unfold MA.kC
 rw[decide_eq_decide];omega
theorem az (r:MA) (h:r.Fits):Fn prog 27 [.agg (EC 0 r)] (jB 0 r++[]) 10 (B r.Rh) [] 10:=by
 have hf:=h
 obtain⟨l0,l1,l2,l3,l4,l5,l6,l7,l8,l9⟩:=h
 refine fm (KA 7) func27 λw W G g=> ?_
 repeat' (first
  |refine tk ?_
  |refine cr 53 [0,1,2,3,4,5,6,7,8,9] func53 (λ_=>SR r hf) (λ_=>ME O rfl rfl rfl rfl rfl rfl rfl rfl rfl rfl U) ?_
  |refine CA ?_|refine an ?_ ?_|(intro Z;try simp at Z))
 refine DB ?_ qA
 show SV.v (.bool _)=SV.v (.bool _)
 congr 2
 unfold MA.Rh
 cases r.kC
 ·simp;omega
 ·rfl
theorem bz (r:MA) (h:r.Fits) (n y m d:Int) (x:Int×Int) (hn:before y<=n/\n<before (y+1)) (hy:1<=y/\y<=20000) (hd:1<=d/\d<=fB y m):Fn prog 160 [.agg (EC 0 r),I n, .agg (A [y,m,d]), .agg (A [x.1,x.2])] (jB 0 r++[]) 10 (B (zF r n y m d x)) [] 10:=by
 obtain⟨l0,l1,l2,l3,l4,l5,l6,l7,l8,l9⟩:=h
 have Z:=NG y
 have hl:=tB y
 have hm:= @OG y m
 have h0:0<=before y/\before y<=8000000:=by unfold before;omega
 have kP:oM y=365+lp y:=rfl
 refine fm (KA 17180166111) func160 λw W G g=> ?_
 repeat' (first
  |refine tk ?_
  |refine cz 56 func56 (λ_=>YN _ O) ?_
  |refine cz 67 func67 (λ_=>kT _ _ O) ?_
  |refine cz 24 func24 (λ_=>nM _ O O) ?_
  |refine cz 154 func154 (λ_=>nk _ O) ?_
  |refine CA ?_|refine an ?_ ?_|(intro Z;try simp at Z))
 all_goals (refine DB ?_ qA;show SV.v (.bool _)=SV.v (.bool _);congr 2)
 ·simp[zF,Z]
 ·have D:n%7=x.1:=by assumption
  simp[zF,D,Z]
 ·have D:n%7=x.1:=by assumption
  have h2:¬x.2=0:=by assumption
  unfold zF
  rw[if_pos Z,show(n%7==x.1)=true by simp[D],show(x.2==0)=false by simp[h2]]
  cases ((n-before y+1-1)/7+1==x.2)<;>rfl
 ·have D:n%7=x.1:=by assumption
  have h2:¬x.2=0:=by assumption
  unfold zF
  rw[if_neg (c:=r.BA=0/\r.VA=[]) (λe=>Z e.1 e.2),show(n%7==x.1)=true by simp[D],show(x.2==0)=false by simp[h2]]
  cases ((d-1)/7+1==x.2)<;>rfl
def mT (r:MA) (n y m d:Int):HS:=jB 0 r++[(10,some (.ro (EC 0 r))),(11,some (.ro [I n])),(12,some (.ro (A [y,m,d])))]
theorem jc {LA:Nat->Nat} {H:HS} {r:MA} {n y m d:Int} (h0:WA H (LA 0)=some (.ro (A r.OB))) (D:WA H (LA (0+1))=some (.ro (A r.VA))) (h2:WA H (LA (0+2))=some (.ro (A r.TA))) (h3:WA H (LA (0+3))=some (.ro (A r.LB)))
  (h4:WA H (LA (0+4))=some (.ro (A r.sA))) (h5:WA H (LA (0+5))=some (.ro (xA r.FA))) (h6:WA H (LA (0+6))=some (.ro (A r.SA))) (h7:WA H (LA (0+7))=some (.ro (A r.PA))) (h8:WA H (LA (0+8))=some (.ro (A r.RA))) (h9:WA H (LA (0+9))=some (.ro (A r.NB)))
  (k1:∃K,WA H (LA 10)=some K/\K.cells=YA LA (EC 0 r)) (k2:∃K,WA H (LA 11)=some K/\K.cells=[I n]) (k3:∃K,WA H (LA 12)=some K/\K.cells=A [y,m,d]):cO LA 13 H (mT r n y m d):=by
 refine ME O h0 D h2 h3 h4 h5 h6 h7 h8 h9 ?_
 obtain⟨K1,a1,b1⟩:=k1
 obtain⟨K2,a2,b2⟩:=k2
 obtain⟨K3,a3,b3⟩:=k3
 exact⟨⟨O,rfl,K1,[],a1,by rw[b1,List.append_nil]⟩,⟨O,rfl,K2,[],a2,by rw[b2];rfl⟩,⟨O,RC _ _,K3,[],a3,by rw[b3];rfl⟩,U⟩
theorem uk {n' Y:Nat} {H:HS} {r:MA} {n y m d:Int} (h0:WA H (sig [] n' Y 0)=some (.ro (A r.OB))) (D:WA H (sig [] n' Y (0+1))=some (.ro (A r.VA))) (h2:WA H (sig [] n' Y (0+2))=some (.ro (A r.TA))) (h3:WA H (sig [] n' Y (0+3))=some (.ro (A r.LB)))
  (h4:WA H (sig [] n' Y (0+4))=some (.ro (A r.sA))) (h5:WA H (sig [] n' Y (0+5))=some (.ro (xA r.FA))) (h6:WA H (sig [] n' Y (0+6))=some (.ro (A r.SA))) (h7:WA H (sig [] n' Y (0+7))=some (.ro (A r.PA))) (h8:WA H (sig [] n' Y (0+8))=some (.ro (A r.RA))) (h9:WA H (sig [] n' Y (0+9))=some (.ro (A r.NB)))
  (k1:WA H (sig [] n' Y 10)=some (.ro (YA (sig [] n' Y) (EC 0 r)))) (k2:WA H (sig [] n' Y 11)=some (.ro [I n])) (k3:WA H (sig [] n' Y 12)=some (.ro (A [y,m,d]))):lC (sig [] n' Y) H (mT r n y m d):=
 ⟨TB h0 (by simp[DA.cells]),TB D (by simp[DA.cells]),TB h2 (by simp[DA.cells]),TB h3 (by simp[DA.cells]),TB h4 (by simp[DA.cells]),TB h5 (by simp[DA.cells]),TB h6 (by simp[DA.cells]),TB h7 (by simp[DA.cells]),TB h8 (by simp[DA.cells]),TB h9 (by simp[DA.cells]),
  TB k1 rfl,TB k2 rfl,TB k3 (by simp[DA.cells]),U⟩
theorem fz (r:MA) (h:r.Fits) (n y m d:Int) (x:Int×Int) (hn:before y<=n/\n<before (y+1)) (hy:1<=y/\y<=20000) (hd:1<=d/\d<=fB y m):Fn prog 159 [.agg (A [x.1,x.2]), .p 10 0, .p 11 0, .p 12 0] (mT r n y m d) 13 (B (zF r n y m d x)) [] 13:=by
 refine fm (KA 63) func159 λw W G g=> ?_
 repeat' (first
  |refine tk ?_
  |refine cr 160 [0,1,2,3,4,5,6,7,8,9] func160 (λ_=>bz r h n y m d x hn hy hd) (λ_=>ME O rfl rfl rfl rfl rfl rfl rfl rfl rfl rfl U) ?_
  |refine CA ?_|refine an ?_ ?_|(intro Z;try simp at Z))
 exact DB rfl qA
def vk (r:MA) (n y m d:Int) (p:Int×Int->Bool):MB {i:Nat//i<=r.FA.length/\∀j<i,p (r.FA.getD j (0,0))=false}where
 F i:=[(0, .u (.s 5 0 r.FA.length)),(1, .u (.fn (.func 159) [] [.p 10 0, .p 11 0, .p 12 0])),(7, .u (I r.FA.length)),(8, .u (I i.1))]
 H i:=mT r n y m d
 n i:=13
theorem gz (r:MA) (h:r.Fits) (n y m d:Int) (hn:before y<=n/\n<before (y+1)) (hy:1<=y/\y<=20000) (hd:1<=d/\d<=fB y m):Fn prog 105 [.s 5 0 r.FA.length, .fn (.func 159) [] [.p 10 0, .p 11 0, .p 12 0]] (mT r n y m d) 13 (I (gO r.FA (zF r n y m d))) [] 13:=by
 have hl:=h.FA
 refine fm (KA 66483) func105 λw W G g=> ?_
 repeat' (first
  |refine tk ?_
  |refine CA ?_|refine an ?_ ?_|(intro Z;try simp at Z))
 refine FB (vk r n y m d (zF r n y m d)) (λi=>r.FA.length-i.1) ?_ ?_
 ·exact⟨⟨0,O,by intro j hj;omega⟩,[],U,OA.nil UA ⟨rfl,rfl,rfl,rfl,U⟩ (uk rfl rfl rfl rfl rfl rfl rfl rfl rfl rfl rfl rfl rfl)⟩
 ·rintro⟨i,hi⟩
  intro F H Y hF hH hn;dsimp only[vk]at hF hH hn;subst hF hH hn
  repeat' (first
   |refine tk ?_
   |refine mF i O O λrest=> ?_
   |refine cr 159 [0,1,2,3,4,5,6,7,8,9,10,11,12] func159 (λ_=>fz r h n y m d (r.FA.getD i (0,0)) hn hy hd) (λ_=>jc rfl rfl rfl rfl rfl rfl rfl rfl rfl rfl ⟨_,rfl,rfl⟩ ⟨_,rfl,rfl⟩ ⟨_,rfl,rfl⟩) ?_
   |refine CA ?_|refine an ?_ ?_|(intro Z;try simp at Z))
  ·rename_i Z;exact DB (by rw[Yc O hi.2 (by simpa using Z)];rfl) qA
  ·rename_i Z;exact⟨⟨i+1,O,λj hj=>by rcases(by omega:j<i\/j=i)with h|h;exact hi.2 j h;subst h;simpa using Z⟩,[],show r.FA.length- (i+1)<r.FA.length-i by omega,OA.nil UA ⟨rfl,rfl,rfl,rfl,U⟩ (uk rfl rfl rfl rfl rfl rfl rfl rfl rfl rfl rfl rfl rfl)⟩
  ·exact DB (by rw[Xc (λj hj=>hi.2 j O)];rfl) qA
end En
end Go.Proofs.YtkidgehblodbcaaGreatDoor
