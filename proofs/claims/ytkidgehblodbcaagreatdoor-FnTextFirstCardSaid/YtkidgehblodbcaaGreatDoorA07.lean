/- A part of the proof of FnTextFirst: functions of the reference, walked. -/
import Derived.Test.YtkidgehblodbcaaGreatDoorA06
set_option linter.all false
set_option maxRecDepth 100000
set_option maxHeartbeats 16000000
namespace Go.Proofs.YtkidgehblodbcaaGreatDoor
namespace En
open Go.RowKit Go.Proofs.Tryz
theorem iz (r:MA) (h:r.Fits) (n y m d:Int) (hn:before y<=n/\n<before (y+1)) (hy:1<=y/\y<=20000) (hd:1<=d/\d<=fB y m):Fn prog 58 [.s 5 0 r.FA.length, .fn (.func 159) [] [.p 10 0, .p 11 0, .p 12 0]] (mT r n y m d) 13 (B (r.FA.any (zF r n y m d))) [] 13:=by
 refine fm (KA 19) func58 λw W G g=> ?_
 repeat' (first
  |refine tk ?_
  |refine cr 105 [0,1,2,3,4,5,6,7,8,9,10,11,12] func105 (λ_=>gz r h n y m d hn hy hd) (λ_=>jc rfl rfl rfl rfl rfl rfl rfl rfl rfl rfl ⟨_,rfl,rfl⟩ ⟨_,rfl,rfl⟩ ⟨_,rfl,rfl⟩) ?_
  |refine CA ?_|refine an ?_ ?_|(intro Z;try simp at Z))
 exact DB (by show SV.v (.bool _)=_;congr 2;rw[Bool.eq_iff_iff];simp only[ge_iff_le,decide_eq_true_eq];exact Wc _ _) qA
theorem xk (r:MA) (h:r.Fits) (n y m d:Int) (hn:before y<=n/\n<before (y+1)) (hy:1<=y/\y<=10900) (hm:1<=m/\m<=12) (hd:1<=d/\d<=fB y m) (hk:0<=r.HB/\r.HB<=6) (hw:0<r.sA.length->365<=n):
  Fn prog 108 [.agg (EC 0 r),I n, .agg (A [y,m,d])] (jB 0 r++[]) 10 (B (vV r n y m d)) [] 10:=by
 have hf:=h
 obtain⟨l0,l1,l2,l3,l4,l5,l6,l7,l8,l9⟩:=h
 have Z:=NG y
 have hl:=tB y
 have SK:= @OG y m
 have h0:0<=before y/\before y<=3990000:=by unfold before;omega
 have kP:oM y=365+lp y:=rfl
 have yk:oA n=y:=MR hn.1 hn.2
 have jz:y-1<=nE n r.HB/\nE n r.HB<=y+1:=by unfold nE;rw[yk];(repeat' split)<;>omega
 have hO:=PR (nE n r.HB) r.HB
 have kz:=PR (nE n r.HB+1) r.HB
 have jD: -400<=before (nE n r.HB)/\before (nE n r.HB)<=4000000:=by unfold before;omega
 have lH:0<=before (nE n r.HB+1)/\before (nE n r.HB+1)<=4000000:=by unfold before;omega
 have TR: -1000000<=sA n r.HB/\sA n r.HB<=1000000:=by unfold sA;omega
 have lz: -1000000<=qM (nE n r.HB) r.HB/\qM (nE n r.HB) r.HB<=1000000:=by unfold qM;omega
 have iY: -10000000<=wC y/\wC y<=10000000:=by
  have D:=uV (show 0<=y/\y<=100000 by omega)
  have h2:GB (lp y) 3=59+lp y:=by simp[GB]
  unfold wC NA;omega
 have JI:0<r.sA.length->2<=y:=λh=>by
  have D:=hw h
  rcases(by omega:y=1\/2<=y)with rfl|h2
  ·have:before (1+1)=365:=rfl
   omega
  ·exact h2
 refine fm (KA 4835850852481475119415423) func108 λw W G g=> ?_
 repeat' (first
  |refine tk ?_
  |(refine WC 111 (.s 1 0 _::_) ?_;refine cA.R [1] func111 rfl rfl (λ_=>lT r.VA m l1) rfl rfl rfl BC rfl ?_)
  |refine cz 67 func67 (λ_=>kT _ _ O) ?_
  |refine cz 24 func24 (λ_=>nM _ O O) ?_
  |refine cz 154 func154 (λ_=>nk _ O) ?_
  |(refine WC 153 (.s 2 0 _::_) ?_;refine cA.R [2] func153 rfl rfl (λ_=>dc r.TA d (fB y m) l2 O O) rfl rfl rfl BC rfl ?_)
  |(refine WC 153 (.s 3 0 _::_) ?_;refine cA.R [3] func153 rfl rfl (λ_=>dc r.LB (n-before y+1) (oM y) l3 O O) rfl rfl rfl BC rfl ?_)
  |refine cz 155 func155 (λhc=>Vz n r.HB (by have:=hw (by simpa using hc);omega) hk) ?_
  |refine cz 157 func157 (λhc=>qk n r.HB O hk) ?_
  |refine cz 156 func156 (λhc=>Wz _ r.HB (by have:=JI (by simpa using hc);omega) hk) ?_
  |(refine WC 153 (.s 4 0 _::_) ?_;refine cA.R [4] func153 rfl rfl (λ_=>dc r.sA (sA n r.HB) (qM (nE n r.HB) r.HB) l4 O O) rfl rfl rfl BC rfl ?_)
  |refine cz 158 func158 (λhc=>Xz y O) ?_
  |(refine WC 28 (.s 9 0 _::_) ?_;refine cA.R [9] func28 rfl rfl (λ_=>XN r.NB (n-wC y) l9) rfl rfl rfl BC rfl ?_)
  |refine cr 58 [0,1,2,3,4,5,6,7,8,9,10,11,12] func58 (λ_=>iz r hf n y m d hn O hd) (λ_=>jc rfl rfl rfl rfl rfl rfl rfl rfl rfl rfl ⟨_,rfl,rfl⟩ ⟨_,rfl,rfl⟩ ⟨_,rfl,rfl⟩) ?_
  |refine CA ?_|refine an ?_ ?_|(intro Z;try simp at Z))
 all_goals (refine DB ?_ qA;show SV.v (.bool _)=SV.v (.bool _);congr 2)
 all_goals clear hn hy hd hk hw hf l0 l1 l2 l3 l4 l5 l6 l7 l8 l9 hl SK h0 kP yk jz hO kz jD lH TR lz iY JI
 all_goals (rw[Bool.eq_iff_iff];simp only[vV,Bool.and_eq_true,Bool.or_eq_true,List.isEmpty_iff_length_eq_zero,List.contains_iff_mem])
 ·grind
 ·grind
 ·grind
 ·grind
theorem lc (r:MA) (h:r.Fits) (n:Int) (hn:0<=n/\n<=3980000) (hk:0<=r.HB/\r.HB<=6) (hw:0<r.sA.length->365<=n):
  Fn prog 110 [.agg (EC 0 r),I n] (jB 0 r++[]) 10 (B (stays r n)) [] 10:=by
 have hy:=vL n
 have PJ:1<=oA n:=rI (by simp[before];omega)
 have eO:oA n<=10900:=by have:= @OJ n 10901 (by unfold before;omega);omega
 refine fm (KA 23) func110 λw W G g=> ?_
 repeat' (first
  |refine tk ?_
  |refine cz 62 func62 (λ_=>tV _ O) ?_
  |refine cr 108 [0,1,2,3,4,5,6,7,8,9] func108 (λ_=>xk r h n (oA n) (KB n) (JC n) hy O (OI _ _) (mM n) hk hw) (λ_=>ME O rfl rfl rfl rfl rfl rfl rfl rfl rfl rfl U) ?_
  |refine CA ?_|refine an ?_ ?_|(intro Z;try simp at Z))
 exact DB rfl qA
theorem zk (r:MA) (h:r.Ok) (k:Int) (hk:0<=k/\k<=OH r.BA):Fn prog 34 [.agg (EC 0 r),I k] (jB 0 r++[]) 10 (.jA [I (NC r k).1,I (NC r k).2.1,B (NC r k).2.2]) [] 10:=by
 obtain⟨BD,hf,hs,hi,hw⟩:=h
 have hy:=vL (r.GA/86400)
 have PJ:1<=oA (r.GA/86400):=rI (by simp[before];omega)
 have eO:oA (r.GA/86400)<=9500:=by have:= @OJ (r.GA/86400) 9501 (by unfold before;omega);omega
 have hm:=OI (lp (oA (r.GA/86400))) (idxOf (r.GA/86400))
 rw[show BE (lp (oA (r.GA/86400))) (idxOf (r.GA/86400))=KB (r.GA/86400)from rfl]at hm
 have Al:before 10000=3652059:=rfl
 have hK:=bc r.BA
 have IY:=Zc hk hi
 have mz:7*k*r.IA=7*(k*r.IA):=by rw[Int.mul_assoc]
 have hY:r.BA=0->0<=before (oA (r.GA/86400)+k*r.IA)/\0<=before (oA (r.GA/86400)+k*r.IA+1)/\before (oA (r.GA/86400)+k*r.IA+1)<=400000000:=λe=>
  ⟨(wV O).1,wV O⟩
 have hM:r.BA=1->0<=NA (oA (r.GA/86400)+(KB (r.GA/86400)-1+k*r.IA)/12) ((KB (r.GA/86400)-1+k*r.IA)%12+1) 1/\NA (oA (r.GA/86400)+(KB (r.GA/86400)-1+k*r.IA)/12) ((KB (r.GA/86400)-1+k*r.IA)%12+1) 1<=400001400:=λe=>
  ik O O O
 have hD:= @OG (oA (r.GA/86400)+(KB (r.GA/86400)-1+k*r.IA)/12) ((KB (r.GA/86400)-1+k*r.IA)%12+1)
 refine fm (KA 590295810633586712567) func34 λw W G g=> ?_
 repeat' (first
  |refine tk ?_
  |refine cz 57 func57 (λ_=>QR _ O) ?_
  |refine cz 62 func62 (λ_=>tV _ O) ?_
  |refine cz 24 func24 (λ_=>nM _ O O) ?_
  |refine cz 66 func66 (λ_=>fY _ _ _ O O O) ?_
  |refine cz 67 func67 (λ_=>kT _ _ O) ?_
  |refine cz 56 func56 (λ_=>YN _ O) ?_
  |refine CA ?_|refine an ?_ ?_|(intro Z;try simp at Z))
 all_goals clear BD hy PJ eO hm hK IY mz hM hD hY
 all_goals (refine iF ?_ qA;show SV.jA [I _,I _,B _]=SV.jA [I _,I _,B _];unfold NC)
 ·rw[if_pos Z]
 ·rename_i h0;rw[if_neg h0,if_pos Z]
 ·rename_i D h0;rw[if_neg (by assumption),if_neg (by assumption),if_pos Z]
 ·rw[if_neg (by assumption),if_neg (by assumption),if_neg Z]
theorem qz (l:List Int):Fn prog 65 [.s 0 0 l.length, .s 1 0 0] [(0,some (.ro (A l)))] 2 (.s 0 0 l.length) [] 2:=by
 refine fm (KA 1073804531) func65 λw W G g=> ?_
 repeat' (first
  |refine tk ?_
  |refine CA ?_|refine an ?_ ?_|(intro Z;try simp at Z))
 ·exact iF rfl qA
def Bl (l ps:List Int):MB {i:Nat//i<=l.length}where
 F i:=[(0, .u (.s 0 0 l.length)),(1, .u (.s 1 0 ps.length)),(5, .u (.s 2 0 (QJ l ps i.1).length)),(12, .u (.s 0 0 l.length)),(13, .u (I l.length)),(14, .u (I i.1))]
 H i:=[(0,some (.ro (A l))),(1,some (.ro (A ps))),(2,some (.X 1 2 (A (QJ l ps i.1))))]
 n i:=3
theorem rz (l ps:List Int) (hl:l.length<=1000000) (hp:ps.length<=2147483647) (h:ps≠[]):Fn prog 65 [.s 0 0 l.length, .s 1 0 ps.length] [(0,some (.ro (A l))),(1,some (.ro (A ps)))] 2 (.s 2 0 (gE l ps).length) [(2,some (.X 1 2 (A (gE l ps))))] 3:=by
 have h0:0<ps.length:=List.length_pos_iff.2 h
 refine fm (KA 1073804531) func65 λw W G g=> ?_
 repeat' (first
  |refine tk ?_
  |refine CA ?_|refine an ?_ ?_|(intro Z;try simp at Z))
 ·exact absurd (by simpa using Z) h
 ·refine aG 5 1 2 rfl ?_
  refine FB (Bl l ps) (λi=>l.length-i.1) ?_ ?_
  ·exact⟨⟨0,O⟩,[],U,OA.nil UA ⟨rfl,rfl,rfl,rfl,rfl,rfl,U⟩ ⟨HA,HA,rfl,U⟩⟩
  ·rintro⟨i,hi⟩
   have hc:=pz l ps i
   intro F H Y hF hH hn;dsimp only[Bl]at hF hH hn;subst hF hH hn
   repeat' (first
    |refine tk ?_
    |(refine WC 28 (.s 1 0 _::_) ?_;refine cA.R [1] func28 rfl rfl (λ_=>XN ps _ hp) rfl rfl rfl BC rfl ?_)
    |refine⟨by simp[JD,rC],wE,O,xE,λ_=>⟨by show _*8<=_;omega,by simp only[maxLen];omega⟩,?_⟩
    |refine CA ?_|refine an ?_ ?_|(intro Z;try simp at Z))
   ·have hy:(ps.contains ((i:Int)+1)||ps.contains ((i:Int)-l.length))=true:=by simpa using Z
    have e:=nz (l:=l) hy
    exact⟨⟨i+1,O⟩,[(2,4)],show l.length- (i+1)<l.length-i by omega,OA.names [(2,4)] UA rfl rfl ⟨rfl,rfl,nC (by rw[e];simp),rfl,rfl,rfl,U⟩ ⟨HA,HA,gA rfl (by rw[e,<-jP,List.take_of_length_le (by simp[JD])];simp[A,DA.cells]),U⟩⟩
   ·have hy:(ps.contains ((i:Int)+1)||ps.contains ((i:Int)-l.length))=false:=by simpa using Z
    have e:=oz (l:=l) hy
    exact⟨⟨i+1,O⟩,[],show l.length- (i+1)<l.length-i by omega,OA.nil UA ⟨rfl,rfl,nC (by rw[e]),rfl,rfl,rfl,U⟩ ⟨HA,HA,gA rfl (by rw[e]),U⟩⟩
   ·have:i=l.length:=O
    subst this
    exact⟨[],OA.nil UA ⟨by rw[show gE l ps=QJ l ps l.length by simp[gE,h]];rfl,U⟩ ⟨gA rfl (by rw[show gE l ps=QJ l ps l.length by simp[gE,h]]),U⟩⟩
theorem A0 (x:Int):Fn prog 257 [I x] [] 0 (B false) [] 0:=by
 refine fm (KA 5) func257 λw W G g=> ?_
 repeat' (first
  |refine tk ?_
  |refine CA ?_|refine an ?_ ?_|(intro Z;try simp at Z))
 exact DB (by show SV.v (.bool _)=_;simp) qA
theorem B0 (x y:Int):Fn prog 228 [I x,I y] [] 0 (B (decide (x<y))) [] 0:=by
 refine fm (KA 19) func228 λw W G g=> ?_
 repeat' (first
  |refine tk ?_
  |refine cz 257 func257 (λ_=>A0 _) ?_
  |refine CA ?_|refine an ?_ ?_|(intro Z;try simp at Z))
 exact DB rfl qA
theorem RH {M:List Int} {o:Nat} {v:Int} {k:List SV->Prop} (h:o<M.length) (hk:k (A (M.set o v))):JK (A M) o [I v] k:=by
 unfold JK
 refine yS (by simpa [A]using h) ?_
 show k _
 have e:(A M).set o (I v)=A (M.set o v):=by simp[A,List.map_set]
 rw[e];exact hk
structure C0 (zs:List Int) (i:Nat) (L:List Int):Prop where
 perm:L.Perm zs
 kY:HL (L.take i)
 lo:1<=i
 hi:i<=zs.length\/(zs.length=0/\i=1)
def Gl (zs:List Int):MB {p:Nat×List Int//C0 zs p.1 p.2}where
 F p:=[(0, .u (.s 0 0 zs.length)),(1, .u (I 0)),(2, .u (I zs.length)),(6, .u (I p.1.1))]
 H p:=[(0,some (.X 1 3 (A p.1.2)))]
 n p:=1
def Hl (zs S rest:List Int) (x:Int):MB {j:Nat//j<=S.length/\∀y∈S.drop j,x<y}where
 F j:=[(0, .u (.s 0 0 zs.length)),(1, .u (I 0)),(2, .u (I zs.length)),(6, .u (I S.length)),(7, .u (I j.1))]
 H j:=[(0,some (.X 1 3 (A (oH S x rest j.1))))]
 n j:=1
theorem E0 (zs:List Int) (h:zs.length<=1000):Fn prog 222 [.s 0 0 zs.length,I 0,I zs.length] [(0,some (.X 1 3 (A zs)))] 1 (.jA []) [(0,some (.X 1 3 (A (nB zs))))] 1:=by
 refine fm (KA 1073746119) func222 λw W G g=> ?_
 repeat' (first
  |refine tk ?_
  |refine CA ?_|refine an ?_ ?_|(intro Z;try simp at Z))
 refine FB (Gl zs) (λp=>zs.length+1-p.1.1) ?_ ?_
 ·exact⟨⟨(1,zs),⟨.refl _,by cases zs<;>simp[HL],O,O⟩⟩,[],U,OA.nil UA ⟨rfl,rfl,rfl,rfl,U⟩ ⟨gA rfl rfl,U⟩⟩
 ·rintro⟨⟨i,L⟩,hp⟩
  have yV:L.Perm zs:=hp.perm
  have qc:HL (L.take i):=hp.kY
  have rM:1<=i:=hp.lo
  have Il:i<=zs.length\/(zs.length=0/\i=1):=hp.hi
  have hlen:=yV.length_eq
  intro F H Y hF hH hn;dsimp only[Gl]at hF hH hn;subst hF hH hn
  repeat' (first
   |refine tk ?_
   |refine CA ?_|refine an ?_ ?_|(intro Z;try simp at Z))
  ·have hi:i<L.length:=O
   have bE:oH (L.take i) (L.getD i 0) (L.drop (i+1)) i=L:=by
    unfold oH
    rw[List.take_take,Nat.min_self,List.drop_take,Nat.sub_self,List.take_zero,List.nil_append,List.getD_eq_getElem?_getD,List.getElem?_eq_getElem hi,Option.getD_some,<-List.drop_eq_getElem_cons hi,List.take_append_drop]
   have Jl:(L.take i).length=i:=by simp;omega
   obtain⟨S,hS⟩:∃S,L.take i=S:=⟨_,rfl⟩
   obtain⟨x,hX⟩:∃x,L.getD i 0=x:=⟨_,rfl⟩
   obtain⟨rest,hR⟩:∃r,L.drop (i+1)=r:=⟨_,rfl⟩
   rw[hS]at Jl qc
   rw[hS,hX,hR]at bE
   have hL:S.length+1+rest.length=zs.length:=by rw[<-hR,List.length_drop];omega
   have F0:(S++x::rest).Perm zs:=(Fl S rest x i).symm.trans (by rw[bE];exact yV)
   refine FB (Hl zs S rest x) (λj=>j.1) ?_ ?_
   ·exact⟨⟨i,O,by intro y hy;rw[List.drop_eq_nil_of_le O]at hy;simp at hy⟩,[],U,OA.nil UA ⟨rfl,rfl,rfl,bB (show(i:Int)=S.length by omega),rfl,U⟩ ⟨gA rfl (show A L=A (oH S x rest i)by rw[bE]),U⟩⟩
   ·rintro⟨j,hj⟩
    have rJ:=wz S rest x hj.1
    intro F H Y hF hH hn;dsimp only[Hl]at hF hH hn;subst hF hH hn
    repeat' (first
     |refine tk ?_
     |refine cz 228 func228 (λ_=>B0 _ _) ?_
     |refine RH (by first|omega|(simp;omega)) ?_
     |refine CA ?_|refine an ?_ ?_|(intro Z;try simp at Z))
    ·obtain⟨k,rfl⟩:∃k,j=k+1:=⟨j-1,O⟩
     have hx:=Z.2
     simp only[<-List.getD_eq_getElem?_getD]at hx
     rw[oc hj.1,show k+1-1=k by omega,pc hj.1]at hx
     have hd:S.drop k=S.getD k 0::S.drop (k+1):=by
      have hk:k<S.length:=O
      rw[List.drop_eq_getElem_cons hk,List.getD_eq_getElem?_getD,List.getElem?_eq_getElem hk];rfl
     refine⟨⟨k,O,λy hy=> ?_⟩,[],show k<k+1 by omega,OA.nil UA ⟨rfl,rfl,rfl,rfl,bB (show((k+1:Nat):Int)-1=k by omega),U⟩ ⟨gA rfl ?_,U⟩⟩
     ·rw[hd]at hy
      rcases List.mem_cons.1 hy with rfl|hy
      ·exact hx
      ·exact hj.2 y hy
     ·have e1:0+(((k+1:Nat):Int)).toNat*1=k+1:=O
      have e2:0+(((k+1:Nat):Int)-1).toNat*1=k:=O
      rw[e1,e2,oc hj.1,pc hj.1,vz hj.1]
    ·have hx:j=0\/S.getD (j-1) 0<=x:=by
      rcases Nat.eq_zero_or_pos j with h0|h0
      ·exact .inl h0
      ·obtain⟨k,rfl⟩:∃k,j=k+1:=⟨j-1,O⟩
       have hx:=Z O
       simp only[<-List.getD_eq_getElem?_getD]at hx
       rw[oc hj.1,show k+1-1=k by omega,pc hj.1]at hx
       exact .inr (by rw[show k+1-1=k by omega];omega)
     refine⟨⟨(i+1,oH S x rest j),⟨(Fl S rest x j).trans F0,by rw[<-Jl];exact xz hj.1 qc hj.2 hx,show 1<=i+1 by omega, .inl (show i+1<=zs.length by omega)⟩⟩,[],show zs.length+1- (i+1)<zs.length+1-i by omega,
      OA.nil UA ⟨rfl,rfl,rfl,bB (show(S.length:Int)+1=((i+1:Nat):Int)by omega),U⟩ ⟨gA rfl rfl,U⟩⟩
  ·have e:L=nB zs:=uz yV (by
    have:=qc
    rwa [List.take_of_length_le O]at this)
   exact⟨[],OA.nil UA ⟨rfl,U⟩ ⟨gA rfl (show A L=A (nB zs)by rw[e]),U⟩⟩
theorem G0 (zs:List Int) (k:Int) (h:zs.length<=12):Fn prog 193 [.s 0 0 zs.length,I 0,I zs.length,I k] [(0,some (.X 1 3 (A zs)))] 1 (.jA []) [(0,some (.X 1 3 (A (nB zs))))] 1:=by
 refine fm (KA 10384593871817177683247510831234831) func193 λw W G g=> ?_
 repeat' (first
  |refine tk ?_
  |refine CA ?_|refine an ?_ ?_|(intro Z;try simp at Z))
 refine FB (LH:=Unit) ⟨λ_=>[(0, .u (.s 0 0 zs.length)),(1, .u (I 0)),(2, .u (I zs.length)),(3, .u (I k))],λ_=>[(0,some (.X 1 3 (A zs)))],λ_=>1⟩ (λ_=>0) ?_ ?_
 ·exact⟨(),[],U,OA.nil UA ⟨rfl,rfl,rfl,rfl,U⟩ ⟨gA rfl rfl,U⟩⟩
 ·intro _ F H Y hF hH hn;dsimp only at hF hH hn;subst hF hH hn
  repeat' (first
   |refine tk ?_
   |refine cf 222 [0] (.jA []) [(0,some (.X 1 3 (A (nB zs))))] func222 (λ_=>E0 zs O) (λ_=>⟨gA rfl rfl,U⟩) (by simp[ED,iC,KE,WA,lD,mp,DA.IB]) ?_
   |refine And.intro (λZ=> ?_) UD
   |refine CA ?_|refine an ?_ ?_|(intro Z;try simp at Z))
  exact⟨[],OA.nil UA ⟨rfl,U⟩ ⟨gA rfl rfl,U⟩⟩
def len8 (n:Int):Int:=[0,1,2,2,3,3,3,3,4,4,4,4,4].getD n.toNat 0
theorem I0 (n:Int) (h:0<=n/\n<=12):Fn prog 174 [.v (.int .u64 n)] [] 0 (I (len8 n)) [] 0:=by
 refine fm (KA 16661) func174 λw W G g=> ?_
 repeat' (first
  |refine tk ?_
  |refine And.intro UD (λZ=> ?_)
  |refine And.intro (λ_=>by show 0<=n/\n<256;omega) ?_
  |refine And.intro (λ_=>NO (by have:=aY;unfold zA;grind)) ?_
  |refine And.intro (λ_=>by have:=aY;unfold zA;grind) ?_
  |refine CA ?_|refine an ?_ ?_|(intro Z;try simp at Z))
 refine DB ?_ qA
 rcases(by omega:n=0\/n=1\/n=2\/n=3\/n=4\/n=5\/n=6\/n=7\/n=8\/n=9\/n=10\/n=11\/n=12)with rfl|rfl|rfl|rfl|rfl|rfl|rfl|rfl|rfl|rfl|rfl|rfl|rfl<;>rfl
theorem J0 (n:Int) (h:0<=n/\n<=12):Fn prog 125 [.v (.int .u64 n)] [] 0 (I (len8 n)) [] 0:=by
 refine fm (KA 5) func125 λw W G g=> ?_
 repeat' (first
  |refine tk ?_
  |refine cz 174 func174 (λ_=>I0 n h) ?_
  |refine CA ?_|refine an ?_ ?_|(intro Z;try simp at Z))
 exact DB rfl qA
theorem K0 (zs:List Int) (h:zs.length<=12):Fn prog 151 [.s 0 0 zs.length] [(0,some (.X 1 3 (A zs)))] 1 (.jA []) [(0,some (.X 1 3 (A (nB zs))))] 1:=by
 refine fm (KA 5) func151 λw W G g=> ?_
 repeat' (first
  |refine tk ?_
  |refine cz 125 func125 (λ_=>J0 _ O) ?_
  |refine cf 193 [0] (.jA []) [(0,some (.X 1 3 (A (nB zs))))] func193 (λ_=>G0 zs _ h) (λ_=>⟨gA rfl rfl,U⟩) (by simp[ED,iC,KE,WA,lD,mp,DA.IB]) ?_
  |refine CA ?_|refine an ?_ ?_|(intro Z;try simp at Z))
 exact⟨[],OA.nil UA ⟨rfl,U⟩ ⟨gA rfl rfl,U⟩⟩
def Kl (zs:List Int):MB {i:Nat//1<=i/\i<=zs.length}where
 F i:=[(0, .u (.s 0 0 zs.length)),(3, .u (I i.1))]
 H i:=[(0,some (.X 1 3 (A zs)))]
 n i:=1
theorem L0 (zs:List Int) (h:zs.length<=1000) (hn:zs.Nodup):Fn prog 152 [.s 0 0 zs.length] [(0,some (.X 1 3 (A zs)))] 1 (.s 0 0 zs.length) [(0,some (.X 1 3 (A zs)))] 1:=by
 refine fm (KA 17596514574653) func152 λw W G g=> ?_
 repeat' (first
  |refine tk ?_
  |refine CA ?_|refine an ?_ ?_|(intro Z;try simp at Z))
 ·exact⟨[],OA.nil UA ⟨rfl,U⟩ ⟨gA rfl rfl,U⟩⟩
 ·refine FB (Kl zs) (λi=>zs.length-i.1) ?_ ?_
  ·exact⟨⟨1,O⟩,[],U,OA.nil UA ⟨rfl,rfl,U⟩ ⟨gA rfl rfl,U⟩⟩
  ·rintro⟨i,hi⟩
   intro F H Y hF hH hn;dsimp only[Kl]at hF hH hn;subst hF hH hn
   have LC:i<zs.length->¬zs.getD i 0=zs.getD (i-1) 0:=λfA e=>by
    rw[List.getD_eq_getElem?_getD,List.getD_eq_getElem?_getD,List.getElem?_eq_getElem fA,List.getElem?_eq_getElem (show i-1<zs.length by omega)]at e
    simp only[Option.getD_some]at e
    have:=(List.getElem_inj hn).1 e
    omega
   have e1:0+(i:Int).toNat*1=i:=O
   have e2:0+((i:Int)-1).toNat*1=i-1:=O
   repeat' (first
    |refine tk ?_
    |refine And.intro (λZ=>absurd Z (by rw[e1,e2];have:=LC O;simpa using this)) (λZ=> ?_)
    |refine CA ?_|refine an ?_ ?_|(intro Z;try simp at Z))
   ·exact⟨⟨i+1,O⟩,[],show zs.length- (i+1)<zs.length-i by omega,OA.nil UA ⟨rfl,rfl,U⟩ ⟨gA rfl rfl,U⟩⟩
   ·exact⟨[],OA.nil UA ⟨rfl,U⟩ ⟨gA rfl rfl,U⟩⟩
theorem Fn.empty {P:Program} {f:FuncId} {b o:Nat} {r:List SV} {H0:HS} {n0:Nat} {s1:SV} {H1:HS} {n1:Nat} (h:∀a c,Fn P f (.v (.slice a 0 c)::r) H0 n0 s1 H1 n1):Fn P f (.s b o 0::r) H0 n0 s1 H1 n1:=by
 refine⟨(h none 0).1,λw W G ys g hu hM d=> ?_⟩
 simp only[ZA]at d
 obtain⟨y,q,rfl,d,dr⟩:=d
 obtain⟨a,c,rfl⟩:∃a c,y= .slice a 0 c:=by
  simp only[aA]at d
  rcases d with⟨_,_,_,rfl⟩|⟨_,_,_,_,_,_,rfl,_⟩<;>exact⟨_,_,rfl⟩
 exact(h a c).2 w W G _ g hu hM (by simp only[ZA,aA];exact⟨_,_,rfl,rfl,dr⟩)
theorem M0 (a:Option Addr) (c:Nat):Fn prog 19 [.v (.slice a 0 c)] [(0,some (.ro (A [])))] 1 (.s 1 0 0) [(1,some (.X 1 3 (A [])))] 2:=by
 refine fm (KA 21) func19 λw W G g=> ?_
 repeat' (first
  |refine aG 2 1 3 rfl ?_
  |refine tk ?_
  |refine CA ?_|refine an ?_ ?_|(intro Z;try simp at Z))
 ·exact⟨[(1,2)],OA.names [(1,2)] UA rfl rfl ⟨rfl,U⟩ ⟨gA rfl rfl,U⟩⟩
 ·exact⟨[(1,2)],OA.names [(1,2)] UA rfl rfl ⟨rfl,U⟩ ⟨gA rfl rfl,U⟩⟩
theorem N0 (zs:List Int) (h:zs.length<=1000) (h0:0<zs.length):Fn prog 19 [.s 0 0 zs.length] [(0,some (.ro (A zs)))] 1 (.s 1 0 zs.length) [(1,some (.X 1 3 (A zs)))] 2:=by
 refine fm (KA 21) func19 λw W G g=> ?_
 repeat' (first
  |refine tk ?_
  |refine⟨by simp[JD,rC],wE,O,xE,λ_=>⟨by show _*8<=_;omega,by simp only[maxLen];omega⟩,?_⟩
  |refine CA ?_|refine an ?_ ?_|(intro Z;try simp at Z))
 exact⟨[(1,2)],OA.names [(1,2)] UA rfl rfl ⟨nC O,U⟩ ⟨gA rfl (by simp[DA.cells,<-JD]),U⟩⟩
theorem ZN (zs:List Int) (h:zs.length<=1000):Fn prog 19 [.s 0 0 zs.length] [(0,some (.ro (A zs)))] 1 (.s 1 0 zs.length) [(1,some (.X 1 3 (A zs)))] 2:=by
 cases zs with
 |nil=>exact Fn.empty M0
 |cons z r=>exact N0 (z::r) h (by simp)
theorem iO (zs:List Int) (h:zs.length<=12) (hn:zs.Nodup):Fn prog 107 [.s 0 0 zs.length] [(0,some (.ro (A zs)))] 1 (.s 1 0 (nB zs).length) [(1,some (.X 1 3 (A (nB zs))))] 2:=by
 refine fm (KA 5) func107 λw W G g=> ?_
 repeat' (first
  |refine tk ?_
  |refine cf 19 [0] (.s 1 0 zs.length) [(1,some (.X 1 3 (A zs)))] func19 (λ_=>ZN zs O) (λ_=>⟨mS,U⟩) (by simp[ED,iC,KE,WA,lD,mp,DA.IB,List.range']) ?_
  |refine cf 151 [1] (.jA []) [(1,some (.X 1 3 (A (nB zs))))] func151 (λ_=>K0 zs h) (λ_=>⟨gA rfl rfl,U⟩) (by simp[ED,iC,KE,WA,lD,mp,DA.IB]) ?_
  |(refine AB 152 ?_;refine cA.F [1] (s:= .s 1 0 (nB zs).length) (wh:=[(1,some (.X 1 3 (A (nB zs))))]) func152 rfl rfl (λ_=>L0 (nB zs) (by rw[uI];omega) (El hn)) rfl (by rw[uI];rfl) (λ_=>⟨gA rfl rfl,U⟩) rfl (by simp[ED,iC,KE,WA,lD,mp,DA.IB]) ?_)
  |refine CA ?_|refine an ?_ ?_|(intro Z;try simp at Z))
 exact⟨[],OA.nil UA ⟨rfl,U⟩ ⟨gA rfl rfl,U⟩⟩
def Ll (low UK:Int) (zero:Bool) (n:Int):Bool:=decide (low<=n/\n<=UK/\(n=0->zero=true))
theorem Ml {l:List Int} {i:Nat} (h:i<l.length):l.take (i+1)=l.take i++[l.getD i 0]:=by
 rw[List.take_succ_eq_append_getElem h,List.getD_eq_getElem?_getD,List.getElem?_eq_getElem h];rfl
def Nl (l:List Int) (low UK:Int) (zero:Bool):MB {i:Nat//i<=l.length/\(l.take i).all (Ll low UK zero)=true/\(l.take i).Nodup}where
 F i:=[(0, .u (.s 0 0 l.length)),(2, .u (I low)),(3, .u (I UK)),(4, .u (B zero)),(17, .u (.s 0 0 l.length)),(18, .u (I l.length)),(19, .u (I i.1))]
 H i:=[(0,some (.ro (A l)))]
 n i:=1
theorem jO (l:List Int) (kB low UK:Int) (zero:Bool) (h:l.length<=2147483647):Fn prog 25 [.s 0 0 l.length,I kB,I low,I UK,B zero] [(0,some (.ro (A l)))] 1 (B (within l kB low UK zero)) [] 1:=by
 refine fm (KA 70368746216479) func25 λw W G g=> ?_
 repeat' (first
  |refine tk ?_
  |refine CA ?_|refine an ?_ ?_|(intro Z;try simp at Z))
 ·exact DB (by show SV.v (.bool _)=SV.v (.bool _);congr 2;rw[eq_comm,within];simp;omega) qA
 ·refine FB (Nl l low UK zero) (λi=>l.length-i.1) ?_ ?_
  ·exact⟨⟨0,O,by simp,by simp⟩,[],U,OA.nil UA ⟨rfl,rfl,rfl,rfl,rfl,rfl,rfl,U⟩ ⟨HA,U⟩⟩
  ·rintro⟨i,hi⟩
   intro F H Y hF hH hn;dsimp only[Nl]at hF hH hn;subst hF hH hn
   repeat' (first
    |refine tk ?_
    |(refine AB 28 ?_;refine cA.R [0] func28 rfl rfl (λ_=>XN (l.take i) (l.getD (0+((i:Nat):Int).toNat*1) 0) eA) rfl rfl (by simp[YA,SV.IB,mr,Nat.min_eq_left hi.1]) (λ_=>⟨⟨O,RC _ _,_,A (l.drop i),rfl,by simp[DA.cells,jP]⟩,U⟩) rfl ?_)
    |refine CA ?_|refine an ?_ ?_|(intro Z;try simp at Z))
   ·have ht:=Ml (l:=l) (i:=i) O
    have hm:l.getD i 0∈l:=by rw[List.getD_eq_getElem?_getD,List.getElem?_eq_getElem (show i<l.length by omega)];exact List.getElem_mem _
    refine DB ?_ qA
    show B false=B (within l kB low UK zero)
    have e:within l kB low UK zero=false:=by
     rw[Bool.eq_false_iff]
     intro hw
     simp only[within,Bool.and_eq_true,decide_eq_true_eq,List.all_eq_true]at hw
     obtain⟨⟨_,h2⟩,h3⟩:=hw
     have h4:=h2 _ hm
     have h5:(l.take i++[l.getD i 0]).Nodup:=by rw[<-ht];exact h3.sublist (List.take_sublist _ _)
     rw[List.nodup_append]at h5
     have h6:l.getD i 0∉l.take i:=λhx=>h5.2.2 _ hx _ (by simp) rfl
     rw[List.getD_eq_getElem?_getD]at h4 h6
     rcases Z with((Z|Z)|Z)|Z
     ·omega
     ·omega
     ·have:=h4.2.2 Z.1;rw[Z.2]at this;cases this
     ·exact h6 Z
    rw[e]
   ·have ht:=Ml (l:=l) (i:=i) O
    refine⟨⟨i+1,O,?_,?_⟩,[],show l.length- (i+1)<l.length-i by omega,OA.nil UA ⟨rfl,rfl,rfl,rfl,rfl,rfl,rfl,U⟩ ⟨HA,U⟩⟩
    ·rw[ht,List.all_append,hi.2.1]
     simp[Ll,Z.1]
     rcases(by omega:l[i]?.getD 0=0\/¬l[i]?.getD 0=0)with h0|h0
     ·exact .inr (Z.1.2 h0)
     ·exact .inl h0
    ·rw[ht,List.nodup_append]
     refine⟨hi.2.2,by simp,λx hx y hy e=>Z.2 ?_⟩
     simp at hy
     rw[<-hy,<-e];exact hx
   ·have e:l.take i=l:=List.take_of_length_le O
    rw[e]at hi
    refine DB ?_ qA
    show B true=B (within l kB low UK zero)
    have e:within l kB low UK zero=true:=by
     simp only[within,Bool.and_eq_true,decide_eq_true_eq]
     exact⟨⟨by assumption,hi.2.1⟩,hi.2.2⟩
    rw[e]
end En
end Go.Proofs.YtkidgehblodbcaaGreatDoor
