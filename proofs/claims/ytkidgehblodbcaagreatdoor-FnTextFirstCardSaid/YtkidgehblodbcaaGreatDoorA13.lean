/- A part of the proof of FnTextFirst: which rules are asked, walked. -/
import Derived.Test.YtkidgehblodbcaaGreatDoorA05
import Derived.Test.YtkidgehblodbcaaGreatDoorA12
set_option linter.all false
set_option maxRecDepth 100000
set_option maxHeartbeats 16000000
namespace Go.Proofs.YtkidgehblodbcaaGreatDoor
namespace En
open Go.RowKit Go.Proofs.Tryz
theorem tY {C:Cx} {c:Code} {F:FS} {H:HS} {Y:Nat} {Q:QT} (t:Nat) {f:Go.Fn} (hl:lk F t=some (.u (.v (.func f #[] #[])))) (h:En.T C c ((t, .u (.fn f [] []))::F) H Y Q):En.T C c F H Y Q:=by
 refine⟨λG a w hf=> ?_⟩
 obtain⟨D,h2⟩:=hf.ms.gC t _ hl
 simp only[IH,aA]at h2
 refine h.ok G a w ⟨hf.iD,hf.le,hf.PK,hf.ms.heap,hf.ms.size,hf.ms.defers,λu r hu=> ?_⟩
 simp only[lk]at hu
 by_cases e:t=u
 ·subst e;rw[if_pos rfl]at hu;cases hu;exact⟨D,by simp only[IH,aA,ZA];exact⟨[],[],h2,rfl,rfl⟩⟩
 ·rw[if_neg e]at hu;exact hf.ms.gC u r hu
def QG (l:List Bool):List SV:=l.map λb=>B b
theorem IFA (l:List Bool):(QG l).length=l.length:=by simp[QG]
theorem L1 (l:List Bool):QG l=cC (l.map Value.bool):=by simp[QG,cC]
@[simp] theorem N1 (LA:Nat->Nat) (l:List Bool):YA LA (QG l)=QG l:=by rw[L1,ji]
theorem rT {bs:List Bool} {o:Nat} {c0:Bool} {d:SV} {k:SV->Prop} (h:o<bs.length) (hk:k (B (bs.getD o false))):AL d c0 (QG bs) o k:=
 DV (by simp[QG,h]) hk
theorem O1 {M:List Bool} {o:Nat} {v:Bool} {k:List SV->Prop} (h:o<M.length) (hk:k (QG (M.set o v))):JK (QG M) o [B v] k:=by
 unfold JK
 refine yS (by simpa [QG]using h) ?_
 show k _
 have e:(QG M).set o (B v)=QG (M.set o v):=by simp[QG,List.map_set]
 rw[e];exact hk
theorem bN {LA:Nat->Nat} {H:HS} {b:Nat} {xs:List SV} {zs:List Bool} (h:WA H (LA b)=some (.st xs)) (hx:xs=QG zs):aE LA H b (.st (QG zs)):=by
 show WA H (LA b)=some (.st (YA LA (QG zs)))
 rw[h,hx,N1]
theorem Q1 {l:List Int} {n:Int}:(if((l.length:Int)==0)=true then true else l.contains n)=CC l n:=by
 unfold CC
 cases l with
 |nil=>rfl
 |cons a l=>
  have e:(((a::l).length:Int)==0)=false:=by simp;omega
  rw[e];rfl
theorem sT (l:List Int) (x:Int) (h:l.length<=2147483647):Fn prog 55 [.s 0 0 l.length,I x] [(0,some (.ro (A l)))] 1 (B (CC l x)) [] 1:=by
 refine fm (KA 19) func55 λw W G g=> ?_
 repeat' (first
  |refine tk ?_
  |(refine WC 28 (.s 0 0 _::_) ?_;refine cA.R [0] func28 rfl rfl (λ_=>XN l x h) rfl rfl rfl BC rfl ?_)
  |refine CA ?_|refine an ?_ ?_|(intro Z;try simp at Z))
 exact DB (by show SV.v (.bool _)=SV.v (.bool _);refine congrArg SV.v (congrArg Value.bool ?_);exact Q1) qA
theorem S1 (d:Int×Int):Fn prog 59 [.agg (A [d.1,d.2])] [] 0 (B (d.2 !=0)) [] 0:=by
 refine fm (KA 7) func59 λw W G g=> ?_
 repeat' (first
  |refine tk ?_
  |refine CA ?_|refine an ?_ ?_|(intro Z;try simp at Z))
 exact DB rfl qA
def nl (l:List (Int×Int)):MB {i:Nat//i<=l.length/\∀j<i,(λd:Int×Int=>d.2 !=0) (l.getD j (0,0))=false}where
 F i:=[(0, .u (.s 0 0 l.length)),(1, .u (.fn (.func 59) [] [])),(7, .u (I l.length)),(8, .u (I i.1))]
 H i:=[(0,some (.ro (xA l)))]
 n i:=1
theorem T1 (l:List (Int×Int)) (hl:l.length<=2147483647):Fn prog 105 [.s 0 0 l.length, .v (.func (.func 59) #[] #[])] [(0,some (.ro (xA l)))] 1 (I (gO l λd=>d.2 !=0)) [] 1:=by
 refine fm (KA 66483) func105 λw W G g=> ?_
 refine tY 1 rfl ?_
 repeat' (first
  |refine tk ?_
  |refine CA ?_|refine an ?_ ?_|(intro Z;try simp at Z))
 refine FB (nl l) (λi=>l.length-i.1) ?_ ?_
 ·exact⟨⟨0,O,by intro j hj;omega⟩,[],U,OA.nil UA ⟨rfl,rfl,rfl,rfl,U⟩ ⟨HA,U⟩⟩
 ·rintro⟨i,hi⟩
  intro F H Y hF hH hn;dsimp only[nl]at hF hH hn;subst hF hH hn
  repeat' (first
   |refine tk ?_
   |refine mF i O O λrest=> ?_
   |refine cz 59 func59 (λ_=>S1 (l.getD i (0,0))) ?_
   |refine CA ?_|refine an ?_ ?_|(intro Z;try simp at Z))
  ·rename_i Z;exact DB (by rw[Yc O hi.2 (by simpa using Z)];rfl) qA
  ·rename_i Z;exact⟨⟨i+1,O,λj hj=>by rcases(by omega:j<i\/j=i)with h|h;exact hi.2 j h;subst h;simpa using Z⟩,[],show l.length- (i+1)<l.length-i by omega,OA.nil UA ⟨rfl,rfl,rfl,rfl,U⟩ ⟨HA,U⟩⟩
  ·exact DB (by rw[Xc (λj hj=>hi.2 j O)];rfl) qA
theorem U1 (l:List (Int×Int)) (hl:l.length<=2147483647):Fn prog 58 [.s 0 0 l.length, .v (.func (.func 59) #[] #[])] [(0,some (.ro (xA l)))] 1 (B (l.any λd=>d.2 !=0)) [] 1:=by
 refine fm (KA 19) func58 λw W G g=> ?_
 repeat' (first
  |refine tk ?_
  |refine cr 105 [0] func105 (λ_=>T1 l hl) wG ?_
  |refine CA ?_|refine an ?_ ?_|(intro Z;try simp at Z))
 exact DB (by show SV.v (.bool _)=_;congr 2;rw[Bool.eq_iff_iff];simp only[ge_iff_le,decide_eq_true_eq];exact Wc _ _) qA
theorem W1 (d:Int×Int):Fn prog 60 [.agg (A [d.1,d.2])] [] 0 (B (d.2==0)) [] 0:=by
 refine fm (KA 7) func60 λw W G g=> ?_
 repeat' (first
  |refine tk ?_
  |refine CA ?_|refine an ?_ ?_|(intro Z;try simp at Z))
 exact DB rfl qA
def ol (l:List (Int×Int)):MB {i:Nat//i<=l.length/\∀j<i,(λd:Int×Int=>d.2==0) (l.getD j (0,0))=false}where
 F i:=[(0, .u (.s 0 0 l.length)),(1, .u (.fn (.func 60) [] [])),(7, .u (I l.length)),(8, .u (I i.1))]
 H i:=[(0,some (.ro (xA l)))]
 n i:=1
theorem X1 (l:List (Int×Int)) (hl:l.length<=2147483647):Fn prog 105 [.s 0 0 l.length, .v (.func (.func 60) #[] #[])] [(0,some (.ro (xA l)))] 1 (I (gO l λd=>d.2==0)) [] 1:=by
 refine fm (KA 66483) func105 λw W G g=> ?_
 refine tY 1 rfl ?_
 repeat' (first
  |refine tk ?_
  |refine CA ?_|refine an ?_ ?_|(intro Z;try simp at Z))
 refine FB (ol l) (λi=>l.length-i.1) ?_ ?_
 ·exact⟨⟨0,O,by intro j hj;omega⟩,[],U,OA.nil UA ⟨rfl,rfl,rfl,rfl,U⟩ ⟨HA,U⟩⟩
 ·rintro⟨i,hi⟩
  intro F H Y hF hH hn;dsimp only[ol]at hF hH hn;subst hF hH hn
  repeat' (first
   |refine tk ?_
   |refine mF i O O λrest=> ?_
   |refine cz 60 func60 (λ_=>W1 (l.getD i (0,0))) ?_
   |refine CA ?_|refine an ?_ ?_|(intro Z;try simp at Z))
  ·rename_i Z;exact DB (by rw[Yc O hi.2 (by simpa using Z)];rfl) qA
  ·rename_i Z;exact⟨⟨i+1,O,λj hj=>by rcases(by omega:j<i\/j=i)with h|h;exact hi.2 j h;subst h;simpa using Z⟩,[],show l.length- (i+1)<l.length-i by omega,OA.nil UA ⟨rfl,rfl,rfl,rfl,U⟩ ⟨HA,U⟩⟩
  ·exact DB (by rw[Xc (λj hj=>hi.2 j O)];rfl) qA
theorem Y1 (l:List (Int×Int)) (hl:l.length<=2147483647):Fn prog 58 [.s 0 0 l.length, .v (.func (.func 60) #[] #[])] [(0,some (.ro (xA l)))] 1 (B (l.any λd=>d.2==0)) [] 1:=by
 refine fm (KA 19) func58 λw W G g=> ?_
 repeat' (first
  |refine tk ?_
  |refine cr 105 [0] func105 (λ_=>X1 l hl) wG ?_
  |refine CA ?_|refine an ?_ ?_|(intro Z;try simp at Z))
 exact DB (by show SV.v (.bool _)=_;congr 2;rw[Bool.eq_iff_iff];simp only[ge_iff_le,decide_eq_true_eq];exact Wc _ _) qA
abbrev nA:SV:= .any λ_=>True
abbrev zN:SV:= .v (.slice none 0 0)
def bA (J:MA) (EA:Int) (m d y:Nat) (M E:List Int) (qK:List (Int×Int)):List SV:=[I J.BA,I J.GA,I 0,I EA,I J.HB,I 0,I J.count,I (if J.CE=true then J.xB else 0),I 0, .s 0 0 J.OB.length, .s m 0 M.length, .s d 0 E.length, .s 3 0 J.LB.length, .s 4 0 J.sA.length, .s y 0 qK.length, .s 6 0 J.SA.length, .s 7 0 J.PA.length, .s 8 0 J.RA.length, .s 9 0 J.NB.length]
def tl (J:MA) (L:List SV) (z:Nat:=0):List SV:=[I J.BA,I J.GA,I 0,I J.AA.IA,I J.HB,I J.count,I J.AA.xB,I (if J.CE=true then 0 else 854775807), .s z 0 J.OB.length]++(L++[I 0])
abbrev bF:FS:=[(1, .u (.p 10 0)),(2, .u (.p 11 0)),(3, .u (.p 12 0))]
theorem Fq (J:MA):(if(if(if(if((J.sA.length:Int)==0)=true then((J.LB.length:Int)==0)else false)=true then((J.TA.length:Int)==0)else false)=true then((J.FA.length:Int)==0)else false)=true then((J.NB.length:Int)==0)else false)= !J.kC:=by
 unfold MA.kC
 generalize J.sA.length=a
 generalize J.LB.length=b
 generalize J.TA.length=c
 generalize J.FA.length=d
 generalize J.NB.length=e
 have z:∀n:Nat,((n:Int)==0)=decide (n=0):=λn=>by rw[Bool.eq_iff_iff];simp
 simp only[z]
 by_cases D:a=0<;>by_cases h2:b=0<;>by_cases h3:c=0<;>by_cases h4:d=0<;>by_cases h5:e=0<;>simp[D,h2,h3,h4,h5]<;>omega
theorem Gq (s:Int) (h:0<=s/\s<=400000000000):Fn prog 74 [.agg (A [s,0]),I 9223372036854775807] [] 0 (.agg (A [s+9223372036,854775807])) [] 0:=by
 refine fm (KA 2130039) func74 λw W G g=> ?_
 repeat' (first
  |refine tk ?_
  |refine CA ?_|refine an ?_ ?_|(intro Z;try simp at Z))
 all_goals first|exact⟨[],eN ⟨rfl,U⟩ U⟩|exact iF rfl qA
structure CB (J:MA):Prop where
 f:0<=J.BA/\J.BA<=6
 st:31536000<=J.GA/\J.GA<=284100000000
 EA:0<=J.IA/\J.IA<=1000
 EB:0<=J.count/\J.count<=1000
 un:J.CE=true->0<J.xB
 ln:J.OB.length<=12/\J.VA.length<=12/\J.TA.length<=12/\J.LB.length<=12/\J.sA.length<=12/\J.FA.length<=12/\J.SA.length<=12/\J.PA.length<=12/\J.RA.length<=12/\J.NB.length<=12
theorem BP {J:MA} (h:J.Clean) (hn:0<=J.BA):CB J:=by
 have e2:before 2=365:=by decide
 have e9:before 9001=3287182:=by decide
 have hs:=h.GA
 have D:=XE h.OB
 have h2:=XE h.VA
 have h3:=XE h.TA
 have h4:=XE h.LB
 have h5:=XE h.sA
 have h6:=XE h.SA
 have h7:=XE h.PA
 have h8:=XE h.RA
 have h9:=XE h.NB
 have h0:=h.mP
 exact⟨⟨hn,h.BA⟩,O,h.IA,h.count,λhu=>by have:=(h.xB hu).1;omega,O⟩
theorem Y8 (l:List Int) (v:Int):A (l++[v])=A l++[I v]:=by simp[A]
theorem Z8 (l:List (Int×Int)) (v:Int×Int):xA (l++[v])=xA l++[I v.1,I v.2]:=by simp[xA]
theorem wN {l l':List Int} {v:Int} (h:l'=l++[v]):(A l).take (l.length*1)++[I v]=A l':=by
 rw[h,Nat.mul_one,List.take_of_length_le (by rw[JD];exact qA),Y8]
theorem Hq {l l':List (Int×Int)} {v:Int×Int} (h:l'=l++[v]):(xA l).take (l.length*2)++[I v.1,I v.2]=xA l':=by
 rw[h,List.take_of_length_le (by rw[rC];omega),Z8]
theorem QU {xs ys:List SV} (h:aO xs ys:=by repeat' (first|exact trivial|refine And.intro (Or.inr rfl) ?_|refine And.intro (Or.inl rfl) ?_)):aO xs ys:=h
theorem rK {l:List Int} {i:Nat} (h:i<l.length):l.getD i 0∈l:=by
 rw[List.getD_eq_getElem?_getD,List.getElem?_eq_getElem h];exact List.getElem_mem h
theorem uZ {LA:Nat->Nat} {H:HS} {b:Nat} {e:TypeId} {xs:List SV} {ds:List (Int×Int)} (h:WA H (LA b)=some (.X 2 e xs)) (hx:xs=xA ds):aE LA H b (.X 2 e (xA ds)):=by
 show WA H (LA b)=some (.X 2 e (YA LA (xA ds)))
 rw[h,hx,SC]
theorem qB {LA:Nat->Nat} {H H':HS} (h:lC LA H H':=by repeat' (first|exact trivial|refine And.intro (uZ rfl rfl) ?_|refine And.intro (gA rfl rfl) ?_|refine And.intro (TB rfl (by first|rfl|(simp[DA.cells];done)|(simp[DA.cells];rfl))) ?_|refine And.intro rfl ?_)):lC LA H H':=h
theorem bI {LA:Nat->Nat} {H H':HS} (h:lC LA H H':=by repeat' (first|exact trivial|refine And.intro (bD rfl rfl) ?_|refine And.intro (uZ rfl rfl) ?_|refine And.intro (gA rfl rfl) ?_|refine And.intro (TB rfl (by first|rfl|(simp[DA.cells];done)|(simp[DA.cells];rfl))) ?_|refine And.intro rfl ?_)):lC LA H H':=h
def rA (J:MA):List SV:=bA J J.IA 1 2 5 J.VA J.TA J.FA++(bA J J.AA.IA 13 14 15 J.AA.VA J.AA.TA J.AA.FA++tl J [.s 13 0 (JA J).bm.length, .s 16 0 (JA J).FC.length, .s 17 0 (JA J).GC.length, .s 3 0 (JA J).PF.length, .s 4 0 (JA J).uB.length, .s 18 0 (JA J).VC.length, .s 19 0 (JA J).vA.length, .s 20 0 (JA J).bh.length, .s 21 0 (JA J).bi.length, .s 22 0 (JA J).bs.length, .s 9 0 (JA J).be.length, .s 23 0 (JA J).ts.length])
def rB (J:MA) (a:Nat):List SV:=bA J J.IA 1 2 5 J.VA J.TA J.FA++(bA J J.AA.IA (a+1) (a+13) (a+14) J.AA.VA J.AA.TA J.AA.FA++tl J [.s (a+1) 0 (JA J).bm.length, .s (a+2) 0 (JA J).FC.length, .s (a+3) 0 (JA J).GC.length, .s (a+4) 0 (JA J).PF.length, .s (a+5) 0 (JA J).uB.length, .s (a+6) 0 (JA J).VC.length, .s (a+7) 0 (JA J).vA.length, .s (a+8) 0 (JA J).bh.length, .s (a+9) 0 (JA J).bi.length, .s (a+10) 0 (JA J).bs.length, .s (a+11) 0 (JA J).be.length, .s (a+12) 0 (JA J).ts.length] a)
def rR (J:MA) (a:Nat):HS:=[(a,some (.X 1 3 (A (JA J).sp))),(a+1,some (.X 1 3 (A (JA J).bm))),(a+2,some (.X 1 3 (A (JA J).FC))),(a+3,some (.X 1 3 (A (JA J).GC))),(a+4,some (.X 1 3 (A (JA J).PF))),(a+5,some (.X 1 3 (A (JA J).uB))),(a+6,some (.X 1 3 (A (JA J).VC))),(a+7,some (.X 2 53 (xA (JA J).vA))),(a+8,some (.X 1 3 (A (JA J).bh))),(a+9,some (.X 1 3 (A (JA J).bi))),(a+10,some (.X 1 3 (A (JA J).bs))),(a+11,some (.X 1 3 (A (JA J).be))),(a+12,some (.X 2 51 (iA (JA J).ts)))]
def lG (J:MA):List Int:=kF J.AA.SA J.AA.PA J.AA.RA
def SE (J:MA) (i j k:Nat):List Int:=kF (J.AA.SA.take i) J.AA.PA J.AA.RA++(AF (J.AA.SA.getD i 0*3600) (J.AA.PA.take j) J.AA.RA++oD (J.AA.SA.getD i 0*3600+J.AA.PA.getD j 0*60) (J.AA.RA.take k))
theorem Iq {J:MA} {i j k:Nat} (h:k<J.AA.RA.length):SE J i j (k+1)=SE J i j k++[J.AA.SA.getD i 0*3600+J.AA.PA.getD j 0*60+J.AA.RA.getD k 0]:=by
 unfold SE;rw[me h,List.append_assoc,List.append_assoc]
theorem Jq {J:MA} {i j:Nat} (h:j<J.AA.PA.length):SE J i j J.AA.RA.length=SE J i (j+1) 0:=by
 unfold SE;rw[Xp h,List.take_length];simp[oD]
theorem Kq {J:MA} {i:Nat} (h:i<J.AA.SA.length):SE J i J.AA.PA.length 0=SE J (i+1) 0 0:=by
 unfold SE kF
 rw[List.take_succ_eq_append_getElem h,List.flatMap_append,List.take_length,List.getD_eq_getElem?_getD,List.getElem?_eq_getElem h]
 simp[oD,AF]
theorem Lq (J:MA):SE J J.AA.SA.length 0 0=lG J:=by
 unfold SE lG;rw[List.take_length];simp[oD,AF]
theorem Mq {J:MA} {i j k:Nat} (hi:i<J.AA.SA.length) (hj:j<J.AA.PA.length) (hk:k<J.AA.RA.length):(SE J i j k).length<(lG J).length:=by
 have e1:(J.AA.SA.take i).length=i:=by rw[List.length_take];omega
 have e2:(J.AA.PA.take j).length=j:=by rw[List.length_take];omega
 have e3:(J.AA.RA.take k).length=k:=by rw[List.length_take];omega
 unfold SE lG
 rw[List.length_append,List.length_append,AQ,AQ,kW,jW,e1,e2,e3]
 have a1:(i+1)*(J.AA.PA.length*J.AA.RA.length)<=J.AA.SA.length*(J.AA.PA.length*J.AA.RA.length):=Nat.mul_le_mul_right _ hi
 have a2:(j+1)*J.AA.RA.length<=J.AA.PA.length*J.AA.RA.length:=Nat.mul_le_mul_right _ hj
 rw[Nat.succ_mul]at a1 a2
 omega
end En
end Go.Proofs.YtkidgehblodbcaaGreatDoor
