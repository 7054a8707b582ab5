/- FnTextFirst: for every rule and every number the call returns true and the arguments read afterwards as before. Conditions: those of the given card (the row's listed variables start as the program's text lays them; the pruned copy of the project). -/
import Derived.Carry
import Derived.Deep.SlicePairs
import Derived.LaidOnce
import Derived.Lay
import Derived.Lib.LaidU8
import Derived.Lib.SmallJoins
import Derived.ProofKit
import Derived.SevenTiedAt
import Derived.Test.YtkidgehblodbcaaGreatDoorCards
import Derived.Test.YtkidgehblodbcaaGreatDoorRows
import Derived.Test.YtkidgehblodbcaaGreatDoorTie
import Derived.Test.YtkidgehblodbcaaGreatDoorA26
import Derived.Test.YtkidgehblodbcaaGreatDoorA37
import Derived.Test.YtkidgehblodbcaaGreatDoorA38
set_option linter.all false
set_option maxRecDepth 100000
set_option maxHeartbeats 16000000
namespace Go.Proofs.YtkidgehblodbcaaGreatDoor
namespace En
open Go.RowKit Go.Proofs.Tryz
theorem ru (QB:RR->CR->Option CR) (r:RR) (lim:CR->Nat):∀(n:Nat) (d:Dv),(TJ QB r lim n d).length<=n
 |0,d=>by simp[TJ]
 |n+1,d=>by
  unfold TJ
  split
  ·simp
  ·have:=ru QB r lim n (xJ (zL QB r lim d)).2
   simp only[List.length_cons];omega
theorem FEA {J:MA} (hn:0<=J.BA) {N:Nat} (hN:0<N) {L:List Int} (h:EO J N=(L,true)):∃a:lR J,TJ (tD J.BA) (JA J) (aD J.BA) N (.inl (PC J))=L:=by
 unfold EO at h
 split at h
 ·cases h
 ·rename_i Z
  simp only[Bool.not_eq_true,Bool.or_eq_false_iff,Bool.not_eq_false']at Z
  obtain⟨⟨D,h2⟩,h3⟩:=Z
  have hc:J.Clean:=J.yX.1 D
  obtain⟨u,hu⟩:∃u,u=BQ J (JM J):=⟨_,rfl⟩
  rw[<-hu]at h
  obtain⟨DC,hD⟩:∃DC,DC=NM J u N:=⟨_,rfl⟩
  rw[<-hD]at h
  have e1:DC.1=L:=congrArg Prod.fst h
  have e2:DC.2=false:=by have:=congrArg Prod.snd h;simpa using this
  have eD:DC=(L,false):=Prod.ext e1 e2
  unfold NM at hD
  rw[D]at hD
  cases u with
  |true=>rw[eD]at hD;cases hD
  |false=>
   have a:lR J:=X5 hn hc h3 hu.symm
   exact⟨a,cAA a hN (hD.symm.trans eD)⟩
theorem GEA (J:MA) (hn:0<=J.BA/\J.BA<=255) (k:Nat) (hk:k<256):Fn prog 3 [.agg (EC 0 J), .v (.int .u8 k)] (jB 0 J++[]) 10 (B true) [] 10:=by
 have h4:=lCA J
 have h6:=DEA
 obtain⟨fb,su⟩:∃b,b=rX J:=⟨_,rfl⟩
 rw[<-su]at h4
 refine fm (KA 137439035383) func3 λw W G g=> ?_
 cases fb with
 |false=>
  repeat' (first
   |refine cT 16 rfl rfl ?_
   |refine tk ?_
   |refine cr 4 [0,1,2,3,4,5,6,7,8,9] func4 (λ_=>h4) (λ_=>ME O rfl rfl rfl rfl rfl rfl rfl rfl rfl rfl U) ?_
   |refine CA ?_|refine an ?_ ?_|(intro Z;try simp at Z))
  exact DB rfl UA
 |true=>
  have BD:J.Fits:=(kCA J).1 su.symm
  obtain⟨N,hNd⟩:∃N:Nat,N=1+k%12:=⟨_,rfl⟩
  have hN0:0<N:=O
  have hN:N<=1000:=O
  have bU:(k:Int).tmod 12=((k%12:Nat):Int):=by rw[Int.tmod_eq_emod_of_nonneg O];omega
  have NE:zA (1+(k:Int).tmod 12):=by rw[bU];unfold zA;omega
  have h5:=kAA J BD hn N hN
  obtain⟨R,hR⟩:∃R,R=EO J N:=⟨_,rfl⟩
  rw[<-hR]at h5
  repeat' (first
   |refine FG 4 ?_
   |refine cF 16 rfl rfl ?_
   |refine tk ?_
   |refine And.intro (λ_=>NE) ?_
   |refine cr 4 [0,1,2,3,4,5,6,7,8,9] func4 (λ_=>h4) (λ_=>ME O rfl rfl rfl rfl rfl rfl rfl rfl rfl rfl U) ?_
   |refine CA ?_|refine an ?_ ?_|(intro Z;try simp at Z))
  refine Stop.mk ?_
  refine mB (l:=[]) (F':=[(2, .u (.p 10 0)),(5, .u (I N))]) (H':=jB 0 J++[(10,some (.st (EC 0 J)))]) (n':=11) (eN ⟨rfl,bB (by rw[bU,hNd];omega),U⟩ AE) ?_
  repeat' (first
   |refine FG 5 ?_
   |refine tk ?_
   |refine cf 5 [0,1,2,3,4,5,6,7,8,9] (.jA [.s 11 0 R.1.length,B R.2]) [(11,some (.X 1 2 (A R.1)))] func5 (λ_=>h5) (λ_=>⟨mS,mS,mS,mS,mS,mS,mS,mS,mS,mS,U⟩) (by show[(_,some (DA.X 1 2 (YA _ (A _))))]=_;rw[kD];try rfl) ?_
   |refine CA ?_|refine an ?_ ?_|(intro Z;try simp at Z))
  refine Stop.mk ?_
  obtain⟨L,b⟩:=R
  cases b with
  |false=>
   repeat' (first
    |refine cT 37 rfl rfl ?_
    |refine tk ?_
    |refine cz 6 func6 (λ_=>h6) ?_
    |refine CA ?_|refine an ?_ ?_|(intro Z;try simp at Z))
   exact DB rfl UA
  |true=>
   obtain⟨a,hE⟩:=FEA hn.1 hN0 hR.symm
   have hc:=a.WJ
   have h7:=uDA J hc hn.1
   have cb:=BP hc hn.1
   have YL:=cb.ln
   have h8:=EEA J O
   have h9:=wDA J hc hn.1
   have ta:=AEA a hN
   rw[hE]at ta
   have tu:L.length<=2147483647:=by have:=ru (tD J.BA) (JA J) (aD J.BA) N (.inl (PC J));rw[hE]at this;omega
   refine mB (l:=[]) (F':=[(2, .u (.p 10 0)),(5, .u (I N)),(6, .u (.s 11 0 L.length)),(7, .u (B true))]) (H':=jB 0 J++[(10,some (.st (EC 0 J))),(11,some (.X 1 2 (A L)))]) (n':=12) (eN eF AE) ?_
   have hu:(if J.CE=true then J.xB==0 else false)=false:=by
    cases h:J.CE with
    |false=>rfl
    |true=>
     have D:=hc.xB h
     have h2:=cb.st
     have:¬J.xB=0:=O
     simpa using this
   repeat' (first
    |refine FG 8 ?_
    |refine cF 37 rfl hu ?_
    |refine tk ?_
    |refine cf 8 [0,1,2,3,4,5,6,7,8,9] (.agg (Hh 12 J.FA.length J)) (xa 12 J.FA J) func8 (λ_=>h8) (λ_=>⟨mS,mS,mS,mS,mS,mS,mS,mS,mS,mS,U⟩) (by rw[ED,show iC (jB 0 J++[])=[]from rfl];simp[mp,WA,lD,DA.IB,xa,List.range'_succ,List.range'_zero]) ?_
    |refine cr 7 [12,13,14,15,16,17,18,19,20,21] func7 (λ_=>h7) (λ_=>⟨⟨O,RC _ _,_,[],rfl,by simp[DA.cells]⟩,⟨O,RC _ _,_,[],rfl,by simp[DA.cells]⟩,⟨O,RC _ _,_,[],rfl,by simp[DA.cells]⟩,⟨O,RC _ _,_,[],rfl,by simp[DA.cells]⟩,⟨O,RC _ _,_,[],rfl,by simp[DA.cells]⟩,⟨O,WN _ _,_,[],rfl,by simp[DA.cells]⟩,⟨O,RC _ _,_,[],rfl,by simp[DA.cells]⟩,⟨O,RC _ _,_,[],rfl,by simp[DA.cells]⟩,⟨O,RC _ _,_,[],rfl,by simp[DA.cells]⟩,⟨O,RC _ _,_,[],rfl,by simp[DA.cells]⟩,U⟩) ?_
    |refine CA ?_|refine an ?_ ?_|(intro Z;try simp at Z))
   refine Stop.mk ?_
   refine mB (l:=[]) (F':=[(5, .u (I N)),(6, .u (.s 11 0 L.length)),(8, .u (S (aJ (jC J)))),(9, .u (B true))]) (H':=[(11,some (.X 1 2 (A L)))]) (n':=12) (eN eF AE) ?_
   repeat' (first
    |refine FG 10 ?_
    |refine tk ?_
    |(refine AB 9 ?_;refine pu (o:=jC J) func9 rfl rfl (λ_=>h9) rfl ?_)
    |refine cf 10 [12,13,14,15,16,17,18,19,20,21] (.jA [.s 24 0 L.length,B true]) [(12,none),(13,none),(14,none),(15,none),(16,none),(17,none),(18,none),(19,none),(20,none),(21,none),(24,some (.X 1 2 (A L)))] func10 (λ_=>ta) (λ_=>⟨by rw[kD];rfl,by rw[kD];rfl,by rw[kD];rfl,by rw[kD];rfl,by rw[kD];rfl,by rw[SC];rfl,by rw[kD];rfl,by rw[kD];rfl,by rw[kD];rfl,by rw[kD];rfl,U⟩) (by rw[ED,show iC (QP 0 (jC J)++[])=[0,1,2,3,4,5,6,7,8,9]from rfl];simp[mp,WA,lD,DA.IB,List.range'_succ,List.range'_zero]) ?_
    |refine CA ?_|refine an ?_ ?_|(intro Z;try simp at Z))
   refine Stop.mk ?_
   refine mB (l:=[(12,24)]) (F':=[(6, .u (.s 11 0 L.length)),(9, .u (B true)),(11, .u (B true)),(12, .u (.s 12 0 L.length)),(13, .u (B true))]) (H':=[(11,some (.X 1 2 (A L))),(12,some (.X 1 2 (A L)))]) (n':=13) (eL _ eF AE) ?_
   have uu:=mCA L L tu tu
   rw[show decide (L=L)=true from decide_eq_true rfl]at uu
   repeat' (first
    |refine tk ?_
    |refine cr 11 [12,11] func11 (λ_=>uu) (λ_=>⟨⟨O,RC _ _,_,[],rfl,by simp[DA.cells]⟩,⟨O,RC _ _,_,[],rfl,by simp[DA.cells]⟩,U⟩) ?_
    |refine cz 6 func6 (λ_=>h6) ?_
    |refine CA ?_|refine an ?_ ?_|(intro Z;try simp at Z))
   exact DB rfl UA
end En
namespace En
open Go.RowKit Go.ChangeShapes Go.WideShapes Go.ChangeAt Go.Proofs.Tryz
def yU (W:World) (nm:Nm) (c:Value) (len:Nat) (xs:List SV):Prop:=
 (nm= .nil/\c= .slice none 0 0/\len=0/\xs=[])\/
 ∃r k cap,nm= .at r k cap/\c= .slice (some ⟨r,k,none⟩) len cap/\len<=cap/\cap<=maxLen/\r<W.heap.size/\∀i x,xs[i]? =some x->∃v,x= .v v/\W.cell? ⟨r,k+i,none⟩=some v
theorem yU.den {W:World} {G:wA} {b:Nat} {nm:Nm} {c:Value} {len:Nat} {xs:List SV} (h:yU W nm c len xs) (Z:G b=nm):aA G (.s b 0 len) c:=by
 rcases h with⟨rfl,rfl,rfl,_⟩|⟨r,k,cap,rfl,rfl,D,h2,_⟩
 ·exact .inl ⟨Z,rfl,rfl,rfl⟩
 ·exact .inr ⟨r,k,cap,_,cap,Z,rfl,D,h2,λ_=>⟨rfl,rfl⟩,λ_=>rfl⟩
theorem yU.WM {W:World} {G:wA} {b:Nat} {nm:Nm} {c:Value} {len:Nat} {xs:List SV} (h:yU W nm c len xs) (Z:G b=nm):yC G W b (.ro xs):=by
 rcases h with⟨rfl,rfl,rfl,h⟩|⟨r,k,cap,rfl,rfl,D,h2,h3,h4⟩
 ·exact .inl ⟨Z,h⟩
 ·refine .inr ⟨r,k,cap,Z,h3,λi x hx=> ?_⟩
  obtain⟨v,rfl,hv⟩:=h4 i x hx
  exact⟨v,hv,rfl⟩
section
variable {H:Type} {zK:TypeId×Value->H} {W:World} {base n:Nat} {c:Value} {y:DataW H×List MemPlace}
theorem Ih (r k i:Nat):(⟨r,k,none⟩:Addr).add i=⟨r,k+i,none⟩:=by
 unfold Addr.add
 split
 ·rename_i h;subst h;rfl
 ·rfl
theorem vu {t e:TypeId} {a:Addr} {len cap:Nat} (ht:prog.underlying t=some (.slice e)) (hk:Cell.okWide prog W .any base t (.slice (some a) len cap)):a.spot=none/\a.block<W.heap.size:=by
 simp only[Cell.okWide,ht,Cell.ok,World.has]at hk
 obtain⟨_,_,_,D,X,cells,h2,_⟩:=hk
 refine⟨D,?_⟩
 unfold World.shape? at h2
 split at h2
 ·rename_i hx;exact za hx
 ·cases h2
theorem SP (hk:Cell.okWide prog W .any base 22 c) (h:DataW.trod zK prog W 0 (λ_=>true) true n 22 [c]=some y):∃(nm:Nm) (l:List Int),yU W nm c l.length (A l):=by
 rcases open_ints underlying22 underlying3 DD h with⟨e,_⟩|⟨a,len,cap,zs,e,_,hl,hm,hz,_,hc,_⟩
 ·obtain rfl:c= .slice none 0 0:=by simpa using e
  exact⟨.nil,[], .inl ⟨rfl,rfl,rfl,rfl⟩⟩
 ·obtain rfl:c= .slice (some a) len cap:=by simpa using e
  obtain⟨D,h2⟩:=vu underlying22 hk
  obtain⟨r,k,s⟩:=a
  dsimp only at D h2
  subst D
  simp only[if_true]at hz
  have hlen:(zs.take len).length=len:=by rw[List.length_take];omega
  refine⟨.at r k cap,zs.take len, .inr ⟨r,k,cap,rfl,by rw[hlen],O,hm,h2,λi x hx=> ?_⟩⟩
  unfold A at hx
  rw[List.getElem?_map]at hx
  obtain⟨z,h3,rfl⟩:=Option.map_eq_some_iff.1 hx
  have hi:i<len:=by have:=(List.getElem?_eq_some_iff.1 h3).1;omega
  refine⟨_,rfl,?_⟩
  have h4:=hc i O
  rw[List.getElem?_take_of_lt hi]at h3
  rw[List.getD_eq_getElem?_getD,h3,Ih]at h4
  exact h4
def ya:Value->Int
 | .int _ n=>n
 |_=>0
theorem wu:∀(ds:List (Int×Int)) (i:Nat) (x:SV),(xA ds)[i]? =some x->∃j p,ds[j]? =some p/\((i=2*j/\x=I p.1)\/(i=2*j+1/\x=I p.2))
 |[],i,x,h=>by simp[xA]at h
 |p::r,0,x,h=>⟨0,p,rfl, .inl ⟨rfl,by simpa [xA]using h.symm⟩⟩
 |p::r,1,x,h=>⟨0,p,rfl, .inr ⟨rfl,by simpa [xA]using h.symm⟩⟩
 |p::r,i+2,x,h=>by
  obtain⟨j,q,D,h2⟩:=wu r i x (by simpa [xA]using h)
  refine⟨j+1,q,by simpa using D,?_⟩
  rcases h2 with⟨h2,h3⟩|⟨h2,h3⟩
  ·exact .inl ⟨O,h3⟩
  ·exact .inr ⟨O,h3⟩
theorem HEA (hk:Cell.okWide prog W .any base 23 c) (h:DataW.trod zK prog W 0 (λ_=>true) true n 23 [c]=some y):∃(nm:Nm) (l:List (Int×Int)),yU W nm c l.length (xA l):=by
 rcases Deep.open_slice_pairs underlying23 underlying60 DD rfl rfl DD DD h with⟨e,_⟩|⟨a,len,cap,m,k',V0,V1,D0,D1,P0,P1,e,_,hl,hm,hz,_,hc⟩
 ·obtain rfl:c= .slice none 0 0:=by simpa using e
  exact⟨.nil,[], .inl ⟨rfl,rfl,rfl,rfl⟩⟩
 ·obtain rfl:c= .slice (some a) len cap:=by simpa using e
  obtain⟨D,h2⟩:=vu underlying23 hk
  obtain⟨r,k,s⟩:=a
  dsimp only at D h2
  subst D
  simp only[if_true]at hz
  have hlen:((List.range len).map λi=>(ya (V0 i),ya (V1 i))).length=len:=by simp
  refine⟨.at r k cap,(List.range len).map λi=>(ya (V0 i),ya (V1 i)), .inr ⟨r,k,cap,rfl,by rw[hlen],O,hm,h2,λi x hx=> ?_⟩⟩
  obtain⟨j,p,h3,h4⟩:=wu _ i x hx
  rw[List.getElem?_map]at h3
  obtain⟨j',h5,rfl⟩:=Option.map_eq_some_iff.1 h3
  have hj:j<len:=by have:=(List.getElem?_eq_some_iff.1 h5).1;simpa using this
  rw[List.getElem?_range hj]at h5
  cases h5
  obtain⟨c0,c1,t0,t1⟩:=hc j O
  obtain⟨z0,e0,_,_⟩:=DataW.trod_int underlying3 t0
  obtain⟨z1,e1,_,_⟩:=DataW.trod_int underlying3 t1
  have e0':V0 j= .int .i64 z0:=by simpa using e0
  have LK:V1 j= .int .i64 z1:=by simpa using e1
  rw[e0']at c0 h4
  rw[LK]at c1 h4
  rcases h4 with⟨rfl,rfl⟩|⟨rfl,rfl⟩
  ·refine⟨_,rfl,?_⟩
   have:(2*j:Nat)=j*2:=O
   rw[this]
   rw[Ih]at c0
   exact c0
  ·refine⟨_,rfl,?_⟩
   have:k+(2*j+1)=k+(j*2+1):=O
   rw[this]
   rw[Ih]at c1
   exact c1
end
theorem ZA.cons {G:wA} {x:SV} {y:Value} {xs:List SV} {ys:List Value} (h:aA G x y) (h':ZA G xs ys):ZA G (x::xs) (y::ys):=⟨y,ys,rfl,h,h'⟩
theorem IEA {PB:Type} {l:List PB} (h:l.length=18):∃c0 c1 c2 c3 c4 c5 c6 c7 c8 c9 iS jS kS lS nS oS rS sS,l=[c0,c1,c2,c3,c4,c5,c6,c7,c8,c9,iS,jS,kS,lS,nS,oS,rS,sS]:=by
 match l,h with
 |[c0,c1,c2,c3,c4,c5,c6,c7,c8,c9,iS,jS,kS,lS,nS,oS,rS,sS],_=>exact⟨c0,c1,c2,c3,c4,c5,c6,c7,c8,c9,iS,jS,kS,lS,nS,oS,rS,sS,rfl⟩
theorem xu {J:MA} {b:Nat} {k:DA} (h:WA (jB 0 J++[]) b=some k):k.own=false:=by
 have:=UN h
 simp only[jB,List.append_nil,List.mem_cons,Prod.mk.injEq,Option.some.injEq,List.mem_nil_iff,or_false]at this
 rcases this with⟨_,rfl⟩|⟨_,rfl⟩|⟨_,rfl⟩|⟨_,rfl⟩|⟨_,rfl⟩|⟨_,rfl⟩|⟨_,rfl⟩|⟨_,rfl⟩|⟨_,rfl⟩|⟨_,rfl⟩<;>rfl
theorem JEA:(match prog.underlying 25 with|some (.struct fs)=>fs.map (·.type)|_=> #[])= #[5,4,2,3,3,3,4,2,22,22,22,22,22,23,22,22,22,22]:=by kernel_rfl
theorem KEA:(match prog.underlying 25 with|some (.struct fs)=>Deep.oneCellFields prog fs|_=>false)=true:=by kernel_rfl
theorem LEA {H:Type} {zK:TypeId×Value->H} {W:World} {base:Nat} {v:Value} {d:DataW H} {p:List MemPlace} (hv:Value.okWide prog W .any base 25 v) (h:DataW.Trod zK prog W 0 (λ_=>true) true 25 v d p):
  ∃(J:MA) (ys:List Value) (G:wA),v= .agg (List.toArray ys)/\(0<=J.BA/\J.BA<=255)/\(∀b,10<=b->G b= .iD)/\ZA G (EC 0 J) ys/\MH W (λ_=>False) (WA (jB 0 J++[])) G W:=by
 have c25:prog.cellsOf 25=18:=by kernel_rfl
 simp only[Value.okWide,underlying25]at hv
 obtain⟨cs,rfl,GI,ts,sD,_,MEA⟩:=hv
 have e:ts=[5,4,2,3,3,3,4,2,22,22,22,22,22,23,22,22,22,22]:=Option.some.inj (sD.symm.trans DD)
 subst e
 obtain⟨yu,hf⟩:=h
 obtain⟨fs,Jh⟩:∃fs,prog.underlying 25=some (.struct fs):=⟨_,underlying25⟩
 have zu:=JEA
 rw[Jh]at zu
 have Av:=KEA
 rw[Jh]at Av
 have AT:=Deep.hone_of (P:=prog) (fs:=fs) Av
 obtain⟨xs,n,_,_,_,hlen,vD⟩:=DataW.trod_struct Jh hf
 obtain⟨l⟩:=cs
 have NEA:l.length=18:=GI.trans c25
 have jI:∀(i:Nat) (t:TypeId) (c:Value),#[5,4,2,3,3,3,4,2,22,22,22,22,22,23,22,22,22,22][i]? =some t->l[i]? =some c->∃y,DataW.trod zK prog W 0 (λ_=>true) true n t [c]=some y:=by
  intro i t c ht hc
  rw[<-show fs.map (·.type)=_ from zu,Array.getElem?_map]at ht
  obtain⟨f,Kh,rfl⟩:=Option.map_eq_some_iff.1 ht
  obtain⟨o1,o2⟩:=AT i f Kh
  have D:=vD i f Kh
  have hi:i<l.length:=(List.getElem?_eq_some_iff.1 hc).1
  rw[o1,o2]at D
  have h2:(l.drop i).take 1=[c]:=by
   rw[Deep.take1_drop l i c hi,List.getD_eq_getElem?_getD,hc];rfl
  have vC:i<xs.length:=by rw[hlen];exact(Array.getElem?_eq_some_iff.1 Kh).1
  rw[List.getElem?_eq_getElem vC]at D
  refine⟨_,Eq.trans ?_ D⟩
  rw[<-h2];rfl
 obtain⟨c0,c1,c2,c3,c4,c5,c6,c7,c8,c9,iS,jS,kS,lS,nS,oS,rS,sS,rfl⟩:=IEA NEA
 have KO:∀(i:Nat) (c:Value) (t:TypeId),[c0,c1,c2,c3,c4,c5,c6,c7,c8,c9,iS,jS,kS,lS,nS,oS,rS,sS][i]? =some c->[5,4,2,3,3,3,4,2,22,22,22,22,22,23,22,22,22,22][i%18]? =some t->Cell.okWide prog W .any base t c:=by
  intro i c t D h2
  obtain⟨u,hu,hk⟩:=MEA i c (by simpa using D)
  have:u=t:=Option.some.inj (hu.symm.trans h2)
  exact this▸hk
 obtain⟨y0,t0⟩:=jI 0 5 c0 rfl rfl
 obtain⟨z0,e0,_,w0⟩:=DataW.trod_int underlying5 t0
 rw[List.cons.injEq]at e0;obtain⟨rfl,_⟩:=e0
 obtain⟨y1,t1⟩:=jI 1 4 c1 rfl rfl
 obtain⟨b1,e1,_⟩:=DataW.trod_bool underlying4 t1
 rw[List.cons.injEq]at e1;obtain⟨rfl,_⟩:=e1
 obtain⟨y2,t2⟩:=jI 2 2 c2 rfl rfl
 obtain⟨z2,e2,_,w2⟩:=DataW.trod_int underlying2 t2
 rw[List.cons.injEq]at e2;obtain⟨rfl,_⟩:=e2
 obtain⟨y3,t3⟩:=jI 3 3 c3 rfl rfl
 obtain⟨z3,e3,_,w3⟩:=DataW.trod_int underlying3 t3
 rw[List.cons.injEq]at e3;obtain⟨rfl,_⟩:=e3
 obtain⟨y4,t4⟩:=jI 4 3 c4 rfl rfl
 obtain⟨z4,e4,_,w4⟩:=DataW.trod_int underlying3 t4
 rw[List.cons.injEq]at e4;obtain⟨rfl,_⟩:=e4
 obtain⟨y5,t5⟩:=jI 5 3 c5 rfl rfl
 obtain⟨z5,e5,_,w5⟩:=DataW.trod_int underlying3 t5
 rw[List.cons.injEq]at e5;obtain⟨rfl,_⟩:=e5
 obtain⟨y6,t6⟩:=jI 6 4 c6 rfl rfl
 obtain⟨b6,e6,_⟩:=DataW.trod_bool underlying4 t6
 rw[List.cons.injEq]at e6;obtain⟨rfl,_⟩:=e6
 obtain⟨y7,t7⟩:=jI 7 2 c7 rfl rfl
 obtain⟨z7,e7,_,w7⟩:=DataW.trod_int underlying2 t7
 rw[List.cons.injEq]at e7;obtain⟨rfl,_⟩:=e7
 obtain⟨y8,t8⟩:=jI 8 22 c8 rfl rfl
 obtain⟨n0,l0,s0⟩:=SP (KO 8 c8 22 rfl rfl) t8
 obtain⟨y9,t9⟩:=jI 9 22 c9 rfl rfl
 obtain⟨n1,l1,s1⟩:=SP (KO 9 c9 22 rfl rfl) t9
 obtain⟨y10,t10⟩:=jI 10 22 iS rfl rfl
 obtain⟨n2,l2,s2⟩:=SP (KO 10 iS 22 rfl rfl) t10
 obtain⟨y11,t11⟩:=jI 11 22 jS rfl rfl
 obtain⟨n3,l3,s3⟩:=SP (KO 11 jS 22 rfl rfl) t11
 obtain⟨y12,t12⟩:=jI 12 22 kS rfl rfl
 obtain⟨n4,l4,s4⟩:=SP (KO 12 kS 22 rfl rfl) t12
 obtain⟨y13,t13⟩:=jI 13 23 lS rfl rfl
 obtain⟨n5,l5,s5⟩:=HEA (KO 13 lS 23 rfl rfl) t13
 obtain⟨y14,t14⟩:=jI 14 22 nS rfl rfl
 obtain⟨n6,l6,s6⟩:=SP (KO 14 nS 22 rfl rfl) t14
 obtain⟨y15,t15⟩:=jI 15 22 oS rfl rfl
 obtain⟨n7,l7,s7⟩:=SP (KO 15 oS 22 rfl rfl) t15
 obtain⟨y16,t16⟩:=jI 16 22 rS rfl rfl
 obtain⟨n8,l8,s8⟩:=SP (KO 16 rS 22 rfl rfl) t16
 obtain⟨y17,t17⟩:=jI 17 22 sS rfl rfl
 obtain⟨n9,l9,s9⟩:=SP (KO 17 sS 22 rfl rfl) t17
 have vN:0<=z0/\z0<=255:=by simpa [Lit.wf,IntKind.min,IntKind.max,IntKind.signed,IntKind.bits]using w0
 refine⟨⟨z0,b1,z2,z3,z4,z5,b6,z7,l0,l1,l2,l3,l4,l5,l6,l7,l8,l9⟩,_,λb=>match b with|0=>n0|1=>n1|2=>n2|3=>n3|4=>n4|5=>n5|6=>n6|7=>n7|8=>n8|9=>n9|_=> .iD,rfl,vN,?_,?_,?_⟩
 ·intro b Z
  match b,Z with
  |b+10,_=>rfl
 ·exact ZA.cons rfl (ZA.cons rfl (ZA.cons rfl (ZA.cons rfl (ZA.cons rfl (ZA.cons rfl (ZA.cons rfl (ZA.cons rfl (ZA.cons (s0.den rfl) (ZA.cons (s1.den rfl) (ZA.cons (s2.den rfl) (ZA.cons (s3.den rfl) (ZA.cons (s4.den rfl) (ZA.cons (s5.den rfl) (ZA.cons (s6.den rfl) (ZA.cons (s7.den rfl) (ZA.cons (s8.den rfl) (ZA.cons (s9.den rfl) (rfl))))))))))))))))))
 ·refine⟨rfl,rfl,rfl,Nat.le_refl _,λ_ _ _=>rfl,?_,λb k Z ho=>(by rw[xu Z]at ho;cases ho),λb b' k k' Z _ ho=>(by rw[xu Z]at ho;cases ho)⟩
  intro b k Z
  have:=UN Z
  simp only[jB,List.append_nil,List.mem_cons,Prod.mk.injEq,Option.some.injEq,List.mem_nil_iff,or_false]at this
  rcases this with⟨rfl,rfl⟩|⟨rfl,rfl⟩|⟨rfl,rfl⟩|⟨rfl,rfl⟩|⟨rfl,rfl⟩|⟨rfl,rfl⟩|⟨rfl,rfl⟩|⟨rfl,rfl⟩|⟨rfl,rfl⟩|⟨rfl,rfl⟩
  ·exact s0.WM rfl
  ·exact s1.WM rfl
  ·exact s2.WM rfl
  ·exact s3.WM rfl
  ·exact s4.WM rfl
  ·exact s5.WM rfl
  ·exact s6.WM rfl
  ·exact s7.WM rfl
  ·exact s8.WM rfl
  ·exact s9.WM rfl
end En
namespace En
open Go.RowKit Go.ChangeShapes Go.WideShapes Go.ChangeAt Go.Lib Go.Proofs.Tryz
theorem Bv {W:World} {name:String} {g:Nat} {cs:Array Value} (hn:prog.globalNamed name=some g) (h:W.var? prog name=some cs):∃t fr,W.heap[g]? =some (.cells cs t fr):=by
 simp only[World.var?,hn,Option.bind_some]at h
 split at h
 ·rename_i FY t fr e
  cases h
  exact⟨t,fr,e⟩
 ·cases h
theorem tS {W:World} {name:String} {g:Nat} {k:Int} (hn:prog.globalNamed name=some g) (HC:(prog.globals[g]?).map (·.type)=some 53) (h:VarReads prog W name (.agg [.lit (.int .i64 k), .lit (.int .i64 0)])):
  ∃t fr,W.heap[g]? =some (.cells (FE k) t fr):=by
 obtain⟨g',t,cs,yu,p,hg,ht,hv,hd⟩:=h
 obtain rfl:=Option.some.inj (hn.symm.trans hg)
 obtain rfl:=Option.some.inj (HC.symm.trans ht)
 have uG:=ints_of_struct (zs:=[k,0]) underlying53 (λj f hj=>by
  match j,hj with
  |0,hj=>simp at hj;subst hj;exact⟨underlying3,rfl,by kernel_rfl⟩
  |1,hj=>simp at hj;subst hj;exact⟨underlying3,rfl,by kernel_rfl⟩
  |j+2,hj=>simp at hj) DD hd
 have e:cs=FE k:=by
  have:cs.toList=(FE k).toList:=uG
  exact Array.toList_inj.1 this
 rw[<-e]
 exact Bv hn hv
theorem Cv {W:World} {name:String} {g ty e n:Nat} {k:IntKind} {zs:List Int} (hn:prog.globalNamed name=some g) (HC:(prog.globals[g]?).map (·.type)=some ty)
  (ht:prog.underlying ty=some (.array n e)) (he:prog.underlying e=some (.int k)) (hce:prog.cellsOf e=1) (hct:prog.cellsOf ty=n) (h:VarReads prog W name (tabData k zs)):
  ∃t fr,W.heap[g]? =some (.cells (zs.map λz=>Value.int k z).toArray t fr):=by
 obtain⟨g',t,cs,yu,p,hg,ht',hv,hd⟩:=h
 obtain rfl:=Option.some.inj (hn.symm.trans hg)
 obtain rfl:=Option.some.inj (HC.symm.trans ht')
 have uG:=cells_of_tab ht he hce hct hd
 have e':cs=(zs.map λz=>Value.int k z).toArray:=Array.toList_inj.1 uG
 rw[<-e']
 exact Bv hn hv
def Lh:List Int:=(List.range 256).map λi=>if i=9\/i=10\/i=11\/i=12\/i=13\/i=32 then 1 else 0
def Mh:List Int:=(List.range 20).map λi=>10^i
theorem OEA:(Rows.laid_strings_asciiSpace:DataW Unit)=tabData .u8 Lh:=by kernel_rfl
theorem PEA:(Rows.laid_internal_strconv_uint64pow10:DataW Unit)=tabData .u64 Mh:=by kernel_rfl
theorem QEA {W:World} (h:laidMet prog Rows.fnTextFirstRow.laid W):GV W:=by
 have rd:∀{n d},(n,d)∈Rows.fnTextFirstRow.laid->VarReads prog W n d:=λhm=>laidMet.reads h hm
 have t1:=Cv (g:=1) (ty:=208) DD DD underlying208 underlying5 DD DD (OEA▸rd (n:= "strings.asciiSpace") (d:=Rows.laid_strings_asciiSpace) (by simp[Rows.fnTextFirstRow]))
 have t15:=Cv (g:=15) (ty:=319) DD DD underlying319 underlying222 DD DD (PEA▸rd (n:= "internal/strconv.uint64pow10") (d:=Rows.laid_internal_strconv_uint64pow10) (by simp[Rows.fnTextFirstRow]))
 intro x hx
 simp only[rG,List.mem_cons,List.mem_nil_iff,or_false]at hx
 rcases hx with rfl|rfl|rfl|rfl|rfl|rfl|rfl|rfl|rfl
 ·exact tS DD DD (rd (n:= "pub-hebdomad/pub/rrule.MO") (d:=Rows.laid_pub_hebdomad_pub_rrule_MO) (by simp[Rows.fnTextFirstRow]))
 ·have e:zX=(Lh.map λz=>Value.int .u8 z).toArray:=by unfold zX Lh;rw[List.map_map];rfl
  rw[e];exact t1
 ·exact tS DD DD (rd (n:= "pub-hebdomad/pub/rrule.TU") (d:=Rows.laid_pub_hebdomad_pub_rrule_TU) (by simp[Rows.fnTextFirstRow]))
 ·exact tS DD DD (rd (n:= "pub-hebdomad/pub/rrule.WE") (d:=Rows.laid_pub_hebdomad_pub_rrule_WE) (by simp[Rows.fnTextFirstRow]))
 ·exact tS DD DD (rd (n:= "pub-hebdomad/pub/rrule.TH") (d:=Rows.laid_pub_hebdomad_pub_rrule_TH) (by simp[Rows.fnTextFirstRow]))
 ·exact tS DD DD (rd (n:= "pub-hebdomad/pub/rrule.FR") (d:=Rows.laid_pub_hebdomad_pub_rrule_FR) (by simp[Rows.fnTextFirstRow]))
 ·exact tS DD DD (rd (n:= "pub-hebdomad/pub/rrule.SA") (d:=Rows.laid_pub_hebdomad_pub_rrule_SA) (by simp[Rows.fnTextFirstRow]))
 ·exact tS DD DD (rd (n:= "pub-hebdomad/pub/rrule.SU") (d:=Rows.laid_pub_hebdomad_pub_rrule_SU) (by simp[Rows.fnTextFirstRow]))
 ·have e:AY=(Mh.map λz=>Value.int .u64 z).toArray:=by unfold AY Mh;rw[List.map_map];rfl
  rw[e];exact t15
theorem REA {W W':World} {G:wA} (h:MH W (λ_=>False) (WA []) G W'):Below W.heap.size W W':=⟨h.os,h.tape,h.output,h.size,λk hk=>h.eE k hk (λx=>x)⟩
theorem SEA:ownKnob prog.godebug=none:=by kernel_rfl
theorem TEA:laidOutB prog=true:=by kernel_rfl
theorem lifted (os:Os) (started:os.Started) (H:Type) (zK:TypeId×Value->H):
  ReturnsInHanded {} checked os 3 .any (λw args=>(Rows.fnTextFirstSpec.pre zK prog f3 [] false w args/\laidMetH prog Rows.fnTextFirstRow.laid w)/\sizedMet zK prog f3 (OpenSpec.ofChange Rows.fnTextFirstSpec) false w args)
   (Rows.fnTextFirstSpec.post zK prog f3 false true false false):=by
 refine returnsInHanded_of_change_and (C:=checked) (X:=λw _=>laidMetH prog Rows.fnTextFirstRow.laid w) (λ_ _ _ hh h=>h.of_heap hh) SEA started DD func3
  (ChangeSpec.witness_shaped (enc:=zK) (C:=checked) (os:=os) (X:=λw _=>laidMetH prog Rows.fnTextFirstRow.laid w) false (World.laidAll prog os Rows.fnTextFirstRow.laid)
   #[.agg #[.int .u8 0, .bool false, .int .i64 0, .int .i64 0, .int .i64 0, .int .i64 0, .bool false, .int .i64 0, .slice none 0 0, .slice none 0 0, .slice none 0 0, .slice none 0 0, .slice none 0 0, .slice none 0 0, .slice none 0 0, .slice none 0 0, .slice none 0 0, .slice none 0 0], .int .u8 0] 8 (World.laidAll_os _ _ _)
   (World.shaped_of_ZipB DD DD) DD DD DD
   (by rw[MakeChecks.laidMetH_plain _ _ _ DD];exact laidMet_laidAll _ DD DD)) ?_
 intro W base args ds gs before UEA hW _ _ hL _
 have LM:∀(j:Nat) t v,f3.params[j]? =some t->args[j]? =some v->Value.okWide prog W .any base t v:=UEA
 have Nh:=hW
 obtain⟨p,q,hA0,hV,rfl,_,_⟩:=hW
 have hA:DataW.TrodAll zK prog W 0 (λ_=>true) true f3.params.toList args.toList ds p:=hA0
 rw[params3]at hA LM
 obtain⟨v0,v1,d0,d1,p0,p1,rfl,rfl,rfl,h0,D⟩:=trodAll_two hA
 obtain⟨rfl,rfl⟩:=trodVars_none hV
 obtain⟨x,rfl,rfl,rfl,wx⟩:=open_int underlying5 (LM 1 5 v1 rfl rfl) D
 have hx:0<=x/\x<=255:=by simpa [Lit.wf,IntKind.min,IntKind.max,IntKind.signed,IntKind.bits]using wx
 obtain⟨k,rfl⟩:∃k:Nat,x=(k:Int):=⟨x.toNat,O⟩
 obtain⟨J,ys,G,rfl,KG,hu,hd,hM⟩:=LEA (LM 0 25 v0 rfl rfl) h0
 simp only[List.append_nil]at Nh
 rw[MakeChecks.laidMetH_plain _ _ _ DD]at hL
 have hG:GW W (λ_=>False):=⟨QEA hL,λ_ _ h=>h⟩
 have hF:=(GEA J KG k O).2 W (λ_=>False) G [.agg (List.toArray ys), .int .u8 k] hG hu hM (ZA.cons ⟨ys,rfl,hd⟩ (ZA.cons rfl rfl))
 refine Calls.mono hF λe W' ⟨y,uA,he,_,_,hy,mJ⟩=> ?_
 subst he
 have Z:=REA mJ
 have kI:y= .bool true:=hy
 subst kI
 have fA:∀z∈p0,z.block<W.heap.size:=λz hz=>by simpa using Nh.lt z (by simpa using hz)
 exact⟨_,rfl,_,_,_,[],_,[],Nh,trodAll_mk1 (shut_bool underlying4 _),trodAll_mk2 (Below.trod TEA DD (of_decide_eq_true DD) h0 Z fA) (shut_int underlying5 wx),rfl,Z.frame _,λh=>by cases h⟩
theorem sEA:Rows.FnTextFirstSaid:=
 OpenClaim.holds_of_wide 3 f3 rfl rfl rfl rfl rfl rfl rfl ⟨rfl,rfl,rfl,rfl,rfl⟩ rfl rfl rfl rfl rfl name3 func3 rEA inst3 wrap3
  (λos started H zK _=>lifted os started H zK)
end En
section
open Go.Proofs.Tryz
theorem fnTextFirst_holds:Rows.FnTextFirstCardSaid:=
 Claim7.holds_tied_plain_at .later [] [.data, .data, .data, .data, .sentinel, .sentinel, .listed, .data, .data, .data, .data, .data, .data, .data, .data, .pinned, .pinned] true (true, "aec5c209156b59f3f83c7578c75a7ded575467e281e896b4af0ff350840bfd89") true
  En.sEA (λ_ h=>by cases h) DD (λ_ h=>by cases h) fnTextFirst_row_tie rfl ⟨rfl,rfl⟩ DD rfl
  (λf fn hf MV=>by
   obtain rfl:f=3:=Option.some.inj ((show prog.funcNamed "pub-hebdomad/laws.FnTextFirst" =some 3 from En.name3).symm.trans hf)|>.symm
   obtain rfl:fn=f3:=(Option.some.inj (func3.symm.trans MV)).symm
   exact⟨by kernel_rfl,λj t ht=>by
    rw[params3]at ht
    have hm:t∈[25,5]:=by simpa using Array.mem_of_getElem? ht
    have vD:([25,5].all λu=> !prog.wantsStandIn u)=true:=by kernel_rfl
    exact(show prog.wantsStandIn t=false by simpa using List.all_eq_true.1 vD t hm)⟩)
  DD
end
end Go.Proofs.YtkidgehblodbcaaGreatDoor
