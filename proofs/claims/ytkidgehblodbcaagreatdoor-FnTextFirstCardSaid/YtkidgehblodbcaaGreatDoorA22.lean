/- A part of the proof of FnTextFirst: a rule's text, written and read, walked. -/
import Derived.Test.YtkidgehblodbcaaGreatDoorA21
set_option linter.all false
set_option maxRecDepth 100000
set_option maxHeartbeats 16000000
namespace Go.Proofs.YtkidgehblodbcaaGreatDoor
namespace En
open Go.RowKit Go.Proofs.Tryz
def yK (a:Nat) (o:yB):HS:=[(a,some (.X 1 3 (A (o.ls.getD 0 [])))),(a+1,some (.X 1 3 (A (o.ls.getD 1 [])))),(a+2,some (.X 1 3 (A (o.ls.getD 2 [])))),(a+3,some (.X 1 3 (A (o.ls.getD 3 [])))),(a+4,some (.X 1 3 (A (o.ls.getD 4 [])))),(a+5,some (.X 2 53 (xA o.FA))),(a+6,some (.X 1 3 (A (o.ls.getD 5 [])))),(a+7,some (.X 1 3 (A (o.ls.getD 6 [])))),(a+8,some (.X 1 3 (A (o.ls.getD 7 [])))),(a+9,some (.X 1 3 (A (o.ls.getD 8 []))))]
theorem IDA {a:pA} (h:a.Ok):a.val≠[]:=by
 cases a with
 |BA f=>rcases(by have:f<7:=h;omega:f=0\/f=1\/f=2\/f=3\/f=4\/f=5\/f=6)with rfl|rfl|rfl|rfl|rfl|rfl|rfl<;>decide
 |EA n=>intro e;have D:Lib.itoa n=[]:=e;unfold Lib.itoa at D;split at D<;>first|cases D|exact TU _ D
 |HB w=>have D:=sX (w:=w) h;intro e;have e:aF.getD w []=[]:=e;rw[e]at D;cases D
 |EB n=>intro e;have D:Lib.itoa n=[]:=e;unfold Lib.itoa at D;split at D<;>first|cases D|exact TU _ D
 |XA t=>have D:=CP (t:=t) h;intro e;have e:DF t=[]:=e;rw[e]at D;cases D
 |A k l=>
  intro e
  have e:Lib.join (l.map Lib.itoa) [44]=[]:=e
  obtain⟨_,D,_⟩:=h
  match l,D,e with
  |a::r,_,e=>
   rw[List.map_cons,Lib.join_cons]at e
   have:=(List.append_eq_nil_iff.1 e).1
   unfold Lib.itoa at this;split at this<;>first|cases this|exact TU _ this
 |days l=>
  intro e
  have e:Lib.join (l.map ZE) [44]=[]:=e
  obtain⟨D,_,h2⟩:=h
  match l,D,h2,e with
  |a::r,_,h2,e=>
   rw[List.map_cons,Lib.join_cons]at e
   have:=(List.append_eq_nil_iff.1 e).1
   have h3:=h2 a (by simp)
   have h4:=sX (w:=a.1.toNat) O
   have h5:2<=(ZE a).length:=by unfold ZE;split;(·omega);(·rw[List.length_append];omega)
   rw[this]at h5;simp at h5
theorem Ju {a:pA} (h:a.Ok):(61:UInt8)∉a.key/\(61:UInt8)∉a.val:=⟨(pq a).nm (by decide),(qq a).nm (by decide)⟩
theorem JDA {a:pA} (h:a.Ok):Fn prog 114 [S a.text,S [61]] [] 0 (.s 0 0 2) [(0,some (.X 1 9 (strs [a.key,a.val])))] 1:=by
 have hl:=tX h
 have e:Lib.join [a.key,a.val] [61]=a.text:=by rw[wR,Lib.join_one];rfl
 have:=HO [a.key,a.val] 61 (by simp) (λp hp=>by
  simp only[List.mem_cons,List.mem_singleton,List.not_mem_nil,or_false]at hp
  rcases hp with rfl|rfl
  ·exact(Ju h).1
  ·exact(Ju h).2) (by simp) (by rw[e];omega)
 rwa [e]at this
abbrev bH (n i:Nat) (b:Bool):FS:=[(3, .u (.p 0 0)),(9, .u (.p 1 0)),(10, .u (B b)),(70, .u (.s 12 0 n)),(71, .u (I n)),(72, .u (I i))]
abbrev UE (o:yB) (ts:List yA):HS:=[(0,some (.st [])),(1,some (.st (tE 2 o)))]++yK 2 o++[(12,some (.X 1 9 (strs ts)))]
def Ku (o0:yB) (MF:List pA):MB {i:Nat//i<=MF.length}where
 F i:=bH MF.length i.1 (decide (0<i.1))
 H i:=UE ((MF.take i.1).foldl pA.put o0) (MF.map pA.text)
 n i:=13
theorem KDA (a:pA) (o:yB):(pA.put o a).ls.length=o.ls.length:=by cases a<;>simp[pA.put]
theorem Lu:∀(MF:List pA) (o:yB),(MF.foldl pA.put o).ls.length=o.ls.length
 |[],o=>rfl
 |a::MF,o=>by rw[List.foldl_cons,Lu MF,KDA]
theorem XG {LA:Nat->Nat} {H H':HS} (h:lC LA H H':=by repeat' (first|exact trivial|refine And.intro (RM rfl rfl) ?_|refine And.intro (gA rfl rfl) ?_|refine And.intro (fD rfl rfl) ?_|refine And.intro rfl ?_)):lC LA H H':=h
def bS (k:Nat):Code->Option Code
 | .region i o d=>bif Nat.beq i k then some (.region i o d)else none
 | .seq x y=>match bS k x with|some c=>some c|none=>bS k y
 | .cond _ x y=>match bS k x with|some c=>some c|none=>bS k y
 | .block _ x=>bS k x
 | .loop x=>bS k x
 |_=>none
abbrev cR (f:Func) (k:Nat):Code:=(f.body.bind (ID k)).getD .skip
abbrev jJ (f:Func) (C:Cx) (Q:QT):QT:=rL C (cR f 68) (UT 2 (rL C ((f.body.bind (bS 70)).getD .skip) Q))
abbrev kJ (n i:Nat) (b:Bool) (k v:yA):FS:=bH n i b++[(16, .u (S k)),(17, .u (S v)),(18, .u (.v .nilIface))]
theorem LDA {w:World} {W:Nat->Prop} {G:wA} {g:GW w W} {Q:QT} (ts:List yA) (i:Nat) (b:Bool) (hi:i<ts.length) (o:yB) (a:pA) (ha:pA.Ok a) (ht:ts.getD i []=pA.text a)
  (h:En.T (cx w W f68.ntmps (KA dC) 0 G g) (cR f68 33) (kJ ts.length i b a.key a.val) (UE o ts) 13 (jJ f68 (cx w W f68.ntmps (KA dC) 0 G g) Q)):
  En.T (cx w W f68.ntmps (KA dC) 0 G g) (cR f68 24) (bH ts.length i b) (UE o ts) 13 Q:=by
 have qG:=JDA ha
 have yg:ts.getD (0+(i:Int).toNat*1) []=pA.text a:=by rw[show 0+(i:Int).toNat*1=i by omega];exact ht
 have hvn:=IDA ha
 have hvl:0<(pA.val a).length:=List.length_pos_iff.2 hvn
 have MDA:((((⟨(pA.val a).toArray⟩:ByteArray).size:Nat):Int)==0)=false:=by
  have e:(⟨(pA.val a).toArray⟩:ByteArray).size=(pA.val a).length:=rfl
  rw[e];simp;omega
 repeat' (first
  |refine FG 33 ?_
  |refine cT 73 rfl eA ?_
  |refine cF 80 rfl rfl ?_
  |refine cF 90 rfl MDA ?_
  |refine tk ?_
  |(refine AB 114 ?_;refine cA.V [] func114 rfl rfl (λ_=>qG) rfl rfl (by rw[yg];rfl) (λ_=>U) ?_)
  |refine And.intro sd ?_
  |refine qd (hk:= ?_)
  |refine qm (hk:= ?_)
  |refine na O ?_
  |refine And.intro (λ_=>by show(0:Int)<=0/\(0:Int)<2;omega) ?_
  |refine And.intro (λ_=>by show(0:Int)<=1/\(1:Int)<2;omega) ?_
  |refine CA ?_|refine an ?_ ?_|(intro Z;try simp at Z))
 refine Stop.mk (mB (l:=[]) (eN eF XG) h)
theorem cA.W {C:Cx} {f:Nat} {eB:List SV} {H:HS} {Y:Nat} {c0:Bool} {k:QD->Prop} {fn:Func} {zC:List SV} {len es:Nat} {e:TypeId} {xs:List SV} (hf:prog.funcs[f]? =some fn) (hP:C.P=prog) (Z:fn.body.isNone=false)
  (h:c0=true->Fn prog f zC [] 0 (.jA [.s 0 0 len, .v .nilIface]) [(0,some (.X es e xs))] 1) (hx:∀LA,YA LA xs=xs) (YC:eB=YA (mp [] 0 1 Y) zC) (hk:k ⟨.jA [.s Y 0 len, .v .nilIface],[(Y,some (.X es e xs))],Y+2,[]⟩):cA C f eB H Y c0 k:=by
 have D:mp [] 0 1 Y 0=Y:=by simp[mp]
 refine cA.F [] hf hP Z h rfl YC (λ_=>U) (s:= .jA [.s Y 0 len, .v .nilIface]) (by simp only[SV.IB,YA,List.map,D]) (wh:=[(Y,some (.X es e xs))]) (by simp[ED,D,WA,lD,DA.IB,hx,iC]) ?_
 exact hk
theorem NDA {w:World} {W:Nat->Prop} {G:wA} {g:GW w W} {Q:QT} (n i:Nat) (hi:i<n) (hn:n<=100) (b:Bool) (ts:List yA) (f st EA wk EB XA:Int) (l0 l1 l2 l3 l4 l5 l6 l7 l8:List Int) (FA:List (Int×Int)) (q:Nat) (ha:pA.Ok (.BA q))
  (hQ:∀F H Y,(∃l,OA (cx w W f68.ntmps (KA dC) 0 G g) l F H Y (bH n (i+1) true) (UE (pA.put ⟨f,st,EA,wk,EB,XA,[l0,l1,l2,l3,l4,l5,l6,l7,l8],FA⟩ (.BA q)) ts) 13)->Q .normal F H Y):
  En.T (cx w W f68.ntmps (KA dC) 0 G g) (cR f68 33) (kJ n i b (pA.key (.BA q)) (pA.val (.BA q))) (UE ⟨f,st,EA,wk,EB,XA,[l0,l1,l2,l3,l4,l5,l6,l7,l8],FA⟩ ts) 13 (jJ f68 (cx w W f68.ntmps (KA dC) 0 G g) Q):=by
 repeat' (first
  |refine cF 229 rfl rfl ?_
  |refine cT 98 rfl (by rw[BB];rfl) ?_
  |refine tk ?_
  |refine cz 118 func118 (λ_=>pCA q ha) ?_
  |refine CA ?_|refine an ?_ ?_|(intro Z;try simp at Z))
 exact hQ _ _ _ ⟨[],eN eF XG⟩
theorem ODA {w:World} {W:Nat->Prop} {G:wA} {g:GW w W} {Q:QT} (n i:Nat) (hi:i<n) (hn:n<=100) (b:Bool) (ts:List yA) (f st EA wk EB XA:Int) (l0 l1 l2 l3 l4 l5 l6 l7 l8:List Int) (FA:List (Int×Int)) (q:Int) (ha:pA.Ok (.EA q))
  (hQ:∀F H Y,(∃l,OA (cx w W f68.ntmps (KA dC) 0 G g) l F H Y (bH n (i+1) b) (UE (pA.put ⟨f,st,EA,wk,EB,XA,[l0,l1,l2,l3,l4,l5,l6,l7,l8],FA⟩ (.EA q)) ts) 13)->Q .normal F H Y):
  En.T (cx w W f68.ntmps (KA dC) 0 G g) (cR f68 33) (kJ n i b (pA.key (.EA q)) (pA.val (.EA q))) (UE ⟨f,st,EA,wk,EB,XA,[l0,l1,l2,l3,l4,l5,l6,l7,l8],FA⟩ ts) 13 (jJ f68 (cx w W f68.ntmps (KA dC) 0 G g) Q):=by
 repeat' (first
  |refine cF 229 rfl rfl ?_
  |refine cF 98 rfl (by rw[BB];rfl) ?_
  |refine cF 106 rfl (by rw[BB];rfl) ?_
  |refine cT 115 rfl (by rw[BB];rfl) ?_
  |refine tk ?_
  |(refine AB 120 ?_;refine iJ (.jA [I q, .v .nilIface]) func120 rfl rfl (λ_=>ia (Lib.itoa q) q (by have:=GM (n:=q) (by have: -100000<q/\q<100000:=ha;omega);omega) (yZ _)) rfl rfl rfl ?_)
  |refine CA ?_|refine an ?_ ?_|(intro Z;try simp at Z))
 exact hQ _ _ _ ⟨[],eN eF XG⟩
theorem PDA {w:World} {W:Nat->Prop} {G:wA} {g:GW w W} {Q:QT} (n i:Nat) (hi:i<n) (hn:n<=100) (b:Bool) (ts:List yA) (f st EA wk EB XA:Int) (l0 l1 l2 l3 l4 l5 l6 l7 l8:List Int) (FA:List (Int×Int)) (q:Nat) (ha:pA.Ok (.HB q))
  (hQ:∀F H Y,(∃l,OA (cx w W f68.ntmps (KA dC) 0 G g) l F H Y (bH n (i+1) b) (UE (pA.put ⟨f,st,EA,wk,EB,XA,[l0,l1,l2,l3,l4,l5,l6,l7,l8],FA⟩ (.HB q)) ts) 13)->Q .normal F H Y):
  En.T (cx w W f68.ntmps (KA dC) 0 G g) (cR f68 33) (kJ n i b (pA.key (.HB q)) (pA.val (.HB q))) (UE ⟨f,st,EA,wk,EB,XA,[l0,l1,l2,l3,l4,l5,l6,l7,l8],FA⟩ ts) 13 (jJ f68 (cx w W f68.ntmps (KA dC) 0 G g) Q):=by
 repeat' (first
  |refine cF 229 rfl rfl ?_
  |refine cF 98 rfl (by rw[BB];rfl) ?_
  |refine cF 106 rfl (by rw[BB];rfl) ?_
  |refine cF 115 rfl (by rw[BB];rfl) ?_
  |refine cT 123 rfl (by rw[BB];rfl) ?_
  |refine tk ?_
  |refine cz 121 func121 (λ_=>yt (q:Int) 0 ⟨O,by have:q<7:=ha;omega⟩ ⟨O,O⟩) ?_
  |refine CA ?_|refine an ?_ ?_|(intro Z;try simp at Z))
 exact hQ _ _ _ ⟨[],eN eF XG⟩
theorem QDA {w:World} {W:Nat->Prop} {G:wA} {g:GW w W} {Q:QT} (n i:Nat) (hi:i<n) (hn:n<=100) (b:Bool) (ts:List yA) (f st EA wk EB XA:Int) (l0 l1 l2 l3 l4 l5 l6 l7 l8:List Int) (FA:List (Int×Int)) (q:Int) (ha:pA.Ok (.EB q))
  (hQ:∀F H Y,(∃l,OA (cx w W f68.ntmps (KA dC) 0 G g) l F H Y (bH n (i+1) b) (UE (pA.put ⟨f,st,EA,wk,EB,XA,[l0,l1,l2,l3,l4,l5,l6,l7,l8],FA⟩ (.EB q)) ts) 13)->Q .normal F H Y):
  En.T (cx w W f68.ntmps (KA dC) 0 G g) (cR f68 33) (kJ n i b (pA.key (.EB q)) (pA.val (.EB q))) (UE ⟨f,st,EA,wk,EB,XA,[l0,l1,l2,l3,l4,l5,l6,l7,l8],FA⟩ ts) 13 (jJ f68 (cx w W f68.ntmps (KA dC) 0 G g) Q):=by
 repeat' (first
  |refine cF 229 rfl rfl ?_
  |refine cF 98 rfl (by rw[BB];rfl) ?_
  |refine cF 106 rfl (by rw[BB];rfl) ?_
  |refine cF 115 rfl (by rw[BB];rfl) ?_
  |refine cF 123 rfl (by rw[BB];rfl) ?_
  |refine cT 131 rfl (by rw[BB];rfl) ?_
  |refine tk ?_
  |(refine AB 120 ?_;refine iJ (.jA [I q, .v .nilIface]) func120 rfl rfl (λ_=>ia (Lib.itoa q) q (by have:=GM (n:=q) (by have: -100000<q/\q<100000:=ha;omega);omega) (yZ _)) rfl rfl rfl ?_)
  |refine CA ?_|refine an ?_ ?_|(intro Z;try simp at Z))
 exact hQ _ _ _ ⟨[],eN eF XG⟩
theorem RDA {w:World} {W:Nat->Prop} {G:wA} {g:GW w W} {Q:QT} (n i:Nat) (hi:i<n) (hn:n<=100) (b:Bool) (ts:List yA) (f st EA wk EB XA:Int) (l0 l1 l2 l3 l4 l5 l6 l7 l8:List Int) (FA:List (Int×Int)) (q:Int) (ha:pA.Ok (.XA q))
  (hQ:∀F H Y,(∃l,OA (cx w W f68.ntmps (KA dC) 0 G g) l F H Y (bH n (i+1) b) (UE (pA.put ⟨f,st,EA,wk,EB,XA,[l0,l1,l2,l3,l4,l5,l6,l7,l8],FA⟩ (.XA q)) ts) 13)->Q .normal F H Y):
  En.T (cx w W f68.ntmps (KA dC) 0 G g) (cR f68 33) (kJ n i b (pA.key (.XA q)) (pA.val (.XA q))) (UE ⟨f,st,EA,wk,EB,XA,[l0,l1,l2,l3,l4,l5,l6,l7,l8],FA⟩ ts) 13 (jJ f68 (cx w W f68.ntmps (KA dC) 0 G g) Q):=by
 repeat' (first
  |refine cF 229 rfl rfl ?_
  |refine cF 98 rfl (by rw[BB];rfl) ?_
  |refine cF 106 rfl (by rw[BB];rfl) ?_
  |refine cF 115 rfl (by rw[BB];rfl) ?_
  |refine cF 123 rfl (by rw[BB];rfl) ?_
  |refine cF 131 rfl (by rw[BB];rfl) ?_
  |refine cT 139 rfl (by rw[BB];rfl) ?_
  |refine tk ?_
  |refine cz 119 func119 (λ_=>nt q ha) ?_
  |refine CA ?_|refine an ?_ ?_|(intro Z;try simp at Z))
 exact hQ _ _ _ ⟨[],eN eF XG⟩
theorem SDA {w:World} {W:Nat->Prop} {G:wA} {g:GW w W} {Q:QT} (n i:Nat) (hi:i<n) (hn:n<=100) (b:Bool) (ts:List yA) (f st EA wk EB XA:Int) (l0 l1 l2 l3 l4 l5 l6 l7 l8:List Int) (FA:List (Int×Int)) (q:List Int) (ha:pA.Ok (.A 0 q))
  (hQ:∀F H Y,(∃l,OA (cx w W f68.ntmps (KA dC) 0 G g) l F H Y (bH n (i+1) b) (UE (pA.put ⟨f,st,EA,wk,EB,XA,[l0,l1,l2,l3,l4,l5,l6,l7,l8],FA⟩ (.A 0 q)) ts) 13)->Q .normal F H Y):
  En.T (cx w W f68.ntmps (KA dC) 0 G g) (cR f68 33) (kJ n i b (pA.key (.A 0 q)) (pA.val (.A 0 q))) (UE ⟨f,st,EA,wk,EB,XA,[l0,l1,l2,l3,l4,l5,l6,l7,l8],FA⟩ ts) 13 (jJ f68 (cx w W f68.ntmps (KA dC) 0 G g) Q):=by
 repeat' (first
  |refine cF 229 rfl rfl ?_
  |refine cF 98 rfl (by rw[BB];rfl) ?_
  |refine cF 106 rfl (by rw[BB];rfl) ?_
  |refine cF 115 rfl (by rw[BB];rfl) ?_
  |refine cF 123 rfl (by rw[BB];rfl) ?_
  |refine cF 131 rfl (by rw[BB];rfl) ?_
  |refine cF 139 rfl (by rw[BB];rfl) ?_
  |refine cT 148 rfl (by rw[BB];rfl) ?_
  |refine tk ?_
  |(refine AB 122 ?_;refine cA.W func122 rfl rfl (λ_=>NP q ha.2.1 ha.2.2.1 ha.2.2.2) (λLA=>kD LA q) rfl ?_)
  |refine CA ?_|refine an ?_ ?_|(intro Z;try simp at Z))
 exact hQ _ _ _ ⟨[(2,13)],eL [(2,13)] eF XG⟩
theorem TDA {w:World} {W:Nat->Prop} {G:wA} {g:GW w W} {Q:QT} (n i:Nat) (hi:i<n) (hn:n<=100) (b:Bool) (ts:List yA) (f st EA wk EB XA:Int) (l0 l1 l2 l3 l4 l5 l6 l7 l8:List Int) (FA:List (Int×Int)) (q:List Int) (ha:pA.Ok (.A 1 q))
  (hQ:∀F H Y,(∃l,OA (cx w W f68.ntmps (KA dC) 0 G g) l F H Y (bH n (i+1) b) (UE (pA.put ⟨f,st,EA,wk,EB,XA,[l0,l1,l2,l3,l4,l5,l6,l7,l8],FA⟩ (.A 1 q)) ts) 13)->Q .normal F H Y):
  En.T (cx w W f68.ntmps (KA dC) 0 G g) (cR f68 33) (kJ n i b (pA.key (.A 1 q)) (pA.val (.A 1 q))) (UE ⟨f,st,EA,wk,EB,XA,[l0,l1,l2,l3,l4,l5,l6,l7,l8],FA⟩ ts) 13 (jJ f68 (cx w W f68.ntmps (KA dC) 0 G g) Q):=by
 repeat' (first
  |refine cF 229 rfl rfl ?_
  |refine cF 98 rfl (by rw[BB];rfl) ?_
  |refine cF 106 rfl (by rw[BB];rfl) ?_
  |refine cF 115 rfl (by rw[BB];rfl) ?_
  |refine cF 123 rfl (by rw[BB];rfl) ?_
  |refine cF 131 rfl (by rw[BB];rfl) ?_
  |refine cF 139 rfl (by rw[BB];rfl) ?_
  |refine cF 148 rfl (by rw[BB];rfl) ?_
  |refine cT 156 rfl (by rw[BB];rfl) ?_
  |refine tk ?_
  |(refine AB 122 ?_;refine cA.W func122 rfl rfl (λ_=>NP q ha.2.1 ha.2.2.1 ha.2.2.2) (λLA=>kD LA q) rfl ?_)
  |refine CA ?_|refine an ?_ ?_|(intro Z;try simp at Z))
 exact hQ _ _ _ ⟨[(3,13)],eL [(3,13)] eF XG⟩
theorem UDA {w:World} {W:Nat->Prop} {G:wA} {g:GW w W} {Q:QT} (n i:Nat) (hi:i<n) (hn:n<=100) (b:Bool) (ts:List yA) (f st EA wk EB XA:Int) (l0 l1 l2 l3 l4 l5 l6 l7 l8:List Int) (FA:List (Int×Int)) (q:List Int) (ha:pA.Ok (.A 2 q))
  (hQ:∀F H Y,(∃l,OA (cx w W f68.ntmps (KA dC) 0 G g) l F H Y (bH n (i+1) b) (UE (pA.put ⟨f,st,EA,wk,EB,XA,[l0,l1,l2,l3,l4,l5,l6,l7,l8],FA⟩ (.A 2 q)) ts) 13)->Q .normal F H Y):
  En.T (cx w W f68.ntmps (KA dC) 0 G g) (cR f68 33) (kJ n i b (pA.key (.A 2 q)) (pA.val (.A 2 q))) (UE ⟨f,st,EA,wk,EB,XA,[l0,l1,l2,l3,l4,l5,l6,l7,l8],FA⟩ ts) 13 (jJ f68 (cx w W f68.ntmps (KA dC) 0 G g) Q):=by
 repeat' (first
  |refine cF 229 rfl rfl ?_
  |refine cF 98 rfl (by rw[BB];rfl) ?_
  |refine cF 106 rfl (by rw[BB];rfl) ?_
  |refine cF 115 rfl (by rw[BB];rfl) ?_
  |refine cF 123 rfl (by rw[BB];rfl) ?_
  |refine cF 131 rfl (by rw[BB];rfl) ?_
  |refine cF 139 rfl (by rw[BB];rfl) ?_
  |refine cF 148 rfl (by rw[BB];rfl) ?_
  |refine cF 156 rfl (by rw[BB];rfl) ?_
  |refine cT 164 rfl (by rw[BB];rfl) ?_
  |refine tk ?_
  |(refine AB 122 ?_;refine cA.W func122 rfl rfl (λ_=>NP q ha.2.1 ha.2.2.1 ha.2.2.2) (λLA=>kD LA q) rfl ?_)
  |refine CA ?_|refine an ?_ ?_|(intro Z;try simp at Z))
 exact hQ _ _ _ ⟨[(4,13)],eL [(4,13)] eF XG⟩
theorem VDA {w:World} {W:Nat->Prop} {G:wA} {g:GW w W} {Q:QT} (n i:Nat) (hi:i<n) (hn:n<=100) (b:Bool) (ts:List yA) (f st EA wk EB XA:Int) (l0 l1 l2 l3 l4 l5 l6 l7 l8:List Int) (FA:List (Int×Int)) (q:List Int) (ha:pA.Ok (.A 3 q))
  (hQ:∀F H Y,(∃l,OA (cx w W f68.ntmps (KA dC) 0 G g) l F H Y (bH n (i+1) b) (UE (pA.put ⟨f,st,EA,wk,EB,XA,[l0,l1,l2,l3,l4,l5,l6,l7,l8],FA⟩ (.A 3 q)) ts) 13)->Q .normal F H Y):
  En.T (cx w W f68.ntmps (KA dC) 0 G g) (cR f68 33) (kJ n i b (pA.key (.A 3 q)) (pA.val (.A 3 q))) (UE ⟨f,st,EA,wk,EB,XA,[l0,l1,l2,l3,l4,l5,l6,l7,l8],FA⟩ ts) 13 (jJ f68 (cx w W f68.ntmps (KA dC) 0 G g) Q):=by
 repeat' (first
  |refine cF 229 rfl rfl ?_
  |refine cF 98 rfl (by rw[BB];rfl) ?_
  |refine cF 106 rfl (by rw[BB];rfl) ?_
  |refine cF 115 rfl (by rw[BB];rfl) ?_
  |refine cF 123 rfl (by rw[BB];rfl) ?_
  |refine cF 131 rfl (by rw[BB];rfl) ?_
  |refine cF 139 rfl (by rw[BB];rfl) ?_
  |refine cF 148 rfl (by rw[BB];rfl) ?_
  |refine cF 156 rfl (by rw[BB];rfl) ?_
  |refine cF 164 rfl (by rw[BB];rfl) ?_
  |refine cT 172 rfl (by rw[BB];rfl) ?_
  |refine tk ?_
  |(refine AB 122 ?_;refine cA.W func122 rfl rfl (λ_=>NP q ha.2.1 ha.2.2.1 ha.2.2.2) (λLA=>kD LA q) rfl ?_)
  |refine CA ?_|refine an ?_ ?_|(intro Z;try simp at Z))
 exact hQ _ _ _ ⟨[(5,13)],eL [(5,13)] eF XG⟩
theorem WDA {w:World} {W:Nat->Prop} {G:wA} {g:GW w W} {Q:QT} (n i:Nat) (hi:i<n) (hn:n<=100) (b:Bool) (ts:List yA) (f st EA wk EB XA:Int) (l0 l1 l2 l3 l4 l5 l6 l7 l8:List Int) (FA:List (Int×Int)) (q:List Int) (ha:pA.Ok (.A 4 q))
  (hQ:∀F H Y,(∃l,OA (cx w W f68.ntmps (KA dC) 0 G g) l F H Y (bH n (i+1) b) (UE (pA.put ⟨f,st,EA,wk,EB,XA,[l0,l1,l2,l3,l4,l5,l6,l7,l8],FA⟩ (.A 4 q)) ts) 13)->Q .normal F H Y):
  En.T (cx w W f68.ntmps (KA dC) 0 G g) (cR f68 33) (kJ n i b (pA.key (.A 4 q)) (pA.val (.A 4 q))) (UE ⟨f,st,EA,wk,EB,XA,[l0,l1,l2,l3,l4,l5,l6,l7,l8],FA⟩ ts) 13 (jJ f68 (cx w W f68.ntmps (KA dC) 0 G g) Q):=by
 repeat' (first
  |refine cF 229 rfl rfl ?_
  |refine cF 98 rfl (by rw[BB];rfl) ?_
  |refine cF 106 rfl (by rw[BB];rfl) ?_
  |refine cF 115 rfl (by rw[BB];rfl) ?_
  |refine cF 123 rfl (by rw[BB];rfl) ?_
  |refine cF 131 rfl (by rw[BB];rfl) ?_
  |refine cF 139 rfl (by rw[BB];rfl) ?_
  |refine cF 148 rfl (by rw[BB];rfl) ?_
  |refine cF 156 rfl (by rw[BB];rfl) ?_
  |refine cF 164 rfl (by rw[BB];rfl) ?_
  |refine cF 172 rfl (by rw[BB];rfl) ?_
  |refine cT 180 rfl (by rw[BB];rfl) ?_
  |refine tk ?_
  |(refine AB 122 ?_;refine cA.W func122 rfl rfl (λ_=>NP q ha.2.1 ha.2.2.1 ha.2.2.2) (λLA=>kD LA q) rfl ?_)
  |refine CA ?_|refine an ?_ ?_|(intro Z;try simp at Z))
 exact hQ _ _ _ ⟨[(6,13)],eL [(6,13)] eF XG⟩
theorem XDA {w:World} {W:Nat->Prop} {G:wA} {g:GW w W} {Q:QT} (n i:Nat) (hi:i<n) (hn:n<=100) (b:Bool) (ts:List yA) (f st EA wk EB XA:Int) (l0 l1 l2 l3 l4 l5 l6 l7 l8:List Int) (FA:List (Int×Int)) (q:List Int) (ha:pA.Ok (.A 5 q))
  (hQ:∀F H Y,(∃l,OA (cx w W f68.ntmps (KA dC) 0 G g) l F H Y (bH n (i+1) b) (UE (pA.put ⟨f,st,EA,wk,EB,XA,[l0,l1,l2,l3,l4,l5,l6,l7,l8],FA⟩ (.A 5 q)) ts) 13)->Q .normal F H Y):
  En.T (cx w W f68.ntmps (KA dC) 0 G g) (cR f68 33) (kJ n i b (pA.key (.A 5 q)) (pA.val (.A 5 q))) (UE ⟨f,st,EA,wk,EB,XA,[l0,l1,l2,l3,l4,l5,l6,l7,l8],FA⟩ ts) 13 (jJ f68 (cx w W f68.ntmps (KA dC) 0 G g) Q):=by
 repeat' (first
  |refine cF 229 rfl rfl ?_
  |refine cF 98 rfl (by rw[BB];rfl) ?_
  |refine cF 106 rfl (by rw[BB];rfl) ?_
  |refine cF 115 rfl (by rw[BB];rfl) ?_
  |refine cF 123 rfl (by rw[BB];rfl) ?_
  |refine cF 131 rfl (by rw[BB];rfl) ?_
  |refine cF 139 rfl (by rw[BB];rfl) ?_
  |refine cF 148 rfl (by rw[BB];rfl) ?_
  |refine cF 156 rfl (by rw[BB];rfl) ?_
  |refine cF 164 rfl (by rw[BB];rfl) ?_
  |refine cF 172 rfl (by rw[BB];rfl) ?_
  |refine cF 180 rfl (by rw[BB];rfl) ?_
  |refine cF 188 rfl (by rw[BB];rfl) ?_
  |refine cT 196 rfl (by rw[BB];rfl) ?_
  |refine tk ?_
  |(refine AB 122 ?_;refine cA.W func122 rfl rfl (λ_=>NP q ha.2.1 ha.2.2.1 ha.2.2.2) (λLA=>kD LA q) rfl ?_)
  |refine CA ?_|refine an ?_ ?_|(intro Z;try simp at Z))
 exact hQ _ _ _ ⟨[(8,13)],eL [(8,13)] eF XG⟩
theorem YDA {w:World} {W:Nat->Prop} {G:wA} {g:GW w W} {Q:QT} (n i:Nat) (hi:i<n) (hn:n<=100) (b:Bool) (ts:List yA) (f st EA wk EB XA:Int) (l0 l1 l2 l3 l4 l5 l6 l7 l8:List Int) (FA:List (Int×Int)) (q:List Int) (ha:pA.Ok (.A 6 q))
  (hQ:∀F H Y,(∃l,OA (cx w W f68.ntmps (KA dC) 0 G g) l F H Y (bH n (i+1) b) (UE (pA.put ⟨f,st,EA,wk,EB,XA,[l0,l1,l2,l3,l4,l5,l6,l7,l8],FA⟩ (.A 6 q)) ts) 13)->Q .normal F H Y):
  En.T (cx w W f68.ntmps (KA dC) 0 G g) (cR f68 33) (kJ n i b (pA.key (.A 6 q)) (pA.val (.A 6 q))) (UE ⟨f,st,EA,wk,EB,XA,[l0,l1,l2,l3,l4,l5,l6,l7,l8],FA⟩ ts) 13 (jJ f68 (cx w W f68.ntmps (KA dC) 0 G g) Q):=by
 repeat' (first
  |refine cF 229 rfl rfl ?_
  |refine cF 98 rfl (by rw[BB];rfl) ?_
  |refine cF 106 rfl (by rw[BB];rfl) ?_
  |refine cF 115 rfl (by rw[BB];rfl) ?_
  |refine cF 123 rfl (by rw[BB];rfl) ?_
  |refine cF 131 rfl (by rw[BB];rfl) ?_
  |refine cF 139 rfl (by rw[BB];rfl) ?_
  |refine cF 148 rfl (by rw[BB];rfl) ?_
  |refine cF 156 rfl (by rw[BB];rfl) ?_
  |refine cF 164 rfl (by rw[BB];rfl) ?_
  |refine cF 172 rfl (by rw[BB];rfl) ?_
  |refine cF 180 rfl (by rw[BB];rfl) ?_
  |refine cF 188 rfl (by rw[BB];rfl) ?_
  |refine cF 196 rfl (by rw[BB];rfl) ?_
  |refine cT 204 rfl (by rw[BB];rfl) ?_
  |refine tk ?_
  |(refine AB 122 ?_;refine cA.W func122 rfl rfl (λ_=>NP q ha.2.1 ha.2.2.1 ha.2.2.2) (λLA=>kD LA q) rfl ?_)
  |refine CA ?_|refine an ?_ ?_|(intro Z;try simp at Z))
 exact hQ _ _ _ ⟨[(9,13)],eL [(9,13)] eF XG⟩
theorem ZDA {w:World} {W:Nat->Prop} {G:wA} {g:GW w W} {Q:QT} (n i:Nat) (hi:i<n) (hn:n<=100) (b:Bool) (ts:List yA) (f st EA wk EB XA:Int) (l0 l1 l2 l3 l4 l5 l6 l7 l8:List Int) (FA:List (Int×Int)) (q:List Int) (ha:pA.Ok (.A 7 q))
  (hQ:∀F H Y,(∃l,OA (cx w W f68.ntmps (KA dC) 0 G g) l F H Y (bH n (i+1) b) (UE (pA.put ⟨f,st,EA,wk,EB,XA,[l0,l1,l2,l3,l4,l5,l6,l7,l8],FA⟩ (.A 7 q)) ts) 13)->Q .normal F H Y):
  En.T (cx w W f68.ntmps (KA dC) 0 G g) (cR f68 33) (kJ n i b (pA.key (.A 7 q)) (pA.val (.A 7 q))) (UE ⟨f,st,EA,wk,EB,XA,[l0,l1,l2,l3,l4,l5,l6,l7,l8],FA⟩ ts) 13 (jJ f68 (cx w W f68.ntmps (KA dC) 0 G g) Q):=by
 repeat' (first
  |refine cF 229 rfl rfl ?_
  |refine cF 98 rfl (by rw[BB];rfl) ?_
  |refine cF 106 rfl (by rw[BB];rfl) ?_
  |refine cF 115 rfl (by rw[BB];rfl) ?_
  |refine cF 123 rfl (by rw[BB];rfl) ?_
  |refine cF 131 rfl (by rw[BB];rfl) ?_
  |refine cF 139 rfl (by rw[BB];rfl) ?_
  |refine cF 148 rfl (by rw[BB];rfl) ?_
  |refine cF 156 rfl (by rw[BB];rfl) ?_
  |refine cF 164 rfl (by rw[BB];rfl) ?_
  |refine cF 172 rfl (by rw[BB];rfl) ?_
  |refine cF 180 rfl (by rw[BB];rfl) ?_
  |refine cF 188 rfl (by rw[BB];rfl) ?_
  |refine cF 196 rfl (by rw[BB];rfl) ?_
  |refine cF 204 rfl (by rw[BB];rfl) ?_
  |refine cT 212 rfl (by rw[BB];rfl) ?_
  |refine tk ?_
  |(refine AB 122 ?_;refine cA.W func122 rfl rfl (λ_=>NP q ha.2.1 ha.2.2.1 ha.2.2.2) (λLA=>kD LA q) rfl ?_)
  |refine CA ?_|refine an ?_ ?_|(intro Z;try simp at Z))
 exact hQ _ _ _ ⟨[(10,13)],eL [(10,13)] eF XG⟩
theorem aDA {w:World} {W:Nat->Prop} {G:wA} {g:GW w W} {Q:QT} (n i:Nat) (hi:i<n) (hn:n<=100) (b:Bool) (ts:List yA) (f st EA wk EB XA:Int) (l0 l1 l2 l3 l4 l5 l6 l7 l8:List Int) (FA:List (Int×Int)) (q:List Int) (ha:pA.Ok (.A 8 q))
  (hQ:∀F H Y,(∃l,OA (cx w W f68.ntmps (KA dC) 0 G g) l F H Y (bH n (i+1) b) (UE (pA.put ⟨f,st,EA,wk,EB,XA,[l0,l1,l2,l3,l4,l5,l6,l7,l8],FA⟩ (.A 8 q)) ts) 13)->Q .normal F H Y):
  En.T (cx w W f68.ntmps (KA dC) 0 G g) (cR f68 33) (kJ n i b (pA.key (.A 8 q)) (pA.val (.A 8 q))) (UE ⟨f,st,EA,wk,EB,XA,[l0,l1,l2,l3,l4,l5,l6,l7,l8],FA⟩ ts) 13 (jJ f68 (cx w W f68.ntmps (KA dC) 0 G g) Q):=by
 repeat' (first
  |refine cF 229 rfl rfl ?_
  |refine cF 98 rfl (by rw[BB];rfl) ?_
  |refine cF 106 rfl (by rw[BB];rfl) ?_
  |refine cF 115 rfl (by rw[BB];rfl) ?_
  |refine cF 123 rfl (by rw[BB];rfl) ?_
  |refine cF 131 rfl (by rw[BB];rfl) ?_
  |refine cF 139 rfl (by rw[BB];rfl) ?_
  |refine cF 148 rfl (by rw[BB];rfl) ?_
  |refine cF 156 rfl (by rw[BB];rfl) ?_
  |refine cF 164 rfl (by rw[BB];rfl) ?_
  |refine cF 172 rfl (by rw[BB];rfl) ?_
  |refine cF 180 rfl (by rw[BB];rfl) ?_
  |refine cF 188 rfl (by rw[BB];rfl) ?_
  |refine cF 196 rfl (by rw[BB];rfl) ?_
  |refine cF 204 rfl (by rw[BB];rfl) ?_
  |refine cF 212 rfl (by rw[BB];rfl) ?_
  |refine cT 220 rfl (by rw[BB];rfl) ?_
  |refine tk ?_
  |(refine AB 122 ?_;refine cA.W func122 rfl rfl (λ_=>NP q ha.2.1 ha.2.2.1 ha.2.2.2) (λLA=>kD LA q) rfl ?_)
  |refine CA ?_|refine an ?_ ?_|(intro Z;try simp at Z))
 exact hQ _ _ _ ⟨[(11,13)],eL [(11,13)] eF XG⟩
theorem bDA {w:World} {W:Nat->Prop} {G:wA} {g:GW w W} {Q:QT} (n i:Nat) (hi:i<n) (hn:n<=100) (b:Bool) (ts:List yA) (f st EA wk EB XA:Int) (l0 l1 l2 l3 l4 l5 l6 l7 l8:List Int) (FA:List (Int×Int)) (q:List (Int×Int)) (ha:pA.Ok (.days q))
  (hQ:∀F H Y,(∃l,OA (cx w W f68.ntmps (KA dC) 0 G g) l F H Y (bH n (i+1) b) (UE (pA.put ⟨f,st,EA,wk,EB,XA,[l0,l1,l2,l3,l4,l5,l6,l7,l8],FA⟩ (.days q)) ts) 13)->Q .normal F H Y):
  En.T (cx w W f68.ntmps (KA dC) 0 G g) (cR f68 33) (kJ n i b (pA.key (.days q)) (pA.val (.days q))) (UE ⟨f,st,EA,wk,EB,XA,[l0,l1,l2,l3,l4,l5,l6,l7,l8],FA⟩ ts) 13 (jJ f68 (cx w W f68.ntmps (KA dC) 0 G g) Q):=by
 repeat' (first
  |refine cF 229 rfl rfl ?_
  |refine cF 98 rfl (by rw[BB];rfl) ?_
  |refine cF 106 rfl (by rw[BB];rfl) ?_
  |refine cF 115 rfl (by rw[BB];rfl) ?_
  |refine cF 123 rfl (by rw[BB];rfl) ?_
  |refine cF 131 rfl (by rw[BB];rfl) ?_
  |refine cF 139 rfl (by rw[BB];rfl) ?_
  |refine cF 148 rfl (by rw[BB];rfl) ?_
  |refine cF 156 rfl (by rw[BB];rfl) ?_
  |refine cF 164 rfl (by rw[BB];rfl) ?_
  |refine cF 172 rfl (by rw[BB];rfl) ?_
  |refine cF 180 rfl (by rw[BB];rfl) ?_
  |refine cT 188 rfl (by rw[BB];rfl) ?_
  |refine tk ?_
  |(refine AB 123 ?_;refine cA.W func123 rfl rfl (λ_=>vCA q ha.1 ha.2.1 ha.2.2) (λLA=>SC LA q) rfl ?_)
  |refine CA ?_|refine an ?_ ?_|(intro Z;try simp at Z))
 exact hQ _ _ _ ⟨[(7,13)],eL [(7,13)] eF XG⟩
theorem cDA {w:World} {W:Nat->Prop} {G:wA} {g:GW w W} {Q:QT} (ts:List yA) (hn:ts.length<=100) (i:Nat) (hi:i<ts.length) (b:Bool) (o:yB) (ho:o.ls.length=9) (a:pA) (ha:a.Ok) (Z:b=true\/∃q,a= .BA q) (ht:ts.getD i []=a.text)
  (hQ:∀F H Y,(∃l,OA (cx w W f68.ntmps (KA dC) 0 G g) l F H Y (bH ts.length (i+1) true) (UE (pA.put o a) ts) 13)->Q .normal F H Y):
  En.T (cx w W f68.ntmps (KA dC) 0 G g) (cR f68 24) (bH ts.length i b) (UE o ts) 13 Q:=by
 refine LDA ts i b hi o a ha ht ?_
 obtain⟨f,st,EA,wk,EB,XA,ls,FA⟩:=o
 have ho:ls.length=9:=ho
 match ls,ho with
 |[l0,l1,l2,l3,l4,l5,l6,l7,l8],_=>
  have uU:(∀q,a≠ .BA q)->b=true:=λh=>Z.elim id λ⟨q,e⟩=>absurd e (h q)
  cases a with
  |BA q=>exact NDA _ i hi hn b ts f st EA wk EB XA l0 l1 l2 l3 l4 l5 l6 l7 l8 FA q ha hQ
  |EA q=>have:=uU (λq=>by simp);subst this;exact ODA _ i hi hn true ts f st EA wk EB XA l0 l1 l2 l3 l4 l5 l6 l7 l8 FA q ha hQ
  |HB q=>have:=uU (λq=>by simp);subst this;exact PDA _ i hi hn true ts f st EA wk EB XA l0 l1 l2 l3 l4 l5 l6 l7 l8 FA q ha hQ
  |EB q=>have:=uU (λq=>by simp);subst this;exact QDA _ i hi hn true ts f st EA wk EB XA l0 l1 l2 l3 l4 l5 l6 l7 l8 FA q ha hQ
  |XA q=>have:=uU (λq=>by simp);subst this;exact RDA _ i hi hn true ts f st EA wk EB XA l0 l1 l2 l3 l4 l5 l6 l7 l8 FA q ha hQ
  |days q=>have:=uU (λq=>by simp);subst this;exact bDA _ i hi hn true ts f st EA wk EB XA l0 l1 l2 l3 l4 l5 l6 l7 l8 FA q ha hQ
  |A k q=>
   have:=uU (λq=>by simp);subst this
   have hk:=ha.1
   rcases(by omega:k=0\/k=1\/k=2\/k=3\/k=4\/k=5\/k=6\/k=7\/k=8)with rfl|rfl|rfl|rfl|rfl|rfl|rfl|rfl|rfl
   ·exact SDA _ i hi hn true ts f st EA wk EB XA l0 l1 l2 l3 l4 l5 l6 l7 l8 FA q ha hQ
   ·exact TDA _ i hi hn true ts f st EA wk EB XA l0 l1 l2 l3 l4 l5 l6 l7 l8 FA q ha hQ
   ·exact UDA _ i hi hn true ts f st EA wk EB XA l0 l1 l2 l3 l4 l5 l6 l7 l8 FA q ha hQ
   ·exact VDA _ i hi hn true ts f st EA wk EB XA l0 l1 l2 l3 l4 l5 l6 l7 l8 FA q ha hQ
   ·exact WDA _ i hi hn true ts f st EA wk EB XA l0 l1 l2 l3 l4 l5 l6 l7 l8 FA q ha hQ
   ·exact XDA _ i hi hn true ts f st EA wk EB XA l0 l1 l2 l3 l4 l5 l6 l7 l8 FA q ha hQ
   ·exact YDA _ i hi hn true ts f st EA wk EB XA l0 l1 l2 l3 l4 l5 l6 l7 l8 FA q ha hQ
   ·exact ZDA _ i hi hn true ts f st EA wk EB XA l0 l1 l2 l3 l4 l5 l6 l7 l8 FA q ha hQ
   ·exact aDA _ i hi hn true ts f st EA wk EB XA l0 l1 l2 l3 l4 l5 l6 l7 l8 FA q ha hQ
def vU (st:Int):yB:={zZ with GA:=st}
abbrev Mu (st:Int):List SV:=[I 0,I st,I 0,I 0,I 0,I 0,I 0,I 0,I 0, .v (.slice none 0 0), .v (.slice none 0 0), .v (.slice none 0 0), .v (.slice none 0 0), .v (.slice none 0 0), .v (.slice none 0 0), .v (.slice none 0 0), .v (.slice none 0 0), .v (.slice none 0 0), .v (.slice none 0 0)]
abbrev pQ (w:World) (W:Nat->Prop) (G:wA) (g:GW w W) (o:yB):QT:=lV (cx w W f68.ntmps (KA dC) 0 G g) [.tmp 4, .tmp 5] λs H Y=>∃l,OA (cx w W f68.ntmps (KA dC) 0 G g) l [(0, .u s)] H Y [(0, .u (.jA [.p 0 0, .v .nilIface]))] (((0,some (.st (tE 1 o)))::yK 1 o)++[]) 11
theorem Nu {w:World} {W:Nat->Prop} {G:wA} {g:GW w W} (s:yA) (st:Int) (q:Nat) (MF:List pA) (dB:∀a∈pA.BA q::MF,a.Ok) (hn:MF.length<80) (hs:Lib.trimPrefix s XH=Lib.join ((pA.BA q::MF).map pA.text) [59]):
  En.T (cx w W f68.ntmps (KA dC) 0 G g) (cR f68 22) [(3, .u (.p 0 0)),(7, .u (S s)),(9, .u (.p 1 0)),(10, .u (B false))] [(0,some (.st [])),(1,some (.st (Mu st)))] 2 (pQ w W G g ((pA.BA q::MF).foldl pA.put (vU st))):=by
 obtain⟨bs,gM⟩:∃bs,bs=pA.BA q::MF:=⟨_,rfl⟩
 have KG:∀i,i<bs.length->0<i\/∃q,bs.getD i (.BA 0)= .BA q:=λi hi=>by
  subst gM
  cases i with
  |zero=>exact .inr ⟨q,rfl⟩
  |succ i=>exact .inl O
 have LC:bs.map pA.text≠[]:=by subst gM;simp
 have rJ:bs.length<=80:=by subst gM;simp;omega
 rw[<-gM]at hs dB⊢
 clear gM
 have KK:=join_le (c:=59) (K:=11100) (bs.map pA.text) (λp hp=>by obtain⟨a,ha,rfl⟩:=List.mem_map.1 hp;exact tX (dB a ha))
 rw[List.length_map]at KK
 have MK:(bs.map pA.text).length=bs.length:=List.length_map _
 have qG:=HO (bs.map pA.text) 59 LC (λp hp=>by obtain⟨a,ha,rfl⟩:=List.mem_map.1 hp;exact K9 a (by simp)) O O
 rw[MK]at qG
 have zg:Pure prog 117 [SB s,SB XH] (SB (Lib.join (bs.map pA.text) [59])):=by rw[<-hs];exact Ht s XH
 refine VD 1 9 1 3 _ rfl rfl rfl ?_
 refine VD 1 10 1 3 _ rfl rfl rfl ?_
 refine VD 1 11 1 3 _ rfl rfl rfl ?_
 refine VD 1 12 1 3 _ rfl rfl rfl ?_
 refine VD 1 13 1 3 _ rfl rfl rfl ?_
 refine VD 1 14 2 53 _ rfl rfl rfl ?_
 refine VD 1 15 1 3 _ rfl rfl rfl ?_
 refine VD 1 16 1 3 _ rfl rfl rfl ?_
 refine VD 1 17 1 3 _ rfl rfl rfl ?_
 refine VD 1 18 1 3 _ rfl rfl rfl ?_
 repeat' (first
  |refine tk ?_
  |(refine AB 117 ?_;refine iJ (S (Lib.join (bs.map pA.text) [59])) func117 rfl rfl (λ_=>zg) rfl rfl rfl ?_)
  |(refine AB 114 ?_;refine cA.V [] func114 rfl rfl (λ_=>qG) rfl rfl rfl (λ_=>U) ?_)
  |refine CA ?_|refine an ?_ ?_|(intro Z;try simp at Z))
 refine FB (Ku (vU st) bs) (λi=>bs.length-i.1) ?_ ?_
 ·exact⟨⟨0,Nat.zero_le _⟩,[],U,eN eF XG⟩
 ·rintro⟨i,hi⟩
  intro F H Y hF hH hn;dsimp only[Ku]at hF hH hn;subst hF hH hn
  have hol:((bs.take i).foldl pA.put (vU st)).ls.length=9:=by rw[Lu];rfl
  by_cases fA:i<bs.length
  ·have Ah:bs.getD i (.BA 0)=bs[i]:=by rw[List.getD_eq_getElem?_getD,List.getElem?_eq_getElem fA];rfl
   have IC:(bs.take (i+1)).foldl pA.put (vU st)=pA.put ((bs.take i).foldl pA.put (vU st)) (bs.getD i (.BA 0)):=by rw[Ah,List.take_succ_eq_append_getElem fA,List.foldl_append];rfl
   have yg:(bs.map pA.text).getD i []=(bs.getD i (.BA 0)).text:=by rw[Ah,List.getD_eq_getElem?_getD,List.getElem?_map,List.getElem?_eq_getElem fA];rfl
   have Sa:=λ(Q:QT)=>cDA (w:=w) (W:=W) (G:=G) (g:=g) (Q:=Q) (bs.map pA.text) O i O (decide (0<i)) _ hol (bs.getD i (.BA 0)) (dB _ (by rw[Ah];exact List.getElem_mem fA)) ((KG i fA).imp (λh=>by simpa using h) id) yg
   rw[MK,<-IC]at Sa
   exact Sa _ (λF H Y ⟨l,he⟩=>⟨⟨i+1,fA⟩,l,show bs.length- (i+1)<bs.length-i by omega,he⟩)
  ·have hq:i=bs.length:=O
   subst hq
   have HE:0<bs.length:=by rw[<-MK];exact List.length_pos_iff.2 LC
   rw[List.take_length]
   repeat' (first
    |refine HD ?_
    |refine cF 73 rfl (by simp) ?_
    |refine cF 233 rfl eA ?_
    |refine tk ?_
    |refine CA ?_|refine an ?_ ?_|(intro Z;try simp at Z))
   exact⟨PD ⟨[(0,1),(1,2),(2,3),(3,4),(4,5),(5,6),(6,7),(7,8),(8,9),(9,10),(10,11)],eL _ ⟨rfl,U⟩ XG⟩⟩
def KC (s:yA):Prop:=∀b∈s,32<b.toNat/\b.toNat<128
theorem KC.XM {a b:yA} (h:KC a) (k:KC b):KC (a++b):=λx hx=>(List.mem_append.1 hx).elim (h x) (k x)
theorem KC.cons {c:UInt8} {b:yA} (h:32<c.toNat/\c.toNat<128) (k:KC b):KC (c::b):=λx hx=>(List.mem_cons.1 hx).elim (λe=>e▸h) (k x)
theorem KC.join {ps:List yA} {c:UInt8} (hc:32<c.toNat/\c.toNat<128) (h:∀p∈ps,KC p):KC (Lib.join ps [c]):=λb Z=>(Ff Z).elim (λe=>e▸hc) (λ⟨p,hp,e⟩=>h p hp b e)
theorem KC.itoa (n:Int):KC (Lib.itoa n):=λb Z=>(Df n b Z).elim (λh=>by unfold CF at h;omega) (λe=>e▸by decide)
theorem KC.getD {l:List yA} (h:∀p∈l,KC p) (k:Nat):KC (l.getD k []):=by
 rw[List.getD_eq_getElem?_getD]
 cases e:l[k]? with
 |none=>intro b Z;simp at Z
 |some p=>exact h p (List.mem_of_getElem? e)
theorem KC.JN:∀p∈JN,KC p:=by unfold KC;decide
theorem KC.aF:∀p∈aF,KC p:=by unfold KC;decide
theorem KC.GJ:∀p∈GJ,KC p:=by unfold KC;decide
theorem KC.date (t:Int):KC (DF t):=λb Z=>by have:=Eu t b Z;unfold OP CF at this;omega
theorem KC.FA (d:Int×Int):KC (ZE d):=by
 unfold ZE
 split
 ·exact KC.getD KC.aF _
 ·refine KC.XM ?_ (KC.getD KC.aF _)
  unfold cI
  split
  ·exact KC.itoa _
  ·exact KC.cons (by decide) (KC.itoa _)
theorem KC.text (a:pA):KC a.text:=by
 refine KC.XM (b:=61::a.val) ?_ (KC.cons (by decide) ?_)
 ·cases a with
  |A k l=>exact KC.getD KC.GJ k
  |BA f=>unfold KC;show∀b∈[70,82,69,81],_;decide
  |EA f=>unfold KC;show∀b∈[73,78,84,69,82,86,65,76],_;decide
  |HB f=>unfold KC;show∀b∈[87,75,83,84],_;decide
  |EB f=>unfold KC;show∀b∈[67,79,85,78,84],_;decide
  |XA f=>unfold KC;show∀b∈[85,78,84,73,76],_;decide
  |days f=>unfold KC;show∀b∈[66,89,68,65,89],_;decide
 ·cases a with
  |BA f=>exact KC.getD KC.JN f
  |EA n=>exact KC.itoa n
  |HB w=>exact KC.getD KC.aF w
  |EB n=>exact KC.itoa n
  |XA t=>exact KC.date t
  |A k l=>exact KC.join (by decide) (λp hp=>by obtain⟨n,_,rfl⟩:=List.mem_map.1 hp;exact KC.itoa n)
  |days l=>exact KC.join (by decide) (λp hp=>by obtain⟨n,_,rfl⟩:=List.mem_map.1 hp;exact KC.FA n)
theorem Ou {b:UInt8} (h:32<b.toNat/\b.toNat<128):Lib.isSp b=false:=by
 have h9:∀c:UInt8,c.toNat<=32->(b==c)=false:=λc hc=>by
  rw[beq_eq_false_iff_ne];intro e;subst e;omega
 unfold Lib.isSp
 rw[h9 9 (by decide),h9 10 (by decide),h9 11 (by decide),h9 12 (by decide),h9 13 (by decide),h9 32 (by decide)];rfl
theorem KC.zEA (MF:List pA):KC (Lib.join (MF.map pA.text) [59]):=KC.join (by decide) (λp hp=>by obtain⟨n,_,rfl⟩:=List.mem_map.1 hp;exact KC.text n)
theorem dDA {x y:yA} (hx:∀b,(x++y).head? =some b->32<b.toNat/\b.toNat<128) (hy:KC y) (LC:y≠[]):Lib.trimSpace (x++y)=x++y:=by
 refine Du (λb Z=>Ou (hx b Z)) (λb Z=> ?_)
 rw[List.getLast?_append]at Z
 cases e:y.getLast? with
 |none=>rw[List.getLast?_eq_none_iff]at e;exact absurd e LC
 |some c=>rw[e]at Z;cases Z;exact Ou (hy b (List.mem_of_getLast? e))
theorem eDA {a:pA} (MF:List pA):Lib.join ((a::MF).map pA.text) [59]≠[]:=by
 have h:a.text≠[]:=by unfold pA.text;simp
 cases MF with
 |nil=>rw[List.map_cons,List.map_nil,Lib.join_one];exact h
 |cons q r=>rw[List.map_cons,List.map_cons,wR];simp
theorem fDA (b:yA):Lib.trimPrefix (XH++b) XH=b:=by
 unfold Lib.trimPrefix Lib.hasPrefix
 simp[XH]
theorem dFA (b:yA) (h:b.head? =some 70):Lib.trimPrefix b XH=b:=by
 unfold Lib.trimPrefix Lib.hasPrefix
 cases b with
 |nil=>rfl
 |cons c r=>simp only[List.head?_cons,Option.some.injEq]at h;subst h;simp[XH]
abbrev eFA:Unit:=()
theorem gDA (o:yB) (h:o.Ok):Fn prog 68 [S (aJ o), .agg []] [] 0 (.jA [.p 0 0, .v .nilIface]) ((0,some (.st (tE 1 o)))::yK 1 o) 11:=by
 have IC:=h.GA
 have PE:=wg h
 obtain⟨q,MF,hq,hlen⟩:∃q MF,o.KJ=pA.BA q::MF/\MF.length<80:=by
  refine⟨o.BA.toNat,o.KJ.tail,rfl,?_⟩
  have D:∀(c:Prop) [Decidable c] (a:pA),(if c then[]else[a]).length<=1:=λc _ a=>by split<;>simp
  have h2:∀k,(DK o k).length<=1:=λk=>D _ _
  have a1:=D (o.EA=0) (.EA o.EA)
  have a2:=D (o.wk=0) (.HB o.wk.toNat)
  have a3:=D (o.EB=0) (.EB o.EB)
  have a4:=D (o.XA=0) (.XA o.XA)
  have a5:=D (o.FA=[]) (.days o.FA)
  have:=h2 0;have:=h2 1;have:=h2 2;have:=h2 3;have:=h2 4;have:=h2 5;have:=h2 6;have:=h2 7;have:=h2 8
  rw[List.length_tail]
  unfold yB.KJ
  simp only[List.length_append,List.length_cons,List.length_nil]
  omega
 have KV:=E9 o h
 rw[hq]at KV PE
 obtain⟨B,hB⟩:∃B,B=Aa o:=⟨_,rfl⟩
 have ra:B=Lib.join ((pA.BA q::MF).map pA.text) [59]:=by rw[hB,<-hq];rfl
 have Bh:KC B:=by rw[ra];exact KC.zEA _
 have LC:B≠[]:=by rw[ra];exact eDA MF
 have KK:=join_le (c:=59) (K:=11100) ((pA.BA q::MF).map pA.text) (λp hp=>by obtain⟨a,ha,rfl⟩:=List.mem_map.1 hp;exact tX (PE a ha))
 rw[List.length_map,List.length_cons,<-ra]at KK
 have dJ:=CP (t:=o.GA) O
 have hT:aJ o=(dF o.GA++10::XH)++B:=by rw[hB];simp[aJ,dF]
 have Ja:(aJ o).length<=1000000:=by rw[hT];simp only[List.length_append,List.length_cons,dJ];show 7+(16+1)+(6+1)+B.length<=_;omega
 have hj:Lib.join [dF o.GA,XH++B] [10]=aJ o:=by rw[wR,Lib.join_one,hT];simp
 have aS:Pure prog 113 [SB (aJ o)] (SB (aJ o)):=by
  have:=ja (aJ o) Ja (λb Z=>by
   rw[hT,List.mem_append,List.mem_append,List.mem_cons]at Z
   rcases Z with(Z|Z|Z)|Z
   ·exact pa (vg o.GA b Z)
   ·subst Z;decide
   ·have:∀b∈XH,b.toNat<128:=by decide
    exact this b Z
   ·exact(Bh b Z).2)
  rwa [hT,dDA (λb Z=>by have:b=68:=(by simpa [dF,AI]using Z.symm);subst this;decide) Bh LC,<-hT]at this
 have qG:=HO [dF o.GA,XH++B] 10 (by simp) (λp hp=>by
  simp only[List.mem_cons,List.mem_singleton,List.not_mem_nil,or_false]at hp
  rcases hp with rfl|rfl
  ·intro hm;have:=vg o.GA _ hm;unfold OP CF at this;revert this;decide
  ·intro hm
   rcases List.mem_append.1 hm with hm|hm
   ·revert hm;decide
   ·have:=Bh _ hm;revert this;decide) (by simp) (by rw[hj];exact Ja)
 rw[hj]at qG
 have hs:(⟨(dF o.GA).toArray⟩:ByteArray).size=24:=by show(dF o.GA).length=24;rw[List.length_append,List.length_cons,dJ];rfl
 have h7:(⟨AI.toArray⟩:ByteArray).size=7:=rfl
 have hx:∀i j:Nat,i=8->j=24->(⟨(dF o.GA).toArray⟩:ByteArray).extract i j=⟨(DF o.GA).toArray⟩:=λi j hi hj=>by
  subst hi hj
  rw[gI]
  show(⟨(((AI++58::DF o.GA).drop 8).take 16).toArray⟩:ByteArray)=_
  rw[show(AI++58::DF o.GA).drop 8=DF o.GA from rfl,List.take_of_length_le O]
 have hDA:Lib.trimPrefix (XH++B) XH=Lib.join ((pA.BA q::MF).map pA.text) [59]:=by rw[fDA,ra]
 refine fm (KA dC) func68 λw W G g=> ?_
 repeat' (first
  |refine FG 22 ?_
  |refine cT 41 rfl (by rw[BB];simp[AI]) ?_
  |refine cF 51 rfl (by rw[BB];simp[AI]) ?_
  |refine cF 26 rfl rfl ?_
  |refine cT 31 rfl rfl ?_
  |refine tk ?_
  |(refine AB 113 ?_;refine iJ (S (aJ o)) func113 rfl rfl (λ_=>aS) rfl rfl rfl ?_)
  |(refine AB 114 ?_;refine cA.V [] func114 rfl rfl (λ_=>qG) rfl rfl rfl (λ_=>U) ?_)
  |refine cz 115 func115 (λ_=>yCA o.GA O) ?_
  |(refine AB 116 ?_;refine ma func116 rfl rfl (λ_=>hCA o.GA O) (by rw[hx]<;>first|rfl|omega) rfl rfl ?_)
  |refine And.intro (λ_=>by show(0:Int)<=0/\(0:Int)<2;omega) ?_
  |refine And.intro (λ_=>by show(0:Int)<=1/\(1:Int)<2;omega) ?_
  |refine And.intro (λ_=>by first|exact⟨O,O,O⟩|omega) ?_
  |refine CA ?_|refine an ?_ ?_|(intro Z;try simp at Z))
 have jK:(pA.BA q::MF).foldl pA.put (vU o.GA)=o:=KV
 have PT:=Nu (w:=w) (W:=W) (G:=G) (g:=g) (XH++B) o.GA q MF PE hlen hDA
 rw[jK]at PT
 exact Stop.mk (mB (l:=[(1,3)]) (eL [(1,3)] eF XG) PT)
theorem iDA {o:yB} (h:o.Ok):(Aa o).length<=900000/\o.KJ.length<=15:=by
 have D:∀(c:Prop) [Decidable c] (a:pA),(if c then[]else[a]).length<=1:=λc _ a=>by split<;>simp
 have h2:∀k,(DK o k).length<=1:=λk=>D _ _
 have a1:=D (o.EA=0) (.EA o.EA)
 have a2:=D (o.wk=0) (.HB o.wk.toNat)
 have a3:=D (o.EB=0) (.EB o.EB)
 have a4:=D (o.XA=0) (.XA o.XA)
 have a5:=D (o.FA=[]) (.days o.FA)
 have:=h2 0;have:=h2 1;have:=h2 2;have:=h2 3;have:=h2 4;have:=h2 5;have:=h2 6;have:=h2 7;have:=h2 8
 have hl:o.KJ.length<=15:=by
  unfold yB.KJ
  simp only[List.length_append,List.length_cons,List.length_nil]
  omega
 have KK:=join_le (c:=59) (K:=11100) (o.KJ.map pA.text) (λp hp=>by obtain⟨a,ha,rfl⟩:=List.mem_map.1 hp;exact tX (wg h a ha))
 rw[List.length_map]at KK
 refine⟨?_,hl⟩
 show(Lib.join (o.KJ.map pA.text) [59]).length<=_
 omega
theorem jDA (o:yB) (h:o.Ok):Fn prog 40 [.p 0 0] (((0,some (.ro (tE 1 o)))::SM 1 o)++[]) 11 (S (aJ o)) [] 11:=by
 have IC:=h.GA
 have Z:=(iDA h).1
 have dJ:=CP (t:=o.GA) O
 refine fm (KA 1037) func40 λw W G g=> ?_
 repeat' (first
  |refine cF 10 rfl eA ?_
  |refine tk ?_
  |refine cr 83 [0,1,2,3,4,5,6,7,8,9,10] func83 (λ_=>GDA o h) (λ_=>⟨⟨O,rfl,_,[],rfl,by simp[DA.cells];rfl⟩,⟨O,RC _ _,_,[],rfl,by simp[DA.cells]⟩,⟨O,RC _ _,_,[],rfl,by simp[DA.cells]⟩,⟨O,RC _ _,_,[],rfl,by simp[DA.cells]⟩,⟨O,RC _ _,_,[],rfl,by simp[DA.cells]⟩,⟨O,RC _ _,_,[],rfl,by simp[DA.cells]⟩,⟨O,WN _ _,_,[],rfl,by simp[DA.cells]⟩,⟨O,RC _ _,_,[],rfl,by simp[DA.cells]⟩,⟨O,RC _ _,_,[],rfl,by simp[DA.cells]⟩,⟨O,RC _ _,_,[],rfl,by simp[DA.cells]⟩,⟨O,RC _ _,_,[],rfl,by simp[DA.cells]⟩,U⟩) ?_
  |refine cz 41 func41 (λ_=>DM o.GA 0) ?_
  |refine cz 84 func84 (λ_=>UCA o.GA O) ?_
  |refine And.intro (λ_=>by simp only[ByteArray.size_append,gL,gI,List.length_cons,List.length_nil,List.length_take,List.length_drop];omega) ?_
  |refine CA ?_|refine an ?_ ?_|(intro Z;try simp at Z))
 refine DB ?_ UA
 show SV.v (.string _)=S _
 refine congrArg SV.v (congrArg Value.string ?_)
 have e1:(⟨#[68,84,83,84,65,82,84]⟩:ByteArray)=⟨AI.toArray⟩:=rfl
 have e2:(⟨#[10,82,82,85,76,69,58]⟩:ByteArray)=⟨(10::XH).toArray⟩:=rfl
 rw[e1,e2,IJ,IJ,IJ]
 unfold aJ
 simp
theorem kDA (o:yB) (h:o.Ok):Fn prog 18 [.p 0 0] (((0,some (.ro (tE 1 o)))::SM 1 o)++[]) 11 (S (aJ o)) [] 11:=by
 refine fm (KA 5) func18 λw W G g=> ?_
 repeat' (first
  |refine tk ?_
  |refine cr 40 [0,1,2,3,4,5,6,7,8,9,10] func40 (λ_=>jDA o h) (λ_=>⟨⟨O,rfl,_,[],rfl,by simp[DA.cells];rfl⟩,⟨O,RC _ _,_,[],rfl,by simp[DA.cells]⟩,⟨O,RC _ _,_,[],rfl,by simp[DA.cells]⟩,⟨O,RC _ _,_,[],rfl,by simp[DA.cells]⟩,⟨O,RC _ _,_,[],rfl,by simp[DA.cells]⟩,⟨O,RC _ _,_,[],rfl,by simp[DA.cells]⟩,⟨O,WN _ _,_,[],rfl,by simp[DA.cells]⟩,⟨O,RC _ _,_,[],rfl,by simp[DA.cells]⟩,⟨O,RC _ _,_,[],rfl,by simp[DA.cells]⟩,⟨O,RC _ _,_,[],rfl,by simp[DA.cells]⟩,⟨O,RC _ _,_,[],rfl,by simp[DA.cells]⟩,U⟩) ?_
  |refine CA ?_|refine an ?_ ?_|(intro Z;try simp at Z))
 refine DB rfl UA
def JO:yA:=[70,82,69,81,61,87,69,69,75,76,89,59,67,79,85,78,84,61,51,59,66,89,68,65,89,61,77,79,44,70,82]
def dS:yB:=⟨2,0,0,0,3,0,[[],[],[],[],[],[],[],[],[]],[(0,0),(4,0)]⟩
theorem lDA:Fn prog 68 [S JO, .agg []] [] 0 (.jA [.p 0 0, .v .nilIface]) ((0,some (.st (tE 1 dS)))::yK 1 dS) 11:=by
 have PE:∀a∈[pA.BA 2, .EB 3, .days [(0,0),(4,0)]],a.Ok:=by
  intro a ha
  simp only[List.mem_cons,List.not_mem_nil,or_false]at ha
  rcases ha with rfl|rfl|rfl
  ·show 2<7;omega
  ·exact⟨O,O⟩
  ·refine⟨by simp,by simp,λd hd=> ?_⟩
   simp only[List.mem_cons,List.not_mem_nil,or_false]at hd
   rcases hd with rfl|rfl<;>exact⟨⟨by decide,by decide⟩,by decide,by decide⟩
 have aS:Pure prog 113 [SB JO] (SB JO):=by
  have:=ja JO (by decide) (by decide)
  rwa [show Lib.trimSpace JO=JO by decide]at this
 have qG:=HO [JO] 10 (by simp) (λp hp=>by simp at hp;subst hp;decide) (by simp) (by rw[Lib.join_one];decide)
 rw[Lib.join_one]at qG
 have e3:Lib.itoa 3=[51]:=by simp[Lib.itoa,Lib.decDigits]
 have hc:(pA.EB 3).text=[67,79,85,78,84,61,51]:=by show[67,79,85,78,84]++61::Lib.itoa 3=_;rw[e3];rfl
 refine fm (KA dC) func68 λw W G g=> ?_
 repeat' (first
  |refine FG 22 ?_
  |refine cF 41 rfl rfl ?_
  |refine cT 26 rfl rfl ?_
  |refine tk ?_
  |(refine AB 113 ?_;refine iJ (S JO) func113 rfl rfl (λ_=>aS) rfl rfl rfl ?_)
  |(refine AB 114 ?_;refine cA.V [] func114 rfl rfl (λ_=>qG) rfl rfl rfl (λ_=>U) ?_)
  |refine And.intro (λ_=>by show(0:Int)<=0/\(0:Int)<1;omega) ?_
  |refine CA ?_|refine an ?_ ?_|(intro Z;try simp at Z))
 have PT:=Nu (w:=w) (W:=W) (G:=G) (g:=g) JO 0 2 [.EB 3, .days [(0,0),(4,0)]] PE (by decide) (by rw[List.map_cons,List.map_cons,hc];decide)
 exact Stop.mk (mB (l:=[(1,3)]) (eL [(1,3)] eF XG) PT)
def FI:yA:=[70,82,69,81,61,78,69,86,69,82]
def Pu:MB Unit where
 F _:=[(3, .u (.p 0 0)),(9, .u (.p 1 0)),(10, .u (B false)),(70, .u (.s 2 0 1)),(71, .u (I 1)),(72, .u (I 0))]
 H _:=[(0,some (.st [])),(1,some (.st (Mu 0))),(2,some (.X 1 9 (strs [FI])))]
 n _:=3
theorem mDA:Fn prog 68 [S FI, .agg []] [] 0 (.jA [.v (.pointer none), .gD 174 (.p 0 0)]) [] 1:=by
 have aS:Pure prog 113 [SB FI] (SB FI):=by
  have:=ja FI (by decide) (by decide)
  rwa [show Lib.trimSpace FI=FI by decide]at this
 have qG:=HO [FI] 10 (by simp) (λp hp=>by simp at hp;subst hp;decide) (by simp) (by rw[Lib.join_one];decide)
 rw[Lib.join_one]at qG
 have Qu:=HO [FI] 59 (by simp) (λp hp=>by simp at hp;subst hp;decide) (by simp) (by rw[Lib.join_one];decide)
 rw[Lib.join_one]at Qu
 have Ru:=HO [[70,82,69,81],never] 61 (by simp) (λp hp=>by simp at hp;rcases hp with rfl|rfl<;>decide) (by simp) (by decide)
 rw[show Lib.join [[70,82,69,81],never] [61]=FI by decide]at Ru
 have zg:Pure prog 117 [SB FI,SB XH] (SB FI):=by
  have:=Ht FI XH
  rwa [show Lib.trimPrefix FI XH=FI by decide]at this
 refine fm (KA dC) func68 λw W G g=> ?_
 repeat' (first
  |refine cF 41 rfl rfl ?_
  |refine cT 26 rfl rfl ?_
  |refine tk ?_
  |(refine AB 113 ?_;refine iJ (S FI) func113 rfl rfl (λ_=>aS) rfl rfl rfl ?_)
  |(refine AB 117 ?_;refine iJ (S FI) func117 rfl rfl (λ_=>zg) rfl rfl rfl ?_)
  |(refine AB 114 ?_;refine cA.V [] func114 rfl rfl (λ_=>qG) rfl rfl rfl (λ_=>U) ?_)
  |(refine AB 114 ?_;refine cA.V [] func114 rfl rfl (λ_=>Qu) rfl rfl rfl (λ_=>U) ?_)
  |refine And.intro (λ_=>by show(0:Int)<=0/\(0:Int)<1;omega) ?_
  |refine CA ?_|refine an ?_ ?_|(intro Z;try simp at Z))
 refine FB Pu (λ_=>0) ?_ ?_
 ·exact⟨(),[(1,3),(2,4)],U,eL [(1,3),(2,4)] eF XG⟩
 ·rintro⟨⟩
  intro F H Y hF hH hn;dsimp only[Pu]at hF hH hn;subst hF hH hn
  repeat' (first
   |refine HD ?_
   |refine cT 73 rfl rfl ?_
   |refine cF 80 rfl rfl ?_
   |refine cF 90 rfl rfl ?_
   |refine cT 98 rfl (by rw[BB];rfl) ?_
   |refine cT 229 rfl rfl ?_
   |refine tk ?_
   |(refine AB 114 ?_;refine cA.V [] func114 rfl rfl (λ_=>Ru) rfl rfl rfl (λ_=>U) ?_)
   |refine And.intro sd ?_
   |refine qd (hk:= ?_)
   |refine qm (hk:= ?_)
   |refine na Nat.zero_lt_one ?_
   |refine And.intro (λ_=>by show(0:Int)<=0/\(0:Int)<2;omega) ?_
   |refine And.intro (λ_=>by show(0:Int)<=1/\(1:Int)<2;omega) ?_
   |(refine AB 118 ?_;refine cA.F [] func118 rfl rfl (λ_=>qCA) rfl rfl (λ_=>U) (s:=_) rfl (wh:=_) rfl ?_)
   |refine CA ?_|refine an ?_ ?_|(intro Z;try simp at Z))
  exact⟨PD ⟨[(0,5)],eL [(0,5)] ⟨rfl,U⟩ U⟩⟩
theorem Ch {C:Cx} {f:Nat} {eB:List SV} {H:HS} {Y:Nat} {c0:Bool} {k:QD->Prop} {fn:Func} {zC:List SV} {o:yB} (hf:prog.funcs[f]? =some fn) (hP:C.P=prog) (Z:fn.body.isNone=false)
  (h:c0=true->Fn prog f zC [] 0 (.jA [.p 0 0, .v .nilIface]) ((0,some (.st (tE 1 o)))::yK 1 o) 11) (YC:eB=YA (mp [] 0 11 Y) zC) (hk:k ⟨.jA [.p Y 0, .v .nilIface],(Y,some (.st (tE (Y+1) o)))::yK (Y+1) o,Y+12,[]⟩):cA C f eB H Y c0 k:=by
 have hm:∀i,i<11->mp [] 0 11 Y i=Y+i:=λi hi=>by
  rcases(by omega:i=0\/i=1\/i=2\/i=3\/i=4\/i=5\/i=6\/i=7\/i=8\/i=9\/i=10)with rfl|rfl|rfl|rfl|rfl|rfl|rfl|rfl|rfl|rfl|rfl<;>simp[mp]<;>omega
 have h0:=hm 0 O;have D:=hm 1 O;have h2:=hm 2 O;have h3:=hm 3 O;have h4:=hm 4 O;have h5:=hm 5 O;have h6:=hm 6 O;have h7:=hm 7 O;have h8:=hm 8 O;have h9:=hm 9 O;have ta:=hm 10 O
 refine cA.F [] hf hP Z h rfl YC (λ_=>U) (s:= .jA [.p Y 0, .v .nilIface]) (by simp only[SV.IB,YA,List.map,h0,Nat.add_zero]) (wh:=(Y,some (.st (tE (Y+1) o)))::yK (Y+1) o) (by simp[ED,h0,D,h2,h3,h4,h5,h6,h7,h8,h9,ta,WA,lD,DA.IB,iC,yK,tE,SV.IB,YA,List.range'_succ,List.range'_zero]) ?_
 exact hk
theorem Su {s:yA} (o:yB) (h:Fn prog 68 [S s, .agg []] [] 0 (.jA [.p 0 0, .v .nilIface]) ((0,some (.st (tE 1 o)))::yK 1 o) 11):Fn prog 35 [S s] [] 0 (.jA [.p 0 0, .v .nilIface]) ((0,some (.st (tE 1 o)))::yK 1 o) 11:=by
 refine fm (KA 13) func35 λw W G g=> ?_
 repeat' (first
  |refine tk ?_
  |refine cz 69 func69 (λ_=>GU) ?_
  |(refine AB 68 ?_;refine Ch func68 rfl rfl (λ_=>h) rfl ?_)
  |refine CA ?_|refine an ?_ ?_|(intro Z;try simp at Z))
 exact⟨[],eN eF XG⟩
theorem nDA:Fn prog 35 [S FI] [] 0 (.jA [.v (.pointer none), .gD 174 (.p 0 0)]) [] 1:=by
 refine fm (KA 13) func35 λw W G g=> ?_
 repeat' (first
  |refine tk ?_
  |refine cz 69 func69 (λ_=>GU) ?_
  |(refine AB 68 ?_;refine cA.F [] func68 rfl rfl (λ_=>mDA) rfl rfl (λ_=>U) (s:=_) rfl (wh:=_) rfl ?_)
  |refine CA ?_|refine an ?_ ?_|(intro Z;try simp at Z))
 exact⟨[],eN ⟨rfl,U⟩ U⟩
theorem oDA (o:yB):Fn prog 42 [.p 0 4] (((0,some (.ro (tE 1 o)))::SM 1 o)++[]) 11 (I o.wk) [] 11:=by
 refine fm (KA 5) func42 λw W G g=> ?_
 repeat' (first
  |refine tk ?_
  |refine CA ?_|refine an ?_ ?_|(intro Z;try simp at Z))
 exact DB rfl UA
def iL (a d n:Nat) (o:yB):List SV:=[.v (.int .u8 o.BA),B (!(o.GA==0&&(0:Int)==0)),I o.GA,I o.EA,I o.wk,I o.EB,B (!(o.XA==0&&(0:Int)==0)),I o.XA,
 .s a 0 (o.ls.getD 0 []).length, .s (a+1) 0 (o.ls.getD 1 []).length, .s (a+2) 0 (o.ls.getD 2 []).length, .s (a+3) 0 (o.ls.getD 3 []).length, .s (a+4) 0 (o.ls.getD 4 []).length, .s d 0 n,
 .s (a+6) 0 (o.ls.getD 5 []).length, .s (a+7) 0 (o.ls.getD 6 []).length, .s (a+8) 0 (o.ls.getD 7 []).length, .s (a+9) 0 (o.ls.getD 8 []).length]
theorem NF {LA:Nat->Nat} {H H':HS} (h:lC LA H H':=by repeat' (first|exact trivial|refine And.intro (RM rfl rfl) ?_|refine And.intro (gA rfl rfl) ?_|refine And.intro (fD rfl rfl) ?_|refine And.intro (TB rfl (by first|rfl|(simp[DA.cells];done)|(simp[DA.cells];rfl))) ?_|refine And.intro rfl ?_)):lC LA H H':=h
def Tu (o:yB):MB {i:Nat//i<=o.FA.length}where
 F i:=[(2, .u (.p 11 0)),(3, .u (.p 12 0)),(85, .u (.s 6 0 o.FA.length)),(86, .u (I o.FA.length)),(87, .u (I i.1))]
 H i:=[(6,some (.ro (xA o.FA))),(11,some (.st (cC nV.zero))),(12,some (.st (iL 1 13 i.1 o))),(13,some (.X 2 43 (xA (o.FA.take i.1))))]
 n _:=14
theorem pDA (o:yB) (hf:0<=o.BA/\o.BA<7) (hd:o.FA.length<=1000/\∀d∈o.FA,(0<=d.1/\d.1<7)/\-100000<d.2/\d.2<100000):Fn prog 21 [.p 0 0] (((0,some (.ro (tE 1 o)))::SM 1 o)++[]) 11 (.agg (iL 1 11 o.FA.length o)) [(11,some (.X 2 43 (xA o.FA)))] 12:=by
 refine fm (KA 580284393415022003858964525) func21 λw W G g=> ?_
 repeat' (first
  |refine tk ?_
  |refine cz 41 func41 (λ_=>DM o.GA 0) ?_
  |refine cz 41 func41 (λ_=>DM o.XA 0) ?_
  |refine cz 23 func23 (λ_=>VW o.GA 0) ?_
  |refine cz 23 func23 (λ_=>VW o.XA 0) ?_
  |refine cr 42 [0,1,2,3,4,5,6,7,8,9,10] func42 (λ_=>oDA o) (λ_=>⟨⟨O,rfl,_,[],rfl,by simp[DA.cells];rfl⟩,⟨O,RC _ _,_,[],rfl,by simp[DA.cells]⟩,⟨O,RC _ _,_,[],rfl,by simp[DA.cells]⟩,⟨O,RC _ _,_,[],rfl,by simp[DA.cells]⟩,⟨O,RC _ _,_,[],rfl,by simp[DA.cells]⟩,⟨O,RC _ _,_,[],rfl,by simp[DA.cells]⟩,⟨O,WN _ _,_,[],rfl,by simp[DA.cells]⟩,⟨O,RC _ _,_,[],rfl,by simp[DA.cells]⟩,⟨O,RC _ _,_,[],rfl,by simp[DA.cells]⟩,⟨O,RC _ _,_,[],rfl,by simp[DA.cells]⟩,⟨O,RC _ _,_,[],rfl,by simp[DA.cells]⟩,U⟩) ?_
  |refine CA ?_|refine an ?_ ?_|(intro Z;try simp at Z))
 refine VD 12 13 2 43 _ rfl rfl rfl ?_
 refine FB (Tu o) (λi=>o.FA.length-i.1) ?_ ?_
 ·exact⟨⟨0,Nat.zero_le _⟩,[],U,eN eF NF⟩
 ·rintro⟨i,hi⟩
  intro F H Y hF hH hn;dsimp only[Tu]at hF hH hn;subst hF hH hn
  have dJ:=hd.1
  have kg:(o.FA.take i).length=i:=by rw[List.length_take];omega
  by_cases fA:i<o.FA.length
  ·obtain⟨p,hp⟩:∃p,p=o.FA.getD i (0,0):=⟨_,rfl⟩
   have IC:xA (o.FA.take (i+1))=xA (o.FA.take i)++[I p.1,I p.2]:=by
    rw[List.take_succ_eq_append_getElem fA,hp,List.getD_eq_getElem?_getD,List.getElem?_eq_getElem fA]
    simp only[xA,List.flatMap_append];rfl
   have hm:p∈o.FA:=by rw[hp,List.getD_eq_getElem?_getD,List.getElem?_eq_getElem fA];exact List.getElem_mem fA
   have hpb:=hd.2 p hm
   repeat' (first
    |refine cT 88 rfl eA ?_
    |refine tk ?_
    |refine mF i O O λrest=> ?_
    |refine cr 42 [14] func42 (λ_=>Y5 _ _) (λ_=>⟨⟨O,rfl,_,[],rfl,rfl⟩,U⟩) ?_
    |refine cr 43 [14] func43 (λ_=>Z5 _ _) (λ_=>⟨⟨O,rfl,_,[],rfl,rfl⟩,U⟩) ?_
    |refine⟨(by(try dsimp only);simp[rC];try omega),Nat.le_of_ble_eq_true rfl,O,λ_=>(by intro sv YC;have iB:sv∈[I (o.FA.getD i (0,0)).1,I (o.FA.getD i (0,0)).2]:=YC;simp at iB;rcases iB with rfl|rfl<;>rfl),λ_=>(by show(_+1)*16<=140737488355328/\_+1<=maxLen;dsimp only[maxLen];simp;try omega),?_⟩
    |refine CA ?_|refine an ?_ ?_|(intro Z;try simp at Z))
   refine⟨⟨i+1,fA⟩,[(13,16)],show o.FA.length- (i+1)<o.FA.length-i by omega,eL [(13,16)] eF ⟨TB rfl (by first|rfl|(simp[DA.cells];done)|(simp[DA.cells];rfl)),rfl,rfl,RM rfl ?_,U⟩⟩
   rw[IC,List.take_of_length_le (by rw[rC];omega),hp];rfl
  ·have hq:i=o.FA.length:=O
   subst hq
   repeat' (first
    |refine cF 88 rfl (by simp) ?_
    |refine tk ?_
    |refine CA ?_|refine an ?_ ?_|(intro Z;try simp at Z))
   exact⟨[(11,13)],eL [(11,13)] ⟨rfl,U⟩ ⟨RM rfl (by rw[List.take_length]),U⟩⟩
def QP (a:Nat) (o:yB):HS:=[(a,some (.X 1 3 (A (o.ls.getD 0 [])))),(a+1,some (.X 1 3 (A (o.ls.getD 1 [])))),(a+2,some (.X 1 3 (A (o.ls.getD 2 [])))),(a+3,some (.X 1 3 (A (o.ls.getD 3 [])))),(a+4,some (.X 1 3 (A (o.ls.getD 4 [])))),(a+5,some (.X 2 43 (xA o.FA))),(a+6,some (.X 1 3 (A (o.ls.getD 5 [])))),(a+7,some (.X 1 3 (A (o.ls.getD 6 [])))),(a+8,some (.X 1 3 (A (o.ls.getD 7 [])))),(a+9,some (.X 1 3 (A (o.ls.getD 8 []))))]
theorem call21 {C:Cx} {eB:List SV} {H:HS} {Y:Nat} {c0:Bool} {k:QD->Prop} {o:yB} (b:Nat) (hP:C.P=prog) (hf:0<=o.BA/\o.BA<7) (hd:o.FA.length<=1000/\∀d∈o.FA,(0<=d.1/\d.1<7)/\-100000<d.2/\d.2<100000)
  (dB:MI [b,b+1,b+2,b+3,b+4,b+5,b+6,b+7,b+8,b+9,b+10] (((0,some (.ro (tE 1 o)))::SM 1 o)++[]) 11 12 Y=true) (YC:eB=[.p b 0]) (hH:NI (mp [b,b+1,b+2,b+3,b+4,b+5,b+6,b+7,b+8,b+9,b+10] 11 12 Y) H (((0,some (.ro (tE 1 o)))::SM 1 o)++[]))
  (hk:k ⟨.agg (iL (b+1) Y o.FA.length o),[(Y,some (.X 2 43 (xA o.FA)))],Y+2,[b,b+1,b+2,b+3,b+4,b+5,b+6,b+7,b+8,b+9,b+10]⟩):cA C 21 eB H Y c0 k:=by
 refine cA.F [b,b+1,b+2,b+3,b+4,b+5,b+6,b+7,b+8,b+9,b+10] func21 hP rfl (λ_=>pDA o hf hd) dB (by rw[YC];rfl) (λ_=>hH) (s:= .agg (iL (b+1) Y o.FA.length o)) ?_ (wh:=[(Y,some (.X 2 43 (xA o.FA)))]) ?_ hk
 ·rfl
 ·show[(_,_)]=_
  simp[WA,lD,DA.IB,mp]
theorem qDA {s:yA} (o:yB) (hf:0<=o.BA/\o.BA<7) (hd:o.FA.length<=1000/\∀d∈o.FA,(0<=d.1/\d.1<7)/\-100000<d.2/\d.2<100000) (h:Fn prog 68 [S s, .agg []] [] 0 (.jA [.p 0 0, .v .nilIface]) ((0,some (.st (tE 1 o)))::yK 1 o) 11):
  Fn prog 15 [S s] [] 0 (.jA [.agg (iL 0 5 o.FA.length o),B true]) (QP 0 o) 10:=by
 refine fm (KA 4157) func15 λw W G g=> ?_
 repeat' (first
  |refine HD ?_
  |refine cF 12 rfl rfl ?_
  |refine tk ?_
  |(refine AB 35 ?_;refine Ch func35 rfl rfl (λ_=>Su o h) rfl ?_)
  |(refine AB 21 ?_;refine call21 1 rfl hf hd rfl rfl ⟨⟨_,[],rfl,by simp[DA.cells];rfl⟩,mS,mS,mS,mS,mS,mS,mS,mS,mS,mS,U⟩ ?_)
  |refine CA ?_|refine an ?_ ?_|(intro Z;try simp at Z))
 exact⟨PD ⟨[(0,2),(1,3),(2,4),(3,5),(4,6),(5,13),(6,8),(7,9),(8,10),(9,11)],eL _ ⟨rfl,U⟩ XG⟩⟩
theorem rDA:Fn prog 15 [S FI] [] 0 (.jA [.agg (cC nV.zero),B false]) [] 0:=by
 refine fm (KA 4157) func15 λw W G g=> ?_
 repeat' (first
  |refine HD ?_
  |refine cT 12 rfl rfl ?_
  |refine tk ?_
  |(refine AB 35 ?_;refine cA.F [] func35 rfl rfl (λ_=>nDA) rfl rfl (λ_=>U) (s:=_) rfl (wh:=_) rfl ?_)
  |refine CA ?_|refine an ?_ ?_|(intro Z;try simp at Z))
 exact⟨PD ⟨[],eN ⟨rfl,U⟩ U⟩⟩
theorem pu {C:Cx} {f:Nat} {eB:List SV} {H:HS} {Y:Nat} {c0:Bool} {k:QD->Prop} {fn:Func} {zC:List SV} {o:yB} (hf:prog.funcs[f]? =some fn) (hP:C.P=prog) (Z:fn.body.isNone=false)
  (h:c0=true->Fn prog f zC [] 0 (.jA [.agg (iL 0 5 o.FA.length o),B true]) (QP 0 o) 10) (YC:eB=YA (mp [] 0 10 Y) zC) (hk:k ⟨.jA [.agg (iL Y (Y+5) o.FA.length o),B true],QP Y o,Y+11,[]⟩):cA C f eB H Y c0 k:=by
 have hm:∀i,i<10->mp [] 0 10 Y i=Y+i:=λi hi=>by
  rcases(by omega:i=0\/i=1\/i=2\/i=3\/i=4\/i=5\/i=6\/i=7\/i=8\/i=9)with rfl|rfl|rfl|rfl|rfl|rfl|rfl|rfl|rfl|rfl<;>simp[mp]<;>omega
 have h0:=hm 0 O;have D:=hm 1 O;have h2:=hm 2 O;have h3:=hm 3 O;have h4:=hm 4 O;have h5:=hm 5 O;have h6:=hm 6 O;have h7:=hm 7 O;have h8:=hm 8 O;have h9:=hm 9 O
 refine cA.F [] hf hP Z h rfl YC (λ_=>U) (s:= .jA [.agg (iL Y (Y+5) o.FA.length o),B true]) (by simp[SV.IB,YA,iL,h0,D,h2,h3,h4,h5,h6,h7,h8,h9]) (wh:=QP Y o) (by simp[ED,h0,D,h2,h3,h4,h5,h6,h7,h8,h9,WA,lD,DA.IB,iC,QP,SV.IB,YA,List.range'_succ,List.range'_zero]) ?_
 exact hk
theorem CEA:Fn prog 15 [S JO] [] 0 (.jA [.agg (iL 0 5 dS.FA.length dS),B true]) (QP 0 dS) 10:=
 qDA dS ⟨by decide,by decide⟩ ⟨by decide,by decide⟩ lDA
theorem DEA:Fn prog 6 [] [] 0 (B true) [] 0:=by
 refine fm (KA 23) func6 λw W G g=> ?_
 repeat' (first
  |refine tk ?_
  |(refine AB 15 ?_;refine pu (o:=dS) func15 rfl rfl (λ_=>CEA) rfl ?_)
  |(refine AB 15 ?_;refine cA.F [] func15 rfl rfl (λ_=>rDA) rfl rfl (λ_=>U) (s:=_) rfl (wh:=_) rfl ?_)
  |refine CA ?_|refine an ?_ ?_|(intro Z;try simp at Z))
 exact DB rfl qA
def jC (r:MA):yB:=⟨r.BA,if r.nH=true then r.GA else 0,r.IA,r.HB,r.count,if r.CE=true then r.xB else 0,[r.OB,r.VA,r.TA,r.LB,r.sA,r.SA,r.PA,r.RA,r.NB],r.FA⟩
def wU (a d n:Nat) (o:yB):List SV:=[I o.BA,I o.GA,I 0,I o.EA,I o.wk,I 0,I o.EB,I o.XA,I 0, .s a 0 (o.ls.getD 0 []).length, .s (a+1) 0 (o.ls.getD 1 []).length, .s (a+2) 0 (o.ls.getD 2 []).length, .s (a+3) 0 (o.ls.getD 3 []).length, .s (a+4) 0 (o.ls.getD 4 []).length, .s d 0 n, .s (a+6) 0 (o.ls.getD 5 []).length, .s (a+7) 0 (o.ls.getD 6 []).length, .s (a+8) 0 (o.ls.getD 7 []).length, .s (a+9) 0 (o.ls.getD 8 []).length]
def au (r:MA):MB {i:Nat//i<=r.FA.length}where
 F i:=[(2, .u (.p 11 0)),(3, .u (.p 12 0)),(48, .u (.s 5 0 r.FA.length)),(49, .u (I r.FA.length)),(50, .u (I i.1))]
 H i:=[(5,some (.ro (xA r.FA))),(11,some (.st (cC Jc.zero))),(12,some (.st (wU 0 13 i.1 (jC r)))),(13,some (.X 2 53 (xA (r.FA.take i.1))))]
 n _:=14
theorem bu (r:MA) (hf:0<=r.BA/\r.BA<=255) (dJ:r.FA.length<=1000):Fn prog 17 [.agg (EC 0 r)] (jB 0 r++[]) 10 (.agg (wU 0 10 r.FA.length (jC r))) [(10,some (.X 2 53 (xA r.FA)))] 11:=by
 have fFA:r.FA.length<=1000:=dJ
 refine fm (KA 4226591416647727) func17 λw W G g=> ?_
 rcases Bool.eq_false_or_eq_true r.nH with D|D<;>rcases Bool.eq_false_or_eq_true r.CE with h2|h2
 all_goals
  repeat' (first
   |refine cT 36 rfl D ?_
   |refine cF 36 rfl D ?_
   |refine cT 42 rfl h2 ?_
   |refine cF 42 rfl h2 ?_
   |refine tk ?_
   |refine cz 38 func38 (λ_=>Xn r.HB 0) ?_
   |refine cz 39 func39 (λ_=>Wn r.GA) ?_
   |refine cz 39 func39 (λ_=>Wn r.xB) ?_
   |refine CA ?_|refine an ?_ ?_|(intro Z;try simp at Z))
 all_goals refine VD 12 14 2 53 _ rfl rfl rfl ?_
 all_goals refine FB (au r) (λi=>r.FA.length-i.1) ?_ ?_
 all_goals first
  |exact⟨⟨0,Nat.zero_le _⟩,[],U,eN eF ⟨TB rfl (by first|rfl|(simp[DA.cells];done)|(simp[DA.cells];rfl)),rfl,(by unfold jC;simp only[D,h2,if_true,if_false,Bool.false_eq_true];rfl),RM rfl rfl,U⟩⟩
  |skip
 all_goals
  rintro⟨i,hi⟩
  intro F H Y hF hH hn;dsimp only[au]at hF hH hn;subst hF hH hn
  have kg:(r.FA.take i).length=i:=by rw[List.length_take];omega
  by_cases fA:i<r.FA.length
  ·obtain⟨p,hp⟩:∃p,p=r.FA.getD i (0,0):=⟨_,rfl⟩
   have IC:xA (r.FA.take (i+1))=xA (r.FA.take i)++[I p.1,I p.2]:=by
    rw[List.take_succ_eq_append_getElem fA,hp,List.getD_eq_getElem?_getD,List.getElem?_eq_getElem fA]
    simp only[xA,List.flatMap_append];rfl
   repeat' (first
    |refine cT 51 rfl eA ?_
    |refine tk ?_
    |refine mF i O O λrest=> ?_
    |refine cz 38 func38 (λ_=>Xn (r.FA.getD i (0,0)).1 (r.FA.getD i (0,0)).2) ?_
    |refine⟨(by(try dsimp only);simp[rC];try omega),Nat.le_of_ble_eq_true rfl,O,λ_=>(by intro sv YC;have iB:sv∈[I (r.FA.getD i (0,0)).1,I (r.FA.getD i (0,0)).2]:=YC;simp at iB;rcases iB with rfl|rfl<;>rfl),λ_=>(by show(_+1)*16<=140737488355328/\_+1<=maxLen;dsimp only[maxLen];simp;try omega),?_⟩
    |refine CA ?_|refine an ?_ ?_|(intro Z;try simp at Z))
   refine⟨⟨i+1,fA⟩,[(13,16)],show r.FA.length- (i+1)<r.FA.length-i by omega,eL [(13,16)] eF ⟨TB rfl (by first|rfl|(simp[DA.cells];done)|(simp[DA.cells];rfl)),rfl,rfl,RM rfl ?_,U⟩⟩
   rw[IC,List.take_of_length_le (by rw[rC];omega),hp];rfl
  ·have hq:i=r.FA.length:=O
   subst hq
   repeat' (first
    |refine cF 51 rfl (by simp) ?_
    |refine tk ?_
    |refine CA ?_|refine an ?_ ?_|(intro Z;try simp at Z))
   exact⟨[(10,13)],eL [(10,13)] ⟨rfl,U⟩ ⟨RM rfl (by rw[List.take_length]),U⟩⟩
def Hh (a n:Nat) (r:MA):List SV:=[.v (.int .u8 r.BA),B r.nH,I r.GA,I r.IA,I r.HB,I r.count,B r.CE,I r.xB, .s (a+0) 0 r.OB.length, .s (a+1) 0 r.VA.length, .s (a+2) 0 r.TA.length, .s (a+3) 0 r.LB.length, .s (a+4) 0 r.sA.length, .s (a+5) 0 n, .s (a+6) 0 r.SA.length, .s (a+7) 0 r.PA.length, .s (a+8) 0 r.RA.length, .s (a+9) 0 r.NB.length]
def xa (a:Nat) (ds:List (Int×Int)) (r:MA):HS:=[(a+0,some (.X 1 3 (A r.OB))),(a+1,some (.X 1 3 (A r.VA))),(a+2,some (.X 1 3 (A r.TA))),(a+3,some (.X 1 3 (A r.LB))),(a+4,some (.X 1 3 (A r.sA))),(a+5,some (.X 2 43 (xA ds))),(a+6,some (.X 1 3 (A r.SA))),(a+7,some (.X 1 3 (A r.PA))),(a+8,some (.X 1 3 (A r.RA))),(a+9,some (.X 1 3 (A r.NB)))]
def qu (r:MA):MB {i:Nat//i<=r.FA.length}where
 F i:=[(2, .u (.p 11 0)),(3, .u (.p 12 0)),(51, .u (.s 5 0 r.FA.length)),(52, .u (I r.FA.length)),(53, .u (I i.1))]
 H i:=[(5,some (.ro (xA r.FA))),(11,some (.st (cC nV.zero))),(12,some (.st (Hh 13 i.1 r)))]++xa 13 (r.FA.take i.1) r
 n _:=23
theorem EEA (r:MA) (h:r.OB.length<=1000/\r.VA.length<=1000/\r.TA.length<=1000/\r.LB.length<=1000/\r.sA.length<=1000/\r.FA.length<=1000/\r.SA.length<=1000/\r.PA.length<=1000/\r.RA.length<=1000/\r.NB.length<=1000):
  Fn prog 8 [.agg (EC 0 r)] (jB 0 r++[]) 10 (.agg (Hh 10 r.FA.length r)) (xa 10 r.FA r) 20:=by
 obtain⟨a0,a1,a2,a3,a4,dJ,a6,a7,a8,a9⟩:=h
 refine fm (KA 33776997205278767) func8 λw W G g=> ?_
 repeat' (first
  |refine tk ?_
  |(refine AB 19 ?_;refine cA.N [0] func19 rfl rfl (λ_=>ZN r.OB O) rfl rfl rfl (λ_=>⟨mS,U⟩) ?_)
  |(refine AB 19 ?_;refine cA.N [1] func19 rfl rfl (λ_=>ZN r.VA O) rfl rfl rfl (λ_=>⟨mS,U⟩) ?_)
  |(refine AB 19 ?_;refine cA.N [2] func19 rfl rfl (λ_=>ZN r.TA O) rfl rfl rfl (λ_=>⟨mS,U⟩) ?_)
  |(refine AB 19 ?_;refine cA.N [3] func19 rfl rfl (λ_=>ZN r.LB O) rfl rfl rfl (λ_=>⟨mS,U⟩) ?_)
  |(refine AB 19 ?_;refine cA.N [4] func19 rfl rfl (λ_=>ZN r.sA O) rfl rfl rfl (λ_=>⟨mS,U⟩) ?_)
  |(refine AB 19 ?_;refine cA.N [6] func19 rfl rfl (λ_=>ZN r.SA O) rfl rfl rfl (λ_=>⟨mS,U⟩) ?_)
  |(refine AB 19 ?_;refine cA.N [7] func19 rfl rfl (λ_=>ZN r.PA O) rfl rfl rfl (λ_=>⟨mS,U⟩) ?_)
  |(refine AB 19 ?_;refine cA.N [8] func19 rfl rfl (λ_=>ZN r.RA O) rfl rfl rfl (λ_=>⟨mS,U⟩) ?_)
  |(refine AB 19 ?_;refine cA.N [9] func19 rfl rfl (λ_=>ZN r.NB O) rfl rfl rfl (λ_=>⟨mS,U⟩) ?_)
  |refine CA ?_|refine an ?_ ?_|(intro Z;try simp at Z))
 refine VD 30 13 2 43 _ rfl rfl rfl ?_
 refine FB (qu r) (λi=>r.FA.length-i.1) ?_ ?_
 ·exact⟨⟨0,Nat.zero_le _⟩,[(12,30),(13,12),(14,14),(15,16),(16,18),(17,20),(18,31),(19,22),(20,24),(21,26),(22,28)],U,eL _ eF NF⟩
 ·rintro⟨i,hi⟩
  intro F H Y hF hH hn;dsimp only[qu]at hF hH hn;subst hF hH hn
  have kg:(r.FA.take i).length=i:=by rw[List.length_take];omega
  by_cases fA:i<r.FA.length
  ·obtain⟨p,hp⟩:∃p,p=r.FA.getD i (0,0):=⟨_,rfl⟩
   have IC:xA (r.FA.take (i+1))=xA (r.FA.take i)++[I p.1,I p.2]:=by
    rw[List.take_succ_eq_append_getElem fA,hp,List.getD_eq_getElem?_getD,List.getElem?_eq_getElem fA]
    simp only[xA,List.flatMap_append];rfl
   repeat' (first
    |refine cT 54 rfl eA ?_
    |refine tk ?_
    |refine mF i O O λrest=> ?_
    |refine⟨(by(try dsimp only);simp[rC];try omega),Nat.le_of_ble_eq_true rfl,O,λ_=>(by intro sv YC;have iB:sv∈[I (r.FA.getD i (0,0)).1,I (r.FA.getD i (0,0)).2]:=YC;simp at iB;rcases iB with rfl|rfl<;>rfl),λ_=>(by show(_+1)*16<=140737488355328/\_+1<=maxLen;dsimp only[maxLen];simp;try omega),?_⟩
    |refine CA ?_|refine an ?_ ?_|(intro Z;try simp at Z))
   refine⟨⟨i+1,fA⟩,[(18,25)],show r.FA.length- (i+1)<r.FA.length-i by omega,eL [(18,25)] eF ⟨TB rfl (by first|rfl|(simp[DA.cells];done)|(simp[DA.cells];rfl)),rfl,rfl,gA rfl rfl,gA rfl rfl,gA rfl rfl,gA rfl rfl,gA rfl rfl,RM rfl ?_,gA rfl rfl,gA rfl rfl,gA rfl rfl,gA rfl rfl,U⟩⟩
   rw[IC,List.take_of_length_le (by rw[rC];omega),hp];rfl
  ·have hq:i=r.FA.length:=O
   subst hq
   repeat' (first
    |refine cF 54 rfl (by simp) ?_
    |refine tk ?_
    |refine CA ?_|refine an ?_ ?_|(intro Z;try simp at Z))
   exact⟨[(10,13),(11,14),(12,15),(13,16),(14,17),(15,18),(16,19),(17,20),(18,21),(19,22)],eL _ ⟨rfl,U⟩ ⟨gA rfl rfl,gA rfl rfl,gA rfl rfl,gA rfl rfl,gA rfl rfl,RM rfl (by rw[List.take_length]),gA rfl rfl,gA rfl rfl,gA rfl rfl,gA rfl rfl,U⟩⟩
end En
end Go.Proofs.YtkidgehblodbcaaGreatDoor
