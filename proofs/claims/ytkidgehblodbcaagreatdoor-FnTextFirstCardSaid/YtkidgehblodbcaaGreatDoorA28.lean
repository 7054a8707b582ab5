/- A part of the proof of FnTextFirst: the iterator, walked. -/
import Derived.Test.YtkidgehblodbcaaGreatDoorA05
import Derived.Test.YtkidgehblodbcaaGreatDoorA27
set_option linter.all false
set_option maxRecDepth 100000
set_option maxHeartbeats 16000000
namespace Go.Proofs.YtkidgehblodbcaaGreatDoor
namespace En
open Go.RowKit Go.Proofs.Tryz
def Kg (st:List Int) (so sl:Nat):List SV:=List.replicate 26 (.any λ_=>True)++[.s 24 (2*so) sl, .s 24 0 st.length,B true, .any λ_=>True]
def wK (st:List Int) (so sl:Nat):HS:=[(0,some (.st (Kg st so sl))),(24,some (.X 2 51 (iA st)))]
theorem Vs (st:List Int) (so sl:Nat) (h0:sl=0):Fn prog 104 [.p 0 26] (wK st so sl) 26 (.jA [Tm 0,B false]) (wK st so sl) 26:=by
 refine fm (KA 1073742349) func104 λw W G g=> ?_
 repeat' (first
  |refine tk ?_
  |refine CA ?_|refine an ?_ ?_|(intro Z;try simp at Z))
 ·exact⟨[],OA.nil UA ⟨rfl,U⟩ ⟨rfl,bD rfl rfl,U⟩⟩
 ·exact absurd h0 Z
theorem Ws (st:List Int) (so sl:Nat) (h0:0<sl) (D:so+sl<=st.length) (h2:st.length<=1000000):
  Fn prog 104 [.p 0 26] (wK st so sl) 26 (.jA [Tm (st.getD so 0),B true]) (wK st (LD so sl) (sl-1)) 26:=by
 refine fm (KA 1073742349) func104 λw W G g=> ?_
 repeat' (first
  |refine tk ?_
  |(refine mF so O (by rw[List.length_map];omega) λrest=> ?_;rw[DQ O])
  |refine CA ?_|refine an ?_ ?_|(intro Z;try simp at Z))
 ·have hs:sl=1:=O
  subst hs
  exact⟨[],OA.nil UA ⟨rfl,U⟩ ⟨rfl,bD rfl rfl,U⟩⟩
 ·have e0:LD so sl=so+1:=by unfold LD;rw[if_neg O,if_neg O]
  have e1:((sl:Int)-1).toNat=sl-1:=O
  have e2:2*so+1*2=2*(so+1):=O
  refine⟨[],OA.nil UA ⟨rfl,U⟩ ⟨?_,bD rfl rfl,U⟩⟩
  show some (DA.st _)=some (DA.st (Kg st (LD so sl) (sl-1)))
  rw[e0]
  simp only[Kg]
  simp[e1,e2]
theorem TBA (st:List Int) (so sl:Nat):Fn prog 103 [.p 0 0] (wK st so sl) 26 (.jA []) (wK st so sl) 26:=by
 refine fm (KA fE) func103 λw W G g=> ?_
 repeat' (first
  |refine tk ?_
  |refine And.intro (λ_=> ?_) (λZ=>absurd (show true=false from Z) (by decide))
  |refine CA ?_|refine an ?_ ?_|(intro Z;try simp at Z))
 all_goals exact⟨[],OA.nil UA ⟨rfl,U⟩ ⟨rfl,bD rfl rfl,U⟩⟩
theorem Xs (st:List Int) (so sl RS SS:Nat) (t:Int) (b:Bool) (pU:Fn prog 104 [.p 0 26] (wK st so sl) 26 (.jA [Tm t,B b]) (wK st RS SS) 26):
  Fn prog 51 [.p 0 0] (wK st so sl) 26 (.jA [Tm t,B b]) (wK st RS SS) 26:=by
 refine fm (KA 13) func51 λw W G g=> ?_
 repeat' (first
  |refine tk ?_
  |(refine AB 103 ?_;refine cA.F (List.range 26) (s:= .jA []) (wh:=wK st so sl) func103 rfl rfl (λ_=>TBA st so sl) rfl rfl (λ_=>⟨rfl,by show _=some (DA.X 2 51 (YA _ (iA st)));rw[SC];rfl,U⟩) rfl (by show[(0,some (DA.st (YA _ _))),(24,some (DA.X 2 51 (YA _ (iA _))))]=_;rw[SC];rfl) ?_)
  |(refine AB 104 ?_;refine cA.F (List.range 26) (s:= .jA [Tm t,B b]) (wh:=wK st RS SS) func104 rfl rfl (λ_=>pU) rfl rfl (λ_=>⟨rfl,by show _=some (DA.X 2 51 (YA _ (iA st)));rw[SC];rfl,U⟩) rfl (by show[(0,some (DA.st (YA _ _))),(24,some (DA.X 2 51 (YA _ (iA _))))]=_;rw[SC];rfl) ?_)
  |refine CA ?_|refine an ?_ ?_|(intro Z;try simp at Z))
 exact⟨[],OA.nil UA ⟨rfl,U⟩ ⟨rfl,bD rfl rfl,U⟩⟩
theorem UBA (r:RR) (c:CR) (h:0<c.sl):(if(QA r c).sl=1 then{QA r c with so:=0,sl:=0}else{QA r c with so:=(QA r c).so+1,sl:=(QA r c).sl-1})=QA r {c with so:=LD c.so c.sl,sl:=c.sl-1}:=by
 by_cases D:c.sl=1
 ·rw[if_pos (show(QA r c).sl=1 from D),D];rfl
 ·rw[if_neg (show¬(QA r c).sl=1 from D)]
  unfold LD;rw[if_neg O,if_neg D];rfl
theorem VBA (r:RR) (len:Int) (c0 c:CR) (KP:Fn prog 103 [.p 0 0] (QM (QA r c0) r len) 26 (.jA []) (Fg (QA r c) r len) 37) (h0:0<c.sl) (D:c.so+c.sl<=c.st.length) (h2:c.st.length<=1000000):
  Fn prog 51 [.p 0 0] (QM (QA r c0) r len) 26 (.jA [Tm (c.st.getD c.so 0),B true]) (Fg (QA r {c with so:=LD c.so c.sl,sl:=c.sl-1}) r len) 37:=by
 have pU:=W7 (QA r c) h0 D h2
 rw[UBA r c h0]at pU
 refine fm (KA 13) func51 λw W G g=> ?_
 repeat' (first
  |refine tk ?_
  |(refine AB 103 ?_;refine cA.F (List.range 26) (s:= .jA []) (wh:=[(0,some (.st (XB (QA r c) 27 28 29 30 31 32 33 34 35 36 37))),(1,some (.st (QE r len))),(15,none),(16,none),(17,none),(18,none),(19,none),(20,none),(21,none),(22,none),(23,none),(24,none),(25,none),(27,some (.X 1 3 (A (QA r c).mm))),(28,some (.X 1 3 (A (QA r c).mr))),(29,some (.X 1 3 (A (QA r c).md))),(30,some (.X 1 3 (A (QA r c).nd))),(31,some (.X 1 3 (A (QA r c).XC))),(32,some (.X 1 3 (A (QA r c).wn))),(33,some (.X 1 3 (A (QA r c).nw))),(34,some (.X 1 3 (A (QA r c).ea))),(35,some (.X 2 51 (iA (QA r c).ts))),(36,some (.X 2 51 (iA (QA r c).st))),(37,some (.X 2 194 (uC (QA r c).ds)))]) func103 rfl rfl (λ_=>KP) rfl rfl (λ_=>⟨rfl,rfl,wB,wB,wB,wB,wB,wB,wB,wB,by show _=some (DA.X 2 51 (YA _ (iA _)));rw[SC];rfl,by show _=some (DA.X 2 51 (YA _ (iA _)));rw[SC];rfl,by show _=some (DA.X 2 194 (YA _ (uC _)));rw[BK];rfl,mS,mS,mS,mS,mS,mS,mS,mS,mS,mS,mS,mS,U⟩) rfl (by show[(0,some (DA.st (YA _ _))),(1,some (DA.st (YA _ _))),(15,none),(16,none),(17,none),(18,none),(19,none),(20,none),(21,none),(22,none),(23,none),(24,none),(25,none),(27+0,some (DA.X 1 3 (YA _ (A _)))),(27+1,some (DA.X 1 3 (YA _ (A _)))),(27+2,some (DA.X 1 3 (YA _ (A _)))),(27+3,some (DA.X 1 3 (YA _ (A _)))),(27+4,some (DA.X 1 3 (YA _ (A _)))),(27+5,some (DA.X 1 3 (YA _ (A _)))),(27+6,some (DA.X 1 3 (YA _ (A _)))),(27+7,some (DA.X 1 3 (YA _ (A _)))),(27+8,some (DA.X 2 51 (YA _ (iA _)))),(27+9,some (DA.X 2 51 (YA _ (iA _)))),(27+10,some (DA.X 2 194 (YA _ (uC _))))]=_;simp only[kD,SC,BK];rfl) ?_)
  |(refine AB 104 ?_;refine cA.F [0,1,2,3,4,5,6,7,8,9,10,11,12,13,14,27,28,29,30,31,32,33,34,35,36,37] (s:= .jA [Tm (c.st.getD c.so 0),B true]) (wh:=[(0,some (.st (XB (QA r {c with so:=LD c.so c.sl,sl:=c.sl-1}) 27 28 29 30 31 32 33 34 35 36 37))),(36,some (.X 2 51 (iA c.st)))]) func104 rfl rfl (λ_=>pU) rfl rfl (λ_=>⟨rfl,by show _=some (DA.X 2 51 (YA _ (iA _)));rw[SC];rfl,U⟩) rfl (by show[(0,some (DA.st (YA _ _))),(36,some (DA.X 2 51 (YA _ (iA _))))]=_;rw[SC];rfl) ?_)
  |refine CA ?_|refine an ?_ ?_|(intro Z;try simp at Z))
 exact⟨[(26,27),(27,28),(28,29),(29,30),(30,31),(31,32),(32,33),(33,34),(34,35),(35,36),(36,37)],eJ [(26,27),(27,28),(28,29),(29,30),(30,31),(31,32),(32,33),(33,34),(34,35),(35,36),(36,37)] ⟨rfl,U⟩ eH⟩
def dQ (b:Nat) (st:List Int) (so sl:Nat):List SV:=List.replicate 26 (.any λ_=>True)++[.s b (2*so) sl, .s b 0 st.length,B true, .any λ_=>True]
theorem Ys (r:RR) (len:Int) (c0:CR) (st:List Int) (sl RS SS:Nat) (t:Int) (b:Bool) (KP:Fn prog 103 [.p 0 0] (QM (QA r c0) r len) 26 (.jA []) (ZU st sl) 27) (pU:Fn prog 104 [.p 0 26] (wK st 0 sl) 26 (.jA [Tm t,B b]) (wK st RS SS) 26):
  Fn prog 51 [.p 0 0] (QM (QA r c0) r len) 26 (.jA [Tm t,B b]) [(0,some (.st (dQ 26 st RS SS))),(26,some (.X 2 51 (iA st)))] 27:=by
 refine fm (KA 13) func51 λw W G g=> ?_
 repeat' (first
  |refine tk ?_
  |(refine AB 103 ?_;refine cA.F (List.range 26) (s:= .jA []) (wh:=[(0,some (.st (dQ 27 st 0 sl))),(1,none),(15,none),(16,none),(17,none),(18,none),(19,none),(20,none),(21,none),(22,none),(23,none),(24,none),(25,none),(27,some (.X 2 51 (iA st)))]) func103 rfl rfl (λ_=>KP) rfl rfl (λ_=>⟨rfl,rfl,wB,wB,wB,wB,wB,wB,wB,wB,by show _=some (DA.X 2 51 (YA _ (iA _)));rw[SC];rfl,by show _=some (DA.X 2 51 (YA _ (iA _)));rw[SC];rfl,by show _=some (DA.X 2 194 (YA _ (uC _)));rw[BK];rfl,mS,mS,mS,mS,mS,mS,mS,mS,mS,mS,mS,mS,U⟩) rfl (by show[(0,some (DA.st (YA _ _))),(1,none),(15,none),(16,none),(17,none),(18,none),(19,none),(20,none),(21,none),(22,none),(23,none),(24,none),(25,none),(27+0,some (DA.X 2 51 (YA _ (iA _))))]=_;simp only[kD,SC,BK];rfl) ?_)
  |(refine AB 104 ?_;refine cA.F [0,1,2,3,4,5,6,7,8,9,10,11,12,13,14,15,16,17,18,19,20,21,22,23,27,25] (s:= .jA [Tm t,B b]) (wh:=[(0,some (.st (dQ 27 st RS SS))),(27,some (.X 2 51 (iA st)))]) func104 rfl rfl (λ_=>pU) rfl rfl (λ_=>⟨rfl,by show _=some (DA.X 2 51 (YA _ (iA _)));rw[SC];rfl,U⟩) rfl (by show[(0,some (DA.st (YA _ _))),(27,some (DA.X 2 51 (YA _ (iA _))))]=_;rw[SC];rfl) ?_)
  |refine CA ?_|refine an ?_ ?_|(intro Z;try simp at Z))
 exact⟨[(26,27)],eJ [(26,27)] ⟨rfl,U⟩ eH⟩
end En
end Go.Proofs.YtkidgehblodbcaaGreatDoor
