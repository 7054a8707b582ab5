/- A part of the proof of FnTextFirst: a rule is built and its first dates are taken, walked. -/
import Derived.Test.YtkidgehblodbcaaGreatDoorA13
set_option linter.all false
set_option maxRecDepth 100000
set_option maxHeartbeats 16000000
namespace Go.Proofs.YtkidgehblodbcaaGreatDoor
namespace En
open Go.RowKit Go.Proofs.Tryz
def Ug (J:MA):HS:=[(0,some (.X 1 3 (A J.OB))),(1,some (.X 1 3 (A J.VA))),(2,some (.X 1 3 (A J.TA))),(3,some (.X 1 3 (A J.LB))),(4,some (.X 1 3 (A J.sA))),(5,some (.X 2 53 (xA J.FA))),(6,some (.X 1 3 (A J.SA))),(7,some (.X 1 3 (A J.PA))),(8,some (.X 1 3 (A J.RA))),(9,some (.X 1 3 (A J.NB)))]++[(10,some (.st (bA J J.IA 1 2 5 J.VA J.TA J.FA))),(11,some (.st (List.replicate 60 nA))),(12,some (.st (bA J J.IA 1 2 5 J.VA J.TA J.FA++List.replicate 19 nA++([I J.BA,nA,nA,nA,nA,nA,nA,nA,zN]++([zN,zN,zN,zN,zN,zN,zN,zN,zN,zN,zN,zN]++[I 0])))))]
def Vg (J:MA):HS:=[(0,some (.X 1 3 (A J.OB))),(1,some (.X 1 3 (A J.VA))),(2,some (.X 1 3 (A J.TA))),(3,some (.X 1 3 (A J.LB))),(4,some (.X 1 3 (A J.sA))),(5,some (.X 2 53 (xA J.FA))),(6,some (.X 1 3 (A J.SA))),(7,some (.X 1 3 (A J.PA))),(8,some (.X 1 3 (A J.RA))),(9,some (.X 1 3 (A J.NB)))]++[(10,some (.st (bA J J.AA.IA 1 2 5 J.VA J.TA J.FA))),(11,some (.st (List.replicate 60 nA))),(12,some (.st (bA J J.IA 1 2 5 J.VA J.TA J.FA++List.replicate 19 nA++([I J.BA,nA,nA,nA,nA,nA,nA,nA,zN]++([zN,zN,zN,zN,zN,zN,zN,zN,zN,zN,zN,zN]++[I 0])))))]
def Wg (J:MA):HS:=[(0,some (.X 1 3 (A J.OB))),(1,some (.X 1 3 (A J.VA))),(2,some (.X 1 3 (A J.TA))),(3,some (.X 1 3 (A J.LB))),(4,some (.X 1 3 (A J.sA))),(5,some (.X 2 53 (xA J.FA))),(6,some (.X 1 3 (A J.SA))),(7,some (.X 1 3 (A J.PA))),(8,some (.X 1 3 (A J.RA))),(9,some (.X 1 3 (A J.NB)))]++[(10,some (.st (bA J J.AA.IA 1 2 5 J.VA J.TA J.FA))),(11,some (.st (List.replicate 60 nA))),(12,some (.st (bA J J.IA 1 2 5 J.VA J.TA J.FA++List.replicate 19 nA++([I J.BA,I J.GA,I 0,I J.AA.IA,nA,I J.count,nA,nA,zN]++([zN,zN,zN,zN,zN,zN,zN,zN,zN,zN,zN,zN]++[I 0])))))]
def Xg (J:MA):HS:=[(0,some (.X 1 3 (A J.OB))),(1,some (.X 1 3 (A J.VA))),(2,some (.X 1 3 (A J.TA))),(3,some (.X 1 3 (A J.LB))),(4,some (.X 1 3 (A J.sA))),(5,some (.X 2 53 (xA J.FA))),(6,some (.X 1 3 (A J.SA))),(7,some (.X 1 3 (A J.PA))),(8,some (.X 1 3 (A J.RA))),(9,some (.X 1 3 (A J.NB)))]++[(10,some (.st (bA J J.AA.IA 1 2 5 J.VA J.TA J.FA))),(11,some (.st (List.replicate 60 nA))),(12,some (.st (bA J J.IA 1 2 5 J.VA J.TA J.FA++List.replicate 19 nA++([I J.BA,I J.GA,I 0,I J.AA.IA,nA,I J.count,I J.AA.xB,I (if J.CE=true then 0 else 854775807),zN]++([zN,zN,zN,zN,zN,zN,zN,zN,zN,zN,zN,zN]++[I 0])))))]
def WS (J:MA):HS:=[(0,some (.X 1 3 (A J.OB))),(1,some (.X 1 3 (A J.VA))),(2,some (.X 1 3 (A J.TA))),(3,some (.X 1 3 (A J.LB))),(4,some (.X 1 3 (A J.sA))),(5,some (.X 2 53 (xA J.FA))),(6,some (.X 1 3 (A J.SA))),(7,some (.X 1 3 (A J.PA))),(8,some (.X 1 3 (A J.RA))),(9,some (.X 1 3 (A J.NB)))]++[(10,some (.st (bA J J.AA.IA 1 2 5 J.VA J.TA J.FA))),(11,some (.st (List.replicate 60 nA))),(12,some (.st (bA J J.IA 1 2 5 J.VA J.TA J.FA++List.replicate 19 nA++tl J [zN,zN,zN,zN,zN,zN,zN,zN,zN,zN,zN,zN])))]
def XS (J:MA):HS:=[(0,some (.X 1 3 (A J.OB))),(3,some (.X 1 3 (A J.LB))),(4,some (.X 1 3 (A J.sA))),(6,some (.X 1 3 (A J.SA))),(7,some (.X 1 3 (A J.PA))),(8,some (.X 1 3 (A J.RA))),(9,some (.X 1 3 (A J.NB))),(13,some (.X 1 3 (A J.AA.VA))),(14,some (.X 1 3 (A J.AA.TA))),(15,some (.X 2 53 (xA J.AA.FA)))]++[(10,some (.st (bA J J.AA.IA 13 14 15 J.AA.VA J.AA.TA J.AA.FA))),(11,some (.st (List.replicate 60 nA))),(12,some (.st (bA J J.IA 1 2 5 J.VA J.TA J.FA++List.replicate 19 nA++tl J [zN,zN,zN,zN,zN,zN,zN,zN,zN,zN,zN,zN])))]
def sBA (J:MA):HS:=[(0,some (.X 1 3 (A J.OB))),(3,some (.X 1 3 (A J.LB))),(4,some (.X 1 3 (A J.sA))),(6,some (.X 1 3 (A J.SA))),(7,some (.X 1 3 (A J.PA))),(8,some (.X 1 3 (A J.RA))),(9,some (.X 1 3 (A J.NB))),(13,some (.X 1 3 (A J.AA.VA))),(14,some (.X 1 3 (A J.AA.TA))),(15,some (.X 2 53 (xA J.AA.FA)))]++[(10,some (.st (bA J J.AA.IA 13 14 15 J.AA.VA J.AA.TA J.AA.FA))),(11,some (.st (List.replicate 60 nA))),(12,some (.st (bA J J.IA 1 2 5 J.VA J.TA J.FA++List.replicate 19 nA++tl J [.s 13 0 J.AA.VA.length,zN,zN, .s 3 0 J.LB.length,zN,zN,zN,zN,zN,zN, .s 9 0 J.NB.length,zN])))]
def bS3 (J:MA):HS:=[(0,some (.X 1 3 (A J.OB))),(3,some (.X 1 3 (A J.LB))),(4,some (.X 1 3 (A J.sA))),(6,some (.X 1 3 (A J.SA))),(7,some (.X 1 3 (A J.PA))),(8,some (.X 1 3 (A J.RA))),(9,some (.X 1 3 (A J.NB))),(13,some (.X 1 3 (A J.AA.VA))),(15,some (.X 2 53 (xA J.AA.FA))),(16,some (.X 1 3 (A (JA J).FC))),(17,some (.X 1 3 (A (JA J).GC)))]++[(10,some (.st (bA J J.AA.IA 13 14 15 J.AA.VA J.AA.TA J.AA.FA))),(11,some (.st (List.replicate 60 nA))),(12,some (.st (bA J J.IA 1 2 5 J.VA J.TA J.FA++List.replicate 19 nA++tl J [.s 13 0 J.AA.VA.length, .s 16 0 (JA J).FC.length, .s 17 0 (JA J).GC.length, .s 3 0 J.LB.length,zN,zN,zN,zN,zN,zN, .s 9 0 J.NB.length,zN])))]
def tBA (J:MA):HS:=[(0,some (.X 1 3 (A J.OB))),(3,some (.X 1 3 (A J.LB))),(4,some (.X 1 3 (A J.sA))),(6,some (.X 1 3 (A J.SA))),(7,some (.X 1 3 (A J.PA))),(8,some (.X 1 3 (A J.RA))),(9,some (.X 1 3 (A J.NB))),(13,some (.X 1 3 (A J.AA.VA))),(15,some (.X 2 53 (xA J.AA.FA))),(16,some (.X 1 3 (A (JA J).FC))),(17,some (.X 1 3 (A (JA J).GC)))]++[(10,some (.st (bA J J.AA.IA 13 14 15 J.AA.VA J.AA.TA J.AA.FA))),(11,some (.st (List.replicate 60 nA))),(12,some (.st (bA J J.IA 1 2 5 J.VA J.TA J.FA++List.replicate 19 nA++tl J [.s 13 0 J.AA.VA.length, .s 16 0 (JA J).FC.length, .s 17 0 (JA J).GC.length, .s 3 0 J.LB.length, .s 4 0 J.sA.length,zN,zN,zN,zN,zN, .s 9 0 J.NB.length,zN])))]
def kX (J:MA):HS:=[(0,some (.X 1 3 (A J.OB))),(3,some (.X 1 3 (A J.LB))),(4,some (.X 1 3 (A J.sA))),(6,some (.X 1 3 (A J.SA))),(7,some (.X 1 3 (A J.PA))),(8,some (.X 1 3 (A J.RA))),(9,some (.X 1 3 (A J.NB))),(13,some (.X 1 3 (A J.AA.VA))),(16,some (.X 1 3 (A (JA J).FC))),(17,some (.X 1 3 (A (JA J).GC))),(18,some (.X 1 3 (A (JA J).VC))),(19,some (.X 2 53 (xA (JA J).vA)))]++[(10,some (.st (bA J J.AA.IA 13 14 15 J.AA.VA J.AA.TA J.AA.FA))),(11,some (.st (List.replicate 60 nA))),(12,some (.st (bA J J.IA 1 2 5 J.VA J.TA J.FA++List.replicate 19 nA++tl J [.s 13 0 J.AA.VA.length, .s 16 0 (JA J).FC.length, .s 17 0 (JA J).GC.length, .s 3 0 J.LB.length, .s 4 0 J.sA.length, .s 18 0 (JA J).VC.length, .s 19 0 (JA J).vA.length,zN,zN,zN, .s 9 0 J.NB.length,zN])))]
def iQ (J:MA):HS:=[(0,some (.X 1 3 (A J.OB))),(3,some (.X 1 3 (A J.LB))),(4,some (.X 1 3 (A J.sA))),(7,some (.X 1 3 (A J.PA))),(8,some (.X 1 3 (A J.RA))),(9,some (.X 1 3 (A J.NB))),(13,some (.X 1 3 (A J.AA.VA))),(16,some (.X 1 3 (A (JA J).FC))),(17,some (.X 1 3 (A (JA J).GC))),(18,some (.X 1 3 (A (JA J).VC))),(19,some (.X 2 53 (xA (JA J).vA))),(20,some (.X 1 3 (A J.AA.SA)))]++[(10,some (.st (bA J J.AA.IA 13 14 15 J.AA.VA J.AA.TA J.AA.FA))),(11,some (.st (List.replicate 60 nA))),(12,some (.st (bA J J.IA 1 2 5 J.VA J.TA J.FA++List.replicate 19 nA++tl J [.s 13 0 J.AA.VA.length, .s 16 0 (JA J).FC.length, .s 17 0 (JA J).GC.length, .s 3 0 J.LB.length, .s 4 0 J.sA.length, .s 18 0 (JA J).VC.length, .s 19 0 (JA J).vA.length, .s 20 0 J.AA.SA.length,zN,zN, .s 9 0 J.NB.length,zN])))]
def jQ (J:MA):HS:=[(0,some (.X 1 3 (A J.OB))),(3,some (.X 1 3 (A J.LB))),(4,some (.X 1 3 (A J.sA))),(8,some (.X 1 3 (A J.RA))),(9,some (.X 1 3 (A J.NB))),(13,some (.X 1 3 (A J.AA.VA))),(16,some (.X 1 3 (A (JA J).FC))),(17,some (.X 1 3 (A (JA J).GC))),(18,some (.X 1 3 (A (JA J).VC))),(19,some (.X 2 53 (xA (JA J).vA))),(20,some (.X 1 3 (A J.AA.SA))),(21,some (.X 1 3 (A J.AA.PA)))]++[(10,some (.st (bA J J.AA.IA 13 14 15 J.AA.VA J.AA.TA J.AA.FA))),(11,some (.st (List.replicate 60 nA))),(12,some (.st (bA J J.IA 1 2 5 J.VA J.TA J.FA++List.replicate 19 nA++tl J [.s 13 0 J.AA.VA.length, .s 16 0 (JA J).FC.length, .s 17 0 (JA J).GC.length, .s 3 0 J.LB.length, .s 4 0 J.sA.length, .s 18 0 (JA J).VC.length, .s 19 0 (JA J).vA.length, .s 20 0 J.AA.SA.length, .s 21 0 J.AA.PA.length,zN, .s 9 0 J.NB.length,zN])))]
def lX (J:MA):HS:=[(0,some (.X 1 3 (A J.OB))),(3,some (.X 1 3 (A J.LB))),(4,some (.X 1 3 (A J.sA))),(9,some (.X 1 3 (A J.NB))),(13,some (.X 1 3 (A J.AA.VA))),(16,some (.X 1 3 (A (JA J).FC))),(17,some (.X 1 3 (A (JA J).GC))),(18,some (.X 1 3 (A (JA J).VC))),(19,some (.X 2 53 (xA (JA J).vA))),(20,some (.X 1 3 (A J.AA.SA))),(21,some (.X 1 3 (A J.AA.PA))),(22,some (.X 1 3 (A J.AA.RA)))]++[(10,some (.st (bA J J.AA.IA 13 14 15 J.AA.VA J.AA.TA J.AA.FA))),(11,some (.st (List.replicate 60 nA))),(12,some (.st (bA J J.IA 1 2 5 J.VA J.TA J.FA++List.replicate 19 nA++tl J [.s 13 0 J.AA.VA.length, .s 16 0 (JA J).FC.length, .s 17 0 (JA J).GC.length, .s 3 0 J.LB.length, .s 4 0 J.sA.length, .s 18 0 (JA J).VC.length, .s 19 0 (JA J).vA.length, .s 20 0 J.AA.SA.length, .s 21 0 J.AA.PA.length, .s 22 0 J.AA.RA.length, .s 9 0 J.NB.length,zN])))]
def Yg (J:MA):HS:=[(0,some (.X 1 3 (A J.OB))),(3,some (.X 1 3 (A J.LB))),(4,some (.X 1 3 (A J.sA))),(9,some (.X 1 3 (A J.NB))),(13,some (.X 1 3 (A J.AA.VA))),(16,some (.X 1 3 (A (JA J).FC))),(17,some (.X 1 3 (A (JA J).GC))),(18,some (.X 1 3 (A (JA J).VC))),(19,some (.X 2 53 (xA (JA J).vA))),(20,some (.X 1 3 (A J.AA.SA))),(21,some (.X 1 3 (A J.AA.PA))),(22,some (.X 1 3 (A J.AA.RA))),(23,some (.X 2 51 (iA (JA J).ts)))]++[(10,some (.st (bA J J.AA.IA 13 14 15 J.AA.VA J.AA.TA J.AA.FA))),(11,some (.st (List.replicate 60 nA))),(12,some (.st (bA J J.IA 1 2 5 J.VA J.TA J.FA++List.replicate 19 nA++tl J [.s 13 0 J.AA.VA.length, .s 16 0 (JA J).FC.length, .s 17 0 (JA J).GC.length, .s 3 0 J.LB.length, .s 4 0 J.sA.length, .s 18 0 (JA J).VC.length, .s 19 0 (JA J).vA.length, .s 20 0 J.AA.SA.length, .s 21 0 J.AA.PA.length, .s 22 0 J.AA.RA.length, .s 9 0 J.NB.length, .s 23 0 (JA J).ts.length])))]
theorem uBA {w:World} {W:Nat->Prop} {G:wA} {g:GW w W} {Q:QT} (J:MA) (h:CB J):
  En.T (cx w W f37.ntmps (KA mD) 10 G g) ((f37.body.bind (ID 4)).getD .skip) bF (Ug J) 13 (SF (cx w W f37.ntmps (KA mD) 10 G g) bF (Vg J) 13 Q):=by
 have c1:J.AA.IA=if J.IA>1 then J.IA else 1:=rfl
 have hi:=h.EA
 by_cases h0:J.IA<1
 ·have e1:J.AA.IA=1:=by rw[c1,if_neg O]
  simp only[Ug,Vg,bA,e1]
  repeat' (first
   |refine cT 22 rfl eA ?_
   |refine tk ?_
   |refine CA ?_|refine an ?_ ?_|(intro Z;try simp at Z))
  exact mB (eN eF qB) Z
 ·have e1:J.AA.IA=J.IA:=by rw[c1];split<;>omega
  simp only[Ug,Vg,bA,e1]
  repeat' (first
   |refine cF 22 rfl eA ?_
   |refine tk ?_
   |refine CA ?_|refine an ?_ ?_|(intro Z;try simp at Z))
  exact mB (eN eF qB) Z
theorem vBA {w:World} {W:Nat->Prop} {G:wA} {g:GW w W} {Q:QT} (J:MA) (h:CB J):
  En.T (cx w W f37.ntmps (KA mD) 10 G g) ((f37.body.bind (ID 14)).getD .skip) bF (Wg J) 13 (SF (cx w W f37.ntmps (KA mD) 10 G g) bF (Xg J) 13 Q):=by
 have c1:J.AA.xB=if J.CE=true then J.xB else J.GA+9223372036:=rfl
 have IC:=h.st
 by_cases h0:J.CE=true
 ·have hu:=h.un h0
  have e1:J.AA.xB=J.xB:=by rw[c1,if_pos h0]
  simp only[Wg,Xg,bA,e1,h0,if_true]
  repeat' (first
   |refine cF 48 rfl eA ?_
   |refine tk ?_
   |refine cz 41 func41 (λ_=>DM J.xB 0) ?_
   |refine cz 73 func73 (λ_=>TZ J.xB 0 1000000000) ?_
   |refine CA ?_|refine an ?_ ?_|(intro Z;try simp at Z))
  exact mB (eN eF qB) Z
 ·have e1:J.AA.xB=J.GA+9223372036:=by rw[c1,if_neg h0]
  simp only[Wg,Xg,bA,e1,h0,if_false]
  repeat' (first
   |refine cT 48 rfl rfl ?_
   |refine tk ?_
   |refine cz 41 func41 (λ_=>DM 0 0) ?_
   |refine cz 74 func74 (λ_=>Gq J.GA O) ?_
   |refine CA ?_|refine an ?_ ?_|(intro Z;try simp at Z))
  exact mB (eN eF qB) Z
theorem wBA {w:World} {W:Nat->Prop} {G:wA} {g:GW w W} {Q:QT} (J:MA) (h:CB J):
  En.T (cx w W f37.ntmps (KA mD) 10 G g) ((f37.body.bind (ID 20)).getD .skip) bF (WS J) 13 (SF (cx w W f37.ntmps (KA mD) 10 G g) bF (XS J) 16 Q):=by
 have c1:J.AA.VA=if J.kC=false/\J.BA=0/\J.VA=[]then[KB (J.GA/86400)]else J.VA:=rfl
 have c2:J.AA.TA=if J.kC=false/\(J.BA=0\/J.BA=1)then[JC (J.GA/86400)]else J.TA:=rfl
 have c3:J.AA.FA=if J.kC=false/\J.BA=2 then[(J.GA/86400%7,0)]else J.FA:=rfl
 have IC:=h.st
 have dL:=en J.GA 0 O
 have fL:=Je J.GA 0 O
 have kG:=XW J.GA 0 O
 have sF:=YW ((J.GA/86400+1)%7) O
 rw[show((J.GA/86400+1)%7+6)%7=J.GA/86400%7 by omega]at sF
 obtain⟨dd,OT⟩:∃dd,dd=J.kC:=⟨_,rfl⟩
 have GK:=Fq J
 rw[<-OT]at c1 c2 c3 GK
 cases dd with
 |false=>
  by_cases h0:J.BA=0
  ·by_cases hm:J.VA=[]
   ·have MK:J.VA.length=0:=by rw[hm];rfl
    have e1:J.AA.VA=[KB (J.GA/86400)]:=by rw[c1,if_pos (by simp[*])]
    have e2:J.AA.TA=[JC (J.GA/86400)]:=by rw[c2,if_pos (by simp[*])]
    have e3:J.AA.FA=J.FA:=by rw[c3,if_neg (by simp[*])]
    simp only[WS,XS,tl,bA,e1,e2,e3]
    repeat' (first
     |refine cT 94 rfl (GK) ?_
     |refine cT 97 rfl eA ?_
     |refine cT 101 rfl eA ?_
     |refine tk ?_
     |refine cz 75 func75 (λ_=>dL) ?_
     |refine cz 76 func76 (λ_=>fL) ?_
     |refine cz 47 func47 (λ_=>kG) ?_
     |refine cz 46 func46 (λ_=>sF) ?_
     |refine CA ?_|refine an ?_ ?_|(intro Z;try simp at Z))
    exact mB (eL [(13,13),(14,14),(15,5)] eF qB) Z
   ·have MK:¬J.VA.length=0:=λe=>hm (List.length_eq_zero_iff.1 e)
    have e1:J.AA.VA=J.VA:=by rw[c1,if_neg (by simp[*])]
    have e2:J.AA.TA=[JC (J.GA/86400)]:=by rw[c2,if_pos (by simp[*])]
    have e3:J.AA.FA=J.FA:=by rw[c3,if_neg (by simp[*])]
    simp only[WS,XS,tl,bA,e1,e2,e3]
    repeat' (first
     |refine cT 94 rfl (GK) ?_
     |refine cT 97 rfl eA ?_
     |refine cF 101 rfl eA ?_
     |refine tk ?_
     |refine cz 75 func75 (λ_=>dL) ?_
     |refine cz 76 func76 (λ_=>fL) ?_
     |refine cz 47 func47 (λ_=>kG) ?_
     |refine cz 46 func46 (λ_=>sF) ?_
     |refine CA ?_|refine an ?_ ?_|(intro Z;try simp at Z))
    exact mB (eL [(13,1),(14,13),(15,5)] eF qB) Z
  ·by_cases D:J.BA=1
   ·have e1:J.AA.VA=J.VA:=by rw[c1,if_neg (by simp[*])]
    have e2:J.AA.TA=[JC (J.GA/86400)]:=by rw[c2,if_pos (by simp[*])]
    have e3:J.AA.FA=J.FA:=by rw[c3,if_neg (by simp[*])]
    simp only[WS,XS,tl,bA,e1,e2,e3]
    repeat' (first
     |refine cT 94 rfl (GK) ?_
     |refine cF 97 rfl eA ?_
     |refine cT 114 rfl eA ?_
     |refine tk ?_
     |refine cz 75 func75 (λ_=>dL) ?_
     |refine cz 76 func76 (λ_=>fL) ?_
     |refine cz 47 func47 (λ_=>kG) ?_
     |refine cz 46 func46 (λ_=>sF) ?_
     |refine CA ?_|refine an ?_ ?_|(intro Z;try simp at Z))
    exact mB (eL [(13,1),(14,13),(15,5)] eF qB) Z
   ·by_cases h2:J.BA=2
    ·have e1:J.AA.VA=J.VA:=by rw[c1,if_neg (by simp[*])]
     have e2:J.AA.TA=J.TA:=by rw[c2,if_neg (by simp[*])]
     have e3:J.AA.FA=[(J.GA/86400%7,0)]:=by rw[c3,if_pos (by simp[*])]
     simp only[WS,XS,tl,bA,e1,e2,e3]
     repeat' (first
      |refine cT 94 rfl (GK) ?_
      |refine cF 97 rfl eA ?_
      |refine cF 114 rfl eA ?_
      |refine cT 122 rfl eA ?_
      |refine tk ?_
      |refine cz 75 func75 (λ_=>dL) ?_
      |refine cz 76 func76 (λ_=>fL) ?_
      |refine cz 47 func47 (λ_=>kG) ?_
      |refine cz 46 func46 (λ_=>sF) ?_
      |refine CA ?_|refine an ?_ ?_|(intro Z;try simp at Z))
     exact mB (eL [(13,1),(14,2),(15,13)] eF qB) Z
    ·have e1:J.AA.VA=J.VA:=by rw[c1,if_neg (by simp[*])]
     have e2:J.AA.TA=J.TA:=by rw[c2,if_neg (by simp[*])]
     have e3:J.AA.FA=J.FA:=by rw[c3,if_neg (by simp[*])]
     simp only[WS,XS,tl,bA,e1,e2,e3]
     repeat' (first
      |refine cT 94 rfl (GK) ?_
      |refine cF 97 rfl eA ?_
      |refine cF 114 rfl eA ?_
      |refine cF 122 rfl eA ?_
      |refine tk ?_
      |refine cz 75 func75 (λ_=>dL) ?_
      |refine cz 76 func76 (λ_=>fL) ?_
      |refine cz 47 func47 (λ_=>kG) ?_
      |refine cz 46 func46 (λ_=>sF) ?_
      |refine CA ?_|refine an ?_ ?_|(intro Z;try simp at Z))
     exact mB (eL [(13,1),(14,2),(15,5)] eF qB) Z
 |true=>
  have e1:J.AA.VA=J.VA:=by rw[c1,if_neg (λe=>by cases e.1)]
  have e2:J.AA.TA=J.TA:=by rw[c2,if_neg (λe=>by cases e.1)]
  have e3:J.AA.FA=J.FA:=by rw[c3,if_neg (λe=>by cases e.1)]
  simp only[WS,XS,tl,bA,e1,e2,e3]
  repeat' (first
   |refine cF 94 rfl (GK) ?_
   |refine tk ?_
   |refine cz 75 func75 (λ_=>dL) ?_
   |refine cz 76 func76 (λ_=>fL) ?_
   |refine cz 47 func47 (λ_=>kG) ?_
   |refine cz 46 func46 (λ_=>sF) ?_
   |refine CA ?_|refine an ?_ ?_|(intro Z;try simp at Z))
  exact mB (eL [(13,1),(14,2),(15,5)] eF qB) Z
def mX (J:MA):MB {i:Nat//i<=J.AA.TA.length}where
 F i:=[(1, .u (.p 10 0)),(2, .u (.p 11 0)),(3, .u (.p 12 0)),(140, .u (.s 14 0 J.AA.TA.length)),(141, .u (I J.AA.TA.length)),(142, .u (I i.1))]
 H i:=[(16,some (.X 1 3 (A ((J.AA.TA.take i.1).filter λn=>decide (0<n))))),(17,some (.X 1 3 (A ((J.AA.TA.take i.1).filter λn=>decide (n<0)))))]++([(0,some (.X 1 3 (A J.OB))),(3,some (.X 1 3 (A J.LB))),(4,some (.X 1 3 (A J.sA))),(6,some (.X 1 3 (A J.SA))),(7,some (.X 1 3 (A J.PA))),(8,some (.X 1 3 (A J.RA))),(9,some (.X 1 3 (A J.NB))),(13,some (.X 1 3 (A J.AA.VA))),(14,some (.X 1 3 (A J.AA.TA))),(15,some (.X 2 53 (xA J.AA.FA)))]++[(10,some (.st (bA J J.AA.IA 13 14 15 J.AA.VA J.AA.TA J.AA.FA))),(11,some (.st (List.replicate 60 nA))),(12,some (.st (bA J J.IA 1 2 5 J.VA J.TA J.FA++List.replicate 19 nA++tl J [.s 13 0 J.AA.VA.length, .s 16 0 ((J.AA.TA.take i.1).filter λn=>decide (0<n)).length, .s 17 0 ((J.AA.TA.take i.1).filter λn=>decide (n<0)).length, .s 3 0 J.LB.length,zN,zN,zN,zN,zN,zN, .s 9 0 J.NB.length,zN])))])
 n _:=18
theorem xBA {w:World} {W:Nat->Prop} {G:wA} {g:GW w W} {Q:QT} (J:MA) (h:CB J) (hl:J.AA.TA.length<=12):
  En.T (cx w W f37.ntmps (KA mD) 10 G g) ((f37.body.bind (ID 32)).getD .skip) bF (sBA J) 16 (SF (cx w W f37.ntmps (KA mD) 10 G g) bF (bS3 J) 18 Q):=by
 refine VD 12 48 1 3 _ rfl rfl rfl ?_
 refine VD 12 49 1 3 _ rfl rfl rfl ?_
 repeat' (first
  |refine tk ?_
  |refine CA ?_|refine an ?_ ?_|(intro Z;try simp at Z))
 refine FB (mX J) (λi=>J.AA.TA.length-i.1) ?_ ?_
 ·exact⟨⟨0,Nat.zero_le _⟩,[],U,eN eF qB⟩
 ·rintro⟨i,hi⟩
  intro F H Y hF hH hn;dsimp only[mX]at hF hH hn;subst hF hH hn
  have ei:0+(i:Int).toNat*1=i:=O
  have tL:((J.AA.TA.take i).filter λn=>decide (0<n)).length<=12:=Nat.le_trans (List.length_filter_le _ _) (by rw[List.length_take];omega)
  have jK:((J.AA.TA.take i).filter λn=>decide (n<0)).length<=12:=Nat.le_trans (List.length_filter_le _ _) (by rw[List.length_take];omega)
  by_cases fA:i<J.AA.TA.length
  ·obtain⟨v,hv⟩:∃v,J.AA.TA.getD i 0=v:=⟨_,rfl⟩
   have RE:J.AA.TA.take (i+1)=J.AA.TA.take i++[v]:=by rw[List.take_succ_eq_append_getElem fA,<-hv,List.getD_eq_getElem?_getD,List.getElem?_eq_getElem fA];rfl
   rcases(by omega:0<v\/v<0\/v=0)with D|D|D
   ·have g1:(J.AA.TA.take (i+1)).filter (λn=>decide (0<n))=(J.AA.TA.take i).filter (λn=>decide (0<n))++[v]:=by rw[RE,List.filter_append];simp[D]
    have g2:(J.AA.TA.take (i+1)).filter (λn=>decide (n<0))=(J.AA.TA.take i).filter (λn=>decide (n<0)):=by rw[RE,List.filter_append];simp;omega
    repeat' (first
     |refine cT 143 rfl eA ?_
     |refine cT 147 rfl eA ?_
     |refine tk ?_
     |refine XD i O O hv ?_
     |refine⟨by simp[JD,rC],wE,O,xE,λ_=>⟨by show _*8<=_;omega,by simp only[maxLen];omega⟩,?_⟩
     |refine CA ?_|refine an ?_ ?_|(intro Z;try simp at Z))
    refine⟨⟨i+1,O⟩,[(16,19)],show J.AA.TA.length- (i+1)<J.AA.TA.length-i by omega,eL [(16,19)] eF ?_⟩
    have e3:((J.AA.TA.take (i+1)).filter (λn=>decide (0<n))).length=((J.AA.TA.take i).filter (λn=>decide (0<n))).length+1:=by rw[g1];simp
    dsimp only[mX]
    simp only[tl,bA,g2,e3]
    exact⟨gA rfl (wN g1),qB⟩
   ·have g1:(J.AA.TA.take (i+1)).filter (λn=>decide (0<n))=(J.AA.TA.take i).filter (λn=>decide (0<n)):=by rw[RE,List.filter_append];simp;omega
    have g2:(J.AA.TA.take (i+1)).filter (λn=>decide (n<0))=(J.AA.TA.take i).filter (λn=>decide (n<0))++[v]:=by rw[RE,List.filter_append];simp[D]
    repeat' (first
     |refine cT 143 rfl eA ?_
     |refine cF 147 rfl eA ?_
     |refine cT 155 rfl eA ?_
     |refine tk ?_
     |refine XD i O O hv ?_
     |refine⟨by simp[JD,rC],wE,O,xE,λ_=>⟨by show _*8<=_;omega,by simp only[maxLen];omega⟩,?_⟩
     |refine CA ?_|refine an ?_ ?_|(intro Z;try simp at Z))
    refine⟨⟨i+1,O⟩,[(17,19)],show J.AA.TA.length- (i+1)<J.AA.TA.length-i by omega,eL [(17,19)] eF ?_⟩
    have e3:((J.AA.TA.take (i+1)).filter (λn=>decide (n<0))).length=((J.AA.TA.take i).filter (λn=>decide (n<0))).length+1:=by rw[g2];simp
    dsimp only[mX]
    simp only[tl,bA,g1,e3]
    exact⟨gA rfl rfl,gA rfl (wN g2),qB⟩
   ·have g1:(J.AA.TA.take (i+1)).filter (λn=>decide (0<n))=(J.AA.TA.take i).filter (λn=>decide (0<n)):=by rw[RE,List.filter_append];simp;omega
    have g2:(J.AA.TA.take (i+1)).filter (λn=>decide (n<0))=(J.AA.TA.take i).filter (λn=>decide (n<0)):=by rw[RE,List.filter_append];simp;omega
    repeat' (first
     |refine cT 143 rfl eA ?_
     |refine cF 147 rfl eA ?_
     |refine cF 155 rfl eA ?_
     |refine tk ?_
     |refine XD i O O hv ?_
     |refine CA ?_|refine an ?_ ?_|(intro Z;try simp at Z))
    refine⟨⟨i+1,O⟩,[],show J.AA.TA.length- (i+1)<J.AA.TA.length-i by omega,eN eF ?_⟩
    dsimp only[mX]
    simp only[tl,bA,g1,g2]
    exact qB
  ·have ht:J.AA.TA.take i=J.AA.TA:=List.take_of_length_le O
   rw[ht]
   repeat' (first
    |refine cF 143 rfl eA ?_
    |refine tk ?_
    |refine CA ?_|refine an ?_ ?_|(intro Z;try simp at Z))
   exact mB (eN eF qB) Z
def ga (J:MA):MB {i:Nat//i<=J.AA.FA.length}where
 F i:=[(1, .u (.p 10 0)),(2, .u (.p 11 0)),(3, .u (.p 12 0)),(167, .u (.s 15 0 J.AA.FA.length)),(168, .u (I J.AA.FA.length)),(169, .u (I i.1))]
 H i:=[(18,some (.X 1 3 (A (((J.AA.FA.take i.1).filter λd=>d.2==0||decide (J.BA>1)).map (·.1))))),(19,some (.X 2 53 (xA ((J.AA.FA.take i.1).filter λd=> !(d.2==0||decide (J.BA>1))))))]++([(0,some (.X 1 3 (A J.OB))),(3,some (.X 1 3 (A J.LB))),(4,some (.X 1 3 (A J.sA))),(6,some (.X 1 3 (A J.SA))),(7,some (.X 1 3 (A J.PA))),(8,some (.X 1 3 (A J.RA))),(9,some (.X 1 3 (A J.NB))),(13,some (.X 1 3 (A J.AA.VA))),(15,some (.X 2 53 (xA J.AA.FA))),(16,some (.X 1 3 (A (JA J).FC))),(17,some (.X 1 3 (A (JA J).GC)))]++[(10,some (.st (bA J J.AA.IA 13 14 15 J.AA.VA J.AA.TA J.AA.FA))),(11,some (.st (List.replicate 60 nA))),(12,some (.st (bA J J.IA 1 2 5 J.VA J.TA J.FA++List.replicate 19 nA++tl J [.s 13 0 J.AA.VA.length, .s 16 0 (JA J).FC.length, .s 17 0 (JA J).GC.length, .s 3 0 J.LB.length, .s 4 0 J.sA.length, .s 18 0 (((J.AA.FA.take i.1).filter λd=>d.2==0||decide (J.BA>1)).map (·.1)).length, .s 19 0 ((J.AA.FA.take i.1).filter λd=> !(d.2==0||decide (J.BA>1))).length,zN,zN,zN, .s 9 0 J.NB.length,zN])))])
 n _:=20
theorem yBA {w:World} {W:Nat->Prop} {G:wA} {g:GW w W} {Q:QT} (J:MA) (h:CB J) (hl:J.AA.FA.length<=12):
  En.T (cx w W f37.ntmps (KA mD) 10 G g) ((f37.body.bind (ID 41)).getD .skip) bF (tBA J) 18 (SF (cx w W f37.ntmps (KA mD) 10 G g) bF (kX J) 20 Q):=by
 refine VD 12 52 1 3 _ rfl rfl rfl ?_
 refine VD 12 53 2 53 _ rfl rfl rfl ?_
 repeat' (first
  |refine tk ?_
  |refine CA ?_|refine an ?_ ?_|(intro Z;try simp at Z))
 refine FB (ga J) (λi=>J.AA.FA.length-i.1) ?_ ?_
 ·exact⟨⟨0,Nat.zero_le _⟩,[],U,eN eF qB⟩
 ·rintro⟨i,hi⟩
  intro F H Y hF hH hn;dsimp only[ga]at hF hH hn;subst hF hH hn
  have tL:(((J.AA.FA.take i).filter λd=>d.2==0||decide (J.BA>1)).map (·.1)).length<=12:=by rw[List.length_map];exact Nat.le_trans (List.length_filter_le _ _) (by rw[List.length_take];omega)
  have jK:((J.AA.FA.take i).filter λd=> !(d.2==0||decide (J.BA>1))).length<=12:=Nat.le_trans (List.length_filter_le _ _) (by rw[List.length_take];omega)
  by_cases fA:i<J.AA.FA.length
  ·obtain⟨v,hv⟩:∃v,J.AA.FA.getD i (0,0)=v:=⟨_,rfl⟩
   have RE:J.AA.FA.take (i+1)=J.AA.FA.take i++[v]:=by rw[List.take_succ_eq_append_getElem fA,<-hv,List.getD_eq_getElem?_getD,List.getElem?_eq_getElem fA];rfl
   by_cases c:(v.2==0||decide (J.BA>1))=true
   ·have g1:((J.AA.FA.take (i+1)).filter (λd=>d.2==0||decide (J.BA>1))).map (·.1)=((J.AA.FA.take i).filter (λd=>d.2==0||decide (J.BA>1))).map (·.1)++[v.1]:=by rw[RE,List.filter_append,List.map_append,List.filter_cons,if_pos c];rfl
    have g2:(J.AA.FA.take (i+1)).filter (λd=> !(d.2==0||decide (J.BA>1)))=(J.AA.FA.take i).filter (λd=> !(d.2==0||decide (J.BA>1))):=by rw[RE,List.filter_append,List.filter_cons,if_neg (by rw[c];decide),List.filter_nil,List.append_nil]
    repeat' (first
     |refine cT 170 rfl eA ?_
     |refine cT 180 rfl (by first|exact c|(rw[FM];exact c)) ?_
     |refine tk ?_
     |refine mF i O O λrest=> ?_
     |rw[hv]
     |refine⟨by simp[JD,rC],wE,O,xE,λ_=>⟨by show _*8<=_;omega,by simp only[maxLen];omega⟩,?_⟩
     |refine CA ?_|refine an ?_ ?_|(intro Z;try simp at Z))
    refine⟨⟨i+1,O⟩,[(18,22)],show J.AA.FA.length- (i+1)<J.AA.FA.length-i by omega,eL [(18,22)] eF ?_⟩
    have e3:(((J.AA.FA.take (i+1)).filter (λd=>d.2==0||decide (J.BA>1))).map (·.1)).length=(((J.AA.FA.take i).filter (λd=>d.2==0||decide (J.BA>1))).map (·.1)).length+1:=by rw[g1,List.length_append];rfl
    dsimp only[ga]
    simp only[tl,bA,g2,e3]
    exact⟨gA rfl (wN g1),qB⟩
   ·have c':(v.2==0||decide (J.BA>1))=false:=by simpa using c
    have g1:((J.AA.FA.take (i+1)).filter (λd=>d.2==0||decide (J.BA>1))).map (·.1)=((J.AA.FA.take i).filter (λd=>d.2==0||decide (J.BA>1))).map (·.1):=by rw[RE,List.filter_append,List.filter_cons,if_neg c,List.filter_nil,List.append_nil]
    have g2:(J.AA.FA.take (i+1)).filter (λd=> !(d.2==0||decide (J.BA>1)))=(J.AA.FA.take i).filter (λd=> !(d.2==0||decide (J.BA>1)))++[v]:=by rw[RE,List.filter_append,List.filter_cons,if_pos (by rw[c'];rfl),List.filter_nil]
    repeat' (first
     |refine cT 170 rfl eA ?_
     |refine cF 180 rfl (by first|exact c'|(rw[FM];exact c')) ?_
     |refine tk ?_
     |refine mF i O O λrest=> ?_
     |rw[hv]
     |refine⟨(by(try dsimp only);simp[rC];try omega),Nat.le_of_ble_eq_true rfl,O,λ_=>(by intro sv YC;have iB:sv∈[I v.1,I v.2]:=YC;simp at iB;rcases iB with rfl|rfl<;>rfl),λ_=>(by show(_+1)*16<=140737488355328/\_+1<=maxLen;dsimp only[maxLen];omega),?_⟩
     |refine CA ?_|refine an ?_ ?_|(intro Z;try simp at Z))
    refine⟨⟨i+1,O⟩,[(19,22)],show J.AA.FA.length- (i+1)<J.AA.FA.length-i by omega,eL [(19,22)] eF ?_⟩
    have e3:((J.AA.FA.take (i+1)).filter (λd=> !(d.2==0||decide (J.BA>1)))).length=((J.AA.FA.take i).filter (λd=> !(d.2==0||decide (J.BA>1)))).length+1:=by rw[g2,List.length_append];rfl
    dsimp only[ga]
    simp only[tl,bA,g1,e3]
    exact⟨gA rfl rfl,uZ rfl (Hq g2),qB⟩
  ·have ht:J.AA.FA.take i=J.AA.FA:=List.take_of_length_le O
   rw[ht]
   repeat' (first
    |refine cF 170 rfl eA ?_
    |refine tk ?_
    |refine CA ?_|refine an ?_ ?_|(intro Z;try simp at Z))
   exact mB (eN eF qB) Z
theorem zBA {w:World} {W:Nat->Prop} {G:wA} {g:GW w W} {Q:QT} (J:MA) (h:CB J):
  En.T (cx w W f37.ntmps (KA mD) 10 G g) ((f37.body.bind (ID 48)).getD .skip) bF (kX J) 20 (SF (cx w W f37.ntmps (KA mD) 10 G g) bF (iQ J) 21 Q):=by
 have c1:J.AA.SA=if J.SA=[]/\J.BA<4 then[J.GA%86400/3600]else J.SA:=rfl
 have IC:=h.st
 have jX:=h.f
 have YL:=h.ln
 have h7:=gn J.GA 0 O
 obtain⟨v,hv⟩:∃v,v=J.GA%86400/3600:=⟨_,rfl⟩
 rw[<-hv]at h7 c1
 by_cases h0:J.SA=[]
 ·have JG:J.SA.length=0:=by rw[h0];rfl
  by_cases D:J.BA<4
  ·have e1:J.AA.SA=[v]:=by rw[c1,if_pos ⟨h0,D⟩]
   simp only[kX,iQ,tl,bA]
   rw[e1]
   repeat' (first
    |refine cT 198 rfl eA ?_
    |refine cT 201 rfl eA ?_
    |refine tk ?_
    |refine cz 77 func77 (λ_=>h7) ?_
    |refine CA ?_|refine an ?_ ?_|(intro Z;try simp at Z))
   exact mB (eN eF qB) Z
  ·have e1:J.AA.SA=[]:=by rw[c1,if_neg (λe=>D e.2),h0]
   simp only[kX,iQ,tl,bA]
   rw[e1]
   repeat' (first
    |refine cT 198 rfl eA ?_
    |refine cF 201 rfl eA ?_
    |refine tk ?_
    |refine CA ?_|refine an ?_ ?_|(intro Z;try simp at Z))
   exact VD 12 54 1 3 _ rfl rfl rfl (mB (eN eF qB) Z)
 ·have JG:¬J.SA.length=0:=λe=>h0 (List.length_eq_zero_iff.1 e)
  have e1:J.AA.SA=J.SA:=by rw[c1,if_neg (λe=>h0 e.1)]
  simp only[kX,iQ,tl,bA]
  rw[e1]
  repeat' (first
   |refine cF 198 rfl eA ?_
   |refine tk ?_
   |refine CA ?_|refine an ?_ ?_|(intro Z;try simp at Z))
  exact mB (eL [(20,6)] eF qB) Z
theorem ACA {w:World} {W:Nat->Prop} {G:wA} {g:GW w W} {Q:QT} (J:MA) (h:CB J):
  En.T (cx w W f37.ntmps (KA mD) 10 G g) ((f37.body.bind (ID 52)).getD .skip) bF (iQ J) 21 (SF (cx w W f37.ntmps (KA mD) 10 G g) bF (jQ J) 22 Q):=by
 have c1:J.AA.PA=if J.PA=[]/\J.BA<5 then[J.GA%86400/60%60]else J.PA:=rfl
 have IC:=h.st
 have jX:=h.f
 have YL:=h.ln
 have h7:=jn J.GA 0 O
 obtain⟨v,hv⟩:∃v,v=J.GA%86400/60%60:=⟨_,rfl⟩
 rw[<-hv]at h7 c1
 by_cases h0:J.PA=[]
 ·have JG:J.PA.length=0:=by rw[h0];rfl
  by_cases D:J.BA<5
  ·have e1:J.AA.PA=[v]:=by rw[c1,if_pos ⟨h0,D⟩]
   simp only[iQ,jQ,tl,bA]
   rw[e1]
   repeat' (first
    |refine cT 213 rfl eA ?_
    |refine cT 216 rfl eA ?_
    |refine tk ?_
    |refine cz 78 func78 (λ_=>h7) ?_
    |refine CA ?_|refine an ?_ ?_|(intro Z;try simp at Z))
   exact mB (eN eF qB) Z
  ·have e1:J.AA.PA=[]:=by rw[c1,if_neg (λe=>D e.2),h0]
   simp only[iQ,jQ,tl,bA]
   rw[e1]
   repeat' (first
    |refine cT 213 rfl eA ?_
    |refine cF 216 rfl eA ?_
    |refine tk ?_
    |refine CA ?_|refine an ?_ ?_|(intro Z;try simp at Z))
   exact VD 12 55 1 3 _ rfl rfl rfl (mB (eN eF qB) Z)
 ·have JG:¬J.PA.length=0:=λe=>h0 (List.length_eq_zero_iff.1 e)
  have e1:J.AA.PA=J.PA:=by rw[c1,if_neg (λe=>h0 e.1)]
  simp only[iQ,jQ,tl,bA]
  rw[e1]
  repeat' (first
   |refine cF 213 rfl eA ?_
   |refine tk ?_
   |refine CA ?_|refine an ?_ ?_|(intro Z;try simp at Z))
  exact mB (eL [(21,7)] eF qB) Z
theorem BCA {w:World} {W:Nat->Prop} {G:wA} {g:GW w W} {Q:QT} (J:MA) (h:CB J):
  En.T (cx w W f37.ntmps (KA mD) 10 G g) ((f37.body.bind (ID 56)).getD .skip) bF (jQ J) 22 (SF (cx w W f37.ntmps (KA mD) 10 G g) bF (lX J) 23 Q):=by
 have c1:J.AA.RA=if J.RA=[]/\J.BA<6 then[J.GA%86400%60]else J.RA:=rfl
 have IC:=h.st
 have jX:=h.f
 have YL:=h.ln
 have h7:=kn J.GA 0 O
 obtain⟨v,hv⟩:∃v,v=J.GA%86400%60:=⟨_,rfl⟩
 rw[<-hv]at h7 c1
 by_cases h0:J.RA=[]
 ·have JG:J.RA.length=0:=by rw[h0];rfl
  by_cases D:J.BA<6
  ·have e1:J.AA.RA=[v]:=by rw[c1,if_pos ⟨h0,D⟩]
   simp only[jQ,lX,tl,bA]
   rw[e1]
   repeat' (first
    |refine cT 228 rfl eA ?_
    |refine cT 231 rfl eA ?_
    |refine tk ?_
    |refine cz 79 func79 (λ_=>h7) ?_
    |refine CA ?_|refine an ?_ ?_|(intro Z;try simp at Z))
   exact mB (eN eF qB) Z
  ·have e1:J.AA.RA=[]:=by rw[c1,if_neg (λe=>D e.2),h0]
   simp only[jQ,lX,tl,bA]
   rw[e1]
   repeat' (first
    |refine cT 228 rfl eA ?_
    |refine cF 231 rfl eA ?_
    |refine tk ?_
    |refine CA ?_|refine an ?_ ?_|(intro Z;try simp at Z))
   exact VD 12 56 1 3 _ rfl rfl rfl (mB (eN eF qB) Z)
 ·have JG:¬J.RA.length=0:=λe=>h0 (List.length_eq_zero_iff.1 e)
  have e1:J.AA.RA=J.RA:=by rw[c1,if_neg (λe=>h0 e.1)]
  simp only[jQ,lX,tl,bA]
  rw[e1]
  repeat' (first
   |refine cF 228 rfl eA ?_
   |refine tk ?_
   |refine CA ?_|refine an ?_ ?_|(intro Z;try simp at Z))
  exact mB (eL [(22,8)] eF qB) Z
def Bt (J:MA):MB {i:Nat//i<=J.AA.SA.length}where
 F i:=[(1, .u (.p 10 0)),(2, .u (.p 11 0)),(3, .u (.p 12 0)),(258, .u (.s 20 0 J.AA.SA.length)),(259, .u (I J.AA.SA.length)),(260, .u (I i.1))]
 H i:=(23,some (.X 2 51 (iA (SE J i.1 0 0))))::([(0,some (.X 1 3 (A J.OB))),(3,some (.X 1 3 (A J.LB))),(4,some (.X 1 3 (A J.sA))),(9,some (.X 1 3 (A J.NB))),(13,some (.X 1 3 (A J.AA.VA))),(16,some (.X 1 3 (A (JA J).FC))),(17,some (.X 1 3 (A (JA J).GC))),(18,some (.X 1 3 (A (JA J).VC))),(19,some (.X 2 53 (xA (JA J).vA))),(20,some (.X 1 3 (A J.AA.SA))),(21,some (.X 1 3 (A J.AA.PA))),(22,some (.X 1 3 (A J.AA.RA)))]++[(10,some (.st (bA J J.AA.IA 13 14 15 J.AA.VA J.AA.TA J.AA.FA))),(11,some (.st (List.replicate 60 nA))),(12,some (.st (bA J J.IA 1 2 5 J.VA J.TA J.FA++List.replicate 19 nA++tl J [.s 13 0 J.AA.VA.length, .s 16 0 (JA J).FC.length, .s 17 0 (JA J).GC.length, .s 3 0 J.LB.length, .s 4 0 J.sA.length, .s 18 0 (JA J).VC.length, .s 19 0 (JA J).vA.length, .s 20 0 J.AA.SA.length, .s 21 0 J.AA.PA.length, .s 22 0 J.AA.RA.length, .s 9 0 J.NB.length, .s 23 0 (SE J i.1 0 0).length])))])
 n _:=24
def Dt (J:MA) (i:Nat):MB {j:Nat//j<=J.AA.PA.length}where
 F j:=[(1, .u (.p 10 0)),(2, .u (.p 11 0)),(3, .u (.p 12 0)),(258, .u (.s 20 0 J.AA.SA.length)),(259, .u (I J.AA.SA.length)),(260, .u (I i)),(9, .u (I (J.AA.SA.getD i 0))),(265, .u (.s 21 0 J.AA.PA.length)),(266, .u (I J.AA.PA.length)),(267, .u (I j.1))]
 H j:=(23,some (.X 2 51 (iA (SE J i j.1 0))))::([(0,some (.X 1 3 (A J.OB))),(3,some (.X 1 3 (A J.LB))),(4,some (.X 1 3 (A J.sA))),(9,some (.X 1 3 (A J.NB))),(13,some (.X 1 3 (A J.AA.VA))),(16,some (.X 1 3 (A (JA J).FC))),(17,some (.X 1 3 (A (JA J).GC))),(18,some (.X 1 3 (A (JA J).VC))),(19,some (.X 2 53 (xA (JA J).vA))),(20,some (.X 1 3 (A J.AA.SA))),(21,some (.X 1 3 (A J.AA.PA))),(22,some (.X 1 3 (A J.AA.RA)))]++[(10,some (.st (bA J J.AA.IA 13 14 15 J.AA.VA J.AA.TA J.AA.FA))),(11,some (.st (List.replicate 60 nA))),(12,some (.st (bA J J.IA 1 2 5 J.VA J.TA J.FA++List.replicate 19 nA++tl J [.s 13 0 J.AA.VA.length, .s 16 0 (JA J).FC.length, .s 17 0 (JA J).GC.length, .s 3 0 J.LB.length, .s 4 0 J.sA.length, .s 18 0 (JA J).VC.length, .s 19 0 (JA J).vA.length, .s 20 0 J.AA.SA.length, .s 21 0 J.AA.PA.length, .s 22 0 J.AA.RA.length, .s 9 0 J.NB.length, .s 23 0 (SE J i j.1 0).length])))])
 n _:=24
def Zg (J:MA) (i j:Nat):MB {k:Nat//k<=J.AA.RA.length}where
 F k:=[(1, .u (.p 10 0)),(2, .u (.p 11 0)),(3, .u (.p 12 0)),(258, .u (.s 20 0 J.AA.SA.length)),(259, .u (I J.AA.SA.length)),(260, .u (I i)),(9, .u (I (J.AA.SA.getD i 0))),(265, .u (.s 21 0 J.AA.PA.length)),(266, .u (I J.AA.PA.length)),(267, .u (I j)),(11, .u (I (J.AA.PA.getD j 0))),(272, .u (.s 22 0 J.AA.RA.length)),(273, .u (I J.AA.RA.length)),(274, .u (I k.1))]
 H k:=(23,some (.X 2 51 (iA (SE J i j k.1))))::([(0,some (.X 1 3 (A J.OB))),(3,some (.X 1 3 (A J.LB))),(4,some (.X 1 3 (A J.sA))),(9,some (.X 1 3 (A J.NB))),(13,some (.X 1 3 (A J.AA.VA))),(16,some (.X 1 3 (A (JA J).FC))),(17,some (.X 1 3 (A (JA J).GC))),(18,some (.X 1 3 (A (JA J).VC))),(19,some (.X 2 53 (xA (JA J).vA))),(20,some (.X 1 3 (A J.AA.SA))),(21,some (.X 1 3 (A J.AA.PA))),(22,some (.X 1 3 (A J.AA.RA)))]++[(10,some (.st (bA J J.AA.IA 13 14 15 J.AA.VA J.AA.TA J.AA.FA))),(11,some (.st (List.replicate 60 nA))),(12,some (.st (bA J J.IA 1 2 5 J.VA J.TA J.FA++List.replicate 19 nA++tl J [.s 13 0 J.AA.VA.length, .s 16 0 (JA J).FC.length, .s 17 0 (JA J).GC.length, .s 3 0 J.LB.length, .s 4 0 J.sA.length, .s 18 0 (JA J).VC.length, .s 19 0 (JA J).vA.length, .s 20 0 J.AA.SA.length, .s 21 0 J.AA.PA.length, .s 22 0 J.AA.RA.length, .s 9 0 J.NB.length, .s 23 0 (SE J i j k.1).length])))])
 n _:=24
theorem CCA {w:World} {W:Nat->Prop} {G:wA} {g:GW w W} {Q:QT} (J:MA) (h:CB J) (ht:tH J.AA) (hp:(J.AA.SA.length:Int)*((J.AA.PA.length:Int)*(J.AA.RA.length:Int))<=60) (jK:(J.AA.SA.length:Int)*(J.AA.PA.length:Int)<=60\/J.AA.RA.length=0):
  En.T (cx w W f37.ntmps (KA mD) 10 G g) ((f37.body.bind (ID 61)).getD .skip) bF (lX J) 23 (SF (cx w W f37.ntmps (KA mD) 10 G g) bF (Yg J) 24 Q):=by
 have l1:=ht.lh
 have l2:=ht.lm
 have l3:=ht.ls
 have m1:=Int.mul_nonneg (show(0:Int)<=(J.AA.SA.length:Int)by omega) (show(0:Int)<=(J.AA.PA.length:Int)by omega)
 have m2:(J.AA.SA.length:Int)*(J.AA.PA.length:Int)<=12*12:=Int.mul_le_mul O O O O
 have m3:(J.AA.SA.length:Int)*(J.AA.PA.length:Int)*(J.AA.RA.length:Int)<=60:=by rw[Int.mul_assoc];exact hp
 have m4:=Int.mul_nonneg m1 (show(0:Int)<=(J.AA.RA.length:Int)by omega)
 have hP:(lG J).length<=60:=by
  have e:((J.AA.SA.length*(J.AA.PA.length*J.AA.RA.length):Nat):Int)<=60:=by rw[Int.natCast_mul,Int.natCast_mul];exact hp
  unfold lG;rw[AQ];omega
 have c1:(JA J).ts=if J.BA<4 then YE (lG J)else[]:=rfl
 by_cases h0:J.BA<4
 ·have e1:(JA J).ts=YE (lG J):=by rw[c1,if_pos h0]
  simp only[Yg,e1]
  repeat' (first
   |refine cT 243 rfl eA ?_
   |refine tk ?_
   |refine And.intro (λ_=>⟨O,O,by show(16:Int)*_<=_;omega,O⟩) ?_
   |refine CA ?_|refine an ?_ ?_|(intro Z;try simp at Z))
  refine FB (Bt J) (λi=>J.AA.SA.length-i.1) ?_ ?_
  ·exact⟨⟨0,Nat.zero_le _⟩,[],U,eN eF bI⟩
  ·rintro⟨i,hi⟩
   intro F H Y hF hH hn;dsimp only[Bt]at hF hH hn;subst hF hH hn
   have ei:0+(i:Int).toNat*1=i:=O
   by_cases vC:i<J.AA.SA.length
   ·skip
    repeat' (first
     |refine cT 261 rfl eA ?_
     |refine tk ?_
     |refine XD i O O rfl ?_
     |refine CA ?_|refine an ?_ ?_|(intro Z;try simp at Z))
    refine FB (Dt J i) (λj=>J.AA.PA.length-j.1) ?_ ?_
    ·exact⟨⟨0,Nat.zero_le _⟩,[],U,eN eF bI⟩
    ·rintro⟨j,hj⟩
     intro F H Y hF hH hn;dsimp only[Dt]at hF hH hn;subst hF hH hn
     by_cases vB:j<J.AA.PA.length
     ·skip
      repeat' (first
       |refine cT 268 rfl eA ?_
       |refine tk ?_
       |refine XD j O O rfl ?_
       |refine CA ?_|refine an ?_ ?_|(intro Z;try simp at Z))
      refine FB (Zg J i j) (λk=>J.AA.RA.length-k.1) ?_ ?_
      ·exact⟨⟨0,Nat.zero_le _⟩,[],U,eN eF bI⟩
      ·rintro⟨k,hk⟩
       intro F H Y hF hH hn;dsimp only[Zg]at hF hH hn;subst hF hH hn
       by_cases PG:k<J.AA.RA.length
       ·have hlen:=Mq (J:=J) vC vB PG
        have jD:=ht.h _ (rK vC)
        have lH:=ht.m _ (rK vB)
        have hb3:=ht.s _ (rK PG)
        have CH:=iW (h:=J.AA.SA.getD i 0) (mi:=J.AA.PA.getD j 0) (s:=J.AA.RA.getD k 0) O O O
        have g1:=Iq (J:=J) (i:=i) (j:=j) PG
        repeat' (first
         |refine cT 275 rfl eA ?_
         |refine tk ?_
         |refine XD k O O rfl ?_
         |refine⟨(by(try dsimp only);simp[rC];try omega),Nat.le_of_ble_eq_true rfl,O,λ_=>(by intro sv YC;have iB:sv∈[I (J.AA.SA.getD i 0*3600+J.AA.PA.getD j 0*60+J.AA.RA.getD k 0),I 0]:=YC;simp at iB;rcases iB with rfl|rfl<;>rfl),λ_=>(by show(_+1)*16<=140737488355328/\_+1<=maxLen;dsimp only[maxLen];omega),?_⟩
         |refine cz 81 func81 (λ_=>sN _ _) ?_
         |refine cz 80 func80 (λ_=>CH) ?_
         |refine CA ?_|refine an ?_ ?_|(intro Z;try simp at Z))
        have e2:(iA (SE J i j k)).take ((SE J i j k).length*2)++[I (J.AA.SA.getD i 0*3600+J.AA.PA.getD j 0*60+J.AA.RA.getD k 0),I 0]=iA (SE J i j (k+1)):=by
         rw[Nat.mul_comm,qR,List.take_of_length_le qA,g1,LU]
        have e3:(SE J i j (k+1)).length=(SE J i j k).length+1:=by rw[g1];simp
        refine⟨⟨k+1,O⟩,[(23,25)],show J.AA.RA.length- (k+1)<J.AA.RA.length-k by omega,eL [(23,25)] eF ?_⟩
        dsimp only[Zg]
        simp only[tl,bA,e3]
        exact⟨bD rfl e2,bI⟩
       ·have hq:k=J.AA.RA.length:=O
        subst hq
        repeat' (first
         |refine cF 275 rfl eA ?_
         |refine tk ?_
         |refine CA ?_|refine an ?_ ?_|(intro Z;try simp at Z))
        refine⟨⟨j+1,O⟩,[],show J.AA.PA.length- (j+1)<J.AA.PA.length-j by omega,eN eF ?_⟩
        rw[Jq vB]
        exact bI
     ·have hq:j=J.AA.PA.length:=O
      subst hq
      repeat' (first
       |refine cF 268 rfl eA ?_
       |refine tk ?_
       |refine CA ?_|refine an ?_ ?_|(intro Z;try simp at Z))
      refine⟨⟨i+1,O⟩,[],show J.AA.SA.length- (i+1)<J.AA.SA.length-i by omega,eN eF ?_⟩
      rw[Kq vC]
      exact bI
   ·have hq:i=J.AA.SA.length:=O
    subst hq
    rw[Lq]
    repeat' (first
     |refine cF 261 rfl eA ?_
     |refine tk ?_
     |(refine AB 82 ?_;refine cA.T (d:=(lG J).toArray) (d':=(YE (lG J)).toArray) 23 func82 rfl rfl (λ_=>bW (lG J) rfl O) rfl rfl rfl (λ_=>rfl) ?_)
     |refine CA ?_|refine an ?_ ?_|(intro Z;try simp at Z))
    have e4:(YE (lG J)).length=(lG J).length:=List.length_mergeSort _
    refine mB (eN eF ?_) Z
    simp only[tl,bA,e4]
    exact bI
 ·have e1:(JA J).ts=[]:=by rw[c1,if_neg h0]
  simp only[Yg,e1]
  repeat' (first
   |refine cF 243 rfl eA ?_
   |refine tk ?_
   |refine CA ?_|refine an ?_ ?_|(intro Z;try simp at Z))
  exact VD 12 58 2 51 _ rfl rfl rfl (mB (eN eF bI) Z)
theorem DCA (J:MA) (h:CB J) (ht:tH J.AA) (hp:(J.AA.SA.length:Int)*((J.AA.PA.length:Int)*(J.AA.RA.length:Int))<=60) (jK:(J.AA.SA.length:Int)*(J.AA.PA.length:Int)<=60\/J.AA.RA.length=0) (GQ:J.AA.TA.length<=12) (pO:J.AA.FA.length<=12):
  Fn prog 37 [.agg (bA J J.IA 1 2 5 J.VA J.TA J.FA)] ([(0,some (.X 1 3 (A J.OB))),(1,some (.X 1 3 (A J.VA))),(2,some (.X 1 3 (A J.TA))),(3,some (.X 1 3 (A J.LB))),(4,some (.X 1 3 (A J.sA))),(5,some (.X 2 53 (xA J.FA))),(6,some (.X 1 3 (A J.SA))),(7,some (.X 1 3 (A J.PA))),(8,some (.X 1 3 (A J.RA))),(9,some (.X 1 3 (A J.NB)))]++[]) 10 (.agg (rB J 10)) (rR J 10) 25:=by
 have IC:=h.st
 have bR:=h.EB
 refine fm (KA mD) func37 λw W G g=> ?_
 repeat' (first
  |refine FG 4 ?_
  |refine tk ?_
  |refine CA ?_|refine an ?_ ?_|(intro Z;try simp at Z))
 refine Stop.mk ?_
 refine RK 11 (List.replicate 60 nA) rfl QU ?_
 refine RK 12 (bA J J.IA 1 2 5 J.VA J.TA J.FA++List.replicate 19 nA++([I J.BA,nA,nA,nA,nA,nA,nA,nA,zN]++([zN,zN,zN,zN,zN,zN,zN,zN,zN,zN,zN,zN]++[I 0]))) rfl QU ?_
 repeat' (first
  |refine EH (x:= .seq (.region 4 _ _) _) (uBA J h) (eN eF qB) ?_
  |refine EH (x:= .seq (.region 14 _ _) _) (vBA J h) (eN eF qB) ?_
  |refine EH (x:= .seq (.region 20 _ _) _) (wBA J h) (eN eF qB) ?_
  |refine EH (x:= .seq (.region 32 _ _) _) (xBA J h GQ) (eN eF qB) ?_
  |refine EH (x:= .seq (.region 41 _ _) _) (yBA J h pO) (eN eF qB) ?_
  |refine EH (x:= .seq (.region 48 _ _) _) (zBA J h) (eN eF qB) ?_
  |refine EH (x:= .seq (.region 52 _ _) _) (ACA J h) (eN eF qB) ?_
  |refine EH (x:= .seq (.region 56 _ _) _) (BCA J h) (eN eF qB) ?_
  |refine EH (x:= .seq (.region 61 _ _) _) (CCA J h ht hp jK) (eN eF qB) ?_
  |refine cF 29 rfl eA ?_
  |refine cF 36 rfl eA ?_
  |refine tk ?_
  |refine cz 41 func41 (λ_=>DM J.GA 0) ?_
  |refine cz 73 func73 (λ_=>TZ J.GA 0 1000000000) ?_
  |refine CA ?_|refine an ?_ ?_|(intro Z;try simp at Z))
 exact⟨[(10,0),(11,13),(12,16),(13,17),(14,3),(15,4),(16,18),(17,19),(18,20),(19,21),(20,22),(21,9),(22,23),(23,14),(24,15)],eL _ ⟨rfl,U⟩ bI⟩
end En
end Go.Proofs.YtkidgehblodbcaaGreatDoor
