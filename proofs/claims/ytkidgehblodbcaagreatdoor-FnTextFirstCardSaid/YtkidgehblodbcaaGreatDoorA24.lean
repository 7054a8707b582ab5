/- A part of the proof of FnTextFirst: a rule is built and its first dates are taken, walked. -/
import Derived.Test.YtkidgehblodbcaaGreatDoorA14
import Derived.Test.YtkidgehblodbcaaGreatDoorA15
import Derived.Test.YtkidgehblodbcaaGreatDoorA23
set_option linter.all false
set_option maxRecDepth 100000
set_option maxHeartbeats 16000000
namespace Go.Proofs.YtkidgehblodbcaaGreatDoor
namespace En
open Go.RowKit Go.Proofs.Tryz
abbrev bO (J:MA):List SV:=bA J J.IA 1 2 5 J.VA J.TA J.FA
theorem ua {J:MA} (h:J.nH=true):tE 0 (jC J)=bO J:=by
 simp only[tE,jC,bO,bA,h,if_true];rfl
theorem gFA {J:MA}:(jC J).ls.length=9:=rfl
theorem vX {J:MA} (h:J.Clean) (hn:0<=J.BA):(jC J).Ok:=by
 have e2:before 2=365:=by decide
 have e9:before 9001=3287182:=by decide
 have If:before 10000=3652059:=by decide
 have hs:=h.GA
 have hf:=h.BA
 have hi:=h.IA
 have hw:=h.HB
 have bR:=h.count
 have wl:∀{l:List Int} {a b:Int} {z:Bool},within l 12 a b z=true->-1000<=a->b<=1000->l.length<=1000/\∀n∈l,-100000<n/\n<100000:=λ{l a b z} hw ha Z=>by
  refine⟨by have:=XE hw;omega,λn hm=> ?_⟩
  have:=SH hw hm
  omega
 refine⟨by show 0<=J.BA/\J.BA<7;omega,?_,by show-100000<J.IA/\J.IA<100000;omega,by show 0<=J.HB/\J.HB<7;omega,by show-100000<J.count/\J.count<100000;omega,?_,rfl,?_,?_,?_⟩
 ·show 0<(if J.nH=true then J.GA else 0)/\(if J.nH=true then J.GA else 0)<315537897600
  rw[if_pos h.nH];omega
 ·show 0<=(if J.CE=true then J.xB else 0)/\(if J.CE=true then J.xB else 0)<315537897600
  split
  ·rename_i hu;have:=h.xB hu;omega
  ·omega
 ·intro l hl
  have hl:l∈[J.OB,J.VA,J.TA,J.LB,J.sA,J.SA,J.PA,J.RA,J.NB]:=hl
  simp only[List.mem_cons,List.not_mem_nil,or_false]at hl
  rcases hl with rfl|rfl|rfl|rfl|rfl|rfl|rfl|rfl|rfl
  ·exact wl h.OB O O
  ·exact wl h.VA O O
  ·exact wl h.TA O O
  ·exact wl h.LB O O
  ·exact wl h.sA O O
  ·exact wl h.SA O O
  ·exact wl h.PA O O
  ·exact wl h.RA O O
  ·exact wl h.NB O O
 ·show J.FA.length<=1000;have:=h.mP;omega
 ·intro d hd
  have:=h.oP d hd
  have hm:0<=J.lF/\J.lF<=53:=by unfold MA.lF;(repeat' split)<;>omega
  unfold lP at this
  omega
theorem cu {J:MA} (h:J.Clean) (hn:0<=J.BA):Uu (jC J):=by
 have wm:∀{l:List Int} {a b:Int} {z:Bool},within l 12 a b z=true->∀n∈l,a<=n/\n<=b/\(n=0->z=true):=λ{l a b z} hw n hm=>SH hw hm
 refine⟨⟨?_,?_,?_,?_,?_,?_,?_,?_⟩,?_,⟨by show J.FA.length<=1000;have:=h.mP;omega,?_⟩,by show 0<=J.IA;have:=h.IA;omega⟩
 ·intro v hv;have:=wm h.RA v hv;omega
 ·intro v hv;have:=wm h.PA v hv;omega
 ·intro v hv;have:=wm h.SA v hv;omega
 ·intro v hv;have D:=wm h.TA v hv;have:v≠0:=λe=>by have:=D.2.2 e;cases this
  omega
 ·intro v hv;have D:=wm h.LB v hv;have:v≠0:=λe=>by have:=D.2.2 e;cases this
  omega
 ·intro v hv;have D:=wm h.sA v hv;have:v≠0:=λe=>by have:=D.2.2 e;cases this
  omega
 ·intro v hv;have D:=wm h.VA v hv;omega
 ·intro v hv;have D:=wm h.OB v hv;have:v≠0:=λe=>by have:=D.2.2 e;cases this
  omega
 ·intro k
  rcases Nat.lt_or_ge k 9 with hk|hk
  ·have hm:(jC J).ls.getD k []∈(jC J).ls:=by
    rw[List.getD_eq_getElem?_getD,List.getElem?_eq_getElem (show k<(jC J).ls.length from hk)];exact List.getElem_mem _
   exact((vX h hn).ls _ hm).1
  ·rw[List.getD_eq_getElem?_getD,List.getElem?_eq_none (show(jC J).ls.length<=k from hk)];simp
 ·intro d hd
  have:=h.oP d hd
  have hm:0<=J.lF/\J.lF<=53:=by unfold MA.lF;(repeat' split)<;>omega
  unfold lP at this
  omega
theorem du {J:MA} (h:J.Clean):(J.AA.SA.length:Int)*(J.AA.PA.length:Int)<=60\/J.AA.RA.length=0:=by
 have one:∀{l:List Int} {p:Prop} [Decidable p] {x:Int},((if l=[]/\p then[x]else l).length:Int)<=FD l.length:=λ{l p _ x}=>by
  unfold FD;split
  ·rename_i h;rw[h.1];simp
  ·split<;>omega
 left
 have hM:=sJ (XE h.PA)
 have hS:=sJ (XE h.RA)
 have hH:=sJ (XE h.SA)
 have ht:=h.times
 have h0:= @one J.SA (J.BA<4) _ (J.GA%86400/3600)
 have D:= @one J.PA (J.BA<5) _ (J.GA%86400/60%60)
 have h3:(J.AA.SA.length:Int)*(J.AA.PA.length:Int)<=FD J.SA.length*FD J.PA.length:=Int.mul_le_mul h0 D O O
 have h4:FD J.SA.length*FD J.PA.length*1<=FD J.SA.length*FD J.PA.length*FD J.RA.length:=Int.mul_le_mul_of_nonneg_left hS.1 (Int.mul_nonneg O O)
 omega
theorem fu {J:MA} (h:J.Clean):(J.AA.SA.length:Int)*((J.AA.PA.length:Int)*(J.AA.RA.length:Int))<=60:=by
 have one:∀{l:List Int} {p:Prop} [Decidable p] {x:Int},((if l=[]/\p then[x]else l).length:Int)<=FD l.length:=λ{l p _ x}=>by
  unfold FD;split
  ·rename_i h;rw[h.1];simp
  ·split<;>omega
 have hM:=sJ (XE h.PA)
 have hS:=sJ (XE h.RA)
 have hH:=sJ (XE h.SA)
 have ht:=h.times
 have h0:= @one J.SA (J.BA<4) _ (J.GA%86400/3600)
 have D:= @one J.PA (J.BA<5) _ (J.GA%86400/60%60)
 have h2:= @one J.RA (J.BA<6) _ (J.GA%86400%60)
 have h3:(J.AA.PA.length:Int)*(J.AA.RA.length:Int)<=FD J.PA.length*FD J.RA.length:=Int.mul_le_mul D h2 O O
 have h4:(J.AA.SA.length:Int)*((J.AA.PA.length:Int)*(J.AA.RA.length:Int))<=FD J.SA.length*(FD J.PA.length*FD J.RA.length):=
  Int.mul_le_mul h0 h3 (Int.mul_nonneg O O) O
 rw[<-Int.mul_assoc (FD _)]at h4
 omega
theorem gu {J:MA} (h:J.Clean):J.AA.TA.length<=12:=by
 show(if J.kC=false/\(J.BA=0\/J.BA=1)then[JC (J.GA/86400)]else J.TA).length<=12
 have:=XE h.TA
 split
 ·simp
 ·omega
theorem iu {J:MA} (h:J.Clean):J.AA.FA.length<=12:=by
 show(if J.kC=false/\J.BA=2 then[(J.GA/86400%7,(0:Int))]else J.FA).length<=12
 have:=h.mP
 split
 ·simp
 ·omega
def ju (J:MA) (a:Nat):List SV:=bO J++(bA J J.AA.IA (a+3) (a+4) (a+5) J.AA.VA J.AA.TA J.AA.FA++tl J [.s (a+3) 0 (JA J).bm.length, .s (a+6) 0 (JA J).FC.length, .s (a+7) 0 (JA J).GC.length, .s 3 0 (JA J).PF.length, .s 4 0 (JA J).uB.length, .s (a+8) 0 (JA J).VC.length, .s (a+9) 0 (JA J).vA.length, .s (a+10) 0 (JA J).bh.length, .s (a+11) 0 (JA J).bi.length, .s (a+12) 0 (JA J).bs.length, .s 9 0 (JA J).be.length, .s (a+13) 0 (JA J).ts.length])
theorem sDA (J:MA) (hc:J.Clean) (hn:0<=J.BA):Fn prog 16 [.agg (bO J)] (jB 0 J++[]) 10 (.jA [.p 10 0, .v .nilIface]) [(10,some (.st (bO J++List.replicate 41 nA)))] 11:=by
 have Dh:Fn prog 36 [.agg (bO J)] (jB 0 J++[]) 10 (.v .nilIface) [] 10:=by
  have h:=Zu (jC J) (cu hc hn)
  rw[ua hc.nH]at h
  exact h
 have Eh:Fn prog 37 [.agg (bO J)] (jB 0 J++[]) 10 (.agg (ju J 10)) [] 24:=rBA J (BP hc hn) (SW hc) (fu hc) (du hc) (gu hc) (iu hc)
 refine fm (KA 575) func16 λw W G g=> ?_
 repeat' (first
  |refine HD ?_
  |refine AD (t:=9) false rfl rfl (And.intro (λh=>by cases h) (λ_=> ?_))
  |refine tk ?_
  |(refine AB 36 ?_;refine cA.R [0,1,2,3,4,5,6,7,8,9] func36 rfl rfl (λ_=>Dh) rfl rfl rfl (λ_=>ME (r:=J) O rfl rfl rfl rfl rfl rfl rfl rfl rfl rfl U) rfl ?_)
  |(refine AB 37 ?_;refine cA.F [0,1,2,3,4,5,6,7,8,9] (s:= .agg (ju J 11)) (wh:=[(11,none),(12,none),(13,none),(14,none),(15,none),(16,none),(17,none),(18,none),(19,none),(20,none),(21,none),(22,none),(23,none),(24,none)]) func37 rfl rfl (λ_=>Eh) rfl rfl (λ_=>⟨mS,mS,mS,mS,mS,mS,mS,mS,mS,mS,U⟩) rfl rfl ?_)
  |refine CA ?_|refine an ?_ ?_|(intro Z;try simp at Z))
 refine Stop.mk ?_
 refine RK 26 (bO J++List.replicate 41 nA) rfl QU ?_
 exact PD ⟨[(10,26)],eL _ ⟨rfl,U⟩ ⟨rfl,U⟩⟩
def ku (J:MA):HS:=[(0,some (.X 1 3 (A J.OB))),(1,some (.X 1 3 (A J.VA))),(2,some (.X 1 3 (A J.TA))),(3,some (.X 1 3 (A J.LB))),(4,some (.X 1 3 (A J.sA))),(5,some (.X 2 53 (xA J.FA))),(6,some (.X 1 3 (A J.SA))),(7,some (.X 1 3 (A J.PA))),(8,some (.X 1 3 (A J.RA))),(9,some (.X 1 3 (A J.NB)))]
def gS (J:MA) (a:Nat):List SV:=List.replicate 38 nA++tl J [.s (a+1) 0 (JA J).bm.length, .s (a+2) 0 (JA J).FC.length, .s (a+3) 0 (JA J).GC.length, .s (a+4) 0 (JA J).PF.length, .s (a+5) 0 (JA J).uB.length, .s (a+6) 0 (JA J).VC.length, .s (a+7) 0 (JA J).vA.length, .s (a+8) 0 (JA J).bh.length, .s (a+9) 0 (JA J).bi.length, .s (a+10) 0 (JA J).bs.length, .s (a+11) 0 (JA J).be.length, .s (a+12) 0 (JA J).ts.length] a
theorem tDA (J:MA) (hc:J.Clean) (hn:0<=J.BA):Fn prog 16 [.agg (bO J)] (ku J++[]) 10 (.jA [.p 10 0, .v .nilIface]) ((10,some (.st (gS J 11)))::rR J 11) 24:=by
 have Dh:Fn prog 36 [.agg (bO J)] (jB 0 J++[]) 10 (.v .nilIface) [] 10:=by
  have h:=Zu (jC J) (cu hc hn)
  rw[ua hc.nH]at h
  exact h
 have Eh:=DCA J (BP hc hn) (SW hc) (fu hc) (du hc) (gu hc) (iu hc)
 refine fm (KA 575) func16 λw W G g=> ?_
 repeat' (first
  |refine HD ?_
  |refine AD (t:=9) false rfl rfl (And.intro (λh=>by cases h) (λ_=> ?_))
  |refine tk ?_
  |(refine AB 36 ?_;refine cA.R [0,1,2,3,4,5,6,7,8,9] func36 rfl rfl (λ_=>Dh) rfl rfl rfl (λ_=>⟨⟨O,RC _ _,_,[],rfl,by simp[DA.cells]⟩,⟨O,RC _ _,_,[],rfl,by simp[DA.cells]⟩,⟨O,RC _ _,_,[],rfl,by simp[DA.cells]⟩,⟨O,RC _ _,_,[],rfl,by simp[DA.cells]⟩,⟨O,RC _ _,_,[],rfl,by simp[DA.cells]⟩,⟨O,WN _ _,_,[],rfl,by simp[DA.cells]⟩,⟨O,RC _ _,_,[],rfl,by simp[DA.cells]⟩,⟨O,RC _ _,_,[],rfl,by simp[DA.cells]⟩,⟨O,RC _ _,_,[],rfl,by simp[DA.cells]⟩,⟨O,RC _ _,_,[],rfl,by simp[DA.cells]⟩,U⟩) rfl ?_)
  |(refine AB 37 ?_;refine cA.F [0,1,2,3,4,5,6,7,8,9] (s:= .agg (rB J 11)) (wh:=[(0,none),(1,none),(2,none),(3,none),(4,none),(5,none),(6,none),(7,none),(8,none),(9,none),(11,some (.X 1 3 (A (JA J).sp))),(12,some (.X 1 3 (A (JA J).bm))),(13,some (.X 1 3 (A (JA J).FC))),(14,some (.X 1 3 (A (JA J).GC))),(15,some (.X 1 3 (A (JA J).PF))),(16,some (.X 1 3 (A (JA J).uB))),(17,some (.X 1 3 (A (JA J).VC))),(18,some (.X 2 53 (xA (JA J).vA))),(19,some (.X 1 3 (A (JA J).bh))),(20,some (.X 1 3 (A (JA J).bi))),(21,some (.X 1 3 (A (JA J).bs))),(22,some (.X 1 3 (A (JA J).be))),(23,some (.X 2 51 (iA (JA J).ts))),(24,none),(25,none)]) func37 rfl rfl (λ_=>Eh) rfl rfl (λ_=>⟨wB,wB,wB,wB,wB,by show _=some (DA.X 2 53 (YA _ (xA _)));rw[SC];rfl,wB,wB,wB,wB,U⟩) rfl (by show[(0,none),(1,none),(2,none),(3,none),(4,none),(5,none),(6,none),(7,none),(8,none),(9,none),(11,some (DA.X 1 3 (YA _ (A _)))),(12,some (DA.X 1 3 (YA _ (A _)))),(13,some (DA.X 1 3 (YA _ (A _)))),(14,some (DA.X 1 3 (YA _ (A _)))),(15,some (DA.X 1 3 (YA _ (A _)))),(16,some (DA.X 1 3 (YA _ (A _)))),(17,some (DA.X 1 3 (YA _ (A _)))),(18,some (DA.X 2 53 (YA _ (xA _)))),(19,some (DA.X 1 3 (YA _ (A _)))),(20,some (DA.X 1 3 (YA _ (A _)))),(21,some (DA.X 1 3 (YA _ (A _)))),(22,some (DA.X 1 3 (YA _ (A _)))),(23,some (DA.X 2 51 (YA _ (iA _)))),(24,none),(25,none)]=_;simp only[kD,SC]) ?_)
  |refine CA ?_|refine an ?_ ?_|(intro Z;try simp at Z))
 refine Stop.mk ?_
 refine RK 27 (gS J 11) rfl QU ?_
 exact PD ⟨[(10,27)],eL _ ⟨rfl,U⟩ ⟨rfl,bI⟩⟩
theorem lu (J:MA) (hc:J.Clean) (hn:0<=J.BA):Fn prog 16 [.agg (tE 0 (jC J))] (SM 0 (jC J)++[]) 10 (.jA [.p 10 0, .v .nilIface]) [(10,some (.st (tE 0 (jC J)++List.replicate 41 nA)))] 11:=by
 have h:=sDA J hc hn
 rw[<-ua hc.nH]at h
 exact h
theorem uDA (J:MA) (hc:J.Clean) (hn:0<=J.BA):Fn prog 7 [.agg (EC 0 J)] (jB 0 J++[]) 10 (.jA [S (aJ (jC J)),B true]) [] 10:=by
 have dB:=vX hc hn
 have wX:=lu J hc hn
 have hf:=hc.BA
 have dJ:=hc.mP
 refine fm (KA 8255) func7 λw W G g=> ?_
 repeat' (first
  |refine AD (t:=13) false rfl rfl (And.intro (λh=>by cases h) (λ_=> ?_))
  |refine tk ?_
  |(refine AB 17 ?_;refine cA.F [0,1,2,3,4,5,6,7,8,9] (s:= .agg (wU 0 11 J.FA.length (jC J))) (wh:=[(11,some (.X 2 53 (xA J.FA)))]) func17 rfl rfl (λ_=>bu J O O) rfl rfl (λ_=>⟨cB,cB,cB,cB,cB,cB,cB,cB,cB,cB,U⟩) rfl (by show[(_,some (DA.X 2 53 (YA _ (xA _))))]=_;rw[SC];try rfl) ?_)
  |(refine AB 16 ?_;refine cA.F [0,1,2,3,4,11,6,7,8,9] (s:= .jA [.p 13 0, .v .nilIface]) (wh:=[(13,some (.st (wU 0 11 J.FA.length (jC J)++List.replicate 41 nA)))]) func16 rfl rfl (λ_=>wX) rfl rfl (λ_=>⟨cB,cB,cB,cB,cB,cB,cB,cB,cB,cB,U⟩) rfl rfl ?_)
  |(refine AB 18 ?_;refine cA.R [13,0,1,2,3,4,11,6,7,8,9] func18 rfl rfl (λ_=>kDA (jC J) dB) rfl rfl rfl (λ_=>⟨⟨O,rfl,_,List.replicate 41 nA,rfl,rfl⟩,⟨O,RC _ _,_,[],rfl,by first|(simp[DA.cells];done)|(simp[DA.cells];rfl)⟩,⟨O,RC _ _,_,[],rfl,by first|(simp[DA.cells];done)|(simp[DA.cells];rfl)⟩,⟨O,RC _ _,_,[],rfl,by first|(simp[DA.cells];done)|(simp[DA.cells];rfl)⟩,⟨O,RC _ _,_,[],rfl,by first|(simp[DA.cells];done)|(simp[DA.cells];rfl)⟩,⟨O,RC _ _,_,[],rfl,by first|(simp[DA.cells];done)|(simp[DA.cells];rfl)⟩,⟨O,WN _ _,_,[],rfl,by first|(simp[DA.cells];done)|(simp[DA.cells];rfl)⟩,⟨O,RC _ _,_,[],rfl,by first|(simp[DA.cells];done)|(simp[DA.cells];rfl)⟩,⟨O,RC _ _,_,[],rfl,by first|(simp[DA.cells];done)|(simp[DA.cells];rfl)⟩,⟨O,RC _ _,_,[],rfl,by first|(simp[DA.cells];done)|(simp[DA.cells];rfl)⟩,⟨O,RC _ _,_,[],rfl,by first|(simp[DA.cells];done)|(simp[DA.cells];rfl)⟩,U⟩) rfl ?_)
  |refine CA ?_|refine an ?_ ?_|(intro Z;try simp at Z))
 exact⟨[],eN ⟨rfl,U⟩ U⟩
theorem vDA (J:MA) (hc:J.Clean) (hn:0<=J.BA):Fn prog 20 [S (aJ (jC J))] [] 0 (.jA [.p 0 0, .v .nilIface]) ((0,some (.st (tE 1 (jC J)++List.replicate 41 nA)))::yK 1 (jC J)) 11:=by
 have dB:=vX hc hn
 have wX:=lu J hc hn
 refine fm (KA 4157) func20 λw W G g=> ?_
 repeat' (first
  |refine HD ?_
  |refine AD (t:=12) false rfl rfl (And.intro (λh=>by cases h) (λ_=> ?_))
  |refine tk ?_
  |(refine AB 35 ?_;refine Ch func35 rfl rfl (λ_=>Su (jC J) (gDA (jC J) dB)) rfl ?_)
  |(refine AB 16 ?_;refine cA.F [1,2,3,4,5,6,7,8,9,10] (s:= .jA [.p 12 0, .v .nilIface]) (wh:=[(12,some (.st (tE 1 (jC J)++List.replicate 41 nA)))]) func16 rfl rfl (λ_=>wX) rfl rfl (λ_=>⟨cB,cB,cB,cB,cB,cB,cB,cB,cB,cB,U⟩) rfl rfl ?_)
  |refine CA ?_|refine an ?_ ?_|(intro Z;try simp at Z))
 exact⟨PD ⟨[(0,12)],eL _ ⟨rfl,U⟩ ⟨rfl,qB⟩⟩⟩
theorem wDA (J:MA) (hc:J.Clean) (hn:0<=J.BA):Fn prog 9 [S (aJ (jC J))] [] 0 (.jA [.agg (iL 0 5 J.FA.length (jC J)),B true]) (QP 0 (jC J)) 10:=by
 have dB:=vX hc hn
 have h20:=vDA J hc hn
 refine fm (KA 4157) func9 λw W G g=> ?_
 repeat' (first
  |refine HD ?_
  |refine AD (t:=12) false rfl rfl (And.intro (λh=>by cases h) (λ_=> ?_))
  |refine tk ?_
  |(refine AB 20 ?_;refine cA.F [] (s:= .jA [.p 1 0, .v .nilIface]) (wh:=(1,some (.st (tE 2 (jC J)++List.replicate 41 nA)))::yK 2 (jC J)) func20 rfl rfl (λ_=>h20) rfl rfl (λ_=>U) rfl (by simp[ED,mp,WA,lD,DA.IB,iC,yK,tE,SV.IB,YA,List.range'_succ,List.range'_zero,List.replicate]) ?_)
  |(refine AB 21 ?_;refine call21 1 rfl dB.BA dB.FA rfl rfl ⟨⟨_,List.replicate 41 nA,rfl,rfl⟩,cB,cB,cB,cB,cB,cB,cB,cB,cB,cB,U⟩ ?_)
  |refine CA ?_|refine an ?_ ?_|(intro Z;try simp at Z))
 exact⟨PD ⟨[(0,2),(1,3),(2,4),(3,5),(4,6),(5,13),(6,8),(7,9),(8,10),(9,11)],eL _ ⟨rfl,U⟩ qB⟩⟩
end En
end Go.Proofs.YtkidgehblodbcaaGreatDoor
