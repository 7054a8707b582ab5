/- A part of the proof of FnTextFirst: functions of the reference, walked. -/
import Derived.Test.YtkidgehblodbcaaGreatDoorA07
set_option linter.all false
set_option maxRecDepth 100000
set_option maxHeartbeats 16000000
namespace Go.Proofs.YtkidgehblodbcaaGreatDoor
namespace En
open Go.RowKit Go.Proofs.Tryz
def yE (C:Cx) (F':FS) (H':HS) (n':Nat) (Q:QT):QT
 | .normal,F,H,Y=>∃l,OA C l F H Y F' H' n'
 |e,F,H,Y=>Q e F H Y
theorem pC {C:Cx} {x y:Code} {F:FS} {H:HS} {Y:Nat} {Q:QT} (F':FS) (H':HS) (n':Nat) (h:T C x F H Y (yE C F' H' n' Q)) (hr:T C y F' H' n' Q):T C (.seq x y) F H Y Q:=
 Jx (LH:=Unit) ⟨λ_=>F',λ_=>H',λ_=>n'⟩ (ZO h λe F H Y hq=>by
  cases e<;>first|exact hq|(obtain⟨l,hl⟩:=hq;exact⟨(),l,U,hl⟩)) λ_ F H Y hF hH hn=>by subst hF;subst hH;subst hn;exact hr
theorem kO {r:MA} (h:¬r.Clean):r.JJ=false:=by
 rw[Bool.eq_false_iff];intro e;exact h (r.yX.1 e)
def Ql (r:MA):MB {i:Nat//i<=r.FA.length/\(r.FA.take i).Nodup/\∀d∈r.FA.take i,lP r.lF d}where
 F i:=[(1, .u (.p 10 0)),(3, .u (I r.lF)),(171, .u (.s 5 0 r.FA.length)),(172, .u (I r.FA.length)),(173, .u (I i.1))]
 H i:=jB 0 r++[(10,some (.st (EC 0 r)))]
 n i:=11
theorem Rl {l:List (Int×Int)} {i:Nat} (h:i<l.length):l.take (i+1)=l.take i++[l.getD i (0,0)]:=by
 rw[List.take_succ_eq_append_getElem h,List.getD_eq_getElem?_getD,List.getElem?_eq_getElem h];rfl
theorem Q0 (ds:List (Int×Int)) (i:Nat):xA (ds.take i)++xA (ds.drop i)=xA ds:=by
 unfold xA;rw[<-List.flatMap_append,List.take_append_drop]
theorem S0 {r:MA} (D:¬r.BA=1/\(r.BA=0->r.VA=[])) (h2:r.BA=0/\r.sA=[]):(53:Int)=r.lF:=by
 unfold MA.lF
 rw[if_neg,if_pos ⟨h2.1,by rw[h2.2];rfl⟩]
 rintro(e|e)
 ·exact D.1 e
 ·have:=D.2 e.1;simp[this]at e
theorem T0 {r:MA} (D:¬r.BA=1/\(r.BA=0->r.VA=[])) (h2:r.BA=0->¬r.sA=[]):(0:Int)=r.lF:=by
 unfold MA.lF
 rw[if_neg,if_neg (λe=>h2 e.1 (List.length_eq_zero_iff.1 e.2))]
 rintro(e|e)
 ·exact D.1 e
 ·have:=D.2 e.1;simp[this]at e
theorem zV {n' Y:Nat} {H rest:HS} {r:MA} (h0:WA H (sig [] n' Y 0)=some (.ro (A r.OB))) (D:WA H (sig [] n' Y (0+1))=some (.ro (A r.VA))) (h2:WA H (sig [] n' Y (0+2))=some (.ro (A r.TA))) (h3:WA H (sig [] n' Y (0+3))=some (.ro (A r.LB)))
  (h4:WA H (sig [] n' Y (0+4))=some (.ro (A r.sA))) (h5:WA H (sig [] n' Y (0+5))=some (.ro (xA r.FA))) (h6:WA H (sig [] n' Y (0+6))=some (.ro (A r.SA))) (h7:WA H (sig [] n' Y (0+7))=some (.ro (A r.PA))) (h8:WA H (sig [] n' Y (0+8))=some (.ro (A r.RA))) (h9:WA H (sig [] n' Y (0+9))=some (.ro (A r.NB)))
  (hr:lC (sig [] n' Y) H rest):lC (sig [] n' Y) H (jB 0 r++rest):=
 ⟨TB h0 (by simp[DA.cells]),TB D (by simp[DA.cells]),TB h2 (by simp[DA.cells]),TB h3 (by simp[DA.cells]),TB h4 (by simp[DA.cells]),TB h5 (by simp[DA.cells]),TB h6 (by simp[DA.cells]),TB h7 (by simp[DA.cells]),TB h8 (by simp[DA.cells]),TB h9 (by simp[DA.cells]),hr⟩
theorem Sl (r:MA) (h:r.Fits) (hf:0<=r.BA/\r.BA<=255):Fn prog 12 [.agg (EC 0 r)] (jB 0 r++[]) 10 (B r.JJ) [] 10:=by
 have BD:=h
 obtain⟨l0,l1,l2,l3,l4,l5,l6,l7,l8,l9⟩:=h
 have b2:before 2=365:=rfl
 have b9:before 9001=3287182:=rfl
 have b10:before 10000=3652059:=rfl
 refine fm (KA 57896155046599672071827104467400953486887286249031028195544074935779459072063) func12 λw W G g=> ?_
 repeat' (first
  |refine tk ?_
  |refine cz 24 func24 (λ_=>nM _ O O) ?_
  |(refine WC 25 (.s 0 0 _::_) ?_;refine cA.R [0] func25 rfl rfl (λ_=>jO r.OB 12 (-366) 366 false l0) rfl rfl rfl BC rfl ?_)
  |(refine WC 25 (.s 1 0 _::_) ?_;refine cA.R [1] func25 rfl rfl (λ_=>jO r.VA 12 1 12 false l1) rfl rfl rfl BC rfl ?_)
  |(refine WC 25 (.s 2 0 _::_) ?_;refine cA.R [2] func25 rfl rfl (λ_=>jO r.TA 12 (-31) 31 false l2) rfl rfl rfl BC rfl ?_)
  |(refine WC 25 (.s 3 0 _::_) ?_;refine cA.R [3] func25 rfl rfl (λ_=>jO r.LB 12 (-366) 366 false l3) rfl rfl rfl BC rfl ?_)
  |(refine WC 25 (.s 4 0 _::_) ?_;refine cA.R [4] func25 rfl rfl (λ_=>jO r.sA 12 (-53) 53 false l4) rfl rfl rfl BC rfl ?_)
  |(refine WC 25 (.s 6 0 _::_) ?_;refine cA.R [6] func25 rfl rfl (λ_=>jO r.SA 12 0 23 true l6) rfl rfl rfl BC rfl ?_)
  |(refine WC 25 (.s 7 0 _::_) ?_;refine cA.R [7] func25 rfl rfl (λ_=>jO r.PA 12 0 59 true l7) rfl rfl rfl BC rfl ?_)
  |(refine WC 25 (.s 8 0 _::_) ?_;refine cA.R [8] func25 rfl rfl (λ_=>jO r.RA 12 0 59 true l8) rfl rfl rfl BC rfl ?_)
  |(refine WC 25 (.s 9 0 _::_) ?_;refine cA.R [9] func25 rfl rfl (λ_=>jO r.NB 12 (-80) 80 true l9) rfl rfl rfl BC rfl ?_)
  |refine CA ?_|refine an ?_ ?_|(intro Z;try simp at Z))
 ·refine DB ?_ qA
  show B false=B r.JJ
  rw[kO λc=> ?_]
  have c1:=c.BA;have c2:=c.nH;have c3:=c.GA;have c4:=c.IA;have c5:=c.HB;have c6:=c.count
  simp only[c2,Bool.true_eq_false,or_false,false_or]at Z
  omega
 ·refine DB ?_ qA
  show B false=B r.JJ
  rw[kO λc=> ?_]
  have c1:=c.xB Z.1
  omega
 ·refine DB ?_ qA
  show B false=B r.JJ
  rw[kO λc=> ?_]
  simp[c.OB,c.VA,c.TA,c.LB,c.sA]at Z
 ·refine DB ?_ qA
  show B false=B r.JJ
  rw[kO λc=> ?_]
  have c1:=c.mP
  simp[c.SA,c.PA,c.RA,c.NB]at Z
  omega
 ·obtain⟨⟨⟨⟨h6,h7⟩,h8⟩,h9⟩,h5⟩:=Z
  have m6:=sJ (XE h6)
  have m7:=sJ (XE h7)
  have m8:=sJ (XE h8)
  have p1:=uc m6 m7
  have p2:=uc p1 m8
  unfold FD at m6 m7 m8 p1 p2
  repeat' (first
   |refine pC (x:= .block 0 _) [(1, .u (.p 10 0)),(3, .u (I r.lF))] (jB 0 r++[(10,some (.st (EC 0 r)))]) 11 ?_ ?_
   |refine tk ?_
   |refine CA ?_|refine an ?_ ?_|(intro Z;try simp at Z))
  ·refine DB ?_ qA
   show B false=B r.JJ
   rw[kO λc=> ?_]
   have c1:=c.times
   unfold FD at c1
   simp only[gt_iff_lt]at c1
   omega
  ·exact⟨[],OA.nil UA ⟨rfl,bB (show(5:Int)=r.lF by unfold MA.lF;rw[if_pos Z]),U⟩ (zV rfl rfl rfl rfl rfl rfl rfl rfl rfl rfl ⟨rfl,U⟩)⟩
  ·exact⟨[],OA.nil UA ⟨rfl,bB (S0 (by assumption) Z),U⟩ (zV rfl rfl rfl rfl rfl rfl rfl rfl rfl rfl ⟨rfl,U⟩)⟩
  ·exact⟨[],OA.nil UA ⟨rfl,bB (T0 (by assumption) Z),U⟩ (zV rfl rfl rfl rfl rfl rfl rfl rfl rfl rfl ⟨rfl,U⟩)⟩
  ·have vI:0<=r.lF/\r.lF<=53:=by unfold MA.lF;(repeat' split)<;>omega
   repeat' (first
    |refine tk ?_
    |refine CA ?_|refine an ?_ ?_|(intro Z;try simp at Z))
   refine FB (Ql r) (λi=>r.FA.length-i.1) ?_ ?_
   ·exact⟨⟨0,O,by simp,by simp⟩,[],U,OA.nil UA ⟨rfl,rfl,rfl,rfl,rfl,U⟩ (zV rfl rfl rfl rfl rfl rfl rfl rfl rfl rfl ⟨rfl,U⟩)⟩
   ·rintro⟨i,hi⟩
    intro F H Y hF hH hn;dsimp only[Ql]at hF hH hn;subst hF hH hn
    repeat' (first
     |refine tk ?_
     |refine mF i O O λrest=> ?_
     |refine cr 27 [0,1,2,3,4,5,6,7,8,9] func27 (λ_=>az r BD) (λ_=>ME O rfl rfl rfl rfl rfl rfl rfl rfl rfl rfl U) ?_
     |(refine AB 26 ?_;refine cA.R [5] func26 rfl rfl (λ_=>Zz (r.FA.take i) (r.FA.getD i (0,0)) eA) rfl rfl (by simp[YA,SV.IB,mr,Nat.min_eq_left hi.1,A]) (λ_=>⟨⟨O,WN _ _,_,xA (r.FA.drop i),rfl,by simp[DA.cells,Q0]⟩,U⟩) rfl ?_)
     |refine CA ?_|refine an ?_ ?_|(intro Z;try simp at Z))
    ·have ht:=Rl (l:=r.FA) (i:=i) O
     refine DB ?_ qA
     show B false=B r.JJ
     rw[kO λc=> ?_]
     have h5:(r.FA.take i++[r.FA.getD i (0,0)]).Nodup:=by rw[<-ht];exact c.O0.sublist (List.take_sublist _ _)
     rw[List.nodup_append]at h5
     rw[List.getD_eq_getElem?_getD]at h5
     exact h5.2.2 _ Z _ (by simp) rfl
    ·have hm:r.FA.getD i (0,0)∈r.FA:=by rw[List.getD_eq_getElem?_getD,List.getElem?_eq_getElem (show i<r.FA.length by omega)];exact List.getElem_mem _
     refine DB ?_ qA
     show B false=B r.JJ
     rw[kO λc=> ?_]
     have c1:=c.oP _ hm
     unfold lP at c1
     rw[List.getD_eq_getElem?_getD]at c1
     omega
    ·have ht:=Rl (l:=r.FA) (i:=i) O
     refine⟨⟨i+1,O,?_,?_⟩,[],show r.FA.length- (i+1)<r.FA.length-i by omega,OA.nil UA ⟨rfl,rfl,rfl,rfl,rfl,U⟩ (zV rfl rfl rfl rfl rfl rfl rfl rfl rfl rfl ⟨rfl,U⟩)⟩
     ·rw[ht,List.nodup_append]
      refine⟨hi.2.1,by simp,λx hx y hy e=> ?_⟩
      have hn:¬r.FA[i]?.getD (0,0)∈r.FA.take i:=by assumption
      simp at hy
      exact hn (by rw[<-hy,<-e];exact hx)
     ·intro d hd
      rw[ht]at hd
      rcases List.mem_append.1 hd with hd|hd
      ·exact hi.2.2 d hd
      ·simp at hd
       subst hd
       exact⟨Z.1.1.1,Z.1.1.2,Z.1.2,Z.2⟩
    ·refine DB ?_ qA
     show B false=B r.JJ
     rw[kO λc=> ?_]
     rcases Z with(⟨g1,g2⟩|⟨g1,g2⟩)|⟨g1,g2⟩
     ·exact g2 (c.nT g1)
     ·exact g2 (c.rc g1)
     ·exact c.Ol g1 g2
    ·refine DB ?_ qA
     show B false=B r.JJ
     rw[kO λc=> ?_]
     refine c.Pl Z.1 ?_
     rcases Z.2 with(g|g)|g
     ·exact .inl g
     ·exact .inr (.inl g)
     ·exact .inr (.inr g)
    ·have e:r.FA.take i=r.FA:=List.take_of_length_le (by assumption)
     rw[e]at hi
     refine DB ?_ qA
     refine congrArg (λb=>SV.v (.bool b)) ?_
     rw[Bool.eq_iff_iff,MA.yX]
     have hS:(((within r.OB 12 (-366) 366 false=true/\within r.VA 12 1 12 false=true)/\within r.TA 12 (-31) 31 false=true)/\within r.LB 12 (-366) 366 false=true)/\within r.sA 12 (-53) 53 false=true:=by assumption
     have hE:((0<r.sA.length->r.BA=0)/\(0<r.NB.length->r.BA=0))/\(0<r.TA.length->¬r.BA=2):=by assumption
     constructor
     ·intro hp
      refine⟨O,by simp_all,O,O,O,O,by assumption,hS.1.1.1.1,hS.1.1.1.2,hS.1.1.2,hS.1.2,hS.2,h6,h7,h8,h9,O,?_,hi.2.1,hi.2.2,hE.1.1,hE.1.2,hE.2,?_,?_⟩
      ·unfold FD;simp only[gt_iff_lt];assumption
      ·intro g e
       have:=Z g
       rcases e with e|e|e
       ·exact this.1.1 e
       ·exact this.1.2 e
       ·exact this.2 e
      ·intro g
       rw[if_neg (by simp;intro e;rw[e]at g;simp at g)]at hp
       exact hp
     ·intro c
      by_cases g:((r.OB.length:Int)==0)=true
      ·rw[if_pos g]
      ·rw[if_neg g]
       exact c.pos (by simp at g;exact List.length_pos_iff.2 g)
end En
end Go.Proofs.YtkidgehblodbcaaGreatDoor
