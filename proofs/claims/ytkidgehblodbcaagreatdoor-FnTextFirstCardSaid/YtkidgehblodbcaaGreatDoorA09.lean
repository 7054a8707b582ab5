/- A part of the proof of FnTextFirst: moments and sort, walked. -/
import Derived.Sort.AssemblyPlain
import Derived.Sort.LotD5
import Derived.Test.YtkidgehblodbcaaGreatDoorA04
import Derived.Test.YtkidgehblodbcaaGreatDoorA08
set_option linter.all false
set_option maxRecDepth 100000
set_option maxHeartbeats 16000000
namespace Go.Proofs.YtkidgehblodbcaaGreatDoor
namespace En
open Go.RowKit Go.Proofs.Tryz
abbrev Tm (s:Int):SV:= .agg (A [s,0])
theorem VW (s n:Int):Fn prog 23 [.agg (A [s,n])] [] 0 (I s) [] 0:=by
 refine fm (KA 7) func23 λw W G g=> ?_
 repeat' (first
  |refine tk ?_
  |refine CA ?_|refine an ?_ ?_|(intro Z;try simp at Z))
 exact DB rfl qA
theorem Wn (s:Int):Fn prog 39 [I s] [] 0 (Tm s) [] 0:=by
 refine fm (KA 5) func39 λw W G g=> ?_
 repeat' (first
  |refine tk ?_
  |refine CA ?_|refine an ?_ ?_|(intro Z;try simp at Z))
 exact iF rfl qA
theorem DM (s n:Int):Fn prog 41 [.agg (A [s,n])] [] 0 (B (s==0&&n==0)) [] 0:=by
 refine fm (KA 7) func41 λw W G g=> ?_
 repeat' (first
  |refine tk ?_
  |refine CA ?_|refine an ?_ ?_|(intro Z;try simp at Z))
 refine DB ?_ qA
 show SV.v (.bool _)=SV.v (.bool _)
 congr 2
 cases (s==0)<;>rfl
theorem Xn (d n:Int):Fn prog 38 [I d,I n] [] 0 (.agg (A [d,n])) [] 0:=by
 refine fm (KA 19) func38 λw W G g=> ?_
 repeat' (first
  |refine tk ?_
  |refine CA ?_|refine an ?_ ?_|(intro Z;try simp at Z))
 exact iF rfl qA
theorem Y5 (d n:Int):Fn prog 42 [.p 0 0] [(0,some (.ro (A [d,n])))] 1 (I d) [] 1:=by
 refine fm (KA 5) func42 λw W G g=> ?_
 repeat' (first
  |refine tk ?_
  |refine CA ?_|refine an ?_ ?_|(intro Z;try simp at Z))
 exact DB rfl qA
theorem Z5 (d n:Int):Fn prog 43 [.p 0 0] [(0,some (.ro (A [d,n])))] 1 (I n) [] 1:=by
 refine fm (KA 5) func43 λw W G g=> ?_
 repeat' (first
  |refine tk ?_
  |refine CA ?_|refine an ?_ ?_|(intro Z;try simp at Z))
 exact DB rfl qA
theorem GU:Fn prog 69 [] [] 0 (.agg []) [] 0:=by
 refine fm (KA 1) func69 λw W G g=> ?_
 repeat' (first
  |refine tk ?_
  |refine CA ?_|refine an ?_ ?_|(intro Z;try simp at Z))
 exact iF rfl qA
theorem TZ (s n d:Int):Fn prog 73 [.agg (A [s,n]),I d] [] 0 (Tm s) [] 0:=by
 refine fm (KA 23) func73 λw W G g=> ?_
 repeat' (first
  |refine tk ?_
  |refine CA ?_|refine an ?_ ?_|(intro Z;try simp at Z))
 exact iF rfl qA
theorem sN (s n:Int):Fn prog 81 [.agg (A [s,n])] [] 0 (.agg []) [] 0:=by
 refine fm (KA 5) func81 λw W G g=> ?_
 repeat' (first
  |refine tk ?_
  |refine CA ?_|refine an ?_ ?_|(intro Z;try simp at Z))
 exact iF rfl qA
theorem j5:Fn prog 133 [.agg []] [] 0 (.v (.string ⟨#[85,84,67]⟩)) [] 0:=by
 refine fm (KA 5) func133 λw W G g=> ?_
 repeat' (first
  |refine tk ?_
  |refine CA ?_|refine an ?_ ?_|(intro Z;try simp at Z))
 exact DB rfl qA
theorem Yn (s n:Int):Fn prog 145 [.agg (A [s,n])] [] 0 (I n) [] 0:=by
 refine fm (KA 7) func145 λw W G g=> ?_
 repeat' (first
  |refine tk ?_
  |refine CA ?_|refine an ?_ ?_|(intro Z;try simp at Z))
 exact DB rfl qA
theorem o5 (s n:Int):Fn prog 185 [.agg (A [s,n])] [] 0 (.agg (A [s,n])) [] 0:=by
 refine fm (KA 7) func185 λw W G g=> ?_
 repeat' (first
  |refine tk ?_
  |refine CA ?_|refine an ?_ ?_|(intro Z;try simp at Z))
 exact iF rfl qA
theorem UZ (s n t m:Int):Fn prog 148 [.agg (A [s,n]), .agg (A [t,m])] [] 0 (B (decide (s<t\/(s=t/\n<m)))) [] 0:=by
 refine fm (KA 31) func148 λw W G g=> ?_
 repeat' (first
  |refine tk ?_
  |refine CA ?_|refine an ?_ ?_|(intro Z;try simp at Z))
 refine DB ?_ qA
 show SV.v (.bool _)=SV.v (.bool _)
 congr 2
 by_cases D:s<t<;>by_cases h2:s=t<;>by_cases h3:n<m<;>simp_all
theorem Zn (s n t m:Int):Fn prog 147 [.agg (A [s,n]), .agg (A [t,m])] [] 0 (B (decide (t<s\/(t=s/\m<n)))) [] 0:=by
 refine fm (KA 31) func147 λw W G g=> ?_
 repeat' (first
  |refine tk ?_
  |refine cz 148 func148 (λ_=>UZ t m s n) ?_
  |refine CA ?_|refine an ?_ ?_|(intro Z;try simp at Z))
 exact DB rfl qA
theorem u5 (y:Int) (h:0<=y/\y<=1000000):Fn prog 135 [I y] [] 0 (B (iT y)) [] 0:=by
 refine fm (KA 5) func135 λw W G g=> ?_
 repeat' (first
  |refine tk ?_
  |refine CA ?_|refine an ?_ ?_|(intro Z;try simp at Z))
 refine DB ?_ qA
 show SV.v (.bool _)=SV.v (.bool _)
 congr 2
 unfold iT
 cases (y%4==0)<;>cases (y%100 !=0)<;>rfl
theorem bn (y:Int) (h:0<=y/\y<=1000000):Fn prog 88 [I y] [] 0 (I (lp y)) [] 0:=by
 refine fm (KA 32773) func88 λw W G g=> ?_
 repeat' (first
  |refine tk ?_
  |refine CA ?_|refine an ?_ ?_|(intro Z;try simp at Z))
 all_goals (refine DB ?_ qA;show SV.v (.int _ _)=SV.v (.int _ _);congr 2;unfold lp)
 ·rw[if_pos]
  by_cases D:y%4=0<;>by_cases h2:y%100=0<;>by_cases h3:y%400=0<;>simp_all
 ·rw[if_neg]
  by_cases D:y%4=0<;>by_cases h2:y%100=0<;>by_cases h3:y%400=0<;>simp_all
theorem WW (a b:Int) (ha:0<=a/\a<=9000000000000000000) (Z:0<b):Fn prog 87 [I a,I b] [] 0 (I (a/b)) [] 0:=by
 have D:=Int.emod_nonneg a (show b≠0 by omega)
 have h2:=Int.ediv_nonneg ha.1 (show 0<=b by omega)
 have h3:=Int.ediv_le_self b ha.1
 refine fm (KA 4147) func87 λw W G g=> ?_
 repeat' (first
  |refine tk ?_
  |refine And.intro UD (λZ=> ?_)
  |refine CA ?_|refine an ?_ ?_|(intro Z;try simp at Z))
 exact DB rfl qA
theorem x5 (y:Int) (h:1<=y/\y<=1000000):Fn prog 124 [I y] [] 0 (I (before y)) [] 0:=by
 refine fm (KA 13) func124 λw W G g=> ?_
 repeat' (first
  |refine tk ?_
  |refine cz 87 func87 (λ_=>WW _ _ O O) ?_
  |refine CA ?_|refine an ?_ ?_|(intro Z;try simp at Z))
 exact DB rfl qA
theorem Ge (m y:Int) (h:0<=y/\y<=1000000):Fn prog 86 [I m,I y] [] 0 (I (fB y m)) [] 0:=by
 refine fm (KA 1651) func86 λw W G g=> ?_
 repeat' (first
  |refine tk ?_
  |refine cz 135 func135 (λ_=>u5 y h) ?_
  |refine CA ?_|refine an ?_ ?_|(intro Z;try simp at Z))
 all_goals (refine DB ?_ qA;show SV.v (.int _ _)=SV.v (.int _ _);congr 2;have:=tB y;(try simp only[Tc]at*);simp_all [fB]<;>omega)
theorem He (t n:Int) (h:0<=t/\t<=1000000000000):Fn prog 85 [.agg (A [t,n])] [] 0 (.jA [I (oA (t/86400)),I (idxOf (t/86400)),I (t%86400)]) [] 0:=by
 refine fm (KA 2199157474303) func85 λw W G g=> ?_
 repeat' (first
  |refine tk ?_
  |refine cz 87 func87 (λ_=>WW _ _ O O) ?_
  |refine CA ?_|refine an ?_ ?_|(intro Z;try simp at Z))
 all_goals (refine iF ?_ qA;have e3:t%86400=t-t/86400*86400:=by omega)
 ·obtain⟨e1,e2⟩:=uY (d:=t/86400) rfl (.inr ⟨by first|assumption|(simp at*;assumption),rfl⟩) rfl (.inr ⟨by first|assumption|(simp at*;assumption),rfl⟩)
  rw[e1,e2,e3];rfl
 ·obtain⟨e1,e2⟩:=uY (d:=t/86400) rfl (.inr ⟨by first|assumption|(simp at*;assumption),rfl⟩) rfl (.inl ⟨rfl,by first|assumption|(simp at*;assumption)⟩)
  rw[e1,e2,e3];rfl
 ·obtain⟨e1,e2⟩:=uY (d:=t/86400) rfl (.inl ⟨rfl,by first|assumption|(simp at*;assumption)⟩) rfl (.inr ⟨by first|assumption|(simp at*;assumption),rfl⟩)
  rw[e1,e2,e3];rfl
 ·obtain⟨e1,e2⟩:=uY (d:=t/86400) rfl (.inl ⟨rfl,by first|assumption|(simp at*;assumption)⟩) rfl (.inl ⟨rfl,by first|assumption|(simp at*;assumption)⟩)
  rw[e1,e2,e3];rfl
def cn (t n:Int):MB {i:Int//1<=i/\i<=KB (t/86400)}where
 F i:=[(5, .u (I (oA (t/86400)))),(6, .u (I (idxOf (t/86400)-GB (lp (oA (t/86400))) i.1))),(8, .u (I i.1))]
 H i:=[]
 n i:=1
theorem oR (t n:Int) (h:0<=t/\t<=800000000000):Fn prog 44 [.agg (A [t,n])] [] 0 (.jA [I (oA (t/86400)),I (KB (t/86400)),I (JC (t/86400))]) [] 0:=by
 have JH:=vY (n:=t/86400) O
 have eO:oA (t/86400)<=30000:=by have:= @OJ (t/86400) 30000 (by unfold before;omega);omega
 have jE:=qJ (t/86400)
 have fO:=tB (oA (t/86400))
 have DG:=CW (t/86400)
 have mR:=jT fO jE
 refine fm (KA 524671) func44 λw W G g=> ?_
 repeat' (first
  |refine tk ?_
  |refine cz 85 func85 (λ_=>He _ _ O) ?_
  |refine CA ?_|refine an ?_ ?_|(intro Z;try simp at Z))
 refine FB (cn t n) (λi=>(KB (t/86400)-i.1).toNat) ?_ ?_
 ·exact⟨⟨1,O⟩,[],U,OA.nil UA ⟨rfl,bB (by rw[lO];omega),rfl,U⟩ U⟩
 ·rintro⟨i,hi⟩
  intro F H Y hF hH hn;dsimp only[cn]at hF hH hn;subst hF hH hn
  have hc:=FL (y:=oA (t/86400)) hi.1 O
  have dn:=bG (m:=i) fO
  have SK:= @OG (oA (t/86400)) i
  repeat' (first
   |refine tk ?_
   |refine cz 86 func86 (λ_=>Ge _ _ O) ?_
   |refine CA ?_|refine an ?_ ?_|(intro Z;try simp at Z))
  ·have fA:i<KB (t/86400):=by
    rcases(by omega:i<KB (t/86400)\/i=KB (t/86400))with h'|h'
    ·exact h'
    ·unfold KB at h';rw[<-h']at mR;omega
   exact⟨⟨i+1,O⟩,[],show(KB (t/86400)- (i+1)).toNat<(KB (t/86400)-i).toNat by omega,OA.nil UA ⟨rfl,bB (show idxOf (t/86400)-GB (lp (oA (t/86400))) i-fB (oA (t/86400)) i=idxOf (t/86400)-GB (lp (oA (t/86400))) (i+1)by omega),rfl,U⟩ U⟩
  ·have he:i=KB (t/86400):=by
    rcases(by omega:i=KB (t/86400)\/i+1<=KB (t/86400))with h'|h'
    ·exact h'
    ·have:=mH fO h';unfold KB at this;omega
   refine iF ?_ qA
   unfold JC
   rw[<-he];rfl
theorem CQ (t n:Int) (h:0<=t/\t<=1000000000000):Fn prog 45 [.agg (A [t,n])] [] 0 (.jA [I (t%86400/3600),I (t%86400/60%60),I (t%86400%60)]) [] 0:=by
 refine fm (KA 159) func45 λw W G g=> ?_
 repeat' (first
  |refine tk ?_
  |refine cz 85 func85 (λ_=>He _ _ O) ?_
  |refine CA ?_|refine an ?_ ?_|(intro Z;try simp at Z))
 exact iF rfl qA
theorem en (t n:Int) (h:0<=t/\t<=800000000000):Fn prog 75 [.agg (A [t,n])] [] 0 (I (KB (t/86400))) [] 0:=by
 refine fm (KA 23) func75 λw W G g=> ?_
 repeat' (first
  |refine tk ?_
  |refine cz 44 func44 (λ_=>oR _ _ O) ?_
  |refine CA ?_|refine an ?_ ?_|(intro Z;try simp at Z))
 exact DB rfl qA
theorem Je (t n:Int) (h:0<=t/\t<=800000000000):Fn prog 76 [.agg (A [t,n])] [] 0 (I (JC (t/86400))) [] 0:=by
 refine fm (KA 39) func76 λw W G g=> ?_
 repeat' (first
  |refine tk ?_
  |refine cz 44 func44 (λ_=>oR _ _ O) ?_
  |refine CA ?_|refine an ?_ ?_|(intro Z;try simp at Z))
 exact DB rfl qA
theorem gn (t n:Int) (h:0<=t/\t<=800000000000):Fn prog 77 [.agg (A [t,n])] [] 0 (I (t%86400/3600)) [] 0:=by
 refine fm (KA 15) func77 λw W G g=> ?_
 repeat' (first
  |refine tk ?_
  |refine cz 45 func45 (λ_=>CQ _ _ O) ?_
  |refine CA ?_|refine an ?_ ?_|(intro Z;try simp at Z))
 exact DB rfl qA
theorem jn (t n:Int) (h:0<=t/\t<=800000000000):Fn prog 78 [.agg (A [t,n])] [] 0 (I (t%86400/60%60)) [] 0:=by
 refine fm (KA 23) func78 λw W G g=> ?_
 repeat' (first
  |refine tk ?_
  |refine cz 45 func45 (λ_=>CQ _ _ O) ?_
  |refine CA ?_|refine an ?_ ?_|(intro Z;try simp at Z))
 exact DB rfl qA
theorem kn (t n:Int) (h:0<=t/\t<=800000000000):Fn prog 79 [.agg (A [t,n])] [] 0 (I (t%86400%60)) [] 0:=by
 refine fm (KA 39) func79 λw W G g=> ?_
 repeat' (first
  |refine tk ?_
  |refine cz 45 func45 (λ_=>CQ _ _ O) ?_
  |refine CA ?_|refine an ?_ ?_|(intro Z;try simp at Z))
 exact DB rfl qA
theorem Ke (t n:Int) (h:0<=t/\t<=800000000000):Fn prog 101 [.agg (A [t,n])] [] 0 (I (idxOf (t/86400)+1)) [] 0:=by
 have jE:=qJ (t/86400)
 have fO:=tB (oA (t/86400))
 refine fm (KA 23) func101 λw W G g=> ?_
 repeat' (first
  |refine tk ?_
  |refine cz 85 func85 (λ_=>He _ _ O) ?_
  |refine CA ?_|refine an ?_ ?_|(intro Z;try simp at Z))
 exact DB rfl qA
theorem XW (t n:Int) (h:0<=t/\t<=1000000000000):Fn prog 47 [.agg (A [t,n])] [] 0 (I ((t/86400+1)%7)) [] 0:=by
 refine fm (KA 15) func47 λw W G g=> ?_
 repeat' (first
  |refine tk ?_
  |refine cz 87 func87 (λ_=>WW _ _ O O) ?_
  |refine CA ?_|refine an ?_ ?_|(intro Z;try simp at Z))
 refine DB ?_ qA
 rw[B2];rfl
theorem YW (k:Int) (h:0<=k/\k<=6):Fn prog 46 [I k] [] 0 (I ((k+6)%7)) [] 0:=by
 rcases(by omega:k=0\/k=1\/k=2\/k=3\/k=4\/k=5\/k=6)with rfl|rfl|rfl|rfl|rfl|rfl|rfl
 all_goals
  refine fm (KA 5) func46 λw W G g=> ?_
  repeat' (first
   |refine tk ?_
   |refine CA ?_|refine an ?_ ?_|(intro Z;try simp at Z))
  exact DB rfl qA
def pn (y m d:Int) (h mi s:Int):MB {i:Int//1<=i/\i<=m+1}where
 F i:=[(3, .u (I h)),(4, .u (I mi)),(5, .u (I s)),(6, .u (I 0)),(16, .u (.p 1 0)),(17, .u (I m)),(18, .u (I y)),(19, .u (I (before y+GB (lp y) i.1+d-1))),(20, .u (I i.1))]
 H i:=[(1,some (.st (A [0,0])))]
 n i:=2
theorem EN (y m d h mi s:Int) (hy:1<=y/\y<=20000) (hm:1<=m/\m<=5000) (hd: -1000<=d/\d<=1000000) (hh:0<=h/\h<=1000000) (HU:0<=mi/\mi<=1000000) (hs:0<=s/\s<=1000000):Fn prog 80 [I y,I m,I d,I h,I mi,I s,I 0, .agg []] [] 0 (Tm (KD y m d*86400+h*3600+mi*60+s)) [] 0:=by
 have hbr:=wV (y:=y+(m-1)/12) O
 have fO:=tB (y+(m-1)/12)
 refine fm (KA 4398063223039) func80 λw W G g=> ?_
 repeat' (first
  |refine tk ?_
  |refine cz 87 func87 (λ_=>WW _ _ O O) ?_
  |refine cz 124 func124 (λ_=>x5 _ O) ?_
  |refine CA ?_|refine an ?_ ?_|(intro Z;try simp at Z))
 refine FB (pn (y+(m-1)/12) ((m-1)%12) d h mi s) (λi=>((m-1)%12+1-i.1).toNat) ?_ ?_
 ·exact⟨⟨1,O⟩,[],U,OA.nil UA ⟨rfl,rfl,rfl,rfl,rfl,bB O,rfl,bB (by rw[lO];omega),rfl,U⟩ ⟨rfl,U⟩⟩
 ·rintro⟨i,hi⟩
  intro F H Y hF hH hn;dsimp only[pn]at hF hH hn;subst hF hH hn
  have dn:=bG (m:=i) fO
  have SK:= @OG (y+(m-1)/12) i
  repeat' (first
   |refine tk ?_
   |refine cz 86 func86 (λ_=>Ge _ _ O) ?_
   |refine cz 87 func87 (λ_=>WW 0 _ O O) ?_
   |refine CA ?_|refine an ?_ ?_|(intro Z;try simp at Z))
  ·have hc:=FL (y:=y+(m-1)/12) hi.1 O
   exact⟨⟨i+1,O⟩,[],show((m-1)%12+1- (i+1)).toNat<((m-1)%12+1-i).toNat by omega,OA.nil UA ⟨rfl,rfl,rfl,rfl,rfl,rfl,rfl,bB (show before (y+(m-1)/12)+GB (lp (y+(m-1)/12)) i+d-1+fB (y+(m-1)/12) i=before (y+(m-1)/12)+GB (lp (y+(m-1)/12)) (i+1)+d-1 by omega),rfl,U⟩ ⟨rfl,U⟩⟩
  ·have he:i=(m-1)%12+1:=O
   refine iF ?_ qA
   subst he
   unfold KD NA
   simp only[Int.zero_ediv,Int.add_zero,Int.zero_mul,Int.sub_zero]
   rfl
theorem qn (t i:Int) (h:0<=t/\t<=500000000000) (hi:0<=i/\i<=100000):Fn prog 144 [Tm t,I 0,I 0,I i] [] 0 (Tm (t+i*86400)) [] 0:=by
 have JH:=vY (n:=t/86400) O
 have eO:oA (t/86400)<=20000:=by have:= @OJ (t/86400) 20000 (by unfold before;omega);omega
 have DG:=CW (t/86400)
 have ZD:=mM (t/86400)
 have SK:= @OG (oA (t/86400)) (KB (t/86400))
 refine fm (KA 32543) func144 λw W G g=> ?_
 repeat' (first
  |refine tk ?_
  |refine cz 44 func44 (λ_=>oR _ _ O) ?_
  |refine cz 45 func45 (λ_=>CQ _ _ O) ?_
  |refine cz 80 func80 (λ_=>EN _ _ _ _ _ _ O O O O O O) ?_
  |refine CA ?_|refine an ?_ ?_|(intro Z;try simp at Z))
 refine iF ?_ qA
 refine congrArg Tm ?_
 have:=iP (t/86400)
 rw[Int.add_zero,Int.add_zero,XK DG,A2,this]
 have e:t%86400/60/60=t%86400/3600:=by rw[Int.ediv_ediv];simp
 omega
theorem VZ (m y:Int) (hm:1<=m/\m<=12) (hy:1<=y/\y<=15000):Fn prog 150 [I m,I y] [] 0 (I (fB y m)) [] 0:=by
 have SK:= @OG y m
 have hz:=x1 (y:=y) hm
 have hn:=ik (y:=y) (m:=m) (d:=fB y m) O O O
 have Z:=VN (y:=y) (z:=15000) O
 have dn:=bG (m:=m) (tB y)
 have lH:before 15000<=5480000:=by decide
 have OT:NA y m (fB y m)<=5490000:=by unfold NA;omega
 refine fm (KA 19) func150 λw W G g=> ?_
 repeat' (first
  |refine tk ?_
  |refine cz 69 func69 (λ_=>GU) ?_
  |refine cz 80 func80 (λ_=>EN y (m+1) 0 0 0 0 O O O O O O) ?_
  |refine cz 76 func76 (λ_=>Je _ _ (by rw[hz];omega)) ?_
  |refine CA ?_|refine an ?_ ?_|(intro Z;try simp at Z))
 refine DB ?_ qA
 rw[show(KD y (m+1) 0*86400+0*3600+0*60+0)/86400=KD y (m+1) 0 by omega,hz,(dN hm ⟨O,Int.le_refl _⟩).2.2.2];rfl
theorem cA.N {C:Cx} {f:Nat} {eB:List SV} {H:HS} {Y:Nat} {c0:Bool} {k:QD->Prop} {fn:Func} {zC:List SV} {H0:HS} {n0 len es:Nat} {e:TypeId} {zs:List Int} (M:List Nat) (hf:prog.funcs[f]? =some fn) (hP:C.P=prog) (Z:fn.body.isNone=false)
  (h:c0=true->Fn prog f zC H0 n0 (.s n0 0 len) [(n0,some (.X es e (A zs)))] (n0+1)) (ho:iC H0=[]) (dB:MI M H0 n0 (n0+1) Y=true) (YC:eB=YA (mp M n0 (n0+1) Y) zC) (hH:c0=true->NI (mp M n0 (n0+1) Y) H H0) (hk:k ⟨.s Y 0 len,[(Y,some (.X es e (A zs)))],Y+2,M⟩):cA C f eB H Y c0 k:=by
 have D:mp M n0 (n0+1) Y n0=Y:=by simp[mp]
 refine cA.F M hf hP Z h dB YC hH (s:= .s Y 0 len) (by simp only[SV.IB,D]) (wh:=[(Y,some (.X es e (A zs)))]) (by simp[ED,ho,D,WA,lD,DA.IB]) ?_
 rw[show Y+(n0+1-n0)+1=Y+2 by omega];exact hk
theorem XJ {sB l:List Int} {n m:Nat} (hn:n=sB.length) (hm:m=l.length):(A sB).take (n*1)++((A l).drop 0).take (m*1)=A (sB++l):=by
 subst hn hm
 rw[<-jP,Nat.mul_one,Nat.mul_one,List.drop_zero,List.take_of_length_le (by rw[JD];exact qA),List.take_of_length_le (by rw[JD];exact qA)]
def rn (v c:Int):MB {i:Nat//(i:Int)<=c}where
 F i:=[(0, .u (I v)),(1, .u (I c)),(5, .u (.s 0 0 i.1)),(6, .u (I i.1))]
 H i:=[(0,some (.X 1 3 (A (List.replicate i.1 v))))]
 n i:=1
theorem A6 (v c:Int) (h:0<=c/\c<=1000):Fn prog 137 [I v,I c] [] 0 (.s 0 0 c.toNat) [(0,some (.X 1 3 (A (List.replicate c.toNat v))))] 1:=by
 refine fm (KA 1139) func137 λw W G g=> ?_
 repeat' (first
  |refine tk ?_
  |refine CA ?_|refine an ?_ ?_|(intro Z;try simp at Z))
 refine FB (rn v c) (λi=>(c-i.1).toNat) ?_ ?_
 ·exact⟨⟨0,O⟩,[],U,OA.nil UA ⟨rfl,rfl,rfl,rfl,U⟩ ⟨gA rfl rfl,U⟩⟩
 ·rintro⟨i,hi⟩
  intro F H Y hF hH hn;dsimp only[rn]at hF hH hn;subst hF hH hn
  repeat' (first
   |refine tk ?_
   |refine⟨by simp[JD,rC],wE,O,xE,λ_=>⟨by show _*8<=_;omega,by simp only[maxLen];omega⟩,?_⟩
   |refine CA ?_|refine an ?_ ?_|(intro Z;try simp at Z))
  ·exact⟨⟨i+1,O⟩,[(0,2)],show(c- ((i+1:Nat):Int)).toNat<(c-i).toNat by omega,OA.names [(0,2)] UA rfl rfl ⟨rfl,rfl,rfl,rfl,U⟩ ⟨gA rfl (by rw[List.replicate_succ'];exact XJ (l:=[v]) (by simp) rfl),U⟩⟩
  ·have e:c.toNat=i:=O
   exact⟨[],OA.nil UA ⟨nC e.symm,U⟩ ⟨gA rfl (by rw[e]),U⟩⟩
def tn (s e:Int):MB {i:Nat//s+i<=e}where
 F i:=[(1, .u (I e)),(5, .u (.s 0 0 i.1)),(6, .u (I (s+i.1)))]
 H i:=[(0,some (.X 1 3 (A (eC s i.1))))]
 n i:=1
theorem vn (s e:Int) (h: -1000<=s/\s<=e/\e<=1000):Fn prog 138 [I s,I e] [] 0 (.s 0 0 (e-s).toNat) [(0,some (.X 1 3 (A (eC s (e-s).toNat))))] 1:=by
 refine fm (KA 2163) func138 λw W G g=> ?_
 repeat' (first
  |refine tk ?_
  |refine CA ?_|refine an ?_ ?_|(intro Z;try simp at Z))
 refine FB (tn s e) (λi=>(e-s-i.1).toNat) ?_ ?_
 ·exact⟨⟨0,O⟩,[],U,OA.nil UA ⟨rfl,rfl,bB (show s=s+0 by omega),U⟩ ⟨gA rfl rfl,U⟩⟩
 ·rintro⟨i,hi⟩
  intro F H Y hF hH hn;dsimp only[tn]at hF hH hn;subst hF hH hn
  have hl:=yc s i
  repeat' (first
   |refine tk ?_
   |refine⟨by simp[JD,rC],wE,O,xE,λ_=>⟨by show _*8<=_;omega,by simp only[maxLen];omega⟩,?_⟩
   |refine CA ?_|refine an ?_ ?_|(intro Z;try simp at Z))
  ·exact⟨⟨i+1,O⟩,[(0,2)],show(e-s- ((i+1:Nat):Int)).toNat<(e-s-i).toNat by omega,OA.names [(0,2)] UA rfl rfl ⟨rfl,rfl,bB (show s+i+1=s+((i+1:Nat):Int)by omega),U⟩ ⟨gA rfl (by rw[ql];exact XJ (l:=[s+i]) hl.symm rfl),U⟩⟩
  ·have e':(e-s).toNat=i:=O
   exact⟨[],OA.nil UA ⟨nC e'.symm,U⟩ ⟨gA rfl (by rw[e']),U⟩⟩
def xn (zs:List Int) (a:Nat):HS:=[(0,some (.ro [.s 1 0 a, .s 1 (a+1) (zs.length- (a+1))])),(1,some (.ro (A zs)))]
def OL (zs:List Int) (a:Nat) (i:Nat):List Int:=([zs.take a,zs.drop (a+1)].take i).flatten
def WZ (zs:List Int) (a:Nat):MB {i:Nat//i<=2}where
 F i:=[(3, .u (.s 2 0 (OL zs a i.1).length)),(7, .u (.s 0 0 2)),(8, .u (I 2)),(9, .u (I i.1))]
 H i:=xn zs a++[(2,some (.X 1 3 (A (OL zs a i.1))))]
 n i:=3
theorem Le (zs:List Int) (a:Nat) (h:0<a/\a+1<zs.length/\zs.length<=1000):Fn prog 136 [.s 0 0 2] (xn zs a) 2 (.s 2 0 (zs.length-1)) [(2,some (.X 1 3 (A (yL zs a))))] 3:=by
 refine fm (KA 1965) func136 λw W G g=> ?_
 repeat' (first
  |refine tk ?_
  |refine CA ?_|refine an ?_ ?_|(intro Z;try simp at Z))
 refine FB (WZ zs a) (λi=>2-i.1) ?_ ?_
 ·exact⟨⟨0,O⟩,[],U,OA.nil UA ⟨rfl,rfl,rfl,rfl,U⟩ ⟨⟨_,[],rfl,rfl⟩,HA,gA rfl rfl,U⟩⟩
 ·rintro⟨i,hi⟩
  have l0:(OL zs a 0).length=0:=rfl
  have l1:(OL zs a 1).length=a:=by simp[OL];omega
  have l2:(OL zs a 2).length=zs.length-1:=by simp[OL];omega
  rcases(by omega:i=0\/i=1\/i=2)with rfl|rfl|rfl
  ·skip
   intro F H Y hF hH hn;dsimp only[WZ]at hF hH hn;subst hF hH hn
   repeat' (first
    |refine tk ?_
    |refine And.intro (λZ=> ?_) CJ
    |refine⟨by simp[JD,rC],wE,O,xE,λ_=>⟨by show _*8<=_;omega,by simp only[maxLen];omega⟩,?_⟩
    |refine CA ?_|refine an ?_ ?_|(intro Z;try simp at Z))
   exact⟨⟨1,O⟩,[(2,3)],show 2-1<2-0 by omega,OA.names [(2,3)] UA rfl rfl ⟨nC (show _=(OL zs a 1).length by rw[l1,l0];omega),rfl,rfl,rfl,U⟩ ⟨⟨_,[],rfl,rfl⟩,HA,gA rfl (show _=A (OL zs a 1)by simp[OL,DA.cells,A,List.map_take]),U⟩⟩
  ·skip
   intro F H Y hF hH hn;dsimp only[WZ]at hF hH hn;subst hF hH hn
   repeat' (first
    |refine tk ?_
    |refine And.intro (λZ=> ?_) CJ
    |refine⟨by simp[JD,rC],wE,O,xE,λ_=>⟨by show _*8<=_;omega,by simp only[maxLen];omega⟩,?_⟩
    |refine CA ?_|refine an ?_ ?_|(intro Z;try simp at Z))
   exact⟨⟨2,O⟩,[(2,3)],show 2-2<2-1 by omega,OA.names [(2,3)] UA rfl rfl ⟨nC (show _=(OL zs a 2).length by rw[l1,l2];omega),rfl,rfl,rfl,U⟩ ⟨⟨_,[],rfl,rfl⟩,HA,gA rfl (show _=A (OL zs a 2)by rw[l1,List.take_of_length_le (by rw[JD,l1];omega)];simp[OL,DA.cells,A,List.map_take,List.map_drop];exact List.take_of_length_le (by simp)),U⟩⟩
  ·skip
   intro F H Y hF hH hn;dsimp only[WZ]at hF hH hn;subst hF hH hn
   repeat' (first
    |refine tk ?_
    |refine And.intro CJ (λZ=> ?_)
    |refine CA ?_|refine an ?_ ?_|(intro Z;try simp at Z))
   exact⟨[],OA.nil UA ⟨nC l2,U⟩ ⟨gA rfl rfl,U⟩⟩
def yn (p0 p1 p2 p3 p4 p5 p6 p7 p8 p9 ZC aC bC:List Int):HS:=[(0,some (.ro [.s 1 0 p0.length, .s 2 0 p1.length, .s 3 0 p2.length, .s 4 0 p3.length, .s 5 0 p4.length, .s 6 0 p5.length, .s 7 0 p6.length, .s 8 0 p7.length, .s 9 0 p8.length, .s 10 0 p9.length, .s 11 0 ZC.length, .s 12 0 aC.length, .s 13 0 bC.length])),
 (1,some (.ro (A p0))),(2,some (.ro (A p1))),(3,some (.ro (A p2))),(4,some (.ro (A p3))),(5,some (.ro (A p4))),(6,some (.ro (A p5))),(7,some (.ro (A p6))),(8,some (.ro (A p7))),(9,some (.ro (A p8))),(10,some (.ro (A p9))),(11,some (.ro (A ZC))),(12,some (.ro (A aC))),(13,some (.ro (A bC)))]
def EE (ps:List (List Int)) (i:Nat):List Int:=(ps.take i).flatten
theorem zn:∀(ps:List (List Int)) (i:Nat),(∀p∈ps,0<p.length/\p.length<=100)->(EE ps i).length<=100*i
 |[],i,h=>by simp[EE]
 |p::r,0,h=>by simp[EE]
 |p::r,i+1,h=>by
  have D:=zn r i (λq hq=>h q (List.mem_cons_of_mem _ hq))
  have h2:=h p List.mem_cons_self
  simp only[EE,List.take_succ_cons,List.flatten_cons,List.length_append]at D⊢
  omega
theorem PL {ps:List (List Int)} {i:Nat} {p:List Int} (h:ps[i]? =some p):EE ps (i+1)=EE ps i++p:=by
 have hi:=(List.getElem?_eq_some_iff.1 h).1
 have he:=(List.getElem?_eq_some_iff.1 h).2
 simp only[EE]
 rw[List.take_succ_eq_append_getElem hi,List.flatten_append,he];simp
def AK (p0 p1 p2 p3 p4 p5 p6 p7 p8 p9 ZC aC bC:List Int):MB {i:Nat//i<=13}where
 F i:=[(3, .u (.s 14 0 (EE [p0,p1,p2,p3,p4,p5,p6,p7,p8,p9,ZC,aC,bC] i.1).length)),(7, .u (.s 0 0 13)),(8, .u (I 13)),(9, .u (I i.1))]
 H i:=yn p0 p1 p2 p3 p4 p5 p6 p7 p8 p9 ZC aC bC++[(14,some (.X 1 3 (A (EE [p0,p1,p2,p3,p4,p5,p6,p7,p8,p9,ZC,aC,bC] i.1))))]
 n i:=15
theorem Me (p0 p1 p2 p3 p4 p5 p6 p7 p8 p9 ZC aC bC:List Int) (h:∀p∈[p0,p1,p2,p3,p4,p5,p6,p7,p8,p9,ZC,aC,bC],0<p.length/\p.length<=100):
  Fn prog 136 [.s 0 0 13] (yn p0 p1 p2 p3 p4 p5 p6 p7 p8 p9 ZC aC bC) 14 (.s 14 0 [p0,p1,p2,p3,p4,p5,p6,p7,p8,p9,ZC,aC,bC].flatten.length) [(14,some (.X 1 3 (A [p0,p1,p2,p3,p4,p5,p6,p7,p8,p9,ZC,aC,bC].flatten)))] 15:=by
 refine fm (KA 1965) func136 λw W G g=> ?_
 repeat' (first
  |refine tk ?_
  |refine CA ?_|refine an ?_ ?_|(intro Z;try simp at Z))
 refine FB (AK p0 p1 p2 p3 p4 p5 p6 p7 p8 p9 ZC aC bC) (λi=>13-i.1) ?_ ?_
 ·exact⟨⟨0,O⟩,[],U,OA.nil UA ⟨rfl,rfl,rfl,rfl,U⟩ ⟨⟨_,[],rfl,rfl⟩,HA,HA,HA,HA,HA,HA,HA,HA,HA,HA,HA,HA,HA,gA rfl rfl,U⟩⟩
 ·rintro⟨i,hi⟩
  have hlen:=zn [p0,p1,p2,p3,p4,p5,p6,p7,p8,p9,ZC,aC,bC] i h
  have hp:∀(j:Nat) (p:List Int),[p0,p1,p2,p3,p4,p5,p6,p7,p8,p9,ZC,aC,bC][j]? =some p->0<p.length/\p.length<=100:=λj p e=>h p (List.mem_of_getElem? e)
  rcases(by omega:i=0\/i=1\/i=2\/i=3\/i=4\/i=5\/i=6\/i=7\/i=8\/i=9\/i=10\/i=11\/i=12\/i=13)with rfl|rfl|rfl|rfl|rfl|rfl|rfl|rfl|rfl|rfl|rfl|rfl|rfl|rfl
  ·have hq:=hp 0 p0 rfl
   have hs:=PL (ps:=[p0,p1,p2,p3,p4,p5,p6,p7,p8,p9,ZC,aC,bC]) (i:=0) (p:=p0) rfl
   intro F H Y hF hH hn;dsimp only[AK]at hF hH hn;subst hF hH hn
   repeat' (first
    |refine tk ?_
    |refine And.intro (λZ=> ?_) CJ
    |refine⟨by simp[JD,rC],wE,O,xE,λ_=>⟨by show _*8<=_;omega,by simp only[maxLen];omega⟩,?_⟩
    |refine CA ?_|refine an ?_ ?_|(intro Z;try simp at Z))
   exact⟨⟨1,O⟩,[(14,15)],show 13-1<13-0 by omega,OA.names [(14,15)] UA rfl rfl ⟨nC (show _=(EE [p0,p1,p2,p3,p4,p5,p6,p7,p8,p9,ZC,aC,bC] 1).length by rw[hs,List.length_append]),rfl,rfl,rfl,U⟩ ⟨⟨_,[],rfl,rfl⟩,HA,HA,HA,HA,HA,HA,HA,HA,HA,HA,HA,HA,HA,gA rfl (show _=A (EE [p0,p1,p2,p3,p4,p5,p6,p7,p8,p9,ZC,aC,bC] 1)by rw[hs];exact XJ rfl rfl),U⟩⟩
  ·have hq:=hp 1 p1 rfl
   have hs:=PL (ps:=[p0,p1,p2,p3,p4,p5,p6,p7,p8,p9,ZC,aC,bC]) (i:=1) (p:=p1) rfl
   intro F H Y hF hH hn;dsimp only[AK]at hF hH hn;subst hF hH hn
   repeat' (first
    |refine tk ?_
    |refine And.intro (λZ=> ?_) CJ
    |refine⟨by simp[JD,rC],wE,O,xE,λ_=>⟨by show _*8<=_;omega,by simp only[maxLen];omega⟩,?_⟩
    |refine CA ?_|refine an ?_ ?_|(intro Z;try simp at Z))
   exact⟨⟨2,O⟩,[(14,15)],show 13-2<13-1 by omega,OA.names [(14,15)] UA rfl rfl ⟨nC (show _=(EE [p0,p1,p2,p3,p4,p5,p6,p7,p8,p9,ZC,aC,bC] 2).length by rw[hs,List.length_append]),rfl,rfl,rfl,U⟩ ⟨⟨_,[],rfl,rfl⟩,HA,HA,HA,HA,HA,HA,HA,HA,HA,HA,HA,HA,HA,gA rfl (show _=A (EE [p0,p1,p2,p3,p4,p5,p6,p7,p8,p9,ZC,aC,bC] 2)by rw[hs];exact XJ rfl rfl),U⟩⟩
  ·have hq:=hp 2 p2 rfl
   have hs:=PL (ps:=[p0,p1,p2,p3,p4,p5,p6,p7,p8,p9,ZC,aC,bC]) (i:=2) (p:=p2) rfl
   intro F H Y hF hH hn;dsimp only[AK]at hF hH hn;subst hF hH hn
   repeat' (first
    |refine tk ?_
    |refine And.intro (λZ=> ?_) CJ
    |refine⟨by simp[JD,rC],wE,O,xE,λ_=>⟨by show _*8<=_;omega,by simp only[maxLen];omega⟩,?_⟩
    |refine CA ?_|refine an ?_ ?_|(intro Z;try simp at Z))
   exact⟨⟨3,O⟩,[(14,15)],show 13-3<13-2 by omega,OA.names [(14,15)] UA rfl rfl ⟨nC (show _=(EE [p0,p1,p2,p3,p4,p5,p6,p7,p8,p9,ZC,aC,bC] 3).length by rw[hs,List.length_append]),rfl,rfl,rfl,U⟩ ⟨⟨_,[],rfl,rfl⟩,HA,HA,HA,HA,HA,HA,HA,HA,HA,HA,HA,HA,HA,gA rfl (show _=A (EE [p0,p1,p2,p3,p4,p5,p6,p7,p8,p9,ZC,aC,bC] 3)by rw[hs];exact XJ rfl rfl),U⟩⟩
  ·have hq:=hp 3 p3 rfl
   have hs:=PL (ps:=[p0,p1,p2,p3,p4,p5,p6,p7,p8,p9,ZC,aC,bC]) (i:=3) (p:=p3) rfl
   intro F H Y hF hH hn;dsimp only[AK]at hF hH hn;subst hF hH hn
   repeat' (first
    |refine tk ?_
    |refine And.intro (λZ=> ?_) CJ
    |refine⟨by simp[JD,rC],wE,O,xE,λ_=>⟨by show _*8<=_;omega,by simp only[maxLen];omega⟩,?_⟩
    |refine CA ?_|refine an ?_ ?_|(intro Z;try simp at Z))
   exact⟨⟨4,O⟩,[(14,15)],show 13-4<13-3 by omega,OA.names [(14,15)] UA rfl rfl ⟨nC (show _=(EE [p0,p1,p2,p3,p4,p5,p6,p7,p8,p9,ZC,aC,bC] 4).length by rw[hs,List.length_append]),rfl,rfl,rfl,U⟩ ⟨⟨_,[],rfl,rfl⟩,HA,HA,HA,HA,HA,HA,HA,HA,HA,HA,HA,HA,HA,gA rfl (show _=A (EE [p0,p1,p2,p3,p4,p5,p6,p7,p8,p9,ZC,aC,bC] 4)by rw[hs];exact XJ rfl rfl),U⟩⟩
  ·have hq:=hp 4 p4 rfl
   have hs:=PL (ps:=[p0,p1,p2,p3,p4,p5,p6,p7,p8,p9,ZC,aC,bC]) (i:=4) (p:=p4) rfl
   intro F H Y hF hH hn;dsimp only[AK]at hF hH hn;subst hF hH hn
   repeat' (first
    |refine tk ?_
    |refine And.intro (λZ=> ?_) CJ
    |refine⟨by simp[JD,rC],wE,O,xE,λ_=>⟨by show _*8<=_;omega,by simp only[maxLen];omega⟩,?_⟩
    |refine CA ?_|refine an ?_ ?_|(intro Z;try simp at Z))
   exact⟨⟨5,O⟩,[(14,15)],show 13-5<13-4 by omega,OA.names [(14,15)] UA rfl rfl ⟨nC (show _=(EE [p0,p1,p2,p3,p4,p5,p6,p7,p8,p9,ZC,aC,bC] 5).length by rw[hs,List.length_append]),rfl,rfl,rfl,U⟩ ⟨⟨_,[],rfl,rfl⟩,HA,HA,HA,HA,HA,HA,HA,HA,HA,HA,HA,HA,HA,gA rfl (show _=A (EE [p0,p1,p2,p3,p4,p5,p6,p7,p8,p9,ZC,aC,bC] 5)by rw[hs];exact XJ rfl rfl),U⟩⟩
  ·have hq:=hp 5 p5 rfl
   have hs:=PL (ps:=[p0,p1,p2,p3,p4,p5,p6,p7,p8,p9,ZC,aC,bC]) (i:=5) (p:=p5) rfl
   intro F H Y hF hH hn;dsimp only[AK]at hF hH hn;subst hF hH hn
   repeat' (first
    |refine tk ?_
    |refine And.intro (λZ=> ?_) CJ
    |refine⟨by simp[JD,rC],wE,O,xE,λ_=>⟨by show _*8<=_;omega,by simp only[maxLen];omega⟩,?_⟩
    |refine CA ?_|refine an ?_ ?_|(intro Z;try simp at Z))
   exact⟨⟨6,O⟩,[(14,15)],show 13-6<13-5 by omega,OA.names [(14,15)] UA rfl rfl ⟨nC (show _=(EE [p0,p1,p2,p3,p4,p5,p6,p7,p8,p9,ZC,aC,bC] 6).length by rw[hs,List.length_append]),rfl,rfl,rfl,U⟩ ⟨⟨_,[],rfl,rfl⟩,HA,HA,HA,HA,HA,HA,HA,HA,HA,HA,HA,HA,HA,gA rfl (show _=A (EE [p0,p1,p2,p3,p4,p5,p6,p7,p8,p9,ZC,aC,bC] 6)by rw[hs];exact XJ rfl rfl),U⟩⟩
  ·have hq:=hp 6 p6 rfl
   have hs:=PL (ps:=[p0,p1,p2,p3,p4,p5,p6,p7,p8,p9,ZC,aC,bC]) (i:=6) (p:=p6) rfl
   intro F H Y hF hH hn;dsimp only[AK]at hF hH hn;subst hF hH hn
   repeat' (first
    |refine tk ?_
    |refine And.intro (λZ=> ?_) CJ
    |refine⟨by simp[JD,rC],wE,O,xE,λ_=>⟨by show _*8<=_;omega,by simp only[maxLen];omega⟩,?_⟩
    |refine CA ?_|refine an ?_ ?_|(intro Z;try simp at Z))
   exact⟨⟨7,O⟩,[(14,15)],show 13-7<13-6 by omega,OA.names [(14,15)] UA rfl rfl ⟨nC (show _=(EE [p0,p1,p2,p3,p4,p5,p6,p7,p8,p9,ZC,aC,bC] 7).length by rw[hs,List.length_append]),rfl,rfl,rfl,U⟩ ⟨⟨_,[],rfl,rfl⟩,HA,HA,HA,HA,HA,HA,HA,HA,HA,HA,HA,HA,HA,gA rfl (show _=A (EE [p0,p1,p2,p3,p4,p5,p6,p7,p8,p9,ZC,aC,bC] 7)by rw[hs];exact XJ rfl rfl),U⟩⟩
  ·have hq:=hp 7 p7 rfl
   have hs:=PL (ps:=[p0,p1,p2,p3,p4,p5,p6,p7,p8,p9,ZC,aC,bC]) (i:=7) (p:=p7) rfl
   intro F H Y hF hH hn;dsimp only[AK]at hF hH hn;subst hF hH hn
   repeat' (first
    |refine tk ?_
    |refine And.intro (λZ=> ?_) CJ
    |refine⟨by simp[JD,rC],wE,O,xE,λ_=>⟨by show _*8<=_;omega,by simp only[maxLen];omega⟩,?_⟩
    |refine CA ?_|refine an ?_ ?_|(intro Z;try simp at Z))
   exact⟨⟨8,O⟩,[(14,15)],show 13-8<13-7 by omega,OA.names [(14,15)] UA rfl rfl ⟨nC (show _=(EE [p0,p1,p2,p3,p4,p5,p6,p7,p8,p9,ZC,aC,bC] 8).length by rw[hs,List.length_append]),rfl,rfl,rfl,U⟩ ⟨⟨_,[],rfl,rfl⟩,HA,HA,HA,HA,HA,HA,HA,HA,HA,HA,HA,HA,HA,gA rfl (show _=A (EE [p0,p1,p2,p3,p4,p5,p6,p7,p8,p9,ZC,aC,bC] 8)by rw[hs];exact XJ rfl rfl),U⟩⟩
  ·have hq:=hp 8 p8 rfl
   have hs:=PL (ps:=[p0,p1,p2,p3,p4,p5,p6,p7,p8,p9,ZC,aC,bC]) (i:=8) (p:=p8) rfl
   intro F H Y hF hH hn;dsimp only[AK]at hF hH hn;subst hF hH hn
   repeat' (first
    |refine tk ?_
    |refine And.intro (λZ=> ?_) CJ
    |refine⟨by simp[JD,rC],wE,O,xE,λ_=>⟨by show _*8<=_;omega,by simp only[maxLen];omega⟩,?_⟩
    |refine CA ?_|refine an ?_ ?_|(intro Z;try simp at Z))
   exact⟨⟨9,O⟩,[(14,15)],show 13-9<13-8 by omega,OA.names [(14,15)] UA rfl rfl ⟨nC (show _=(EE [p0,p1,p2,p3,p4,p5,p6,p7,p8,p9,ZC,aC,bC] 9).length by rw[hs,List.length_append]),rfl,rfl,rfl,U⟩ ⟨⟨_,[],rfl,rfl⟩,HA,HA,HA,HA,HA,HA,HA,HA,HA,HA,HA,HA,HA,gA rfl (show _=A (EE [p0,p1,p2,p3,p4,p5,p6,p7,p8,p9,ZC,aC,bC] 9)by rw[hs];exact XJ rfl rfl),U⟩⟩
  ·have hq:=hp 9 p9 rfl
   have hs:=PL (ps:=[p0,p1,p2,p3,p4,p5,p6,p7,p8,p9,ZC,aC,bC]) (i:=9) (p:=p9) rfl
   intro F H Y hF hH hn;dsimp only[AK]at hF hH hn;subst hF hH hn
   repeat' (first
    |refine tk ?_
    |refine And.intro (λZ=> ?_) CJ
    |refine⟨by simp[JD,rC],wE,O,xE,λ_=>⟨by show _*8<=_;omega,by simp only[maxLen];omega⟩,?_⟩
    |refine CA ?_|refine an ?_ ?_|(intro Z;try simp at Z))
   exact⟨⟨10,O⟩,[(14,15)],show 13-10<13-9 by omega,OA.names [(14,15)] UA rfl rfl ⟨nC (show _=(EE [p0,p1,p2,p3,p4,p5,p6,p7,p8,p9,ZC,aC,bC] 10).length by rw[hs,List.length_append]),rfl,rfl,rfl,U⟩ ⟨⟨_,[],rfl,rfl⟩,HA,HA,HA,HA,HA,HA,HA,HA,HA,HA,HA,HA,HA,gA rfl (show _=A (EE [p0,p1,p2,p3,p4,p5,p6,p7,p8,p9,ZC,aC,bC] 10)by rw[hs];exact XJ rfl rfl),U⟩⟩
  ·have hq:=hp 10 ZC rfl
   have hs:=PL (ps:=[p0,p1,p2,p3,p4,p5,p6,p7,p8,p9,ZC,aC,bC]) (i:=10) (p:=ZC) rfl
   intro F H Y hF hH hn;dsimp only[AK]at hF hH hn;subst hF hH hn
   repeat' (first
    |refine tk ?_
    |refine And.intro (λZ=> ?_) CJ
    |refine⟨by simp[JD,rC],wE,O,xE,λ_=>⟨by show _*8<=_;omega,by simp only[maxLen];omega⟩,?_⟩
    |refine CA ?_|refine an ?_ ?_|(intro Z;try simp at Z))
   exact⟨⟨11,O⟩,[(14,15)],show 13-11<13-10 by omega,OA.names [(14,15)] UA rfl rfl ⟨nC (show _=(EE [p0,p1,p2,p3,p4,p5,p6,p7,p8,p9,ZC,aC,bC] 11).length by rw[hs,List.length_append]),rfl,rfl,rfl,U⟩ ⟨⟨_,[],rfl,rfl⟩,HA,HA,HA,HA,HA,HA,HA,HA,HA,HA,HA,HA,HA,gA rfl (show _=A (EE [p0,p1,p2,p3,p4,p5,p6,p7,p8,p9,ZC,aC,bC] 11)by rw[hs];exact XJ rfl rfl),U⟩⟩
  ·have hq:=hp 11 aC rfl
   have hs:=PL (ps:=[p0,p1,p2,p3,p4,p5,p6,p7,p8,p9,ZC,aC,bC]) (i:=11) (p:=aC) rfl
   intro F H Y hF hH hn;dsimp only[AK]at hF hH hn;subst hF hH hn
   repeat' (first
    |refine tk ?_
    |refine And.intro (λZ=> ?_) CJ
    |refine⟨by simp[JD,rC],wE,O,xE,λ_=>⟨by show _*8<=_;omega,by simp only[maxLen];omega⟩,?_⟩
    |refine CA ?_|refine an ?_ ?_|(intro Z;try simp at Z))
   exact⟨⟨12,O⟩,[(14,15)],show 13-12<13-11 by omega,OA.names [(14,15)] UA rfl rfl ⟨nC (show _=(EE [p0,p1,p2,p3,p4,p5,p6,p7,p8,p9,ZC,aC,bC] 12).length by rw[hs,List.length_append]),rfl,rfl,rfl,U⟩ ⟨⟨_,[],rfl,rfl⟩,HA,HA,HA,HA,HA,HA,HA,HA,HA,HA,HA,HA,HA,gA rfl (show _=A (EE [p0,p1,p2,p3,p4,p5,p6,p7,p8,p9,ZC,aC,bC] 12)by rw[hs];exact XJ rfl rfl),U⟩⟩
  ·have hq:=hp 12 bC rfl
   have hs:=PL (ps:=[p0,p1,p2,p3,p4,p5,p6,p7,p8,p9,ZC,aC,bC]) (i:=12) (p:=bC) rfl
   intro F H Y hF hH hn;dsimp only[AK]at hF hH hn;subst hF hH hn
   repeat' (first
    |refine tk ?_
    |refine And.intro (λZ=> ?_) CJ
    |refine⟨by simp[JD,rC],wE,O,xE,λ_=>⟨by show _*8<=_;omega,by simp only[maxLen];omega⟩,?_⟩
    |refine CA ?_|refine an ?_ ?_|(intro Z;try simp at Z))
   exact⟨⟨13,O⟩,[(14,15)],show 13-13<13-12 by omega,OA.names [(14,15)] UA rfl rfl ⟨nC (show _=(EE [p0,p1,p2,p3,p4,p5,p6,p7,p8,p9,ZC,aC,bC] 13).length by rw[hs,List.length_append]),rfl,rfl,rfl,U⟩ ⟨⟨_,[],rfl,rfl⟩,HA,HA,HA,HA,HA,HA,HA,HA,HA,HA,HA,HA,HA,gA rfl (show _=A (EE [p0,p1,p2,p3,p4,p5,p6,p7,p8,p9,ZC,aC,bC] 13)by rw[hs];exact XJ rfl rfl),U⟩⟩
  ·skip
   intro F H Y hF hH hn;dsimp only[AK]at hF hH hn;subst hF hH hn
   repeat' (first
    |refine tk ?_
    |refine And.intro CJ (λZ=> ?_)
    |refine CA ?_|refine an ?_ ?_|(intro Z;try simp at Z))
   have he:EE [p0,p1,p2,p3,p4,p5,p6,p7,p8,p9,ZC,aC,bC] 13=([p0,p1,p2,p3,p4,p5,p6,p7,p8,p9,ZC,aC,bC]:List (List Int)).flatten:=rfl
   exact⟨[],OA.nil UA ⟨nC (by rw[he]),U⟩ ⟨gA rfl (by rw[he]),U⟩⟩
theorem Ao:Fn prog 94 [] [] 0 (.s 0 0 373) [(0,some (.X 1 3 (A sP)))] 1:=by
 refine fm (KA 1) func94 λw W G g=> ?_
 repeat' (first
  |refine tk ?_
  |(refine AB 137 ?_;refine cA.N [] func137 rfl rfl (λ_=>A6 _ _ O) rfl rfl rfl (λ_=>U) ?_)
  |(refine AB 136 ?_;refine cA.N [26,0,2,4,6,8,10,12,14,16,18,20,22,24] func136 rfl rfl (λ_=>Me (List.replicate 31 1) (List.replicate 29 2) (List.replicate 31 3) (List.replicate 30 4) (List.replicate 31 5) (List.replicate 30 6) (List.replicate 31 7) (List.replicate 31 8) (List.replicate 30 9) (List.replicate 31 10) (List.replicate 30 11) (List.replicate 31 12) (List.replicate 7 1) (by simp)) rfl rfl rfl (λ_=>⟨⟨_,[],rfl,rfl⟩,mS,mS,mS,mS,mS,mS,mS,mS,mS,mS,mS,mS,mS,U⟩) ?_)
  |refine CA ?_|refine an ?_ ?_|(intro Z;try simp at Z))
 exact⟨[(0,27)],OA.names [(0,27)] UA rfl rfl ⟨nC Ad,U⟩ ⟨gA rfl rfl,U⟩⟩
theorem Bo:Fn prog 95 [] [] 0 (.s 0 0 373) [(0,some (.X 1 3 (A tP)))] 1:=by
 refine fm (KA 15) func95 λw W G g=> ?_
 repeat' (first
  |refine tk ?_
  |(refine AB 138 ?_;refine cA.N [] func138 rfl rfl (λ_=>vn _ _ O) rfl rfl rfl (λ_=>U) ?_)
  |(refine AB 136 ?_;refine cA.N [6,4,0,4,2,4,2,4,4,2,4,2,4,4] func136 rfl rfl (λ_=>Me (eC 1 31) (eC 1 29) (eC 1 31) (eC 1 30) (eC 1 31) (eC 1 30) (eC 1 31) (eC 1 31) (eC 1 30) (eC 1 31) (eC 1 30) (eC 1 31) (eC 1 7) (by simp)) rfl rfl rfl (λ_=>⟨⟨_,[],rfl,rfl⟩,mS,mS,mS,mS,mS,mS,mS,mS,mS,mS,mS,mS,⟨_,A ((eC 1 31).drop 7),rfl,by rw[kD,jP];rfl⟩,U⟩) ?_)
  |refine CA ?_|refine an ?_ ?_|(intro Z;try simp at Z))
 exact⟨[(0,7)],OA.names [(0,7)] UA rfl rfl ⟨nC Bd,U⟩ ⟨gA rfl rfl,U⟩⟩
theorem Co:Fn prog 96 [] [] 0 (.s 0 0 373) [(0,some (.X 1 3 (A uP)))] 1:=by
 refine fm (KA 15) func96 λw W G g=> ?_
 repeat' (first
  |refine tk ?_
  |(refine AB 138 ?_;refine cA.N [] func138 rfl rfl (λ_=>vn _ _ O) rfl rfl rfl (λ_=>U) ?_)
  |(refine AB 136 ?_;refine cA.N [6,4,0,4,2,4,2,4,4,2,4,2,4,4] func136 rfl rfl (λ_=>Me (eC (-31) 31) (eC (-29) 29) (eC (-31) 31) (eC (-30) 30) (eC (-31) 31) (eC (-30) 30) (eC (-31) 31) (eC (-31) 31) (eC (-30) 30) (eC (-31) 31) (eC (-30) 30) (eC (-31) 31) (eC (-31) 7) (by simp)) rfl rfl rfl (λ_=>⟨⟨_,[],rfl,rfl⟩,mS,mS,mS,mS,mS,mS,mS,mS,mS,mS,mS,mS,⟨_,A ((eC (-31) 31).drop 7),rfl,by rw[kD,jP];rfl⟩,U⟩) ?_)
  |refine CA ?_|refine an ?_ ?_|(intro Z;try simp at Z))
 exact⟨[(0,7)],OA.names [(0,7)] UA rfl rfl ⟨nC Cd,U⟩ ⟨gA rfl rfl,U⟩⟩
theorem B6:Fn prog 90 [] [] 0 (.s 0 0 372) [(0,some (.X 1 3 (A (yL sP 59))))] 1:=by
 refine fm (KA 3) func90 λw W G g=> ?_
 repeat' (first
  |refine tk ?_
  |(refine AB 94 ?_;refine cA.N [] func94 rfl rfl (λ_=>Ao) rfl rfl rfl (λ_=>U) ?_)
  |(refine AB 136 ?_;refine cA.N [2,0] func136 rfl rfl (λ_=>Le sP 59 (by rw[Ad];omega)) rfl rfl rfl (λ_=>⟨⟨_,[],rfl,rfl⟩,mS,U⟩) ?_)
  |refine CA ?_|refine an ?_ ?_|(intro Z;try simp at Z))
 exact⟨[(0,3)],OA.names [(0,3)] UA rfl rfl ⟨nC (by rw[Ad]),U⟩ ⟨gA rfl rfl,U⟩⟩
theorem C6:Fn prog 91 [] [] 0 (.s 0 0 372) [(0,some (.X 1 3 (A (yL tP 59))))] 1:=by
 refine fm (KA 3) func91 λw W G g=> ?_
 repeat' (first
  |refine tk ?_
  |(refine AB 95 ?_;refine cA.N [] func95 rfl rfl (λ_=>Bo) rfl rfl rfl (λ_=>U) ?_)
  |(refine AB 136 ?_;refine cA.N [2,0] func136 rfl rfl (λ_=>Le tP 59 (by rw[Bd];omega)) rfl rfl rfl (λ_=>⟨⟨_,[],rfl,rfl⟩,mS,U⟩) ?_)
  |refine CA ?_|refine an ?_ ?_|(intro Z;try simp at Z))
 exact⟨[(0,3)],OA.names [(0,3)] UA rfl rfl ⟨nC (by rw[Bd]),U⟩ ⟨gA rfl rfl,U⟩⟩
theorem D6:Fn prog 92 [] [] 0 (.s 0 0 372) [(0,some (.X 1 3 (A (yL uP 31))))] 1:=by
 refine fm (KA 3) func92 λw W G g=> ?_
 repeat' (first
  |refine tk ?_
  |(refine AB 96 ?_;refine cA.N [] func96 rfl rfl (λ_=>Co) rfl rfl rfl (λ_=>U) ?_)
  |(refine AB 136 ?_;refine cA.N [2,0] func136 rfl rfl (λ_=>Le uP 31 (by rw[Cd];omega)) rfl rfl rfl (λ_=>⟨⟨_,[],rfl,rfl⟩,mS,U⟩) ?_)
  |refine CA ?_|refine an ?_ ?_|(intro Z;try simp at Z))
 exact⟨[(0,3)],OA.names [(0,3)] UA rfl rfl ⟨nC (by rw[Cd]),U⟩ ⟨gA rfl rfl,U⟩⟩
theorem E6:Fn prog 97 [] [] 0 (.s 0 0 13) [(0,some (.X 1 3 (A (AG 1))))] 1:=by
 refine fm (KA 1) func97 λw W G g=> ?_
 repeat' (first
  |refine tk ?_
  |refine CA ?_|refine an ?_ ?_|(intro Z;try simp at Z))
 exact⟨[],OA.nil UA ⟨rfl,U⟩ ⟨gA rfl rfl,U⟩⟩
theorem F6:Fn prog 93 [] [] 0 (.s 0 0 13) [(0,some (.X 1 3 (A (AG 0))))] 1:=by
 refine fm (KA 1) func93 λw W G g=> ?_
 repeat' (first
  |refine tk ?_
  |refine CA ?_|refine an ?_ ?_|(intro Z;try simp at Z))
 exact⟨[],OA.nil UA ⟨rfl,U⟩ ⟨gA rfl rfl,U⟩⟩
def Eo:MB {i:Nat//i<=55}where
 F i:=[(1, .u (.s 0 0 (7*i.1))),(2, .u (I i.1))]
 H i:=[(0,some (.X 1 3 (A (JF i.1))))]
 n i:=1
theorem G6:Fn prog 89 [] [] 0 (.s 0 0 385) [(0,some (.X 1 3 (A (JF 55))))] 1:=by
 refine fm (KA 23) func89 λw W G g=> ?_
 repeat' (first
  |refine tk ?_
  |refine CA ?_|refine an ?_ ?_|(intro Z;try simp at Z))
 refine aG 1 1 3 rfl ?_
 refine FB Eo (λi=>55-i.1) ?_ ?_
 ·exact⟨⟨0,O⟩,[],U,OA.nil UA ⟨rfl,rfl,U⟩ ⟨gA rfl rfl,U⟩⟩
 ·rintro⟨i,hi⟩
  intro F H Y hF hH hn;dsimp only[Eo]at hF hH hn;subst hF hH hn
  have hl:=DW i
  repeat' (first
   |refine tk ?_
   |refine⟨by simp[JD,rC],wE,O,xE,λ_=>⟨by show _*8<=_;omega,by simp only[maxLen];omega⟩,?_⟩
   |refine CA ?_|refine an ?_ ?_|(intro Z;try simp at Z))
  ·exact⟨⟨i+1,O⟩,[(0,2)],show 55- (i+1)<55-i by omega,OA.names [(0,2)] UA rfl rfl ⟨nC (show 7*i+7=7*(i+1)by omega),rfl,U⟩ ⟨gA rfl (by rw[C2];exact XJ (l:=[0,1,2,3,4,5,6]) hl.symm rfl),U⟩⟩
  ·have e:i=55:=O
   subst e
   exact⟨[],OA.nil UA ⟨rfl,U⟩ ⟨gA rfl rfl,U⟩⟩
def Ho (zs:List Int) (x:Int):MB {i:Nat//i<=zs.length/\∀j<i,zs.getD j 0≠x}where
 F i:=[(1, .u (I x)),(7, .u (.s 0 0 zs.length)),(8, .u (I zs.length)),(9, .u (I i.1))]
 H i:=[(0,some (.ro (A zs)))]
 n i:=1
theorem Io {zs:List Int} {x:Int} (h:∀j<zs.length,zs.getD j 0≠x):zs.contains x=false:=by
 rw[Bool.eq_false_iff]
 intro e
 rw[List.contains_iff_mem]at e
 obtain⟨j,hj,e⟩:=List.getElem_of_mem e
 exact h j hj (by rw[List.getD_eq_getElem?_getD,List.getElem?_eq_getElem hj];exact e)
theorem Jo {zs:List Int} {x:Int} {j:Nat} (hj:j<zs.length) (h:zs.getD j 0=x):zs.contains x=true:=by
 rw[List.contains_iff_mem]
 rw[List.getD_eq_getElem?_getD,List.getElem?_eq_getElem hj]at h
 exact h▸List.getElem_mem hj
theorem EG (zs:List Int) (x:Int) (h:zs.length<=1000000):Fn prog 49 [.s 0 0 zs.length,I x] [(0,some (.ro (A zs)))] 1 (B (zs.contains x)) [] 1:=by
 refine fm (KA 34771) func49 λw W G g=> ?_
 repeat' (first
  |refine tk ?_
  |refine CA ?_|refine an ?_ ?_|(intro Z;try simp at Z))
 refine FB (Ho zs x) (λi=>zs.length-i.1) ?_ ?_
 ·exact⟨⟨0,O,λj hj=>absurd hj O⟩,[],U,OA.nil UA ⟨rfl,rfl,rfl,rfl,U⟩ ⟨HA,U⟩⟩
 ·rintro⟨i,hi,LC⟩
  intro F H Y hF hH hn;dsimp only[Ho]at hF hH hn;subst hF hH hn
  have e0:0+(i:Int).toNat*1=i:=O
  repeat' (first
   |refine tk ?_
   |refine CA ?_|refine an ?_ ?_|(intro Z;try simp at Z))
  ·refine DB ?_ qA
   rw[Jo (j:=i) O (by simpa using Z)];rfl
  ·refine⟨⟨i+1,O,λj hj=> ?_⟩,[],show zs.length- (i+1)<zs.length-i by omega,OA.nil UA ⟨rfl,rfl,rfl,rfl,U⟩ ⟨HA,U⟩⟩
   rcases(by omega:j<i\/j=i)with h'|h'
   ·exact LC j h'
   ·subst h';simpa using Z
  ·have e:i=zs.length:=O
   subst e
   refine DB ?_ qA
   rw[Io LC];rfl
abbrev iA (l:List Int):List SV:=xA (l.map λs=>(s,0))
theorem H6 (s t:Int):Fn prog 192 [Tm s,Tm t] [] 0 (B (s==t)) [] 0:=by
 refine fm (KA 31) func192 λw W G g=> ?_
 repeat' (first
  |refine tk ?_
  |refine⟨_,Uc (a:=s) (b:=0) (c:=t) (d:=0) Iz rfl rfl (.inl rfl) rfl rfl,?_⟩
  |refine CA ?_|refine an ?_ ?_|(intro Z;try simp at Z))
 refine DB ?_ qA
 show B _=B _
 simp
def Ko (l:List Int) (x:Int):MB {i:Nat//i<=l.length/\∀j<i,l.getD j 0≠x}where
 F i:=[(3, .u (.p 1 0)),(7, .u (.s 0 0 l.length)),(8, .u (I l.length)),(9, .u (I i.1))]
 H i:=[(0,some (.ro (iA l))),(1,some (.st (A [x,0])))]
 n i:=2
theorem DQ {l:List Int} {i:Nat} (h:i<l.length):(l.map λs=>(s,(0:Int))).getD i (0,0)=(l.getD i 0,0):=by
 rw[List.getD_eq_getElem?_getD,List.getD_eq_getElem?_getD,List.getElem?_map,List.getElem?_eq_getElem h];rfl
theorem I6 (l:List Int) (x:Int) (h:l.length<=1000000):Fn prog 146 [.s 0 0 l.length,Tm x] [(0,some (.ro (iA l)))] 1 (B (l.contains x)) [] 1:=by
 refine fm (KA 34779) func146 λw W G g=> ?_
 repeat' (first
  |refine tk ?_
  |refine CA ?_|refine an ?_ ?_|(intro Z;try simp at Z))
 refine FB (Ko l x) (λi=>l.length-i.1) ?_ ?_
 ·exact⟨⟨0,O,λj hj=>absurd hj O⟩,[],U,OA.nil UA ⟨rfl,rfl,rfl,rfl,U⟩ ⟨HA,rfl,U⟩⟩
 ·rintro⟨i,hi,LC⟩
  intro F H Y hF hH hn;dsimp only[Ko]at hF hH hn;subst hF hH hn
  repeat' (first
   |refine tk ?_
   |(refine mF i O (by rw[List.length_map];omega) λrest=> ?_;rw[DQ O])
   |refine cz 192 func192 (λ_=>H6 (l.getD i 0) x) ?_
   |refine CA ?_|refine an ?_ ?_|(intro Z;try simp at Z))
  ·refine DB ?_ qA
   rw[Jo (j:=i) O (by simpa using Z)];rfl
  ·refine⟨⟨i+1,O,λj hj=> ?_⟩,[],show l.length- (i+1)<l.length-i by omega,OA.nil UA ⟨rfl,rfl,rfl,rfl,U⟩ ⟨HA,rfl,U⟩⟩
   rcases(by omega:j<i\/j=i)with h'|h'
   ·exact LC j h'
   ·subst h';simpa using Z
  ·have e:i=l.length:=O
   subst e
   refine DB ?_ qA
   rw[Io LC];rfl
theorem Oe (s:ByteArray):Fn prog 71 [.v (.string s)] [] 0 (.gD 174 (.p 0 0)) [(0,some (.st [.v (.string s)]))] 1:=by
 refine fm (KA 5) func71 λw W G g=> ?_
 repeat' (first
  |refine tk ?_
  |refine CA ?_|refine an ?_ ?_|(intro Z;try simp at Z))
 exact⟨[],OA.nil UA ⟨rfl,U⟩ ⟨rfl,U⟩⟩
theorem IU (a b:Int) (ha: -1000000<=a/\a<=1000000) (Z:0<b/\b<=1024):Fn prog 98 [I a,I b] [] 0 (I (a%b)) [] 0:=by
 have h0:=Int.emod_nonneg a (show b≠0 by omega)
 have D:=Int.emod_lt_of_pos a Z.1
 have h2:a.tmod b=a%b\/(a.tmod b=a%b-b/\a%b≠0):=by
  rw[Int.tmod_eq_emod]
  split
  ·left;omega
  ·rename_i hn
   right
   refine⟨O,λe=>hn (.inr (Int.dvd_of_emod_eq_zero e))⟩
 have h3: -1048576<=a.tmod b*b/\a.tmod b*b<=1048576/\(a.tmod b*b<0↔a.tmod b<0):=by
  have rM: -b<=a.tmod b:=by rcases h2 with h2|h2<;>omega
  have Il:a.tmod b<=b:=by rcases h2 with h2|h2<;>omega
  have e1:=Int.mul_le_mul_of_nonneg_right rM (show 0<=b by omega)
  have e2:=Int.mul_le_mul_of_nonneg_right Il (show 0<=b by omega)
  have e3:b*b<=1024*1024:=Int.le_trans (Int.mul_le_mul_of_nonneg_right Z.2 O) (Int.mul_le_mul_of_nonneg_left Z.2 O)
  rw[Int.neg_mul]at e1
  refine⟨O,O,λe=> ?_,λe=>Int.mul_neg_of_neg_of_pos e Z.1⟩
  rcases(by omega:a.tmod b<0\/0<=a.tmod b)with h'|h'
  ·exact h'
  ·have:=Int.mul_nonneg h' (show 0<=b by omega);omega
 refine fm (KA 4147) func98 λw W G g=> ?_
 repeat' (first
  |refine tk ?_
  |refine⟨a.tmod b,λ_=>⟨O,rfl⟩,?_⟩
  |refine CA ?_|refine an ?_ ?_|(intro Z;try simp at Z))
 ·refine DB ?_ qA
  show I _=I _
  congr 3
  rcases h2 with h2|h2<;>omega
 ·refine DB ?_ qA
  show I _=I _
  congr 3
  rcases h2 with h2|h2<;>omega
theorem J6 (y:Int) (h:1<=y/\y<=15000):Fn prog 100 [I y] [] 0 (Tm (wC y*86400)) [] 0:=by
 have bV:=cY (show 0<=y/\y<=100000 by omega)
 have lM:=uV (show 0<=y/\y<=100000 by omega)
 have K6:=P2 (show 0<=y/\y<=100000 by omega)
 have hE:(y/100-y/100/4- (8*(y/100)+13)/25+19*(y%19)+15)%30=PI y:=by unfold PI;congr 1;omega
 refine fm (KA 2045) func100 λw W G g=> ?_
 repeat' (first
  |refine tk ?_
  |refine CA ?_|refine an ?_ ?_|(intro Z;try simp at Z))
 rw[hE]
 generalize PI y=e at*
 have hq:0<=29/(e+1)/\29/(e+1)<=29:=⟨Int.ediv_nonneg O O,Int.ediv_le_self _ O⟩
 have hz:0<=e/28/\e/28<=1:=O
 have hg:0<=(21-y%19)/11/\(21-y%19)/11<=1:=O
 have qH:0<=e/28*(29/(e+1))/\e/28*(29/(e+1))<=29:=by
  rcases(by omega:e/28=0\/e/28=1)with h'|h'<;>rw[h']<;>simp<;>omega
 have IL:0<=e/28*(29/(e+1))*((21-y%19)/11)/\e/28*(29/(e+1))*((21-y%19)/11)<=29:=by
  rcases(by omega:(21-y%19)/11=0\/(21-y%19)/11=1)with h'|h'<;>rw[h']<;>simp<;>omega
 have hm3: -29<=e/28*(1-e/28*(29/(e+1))*((21-y%19)/11))/\e/28*(1-e/28*(29/(e+1))*((21-y%19)/11))<=29:=by
  generalize e/28*(29/(e+1))*((21-y%19)/11)=z at*
  rcases(by omega:e/28=0\/e/28=1)with h'|h'<;>rw[h']<;>simp<;>omega
 have yT: -6<=PH y- (y+y/4+PH y+2-y/100+y/100/4)%7/\PH y- (y+y/4+PH y+2-y/100+y/100/4)%7<=28:=O
 have L6:=Q2 (y:=y) yT
 repeat' (first
  |refine mB (c:= .seq (.region 5 _ _) _) (l:=[]) (F':=[(0, .u (I y)),(2, .u (.p 0 0)),(4, .u (I (y/100))),(6, .u (I (PH y)))]) (H':=[(0,some (.st (A [0,0])))]) (n':=1) (OA.nil UA ⟨rfl,rfl,rfl,bB K6,U⟩ ⟨rfl,U⟩) ?_
  |refine tk ?_
  |refine⟨29/(e+1),eT O (λ_=>by omega) (λ_=>by unfold zA;omega),?_⟩
  |refine cz 69 func69 (λ_=>GU) ?_
  |refine cz 80 func80 (λ_=>EN _ _ _ _ _ _ O O O O O O) ?_
  |refine CA ?_|refine an ?_ ?_|(intro Z;try simp at Z))
 refine iF ?_ qA
 refine congrArg Tm ?_
 rw[XK O,L6]
 unfold wC
 omega
theorem M6 (x:Nat) (h:∃neg m p,Ieee.double.read x= .number neg m p):Fn prog 139 [.v (.float .f64 x)] [] 0 (.v (.float .f64 (Ieee.double.write ((Ieee.double.read x).integral .down)))) [] 0:=by
 obtain⟨neg,m,p,h⟩:=h
 have hr:∀(P:Program) (w:World),(Extern.MathFloor.toIntegral "math.archFloor" .down #[.float .f64 x]).run P w= .ok (.float .f64 (Ieee.double.write ((Ieee.double.read x).integral .down))) w:=by
  intro P w
  show Sem.run P (match Ieee.double.read x with
   | .nan s t=>(if FloatKind.f64.format.quiet t=t then pure (.float .f64 x)else do
     let kept<-choose (.extern "math.Floor,Ceil,Trunc,RoundToEven.signallingNaN kept" 2)
     pure (.float .f64 (if kept==1 then x else FloatKind.f64.encode (.nan s (FloatKind.f64.format.quiet t)))):Sem Value)
   |d=>pure (.float .f64 (FloatKind.f64.encode (d.integral .down)))) w=_
  rw[h];rfl
 refine fm (KA 5) func139 λw W G g=> ?_
 repeat' (first
  |refine tk ?_
  |(refine AB 190 ?_;refine⟨.inr ⟨_,⟨⟨_,_,[.float .f64 x],func190,rfl,rfl,rfl,λG ys d=>by simpa [ZA,aA]using d,λ_ w=>hr _ w⟩⟩,?_⟩⟩)
  |refine And.intro (λZ=> ?_) (λZ=>absurd Z (by simp))
  |refine CA ?_|refine an ?_ ?_|(intro Z;try simp at Z))
 exact DB rfl qA
theorem wO (a b:Int) (ha: -1000000<=a/\a<=1000000) (Z:0<b/\b<=1024):Fn prog 99 [I a,I b] [] 0 (.jA [I (a/b),I (a%b)]) [] 0:=by
 obtain⟨x,D,h2,h3⟩:=B1 a b.toNat O O
 rw[show((b.toNat:Nat):Int)=b by omega]at D h3
 have hq: -1000000<=a/b/\a/b<=1000000:=by
  exact⟨Int.le_ediv_of_mul_le Z.1 O,Int.ediv_le_of_le_mul Z.1 O⟩
 refine fm (KA 51) func99 λw W G g=> ?_
 repeat' (first
  |refine tk ?_
  |refine⟨_,jl (z:=a) rfl underlying189 rfl rfl,?_⟩
  |refine⟨_,jl (z:=b) rfl underlying189 rfl rfl,?_⟩
  |refine⟨_,G1 (λ_=>D) underlying189 rfl rfl rfl,?_⟩
  |refine cz 139 func139 (λ_=>M6 x h2) ?_
  |refine⟨_,J1 (z:=a/b) (λ_=>⟨h3,by unfold zA;omega⟩) underlying189 rfl rfl rfl rfl,?_⟩
  |refine cz 98 func98 (λ_=>IU a b ha Z) ?_
  |refine CA ?_|refine an ?_ ?_|(intro Z;try simp at Z))
 exact iF rfl qA
abbrev kA:Int->Int->Bool:=λa b=>decide (a<b)
abbrev RT (d:Array Int):DA:= .X 2 51 (iA d.toList)
theorem XZ (d:Array Int) (i:Nat):d[i]! =d.toList.getD i 0:=by
 rw[List.getD_eq_getElem?_getD,Array.getElem?_toList,getElem!_def]
 cases d[i]? <;>rfl
theorem Lo:∀{ds:List (Int×Int)} {i:Nat} {a b:Int},i<ds.length->lay (xA ds) (2*i) [I a,I b]=xA (ds.set i (a,b))
 |[],i,a,b,h=>by simp at h
 |d::r,0,a,b,_=>rfl
 |d::r,i+1,a,b,h=>by
  have:=Lo (ds:=r) (i:=i) (a:=a) (b:=b) (by simpa using h)
  simp only[lay,xA,List.flatMap_cons]at this⊢
  rw[show 2*(i+1)=2*i+1+1 by omega]
  simp only[List.set_cons_succ,List.cons_append,List.nil_append,List.flatMap_cons]
  rw[<-this]
theorem Mo {PB:Type}:∀{xs l:List PB} {i:Nat} {k:List PB->Prop},i+xs.length<=l.length->k (lay l i xs)->JK l i xs k
 |[],l,i,k,_,h=>h
 |x::r,l,i,k,hl,h=>yS (by simp at hl;omega) (Mo (by simp at hl⊢;omega) h)
theorem Pe {ds:List (Int×Int)} {o:Nat} {a b:Int} {k:List SV->Prop} (i:Nat) (ho:o=2*i) (hi:i<ds.length) (hk:k (xA (ds.set i (a,b)))):JK (xA ds) o [I a,I b] k:=by
 subst ho
 exact Mo (by rw[rC];simp;omega) (by rw[Lo hi];exact hk)
theorem N6 (d:Array Int) {i j:Nat} (hi:i<d.size) (hj:j<d.size):(Go.Sort.swp d i j).toList=(d.toList.set i (d.toList.getD j 0)).set j (d.toList.getD i 0):=by
 unfold Go.Sort.swp
 rw[Array.toList_setIfInBounds,Array.toList_setIfInBounds,XZ,XZ]
theorem swp_size (d:Array Int) (i j:Nat):(Go.Sort.swp d i j).size=d.size:=by simp[Go.Sort.swp]
theorem pB {LA:Nat->Nat} {H:HS} {b:Nat} {xs:List SV} {d:Array Int} (h:WA H (LA b)=some (.X 2 51 xs)) (hx:xs=iA d.toList):aE LA H b (RT d):=by
 show WA H (LA b)=some (.X 2 51 (YA LA (iA d.toList)))
 rw[h,hx,SC]
theorem OFA (LA:Nat->Nat) (d:Array Int):(RT d).IB LA=RT d:=by
 show DA.X 2 51 (YA LA (iA d.toList))=_
 rw[SC]
theorem cA.T {C:Cx} {f:Nat} {eB:List SV} {H:HS} {Y:Nat} {c0:Bool} {k:QD->Prop} {fn:Func} {zC:List SV} {d d':Array Int} (b:Nat) {s1:SV} (hf:prog.funcs[f]? =some fn) (hP:C.P=prog) (Z:fn.body.isNone=false)
  (h:c0=true->Fn prog f zC [(0,some (RT d))] 1 s1 [(0,some (RT d'))] 1) (dB:MI [b] [(0,some (RT d))] 1 1 Y=true) (YC:eB=YA (mp [b] 1 1 Y) zC) (hs:s1.IB (mp [b] 1 1 Y)=s1) (hH:c0=true->WA H b=some (RT d)) (hk:k ⟨s1,[(b,some (RT d'))],Y+1,[b]⟩):cA C f eB H Y c0 k:=by
 have e:mp [b] 1 1 Y 0=b:=by simp[mp]
 refine cA.F [b] hf hP Z h dB YC (λhc=> ?_) (s:=s1) hs (wh:=[(b,some (RT d'))]) ?_ (by simpa using hk)
 ·refine⟨?_,U⟩
  rw[e,SC];exact hH hc
 ·simp[ED,iC,KE,e,WA,lD,DA.IB]
theorem O6 (n:Nat):Fn prog 293 [.s 0 0 n] [] 1 (I n) [] 1:=by
 refine fm (KA 5) func293 λw W G g=> ?_
 repeat' (first
  |refine tk ?_
  |refine CA ?_|refine an ?_ ?_|(intro Z;try simp at Z))
 exact DB rfl qA
theorem QL (d:Array Int) {n:Nat} (hn:d.size=n) (x y:Int) (hx:0<=x/\x<n) (hy:0<=y/\y<n):Fn prog 294 [.s 0 0 n,I x,I y] [(0,some (.ro (iA d.toList)))] 1 (B (kA d[x.toNat]! d[y.toNat]!)) [] 1:=by
 subst hn
 have tF:x.toNat<d.toList.length:=by simp;omega
 have kI:y.toNat<d.toList.length:=by simp;omega
 refine fm (KA 71) func294 λw W G g=> ?_
 repeat' (first
  |refine tk ?_
  |(refine mF x.toNat O (by rw[List.length_map];exact tF) λrest=> ?_;rw[DQ tF])
  |(refine mF y.toNat O (by rw[List.length_map];exact kI) λrest=> ?_;rw[DQ kI])
  |refine cz 148 func148 (λ_=>UZ (d.toList.getD x.toNat 0) 0 (d.toList.getD y.toNat 0) 0) ?_
  |refine CA ?_|refine an ?_ ?_|(intro Z;try simp at Z))
 refine DB ?_ qA
 show B _=B _
 rw[XZ,XZ]
 simp
theorem RL (d:Array Int) {n:Nat} (hn:d.size=n) (x y:Int) (hx:0<=x/\x<n) (hy:0<=y/\y<n):Fn prog 295 [.s 0 0 n,I x,I y] [(0,some (RT d))] 1 (.jA []) [(0,some (RT (Go.Sort.swp d x.toNat y.toNat)))] 1:=by
 subst hn
 have tF:x.toNat<d.toList.length:=by simp;omega
 have kI:y.toNat<d.toList.length:=by simp;omega
 refine fm (KA 7) func295 λw W G g=> ?_
 repeat' (first
  |refine tk ?_
  |(refine mF y.toNat O (by rw[List.length_map];exact kI) λrest=> ?_;rw[DQ kI])
  |(refine mF x.toNat O (by rw[List.length_map];exact tF) λrest=> ?_;rw[DQ tF])
  |refine Pe x.toNat O (by rw[List.length_map];exact tF) ?_
  |refine Pe y.toNat O (by rw[List.length_set,List.length_map];exact kI) ?_
  |refine CA ?_|refine an ?_ ?_|(intro Z;try simp at Z))
 refine⟨[],OA.nil UA ⟨rfl,U⟩ ⟨pB rfl ?_,U⟩⟩
 rw[N6 d (by simpa using tF) (by simpa using kI)]
 show xA _=xA (List.map _ _)
 rw[List.map_set,List.map_set]
theorem SL (v:Value) (w:World):(method (prog.types.size+Made.depth) 133 v "Less").run prog w= .ok (294,v) w:=by kernel_rfl
theorem TL (v:Value) (w:World):(method (prog.types.size+Made.depth) 133 v "Swap").run prog w= .ok (295,v) w:=by kernel_rfl
theorem PFA (v:Value) (w:World):(method (prog.types.size+Made.depth) 133 v "Len").run prog w= .ok (293,v) w:=by kernel_rfl
theorem P6 {a j:Nat} {q:Array Int} (h:a<j/\q[j]! <q[j-1]!):Go.Sort.insInner kA a j q=Go.Sort.insInner kA a (j-1) (Go.Sort.swp q j (j-1)):=by
 obtain⟨m,rfl⟩:∃m,j=m+1:=⟨j-1,O⟩
 rw[Nat.add_sub_cancel]at h⊢
 rw[Go.Sort.insInner,if_pos]
 simp only[Bool.and_eq_true,decide_eq_true_eq]
 exact h
theorem Q6 {a j:Nat} {q:Array Int} (h:a<j->¬q[j]! <q[j-1]!):Go.Sort.insInner kA a j q=q:=by
 cases j with
 |zero=>rfl
 |succ m=>
  rw[Nat.add_sub_cancel]at h
  rw[Go.Sort.insInner,if_neg]
  simp only[Bool.and_eq_true,decide_eq_true_eq,not_and]
  exact h
abbrev D0 (n:Nat):SV:= .gD 133 (.s 0 0 n)
def No (d:Array Int) (n a b:Nat):MB {p:Nat×Array Int//a+1<=p.1/\(p.1<=b\/p.1=a+1)/\p.2.size=n/\Go.Sort.insOuter kA a b p.1 p.2=Go.Sort.insOuter kA a b (a+1) d}where
 F p:=[(0, .u (D0 n)),(1, .u (I a)),(2, .u (I b)),(6, .u (I p.1.1))]
 H p:=[(0,some (RT p.1.2))]
 n p:=1
def Oo (e:Array Int) (n a b i:Nat):MB {p:Nat×Array Int//a<=p.1/\p.1<=i/\p.2.size=n/\Go.Sort.insInner kA a p.1 p.2=Go.Sort.insInner kA a i e}where
 F p:=[(0, .u (D0 n)),(1, .u (I a)),(2, .u (I b)),(6, .u (I i)),(7, .u (I p.1.1))]
 H p:=[(0,some (RT p.1.2))]
 n p:=1
theorem S6 (d:Array Int) {n:Nat} (hn:d.size=n) (a b:Nat) (xD:a<=b) (Z:b<=n) (hs:n<=100000):Fn prog 175 [D0 n,I a,I b] [(0,some (RT d))] 1 (.jA []) [(0,some (RT (Go.Sort.insertionSort kA d a b)))] 1:=by
 refine fm (KA 33558727) func175 λw W G g=> ?_
 repeat' (first
  |refine tk ?_
  |refine CA ?_|refine an ?_ ?_|(intro Z;try simp at Z))
 refine FB (No d n a b) (λp=>b-p.1.1) ?_ ?_
 ·exact⟨⟨(a+1,d),O,O,hn,rfl⟩,[],U,OA.nil UA ⟨rfl,rfl,rfl,bB (by simp),U⟩ ⟨pB rfl rfl,U⟩⟩
 ·rintro⟨⟨i,e⟩,D,h2,h3,h4⟩
  intro F H Y hF hH hn;dsimp only[No]at hF hH hn;subst hF hH hn
  dsimp only at D h2 h3 h4
  repeat' (first
   |refine tk ?_
   |refine CA ?_|refine an ?_ ?_|(intro Z;try simp at Z))
  ·refine FB (Oo e n a b i) (λp=>p.1.1) ?_ ?_
   ·exact⟨⟨(i,e),O,O,h3,rfl⟩,[],U,OA.nil UA ⟨rfl,rfl,rfl,rfl,rfl,U⟩ ⟨pB rfl rfl,U⟩⟩
   ·rintro⟨⟨j,q⟩,k1,k2,k3,k4⟩
    intro F H Y hF hH hn;dsimp only[Oo]at hF hH hn;subst hF hH hn
    dsimp only at k1 k2 k3 k4
    repeat' (first
     |refine tk ?_
     |(refine XF (f:=294) (T:=133) SL rfl (by first|rfl|exact⟨UB.refl _,rfl⟩) (by first|rfl|exact⟨UB.refl _,UB.refl _,rfl⟩) ?_;refine cA.R [0] func294 rfl rfl (λhc=>QL q k3 _ _ (by first|omega|(simp at hc;omega)) (by first|omega|(simp at hc;omega))) rfl rfl rfl wG rfl ?_)
     |(refine XF (f:=295) (T:=133) TL rfl (by first|rfl|exact⟨UB.refl _,rfl⟩) (by first|rfl|exact⟨UB.refl _,UB.refl _,rfl⟩) ?_;refine cA.T (d:=q) 0 func295 rfl rfl (λhc=>RL q k3 _ _ (by first|omega|(simp at hc;omega)) (by first|omega|(simp at hc;omega))) rfl rfl rfl (λ_=>rfl) ?_)
     |refine CA ?_|refine an ?_ ?_|(intro Z;try simp at Z))
    ·have e1:((j:Int)-1).toNat=j-1:=O
     exact⟨⟨(j-1,Go.Sort.swp q j (j-1)),O,O,(swp_size _ _ _).trans k3,(P6 Z).symm.trans k4⟩,[],show j-1<j by omega,OA.nil UA ⟨rfl,rfl,rfl,rfl,bB (show(j:Int)-1=((j-1:Nat):Int)by omega),U⟩ ⟨pB rfl (by simp only[Int.toNat_natCast,e1]),U⟩⟩
    ·have e2:=k4.symm.trans (Q6 (a:=a) (j:=j) (q:=q) (by simpa using Z))
     exact⟨⟨(i+1,q),O,O,k3,by rw[<-h4];conv=>{rhs;rw[Go.Sort.insOuter]};rw[if_pos O,e2]⟩,[],show b- (i+1)<b-i by omega,OA.nil UA ⟨rfl,rfl,rfl,rfl,U⟩ ⟨pB rfl rfl,U⟩⟩
  ·have e3:Go.Sort.insertionSort kA d a b=e:=by
    unfold Go.Sort.insertionSort;rw[<-h4,Go.Sort.insOuter,if_neg O]
   exact⟨[],OA.nil UA ⟨rfl,U⟩ ⟨pB rfl (by rw[e3]),U⟩⟩
theorem Qe {hi first root:Nat} {q:Array Int} (h:hi<=2*root+1):Go.Sort.siftDown kA hi first root q=q:=by
 rw[Go.Sort.siftDown,dif_pos h]
theorem Re {hi first root:Nat} {q:Array Int} (D:2*root+2<hi) (hl:q[first+(2*root+1)]! <q[first+(2*root+1)+1]!):
  Go.Sort.siftDown kA hi first root q=if q[first+root]! <q[first+(2*root+2)]! then Go.Sort.siftDown kA hi first (2*root+2) (Go.Sort.swp q (first+root) (first+(2*root+2)))else q:=by
 rw[Go.Sort.siftDown,dif_neg O,if_pos (by simp only[Bool.and_eq_true,decide_eq_true_eq];exact⟨O,hl⟩)]
 by_cases h:q[first+root]! <q[first+(2*root+2)]!
 ·rw[if_pos h,if_neg (by simpa using h),dif_pos D]
 ·rw[if_neg h,if_pos (by simpa using h)]
theorem Se {hi first root:Nat} {q:Array Int} (h0:2*root+1<hi) (hn:2*root+2<hi->¬q[first+(2*root+1)]! <q[first+(2*root+1)+1]!):
  Go.Sort.siftDown kA hi first root q=if q[first+root]! <q[first+(2*root+1)]! then Go.Sort.siftDown kA hi first (2*root+1) (Go.Sort.swp q (first+root) (first+(2*root+1)))else q:=by
 rw[Go.Sort.siftDown,dif_neg O,if_neg (by simp only[Bool.and_eq_true,decide_eq_true_eq];exactλh=>hn O h.2)]
 by_cases h:q[first+root]! <q[first+(2*root+1)]!
 ·rw[if_pos h,if_neg (by simpa using h)]
 ·rw[if_neg h,if_pos (by simpa using h)]
def Po (d:Array Int) (n hi first lo:Nat):MB {p:Nat×Array Int//p.1<=100000/\p.2.size=n/\Go.Sort.siftDown kA hi first p.1 p.2=Go.Sort.siftDown kA hi first lo d}where
 F p:=[(0, .u (D0 n)),(2, .u (I hi)),(3, .u (I first)),(8, .u (I p.1.1))]
 H p:=[(0,some (RT p.1.2))]
 n p:=1
theorem Qo (d:Array Int) {n:Nat} (hn:d.size=n) (lo hi first:Nat) (rM:lo<=100000) (hf:first+hi<=n) (hs:n<=100000):Fn prog 211 [D0 n,I lo,I hi,I first] [(0,some (RT d))] 1 (.jA []) [(0,some (RT (Go.Sort.siftDown kA hi first lo d)))] 1:=by
 refine fm (KA 4400194061071) func211 λw W G g=> ?_
 repeat' (first
  |refine tk ?_
  |refine CA ?_|refine an ?_ ?_|(intro Z;try simp at Z))
 refine FB (Po d n hi first lo) (λp=>hi-p.1.1) ?_ ?_
 ·exact⟨⟨(lo,d),O,hn,rfl⟩,[],U,OA.nil UA ⟨rfl,rfl,rfl,rfl,U⟩ ⟨pB rfl rfl,U⟩⟩
 ·rintro⟨⟨root,q⟩,k1,k2,k3⟩
  intro F H Y hF hH hn;dsimp only[Po]at hF hH hn;subst hF hH hn
  dsimp only at k1 k2 k3
  have e1:((first:Int)+(2*(root:Int)+1)).toNat=first+(2*root+1):=O
  have e2:((first:Int)+(2*(root:Int)+1)+1).toNat=first+(2*root+1)+1:=O
  have e3:((first:Int)+(root:Int)).toNat=first+root:=O
  have e4:((first:Int)+(2*(root:Int)+1+1)).toNat=first+(2*root+2):=O
  repeat' (first
   |refine tk ?_
   |(refine XF (f:=294) (T:=133) SL rfl (by first|rfl|exact⟨UB.refl _,rfl⟩) (by first|rfl|exact⟨UB.refl _,UB.refl _,rfl⟩) ?_;refine cA.R [0] func294 rfl rfl (λhc=>QL q k2 _ _ (by first|omega|(simp at hc;omega)) (by first|omega|(simp at hc;omega))) rfl rfl rfl wG rfl ?_)
   |(refine XF (f:=295) (T:=133) TL rfl (by first|rfl|exact⟨UB.refl _,rfl⟩) (by first|rfl|exact⟨UB.refl _,UB.refl _,rfl⟩) ?_;refine cA.T (d:=q) 0 func295 rfl rfl (λhc=>RL q k2 _ _ (by first|omega|(simp at hc;omega)) (by first|omega|(simp at hc;omega))) rfl rfl rfl (λ_=>rfl) ?_)
   |refine CA ?_|refine an ?_ ?_|(intro Z;try simp at Z))
  ·exact⟨[],OA.nil UA ⟨rfl,U⟩ ⟨pB rfl (by rw[<-k3,Qe O]),U⟩⟩
  ·rename_i h5 h6
   rw[e1,e2]at h6
   rw[e3,e4]at Z
   have h7:=Re (show 2*root+2<hi by omega) h6.2
   rw[if_neg O]at h7
   exact⟨[],OA.nil UA ⟨rfl,U⟩ ⟨pB rfl (by rw[<-k3,h7]),U⟩⟩
  ·rename_i h5 h6
   rw[e1,e2]at h6
   rw[e3,e4]at Z
   have h7:=Re (show 2*root+2<hi by omega) h6.2
   rw[if_pos Z]at h7
   exact⟨⟨(2*root+2,Go.Sort.swp q (first+root) (first+(2*root+2))),O,(swp_size _ _ _).trans k2,h7.symm.trans k3⟩,[],show hi- (2*root+2)<hi-root by omega,OA.nil UA ⟨rfl,rfl,rfl,bB (show 2*(root:Int)+1+1=((2*root+2:Nat):Int)by omega),U⟩ ⟨pB rfl (by rw[e3,e4]),U⟩⟩
  ·rename_i h5 h6
   rw[e1,e2]at h6
   rw[e1,e3]at Z
   have h7:=Se (show 2*root+1<hi by omega) (q:=q) (first:=first) (λh=>by have:=h6 O;omega)
   rw[if_neg O]at h7
   exact⟨[],OA.nil UA ⟨rfl,U⟩ ⟨pB rfl (by rw[<-k3,h7]),U⟩⟩
  ·rename_i h5 h6
   rw[e1,e2]at h6
   rw[e1,e3]at Z
   have h7:=Se (show 2*root+1<hi by omega) (q:=q) (first:=first) (λh=>by have:=h6 O;omega)
   rw[if_pos Z]at h7
   exact⟨⟨(2*root+1,Go.Sort.swp q (first+root) (first+(2*root+1))),O,(swp_size _ _ _).trans k2,h7.symm.trans k3⟩,[],show hi- (2*root+1)<hi-root by omega,OA.nil UA ⟨rfl,rfl,rfl,bB (show 2*(root:Int)+1=((2*root+1:Nat):Int)by omega),U⟩ ⟨pB rfl (by rw[e3,e1]),U⟩⟩
theorem Te (hi first:Nat):∀(root:Nat) (q:Array Int),(Go.Sort.siftDown kA hi first root q).size=q.size:=by
 have key:∀(k root:Nat) (q:Array Int),hi-root<=k->(Go.Sort.siftDown kA hi first root q).size=q.size:=by
  intro k
  induction k with
  |zero=>intro root q h;rw[Qe O]
  |succ k ih=>
   intro root q h
   by_cases h0:2*root+1<hi
   ·by_cases D:2*root+2<hi/\q[first+(2*root+1)]! <q[first+(2*root+1)+1]!
    ·rw[Re D.1 D.2]
     split
     ·rw[ih _ _ O,swp_size]
     ·rfl
    ·rw[Se h0 (λh2 h3=>D ⟨h2,h3⟩)]
     split
     ·rw[ih _ _ O,swp_size]
     ·rfl
   ·rw[Qe O]
 exactλroot q=>key _ root q qA
theorem T6 (hi first:Nat):∀(k:Nat) (q:Array Int),(Go.Sort.heapBuild kA hi first k q).size=q.size
 |0,q=>rfl
 |k+1,q=>by rw[Go.Sort.heapBuild,T6 hi first k,Te]
def Ro (d:Array Int) (n a b:Nat):MB {p:Nat×Array Int//p.1<=(b-a-1)/2+1/\p.2.size=n/\Go.Sort.heapBuild kA (b-a) a p.1 p.2=Go.Sort.heapBuild kA (b-a) a ((b-a-1)/2+1) d}where
 F p:=[(0, .u (D0 n)),(6, .u (I a)),(7, .u (I 0)),(8, .u (I ((b-a:Nat):Int))),(9, .u (I ((p.1.1:Int)-1)))]
 H p:=[(0,some (RT p.1.2))]
 n p:=1
def So (d:Array Int) (n a b:Nat):MB {p:Nat×Array Int//p.1<=b-a/\p.2.size=n/\Go.Sort.heapPop kA a p.1 p.2=Go.Sort.heapSort kA d a b}where
 F p:=[(0, .u (D0 n)),(6, .u (I a)),(7, .u (I 0)),(10, .u (I ((p.1.1:Int)-1)))]
 H p:=[(0,some (RT p.1.2))]
 n p:=1
theorem U6 (d:Array Int) {n:Nat} (hn:d.size=n) (a b:Nat) (xD:a<b) (Z:b<=n) (hs:n<=100000):Fn prog 176 [D0 n,I a,I b] [(0,some (RT d))] 1 (.jA []) [(0,some (RT (Go.Sort.heapSort kA d a b)))] 1:=by
 have e0:((b:Int)- (a:Int))=((b-a:Nat):Int):=O
 refine fm (KA 1074268103) func176 λw W G g=> ?_
 repeat' (first
  |refine tk ?_
  |refine CA ?_|refine an ?_ ?_|(intro Z;try simp at Z))
 refine FB (Ro d n a b) (λp=>p.1.1) ?_ ?_
 ·exact⟨⟨((b-a-1)/2+1,d),O,hn,rfl⟩,[],U,OA.nil UA ⟨rfl,rfl,rfl,bB e0,bB (show((b:Int)-a-1)/2=(((b-a-1)/2+1:Nat):Int)-1 by omega),U⟩ ⟨pB rfl rfl,U⟩⟩
 ·rintro⟨⟨k,q⟩,k1,k2,k3⟩
  intro F H Y hF hH hn;dsimp only[Ro]at hF hH hn;subst hF hH hn
  dsimp only at k1 k2 k3
  repeat' (first
   |refine tk ?_
   |(refine AB 211 ?_;refine cA.T (d:=q) 0 func211 rfl rfl (λhc=>Qo q k2 (k-1) (b-a) a O O hs) rfl (by show[D0 n,I ((k:Int)-1),I ((b-a:Nat):Int),I (a:Int)]=[D0 n,I ((k-1:Nat):Int),I ((b-a:Nat):Int),I (a:Int)];rw[show(k:Int)-1=((k-1:Nat):Int)by omega]) rfl (λ_=>rfl) ?_)
   |refine CA ?_|refine an ?_ ?_|(intro Z;try simp at Z))
  ·obtain⟨m,rfl⟩:∃m,k=m+1:=⟨k-1,O⟩
   rw[Nat.add_sub_cancel]
   exact⟨⟨(m,Go.Sort.siftDown kA (b-a) a m q),O,(Te _ _ _ _).trans k2,k3⟩,[],show m<m+1 by omega,OA.nil UA ⟨rfl,rfl,rfl,rfl,bB (show((m+1:Nat):Int)-1-1=(m:Int)-1 by omega),U⟩ ⟨pB rfl rfl,U⟩⟩
  ·have hk:k=0:=O
   subst hk
   have k4:q=Go.Sort.heapBuild kA (b-a) a ((b-a-1)/2+1) d:=k3
   refine FB (So d n a b) (λp=>p.1.1) ?_ ?_
   ·exact⟨⟨(b-a,q),Nat.le_refl _,k2,by rw[k4];rfl⟩,[],U,OA.nil UA ⟨rfl,rfl,rfl,rfl,U⟩ ⟨pB rfl rfl,U⟩⟩
   ·rintro⟨⟨m,e⟩,m1,m2,m3⟩
    intro F H Y hF hH hn;dsimp only[So]at hF hH hn;subst hF hH hn
    dsimp only at m1 m2 m3
    repeat' (first
     |refine tk ?_
     |(refine XF (f:=295) (T:=133) TL rfl (by first|rfl|exact⟨UB.refl _,rfl⟩) (by first|rfl|exact⟨UB.refl _,UB.refl _,rfl⟩) ?_;refine cA.T (d:=e) 0 func295 rfl rfl (λhc=>RL e m2 _ _ (by first|omega|(simp at hc;omega)) (by first|omega|(simp at hc;omega))) rfl rfl rfl (λ_=>rfl) ?_)
     |(refine AB 211 ?_;refine cA.T (d:=Go.Sort.swp e (a:Int).toNat ((a:Int)+((m:Int)-1)).toNat) 0 func211 rfl rfl (λhc=>Qo _ ((swp_size _ _ _).trans m2) 0 (m-1) a O O hs) rfl (by show[D0 n,I 0,I ((m:Int)-1),I (a:Int)]=[D0 n,I ((0:Nat):Int),I ((m-1:Nat):Int),I (a:Int)];rw[show(m:Int)-1=((m-1:Nat):Int)by omega];rfl) rfl (λ_=>rfl) ?_)
     |refine CA ?_|refine an ?_ ?_|(intro Z;try simp at Z))
    ·obtain⟨t,rfl⟩:∃t,m=t+1:=⟨m-1,O⟩
     rw[Nat.add_sub_cancel]
     rw[show((a:Int)+(((t+1:Nat):Int)-1)).toNat=a+t by omega,Int.toNat_natCast]
     exact⟨⟨(t,Go.Sort.siftDown kA t a 0 (Go.Sort.swp e a (a+t))),O,(Te _ _ _ _).trans ((swp_size _ _ _).trans m2),m3⟩,[],show t<t+1 by omega,OA.nil UA ⟨rfl,rfl,rfl,bB (show((t+1:Nat):Int)-1-1=(t:Int)-1 by omega),U⟩ ⟨pB rfl rfl,U⟩⟩
    ·have hm:m=0:=O
     subst hm
     have m4:e=Go.Sort.heapSort kA d a b:=m3
     exact⟨[],OA.nil UA ⟨rfl,U⟩ ⟨pB rfl (by rw[m4]),U⟩⟩
def order2Z (d:Array Int) (x y s:Int):Int×Int×Int:=if d[y.toNat]! <d[x.toNat]! then(y,x,s+1)else(x,y,s)
def WI (d:Array Int) (x y z s:Int):Int×Int:=
 let r1:=order2Z d x y s
 let r2:=order2Z d r1.2.1 z r1.2.2
 let r3:=order2Z d r1.1 r2.1 r2.2.2
 (r3.2.1,r3.2.2)
theorem V6 (d:Array Int) (a b s:Nat):order2Z d a b s=(((Go.Sort.order2 kA d a b s).1:Int),((Go.Sort.order2 kA d a b s).2.1:Int),((Go.Sort.order2 kA d a b s).2.2:Int)):=by
 unfold order2Z Go.Sort.order2
 simp only[Int.toNat_natCast,decide_eq_true_eq]
 split<;>rfl
theorem Ue (d:Array Int) (a b c s:Nat):WI d a b c s=(((Go.Sort.median kA d a b c s).1:Int),((Go.Sort.median kA d a b c s).2:Int)):=by
 unfold WI Go.Sort.median
 simp only[V6]
theorem ZW {d:Array Int} {x y s lo hi:Int} (hx:lo<=x/\x<=hi) (hy:lo<=y/\y<=hi):lo<=(order2Z d x y s).1/\(order2Z d x y s).1<=hi/\lo<=(order2Z d x y s).2.1/\(order2Z d x y s).2.1<=hi/\s<=(order2Z d x y s).2.2/\(order2Z d x y s).2.2<=s+1:=by
 unfold order2Z;split<;>dsimp only<;>omega
theorem cA.C {C:Cx} {f:Nat} {eB:List SV} {H:HS} {Y:Nat} {c0:Bool} {k:QD->Prop} {fn:Func} {zC:List SV} {d:Array Int} {s s':Int} (b b1:Nat) {s1:SV} (hf:prog.funcs[f]? =some fn) (hP:C.P=prog) (Z:fn.body.isNone=false)
  (h:c0=true->Fn prog f zC [(0,some (.ro (iA d.toList))),(1,some (.st [I s]))] 2 s1 [(1,some (.st [I s']))] 2) (dB:MI [b,b1] [(0,some (.ro (iA d.toList))),(1,some (.st [I s]))] 2 2 Y=true) (YC:eB=YA (mp [b,b1] 2 2 Y) zC) (hs:s1.IB (mp [b,b1] 2 2 Y)=s1) (hH:c0=true->∃K,WA H b=some K/\K.cells=iA d.toList) (VO:c0=true->WA H b1=some (.st [I s])) (hk:k ⟨s1,[(b1,some (.st [I s']))],Y+1,[b,b1]⟩):cA C f eB H Y c0 k:=by
 have e:mp [b,b1] 2 2 Y 0=b:=by simp[mp]
 have e1:mp [b,b1] 2 2 Y 1=b1:=by simp[mp]
 refine cA.F [b,b1] hf hP Z h dB YC (λhc=> ?_) (s:=s1) hs (wh:=[(b1,some (.st [I s']))]) ?_ (by simpa using hk)
 ·obtain⟨K,D,h2⟩:=hH hc
  refine⟨⟨K,[],by rw[e];exact D,by rw[SC,List.append_nil];exact h2⟩,?_,U⟩
  rw[e1];exact VO hc
 ·simp[ED,iC,KE,e1,WA,lD,DA.IB,YA,SV.IB]
theorem W6 (d:Array Int) {n:Nat} (hn:d.size=n) (x y s:Int) (hx:0<=x/\x<n) (hy:0<=y/\y<n) (hs:0<=s/\s<=1000):Fn prog 242 [D0 n,I x,I y, .p 1 0] [(0,some (.ro (iA d.toList))),(1,some (.st [I s]))] 2 (.jA [I (order2Z d x y s).1,I (order2Z d x y s).2.1]) [(1,some (.st [I (order2Z d x y s).2.2]))] 2:=by
 refine fm (KA 8975) func242 λw W G g=> ?_
 repeat' (first
  |refine tk ?_
  |(refine XF (f:=294) (T:=133) SL rfl (by first|rfl|exact⟨UB.refl _,rfl⟩) (by first|rfl|exact⟨UB.refl _,UB.refl _,rfl⟩) ?_;refine cA.R [0] func294 rfl rfl (λhc=>QL d hn _ _ (by first|omega|(simp at hc;omega)) (by first|omega|(simp at hc;omega))) rfl rfl rfl wG rfl ?_)
  |refine CA ?_|refine an ?_ ?_|(intro Z;try simp at Z))
 ·have e:order2Z d x y s=(y,x,s+1):=by unfold order2Z;rw[if_pos Z]
  rw[e]
  exact⟨[],OA.nil UA ⟨rfl,U⟩ ⟨rfl,U⟩⟩
 ·have e:order2Z d x y s=(x,y,s):=by unfold order2Z;rw[if_neg O]
  rw[e]
  exact⟨[],OA.nil UA ⟨rfl,U⟩ ⟨rfl,U⟩⟩
theorem Ve (d:Array Int) {n:Nat} (hn:d.size=n) (x y z s:Int) (hx:0<=x/\x<=n-1) (hy:0<=y/\y<=n-1) (hz:0<=z/\z<=n-1) (hs:0<=s/\s<=900):Fn prog 215 [D0 n,I x,I y,I z, .p 1 0] [(0,some (.ro (iA d.toList))),(1,some (.st [I s]))] 2 (I (WI d x y z s).1) [(1,some (.st [I (WI d x y z s).2]))] 2:=by
 have r1:=ZW (d:=d) (s:=s) hx hy
 have r2:=ZW (d:=d) (s:=(order2Z d x y s).2.2) ⟨r1.2.2.1,r1.2.2.2.1⟩ hz
 refine fm (KA 1055) func215 λw W G g=> ?_
 repeat' (first
  |refine tk ?_
  |(refine AB 242 ?_;refine cA.C (d:=d) 0 1 func242 rfl rfl (λ_=>W6 d hn _ _ _ O O O) rfl rfl rfl (λ_=>⟨_,rfl,rfl⟩) (λ_=>rfl) ?_)
  |refine CA ?_|refine an ?_ ?_|(intro Z;try simp at Z))
 exact⟨[],OA.nil UA ⟨rfl,U⟩ ⟨rfl,U⟩⟩
theorem X6 (d:Array Int) {n:Nat} (hn:d.size=n) (x s:Int) (hx:1<=x/\x<=(n:Int)-2) (hs:0<=s/\s<=900) (hl:n<=1000000):Fn prog 214 [D0 n,I x, .p 1 0] [(0,some (.ro (iA d.toList))),(1,some (.st [I s]))] 2 (I (WI d (x-1) x (x+1) s).1) [(1,some (.st [I (WI d (x-1) x (x+1) s).2]))] 2:=by
 refine fm (KA 71) func214 λw W G g=> ?_
 repeat' (first
  |refine tk ?_
  |(refine AB 215 ?_;refine cA.C (d:=d) 0 1 func215 rfl rfl (λ_=>Ve d hn _ _ _ _ O O O O) rfl rfl rfl (λ_=>⟨_,rfl,rfl⟩) (λ_=>rfl) ?_)
  |refine CA ?_|refine an ?_ ?_|(intro Z;try simp at Z))
 exact⟨[],OA.nil UA ⟨rfl,U⟩ ⟨rfl,U⟩⟩
def To (d:Array Int) (n a b:Nat):MB {p:Nat×Nat×Array Int//p.1<=n/\p.2.1<n/\p.2.2.size=n/\Go.Sort.reverseLoop p.1 p.2.1 p.2.2=Go.Sort.reverseRange d a b}where
 F p:=[(0, .u (D0 n)),(6, .u (I p.1.1)),(7, .u (I p.1.2.1))]
 H p:=[(0,some (RT p.1.2.2))]
 n p:=1
theorem Uo (d:Array Int) {n:Nat} (hn:d.size=n) (a b:Nat) (xD:a<b) (Z:b<=n) (hs:n<=100000):Fn prog 179 [D0 n,I a,I b] [(0,some (RT d))] 1 (.jA []) [(0,some (RT (Go.Sort.reverseRange d a b)))] 1:=by
 refine fm (KA 8391) func179 λw W G g=> ?_
 repeat' (first
  |refine tk ?_
  |refine CA ?_|refine an ?_ ?_|(intro Z;try simp at Z))
 refine FB (To d n a b) (λp=>p.1.2.1-p.1.1) ?_ ?_
 ·exact⟨⟨(a,b-1,d),by dsimp only;omega,by dsimp only;omega,hn,rfl⟩,[],U,OA.nil UA ⟨rfl,rfl,bB (show(b:Int)-1=((b-1:Nat):Int)by omega),U⟩ ⟨pB rfl rfl,U⟩⟩
 ·rintro⟨⟨i,j,q⟩,D,h2,h3,h4⟩
  intro F H Y hF hH hn;dsimp only[To]at hF hH hn;subst hF hH hn
  dsimp only at D h2 h3 h4
  repeat' (first
   |refine tk ?_
   |(refine XF (f:=295) (T:=133) TL rfl (by first|rfl|exact⟨UB.refl _,rfl⟩) (by first|rfl|exact⟨UB.refl _,UB.refl _,rfl⟩) ?_;refine cA.T (d:=q) 0 func295 rfl rfl (λhc=>RL q h3 _ _ (by first|omega|(simp at hc;omega)) (by first|omega|(simp at hc;omega))) rfl rfl rfl (λ_=>rfl) ?_)
   |refine CA ?_|refine an ?_ ?_|(intro Z;try simp at Z))
  ·refine⟨⟨(i+1,j-1,Go.Sort.swp q i j),by dsimp only;omega,by dsimp only;omega,(swp_size _ _ _).trans h3,?_⟩,[],show j-1- (i+1)<j-i by omega,OA.nil UA ⟨rfl,rfl,bB (show(j:Int)-1=((j-1:Nat):Int)by omega),U⟩ ⟨pB rfl rfl,U⟩⟩
   rw[Go.Sort.reverseLoop,if_pos O]at h4;exact h4
  ·rw[Go.Sort.reverseLoop,if_neg O]at h4
   exact⟨[],OA.nil UA ⟨rfl,U⟩ ⟨pB rfl (by rw[h4]),U⟩⟩
theorem YZ {d:Array Int} {x y z s lo hi:Int} (hx:lo<=x/\x<=hi) (hy:lo<=y/\y<=hi) (hz:lo<=z/\z<=hi):lo<=(WI d x y z s).1/\(WI d x y z s).1<=hi/\s<=(WI d x y z s).2/\(WI d x y z s).2<=s+3:=by
 have r1:=ZW (d:=d) (s:=s) hx hy
 have r2:=ZW (d:=d) (s:=(order2Z d x y s).2.2) ⟨r1.2.2.1,r1.2.2.2.1⟩ hz
 have r3:=ZW (d:=d) (s:=(order2Z d (order2Z d x y s).2.1 z (order2Z d x y s).2.2).2.2) ⟨r1.1,r1.2.1⟩ ⟨r2.1,r2.2.1⟩
 unfold WI
 dsimp only
 omega
theorem We (d:Array Int) (i s:Nat) (h:1<=i):WI d ((i:Int)-1) i ((i:Int)+1) s=(((Go.Sort.medianAdjacent kA d i s).1:Int),((Go.Sort.medianAdjacent kA d i s).2:Int)):=by
 unfold Go.Sort.medianAdjacent
 rw[<-Ue,show(i:Int)-1=((i-1:Nat):Int)by omega,show(i:Int)+1=((i+1:Nat):Int)by omega]
def UL:Go.Sort.Hint->Int
 | .unknown=>0
 | .increasing=>1
 | .decreasing=>2
def JU (r:Int×Int):Int×Int:=(r.1,if r.2=0 then 1 else if r.2=12 then 2 else 0)
theorem Y6 {d:Array Int} {a b:Nat} (h:12<b-a) (h5:b-a<50):(((Go.Sort.choosePivot kA d a b).1:Int),UL (Go.Sort.choosePivot kA d a b).2)=JU (WI d ((a+(b-a)/4*1:Nat):Int) ((a+(b-a)/4*2:Nat):Int) ((a+(b-a)/4*3:Nat):Int) 0):=by
 rw[show(0:Int)=((0:Nat):Int)from rfl,Ue]
 unfold Go.Sort.choosePivot JU
 dsimp only
 rw[if_pos (show b-a>=8 by omega),if_neg (show¬b-a>=50 by omega)]
 generalize Go.Sort.median kA d (a+(b-a)/4*1) (a+(b-a)/4*2) (a+(b-a)/4*3) 0=r
 congr 1
 have k0:((r.2:Int)=0)=(r.2=0):=by apply propext;omega
 have k1:((r.2:Int)=12)=(r.2=12):=by apply propext;omega
 simp only[k0,k1]
 split
 ·rfl
 ·split<;>rfl
def mA (d:Array Int) (i:Nat) (s:Int):Int×Int:=WI d ((i:Int)-1) i ((i:Int)+1) s
theorem Z6 {d:Array Int} {a b:Nat} (h5:50<=b-a):(((Go.Sort.choosePivot kA d a b).1:Int),UL (Go.Sort.choosePivot kA d a b).2)=
  JU (WI d (mA d (a+(b-a)/4*1) 0).1 (mA d (a+(b-a)/4*2) (mA d (a+(b-a)/4*1) 0).2).1 (mA d (a+(b-a)/4*3) (mA d (a+(b-a)/4*2) (mA d (a+(b-a)/4*1) 0).2).2).1 (mA d (a+(b-a)/4*3) (mA d (a+(b-a)/4*2) (mA d (a+(b-a)/4*1) 0).2).2).2):=by
 unfold mA
 rw[show(0:Int)=((0:Nat):Int)from rfl,We _ _ _ O,We _ _ _ O,We _ _ _ O,Ue]
 unfold Go.Sort.choosePivot JU
 dsimp only
 rw[if_pos (show b-a>=8 by omega),if_pos (show b-a>=50 by omega)]
 generalize Go.Sort.median kA d _ _ _ _=r
 congr 1
 have k0:((r.2:Int)=0)=(r.2=0):=by apply propext;omega
 have k1:((r.2:Int)=12)=(r.2=12):=by apply propext;omega
 simp only[k0,k1]
 split
 ·rfl
 ·split<;>rfl
theorem Vo (d:Array Int) {n:Nat} (hn:d.size=n) (a b:Nat) (xD:12<b-a) (Z:b<=n) (hs:n<=100000):Fn prog 178 [D0 n,I a,I b] [(0,some (.ro (iA d.toList)))] 1 (.jA [I (Go.Sort.choosePivot kA d a b).1,I (UL (Go.Sort.choosePivot kA d a b).2)]) [] 1:=by
 have uG:=λh5=>Y6 (d:=d) xD h5
 have Wo:=λh5=>Z6 (d:=d) (a:=a) (b:=b) h5
 obtain⟨i1,wP⟩:∃i1,i1=a+(b-a)/4*1:=⟨_,rfl⟩
 obtain⟨i2,vC⟩:∃i2,i2=a+(b-a)/4*2:=⟨_,rfl⟩
 obtain⟨i3,j6⟩:∃i3,i3=a+(b-a)/4*3:=⟨_,rfl⟩
 rw[<-wP,<-vC,<-j6]at uG Wo
 have g8:(b:Int)-a=((b-a:Nat):Int):=O
 have g10:(a:Int)+((b:Int)-a)/4*1=(i1:Int):=O
 have g11:(a:Int)+((b:Int)-a)/4*2=(i2:Int):=O
 have g12:(a:Int)+((b:Int)-a)/4*3=(i3:Int):=O
 refine fm (KA 20829169751433159) func178 λw W G g=> ?_
 by_cases h5:b-a<50
 ·have hc:=uG h5
  have hr:=YZ (d:=d) (x:=i1) (y:=i2) (z:=i3) (s:=0) (lo:=0) (hi:=(n:Int)-1) O O O
  repeat' (first
   |refine mB (c:= .seq (.region 6 _ _) _) (l:=[]) (F':=[(0, .u (D0 n)),(8, .u (I ((b-a:Nat):Int))),(9, .u (.p 1 0)),(10, .u (I i1)),(11, .u (I i2)),(12, .u (I i3))]) (H':=[(0,some (.ro (iA d.toList))),(1,some (.st [I 0]))]) (n':=2) (OA.nil UA ⟨rfl,bB g8,rfl,bB g10,bB g11,bB g12,U⟩ ⟨HA,rfl,U⟩) ?_
   |refine tk ?_
   |refine And.intro (λZ=> ?_) UD
   |refine And.intro UD (λZ=> ?_)
   |(refine AB 215 ?_;refine cA.C (d:=d) 0 1 func215 rfl rfl (λ_=>Ve d hn _ _ _ _ O O O O) rfl rfl rfl (λ_=>⟨_,rfl,rfl⟩) (λ_=>rfl) ?_)
   |refine CA ?_|refine an ?_ ?_|(intro Z;try simp at Z))
  all_goals (unfold JU at hc;simp only[Prod.mk.injEq]at hc;refine iF ?_ qA;show SV.jA [_,_]=SV.jA [_,_];rw[hc.1,hc.2])
  ·rw[if_pos Z];rfl
  ·rw[if_neg (by assumption),if_neg (by simpa using Z)];rfl
 ·have hc:=Wo O
  unfold mA at hc
  have r1:=YZ (d:=d) (x:=(i1:Int)-1) (y:=i1) (z:=(i1:Int)+1) (s:=0) (lo:=0) (hi:=(n:Int)-1) O O O
  have r2:=YZ (d:=d) (x:=(i2:Int)-1) (y:=i2) (z:=(i2:Int)+1) (s:=(WI d ((i1:Int)-1) i1 ((i1:Int)+1) 0).2) (lo:=0) (hi:=(n:Int)-1) O O O
  have r3:=YZ (d:=d) (x:=(i3:Int)-1) (y:=i3) (z:=(i3:Int)+1) (s:=(WI d ((i2:Int)-1) i2 ((i2:Int)+1) (WI d ((i1:Int)-1) i1 ((i1:Int)+1) 0).2).2) (lo:=0) (hi:=(n:Int)-1) O O O
  repeat' (first
   |refine mB (c:= .seq (.region 6 _ _) _) (l:=[]) (F':=[(0, .u (D0 n)),(8, .u (I ((b-a:Nat):Int))),(9, .u (.p 1 0)),(10, .u (I i1)),(11, .u (I i2)),(12, .u (I i3))]) (H':=[(0,some (.ro (iA d.toList))),(1,some (.st [I 0]))]) (n':=2) (OA.nil UA ⟨rfl,bB g8,rfl,bB g10,bB g11,bB g12,U⟩ ⟨HA,rfl,U⟩) ?_
   |refine tk ?_
   |refine And.intro (λZ=> ?_) UD
   |refine And.intro UD (λZ=> ?_)
   |(refine AB 215 ?_;refine cA.C (d:=d) 0 1 func215 rfl rfl (λ_=>Ve d hn _ _ _ _ O O O O) rfl rfl rfl (λ_=>⟨_,rfl,rfl⟩) (λ_=>rfl) ?_)
   |(refine AB 214 ?_;refine cA.C (d:=d) 0 1 func214 rfl rfl (λ_=>X6 d hn _ _ O O O) rfl rfl rfl (λ_=>⟨_,rfl,rfl⟩) (λ_=>rfl) ?_)
   |refine CA ?_|refine an ?_ ?_|(intro Z;try simp at Z))
  all_goals (unfold JU at hc;simp only[Prod.mk.injEq]at hc;refine iF ?_ qA;show SV.jA [_,_]=SV.jA [_,_];rw[hc.1,hc.2])
  ·rw[if_pos Z];rfl
  ·rw[if_neg (by assumption),if_pos Z];rfl
  ·rw[if_neg (by assumption),if_neg (by simpa using Z)];rfl
abbrev tA (n:Nat):SV:= .v (.int .u64 n)
theorem uN {C:Cx} {o:Oper} {F:FS} {H:HS} {Y:Nat} {c0:Bool} {op:BinOp} {t t':TypeId} {x y:Operand} {u v z:Value} (h:c0=true->∀w,(do eqGuard op t x y u v;binOp op t u v:Sem Value).run C.P w= .ok z w) (ho:o.op= .binOp op t x y t') (hx:zB F c0 x λs=>s= .v u) (hy:zB F c0 y λs=>s= .v v):
  JB C.P C.w0 C.W C.N o F H Y c0 ⟨.v z,[],Y,[]⟩:=by
 obtain⟨_,rfl,hx⟩:=QC hx
 obtain⟨_,rfl,hy⟩:=QC hy
 refine JB.dH λhc F' G a w hF hS=> ?_
 have dx:=hx F' G a hc (hF x (by simp[ZB,ho,Op.operands])) hS
 have dy:=hy F' G a hc (hF y (by simp[ZB,ho,Op.operands])) hS
 simp only[aA]at dx dy
 have:=h hc w
 have e:execOp a.eval o=(do pure (.value (<-(do eqGuard op t x y (a.eval x) (a.eval y);binOp op t (a.eval x) (a.eval y):Sem Value))):Sem Next):=by
  simp[execOp,ho]
 rw[e,dx,dy,Sem.run_bind,this];rfl
theorem ZZ (n:Int):IntKind.u64.wrap n=n%18446744073709551616:=by simp[IntKind.wrap,IntKind.bits,IntKind.signed]
theorem Xe {P:Program} {t:TypeId} {x y:Operand} (a k:Nat) (hk:k<64) (w:World):(do eqGuard .shl t x y (.int .u64 a) (.int .u64 k);binOp .shl t (.int .u64 a) (.int .u64 k):Sem Value).run P w= .ok (.int .u64 ((a*2^k%18446744073709551616:Nat):Int)) w:=by
 have hm:min k 64=k:=O
 have e:IntKind.u64.wrap ((a:Int)*2^k)=((a*2^k%18446744073709551616:Nat):Int):=by
  rw[ZZ,show((a:Int)*2^k)=((a*2^k:Nat):Int)by push_cast;rfl];rfl
 have uJ:¬((k:Int)<0):=O
 simp only[eqGuard,binOp,Op.shift,IntKind.bits,uJ,if_false,Int.toNat_natCast,hm,e];simp
theorem o6 {P:Program} {t:TypeId} {x y:Operand} (a k:Nat) (hk:k<64) (w:World):(do eqGuard .shr t x y (.int .u64 a) (.int .u64 k);binOp .shr t (.int .u64 a) (.int .u64 k):Sem Value).run P w= .ok (.int .u64 ((a/2^k:Nat):Int)) w:=by
 have hm:min k 64=k:=O
 have e:(a:Int).fdiv (2^k)=((a/2^k:Nat):Int):=by
  rw[show((2:Int)^k)=((2^k:Nat):Int)by push_cast;rfl,Int.fdiv_eq_ediv_of_nonneg _ (Int.natCast_nonneg _)];rfl
 have uJ:¬((k:Int)<0):=O
 simp only[eqGuard,binOp,Op.shift,IntKind.bits,uJ,if_false,Int.toNat_natCast,hm,e];simp
theorem Ye {P:Program} {t:TypeId} {x y:Operand} (a b:Nat) (ha:a<18446744073709551616) (Z:b<18446744073709551616) (w:World):(do eqGuard .xor t x y (.int .u64 a) (.int .u64 b);binOp .xor t (.int .u64 a) (.int .u64 b):Sem Value).run P w= .ok (.int .u64 ((a^^^b:Nat):Int)) w:=by
 have hl:a^^^b<2^64:=Nat.xor_lt_two_pow O O
 have e:IntKind.u64.wrap (((BitVec.ofNat 64 a^^^BitVec.ofNat 64 b).toNat:Nat):Int)=((a^^^b:Nat):Int):=by
  rw[BitVec.toNat_xor,BitVec.toNat_ofNat,BitVec.toNat_ofNat,Nat.mod_eq_of_lt O,Nat.mod_eq_of_lt O,ZZ]
  omega
 simp[eqGuard,binOp,Op.intBits,IntKind.bits]
 exact e
theorem r6 {P:Program} {t:TypeId} {x y:Operand} (a b:Nat) (ha:a<18446744073709551616) (Z:b<18446744073709551616) (w:World):(do eqGuard .and t x y (.int .u64 a) (.int .u64 b);binOp .and t (.int .u64 a) (.int .u64 b):Sem Value).run P w= .ok (.int .u64 ((a&&&b:Nat):Int)) w:=by
 have hl:a&&&b<=a:=Nat.and_le_left
 have e:IntKind.u64.wrap (((BitVec.ofNat 64 a&&&BitVec.ofNat 64 b).toNat:Nat):Int)=((a&&&b:Nat):Int):=by
  rw[BitVec.toNat_and,BitVec.toNat_ofNat,BitVec.toNat_ofNat,Nat.mod_eq_of_lt O,Nat.mod_eq_of_lt O,ZZ]
  omega
 simp[eqGuard,binOp,Op.intBits,IntKind.bits]
 exact e
theorem u6 (k:Nat) (h:k<256):Fn prog 174 [tA k] [] 0 (I (Go.Sort.bitsLen k)) [] 0:=by
 refine fm (KA 16661) func174 λw W G g=> ?_
 repeat' (first
  |refine tk ?_
  |refine And.intro UD (λZ=> ?_)
  |refine And.intro (λ_=>by show 0<=(k:Int)/\(k:Int)<256;omega) ?_
  |refine And.intro (λ_=>NO (by have:=aY;unfold zA;grind)) ?_
  |refine And.intro (λ_=>by have:=aY;unfold zA;grind) ?_
  |refine CA ?_|refine an ?_ ?_|(intro Z;try simp at Z))
 refine DB ?_ qA
 refine congrArg (λz:Int=>SV.v (.int .i64 z)) ?_
 revert k
 decide +kernel
theorem Xo (k:Nat) (h:k<256):Fn prog 125 [tA k] [] 0 (I (Go.Sort.bitsLen k)) [] 0:=by
 refine fm (KA 5) func125 λw W G g=> ?_
 repeat' (first
  |refine tk ?_
  |refine cz 174 func174 (λ_=>u6 k h) ?_
  |refine CA ?_|refine an ?_ ?_|(intro Z;try simp at Z))
 exact DB rfl qA
theorem Yo (k:Nat) (h:k<256):Go.Sort.bitsLen k<=8:=by revert k;decide +kernel
theorem w6 (k:Nat) (h:k<256):Fn prog 212 [I k] [] 0 (tA (1<<<Go.Sort.bitsLen k)) [] 0:=by
 have Z:=Yo k h
 have hp:2^Go.Sort.bitsLen k<=2^8:=Nat.pow_le_pow_right O Z
 refine fm (KA 13) func212 λw W G g=> ?_
 repeat' (first
  |refine tk ?_
  |refine cz 125 func125 (λ_=>Xo k h) ?_
  |refine⟨_,uN (u:= .int .u64 ((1:Nat):Int)) (λ_ w=>Xe 1 (Go.Sort.bitsLen k) O w) rfl rfl rfl,?_⟩
  |refine CA ?_|refine an ?_ ?_|(intro Z;try simp at Z))
 refine DB ?_ qA
 refine congrArg (λz:Nat=>SV.v (.int .u64 z)) ?_
 rw[Nat.one_mul,Nat.mod_eq_of_lt O,Nat.one_shiftLeft]
theorem x6 (VB:Nat) (h:VB<18446744073709551616):Fn prog 213 [.p 0 0] [(0,some (.st [tA VB]))] 1 (tA (Go.Sort.xorNextN VB)) [(0,some (.st [tA (Go.Sort.xorNextN VB)]))] 1:=by
 obtain⟨sB,hA⟩:∃sB:Nat,sB=VB^^^(VB*2^13%18446744073709551616):=⟨_,rfl⟩
 obtain⟨B,hB⟩:∃B:Nat,B=sB^^^(sB/2^7):=⟨_,rfl⟩
 have lA:sB<18446744073709551616:=by rw[hA];exact Nat.xor_lt_two_pow (n:=64) O O
 have lB:B<18446744073709551616:=by rw[hB];exact Nat.xor_lt_two_pow (n:=64) O (by have:=Nat.div_le_self sB (2^7);omega)
 have hv:Go.Sort.xorNextN VB=B^^^(B*2^17%18446744073709551616):=by rw[hB,hA];rfl
 have l1:VB*2^13%18446744073709551616<18446744073709551616:=Nat.mod_lt _ O
 have l2:sB/2^7<18446744073709551616:=by have:=Nat.div_le_self sB (2^7);omega
 have l3:B*2^17%18446744073709551616<18446744073709551616:=Nat.mod_lt _ O
 refine fm (KA 5) func213 λw W G g=> ?_
 repeat' (first
  |refine tk ?_
  |refine⟨_,uN (v:= .int .u64 ((13:Nat):Int)) (λ_ w=>Xe VB 13 O w) rfl rfl rfl,?_⟩
  |(refine⟨_,uN (λ_ w=>Ye VB _ h l1 w) rfl rfl rfl,?_⟩;rw[<-hA])
  |refine⟨_,uN (v:= .int .u64 ((7:Nat):Int)) (λ_ w=>o6 sB 7 O w) rfl rfl rfl,?_⟩
  |(refine⟨_,uN (λ_ w=>Ye sB _ lA l2 w) rfl rfl rfl,?_⟩;rw[<-hB])
  |refine⟨_,uN (v:= .int .u64 ((17:Nat):Int)) (λ_ w=>Xe B 17 O w) rfl rfl rfl,?_⟩
  |(refine⟨_,uN (λ_ w=>Ye B _ lB l3 w) rfl rfl rfl,?_⟩;rw[<-hv])
  |refine CA ?_|refine an ?_ ?_|(intro Z;try simp at Z))
 exact⟨[],OA.nil UA ⟨rfl,U⟩ ⟨rfl,U⟩⟩
theorem z6 {P:Program} {t:TypeId} {x y:Operand} (a b:Nat) (ha:a<18446744073709551616) (Z:b<=a) (w:World):(do eqGuard .sub t x y (.int .u64 a) (.int .u64 b);binOp .sub t (.int .u64 a) (.int .u64 b):Sem Value).run P w= .ok (.int .u64 ((a-b:Nat):Int)) w:=by
 have e:IntKind.u64.wrap ((a:Int)- (b:Int))=((a-b:Nat):Int):=by rw[ZZ];omega
 simp[eqGuard,binOp,Op.intArith,e]
def FN (d:Array Int) (a L M:Nat):Nat->UInt64×Array Int
 |0=>(UInt64.ofNat L,d)
 |t+1=>Go.Sort.breakStep a L M (FN d a L M t) (a+L/4*2-1+t)
theorem Zo (d:Array Int) (a L M:Nat):∀t,(FN d a L M t).2.size=d.size
 |0=>rfl
 |t+1=>by
  have:=Zo d a L M t
  simp only[FN,Go.Sort.breakStep,swp_size];exact this
theorem Ze {LA:Nat->Nat} {H:HS} {b:Nat} {xs ys:List SV} (h:WA H (LA b)=some (.st xs)) (hx:xs=YA LA ys):aE LA H b (.st ys):=by
 show _=some (DA.st (YA LA ys));rw[h,hx]
def ao (d:Array Int) (n a L M:Nat):MB {t:Nat//t<=3}where
 F t:=[(0, .u (D0 n)),(1, .u (I a)),(6, .u (I L)),(7, .u (.p 1 0)),(8, .u (tA M)),(9, .u (I ((a+L/4*2-1+t.1:Nat):Int)))]
 H t:=[(0,some (RT (FN d a L M t.1).2)),(1,some (.st [tA (FN d a L M t.1).1.toNat]))]
 n t:=2
theorem A7 {L x:Nat} (h8:8<=L):x&&&((1<<<Go.Sort.bitsLen L)-1)<2*L:=by
 have D:=Go.Sort.two_pow_bitsLen_le (n:=L) O
 have h2:x&&&((1<<<Go.Sort.bitsLen L)-1)<=(1<<<Go.Sort.bitsLen L)-1:=Nat.and_le_right
 have h3:=Nat.two_pow_pos (Go.Sort.bitsLen L)
 rw[Nat.one_shiftLeft]at h2⊢
 omega
theorem bo (d:Array Int) {n:Nat} (hn:d.size=n) (a b:Nat) (xD:12<b-a) (Z:b<=n) (hs:n<=200):Fn prog 177 [D0 n,I a,I b] [(0,some (RT d))] 1 (.jA []) [(0,some (RT (Go.Sort.breakPatterns d a b)))] 1:=by
 obtain⟨L,hL⟩:∃L,L=b-a:=⟨_,rfl⟩
 obtain⟨M,hM⟩:∃M,M=1<<<Go.Sort.bitsLen L:=⟨_,rfl⟩
 have g6:(b:Int)-a=(L:Int):=O
 have aZ:Go.Sort.breakPatterns d a b=(FN d a L M 3).2:=by
  unfold Go.Sort.breakPatterns
  rw[<-hL]
  dsimp only
  rw[if_pos O,<-hM];rfl
 have vF:M<=2*L:=by rw[hM,Nat.one_shiftLeft];exact Go.Sort.two_pow_bitsLen_le O
 have YY:0<M:=by rw[hM,Nat.one_shiftLeft];exact Nat.two_pow_pos _
 rw[aZ]
 refine fm (KA 8804682991559) func177 λw W G g=> ?_
 repeat' (first
  |refine mB (c:= .seq (.region 1 _ _) _) (l:=[]) (F':=[(0, .u (D0 n)),(1, .u (I a)),(6, .u (I L))]) (H':=[(0,some (RT d))]) (n':=1) (OA.nil UA ⟨rfl,rfl,bB g6,U⟩ ⟨pB rfl rfl,U⟩) ?_
  |refine tk ?_
  |refine And.intro (λZ=> ?_) UD
  |refine cz 212 func212 (λ_=>w6 L O) ?_
  |refine CA ?_|refine an ?_ ?_|(intro Z;try simp at Z))
 refine FB (ao d n a L M) (λt=>3-t.1) ?_ ?_
 ·exact⟨⟨0,O⟩,[],U,OA.nil UA ⟨rfl,rfl,rfl,rfl,by rw[hM];rfl,bB (show(a:Int)+(L:Int)/4*2-1=((a+L/4*2-1+0:Nat):Int)by omega),U⟩ ⟨pB rfl rfl,Ze rfl (by show[tA L]=[tA (UInt64.ofNat L).toNat];rw[show(UInt64.ofNat L).toNat=L by rw[UInt64.toNat_ofNat'];exact Nat.mod_eq_of_lt O]),U⟩⟩
 ·rintro⟨t,ht⟩
  intro F H Y hF hH hn;dsimp only[ao]at hF hH hn;subst hF hH hn
  have hz:=Zo d a L M t
  have RW:FN d a L M (t+1)=Go.Sort.breakStep a L M (FN d a L M t) (a+L/4*2-1+t):=rfl
  rw[hn]at hz
  generalize hS:FN d a L M t=S at*
  obtain⟨r,q⟩:=S
  dsimp only at*
  have hX:=r.toNat_lt
  have B7:=Go.Sort.xorNextN_lt _ hX
  have ho:=A7 (L:=L) (x:=Go.Sort.xorNextN r.toNat) O
  rw[<-hM]at ho
  repeat' (first
   |refine tk ?_
   |refine cf 213 [1] (tA (Go.Sort.xorNextN r.toNat)) [(1,some (.st [tA (Go.Sort.xorNextN r.toNat)]))] func213 (λ_=>x6 _ hX) (λ_=>⟨rfl,U⟩) (by simp[ED,iC,KE,WA,lD,mp,DA.IB,YA,SV.IB]) ?_
   |refine⟨_,uN (v:= .int .u64 ((1:Nat):Int)) (λ_ w=>z6 M 1 O O w) rfl rfl rfl,?_⟩
   |refine⟨_,uN (λ_ w=>r6 _ (M-1) B7 O w) rfl rfl rfl,?_⟩
   |(refine XF (f:=295) (T:=133) TL rfl (by first|rfl|exact⟨UB.refl _,rfl⟩) (by first|rfl|exact⟨UB.refl _,UB.refl _,rfl⟩) ?_;refine cA.T (d:=q) 0 func295 rfl rfl (λhc=>RL q hz _ _ (by first|omega|(simp at hc;omega)) (by first|omega|(simp at hc;omega))) rfl rfl rfl (λ_=>rfl) ?_)
   |refine CA ?_|refine an ?_ ?_|(intro Z;try simp at Z))
  ·have cG:FN d a L M (t+1)=(Go.Sort.xorNext r,Go.Sort.swp q (a+L/4*2-1+t) (a+((Go.Sort.xorNextN r.toNat&&&M-1)-L))):=by
    rw[RW];simp only[Go.Sort.breakStep,Go.Sort.xorNext_toNat];rw[if_pos Z]
   exact⟨⟨t+1,O⟩,[],show 3- (t+1)<3-t by omega,OA.nil UA ⟨rfl,rfl,rfl,rfl,rfl,bB (show((a+L/4*2-1+t:Nat):Int)+1=((a+L/4*2-1+(t+1):Nat):Int)by omega),U⟩ ⟨pB rfl (by rw[cG,Int.toNat_natCast,show((a:Int)+(((Go.Sort.xorNextN r.toNat&&&M-1:Nat):Int)- (L:Int))).toNat=a+((Go.Sort.xorNextN r.toNat&&&M-1)-L)by omega]),Ze rfl (by rw[cG];show[tA _]=[tA (Go.Sort.xorNext r).toNat];rw[Go.Sort.xorNext_toNat]),U⟩⟩
  ·have cG:FN d a L M (t+1)=(Go.Sort.xorNext r,Go.Sort.swp q (a+L/4*2-1+t) (a+(Go.Sort.xorNextN r.toNat&&&M-1))):=by
    rw[RW];simp only[Go.Sort.breakStep,Go.Sort.xorNext_toNat];rw[if_neg O]
   exact⟨⟨t+1,O⟩,[],show 3- (t+1)<3-t by omega,OA.nil UA ⟨rfl,rfl,rfl,rfl,rfl,bB (show((a+L/4*2-1+t:Nat):Int)+1=((a+L/4*2-1+(t+1):Nat):Int)by omega),U⟩ ⟨pB rfl (by rw[cG,Int.toNat_natCast,show((a:Int)+((Go.Sort.xorNextN r.toNat&&&M-1:Nat):Int)).toNat=a+(Go.Sort.xorNextN r.toNat&&&M-1)by omega]),Ze rfl (by rw[cG];show[tA _]=[tA (Go.Sort.xorNext r).toNat];rw[Go.Sort.xorNext_toNat]),U⟩⟩
  ·have h3:t=3:=O
   subst h3
   exact⟨[],OA.nil UA ⟨rfl,U⟩ ⟨pB rfl (by rw[hS]),U⟩⟩
theorem ae {p:Int->Bool} {d:Array Int} {i j:Nat} (h:i<=j) (h':p d[i]! =true):Go.Sort.scanUp p d j i=Go.Sort.scanUp p d j (i+1):=by
 rw[Go.Sort.scanUp,if_pos];simp only[Bool.and_eq_true,decide_eq_true_eq];exact⟨h,h'⟩
theorem de {p:Int->Bool} {d:Array Int} {i j:Nat} (h:i<=j->p d[i]! =false):Go.Sort.scanUp p d j i=i:=by
 rw[Go.Sort.scanUp,if_neg];simp only[Bool.and_eq_true,decide_eq_true_eq,not_and,Bool.not_eq_true];exact h
theorem ee {p:Int->Bool} {d:Array Int} {i j:Nat} (h:i<=j) (h0:1<=j) (h':p d[j]! =true):Go.Sort.scanDown p d i j=Go.Sort.scanDown p d i (j-1):=by
 obtain⟨m,rfl⟩:∃m,j=m+1:=⟨j-1,O⟩
 rw[Go.Sort.scanDown,if_pos];rfl
 simp only[Bool.and_eq_true,decide_eq_true_eq];exact⟨h,h'⟩
theorem KU {p:Int->Bool} {d:Array Int} {i j:Nat} (h:i<=j->p d[j]! =false):Go.Sort.scanDown p d i j=j:=by
 cases j with
 |zero=>rfl
 |succ m=>
  rw[Go.Sort.scanDown,if_neg]
  simp only[Bool.and_eq_true,decide_eq_true_eq,not_and,Bool.not_eq_true];exact h
abbrev pL (d:Array Int) (a:Nat):Int->Bool:=λx=>kA x d[a]!
abbrev pG (d:Array Int) (a:Nat):Int->Bool:=λx=> !kA x d[a]!
def bZ (d:Array Int) (n a j i0:Nat):MB {i:Nat//i0<=i/\(i<=j+1\/i=i0)/\Go.Sort.scanUp (pL d a) d j i=Go.Sort.scanUp (pL d a) d j i0}where
 F i:=[(0, .u (D0 n)),(1, .u (I a)),(10, .u (I i.1)),(11, .u (I j))]
 H i:=[(0,some (RT d))]
 n i:=1
def cZ (d:Array Int) (n a i j0:Nat):MB {j:Nat//j<=j0/\(i<=j+1\/j=j0)/\Go.Sort.scanDown (pG d a) d i j=Go.Sort.scanDown (pG d a) d i j0}where
 F j:=[(0, .u (D0 n)),(1, .u (I a)),(10, .u (I i)),(11, .u (I j.1))]
 H j:=[(0,some (RT d))]
 n j:=1
def eo (n a b i0 j0:Nat) (d0:Array Int):MB {p:Nat×Nat×Array Int//a+1<=p.1/\p.1<=p.2.1+2/\a<=p.2.1/\p.2.1<b/\p.2.2.size=n/\Go.Sort.partLoop kA a p.1 p.2.1 p.2.2=Go.Sort.partLoop kA a i0 j0 d0}where
 F p:=[(0, .u (D0 n)),(1, .u (I a)),(10, .u (I p.1.1)),(11, .u (I p.1.2.1))]
 H p:=[(0,some (RT p.1.2.2))]
 n p:=1
theorem partLoop_eq {a i j i2 j2:Nat} {q:Array Int} (vC:i2=Go.Sort.scanUp (pL q a) q j i) (vB:j2=Go.Sort.scanDown (pG q a) q i2 j) (D:i<=i2) (h2:j2<=j):
  Go.Sort.partLoop kA a i j q=if i2>j2 then(j2,q)else Go.Sort.partLoop kA a (i2+1) (j2-1) (Go.Sort.swp q i2 j2):=by
 rw[Go.Sort.partLoop]
 have e1:Go.Sort.scanUp (λx=>kA x q[a]!) q j i=i2:=vC.symm
 have e2:Go.Sort.scanDown (λx=> !kA x q[a]!) q i2 j=j2:=vB.symm
 simp only[e1,e2]
 by_cases h:i2>j2
 ·rw[if_pos h,if_pos h]
 ·rw[if_neg h,if_neg h,dif_pos O]
theorem C7 (d:Array Int) {n:Nat} (hn:d.size=n) (a b pv:Nat) (xD:a+1<b) (Z:b<=n) (hp:a<=pv/\pv<b) (hs:n<=100000):
  Fn prog 182 [D0 n,I a,I b,I pv] [(0,some (RT d))] 1 (.jA [I (Go.Sort.partition kA d a b pv).1,B (Go.Sort.partition kA d a b pv).2.1]) [(0,some (RT (Go.Sort.partition kA d a b pv).2.2))] 1:=by
 obtain⟨d1,vG⟩:∃d1,d1=Go.Sort.swp d a pv:=⟨_,rfl⟩
 have cG:d1.size=n:=by rw[vG,swp_size];exact hn
 obtain⟨i1,wP⟩:∃i1,i1=Go.Sort.scanUp (pL d1 a) d1 (b-1) (a+1):=⟨_,rfl⟩
 obtain⟨j1,UJ⟩:∃j1,j1=Go.Sort.scanDown (pG d1 a) d1 i1 (b-1):=⟨_,rfl⟩
 have aZ:Go.Sort.partition kA d a b pv=if i1>j1 then(j1,true,Go.Sort.swp d1 j1 a)else((Go.Sort.partLoop kA a (i1+1) (j1-1) (Go.Sort.swp d1 i1 j1)).1,false,Go.Sort.swp (Go.Sort.partLoop kA a (i1+1) (j1-1) (Go.Sort.swp d1 i1 j1)).2 (Go.Sort.partLoop kA a (i1+1) (j1-1) (Go.Sort.swp d1 i1 j1)).1 a):=by
  unfold Go.Sort.partition
  rw[UJ,wP,vG]
 rw[aZ]
 refine fm (KA 19947423597630255211220751) func182 λw W G g=> ?_
 repeat' (first
  |refine tk ?_
  |(refine XF (f:=295) (T:=133) TL rfl (by first|rfl|exact⟨UB.refl _,rfl⟩) (by first|rfl|exact⟨UB.refl _,UB.refl _,rfl⟩) ?_;refine cA.T (d:=d) 0 func295 rfl rfl (λhc=>RL d hn _ _ (by first|omega|(simp at hc;omega)) (by first|omega|(simp at hc;omega))) rfl rfl rfl (λ_=>rfl) ?_)
  |refine CA ?_|refine an ?_ ?_|(intro Z;try simp at Z))
 refine FB (bZ d1 n a (b-1) (a+1)) (λi=>b-i.1) ?_ ?_
 ·exact⟨⟨a+1,O,O,rfl⟩,[],U,OA.nil UA ⟨rfl,rfl,rfl,bB (show(b:Int)-1=((b-1:Nat):Int)by omega),U⟩ ⟨pB rfl (by rw[vG];simp only[Int.toNat_natCast]),U⟩⟩
 ·rintro⟨i,D,h2,h3⟩
  intro F H Y hF hH hn;dsimp only[bZ]at hF hH hn;subst hF hH hn
  repeat' (first
   |refine tk ?_
   |(refine XF (f:=294) (T:=133) SL rfl (by first|rfl|exact⟨UB.refl _,rfl⟩) (by first|rfl|exact⟨UB.refl _,UB.refl _,rfl⟩) ?_;refine cA.R [0] func294 rfl rfl (λhc=>QL d1 cG _ _ (by first|omega|(simp at hc;omega)) (by first|omega|(simp at hc;omega))) rfl rfl rfl wG rfl ?_)
   |refine CA ?_|refine an ?_ ?_|(intro Z;try simp at Z))
  ·exact⟨⟨i+1,O,O,(ae O (by simpa using Z.2)).symm.trans h3⟩,[],show b- (i+1)<b-i by omega,OA.nil UA ⟨rfl,rfl,rfl,rfl,U⟩ ⟨pB rfl rfl,U⟩⟩
  ·have hi:i=i1:=by rw[wP,<-h3,de];simpa using Z
   rw[hi]at D h2⊢
   refine FB (cZ d1 n a i1 (b-1)) (λj=>j.1) ?_ ?_
   ·exact⟨⟨b-1,O,O,rfl⟩,[],U,OA.nil UA ⟨rfl,rfl,rfl,rfl,U⟩ ⟨pB rfl rfl,U⟩⟩
   ·rintro⟨j,k1,k2,k3⟩
    intro F H Y hF hH hn;dsimp only[cZ]at hF hH hn;subst hF hH hn
    repeat' (first
     |refine tk ?_
     |(refine XF (f:=294) (T:=133) SL rfl (by first|rfl|exact⟨UB.refl _,rfl⟩) (by first|rfl|exact⟨UB.refl _,UB.refl _,rfl⟩) ?_;refine cA.R [0] func294 rfl rfl (λhc=>QL d1 cG _ _ (by first|omega|(simp at hc;omega)) (by first|omega|(simp at hc;omega))) rfl rfl rfl wG rfl ?_)
     |(refine XF (f:=295) (T:=133) TL rfl (by first|rfl|exact⟨UB.refl _,rfl⟩) (by first|rfl|exact⟨UB.refl _,UB.refl _,rfl⟩) ?_;refine cA.T (d:=d1) 0 func295 rfl rfl (λhc=>RL d1 cG _ _ (by first|omega|(simp at hc;omega)) (by first|omega|(simp at hc;omega))) rfl rfl rfl (λ_=>rfl) ?_)
     |refine CA ?_|refine an ?_ ?_|(intro Z;try simp at Z))
    ·exact⟨⟨j-1,O,O,(ee Z.1 O (by simpa using Z.2)).symm.trans k3⟩,[],show j-1<j by omega,OA.nil UA ⟨rfl,rfl,rfl,bB (show(j:Int)-1=((j-1:Nat):Int)by omega),U⟩ ⟨pB rfl rfl,U⟩⟩
    ·rename_i g1
     have hj:j=j1:=by rw[UJ,<-k3,KU];simpa using g1
     rw[if_pos (show i1>j1 by omega),hj]
     exact⟨[],OA.nil UA ⟨rfl,U⟩ ⟨pB rfl (by simp only[Int.toNat_natCast]),U⟩⟩
    ·rename_i g1
     have hj:j=j1:=by rw[UJ,<-k3,KU];simpa using g1
     rw[if_neg (show¬i1>j1 by omega),hj]
     rw[hj]at Z k1 k2
     clear aZ k3 g1 h3
     refine FB (eo n a b (i1+1) (j1-1) (Go.Sort.swp d1 i1 j1)) (λp=>p.1.2.1+2-p.1.1) ?_ ?_
     ·exact⟨⟨(i1+1,j1-1,Go.Sort.swp d1 i1 j1),by dsimp only;omega,by dsimp only;omega,by dsimp only;omega,by dsimp only;omega,(swp_size _ _ _).trans cG,rfl⟩,[],U,OA.nil UA ⟨rfl,rfl,rfl,bB (show(j1:Int)-1=((j1-1:Nat):Int)by omega),U⟩ ⟨pB rfl (by simp only[Int.toNat_natCast]),U⟩⟩
     ·rintro⟨⟨i,j,q⟩,m1,m2,m3,m4,m5,m6⟩
      intro F H Y hF hH hn;dsimp only[eo]at hF hH hn;subst hF hH hn
      dsimp only at m1 m2 m3 m4 m5 m6
      repeat' (first
       |refine tk ?_
       |refine CA ?_|refine an ?_ ?_|(intro Z;try simp at Z))
      refine FB (bZ q n a j i) (λi=>b+2-i.1) ?_ ?_
      ·exact⟨⟨i,O,O,rfl⟩,[],U,OA.nil UA ⟨rfl,rfl,rfl,rfl,U⟩ ⟨pB rfl rfl,U⟩⟩
      ·rintro⟨i',kM,JR,gP⟩
       intro F H Y hF hH hn;dsimp only[bZ]at hF hH hn;subst hF hH hn
       repeat' (first
        |refine tk ?_
        |(refine XF (f:=294) (T:=133) SL rfl (by first|rfl|exact⟨UB.refl _,rfl⟩) (by first|rfl|exact⟨UB.refl _,UB.refl _,rfl⟩) ?_;refine cA.R [0] func294 rfl rfl (λhc=>QL q m5 _ _ (by first|omega|(simp at hc;omega)) (by first|omega|(simp at hc;omega))) rfl rfl rfl wG rfl ?_)
        |refine CA ?_|refine an ?_ ?_|(intro Z;try simp at Z))
       ·exact⟨⟨i'+1,O,O,(ae O (by simpa using Z.2)).symm.trans gP⟩,[],show b+2- (i'+1)<b+2-i' by omega,OA.nil UA ⟨rfl,rfl,rfl,rfl,U⟩ ⟨pB rfl rfl,U⟩⟩
       ·have vC:i'=Go.Sort.scanUp (pL q a) q j i:=by rw[<-gP,de];simpa using Z
        refine FB (cZ q n a i' j) (λj=>j.1) ?_ ?_
        ·exact⟨⟨j,O,O,rfl⟩,[],U,OA.nil UA ⟨rfl,rfl,rfl,rfl,U⟩ ⟨pB rfl rfl,U⟩⟩
        ·rintro⟨j',aW,D7,pR⟩
         intro F H Y hF hH hn;dsimp only[cZ]at hF hH hn;subst hF hH hn
         repeat' (first
          |refine tk ?_
          |(refine XF (f:=294) (T:=133) SL rfl (by first|rfl|exact⟨UB.refl _,rfl⟩) (by first|rfl|exact⟨UB.refl _,UB.refl _,rfl⟩) ?_;refine cA.R [0] func294 rfl rfl (λhc=>QL q m5 _ _ (by first|omega|(simp at hc;omega)) (by first|omega|(simp at hc;omega))) rfl rfl rfl wG rfl ?_)
          |(refine XF (f:=295) (T:=133) TL rfl (by first|rfl|exact⟨UB.refl _,rfl⟩) (by first|rfl|exact⟨UB.refl _,UB.refl _,rfl⟩) ?_;refine cA.T (d:=q) 0 func295 rfl rfl (λhc=>RL q m5 _ _ (by first|omega|(simp at hc;omega)) (by first|omega|(simp at hc;omega))) rfl rfl rfl (λ_=>rfl) ?_)
          |refine CA ?_|refine an ?_ ?_|(intro Z;try simp at Z))
         ·exact⟨⟨j'-1,O,O,(ee Z.1 O (by simpa using Z.2)).symm.trans pR⟩,[],show j'-1<j' by omega,OA.nil UA ⟨rfl,rfl,rfl,bB (show(j':Int)-1=((j'-1:Nat):Int)by omega),U⟩ ⟨pB rfl rfl,U⟩⟩
         ·rename_i g1
          have vB:j'=Go.Sort.scanDown (pG q a) q i' j:=by rw[<-pR,KU];simpa using g1
          have IG:=partLoop_eq vC vB kM aW
          rw[if_pos (show i'>j' by omega)]at IG
          rw[IG]at m6
          rw[<-m6]
          exact⟨[],OA.nil UA ⟨rfl,U⟩ ⟨pB rfl (by simp only[Int.toNat_natCast]),U⟩⟩
         ·rename_i g1
          have vB:j'=Go.Sort.scanDown (pG q a) q i' j:=by rw[<-pR,KU];simpa using g1
          have IG:=partLoop_eq vC vB kM aW
          rw[if_neg (show¬i'>j' by omega)]at IG
          rw[IG]at m6
          exact⟨⟨(i'+1,j'-1,Go.Sort.swp q i' j'),by dsimp only;omega,by dsimp only;omega,by dsimp only;omega,by dsimp only;omega,(swp_size _ _ _).trans m5,m6⟩,[],show j'-1+2- (i'+1)<j+2-i by omega,OA.nil UA ⟨rfl,rfl,rfl,bB (show(j':Int)-1=((j'-1:Nat):Int)by omega),U⟩ ⟨pB rfl (by simp only[Int.toNat_natCast]),U⟩⟩
abbrev qU (d:Array Int) (a:Nat):Int->Bool:=λx=> !kA d[a]! x
abbrev qD (d:Array Int) (a:Nat):Int->Bool:=λx=>kA d[a]! x
def fo (d:Array Int) (n a j i0:Nat):MB {i:Nat//i0<=i/\(i<=j+1\/i=i0)/\Go.Sort.scanUp (qU d a) d j i=Go.Sort.scanUp (qU d a) d j i0}where
 F i:=[(0, .u (D0 n)),(1, .u (I a)),(9, .u (I i.1)),(10, .u (I j))]
 H i:=[(0,some (RT d))]
 n i:=1
def io (d:Array Int) (n a i j0:Nat):MB {j:Nat//j<=j0/\(i<=j+1\/j=j0)/\Go.Sort.scanDown (qD d a) d i j=Go.Sort.scanDown (qD d a) d i j0}where
 F j:=[(0, .u (D0 n)),(1, .u (I a)),(9, .u (I i)),(10, .u (I j.1))]
 H j:=[(0,some (RT d))]
 n j:=1
def jo (n a b i0 j0:Nat) (d0:Array Int):MB {p:Nat×Nat×Array Int//a+1<=p.1/\p.1<=p.2.1+2/\a<=p.2.1/\p.2.1<b/\p.2.2.size=n/\Go.Sort.partEqLoop kA a p.1 p.2.1 p.2.2=Go.Sort.partEqLoop kA a i0 j0 d0}where
 F p:=[(0, .u (D0 n)),(1, .u (I a)),(9, .u (I p.1.1)),(10, .u (I p.1.2.1))]
 H p:=[(0,some (RT p.1.2.2))]
 n p:=1
theorem partEqLoop_eq {a i j i2 j2:Nat} {q:Array Int} (vC:i2=Go.Sort.scanUp (qU q a) q j i) (vB:j2=Go.Sort.scanDown (qD q a) q i2 j) (D:i<=i2) (h2:j2<=j):
  Go.Sort.partEqLoop kA a i j q=if i2>j2 then(i2,q)else Go.Sort.partEqLoop kA a (i2+1) (j2-1) (Go.Sort.swp q i2 j2):=by
 rw[Go.Sort.partEqLoop]
 have e1:Go.Sort.scanUp (λx=> !kA q[a]! x) q j i=i2:=vC.symm
 have e2:Go.Sort.scanDown (λx=>kA q[a]! x) q i2 j=j2:=vB.symm
 simp only[e1,e2]
 by_cases h:i2>j2
 ·rw[if_pos h,if_pos h]
 ·rw[if_neg h,if_neg h,dif_pos O]
theorem E7 (d:Array Int) {n:Nat} (hn:d.size=n) (a b pv:Nat) (xD:a+1<b) (Z:b<=n) (hp:a<=pv/\pv<b) (hs:n<=100000):
  Fn prog 181 [D0 n,I a,I b,I pv] [(0,some (RT d))] 1 (I (Go.Sort.partitionEqual kA d a b pv).1) [(0,some (RT (Go.Sort.partitionEqual kA d a b pv).2))] 1:=by
 unfold Go.Sort.partitionEqual
 refine fm (KA 18142210295567) func181 λw W G g=> ?_
 repeat' (first
  |refine tk ?_
  |(refine XF (f:=295) (T:=133) TL rfl (by first|rfl|exact⟨UB.refl _,rfl⟩) (by first|rfl|exact⟨UB.refl _,UB.refl _,rfl⟩) ?_;refine cA.T (d:=d) 0 func295 rfl rfl (λhc=>RL d hn _ _ (by first|omega|(simp at hc;omega)) (by first|omega|(simp at hc;omega))) rfl rfl rfl (λ_=>rfl) ?_)
  |refine CA ?_|refine an ?_ ?_|(intro Z;try simp at Z))
 refine FB (jo n a b (a+1) (b-1) (Go.Sort.swp d a pv)) (λp=>p.1.2.1+2-p.1.1) ?_ ?_
 ·exact⟨⟨(a+1,b-1,Go.Sort.swp d a pv),by dsimp only;omega,by dsimp only;omega,by dsimp only;omega,by dsimp only;omega,(swp_size _ _ _).trans hn,rfl⟩,[],U,OA.nil UA ⟨rfl,rfl,rfl,bB (show(b:Int)-1=((b-1:Nat):Int)by omega),U⟩ ⟨pB rfl (by simp only[Int.toNat_natCast]),U⟩⟩
 ·rintro⟨⟨i,j,q⟩,m1,m2,m3,m4,m5,m6⟩
  intro F H Y hF hH hn;dsimp only[jo]at hF hH hn;subst hF hH hn
  dsimp only at m1 m2 m3 m4 m5 m6
  repeat' (first
   |refine tk ?_
   |refine CA ?_|refine an ?_ ?_|(intro Z;try simp at Z))
  refine FB (fo q n a j i) (λi=>b+2-i.1) ?_ ?_
  ·exact⟨⟨i,O,O,rfl⟩,[],U,OA.nil UA ⟨rfl,rfl,rfl,rfl,U⟩ ⟨pB rfl rfl,U⟩⟩
  ·rintro⟨i',kM,JR,gP⟩
   intro F H Y hF hH hn;dsimp only[fo]at hF hH hn;subst hF hH hn
   repeat' (first
    |refine tk ?_
    |(refine XF (f:=294) (T:=133) SL rfl (by first|rfl|exact⟨UB.refl _,rfl⟩) (by first|rfl|exact⟨UB.refl _,UB.refl _,rfl⟩) ?_;refine cA.R [0] func294 rfl rfl (λhc=>QL q m5 _ _ (by first|omega|(simp at hc;omega)) (by first|omega|(simp at hc;omega))) rfl rfl rfl wG rfl ?_)
    |refine CA ?_|refine an ?_ ?_|(intro Z;try simp at Z))
   ·exact⟨⟨i'+1,O,O,(ae O (by simpa using Z.2)).symm.trans gP⟩,[],show b+2- (i'+1)<b+2-i' by omega,OA.nil UA ⟨rfl,rfl,rfl,rfl,U⟩ ⟨pB rfl rfl,U⟩⟩
   ·have vC:i'=Go.Sort.scanUp (qU q a) q j i:=by rw[<-gP,de];simpa using Z
    refine FB (io q n a i' j) (λj=>j.1) ?_ ?_
    ·exact⟨⟨j,O,O,rfl⟩,[],U,OA.nil UA ⟨rfl,rfl,rfl,rfl,U⟩ ⟨pB rfl rfl,U⟩⟩
    ·rintro⟨j',aW,D7,pR⟩
     intro F H Y hF hH hn;dsimp only[io]at hF hH hn;subst hF hH hn
     repeat' (first
      |refine tk ?_
      |(refine XF (f:=294) (T:=133) SL rfl (by first|rfl|exact⟨UB.refl _,rfl⟩) (by first|rfl|exact⟨UB.refl _,UB.refl _,rfl⟩) ?_;refine cA.R [0] func294 rfl rfl (λhc=>QL q m5 _ _ (by first|omega|(simp at hc;omega)) (by first|omega|(simp at hc;omega))) rfl rfl rfl wG rfl ?_)
      |(refine XF (f:=295) (T:=133) TL rfl (by first|rfl|exact⟨UB.refl _,rfl⟩) (by first|rfl|exact⟨UB.refl _,UB.refl _,rfl⟩) ?_;refine cA.T (d:=q) 0 func295 rfl rfl (λhc=>RL q m5 _ _ (by first|omega|(simp at hc;omega)) (by first|omega|(simp at hc;omega))) rfl rfl rfl (λ_=>rfl) ?_)
      |refine CA ?_|refine an ?_ ?_|(intro Z;try simp at Z))
     ·exact⟨⟨j'-1,O,O,(ee Z.1 O (by simpa using Z.2)).symm.trans pR⟩,[],show j'-1<j' by omega,OA.nil UA ⟨rfl,rfl,rfl,bB (show(j':Int)-1=((j'-1:Nat):Int)by omega),U⟩ ⟨pB rfl rfl,U⟩⟩
     ·rename_i g1
      have vB:j'=Go.Sort.scanDown (qD q a) q i' j:=by rw[<-pR,KU];simpa using g1
      have IG:=partEqLoop_eq vC vB kM aW
      rw[if_pos (show i'>j' by omega)]at IG
      rw[IG]at m6
      rw[<-m6]
      exact⟨[],OA.nil UA ⟨rfl,U⟩ ⟨pB rfl rfl,U⟩⟩
     ·rename_i g1
      have vB:j'=Go.Sort.scanDown (qD q a) q i' j:=by rw[<-pR,KU];simpa using g1
      have IG:=partEqLoop_eq vC vB kM aW
      rw[if_neg (show¬i'>j' by omega)]at IG
      rw[IG]at m6
      exact⟨⟨(i'+1,j'-1,Go.Sort.swp q i' j'),by dsimp only;omega,by dsimp only;omega,by dsimp only;omega,by dsimp only;omega,(swp_size _ _ _).trans m5,m6⟩,[],show j'-1+2- (i'+1)<j+2-i by omega,OA.nil UA ⟨rfl,rfl,rfl,bB (show(j':Int)-1=((j'-1:Nat):Int)by omega),U⟩ ⟨pB rfl (by simp only[Int.toNat_natCast]),U⟩⟩
end En
end Go.Proofs.YtkidgehblodbcaaGreatDoor
