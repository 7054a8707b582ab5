/- A part of the proof of FnTextFirst: an engine that steps through code. -/
import Derived.Below
import Derived.Calls
import Derived.Eval
import Derived.Great.BuildSlice
import Derived.Laws.AppendOwn
import Derived.Laws.Build
import Derived.Laws.Cells
import Derived.Laws.CopyRow
import Derived.Laws.Externs
import Derived.Laws.MakeOwn
import Derived.Laws.Pointers
import Derived.Laws.Rows
import Derived.Laws.Sem
import Derived.Laws.Slices
import Derived.Laws.Tables
import Derived.Laws.World
import Derived.Orders
import Derived.Tactics
set_option linter.all false
set_option maxRecDepth 100000
set_option maxHeartbeats 16000000
namespace Go.Proofs.YtkidgehblodbcaaGreatDoor
section
theorem O {P:Prop} (h:P:=by omega):P:=h
theorem UA {a b:Nat} (h:Nat.ble a b=true:=by rfl):a<=b:=Nat.le_of_ble_eq_true h
theorem qA {n:Nat}:n<=n:=Nat.le_refl n
theorem eA {P:Prop} (h:P:=by simp;omega):P:=h
theorem U:True:=trivial
theorem UD {a b:Prop} (h:¬a:=by simp;omega) (x:a):b:=absurd x h
theorem CJ {a b:Prop} (h:¬a:=by decide) (x:a):b:=absurd x h
end
namespace En
open Go.RowKit
inductive SV where
 |v (x:Value)
 |p (b o:Nat)
 |s (b o n:Nat)
 |agg (l:List SV)
 |jA (l:List SV)
 |fn (f:Fn) (first cap:List SV)
 |gD (t:TypeId) (x:SV)
 |any (p:Value->Prop)
 |m (b:Nat)
inductive Nm where
 |iD
 |nil
 |at(r k c:Nat)
abbrev wA:=Nat->Nm
mutual
def aA (G:wA):SV->Value->Prop
 | .v x,y=>y=x
 | .p b o,y=>∃r k c,G b= .at r k c/\y= .pointer (some ⟨r,k+o,none⟩)
 | .s b o n,y=>(G b= .nil/\o=0/\n=0/\y= .slice none 0 0)\/
   ∃r k c ad cap,G b= .at r k c/\y= .slice (some ad) n cap/\n<=cap/\cap<=maxLen/\(o=0->ad=⟨r,k,none⟩/\cap=c)/\(n≠0->ad=⟨r,k+o,none⟩)
 | .agg l,y=>∃ys,y= .agg (List.toArray ys)/\ZA G l ys
 | .jA l,y=>∃ys,y= .tuple (List.toArray ys)/\ZA G l ys
 | .fn f a c,y=>∃xs ys,y= .func f (List.toArray xs) (List.toArray ys)/\ZA G a xs/\ZA G c ys
 | .gD t x,y=>∃z,y= .iface t z/\aA G x z
 | .any p,y=>p y
 | .m b,y=>∃r c,G b= .at r 0 c/\y= .map (some r)
def ZA (G:wA):List SV->List Value->Prop
 |[],ys=>ys=[]
 |x::xs,ys=>∃y r,ys=y::r/\aA G x y/\ZA G xs r
end
def uD (G uA:wA):Prop:=∀b,G b≠ .iD->uA b=G b
theorem uD.refl (G:wA):uD G G:=λ_ _=>rfl
theorem uD.trans {a b c:wA} (h:uD a b) (k:uD b c):uD a c:=λx hx=>by
 rw[k x (by rw[h x hx];exact hx),h x hx]
theorem uD.at {G uA:wA} (h:uD G uA) {b r k c:Nat} (e:G b= .at r k c):uA b= .at r k c:=by
 rw[h b (by rw[e];intro x;cases x),e]
theorem uD.nil {G uA:wA} (h:uD G uA) {b:Nat} (e:G b= .nil):uA b= .nil:=by
 rw[h b (by rw[e];intro x;cases x),e]
mutual
theorem aA.ext {G uA:wA} (h:uD G uA):∀(s:SV) (y:Value),aA G s y->aA uA s y
 | .v x,y,d=>d
 | .p b o,y,d=>by
  simp only[aA]at*
  obtain⟨r,k,c,e,hy⟩:=d
  exact⟨r,k,c,h.at e,hy⟩
 | .s b o n,y,d=>by
  simp only[aA]at*
  rcases d with⟨e,d⟩|⟨r,k,c,ad,cap,e,d⟩
  ·exact .inl ⟨h.nil e,d⟩
  ·exact .inr ⟨r,k,c,ad,cap,h.at e,d⟩
 | .agg l,y,d=>by
  simp only[aA]at*
  obtain⟨ys,hy,d⟩:=d
  exact⟨ys,hy,ZA.ext h l ys d⟩
 | .jA l,y,d=>by
  simp only[aA]at*
  obtain⟨ys,hy,d⟩:=d
  exact⟨ys,hy,ZA.ext h l ys d⟩
 | .fn f a c,y,d=>by
  simp only[aA]at*
  obtain⟨xs,ys,hy,d,d'⟩:=d
  exact⟨xs,ys,hy,ZA.ext h a xs d,ZA.ext h c ys d'⟩
 | .gD t x,y,d=>by
  simp only[aA]at*
  obtain⟨z,hy,d⟩:=d
  exact⟨z,hy,aA.ext h x z d⟩
 | .any p,y,d=>d
 | .m b,y,d=>by
  simp only[aA]at*
  obtain⟨r,c,e,hy⟩:=d
  exact⟨r,c,h.at e,hy⟩
theorem ZA.ext {G uA:wA} (h:uD G uA):∀(l:List SV) (ys:List Value),ZA G l ys->ZA uA l ys
 |[],ys,d=>d
 |x::xs,ys,d=>by
  simp only[ZA]at*
  obtain⟨y,r,e,d,d'⟩:=d
  exact⟨y,r,e,aA.ext h x y d,ZA.ext h xs r d'⟩
end
theorem ZA.length {G:wA}:∀(l:List SV) (ys:List Value),ZA G l ys->ys.length=l.length
 |[],ys,d=>by simp only[ZA]at d;rw[d];rfl
 |x::xs,ys,d=>by
  simp only[ZA]at d
  obtain⟨y,r,e,_,d'⟩:=d
  rw[e,List.length_cons,List.length_cons,ZA.length xs r d']
theorem ZA.get {G:wA}:∀(l:List SV) (ys:List Value),ZA G l ys->∀(i:Nat) (x:SV),l[i]? =some x->∃y,ys[i]? =some y/\aA G x y
 |[],ys,d,i,x,hx=>by simp at hx
 |s::xs,ys,d,i,x,hx=>by
  simp only[ZA]at d
  obtain⟨y,r,e,d,d'⟩:=d
  subst e
  cases i with
  |zero=>simp at hx;subst hx;exact⟨y,rfl,d⟩
  |succ i=>simp only[List.getElem?_cons_succ]at hx⊢;exact ZA.get xs r d' i x hx
theorem ZA.xX {G:wA}:∀(l:List SV) (ys:List Value),ys.length=l.length->(∀(i:Nat) (x:SV),l[i]? =some x->∃y,ys[i]? =some y/\aA G x y)->ZA G l ys
 |[],ys,hl,_=>by simp only[ZA];exact List.length_eq_zero_iff.1 hl
 |s::xs,[],hl,_=>by simp at hl
 |s::xs,y::r,hl,h=>by
  simp only[ZA]
  obtain⟨y',e,d⟩:=h 0 s rfl
  simp at e;subst e
  exact⟨y,r,rfl,d,ZA.xX xs r (by simpa using hl) λi x hx=>by simpa using h (i+1) x (by simpa using hx)⟩
theorem ZA.set {G:wA} {l:List SV} {ys:List Value} (d:ZA G l ys) {i:Nat} {x:SV} {y:Value} (hx:aA G x y):ZA G (l.set i x) (ys.set i y):=by
 refine ZA.xX _ _ (by simp[ZA.length _ _ d]) λj s hs=> ?_
 rw[List.getElem?_set]at hs⊢
 by_cases e:i=j
 ·subst e
  simp only[if_true]at hs⊢
  by_cases hl:i<l.length
  ·simp only[hl,if_true,Option.some.injEq]at hs
   subst hs
   exact⟨y,by simp[ZA.length _ _ d,hl],hx⟩
  ·simp[hl]at hs
 ·simp only[e,if_false]at hs⊢
  exact ZA.get _ _ d j s hs
theorem ZA.append {G:wA} {l l':List SV} {ys Sh:List Value} (d:ZA G l ys) (d':ZA G l' Sh):ZA G (l++l') (ys++Sh):=by
 refine ZA.xX _ _ (by simp[ZA.length _ _ d,ZA.length _ _ d']) λj s hs=> ?_
 rw[List.getElem?_append]at hs⊢
 rw[ZA.length _ _ d]
 by_cases hj:j<l.length
 ·rw[if_pos hj]at hs⊢;exact ZA.get _ _ d j s hs
 ·rw[if_neg hj]at hs⊢;exact ZA.get _ _ d' _ s hs
def wS:TypeDesc->Bool
 | .struct _=>true
 | .array _ _=>true
 |_=>false
def cC (xs:List Value):List SV:=xs.map .v
def A (zs:List Int):List SV:=zs.map λz=> .v (.int .i64 z)
theorem ZA.cC (G:wA):∀xs:List Value,ZA G (cC xs) xs
 |[]=>by simp[En.cC,ZA]
 |x::xs=>by
  have:=ZA.cC G xs
  simp only[En.cC,List.map_cons,ZA]at*
  exact⟨x,xs,rfl,by simp[aA],this⟩
theorem ZA.Oh {G:wA}:∀{xs ys:List Value},ZA G (En.cC xs) ys->ys=xs
 |[],ys,h=>by simpa [En.cC,ZA]using h
 |x::xs,ys,h=>by
  simp only[En.cC,List.map_cons,ZA]at h
  obtain⟨y,r,e,d,d'⟩:=h
  simp only[aA]at d
  rw[e,d,ZA.Oh (xs:=xs) (ys:=r) d']
theorem Th (zs:List Int):A zs=cC (zs.map (Value.int .i64)):=by simp[A,cC]
inductive DA where
 |st (xs:List SV)
 |X (es:Nat) (e:TypeId) (xs:List SV)
 |ro (xs:List SV)
 |obj (o:Obj)
def DA.own:DA->Bool
 | .ro _=>false
 |_=>true
def yC (G:wA) (w:World) (b:Nat):DA->Prop
 | .st xs=>∃r c e cs,G b= .at r 0 c/\w.heap[r]? =some (.cells (List.toArray cs) e (0,0))/\ZA G xs cs
 | .X es e xs=>(G b= .nil/\xs=[])\/
   ∃r c cs sp,G b= .at r 0 c/\w.heap[r]? =some (.cells (List.toArray (cs++sp)) e (0,0))/\ZA G xs cs/\cs.length+sp.length=c*es/\c<=maxLen
 | .ro xs=>(G b= .nil/\xs=[])\/
   ∃r k c,G b= .at r k c/\r<w.heap.size/\∀i x,xs[i]? =some x->∃y,w.cell? ⟨r,k+i,none⟩=some y/\aA G x y
 | .obj o=>∃r c,G b= .at r 0 c/\w.heap[r]? =some o
theorem yC.ext {G uA:wA} (h:uD G uA) {w w':World} {b:Nat} (GI:w.heap.size<=w'.heap.size)
  (Z:∀r k c,G b= .at r k c->w'.heap[r]? =w.heap[r]?):∀k:DA,yC G w b k->yC uA w' b k
 | .st xs,d=>by
  simp only[yC]at*
  obtain⟨r,c,e,cs,e1,e2,d⟩:=d
  exact⟨r,c,e,cs,h.at e1,(Z _ _ _ e1).trans e2,ZA.ext h _ _ d⟩
 | .X es e xs,d=>by
  simp only[yC]at*
  rcases d with⟨e1,d⟩|⟨r,c,cs,sp,e1,e2,d,hl⟩
  ·exact .inl ⟨h.nil e1,d⟩
  ·exact .inr ⟨r,c,cs,sp,h.at e1,(Z _ _ _ e1).trans e2,ZA.ext h _ _ d,hl⟩
 | .ro xs,d=>by
  simp only[yC]at*
  rcases d with⟨e1,d⟩|⟨r,k,c,e1,hr,d⟩
  ·exact .inl ⟨h.nil e1,d⟩
  ·refine .inr ⟨r,k,c,h.at e1,O,λi x hx=> ?_⟩
   obtain⟨y,hy,d'⟩:=d i x hx
   exact⟨y,by rw[<-hy];exact World.cell?_of_block (Z _ _ _ e1),aA.ext h _ _ d'⟩
 | .obj o,d=>by
  simp only[yC]at*
  obtain⟨r,c,e1,e2⟩:=d
  exact⟨r,c,h.at e1,(Z _ _ _ e1).trans e2⟩
structure MH (w0:World) (W:Nat->Prop) (H:Nat->Option DA) (G:wA) (w:World):Prop where
 os:w.os=w0.os
 tape:w.tape=w0.tape
 output:w.output=w0.output
 size:w0.heap.size<=w.heap.size
 eE:∀r,r<w0.heap.size->¬W r->w.heap[r]? =w0.heap[r]?
 ok:∀b k,H b=some k->yC G w b k
 own:∀b k,H b=some k->k.own=true->∀r o c,G b= .at r o c->w0.heap.size<=r\/W r
 inj:∀b b' k k',H b=some k->H b'=some k'->k.own=true->b≠b'->∀r o c o' c',G b= .at r o c->G b'= .at r o' c'->False
theorem yC.lt {G:wA} {w:World} {b:Nat} {k:DA} (h:yC G w b k):∀r o c,G b= .at r o c->r<w.heap.size:=by
 intro r o c e
 have get:∀{x},w.heap[r]? =some x->r<w.heap.size:=λ{x} hx=>by
  rcases Nat.lt_or_ge r w.heap.size with h|h
  ·exact h
  ·rw[Array.getElem?_eq_none h]at hx;cases hx
 cases k with
 |st xs=>
  obtain⟨r',c',e',cs,e1,e2,_⟩:=h
  rw[e]at e1;cases e1;exact get e2
 |X es t xs=>
  rcases h with⟨e1,_⟩|⟨r',c',cs,sp,e1,e2,_⟩
  ·rw[e]at e1;cases e1
  ·rw[e]at e1;cases e1;exact get e2
 |ro xs=>
  rcases h with⟨e1,_⟩|⟨r',k',c',e1,e2,_⟩
  ·rw[e]at e1;cases e1
  ·rw[e]at e1;cases e1;exact e2
 |obj o=>
  obtain⟨r',c',e1,e2⟩:=h
  rw[e]at e1;cases e1;exact get e2
theorem MH.later {w0 w w':World} {W:Nat->Prop} {H:Nat->Option DA} {G:wA} (h:MH w0 W H G w) (Z:Below w.heap.size w w'):MH w0 W H G w' where
 os:=Z.os.trans h.os
 tape:=Z.tape.trans h.tape
 output:=Z.output.trans h.output
 size:=Nat.le_trans h.size Z.size
 eE r hr hW:=(Z.block r (Nat.lt_of_lt_of_le hr h.size)).trans (h.eE r hr hW)
 ok b k e:=(yC.ext (uD.refl G) Z.size (λr o c e'=>Z.block r ((h.ok b k e).lt r o c e')) k (h.ok b k e))
 own:=h.own
 inj:=h.inj
def FE (k:Int):Array Value:= #[.int .i64 k, .int .i64 0]
def zX:Array Value:=((List.range 256).map λi=>Value.int .u8 (if i=9\/i=10\/i=11\/i=12\/i=13\/i=32 then 1 else 0)).toArray
def AY:Array Value:=((List.range 20).map λi=>Value.int .u64 (10^i)).toArray
def rG:List (Nat×Array Value):=[(0,FE 0),(1,zX),(2,FE 1),(3,FE 2),(4,FE 3),(5,FE 4),(6,FE 5),(7,FE 6),(15,AY)]
def GV (w:World):Prop:=∀x∈rG,∃t fr,w.heap[x.1]? =some (.cells x.2 t fr)
def GW (w:World) (W:Nat->Prop):Prop:=GV w/\∀x∈rG,¬W x.1
theorem za {w:World} {r:Nat} {x:Obj} (hx:w.heap[r]? =some x):r<w.heap.size:=by
 rcases Nat.lt_or_ge r w.heap.size with h|h
 ·exact h
 ·rw[Array.getElem?_eq_none h]at hx;cases hx
theorem MH.gv {w0 w:World} {W:Nat->Prop} {H:Nat->Option DA} {G:wA} (h:MH w0 W H G w) (g:GW w0 W):GV w:=by
 intro x hx
 obtain⟨t,fr,e⟩:=g.1 x hx
 exact⟨t,fr,(h.eE x.1 (za e) (g.2 x hx)).trans e⟩
def WE {PB:Type} (f:Nat->Option PB) (b:Nat) (x:Option PB):Nat->Option PB:=λi=>if i=b then x else f i
theorem YM {PB:Type} (f:Nat->Option PB) (b:Nat) (x:Option PB):WE f b x b=x:=by simp[WE]
theorem sG {PB:Type} (f:Nat->Option PB) (b:Nat) (x:Option PB) (i:Nat) (h:i≠b):WE f b x i=f i:=by simp[WE,h]
theorem MH.drop {w0 w:World} {W:Nat->Prop} {H:Nat->Option DA} {G:wA} (h:MH w0 W H G w) (b:Nat):MH w0 W (WE H b none) G w where
 os:=h.os
 tape:=h.tape
 output:=h.output
 size:=h.size
 eE:=h.eE
 ok i k e:=by
  by_cases hi:i=b
  ·subst hi;rw[YM]at e;cases e
  ·rw[sG _ _ _ _ hi]at e;exact h.ok i k e
 own i k e:=by
  by_cases hi:i=b
  ·subst hi;rw[YM]at e;cases e
  ·rw[sG _ _ _ _ hi]at e;exact h.own i k e
 inj i j k k' e e':=by
  by_cases hi:i=b
  ·subst hi;rw[YM]at e;cases e
  ·by_cases hj:j=b
   ·subst hj;rw[YM]at e';cases e'
   ·rw[sG _ _ _ _ hi]at e;rw[sG _ _ _ _ hj]at e';exact h.inj i j k k' e e'
theorem MH.Ph {w0 w:World} {W:Nat->Prop} {H:Nat->Option DA} {G:wA} (h:MH w0 W H G w) {b:Nat} (Z:G b= .iD)
  (o:Obj) (c:Nat) (k:DA) (hk:k.own=true)
  (dB:∀uA,uD G uA->uA b= .at w.heap.size 0 c->yC uA (w.alloc o) b k):
  ∃uA,uD G uA/\(∀i,i≠b->uA i=G i)/\uA b= .at w.heap.size 0 c/\MH w0 W (WE H b (some k)) uA (w.alloc o):=by
 let uA:wA:=λi=>if i=b then .at w.heap.size 0 c else G i
 have D:uA b= .at w.heap.size 0 c:=by simp[uA]
 have h2:∀i,i≠b->uA i=G i:=λi hi=>by simp[uA,hi]
 have he:uD G uA:=λi hi=>by
  by_cases e:i=b
  ·subst e;exact absurd Z hi
  ·exact h2 i e
 have AV:∀r,r<w.heap.size->(w.alloc o).heap[r]? =w.heap[r]? :=λr hr=>by
  show(w.heap.push _)[r]? =_
  rw[Array.getElem?_push,if_neg (Nat.ne_of_lt hr)]
 refine⟨uA,he,h2,D,?_⟩
 refine⟨h.os,h.tape,h.output,by simp;exact Nat.le_trans h.size (Nat.le_succ _),λr hr hw=>(AV r (Nat.lt_of_lt_of_le hr h.size)).trans (h.eE r hr hw),?_,?_,?_⟩
 ·intro i x hx
  by_cases hi:i=b
  ·subst hi;rw[YM]at hx;cases hx;exact dB uA he D
  ·rw[sG _ _ _ _ hi]at hx
   exact yC.ext he (by simp) (λr oo c e'=>AV r ((h.ok i x hx).lt r oo c e')) x (h.ok i x hx)
 ·intro i x hx ho r oo c' e'
  by_cases hi:i=b
  ·subst hi;rw[D]at e';cases e';exact .inl h.size
  ·rw[sG _ _ _ _ hi]at hx;rw[h2 i hi]at e';exact h.own i x hx ho r oo c' e'
 ·intro i j x x' hx tF ho qQ r oo c1 o' c2 e1 e2
  by_cases hi:i=b
  ·subst hi
   by_cases hj:j=i
   ·exact qQ hj.symm
   ·rw[sG _ _ _ _ hj]at tF;rw[h2 j hj]at e2;rw[D]at e1;cases e1
    exact absurd ((h.ok j x' tF).lt _ _ _ e2) (Nat.lt_irrefl _)
  ·by_cases hj:j=b
   ·subst hj
    rw[sG _ _ _ _ hi]at hx;rw[h2 i hi]at e1;rw[D]at e2;cases e2
    exact absurd ((h.ok i x hx).lt _ _ _ e1) (Nat.lt_irrefl _)
   ·rw[sG _ _ _ _ hi]at hx;rw[h2 i hi]at e1
    rw[sG _ _ _ _ hj]at tF;rw[h2 j hj]at e2
    exact h.inj i j x x' hx tF ho qQ r oo c1 o' c2 e1 e2
theorem MH.alloc {w0 w:World} {W:Nat->Prop} {H:Nat->Option DA} {G:wA} (h:MH w0 W H G w) {b:Nat} (Z:G b= .iD)
  (cs:List Value) (e:TypeId) (c:Nat) (k:DA) (hk:k.own=true)
  (dB:∀uA,uD G uA->uA b= .at w.heap.size 0 c->yC uA (w.alloc (.cells (List.toArray cs) e)) b k):
  ∃uA,uD G uA/\(∀i,i≠b->uA i=G i)/\uA b= .at w.heap.size 0 c/\MH w0 W (WE H b (some k)) uA (w.alloc (.cells (List.toArray cs) e)):=
 h.Ph Z _ c k hk dB
theorem MH.Qh {w0 w w':World} {W:Nat->Prop} {H:Nat->Option DA} {G:wA} (h:MH w0 W H G w) {b r o c:Nat} {k k':DA} (hH:H b=some k) (hk:k.own=true) (ZM:k'.own=true) (HI:G b= .at r o c)
  (Iv:w'.os=w.os) (Jv:w'.tape=w.tape) (Ab:w'.output=w.output) (GI:w.heap.size<=w'.heap.size) (AV:∀i,i<w.heap.size->i≠r->w'.heap[i]? =w.heap[i]?) (dB:yC G w' b k'):MH w0 W (WE H b (some k')) G w':=by
 refine⟨Iv.trans h.os,Jv.trans h.tape,Ab.trans h.output,Nat.le_trans h.size GI,?_,?_,?_,?_⟩
 ·intro i hi hw
  rw[AV i (Nat.lt_of_lt_of_le hi h.size) (λe=> ?_)]
  ·exact h.eE i hi hw
  ·subst e
   rcases h.own b k hH hk _ _ _ HI with D|D
   ·omega
   ·exact hw D
 ·intro i x hx
  by_cases hi:i=b
  ·subst hi;rw[YM]at hx;cases hx;exact dB
  ·rw[sG _ _ _ _ hi]at hx
   refine yC.ext (uD.refl G) GI (λr' o' c' e'=>AV r' ((h.ok i x hx).lt _ _ _ e') (λer=> ?_)) x (h.ok i x hx)
   subst er
   exact h.inj b i k x hH hx hk (Ne.symm hi) _ _ _ _ _ HI e'
 ·intro i x hx ho
  by_cases hi:i=b
  ·subst hi;exact h.own i k hH hk
  ·rw[sG _ _ _ _ hi]at hx;exact h.own i x hx ho
 ·intro i j x x' hx tF ho qQ
  have fix:∀i x,WE H b (some k') i=some x->∃y,H i=some y/\(x.own=true->y.own=true):=λi x hx=>by
   by_cases hi:i=b
   ·subst hi;exact⟨k,hH,λ_=>hk⟩
   ·rw[sG _ _ _ _ hi]at hx;exact⟨x,hx,λh=>h⟩
  obtain⟨y,hy,BV⟩:=fix i x hx
  obtain⟨y',kI,AFA⟩:=fix j x' tF
  exact h.inj i j y y' hy kI (BV ho) qQ
def dD (P:Program) (o:Oper) (a:Act) (w:World) (R:Value->World->Prop):Prop:=
 o.wp P a w (λa' w'=>∃y,a'=a.put o.dst y/\R y w') (λ_ _ _=>False)
theorem dD.value {P:Program} {o:Oper} {a:Act} {w w':World} {R:Value->World->Prop} {y:Value} (h:(execOp a.eval o).run P w= .ok (.value y) w') (hR:R y w'):dD P o a w R:=by
 unfold dD Oper.wp
 rw[h,Oper.upon_value]
 exact⟨y,rfl,hR⟩
theorem dD.skip {P:Program} {o:Oper} {a:Act} {w w':World} {R:Value->World->Prop} (h:(execOp a.eval o).run P w= .ok .skip w') (hR:R undef w'):dD P o a w R:=by
 unfold dD Oper.wp
 rw[h,Oper.upon_skip]
 exact⟨undef,rfl,hR⟩
theorem dD.call {P:Program} {o:Oper} {a:Act} {w w':World} {R:Value->World->Prop} {f:FuncId} {args:Array Value} (h:(execOp a.eval o).run P w= .ok (.enter f args) w')
  (hc:Calls P f args w' λe TP=>∃y,e= .returned y/\R y TP):dD P o a w R:=by
 unfold dD Oper.wp
 rw[h,Oper.upon_enter]
 refine hc.mono λe TP ⟨y,he,hR⟩=> ?_
 subst he
 exact⟨y,rfl,hR⟩
def UP:SV->Bool
 | .v x=>x.oneCell'
 | .agg _=>false
 | .jA _=>false
 | .any _=>false
 |_=>true
theorem Uh {G:wA}:∀{s:SV} {y:Value},UP s=true->aA G s y->y.oneCell'=true
 | .v x,y,h,d=>by simp only[aA]at d;subst d;exact h
 | .p b o,y,_,d=>by simp only[aA]at d;obtain⟨_,_,_,_,rfl⟩:=d;rfl
 | .s b o n,y,_,d=>by simp only[aA]at d;rcases d with⟨_,_,_,rfl⟩|⟨_,_,_,_,_,_,rfl,_⟩<;>rfl
 | .fn f a c,y,_,d=>by simp only[aA]at d;obtain⟨_,_,rfl,_⟩:=d;rfl
 | .gD t x,y,_,d=>by simp only[aA]at d;obtain⟨_,rfl,_⟩:=d;rfl
 | .any p,y,h,_=>by simp[UP]at h
 | .m b,y,_,d=>by simp only[aA]at d;obtain⟨_,_,_,rfl⟩:=d;rfl
theorem BFA {y:Value} (h:y.oneCell'=true):y.cells= #[y]:=by
 cases y<;>simp[Value.oneCell',Value.cells]at h⊢
def cellsOf:SV->Option (List SV)
 | .agg l=>some l
 | .jA _=>none
 | .v (.agg ⟨l⟩)=>some (cC l)
 | .v (.tuple _)=>none
 | .any _=>none
 |s=>some [s]
theorem Bb {G:wA} {s:SV} {y:Value} {l:List SV} (h:cellsOf s=some l) (d:aA G s y):ZA G l y.cells.toList:=by
 unfold cellsOf at h
 split at h
 ·cases h;simp only[aA]at d;obtain⟨ys,rfl,d⟩:=d;simpa [Value.cells]using d
 ·cases h
 ·cases h;simp only[aA]at d;subst d;simpa [Value.cells]using ZA.cC G _
 ·cases h
 ·cases h
 ·cases h
  have D:y.cells= #[y]:=by
   cases s with
   |v x=>
    simp only[aA]at d;subst d
    cases y with
    |agg c=>obtain⟨c⟩:=c;rename_i n1 n2 n3 n4 n5;exact absurd rfl (n3 c)
    |_=>rfl
   |agg l=>rename_i n1 n2 n3 n4 n5;exact absurd rfl (n1 l)
   |any p=>rename_i n1 n2 n3 n4 n5;exact absurd rfl (n5 p)
   |jA l=>rename_i n1 n2 n3 n4 n5;exact absurd rfl (n2 l)
   |p b o=>simp only[aA]at d;obtain⟨_,_,_,_,rfl⟩:=d;rfl
   |s b o n=>simp only[aA]at d;rcases d with⟨_,_,_,rfl⟩|⟨_,_,_,_,_,_,rfl,_⟩<;>rfl
   |fn f a c=>simp only[aA]at d;obtain⟨_,_,rfl,_⟩:=d;rfl
   |gD t x=>simp only[aA]at d;obtain⟨_,rfl,_⟩:=d;rfl
   |m b=>simp only[aA]at d;obtain⟨_,_,_,rfl⟩:=d;rfl
  rw[D]
  simp only[ZA]
  exact⟨y,[],rfl,d,rfl⟩
def DA.cells:DA->List SV
 | .st xs| .X _ _ xs| .ro xs=>xs
 | .obj _=>[]
theorem LO (r k i:Nat):(⟨r,k,none⟩:Addr).add i=⟨r,k+i,none⟩:=by
 unfold Addr.add
 split
 ·rename_i h;subst h;rfl
 ·rfl
theorem yC.cell {G:wA} {w:World} {b:Nat} {k:DA} (h:yC G w b k) {r o c:Nat} (Z:G b= .at r o c) {i:Nat} {x:SV} (hx:k.cells[i]? =some x):
  ∃y,w.cell? ⟨r,o+i,none⟩=some y/\aA G x y:=by
 cases k with
 |st xs=>
  obtain⟨r',c',e,cs,e1,e2,d⟩:=h
  rw[Z]at e1;cases e1
  obtain⟨y,hy,d⟩:=ZA.get _ _ d i x hx
  exact⟨y,by simp[World.cell?,e2,hy],d⟩
 |X es e xs=>
  rcases h with⟨e1,_⟩|⟨r',c',cs,sp,e1,e2,d,_⟩
  ·rw[Z]at e1;cases e1
  ·rw[Z]at e1;cases e1
   obtain⟨y,hy,d⟩:=ZA.get _ _ d i x hx
   have hi:i<cs.length:=by
    rcases Nat.lt_or_ge i cs.length with h|h
    ·exact h
    ·rw[List.getElem?_eq_none h]at hy;cases hy
   refine⟨y,?_,d⟩
   simp only[World.cell?,e2,Option.isSome_none,Bool.false_eq_true,if_false,Nat.zero_add,List.getElem?_toArray]
   rw[List.getElem?_append_left hi,hy]
 |ro xs=>
  rcases h with⟨e1,h2⟩|⟨r',k',c',e1,_,d⟩
  ·rw[Z]at e1;cases e1
  ·rw[Z]at e1;cases e1
   exact d i x hx
 |obj o=>simp[DA.cells]at hx
theorem aA.tEA {G:wA} {w:World} {b o n:Nat} {y:Value} {k:DA} (d:aA G (.s b o n) y) (h:yC G w b k) (es m:Nat) (hm:m=n*es) (hlen:o+m<=k.cells.length):
  ∃a cap ys,y= .slice a n cap/\n<=cap/\cap<=maxLen/\ys.length=m/\ZA G ((k.cells.drop o).take m) ys/\(∀j u,ys[j]? =some u->∃ad,a=some ad/\w.cell? (ad.add j)=some u)/\(a=none->n=0/\cap=0):=by
 simp only[aA]at d
 have hl:((k.cells.drop o).take m).length=m:=by simp;omega
 rcases d with⟨e,h0,hn,rfl⟩|⟨r,k0,c,ad,cap,e,rfl,aM,rQ,_,bM⟩
 ·subst hn
  have:m=0:=O
  subst this
  exact⟨none,0,[],rfl,Nat.le_refl _,Nat.zero_le _,rfl,by simp[ZA],λj u hu=>by simp at hu,λ_=>⟨rfl,rfl⟩⟩
 ·have key:∀(l:List SV) (q:Nat),(∀i x,l[i]? =some x->∃y,w.cell? ⟨r,q+i,none⟩=some y/\aA G x y)->∃ys,ys.length=l.length/\ZA G l ys/\∀j u,ys[j]? =some u->w.cell? ⟨r,q+j,none⟩=some u:=by
   intro l
   induction l with
   |nil=>intro q _;exact⟨[],rfl,by simp[ZA],λj u hu=>by simp at hu⟩
   |cons x l ih=>
    intro q hq
    obtain⟨y,hy,dy⟩:=hq 0 x rfl
    obtain⟨ys,hl,dl,hc⟩:=ih (q+1) (λi x hx=>by have:=hq (i+1) x (by simpa using hx);rwa [show q+(i+1)=q+1+i by omega]at this)
    refine⟨y::ys,by simp[hl],by simp only[ZA];exact⟨y,ys,rfl,dy,dl⟩,λj u hu=> ?_⟩
    cases j with
    |zero=>simp at hu;subst hu;simpa using hy
    |succ j=>simp at hu;have:=hc j u hu;rwa [show q+(j+1)=q+1+j by omega]
  obtain⟨ys,D,h2,h3⟩:=key ((k.cells.drop o).take m) (k0+o) (λi x hx=>by
   rw[List.getElem?_take]at hx
   split at hx
   ·rw[List.getElem?_drop]at hx
    have:=h.cell e hx
    rwa [show k0+(o+i)=k0+o+i by omega]at this
   ·cases hx)
  refine⟨some ad,cap,ys,rfl,aM,rQ,D.trans hl,h2,λj u hu=>⟨ad,rfl,?_⟩,λh=>by cases h⟩
  have hj:j<ys.length:=by
   rcases Nat.lt_or_ge j ys.length with h|h
   ·exact h
   ·rw[List.getElem?_eq_none h]at hu;cases hu
  have hn:n≠0:=by intro hn;subst hn;rw[D,hl]at hj;omega
  rw[bM hn,LO]
  exact h3 j u hu
section
variable {P:Program} {w:World}
theorem CFA {a:Addr} {y:Value} (h:w.cell? a=some y):(load a).run P w= .ok y w:=by
 simp[load,Sem.run,h]
theorem VP {t:TypeId} {d:TypeDesc} (h:P.underlying t=some d):(isAgg t).run P w= .ok (wS d) w:=by
 simp only[isAgg,Sem.run_bind,run_underlying h,Result.andThen_ok]
 cases d<;>rfl
theorem run_sizeOf {t:TypeId} {i:TypeInfo} (h:P.info? t=some i):(sizeOf t).run P w= .ok i.size w:=by
 simp[sizeOf,typeInfo,h]
end
inductive RV where
 |u (x:SV)
 |g (c:Bool) (x:SV)
def IH (G:wA):RV->Value->Prop
 | .u x,y=>aA G x y
 | .g c x,y=>if c=true then aA G x y else y=undef
theorem IH.ext {G uA:wA} (h:uD G uA):∀{r:RV} {y:Value},IH G r y->IH uA r y
 | .u x,y,d=>aA.ext h x y d
 | .g c x,y,d=>by
  simp only[IH]at*
  by_cases hc:c=true
  ·rw[if_pos hc]at d⊢;exact aA.ext h x y d
  ·rw[if_neg hc]at d⊢;exact d
abbrev FS:=List (Nat×RV)
abbrev HS:=List (Nat×Option DA)
def lk:FS->Nat->Option RV
 |[],_=>none
 |(u,x)::r,t=>if u=t then some x else lk r t
def WA:HS->Nat->Option DA
 |[],_=>none
 |(u,x)::r,b=>if u=b then x else WA r b
inductive TK where
 |int (k:IntKind)
 |str
 |bool
 |sl (elem es:Nat)
 |st (fs:List (Nat×Nat×Bool))
 |ar (n elem es:Nat)
 |gD
 |other
structure TI where
 agg:Bool
 size:Nat
 bytes:Nat
 zero:List Value
 kind:TK
def Cb (P:Program) (d:TypeDesc):TK->Prop
 | .int k=>d= .int k
 | .str=>d= .string
 | .bool=>d= .bool
 | .sl e es=>d= .slice e/\∃I,P.info? e=some I/\I.size=es
 | .st fs=>∃fields,d= .struct fields/\fields.size=fs.length/\∀(i off sz:Nat) (ag:Bool),fs[i]? =some (off,sz,ag)->
   ∃f:Field,fields[i]? =some f/\f.offset=off/\(∃I,P.info? f.type=some I/\I.size=sz)/\∃df,P.underlying f.type=some df/\ag=wS df
 | .ar n e es=>d= .array n e/\∃I,P.info? e=some I/\I.size=es
 | .gD=>∃ms,d= .interface ms
 | .other=>(∀ms,d≠ .interface ms)
structure Vh (P:Program) (t:TypeId) (i:TI):Prop where
 jL:∃I,P.info? t=some I/\I.size=i.size/\I.bytes=i.bytes/\∃z,I.zero=some z/\z.cells.toList=i.zero
 under:∃d,P.underlying t=some d/\Cb P d i.kind/\i.agg=wS d
def GF (P:Program) (ty:Nat->Option TI):Prop:=∀t i,ty t=some i->Vh P t i
def UB (c d:Bool):Prop:=c=true->d=true
theorem UB.refl (c:Bool):UB c c:=id
theorem UB.left (c d:Bool):UB (c&&d) c:=by unfold UB;cases c<;>simp
theorem UB.uEA (c d e:Bool):UB ((c&&d)&&e) c:=by unfold UB;cases c<;>simp
theorem UB.vEA (c d e f:Bool):UB (((c&&d)&&e)&&f) c:=by unfold UB;cases c<;>simp
def sQ (F:FS) (t:Nat) (k:RV->Prop):Prop:=
 match F with
 |[]=>False
 |(u,x)::r=>cond (Nat.beq u t) (k x) (sQ r t k)
theorem CV:∀{F:FS} {t:Nat} {k:RV->Prop},sQ F t k->∃r,lk F t=some r/\k r
 |[],t,k,h=>h.elim
 |(u,x)::r,t,k,h=>by
  unfold sQ at h
  unfold lk
  by_cases e:u=t
  ·subst e;simp at h⊢;exact h
  ·have:Nat.beq u t=false:=by
    cases Z:Nat.beq u t
    ·rfl
    ·exact absurd (Nat.eq_of_beq_eq_true Z) e
   rw[this]at h
   rw[if_neg e]
   exact CV h
def MO (H:HS) (b:Nat) (k:DA->Prop):Prop:=
 match H with
 |[]=>False
 |(u,x)::r=>cond (Nat.beq u b) (match x with|some y=>k y|none=>False) (MO r b k)
theorem tQ:∀{H:HS} {b:Nat} {k:DA->Prop},MO H b k->∃x,WA H b=some x/\k x
 |[],b,k,h=>h.elim
 |(u,x)::r,b,k,h=>by
  unfold MO at h
  unfold WA
  by_cases e:u=b
  ·subst e
   simp at h⊢
   cases x with
   |none=>exact h.elim
   |some y=>exact⟨y,rfl,h⟩
  ·have:Nat.beq u b=false:=by
    cases Z:Nat.beq u b
    ·rfl
    ·exact absurd (Nat.eq_of_beq_eq_true Z) e
   rw[this]at h
   rw[if_neg e]
   exact tQ h
def zB (F:FS) (c0:Bool) (x:Operand) (k:SV->Prop):Prop:=
 match x with
 | .tmp t=>sQ F t λr=>match r with| .u s=>k s| .g c s=>UB c0 c/\k s
 | .const v=>k (.v v)
 | .global g=>k (.v (.pointer (some ⟨g,0,none⟩)))
 | .func f=>k (.v (.func (.func f) #[] #[]))
def SO (F:Nat->Option RV) (G:wA) (a:Act):Prop:=∀t r,F t=some r->t<a.tmps.size/\IH G r (a.tmps.getD t undef)
def VF (F':Nat->Option RV) (F:FS) (x:Operand):Prop:=∀t,x= .tmp t->F' t=lk F t
theorem BY {F:FS} {c0:Bool} {x:Operand} {k:SV->Prop} (h:zB F c0 x k):
  ∃s,k s/\∀F' G a,c0=true->VF F' F x->SO F' G a->aA G s (a.eval x):=by
 cases x with
 |tmp t=>
  obtain⟨r,hr,h⟩:=CV h
  cases r with
  |u s=>
   refine⟨s,h,λF' G a _ hF hS=> ?_⟩
   have:=(hS t (.u s) ((hF t rfl).trans hr)).2
   exact this
  |g c s=>
   refine⟨s,h.2,λF' G a hc hF hS=> ?_⟩
   have:=(hS t (.g c s) ((hF t rfl).trans hr)).2
   simp only[IH]at this
   rw[if_pos (h.1 hc)]at this
   exact this
 |const v=>exact⟨_,h,λ_ _ _ _ _ _=>by simp[aA,Act.eval]⟩
 |global g=>exact⟨_,h,λ_ _ _ _ _ _=>by simp[aA,Act.eval]⟩
 |func f=>exact⟨_,h,λ_ _ _ _ _ _=>by simp[aA,Act.eval]⟩
def uQ (F:FS) (c0:Bool) (l:List Operand) (k:List SV->Prop):Prop:=
 match l with
 |[]=>k []
 |x::r=>zB F c0 x λs=>uQ F c0 r λss=>k (s::ss)
theorem xS {F:FS} {c0:Bool}:∀{l:List Operand} {k:List SV->Prop},uQ F c0 l k->
  ∃ss,k ss/\∀F' G a,c0=true->(∀x∈l,VF F' F x)->SO F' G a->ZA G ss (l.map a.eval)
 |[],k,h=>⟨[],h,λ_ _ _ _ _ _=>by simp[ZA]⟩
 |x::r,k,h=>by
  obtain⟨s,h,hs⟩:=BY h
  obtain⟨ss,h,II⟩:=xS h
  refine⟨s::ss,h,λF' G a hc hF hS=> ?_⟩
  simp only[List.map_cons,ZA]
  exact⟨_,_,rfl,hs F' G a hc (hF x (by simp)) hS,II F' G a hc (λy hy=>hF y (by simp[hy])) hS⟩
def QN {PB:Type} (l:List PB) (i:Nat) (k:PB->Prop):Prop:=
 match l,i with
 |[],_=>False
 |x::_,0=>k x
 |_::r,i+1=>QN r i k
theorem XP {PB:Type}:∀{l:List PB} {i:Nat} {k:PB->Prop},QN l i k->∃x,l[i]? =some x/\k x
 |[],i,k,h=>by cases i<;>exact h.elim
 |x::r,0,k,h=>⟨x,rfl,h⟩
 |x::r,i+1,k,h=>by obtain⟨y,hy,h⟩:=XP (l:=r) (i:=i) h;exact⟨y,by simpa using hy,h⟩
theorem Kv {PB:Type}:∀{l:List PB} {i:Nat} {k:PB->Prop} {x:PB},l[i]? =some x->k x->QN l i k
 |[],i,k,x,h,_=>by simp at h
 |y::r,0,k,x,h,hk=>by simp at h;subst h;exact hk
 |y::r,i+1,k,x,h,hk=>Kv (l:=r) (i:=i) (by simpa using h) hk
def AL {PB:Type} (d:PB) (c0:Bool) (l:List PB) (i:Nat) (k:PB->Prop):Prop:=
 match l,i with
 |[],_=>c0=false/\k d
 |x::_,0=>k x
 |_::r,i+1=>AL d c0 r i k
theorem Wh {PB:Type} {d:PB} {c0:Bool}:∀{l:List PB} {i:Nat} {k:PB->Prop},AL d c0 l i k->∃x,k x/\(c0=true->l[i]? =some x)
 |[],i,k,h=>by
  unfold AL at h
  exact⟨d,h.2,λe=>by rw[h.1]at e;cases e⟩
 |x::r,0,k,h=>⟨x,h,λ_=>rfl⟩
 |x::r,i+1,k,h=>by obtain⟨y,h,hy⟩:=Wh (l:=r) (i:=i) h;exact⟨y,h,λe=>by simpa using hy e⟩
theorem DV {PB:Type} {d:PB} {c0:Bool}:∀{l:List PB} {i:Nat} {k:PB->Prop} {x:PB},l[i]? =some x->k x->AL d c0 l i k
 |[],i,k,x,h,_=>by simp at h
 |y::r,0,k,x,h,hk=>by simp at h;subst h;exact hk
 |y::r,i+1,k,x,h,hk=>DV (l:=r) (i:=i) (by simpa using h) hk
theorem Xh {PB:Type} {d:PB}:∀{l:List PB} {i:Nat} {k:PB->Prop},k (l.getD i d)->AL d false l i k
 |[],i,k,h=>⟨rfl,h⟩
 |y::r,0,k,h=>h
 |y::r,i+1,k,h=>Xh (l:=r) (i:=i) h
def EV {PB:Type} (l:List PB) (n:Nat) (k:List PB->Prop):Prop:=
 match n with
 |0=>k []
 |n+1=>match l with
  |[]=>False
  |x::r=>EV r n λxs=>k (x::xs)
termination_by structural n
theorem Db {PB:Type}:∀{n:Nat} {l:List PB} {k:List PB->Prop},EV l n k->∃xs:List PB,xs.length=n/\(∀(i:Nat) (x:PB),xs[i]? =some x->l[i]? =some x)/\k xs
 |0,l,k,h=>⟨[],rfl,λi x hx=>by simp at hx,by unfold EV at h;exact h⟩
 |n+1,[],k,h=>h.elim
 |n+1,x::r,k,h=>by
  obtain⟨xs,D,h2,h3⟩:=Db (l:=r) h
  refine⟨x::xs,by simp[D],λi y hy=> ?_,h3⟩
  cases i with
  |zero=>simpa using hy
  |succ i=>simp at hy⊢;exact h2 i y hy
def IK {PB:Type} (l:List PB) (n:Nat) (k:List PB->Prop):Prop:=
 match n with
 |0=>k l
 |n+1=>match l with
  |[]=>False
  |_::r=>IK r n k
termination_by structural n
theorem Eb {PB:Type}:∀{n:Nat} {l:List PB} {k:List PB->Prop},IK l n k->k (l.drop n)/\n<=l.length
 |0,l,k,h=>⟨by unfold IK at h;simpa using h,Nat.zero_le _⟩
 |n+1,[],k,h=>h.elim
 |n+1,x::r,k,h=>by have:=Eb (l:=r) h;simpa using this
def CY {PB:Type} (l:List PB) (i:Nat) (x:PB) (k:List PB->Prop):Prop:=
 match l,i with
 |[],_=>False
 |_::r,0=>k (x::r)
 |y::r,i+1=>CY r i x λl'=>k (y::l')
theorem Yh {PB:Type}:∀{l:List PB} {i:Nat} {x:PB} {k:List PB->Prop},CY l i x k->k (l.set i x)/\i<l.length
 |[],i,x,k,h=>by cases i<;>exact h.elim
 |y::r,0,x,k,h=>⟨h,by simp⟩
 |y::r,i+1,x,k,h=>by have:=Yh (l:=r) (i:=i) h;simpa using this
theorem yS {PB:Type}:∀{l:List PB} {i:Nat} {x:PB} {k:List PB->Prop},i<l.length->k (l.set i x)->CY l i x k
 |[],i,x,k,h,_=>by simp at h
 |y::r,0,x,k,h,hk=>hk
 |y::r,i+1,x,k,h,hk=>yS (l:=r) (i:=i) (by simpa using h) hk
def lay {PB:Type} (l:List PB) (i:Nat):List PB->List PB
 |[]=>l
 |x::r=>lay (l.set i x) (i+1) r
def JK {PB:Type} (l:List PB) (i:Nat) (xs:List PB) (k:List PB->Prop):Prop:=
 match xs with
 |[]=>k l
 |x::r=>CY l i x λl'=>JK l' (i+1) r k
theorem DY {PB:Type}:∀{xs:List PB} {l:List PB} {i:Nat} {k:List PB->Prop},JK l i xs k->k (lay l i xs)/\(xs≠[]->i+xs.length<=l.length)
 |[],l,i,k,h=>⟨h,λe=>absurd rfl e⟩
 |x::r,l,i,k,h=>by
  obtain⟨h,hi⟩:=Yh h
  obtain⟨h,hr⟩:=DY (xs:=r) h
  refine⟨h,λ_=> ?_⟩
  rw[List.length_set]at hr
  cases r with
  |nil=>simp;omega
  |cons y r=>have:=hr (by simp);simp at this⊢;omega
theorem Fb {PB:Type}:∀(xs l:List PB) (i:Nat),(lay l i xs).length=l.length
 |[],l,i=>rfl
 |x::r,l,i=>by rw[lay,Fb r];simp
structure QD where
 s:SV
 wh:List (Nat×Option DA)
 Y:Nat
 rh:List Nat
def ND (H:Nat->Option DA):List (Nat×Option DA)->(Nat->Option DA)
 |[]=>H
 |(b,x)::r=>ND (WE H b x) r
structure MS (w0:World) (W:Nat->Prop) (N:Nat) (F:Nat->Option RV) (H:Nat->Option DA) (G:wA) (a:Act) (w:World):Prop where
 heap:MH w0 W H G w
 size:a.tmps.size=N
 defers:a.defers=[]
 gC:SO F G a
def LJ (w0:World) (W:Nat->Prop) (H:Nat->Option DA) (G:wA) (Y:Nat) (r:QD) (y:Value) (w':World):Prop:=
 ∃uA,uD G uA/\(∀b,¬(Y<=b/\b<r.Y)->uA b=G b)/\aA uA r.s y/\MH w0 W (ND H r.wh) uA w'
def ZB (o:Oper):List Operand:=o.op.operands.toList
def JB (P:Program) (w0:World) (W:Nat->Prop) (N:Nat) (o:Oper) (F:FS) (H:HS) (Y:Nat) (c0:Bool) (r:QD):Prop:=
 Y<=r.Y/\(c0=true->∀F' H' G a w,(∀x∈ZB o,VF F' F x)->(∀b∈r.rh,H' b=WA H b)->(∀b,Y<=b->b<r.Y->G b= .iD)->MS w0 W N F' H' G a w->
  dD P o a w (LJ w0 W H' G Y r))
theorem LJ.same {w0 w:World} {W:Nat->Prop} {H:Nat->Option DA} {G:wA} {Y:Nat} {s:SV} {rh:List Nat} {y:Value} (h:MH w0 W H G w) (d:aA G s y):LJ w0 W H G Y ⟨s,[],Y,rh⟩ y w:=
 ⟨G,uD.refl G,λ_ _=>rfl,d,h⟩
def FV (P:Program) (w0:World) (W:Nat->Prop) (f:FuncId) (eB:List SV) (H:HS) (Y:Nat) (r:QD):Prop:=
 Y<=r.Y/\∀H' G w ys,(∀b∈r.rh,H' b=WA H b)->(∀b,Y<=b->b<r.Y->G b= .iD)->MH w0 W H' G w->ZA G eB ys->
  Calls P f (List.toArray ys) w λe w'=>∃y,e= .returned y/\LJ w0 W H' G Y r y w'
def EY (P:Program) (w0:World) (W:Nat->Prop) (f:FuncId) (eB:List SV) (H:HS) (Y:Nat) (c0:Bool) (k:QD->Prop):Prop:=
 ∃r,(Y<=r.Y/\(c0=true->FV P w0 W f eB H Y r))/\k r
def zA (n:Int):Prop:= -9223372036854775808<=n/\n<=9223372036854775807
theorem NO {n:Int} (h:zA n):IntKind.i64.wrap n=n:=by
 unfold zA at h;rw[IntKind.wrap_i64];omega
def Gb (op:BinOp) (c0:Bool) (x y:SV) (k:SV->Prop) (e:Prop):Prop:=
 match x,y with
 | .v (.int .i64 a), .v (.int .i64 b)=>
  (match op with
   | .add=>(c0=true->zA (a+b))/\k (.v (.int .i64 (a+b)))
   | .sub=>(c0=true->zA (a-b))/\k (.v (.int .i64 (a-b)))
   | .mul=>(c0=true->zA (a*b))/\k (.v (.int .i64 (a*b)))
   | .quo=>∃q:Int,(c0=true->b≠0/\a.tdiv b=q/\zA q)/\k (.v (.int .i64 q))
   | .rem=>∃q:Int,(c0=true->b≠0/\a.tmod b=q)/\k (.v (.int .i64 q))
   | .eql=>k (.v (.bool (a==b)))
   | .neq=>k (.v (.bool (a !=b)))
   | .lss=>k (.v (.bool (decide (a<b))))
   | .leq=>k (.v (.bool (decide (a<=b))))
   | .gtr=>k (.v (.bool (decide (a>b))))
   | .geq=>k (.v (.bool (decide (a>=b))))
   |_=>e)
 | .v (.int .u8 a), .v (.int .u8 b)=>
  (match op with
   | .add=>k (.v (.int .u8 (IntKind.u8.wrap (a+b))))
   | .sub=>k (.v (.int .u8 (IntKind.u8.wrap (a-b))))
   | .rem=>(c0=true->b≠0)/\k (.v (.int .u8 (a.tmod b)))
   | .eql=>k (.v (.bool (a==b)))
   | .neq=>k (.v (.bool (a !=b)))
   | .lss=>k (.v (.bool (decide (a<b))))
   | .leq=>k (.v (.bool (decide (a<=b))))
   | .gtr=>k (.v (.bool (decide (a>b))))
   | .geq=>k (.v (.bool (decide (a>=b))))
   |_=>e)
 | .v (.int .u64 a), .v (.int .u64 b)=>
  (match op with
   | .eql=>k (.v (.bool (a==b)))
   | .neq=>k (.v (.bool (a !=b)))
   | .lss=>k (.v (.bool (decide (a<b))))
   | .leq=>k (.v (.bool (decide (a<=b))))
   | .gtr=>k (.v (.bool (decide (a>b))))
   | .geq=>k (.v (.bool (decide (a>=b))))
   |_=>e)
 | .v (.int .i32 a), .v (.int .i32 b)=>
  (match op with
   | .eql=>k (.v (.bool (a==b)))
   | .neq=>k (.v (.bool (a !=b)))
   | .lss=>k (.v (.bool (decide (a<b))))
   | .leq=>k (.v (.bool (decide (a<=b))))
   | .gtr=>k (.v (.bool (decide (a>b))))
   | .geq=>k (.v (.bool (decide (a>=b))))
   |_=>e)
 | .v (.string a), .v (.string b)=>
  (match op with
   | .add=>(c0=true->a.size+b.size<=9223372036854775807)/\k (.v (.string (a++b)))
   | .eql=>k (.v (.bool (a.toList==b.toList)))
   | .neq=>k (.v (.bool (!(a.toList==b.toList))))
   |_=>e)
 | .v .nilIface, .v .nilIface=>e
 | .v .nilIface, .gD _ _=>e
 | .gD _ _, .v .nilIface=>e
 |_,_=>e
theorem Lv {P:Program} {op:BinOp} {c0:Bool} {x y:SV} {k:SV->Prop} {e:Prop} (h:Gb op c0 x y k e):
  e\/∃z,k (.v z)/\(c0=true->∀(G:wA) (t:TypeId) (u v:Operand) (a b:Value) (w:World),aA G x a->aA G y b->(do eqGuard op t u v a b;binOp op t a b:Sem Value).run P w= .ok z w):=by
 have mk:∀(a b z:Value),x= .v a->y= .v b->k (.v z)->(c0=true->∀(t:TypeId) (u v:Operand) (w:World),(do eqGuard op t u v a b;binOp op t a b:Sem Value).run P w= .ok z w)->
   e\/∃z,k (.v z)/\(c0=true->∀(G:wA) (t:TypeId) (u v:Operand) (a b:Value) (w:World),aA G x a->aA G y b->(do eqGuard op t u v a b;binOp op t a b:Sem Value).run P w= .ok z w):=by
  intro a b z hx hy hk hr
  refine .inr ⟨z,hk,λhc G t u v a' b' w da db=> ?_⟩
  subst hx;subst hy
  simp only[aA]at da db
  subst da;subst db
  exact hr hc t u v w
 unfold Gb at h
 split at h
 ·rename_i a b
  split at h
  ·exact mk _ _ _ rfl rfl h.2 λhc t u v w=>by simp[eqGuard,binOp,Op.intArith,NO (h.1 hc)]
  ·exact mk _ _ _ rfl rfl h.2 λhc t u v w=>by simp[eqGuard,binOp,Op.intArith,NO (h.1 hc)]
  ·exact mk _ _ _ rfl rfl h.2 λhc t u v w=>by simp[eqGuard,binOp,Op.intArith,NO (h.1 hc)]
  ·obtain⟨q,D,h2⟩:=h
   exact mk _ _ _ rfl rfl h2 λhc t u v w=>by
    obtain⟨g1,g2,g3⟩:=D hc
    simp[eqGuard,binOp,Op.intDiv,g1,g2,NO g3]
  ·obtain⟨q,D,h2⟩:=h
   exact mk _ _ _ rfl rfl h2 λhc t u v w=>by
    obtain⟨g1,g2⟩:=D hc
    simp[eqGuard,binOp,Op.intDiv,g1,g2]
  ·exact mk _ _ _ rfl rfl h λhc t u v w=>by simp[eqGuard,binOp,Op.intCmp]
  ·exact mk _ _ _ rfl rfl h λhc t u v w=>by simp[eqGuard,binOp,Op.intCmp]
  ·exact mk _ _ _ rfl rfl h λhc t u v w=>by simp[eqGuard,binOp,Op.intCmp]
  ·exact mk _ _ _ rfl rfl h λhc t u v w=>by simp[eqGuard,binOp,Op.intCmp]
  ·exact mk _ _ _ rfl rfl h λhc t u v w=>by simp[eqGuard,binOp,Op.intCmp]
  ·exact mk _ _ _ rfl rfl h λhc t u v w=>by simp[eqGuard,binOp,Op.intCmp]
  ·exact .inl h
 ·rename_i a b
  split at h
  ·exact mk _ _ _ rfl rfl h λhc t u v w=>by simp[eqGuard,binOp,Op.intArith]
  ·exact mk _ _ _ rfl rfl h λhc t u v w=>by simp[eqGuard,binOp,Op.intArith]
  ·exact mk _ _ _ rfl rfl h.2 λhc t u v w=>by simp[eqGuard,binOp,Op.intDiv,h.1 hc]
  ·exact mk _ _ _ rfl rfl h λhc t u v w=>by simp[eqGuard,binOp,Op.intCmp]
  ·exact mk _ _ _ rfl rfl h λhc t u v w=>by simp[eqGuard,binOp,Op.intCmp]
  ·exact mk _ _ _ rfl rfl h λhc t u v w=>by simp[eqGuard,binOp,Op.intCmp]
  ·exact mk _ _ _ rfl rfl h λhc t u v w=>by simp[eqGuard,binOp,Op.intCmp]
  ·exact mk _ _ _ rfl rfl h λhc t u v w=>by simp[eqGuard,binOp,Op.intCmp]
  ·exact mk _ _ _ rfl rfl h λhc t u v w=>by simp[eqGuard,binOp,Op.intCmp]
  ·exact .inl h
 ·rename_i a b
  split at h
  ·exact mk _ _ _ rfl rfl h λhc t u v w=>by simp[eqGuard,binOp,Op.intCmp]
  ·exact mk _ _ _ rfl rfl h λhc t u v w=>by simp[eqGuard,binOp,Op.intCmp]
  ·exact mk _ _ _ rfl rfl h λhc t u v w=>by simp[eqGuard,binOp,Op.intCmp]
  ·exact mk _ _ _ rfl rfl h λhc t u v w=>by simp[eqGuard,binOp,Op.intCmp]
  ·exact mk _ _ _ rfl rfl h λhc t u v w=>by simp[eqGuard,binOp,Op.intCmp]
  ·exact mk _ _ _ rfl rfl h λhc t u v w=>by simp[eqGuard,binOp,Op.intCmp]
  ·exact .inl h
 ·rename_i a b
  split at h
  ·exact mk _ _ _ rfl rfl h λhc t u v w=>by simp[eqGuard,binOp,Op.intCmp]
  ·exact mk _ _ _ rfl rfl h λhc t u v w=>by simp[eqGuard,binOp,Op.intCmp]
  ·exact mk _ _ _ rfl rfl h λhc t u v w=>by simp[eqGuard,binOp,Op.intCmp]
  ·exact mk _ _ _ rfl rfl h λhc t u v w=>by simp[eqGuard,binOp,Op.intCmp]
  ·exact mk _ _ _ rfl rfl h λhc t u v w=>by simp[eqGuard,binOp,Op.intCmp]
  ·exact mk _ _ _ rfl rfl h λhc t u v w=>by simp[eqGuard,binOp,Op.intCmp]
  ·exact .inl h
 ·rename_i a b
  split at h
  ·refine mk _ _ _ rfl rfl h.2 λhc t u v w=> ?_
   simp[eqGuard,binOp,Op.stringOp]
   have h2:=h.1 hc
   omega
  ·exact mk _ _ _ rfl rfl h λhc t u v w=>by simp[eqGuard,binOp,Op.stringOp]
  ·exact mk _ _ _ rfl rfl h λhc t u v w=>by simp[eqGuard,binOp,Op.stringOp]
  ·exact .inl h
 all_goals exact .inl h
section
variable {P:Program} {ty:Nat->Option TI} {w0:World} {W:Nat->Prop} {N:Nat} {o:Oper} {F:FS} {H:HS} {Y:Nat} {c0:Bool}
def Rd (F:FS) (c0:Bool) (x:Operand) (s:SV):Prop:=∀F' G a,c0=true->VF F' F x->SO F' G a->aA G s (a.eval x)
theorem JB.pure {s:SV} (h:c0=true->∀F' G a w,(∀x∈ZB o,VF F' F x)->SO F' G a->∃y,(execOp a.eval o).run P w= .ok (.value y) w/\aA G s y):JB P w0 W N o F H Y c0 ⟨s,[],Y,[]⟩:=by
 refine⟨Nat.le_refl _,λhc F' H' G a w hF hH hu hM=> ?_⟩
 obtain⟨y,hr,d⟩:=h hc F' G a w hF hM.gC
 exact dD.value hr (LJ.same hM.heap d)
theorem Mv {x:Operand} {s:SV} (ho:o.op= .move x) (h:Rd F c0 x s):JB P w0 W N o F H Y c0 ⟨s,[],Y,[]⟩:=
 JB.pure λhc F' G a w hF hS=>⟨a.eval x,by simp[execOp,ho],h F' G a hc (hF x (by simp[ZB,ho,Op.operands])) hS⟩
theorem Nv {x:Operand} {s:SV} (ho:o.op= .assign x) (h:Rd F c0 x s):JB P w0 W N o F H Y c0 ⟨s,[],Y,[]⟩:=
 JB.pure λhc F' G a w hF hS=>⟨a.eval x,by simp[execOp,ho],h F' G a hc (hF x (by simp[ZB,ho,Op.operands])) hS⟩
theorem Ov {c x y:Operand} {bb u v:Bool} (ho:o.op= .pick c x y) (h:Rd F c0 c (.v (.bool bb))) (hx:Rd F (c0&&bb) x (.v (.bool u))) (hy:Rd F (c0&& !bb) y (.v (.bool v))):
  JB P w0 W N o F H Y c0 ⟨.v (.bool (if bb then u else v)),[],Y,[]⟩:=
 JB.pure λhc F' G a w hF hS=>by
  have D:=h F' G a hc (hF c (by simp[ZB,ho,Op.operands])) hS
  simp only[aA]at D
  cases bb with
  |true=>
   have h2:=hx F' G a (by simp[hc]) (hF x (by simp[ZB,ho,Op.operands])) hS
   simp only[aA]at h2
   exact⟨.bool u,by simp[execOp,ho,D,asBool,h2],by simp[aA]⟩
  |false=>
   have h2:=hy F' G a (by simp[hc]) (hF y (by simp[ZB,ho,Op.operands])) hS
   simp only[aA]at h2
   exact⟨.bool v,by simp[execOp,ho,D,asBool,h2],by simp[aA]⟩
theorem Zh {G:wA} {w:World} {H':Nat->Option DA} {cs:List Value} {l:List SV} (t:TypeId) (hM:MH w0 W H' G w) (hu:G Y= .iD) (d:ZA G l cs):
  LJ w0 W H' G Y ⟨.p Y 0,[(Y,some (.st l))],Y+1,[]⟩ (.pointer (some ⟨w.heap.size,0,none⟩)) (w.alloc (.cells (List.toArray cs) t)):=by
 obtain⟨uA,he,D,h2,h3⟩:=hM.alloc hu cs t 0 (.st l) rfl (λuA he Z=>⟨_,_,_,_,Z,heap_alloc_new _ _,ZA.ext he _ _ d⟩)
 refine⟨uA,he,λb Z=>D b (λe=>Z (by simp only;omega)),?_,by simpa [ND]using h3⟩
 simp only[aA]
 exact⟨_,_,_,h2,by simp⟩
theorem Pv {t:TypeId} {i:TI} (HC:GF P ty) (ho:o.op= .alloc t) (hi:ty t=some i):JB P w0 W N o F H Y c0 ⟨.p Y 0,[(Y,some (.st (cC i.zero)))],Y+1,[]⟩:=by
 refine⟨Nat.le_succ _,λhc F' H' G a w hF hH hu hM=> ?_⟩
 obtain⟨I,D,h2,h3,z,h4,h5⟩:=(HC t i hi).jL
 have:=Zh (w0:=w0) (W:=W) (cs:=i.zero) t hM.heap (hu Y qA (Nat.lt_succ_self _)) (ZA.cC G i.zero)
 refine dD.value ?_ this
 have hz:z.cells=List.toArray i.zero:=by rw[<-h5]
 simp[execOp,ho,Instr.alloc,zeroValue,typeInfo,D,h4,newVar,newRow,hz]
theorem Qv {t:TypeId} {x:Operand} {s:SV} {l:List SV} (ho:o.op= .box t x) (h:Rd F c0 x s) (hl:cellsOf s=some l):JB P w0 W N o F H Y c0 ⟨.p Y 0,[(Y,some (.st l))],Y+1,[]⟩:=by
 refine⟨Nat.le_succ _,λhc F' H' G a w hF hH hu hM=> ?_⟩
 have d:=h F' G a hc (hF x (by simp[ZB,ho,Op.operands])) hM.gC
 have:=Zh (w0:=w0) (W:=W) t hM.heap (hu Y qA (Nat.lt_succ_self _)) (Bb hl d)
 refine dD.value ?_ this
 simp[execOp,ho,Instr.box,newVar,newRow]
theorem Rv {t:TypeId} {i:TI} {x:Operand} {b q:Nat} {bl:DA} {s:SV} (HC:GF P ty) (ho:o.op= .load t x) (hi:ty t=some i) (iH:i.agg=false) (h:Rd F c0 x (.p b q)) (Z:WA H b=some bl) (hs:bl.cells[q]? =some s):
  JB P w0 W N o F H Y c0 ⟨s,[],Y,[b]⟩:=by
 refine⟨Nat.le_refl _,λhc F' H' G a w hF hH hu hM=> ?_⟩
 have d:=h F' G a hc (hF x (by simp[ZB,ho,Op.operands])) hM.gC
 simp only[aA]at d
 obtain⟨r,k,c,e,d⟩:=d
 obtain⟨y,hy,dy⟩:=(hM.heap.ok b bl ((hH b (by simp)).trans Z)).cell e hs
 obtain⟨dd,D,h2,h3⟩:=(HC t i hi).under
 refine dD.value ?_ (LJ.same hM.heap dy)
 have hA:=VP (P:=P) (w:=w) D
 rw[<-h3,iH]at hA
 simp[execOp,ho,Instr.loadAt,d,Instr.sureAddr,loadVar,hA,load,Sem.run,hy]
theorem ah {G:wA} {w:World} {r q:Nat}:∀(l:List SV),(∀j x,l[j]? =some x->∃y,w.cell? ⟨r,q+j,none⟩=some y/\aA G x y)->
  ∃ys,ys.length=l.length/\ZA G l ys/\∀j u,ys[j]? =some u->w.cell? ⟨r,q+j,none⟩=some u:=by
 intro l
 induction l generalizing q with
 |nil=>intro _;exact⟨[],rfl,by simp[ZA],λj u hu=>by simp at hu⟩
 |cons x l ih=>
  intro hq
  obtain⟨y,hy,dy⟩:=hq 0 x rfl
  obtain⟨ys,hl,dl,hc⟩:=ih (q:=q+1) (λj x hx=>by have:=hq (j+1) x (by simpa using hx);rwa [show q+(j+1)=q+1+j by omega]at this)
  refine⟨y::ys,by simp[hl],by simp only[ZA];exact⟨y,ys,rfl,dy,dl⟩,λj u hu=> ?_⟩
  cases j with
  |zero=>simp at hu;subst hu;simpa using hy
  |succ j=>simp at hu;have:=hc j u hu;rwa [show q+(j+1)=q+1+j by omega]
theorem Sv {t:TypeId} {i:TI} {x:Operand} {b q:Nat} {bl:DA} {l:List SV} (HC:GF P ty) (ho:o.op= .load t x) (hi:ty t=some i) (iH:i.agg=true) (h:Rd F c0 x (.p b q)) (Z:WA H b=some bl)
  (hl:l.length=i.size) (hs:∀(j:Nat) (s:SV),l[j]? =some s->bl.cells[q+j]? =some s):JB P w0 W N o F H Y c0 ⟨.agg l,[],Y,[b]⟩:=by
 refine⟨Nat.le_refl _,λhc F' H' G a w hF hH hu hM=> ?_⟩
 have d:=h F' G a hc (hF x (by simp[ZB,ho,Op.operands])) hM.gC
 simp only[aA]at d
 obtain⟨r,k,c,e,d⟩:=d
 have dB:=hM.heap.ok b bl ((hH b (by simp)).trans Z)
 obtain⟨ys,JH,JI,Hb⟩:=ah (G:=G) (w:=w) (r:=r) (q:=k+q) l (λj s hj=>by
  have:=dB.cell e (hs j s hj)
  rwa [show k+(q+j)=k+q+j by omega]at this)
 obtain⟨dd,D,h2,h3⟩:=(HC t i hi).under
 obtain⟨I,i1,i2,_⟩:=(HC t i hi).jL
 refine dD.value (y:= .agg (List.toArray ys)) ?_ (LJ.same hM.heap (by simp only[aA];exact⟨ys,rfl,JI⟩))
 have hA:=VP (P:=P) (w:=w) D
 rw[<-h3,iH]at hA
 have hL:=run_loadCells_list (P:=P) w ⟨r,k+q,none⟩ ys (λj v hv=>by rw[LO];exact Hb j v hv)
 rw[JH,hl,<-i2]at hL
 simp[execOp,ho,Instr.loadAt,d,Instr.sureAddr,loadVar,hA,run_sizeOf i1,hL]
theorem ZA.lay {G:wA}:∀{xs:List SV} {ys:List Value} {l:List SV} {m:List Value} {i:Nat},ZA G xs ys->ZA G l m->ZA G (En.lay l i xs) (En.lay m i ys)
 |[],ys,l,m,i,d,dm=>by simp only[ZA]at d;subst d;exact dm
 |x::xs,ys,l,m,i,d,dm=>by
  simp only[ZA]at d
  obtain⟨y,r,rfl,dx,dr⟩:=d
  simp only[En.lay]
  exact ZA.lay dr (ZA.set dm dx)
theorem dh {PB:Type}:∀(xs l:List PB) (i:Nat),i+xs.length<=l.length->lay l i xs=l.take i++xs++l.drop (i+xs.length)
 |[],l,i,_=>by simp[lay]
 |x::r,l,i,h=>by
  have hi:i<l.length:=by simp at h;omega
  rw[lay,dh r (l.set i x) (i+1) (by simp at h⊢;omega)]
  have D:(l.set i x).take (i+1)=l.take i++[x]:=by
   rw[List.take_succ_eq_append_getElem (by simpa using hi)]
   simp[List.take_set_of_le]
  have h2:(l.set i x).drop (i+1+r.length)=l.drop (i+(r.length+1)):=by
   rw[List.drop_set_of_lt O];congr 1;omega
  rw[D,h2];simp
def DA.put:DA->List SV->DA
 | .st _,xs=> .st xs
 | .X es e _,xs=> .X es e xs
 | .ro _,xs=> .ro xs
 | .obj o,_=> .obj o
def DA.Ev:DA->Bool
 | .st _| .X _ _ _=>true
 |_=>false
theorem DA.wEA {k:DA} (h:k.Ev=true):k.own=true:=by cases k<;>first|rfl|cases h
theorem jh {t:TypeId} {i:TI} {x v:Operand} {b q:Nat} {bl:DA} {s:SV} {l:List SV} (HC:GF P ty) (ho:o.op= .store t x v) (hi:ty t=some i) (h:Rd F c0 x (.p b q)) (hv:Rd F c0 v s)
  (Z:WA H b=some bl) (zS:bl.Ev=true) (hl:cellsOf s=some l) (GI:l.length=i.size) (Tv:l.all UP=true) (BD:l≠[]->q+l.length<=bl.cells.length):
  JB P w0 W N o F H Y c0 ⟨.v undef,[(b,some (bl.put (lay bl.cells q l)))],Y,[b]⟩:=by
 have HV:=DA.wEA zS
 refine⟨Nat.le_refl _,λhc F' H' G a w hF hH hu hM=> ?_⟩
 have d:=h F' G a hc (hF x (by simp[ZB,ho,Op.operands])) hM.gC
 have dv:=hv F' G a hc (hF v (by simp[ZB,ho,Op.operands])) hM.gC
 have dl:=Bb hl dv
 simp only[aA]at d
 obtain⟨r,k,c,e,d⟩:=d
 have IV:H' b=some bl:=(hH b (by simp)).trans Z
 have dB:=hM.heap.ok b bl IV
 obtain⟨I,i1,i2,_⟩:=(HC t i hi).jL
 have hlen:(a.eval v).cells.toList.length=l.length:=ZA.length _ _ dl
 have AT:∀u∈(a.eval v).cells.toList,u.oneCell'=true:=by
  intro u hu
  obtain⟨j,hj⟩:=List.getElem?_of_mem hu
  have KK:j<l.length:=by rw[<-hlen];exact(List.getElem?_eq_some_iff.1 hj).1
  obtain⟨y,hy,dy⟩:=ZA.get _ _ dl j l[j] (List.getElem?_eq_getElem KK)
  rw[hj]at hy;cases hy
  exact Uh (List.all_eq_true.1 Tv _ (List.getElem_mem KK)) dy
 obtain⟨cs,sp,e1,kL,JV,YP⟩:∃cs sp e1,k=0/\w.heap[r]? =some (.cells (List.toArray (cs++sp)) e1 (0,0))/\ZA G bl.cells cs:=by
  cases bl with
  |st xs=>
   obtain⟨r',c',e',cs,e1,e2,dd⟩:=dB
   rw[e]at e1;cases e1
   exact⟨cs,[],e',rfl,by simpa using e2,dd⟩
  |X es e' xs=>
   rcases dB with⟨e1,_⟩|⟨r',c',cs,sp,e1,e2,dd,_⟩
   ·rw[e]at e1;cases e1
   ·rw[e]at e1;cases e1
    exact⟨cs,sp,e',rfl,e2,dd⟩
  |ro xs=>cases HV
  |obj o=>cases zS
 subst kL
 have HG:cs.length=bl.cells.length:=ZA.length _ _ YP
 let new:=(a.eval v).cells.toList
 have KV:ZA G (lay bl.cells q l) (lay cs q new):=ZA.lay dl YP
 have mh:new.length=l.length:=hlen
 have zS:(storeCells ⟨r,q,none⟩ new).run P w= .ok () (w.setRow r (List.toArray (lay cs q new++sp))):=by
  by_cases LC:l=[]
  ·have hn:new=[]:=List.eq_nil_of_length_eq_zero (by rw[mh,LC];rfl)
   rw[hn];simp only[storeCells,lay]
   rw[setRow_self w r _ e1 (0,0) JV];rfl
  ·have hq:q+new.length<=cs.length:=by have:=BD LC;rw[mh,HG];exact this
   have:=run_storeCells_at (P:=P) r q e1 new 0 (List.toArray (cs++sp)) w JV eA AT
   rw[this,dh new cs q hq]
   congr 2
   simp only[Nat.add_zero]
   rw[List.take_append_of_le_length O,List.drop_append_of_le_length hq]
   simp
 refine dD.skip (w':=w.setRow r (List.toArray (lay cs q new++sp))) ?_ ⟨G,uD.refl G,λ_ _=>rfl,by simp[aA],?_⟩
 ·have hs:(a.eval v).cells.size=I.size:=by rw[i2,<-GI,<-hlen];simp
  have Uv:(storeCells ⟨r,q,none⟩ (a.eval v).cells.toList).run P w= .ok () (w.setRow r (List.toArray (lay cs q new++sp))):=zS
  simp only[Nat.zero_add]at d
  simp[execOp,ho,Instr.storeAt,d,Instr.sureAddr,storeVar,run_sizeOf i1,hs,Uv]
 ·refine hM.heap.Qh IV HV (k':=bl.put (lay bl.cells q l)) (by cases bl<;>first|rfl|cases zS) e rfl rfl rfl (by simp) (λj _ hj=>setRow_other w r j _ hj) ?_
  have LV:=setRow_heap w r _ (List.toArray (lay cs q new++sp)) e1 (0,0) JV
  cases bl with
  |st xs=>
   obtain⟨r',c',e',FY,LK,e2,dd⟩:=dB
   rw[e]at LK;cases LK
   rw[JV]at e2;cases e2
   have uF:sp=[]:=by
    have D:=ZA.length _ _ dd
    have h2:cs.length=xs.length:=HG
    simp at D
    exact List.eq_nil_of_length_eq_zero O
   subst uF
   exact⟨_,_,_,_,e,by simpa using LV,KV⟩
  |X es e' xs=>
   rcases dB with⟨LK,_⟩|⟨r',c',FY,Vv,LK,e2,dd,aM,rQ⟩
   ·rw[e]at LK;cases LK
   ·rw[e]at LK;cases LK
    rw[JV]at e2
    simp only[Option.some.injEq,Obj.cells.injEq]at e2
    obtain⟨e2,e3,_⟩:=e2
    have e2:cs++sp=FY++Vv:=by have:=congrArg Array.toList e2;simpa using this
    have e4:cs.length=FY.length:=by rw[HG,ZA.length _ _ dd];rfl
    obtain⟨e5,e6⟩:=List.append_inj e2 e4
    subst e5;subst e6;subst e3
    refine .inr ⟨_,_,_,_,e,LV,KV,?_,rQ⟩
    rw[Fb];exact aM
  |ro xs=>cases HV
  |obj o=>cases zS
end
section
variable {P:Program} {ty:Nat->Option TI} {w0:World} {W:Nat->Prop} {N:Nat} {o:Oper} {F:FS} {H:HS} {Y:Nat} {c0:Bool}
theorem JB.dH {z:Value} (h:c0=true->∀F' G a w,(∀x∈ZB o,VF F' F x)->SO F' G a->(execOp a.eval o).run P w= .ok (.value z) w):JB P w0 W N o F H Y c0 ⟨.v z,[],Y,[]⟩:=
 JB.pure λhc F' G a w hF hS=>⟨z,h hc F' G a w hF hS,by simp only[aA]⟩
theorem Wv {t:TypeId} {i:TI} {x:Operand} {f b q off sz:Nat} {ag:Bool} {fs:List (Nat×Nat×Bool)} (HC:GF P ty) (ho:o.op= .fieldAddr t x f) (hi:ty t=some i) (hk:i.kind= .st fs)
  (hf:fs[f]? =some (off,sz,ag)) (GI:sz≠0) (h:Rd F c0 x (.p b q)):JB P w0 W N o F H Y c0 ⟨.p b (q+off),[],Y,[]⟩:=
 JB.pure λhc F' G a w hF hS=>by
  have d:=h F' G a hc (hF x (by simp[ZB,ho,Op.operands])) hS
  simp only[aA]at d
  obtain⟨r,k,c,e,d⟩:=d
  obtain⟨dd,D,h2,h3⟩:=(HC t i hi).under
  rw[hk]at h2
  obtain⟨fields,rfl,hl,h2⟩:=h2
  obtain⟨fl,RN,Ib,⟨I,hI,vE⟩,_⟩:=h2 f off sz ag hf
  refine⟨.pointer (some ⟨r,k+(q+off),none⟩),?_,by simp only[aA];exact⟨r,k,c,e,rfl⟩⟩
  have LC:I.size≠0:=by rw[vE];exact GI
  have lL:=run_sizeOf (P:=P) (w:=w) hI
  simp[execOp,ho,Instr.fieldAt,run_underlying D,RN,d,Instr.sureAddr,fieldPlace,lL,LC,Ib,LO,Nat.add_assoc]
theorem Xv {t:TypeId} {i:TI} {x:Operand} {f off sz:Nat} {fs:List (Nat×Nat×Bool)} {l:List SV} {s:SV} (HC:GF P ty) (ho:o.op= .field t x f) (hi:ty t=some i) (hk:i.kind= .st fs)
  (hf:fs[f]? =some (off,sz,false)) (hs:l[off]? =some s) (h:Rd F c0 x (.agg l)):JB P w0 W N o F H Y c0 ⟨s,[],Y,[]⟩:=
 JB.pure λhc F' G a w hF hS=>by
  have d:=h F' G a hc (hF x (by simp[ZB,ho,Op.operands])) hS
  simp only[aA]at d
  obtain⟨ys,d,dl⟩:=d
  obtain⟨dd,D,h2,h3⟩:=(HC t i hi).under
  rw[hk]at h2
  obtain⟨fields,rfl,hl,h2⟩:=h2
  obtain⟨fl,RN,Ib,⟨I,hI,vE⟩,df,Jb,iH⟩:=h2 f off sz false hf
  obtain⟨y,hy,dy⟩:=ZA.get _ _ dl off s hs
  refine⟨y,?_,dy⟩
  have hA:=VP (P:=P) (w:=w) Jb
  rw[<-iH]at hA
  subst Ib
  simp[execOp,ho,Instr.field,run_underlying D,RN,d,asAgg,part,hA,hy]
theorem Yv {x:Operand} {b q:Nat} (ho:o.op= .nilCheck x) (h:Rd F c0 x (.p b q)):JB P w0 W N o F H Y c0 ⟨.p b q,[],Y,[]⟩:=
 JB.pure λhc F' G a w hF hS=>by
  have d:=h F' G a hc (hF x (by simp[ZB,ho,Op.operands])) hS
  have d':=d
  simp only[aA]at d'
  obtain⟨r,k,c,e,d'⟩:=d'
  exact⟨a.eval x,by simp[execOp,ho,d'],d⟩
theorem Zv {x:Operand} {g:FuncId} {fi ca:List SV} (ho:o.op= .nilCheck x) (h:Rd F c0 x (.fn (.func g) fi ca)):JB P w0 W N o F H Y c0 ⟨.fn (.func g) fi ca,[],Y,[]⟩:=
 JB.pure λhc F' G a w hF hS=>by
  have d:=h F' G a hc (hF x (by simp[ZB,ho,Op.operands])) hS
  have d':=d
  simp only[aA]at d'
  obtain⟨xs,ys,d',_,_⟩:=d'
  exact⟨a.eval x,by simp[execOp,ho,d'],d⟩
theorem av {t:TypeId} {i:TI} {x j:Operand} {b q n es el:Nat} {kk:IntKind} {z:Int} (HC:GF P ty) (ho:o.op= .indexAddr t x j) (hi:ty t=some i) (hk:i.kind= .sl el es)
  (h:Rd F c0 x (.s b q n)) (hj:Rd F c0 j (.v (.int kk z))) (Z:c0=true->0<=z/\z<n):JB P w0 W N o F H Y c0 ⟨.p b (q+z.toNat*es),[],Y,[]⟩:=
 JB.pure λhc F' G a w hF hS=>by
  have d:=h F' G a hc (hF x (by simp[ZB,ho,Op.operands])) hS
  have dj:=hj F' G a hc (hF j (by simp[ZB,ho,Op.operands])) hS
  simp only[aA]at d dj
  obtain⟨hz,hn⟩:=Z hc
  obtain⟨dd,D,h2,h3⟩:=(HC t i hi).under
  rw[hk]at h2
  obtain⟨rfl,I,hI,vE⟩:=h2
  have lL:=run_sizeOf (P:=P) (w:=w) hI
  rcases d with⟨_,_,HF,_⟩|⟨r,k,c,ad,cap,e,d,aM,_,_,bM⟩
  ·omega
  ·refine⟨.pointer (some ⟨r,k+(q+z.toNat*es),none⟩),?_,by simp only[aA];exact⟨r,k,c,e,rfl⟩⟩
   have bM:=bM O
   subst bM
   simp[execOp,ho,Instr.indexAt,dj,asIntOf,run_underlying D,d,hz,hn,lL,vE,LO,Nat.add_assoc]
theorem cv {t:TypeId} {i:TI} {x j:Operand} {kk:IntKind} {z:Int} {s:ByteArray} (HC:GF P ty) (ho:o.op= .index t x j) (hi:ty t=some i) (hk:i.kind= .str)
  (h:Rd F c0 x (.v (.string s))) (hj:Rd F c0 j (.v (.int kk z))) (Z:c0=true->0<=z/\z<s.size):JB P w0 W N o F H Y c0 ⟨.v (.int .u8 (((s.data.toList.getD z.toNat 0).toNat:Nat):Int)),[],Y,[]⟩:=
 JB.dH λhc F' G a w hF hS=>by
  have d:=h F' G a hc (hF x (by simp[ZB,ho,Op.operands])) hS
  have dj:=hj F' G a hc (hF j (by simp[ZB,ho,Op.operands])) hS
  simp only[aA]at d dj
  obtain⟨hz,hn⟩:=Z hc
  obtain⟨dd,D,h2,h3⟩:=(HC t i hi).under
  rw[hk]at h2
  have h2:dd= .string:=h2
  subst h2
  have fA:z.toNat<s.size:=O
  have hg:s[z.toNat]? =some s[z.toNat]:=by simp[getElem?_pos,fA]
  have he:s.data.toList.getD z.toNat 0=s[z.toNat]:=by
   have h4:z.toNat<s.data.toList.length:=by simpa using fA
   rw[List.getD,List.getElem?_eq_getElem h4,Option.getD_some,Array.getElem_toList]
   rfl
  rw[he]
  simp[execOp,ho,Instr.index,dj,asIntOf,run_underlying D,d,hz,hg]
theorem ev {op:BinOp} {t t':TypeId} {x y:Operand} {sx sy:SV} {z:Value} (ho:o.op= .binOp op t x y t') (hx:Rd F c0 x sx) (hy:Rd F c0 y sy)
  (h:c0=true->∀(G:wA) (t:TypeId) (u v:Operand) (a b:Value) (w:World),aA G sx a->aA G sy b->(do eqGuard op t u v a b;binOp op t a b:Sem Value).run P w= .ok z w):JB P w0 W N o F H Y c0 ⟨.v z,[],Y,[]⟩:=
 JB.pure λhc F' G a w hF hS=>by
  have dx:=hx F' G a hc (hF x (by simp[ZB,ho,Op.operands])) hS
  have dy:=hy F' G a hc (hF y (by simp[ZB,ho,Op.operands])) hS
  have:=h hc G t x y _ _ w dx dy
  refine⟨z,?_,by simp[aA]⟩
  have e:execOp a.eval o=(do pure (.value (<-(do eqGuard op t x y (a.eval x) (a.eval y);binOp op t (a.eval x) (a.eval y):Sem Value))):Sem Next):=by
   simp[execOp,ho]
  rw[e,Sem.run_bind,this]
  simp
theorem fv {t:TypeId} {x:Operand} {b:Bool} (ho:o.op= .unOp .not t x) (hx:Rd F c0 x (.v (.bool b))):JB P w0 W N o F H Y c0 ⟨.v (.bool (!b)),[],Y,[]⟩:=
 JB.dH λhc F' G a w hF hS=>by
  have d:=hx F' G a hc (hF x (by simp[ZB,ho,Op.operands])) hS
  simp only[aA]at d
  simp[execOp,ho,d,Op.unary]
theorem iv {t:TypeId} {x:Operand} {z:Int} (ho:o.op= .unOp .neg t x) (hx:Rd F c0 x (.v (.int .i64 z))) (Z:c0=true->zA (-z)):JB P w0 W N o F H Y c0 ⟨.v (.int .i64 (-z)),[],Y,[]⟩:=
 JB.pure λhc F' G a w hF hS=>by
  have d:=hx F' G a hc (hF x (by simp[ZB,ho,Op.operands])) hS
  simp only[aA]at d
  have D:IntKind.i64.wrap (0-z)= -z:=by rw[NO (by simpa using Z hc)];simp
  have h2:(Op.unary .neg (.int .i64 z)).run P w= .ok (.int .i64 (-z)) w:=by
   show(Op.intArith .sub .i64 0 z).run P w=_
   simp only[Op.intArith,Sem.run_pure,D]
  refine⟨.int .i64 (-z),?_,by simp only[aA]⟩
  simp[execOp,ho,d,h2]
theorem jv {s t:TypeId} {i j:TI} {x:Operand} {k kk:IntKind} {z:Int} (HC:GF P ty) (ho:o.op= .convert s t x) (hj:ty s=some j) (hi:ty t=some i) (hk:i.kind= .int k)
  (hx:Rd F c0 x (.v (.int kk z))) (Z:c0=true->k.wrap z=z):JB P w0 W N o F H Y c0 ⟨.v (.int k z),[],Y,[]⟩:=
 JB.dH λhc F' G a w hF hS=>by
  have d:=hx F' G a hc (hF x (by simp[ZB,ho,Op.operands])) hS
  simp only[aA]at d
  obtain⟨dd,D,h2,h3⟩:=(HC t i hi).under
  obtain⟨ds,h4,_,_⟩:=(HC s j hj).under
  rw[hk]at h2
  have h2:dd= .int k:=h2
  subst h2
  have:(convert s t (.int kk z)).run P w= .ok (.int k z) w:=by
   unfold convert
   simp[run_underlying h4,run_underlying D,Conv.intToInt,Z hc]
  simp[execOp,ho,d,this]
theorem lv {t:TypeId} {i:TI} {x:Operand} {s:SV} (HC:GF P ty) (ho:o.op= .makeInterface t x) (hi:ty t=some i) (nh:i.kind≠ .gD) (hx:Rd F c0 x s):JB P w0 W N o F H Y c0 ⟨.gD t s,[],Y,[]⟩:=
 JB.pure λhc F' G a w hF hS=>by
  have d:=hx F' G a hc (hF x (by simp[ZB,ho,Op.operands])) hS
  obtain⟨dd,D,h2,h3⟩:=(HC t i hi).under
  refine⟨.iface t (a.eval x),?_,by simp only[aA];exact⟨_,rfl,d⟩⟩
  have LC:∀ms,dd≠ .interface ms:=by
   intro ms e
   subst e
   cases hk:i.kind<;>rw[hk]at h2 nh<;>simp[Cb]at h2 nh
  simp only[execOp,ho,Instr.makeInterface,Sem.run_bind,run_underlying D,Result.andThen_ok]
  cases dd<;>first|(rename_i ms;exact absurd rfl (LC ms))|rfl
theorem mv {fn:Fn} {fi ca:Array Operand} {sf sc:List SV} (ho:o.op= .makeFunc fn fi ca)
  (hf:∀F' G a,c0=true->(∀x∈fi.toList,VF F' F x)->SO F' G a->ZA G sf (fi.toList.map a.eval))
  (nv:∀F' G a,c0=true->(∀x∈ca.toList,VF F' F x)->SO F' G a->ZA G sc (ca.toList.map a.eval)):JB P w0 W N o F H Y c0 ⟨.fn fn sf sc,[],Y,[]⟩:=
 JB.pure λhc F' G a w hF hS=>by
  have d1:=hf F' G a hc (λx hx=>hF x (by simp[ZB,ho,Op.operands];exact .inl (by simpa using hx))) hS
  have d2:=nv F' G a hc (λx hx=>hF x (by simp[ZB,ho,Op.operands];exact .inr (by simpa using hx))) hS
  refine⟨.func fn (fi.map a.eval) (ca.map a.eval),by simp[execOp,ho,Instr.makeFunc],?_⟩
  simp only[aA]
  exact⟨_,_,by rw[<-Array.toList_map,<-Array.toList_map],d1,d2⟩
theorem ov {x:Operand} {j:Nat} {l:List SV} {s:SV} (ho:o.op= .extract x j) (hx:Rd F c0 x (.jA l)) (hs:l[j]? =some s):JB P w0 W N o F H Y c0 ⟨s,[],Y,[]⟩:=
 JB.pure λhc F' G a w hF hS=>by
  have d:=hx F' G a hc (hF x (by simp[ZB,ho,Op.operands])) hS
  simp only[aA]at d
  obtain⟨ys,d,dl⟩:=d
  obtain⟨y,hy,dy⟩:=ZA.get _ _ dl j s hs
  exact⟨y,by simp[execOp,ho,d,Instr.extract,hy],dy⟩
theorem qv {t:TypeId} {i:TI} {x:Operand} {b q n el es:Nat} (HC:GF P ty) (ho:o.op= .call {callee:= .builtin .len,args:= #[x],argTypes:= #[t]}) (hi:ty t=some i) (hk:i.kind= .sl el es)
  (hx:Rd F c0 x (.s b q n)):JB P w0 W N o F H Y c0 ⟨.v (.int .i64 n),[],Y,[]⟩:=
 JB.dH λhc F' G a w hF hS=>by
  have d:=hx F' G a hc (hF x (by simp[ZB,ho,Op.operands,Call.operands])) hS
  simp only[aA]at d
  obtain⟨dd,D,h2,h3⟩:=(HC t i hi).under
  rw[hk]at h2
  obtain⟨rfl,_⟩:=h2
  rcases d with⟨_,_,rfl,d⟩|⟨r,k,c,ad,cap,e,d,_⟩<;>
  simp[execOp,ho,resolve,invoke,builtin,Builtin.len_,run_underlying D,d,goInt]
theorem rv {t:TypeId} {i:TI} {x:Operand} {el es:Nat} (HC:GF P ty) (ho:o.op= .call {callee:= .builtin .len,args:= #[x],argTypes:= #[t]}) (hi:ty t=some i) (hk:i.kind= .sl el es) {q:Option Addr} {n c:Nat}
  (hx:Rd F c0 x (.v (.slice q n c))):JB P w0 W N o F H Y c0 ⟨.v (.int .i64 n),[],Y,[]⟩:=
 JB.dH λhc F' G a w hF hS=>by
  have d:=hx F' G a hc (hF x (by simp[ZB,ho,Op.operands,Call.operands])) hS
  simp only[aA]at d
  obtain⟨dd,D,h2,h3⟩:=(HC t i hi).under
  rw[hk]at h2
  obtain⟨rfl,_⟩:=h2
  simp[execOp,ho,resolve,invoke,builtin,Builtin.len_,run_underlying D,d,goInt]
theorem tv {t:TypeId} {i:TI} {x:Operand} {s:ByteArray} (HC:GF P ty) (ho:o.op= .call {callee:= .builtin .len,args:= #[x],argTypes:= #[t]}) (hi:ty t=some i) (hk:i.kind= .str)
  (hx:Rd F c0 x (.v (.string s))):JB P w0 W N o F H Y c0 ⟨.v (.int .i64 s.size),[],Y,[]⟩:=
 JB.dH λhc F' G a w hF hS=>by
  have d:=hx F' G a hc (hF x (by simp[ZB,ho,Op.operands,Call.operands])) hS
  simp only[aA]at d
  obtain⟨dd,D,h2,h3⟩:=(HC t i hi).under
  rw[hk]at h2
  have h2:dd= .string:=h2
  subst h2
  simp[execOp,ho,resolve,invoke,builtin,Builtin.len_,run_underlying D,d,goInt]
theorem uv {at_:Array TypeId} {x y:Operand} {k k':IntKind} {u v:Int} (ho:o.op= .call {callee:= .builtin .max,args:= #[x,y],argTypes:=at_}) (hx:Rd F c0 x (.v (.int k u))) (hy:Rd F c0 y (.v (.int k' v))):
  JB P w0 W N o F H Y c0 ⟨.v (.int k (if v>u then v else u)),[],Y,[]⟩:=
 JB.dH λhc F' G a w hF hS=>by
  have d:=hx F' G a hc (hF x (by simp[ZB,ho,Op.operands,Call.operands])) hS
  have d':=hy F' G a hc (hF y (by simp[ZB,ho,Op.operands,Call.operands])) hS
  simp only[aA]at d d'
  simp[execOp,ho,resolve,invoke,builtin,Builtin.max_,Builtin.max2,d,d']
theorem wv {at_:Array TypeId} {x y:Operand} {k k':IntKind} {u v:Int} (ho:o.op= .call {callee:= .builtin .min,args:= #[x,y],argTypes:=at_}) (hx:Rd F c0 x (.v (.int k u))) (hy:Rd F c0 y (.v (.int k' v))):
  JB P w0 W N o F H Y c0 ⟨.v (.int k (if v<u then v else u)),[],Y,[]⟩:=
 JB.dH λhc F' G a w hF hS=>by
  have d:=hx F' G a hc (hF x (by simp[ZB,ho,Op.operands,Call.operands])) hS
  have d':=hy F' G a hc (hF y (by simp[ZB,ho,Op.operands,Call.operands])) hS
  simp only[aA]at d d'
  simp[execOp,ho,resolve,invoke,builtin,Builtin.min_,Builtin.min2,d,d']
theorem xv {f:FuncId} {args:Array Operand} {at_:Array TypeId} {ss:List SV} {fn:Func} {r:QD} (ho:o.op= .call {callee:= .value (.func f),args:=args,argTypes:=at_}) (MV:P.funcs[f]? =some fn) (NV:fn.body.isNone=false) (OD:(fn.name== "runtime.NumGoroutine")=false)
  (II:∀F' G a,c0=true->(∀x∈args.toList,VF F' F x)->SO F' G a->ZA G ss (args.toList.map a.eval)) (hn:Y<=r.Y) (h:c0=true->FV P w0 W f ss H Y r):JB P w0 W N o F H Y c0 r:=by
 refine⟨hn,λhc F' H' G a w hF hH hu hM=> ?_⟩
 have d:=II F' G a hc (λx hx=>hF x (by simp[ZB,ho,Op.operands,Call.operands];exact .inr (by simpa using hx))) hM.gC
 refine dD.call (f:=f) (args:=args.map a.eval) (w':=w) ?_ ?_
 ·have e:(args.map a.eval)=args.map a.eval:=rfl
  simp only[execOp,ho,resolve,Act.eval,Deferred.ofValue,invoke,callFunc,Sem.run_bind,Sem.run_pure,Result.andThen_ok]
  have D:fn.name≠ "runtime.NumGoroutine" :=by intro e;rw[e]at OD;simp at OD
  have h2:¬fn.body=none:=by intro e;rw[e]at NV;simp at NV
  simp[MV,D,h2]
 ·have:=(h hc).2 H' G w _ hH hu hM.heap d
  rw[<-Array.toList_map]at this
  exact this
end
abbrev YG:=Nat->Option RV
abbrev lI:=Nat->Option DA
structure RD where
 o:Oper
 d:Option RV
 rh:List Nat
 wh:List (Nat×Option DA)
 n0:Nat
 n1:Nat
def MJ (F:YG) (dst:Option Nat) (d:Option RV):YG:=
 match dst,d with
 |some t,some r=>WE F t (some r)
 |_,_=>F
def RD.fF (E:RD) (F:YG):YG:=MJ F E.o.dst E.d
def RD.fH (E:RD) (H:lI):lI:=ND H E.wh
def RD.vS (E:RD):List Nat:=E.wh.map (·.1)
section
variable (P:Program) (w0:World) (W:Nat->Prop) (N:Nat) (ops:Array Oper)
def Step (o:Oper) (K:Act->World->Prop) (a:Act) (w:World):Prop:=
 if Region.wanted o (yielded ops a.tmps)then o.wp P a w K (λ_ _ _=>False)else K (a.put o.dst undef) w
def ZP (F:YG) (H:lI) (E:RD):Prop:=
 ∀(F':YG) (H':lI) G a w,(∀t∈E.o.looksAt ops,F' t=F t)->(∀b∈E.rh,H' b=H b)->(∀b,E.n0<=b->b<E.n1->G b= .iD)->MS w0 W N F' H' G a w->
  Step P ops E.o (λa' w'=>∃uA,(∀b,¬(E.n0<=b/\b<E.n1)->uA b=G b)/\MS w0 W N (E.fF F') (E.fH H') uA a' w') a w
def Lex:List (Nat×RD)->YG->lI->Prop
 |[],_,_=>True
 |(_,E)::r,F,H=>ZP P w0 W N ops F H E/\Lex r (E.fF F) (E.fH H)
def BL:List (Nat×RD)->YG->YG
 |[],F=>F
 |(_,E)::r,F=>BL r (E.fF F)
def dM:List (Nat×RD)->lI->lI
 |[],H=>H
 |(_,E)::r,H=>dM r (E.fH H)
end
structure CT (ops:Array Oper) (E E':RD):Prop where
 d1:∀t,E.o.dst=some t->t∉E'.o.looksAt ops
 d2:∀t,E.o.dst=some t->E'.o.dst≠some t
 d3:∀t,E'.o.dst=some t->t∉E.o.looksAt ops
 D:∀b∈E.vS,b∉E'.rh
 h2:∀b∈E.vS,b∉E'.vS
 h3:∀b∈E'.vS,b∉E.rh
theorem oh {F:YG} {dst:Option Nat} {d:Option RV} {t:Nat} (h:dst≠some t):MJ F dst d t=F t:=by
 unfold MJ
 split
 ·rename_i t' r
  exact sG _ _ _ _ (λe=>h (by rw[e]))
 ·rfl
theorem Kb:∀{wh:List (Nat×Option DA)} {H:lI} {b:Nat},b∉wh.map (·.1)->ND H wh b=H b
 |[],H,b,_=>rfl
 |(c,x)::r,H,b,h=>by
  simp only[List.map_cons,List.mem_cons,not_or]at h
  rw[ND,Kb h.2,sG _ _ _ _ h.1]
theorem ph {PB:Type} (f:Nat->Option PB) {b c:Nat} (x y:Option PB) (h:b≠c):WE (WE f b x) c y=WE (WE f c y) b x:=by
 funext i
 simp only[WE]
 split
 ·rename_i D
  split
  ·rename_i h2;exact absurd (h2.symm.trans D) h
  ·rfl
 ·rfl
theorem qh:∀{wh:List (Nat×Option DA)} {H:lI} {b:Nat} {x:Option DA},b∉wh.map (·.1)->ND (WE H b x) wh=WE (ND H wh) b x
 |[],H,b,x,_=>rfl
 |(c,y)::r,H,b,x,h=>by
  simp only[List.map_cons,List.mem_cons,not_or]at h
  rw[ND,ND,ph _ _ _ h.1,qh h.2]
theorem sh:∀{wh OV:List (Nat×Option DA)} {H:lI},(∀b∈wh.map (·.1),b∉OV.map (·.1))->ND (ND H wh) OV=ND (ND H OV) wh
 |[],OV,H,_=>rfl
 |(c,y)::r,OV,H,h=>by
  rw[ND,ND,sh (λb Z=>h b (by simp at Z⊢;exact .inr Z)),qh (h c (by simp))]
theorem yv {F:YG} {dst GY:Option Nat} {d d':Option RV} (h:∀t,dst=some t->GY≠some t):MJ (MJ F dst d) GY d'=MJ (MJ F GY d') dst d:=by
 cases dst with
 |none=>rfl
 |some t=>
  cases GY with
  |none=>rfl
  |some t'=>
   cases d with
   |none=>rfl
   |some r=>
    cases d' with
    |none=>rfl
    |some r'=>exact ph F _ _ (λe=>h t rfl (by rw[e]))
section
variable {P:Program} {w0:World} {W:Nat->Prop} {N:Nat} {ops:Array Oper}
theorem ZP.Fv {F F':YG} {H H':lI} {E:RD} (h:ZP P w0 W N ops F H E) (hF:∀t∈E.o.looksAt ops,F' t=F t) (hH:∀b∈E.rh,H' b=H b):ZP P w0 W N ops F' H' E:=
 λzv Aw G a w D h2 h3 h4=>h zv Aw G a w (λt ht=>(D t ht).trans (hF t ht)) (λb Z=>(h2 b Z).trans (hH b Z)) h3 h4
theorem Lex.front:∀{pre:List (Nat×RD)} {i:Nat} {E:RD} {post:List (Nat×RD)} {F:YG} {H:lI},(∀x∈pre,CT ops x.2 E)->Lex P w0 W N ops (pre++(i,E)::post) F H->
  ZP P w0 W N ops F H E/\Lex P w0 W N ops (pre++post) (E.fF F) (E.fH H)/\BL (pre++(i,E)::post) F=BL (pre++post) (E.fF F)/\dM (pre++(i,E)::post) H=dM (pre++post) (E.fH H)
 |[],i,E,post,F,H,_,h=>⟨h.1,h.2,rfl,rfl⟩
 |(j,DC)::pre,i,E,post,F,H,hi,h=>by
  have hD:=hi (j,DC) (by simp)
  obtain⟨D,h2⟩:=h
  obtain⟨k1,k2,k3,k4⟩:=Lex.front (pre:=pre) (λx hx=>hi x (by simp[hx])) h2
  have cF:E.fF (DC.fF F)=DC.fF (E.fF F):=yv hD.d2
  have cH:E.fH (DC.fH H)=DC.fH (E.fH H):=sh hD.h2
  refine⟨k1.Fv (λt ht=>(oh (λe=>hD.d1 t e ht)).symm) (λb Z=>(Kb (λqC=>hD.D b qC Z)).symm),⟨D.Fv (λt ht=>oh (λe=>hD.d3 t e ht)) (λb Z=>Kb (λqC=>hD.h3 b qC Z)),?_⟩,?_,?_⟩
  ·rw[<-cF,<-cH];exact k2
  ·simp only[List.cons_append,BL];rw[k3,cF]
  ·simp only[List.cons_append,dM];rw[k4,cH]
theorem Step.mono {o:Oper} {K K':Act->World->Prop} (h:∀a w,K a w->K' a w) {a:Act} {w:World} (hs:Step P ops o K a w):Step P ops o K' a w:=by
 unfold Step at*
 split
 ·rename_i hw;rw[if_pos hw]at hs;exact Oper.wp_mono h hs
 ·rename_i hw;rw[if_neg hw]at hs;exact h _ _ hs
theorem Lex.run {Q:Exit->Act->World->Prop}:∀{L:List (Nat×RD)} {F:YG} {H:lI} {G:wA} {a:Act} {w:World},Lex P w0 W N ops L F H->(∀x∈L,∀b,x.2.n0<=b->b<x.2.n1->G b= .iD)->
  L.Pairwise (λx y=>x.2.n1<=y.2.n0)->MS w0 W N F H G a w->
  (∀uA a' w',(∀b,(∀x∈L,¬(x.2.n0<=b/\b<x.2.n1))->uA b=G b)->MS w0 W N (BL L F) (dM L H) uA a' w'->Q .normal a' w')->wpList P ops Q (L.map (·.2.o)) a w
 |[],F,H,G,a,w,_,_,_,hM,hQ=>hQ G a w (λ_ _=>rfl) hM
 |(i,E)::r,F,H,G,a,w,h,hn,hp,hM,hQ=>by
  have hs:=h.1 F H G a w (λ_ _=>rfl) (λ_ _=>rfl) (hn (i,E) (by simp)) hM
  rw[List.pairwise_cons]at hp
  have key:∀a' w',(∃uA,(∀b,¬(E.n0<=b/\b<E.n1)->uA b=G b)/\MS w0 W N (E.fF F) (E.fH H) uA a' w')->wpList P ops Q (r.map (·.2.o)) a' w':=by
   rintro a' w' ⟨uA,Z,mJ⟩
   refine Lex.run h.2 (λx hx b D h2=> ?_) hp.2 mJ (λLb Mb TP qC Nb=>hQ Lb Mb TP (λb hx=> ?_) Nb)
   ·rw[Z b (λe=>by have:=hp.1 x hx;simp only at this;omega)]
    exact hn x (by simp[hx]) b D h2
   ·rw[qC b (λx tF=>hx x (by simp[tF])),Z b (hx (i,E) (by simp))]
  simp only[List.map_cons,wpList]
  unfold Step at hs
  split
  ·rename_i hw
   rw[if_pos hw]at hs
   refine .inl ?_
   have:=Oper.wp_mono key hs
   unfold Oper.wp at this⊢
   generalize (execOp a.eval E.o).run P w=Ob at this
   cases Ob with
   |ok n w'=>
    cases n<;>simp only[Oper.upon]at this⊢<;>first
     |exact this
     |exact Calls.mono this (λe TP he=>by cases e<;>first|exact he|exact he.elim|(obtain⟨_,_,hx⟩:=he;exact hx.elim))
   |halt x w'=>cases x<;>simp only[Oper.upon]at this
  ·rename_i hw
   rw[if_neg hw]at hs
   exact key _ _ hs
end
structure Key where
 o:Oper
 rh:List Nat
 wh:List Nat
def HY (a b:List Nat):Bool:=a.all λx=> !b.contains x
def Pb (ops:Array Oper) (a b:Key):Bool:=a.o.apart ops b.o&&HY a.wh b.rh&&HY a.wh b.wh&&HY b.wh a.rh
def PV (o:Oper) (j:Nat):Bool:=o.after.any λe=>Region.binds .any e&&e.on==j
def QV:List (Nat×Key×Nat)->Nat->Nat
 |[],_=>0
 |x::r,j=>bif Nat.beq x.1 j then x.2.2 else QV r j
def OO (bs:List (Nat×Key×Nat)):List Edge->Nat
 |[]=>0
 |e::r=>bif Region.binds .any e then(1<<<e.on)|||(QV bs e.on|||OO bs r)else OO bs r
def TV (ops:Array Oper):List (Nat×Key×Nat)->Nat->List Key->Bool
 |_,_,[]=>true
 |bs,i,k::r=>(k.o.after.all λe=> !Region.binds .any e||decide (e.on<i))&&(bs.all λx=>Pb ops x.2.1 k||Nat.testBit (OO bs k.o.after.toList) x.1)&&TV ops ((i,k,OO bs k.o.after.toList)::bs) (i+1) r
inductive SN (ops:Array Oper):Oper->Nat->Prop
 |one {o:Oper} {j:Nat}:PV o j=true->SN ops o j
 |step {o p:Oper} {i j:Nat}:PV o i=true->ops[i]? =some p->SN ops p j->SN ops o j
def th (ops:Array Oper) (bs:List (Nat×Key×Nat)):Prop:=∀x∈bs,ops[x.1]? =some x.2.1.o/\∀j,Nat.testBit x.2.2 j=true->SN ops x.2.1.o j
theorem uh:∀{bs:List (Nat×Key×Nat)} {i j:Nat},Nat.testBit (QV bs i) j=true->∃x∈bs,x.1=i/\Nat.testBit x.2.2 j=true
 |[],i,j,h=>by simp[QV]at h
 |x::r,i,j,h=>by
  unfold QV at h
  by_cases e:Nat.beq x.1 i=true
  ·rw[e]at h;exact⟨x,by simp,Nat.eq_of_beq_eq_true e,h⟩
  ·rw[Bool.not_eq_true]at e;rw[e]at h
   obtain⟨y,D,h2⟩:=uh (bs:=r) h
   exact⟨y,by simp[D],h2⟩
theorem Qb {ops:Array Oper} {bs:List (Nat×Key×Nat)} (Z:th ops bs) {o:Oper}:∀{l:List Edge},(∀e∈l,e∈o.after)->∀j,Nat.testBit (OO bs l) j=true->SN ops o j
 |[],_,j,h=>by simp[OO]at h
 |e::r,hl,j,h=>by
  unfold OO at h
  by_cases eb:Region.binds .any e=true
  ·rw[eb]at h
   have hw:PV o e.on=true:=Array.any_eq_true'.2 ⟨e,hl e (by simp),by simp[eb]⟩
   simp only[cond_true,Nat.testBit_or,Bool.or_eq_true]at h
   rcases h with h|h|h
   ·rw[Nat.one_shiftLeft,Nat.testBit_two_pow]at h
    have:e.on=j:=by simpa using h
    exact this▸ .one hw
   ·obtain⟨x,hx,e1,h2⟩:=uh h
    obtain⟨h3,h4⟩:=Z x hx
    exact .step hw (e1▸h3) (h4 j h2)
   ·exact Qb Z (λe' h'=>hl e' (by simp[h'])) j h
  ·rw[Bool.not_eq_true]at eb;rw[eb]at h
   exact Qb Z (λe' h'=>hl e' (by simp[h'])) j h
def RD.key (E:RD):Key:=⟨E.o,E.rh,E.vS⟩
theorem Bw {ops:Array Oper} {E E':RD} (h:Pb ops E.key E'.key=true):CT ops E E':=by
 simp only[Pb,Bool.and_eq_true,RD.key]at h
 obtain⟨⟨⟨D,h2⟩,h3⟩,h4⟩:=h
 obtain⟨a1,a2,a3⟩:=Oper.apart_spec D
 have dj:∀{a b:List Nat},HY a b=true->∀x∈a,x∉b:=λ{a b} hd x hx Z=>by
  have:=List.all_eq_true.1 hd x hx
  simp[Z]at this
 exact⟨a1,a2,a3,dj h2,dj h3,dj h4⟩
def Ordered (ops:Array Oper) (L:List (Nat×RD)):Prop:=
 L.Pairwise (λx y=>x.1<y.1/\(CT ops x.2 y.2\/SN ops y.2.o x.1))/\∀x∈L,∀e∈x.2.o.after,Region.binds .any e=true->e.on<x.1
theorem vh {ops:Array Oper}:∀(Es:List RD) (bs:List (Nat×RD×Nat)) (i:Nat),(∀x∈bs,x.1<i)->th ops (bs.map λx=>(x.1,x.2.1.key,x.2.2))->(∀n E,Es[n]? =some E->ops[i+n]? =some E.o)->TV ops (bs.map λx=>(x.1,x.2.1.key,x.2.2)) i (Es.map RD.key)=true->
  Ordered ops ((List.range' i Es.length).zip Es)/\∀x∈bs,∀y∈(List.range' i Es.length).zip Es,CT ops x.2.1 y.2\/SN ops y.2.o x.1
 |[],bs,i,_,_,_,_=>⟨⟨by simp,λx hx=>by simp at hx⟩,λx _ y hy=>by simp at hy⟩
 |E::r,bs,i,Z,hm,ho,h=>by
  simp only[List.map_cons,TV,Bool.and_eq_true]at h
  obtain⟨⟨D,h2⟩,h3⟩:=h
  have Cw:ops[i]? =some E.o:=by simpa using ho 0 E rfl
  have xh:=Qb hm (o:=E.o) (l:=E.o.after.toList) (λe he=>by simpa using he)
  have ih:=vh r ((i,E,OO (bs.map λx=>(x.1,x.2.1.key,x.2.2)) E.o.after.toList)::bs) (i+1) (λx hx=>by
   simp only[List.mem_cons]at hx
   rcases hx with rfl|hx
   ·exact Nat.lt_succ_self _
   ·exact Nat.lt_succ_of_lt (Z x hx)) (λx hx=>by
   simp only[List.map_cons,List.mem_cons]at hx
   rcases hx with rfl|hx
   ·exact⟨Cw,xh⟩
   ·exact hm x hx) (λn E' hn=>by rw[show i+1+n=i+(n+1)by omega];exact ho (n+1) E' (by simpa using hn)) h3
  obtain⟨⟨p1,p2⟩,p3⟩:=ih
  have hE:∀e∈E.o.after,Region.binds .any e=true->e.on<i:=λe he fM=>by
   have:=Array.all_eq_true'.1 D e he
   simpa [fM]using this
  have gM:∀x∈bs,CT ops x.2.1 E\/SN ops E.o x.1:=λx hx=>by
   have:=List.all_eq_true.1 h2 (x.1,x.2.1.key,x.2.2) (List.mem_map.2 ⟨x,hx,rfl⟩)
   simp only[Bool.or_eq_true]at this
   rcases this with this|this
   ·exact .inl (Bw this)
   ·exact .inr (xh _ this)
  have IF:∀y∈(List.range' (i+1) r.length).zip r,i+1<=y.1:=λy hy=>by
   have:=List.of_mem_zip hy
   have:=List.mem_range'_1.1 this.1
   omega
  refine⟨⟨?_,?_⟩,?_⟩
  ·simp only[List.length_cons,List.range'_succ,List.zip_cons_cons,List.pairwise_cons]
   exact⟨λy hy=>⟨IF y hy,p3 (i,E,OO (bs.map λx=>(x.1,x.2.1.key,x.2.2)) E.o.after.toList) (by simp) y hy⟩,p1⟩
  ·intro x hx
   simp only[List.length_cons,List.range'_succ,List.zip_cons_cons,List.mem_cons]at hx
   rcases hx with rfl|hx
   ·exact hE
   ·exact p2 x hx
  ·intro x hx y hy
   simp only[List.length_cons,List.range'_succ,List.zip_cons_cons,List.mem_cons]at hy
   rcases hy with rfl|hy
   ·exact gM x hx
   ·exact p3 x (by simp[hx]) y hy
def yh (ops:Array Oper) (listed:Array Bool):Prop:=∀i o,ops[i]? =some o->listed.getD i true=true->∀j,PV o j=true->listed.getD j true=true
theorem SN.listed {ops:Array Oper} {listed:Array Bool} (hc:yh ops listed) {o:Oper} {j:Nat} (h:SN ops o j):∀i,ops[i]? =some o->listed.getD i true=true->listed.getD j true=true:=by
 induction h with
 |one hw=>exactλi ho hl=>hc i _ ho hl _ hw
 |step hw hp _ ih=>exactλi ho hl=>ih _ hp (hc i _ ho hl _ hw)
theorem getD_set_true (l:Array Bool) (i j:Nat) (h:l.getD j true=true):(l.setIfInBounds i true).getD j true=true:=by
 by_cases hj:j<l.size
 ·by_cases e:i=j
  ·subst e;simp[hj]
  ·simp[Array.getD,hj,Array.getElem_setIfInBounds,e]at h⊢;exact h
 ·simp[Array.getD,hj]
section
variable {P:Program} {w0:World} {W:Nat->Prop} {N:Nat} {ops:Array Oper}
theorem Lex.any {Q:Exit->Act->World->Prop}:∀(n:Nat) {L:List (Nat×RD)} {F:YG} {H:lI} {G:wA} {a:Act} {w:World} {listed:Array Bool},L.length=n->Lex P w0 W N ops L F H->Ordered ops L->
  (∀x∈L,ops[x.1]? =some x.2.o)->listed.size=ops.size->yh ops listed->(∀i,i<ops.size->(listed.getD i true=false↔i∈L.map (·.1)))->
  (∀x∈L,∀b,x.2.n0<=b->b<x.2.n1->G b= .iD)->L.Pairwise (λx y=>x.2.n1<=y.2.n0)->(∀x∈L,x.2.n0<=x.2.n1)->MS w0 W N F H G a w->
  (∀uA a' w',(∀b,(∀x∈L,¬(x.2.n0<=b/\b<x.2.n1))->uA b=G b)->MS w0 W N (BL L F) (dM L H) uA a' w'->Q .normal a' w')->wpAny P .any ops Q n listed a w
 |0,L,F,H,G,a,w,listed,hl,h,ho,aP,GI,HG,hli,hn,hp,tG,hM,hQ=>by
  have hL:L=[]:=List.eq_nil_of_length_eq_zero hl
  subst hL
  refine⟨?_,hQ G a w (λ_ _=>rfl) hM⟩
  refine List.eq_nil_iff_forall_not_mem.2 λi hi=> ?_
  obtain⟨D,o,jH,_⟩:=mem_ready.1 hi
  have fA:i<ops.size:=(Array.getElem?_eq_some_iff.1 jH).1
  have:=(hli i fA).1 D
  simp at this
 |n+1,L,F,H,G,a,w,listed,hl,h,ho,aP,GI,HG,hli,hn,hp,tG,hM,hQ=>by
  have zh:∀x∈L,x.1<ops.size/\listed.getD x.1 true=false:=λx hx=>by
   have fA:x.1<ops.size:=(Array.getElem?_eq_some_iff.1 (aP x hx)).1
   exact⟨fA,(hli x.1 fA).2 (List.mem_map.2 ⟨x,hx,rfl⟩)⟩
  refine⟨λh0=> ?_,λi hi=> ?_⟩
  ·exfalso
   obtain⟨x,r,rfl⟩:∃x r,L=x::r:=by
    cases L with
    |nil=>simp at hl
    |cons x r=>exact⟨x,r,rfl⟩
   have hx:=zh x (by simp)
   have:x.1∈Region.ready .any ops listed:=by
    refine mem_ready.2 ⟨hx.2,x.2.o,aP x (by simp),λe he Z=> ?_⟩
    have fA:=ho.2 x (by simp) e he Z
    have vQ:e.on<ops.size:=O
    cases hg:listed.getD e.on false with
    |true=>rfl
    |false=>
     have Dw:listed.getD e.on true=false:=by
      have hs:e.on<listed.size:=O
      simp[hs]at hg⊢;exact hg
     have hm:=(hli e.on vQ).1 Dw
     obtain⟨y,hy,hye⟩:=List.mem_map.1 hm
     simp only[List.mem_cons]at hy
     rcases hy with rfl|hy
     ·omega
     ·have:=(List.pairwise_cons.1 ho.1).1 y hy
      omega
   rw[h0]at this
   cases this
  ·obtain⟨D,o,jH,vD⟩:=mem_ready.1 hi
   have fA:i<ops.size:=(Array.getElem?_eq_some_iff.1 jH).1
   obtain⟨⟨i',E⟩,hx,Ai⟩:=List.mem_map.1 ((hli i fA).1 D)
   simp only at Ai
   subst Ai
   obtain⟨pre,post,rfl⟩:=List.append_of_mem hx
   have Ew:o=E.o:=by have:=aP (i',E) hx;rw[jH]at this;cases this;rfl
   subst Ew
   have TN:∀j,PV E.o j=true->listed.getD j true=true:=λj hw=>by
    obtain⟨e,he,Rb⟩:=Array.any_eq_true'.1 hw
    simp only[Bool.and_eq_true,beq_iff_eq]at Rb
    have:=vD e he Rb.1
    rw[Rb.2]at this
    by_cases hs:j<listed.size
    ·simp[Array.getD,hs]at this⊢;exact this
    ·simp[Array.getD,hs]
   have Sb:∀x∈pre,CT ops x.2 E:=λx Bi=>by
    have Fw:=(List.pairwise_append.1 ho.1).2.2 x Bi (i',E) (by simp)
    rcases Fw.2 with hI|hw
    ·exact hI
    ·exfalso
     have hu:=zh x (by simp[Bi])
     have h2:=hu.2
     have hL:listed.getD x.1 true=true:=by
      cases hw with
      |one hw=>exact TN _ hw
      |step hw hp hr=>exact hr.listed HG _ hp (TN _ hw)
     rw[hL]at h2;cases h2
   obtain⟨k1,k2,k3,k4⟩:=Lex.front Sb h
   have VV:=k1 F H G a w (λ_ _=>rfl) (λ_ _=>rfl) (hn (i',E) hx) hM
   have WV:=List.pairwise_append.1 hp
   have Gw:∀x∈pre++post,∀b,x.2.n0<=b->b<x.2.n1->¬(E.n0<=b/\b<E.n1):=λx hx b D h2 h3=>by
    rcases List.mem_append.1 hx with hx|hx
    ·have:=WV.2.2 x hx (i',E) (by simp);simp only at this;omega
    ·have:=(List.pairwise_cons.1 WV.2.1).1 x hx;simp only at this;omega
   have key:∀a' w',(∃uA,(∀b,¬(E.n0<=b/\b<E.n1)->uA b=G b)/\MS w0 W N (E.fF F) (E.fH H) uA a' w')->wpAny P .any ops Q n (listed.setIfInBounds i' true) a' w':=by
    rintro a' w' ⟨uA,Z,mJ⟩
    have xQ:(pre++post).Sublist (pre++(i',E)::post):=List.Sublist.append (List.Sublist.refl _) (List.sublist_cons_self _ _)
    refine Lex.any n (by simp at hl⊢;omega) k2 ⟨ho.1.sublist xQ,λx hx=>ho.2 x (xQ.subset hx)⟩ (λx hx=>aP x (xQ.subset hx)) (by simpa using GI) (λk o hk XV j hw=> ?_) (λj hj=> ?_) (λx hx b D h2=> ?_) (hp.sublist xQ) (λx hx=>tG x (xQ.subset hx)) mJ (λLb Mb TP qC Nb=>hQ Lb Mb TP (λb hx=> ?_) (by rw[k3,k4];exact Nb))
    ·by_cases IY:k=i'
     ·subst IY
      rw[jH]at hk;cases hk
      exact getD_set_true _ _ _ (TN j hw)
     ·rw[getD_set_ne true (Ne.symm IY)]at XV
      exact getD_set_true _ _ _ (HG k o hk XV j hw)
    ·have iM:∀x∈pre++post,x.1≠i':=λx hx=>by
      have PO:=List.pairwise_append.1 ho.1
      rcases List.mem_append.1 hx with hx|hx
      ·have:=(PO.2.2 x hx (i',E) (by simp)).1;simp only at this;omega
      ·have:=((List.pairwise_cons.1 PO.2.1).1 x hx).1;simp only at this;omega
     by_cases YV:j=i'
     ·subst YV
      have hs:j<listed.size:=O
      constructor
      ·intro hf;simp[hs]at hf
      ·intro hm
       obtain⟨x,hx,e⟩:=List.mem_map.1 hm
       exact absurd e (iM x hx)
     ·rw[getD_set_ne true (Ne.symm YV),hli j hj]
      simp only[List.map_append,List.map_cons,List.mem_append,List.mem_cons,YV,false_or]
    ·rw[Z b (Gw x hx b D h2)]
     exact hn x (xQ.subset hx) b D h2
    ·rw[qC b (λx tF=>hx x (xQ.subset tF)),Z b (hx (i',E) (by simp))]
   unfold wpOp
   rw[jH]
   unfold Step at VV
   simp only
   split
   ·rename_i hw
    rw[if_pos hw]at VV
    refine .inl ?_
    have:=Oper.wp_mono key VV
    unfold Oper.wp at this⊢
    generalize (execOp a.eval E.o).run P w=Ob at this
    cases Ob with
    |ok n w'=>
     cases n<;>simp only[Oper.upon]at this⊢<;>first
      |exact this
      |exact Calls.mono this (λe TP he=>by cases e<;>first|exact he|exact he.elim|(obtain⟨_,_,hx⟩:=he;exact hx.elim))
    |halt x w'=>cases x<;>simp only[Oper.upon]at this
   ·rename_i hw
    rw[if_neg hw]at VV
    exact key _ _ VV
end
def DT (pl:Nat->Option (Nat×Nat)) (F:FS) (c0:Bool) (l:List SV) (ps:List (Nat×Operand)) (k:List SV->Prop):Prop:=
 match ps with
 |[]=>k l
 |(i,x)::r=>zB F c0 x λs=>match cellsOf s with
  |some cs=>(match pl i with
   |some (off,sz)=>cond (Nat.beq cs.length sz) (cond (Nat.ble (off+sz) l.length) (JK l off cs λl'=>DT pl F c0 l' r k) False) False
   |none=>False)
  |none=>False
theorem Ci (off:Nat):∀(xs:List Value) (n:Nat) (m:List Value),(xs.zipIdx n).foldl (λcs (x:Value×Nat)=>cs.setIfInBounds (off+x.2) x.1) (List.toArray m)=List.toArray (lay m (off+n) xs)
 |[],n,m=>rfl
 |x::r,n,m=>by
  simp only[List.zipIdx_cons,List.foldl_cons,lay]
  rw[show(List.toArray m).setIfInBounds (off+n) x=List.toArray (m.set (off+n) x)by simp]
  rw[Ci off r (n+1) (m.set (off+n) x)]
  congr 2
theorem Di {F:FS} {c0:Bool} {pl:Nat->Option (Nat×Nat)}:∀{ps:List (Nat×Operand)} {l:List SV} {k:List SV->Prop},DT pl F c0 l ps k->
  ∃l',k l'/\l'.length=l.length/\∀nI,(∀i p,pl i=some p->nI i=some p)->∀F' G a,c0=true->(∀x∈ps.map (·.2),VF F' F x)->SO F' G a->∀m,ZA G l m->∃m',Instr.fill nI (List.toArray m) (ps.map λx=>(x.1,a.eval x.2))=some (List.toArray m')/\ZA G l' m'
 |[],l,k,h=>⟨l,h,rfl,λnI _ F' G a _ _ _ m d=>⟨m,rfl,d⟩⟩
 |(i,x)::r,l,k,h=>by
  obtain⟨s,h,hs⟩:=BY h
  split at h
  ·rename_i cs uG
   split at h
   ·rename_i off sz hp
    cases D:Nat.beq cs.length sz with
    |false=>rw[D]at h;exact h.elim
    |true=>
     cases h2:Nat.ble (off+sz) l.length with
     |false=>rw[D,h2]at h;exact h.elim
     |true=>
      rw[D,h2]at h
      simp only[cond_true]at h
      have D:=Nat.eq_of_beq_eq_true D
      have h2:=Nat.le_of_ble_eq_true h2
      obtain⟨h,_⟩:=DY h
      obtain⟨l',hk,hl,hf⟩:=Di (ps:=r) h
      refine⟨l',hk,by rw[hl,Fb],λnI IG F' G a hc hF hS m d=> ?_⟩
      have dx:=Bb uG (hs F' G a hc (hF x (by simp)) hS)
      have hlen:=ZA.length _ _ dx
      have MK:=ZA.length _ _ d
      obtain⟨m',e,d'⟩:=hf nI IG F' G a hc (λy hy=>hF y (by simp at hy⊢;exact .inr hy)) hS (lay m off (a.eval x).cells.toList) (ZA.lay dx d)
      refine⟨m',?_,d'⟩
      simp only[List.map_cons,Instr.fill,IG i _ hp]
      have n1:¬((a.eval x).cells.size≠sz\/off+(a.eval x).cells.size>(List.toArray m).size):=by
       have:(a.eval x).cells.size=sz:=by rw[<-D,<-hlen];simp
       simp[this];omega
      have n2:(decide ((a.eval x).cells.size≠sz)||decide (off+(a.eval x).cells.size>(List.toArray m).size))=false:=by
       simpa using n1
      rw[n2,if_neg (by simp)]
      have:=Ci off (a.eval x).cells.toList 0 m
      rw[Nat.add_zero]at this
      rw[show(a.eval x).cells.zipIdx.foldl (λcs (x:Value×Nat)=>cs.setIfInBounds (off+x.2) x.1) (List.toArray m)=List.toArray (lay m off (a.eval x).cells.toList)by
       rw[<-this,<-Array.foldl_toList,Array.toList_zipIdx]]
      exact e
   ·exact h.elim
  ·exact h.elim
section
variable {P:Program} {ty:Nat->Option TI} {w0:World} {W:Nat->Prop} {N:Nat} {o:Oper} {F:FS} {H:HS} {Y:Nat} {c0:Bool}
theorem Hw {fields:List Field} {fs:List (Nat×Nat×Bool)} (hl:fields.length=fs.length) (h:∀(i off sz:Nat) (ag:Bool),fs[i]? =some (off,sz,ag)->∃f:Field,fields[i]? =some f/\f.offset=off/\∃I,P.info? f.type=some I/\I.size=sz):
  fields.mapM (λf=>(P.info? f.type).map λi=>(f.offset,i.size))=some (fs.map λx=>(x.1,x.2.1)):=by
 induction fields generalizing fs with
 |nil=>cases fs with
  |nil=>simp
  |cons=>simp at hl
 |cons f r ih=>
  cases fs with
  |nil=>simp at hl
  |cons x q=>
   obtain⟨f',e1,e2,I,e3,e4⟩:=h 0 x.1 x.2.1 x.2.2 rfl
   simp at e1
   subst e1
   have:=ih (fs:=q) (by simpa using hl) (λi off sz ag hi=>by simpa using h (i+1) off sz ag (by simpa using hi))
   simp[List.mapM_cons,e3,this,e2,e4]
theorem Iw {t:TypeId} {i:TI} {ps:List (Nat×Operand)} {l:List SV} (HC:GF P ty) (ho:o.op= .build t (List.toArray ps)) (hi:ty t=some i) {fs:List (Nat×Nat×Bool)} (hk:i.kind= .st fs)
  (h:∀nI,(∀j p,(fs[j]?.map λx=>(x.1,x.2.1))=some p->nI j=some p)->∀F' G a,c0=true->(∀x∈ps.map (·.2),VF F' F x)->SO F' G a->∀m,ZA G (cC i.zero) m->∃m',Instr.fill nI (List.toArray m) (ps.map λx=>(x.1,a.eval x.2))=some (List.toArray m')/\ZA G l m'):
  JB P w0 W N o F H Y c0 ⟨.agg l,[],Y,[]⟩:=
 JB.pure λhc F' G a w hF hS=>by
  obtain⟨I,D,h2,h3,z,h4,h5⟩:=(HC t i hi).jL
  obtain⟨dd,u1,u2,u3⟩:=(HC t i hi).under
  rw[hk]at u2
  obtain⟨fields,rfl,hl,u2⟩:=u2
  have hm:=Hw (P:=P) (fields:=fields.toList) (fs:=fs) (by simpa using hl) (λj off sz ag hj=>by
   obtain⟨f,e1,e2,e3,_⟩:=u2 j off sz ag hj
   exact⟨f,by simpa using e1,e2,e3⟩)
  obtain⟨m',e,d⟩:=h (λj=>((fs.map λx=>(x.1,x.2.1)).toArray)[j]?) (λj p hp=>by simpa using hp) F' G a hc (λx hx=>hF x (by simp[ZB,ho,Op.operands]at hx⊢;exact hx)) hS i.zero (ZA.cC G _)
  refine⟨.agg (List.toArray m'),?_,by simp only[aA];exact⟨m',rfl,d⟩⟩
  have Z:P.built t (ps.map λx=>(x.1,a.eval x.2))=some (List.toArray m'):=by
   unfold Program.built
   rw[D,u1]
   simp only[h4,hm]
   rw[<-e,<-h5]
  have:=run_build (P:=P) w t ((List.toArray ps).map λx=>(x.1,a.eval x.2)) (List.toArray m') (by simpa using Z)
  simp only[execOp,ho,Sem.run_bind,this,Result.andThen_ok,Sem.run_pure]
theorem Jw {t:TypeId} {i:TI} {ps:List (Nat×Operand)} {l:List SV} (HC:GF P ty) (ho:o.op= .build t (List.toArray ps)) (hi:ty t=some i) {n el es:Nat} (hk:i.kind= .ar n el es)
  (h:∀nI,(∀j p,some (j*es,es)=some p->nI j=some p)->∀F' G a,c0=true->(∀x∈ps.map (·.2),VF F' F x)->SO F' G a->∀m,ZA G (cC i.zero) m->∃m',Instr.fill nI (List.toArray m) (ps.map λx=>(x.1,a.eval x.2))=some (List.toArray m')/\ZA G l m'):
  JB P w0 W N o F H Y c0 ⟨.agg l,[],Y,[]⟩:=
 JB.pure λhc F' G a w hF hS=>by
  obtain⟨I,D,h2,h3,z,h4,h5⟩:=(HC t i hi).jL
  obtain⟨dd,u1,u2,u3⟩:=(HC t i hi).under
  rw[hk]at u2
  obtain⟨rfl,Ie,KH,vE⟩:=u2
  obtain⟨m',e,d⟩:=h (λj=>some (j*Ie.size,Ie.size)) (λj p hp=>by rw[vE];exact hp) F' G a hc (λx hx=>hF x (by simp[ZB,ho,Op.operands]at hx⊢;exact hx)) hS i.zero (ZA.cC G _)
  refine⟨.agg (List.toArray m'),?_,by simp only[aA];exact⟨m',rfl,d⟩⟩
  have Z:P.built t (ps.map λx=>(x.1,a.eval x.2))=some (List.toArray m'):=by
   unfold Program.built
   rw[D,u1]
   simp only[h4,KH]
   rw[<-e,<-h5]
  have:=run_build (P:=P) w t ((List.toArray ps).map λx=>(x.1,a.eval x.2)) (List.toArray m') (by simpa using Z)
  simp only[execOp,ho,Sem.run_bind,this,Result.andThen_ok,Sem.run_pure]
def mE (z:List Value) (n:Nat):List Value:=(List.range n).map λk=>z.getD (k%z.length) undef
theorem Ei (z:List Value) (n:Nat):(mE z n).length=n:=by simp[mE]
theorem Fi {z:Value} {zs:List Value} (h:z.cells.toList=zs) (h0:0<zs.length) (n:Nat):((Array.range n).map (z.cells[·%z.cells.size]!))=List.toArray (mE zs n):=by
 have hz:z.cells=List.toArray zs:=by rw[<-h]
 apply Array.toList_inj.1
 rw[hz]
 simp only[Array.toList_map,Array.toList_range,mE,List.size_toArray]
 refine List.map_congr_left λk _=> ?_
 have fA:k%zs.length<zs.length:=Nat.mod_lt _ h0
 rw[List.getD,List.getElem?_eq_getElem fA,Option.getD_some]
 simp[getElem!_pos,fA]
theorem Gi (v:Value) (n:Nat):mE [v] n=List.replicate n v:=by
 simp[mE,Nat.mod_one,List.map_const']
theorem Kw (z:List Value) {m n:Nat} (h:m<=n):mE z n=mE z m++(mE z n).drop m:=by
 have:mE z m=(mE z n).take m:=by
  simp only[mE,<-List.map_take,List.take_range]
  rw[Nat.min_eq_left h]
 rw[this,List.take_append_drop]
theorem ZV {G:wA} {w:World} {H':Nat->Option DA} {cs sp:List Value} {l:List SV} {es n c:Nat} (e:TypeId) (hM:MH w0 W H' G w) (hu:G Y= .iD) (d:ZA G l cs) (hs:cs.length+sp.length=c*es) (hn:n<=c) (hc:c<=maxLen) {wh:List (Nat×Option DA)} {rh:List Nat}
  (QO:wh=[(Y,some (.X es e l))]):LJ w0 W H' G Y ⟨.s Y 0 n,wh,Y+1,rh⟩ (.slice (some ⟨w.heap.size,0,none⟩) n c) (w.alloc (.cells (List.toArray (cs++sp)) e)):=by
 subst QO
 obtain⟨uA,he,D,h2,h3⟩:=hM.alloc hu (cs++sp) e c (.X es e l) rfl (λuA he Z=> .inr ⟨_,_,cs,sp,Z,heap_alloc_new _ _,ZA.ext he _ _ d,hs,hc⟩)
 refine⟨uA,he,λb Z=>D b (λe=>Z (by simp only;omega)),?_,by simpa [ND]using h3⟩
 simp only[aA]
 exact .inr ⟨_,_,_,_,_,h2,rfl,hn,hc,λ_=>⟨rfl,rfl⟩,λ_=>rfl⟩
theorem Lw {t el:TypeId} {i ie:TI} {len es:Nat} {ps:List (Nat×Operand)} {l:List SV} (HC:GF P ty) (ho:o.op= .buildSlice t len (List.toArray ps)) (hi:ty t=some i) (hk:i.kind= .sl el es) (OF:ty el=some ie) (RO:es=ie.zero.length) (h0:0<es) (hlen:0<len) (TO:len*es<=16777216)
  (nJ:l.length=len*es) (h:∀nI,(∀j p,some (j*es,es)=some p->nI j=some p)->∀F' G a,c0=true->(∀x∈ps.map (·.2),VF F' F x)->SO F' G a->∀m,ZA G (cC (mE ie.zero (len*es))) m->∃m',Instr.fill nI (List.toArray m) (ps.map λx=>(x.1,a.eval x.2))=some (List.toArray m')/\ZA G l m'):
  JB P w0 W N o F H Y c0 ⟨.s Y 0 len,[(Y,some (.X es el l))],Y+1,[]⟩:=by
 refine⟨Nat.le_succ _,λhc F' H' G a w hF hH hu hM=> ?_⟩
 obtain⟨dd,u1,u2,u3⟩:=(HC t i hi).under
 rw[hk]at u2
 obtain⟨rfl,Ie,KH,vE⟩:=u2
 obtain⟨Tb,D,h2,h3,z,h4,h5⟩:=(HC el ie OF).jL
 rw[KH]at D;cases D
 obtain⟨m',e,d⟩:=h (λj=>some (j*Ie.size,Ie.size)) (λj p hp=>by rw[vE];exact hp) F' G a hc (λx hx=>hF x (by simp[ZB,ho,Op.operands]at hx⊢;exact hx)) hM.gC (mE ie.zero (len*es)) (ZA.cC G _)
 have MK:=ZA.length _ _ d
 have UO:=ZV (w0:=w0) (W:=W) (Y:=Y) (cs:=m') (sp:=[]) (n:=len) (c:=len) (es:=es) el hM.heap (hu Y qA (Nat.lt_succ_self _)) d (by simp[MK,nJ]) qA (by
  have:len<=len*es:=Nat.le_mul_of_pos_right _ h0
  simp only[maxLen];omega) (rh:=[]) rfl
 rw[List.append_nil]at UO
 refine dD.value ?_ UO
 have HE:¬len*Ie.size=0:=by rw[vE];exact Nat.ne_of_gt (Nat.mul_pos hlen h0)
 have:=run_buildSlice (P:=P) w t el len ((List.toArray ps).map λx=>(x.1,a.eval x.2)) (List.toArray m') Ie z u1 KH h4 (by rw[vE];omega) HE (by
  rw[Fi h5 (by rw[<-RO];exact h0),vE]
  rw[vE]at e
  simpa using e)
 simp only[execOp,ho,Sem.run_bind,this,Result.andThen_ok,Sem.run_pure]
theorem Mw {t el:TypeId} {i ie:TI} {es:Nat} {x y:Operand} {kl kc:IntKind} {l c:Int} (HC:GF P ty) (ho:o.op= .makeSlice t x y) (hi:ty t=some i) (hk:i.kind= .sl el es) (OF:ty el=some ie) (RO:es=ie.zero.length) (h0:0<es)
  (hx:Rd F c0 x (.v (.int kl l))) (hy:Rd F c0 y (.v (.int kc c))) (Z:c0=true->0<=l/\l<=c/\(ie.bytes:Int)*c<=281474976710656/\c<=9223372036854775807):
  JB P w0 W N o F H Y c0 ⟨.s Y 0 l.toNat,[(Y,some (.X es el (cC (mE ie.zero (l.toNat*es)))))],Y+1,[]⟩:=by
 refine⟨Nat.le_succ _,λhc F' H' G a w hF hH hu hM=> ?_⟩
 obtain⟨dd,u1,u2,u3⟩:=(HC t i hi).under
 rw[hk]at u2
 obtain⟨rfl,Ie,KH,vE⟩:=u2
 obtain⟨Tb,D,h2,h3,z,h4,h5⟩:=(HC el ie OF).jL
 rw[KH]at D;cases D
 obtain⟨b1,b2,b3,b4⟩:=Z hc
 have dx:=hx F' G a hc (hF x (by simp[ZB,ho,Op.operands])) hM.gC
 have dy:=hy F' G a hc (hF y (by simp[ZB,ho,Op.operands])) hM.gC
 simp only[aA]at dx dy
 have Hi:l.toNat<=c.toNat:=O
 have hmul:l.toNat*es<=c.toNat*es:=Nat.mul_le_mul_right _ Hi
 have UO:=ZV (w0:=w0) (W:=W) (Y:=Y) (cs:=mE ie.zero (l.toNat*es)) (sp:=(mE ie.zero (c.toNat*es)).drop (l.toNat*es)) (n:=l.toNat) (c:=c.toNat) (es:=es) el hM.heap (hu Y qA (Nat.lt_succ_self _)) (ZA.cC G _)
  (by simp only[Ei,List.length_drop];omega) Hi (by simp only[maxLen];omega) (rh:=[]) rfl
 rw[<-Kw ie.zero hmul]at UO
 refine dD.value ?_ UO
 have:=run_make (P:=P) w t el Ie z u1 KH h4 kl kc l c b1 b2 (by rw[h3];exact b3) b4
 rw[madeCells,Fi h5 (by rw[<-RO];exact h0),vE]at this
 simp only[execOp,ho,dx,dy,Sem.run_bind,this,Result.andThen_ok,Sem.run_pure]
theorem Nw {t:TypeId} {i:TI} {x j:Operand} {n:Nat} {kk:IntKind} {z:Int} {l:List SV} {s:SV} (HC:GF P ty) (ho:o.op= .index t x j) (hi:ty t=some i) {e es:Nat} {ie:TI} (ZM:i.kind= .ar n e es) (OF:ty e=some ie) (D:ie.agg=false) (h2:ie.size=1)
  (h:Rd F c0 x (.agg l)) (hj:Rd F c0 j (.v (.int kk z))) (Z:c0=true->0<=z/\z<n) (hs:l[z.toNat]? =some s):JB P w0 W N o F H Y c0 ⟨s,[],Y,[]⟩:=
 JB.pure λhc F' G a w hF hS=>by
  have d:=h F' G a hc (hF x (by simp[ZB,ho,Op.operands])) hS
  have dj:=hj F' G a hc (hF j (by simp[ZB,ho,Op.operands])) hS
  simp only[aA]at d dj
  obtain⟨ys,d,dl⟩:=d
  obtain⟨hz,hn⟩:=Z hc
  obtain⟨dt,hk,u2,_⟩:=(HC t i hi).under
  rw[ZM]at u2
  obtain⟨rfl,_⟩:=u2
  obtain⟨y,hy,dy⟩:=ZA.get _ _ dl _ s hs
  obtain⟨I,i1,i2,_⟩:=(HC e ie OF).jL
  obtain⟨dd,u1,_,u3⟩:=(HC e ie OF).under
  have hA:=VP (P:=P) (w:=w) u1
  rw[<-u3,D]at hA
  have lL:=run_sizeOf (P:=P) (w:=w) i1
  refine⟨y,?_,dy⟩
  simp[execOp,ho,Instr.index,dj,asIntOf,run_underlying hk,d,hz,hn,lL,i2,h2,part,hA,hy]
theorem Ow {t:TypeId} {i:TI} {x j:Operand} {b q n el es:Nat} {kk:IntKind} {z:Int} (HC:GF P ty) (ho:o.op= .indexAddr t x j) (hi:ty t=some i) (hk:i.kind= .ar n el es)
  (h:Rd F c0 x (.p b q)) (hj:Rd F c0 j (.v (.int kk z))) (Z:c0=true->0<=z/\z<n):JB P w0 W N o F H Y c0 ⟨.p b (q+z.toNat*es),[],Y,[]⟩:=
 JB.pure λhc F' G a w hF hS=>by
  have d:=h F' G a hc (hF x (by simp[ZB,ho,Op.operands])) hS
  have dj:=hj F' G a hc (hF j (by simp[ZB,ho,Op.operands])) hS
  simp only[aA]at d dj
  obtain⟨hz,hn⟩:=Z hc
  obtain⟨dd,D,h2,h3⟩:=(HC t i hi).under
  rw[hk]at h2
  obtain⟨rfl,I,hI,vE⟩:=h2
  have lL:=run_sizeOf (P:=P) (w:=w) hI
  obtain⟨r,k,c,e,d⟩:=d
  refine⟨.pointer (some ⟨r,k+(q+z.toNat*es),none⟩),?_,by simp only[aA];exact⟨r,k,c,e,rfl⟩⟩
  simp[execOp,ho,Instr.indexAt,dj,asIntOf,run_underlying D,d,Instr.sureAddr,hz,hn,lL,vE,LO,Nat.add_assoc]
def bP (F:FS) (c0:Bool) (x:Option Operand) (d:Int) (k:Int->Prop):Prop:=
 match x with
 |none=>k d
 |some x=>zB F c0 x λs=>match s with| .v (.int _ z)=>k z|_=>False
theorem ET {F:FS} {c0:Bool} {x:Option Operand} {d:Int} {k:Int->Prop} (h:bP F c0 x d k):
  ∃z,k z/\∀F' G a,c0=true->(∀y,x=some y->VF F' F y)->SO F' G a->(x=none/\z=d)\/∃kk y,x=some y/\a.eval y= .int kk z:=by
 unfold bP at h
 split at h
 ·exact⟨d,h,λ_ _ _ _ _ _=> .inl ⟨rfl,rfl⟩⟩
 ·rename_i y
  obtain⟨s,h,hs⟩:=BY h
  split at h
  ·rename_i kk z
   refine⟨z,h,λF' G a hc hF hS=> .inr ⟨kk,y,rfl,?_⟩⟩
   have:=hs F' G a hc (hF y rfl) hS
   simpa only[aA]using this
  ·exact h.elim
theorem JY {w:World} {b:Bool} {len cap:Nat} {lo hi:Option Operand} {a:Act} {l h:Int} (hl:(lo=none/\l=0)\/∃kk y,lo=some y/\a.eval y= .int kk l) (hh:(hi=none/\h=len)\/∃kk y,hi=some y/\a.eval y= .int kk h)
  (h0:0<=l) (D:l<=h) (h2:h<=cap):(Instr.sliceBounds b len cap (lo.map a.eval) (hi.map a.eval) none).run P w= .ok (l.toNat,h.toNat,cap) w:=by
 have h3:0<=h:=O
 have e3:((h.toNat:Nat):Int)=h:=Int.toNat_of_nonneg h3
 rcases hl with⟨rfl,rfl⟩|⟨kl,y,rfl,ey⟩<;>rcases hh with⟨rfl,rfl⟩|⟨kh,y',rfl,Ii⟩
 ·simp[Instr.sliceBounds]
 ·simp[Instr.sliceBounds,run_sliceBound,Ii,h0,D,h2,h3]
 ·simp[Instr.sliceBounds,run_sliceBound,ey,h0,D,h2,h3]
 ·simp[Instr.sliceBounds,run_sliceBound,ey,Ii,h0,D,h2,h3,e3]
theorem Pw {t el:TypeId} {i:TI} {x:Operand} {lo hi:Option Operand} {b q n es:Nat} {l h:Int} (HC:GF P ty) (ho:o.op= .slice t x lo hi none) (mL:ty t=some i) (hk:i.kind= .sl el es) (RO:0<es)
  (hx:Rd F c0 x (.s b q n)) (hl:∀F' G a,c0=true->(∀y,lo=some y->VF F' F y)->SO F' G a->(lo=none/\l=0)\/∃kk y,lo=some y/\a.eval y= .int kk l)
  (hh:∀F' G a,c0=true->(∀y,hi=some y->VF F' F y)->SO F' G a->(hi=none/\h=n)\/∃kk y,hi=some y/\a.eval y= .int kk h) (Z:c0=true->0<=l/\l<=h/\h<=n):
  JB P w0 W N o F H Y c0 ⟨.s b (q+l.toNat*es) (h-l).toNat,[],Y,[]⟩:=
 JB.pure λhc F' G a w hF hS=>by
  obtain⟨b1,b2,b3⟩:=Z hc
  have d:=hx F' G a hc (hF x (by simp[ZB,ho,Op.operands])) hS
  have FT:=hl F' G a hc (λy e=>hF y (by simp[ZB,ho,Op.operands,e])) hS
  have HT:=hh F' G a hc (λy e=>hF y (by simp[ZB,ho,Op.operands,e])) hS
  obtain⟨dd,u1,u2,u3⟩:=(HC t i mL).under
  rw[hk]at u2
  obtain⟨rfl,I,hI,vE⟩:=u2
  have lL:=run_sizeOf (P:=P) (w:=w) hI
  simp only[aA]at d
  rcases d with⟨e,rfl,rfl,d⟩|⟨r,k,c,ad,cap,e,d,aM,rQ,h0,bM⟩
  ·have JG:l=0:=O
   have Ub:h=0:=O
   subst JG;subst Ub
   refine⟨.slice none 0 0,?_,by simp only[aA];exact .inl ⟨e,by simp,by simp,U⟩⟩
   have:=JY (P:=P) (w:=w) (b:=true) (len:=0) (cap:=0) FT HT O O O
   have hs:(Instr.sliceAt t (a.eval x) (lo.map a.eval) (hi.map a.eval) none).run P w= .ok (.slice none 0 0) w:=by
    simp[Instr.sliceAt,Instr.slice,run_underlying u1,d,this,lL]
   simp only[execOp,ho,Option.map_none,Sem.run_bind,hs,Result.andThen_ok,Sem.run_pure]
  ·have:=JY (P:=P) (w:=w) (b:=true) (len:=n) (cap:=cap) FT HT b1 b2 O
   refine⟨.slice (if cap=l.toNat then some ad else some (ad.add (l.toNat*es))) (h.toNat-l.toNat) (cap-l.toNat),?_,?_⟩
   ·have hs:(Instr.sliceAt t (a.eval x) (lo.map a.eval) (hi.map a.eval) none).run P w= .ok (.slice (if cap=l.toNat then some ad else some (ad.add (l.toNat*es))) (h.toNat-l.toNat) (cap-l.toNat)) w:=by
     simp[Instr.sliceAt,Instr.slice,run_underlying u1,d,this,lL,vE]
    simp only[execOp,ho,Option.map_none,Sem.run_bind,hs,Result.andThen_ok,Sem.run_pure]
   ·simp only[aA]
    have Qw:(h-l).toNat=h.toNat-l.toNat:=O
    refine .inr ⟨r,k,c,if cap=l.toNat then ad else ad.add (l.toNat*es),cap-l.toNat,e,?_,O,O,λhz=> ?_,λhz=> ?_⟩
    ·rw[Qw];split<;>rfl
    ·have hq:q=0:=O
     have JG:l.toNat=0:=by
      rcases Nat.eq_zero_or_pos l.toNat with h|h
      ·exact h
      ·have:=Nat.mul_pos h RO;omega
     obtain⟨g1,g2⟩:=h0 hq
     subst g1
     rw[JG,Nat.zero_mul]
     refine⟨?_,O⟩
     split
     ·rfl
     ·simp[Addr.add]
    ·have LC:¬cap=l.toNat:=O
     have:=bM O
     subst this
     rw[if_neg LC,LO,Nat.add_assoc]
theorem Rw {t el:TypeId} {i:TI} {x:Operand} {lo hi:Option Operand} {es:Nat} {l h:Int} (HC:GF P ty) (ho:o.op= .slice t x lo hi none) (mL:ty t=some i) (hk:i.kind= .sl el es)
  (hx:Rd F c0 x (.v (.slice none 0 0))) (hl:∀F' G a,c0=true->(∀y,lo=some y->VF F' F y)->SO F' G a->(lo=none/\l=0)\/∃kk y,lo=some y/\a.eval y= .int kk l)
  (hh:∀F' G a,c0=true->(∀y,hi=some y->VF F' F y)->SO F' G a->(hi=none/\h=((0:Nat):Int))\/∃kk y,hi=some y/\a.eval y= .int kk h) (Z:c0=true->l=0/\h=0):
  JB P w0 W N o F H Y c0 ⟨.v (.slice none 0 0),[],Y,[]⟩:=
 JB.dH λhc F' G a w hF hS=>by
  obtain⟨rfl,rfl⟩:=Z hc
  have d:=hx F' G a hc (hF x (by simp[ZB,ho,Op.operands])) hS
  simp only[aA]at d
  have FT:=hl F' G a hc (λy e=>hF y (by simp[ZB,ho,Op.operands,e])) hS
  have HT:=hh F' G a hc (λy e=>hF y (by simp[ZB,ho,Op.operands,e])) hS
  obtain⟨dd,u1,u2,u3⟩:=(HC t i mL).under
  rw[hk]at u2
  obtain⟨rfl,I,hI,vE⟩:=u2
  have lL:=run_sizeOf (P:=P) (w:=w) hI
  have:=JY (P:=P) (w:=w) (b:=true) (len:=0) (cap:=0) FT HT O O O
  have hs:(Instr.sliceAt t (a.eval x) (lo.map a.eval) (hi.map a.eval) none).run P w= .ok (.slice none 0 0) w:=by
   simp[Instr.sliceAt,Instr.slice,run_underlying u1,d,this,lL]
  simp only[execOp,ho,Option.map_none,Sem.run_bind,hs,Result.andThen_ok,Sem.run_pure]
theorem Sw {t:TypeId} {i:TI} {x:Operand} {lo hi:Option Operand} {s:ByteArray} {l h:Int} (HC:GF P ty) (ho:o.op= .slice t x lo hi none) (mL:ty t=some i) (hk:i.kind= .str)
  (hx:Rd F c0 x (.v (.string s))) (hl:∀F' G a,c0=true->(∀y,lo=some y->VF F' F y)->SO F' G a->(lo=none/\l=0)\/∃kk y,lo=some y/\a.eval y= .int kk l)
  (hh:∀F' G a,c0=true->(∀y,hi=some y->VF F' F y)->SO F' G a->(hi=none/\h=(s.size:Int))\/∃kk y,hi=some y/\a.eval y= .int kk h) (Z:c0=true->0<=l/\l<=h/\h<=s.size):
  JB P w0 W N o F H Y c0 ⟨.v (.string (s.extract l.toNat h.toNat)),[],Y,[]⟩:=
 JB.dH λhc F' G a w hF hS=>by
  obtain⟨b1,b2,b3⟩:=Z hc
  have d:=hx F' G a hc (hF x (by simp[ZB,ho,Op.operands])) hS
  simp only[aA]at d
  have FT:=hl F' G a hc (λy e=>hF y (by simp[ZB,ho,Op.operands,e])) hS
  have HT:=hh F' G a hc (λy e=>hF y (by simp[ZB,ho,Op.operands,e])) hS
  obtain⟨dd,u1,u2,u3⟩:=(HC t i mL).under
  rw[hk]at u2
  have u2:dd= .string:=u2
  subst u2
  have:=JY (P:=P) (w:=w) (b:=false) (len:=s.size) (cap:=s.size) FT HT b1 b2 b3
  have hs:(Instr.sliceAt t (a.eval x) (lo.map a.eval) (hi.map a.eval) none).run P w= .ok (.string (s.extract l.toNat h.toNat)) w:=by
   simp[Instr.sliceAt,Instr.slice,run_underlying u1,d,this]
  simp only[execOp,ho,Option.map_none,Sem.run_bind,hs,Result.andThen_ok,Sem.run_pure]
end
section
variable {P:Program} {ty:Nat->Option TI} {w0:World} {W:Nat->Prop} {N:Nat} {o:Oper} {F:FS} {H:HS} {Y:Nat} {c0:Bool}
theorem aV {P:Program} {w w':World} {o:Oper} {a:Act} {x y:Operand} {t:TypeId} {v:Value} (ho:o.op= .call {callee:= .builtin .append,args:= #[x,y],argTypes:= #[t,t]})
  (h:(Builtin.append_ #[t,t] o.type #[a.eval x,a.eval y]).run P w= .ok v w'):(execOp a.eval o).run P w= .ok (.value v) w':=by
 unfold execOp
 simp only[ho,resolve,invoke,builtin,Sem.run_bind,Sem.run_pure,Result.andThen_ok,List.map_toArray,List.map_cons,List.map_nil,h]
theorem MH.drew {H:Nat->Option DA} {G:wA} {w:World} (h:MH w0 W H G w):MH w0 W H G w.drew:=h.later ⟨rfl,rfl,rfl,Nat.le_refl _,λ_ _=>rfl⟩
theorem Ji {G:wA} {w:World} {b2 q2 n2 es:Nat} {IE:DA} {y:Value} (d:aA G (.s b2 q2 n2) y) (dB:yC G w b2 IE) (BD:q2+n2*es<=IE.cells.length) (h2:0<n2):
  ∃ad cap ys,y= .slice (some ad) n2 cap/\ys.length=n2*es/\ZA G ((IE.cells.drop q2).take (n2*es)) ys/\∀j u,ys[j]? =some u->w.cell? (ad.add j)=some u:=by
 obtain⟨a,cap,ys,rfl,hc,hm,hl,dl,hr,hn⟩:=d.tEA dB es (n2*es) rfl BD
 cases a with
 |none=>have:=hn rfl;omega
 |some ad=>
  refine⟨ad,cap,ys,rfl,hl,dl,λj u hu=> ?_⟩
  obtain⟨ad',e,h⟩:=hr j u hu
  cases e
  exact h
theorem Tw {t el:TypeId} {i ie:TI} {x y:Operand} {b2 q2 n2 es:Nat} {IE:DA} (HC:GF P ty) (ho:o.op= .call {callee:= .builtin .append,args:= #[x,y],argTypes:= #[t,t]}) (hi:ty t=some i) (hk:i.kind= .sl el es) (OF:ty el=some ie) (RO:es=ie.zero.length) (h0:0<es)
  (hx:Rd F c0 x (.v (.slice none 0 0))) (hy:Rd F c0 y (.s b2 q2 n2)) (Z:WA H b2=some IE) (BD:q2+n2*es<=IE.cells.length) (h2:0<n2) (JT:c0=true->n2*ie.bytes<=140737488355328/\n2<=maxLen):
  JB P w0 W N o F H Y c0 ⟨.s Y 0 n2,[(Y,some (.X es el ((IE.cells.drop q2).take (n2*es))))],Y+1,[b2]⟩:=by
 refine⟨Nat.le_succ _,λhc F' H' G a w hF hH hu hM=> ?_⟩
 obtain⟨dd,u1,u2,u3⟩:=(HC t i hi).under
 rw[hk]at u2
 obtain⟨rfl,Ie,KH,vE⟩:=u2
 obtain⟨Tb,D,i2,i3,z,h4,h5⟩:=(HC el ie OF).jL
 rw[KH]at D;cases D
 obtain⟨s1,s2⟩:=JT hc
 have dx:=hx F' G a hc (hF x (by simp[ZB,ho,Op.operands,Call.operands])) hM.gC
 have dy:=hy F' G a hc (hF y (by simp[ZB,ho,Op.operands,Call.operands])) hM.gC
 simp only[aA]at dx
 obtain⟨ad,cap,ys,ey,hl,dl,hr⟩:=Ji dy (hM.heap.ok b2 IE ((hH b2 (by simp)).trans Z)) BD h2
 have IF:=grownCap_ge w n2 0 el
 have NK:grownCap w n2 0 el<=maxLen:=grownCap_le_maxLen w n2 0 el s2
 have Vb:z.cells.size=es:=by rw[RO,<-h5];simp
 have UO:=ZV (w0:=w0) (W:=W) (Y:=Y) (w:=w.drew) (cs:=ys) (sp:=(Builtin.zeroCells z.cells (grownCap w n2 0 el-n2)).toList) (n:=n2) (c:=grownCap w n2 0 el) (es:=es) el hM.heap.drew (hu Y qA (Nat.lt_succ_self _)) dl
  (by rw[hl,Array.length_toList,size_zeroCells,Vb,<-Nat.add_mul];congr 1;omega) IF NK (rh:=[b2]) rfl
 refine dD.value (aV ho ?_) UO
 rw[dx,ey]
 have:=run_append_nil (P:=P) w t o.type el Ie z u1 KH h4 ad n2 cap ys (by rw[vE];exact hl) hr h2 (by simp only[maxLen]at s2;omega) (by rw[i3];omega)
 rw[this]
 congr 3
 simp
theorem Uw {t el:TypeId} {i ie:TI} {x y:Operand} {b n b2 q2 n2 es:Nat} {e0:TypeId} {xs:List SV} {IE:DA} (HC:GF P ty) (ho:o.op= .call {callee:= .builtin .append,args:= #[x,y],argTypes:= #[t,t]}) (hi:ty t=some i) (hk:i.kind= .sl el es) (OF:ty el=some ie) (RO:es=ie.zero.length) (h0:0<es)
  (hx:Rd F c0 x (.s b 0 n)) (hy:Rd F c0 y (.s b2 q2 n2)) (Vw:WA H b=some (.X es e0 xs)) (Z:WA H b2=some IE) (hxs:n*es<=xs.length) (BD:q2+n2*es<=IE.cells.length) (h2:0<n2) (bV:e0=el)
  (AT:c0=true->∀s∈(IE.cells.drop q2).take (n2*es),UP s=true)
  (JT:c0=true->(n+n2)*ie.bytes<=140737488355328/\n+n2<=maxLen):
  JB P w0 W N o F H Y c0 ⟨.s Y 0 (n+n2),[(Y,some (.X es el (xs.take (n*es)++(IE.cells.drop q2).take (n2*es)))),(b,none)],Y+1,[b,b2]⟩:=by
 subst bV
 refine⟨Nat.le_succ _,λhc F' H' G a w hF hH hu hM=> ?_⟩
 obtain⟨dd,u1,u2,u3⟩:=(HC t i hi).under
 rw[hk]at u2
 obtain⟨rfl,Ie,KH,vE⟩:=u2
 obtain⟨Tb,D,i2,i3,z,h4,h5⟩:=(HC e0 ie OF).jL
 rw[KH]at D;cases D
 obtain⟨s1,s2⟩:=JT hc
 have dx:=hx F' G a hc (hF x (by simp[ZB,ho,Op.operands,Call.operands])) hM.gC
 have dy:=hy F' G a hc (hF y (by simp[ZB,ho,Op.operands,Call.operands])) hM.gC
 have IV:H' b=some (.X es e0 xs):=(hH b (by simp)).trans Vw
 have Ww:=hM.heap.ok b _ IV
 obtain⟨ad,cap,ys,ey,hl,dl,hr⟩:=Ji dy (hM.heap.ok b2 IE ((hH b2 (by simp)).trans Z)) BD h2
 have Vb:z.cells.size=es:=by rw[RO,<-h5];simp
 have Wb:=hu Y qA (Nat.lt_succ_self _)
 have grown:∀(eE:Nat) (cs:List Value),eE<n+n2->ZA G (xs.take (n*es)) cs->cs.length=n*es->
   LJ w0 W H' G Y ⟨.s Y 0 (n+n2),[(Y,some (.X es e0 (xs.take (n*es)++(IE.cells.drop q2).take (n2*es)))),(b,none)],Y+1,[b,b2]⟩
    (.slice (some ⟨w.heap.size,0,none⟩) (n+n2) (grownCap w (n+n2) eE e0)) (w.drew.alloc (.cells (cs.toArray++ys.toArray++Builtin.zeroCells z.cells (grownCap w (n+n2) eE e0- (n+n2))) e0)):=by
  intro eE cs ho YP HG
  have IF:=grownCap_ge w (n+n2) eE e0
  have NK:grownCap w (n+n2) eE e0<=maxLen:=grownCap_le_maxLen w (n+n2) eE e0 s2
  obtain⟨uA,g1,g2,g3,g4⟩:=ZV (w0:=w0) (W:=W) (Y:=Y) (w:=w.drew) (cs:=cs++ys) (sp:=(Builtin.zeroCells z.cells (grownCap w (n+n2) eE e0- (n+n2))).toList) (n:=n+n2) (c:=grownCap w (n+n2) eE e0) (es:=es) e0 hM.heap.drew Wb (ZA.append YP dl)
   (by rw[List.length_append,HG,hl,Array.length_toList,size_zeroCells,Vb,<-Nat.add_mul,<-Nat.add_mul];congr 1;omega) IF NK (rh:=[b,b2]) rfl
  refine⟨uA,g1,g2,g3,?_⟩
  have e1:List.toArray (cs++ys++(Builtin.zeroCells z.cells (grownCap w (n+n2) eE e0- (n+n2))).toList)=cs.toArray++ys.toArray++Builtin.zeroCells z.cells (grownCap w (n+n2) eE e0- (n+n2)):=by
   apply Array.toList_inj.1;simp
  rw[e1]at g4
  have:=g4.drop b
  simpa [ND]using this
 simp only[aA]at dx
 rcases dx with⟨e,_,rfl,dx⟩|⟨r,k,c,Xw,nL,e,dx,aM,rQ,hz,_⟩
 ·
  refine dD.value (aV ho ?_) (grown 0 [] O (by simp[ZA]) (by simp))
  rw[dx,ey]
  rw[Nat.zero_add]at s1 s2
  have:=run_append_nil (P:=P) w t o.type e0 Ie z u1 KH h4 ad n2 cap ys (by rw[vE];exact hl) hr h2 (by simp only[maxLen]at s2;omega) (by rw[i3];omega)
  rw[this]
  simp
 ·obtain⟨rfl,rfl⟩:=hz trivial
  rcases Ww with⟨e1,_⟩|⟨r',c',cs,sp,e1,e2,YP,uG,NK⟩
  ·rw[e]at e1;cases e1
  ·rw[e]at e1;cases e1
   have Xb:=ZA.length _ _ YP
   by_cases Yb:n+n2<=nL
   ·
    have DFA:n*es+n2*es<=cs.length+sp.length:=by rw[uG,<-Nat.add_mul];exact Nat.mul_le_mul_right _ Yb
    have Yw:∀u∈ys,u.oneCell'=true:=by
     intro u CL
     obtain⟨j,hj⟩:=List.getElem?_of_mem CL
     have KK:j<((IE.cells.drop q2).take (n2*es)).length:=by
      rw[<-ZA.length _ _ dl];exact(List.getElem?_eq_some_iff.1 hj).1
     obtain⟨y',kI,Zw⟩:=ZA.get _ _ dl j _ (List.getElem?_eq_getElem KK)
     rw[hj]at kI;cases kI
     exact Uh (AT hc _ (List.getElem_mem KK)) Zw
    have KT:=run_append_room (P:=P) w t o.type e0 Ie u1 KH r n nL (List.toArray (cs++sp)) e2 ad n2 cap ys (by rw[vE];exact hl) hr Yw Yb (by rw[vE];simp;omega)
    rw[vE]at KT
    let new:List Value:=(cs++sp).take (n*es)++ys++(cs++sp).drop (n*es+ys.length)
    have LV:(w.setRow r new.toArray).heap[r]? =some (.cells new.toArray e0 (0,0)):=setRow_heap w r _ _ e0 (0,0) e2
    have hA:new=(cs.take (n*es)++ys)++(cs++sp).drop (n*es+ys.length):=by
     simp only[new]
     rw[List.take_append_of_le_length O]
    have dA:ZA G (xs.take (n*es)++(IE.cells.drop q2).take (n2*es)) (cs.take (n*es)++ys):=by
     refine ZA.append ?_ dl
     refine ZA.xX _ _ (by simp[Xb]) λj s hj=> ?_
     rw[List.getElem?_take]at hj⊢
     split at hj
     ·rename_i fA
      rw[if_pos fA]
      exact ZA.get _ _ YP j s hj
     ·cases hj
    have vF:=hM.heap.Qh (w':=w.setRow r new.toArray) IV rfl (k':= .X es e0 (xs.take (n*es)++(IE.cells.drop q2).take (n2*es))) rfl e rfl rfl rfl (by simp) (λj _ hj=>setRow_other w r j _ hj)
     (.inr ⟨r,nL,cs.take (n*es)++ys,(cs++sp).drop (n*es+ys.length),e,by rw[LV,hA],dA,by simp;omega,NK⟩)
    let uA:wA:=λi=>if i=Y then .at r 0 nL else G i
    have b1:uA Y= .at r 0 nL:=by simp[uA]
    have Zb:∀i,i≠Y->uA i=G i:=λi hi=>by simp[uA,hi]
    have xF:uD G uA:=λi hi=>by
     by_cases e':i=Y
     ·subst e';exact absurd Wb hi
     ·exact Zb i e'
    have cV:b≠Y:=λe'=>by subst e';rw[Wb]at e;cases e
    refine dD.value (aV ho ?_) (w':=w.setRow r new.toArray) (y:= .slice (some ⟨r,0,none⟩) (n+n2) nL) ⟨uA,xF,λi hi=>Zb i (λe'=>hi (by simp only;omega)),?_,?_⟩
    ·rw[dx,ey];exact KT
    ·simp only[aA]
     exact .inr ⟨r,0,nL,_,_,b1,rfl,Yb,rQ,λ_=>⟨rfl,rfl⟩,λ_=>rfl⟩
    ·
     have kH:∀i,i≠Y->i≠b->ND H' [(Y,some (.X es e0 (xs.take (n*es)++(IE.cells.drop q2).take (n2*es)))),(b,none)] i=WE H' b (some (.X es e0 (xs.take (n*es)++(IE.cells.drop q2).take (n2*es)))) i:=λi D h2=>by
      simp only[ND]
      rw[sG _ _ _ _ h2,sG _ _ _ _ D,sG _ _ _ _ h2]
     have Ki:ND H' [(Y,some (.X es e0 (xs.take (n*es)++(IE.cells.drop q2).take (n2*es)))),(b,none)] Y=some (.X es e0 (xs.take (n*es)++(IE.cells.drop q2).take (n2*es))):=by
      simp only[ND]
      rw[sG _ _ _ _ (Ne.symm cV),YM]
     have Li:ND H' [(Y,some (.X es e0 (xs.take (n*es)++(IE.cells.drop q2).take (n2*es)))),(b,none)] b=none:=by
      simp only[ND,YM]
     have M:=vF
     have KY:∀i k,ND H' [(Y,some (.X es e0 (xs.take (n*es)++(IE.cells.drop q2).take (n2*es)))),(b,none)] i=some k->
       ∃i',WE H' b (some (.X es e0 (xs.take (n*es)++(IE.cells.drop q2).take (n2*es)))) i'=some k/\uA i=G i'/\i'=(if i=Y then b else i):=by
      intro i k oL
      by_cases hi:i=Y
      ·subst hi
       rw[Ki]at oL;cases oL
       exact⟨b,YM _ _ _,by rw[b1,e],by simp⟩
      ·by_cases Mi:i=b
       ·subst Mi;rw[Li]at oL;cases oL
       ·rw[kH i hi Mi]at oL
        exact⟨i,oL,Zb i hi,by simp[hi]⟩
     refine⟨M.os,M.tape,M.output,M.size,M.eE,?_,?_,?_⟩
     ·intro i k oL
      by_cases hi:i=Y
      ·subst hi
       rw[Ki]at oL;cases oL
       exact .inr ⟨r,nL,_,_,b1,by rw[LV,hA],ZA.ext xF _ _ dA,by simp;omega,NK⟩
      ·obtain⟨i',D,h2,h3⟩:=KY i k oL
       rw[if_neg hi]at h3
       subst h3
       exact yC.ext xF qA (λ_ _ _ _=>rfl) k (M.ok _ k D)
     ·intro i k oL HV r' o' c' e'
      obtain⟨i',D,h2,h3⟩:=KY i k oL
      rw[h2]at e'
      exact M.own i' k D HV r' o' c' e'
     ·intro i j k k' hi hj ZM qQ r' o' c' aw bw e' DL
      obtain⟨i',D,h2,h3⟩:=KY i k hi
      obtain⟨j',g1,g2,g3⟩:=KY j k' hj
      rw[h2]at e';rw[g2]at DL
      refine M.inj i' j' k k' D g1 ZM ?_ r' o' c' aw bw e' DL
      subst h3;subst g3
      have nb:∀i k,ND H' [(Y,some (.X es e0 (xs.take (n*es)++(IE.cells.drop q2).take (n2*es)))),(b,none)] i=some k->i≠b:=λi k h e=>by subst e;rw[Li]at h;cases h
      by_cases mL:i=Y
      ·rw[if_pos mL]
       by_cases qL:j=Y
       ·exact absurd (mL.trans qL.symm) qQ
       ·rw[if_neg qL];exact(nb j k' hj).symm
      ·rw[if_neg mL]
       by_cases qL:j=Y
       ·rw[if_pos qL];exact nb i k hi
       ·rw[if_neg qL];exact qQ
   ·
    have holds:∀j u,(cs.take (n*es))[j]? =some u->w.cell? ((⟨r,0,none⟩:Addr).add j)=some u:=by
     intro j u CL
     rw[List.getElem?_take]at CL
     split at CL
     ·rw[LO]
      have hj:j<cs.length:=by
       rcases Nat.lt_or_ge j cs.length with h|h
       ·exact h
       ·rw[List.getElem?_eq_none h]at CL;cases CL
      simp only[World.cell?,e2,Option.isSome_none,Bool.false_eq_true,if_false,Nat.zero_add,List.getElem?_toArray]
      rw[List.getElem?_append_left hj,CL]
     ·cases CL
    have JG:(cs.take (n*es)).length=n*es:=by rw[List.length_take,Xb];omega
    refine dD.value (aV ho ?_) (grown nL (cs.take (n*es)) O ?_ JG)
    ·rw[dx,ey]
     exact run_append_grow (P:=P) w t o.type e0 Ie z u1 KH h4 ⟨r,0,none⟩ n nL (cs.take (n*es)) (by rw[vE];exact JG) holds ad n2 cap ys (by rw[vE];exact hl) hr O (by simp only[maxLen]at s2;omega) (growslice_fits O (by rw[i3];exact s1))
    ·refine ZA.xX _ _ (by simp[Xb]) λj s hj=> ?_
     rw[List.getElem?_take]at hj⊢
     split at hj
     ·rename_i fA
      rw[if_pos fA]
      exact ZA.get _ _ YP j s hj
     ·cases hj
theorem dw (d:Nat) {w:World} {t:TypeId} (hu:∃ms,P.underlying t=some (.interface ms)):(Op.equalIn (d+1) t .nilIface .nilIface).run P w= .ok true w:=by
 obtain⟨ms,hu⟩:=hu
 simp[Op.equalIn,run_underlying hu]
theorem iw (d:Nat) {w:World} {t tt:TypeId} {z:Value} (hu:∃ms,P.underlying t=some (.interface ms)):(Op.equalIn (d+1) t (.iface tt z) .nilIface).run P w= .ok false w:=by
 obtain⟨ms,hu⟩:=hu
 simp[Op.equalIn,run_underlying hu]
theorem LY {t t':TypeId} {x:Operand} {op:BinOp} {v:Bool} {s:SV} (ho:o.op= .binOp op t x (.const .nilIface) t') (PO:op= .eql\/op= .neq) (hu:∃ms,P.underlying t=some (.interface ms)) (hx:Rd F c0 x s) (hs:(s= .v .nilIface/\v=(op== .eql))\/((∃tt z,s= .gD tt z)/\v=(op== .neq))):
  JB P w0 W N o F H Y c0 ⟨.v (.bool v),[],Y,[]⟩:=
 JB.dH λhc F' G a w hF hS=>by
  have d:=hx F' G a hc (hF x (by simp[ZB,ho,Op.operands])) hS
  have e:execOp a.eval o=(do pure (.value (<-(do eqGuard op t x (.const .nilIface) (a.eval x) .nilIface;binOp op t (a.eval x) .nilIface:Sem Value))):Sem Next):=by
   simp[execOp,ho,Act.eval]
  rw[e]
  rcases hs with⟨rfl,rfl⟩|⟨⟨tt,z,rfl⟩,rfl⟩
  ·simp only[aA]at d
   have h:=dw (P:=P) 9999 (w:=w) hu
   rcases PO with rfl|rfl
   ·have:(binOp .eql t .nilIface .nilIface).run P w= .ok (.bool true) w:=by
     show(do pure (.bool (<-Op.equalIn (9999+1) t .nilIface .nilIface)):Sem Value).run P w=_
     rw[Sem.run_bind,h];rfl
    rw[d,eqGuard_nil_constR,Sem.run_bind,Sem.run_bind,Sem.run_pure,Result.andThen_ok,this];rfl
   ·have:(binOp .neq t .nilIface .nilIface).run P w= .ok (.bool false) w:=by
     show(do pure (.bool (!(<-Op.equalIn (9999+1) t .nilIface .nilIface))):Sem Value).run P w=_
     rw[Sem.run_bind,h];rfl
    rw[d,eqGuard_nil_constR,Sem.run_bind,Sem.run_bind,Sem.run_pure,Result.andThen_ok,this];rfl
  ·simp only[aA]at d
   obtain⟨zz,d,_⟩:=d
   have h:=iw (P:=P) 9999 (w:=w) (tt:=tt) (z:=zz) hu
   have hg:∀op,eqGuard op t x (.const .nilIface) (.iface tt zz) .nilIface=pure ():=λop=>by cases op<;>rfl
   rcases PO with rfl|rfl
   ·have:(binOp .eql t (.iface tt zz) .nilIface).run P w= .ok (.bool false) w:=by
     show(do pure (.bool (<-Op.equalIn (9999+1) t (.iface tt zz) .nilIface)):Sem Value).run P w=_
     rw[Sem.run_bind,h];rfl
    rw[d,hg,Sem.run_bind,Sem.run_bind,Sem.run_pure,Result.andThen_ok,this];rfl
   ·have:(binOp .neq t (.iface tt zz) .nilIface).run P w= .ok (.bool true) w:=by
     show(do pure (.bool (!(<-Op.equalIn (9999+1) t (.iface tt zz) .nilIface))):Sem Value).run P w=_
     rw[Sem.run_bind,h];rfl
    rw[d,hg,Sem.run_bind,Sem.run_bind,Sem.run_pure,Result.andThen_ok,this];rfl
theorem jw (d:Nat) {w:World} {t e:TypeId} {ad:Option Addr} {n c:Nat} (u1:P.underlying t=some (.slice e)):(Op.equalIn (d+1) t (.slice ad n c) (.slice none 0 0)).run P w= .ok ad.isNone w:=by
 cases ad<;>simp[Op.equalIn,run_underlying u1]
theorem MY {t t':TypeId} {x:Operand} {op:BinOp} {v:Bool} {i:TI} {el es:Nat} {s:SV} (HC:GF P ty) (hi:ty t=some i) (hk:i.kind= .sl el es) (ho:o.op= .binOp op t x (.const (.slice none 0 0)) t') (PO:op= .eql\/op= .neq) (hx:Rd F c0 x s)
  (hs:c0=true->∀G y,aA G s y->∃a n c,y= .slice a n c/\v=(if op= .eql then a.isNone else !a.isNone)):
  JB P w0 W N o F H Y c0 ⟨.v (.bool v),[],Y,[]⟩:=
 JB.dH λhc F' G a w hF hS=>by
  have d:=hx F' G a hc (hF x (by simp[ZB,ho,Op.operands])) hS
  obtain⟨ad,n,c,ey,rfl⟩:=hs hc G _ d
  obtain⟨dd,u1,u2,u3⟩:=(HC t i hi).under
  rw[hk]at u2
  obtain⟨rfl,_⟩:=u2
  have e:execOp a.eval o=(do pure (.value (<-(do eqGuard op t x (.const (.slice none 0 0)) (a.eval x) (.slice none 0 0);binOp op t (a.eval x) (.slice none 0 0):Sem Value))):Sem Next):=by
   simp[execOp,ho,Act.eval]
  have hg:∀op,eqGuard op t x (.const (.slice none 0 0)) (.slice ad n c) (.slice none 0 0)=pure ():=λop=>by cases op<;>rfl
  have h:(Op.equalIn (9999+1) t (.slice ad n c) (.slice none 0 0)).run P w= .ok ad.isNone w:=jw 9999 u1
  rw[e,ey]
  rcases PO with rfl|rfl
  ·have:(binOp .eql t (.slice ad n c) (.slice none 0 0)).run P w= .ok (.bool ad.isNone) w:=by
    show(do pure (.bool (<-Op.equalIn (9999+1) t (.slice ad n c) (.slice none 0 0))):Sem Value).run P w=_
    rw[Sem.run_bind,h];rfl
   rw[hg,Sem.run_bind,Sem.run_bind,Sem.run_pure,Result.andThen_ok,this];rfl
  ·have:(binOp .neq t (.slice ad n c) (.slice none 0 0)).run P w= .ok (.bool (!ad.isNone)) w:=by
    show(do pure (.bool (!(<-Op.equalIn (9999+1) t (.slice ad n c) (.slice none 0 0)))):Sem Value).run P w=_
    rw[Sem.run_bind,h];rfl
   rw[hg,Sem.run_bind,Sem.run_bind,Sem.run_pure,Result.andThen_ok,this];rfl
theorem den_pos {G:wA} {b q n:Nat} {y:Value} (h:0<n) (d:aA G (.s b q n) y):∃a n' c,y= .slice a n' c/\a.isNone=false:=by
 simp only[aA]at d
 rcases d with⟨_,_,rfl,_⟩|⟨r,k,c,ad,cap,e,d,_⟩
 ·omega
 ·exact⟨_,_,_,d,rfl⟩
theorem kw {t el:TypeId} {i ie:TI} {es:Nat} (HC:GF P ty) (ho:o.op= .buildSlice t 0 (List.toArray [])) (hi:ty t=some i) (hk:i.kind= .sl el es):
  JB P w0 W N o F H Y c0 ⟨.s Y 0 0,[(Y,some (.X es el []))],Y+1,[]⟩:=by
 refine⟨Nat.le_succ _,λhc F' H' G a w hF hH hu hM=> ?_⟩
 obtain⟨dd,u1,u2,u3⟩:=(HC t i hi).under
 rw[hk]at u2
 obtain⟨rfl,Ie,KH,vE⟩:=u2
 have UO:=ZV (w0:=w0) (W:=W) (Y:=Y) (cs:=[]) (sp:=[]) (n:=0) (c:=0) (es:=es) el hM.heap (hu Y qA (Nat.lt_succ_self _)) (l:=[]) (by simp[ZA]) (by simp) qA (Nat.zero_le _) (rh:=[]) rfl
 refine dD.value ?_ UO
 have:(Instr.buildSlice t 0 #[]).run P w= .ok (.slice (some ⟨w.heap.size,0,none⟩) 0 0) (w.alloc (.cells #[] el)):=by
  simp[Instr.buildSlice,run_underlying u1,sizeOf,typeInfo,KH,Instr.fill,newRow,Array.range_zero']
 simp only[execOp,ho,Sem.run_bind]
 have e:(List.toArray ([]:List (Nat×Operand))).map (λx=>(x.1,a.eval x.2))= #[]:=by simp
 rw[e,this]
 simp
theorem mw {t el:TypeId} {i:TI} {x y:Operand} {b n es:Nat} {e0:TypeId} {xs:List SV} {ad:Option Addr} {c2:Nat} (HC:GF P ty) (ho:o.op= .call {callee:= .builtin .append,args:= #[x,y],argTypes:= #[t,t]}) (hi:ty t=some i) (hk:i.kind= .sl el es)
  (hx:Rd F c0 x (.s b 0 n)) (hy:Rd F c0 y (.v (.slice ad 0 c2))):
  JB P w0 W N o F H Y c0 ⟨.s b 0 n,[],Y,[]⟩:=by
 refine⟨Nat.le_refl _,λhc F' H' G a w hF hH hu hM=> ?_⟩
 obtain⟨dd,u1,u2,u3⟩:=(HC t i hi).under
 rw[hk]at u2
 obtain⟨rfl,Ie,KH,vE⟩:=u2
 have dx:=hx F' G a hc (hF x (by simp[ZB,ho,Op.operands,Call.operands])) hM.gC
 have dy:=hy F' G a hc (hF y (by simp[ZB,ho,Op.operands,Call.operands])) hM.gC
 simp only[aA]at dy
 have Ni:=dx
 simp only[aA]at Ni
 have KT:(Builtin.append_ #[t,t] o.type #[a.eval x,a.eval y]).run P w= .ok (a.eval x) w:=by
  rw[dy]
  rcases Ni with⟨e,_,hn,ex⟩|⟨r,k,c,Xw,nL,e,ex,aM,_⟩
  ·rw[ex]
   cases ad<;>simp[Builtin.append_,run_underlying u1,sizeOf,typeInfo,KH,Builtin.lenOf,Builtin.firstCells,loadCells,loadCellsFrom]
  ·rw[ex]
   have h0:n+0<=nL:=aM
   cases ad<;>simp[Builtin.append_,run_underlying u1,sizeOf,typeInfo,KH,Builtin.lenOf,Builtin.firstCells,loadCells,loadCellsFrom,aM,storeCells]
 exact dD.value (aV ho KT) (LJ.same hM.heap dx)
theorem ow {fx:Operand} {f:FuncId} {sf sc:List SV} {args:Array Operand} {at_:Array TypeId} {ss:List SV} {fn:Func} {r:QD} (ho:o.op= .call {callee:= .value fx,args:=args,argTypes:=at_}) (hx:Rd F c0 fx (.fn (.func f) sf sc)) (MV:P.funcs[f]? =some fn) (NV:fn.body.isNone=false) (OD:(fn.name== "runtime.NumGoroutine")=false)
  (II:∀F' G a,c0=true->(∀x∈args.toList,VF F' F x)->SO F' G a->ZA G ss (args.toList.map a.eval)) (hn:Y<=r.Y) (h:c0=true->FV P w0 W f (sf++ss++sc) H Y r):JB P w0 W N o F H Y c0 r:=by
 refine⟨hn,λhc F' H' G a w hF hH hu hM=> ?_⟩
 have d:=II F' G a hc (λx hx=>hF x (by simp[ZB,ho,Op.operands,Call.operands];exact .inr (by simpa using hx))) hM.gC
 have df:=hx F' G a hc (hF fx (by simp[ZB,ho,Op.operands,Call.operands])) hM.gC
 simp only[aA]at df
 obtain⟨xs,zs,df,d1,d2⟩:=df
 refine dD.call (f:=f) (args:=List.toArray xs++args.map a.eval++List.toArray zs) (w':=w) ?_ ?_
 ·simp only[execOp,ho,resolve,df,Deferred.ofValue,invoke,callFunc,Sem.run_bind,Sem.run_pure,Result.andThen_ok]
  have D:fn.name≠ "runtime.NumGoroutine" :=by intro e;rw[e]at OD;simp at OD
  have h2:¬fn.body=none:=by intro e;rw[e]at NV;simp at NV
  simp[MV,D,h2]
 ·have:=(h hc).2 H' G w (xs++args.toList.map a.eval++zs) hH hu hM.heap (ZA.append (ZA.append d1 d) d2)
  have e:List.toArray (xs++args.toList.map a.eval++zs)=List.toArray xs++args.map a.eval++List.toArray zs:=by
   apply Array.toList_inj.1;simp
  rw[e]at this
  exact this
structure ib (P:Program) (f:FuncId) (eB:List SV) (c0:Bool) (z:Value):Prop where
 ok:∃(fn:Func) (e:Array Value->Sem Value) (args:List Value),P.funcs[f]? =some fn/\fn.body.isNone=true/\Extern.findNext fn=none/\Extern.find fn=some e/\(∀G ys,ZA G eB ys->ys=args)/\(c0=true->∀w,(e (List.toArray args)).run P w= .ok z w)
theorem pw {fx:Operand} {f:FuncId} {sf sc:List SV} {args:Array Operand} {at_:Array TypeId} {ss:List SV} {z:Value} (ho:o.op= .call {callee:= .value fx,args:=args,argTypes:=at_}) (hx:Rd F c0 fx (.fn (.func f) sf sc)) (hX:ib P f (sf++ss++sc) c0 z) (OD:∀fn,P.funcs[f]? =some fn->(fn.name== "runtime.NumGoroutine")=false)
  (II:∀F' G a,c0=true->(∀x∈args.toList,VF F' F x)->SO F' G a->ZA G ss (args.toList.map a.eval)):JB P w0 W N o F H Y c0 ⟨.v z,[],Y,[]⟩:=by
 refine JB.dH λhc F' G a w hF hS=> ?_
 have d:=II F' G a hc (λx hx=>hF x (by simp[ZB,ho,Op.operands,Call.operands];exact .inr (by simpa using hx))) hS
 have df:=hx F' G a hc (hF fx (by simp[ZB,ho,Op.operands,Call.operands])) hS
 simp only[aA]at df
 obtain⟨xs,zs,df,d1,d2⟩:=df
 obtain⟨fn,e,dV,D,h2,h3,h4,h5,h6⟩:=hX.ok
 have ea:=h5 G _ (ZA.append (ZA.append d1 d) d2)
 have e':List.toArray xs++args.map a.eval++List.toArray zs=List.toArray dV:=by
  rw[<-ea];apply Array.toList_inj.1;simp
 simp only[execOp,ho,resolve,df,Deferred.ofValue,invoke,Sem.run_bind,Sem.run_pure,Result.andThen_ok]
 rw[e',run_callFunc_extern D (OD fn D) h2 h3 h4,h6 hc w];rfl
theorem qw {f:FuncId} {args:Array Operand} {at_:Array TypeId} {ss:List SV} {z:Value} (ho:o.op= .call {callee:= .value (.func f),args:=args,argTypes:=at_}) (hX:ib P f ss c0 z) (OD:∀fn,P.funcs[f]? =some fn->(fn.name== "runtime.NumGoroutine")=false)
  (II:∀F' G a,c0=true->(∀x∈args.toList,VF F' F x)->SO F' G a->ZA G ss (args.toList.map a.eval)):JB P w0 W N o F H Y c0 ⟨.v z,[],Y,[]⟩:=by
 refine JB.dH λhc F' G a w hF hS=> ?_
 have d:=II F' G a hc (λx hx=>hF x (by simp[ZB,ho,Op.operands,Call.operands];exact .inr (by simpa using hx))) hS
 obtain⟨fn,e,dV,D,h2,h3,h4,h5,h6⟩:=hX.ok
 have ea:=h5 G _ d
 have e':args.map a.eval=List.toArray dV:=by
  rw[<-ea];apply Array.toList_inj.1;simp
 simp only[execOp,ho,resolve,Act.eval,Deferred.ofValue,invoke,Sem.run_bind,Sem.run_pure,Result.andThen_ok]
 have DL: #[]++args.map a.eval=List.toArray dV:=by simpa using e'
 have:=run_callFunc_extern D (OD fn D) h2 h3 h4 (List.toArray dV) w
 simp only[h6 hc w,Result.andThen_ok]at this
 simp[e',this]
end
structure Cx where
 P:Program
 ty:Nat->Option TI
 w0:World
 W:Nat->Prop
 N:Nat
 kp:Nat->Bool
 n0:Nat
 oI:wA
 mixed:P.follows .mixedOrders=true
 YD:GF P ty
 MT:∀(f:Nat) (fn:Func),P.funcs[f]? =some fn->(fn.name== "runtime.NumGoroutine")=false
 gw:GW w0 W
structure cA (C:Cx) (f:Nat) (eB:List SV) (H:HS) (Y:Nat) (c0:Bool) (k:QD->Prop):Prop where
 ok:(∃fn,C.P.funcs[f]? =some fn/\fn.body.isNone=false/\EY C.P C.w0 C.W f eB H Y c0 k)\/∃z,ib C.P f eB c0 z/\k ⟨.v z,[],Y,[]⟩
theorem AB (f:Nat) {C:Cx} {eB:List SV} {H:HS} {Y:Nat} {c0:Bool} {k:QD->Prop} (h:cA C f eB H Y c0 k):cA C f eB H Y c0 k:=h
theorem WC (f:Nat) (eB:List SV) {C:Cx} {H:HS} {Y:Nat} {c0:Bool} {k:QD->Prop} (h:cA C f eB H Y c0 k):cA C f eB H Y c0 k:=h
def NY (C:Cx) (o:Oper) (F:FS) (H:HS) (Y:Nat) (c0:Bool) (k:QD->Prop):Prop:=
 match o.op with
 | .move x=>zB F c0 x λs=>k ⟨s,[],Y,[]⟩
 | .assign x=>zB F c0 x λs=>k ⟨s,[],Y,[]⟩
 | .pick c a b=>zB F c0 c λs=>match s with
  | .v (.bool bb)=>zB F (c0&&bb) a λsa=>zB F (c0&& !bb) b λsb=>(match sa,sb with
   | .v (.bool u), .v (.bool v)=>k ⟨.v (.bool (if bb then u else v)),[],Y,[]⟩
   |_,_=>False)
  |_=>False
 | .alloc t=>match C.ty t with
  |some i=>k ⟨.p Y 0,[(Y,some (.st (cC i.zero)))],Y+1,[]⟩
  |none=>False
 | .box t x=>zB F c0 x λs=>match cellsOf s with
  |some l=>k ⟨.p Y 0,[(Y,some (.st l))],Y+1,[]⟩
  |none=>False
 | .load t x=>zB F c0 x λs=>match s with
  | .p b q=>MO H b λbl=>(match C.ty t with
   |some i=>(match i.agg with
    |false=>AL (.v (.int .i64 0)) c0 bl.cells q λs=>k ⟨s,[],Y,[b]⟩
    |true=>IK bl.cells q λl=>EV l i.size λl=>k ⟨.agg l,[],Y,[b]⟩)
   |none=>False)
  |_=>∃r,JB C.P C.w0 C.W C.N o F H Y c0 r/\k r
 | .store t x v=>zB F c0 x λs=>match s with
  | .p b q=>zB F c0 v λsv=>MO H b λbl=>(match C.ty t,cellsOf sv with
   |some i,some l=>cond (Nat.beq l.length i.size) (cond (l.all UP) (match bl with
     | .st xs=>JK xs q l λjb=>k ⟨.v undef,[(b,some (.st jb))],Y,[b]⟩
     | .X es e xs=>JK xs q l λjb=>k ⟨.v undef,[(b,some (.X es e jb))],Y,[b]⟩
     |_=>False) False) False
   |_,_=>False)
  |_=>∃r,JB C.P C.w0 C.W C.N o F H Y c0 r/\k r
 | .nilCheck x=>zB F c0 x λs=>match s with
  | .p b q=>k ⟨.p b q,[],Y,[]⟩
  | .fn (.func g) a c=>k ⟨.fn (.func g) a c,[],Y,[]⟩
  |_=>∃r,JB C.P C.w0 C.W C.N o F H Y c0 r/\k r
 | .fieldAddr t x f=>zB F c0 x λs=>match s with
  | .p b q=>(match C.ty t with
   |some i=>(match i.kind with
    | .st fs=>QN fs f λe=>cond (Nat.beq e.2.1 0) False (k ⟨.p b (q+e.1),[],Y,[]⟩)
    |_=>False)
   |none=>False)
  |_=>∃r,JB C.P C.w0 C.W C.N o F H Y c0 r/\k r
 | .field t x f=>zB F c0 x λs=>match s with
  | .agg l=>(match C.ty t with
   |some i=>(match i.kind with
    | .st fs=>QN fs f λe=>(match e.2.2 with
     |false=>QN l e.1 λs=>k ⟨s,[],Y,[]⟩
     |true=>∃r,JB C.P C.w0 C.W C.N o F H Y c0 r/\k r)
    |_=>False)
   |none=>False)
  |_=>∃r,JB C.P C.w0 C.W C.N o F H Y c0 r/\k r
 | .indexAddr t x j=>zB F c0 x λs=>zB F c0 j λz=>match s,z with
  | .s b q n, .v (.int kk z)=>(match C.ty t with
   |some i=>(match i.kind with
    | .sl el es=>(c0=true->0<=z/\z<n)/\k ⟨.p b (q+z.toNat*es),[],Y,[]⟩
    |_=>False)
   |none=>False)
  | .p b q, .v (.int kk z)=>(match C.ty t with
   |some i=>(match i.kind with
    | .ar n el es=>(c0=true->0<=z/\z<n)/\k ⟨.p b (q+z.toNat*es),[],Y,[]⟩
    |_=>False)
   |none=>False)
  |_,_=>∃r,JB C.P C.w0 C.W C.N o F H Y c0 r/\k r
 | .index t x j=>zB F c0 x λs=>zB F c0 j λz=>match s,z with
  | .v (.string s), .v (.int kk z)=>(match C.ty t with
   |some i=>(match i.kind with
    | .str=>(c0=true->0<=z/\z<s.size)/\k ⟨.v (.int .u8 (((s.data.toList.getD z.toNat 0).toNat:Nat):Int)),[],Y,[]⟩
    |_=>False)
   |none=>False)
  | .agg l, .v (.int kk z)=>(match C.ty t with
   |some i=>(match i.kind with
    | .ar n e es=>(match C.ty e with
     |some ie=>cond ie.agg False (cond (Nat.beq ie.size 1) ((c0=true->0<=z/\z<n)/\QN l z.toNat λs=>k ⟨s,[],Y,[]⟩) False)
     |none=>False)
    |_=>False)
   |none=>False)
  |_,_=>∃r,JB C.P C.w0 C.W C.N o F H Y c0 r/\k r
 | .binOp op t x (.const .nilIface) t'=>zB F c0 x λs=>(match C.ty t with
  |some i=>(match i.kind,op,s with
   | .gD, .eql, .v .nilIface=>k ⟨.v (.bool true),[],Y,[]⟩
   | .gD, .neq, .v .nilIface=>k ⟨.v (.bool false),[],Y,[]⟩
   | .gD, .eql, .gD _ _=>k ⟨.v (.bool false),[],Y,[]⟩
   | .gD, .neq, .gD _ _=>k ⟨.v (.bool true),[],Y,[]⟩
   |_,_,_=>False)
  |none=>False)
 | .binOp op t x (.const (.slice none 0 0)) t'=>zB F c0 x λs=>(match C.ty t with
  |some i=>(match i.kind,op,s with
   | .sl _ _, .eql, .v (.slice a _ _)=>k ⟨.v (.bool a.isNone),[],Y,[]⟩
   | .sl _ _, .neq, .v (.slice a _ _)=>k ⟨.v (.bool (!a.isNone)),[],Y,[]⟩
   | .sl _ _, .eql, .s _ _ n=>(c0=true->0<n)/\k ⟨.v (.bool false),[],Y,[]⟩
   | .sl _ _, .neq, .s _ _ n=>(c0=true->0<n)/\k ⟨.v (.bool true),[],Y,[]⟩
   |_,_,_=>False)
  |none=>False)
 | .binOp op t x y t'=>zB F c0 x λsx=>zB F c0 y λsy=>Gb op c0 sx sy (λs=>k ⟨s,[],Y,[]⟩) (∃r,JB C.P C.w0 C.W C.N o F H Y c0 r/\k r)
 | .unOp op t x=>(match op with
  | .not=>zB F c0 x λs=>(match s with| .v (.bool b)=>k ⟨.v (.bool (!b)),[],Y,[]⟩|_=>False)
  | .neg=>zB F c0 x λs=>(match s with| .v (.int .i64 z)=>(c0=true->zA (-z))/\k ⟨.v (.int .i64 (-z)),[],Y,[]⟩|_=>∃r,JB C.P C.w0 C.W C.N o F H Y c0 r/\k r)
  |_=>∃r,JB C.P C.w0 C.W C.N o F H Y c0 r/\k r)
 | .convert s t x=>zB F c0 x λsx=>match sx with
  | .v (.int kk z)=>(match C.ty s,C.ty t with
   |some _,some i=>(match i.kind with
    | .int k'=>(c0=true->k'.wrap z=z)/\k ⟨.v (.int k' z),[],Y,[]⟩
    |_=>∃r,JB C.P C.w0 C.W C.N o F H Y c0 r/\k r)
   |_,_=>False)
  |_=>∃r,JB C.P C.w0 C.W C.N o F H Y c0 r/\k r
 | .makeInterface t x=>zB F c0 x λs=>(match C.ty t with|some i=>(match i.kind with| .gD=>False|_=>k ⟨.gD t s,[],Y,[]⟩)|none=>False)
 | .makeFunc fn fi ca=>uQ F c0 fi.toList λsf=>uQ F c0 ca.toList λsc=>k ⟨.fn fn sf sc,[],Y,[]⟩
 | .build t ⟨ps⟩=>(match C.ty t with
  |some i=>(match i.kind with
   | .st fs=>DT (λj=>(fs[j]?).map λx=>(x.1,x.2.1)) F c0 (cC i.zero) ps λl=>k ⟨.agg l,[],Y,[]⟩
   | .ar n el es=>DT (λj=>some (j*es,es)) F c0 (cC i.zero) ps λl=>k ⟨.agg l,[],Y,[]⟩
   |_=>False)
  |none=>False)
 | .buildSlice t 0 ⟨[]⟩=>(match C.ty t with
  |some i=>(match i.kind with
   | .sl el es=>(match C.ty el with
    |some ie=>k ⟨.s Y 0 0,[(Y,some (.X es el []))],Y+1,[]⟩
    |none=>False)
   |_=>False)
  |none=>False)
 | .buildSlice t len ⟨ps⟩=>(match C.ty t with
  |some i=>(match i.kind with
   | .sl el es=>(match C.ty el with
    |some ie=>cond (Nat.beq es ie.zero.length&&Nat.blt 0 es&&Nat.blt 0 len&&Nat.ble (len*es) 16777216) (DT (λj=>some (j*es,es)) F c0 (cC (mE ie.zero (len*es))) ps λl=>k ⟨.s Y 0 len,[(Y,some (.X es el l))],Y+1,[]⟩) False
    |none=>False)
   |_=>False)
  |none=>False)
 | .makeSlice t x y=>zB F c0 x λsl=>zB F c0 y λsc=>(match sl,sc with
  | .v (.int _ l), .v (.int _ c)=>(match C.ty t with
   |some i=>(match i.kind with
    | .sl el es=>(match C.ty el with
     |some ie=>cond (Nat.beq es ie.zero.length&&Nat.blt 0 es) ((c0=true->0<=l/\l<=c/\(ie.bytes:Int)*c<=281474976710656/\c<=9223372036854775807)/\k ⟨.s Y 0 l.toNat,[(Y,some (.X es el (cC (mE ie.zero (l.toNat*es)))))],Y+1,[]⟩) False
     |none=>False)
    |_=>False)
   |none=>False)
  |_,_=>False)
 | .slice t x lo hi none=>zB F c0 x λs=>(match s with
  | .s b q n=>(match C.ty t with
   |some i=>(match i.kind with
    | .sl el es=>cond (Nat.blt 0 es) (bP F c0 lo 0 λl=>bP F c0 hi n λh=>(c0=true->0<=l/\l<=h/\h<=n)/\k ⟨.s b (q+l.toNat*es) (h-l).toNat,[],Y,[]⟩) False
    |_=>False)
   |none=>False)
  | .v (.slice none 0 0)=>(match C.ty t with
   |some i=>(match i.kind with
    | .sl el es=>bP F c0 lo 0 λl=>bP F c0 hi ((0:Nat):Int) λh=>(c0=true->l=0/\h=0)/\k ⟨.v (.slice none 0 0),[],Y,[]⟩
    |_=>False)
   |none=>False)
  | .v (.string s)=>(match C.ty t with
   |some i=>(match i.kind with
    | .str=>bP F c0 lo 0 λl=>bP F c0 hi s.size λh=>(c0=true->0<=l/\l<=h/\h<=s.size)/\k ⟨.v (.string (s.extract l.toNat h.toNat)),[],Y,[]⟩
    |_=>False)
   |none=>False)
  |_=>∃r,JB C.P C.w0 C.W C.N o F H Y c0 r/\k r)
 | .call ⟨.builtin .append,⟨[x,y]⟩,⟨[t,t']⟩⟩=>cond (Nat.beq t t') (zB F c0 x λsx=>zB F c0 y λsy=>(match C.ty t with
  |some i=>(match i.kind with
   | .sl el es=>(match C.ty el with
    |some ie=>cond (Nat.beq es ie.zero.length&&Nat.blt 0 es) (match sx,sy with
     | .v (.slice none 0 0), .s b2 q2 n2=>MO H b2 λIE=>q2+n2*es<=IE.cells.length/\0<n2/\(c0=true->n2*ie.bytes<=140737488355328/\n2<=maxLen)/\
       k ⟨.s Y 0 n2,[(Y,some (.X es el ((IE.cells.drop q2).take (n2*es))))],Y+1,[b2]⟩
     | .s b 0 n, .v (.slice _ 0 _)=>k ⟨.s b 0 n,[],Y,[]⟩
     | .s b 0 n, .s b2 q2 n2=>MO H b λbl=>MO H b2 λIE=>(match bl with
      | .X Oi e0 xs=>cond (Nat.beq Oi es&&Nat.beq e0 el) (n*es<=xs.length/\q2+n2*es<=IE.cells.length/\0<n2/\(c0=true->∀s∈(IE.cells.drop q2).take (n2*es),UP s=true)/\(c0=true->(n+n2)*ie.bytes<=140737488355328/\n+n2<=maxLen)/\
       k ⟨.s Y 0 (n+n2),[(Y,some (.X es el (xs.take (n*es)++(IE.cells.drop q2).take (n2*es)))),(b,none)],Y+1,[b,b2]⟩) False
      |_=>False)
     |_,_=>∃r,JB C.P C.w0 C.W C.N o F H Y c0 r/\k r) False
    |none=>False)
   |_=>False)
  |none=>False)) (∃r,JB C.P C.w0 C.W C.N o F H Y c0 r/\k r)
 | .extract x j=>zB F c0 x λs=>(match s with| .jA l=>QN l j λs=>k ⟨s,[],Y,[]⟩|_=>False)
 | .call ⟨.value (.tmp x),args,_⟩=>zB F c0 (.tmp x) λs=>(match s with
  | .fn (.func f) sf sc=>uQ F c0 args.toList λss=>cA C f (sf++ss++sc) H Y c0 k
  |_=>False)
 | .call ⟨.value (.func f),args,_⟩=>uQ F c0 args.toList λss=>cA C f ss H Y c0 k
 | .call ⟨.builtin .len,⟨[x]⟩,⟨[t]⟩⟩=>zB F c0 x λs=>(match C.ty t with
  |some i=>(match i.kind,s with
   | .sl el es, .s b q n=>k ⟨.v (.int .i64 n),[],Y,[]⟩
   | .sl el es, .v (.slice q n c)=>k ⟨.v (.int .i64 n),[],Y,[]⟩
   | .str, .v (.string s)=>k ⟨.v (.int .i64 s.size),[],Y,[]⟩
   |_,_=>∃r,JB C.P C.w0 C.W C.N o F H Y c0 r/\k r)
  |none=>False)
 | .call ⟨.builtin .max,⟨[x,y]⟩,_⟩=>zB F c0 x λs=>zB F c0 y λs'=>(match s,s' with
  | .v (.int k1 u), .v (.int k2 v)=>k ⟨.v (.int k1 (if v>u then v else u)),[],Y,[]⟩
  |_,_=>False)
 | .call ⟨.builtin .min,⟨[x,y]⟩,_⟩=>zB F c0 x λs=>zB F c0 y λs'=>(match s,s' with
  | .v (.int k1 u), .v (.int k2 v)=>k ⟨.v (.int k1 (if v<u then v else u)),[],Y,[]⟩
  |_,_=>False)
 |_=>∃r,JB C.P C.w0 C.W C.N o F H Y c0 r/\k r
theorem bq (a b:Nat):(a=b/\Nat.beq a b=true)\/Nat.beq a b=false:=by
 cases h:Nat.beq a b
 ·exact .inr rfl
 ·exact .inl ⟨Nat.eq_of_beq_eq_true h,rfl⟩
theorem eV {b:Bool} {p:Prop} (h:cond b p False):b=true/\p:=by
 cases b
 ·exact h.elim
 ·exact⟨rfl,h⟩
theorem QC {F:FS} {c0:Bool} {x:Operand} {k:SV->Prop} (h:zB F c0 x k):∃s,k s/\Rd F c0 x s:=BY h
theorem kb {F:FS} {c0:Bool} {pl:Nat->Option (Nat×Nat)} {ps:List (Nat×Operand)} {l:List SV} {k:List SV->Prop} (h:DT pl F c0 l ps k):
  ∃l',(k l'/\∀nI,(∀j p,pl j=some p->nI j=some p)->∀F' G a,c0=true->(∀x∈ps.map (·.2),VF F' F x)->SO F' G a->∀m,ZA G l m->∃m',Instr.fill nI (List.toArray m) (ps.map λx=>(x.1,a.eval x.2))=some (List.toArray m')/\ZA G l' m')/\l'.length=l.length:=by
 obtain⟨l',D,h2,h3⟩:=Di h
 exact⟨l',⟨D,h3⟩,h2⟩
theorem Qi {C:Cx} {o:Oper} {F:FS} {H:HS} {Y:Nat} {c0:Bool} {k:QD->Prop} (h:NY C o F H Y c0 k):∃r,k r/\JB C.P C.w0 C.W C.N o F H Y c0 r:=by
 have KI:(∃r,JB C.P C.w0 C.W C.N o F H Y c0 r/\k r)->∃r,k r/\JB C.P C.w0 C.W C.N o F H Y c0 r:=λ⟨r,D,h2⟩=>⟨r,h2,D⟩
 unfold NY at h
 split at h
 ·rename_i x ho
  obtain⟨s,h,hs⟩:=QC h
  exact⟨_,h,Mv ho hs⟩
 ·rename_i x ho
  obtain⟨s,h,hs⟩:=QC h
  exact⟨_,h,Nv ho hs⟩
 ·rename_i c a b ho
  obtain⟨s,h,hs⟩:=QC h
  split at h
  ·rename_i bb
   obtain⟨sa,h,ha⟩:=QC h
   obtain⟨sb,h,Z⟩:=QC h
   split at h
   ·exact⟨_,h,Ov ho hs ha Z⟩
   ·exact h.elim
  ·exact h.elim
 ·rename_i t ho
  split at h
  ·rename_i i hi
   exact⟨_,h,Pv C.YD ho hi⟩
  ·exact h.elim
 ·rename_i t x ho
  obtain⟨s,h,hs⟩:=QC h
  split at h
  ·rename_i l hl
   exact⟨_,h,Qv ho hs hl⟩
  ·exact h.elim
 ·rename_i t x ho
  obtain⟨s,h,hs⟩:=QC h
  split at h
  ·rename_i b q
   obtain⟨bl,Z,h⟩:=tQ h
   split at h
   ·rename_i i hi
    split at h
    ·rename_i iH
     obtain⟨s',h,iB⟩:=Wh h
     refine⟨⟨s',[],Y,[b]⟩,h,?_⟩
     by_cases ZG:c0=true
     ·exact Rv C.YD ho hi iH hs Z (iB ZG)
     ·exact⟨Nat.le_refl _,λe=>absurd e ZG⟩
    ·rename_i iH
     obtain⟨h,_⟩:=Eb h
     obtain⟨l,hl,hg,h⟩:=Db h
     exact⟨_,h,Sv C.YD ho hi iH hs Z hl (λj s hj=>by have:=hg j s hj;rwa [List.getElem?_drop]at this)⟩
   ·exact h.elim
  ·exact KI h
 ·rename_i t x v ho
  obtain⟨s,h,hs⟩:=QC h
  split at h
  ·rename_i b q
   obtain⟨sv,h,hv⟩:=QC h
   obtain⟨bl,Z,h⟩:=tQ h
   split at h
   ·rename_i i l hi hl
    cases D:Nat.beq l.length i.size with
    |false=>rw[D]at h;exact h.elim
    |true=>
     rw[D]at h
     have D:=Nat.eq_of_beq_eq_true D
     cases h2:l.all UP with
     |false=>rw[h2]at h;exact h.elim
     |true=>
      rw[h2]at h
      simp only[cond_true]at h
      split at h
      ·rename_i xs
       obtain⟨h,hf⟩:=DY h
       exact⟨_,h,jh (bl:= .st xs) C.YD ho hi hs hv Z rfl hl D h2 hf⟩
      ·rename_i es e xs
       obtain⟨h,hf⟩:=DY h
       exact⟨_,h,jh (bl:= .X es e xs) C.YD ho hi hs hv Z rfl hl D h2 hf⟩
      ·exact h.elim
   ·exact h.elim
  ·exact KI h
 ·rename_i x ho
  obtain⟨s,h,hs⟩:=QC h
  split at h
  ·exact⟨_,h,Yv ho hs⟩
  ·exact⟨_,h,Zv ho hs⟩
  ·exact KI h
 ·rename_i t x f ho
  obtain⟨s,h,hs⟩:=QC h
  split at h
  ·rename_i b q
   split at h
   ·rename_i i hi
    split at h
    ·rename_i fs hk
     obtain⟨⟨off,sz,ag⟩,he,h⟩:=XP h
     cases hz:Nat.beq sz 0 with
     |true=>simp only[hz,cond_true]at h
     |false=>
      simp only[hz,cond_false]at h
      exact⟨_,h,Wv C.YD ho hi hk he (λe=>by subst e;simp at hz) hs⟩
    ·exact h.elim
   ·exact h.elim
  ·exact KI h
 ·rename_i t x f ho
  obtain⟨s,h,hs⟩:=QC h
  split at h
  ·rename_i l
   split at h
   ·rename_i i hi
    split at h
    ·rename_i fs hk
     obtain⟨⟨off,sz,ag⟩,he,h⟩:=XP h
     cases ag with
     |false=>
      obtain⟨s',iB,h⟩:=XP h
      exact⟨_,h,Xv C.YD ho hi hk he iB hs⟩
     |true=>exact KI h
    ·exact h.elim
   ·exact h.elim
  ·exact KI h
 ·rename_i t x j ho
  obtain⟨s,h,hs⟩:=QC h
  obtain⟨z,h,hz⟩:=QC h
  split at h
  ·split at h
   ·rename_i i hi
    split at h
    ·rename_i el es hk
     exact⟨_,h.2,av C.YD ho hi hk hs hz h.1⟩
    ·exact h.elim
   ·exact h.elim
  ·split at h
   ·rename_i i hi
    split at h
    ·rename_i n el es hk
     exact⟨_,h.2,Ow C.YD ho hi hk hs hz h.1⟩
    ·exact h.elim
   ·exact h.elim
  ·exact KI h
 ·rename_i t x j ho
  obtain⟨s,h,hs⟩:=QC h
  obtain⟨z,h,hz⟩:=QC h
  split at h
  ·split at h
   ·rename_i i hi
    split at h
    ·rename_i hk
     exact⟨_,h.2,cv C.YD ho hi hk hs hz h.1⟩
    ·exact h.elim
   ·exact h.elim
  ·split at h
   ·rename_i i hi
    split at h
    ·rename_i n e es hk
     split at h
     ·rename_i ie OF
      cases D:ie.agg with
      |true=>rw[D]at h;exact h.elim
      |false=>
       rw[D]at h
       rcases bq ie.size 1 with⟨h2,Z⟩|Z
       ·rw[Z]at h
        obtain⟨yQ,h⟩:=h
        obtain⟨s',iB,h⟩:=XP h
        exact⟨_,h,Nw C.YD ho hi hk OF D h2 hs hz yQ iB⟩
       ·rw[Z]at h;exact h.elim
     ·exact h.elim
    ·exact h.elim
   ·exact h.elim
  ·exact KI h
 ·rename_i op t x t' ho
  obtain⟨s,h,hx⟩:=QC h
  split at h
  ·rename_i i hi
   have hu:i.kind= .gD->∃ms,C.P.underlying t=some (.interface ms):=λhk=>by
    obtain⟨d,D,h2,_⟩:=(C.YD t i hi).under
    rw[hk]at h2
    obtain⟨ms,rfl⟩:=h2
    exact⟨ms,D⟩
   split at h
   ·exact⟨_,h,LY ho (.inl rfl) (hu ‹_›) hx (.inl ⟨rfl,rfl⟩)⟩
   ·exact⟨_,h,LY ho (.inr rfl) (hu ‹_›) hx (.inl ⟨rfl,rfl⟩)⟩
   ·exact⟨_,h,LY ho (.inl rfl) (hu ‹_›) hx (.inr ⟨⟨_,_,rfl⟩,rfl⟩)⟩
   ·exact⟨_,h,LY ho (.inr rfl) (hu ‹_›) hx (.inr ⟨⟨_,_,rfl⟩,rfl⟩)⟩
   ·exact h.elim
  ·exact h.elim
 ·rename_i op t x t' ho
  obtain⟨s,h,hx⟩:=QC h
  split at h
  ·rename_i i hi
   split at h
   ·exact⟨_,h,MY C.YD hi ‹_› ho (.inl rfl) hx (λ_ G y d=>by simp only[aA]at d;exact⟨_,_,_,d,rfl⟩)⟩
   ·exact⟨_,h,MY C.YD hi ‹_› ho (.inr rfl) hx (λ_ G y d=>by simp only[aA]at d;exact⟨_,_,_,d,rfl⟩)⟩
   ·exact⟨_,h.2,MY C.YD hi ‹_› ho (.inl rfl) hx (λhc G y d=>by obtain⟨a,n',c,e,e2⟩:=den_pos (h.1 hc) d;exact⟨a,n',c,e,by simp[e2]⟩)⟩
   ·exact⟨_,h.2,MY C.YD hi ‹_› ho (.inr rfl) hx (λhc G y d=>by obtain⟨a,n',c,e,e2⟩:=den_pos (h.1 hc) d;exact⟨a,n',c,e,by simp[e2]⟩)⟩
   ·exact h.elim
  ·exact h.elim
 ·rename_i op t x y t' hny EFA ho
  obtain⟨sx,h,hx⟩:=QC h
  obtain⟨sy,h,hy⟩:=QC h
  rcases Lv (P:=C.P) h with h|⟨z,h,hz⟩
  ·exact KI h
  ·exact⟨_,h,ev ho hx hy hz⟩
 ·rename_i op t x ho
  split at h
  ·obtain⟨s,h,hs⟩:=QC h
   split at h
   ·exact⟨_,h,fv ho hs⟩
   ·exact h.elim
  ·obtain⟨s,h,hs⟩:=QC h
   split at h
   ·exact⟨_,h.2,iv ho hs h.1⟩
   ·exact KI h
  ·exact KI h
 ·rename_i s t x ho
  obtain⟨sx,h,hx⟩:=QC h
  split at h
  ·split at h
   ·rename_i j i hj hi
    split at h
    ·rename_i k' hk
     exact⟨_,h.2,jv C.YD ho hj hi hk hx h.1⟩
    ·exact KI h
   ·exact h.elim
  ·exact KI h
 ·rename_i t x ho
  obtain⟨s,h,hs⟩:=QC h
  split at h
  ·rename_i i hi
   split at h
   ·exact h.elim
   ·rename_i hk
    exact⟨_,h,lv C.YD ho hi (λe=>hk e) hs⟩
  ·exact h.elim
 ·rename_i fn fi ca ho
  obtain⟨sf,h,hf⟩:=xS h
  obtain⟨sc,h,hc⟩:=xS h
  exact⟨_,h,mv ho hf hc⟩
 ·rename_i t ps ho
  split at h
  ·rename_i i hi
   split at h
   ·rename_i fs hk
    obtain⟨l,h,_⟩:=kb h
    exact⟨_,h.1,Iw C.YD ho hi hk h.2⟩
   ·rename_i n el es hk
    obtain⟨l,h,_⟩:=kb h
    exact⟨_,h.1,Jw C.YD ho hi hk h.2⟩
   ·exact h.elim
  ·exact h.elim
 ·rename_i t ho
  split at h
  ·rename_i i hi
   split at h
   ·rename_i el es hk
    split at h
    ·rename_i ie OF
     exact⟨_,h,kw (el:=el) (ie:=ie) C.YD ho hi hk⟩
    ·exact h.elim
   ·exact h.elim
  ·exact h.elim
 ·rename_i t len ps HF ho
  split at h
  ·rename_i i hi
   split at h
   ·rename_i el es hk
    split at h
    ·rename_i ie OF
     obtain⟨hc,h⟩:=eV h
     simp only[Bool.and_eq_true]at hc
     obtain⟨⟨⟨c1,c2⟩,c3⟩,c4⟩:=hc
     have c1:=Nat.eq_of_beq_eq_true c1
     have c4:=Nat.le_of_ble_eq_true c4
     have c2:0<es:=by simpa using c2
     have c3:0<len:=by simpa using c3
     obtain⟨l,h,hl⟩:=kb h
     exact⟨_,h.1,Lw C.YD ho hi hk OF c1 c2 c3 c4 (by rw[hl];simp[cC,Ei]) h.2⟩
    ·exact h.elim
   ·exact h.elim
  ·exact h.elim
 ·rename_i t x y ho
  obtain⟨sl,h,hl⟩:=QC h
  obtain⟨sc,h,hc⟩:=QC h
  split at h
  ·split at h
   ·rename_i i hi
    split at h
    ·rename_i el es hk
     split at h
     ·rename_i ie OF
      obtain⟨hq,h⟩:=eV h
      simp only[Bool.and_eq_true]at hq
      have c1:=Nat.eq_of_beq_eq_true hq.1
      have c2:0<es:=by simpa using hq.2
      exact⟨_,h.2,Mw C.YD ho hi hk OF c1 c2 hl hc h.1⟩
     ·exact h.elim
    ·exact h.elim
   ·exact h.elim
  ·exact h.elim
 ·rename_i t x lo mL ho
  obtain⟨s,h,hs⟩:=QC h
  split at h
  ·split at h
   ·rename_i i hi
    split at h
    ·rename_i el es hk
     obtain⟨hq,h⟩:=eV h
     have c2:0<es:=by simpa using hq
     obtain⟨l,h,hl⟩:=ET h
     obtain⟨u,h,hu⟩:=ET h
     exact⟨_,h.2,Pw C.YD ho hi hk c2 hs hl hu h.1⟩
    ·exact h.elim
   ·exact h.elim
  ·split at h
   ·rename_i i hi
    split at h
    ·rename_i el es hk
     obtain⟨l,h,hl⟩:=ET h
     obtain⟨u,h,hu⟩:=ET h
     exact⟨_,h.2,Rw C.YD ho hi hk hs hl hu h.1⟩
    ·exact h.elim
   ·exact h.elim
  ·split at h
   ·rename_i i hi
    split at h
    ·rename_i hk
     obtain⟨l,h,hl⟩:=ET h
     obtain⟨u,h,hu⟩:=ET h
     exact⟨_,h.2,Sw C.YD ho hi hk hs hl hu h.1⟩
    ·exact h.elim
   ·exact h.elim
  ·exact KI h
 ·rename_i x y t t' ho
  rcases bq t t' with⟨ht,Z⟩|Z
  case inr=>rw[Z]at h;exact KI h
  rw[Z]at h
  have h9:=h
  clear h Z
  subst ht
  obtain⟨sx,h,hx⟩:=QC h9
  obtain⟨sy,h,hy⟩:=QC h
  split at h
  ·rename_i i hi
   split at h
   ·rename_i el es hk
    split at h
    ·rename_i ie OF
     obtain⟨hq,h⟩:=eV h
     simp only[Bool.and_eq_true]at hq
     have c1:=Nat.eq_of_beq_eq_true hq.1
     have c2:0<es:=by simpa using hq.2
     split at h
     ·obtain⟨IE,Z,D,h2,h3,h⟩:=tQ h
      exact⟨_,h,Tw C.YD ho hi hk OF c1 c2 hx hy Z D h2 h3⟩
     ·exact⟨_,h,mw (e0:=0) (xs:=[]) C.YD ho hi hk hx hy⟩
     ·obtain⟨bl,Z,h⟩:=tQ h
      obtain⟨IE,lH,h⟩:=tQ h
      split at h
      ·rename_i Oi e0 xs
       obtain⟨hq,h⟩:=eV h
       simp only[Bool.and_eq_true]at hq
       have d1:=Nat.eq_of_beq_eq_true hq.1
       have d2:=Nat.eq_of_beq_eq_true hq.2
       subst d1
       obtain⟨D,h2,h3,h4,h5,h⟩:=h
       exact⟨_,h,Uw C.YD ho hi hk OF c1 c2 hx hy Z lH D h2 h3 d2 h4 h5⟩
      ·exact h.elim
     ·exact KI h
    ·exact h.elim
   ·exact h.elim
  ·exact h.elim
 ·rename_i x j ho
  obtain⟨s,h,hs⟩:=QC h
  split at h
  ·obtain⟨s',iB,h⟩:=XP h
   exact⟨_,h,ov ho hs iB⟩
  ·exact h.elim
 ·rename_i x args at_ ho
  obtain⟨s,h,hs⟩:=QC h
  split at h
  ·obtain⟨ss,h,II⟩:=xS h
   rcases h.ok with⟨fn,D,h2,r,⟨hn,hc⟩,hk⟩|⟨z,hX,hk⟩
   ·exact⟨r,hk,ow ho hs D h2 (C.MT _ _ D) II hn hc⟩
   ·exact⟨_,hk,pw ho hs hX (λfn h=>C.MT _ fn h) II⟩
  ·exact h.elim
 ·rename_i f args at_ ho
  obtain⟨ss,h,II⟩:=xS h
  rcases h.ok with⟨fn,D,h2,r,⟨hn,hc⟩,hk⟩|⟨z,hX,hk⟩
  ·exact⟨r,hk,xv ho D h2 (C.MT _ _ D) II hn hc⟩
  ·exact⟨_,hk,qw ho hX (λfn h=>C.MT _ fn h) II⟩
 ·rename_i x t ho
  obtain⟨s,h,hs⟩:=QC h
  split at h
  ·rename_i i hi
   split at h
   ·rename_i hk;exact⟨_,h,qv C.YD ho hi hk hs⟩
   ·rename_i hk;exact⟨_,h,rv C.YD ho hi hk hs⟩
   ·rename_i hk;exact⟨_,h,tv C.YD ho hi hk hs⟩
   ·exact KI h
  ·exact h.elim
 ·rename_i x y at_ ho
  obtain⟨s,h,hs⟩:=QC h
  obtain⟨s',h,iB⟩:=QC h
  split at h
  ·exact⟨_,h,uv ho hs iB⟩
  ·exact h.elim
 ·rename_i x y at_ ho
  obtain⟨s,h,hs⟩:=QC h
  obtain⟨s',h,iB⟩:=QC h
  split at h
  ·exact⟨_,h,wv ho hs iB⟩
  ·exact h.elim
 ·exact KI h
def ob (ops:List Oper) (F:FS) (g:Option (Nat×Bool)) (k:Bool->Prop):Prop:=
 match g with
 |none=>k true
 |some (j,w)=>QN ops j λo=>match o.dst with
  |some d=>sQ F d λr=>(match r with
   | .u (.v (.bool b))=>k (match w with|true=>b|false=> !b)
   | .g c (.v (.bool b))=>k (c&&(match w with|true=>b|false=> !b))
   |_=>False)
  |none=>False
theorem Ri {ops:Array Oper} {o:Oper} {j d:Nat} {a:Act} (ho:ops[j]? =some o) (hd:o.dst=some d) (fA:d<a.tmps.size):
  yielded ops a.tmps j=(match a.tmps.getD d undef with| .bool b=>some b|_=>none):=by
 unfold yielded
 simp only[ho,Option.bind_some,hd,Array.getElem?_eq_getElem fA]
 rw[show a.tmps.getD d undef=a.tmps[d]by simp[Array.getD,fA]]
 cases a.tmps[d]<;>rfl
theorem sw {ops:List Oper} {F:FS} {o:Oper} {k:Bool->Prop} (h:ob ops F o.guard k):
  ∃c0,k c0/\(o.guard=none->c0=true)/\∀F' G a,(∀t∈o.looksAt (List.toArray ops),F' t=lk F t)->SO F' G a->Region.wanted o (yielded (List.toArray ops) a.tmps)=c0:=by
 unfold ob at h
 split at h
 ·rename_i hg
  exact⟨true,h,λ_=>rfl,λF' G a _ _=>by simp[Region.wanted,hg]⟩
 ·rename_i j w hg
  obtain⟨o',jH,h⟩:=XP h
  have aP:(List.toArray ops)[j]? =some o':=by simpa using jH
  have Si:∀c:Bool,o.guard=none->c=true:=λc e=>by rw[hg]at e;cases e
  split at h
  ·rename_i d hd
   obtain⟨r,hr,h⟩:=CV h
   have LI:d∈o.looksAt (List.toArray ops):=by
    simp[Oper.looksAt,hg,jH,hd]
   split at h
   ·rename_i b
    refine⟨_,h,Si _,λF' G a hF hS=> ?_⟩
    obtain⟨fA,EL⟩:=hS d _ ((hF d LI).trans hr)
    simp only[IH,aA]at EL
    simp only[Region.wanted,hg,Ri aP hd fA,EL]
    cases w<;>cases b<;>rfl
   ·rename_i c b
    refine⟨_,h,Si _,λF' G a hF hS=> ?_⟩
    obtain⟨fA,EL⟩:=hS d _ ((hF d LI).trans hr)
    simp only[IH,aA]at EL
    simp only[Region.wanted,hg,Ri aP hd fA]
    cases c with
    |true=>
     rw[if_pos rfl]at EL
     rw[EL]
     cases w<;>cases b<;>rfl
    |false=>
     rw[if_neg (by simp)]at EL
     rw[EL]
     cases w<;>cases b<;>rfl
   ·exact h.elim
  ·exact h.elim
def zQ {PB:Type} (F:List (Nat×PB)) (t:Nat) (r:PB) (k:List (Nat×PB)->Prop):Prop:=
 match F with
 |[]=>k [(t,r)]
 |(u,x)::l=>cond (Nat.beq u t) (k ((t,r)::l)) (zQ l t r λl'=>k ((u,x)::l'))
theorem fV (u t:Nat):(u=t/\Nat.beq u t=true)\/(u≠t/\Nat.beq u t=false):=by
 by_cases e:u=t
 ·subst e;exact .inl ⟨rfl,by simp⟩
 ·refine .inr ⟨e,?_⟩
  cases Z:Nat.beq u t
  ·rfl
  ·exact absurd (Nat.eq_of_beq_eq_true Z) e
theorem Ti:∀{F:FS} {t:Nat} {r:RV} {k:FS->Prop},zQ F t r k->∃F',k F'/\∀i,lk F' i=WE (lk F) t (some r) i
 |[],t,r,k,h=>⟨_,h,λi=>by simp[lk,WE,eq_comm]⟩
 |(u,x)::l,t,r,k,h=>by
  unfold zQ at h
  rcases fV u t with⟨e,Z⟩|⟨e,Z⟩
  ·rw[Z]at h
   subst e
   refine⟨_,h,λi=> ?_⟩
   simp only[lk,WE]
   by_cases hi:u=i
   ·simp[hi]
   ·simp[hi,Ne.symm hi]
  ·rw[Z]at h
   obtain⟨F',hk,hF⟩:=Ti (F:=l) h
   refine⟨_,hk,λi=> ?_⟩
   simp only[lk,hF i,WE]
   by_cases hi:u=i
   ·subst hi;simp[e]
   ·simp[hi]
theorem Ui:∀{H:HS} {t:Nat} {r:Option DA} {k:HS->Prop},zQ H t r k->∃H',k H'/\∀i,WA H' i=WE (WA H) t r i
 |[],t,r,k,h=>⟨_,h,λi=>by simp[WA,WE,eq_comm]⟩
 |(u,x)::l,t,r,k,h=>by
  unfold zQ at h
  rcases fV u t with⟨e,Z⟩|⟨e,Z⟩
  ·rw[Z]at h
   subst e
   refine⟨_,h,λi=> ?_⟩
   simp only[WA,WE]
   by_cases hi:u=i
   ·simp[hi]
   ·simp[hi,Ne.symm hi]
  ·rw[Z]at h
   obtain⟨H',hk,hH⟩:=Ui (H:=l) h
   refine⟨_,hk,λi=> ?_⟩
   simp only[WA,hH i,WE]
   by_cases hi:u=i
   ·subst hi;simp[e]
   ·simp[hi]
def cP (H:HS) (wh:List (Nat×Option DA)) (k:HS->Prop):Prop:=
 match wh with
 |[]=>k H
 |(b,x)::r=>zQ H b x λH'=>cP H' r k
theorem OY:∀{wh:List (Nat×Option DA)} {H:HS} {k:HS->Prop},cP H wh k->∃H',k H'/\∀i,WA H' i=ND (WA H) wh i
 |[],H,k,h=>⟨H,h,λi=>rfl⟩
 |(b,x)::r,H,k,h=>by
  obtain⟨H1,h,e1⟩:=Ui h
  obtain⟨H2,h,e2⟩:=OY (wh:=r) h
  refine⟨H2,h,λi=> ?_⟩
  rw[e2 i,show WA H1=WE (WA H) b x from funext e1]
  rfl
def PY (kp:Nat->Bool) (Fr Fo:FS) (k:FS->Prop):Prop:=
 match Fr with
 |[]=>k Fo
 |(t,r)::l=>PY kp l Fo λF'=>cond (kp t) (zQ F' t r k) (k F')
def QY (kp:Nat->Bool) (Fo:FS) (k:FS->Prop):Prop:=
 match Fo with
 |[]=>k []
 |(t,r)::l=>QY kp l λF'=>cond (kp t) (k ((t,r)::F')) (k F')
def dP (kp:Nat->Bool) (Fr Fo:FS) (k:FS->Prop):Prop:=QY kp Fo λF'=>PY kp Fr F' k
theorem Vi {kp:Nat->Bool}:∀{Fo:FS} {k:FS->Prop},QY kp Fo k->∃F',k F'/\∀t r,lk F' t=some r->kp t=true/\lk Fo t=some r
 |[],k,h=>⟨[],h,λt r e=>by simp[lk]at e⟩
 |(u,x)::l,k,h=>by
  unfold QY at h
  obtain⟨F',h,hF⟩:=Vi (Fo:=l) h
  cases hk:kp u with
  |true=>
   rw[hk]at h
   refine⟨_,h,λt r e=> ?_⟩
   simp only[lk]at e⊢
   by_cases hu:u=t
   ·subst hu;rw[if_pos rfl]at e⊢;exact⟨hk,e⟩
   ·rw[if_neg hu]at e⊢;exact hF t r e
  |false=>
   rw[hk]at h
   refine⟨_,h,λt r e=> ?_⟩
   obtain⟨D,h2⟩:=hF t r e
   simp only[lk]
   by_cases hu:u=t
   ·subst hu;rw[hk]at D;cases D
   ·rw[if_neg hu];exact⟨D,h2⟩
theorem Wi {kp:Nat->Bool}:∀{Fr Fo:FS} {k:FS->Prop},PY kp Fr Fo k->∃F',k F'/\∀t r,lk F' t=some r->(kp t=true/\lk Fr t=some r)\/((kp t=true->lk Fr t=none)/\lk Fo t=some r)
 |[],Fo,k,h=>⟨Fo,h,λt r e=> .inr ⟨λ_=>rfl,e⟩⟩
 |(u,x)::l,Fo,k,h=>by
  unfold PY at h
  obtain⟨F1,h,hF⟩:=Wi (Fr:=l) h
  cases hk:kp u with
  |true=>
   rw[hk]at h
   obtain⟨F2,h,h2⟩:=Ti h
   refine⟨F2,h,λt r e=> ?_⟩
   rw[h2 t]at e
   simp only[WE]at e
   simp only[lk]
   by_cases hu:u=t
   ·subst hu
    rw[if_pos rfl]at e
    cases e
    exact .inl ⟨hk,by rw[if_pos rfl]⟩
   ·rw[if_neg (Ne.symm hu)]at e;rw[if_neg hu];exact hF t r e
  |false=>
   rw[hk]at h
   refine⟨F1,h,λt r e=> ?_⟩
   simp only[lk]
   by_cases hu:u=t
   ·subst hu
    rcases hF u r e with⟨D,_⟩|⟨_,D⟩
    ·rw[hk]at D;cases D
    ·exact .inr ⟨λh2=>(by rw[hk]at h2;cases h2),D⟩
   ·rw[if_neg hu];exact hF t r e
theorem tw {kp:Nat->Bool} {Fr Fo:FS} {k:FS->Prop} (h:dP kp Fr Fo k):∃F',k F'/\∀t r,lk F' t=some r->lk Fr t=some r\/(lk Fr t=none/\lk Fo t=some r):=by
 obtain⟨F1,h,D⟩:=Vi h
 obtain⟨F2,h,h2⟩:=Wi h
 refine⟨F2,h,λt r e=> ?_⟩
 rcases h2 t r e with⟨_,h3⟩|⟨h3,h4⟩
 ·exact .inl h3
 ·obtain⟨h5,h6⟩:=D t r h4
  exact .inr ⟨h3 h5,h6⟩
def Sub (F':FS) (AC:YG):Prop:=∀t r,lk F' t=some r->AC t=some r
def NT (wh:List (Nat×Option DA)) (n1 Y:Nat) (k:Prop):Prop:=
 match wh with
 |[]=>cond (Nat.beq n1 Y) k False
 |_::_=>False
def oJ (C:Cx) (ops:List Oper):List Oper->FS->FS->HS->Nat->List Key->(FS->HS->Nat->List Key->Prop)->Prop
 |[],F,Fr,H,Y,ks,K=>K Fr H Y ks
 |o::r,F,Fr,H,Y,ks,K=>ob ops F o.guard λc0=>NY C o F H Y c0 λrr=>match rr with
  |⟨s,wh,n1,rh⟩=>match o.dst with
   |some d=>cond (Nat.blt d C.N) (match o.guard with
    |none=>cP H wh λH'=>oJ C ops r ((d, .u s)::F) ((d, .u s)::Fr) H' n1 (⟨o,rh,wh.map (·.1)⟩::ks) K
    |some _=>NT wh n1 Y (oJ C ops r ((d, .g c0 s)::F) ((d, .g c0 s)::Fr) H Y (⟨o,rh,[]⟩::ks) K)) False
   |none=>match o.guard with
    |none=>cP H wh λH'=>oJ C ops r F Fr H' n1 (⟨o,rh,wh.map (·.1)⟩::ks) K
    |some _=>NT wh n1 Y (oJ C ops r F Fr H Y (⟨o,rh,[]⟩::ks) K)
theorem pb {w0:World} {W:Nat->Prop} {N:Nat} {F:YG} {H H':lI} {G uA:wA} {a:Act} {w w':World} {dst:Option Nat} {d:Option RV} {y:Value} (hM:MS w0 W N F H G a w) (HI:uD G uA) (hH:MH w0 W H' uA w')
  (hd:∀t,dst=some t->t<N) (hy:∀r,d=some r->IH uA r y) (OT:d=none->dst=none):MS w0 W N (MJ F dst d) H' uA (a.put dst y) w':=by
 have GI:(a.put dst y).tmps.size=N:=by
  cases dst<;>simp[Act.put,hM.size]
 have uw:(a.put dst y).defers=[]:=by
  cases dst<;>simp[Act.put,hM.defers]
 refine⟨hH,GI,uw,λt r hr=> ?_⟩
 cases dst with
 |none=>
  have:MJ F none d=F:=by cases d<;>rfl
  rw[this]at hr
  obtain⟨D,h2⟩:=hM.gC t r hr
  exact⟨D,h2.ext HI⟩
 |some u=>
  have hu:=hd u rfl
  cases d with
  |none=>exact absurd (OT rfl) (by simp)
  |some q=>
   simp only[MJ]at hr
   by_cases e:t=u
   ·subst e
    rw[YM]at hr;cases hr
    refine⟨by rw[GI];exact hu,?_⟩
    have fA:t<a.tmps.size:=by rw[hM.size];exact hu
    have hg:(a.put (some t) y).tmps.getD t undef=y:=by simp[Act.put,Array.getD,fA]
    rw[hg]
    exact hy r rfl
   ·rw[sG _ _ _ _ e]at hr
    obtain⟨D,h2⟩:=hM.gC t r hr
    refine⟨by rw[GI,<-hM.size];exact D,?_⟩
    have:(a.put (some u) y).tmps.getD t undef=a.tmps.getD t undef:=by
     simp[Act.put,Array.getD,D,Array.getElem_setIfInBounds,Ne.symm e]
    rw[this]
    exact h2.ext HI
theorem Xi {ops:Array Oper} {o:Oper} {F':YG} {F:FS} (h:∀t∈o.looksAt ops,F' t=lk F t):∀x∈ZB o,VF F' F x:=by
 intro x hx t e
 subst e
 refine h t ?_
 simp only[Oper.looksAt,List.mem_append,List.mem_filterMap]
 exact .inl ⟨.tmp t,by simpa [ZB]using hx,rfl⟩
def qb (C:Cx) (ops l:List Oper) (F:FS) (H:HS) (Y:Nat) (ks:List Key) (K:FS->HS->Nat->List Key->Prop) (AC:YG):Prop:=
  ∃Es:List RD,∃OK H' CD,K OK H' CD ((Es.map RD.key).reverse++ks)/\Es.map (·.o)=l/\
   (∀i,Lex C.P C.w0 C.W C.N (List.toArray ops) ((List.range' i Es.length).zip Es) (lk F) (WA H)/\(∀t,(∀r,lk OK t=some r->BL ((List.range' i Es.length).zip Es) (lk F) t=some r)/\(lk OK t=none->BL ((List.range' i Es.length).zip Es) (lk F) t=AC t))/\
    dM ((List.range' i Es.length).zip Es) (WA H)=WA H')/\
   Es.Pairwise (λx y=>x.n1<=y.n0)/\(∀E∈Es,Y<=E.n0/\E.n0<=E.n1/\E.n1<=CD)/\Y<=CD
theorem RY {C:Cx} {ops:List Oper}:∀{l:List Oper} {F Fr:FS} {H:HS} {Y:Nat} {ks:List Key} {K:FS->HS->Nat->List Key->Prop} {AC:YG},oJ C ops l F Fr H Y ks K->
  (∀t r,lk Fr t=some r->lk F t=some r)->(∀t,lk Fr t=none->lk F t=AC t)->
  qb C ops l F H Y ks K AC
 |[],F,Fr,H,Y,ks,K,AC,h,AR,hG=>by
  refine⟨[],Fr,H,Y,h,rfl,λi=>⟨U,λt=>⟨AR t,hG t⟩,rfl⟩,by simp,λE hE=>by simp at hE,Nat.le_refl _⟩
 |o::r,F,Fr,H,Y,ks,K,AC,h,AR,hG=>by
  obtain⟨c0,h,vw,hc⟩:=sw h
  obtain⟨rr,h,hn,dB⟩:=Qi h
  replace h:(match o.dst with
   |some d=>cond (Nat.blt d C.N) (match o.guard with
    |none=>cP H rr.wh λH'=>oJ C ops r ((d, .u rr.s)::F) ((d, .u rr.s)::Fr) H' rr.Y (⟨o,rr.rh,rr.wh.map (·.1)⟩::ks) K
    |some _=>NT rr.wh rr.Y Y (oJ C ops r ((d, .g c0 rr.s)::F) ((d, .g c0 rr.s)::Fr) H Y (⟨o,rr.rh,[]⟩::ks) K)) False
   |none=>match o.guard with
    |none=>cP H rr.wh λH'=>oJ C ops r F Fr H' rr.Y (⟨o,rr.rh,rr.wh.map (·.1)⟩::ks) K
    |some _=>NT rr.wh rr.Y Y (oJ C ops r F Fr H Y (⟨o,rr.rh,[]⟩::ks) K)):=h
  have step:∀(d:Option RV) (wh:List (Nat×Option DA)) (n1:Nat),(o.guard=none->wh=rr.wh/\n1=rr.Y/\∀q,d=some q->q= .u rr.s)->(o.guard≠none->wh=[]/\rr.wh=[]/\n1=Y/\rr.Y=Y/\∀q,d=some q->q= .g c0 rr.s)->
    (∀t,o.dst=some t->t<C.N)->(d=none->o.dst=none)->ZP C.P C.w0 C.W C.N (List.toArray ops) (lk F) (WA H) ⟨o,d,rr.rh,wh,Y,n1⟩:=by
   intro d wh n1 D h2 h3 h4 F' H' G a w hF hH hu hM
   have hw:=hc F' G a hF hM.gC
   unfold Step
   rw[hw]
   cases c0 with
   |true=>
    rw[if_pos rfl]
    have CL:∀b,Y<=b->b<rr.Y->G b= .iD:=λb jD lH=>by
     by_cases hg:o.guard=none
     ·exact hu b jD (by rw[(D hg).2.1];exact lH)
     ·have:=(h2 hg).2.2.2.1;omega
    have hr:=dB rfl F' H' G a w (Xi hF) hH CL hM
    have:dD C.P o a w (LJ C.w0 C.W H' G Y rr):=hr
    unfold dD at this
    refine Oper.wp_mono ?_ this
    rintro a' w' ⟨y,rfl,uA,he,Z,EL,kH⟩
    refine⟨uA,λb qC=> ?_,?_⟩
    ·by_cases hg:o.guard=none
     ·exact Z b (λe=>qC ⟨e.1,by rw[(D hg).2.1];exact e.2⟩)
     ·exact Z b (λe=>by have:=(h2 hg).2.2.2.1;omega)
    ·have QO:ND H' wh=ND H' rr.wh:=by
      by_cases hg:o.guard=none
      ·rw[(D hg).1]
      ·rw[(h2 hg).1,(h2 hg).2.1]
     refine pb hM he (by show MH _ _ (ND H' wh) _ _;rw[QO];exact kH) h3 (λq hq=> ?_) h4
     by_cases hg:o.guard=none
     ·rw[(D hg).2.2 q hq];exact EL
     ·rw[(h2 hg).2.2.2.2 q hq];simp only[IH,if_true];exact EL
   |false=>
    rw[if_neg (by simp)]
    have hg:o.guard≠none:=λe=>by have:=vw e;cases this
    refine⟨G,λb _=>rfl,pb hM (uD.refl G) (by show MH _ _ (ND H' wh) _ _;rw[(h2 hg).1];exact hM.heap) h3 (λq hq=> ?_) h4⟩
    rw[(h2 hg).2.2.2.2 q hq]
    simp[IH]
  have fin:∀(d:Option RV) (wh:List (Nat×Option DA)) (n1:Nat) (F1 SY:FS) (H1:HS) (hle:Y<=n1),ZP C.P C.w0 C.W C.N (List.toArray ops) (lk F) (WA H) ⟨o,d,rr.rh,wh,Y,n1⟩->
    oJ C ops r F1 SY H1 n1 (⟨o,rr.rh,wh.map (·.1)⟩::ks) K->lk F1=MJ (lk F) o.dst d->WA H1=ND (WA H) wh->(∀t q,lk SY t=some q->lk F1 t=some q)->(∀t,lk SY t=none->lk F1 t=AC t)->qb C ops (o::r) F H Y ks K AC:=by
   intro d wh n1 F1 SY H1 hle hE PT tb VO TT vb
   obtain⟨Es,OK,H',CD,hK,ho,hL,hp,tG,xb⟩:=RY (l:=r) PT TT vb
   refine⟨⟨o,d,rr.rh,wh,Y,n1⟩::Es,OK,H',CD,?_,?_,λi=> ?_,?_,?_,O⟩
   ·simpa [RD.key,RD.vS]using hK
   ·simp[ho]
   ·obtain⟨l1,l2,l3⟩:=hL (i+1)
    simp only[List.length_cons,List.range'_succ,List.zip_cons_cons,Lex,BL,dM,RD.fF,RD.fH]
    rw[<-tb,<-VO]
    exact⟨⟨hE,l1⟩,l2,l3⟩
   ·rw[List.pairwise_cons]
    exact⟨λE hE=>(tG E hE).1,hp⟩
   ·intro E hE
    simp only[List.mem_cons]at hE
    rcases hE with rfl|hE
    ·exact⟨Nat.le_refl _,hle,xb⟩
    ·have:=tG E hE;omega
  have vG:∀(d:Nat) (q:RV) (t:Nat),lk ((d,q)::F) t=MJ (lk F) (some d) (some q) t:=λd q t=>by
   simp only[lk,MJ,WE,eq_comm]
  have Yi:∀(d:Nat) (q:RV) (t:Nat) (x:RV),lk ((d,q)::Fr) t=some x->lk ((d,q)::F) t=some x:=λd q t x hx=>by
   simp only[lk]at hx⊢
   by_cases e:d=t
   ·rw[if_pos e]at hx⊢;exact hx
   ·rw[if_neg e]at hx⊢;exact AR t x hx
  have Zi:∀(d:Nat) (q:RV) (t:Nat),lk ((d,q)::Fr) t=none->lk ((d,q)::F) t=AC t:=λd q t hx=>by
   simp only[lk]at hx⊢
   by_cases e:d=t
   ·rw[if_pos e]at hx;cases hx
   ·rw[if_neg e]at hx⊢;exact hG t hx
  have di:∀{VB:Prop},NT rr.wh rr.Y Y VB->rr.wh=[]/\rr.Y=Y/\VB:=λ{VB} hx=>by
   unfold NT at hx
   split at hx
   ·rename_i hw
    rcases fV rr.Y Y with⟨e,Z⟩|⟨e,Z⟩
    ·rw[Z]at hx;exact⟨hw,e,hx⟩
    ·rw[Z]at hx;exact hx.elim
   ·exact hx.elim
  split at h
  ·rename_i d hd
   cases hN:Nat.blt d C.N with
   |false=>rw[hN]at h;exact h.elim
   |true=>
    rw[hN]at h
    simp only[cond_true]at h
    have fA:d<C.N:=by simpa [Nat.blt_eq]using hN
    have vQ:∀t,o.dst=some t->t<C.N:=λt e=>by rw[hd]at e;cases e;exact fA
    split at h
    ·rename_i hg
     obtain⟨H1,h,VO⟩:=OY h
     exact fin (some (.u rr.s)) rr.wh rr.Y _ _ H1 hn (step _ _ _ (λ_=>⟨rfl,rfl,λq e=>by cases e;rfl⟩) (λe=>absurd hg e) vQ (λe=>by cases e)) h (by rw[hd];exact funext (vG d _)) (funext VO) (Yi d _) (Zi d _)
    ·rename_i gg hg
     obtain⟨e1,e2,h⟩:=di h
     exact fin (some (.g c0 rr.s)) [] Y _ _ H qA (step _ _ _ (λe=>by rw[hg]at e;cases e) (λ_=>⟨rfl,e1,rfl,e2,λq e=>by cases e;rfl⟩) vQ (λe=>by cases e)) h (by rw[hd];exact funext (vG d _)) rfl (Yi d _) (Zi d _)
  ·rename_i hd
   have vQ:∀t,o.dst=some t->t<C.N:=λt e=>by rw[hd]at e;cases e
   split at h
   ·rename_i hg
    obtain⟨H1,h,VO⟩:=OY h
    exact fin none rr.wh rr.Y _ _ H1 hn (step _ _ _ (λ_=>⟨rfl,rfl,λq e=>by cases e⟩) (λe=>absurd hg e) vQ (λ_=>hd)) h (by rw[hd];rfl) (funext VO) AR hG
   ·rename_i gg hg
    obtain⟨e1,e2,h⟩:=di h
    exact fin none [] Y _ _ H qA (step _ _ _ (λe=>by rw[hg]at e;cases e) (λ_=>⟨rfl,e1,rfl,e2,λq e=>by cases e⟩) vQ (λ_=>hd)) h (by rw[hd];rfl) rfl AR hG
end En
end Go.Proofs.YtkidgehblodbcaaGreatDoor
