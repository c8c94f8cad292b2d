/- Part 10 of the proof. -/
import Derived.KernelRfl
import Derived.Scope
import Derived.Test.YtmgkiicjpmihfaaGreatDoorQI
set_option linter.all false
set_option maxRecDepth 20000
set_option maxHeartbeats 400000000
namespace Go.Z
open Go Go.Proofs
variable {sum:Bool}{E:List UInt8}{kind ak size aL:Nat}{x:Nat×Fs×Nat}
def pO(E:List UInt8)(known:Bool)(size:Nat)(sum:Bool)(x:Nat×Fs×Nat):Nat×List UInt8×Nat:=
 if x.1≠1 then(x.1,[],0)
 else if known=true/\ ¬x.2.1.out.length=size then(2,[],0)
 else if sum=true then
   (if E.length<x.2.2+4\/ ¬num (aa E x.2.2 4) % 4294967296=lD x.2.1.out % 4294967296 then(2,[],0)else(1,x.2.1.out,x.2.2+4))
 else(1,x.2.1.out,x.2.2)
structure Fr where
 aL:Nat
 ak:Nat
 room:Nat
 E:List UInt8
 known:Bool
 size:Nat
 sum:Bool
def Fr.Z8(p:Fr)(f at_:Nat)(s:Fs):Nat×List UInt8×Nat:=pO p.E p.known p.size p.sum (jI p.aL p.ak p.room p.E f at_ s)
theorem ajx{room:Nat}(h:(jk E).1=1):rU E room=(Fr.mk (jk E).2.2.1 (if ¬byte E 4&&&32=0 then 131072 else min 131072 (jk E).2.2.1) room E (jk E).2.2.2.1 (jk E).2.1 (jk E).2.2.2.2.1).Z8 (E.length+1) (jk E).2.2.2.2.2 DY:=by
 unfold rU Fr.Z8 pO;dsimp only;rw[ag I]
theorem Hd{known:Bool}(h:x.1≠1):(pO E known size sum x).1=x.1:=by unfold pO;rw[ai h]
theorem Tk{known:Bool}(h:(pO E known size sum x).1=1):x.1=1/\(known=true->x.2.1.out.length=size):=by
 unfold pO at h;by_cases W:x.1≠1
 rw[ai W]at h;exact absurd h W
 rw[ag W]at h;refine⟨nj.1 W,λhk=>?_⟩;by_cases h2:known=true/\ ¬x.2.1.out.length=size
 rw[ai h2]at h;cases h
 exact nj.1 (λh3=>h2 ⟨hk,h3⟩)
section
variable {p:Fr}{f at_:Nat}{s:Fs}
theorem He{room:Nat}:jI aL ak room E (f+1) at_ s=
 if E.length<at_+3 then(2,s,0)
 else if(num (aa E at_ 3)/2 % 4=3\/131072<num (aa E at_ 3)/8)\/E.length<at_+3+(if num (aa E at_ 3)/2 % 4=1 then 1 else num (aa E at_ 3)/8)then(2,s,0)
 else if aL<num (aa E at_ 3)/8 then(0,s,0)
 else if(jx aL ak E s (num (aa E at_ 3)/2 % 4) (num (aa E at_ 3)/8) (at_+3)).1≠1 then((jx aL ak E s (num (aa E at_ 3)/2 % 4) (num (aa E at_ 3)/8) (at_+3)).1,s,0)
 else if room<(jx aL ak E s (num (aa E at_ 3)/2 % 4) (num (aa E at_ 3)/8) (at_+3)).2.out.length then(0,s,0)
 else if num (aa E at_ 3) % 2=1 then(1,(jx aL ak E s (num (aa E at_ 3)/2 % 4) (num (aa E at_ 3)/8) (at_+3)).2,at_+3+(if num (aa E at_ 3)/2 % 4=1 then 1 else num (aa E at_ 3)/8))
 else jI aL ak room E f (at_+3+(if num (aa E at_ 3)/2 % 4=1 then 1 else num (aa E at_ 3)/8)) (jx aL ak E s (num (aa E at_ 3)/2 % 4) (num (aa E at_ 3)/8) (at_+3)).2:=rfl
theorem ayO{gF:Nat}{s s':Fs}(h:jx aL ak E s kind size gF=(1,s'))(hc: ∀s',i' aL ak s (aa E gF size)=(1,s')->s.out.length<=s'.out.length):s.out.length<=s'.out.length:=by
 unfold jx at h;split at h
 cases h;simp
 split at h
 cases h;simp
 exact hc _ h
theorem aaP(h:p.E.length<at_+3):(p.Z8 (f+1) at_ s).1=2:=by
 unfold Fr.Z8;rw[He,ai h];rw[Hd (by show(2:Nat)≠1;decide)]
theorem ajy(h:(num (aa p.E at_ 3)/2 % 4=3\/131072<num (aa p.E at_ 3)/8)\/p.E.length<at_+3+(if num (aa p.E at_ 3)/2 % 4=1 then 1 else num (aa p.E at_ 3)/8)):(p.Z8 (f+1) at_ s).1=2:=by
 by_cases h0:p.E.length<at_+3
 exact aaP h0
 unfold Fr.Z8;rw[He,ag h0,ai h];rw[Hd (by show(2:Nat)≠1;decide)]
theorem ayP(h:p.aL<num (aa p.E at_ 3)/8):(p.Z8 (f+1) at_ s).1≠1:=by
 by_cases h0:p.E.length<at_+3
 rw[aaP h0];decide
 by_cases W:(num (aa p.E at_ 3)/2 % 4=3\/131072<num (aa p.E at_ 3)/8)\/p.E.length<at_+3+(if num (aa p.E at_ 3)/2 % 4=1 then 1 else num (aa p.E at_ 3)/8)
 rw[ajy W];decide
 unfold Fr.Z8;rw[He,ag h0,ag W,ai h,Hd (by show(0:Nat)≠1;decide)];show(0:Nat)≠1;decide
theorem aaQ{n n5:Nat}(hn:num (aa p.E at_ 3)=n)(hk:n/2 % 4=kind)(hs:n/8=size)(hh:(if kind=1 then 1 else size)=n5)(W: ¬p.E.length<at_+3)(h2: ¬((kind=3\/131072<size)\/p.E.length<at_+3+n5))(hV:(p.Z8 (f+1) at_ s).1≠0):size<=p.aL/\(jx p.aL p.ak p.E s kind size (at_+3)).1≠0/\((jx p.aL p.ak p.E s kind size (at_+3)).1≠1->(p.Z8 (f+1) at_ s).1≠1)/\ ∀s',jx p.aL p.ak p.E s kind size (at_+3)=(1,s')->s'.out.length<=p.room/\p.Z8 (f+1) at_ s=if n % 2=1 then pO p.E p.known p.size p.sum (1,s',at_+3+n5)else p.Z8 f (at_+3+n5) s':=by
 have e:p.Z8 (f+1) at_ s=pO p.E p.known p.size p.sum (if p.aL<size then(0,s,0)
   else if(jx p.aL p.ak p.E s kind size (at_+3)).1≠1 then((jx p.aL p.ak p.E s kind size (at_+3)).1,s,0)
   else if p.room<(jx p.aL p.ak p.E s kind size (at_+3)).2.out.length then(0,s,0)
   else if n % 2=1 then(1,(jx p.aL p.ak p.E s kind size (at_+3)).2,at_+3+n5)
   else jI p.aL p.ak p.room p.E f (at_+3+n5) (jx p.aL p.ak p.E s kind size (at_+3)).2):=by
   unfold Fr.Z8
   rw[He,hn,hk,hs,hh,ag W,ag h2]
 by_cases hw:p.aL<size
 rw[e,ai hw,Hd (by show(0:Nat)≠1;decide)]at hV;exact absurd J hV
 rw[ag hw]at e;refine⟨I,?_,?_,?_⟩
 intro h0;rw[e,ai I,Hd (by show(jx _ _ _ _ _ _ _).1≠1;omega)]at hV;exact hV h0
 intro h0;rw[e,ai h0,Hd h0];exact h0
 intro s' BM;rw[BM]at e;rw[ag (by show ¬(1:Nat)≠1;decide)]at e;by_cases hr:p.room<s'.out.length
 rw[ai hr]at e;rw[e,Hd (by show(0:Nat)≠1;decide)]at hV;exact absurd J hV
 rw[ag hr]at e;refine⟨I,?_⟩;rw[e];by_cases h2:n % 2=1
 rw[ai h2,ai h2]
 rw[ag h2,ag h2];rfl
end
variable {s s':Fs}{text:List UInt8}{m w:Nat}{ts:Nat->Tb}
theorem ayQ{N g:Nat}{s s':Sq}(h:fJ N ts w m g text s=(1,s')):s.out.length<=s'.out.length:=by
 unfold fJ at h;dsimp only at h;split at h
 cases h
 split at h
 cases h
 split at h
 cases h
 split at h
 cases h
 cases h;dsimp only;rw[DO,aF];omega
theorem ajz{N w m g:Nat}{ts:Nat->Tb}{text:List UInt8}: ∀{n:Nat} {s s':Sq},l8 N ts w m g text n s=(1,s')->s.out.length<=s'.out.length
 |0,s,s',h=>by cases h;exact aR _
 | n+1,s,s',h=>by
  rw[l8]at h;rcases hx:fJ N ts w m g text s with⟨v,s1⟩;rw[hx]at h;dsimp only at h;split at h
  rename_i hv;cases h;exact absurd J hv
  rename_i hv;have gr:v=1:=nj.1 hv;subst gr;have W:=ayQ hx;split at h
  cases h;exact W
  split at h
  cases h
  have h2:=ajz h;exact aI W h2
theorem ayR{out:List UInt8}{a b c:Nat}{many:Nat}(W:(k9 ts w m out a b c text many E).1=1):out.length<=(k9 ts w m out a b c text many E).2.1.length:=by
 revert W;unfold k9;split
 intro e;cases e
 split
 intro e;cases e
 dsimp only;split
 intro e;rename_i bY;exact absurd e bY
 rename_i bY;split
 intro e;cases e
 split
 intro e;cases e
 intro _;dsimp only;have:=ajz (Prod.ext (nj.1 bY) J:l8 _ _ _ _ _ _ _ _=(1,_));rw[aF];exact aI this (mS _ _)
theorem ayS(h:i' w m s E=(1,s')):s.out.length<=s'.out.length:=by
 unfold i' at h;dsimp only at h;split at h
 rename_i bY;exact absurd (b8 Prod.fst h) bY
 split at h
 cases h
 split at h
 cases h
 split at h
 split at h
 cases h
 cases h;dsimp only;rw[aF];omega
 unfold zL at h;split at h
 cases h
 split at h
 cases h
 dsimp only at h;split at h
 rename_i bY;exact absurd (b8 Prod.fst h) bY
 have e1:=b8 Prod.fst h;have e2:=b8 Prod.snd h;dsimp only at e1 e2;rw[<-e2];exact ayR e1
theorem ayT{gF:Nat}(h:jx w m E s kind size gF=(1,s')):s.out.length<=s'.out.length:=ayO h (λs1 W=>ayS W)
theorem ajA{w m room:Nat}{E:List UInt8}: ∀{f at_:Nat} {s s':Fs} {a':Nat},jI w m room E f at_ s=(1,s',a')->s.out.length<=s'.out.length
 |0,at_,s,s',a',h=>by cases h
 | f+1,at_,s,s',a',h=>by
  rw[He]at h;obtain⟨hv,jY⟩: ∃x,(if num (aa E at_ 3)/2 % 4=1 then 1 else num (aa E at_ 3)/8)=x:=⟨_,J⟩;rw[jY]at h;obtain⟨y,hy⟩: ∃y,jx w m E s (num (aa E at_ 3)/2 % 4) (num (aa E at_ 3)/8) (at_+3)=y:=⟨_,J⟩;rw[hy]at h;split at h
  cases h
  split at h
  cases h
  split at h
  cases h
  split at h
  rename_i bY;exact absurd (b8 Prod.fst h) bY
  rename_i bY;have W:=ayT (hy.trans (Prod.ext (nj.1 bY) J:y=(1,y.2)));split at h
  cases h
  split at h
  have e:=b8 (λz=>z.2.1) h;dsimp only at e;rw[<-e];exact W
  exact aI W (ajA h)
theorem ayU{p:Fr}{f at_:Nat}(hk:p.known=true)(h:p.size<s.out.length):(p.Z8 f at_ s).1≠1:=by
 intro e;have W:=Tk e;have h2:=ajA (Prod.ext W.1 J:jI p.aL p.ak p.room p.E f at_ s=(1,(jI p.aL p.ak p.room p.E f at_ s).2.1,(jI p.aL p.ak p.room p.E f at_ s).2.2));have h3:=W.2 hk;omega
variable {p:Fr}{s1:Fs}{F:List aD}{X wd:List UInt8}{S a b br c f i k n q:Nat}{sc:Nat->UInt8}{wo:Option Nat}{x y:cQ}{w:World}
structure aaR(x:cQ)(wo:Option Nat)(wd:List UInt8)(m_:List Value):Prop where
 a:x.wA=aB wo
 n:x.wN=wd.length
 ok:bG wo wd.length x.wC (List.map u8 wd) m_ 1
structure Tl(F:List aD)(x:cQ)(m:List Nat)(o0 o1 o2:Option Nat)(b0 b1 b2:List Bl)(wd:List UInt8)(p:Fr)(s:Fs):Prop where
 rel:JT F x m o0 o1 o2 b0 b1 b2 s
 wS:x.wS=p.aL/\p.aL<=8388608
 wl:wd.length<=p.aL/\x.wO<=wd.length/\(wd.length<p.aL->x.wO=0)
 pre: ∃p0,s.out=p0++eR wd x.wO/\(p0=[]\/p.aL<=wd.length)
 dF:x.dF=!p.known
 rem:p.known=true->x.rem+s.out.length=p.size
 rm:x.rem<=aG .u64
 sm:x.sum=p.sum
 xi:p.sum=true->XI x.xl x.xv x.xb x.xc s.out
 ol:s.out.length<=4194304
def YX(x:cQ)(sc:Nat->UInt8)(z:Int):cQ:={x with fR:=sc,ny:=z}
def ZB(x:cQ)(rem xl:Nat)(xv:Nat->Nat)(xb:Nat->UInt8)(xc:Nat):cQ:=XX {x with rem:=rem} xl xv xb xc
section
variable {x:cQ}{sc:Nat->UInt8}{z z':Int}{ob:Option Nat}{n c rem NG xl xc:Nat}{xv:Nat->Nat}{xb:Nat->UInt8}
theorem ayV(h:x.bA=aB ob):au x=au (BX (YX x x.fR x.ny) ob x.bN x.bC):=by unfold BX YX;rw[<-h]
theorem aaS:(au (BX (YX x sc z) ob n c)).set 6 (.int .i64 z')=au (BX (YX x sc z') ob n c):=rfl
theorem J6:(au (BX (YX x sc z) ob n c))[6]? =some (.int .i64 z):=rfl
theorem ajB(hq:q=28+k)(h:k+X.length<=16):cT (au (BX (YX x sc z) ob n c)) q (X.map u8)=au (BX (YX x (dW sc k X) z) ob n c):=by rw[Y0 hq h];rfl
theorem ayW:au x=au (ZB x x.rem x.xl x.xv x.xb x.xc):=rfl
theorem ayX:(au (ZB x rem xl xv xb xc)).set 5 (cy NG)=au (ZB x NG xl xv xb xc):=rfl
theorem Tm:(au (ZB x rem xl xv xb xc))[5]? =some (cy rem):=rfl
theorem ajC:au x=au (YX x x.fR x.ny):=rfl
theorem NH:(au (YX x sc z)).set 6 (.int .i64 z')=au (YX x sc z'):=rfl
theorem ajD(hq:q=28+k)(h:k+X.length<=16):cT (au (YX x sc z)) q (X.map u8)=au (YX x (dW sc k X) z):=by rw[Y0 hq h];rfl
theorem ayY{b:Bool}:(au (YX x sc z)).set 1 (.bool b)=au {YX x sc z with gG:=b}:=rfl
theorem ayZ{n c o:Nat}(W:y.wS=S)(h2:y.wA=aB wo)(h3:y.wN=n)(h4:y.wC=c)(h5:y.wO=o):au y=au (WX y S wo n c o):=by
 subst W;subst h3;subst h4;subst h5;unfold WX;rw[<-h2]
end
def yQ(x:cQ):=(x.sV,x.gG,x.sum,x.one,x.dF,x.rem,x.off,x.wS,x.wA,x.wN,x.wC,x.wO,x.xl,x.xv,x.xb,x.xc)
theorem ay0(h:core x=core y):yQ x=yQ y:=by
 unfold core at h;simp only[pS]at h;unfold yQ;simp only[pS];obtain⟨W,h2,h3,h4,h5,h6,h7,h8,h9,h10,h11,GP,h13,h14,h15,yf,h17,h18⟩:=h;exact⟨W,h2,h3,h4,h5,h6,h8,h9,h10,h11,GP,h13,h15,yf,h17,h18⟩
def yR(x:cQ):=(x.sV,x.one,x.off)
theorem ajE(h:yQ x=yQ y):yR x=yR y:=by
 unfold yQ at h;simp only[pS]at h;unfold yR;simp only[pS];exact⟨h.1,h.2.2.2.1,h.2.2.2.2.2.2.1⟩
theorem Ez(h:i<X.length):dW sc 0 X i=X.getD i 0:=by
 unfold dW;rw[ai I];rfl
theorem ay1{e:Nat}{v:Nat×List UInt8×Nat}(h:v=if n % 2=1 then pO p.E p.known p.size p.sum (1,s1,e)else p.Z8 f e s1)(hk:p.known=true)(hl:p.size<s1.out.length):v.1≠1:=by
 rw[h];split
 intro e1;have:=(Tk e1).2 hk;dsimp only at this;omega
 exact ayU hk hl
theorem ay2{l:List Value}{v:UInt8}(h:i<l.length):(cT l 0 (List.map u8 (List.replicate i v))).set i (u8 v)=cT l 0 (List.map u8 (List.replicate (i+1) v)):=by
 have W:=af1 (A:=List.map u8 (List.replicate i v)) (B:=[u8 v]) (l:=l) (q:=0) (i:=i) (by simp);rw[im]at W;rw[CE,f_];exact W
theorem ay3{P:Program}{ρ:Env}{op:Op}{ty:TypeId}{w':World}{z v:UInt8}(h:run P ρ op ty w= .ok (.value (u8 z)) w')(e:z=v):run P ρ op ty w= .ok (.value (u8 v)) w':=by rw[h,e]
theorem ay4{f:Nat->UInt8}(h:X.length<=16):((List.range 16).map (dW f 0 X)).take X.length=X:=by
 apply oF;intro j;rw[pT];split
 rename_i hj;rw[kK,AD I,uN,Ez hj,bS,gv hj];rfl
 rename_i hj;rw[gP I]
theorem ay5{z:Int}:Rd (au (YX x sc z)) 28 (((List.range 16).map sc).map u8):=by
 rw[HV];have h:au (YX x sc z)=(au (YX x sc z)).take 28++((List.range 16).map (u8∘sc)++(au (YX x sc z)).drop 44):=rfl;refine Rd.of λj hj=>?_;rw[h,nN (by show 28<=28+j;omega)];rw[ir (by show 28+j-28<_;omega)];congr 1;show 28+j-28=j;omega
theorem ajF{z:Int}(h:(af br (au (YX x (dW sc 0 X) z)) 81)∈F)(hn:n=X.length)(yf:X.length<=16):aP F (.slice (some ⟨br,28,none⟩) n 16) X:=by
 subst hn;have h0:aP F (.slice (some ⟨br,28,none⟩) 16 16) ((List.range 16).map (dW sc 0 X)):=⟨_,_,_,J,by simp,aR _,λ_=>⟨br,28,_,_,J,h,ay5⟩⟩;have W:=aP.take h0 yf;rw[ay4 yf]at W;exact W
theorem ajG{e:Nat}(hz:p.known=true->s1.out.length=p.size):pO p.E p.known p.size p.sum (1,s1,e)=if p.sum=true then(if p.E.length<e+4\/ ¬num (aa p.E e 4) % 4294967296=lD s1.out % 4294967296 then(2,[],0)else(1,s1.out,e+4))else(1,s1.out,e):=by
 unfold pO;dsimp only;rw[ag aj,ag (λh=>h.2 (hz h.1))]
theorem ay6{e:Nat}(hk:p.known=true)(hz:s1.out.length≠p.size):(pO p.E p.known p.size p.sum (1,s1,e)).1≠1:=by
 intro h;exact hz ((Tk h).2 hk)
theorem ay7(h:a+b=c)(h0:a≠0):b≠c:=I
theorem ay8(h:a+b=c)(h0:a=0):b=c:=I
theorem ay9{w:Nat}(h:E.length=0):(i' w m s E).1≠1:=by
 have W:(dT s.tree E).1=2:=(by unfold dT;rw[ai h]);rw[aaD I,W];decide
theorem ay_{o o':Nat}{B lj:List UInt8}(h:Sv S wd o B lj o')(hl:wd.length<=S)(ho:o<=wd.length)(h0:wd.length<S->o=0):lj.length<=S/\o'<=lj.length/\(lj.length<S->o'=0):=by
 by_cases hz:S=0
 obtain⟨e1,e2⟩:=h.1 hz;rw[e1,e2];exact⟨hl,ho,h0⟩
 obtain⟨_,e2,e3,e4⟩:=h.2 hz;exact⟨I,e3,e4⟩
section
variable {P:Program}{n:Nat}{K:gw}{ρ:Env}{w:World}{all:Array Oper}{rest:List Oper}{d:Option Nat}{op:Op}{ty:TypeId}{pos:String}{aN:Array Edge}
theorem fT{g t:Nat}{want:Bool}(hg:(all[g]?).bind (·.dst)=some t)(ht:Nat.blt t n=true)(hv:ρ t=undef)(hd:aV n d=true)(h:O P n all rest K (Env.put ρ d undef) w):O P n all ({dst:=d,op:=op,type:=ty,pos:=pos,after:=aN,guard:=some (g,want)}::rest) K ρ w:=by
 unfold O at*;intro a W h2 h3;have hy:yielded all a.tmps g=none:=(by have qM:t<a.tmps.size:=(by rw[W];simpa [ES] using ht);have Hf:lx a t=undef:=(by rw[h3];exact hv);have:a.tmps[t]? =some undef:=(by simp only[lx,se]at Hf;simp[qM]at Hf ⊢;exact Hf);simp[yielded,hg,this,undef]);have hw:Region.wanted ({dst:=d,op:=op,type:=ty,pos:=pos,after:=aN,guard:=some (g,want)}:Oper) (yielded all a.tmps)=false:=(by simp only[Region.wanted,hy];rfl);refine wpList_step λK' hK=>?_;rw[ag (by simp[hw])];exact hK _ _ (h (a.put d undef) (by rw[size_put,W]) (by rw[nQ,h2]) (by rw[nR a d undef (by rw[W];exact hd),h3]))
end
theorem ajH{p:Prop}(h:p:=by refine V 4 ?_;refine ee J J J J (aA (qk h (ar bF) (qp.sub aJ)) ?_);rintro e w1 ⟨be,rfl,h⟩;refine V 3 ?_;replace h:=h.zz [10,10,10,10,10,10,10,10,10,9,10] 0;exact⟨_,J,Or.inr ⟨Or.inl ⟨_,J⟩,(Decidable.byCases (λhh:131072<size=>Hg.o (Or.inl (Or.inr hh))) (λhh=>hVw.o I)),[_,_,_,_,_,_,_,_,_,_,_],h⟩⟩):p:=h
theorem aaT{p:Prop}(h:p:=by exact⟨_,J,Or.inr ⟨Or.inl ⟨_,J⟩,bY,[_,_,_,_,_,_,_,_,_,_,_],h⟩⟩):p:=h
theorem aaU{p:Prop}(h:p:=by exact⟨_,J,Or.inr ⟨Or.inl ⟨_,J⟩,bY,[_,_,_,_,_,_,_,_,_,_,_]++G,by rw[cF];exact h⟩⟩):p:=h
theorem ajI{p:Prop}(h:p:=by rintro e w1 ⟨be,rfl,h⟩;refine V 3 ?_;replace h:=h.zz [10,10,10,10,10,10,10,10,10,9,10] 0;exact aaT):p:=h
theorem ay'{r:dQ}{L:List aD}{sb pos base at_ ic:Nat}{pr:Int}{aE aU:Addr}{iA:Option Addr}{ob kO lO dZ hO o0 o1 o2:Option Nat}{bv kv lv m_:List Value}{cs:List de}{m:List Nat}{b0 b1 b2:List Bl}{D:List UInt8}(h:H r w ((af br (au x) 81)::(af sb [.slice iA D.length ic,R (pos),.int .i64 pr] 84)::(ob,C (bv) 5)::(dZ,C (cU cs) 227)::(hO,C (List.map dk m) 174)::(o0,C (aX b0) 214)::(o1,C (aX b1) 214)::(o2,C (aX b2) 214)::(kO,C (kv) 5)::(lO,C (lv) 5)::(wo,C (List.map u8 wd++m_) 5)::L))(g8:Sub F L)(hG:Gl F aE aU)(hD:aP F (.slice iA D.length ic) D)(pM:x.sV= .iface 58 (aW sb))(jP:D.length<=140737488355328)(GN:p.E=D.drop base)(DJ:base+at_=pos)(kP:pos<=D.length)(hI:En x ob kO lO dZ hO o0 o1 o2 bv kv lv cs m b0 b1 b2)(hW:aaR x wo wd m_)(hFr:Tl F x m o0 o1 o2 b0 b1 b2 wd p s)(oI:p.room<=4194304)(oQ:p.ak<=131072)(hV:(p.Z8 (f+1) at_ s).1≠0):Calls PP 77 #[aW br] w λe w'=> ∃er,e= .returned er/\((er= .nilIface/\ ∃x' pos' lb bH out sp nC jK r7 m' uf ug uh ui uj uk yN Eo yO Ep mf lj NI G,H r w' ((af br (au x') 81)::(af sb [.slice iA D.length ic,R (pos'),.int .i64 lb] 84)::(bH,C (List.map u8 out++sp) 5)::(nC,C (cU jK) 227)::(r7,C (List.map dk m') 174)::(uf,C (aX ug) 214)::(uh,C (aX ui) 214)::(uj,C (aX uk) 214)::(yN,C (Eo) 5)::(yO,C (Ep) 5)::(mf,C (List.map u8 lj++NI) 5)::(G++L))/\En x' bH yN yO nC r7 uf uh uj (List.map u8 out++sp) Eo Ep jK m' ug ui uk/\aaR x' mf lj NI/\x'.bN=out.length/\yR x'=yR x/\base+at_+3<=pos'/\pos'<=D.length/\((x'.gG=false/\p.Z8 (f+1) at_ s=(1,s.out++out,pos'-base))\/(x'.gG=x.gG/\ ∃s',s'.out=s.out++out/\Tl (G++F) x' m' uf uh uj ug ui uk lj p s'/\p.Z8 (f+1) at_ s=p.Z8 f (pos'-base) s')))\/(Er aU er/\(p.Z8 (f+1) at_ s).1≠1/\ ∃Z,H r w' (Z++L))):=by
 have qp:=hG.sub g8;have To:=hD.sub g8;obtain⟨Al,GZ,G6,Nv,JV⟩:=id hI;obtain⟨NJ,Tq,NK⟩:=id hW;obtain⟨s6,Tt,Ca,ajJ,ajK,aza,aaV,aaW,azb,azc⟩:=id hFr;have dK:p.E.length=D.length-base:=(by rw[GN,bV]);have BL: ∀a k,aa p.E a k=aa D (base+a) k:=λa k=>(by rw[GN];unfold aa;rw[j7]);rw[ayV Al.1]at h;have fq:(au (BX (YX x x.fR x.ny) ob x.bN x.bC))[0]? =some (.iface 58 (aW sb)):=(by rw[<-pM];rfl);refine gD Tryz.func77 Tryz.ntmps77 [2] ?_;refine V 10 ?_;refine bL h [0,4,8,16,20,24,28,13,35,36,40,44,48,52] ?_;intro w h;refine av 6 ?_;refine aw J (uY (c:=3) (W:=ao.lit _) J J aj) ?_;refine aK J h J fq ?_;replace h:=h.zz [1] 0;refine kL J J J J (aA (BE (q:=28) (n:=3) h (To.sub aJ) kP jP (qp.sub aJ) (λ_=>rfl) (by rw[yA];decide) aj) ?_);rintro e w1 ⟨vL,rfl,h⟩;rw[ajB (k:=0) J (by rw[gk];omega)]at h;refine av 6 ?_;refine V 3 ?_;refine ah (BY (aE:=aE) (aU:=aU) J J) (aC (an J ?_ ?_))<;>intro Ge
 have bY:(p.Z8 (f+1) at_ s).1≠1:=(by rw[aaP I];decide);refine V 5 ?_;refine ee J J J J (aA (Em h (ar bF) (qp.sub aJ) (El Ge)) ?_);exact ajI
 have h3:pos+3<=D.length:=I;have GO:pos+min (D.length-pos) 3=pos+3:=I;have jX:(D.drop pos).take 3=aa D pos 3:=rfl;rw[GO,jX]at h;have PU:(aa D pos 3).length=3:=dx h3;refine cg ((D.getD pos 0).toNat) λc0 lY=>(cg ((D.getD (pos+1) 0).toNat) λc1 mX=>(cg ((D.getD (pos+2) 0).toNat) λc2 pj=>?_));have aIK:c0<=255:=(by rw[<-lY];exact toNat_le _);have ajL:c1<=255:=(by rw[<-mX];exact toNat_le _);have D3:c2<=255:=(by rw[<-pj];exact toNat_le _);have hu0:((dW x.fR 0 (aa D pos 3)) 0).toNat=c0:=(by rw[Ez I,kN aj];exact lY);have zQ:((dW x.fR 0 (aa D pos 3)) 1).toNat=c1:=(by rw[Ez I,kN aj];exact mX);have j_:((dW x.fR 0 (aa D pos 3)) 2).toNat=c2:=(by rw[Ez I,kN aj];exact pj);refine cg (num (aa p.E at_ 3)) λn hn=>?_;have qb:c0+c1*2^8+c2*2^16=n:=(by rw[<-hn,BL,DJ,RM h3,lY,mX,pj]);refine cg (n/2 % 4) λkind NL=>(cg (n/8) λsize Ar=>(cg (if kind=1 then 1 else size) λn5 Hh=>?_));have Hg:((kind=3\/131072<size)\/p.E.length<at_+3+n5)->(p.Z8 (f+1) at_ s).1≠1:=λe=>(by rw[ajy (by rw[hn,NL,Ar,Hh];exact e)];decide);have hVw:p.aL<size->(p.Z8 (f+1) at_ s).1≠1:=λe=>ayP (by rw[hn,Ar];exact e);replace Hg:=Hid.mk Hg;replace hVw:=Hid.mk hVw;have aIL:size<=2097151:=I;have ajM:(au (BX (YX x (dW x.fR 0 (aa D pos 3)) x.ny) ob x.bN x.bC))[14]? =some (R p.aL):=(by rw[<-Tt.1];rfl);refine V 8 ?_;refine bL h [0,4,8,12,24,28,32,36,56,60,64,68,17,20,41,44,48,52,73,76,80,84,88] ?_;intro w h;refine av 12 ?_;refine xN J (λw hk=>vI (run_load (h.keeps hk) J (show(au (BX (YX x (dW x.fR 0 (aa D pos 3)) x.ny) ob x.bN x.bC))[28+0]? =some (u8 ((dW x.fR 0 (aa D pos 3)) 0))from J)) hu0) J ?_;refine av 1 ?_;refine xN J (λw hk=>vI (run_load (h.keeps hk) J (show(au (BX (YX x (dW x.fR 0 (aa D pos 3)) x.ny) ob x.bN x.bC))[28+1]? =some (u8 ((dW x.fR 0 (aa D pos 3)) 1))from J)) zQ) J ?_;refine av 1 ?_;refine aw J (dN (b:=8) (h2:=ao.lit _) J J aj az) ?_;refine aw J (bZ (eI J J az az) (oJ I)) (xN J (λw hk=>vI (run_load (h.keeps hk) J (show(au (BX (YX x (dW x.fR 0 (aa D pos 3)) x.ny) ob x.bN x.bC))[28+2]? =some (u8 ((dW x.fR 0 (aa D pos 3)) 2))from J)) j_) J ?_);refine av 1 ?_;refine aw J (dN (b:=16) (h2:=ao.lit _) J J aj az) ?_;refine aw J (bZ (eI J J az az) ((oJ I).trans qb)) (eY J (cm ?_));refine V 3 ?_;refine ah (jO (n:=1) J J az aj) ?_;refine V 7 ?_;refine ah (bZ (vv J J az) (show n/2^1 % 4=kind from NL)) ?_;refine V 5 ?_;refine ah (bZ (pX (b:=3) (h2:=ao.lit _) J J az) (show n/2^3=size from Ar)) ?_;refine V 3 ?_;refine cD [(2,2),(72,93)] (λρ w=>Kn ρ []/\H r w ((af br (au (BX (YX x (dW x.fR 0 (aa D pos 3)) x.ny) ob x.bN x.bC)) 81)::(af sb [.slice iA D.length ic,R (pos+3),.int .i64 vL] 84)::(ob,C (bv) 5)::(dZ,C (cU cs) 227)::(hO,C (List.map dk m) 174)::(o0,C (aX b0) 214)::(o1,C (aX b1) 214)::(o2,C (aX b2) 214)::(kO,C (kv) 5)::(lO,C (lv) 5)::(wo,C (List.map u8 wd++m_) 5)::L)/\(size<=131072)/\(p.aL=0\/size<=p.aL)) ?_ ?_
 refine V 5 ?_;refine d' (t:=74) J (λFV=>?_) (λFV=>?_)
 refine V 7 ?_;refine fT J J J J (fT J J J J (fT J J J J (fT J J J J (fT J J J J (fT J J J J (fT J J J J ?_))))));refine V 3 ?_;refine iI J ?_;exact ajH
 refine V 4 ?_;refine dn J J J (run_load h J ajM) J ?_;refine V 2 ?_;refine d' (t:=81) J (λazd=>?_) (λazd=>?_)
 refine V 5 ?_;refine dn J J J (run_load h J ajM) J ?_;refine V 1 ?_;refine dn J J J (sw J) J ?_;refine V 2 ?_;refine an J ?_ ?_<;>intro aze
 exact ajH
 refine aQ ?_;replace h:=h.zz [10,10,10,10,10,10,10,10,10,9,10] 0;exact⟨aM,aq,h,I,I⟩
 refine V 7 ?_;refine dn J J J (uW J) J ?_;refine V 2 ?_;refine fV J (aQ ?_);replace h:=h.zz [10,10,10,10,10,10,10,10,10,9,10] 0;exact⟨aM,aq,h,I,I⟩
 rintro ρ w ⟨⟨mD,rfl⟩,h,XF,J7⟩;refine V 5 ?_;refine jB [(2,3),(10,16),(95,211)] (λρ w=> ∃x2:cQ,∃mK:Nat,∃pC:Int,∃bI:Option Nat,∃out:List UInt8,∃bJ:List Value,∃jq:Option Nat,∃gB:List de,∃pJ:Option Nat,∃m1:List Nat,∃p0:Option Nat,∃d0:List Bl,∃p1:Option Nat,∃d1:List Bl,∃p2:Option Nat,∃d2:List Bl,∃kH:Option Nat,∃nE:List Value,∃pN:Option Nat,∃Cb:List Value,∃G:List aD,∃s1:Fs,∃zz:Int,Kn ρ [(3,.int .i64 zz)]/\H r w ((af br (au x2) 81)::(af sb [.slice iA D.length ic,R (mK),.int .i64 pC] 84)::(bI,C (List.map u8 out++bJ) 5)::(jq,C (cU gB) 227)::(pJ,C (List.map dk m1) 174)::(p0,C (aX d0) 214)::(p1,C (aX d1) 214)::(p2,C (aX d2) 214)::(kH,C (nE) 5)::(pN,C (Cb) 5)::(wo,C (List.map u8 wd++m_) 5)::(G++L))/\(En x2 bI kH pN jq pJ p0 p1 p2 (List.map u8 out++bJ) nE Cb gB m1 d0 d1 d2)/\(x2.bN=out.length)/\(yQ x2=yQ x)/\(JT (G++F) x2 m1 p0 p1 p2 d0 d1 d2 s1)/\(s1.out=s.out++out)/\(mK=pos+3+n5)/\(mK<=D.length)/\(s1.out.length<=p.room/\p.Z8 (f+1) at_ s=if n % 2=1 then pO p.E p.known p.size p.sum (1,s1,at_+3+n5)else p.Z8 f (at_+3+n5) s1)/\(p.aL=0->out=[])) ?_ ?_
 refine V 5 ?_;refine an J ?_ ?_<;>intro aIM
 have ly:kind=0:=I;have jY:size=n5:=(by rw[<-Hh,ag I]);refine V 4 ?_;replace h:=h.zz [2,1] 0;refine b_ J J J (aA (ajw h Al.2.1 Al.2.2 I) ?_);rintro e w1 ⟨rfl,cr,yI,As,h,fh,zx,NM⟩;refine V 3 ?_;refine bL h [0,4,8,16,20,24,13,29,35,36,40,44,48,52] ?_;intro w h;refine av 6 ?_;refine aK J h J (show(au (BX (YX x (dW x.fR 0 (aa D pos 3)) x.ny) cr size yI))[0]? =_ from fq) (aK J h J re ?_);replace h:=h.zz [1,2] 0;refine kL J J J J (aA (ajd h (To.sub aJ) h3 jP (qp.sub aJ) I zx NM) ?_);rintro e w1 ⟨pr3,rfl,h⟩;refine av 6 ?_;refine V 3 ?_;refine ah (BY (aE:=aE) (aU:=aU) J J) (aC (an J ?_ ?_))<;>intro ai5
 have bY:(p.Z8 (f+1) at_ s).1≠1:=Hg.o (Or.inr I);refine V 5 ?_;refine ee J J J J (aA (Em h (ar (ar bF)) (qp.sub aJ) (El ai5)) ?_);rintro e w1 ⟨be,rfl,h⟩;refine V 3 ?_;replace h:=h.zz [10,10,10,10,10,10,10,10,9,9,10] 0;exact aaT
 have jD:pos+3+size<=D.length:=I;have Hc:pos+3+min (D.length- (pos+3)) size=pos+3+size:=I;have Bk:(aa D (pos+3) size).length=size:=dx jD;have aaX:(D.drop (pos+3)).take size=(aa D (pos+3) size):=rfl;have wD:cT As 0 (List.map u8 (aa D (pos+3) size))=List.map u8 (aa D (pos+3) size)++As.drop size:=(by rw[AQ _ _ _ (by rw[bX];omega),pV,List.nil_append,bX,im,Bk]);rw[Hc,aaX,wD]at h;have jG:(List.map u8 (aa D (pos+3) size)++As.drop size).length=yI:=(by rw[aF,bX,bV];omega);have uA:=aaQ (p:=p) (f:=f) (at_:=at_) (s:=s) hn NL Ar Hh I I hV;have eL:jx p.aL p.ak p.E s kind size (at_+3)=(1,{s with out:=s.out++(aa D (pos+3) size)}):=(by unfold jx;rw[ai ly,BL,<-gQ,DJ]);have pG:=uA.2.2.2 _ eL;have nr:p.aL=0->(aa D (pos+3) size)=[]:=λe=>kq.1 (by have:=uA.1;omega);clear uA;refine V 12 ?_;refine aO h J J6 (cM (ah (wR J J) ?_));refine V 2 ?_;refine cV (.int .i64 _) J6 ?_;intro w h;rw[aaS]at h;refine aC ?_;replace h:=h.zz [10,10,10,10,10,10,10,10,9,9,10] 0;exact⟨aH 34,_,pos+3+size,_,cr,(aa D (pos+3) size),As.drop size,dZ,cs,hO,m,o0,b0,o1,b1,o2,b2,kO,kv,lO,lv,[],({s with out:=s.out++(aa D (pos+3) size)}),_,aq,h,{b:=⟨J,jG,NM⟩,k:=GZ,l:=G6,u:=Nv,s:=JV},Bk.symm,J,{tr:=s6.tr,tb:=s6.tb,ok:=s6.ok,a:=s6.a,bd:=s6.bd},J,(by rw[jY]),jD,pG,nr⟩
 refine V 5 ?_;refine an J ?_ ?_<;>intro qe
 have eF:kind=1:=I;have jY:1=n5:=(by rw[<-Hh,ai eF]);refine V 4 ?_;replace h:=h.zz [2,1] 0;refine b_ J J J (aA (ajw h Al.2.1 Al.2.2 I) ?_);rintro e w1 ⟨rfl,cr,yI,As,h,fh,zx,NM⟩;refine V 3 ?_;refine bL h [0,4,8,16,20,24,28,13,35,36,40,44,48,52] ?_;intro w h;refine av 6 ?_;refine aw J (uY (c:=1) (W:=ao.lit _) J J aj) ?_;refine aK J h J (show(au (BX (YX x (dW x.fR 0 (aa D pos 3)) x.ny) cr size yI))[0]? =_ from fq) ?_;replace h:=h.zz [2] 0;refine kL J J J J (aA (BE (q:=28) (n:=1) h (To.sub aJ) h3 jP (qp.sub aJ) (λ_=>rfl) (by rw[yA];decide) aj) ?_);rintro e w1 ⟨vL,rfl,h⟩;rw[ajB (k:=0) J (by rw[gk];omega)]at h;refine av 6 ?_;refine V 3 ?_;refine ah (BY (aE:=aE) (aU:=aU) J J) (aC (an J ?_ ?_))<;>intro ahW
 have bY:(p.Z8 (f+1) at_ s).1≠1:=Hg.o (Or.inr I);refine V 5 ?_;refine ee J J J J (aA (Em h (ar bF) (qp.sub aJ) (El ahW)) ?_);exact ajI
 have jD:pos+3+1<=D.length:=I;have Hc:pos+3+min (D.length- (pos+3)) 1=pos+3+1:=I;have aaX:(D.drop (pos+3)).take 1=aa D (pos+3) 1:=rfl;rw[Hc,aaX]at h;have aIN:(aa D (pos+3) 1).length=1:=dx jD;refine cg (D.getD (pos+3) 0) λrv hrv=>?_;have hsc:(dW (dW x.fR 0 (aa D pos 3)) 0 (aa D (pos+3) 1)) 0=rv:=(by rw[Ez I,kN aj];exact hrv);refine V 13 ?_;refine ah (ay3 (run_load h J (show(au (BX (YX x (dW (dW x.fR 0 (aa D pos 3)) 0 (aa D (pos+3) 1)) x.ny) cr size yI))[28+0]? =some (u8 ((dW (dW x.fR 0 (aa D pos 3)) 0 (aa D (pos+3) 1)) 0))from J)) hsc) ?_;refine V 8 ?_;refine aO h J re ?_;refine V 4 ?_;refine bQ (σ:=Nat) [(15,15),(164,174)] (λi ρ w=>Kn ρ [(164,R i)]/\H r w ((af br (au (BX (YX x (dW (dW x.fR 0 (aa D pos 3)) 0 (aa D (pos+3) 1)) x.ny) cr size yI)) 81)::(af sb [.slice iA D.length ic,R (pos+3+1),.int .i64 vL] 84)::(cr,C (cT As 0 (List.map u8 (List.replicate i rv))) 5)::(dZ,C (cU cs) 227)::(hO,C (List.map dk m) 174)::(o0,C (aX b0) 214)::(o1,C (aX b1) 214)::(o2,C (aX b2) 214)::(kO,C (kv) 5)::(lO,C (lv) 5)::(wo,C (List.map u8 wd++m_) 5)::L)/\(i<=size)) (λi=>size-i) (0) ⟨aq,h.mv 1,(bP _)⟩ ?_;rintro i ρ w ⟨⟨qY,rfl⟩,h,hi⟩;refine V 5 ?_;refine an J ?_ ?_<;>intro aap
 refine(SO (n:=1) NM I I).elim λbB hbB=>?_;rw[hbB]at h;have aIO:aB cr=some ⟨bB,0,none⟩:=(by rw[hbB];rfl);refine V 12 ?_;refine aO h J re ?_;refine V 3 ?_;refine gC (v:=u8 rv) h J (gv (by rw[Lm];omega)) J J J ?_;intro w h;dsimp only[List.set]at h;rw[ay2 I,<-hbB]at h;refine V 5 ?_;exact⟨aH 13,i+1,cw,aq,h,I⟩
 have p_:i=size:=I;have wD:cT As 0 (List.map u8 (List.replicate size rv))=List.map u8 (List.replicate size rv)++As.drop size:=(by rw[AQ _ _ _ (by rw[bX,dR];omega),pV,List.nil_append,bX,dR,im]);rw[p_,wD]at h;have jG:(List.map u8 (List.replicate size rv)++As.drop size).length=yI:=(by rw[aF,bX,dR,bV];omega);have uA:=aaQ (p:=p) (f:=f) (at_:=at_) (s:=s) hn NL Ar Hh I I hV;have hgE:p.E.getD (at_+3) 0=rv:=(by rw[GN,<-hrv,<-DJ];simp only[bS,oE,gQ]);have eL:jx p.aL p.ak p.E s kind size (at_+3)=(1,{s with out:=s.out++(List.replicate size rv)}):=(by unfold jx;rw[ag I,ai eF,hgE]);have pG:=uA.2.2.2 _ eL;have nr:p.aL=0->(List.replicate size rv)=[]:=λe=>kq.1 (by have:=uA.1;rw[dR];omega);clear uA;refine V 5 ?_;refine aO h J J6 (cM (ah (wR J J) ?_));refine V 2 ?_;refine cV (.int .i64 _) J6 ?_;intro w h;rw[aaS]at h;exact aC ⟨aH 49,_,pos+3+1,_,cr,(List.replicate size rv),As.drop size,dZ,cs,hO,m,o0,b0,o1,b1,o2,b2,kO,kv,lO,lv,[],({s with out:=s.out++(List.replicate size rv)}),_,aq,h,{b:=⟨J,jG,NM⟩,k:=GZ,l:=G6,u:=Nv,s:=JV},(dR ..).symm,J,{tr:=s6.tr,tb:=s6.tb,ok:=s6.ok,a:=s6.a,bd:=s6.bd},J,(by rw[jY]),jD,pG,nr⟩
 refine V 5 ?_;refine an J ?_ ?_<;>intro awu
 have cK:kind=2:=I;have jY:size=n5:=(by rw[<-Hh,ag I]);have uA:=λ(hf:pos+3+size<=D.length)=>aaQ (p:=p) (f:=f) (at_:=at_) (s:=s) hn NL Ar Hh I I hV;replace uA:=Hid.mk uA;have Bf: ∀(gF:Nat),gF=at_+3->jx p.aL p.ak p.E s kind size gF=i' p.aL p.ak s (aa D (pos+3) size):=λgF e1=>(by unfold jx;rw[ag I,ag I,BL,e1,<-gQ,DJ]);refine V 5 ?_;refine aO h J J6 (cM (ah (wR J J) ?_));refine V 2 ?_;refine cV (.int .i64 _) J6 ?_;intro w h;rw[aaS]at h;refine V 6 ?_;replace h:=h.zz [9,9,9,9,9,9,9,9,9,9] 0;refine b_ J J J ((ax3 (F:=F) (L:=(wo,C (List.map u8 wd++m_) 5)::L) (n:=size) (aL:=p.aL) (ak:=p.ak) (s:=s) (wd:=wd) (x:=(BX (YX x (dW x.fR 0 (aa D pos 3)) (IntKind.i64.wrap (x.ny+((3:Nat):Int)))) ob x.bN x.bC)) (bv:=bv) h (λe he=>ar (g8 e he)) hG hD pM h3 jP XF ?_ Ca.2.1 I ajJ azc oQ ?_ ?_ ?_).mono ?_)
 have h0:=aP.own (F:=[]) (T:=5) NK;show aP _ (.slice x.wA x.wN x.wC) wd;rw[NJ,Tq];exact h0.sub (λe he=>by rcases je.1 he with rfl;exact e_ ..)
 exact{b:=⟨J,Al.2⟩,k:=GZ,l:=G6,u:=Nv,s:=JV}
 exact{tr:=s6.tr,tb:=s6.tb,ok:=s6.ok,a:=s6.a,bd:=s6.bd}
 intro hf;have h0:=(uA.o hf).2.1;rw[Bf _ J]at h0;exact h0
 clear h;rintro e w1 ⟨z_,rfl,rf,Ed⟩;replace rf:=Hid.mk rf;replace Ed:=Hid.mk Ed;refine⟨_,J,?_⟩;refine V 5 ?_;refine ah (SE (aU:=aU) z_ (pos+3+size<=D.length/\(i' p.aL p.ak s (aa D (pos+3) size)).1=1) J (λe=>(rf.o e).1) (λe=>(Ed.o e).1) J) (aC (an J ?_ ?_))<;>intro aaY
 have bY:(p.Z8 (f+1) at_ s).1≠1:=by
  by_cases hf:pos+3+size<=D.length
  have h0:=(uA.o hf).2.2.1;rw[Bf _ J]at h0;exact h0 (λe=>aaY ⟨hf,e⟩)
  exact Hg.o (Or.inr I)
 have eT:=Ed.o aaY;refine V 6 ?_;exact⟨z_,J,Or.inr ⟨eT.1,bY,by obtain⟨Z,hZ⟩:=eT.2;exact⟨Z++[_],by rw[cF];exact hZ⟩⟩⟩
 have jN:=nj.1 aaY;have pH:=rf.o jN;have uw:=pH.2;refine aY (uw) (λx1 eN=>aY (eN) (λpr5 eK=>aY (eK) (λm9 fL=>aY (fL) (λbv5 gE=>aY (gE) (λof5 qf=>aY (qf) (λcs5 zR=>aY (zR) (λhO5 I4=>aY (I4) (λm5 wP=>aY (wP) (λp0 rZ=>aY (rZ) (λd0 hx9=>aY (hx9) (λp1 azf=>aY (azf) (λd1 azg=>aY (azg) (λp2 azh=>aY (azh) (λd2 azi=>aY (azi) (λkO5 azj=>aY (azj) (λkv5 azk=>aY (azk) (λlO5 azl=>aY (azl) (λlv5 azm=>aY (azm) (λG xd=>?_)))))))))))))))))));clear uw;have h:=xd.1;have Ek:=xd.2.1;have azn:=xd.2.2.1;have rh:=xd.2.2.2;refine AW (rh) λs5 xf pL azo=>?_;clear rh xd;obtain⟨azp,azq,azr,azs,NN⟩:=azo;rw[azr]at h Ek;replace h:=H.aje (A:=[(af br (au x1) 81),(af sb [.slice iA D.length ic,R (pos+3+size),.int .i64 pr5] 84),(m9,C (List.map u8 xf++pL) 5),(of5,C (cU cs5) 227),(hO5,C (List.map dk m5) 174),(p0,C (aX d0) 214),(p1,C (aX d1) 214),(p2,C (aX d2) 214),(kO5,C (kv5) 5),(lO5,C (lv5) 5)]) (B:=[(wo,C (List.map u8 wd++m_) 5)]) h;dsimp only[List.cons_append,List.nil_append]at h;have Tu:pos+3+size<=D.length:=jN.1;have Nm:=(uA.o Tu).2.2.2 s5 (by rw[Bf _ J];exact azp);have nr:p.aL=0->xf=[]:=λe=>absurd jN.2 (ay9 (by rw[dx Tu];have:=(uA.o Tu).1;omega));refine V 7 ?_;refine ah (wR J J) ?_;refine V 2 ?_;refine b7 ?_;intro w h;rw[agA]at h;exact aC ⟨aH 30,_,pos+3+size,pr5,m9,xf,pL,of5,cs5,hO5,m5,p0,d0,p1,d1,p2,d2,kO5,kv5,lO5,lv5,G,s5,_,aq,h,{b:=Ek.b,k:=Ek.k,l:=Ek.l,u:=Ek.u,s:=Ek.s},azs,show yQ x1=yQ x from(ay0 azn).trans J,{tr:=NN.tr,tb:=NN.tb,ok:=NN.ok,a:=NN.a,bd:=NN.bd},azq,(by rw[jY]),Tu,Nm,nr⟩
 refine V 5 ?_;refine an J ?_ ?_<;>intro aIP
 have bY:(p.Z8 (f+1) at_ s).1≠1:=Hg.o (Or.inl (Or.inl I));refine V 4 ?_;refine ee J J J J (aA (qk h bF (qp.sub aJ)) ?_);rintro e w1 ⟨be,rfl,h⟩;refine V 3 ?_;exact aaT
 exfalso;omega
 rintro ρ w ⟨x2,mK,pC,bI,out,bJ,jq,gB,pJ,m1,p0,d0,p1,d1,p2,d2,kH,nE,pN,Cb,G,s1,zz,⟨SD,rfl⟩,h,jJ,iW,Bn,zA,Aa,p8,aaZ,dd,nr⟩;have hcq:=Bn;unfold yQ at hcq;simp only[pS]at hcq;obtain⟨e1,e2,e3,e4,e5,e6,e7,e8,e9,e10,e11,e12,e13,e14,e15,e16⟩:=hcq;have J8:Gl (G++L) aE aU:=qp.sub aJ;have azt:aP (G++L) (.slice iA D.length ic) D:=To.sub aJ;have yc:(au x2)[4]? =some (.bool (!p.known)):=(by rw[<-ajK,<-e5];rfl);have Tw: ∀a b c d e,(au (ZB x2 a b c d e))[7]? =some (.slice (aB bI) out.length x2.bC):=λa b c d e=>(by show some (Value.slice x2.bA x2.bN x2.bC)=_;rw[jJ.b.1,iW]);have A0:s1.out.length=s.out.length+out.length:=(by rw[Aa,aF]);have azu:bG bI out.length x2.bC (List.map u8 out) bJ 1:=⟨by rw[bX,eC],by rw[jJ.b.2.1,eC],(by have h0:=jJ.b.2.1;rw[aF,bX]at h0;omega),jJ.b.2.2⟩;have mE:aP [(bI,C (List.map u8 out++bJ) 5)] (.slice (aB bI) out.length x2.bC) out:=aP.own azu;have zC:out.length<=4194304:=I;rw[ayW]at h;refine cD [(2,2),(212,243)] (λρ w=> ∃nF:Nat,Kn ρ []/\H r w ((af br (au (ZB x2 nF x2.xl x2.xv x2.xb x2.xc)) 81)::(af sb [.slice iA D.length ic,R (mK),.int .i64 pC] 84)::(bI,C (List.map u8 out++bJ) 5)::(jq,C (cU gB) 227)::(pJ,C (List.map dk m1) 174)::(p0,C (aX d0) 214)::(p1,C (aX d1) 214)::(p2,C (aX d2) 214)::(kH,C (nE) 5)::(pN,C (Cb) 5)::(wo,C (List.map u8 wd++m_) 5)::(G++L))/\(p.known=true->nF+s1.out.length=p.size)/\(nF<=aG .u64)) ?_ ?_
 refine V 5 ?_;refine aO h J (show(au (ZB x2 x2.rem x2.xl x2.xv x2.xb x2.xc))[4]? =_ from yc) (ah (j8 J) (aC (eA J ?_ ?_)))<;>intro ajN
 have B4:p.known=true:=(by simpa using ajN);have NO:=aza B4;refine a9 (a9 (bL h [0,4,8,24,28,32,13,16,20,37,40] ?_));intro w h;refine av 6 ?_;refine aK J h J (Tw _ _ _ _ _) ?_;refine av 2 ?_;refine aK J h J Tm ?_;refine av 2 ?_;refine an J ?_ ?_<;>intro aIQ
 have bY:(p.Z8 (f+1) at_ s).1≠1:=ay1 dd.2 B4 (by rw[A0];omega);refine V 4 ?_;refine ee J J J J (aA (qk h bF (J8.sub aJ)) ?_);rintro e w1 ⟨be,rfl,h⟩;refine V 3 ?_;exact aaU
 refine aQ (bL h [0,4,8,16,20,24,13,29,32,36,40,44,48,55] ?_);intro w h;refine av 6 ?_;refine aK J h J Tm (aK J h J (Tw _ _ _ _ _) ?_);refine av 2 ?_;refine aw J (iz J J I (by rw[e6];exact aaV)) ?_;refine av 2 ?_;refine cV (cy (x2.rem-out.length)) Tm ?_;intro w h;rw[ayX]at h;exact cm ⟨aH 30,x2.rem-out.length,aq,h,(λ_=>by rw[A0,e6];omega),aI (vV _ _) (by rw[e6];exact aaV)⟩
 have B4:p.known=false:=(by simpa using ajN);exact aQ ⟨aH 5,x2.rem,aq,h,(λe=>by rw[B4]at e;cases e),(by rw[e6];exact aaV)⟩
 rintro ρ w ⟨nF,⟨vk,rfl⟩,h,lF,azv⟩;have jw:(au (ZB x2 nF x2.xl x2.xv x2.xb x2.xc))[2]? =some (.bool p.sum):=(by rw[<-aaW,<-e3];rfl);refine cD [(244,255)] (λρ w=> ∃qw:Nat,∃qx:Nat->Nat,∃qy:Nat->UInt8,∃qz:Nat,Kn ρ []/\H r w ((af br (au (ZB x2 nF qw qx qy qz)) 81)::(af sb [.slice iA D.length ic,R (mK),.int .i64 pC] 84)::(bI,C (List.map u8 out++bJ) 5)::(jq,C (cU gB) 227)::(pJ,C (List.map dk m1) 174)::(p0,C (aX d0) 214)::(p1,C (aX d1) 214)::(p2,C (aX d2) 214)::(kH,C (nE) 5)::(pN,C (Cb) 5)::(wo,C (List.map u8 wd++m_) 5)::(G++L))/\(p.sum=true->XI qw qx qy qz s1.out)) ?_ ?_
 refine V 5 ?_;refine aO h J jw (aC (eA J ?_ ?_))<;>intro ajO
 refine bL h [0,4,8,12,16,20,25,31] ?_;intro w h;refine av 6 ?_;refine aK J h J (Tw _ _ _ _ _) (kL J J J J ?_)
 refine(ayr (x:={x2 with rem:=nF}) (T:=s.out) (B:=out) h (mE.sub (λe he=>by
   rcases je.1 he with rfl
   exact(ar bF))) (by rw[e13,e14,e15,e16];exact azb ajO) I).mono ?_
 rintro e w1 ⟨rfl,xv3,xb3,xc3,h,azw⟩;refine⟨_,J,?_⟩;exact cm ⟨aH 12,x2.xl+out.length,xv3,xb3,xc3,aq,h,(λ_=>by rw[Aa];exact azw)⟩
 exact aQ ⟨aH 4,x2.xl,x2.xv,x2.xb,x2.xc,aq,h,(λe=>by rw[ajO]at e;cases e)⟩
 rintro ρ w ⟨qw,qx,qy,qz,⟨I5,rfl⟩,h,ajP⟩;refine V 4 ?_;refine ah (VW J) (aC (an J ?_ ?_))<;>intro ajQ
 have fW: ¬n % 2=1:=(by have h0:=ajQ;omega);have jn:=dd.2;rw[ag fW]at jn;refine bL h [0,4,8,12,16,20,25,31] ?_;intro w h;refine av 6 ?_;refine aK J h J (Tw _ _ _ _ _) ?_;replace h:=h.zz [10,1] 0;refine kL J J J J ?_;rw[ayZ (y:=(ZB x2 nF qw qx qy qz)) (S:=p.aL) (wo:=wo) (n:=wd.length) (c:=x.wC) (o:=x.wO) (e8.trans Tt.1) (e9.trans NJ) (e10.trans Tq) e11 e12]at h
 refine(ayN (B:=out) h (mE.sub (λe he=>by
   rcases je.1 he with rfl
   exact(ar bF))) NK Tt.2 I Ca.1 Ca.2.1 Ca.2.2).mono ?_
 rintro e w1 ⟨rfl,wo5,wc5,Tx,azx,ajR,h,azy,ajS⟩;refine⟨_,J,?_⟩;refine cm ?_;refine V 5 ?_;replace h:=h.zz [1,10,10,10,10,10,10,10,10,10,10] 0
 have azz:Tl (G++F) (WX (ZB x2 nF qw qx qy qz) p.aL wo5 Tx.length wc5 ajR) m1 p0 p1 p2 d0 d1 d2 Tx p s1:=
   {rel:={tr:=zA.tr,tb:=zA.tb,ok:=zA.ok,a:=zA.a,bd:=zA.bd},wS:=⟨J,Tt.2⟩,wl:=ay_ ajS Ca.1 Ca.2.1 Ca.2.2,pre:=by rw[Aa];exact ayJ ajS J Ca.1 Ca.2.1 nr ajJ,dF:=e5.trans ajK,rem:=lF,rm:=azv,sm:=e3.trans aaW,xi:=ajP,ol:=by omega}
 exact⟨_,J,Or.inl ⟨J,WX (ZB x2 nF qw qx qy qz) p.aL wo5 Tx.length wc5 ajR,mK,pC,bI,out,bJ,jq,gB,pJ,m1,p0,d0,p1,d1,p2,d2,kH,nE,pN,Cb,wo5,Tx,azx,G,h,{b:=jJ.b,k:=jJ.k,l:=jJ.l,u:=jJ.u,s:=jJ.s},⟨J,J,azy⟩,iW,show yR x2=yR x from ajE Bn,I,aaZ,Or.inr ⟨e2,s1,Aa,azz,by rw[jn];congr 1;omega⟩⟩⟩
 have fW:n % 2=1:=(by have h0:=ajQ;omega);have jn:=dd.2;rw[ai fW]at jn;refine cD [(2,2),(266,280)] (λρ w=>Kn ρ []/\H r w ((af br (au (ZB x2 nF qw qx qy qz)) 81)::(af sb [.slice iA D.length ic,R (mK),.int .i64 pC] 84)::(bI,C (List.map u8 out++bJ) 5)::(jq,C (cU gB) 227)::(pJ,C (List.map dk m1) 174)::(p0,C (aX d0) 214)::(p1,C (aX d1) 214)::(p2,C (aX d2) 214)::(kH,C (nE) 5)::(pN,C (Cb) 5)::(wo,C (List.map u8 wd++m_) 5)::(G++L))/\(p.known=true->s1.out.length=p.size)) ?_ ?_
 refine V 5 ?_;refine aO h J (show(au (ZB x2 nF qw qx qy qz))[4]? =_ from yc) (ah (j8 J) (cM (we (t:=271) J (λNP=>?_) (λNP=>?_))))
 refine V 3 ?_;refine dn J J J (run_load h J Tm) J ?_;refine V 3 ?_;refine an J ?_ ?_<;>intro ajT
 refine V 4 ?_;refine ee J J J J (aA (qk h bF (J8.sub aJ)) ?_);rintro e w1 ⟨be,rfl,h⟩;refine V 3 ?_;exact⟨_,J,Or.inr ⟨Or.inl ⟨_,J⟩,(by rw[jn];exact ay6 (by simpa using NP) (ay7 (lF (by simpa using NP)) ajT)),[_,_,_,_,_,_,_,_,_,_,_]++G,by rw[cF];exact h⟩⟩
 exact aQ ⟨aM,aq,h,(λe=>ay8 (lF e) (nj.1 ajT))⟩
 refine V 7 ?_;exact fV J (aQ ⟨aM,aq,h,(λe=>by rw[e]at NP;cases NP)⟩)
 rintro ρ w ⟨⟨Mo,rfl⟩,h,ajU⟩;have azA:(au (ZB x2 nF qw qx qy qz))[2]? =some (.bool p.sum):=(by rw[<-aaW,<-e3];rfl);have azB:(au (YX (ZB x2 nF qw qx qy qz) (ZB x2 nF qw qx qy qz).fR (ZB x2 nF qw qx qy qz).ny))[0]? =some (.iface 58 (aW sb)):=(by rw[<-pM,<-e1];rfl);rw[ajC (x:=(ZB x2 nF qw qx qy qz))]at h;refine cD [(2,2),(17,20),(281,324)] (λρ w=> ∃J9:Nat,∃pr6:Int,∃sc6:Nat->UInt8,∃z6:Int,Kn ρ []/\H r w ((af br (au (YX (ZB x2 nF qw qx qy qz) sc6 z6)) 81)::(af sb [.slice iA D.length ic,R (J9),.int .i64 pr6] 84)::(bI,C (List.map u8 out++bJ) 5)::(jq,C (cU gB) 227)::(pJ,C (List.map dk m1) 174)::(p0,C (aX d0) 214)::(p1,C (aX d1) 214)::(p2,C (aX d2) 214)::(kH,C (nE) 5)::(pN,C (Cb) 5)::(wo,C (List.map u8 wd++m_) 5)::(G++L))/\(p.Z8 (f+1) at_ s=(1,s1.out,J9-base))/\(mK<=J9/\J9<=D.length)) ?_ ?_
 refine V 5 ?_;refine aO h J (show(au (YX (ZB x2 nF qw qx qy qz) (ZB x2 nF qw qx qy qz).fR (ZB x2 nF qw qx qy qz).ny))[2]? =_ from azA) (aC (eA J ?_ ?_))<;>intro aa0
 have lP:=ajG (p:=p) (s1:=s1) (e:=at_+3+n5) ajU;rw[ai aa0]at lP;refine a9 (a9 (bL h [0,4,8,16,20,24,28,13,35,36,40,44,48,52] ?_));intro w h;refine av 6 ?_;refine aw J (uY (c:=4) (W:=ao.lit _) J J aj) ?_;refine aK J h J azB ?_;replace h:=h.zz [1] 0;refine kL J J J J (aA (BE (q:=28) (n:=4) h (azt.sub aJ) aaZ jP (J8.sub aJ) (λ_=>rfl) (by rw[yA];decide) aj) ?_);rintro e w1 ⟨vL,rfl,h⟩;rw[ajD (k:=0) J (by rw[gk];omega)]at h;refine av 6 ?_;refine V 3 ?_;refine ah (BY (aE:=aE) (aU:=aU) J J) (aC (an J ?_ ?_))<;>intro azC
 have bY:(p.Z8 (f+1) at_ s).1≠1:=(by rw[jn,lP,ai (Or.inl I)];show(2:Nat)≠1;decide);refine V 4 ?_;refine ee (v1:=R 0) J J J J (aA (Em (zo:=0) h (ar bF) (J8.sub aJ) (El azC)) ?_);rintro e w1 ⟨be,rfl,h⟩;refine V 3 ?_;replace h:=h.zz [10,10,10,10,10,10,10,10,10,9,10] 0;exact aaU
 have h4:mK+4<=D.length:=I;have NQ:mK+min (D.length-mK) 4=mK+4:=I;have Bu:(D.drop mK).take 4=aa D mK 4:=rfl;rw[NQ,Bu]at h;have Ey:(aa D mK 4).length=4:=dx h4;have azD:aa p.E (at_+3+n5) 4=aa D mK 4:=(by rw[BL];congr 1;omega);have ajV:num (aa D mK 4)<2^32:=ph;rw[azD]at lP;refine V 6 ?_;refine ah (uY (c:=4) (W:=ao.lit _) J J aj) ?_;refine dJ J J ((Ga h (ajF (X:=aa D mK 4) (ar bF) Ey.symm I) I).mono ?_);rintro e w1 ⟨rfl,h⟩;refine⟨da (num (aa D mK 4)),(by rw[jf I]),?_⟩;refine V 7 ?_;refine dJ J J (aA (ayx (T:=s1.out) h (ar bF) (ajP aa0) I) ?_);rintro e w1 ⟨rfl,h⟩;refine ah (bZ (CL J J) (show lD s1.out % (aG .u32+1)=lD s1.out % 4294967296 from J)) ?_;refine V 9 ?_;refine an J ?_ ?_<;>intro aIR
 have bY:(p.Z8 (f+1) at_ s).1≠1:=(by rw[jn,lP,ai (Or.inr I)];show(2:Nat)≠1;decide);refine V 3 ?_;refine dJ J J (aA (afX h) ?_);rintro e w1 ⟨be0,rfl,h⟩;have azE:(⟨be0,0,none⟩:Addr)≠aE:=λe=>(by obtain⟨lE,TE,hE⟩:=J8.bE;exact H.afW h (ar (ar (ar (ar (ar (ar (ar (ar (ar (ar (ar (hE)))))))))))) (b8 Addr.block e));refine ee (v1:=R 0) J J J J (aA (QK (zo:=0) bF azE h (ar (ar bF)) (J8.sub aJ)) ?_);rintro e w1 ⟨be,rfl,h⟩;refine V 3 ?_;replace h:=h.zz [11,11,11,11,11,11,11,11,11,10,11,11] 1;exact aaU
 rw[ag I]at lP;refine V 6 ?_;refine ah (wR J J) ?_;refine V 2 ?_;refine b7 ?_;intro w h;rw[NH]at h;refine aC ?_;replace h:=h.zz [10,10,10,10,10,10,10,10,10,9,10] 0;exact⟨aH 43,mK+4,vL,_,_,aq,h,(by rw[jn,lP,p8];congr 2;omega),I,I⟩
 have lP:=ajG (p:=p) (s1:=s1) (e:=at_+3+n5) ajU;rw[ag (λe=>by rw[aa0]at e;cases e)]at lP;exact aQ ⟨aH 4,mK,pC,_,_,aq,h,(by rw[jn,lP,p8];congr 2;omega),aR _,aaZ⟩
 rintro ρ w ⟨J9,pr6,sc6,z6,⟨Q6,rfl⟩,h,ajW,hp6⟩;refine V 4 ?_;refine gU (.bool false) ?_;intro w h;rw[ayY]at h;refine V 6 ?_;exact⟨_,J,Or.inl ⟨J,({YX (ZB x2 nF qw qx qy qz) sc6 z6 with gG:=false}),J9,pr6,bI,out,bJ,jq,gB,pJ,m1,p0,d0,p1,d1,p2,d2,kH,nE,pN,Cb,wo,wd,m_,G,h,{b:=jJ.b,k:=jJ.k,l:=jJ.l,u:=jJ.u,s:=jJ.s},⟨e9.trans NJ,e10.trans Tq,(by show bG wo wd.length x2.wC (List.map u8 wd) m_ 1;rw[e11];exact NK)⟩,iW,show yR x2=yR x from ajE Bn,I,hp6.2,Or.inl ⟨J,by rw[ajW,Aa]⟩⟩⟩
variable {ρ:Env}{pr:Int}{L:List aD}{sb:Nat}{x:Operand}{r:dQ}{ty:TypeId}
theorem azF(a:Addr)(w:World):(Instr.typeAssert (.iface 58 (.pointer (some a))) 67 186 true).run PP w= .ok (.tuple #[.iface 58 (.pointer (some a)),.bool true]) w:=by kernel_rfl
theorem azG{a:Addr}(hx:Env.ev ρ x= .iface 58 (.pointer (some a))):run PP ρ (.typeAssert x 67 186 true) ty w= .ok (.value (.tuple #[.iface 58 (.pointer (some a)),.bool true])) w:=by
 have h:=azF a w;simp only[run,execOp,hx];simp[h]
theorem azH{P:Program}{y:Operand}{T T':TypeId}(hx:Env.ev ρ x= .int .i64 (a:Int))(hy:Env.ev ρ y= .int .i64 (b:Int))(ha:a<=281474976710656)(hb:b<=281474976710656):run P ρ (.binOp .sub T x y T') ty w= .ok (.value (.int .i64 ((a:Int) - (b:Int)))) w:=by
 rw[afU hx hy];have h:IntKind.i64.wrap ((a:Int) - (b:Int))=(a:Int) - (b:Int):=wrap_i64 _ I I;rw[h]
theorem aa1{len cap pos off wh res:Nat}{ad:Option Addr}(h:H r w ((af sb [.slice ad len cap,R (pos),.int .i64 pr] 84)::L))(hw:(wh=0/\res=off)\/(wh=1/\res=pos+off)\/(wh=2/\res=len+off))(hb:res<=281474976710656):Calls PP 153 #[aW sb,R off,R wh] w λe w'=>e= .returned (.tuple #[R res,.nilIface])/\H r w' ((af sb [.slice ad len cap,R (res),.int .i64 (-1)] 84)::L):=by
 refine mW Tryz.func153 Tryz.ntmps153 [6,7] ?_;refine V 10 ?_;refine b7 ?_;intro w h;refine V 10 ?_;refine jB [(6,8),(13,33)] (λρ w=> ∃v:Nat,Kn ρ [(8,R v)]/\H r w ((af sb [.slice ad len cap,R (pos),.int .i64 (-1)] 84)::L)/\(v=res)) ?_ ?_
 refine V 5 ?_;refine an J ?_ ?_<;>intro FG
 refine V 4 ?_;exact⟨aH 4,off,aq,h,I⟩
 refine V 5 ?_;refine an J ?_ ?_<;>intro mz
 refine V 9 ?_;exact⟨aH 11,pos+off,aq,h,I⟩
 refine V 5 ?_;refine an J ?_ ?_<;>intro wq
 refine V 10 ?_;exact⟨aH 14,len+off,aq,h,I⟩
 exfalso;omega
 rintro ρ w ⟨v,⟨k5,rfl⟩,h,hv⟩;refine V 6 ?_;refine an J ?_ ?_<;>intro iP
 exfalso;omega
 refine V 7 ?_;refine b7 ?_;intro w h;refine V 8 ?_;subst hv;exact⟨J,h⟩
theorem azI{pos ic:Nat}{iA:Option Addr}{aE aU:Addr}{x:cQ}{D:List UInt8}(h:H r w ((af br (au x) 81)::(af sb [.slice iA D.length ic,R (pos),.int .i64 pr] 84)::L))(hG:Gl L aE aU)(hD:aP L (.slice iA D.length ic) D)(pM:x.sV= .iface 58 (aW sb))(jP:D.length<=140737488355328)(kP:pos<=D.length):Calls PP 81 #[aW br] w λe w'=> ∃er,e= .returned er/\ ∃sc z pos' lb,H r w' ((af br (au (YX x sc z)) 81)::(af sb [.slice iA D.length ic,R (pos'),.int .i64 lb] 84)::L)/\((er= .nilIface/\pos+4<=D.length/\pos'=pos+4+num (aa D pos 4)/\pos'<=D.length)\/(Er aU er/\(D.length<pos+4\/D.length<pos+4+num (aa D pos 4)))):=by
 rw[ajC]at h;have fq: ∀sc z,(au (YX x sc z))[0]? =some (.iface 58 (aW sb)):=λsc z=>(by rw[<-pM];rfl);refine gD Tryz.func81 Tryz.ntmps81 [2] ?_;refine V 10 ?_;refine bL h [0,4,8,16,20,24,28,13,35,36,40,44,48,52] ?_;intro w h;refine av 6 ?_;refine aw J (uY (c:=4) (W:=ao.lit _) J J aj) ?_;refine aK J h J (fq _ _) ?_;replace h:=h.zz [1] 0;refine kL J J J J (aA (BE (q:=28) (n:=4) h hD kP jP hG (λ_=>rfl) (by rw[yA];decide) aj) ?_);rintro e w1 ⟨vL,rfl,h⟩;rw[ajD (k:=0) J (by rw[gk];omega)]at h;refine av 6 ?_;refine V 3 ?_;refine ah (BY (aE:=aE) (aU:=aU) J J) (aC (an J ?_ ?_))<;>intro rH
 refine V 5 ?_;refine ee J J J J (aA (Em h (ar bF) (hG.sub aJ) (El rH)) ?_);rintro e w1 ⟨be,rfl,h⟩;refine V 3 ?_;replace h:=h.zz [1] 0;exact⟨_,J,_,_,_,_,h,Or.inr ⟨Or.inl ⟨_,J⟩,Or.inl I⟩⟩
 have h4:pos+4<=D.length:=I;have NQ:pos+min (D.length-pos) 4=pos+4:=I;have Bu:(D.drop pos).take 4=aa D pos 4:=rfl;rw[NQ,Bu]at h;have Ey:(aa D pos 4).length=4:=dx h4;have ajV:num (aa D pos 4)<2^32:=ph;refine cg (num (aa D pos 4)) λsize Ar=>?_;rw[Ar]at ajV;refine V 12 ?_;refine ah (uY (c:=4) (W:=ao.lit _) J J aj) ?_;refine dJ J J ((Ga h (ajF (X:=aa D pos 4) (ar bF) Ey.symm I) I).mono ?_);rintro e w1 ⟨rfl,h⟩;refine⟨da size,(by rw[jf I,Ar]),?_⟩;refine V 8 ?_;refine an J ?_ ?_<;>intro LH
 refine V 7 ?_;refine ah (wR J J) ?_;refine V 2 ?_;refine b7 ?_;intro w h;rw[NH]at h;refine V 6 ?_;replace h:=h.zz [1] 0;exact⟨_,J,_,_,_,_,h,Or.inl ⟨J,h4,I,h4⟩⟩
 refine V 7 ?_;refine aO h J (fq _ _) (ah (azG J) ?_);refine V 10 ?_;refine iI J ?_;refine V 7 ?_;refine ah (wR J J) ?_;refine V 2 ?_;refine b7 ?_;intro w h;rw[NH]at h;refine V 4 ?_;replace h:=h.zz [1,1] 0;refine K_ (Yh (v:=R (0)) (u:=R 1) J J J) J ((aa1 (off:=0) (wh:=1) (res:=pos+4) h (Or.inr (Or.inl ⟨J,J⟩)) I).mono ?_);rintro e w1 ⟨rfl,h⟩;refine⟨_,J,?_⟩;refine V 10 ?_;refine ah (wT J J) (aC (fV J ?_));refine V 4 ?_;replace h:=h.zz [1,1] 0;refine K_ (Yh (v:=R (0)) (u:=R 2) J J J) J ((aa1 (off:=0) (wh:=2) (res:=D.length) h (Or.inr (Or.inr ⟨J,J⟩)) I).mono ?_);rintro e w1 ⟨rfl,h⟩;refine⟨_,J,?_⟩;refine V 10 ?_;refine ah (wT J J) (aC (fV J ?_));refine V 8 ?_;refine ah (azH J J I I) (ah (VS J J) (aC (an J ?_ ?_)))<;>intro tP
 refine V 8 ?_;refine ah (afU J J) (ah (wR J J) ?_);refine V 2 ?_;refine b7 ?_;intro w h;rw[NH]at h;refine V 4 ?_;refine b_ (v1:=R 0) J J J (aA (tX (zo:=0) h (ar bF) (hG.sub aJ)) ?_);rintro e w1 ⟨be,rfl,h⟩;refine V 3 ?_;replace h:=h.zz [1] 0;exact⟨_,J,_,_,_,_,h,Or.inr ⟨Or.inl ⟨_,J⟩,Or.inr I⟩⟩
 refine V 8 ?_;replace h:=h.zz [1,1] 0;refine K_ (Yh (v:=R (pos+4+size)) (u:=R 0) J J J) J ((aa1 (off:=pos+4+size) (wh:=0) (res:=pos+4+size) h (Or.inl ⟨J,J⟩) I).mono ?_);rintro e w1 ⟨rfl,h⟩;refine⟨_,J,?_⟩;refine V 9 ?_;refine ah (wT J J) (aC (fV J ?_));refine V 9 ?_;refine ah (wR J J) ?_;refine V 2 ?_;refine b7 ?_;intro w h;rw[NH]at h;refine V 6 ?_;replace h:=h.zz [1] 0;exact⟨_,J,_,_,_,_,h,Or.inl ⟨J,h4,by rw[Ar],I⟩⟩
variable {Z9:Code}{l:Nat}{σ:Type}
def Ty(l:Nat)(next:Env->World->Prop)(K:gw):gw:=fun
 | .goto l',ρ,w=>bif Nat.beq l' l then next ρ w else False
 |e,ρ,w=>K e ρ w
section
variable {P:Program}{n:Nat}{K:gw}{ρ:Env}{w:World}
theorem azJ(Z7:σ->Env->World->Prop)(m:σ->Nat)(s:σ)(h:Z7 s ρ w)(round: ∀s ρ w,Z7 s ρ w->Z_ P n Z9 (Ty l (λbj w'=> ∃s',m s'<m s/\Z7 s' bj w') K) ρ w):Z_ P n (.scope (.seq (.label l) Z9)) K ρ w:=by
 unfold Z_ at round ⊢;intro a W h2 h3 b k cs
 have key: ∀j s a w,m s=j->a.tmps.size=n->a.defers=[]->Z7 s (lx a) w->
     ∃e a' w',up n K e a' w'/\Arrives P (lone (b.at a (.code Z9:: .inScope (.seq (.label l) Z9)::k)) cs w) b k cs e a' w':=by
   intro j
   induction j using Nat.strongRecOn with
   | _ j ih=>
     intro s a w hj W h2 hI
     obtain⟨e,uP,uQ,⟨q1,q2,q3⟩,qJ⟩:=round s _ w hI a W h2 J b (.inScope (.seq (.label l) Z9)::k) cs
     cases e with
     |normal=>exact⟨_,uP,uQ,⟨q1,q2,q3⟩,Steps.trans qJ (.one step_inScope)⟩
     |exit id=>exact⟨_,uP,uQ,⟨q1,q2,q3⟩,λk' hk=>qJ k' (by simp[exitTo,hk])⟩
     | goto l'=>
       simp only[Ty]at q3
       cases hb:Nat.beq l' l
       . rw[hb]at q3;exact q3.elim
       . rw[hb]at q3
         have e:=Ve hb
         subst e
         obtain⟨s',cP,K9⟩:=q3
         obtain⟨VL,VM,VN,VO,VP⟩:=ih (m s') (hj▸cP) s' uP uQ J q1 q2 K9
         have st:=qJ (.code (.seq .skip Z9):: .inScope (.seq (.label l') Z9)::k) (by simp[gotoIn,findLabel])
         exact⟨VL,VM,VN,VO,.of_steps (Steps.trans st (.head step_seq (.one step_skip))) VP⟩
     |ret=>exact⟨_,uP,uQ,⟨q1,q2,q3⟩,qJ⟩
     |panic ch=>exact⟨_,uP,uQ,⟨q1,q2,q3⟩,qJ⟩
     |outgrown=>exact⟨_,uP,uQ,⟨q1,q2,q3⟩,qJ⟩
 obtain⟨e,a',w',hq,qJ⟩:=key _ s a w J W h2 (h3▸h);exact⟨e,a',w',hq,.of_steps (.head step_scope (.head step_seq (.one step_label))) qJ⟩
theorem azK(ds:List (Nat×Nat))(Z7:σ->Env->World->Prop)(m:σ->Nat)(s:σ)(h:Z7 s ρ w)(round: ∀s bj w',Z7 s bj w'->Z_ P n Z9 (Ty l (λzj AH=>du zj ρ ds/\ ∃s',m s'<m s/\Z7 s' zj AH) K) (pd ds bj ρ) w'):Z_ P n (.scope (.seq (.label l) Z9)) K ρ w:=by
 refine azJ (λs bj w'=>du bj ρ ds/\Z7 s bj w') m s ⟨du.refl _ _,h⟩ λs bj w' ⟨ha,hI⟩=>?_;have:=round s bj w' hI;rw[ha.Ij]at this;refine this.mono λe zj AH q=>?_
 cases e with
 | goto l'=>
   simp only[Ty]at q ⊢
   cases hb:Nat.beq l' l
   . rw[hb]at q;exact q
   . rw[hb]at q
     obtain⟨q1,s',q2,q3⟩:=q;exact⟨s',q2,q1,q3⟩
 |_=>exact q
end
theorem vO{α:Type}{c:Prop}[Decidable c]{a b:Nat×α}(h:(if c then a else b).1=1)(ha:a.1≠1): ¬c/\b.1=1/\(if c then a else b)=b:=by
 by_cases hc:c
 rw[ai hc]at h;exact absurd h ha
 rw[ag hc]at h ⊢;exact⟨hc,h,J⟩
theorem Hi{α:Type}{a:α}:((2:Nat),a).1≠1:=by show(2:Nat)≠1;decide
theorem J_{α:Type}{a:α}:((0:Nat),a).1≠1:=by show(0:Nat)≠1;decide
theorem ajX{aL ak room:Nat}{E:List UInt8}: ∀f at_ s,(jI aL ak room E f at_ s).1=1->at_<=(jI aL ak room E f at_ s).2.2
 |0,at_,s,h=>by simp[jI]at h
 | f+1,at_,s,h=>by
  rw[He]at h ⊢;obtain⟨_,h,e⟩:=vO h Hi;rw[e];clear e;obtain⟨_,h,e⟩:=vO h Hi;rw[e];clear e;obtain⟨_,h,e⟩:=vO h J_;rw[e];clear e;by_cases h4:(jx aL ak E s (num (aa E at_ 3)/2 % 4) (num (aa E at_ 3)/8) (at_+3)).1≠1
  rw[ai h4]at h;exact absurd h h4
  rw[ag h4]at h ⊢;obtain⟨_,h,e⟩:=vO h J_;rw[e];clear e;by_cases h6:num (aa E at_ 3) % 2=1
  rw[ai h6];exact aI (mS _ _) (mS _ _)
  rw[ag h6]at h ⊢;exact aI (aI (mS _ _) (mS _ _)) (ajX f _ _ h)
theorem azL(h:(jk E).1=1):5<=(jk E).2.2.2.2.2:=by
 unfold jk at h ⊢;dsimp only at h ⊢;obtain⟨_,h,e⟩:=vO h Hi;rw[e];clear e;obtain⟨_,h,e⟩:=vO h Hi;rw[e];clear e;obtain⟨_,h,e⟩:=vO h Hi;rw[e];clear e;obtain⟨_,h,e⟩:=vO h J_;rw[e];clear e;obtain⟨_,h,e⟩:=vO h J_;rw[e];clear e;show 5<=5+_+_+_;omega
theorem ajY{known:Bool}{x:Nat×Fs×Nat}(h:(pO E known size sum x).1=1):x.1=1/\x.2.2<=(pO E known size sum x).2.2:=by
 have W:=Tk h;refine⟨W.1,?_⟩;unfold pO at h ⊢;rw[ag (by simp[W.1])]at h ⊢;split at h
 cases h
 rename_i h2;rw[ag h2];split at h
 rename_i h3;rw[ai h3];split at h
 cases h
 rename_i h4;rw[ag h4];exact mS _ _
 rename_i h3;rw[ag h3];exact aR _
theorem ajZ{room:Nat}(h:(gM E room).1=1):4<=(gM E room).2.2:=by
 unfold gM at h ⊢;dsimp only at h ⊢;split at h
 cases h
 rename_i W;rw[ag W];split at h
 rename_i h2;rw[ai h2];split at h
 cases h
 rename_i h3;rw[ag h3];split at h
 cases h
 rename_i h4;rw[ag h4];show 4<=8+_;omega
 rename_i h2;rw[ag h2];split at h
 cases h
 rename_i h3;rw[ag h3]
 have hh:(jk E).1=1:=by
  unfold rU at h;dsimp only at h;split at h
  rename_i h4;exact absurd h h4
  rename_i h4;exact nj.1 h4
 rw[ajx hh]at h ⊢;unfold Fr.Z8 at h ⊢;have a:=ajY h;have b:=ajX _ _ _ a.1;have c:=azL hh;omega
theorem azM{D:List UInt8}: ∀f g at_ out,D.length<=f+at_->D.length<=g+at_->q7 D (f+1) at_ out=q7 D (g+1) at_ out:=by
 intro f
 induction f with
 | zero=>
   intro g at_ out W h2
   unfold q7
   rw[ag I,ag I]
 | succ f ih=>
   intro g at_ out W h2
   unfold q7
   by_cases h:at_<D.length
   . rw[ai h,ai h]
     dsimp only
     by_cases hx:(gM (D.drop at_) (4194304-out.length)).1≠1
     . rw[ai hx,ai hx]
     . rw[ag hx,ag hx]
       have hp:=ajZ (nj.1 hx)
       obtain⟨g',rfl⟩: ∃g',g=g'+1:=⟨g-1,I⟩
       exact ih g' _ _ I I
   . rw[ag h,ag h]
def DF(D:List UInt8)(at_:Nat)(out:List UInt8):Nat×List UInt8:=q7 D (D.length+1) at_ out
section
variable {D:List UInt8}{at_:Nat}{out:List UInt8}
theorem aa2(h:at_<D.length):DF D at_ out=if(gM (D.drop at_) (4194304-out.length)).1≠1 then((gM (D.drop at_) (4194304-out.length)).1,[])else DF D (at_+(gM (D.drop at_) (4194304-out.length)).2.2) (out++(gM (D.drop at_) (4194304-out.length)).2.1):=by
 have h0:DF D at_ out=if at_<D.length then(if(gM (D.drop at_) (4194304-out.length)).1≠1 then((gM (D.drop at_) (4194304-out.length)).1,[])else q7 D D.length (at_+(gM (D.drop at_) (4194304-out.length)).2.2) (out++(gM (D.drop at_) (4194304-out.length)).2.1))else(1,out):=rfl;rw[h0,ai h];by_cases hx:(gM (D.drop at_) (4194304-out.length)).1≠1
 rw[ai hx,ai hx]
 rw[ag hx,ag hx];have hp:=ajZ (nj.1 hx);obtain⟨g,hg⟩: ∃g,D.length=g+1:=⟨D.length-1,I⟩;have:=azM (D:=D) g D.length (at_+(gM (D.drop at_) (4194304-out.length)).2.2) (out++(gM (D.drop at_) (4194304-out.length)).2.1) I I;rw[<-hg]at this;exact this
theorem azN(h:D.length<=at_):DF D at_ out=(1,out):=by
 have h0:DF D at_ out=if at_<D.length then _ else(1,out):=rfl;rw[h0,ag I]
theorem Tz(h:at_<D.length)(hx:(gM (D.drop at_) (4194304-out.length)).1≠1):(DF D at_ out).1=(gM (D.drop at_) (4194304-out.length)).1:=by
 rw[aa2 h,ai hx]
theorem J':aa (D.drop at_) q k=aa D (at_+q) k:=by unfold aa;rw[j7]
theorem azO(h:at_<D.length)(h4:D.length<at_+4):(DF D at_ out).1=2:=by
 have e:(gM (D.drop at_) (4194304-out.length)).1=2:=(by unfold gM;rw[ai (by rw[bV];omega)]);rw[Tz h (by rw[e];decide),e]
theorem azP(h4:at_+4<=D.length){m:Nat}(hm:num (aa D at_ 4)=m)(W:407710288<=m)(h2:m<=407710303):((D.length<at_+8\/D.length<at_+8+num (aa D (at_+4) 4))->(DF D at_ out).1=2)/\(¬(D.length<at_+8\/D.length<at_+8+num (aa D (at_+4) 4))->DF D at_ out=DF D (at_+(8+num (aa D (at_+4) 4))) out):=by
 have e:gM (D.drop at_) (4194304-out.length)=(if D.length-at_<8 then(2,[],0)else if D.length-at_<8+num (aa D (at_+4) 4)then(2,[],0)else(1,[],8+num (aa D (at_+4) 4))):=(by unfold gM;dsimp only;rw[bV,ag I,J',J',kU,hm,ai I]);constructor
 intro hx
 have e2:(gM (D.drop at_) (4194304-out.length)).1=2:=by
  rw[e];by_cases h8:D.length-at_<8
  rw[ai h8]
  rw[ag h8,ai I]
 rw[Tz I (by rw[e2];decide),e2]
 intro hx;rw[ag I,ag I]at e;rw[aa2 I,e,ag (by show ¬(1:Nat)≠1;decide),dP]
theorem aj0(h4:at_+4<=D.length){m:Nat}(hm:num (aa D at_ 4)=m)(W: ¬(407710288<=m/\m<=407710303))(h2:m≠4247762216\/D.length<at_+5):(DF D at_ out).1=2:=by
 have e:gM (D.drop at_) (4194304-out.length)=(2,[],0):=(by unfold gM;dsimp only;rw[bV,ag I,J',kU,hm,ag I,ai I]);rw[Tz I (by rw[e];decide),e]
theorem aj1(h5:at_+5<=D.length)(hm:num (aa D at_ 4)=4247762216):gM (D.drop at_) (4194304-out.length)=rU (D.drop at_) (4194304-out.length):=by
 unfold gM;dsimp only;rw[bV,ag I,J',kU,hm,ag aj,ag I]
end
variable {d hp:Nat}
theorem azQ{D:List UInt8}{one id wide x:Nat}(hd:(D.getD (hp+4) 0).toNat=d)(hx:(D.getD (hp+5) 0).toNat=x)(ho:(if dC d=true then 0 else 1)=one)(hi:h_ d=id)(hw:dV d=wide):jk (D.drop hp)=if ¬d&&&8=0 then(2,0,0,false,false,0)else if D.length-hp<5+id+wide+one then(2,0,0,false,false,0)else if ¬num (aa D (hp+(5+one)) id)=0 then(2,0,0,false,false,0)else if wide=8/\64<=(D.getD (hp+(5+one+id+7)) 0).toNat then(0,0,0,false,false,0)else if 8388608<(if dC d=true then num (aa D (hp+(5+one+id)) wide)+(if wide=2 then 256 else 0)else qj x)then(0,0,0,false,false,0)else(1,num (aa D (hp+(5+one+id)) wide)+(if wide=2 then 256 else 0),(if dC d=true then num (aa D (hp+(5+one+id)) wide)+(if wide=2 then 256 else 0)else qj x),decide (0<wide),decide (¬d&&&4=0),5+one+id+wide):=by
 subst ho hi hw hx;unfold jk;dsimp only;rw[aaE,show byte D (hp+4)=d from hd,bV,J',J',aaE,aaE];rfl
theorem aj2{D:List UInt8}{out:List UInt8}(h5:hp+5<=D.length)(hm:num (aa D hp 4)=4247762216)(h:(jk (D.drop hp)).1≠1):(DF D hp out).1=(jk (D.drop hp)).1:=by
 have e:(gM (D.drop hp) (4194304-out.length)).1=(jk (D.drop hp)).1:=(by rw[aj1 h5 hm];unfold rU;dsimp only;rw[ai h]);rw[Tz I (by rw[e];exact h),e]
theorem aa3(h:d<=255):(if 2^(d/64)=1/\ ¬dC d=true then 0 else 2^(d/64))=dV d:=by
 have h4:d/64=0\/d/64=1\/d/64=2\/d/64=3:=I;unfold dV;rcases h4 with e|e|e|e<;>rw[e]
 by_cases hs:dC d=true
 rw[ag (λx=>x.2 hs)];simp[hs]
 rw[ai ⟨J,hs⟩];simp[hs]
 rw[ag (λx=>absurd x.1 aj)];rfl
 rw[ag (λx=>absurd x.1 aj)];rfl
 rw[ag (λx=>absurd x.1 aj)];rfl
theorem id_eq:(if d % 4=0 then 0 else 2^(d % 4-1))=h_ d:=by
 have h4:d % 4=0\/d % 4=1\/d % 4=2\/d % 4=3:=I;unfold h_;rcases h4 with e|e|e|e<;>rw[e]<;>rfl
variable {aE aU:Addr}{P fw:Nat}{y:Operand}{c2 p:Prop}{x:cQ}{T':TypeId}
def HA(x:cQ)(one:Bool)(z:Int)(sc:Nat->UInt8)(sm dF:Bool)(rem n:Nat)(v:Nat->Nat)(b:Nat->UInt8)(c:Nat):cQ:={x with one:=one,ny:=z,fR:=sc,sum:=sm,dF:=dF,rem:=rem,xl:=n,xv:=v,xb:=b,xc:=c}
def HY(x:cQ)(gG:Bool)(r1 r2 r3 hb:Nat)(st:Nat->Value):cQ:={x with gG:=gG,r1:=r1,r2:=r2,r3:=r3,hb:=hb,st:=st}
section
variable {x:cQ}{one gG:Bool}{z z':Int}{sc sc':Nat->UInt8}{sm dF q:Bool}{rem n n' r1 r2 r3 hb NG:Nat}{v v':Nat->Nat}{b b':Nat->UInt8}{c c':Nat}{st:Nat->Value}{u:Value}
theorem azR:au x=au (HA x x.one x.ny x.fR x.sum x.dF x.rem x.xl x.xv x.xb x.xc):=rfl
theorem azS:au (YX (HA x one z sc sm dF rem n v b c) sc' z')=au (HA x one z' sc' sm dF rem n v b c):=rfl
theorem azT:au (XX (HA x one z sc sm dF rem n v b c) n' v' b' c')=au (HA x one z sc sm dF rem n' v' b' c'):=rfl
theorem azU:(au (HA x one z sc sm dF rem n v b c)).set 3 (.bool q)=au (HA x q z sc sm dF rem n v b c):=rfl
theorem azV:(au (HA x one z sc sm dF rem n v b c)).set 2 (.bool q)=au (HA x one z sc q dF rem n v b c):=rfl
theorem aj3:(au (HA x one z sc sm dF rem n v b c)).set 4 (.bool q)=au (HA x one z sc sm q rem n v b c):=rfl
theorem NR:(au (HA x one z sc sm dF rem n v b c)).set 5 (cy NG)=au (HA x one z sc sm dF NG n v b c):=rfl
theorem azW:(au (HA x one z sc sm dF rem n v b c)).set 6 (.int .i64 z')=au (HA x one z' sc sm dF rem n v b c):=rfl
theorem aj4:(au (HA x one z sc sm dF rem n v b c))[6]? =some (.int .i64 z):=rfl
theorem azX:(au (HA x one z sc sm dF rem n v b c))[2]? =some (.bool sm):=rfl
theorem aj5:(au (HA x one z sc sm dF rem n v b c))[3]? =some (.bool one):=rfl
theorem Ka:(au (HA x one z sc sm dF rem n v b c))[5]? =some (cy rem):=rfl
theorem aa4{q:Nat}(hq:q=28+k)(h:k+X.length<=16):cT (au (HA x one z sc sm dF rem n v b c)) q (X.map u8)=au (HA x one z (dW sc k X) sm dF rem n v b c):=by rw[Y0 hq h];rfl
theorem azY:au x=au (HY x x.gG x.r1 x.r2 x.r3 x.hb x.st):=rfl
theorem azZ:(au (HY x gG r1 r2 r3 hb st)).set 1 (.bool q)=au (HY x q r1 r2 r3 hb st):=rfl
theorem az0:(au (HY x gG r1 r2 r3 hb st)).set 9 (aZ n)=au (HY x gG n r2 r3 hb st):=rfl
theorem az1:(au (HY x gG r1 r2 r3 hb st)).set 10 (aZ n)=au (HY x gG r1 n r3 hb st):=rfl
theorem az2:(au (HY x gG r1 r2 r3 hb st)).set 11 (aZ n)=au (HY x gG r1 r2 n hb st):=rfl
theorem az3:(au (HY x gG r1 r2 r3 hb st)).set 13 (R n)=au (HY x gG r1 r2 r3 n st):=rfl
end
theorem aj6{rb:Nat}{zo:Int}{v:Value}(c2:Prop) [Decidable c2](h:H r w F)(hR:(af rb (au x) 81)∈F)(hG:Gl F aE aU)(hv:v=if c2 then .iface 199 (.pointer (some aE))else .iface 199 (.pointer (some aU))):Calls PP 79 #[aW rb,.int .i64 zo,v] w λe w'=> ∃er,e= .returned er/\H r w' F/\(c2->er= .iface 199 (.pointer (some aE)))/\(¬c2-> ∃b,er= .iface 182 (aW b)):=by
 by_cases h2:c2
 rw[ai h2]at hv;subst hv;refine(asj (rb:=rb) (x:=x) h hG).mono ?_;rintro e w1 ⟨rfl,h⟩;exact⟨_,J,h,λ_=>rfl,λhn=>absurd h2 hn⟩
 rw[ag h2]at hv;subst hv;obtain⟨l,T,hU⟩:=hG.bU;refine(QK hU hG.ne h hR hG).mono ?_;rintro e w1 ⟨be,rfl,h⟩;exact⟨_,J,h,λhn=>absurd hn h2,λ_=>⟨_,J⟩⟩
theorem az4{x:Operand}{c:Prop}[Decidable c] [Decidable c2](hx:Env.ev ρ x=if c then .nilIface else if c2 then .iface 199 (.pointer (some aE))else .iface 199 (.pointer (some aU)))(hc: ¬c)(hy:Env.ev ρ y= .iface 199 (.pointer (some aE)))(h:H r w L)(hG:Gl L aE aU):run PP ρ (.binOp .eql 103 x y T') ty w= .ok (.value (.bool (decide c2))) w:=by
 rw[ag hc]at hx;by_cases h2:c2
 rw[ai h2]at hx;rw[Mq hx hy];simp[h2]
 rw[ag h2]at hx;obtain⟨l,T,hU⟩:=hG.bU;obtain⟨l',T',hE⟩:=hG.bE;rw[QJ hx hy h hG.ne hU hE];simp[h2]
section
variable {x:cQ}{one:Bool}{z:Int}{sc:Nat->UInt8}{sm dF:Bool}{rem n:Nat}{v:Nat->Nat}{b:Nat->UInt8}{c:Nat}
theorem TA(hi:i<16):(au (HA x one z sc sm dF rem n v b c))[28+i]? =some (u8 (sc i)):=
 match i,hi with
 |0,_=>rfl|1,_=>rfl|2,_=>rfl|3,_=>rfl|4,_=>rfl|5,_=>rfl|6,_=>rfl|7,_=>rfl
 |8,_=>rfl|9,_=>rfl|10,_=>rfl|11,_=>rfl|12,_=>rfl|13,_=>rfl|14,_=>rfl|15,_=>rfl
 |n+16,h=>absurd h I
theorem aj7{cp:Nat}(h:(af br (au (HA x one z sc sm dF rem n v b c)) 81)∈F)(hm:m=X.length)(hc:m<=cp)(yf:k+X.length<=16)(hX: ∀j,j<X.length->sc (k+j)=X.getD j 0):aP F (.slice (some ⟨br,28+k,none⟩) m cp) X:=by
 subst hm
 exact⟨_,_,_,J,J,hc,λ_=>⟨br,28+k,_,_,J,h,Rd.of λj hj=>by
   rw[bX]at hj
   rw[gQ,TA I,hX j hj,kK,gv hj,bS,gv hj];rfl⟩⟩
end
theorem fw0(hd:d<=255)(W:2^(d/64)=1)(h2:(!decide (¬d&&&32=0))=true):0=dV d:=by
 rw[<-aa3 hd,ai ⟨W,λe=>by unfold dC at e;rw[e]at h2;cases h2⟩]
theorem fw1(hd:d<=255)(h2:(!decide (¬d&&&32=0))=false):2^(d/64)=dV d:=by
 rw[<-aa3 hd,ag (λe=>e.2 (by unfold dC;simpa using h2))]
theorem fw2(hd:d<=255)(W: ¬2^(d/64)=1):2^(d/64)=dV d:=by
 rw[<-aa3 hd,ag (λe=>W e.1)]
theorem az5(hd:d<=255):2^(d/64)<=8:=aI (dp aj (I:d/64<=3)) aj
theorem az6{d:Nat}:2^(d % 4-1)<=4:=aI (dp aj (I:d % 4-1<=2)) aj
theorem az7{P:Program}{T:TypeId}{x z:Operand}{len s:Nat}[hu:bO P T (.array len T')] [hs:Sz P T' s]{u u':Int}{k k':IntKind}{a c:Nat}(hx:Env.ev ρ x= .pointer (some ⟨b,q,none⟩))(hy:Env.ev ρ y= .int k u)(hz:Env.ev ρ z= .int k' u') [W:ao u a] [h2:ao u' c](h3:a<=c)(h4:c<=len)(h5:a<len):run P ρ (.slice T x (some y) (some z) none) ty w= .ok (.value (.slice (some ⟨b,q+a*s,none⟩) (c-a) (len-a))) w:=by
 have e2:=hs.size w;have e3:(Instr.sliceBound (.int k (a:Int)) c .sliceB).run P w= .ok a w:=(by simp[Instr.sliceBound,asIntOf];omega);have e4:(Instr.sliceBound (.int k' (c:Int)) len .sliceAlen).run P w= .ok c w:=(by simp[Instr.sliceBound,asIntOf,h4]);have: ¬len=a:=I;simp[run,execOp,hx,hy,hz,W.eq,h2.eq,Instr.sliceAt,Instr.sureAddr,Instr.sliceBounds,underlying,program,Sem.run,hu.eq,e2,e3,e4,this,add_plain]
theorem aj8{one:Bool}{z:Int}{sm dF:Bool}{rem:Nat}{v:Nat->Nat}{b:Nat->UInt8}(hq:q=28+i)(hi:i<16):(au (HA x one z sc sm dF rem n v b c))[q]? =some (u8 (sc i)):=by rw[hq];exact TA hi
theorem az8{x bs:Nat}(hx:x<=255)(hb:2^(x/2^3+10)=bs):bs+bs/8*(x % 2^3)=qj x:=by
 unfold qj;have e:min (10+x/8) 50=x/2^3+10:=I;rw[e,hb]
theorem az9{x:Nat}(hx:x<=255):2^(x/2^3+10)<=2199023255552:=aI (dp aj (I:x/2^3+10<=41)) aj
theorem az_{D:List UInt8}(hq:q+n<=D.length)(hi:i<n)(hz: ¬(D.getD (q+i) 0).toNat=0): ¬num (aa D q n)=0:=by
 intro h;have hl:=dx hq;have e1:=sH (aa D q n) i I;rw[kN hi]at e1;have e2:num (aa D q n)=num ((aa D q n).take (i+1))+256^(i+1)*num ((aa D q n).drop (i+1)):=(by(conv=>lhs;rw[<-xD (i+1) (aa D q n),Fg]);rw[gk,mx I]);have W:0<(D.getD (q+i) 0).toNat*2^(8*i):=Nat.mul_pos I (Nat.pow_pos aj);omega
theorem aa5{D:List UInt8}{q:Nat}: ∀n,q+n<=D.length->(∀j,j<n->(D.getD (q+j) 0).toNat=0)->num (aa D q n)=0
 |0,_,_=>by unfold aa;rw[pV];rfl
 |n+1,hq,hz=>by have hl:=dx hq;have e:=sH (aa D q (n+1)) n I;rw[kN I,hz n I,jf I]at e;have e2:(aa D q (n+1)).take n=aa D q n:=(by unfold aa;rw[KW,mx I]);rw[e,e2,aa5 n I (λj hj=>hz j I)];simp
theorem az'(hd:d<=255):dV d=0\/dV d=1\/dV d=2\/dV d=4\/dV d=8:=by
 have h4:d/64=0\/d/64=1\/d/64=2\/d/64=3:=I;unfold dV;rcases h4 with e|e|e|e<;>rw[e]
 by_cases hs:dC d=true
 right;left;simp[hs]
 left;simp[hs]
 right;right;left;rfl
 right;right;right;left;rfl
 right;right;right;right;rfl
theorem aAa{D:List UInt8}(h:P+1<=D.length):(D.getD P 0).toNat=num (aa D P 1):=by
 have W:=dx h;have:=Ym (X:=aa D P 1) I;rw[kN aj,jf I,kU]at this;exact this
theorem aAb{D:List UInt8}(hX: ∀j,j<n->sc (q+j)=D.getD (P+j) 0)(hq:q+n<=16)(hP:P+n<=D.length):((List.range (16-q)).map λj=>sc (q+j)).take n=aa D P n:=by
 apply oF;intro j;rw[pT];split
 rename_i hj;rw[kK,AD I,uN,hX _ hj];unfold aa;rw[pT,ai hj,oE,bS,gv I];rfl
 rename_i hj;rw[gP (by rw[dx I];omega)]
section
variable {r:dQ}{w:World}{F:List aD}{br q P:Nat}{D:List UInt8}{x:cQ}{one:Bool}{z:Int}{sc:Nat->UInt8}{sm dF:Bool}{rem n:Nat}{v:Nat->Nat}{b:Nat->UInt8}{c:Nat}
theorem aa6(hm:(af br (au (HA x one z sc sm dF rem n v b c)) 81)∈F)(hq:q<=16):aP F (.slice (some ⟨br,28+q*1,none⟩) (16-q) (16-q)) ((List.range (16-q)).map λj=>sc (q+j)):=by
 rw[eC];exact aj7 hm (by simp) (aR _) (by simp;omega) (λj hj=>by simp at hj;simp[hj])
theorem aa7(h:p:=by rintro e w1 ⟨rfl,h⟩;exact⟨by rw[aAb hX hq hP],h⟩):p:=h
theorem aAc(h:H r w F)(hm:(af br (au (HA x one z sc sm dF rem n v b c)) 81)∈F)(hq:q+2<=16)(hP:P+2<=D.length)(hX: ∀j,j<2->sc (q+j)=D.getD (P+j) 0):Calls PP 85 #[.slice (some ⟨br,28+q*1,none⟩) (16-q) (16-q)] w λe w'=>e= .returned (CQ (num (aa D P 2)))/\H r w' F:=by
 refine(QR h (aa6 hm I) (by simp;omega)).mono ?_;exact aa7
theorem aAd(h:H r w F)(hm:(af br (au (HA x one z sc sm dF rem n v b c)) 81)∈F)(hq:q+4<=16)(hP:P+4<=D.length)(hX: ∀j,j<4->sc (q+j)=D.getD (P+j) 0):Calls PP 80 #[.slice (some ⟨br,28+q*1,none⟩) (16-q) (16-q)] w λe w'=>e= .returned (aZ (num (aa D P 4)))/\H r w' F:=by
 refine(Ga h (aa6 hm I) (by simp;omega)).mono ?_;exact aa7
theorem aAe(h:H r w F)(hm:(af br (au (HA x one z sc sm dF rem n v b c)) 81)∈F)(hq:q+8<=16)(hP:P+8<=D.length)(hX: ∀j,j<8->sc (q+j)=D.getD (P+j) 0):Calls PP 86 #[.slice (some ⟨br,28+q*1,none⟩) (16-q) (16-q)] w λe w'=>e= .returned (cy (num (aa D P 8)))/\H r w' F:=by
 refine(Yn h (aa6 hm I) (by simp;omega)).mono ?_;exact aa7
end
theorem aa8{D:List UInt8}(h:fw=n)(hn:n≠2):num (aa D P n)=num (aa D P fw)+(if fw=2 then 256 else 0):=by subst h;rw[ag hn];rfl
theorem aAf{D:List UInt8}(h:fw=2):256+num (aa D P 2)=num (aa D P fw)+(if fw=2 then 256 else 0):=by subst h;rw[ai J];exact Ay _ _
theorem NT{D:List UInt8}(hn:n<=8):num (aa D P n)<=aG .u64:=by
 have W:num (aa D P n)<2^(8*n):=ph;have h2:2^(8*n)<=2^64:=dp aj I;have h3:(2:Nat)^64=aG .u64+1:=rfl;omega
theorem aAg{D:List UInt8}{P:Nat}:num (aa D P 2)<=65535:=by
 have W:num (aa D P 2)<2^(8*2):=ph;omega
theorem aj9{D:List UInt8}:num (aa D P 4)<=aG .u64:=NT aj
theorem aj_{D:List UInt8}:256+num (aa D P 2)<=aG .u64:=by
 have:= @aAg D P;simp only[aG];omega
theorem TC(h:fw=n)(hn:0<n):false=!decide (0<fw):=by subst h;rw[xF hn];rfl
theorem aAh(h:fw=0):true=!decide (0<fw):=by subst h;rfl
theorem aAi{X:Nat×Nat×Nat×Bool×Bool×Nat}{c1 c3 c4:Prop}[Decidable c1] [Decidable c2] [Decidable c3] [Decidable c4]{a b c:Nat×Nat×Bool×Bool×Nat}{Z_:Nat}{Z9:Nat×Nat×Nat×Bool×Bool×Nat}(h:X=if c1 then(2,a)else if c2 then(2,a)else if c3 then(2,a)else if c4 then(0,b)else if 8388608<Z_ then(0,c)else Z9)(W: ¬c1)(h2: ¬c2)(h3: ¬c3)(hx:X.1≠0):X=Z9/\Z_<=8388608:=by
 rw[ag W,ag h2,ag h3]at h;by_cases h4:c4
 rw[ai h4]at h;rw[h]at hx;exact absurd J hx
 rw[ag h4]at h;by_cases h5:8388608<Z_
 rw[ai h5]at h;rw[h]at hx;exact absurd J hx
 rw[ag h5]at h;exact⟨h,I⟩
theorem aAj(hd:d<=255)(hs:dC d=true):0<dV d:=by
 have h4:d/64=0\/d/64=1\/d/64=2\/d/64=3:=I;unfold dV;rcases h4 with e|e|e|e<;>rw[e]
 simp[hs]
 show 0<2;decide
 show 0<4;decide
 show 0<8;decide
section
variable {x:cQ}{one gG:Bool}{z z':Int}{sc:Nat->UInt8}{sm dF q:Bool}{rem n r1 r2 r3 hb:Nat}{v:Nat->Nat}{b:Nat->UInt8}{c:Nat}{st:Nat->Value}{u:Value}{S nn cc oo:Nat}{wo:Option Nat}
theorem aAk:(au (HY (HA x one z sc sm dF rem n v b c) gG r1 r2 r3 hb st)).set 3 (.bool q)=au (HY (HA x q z sc sm dF rem n v b c) gG r1 r2 r3 hb st):=rfl
theorem aAl:(au (HY (HA x one z sc sm dF rem n v b c) gG r1 r2 r3 hb st)).set 6 (.int .i64 z')=au (HY (HA x one z' sc sm dF rem n v b c) gG r1 r2 r3 hb st):=rfl
theorem aAm(h:x.wA=aB wo):au (HY (HA x one z sc sm dF rem n v b c) gG r1 r2 r3 hb st)=au (WX (HY (HA x one z sc sm dF rem n v b c) gG r1 r2 r3 hb st) x.wS wo x.wN x.wC x.wO):=by unfold WX;rw[<-h];rfl
theorem aAn:(au (WX (HY x gG r1 r2 r3 hb st) S wo nn cc oo)).set 19 u=au (WX (HY x gG r1 r2 r3 hb (eX st 0 u)) S wo nn cc oo):=rfl
theorem aAo:(au (WX (HY x gG r1 r2 r3 hb st) S wo nn cc oo)).set 20 u=au (WX (HY x gG r1 r2 r3 hb (eX st 1 u)) S wo nn cc oo):=rfl
theorem aAp:(au (WX (HY x gG r1 r2 r3 hb st) S wo nn cc oo)).set 21 u=au (WX (HY x gG r1 r2 r3 hb (eX st 2 u)) S wo nn cc oo):=rfl
end
theorem TD{D out:List UInt8}{p:Nat}(gp:DF D p out=DF D q out)(h:(DF D q out).1=2):(DF D p out).1≠1:=by rw[gp,h];decide
theorem aa9{D out:List UInt8}{p:Nat}(gp:DF D p out=DF D q out)(h5:q+5<=D.length)(hm:num (aa D q 4)=4247762216)(h:(jk (D.drop q)).1=2):(DF D p out).1≠1:=by
 rw[gp,aj2 h5 hm (by rw[h];decide),h];decide
theorem aj'(h:p:=by refine V 5 ?_;refine ee J J J J (aA (qk h (ar bF) (hG.sub aJ)) ?_);rintro e w1 ⟨be,rfl,h⟩;refine V 3 ?_;replace h:=h.zz [2,1,2] 0;exact⟨_,J,Or.inr (Or.inl ⟨Or.inl ⟨_,J⟩,TD gp (aj0 h4 Kb I (Or.inl Df)),[_,_,_],h⟩)⟩):p:=h
theorem aAq{pos ic:Nat}{iA:Option Addr}{D out:List UInt8}{wv:List Value}(h:H r w ((af br (au x) 81)::(af sb [.slice iA D.length ic,R (pos),.int .i64 pr] 84)::(wo,C wv 5)::L))(hG:Gl L aE aU)(hD:aP L (.slice iA D.length ic) D)(pM:x.sV= .iface 58 (aW sb))(jP:D.length<=140737488355328)(kP:pos<=D.length)(hwA:x.wA=aB wo)(kh:wv.length=x.wC)(nr:wo=none->x.wC=0)(hon:x.one=true\/pos<D.length)(hV:(DF D pos out).1≠0):Calls PP 76 #[aW br] w λe w'=> ∃er,e= .returned er/\((er= .iface 199 (.pointer (some aE))/\DF D pos out=(1,out)/\ ∃Z,H r w' (Z++L))\/(Er aU er/\(DF D pos out).1≠1/\ ∃Z,H r w' (Z++L))\/(er= .nilIface/\ ∃hp pos' lb sm dF rem z sc xl xv xb xc mf vN Aq size cJ,H r w' ((af br (au (WX (HY (HA x true z sc sm dF rem xl xv xb xc) true 1 4 8 0 (eX (eX (eX x.st 0 (.slice none 0 0)) 1 (.slice none 0 0)) 2 (.slice none 0 0))) cJ mf 0 vN 0)) 81)::(af sb [.slice iA D.length ic,R (pos'),.int .i64 lb] 84)::(mf,C Aq 5)::L)/\Aq.length=vN/\(mf=none->vN=0)/\pos<=hp/\hp+5<=pos'/\pos'<=D.length/\DF D pos out=DF D hp out/\num (aa D hp 4)=4247762216/\jk (D.drop hp)=(1,size,cJ,!dF,sm,pos'-hp)/\cJ<=8388608/\(dF=false->rem=size)/\rem<=aG .u64/\(sm=true->XI xl xv xb xc []))):=by
 rw[azR]at h;have fq: ∀o z sc sm un rm n v b c,(au (HA x o z sc sm un rm n v b c))[0]? =some (.iface 58 (aW sb)):=λo z sc sm un rm n v b c=>(by rw[<-pM];rfl);obtain⟨T0,Hj⟩:=hG.g0;obtain⟨i0,rV⟩:=cX Hj;obtain⟨T2,aAr⟩:=hG.g2;obtain⟨i2,vA⟩:=cX aAr;refine gD Tryz.func76 Tryz.ntmps76 [2] ?_;refine V 4 ?_;refine azK (σ:=Nat×Int×Bool×Int×(Nat->UInt8)) [(2,26),(28,347)] (λ⟨cE,pr0,one,z,sc⟩ ρ w=>Kn ρ []/\H r w ((af br (au (HA x one z sc x.sum x.dF x.rem x.xl x.xv x.xb x.xc)) 81)::(af sb [.slice iA D.length ic,R (cE),.int .i64 pr0] 84)::(wo,C wv 5)::L)/\(cE<=D.length)/\(DF D pos out=DF D cE out)/\(one=true\/cE<D.length)/\(pos<=cE)) (λ⟨cE,pr0,one,z,sc⟩=>D.length-cE) (pos,pr,x.one,x.ny,x.fR) ⟨aq,h,kP,J,hon,(aR _)⟩ ?_;rintro⟨cE,pr0,one,z,sc⟩ ρ w ⟨⟨k5,rfl⟩,h,tZ,gp,FY,Be⟩;refine V 6 ?_;refine bL h [0,4,8,16,20,24,28,13,35,36,40,44,48,52] ?_;intro w h;refine av 6 ?_;refine aw J (uY (c:=4) (W:=ao.lit _) J J aj) ?_;refine aK J h J (fq _ _ _ _ _ _ _ _ _ _) ?_;replace h:=h.zz [1] 0;refine kL J J J J (aA (BE (q:=28) (n:=4) h (hD.sub aJ) tZ jP (hG.sub aJ) (λ_=>rfl) (by rw[yA];omega) aj) ?_);rintro e w1 ⟨yS,rfl,h⟩;rw[aa4 (k:=0) J (by rw[gk];omega)]at h;refine av 6 ?_;refine V 3 ?_;refine ah (BY (aE:=aE) (aU:=aU) J J) (aC (an J ?_ ?_))<;>intro DZ
 refine V 5 ?_;refine ah (az4 (aE:=aE) (aU:=aU) J DZ J h (hG.sub aJ)) (cM (d' (t:=47) J (λaa_=>?_) (λaa_=>?_)))
 refine V 3 ?_;refine dn J J J (run_load h J aj5) J (dn J J J (j8 J) J ?_);refine V 2 ?_;refine eA J ?_ ?_<;>intro DC
 have W:=FY.resolve_right I;rw[W]at DC;cases DC
 refine V 6 ?_;refine ee J J J J (aA (aj6 (D.length-cE=0) h (ar bF) (hG.sub aJ) (ag DZ)) ?_);rintro e w1 ⟨er,rfl,h,wK,he2⟩;refine V 3 ?_;replace h:=h.zz [2,1,2] 0;exact⟨_,J,Or.inl ⟨wK aa_,gp.trans (azN I),[_,_,_],h⟩⟩
 refine V 7 ?_;refine fV J ?_;refine V 6 ?_;refine ee J J J J (aA (aj6 (D.length-cE=0) h (ar bF) (hG.sub aJ) (ag DZ)) ?_);rintro e w1 ⟨er,rfl,h,wK,he2⟩;refine V 3 ?_;replace h:=h.zz [2,1,2] 0;exact⟨_,J,Or.inr (Or.inl ⟨Or.inl (he2 aa_),TD gp (azO I I),[_,_,_],h⟩)⟩
 have h4:cE+4<=D.length:=I;have NQ:cE+min (D.length-cE) 4=cE+4:=I;have Bu:(D.drop cE).take 4=aa D cE 4:=rfl;rw[NQ,Bu]at h;have Ey:(aa D cE 4).length=4:=dx h4;refine cg (num (aa D cE 4)) λmg Kb=>?_;refine V 7 ?_;refine ah (uY (c:=4) (W:=ao.lit _) J J aj) ?_;refine dJ J J ((Ga h (aj7 (k:=0) (X:=aa D cE 4) (ar bF) Ey.symm I I (λj hj=>by rw[Ez I];rw[im])) I).mono ?_);rintro e w1 ⟨rfl,h⟩;refine⟨da mg,(by rw[jf I,Kb]),?_⟩;refine V 7 ?_;refine an J ?_ ?_<;>intro Df
 refine V 6 ?_;refine d' (t:=68) J (λTF=>?_) (λTF=>?_)
 refine V 4 ?_;refine an J ?_ ?_<;>intro Fx
 have eZ:407710288<=mg:=TF;have fH:mg<=407710303:=Fx;refine V 5 ?_;refine aO h J aj4 ?_;refine V 2 ?_;refine ah (wR J J) ?_;refine V 2 ?_;refine cV (.int .i64 _) aj4 ?_;intro w h;rw[azW]at h;refine V 5 ?_;replace h:=h.zz [1] 0;refine dJ J J (aA (azI (pos:=cE+4) h (hG.sub aJ) (hD.sub aJ) pM jP h4) ?_);rintro e w1 ⟨er,rfl,sc2,z2,TG,vL,h,fu⟩;rw[azS]at h
 have cS:(cE+4+4<=D.length/\cE+4+4+num (aa D (cE+4) 4)<=D.length)->er= .nilIface:=λe=>by
  rcases fu with hh|hh
  exact hh.1
  exact absurd e (by have:=hh.2;omega)
 have eT: ¬(cE+4+4<=D.length/\cE+4+4+num (aa D (cE+4) 4)<=D.length)->Er aU er:=λe=>by
  rcases fu with hh|hh
  exact absurd ⟨hh.2.1,by have:=hh.2.2;omega⟩ e
  exact hh.1
 have p8:(cE+4+4<=D.length/\cE+4+4+num (aa D (cE+4) 4)<=D.length)->TG=cE+(8+num (aa D (cE+4) 4)):=λe=>by
  rcases fu with hh|hh
  have:=hh.2.2.1;omega
  exact absurd e (by have:=hh.2;omega)
 clear fu;have hdk:=azP (out:=out) h4 Kb eZ fH;refine V 5 ?_;refine ah (SE (aU:=aU) er (cE+4+4<=D.length/\cE+4+4+num (aa D (cE+4) 4)<=D.length) J cS eT J) (aC (an J ?_ ?_))<;>intro WW
 refine V 6 ?_;exact⟨_,J,Or.inr (Or.inl ⟨eT WW,TD gp (hdk.1 I),[_,_,_],h⟩)⟩
 have jN:(cE+4+4<=D.length/\cE+4+4+num (aa D (cE+4) 4)<=D.length):=nj.1 WW;have nz:=p8 jN;have sM:DF D cE out=DF D TG out:=(by rw[nz];exact hdk.2 I);refine V 6 ?_;refine cV (.bool true) aj5 ?_;intro w h;rw[azU]at h;exact aC (ank ⟨aM,(TG,vL,true,z2,sc2),show D.length-TG<D.length-cE by omega,aq,h,I,gp.trans sM,Or.inl J,I⟩)
 exact aj'
 refine V 4 ?_;refine fV J ?_;exact aj'
 have Kc:num (aa D cE 4)=4247762216:=Kb.trans (nj.1 Df);refine V 9 ?_;refine bL h [0,4,8,16,20,24,28,13,35,36,40,44,48,52] ?_;intro w h;refine av 6 ?_;refine aw J (uY (c:=1) (W:=ao.lit _) J J aj) ?_;refine aK J h J (fq _ _ _ _ _ _ _ _ _ _) ?_;replace h:=h.zz [1,1] 0;refine kL J J J J (aA (BE (q:=28) (n:=1) h (hD.sub aJ) h4 jP (hG.sub aJ) (λ_=>rfl) (by rw[yA];omega) aj) ?_);rintro e w1 ⟨yS,rfl,h⟩;rw[aa4 (k:=0) J (by rw[gk];omega)]at h;refine av 6 ?_;refine V 3 ?_;refine ah (BY (aE:=aE) (aU:=aU) J J) (aC (an J ?_ ?_))<;>intro vm
 refine V 5 ?_;refine ee J J J J (aA (Em h (ar bF) (hG.sub aJ) (El vm)) ?_);rintro e w1 ⟨be,rfl,h⟩;refine V 3 ?_;replace h:=h.zz [2,1,2] 0;exact⟨_,J,Or.inr (Or.inl ⟨Or.inl ⟨_,J⟩,TD gp (aj0 h4 Kc aj (Or.inr I)),[_,_,_],h⟩)⟩
 have h5:cE+4+1<=D.length:=I;have aAs:cE+4+min (D.length- (cE+4)) 1=cE+5:=I;have aAt:(D.drop (cE+4)).take 1=aa D (cE+4) 1:=rfl;rw[aAs,aAt]at h;have aIS:(aa D (cE+4) 1).length=1:=dx h5;refine cg ((D.getD (cE+4) 0).toNat) λd Aj=>?_;have hd:d<=255:=(by rw[<-Aj];exact toNat_le _);refine cg (dW (dW sc 0 (aa D cE 4)) 0 (aa D (cE+4) 1)) λHk aka=>?_;rw[aka]at h;have hu0:(Hk 0).toNat=d:=(by rw[<-aka,Ez I,kN aj];exact Aj);have aiE:=az5 hd;have Q8:= @az6 d;refine V 7 ?_;refine ah (vI (run_load h J (TA (i:=0) aj)) hu0) ?_;refine V 12 ?_;refine ah (bZ (pX (b:=6) (h2:=ao.lit _) J J az) (show d/2^6=d/64 from J)) (ah (gn J J (I:d/64<=64) (aI aiE aj)) ?_);refine dI (aC (cD [(12,12),(123,128)] (λρ w=> ∃fw:Nat,Kn ρ [(12,R fw)]/\H r w ((af sb [.slice iA D.length ic,R (cE+5),.int .i64 yS] 84)::(af br (au (HA x one z Hk x.sum x.dF x.rem x.xl x.xv x.xb x.xc)) 81)::(wo,C wv 5)::L)/\(fw=dV d)) ?_ ?_))
 refine V 5 ?_;refine d' (t:=125) J (λaa'=>?_) (λaa'=>?_)
 refine V 1 ?_;refine dn J J J (j8 J) J ?_;refine V 2 ?_;refine eA J ?_ ?_<;>intro akb
 refine V 3 ?_;exact⟨aM,0,aq,h,fw0 hd aa' akb⟩
 exact aQ ⟨aM,2^(d/64),aq,h,fw1 hd akb⟩
 refine V 4 ?_;exact fV J (aQ ⟨aM,2^(d/64),aq,h,fw2 hd aa'⟩)
 rintro ρ w ⟨fw,⟨mD,rfl⟩,h,TH⟩;refine V 4 ?_;refine cD [(13,13),(129,129)] (λρ w=> ∃o1:Nat,Kn ρ [(13,R o1)]/\H r w ((af sb [.slice iA D.length ic,R (cE+5),.int .i64 yS] 84)::(af br (au (HA x one z Hk x.sum x.dF x.rem x.xl x.xv x.xb x.xc)) 81)::(wo,C wv 5)::L)/\((if dC d=true then 0 else 1)=o1)) ?_ ?_
 refine V 4 ?_;refine an J ?_ ?_<;>intro qe
 refine V 3 ?_;exact⟨aH 2,0,aq,h,ai (xF qe)⟩
 refine V 3 ?_;exact⟨aH 2,1,aq,h,ag (λe=>qe (tf e))⟩
 rintro ρ w ⟨o1,⟨qY,rfl⟩,h,pD⟩;have jZ:=azQ (D:=D) (hp:=cE) Aj J pD J TH.symm;have oU:o1<=1:=(by rw[<-pD];split<;>omega);have hid:= @afB d;have xh:fw<=8:=(by rw[TH];exact afA);refine V 7 ?_;refine an J ?_ ?_<;>intro NU
 refine V 4 ?_;refine ee J J J J (aA (qk h (ar bF) (hG.sub aJ)) ?_);rintro e w1 ⟨be,rfl,h⟩;refine V 3 ?_;replace h:=h.zz [2,1,2] 0;exact⟨_,J,Or.inr (Or.inl ⟨Or.inl ⟨_,J⟩,aa9 gp h5 Kc (by rw[jZ,ai NU]),[_,_,_],h⟩)⟩
 refine V 9 ?_;refine gU (.bool (decide (¬d&&&4=0))) ?_;intro w h;rw[azV]at h;refine aC (cD [(142,149)] (λρ w=> ∃xn:Nat,∃Cc:Nat->Nat,∃Ce:Nat->UInt8,∃Cf:Nat,Kn ρ []/\H r w ((af sb [.slice iA D.length ic,R (cE+5),.int .i64 yS] 84)::(af br (au (HA x one z Hk (decide (¬d&&&4=0)) x.dF x.rem xn Cc Ce Cf)) 81)::(wo,C wv 5)::L)/\((decide (¬d&&&4=0))=true->XI xn Cc Ce Cf [])) ?_ ?_)
 refine V 5 ?_;refine aO h J azX (aC (an J ?_ ?_))<;>intro Qs
 refine V 4 ?_;replace h:=h.zz [1] 0;refine dJ J J (aA (ayq (x:=(HA x one z Hk (decide (¬d&&&4=0)) x.dF x.rem x.xl x.xv x.xb x.xc)) (n:=x.xl) (v:=x.xv) (bf:=x.xb) (c:=x.xc) h) ?_);rintro e w1 ⟨rfl,xv2,xb2,h,Bt⟩;rw[azT]at h;refine aC ?_;replace h:=h.zz [2,1,2] 0;exact⟨aH 8,0,xv2,xb2,0,aq,h,(λ_=>Bt)⟩
 exact aQ ⟨aH 4,x.xl,x.xv,x.xb,x.xc,aq,h,(λe=>absurd (tf e) Qs)⟩
 rintro ρ w ⟨xn,Cc,Ce,Cf,⟨sO,rfl⟩,h,aAu⟩;refine V 4 ?_;refine cD [(14,15),(150,156)] (λρ w=> ∃di:Nat,Kn ρ [(14,R di)]/\H r w ((af sb [.slice iA D.length ic,R (cE+5),.int .i64 yS] 84)::(af br (au (HA x one z Hk (decide (¬d&&&4=0)) x.dF x.rem xn Cc Ce Cf)) 81)::(wo,C wv 5)::L)/\(h_ d=di)) ?_ ?_
 refine V 3 ?_;refine ah (vv J J az) ?_;refine V 7 ?_;refine an J ?_ ?_<;>intro TJ
 refine V 3 ?_;refine ah (gn J J (I:d % 4-1<=64) (aI Q8 aj)) ?_;exact dI (aC ⟨aH 9,2^(d % 4-1),aq,h,(by rw[<-id_eq,ag TJ])⟩)
 exact aQ ⟨aH 5,0,aq,h,(by rw[<-id_eq,ai (nj.1 TJ)])⟩
 rintro ρ w ⟨di,⟨vk,rfl⟩,h,hdi⟩;rw[hdi]at jZ hid;refine V 17 ?_;refine bL h [0,4,8,16,20,24,28,32,13,39,40,44,48,52,56] ?_;intro w h;refine av 7 ?_;refine aw J (uY J J I) (aK J h J (fq _ _ _ _ _ _ _ _ _ _) (kL J J J J (aA (BE (q:=28) (n:=o1+di+fw) h (hD.sub aJ) h5 jP (hG.sub aJ) (λ_=>rfl) (by rw[yA];omega) I) ?_)));rintro e w1 ⟨yS,rfl,h⟩;rw[aa4 (k:=0) J (by rw[gk];omega)]at h;refine av 6 ?_;refine V 3 ?_;refine ah (BY (aE:=aE) (aU:=aU) J J) (aC (an J ?_ ?_))<;>intro QH
 refine V 5 ?_;refine ee J J J J (aA (Em h (ar bF) (hG.sub aJ) (El QH)) ?_);rintro e w1 ⟨be,rfl,h⟩;refine V 3 ?_;replace h:=h.zz [2,1,2] 0;exact⟨_,J,Or.inr (Or.inl ⟨Or.inl ⟨_,J⟩,aa9 gp h5 Kc (by rw[jZ,ag NU,ai I]),[_,_,_],h⟩)⟩
 have h6:cE+5+(o1+di+fw)<=D.length:=I;have aAv:cE+5+min (D.length- (cE+5)) (o1+di+fw)=cE+5+(o1+di+fw):=I;have aAw:(D.drop (cE+5)).take (o1+di+fw)=aa D (cE+5) (o1+di+fw):=rfl;rw[aAv,aAw]at h;refine cg (dW Hk 0 (aa D (cE+5) (o1+di+fw))) λxj akc=>?_;rw[akc]at h;have aIT:(aa D (cE+5) (o1+di+fw)).length=(o1+di+fw):=dx h6;have Ke: ∀j,j<(o1+di+fw)->xj j=D.getD (cE+5+j) 0:=λj hj=>(by rw[<-akc,Ez I,kN hj]);refine cg ((D.getD (cE+5) 0).toNat) λxw Ld=>?_;have akd:xw<=255:=(by rw[<-Ld];exact toNat_le _);rw[Ld]at jZ;have ake:=az9 akd;refine cg (2^(xw/2^3+10)) λbs zx=>?_;rw[zx]at ake;have lH:bs/8*(xw % 2^3)<=bs/8*7:=xE _ I;refine V 5 ?_;refine cD [(2,2),(19,25),(183,218)] (λρ w=> ∃cJ:Nat,Kn ρ [(19,cy cJ)]/\H r w ((af sb [.slice iA D.length ic,R (cE+5+(o1+di+fw)),.int .i64 yS] 84)::(af br (au (HA x one z xj (decide (¬d&&&4=0)) x.dF x.rem xn Cc Ce Cf)) 81)::(wo,C wv 5)::L)/\(cJ=if dC d=true then 0 else qj xw)) ?_ ?_
 refine V 3 ?_;refine ah (j8 J) (aC (eA J ?_ ?_))<;>intro M3
 have jX:dC d=false:=(by unfold dC;simpa using M3);have zW:o1=1:=(by rw[<-pD,jX];rfl);have hux:(xj 0).toNat=xw:=(by rw[Ke 0 I,<-Ld]);refine V 6 ?_;refine ah (vI (run_load h J (TA (i:=0) aj)) hux) ?_;refine V 12 ?_;refine ah (jO (n:=3) J J az aj) ?_;refine V 12 ?_;refine ah (bZ (gn J J (I:xw/2^3+10<=64) (by rw[zx];exact aI ake aj)) zx) ?_;refine V 5 ?_;refine ah (mT (b:=8) (h2:=ao.lit _) J J I az) ?_;refine V 8 ?_;refine ah (bZ (d_ J J az) (az8 akd zx)) ?_;refine V 9 ?_;refine fT J J J J (fT J J J J ?_);refine V 3 ?_;exact fV J (aQ ⟨aH 40,qj xw,aq,h,(by rw[jX];rfl)⟩)
 have jX:dC d=true:=(by unfold dC;simpa using M3);exact aQ ⟨aH 2,0,aq,h,(by rw[jX];rfl)⟩
 rintro ρ w ⟨cJ,⟨I5,rfl⟩,h,vx⟩;refine cD [(2,2),(26,26),(28,28),(219,240)] (λρ w=>Kn ρ []/\H r w ((af sb [.slice iA D.length ic,R (cE+5+(o1+di+fw)),.int .i64 yS] 84)::(af br (au (HA x one z xj (decide (¬d&&&4=0)) x.dF x.rem xn Cc Ce Cf)) 81)::(wo,C wv 5)::L)/\(num (aa D (cE+(5+o1)) di)=0)) ?_ ?_
 refine V 5 ?_;refine an J ?_ ?_<;>intro aIU
 have hlu: ∀i,i<di->(xj (o1+i)).toNat=(D.getD (cE+5+(o1+i)) 0).toNat:=λi hi=>(by rw[Ke _ I]);refine V 9 ?_;refine ah (az7 J J J (mS _ _) I I) ?_;refine V 9 ?_;refine bQ (σ:=Nat) [(2,2),(28,28),(231,240)] (λi ρ w=>Kn ρ [(231,R i)]/\H r w ((af sb [.slice iA D.length ic,R (cE+5+(o1+di+fw)),.int .i64 yS] 84)::(af br (au (HA x one z xj (decide (¬d&&&4=0)) x.dF x.rem xn Cc Ce Cf)) 81)::(wo,C wv 5)::L)/\(i<=di)/\(∀j,j<i->(D.getD (cE+5+(o1+j)) 0).toNat=0)) (λi=>di-i) (0) ⟨aq,h,(bP _),(λj hj=>absurd hj (nP _))⟩ ?_;rintro i ρ w ⟨⟨Mo,rfl⟩,h,hi,hz⟩;refine V 5 ?_;refine an J ?_ ?_<;>intro aiQ
 refine V 5 ?_;refine ah (cI J J J I) (ah (vI (run_load h J (aj8 (i:=o1+i) I I)) (hlu i I)) ?_);refine V 7 ?_;refine an J ?_ ?_<;>intro akf
 refine V 4 ?_;refine ee J J J J (aA (qk h (ar bF) (hG.sub aJ)) ?_);rintro e w1 ⟨be,rfl,h⟩;refine V 3 ?_;replace h:=h.zz [2,1,2] 0;exact⟨_,J,Or.inr (Or.inl ⟨Or.inl ⟨_,J⟩,aa9 gp h5 Kc (by rw[jZ,ag NU,ag I,ai (az_ (q:=cE+(5+o1)) (i:=i) I I (by rw[show cE+(5+o1)+i=cE+5+(o1+i) by omega];exact akf))]),[_,_,_],h⟩)⟩
 refine V 5 ?_;exact⟨aH 8,i+1,cw,aq,h,I,(λj hj=>by rcases vY.1 hj with hh|rfl;exact hz j hh;exact nj.1 akf)⟩
 exact iy ⟨aH 16,aq,h,(aa5 di I (λj hj=>by have:=hz j I;rw[<-this];congr 2;omega))⟩
 exact aQ ⟨aH 2,aq,h,aa5 di I (λj hj=>absurd hj I)⟩
 rintro ρ w ⟨⟨Q6,rfl⟩,h,qu⟩;have aAx:=az' hd;rw[<-TH]at aAx;refine V 5 ?_;refine gU (.bool false) ?_;intro w h;rw[aj3]at h;refine V 6 ?_;refine cV (cy 0) Ka ?_;intro w h;rw[NR]at h;refine V 9 ?_;refine ah (Io J J I) ?_;refine V 7 ?_;refine jB [(255,293)] (λρ w=> ∃dF:Bool,∃rem:Nat,Kn ρ []/\H r w ((af sb [.slice iA D.length ic,R (cE+5+(o1+di+fw)),.int .i64 yS] 84)::(af br (au (HA x one z xj (decide (¬d&&&4=0)) dF rem xn Cc Ce Cf)) 81)::(wo,C wv 5)::L)/\(dF=!decide (0<fw))/\(dF=false->rem=(num (aa D (cE+(5+o1+di)) fw)+(if fw=2 then 256 else 0)))/\(rem<=aG .u64)) ?_ ?_
 refine V 5 ?_;refine an J ?_ ?_<;>intro aiS
 refine V 4 ?_;refine gU (.bool true) ?_;intro w h;rw[aj3]at h;exact aC ⟨aH 6,true,0,aq,h,aAh aiS,(λe=>by cases e),bP _⟩
 refine V 5 ?_;refine an J ?_ ?_<;>intro akg
 have p6:(xj (o1+di)).toNat=num (aa D (cE+(5+o1+di)) 1):=(by rw[Ke _ I,show cE+5+(o1+di)=(cE+(5+o1+di)) by omega];exact aAa I);refine V 3 ?_;refine ah (cI (a:=0) (W:=ao.lit _) J J J I) (ah (vI (run_load h J (aj8 (i:=o1+di) I I)) p6) (ah (eB J (NT aj)) ?_));refine V 2 ?_;refine cV (cy (num (aa D (cE+(5+o1+di)) 1))) Ka ?_;intro w h;rw[NR]at h;exact aC ⟨aH 12,false,num (aa D (cE+(5+o1+di)) 1),aq,h,TC akg aj,(λ_=>aa8 akg aj),NT aj⟩
 refine V 5 ?_;refine an J ?_ ?_<;>intro ME
 have NV: ∀j,j<2->xj (o1+di+j)=D.getD ((cE+(5+o1+di))+j) 0:=λj hj=>(by rw[Ke _ I,show cE+5+(o1+di+j)=(cE+(5+o1+di))+j by omega]);refine V 3 ?_;refine dJ J J (aA (aAc (P:=(cE+(5+o1+di))) h (ar bF) I I NV) ?_);rintro e w1 ⟨rfl,h⟩;refine ah (eB J (NT aj)) ?_;refine ah (d_ (a:=256) (W:=ao.lit _) J J aj_) ?_;refine V 2 ?_;refine cV (cy (256+num (aa D (cE+(5+o1+di)) 2))) Ka ?_;intro w h;rw[NR]at h;exact aC ⟨aH 14,false,256+num (aa D (cE+(5+o1+di)) 2),aq,h,TC ME aj,(λ_=>aAf ME),aj_⟩
 refine V 5 ?_;refine an J ?_ ?_<;>intro Rg
 have NV: ∀j,j<4->xj (o1+di+j)=D.getD ((cE+(5+o1+di))+j) 0:=λj hj=>(by rw[Ke _ I,show cE+5+(o1+di+j)=(cE+(5+o1+di))+j by omega]);refine V 3 ?_;refine dJ J J (aA (aAd (P:=(cE+(5+o1+di))) h (ar bF) I I NV) ?_);rintro e w1 ⟨rfl,h⟩;refine ah (eB J aj9) ?_;refine V 2 ?_;refine cV (cy (num (aa D (cE+(5+o1+di)) 4))) Ka ?_;intro w h;rw[NR]at h;exact aC ⟨aH 15,false,num (aa D (cE+(5+o1+di)) 4),aq,h,TC Rg aj,(λ_=>aa8 Rg aj),aj9⟩
 refine V 5 ?_;refine an J ?_ ?_<;>intro akh
 have NV: ∀j,j<8->xj (o1+di+j)=D.getD ((cE+(5+o1+di))+j) 0:=λj hj=>(by rw[Ke _ I,show cE+5+(o1+di+j)=(cE+(5+o1+di))+j by omega]);refine V 3 ?_;refine dJ J J (aA (aAe (P:=(cE+(5+o1+di))) h (ar bF) I I NV) ?_);rintro e w1 ⟨rfl,h⟩;refine V 2 ?_;refine cV (cy (num (aa D (cE+(5+o1+di)) 8))) Ka ?_;intro w h;rw[NR]at h;exact aC ⟨aH 16,false,num (aa D (cE+(5+o1+di)) 8),aq,h,TC akh aj,(λ_=>aa8 akh aj),NT aj⟩
 exfalso;omega
 rintro ρ w ⟨dF,rem,⟨SD,rfl⟩,h,aki,NO,aAy⟩;refine cD [(19,19),(294,298)] (λρ w=> ∃TK:Nat,Kn ρ [(19,cy TK)]/\H r w ((af sb [.slice iA D.length ic,R (cE+5+(o1+di+fw)),.int .i64 yS] 84)::(af br (au (HA x one z xj (decide (¬d&&&4=0)) dF rem xn Cc Ce Cf)) 81)::(wo,C wv 5)::L)/\(TK=if dC d=true then(num (aa D (cE+(5+o1+di)) fw)+(if fw=2 then 256 else 0))else qj xw)) ?_ ?_
 refine V 4 ?_;refine an J ?_ ?_<;>intro akj
 have jX:dC d=true:=xF akj;refine V 4 ?_;exact aO h J Ka (dI (aC ⟨aH 6,rem,aq,h,(by rw[ai jX];exact NO (by rw[aki,xF (by rw[TH];exact aAj hd jX)];rfl))⟩))
 have jX:dC d=false:=H3 akj;exact aQ ⟨aH 1,cJ,aq,h,(by rw[vx,jX];rfl)⟩
 rintro ρ w ⟨TK,⟨aat,rfl⟩,h,aAz⟩;have eN:(jk (D.drop cE)).1≠0:=λe=>hV (by rw[gp,aj2 I Kc (by rw[e];decide),e]);have lP:=aAi jZ NU I (λe=>e qu) eN;rw[<-aAz]at lP;obtain⟨lP,wH⟩:=lP;refine V 6 ?_;refine an J ?_ ?_<;>intro aIV
 exfalso;omega
 refine V 10 ?_;replace h:=h.zz [1] 0;refine V 3 ?_;rw[azY]at h;refine gU (.bool true) ?_;intro w h;rw[azZ]at h;refine V 6 ?_;refine gU (.bool true) ?_;intro w h;rw[aAk]at h;refine V 8 ?_;refine ah (wR J J) ?_;refine V 2 ?_;refine b7 ?_;intro w h;rw[aAl]at h;refine V 6 ?_;refine gU (aZ 1) ?_;intro w h;rw[az0]at h;refine V 6 ?_;refine gU (aZ 4) ?_;intro w h;rw[az1]at h;refine V 6 ?_;refine gU (aZ 8) ?_;intro w h;rw[az2]at h;refine V 6 ?_;refine gU (R 0) ?_;intro w h;rw[az3]at h;refine V 8 ?_;replace h:=h.zz [2,1] 0;refine b_ J J J ?_;rw[aAm (wo:=wo) hwA]at h;refine(ayM h kh nr wH).mono ?_;rintro e w1 ⟨rfl,wo2,wc2,wv2,h,MJ,aAA⟩;refine⟨_,J,?_⟩;refine V 7 ?_;refine gU (.slice none 0 0) ?_;intro w h;rw[aAn]at h;refine V 7 ?_;refine gU (.slice none 0 0) ?_;intro w h;rw[aAo]at h;refine V 7 ?_;refine gU (.slice none 0 0) ?_;intro w h;rw[aAp]at h;refine V 6 ?_;replace h:=h.zz [1,2,2] 0;exact⟨_,J,Or.inr (Or.inr ⟨J,cE,_,_,_,dF,rem,_,_,_,_,_,_,wo2,wc2,wv2,(num (aa D (cE+(5+o1+di)) fw)+(if fw=2 then 256 else 0)),TK,h,MJ,aAA,Be,I,h6,gp,Kc,(by rw[lP,aki,Bool.not_not,show cE+5+(o1+di+fw) -cE=5+o1+di+fw by omega]),wH,NO,aAy,aAu⟩)⟩
variable {A F0:List aD}{bo gI:List UInt8}{ic:Nat}
def TL(D:List UInt8)(hp:Nat)(xk:List UInt8)(v:Nat×List UInt8×Nat):Nat×List UInt8:=if v.1≠1 then(v.1,[])else DF D (hp+v.2.2) (xk++v.2.1)
theorem akk{D xk:List UInt8}{v:Nat×List UInt8×Nat}(h:v.1≠1):(TL D hp xk v).1=v.1:=by unfold TL;rw[ai h]
theorem akl{w m room:Nat}{E:List UInt8}: ∀f at_ s,(jI w m room E f at_ s).1=1->(jI w m room E f at_ s).2.1.out.length<=room
 |0,at_,s,h=>by simp[jI]at h
 | f+1,at_,s,h=>by
  rw[He]at h ⊢;obtain⟨_,h,e⟩:=vO h Hi;rw[e];clear e;obtain⟨_,h,e⟩:=vO h Hi;rw[e];clear e;obtain⟨_,h,e⟩:=vO h J_;rw[e];clear e;by_cases h4:(jx w m E s (num (aa E at_ 3)/2 % 4) (num (aa E at_ 3)/8) (at_+3)).1≠1
  rw[ai h4]at h;exact absurd h h4
  rw[ag h4]at h ⊢;obtain⟨hr,h,e⟩:=vO h J_;rw[e];clear e;by_cases h6:num (aa E at_ 3) % 2=1
  rw[ai h6];exact K3 hr
  rw[ag h6]at h ⊢;exact akl f _ _ h
theorem aAB{known:Bool}{x:Nat×Fs×Nat}(h:(pO E known size sum x).1=1):(pO E known size sum x).2.1=x.2.1.out:=by
 unfold pO at h ⊢;split at h
 rename_i hh;exact absurd h hh
 rename_i W;rw[ag W];split at h
 cases h
 rename_i h2;rw[ag h2];split at h
 rename_i h3;rw[ai h3];split at h
 cases h
 rename_i h4;rw[ag h4]
 rename_i h3;rw[ag h3]
theorem akm{p:Fr}{at_:Nat}{o:List UInt8}(h:p.Z8 f at_ s=(1,o,k)):o.length<=p.room:=by
 have W:(p.Z8 f at_ s).1=1:=(by rw[h]);have h2:=aAB W;have h3:=akl _ _ _ (ajY W).1;have e:(p.Z8 f at_ s).2.1=o:=(by rw[h]);rw[<-e];unfold Fr.Z8;unfold Fr.Z8 at h2;rw[h2];exact h3
def InF(D:List UInt8)(F:List aD)(x:cQ)(m:List Nat)(o0 o1 o2:Option Nat)(b0 b1 b2:List Bl)(wd:List UInt8)(pos:Nat)(gI:List UInt8):Prop:=
 x.one=true/\ ∃hp f at_ p s xk,Tl F x m o0 o1 o2 b0 b1 b2 wd p s/\gI=xk++s.out/\p.E=D.drop hp/\hp+at_=pos/\D.length<hp+(f+at_)/\p.room+xk.length<=4194304/\p.ak<=131072/\DF D 0 []=TL D hp xk (p.Z8 f at_ s)
def AL(D:List UInt8)(iA:Option Addr)(ic sb pos:Nat)(pr:Int)(ob dZ hO o0 o1 o2 kO lO wo:Option Nat)(bv kv lv wv:List Value)(cs:List de)(m:List Nat)(b0 b1 b2:List Bl)(G:List aD):List aD:=
 (some sb,C [.slice iA D.length ic,R (pos),.int .i64 pr] 84)::(ob,C (bv) 5)::(dZ,C (cU cs) 227)::(hO,C (List.map dk m) 174)::(o0,C (aX b0) 214)::(o1,C (aX b1) 214)::(o2,C (aX b2) 214)::(kO,C (kv) 5)::(lO,C (lv) 5)::(wo,C (wv) 5)::G
def jR(D:List UInt8)(iA:Option Addr)(ic sb:Nat)(F0 A:List aD)(x:cQ)(pos:Nat)(gI bo:List UInt8):Prop:=
 ∃(pr:Int) (ob dZ hO o0 o1 o2 kO lO wo:Option Nat) (uB kv lv m_:List Value) (cs:List de) (m:List Nat) (b0 b1 b2:List Bl) (wd:List UInt8) (G:List aD),
   A=AL D iA ic sb pos pr ob dZ hO o0 o1 o2 kO lO wo (List.map u8 bo++uB) kv lv (List.map u8 wd++m_) cs m b0 b1 b2 G/\x.sV= .iface 58 (.pointer (some ⟨sb,0,none⟩))/\pos<=D.length/\
   En x ob kO lO dZ hO o0 o1 o2 (List.map u8 bo++uB) kv lv cs m b0 b1 b2/\aaR x wo wd m_/\x.bN=bo.length/\bo.length<=4194304/\
   ((x.gG=false/\(x.one=true\/pos<D.length)/\gI.length<=4194304/\DF D 0 []=DF D pos gI)\/(x.gG=true/\InF D (G++F0) x m o0 o1 o2 b0 b1 b2 wd pos gI))
theorem aAC{D:List UInt8}{iA:Option Addr}{pos:Nat}(h:H r w ((af br (au x) 81)::(A++L)))(hS:jR D iA ic sb F0 A x pos gI bo)(TM:x.gG=true)(g8:Sub F0 L)(hG:Gl F0 aE aU)(hD:aP F0 (.slice iA D.length ic) D)(jP:D.length<=140737488355328)(hV:(DF D 0 []).1≠0):Calls PP 77 #[aW br] w λe w'=> ∃er,e= .returned er/\((er= .nilIface/\ ∃x' A' pos' out,H r w' ((af br (au x') 81)::(A'++L))/\jR D iA ic sb F0 A' x' pos' (gI++out) out/\x'.off=x.off/\pos+3<=pos')\/(Er aU er/\(DF D 0 []).1≠1/\ ∃Z,H r w' (Z++L))):=by
 obtain⟨pr,ob,dZ,hO,o0,o1,o2,kO,lO,wo,uB,kv,lv,m_,cs,m,b0,b1,b2,wd,G,rfl,pM,kP,hI,hW,iW,jG,qA⟩:=hS;rcases qA with qA| ⟨_,FY,hp,f,at_,p,s,xk,hFr,rfl,GN,DJ,hfu,oI,oQ,gp⟩
 rw[TM]at qA;cases qA.1
 have hVn:(p.Z8 f at_ s).1≠0:=λe=>hV (by rw[gp,akk (by rw[e];decide),e])
 cases f with
 |zero=>omega
 |succ f=>
 refine(ay' (F:=G++F0) (L:=G++L) h (Rh g8) (hG.sub (w7 G)) (hD.sub (w7 G)) pM jP GN DJ kP hI hW hFr I oQ hVn).mono ?_;rintro e w1 ⟨er,rfl,hh⟩;refine⟨er,J,?_⟩;rcases hh with⟨rfl,x',pos',lb,bH,out,sp,nC,jK,r7,m',uf,ug,uh,ui,uj,uk,yN,Eo,yO,Ep,mf,lj,NI,G',h,K9,TN,aAD,w3,vC,nz,akn⟩| ⟨Kf,bY,Z,h⟩
 refine Or.inl ⟨J,x',AL D iA ic sb pos' lb bH nC r7 uf uh uj yN yO mf (List.map u8 out++sp) Eo Ep (List.map u8 lj++NI) jK m' ug ui uk (G'++G),pos',out,?_,?_,?_,I⟩
 rw[<-cF]at h;exact h
 have hc:=w3;unfold yR at hc;simp only[pS]at hc;refine⟨lb,bH,nC,r7,uf,uh,uj,yN,yO,mf,sp,Eo,Ep,NI,jK,m',ug,ui,uk,lj,G'++G,J,hc.1.trans pM,nz,K9,TN,aAD,?_,?_⟩
 rcases akn with⟨_,hv⟩| ⟨_,s',BM,hF',_⟩
 have:=akm hv;rw[aF]at this;omega
 have:=hF'.ol;rw[BM,aF]at this;omega
 rcases akn with⟨zH,hv⟩| ⟨eZ,s',BM,hF',hv⟩
 refine Or.inl ⟨zH,Or.inl (hc.2.1.trans FY),by have:=akm hv;simp only[aF]at this ⊢;omega,?_⟩;rw[gp,hv];unfold TL;rw[ag (λe=>e J)];show DF D (hp+(pos'-hp)) _=_;rw[show hp+(pos'-hp)=pos' by omega,cF]
 refine Or.inr ⟨eZ.trans TM,hc.2.1.trans FY,hp,f,pos'-hp,p,s',xk,?_,?_,GN,I,I,oI,oQ,?_⟩
 rw[cF];exact hF'
 rw[BM,cF]
 rw[gp,hv]
 unfold yR at w3;simp only[pS]at w3;exact w3.2.2
 refine Or.inr ⟨Kf,by rw[gp,akk bY];exact bY,Z++G,?_⟩;rw[cF];exact h
theorem aAE{D:List UInt8}{iA:Option Addr}{pos:Nat}(h:H r w ((af br (au x) 81)::(A++L)))(hS:jR D iA ic sb F0 A x pos gI bo)(TM:x.gG=false)(g8:Sub F0 L)(hG:Gl F0 aE aU)(hD:aP F0 (.slice iA D.length ic) D)(jP:D.length<=140737488355328)(hV:(DF D 0 []).1≠0):Calls PP 76 #[aW br] w λe w'=> ∃er,e= .returned er/\((er= .iface 199 (.pointer (some aE))/\DF D 0 []=(1,gI)/\ ∃Z,H r w' (Z++L))\/(Er aU er/\(DF D 0 []).1≠1/\ ∃Z,H r w' (Z++L))\/(er= .nilIface/\ ∃x' A' pos',H r w' ((af br (au x') 81)::(A'++L))/\jR D iA ic sb F0 A' x' pos' gI bo/\x'.gG=true/\x'.off=x.off/\pos<=pos')):=by
 obtain⟨pr,ob,dZ,hO,o0,o1,o2,kO,lO,wo,uB,kv,lv,m_,cs,m,b0,b1,b2,wd,G,rfl,pM,kP,hI,hW,iW,jG,qA⟩:=hS;rcases qA with⟨_,FY,eo,gp⟩|qA;rotate_left
 rw[TM]at qA;cases qA.1
 obtain⟨NJ,Tq,NK⟩:=hW;obtain⟨Jy,Ec,hW3,hW4⟩:=NK;have W:=((h.mv 10).mv 2).mv 2;have rR: ∀B:List aD,Sub F0 (B++(G++L)):=λB=>g8.trans ((w7 G).trans (w7 B));have hL:=rR [(ob,C (List.map u8 bo++uB) 5),(dZ,C (cU cs) 227),(hO,C (List.map dk m) 174),(o0,C (aX b0) 214),(o1,C (aX b1) 214),(o2,C (aX b2) 214),(kO,C (kv) 5),(lO,C (lv) 5)];rw[gp]at hV;refine(aAq (wo:=wo) (out:=gI) W (hG.sub hL) (hD.sub hL) pM jP kP NJ (by rw[Ec,eC]) hW4 FY hV).mono ?_;rintro e w1 ⟨er,rfl,hh⟩;refine⟨er,J,?_⟩;rcases hh with⟨rfl,hd,Z,h⟩| ⟨Kf,bY,Z,h⟩| ⟨rfl,hp,pos',lb,sm,dF,rem,z,sc,xl,xv,xb,xc,mf,vN,Aq,size,cJ,h,dE,hJ,tZ,vC,nz,aAF,Kb,jZ,vx,NO,Nw,Bt⟩
 exact Or.inl ⟨J,gp.trans hd,Z++[(ob,C (List.map u8 bo++uB) 5),(dZ,C (cU cs) 227),(hO,C (List.map dk m) 174),(o0,C (aX b0) 214),(o1,C (aX b1) 214),(o2,C (aX b2) 214),(kO,C (kv) 5),(lO,C (lv) 5)]++G,by rw[cF,cF];exact h⟩
 exact Or.inr (Or.inl ⟨Kf,by rw[gp];exact bY,Z++[(ob,C (List.map u8 bo++uB) 5),(dZ,C (cU cs) 227),(hO,C (List.map dk m) 174),(o0,C (aX b0) 214),(o1,C (aX b1) 214),(o2,C (aX b2) 214),(kO,C (kv) 5),(lO,C (lv) 5)]++G,by rw[cF,cF];exact h⟩)
 refine Or.inr (Or.inr ⟨J,WX (HY (HA x true z sc sm dF rem xl xv xb xc) true 1 4 8 0 (eX (eX (eX x.st 0 (.slice none 0 0)) 1 (.slice none 0 0)) 2 (.slice none 0 0))) cJ mf 0 vN 0,AL D iA ic sb pos' lb ob dZ hO o0 o1 o2 kO lO mf (List.map u8 bo++uB) kv lv (List.map u8 []++Aq) cs m b0 b1 b2 G,pos',?_,?_,J,J,?_⟩);rotate_left
 refine⟨lb,ob,dZ,hO,o0,o1,o2,kO,lO,mf,uB,kv,lv,Aq,cs,m,b0,b1,b2,[],G,J,pM,nz,⟨hI.b,hI.k,hI.l,hI.u,hI.s⟩,⟨J,J,by simp,by show([]++Aq).length=vN*1;rw[List.nil_append,eC];exact dE,bP _,hJ⟩,iW,jG,Or.inr ⟨J,J,hp,(D.drop hp).length+1,pos'-hp,
   Fr.mk cJ (if ¬byte (D.drop hp) 4&&&32=0 then 131072 else min 131072 cJ) (4194304-gI.length) (D.drop hp) (!dF) size sm,DY,gI,?_,?_,J,I,?_,by show 4194304-gI.length+gI.length<=4194304;omega,?_,?_⟩⟩
 exact⟨⟨J,⟨J,J,J⟩,⟨J,λk hk t ht=>by rcases(I:k=0\/k=1\/k=2)with rfl|rfl|rfl<;>cases ht⟩,⟨J,J,J⟩,by decide⟩,⟨J,vx⟩,⟨bP _,aR _,λ_=>rfl⟩,⟨[],J,Or.inl J⟩,(Bool.not_not dF).symm,λhk=>NO (by cases dF<;>simp_all),Nw,J,Bt,by decide⟩
 show gI=gI++[];rw[dP]
 rw[bV];omega
 show(if _ then _ else _)<=_;split
 exact aR _
 exact O6 _ _
 rw[gp,aAF,aa2 I,aj1 I Kb,ajx (by rw[jZ]),jZ];rfl
 omega
 exact h.perm (((si (l₁:=[(ob,C (List.map u8 bo++uB) 5),(dZ,C (cU cs) 227),(hO,C (List.map dk m) 174),(o0,C (aX b0) 214),(o1,C (aX b1) 214),(o2,C (aX b2) 214),(kO,C (kv) 5),(lO,C (lv) 5)]) (a:=(mf,C Aq 5)) (l₂:=G++L)).symm.cons _).cons _)
variable {b:Bool}
theorem aba{x:Operand}{er n:Value}{ok:Bool}(hx:Env.ev ρ x=er)(W:ok=true->er= .nilIface)(h2:ok=false-> ∃a b,er= .iface a b)(hn:n= .nilIface):run PP ρ (.binOp .neq 103 x (.const n) T') ty w= .ok (.value (.bool (!ok))) w:=by
 cases ok
 obtain⟨a,b,e⟩:=h2 J;exact I6 (hx.trans e) hn
 exact wT (hx.trans (W J)) hn
theorem Er.TO{e:Value}(h:Er aU e): ∃a b,e= .iface a b:=by
 rcases h with⟨b,rfl⟩|rfl
 exact⟨_,_,J⟩
 exact⟨_,_,J⟩
theorem abb{P Q:Prop}(h:P\/Q): ∃ok:Bool,(ok=true->P)/\(ok=false->Q):=by
 rcases h with h|h
 exact⟨true,λ_=>h,λe=>by cases e⟩
 exact⟨false,λe=>(by cases e),λ_=>h⟩
theorem TP(h:(!b)=true):b=false:=by cases b<;>simp_all
theorem EA(h:(!b)=false):b=true:=by cases b<;>simp_all
theorem jR.bn{D:List UInt8}{iA:Option Addr}{pos:Nat}(h:jR D iA ic sb F0 A x pos gI bo):x.bN=bo.length:=by
 obtain⟨_,_,_,_,_,_,_,_,_,_,_,_,_,_,_,_,_,_,_,_,_,_,_,_,_,_,h,_⟩:=h;exact h
theorem jR.bl{D:List UInt8}{iA:Option Addr}{pos:Nat}(h:jR D iA ic sb F0 A x pos gI bo):bo.length<=4194304:=by
 obtain⟨_,_,_,_,_,_,_,_,_,_,_,_,_,_,_,_,_,_,_,_,_,_,_,_,_,_,_,h,_⟩:=h;exact h
theorem jR.pl{D:List UInt8}{iA:Option Addr}{pos:Nat}(h:jR D iA ic sb F0 A x pos gI bo):pos<=D.length:=by
 obtain⟨_,_,_,_,_,_,_,_,_,_,_,_,_,_,_,_,_,_,_,_,_,_,_,h,_⟩:=h;exact h
theorem jR.tl{D:List UInt8}{iA:Option Addr}{pos:Nat}(h:jR D iA ic sb F0 A x pos gI bo):gI.length<=8388608:=by
 obtain⟨_,_,_,_,_,_,_,_,_,_,_,_,_,_,_,_,_,_,_,_,_,_,_,_,_,_,_,_,qA⟩:=h;rcases qA with⟨_,_,h,_⟩| ⟨_,_,hp,f,at_,p,s,xk,hF,rfl,_,_,_,hr,_⟩
 omega
 have:=hF.ol;rw[aF];omega
theorem jR.ako{D:List UInt8}{iA:Option Addr}{pos:Nat}(h:jR D iA ic sb F0 A x pos gI bo):jR D iA ic sb F0 A {x with off:=n} pos gI bo:=by
 obtain⟨pr,ob,dZ,hO,o0,o1,o2,kO,lO,wo,uB,kv,lv,m_,cs,m,b0,b1,b2,wd,G,hA,pM,kP,hI,hW,iW,jG,qA⟩:=h;refine⟨pr,ob,dZ,hO,o0,o1,o2,kO,lO,wo,uB,kv,lv,m_,cs,m,b0,b1,b2,wd,G,hA,pM,kP,⟨hI.b,hI.k,hI.l,hI.u,hI.s⟩,⟨hW.a,hW.n,hW.ok⟩,iW,jG,?_⟩;rcases qA with qA| ⟨W,h2,hp,f,at_,p,s,xk,hF,qA⟩
 exact Or.inl qA
 exact Or.inr ⟨W,h2,hp,f,at_,p,s,xk,⟨⟨hF.rel.tr,hF.rel.tb,hF.rel.ok,hF.rel.a,hF.rel.bd⟩,hF.wS,hF.wl,hF.pre,hF.dF,hF.rem,hF.rm,hF.sm,hF.xi,hF.ol⟩,qA⟩
theorem aAG{D:List UInt8}{iA:Option Addr}{pos:Nat}(h:H r w ((af br (au x) 81)::(A++L)))(hS:jR D iA ic sb F0 A x pos gI bo)(g8:Sub F0 L)(hG:Gl F0 aE aU)(hD:aP F0 (.slice iA D.length ic) D)(jP:D.length<=140737488355328)(hV:(DF D 0 []).1≠0):Calls PP 67 #[aW br] w λe w'=> ∃er,e= .returned er/\((er= .nilIface/\ ∃x' A' pos' out,H r w' ((af br (au x') 81)::(A'++L))/\jR D iA ic sb F0 A' x' pos' (gI++out) out/\x'.off=x.off/\pos+3<=pos')\/(er= .iface 199 (.pointer (some aE))/\DF D 0 []=(1,gI)/\ ∃Z,H r w' (Z++L))\/(Er aU er/\(DF D 0 []).1≠1/\ ∃Z,H r w' (Z++L))):=by
 refine gD Tryz.func67 Tryz.ntmps67 [2] ?_;refine V 4 ?_;refine cD [(2,13)] (λρ w=> ∃xx:cQ,∃AA:List aD,∃pp:Nat,Kn ρ []/\H r w ((af br (au xx) 81)::(AA++L))/\(jR D iA ic sb F0 AA xx pp gI bo)/\(xx.gG=true)/\(xx.off=x.off)/\(pos<=pp)) ?_ ?_
 refine V 6 ?_;refine ah (j8 J) (aC (eA J ?_ ?_))<;>intro xY
 refine V 3 ?_;refine dJ J J (aA (aAE h hS (TP xY) g8 hG hD jP hV) ?_);rintro e w1 ⟨er,rfl,hh⟩;refine(abb (Or.comm.1 (or_assoc.2 hh))).elim λok xh=>?_;have cS:=xh.1;have ua:=xh.2;clear hh xh;refine V 5 ?_;refine ah (aba (er:=er) J (λe=>(cS e).1) (λe=>(ua e).elim (λq=>Exists.intro _ ⟨_,q.1⟩) (λq=>q.1.TO)) J) (aC (eA J ?_ ?_))<;>intro zS
 refine V 6 ?_;exact⟨_,J,(ua (TP zS)).elim (λq=>Or.inr (Or.inl q)) (λq=>Or.inr (Or.inr q))⟩
 refine AW (cS (EA zS)).2 λx1 A1 mK q3=>?_;have h:=q3.1;exact aQ ⟨aH 10,x1,A1,mK,aq,h,q3.2.1,q3.2.2.1,q3.2.2.2.1,q3.2.2.2.2⟩
 exact aQ ⟨aH 5,x,A,pos,aq,h,hS,EA xY,J,aR _⟩
 rintro ρ w ⟨xx,AA,pp,⟨mC,rfl⟩,h,lQ,rP,oU,nz⟩;refine V 3 ?_;refine dJ J J (aA (aAC h lQ rP g8 hG hD jP hV) ?_);rintro e w1 ⟨er,rfl,hh⟩;refine V 3 ?_;exact⟨_,J,hh.elim (λq=>Or.inl ⟨q.1,q.2.elim λx3 q=>q.elim λA3 q=>q.elim λp3 q=>q.elim λo3 q=>⟨x3,A3,p3,o3,q.1,q.2.1,q.2.2.1.trans oU,aI (Nat.add_le_add_right nz 3) q.2.2.2⟩⟩) (λq=>Or.inr (Or.inr q))⟩
theorem aAH{D:List UInt8}{iA:Option Addr}{pos:Nat}{dl:List UInt8}(h:H r w ((af br (au x) 81)::(A++L)))(hS:jR D iA ic sb F0 A x pos gI bo)(j1:gI=dl++bo.drop x.off)(nZ:x.off<=bo.length)(g8:Sub F0 L)(hG:Gl F0 aE aU)(hD:aP F0 (.slice iA D.length ic) D)(jP:D.length<=140737488355328)(hV:(DF D 0 []).1≠0):Calls PP 48 #[aW br] w λe w'=> ∃er,e= .returned er/\((er= .nilIface/\ ∃x' A' pos' qB kS,H r w' ((af br (au x') 81)::(A'++L))/\jR D iA ic sb F0 A' x' pos' qB kS/\qB=dl++kS.drop x'.off/\x'.off<kS.length/\(pos+3<=pos'\/(pos'=pos/\kS.drop x'.off=bo.drop x.off)))\/(er= .iface 199 (.pointer (some aE))/\DF D 0 []=(1,dl)/\ ∃Z,H r w' (Z++L))\/(Er aU er/\(DF D 0 []).1≠1/\ ∃Z,H r w' (Z++L))):=by
 refine gD Tryz.func48 Tryz.ntmps48 [2] ?_;refine V 6 ?_;refine bQ (σ:=cQ×List aD×Nat×List UInt8×List UInt8) [(2,21)] (λ⟨xx,AA,pp,tt,bb⟩ ρ w=>Kn ρ []/\H r w ((af br (au xx) 81)::(AA++L))/\(jR D iA ic sb F0 AA xx pp tt bb)/\(tt=dl++bb.drop xx.off)/\(xx.off<=bb.length)/\(pos+3<=pp\/(pp=pos/\bb.drop xx.off=bo.drop x.off))) (λ⟨xx,AA,pp,tt,bb⟩=>D.length-pp) (x,A,pos,gI,bo) ⟨aq,h,hS,j1,nZ,(Or.inr ⟨J,J⟩)⟩ ?_;rintro⟨xx,AA,pp,tt,bb⟩ ρ w ⟨⟨k5,rfl⟩,h,lQ,oV,oU,Be⟩;have iW:=lQ.bn;refine a9 (a9 (bL h [0,4,8,16,20,24,13,29,32,36] ?_));intro w h;refine av 11 ?_;refine an J ?_ ?_<;>intro L5
 refine V 6 ?_;refine dJ J J (aA (aAG h lQ g8 hG hD jP hV) ?_);rintro e w1 ⟨er,rfl,hh⟩;refine(abb hh).elim λok xh=>?_;have cS:=xh.1;have ua:=xh.2;clear hh xh;refine V 5 ?_;refine ah (aba (er:=er) J (λe=>(cS e).1) (λe=>(ua e).elim (λq=>Exists.intro _ ⟨_,q.1⟩) (λq=>q.1.TO)) J) (aC (eA J ?_ ?_))<;>intro mz
 refine V 6 ?_;exact⟨_,J,(ua (TP mz)).elim (λq=>Or.inr (Or.inl ⟨q.1,by rw[q.2.1,oV,xG I,dP],q.2.2⟩)) (λq=>Or.inr (Or.inr q))⟩
 refine kC (cS (EA mz)).2 λx1 A1 p1 o1 q1=>?_;have h:=q1.1;refine V 5 ?_;refine gU (R 0) ?_;intro w h;rw[YZ]at h;exact aC ⟨aH 19,(({x1 with off:=0},A1,p1,tt++o1,o1)),(by have:=q1.2.2.2;have:=q1.2.1.pl;dsimp only;omega),aq,h,q1.2.1.ako,(by rw[oV,xG I,dP];rfl),bP _,(Or.inl (by have:=q1.2.2.2;omega))⟩
 refine V 6 ?_;exact⟨_,J,Or.inl ⟨J,xx,AA,pp,tt,bb,h,lQ,oV,I,Be⟩⟩
theorem H.akp{G:List aD}{e e':aD}(h:H r w (e::e'::(G++F))):H r w (e::(G++e'::F)):=h.perm (List.perm_middle.symm.cons e)
theorem jR.sl{D:List UInt8}{iA:Option Addr}{pos:Nat}(h:jR D iA ic sb F0 A x pos gI bo):aP A (.slice x.bA x.bN x.bC) bo:=by
 obtain⟨pr,ob,dZ,hO,o0,o1,o2,kO,lO,wo,uB,kv,lv,m_,cs,m,b0,b1,b2,wd,G,rfl,pM,kP,hI,hW,iW,jG,qA⟩:=h;obtain⟨W,h2,h3⟩:=hI.b;rw[aF,bX]at h2;rw[W,iW]
 exact(aP.own (F:=[]) (T:=5) (ob:=ob) (c:=x.bC) (X:=bo) (sp:=uB) ⟨by simp,by simp;omega,I,h3⟩).sub (λe he=>by
   rcases je.1 he with rfl
   exact ar bF)
theorem aAI{bb:List UInt8}{off:Nat}(hm:m=bb.length):(bb.drop off).take n++bb.drop (off+min (m-off) n)=bb.drop off:=by
 subst hm;rw[<-j7]
 have e:(bb.drop off).take n=(bb.drop off).take (min (bb.length-off) n):=by
  rcases Nat.le_total (bb.length-off) n with h|h
  rw[mx h,jf (by rw[bV];omega),jf (by rw[bV];omega)]
  rw[EU h]
 rw[e,xD]
theorem aAJ{D dl:List UInt8}{iA:Option Addr}{bp pos:Nat}{pl:List Value}(h:H r w ((af br (au x) 81)::(af bp (pl) 5)::(A++L)))(hn:pl.length=n)(L3:n<=4194304)(hS:jR D iA ic sb F0 A x pos gI bo)(j1:gI=dl++bo.drop x.off)(nZ:x.off<=bo.length)(g8:Sub F0 L)(hG:Gl F0 aE aU)(hD:aP F0 (.slice iA D.length ic) D)(jP:D.length<=140737488355328)(hV:(DF D 0 []).1≠0):Calls PP 37 #[aW br,cf bp n n] w λe w'=> ∃er k,e= .returned (.tuple #[R k,er])/\((er= .nilIface/\ ∃x' A' pos' qB kS X,H r w' ((af br (au x') 81)::(af bp (cT pl 0 (List.map u8 X)) 5)::(A'++L))/\jR D iA ic sb F0 A' x' pos' qB kS/\qB=(dl++X)++kS.drop x'.off/\x'.off<=kS.length/\k=X.length/\k<=n/\(0<n->0<k)/\(pos+3<=pos'\/(pos'=pos/\bo.drop x.off=X++kS.drop x'.off)))\/(k=0/\(∃Z,H r w' ((af bp (pl) 5)::(Z++L)))/\((er= .iface 199 (.pointer (some aE))/\DF D 0 []=(1,dl))\/(Er aU er/\(DF D 0 []).1≠1)))):=by
 refine gS Tryz.func37 Tryz.ntmps37 [4,5] ?_;refine V 9 ?_;refine dJ J J (aA (aAH (L:=(af bp (pl) 5)::L) h.akp hS j1 nZ (g8.trans (Sub.cons _ _)) hG hD jP hV) ?_);rintro e w1 ⟨er,rfl,hh⟩;refine(abb hh).elim λok xh=>?_;have cS:=xh.1;have ua:=xh.2;clear hh xh;refine V 5 ?_;refine ah (aba (er:=er) J (λe=>(cS e).1) (λe=>(ua e).elim (λq=>Exists.intro _ ⟨_,q.1⟩) (λq=>q.1.TO)) J) (aC (eA J ?_ ?_))<;>intro Dm
 refine V 7 ?_;exact⟨_,0,J,(ua (TP Dm)).elim (λq=>Or.inr ⟨J,q.2.2.elim (λZ hZ=>⟨Z,hZ.grow⟩),Or.inl ⟨q.1,q.2.1⟩⟩) (λq=>Or.inr ⟨J,q.2.2.elim (λZ hZ=>⟨Z,hZ.grow⟩),Or.inr ⟨q.1,q.2.1⟩⟩)⟩
 refine adU ((cS (EA Dm)).2) λxx AA pp tt bb q1=>?_;have h:=q1.1.IZ;have lQ:=q1.2.1;have iW:=lQ.bn;have jG:=lQ.bl;have oU:=q1.2.2.2.1;have a8:=lQ.sl.len;refine aQ (a9 (bL h [0,4,8,12,20,24,28,17,33,36,43,44] ?_));intro w h;refine av 9 ?_;refine aw J (iY J J I I) (F8 (i:=1) (F:=AA) (X:=bb.drop xx.off) J h J J J (λ_=>rfl) (aP.drop lQ.sl I) (λe he=>ar (ar (ni _ he))) I J ?_);intro w h;dsimp only[List.set]at h;refine eY J (cm ?_);refine V 10 ?_;refine gU (R (xx.off+min (xx.bN-xx.off) n)) ?_;intro w h;rw[YZ]at h;refine V 8 ?_;have Cg:=aAI (off:=xx.off) (n:=n) iW;have hXl:min (xx.bN-xx.off) n=((bb.drop xx.off).take n).length:=(by rw[gk,bV,Nat.min_comm,iW]);exact⟨_,min (xx.bN-xx.off) n,J,Or.inl ⟨J,{xx with off:=xx.off+min (xx.bN-xx.off) n},AA,pp,tt,bb,(bb.drop xx.off).take n,h,lQ.ako,(by rw[cF];exact q1.2.2.1.trans (b8 (dl++ ·) Cg.symm)),(by show xx.off+min (xx.bN-xx.off) n<=_;omega),hXl,I,I,q1.2.2.2.2.elim Or.inl (λq=>Or.inr ⟨q.1,q.2.symm.trans Cg.symm⟩)⟩⟩
end Go.Z
