/- Part 13 of the proof. -/
import Derived.Test.YtmgkiicjpmihfaaGreatDoorQL
set_option linter.all false
set_option maxRecDepth 20000
set_option maxHeartbeats 400000000
namespace Go.Z
section
variable {size high log:Nat}{ex:List Nat}{cs:List de}{shares:List Int}
theorem alk(hl:5<=log/\log<=9)(hc:cs.length=2^log): ∀{K k:Nat},k<K->K<=2^log->pos (2^log) k<high->((kD (2^log) high ex cs K).getD (pos (2^log) k) default).sym=ex.getD (iQ (2^log) high k) 0
 |0,k,h,_,_=>absurd h (nP _)
 | K+1,k,h,hK,hp=>by
  rw[kD];rcases dh k K with h'|h'
  have ih:=alk hl hc h' I hp;split
  rw[eE,ag]
  exact ih
  rintro⟨e,_⟩;have:=P7 hl (k:=K) (k':=k) I I e;omega
  exact ih
  have e:k=K:=I;subst e;rw[ai hp,eE,ai ⟨J,by rw[LO,hc];exact u_ (ep _)⟩]
theorem alm: ∀K,((List.range K).filter λk=>decide (pos size k<high)).map (iQ size high)=List.range (iQ size high K)
 |0=>rfl
 | K+1=>by
  rw[pU,Pg,f_,alm K,iQ];by_cases h:pos size K<high
  rw[ai h,pU];simp[h]
  rw[ag h];simp[h]
theorem aln: ∀(n m:Nat),m<=n->(List.range n).filter (λi=>decide (i<m))=List.range m
 | 0, m, h => by have:m=0:=I; subst this;rfl
 | n+1,m,h=>by
   rw[pU,Pg]
   rcases dh n m with h'|h'
   . have e:m=n+1:=I
     subst e
     rw[List.filter_eq_self.2 (λa ha=>by have:=oX.1 ha;simp;omega),pU];simp
   . rw[aln n m h']
     have: ¬n<m:=I
     simp[this]
theorem aCA: ∀(l:List Nat) (s:Nat),(List.range l.length).countP (λj=>decide (l.getD j 0=s))=l.countP (λx=>decide (x=s)):=by
 intro l s
 have:l=(List.range l.length).map (λj=>l.getD j 0):=by
  apply oF;intro i;by_cases h:i<l.length
  simp[h]
  rw[gP I,gP (by simp;omega)]
 (conv=>rhs;rw[this,OX]);rfl
theorem alo{s:Nat}: ∀i,(eU shares i).countP (λx=>decide (x=s))=if s<i then(shares.getD s 0).toNat else 0
 |0=>rfl
 | i+1=>by
  rw[eU,OV,alo i,List.countP_replicate];by_cases h:s=i
  subst h;simp
  have: ¬i=s:=λe=>h e.symm;have e0:(if decide (i=s)=true then(shares.getD i 0).toNat else 0)=0:=ag (by simp[this]);rw[e0,kU];by_cases h2:s<i
  rw[ai h2,ai I]
  rw[ag h2,ag I]
def Cl(shares:List Int)(log x:Nat):Nat:=((spread shares log).getD x default).sym
def uC(shares:List Int)(log s i:Nat):Nat:=(List.range i).countP (λx=>decide (Cl shares log x=s))
theorem alp(shares:List Int)(log s i:Nat):uC shares log s (i+1)=uC shares log s i+(if Cl shares log i=s then 1 else 0):=by
 unfold uC;rw[pU,OV];simp[OW]
theorem aCB(h:gW shares log){s:Nat}(hs:s<shares.length):uC shares log s (Go.Z.high shares log)=(shares.getD s 0).toNat:=by
 have hh:=h.wz;have hp:(((List.range (2^log)).filter λk=>decide (pos (2^log) k<Go.Z.high shares log)).map (pos (2^log))).Perm (List.range (Go.Z.high shares log)):=(by have W:=(aex h.lZ).filter (λx=>decide (x<Go.Z.high shares log));rw[aln _ _ hh,List.filter_map]at W;exact W);unfold uC;rw[<-hp.countP_eq,OX]
 have e1:((List.range (2^log)).filter λk=>decide (pos (2^log) k<Go.Z.high shares log)).countP ((λx=>decide (Cl shares log x=s))∘pos (2^log))=
     ((List.range (2^log)).filter λk=>decide (pos (2^log) k<Go.Z.high shares log)).countP ((λj=>decide ((eU shares shares.length).getD j 0=s))∘iQ (2^log) (Go.Z.high shares log)):=by
   apply List.countP_congr
   intro k hk
   rw[OO,oX]at hk
   have nz:pos (2^log) k<Go.Z.high shares log:=tf hk.2
   have:=alk (high:=Go.Z.high shares log) (ex:=eU shares shares.length) (cs:=top (2^log) log shares (List.replicate (2^log) default) shares.length) h.lZ (by rw[yg];simp) hk.1 (aR _) nz
   show decide (Cl shares log (pos (2^log) k)=s)=true↔decide ((eU shares shares.length).getD (iQ (2^log) (Go.Z.high shares log) k) 0=s)=true
   unfold Cl spread
   rw[this]
 rw[e1,<-OX,alm,LN h.lZ hh,h.P8,aCA,alo,ai hs]
theorem alq{n s c:Nat}: ∀{i:Nat},c<uC shares log s i-> ∃x,x<i/\Cl shares log x=s/\uC shares log s x=c
 |0,h=>absurd h (nP _)
 | i+1,h=>by
  rw[alp]at h;rcases dh c (uC shares log s i)with h'|h'
  obtain⟨x,W,h2,h3⟩:=alq (n:=n) h';exact⟨x,I,h2,h3⟩
  by_cases e:Cl shares log i=s
  rw[ai e]at h;exact⟨i,E7 _,e,I⟩
  rw[ag e]at h;omega
theorem alr(h:gW shares log){s:Nat}(hs:s<shares.length): ∀i,i<=Go.Z.high shares log->(fin log shares (spread shares log) i).1.getD s 0=shares.getD s 0+((uC shares log s i:Nat):Int)
 |0,_=>by simp[fin,uC]
 | i+1,hi=>by
  have ih:=alr h hs i I;have dd:((fin log shares (spread shares log) i).2.getD i default)=(spread shares log).getD i default:=zt (aR _);rw[fin];simp only;rw[dd,eE,alp];have hl:=(zr log shares (spread shares log) i).1;by_cases e:Cl shares log i=s
  have e':((spread shares log).getD i default).sym=s:=e;rw[ai ⟨e',by rw[e',hl];exact hs⟩,ai e,e',ih];omega
  have e': ¬((spread shares log).getD i default).sym=s:=e;rw[ag (λz=>e' z.1),ag e,ih,kU]
theorem als{x:Nat}{cs:List de}: ∀{i:Nat},x<i->(fin log shares cs i).2.getD x default=(fin log shares cs (x+1)).2.getD x default
 |0,h=>absurd h (nP _)
 | i+1,h=>by
  rcases dh x i with h'|h'
  . rw[<-als h'];(conv=>lhs;rw[fin]);simp only;rw[eE,ag I]
  have:x=i:=I;subst this;rfl
theorem aCC(h:gW shares log){x:Nat}(hx:x<Go.Z.high shares log){s:Nat}(hs:Cl shares log x=s)(hl:s<shares.length):(cY shares log).getD x default=⟨s,gK log (shares.getD s 0+((uC shares log s x:Nat):Int)).toNat,(shares.getD s 0+((uC shares log s x:Nat):Int)).toNat*2^gK log (shares.getD s 0+((uC shares log s x:Nat):Int)).toNat-2^log⟩:=by
 unfold cY;rw[als hx,fin];simp only;have dd:((fin log shares (spread shares log) x).2.getD x default)=(spread shares log).getD x default:=zt (aR _);have fO:x<(fin log shares (spread shares log) x).2.length:=(by rw[(zr _ _ _ _).2,LQ];exact ry hx h.wz);have e':((spread shares log).getD x default).sym=s:=hs;rw[dd,eE,ai ⟨J,fO⟩,e',alr h hl x I]
theorem abJ{s:Nat}(h:shares.getD s 0= -1):neg shares (s+1)=neg shares s+1:=by
 (conv=>lhs;unfold neg);rw[ai h]
theorem alu{size:Nat}{cs:List de}: ∀{i s:Nat},s<i->shares.getD s 0= -1->i<=shares.length->neg shares i<=size->cs.length=size->(top size log shares cs i).getD (size-neg shares (s+1)) default=⟨s,log,0⟩
 |0,s,h,_,_,_,_=>absurd h (nP _)
 | i+1,s,h,hs,hi,hn,hc=>by
  have W:= @zq shares (s+1) (i+1) I;have h3:= @zq shares i (i+1) I;have e1:=abJ hs;rw[top];rcases dh s i with h'|h'
  have ih:=alu (size:=size) (cs:=cs) h' hs I I hc;have h2:= @zq shares (s+1) i I;by_cases e:shares.getD i 0= -1
  have e2:=abJ e;rw[ai e,eE,ag I];exact ih
  rw[ag e];exact ih
  have:s=i:=I;subst this;rw[ai hs,eE,ai ⟨J,by rw[yg,hc];omega⟩]
theorem aCD(h:gW shares log){s:Nat}(hl:s<shares.length)(hs:shares.getD s 0= -1):2^log-neg shares (s+1)<2^log/\(cY shares log).getD (2^log-neg shares (s+1)) default=⟨s,log,0⟩:=by
 have W:= @zq shares (s+1) shares.length I;have e1:=abJ hs;have vj:=h.sum;have hx:Go.Z.high shares log<=2^log-neg shares (s+1):=(by unfold Go.Z.high;omega);refine⟨I,?_⟩;unfold cY;rw[zt hx];unfold spread;rw[LP hx];exact alu hl hs (aR _) I (by simp)
theorem aCE{T b:Nat}(hT:T≠0)(hb:b<=T.log2):(T/2^b).log2=T.log2-b:=by
 have W:=HU hT;have h2:= @zb T;have hd:T/2^b≠0:=(by have:2^b<=T:=aI (dp aj hb) W;have:=OZ this (ep b);omega);have e1:2^(T.log2-b)<=T/2^b:=(by rw[H5 (ep b),<-ks,Nat.sub_add_cancel hb];exact W);have e2:T/2^b<2^(T.log2-b+1):=(by rw[O7 (ep b),<-ks,show T.log2-b+1+b=T.log2+1 by omega];exact h2);have a1:=(H4 hd).2 e1;have a2:=(qI hd).2 e2;omega
theorem alv{p:Nat}(hp:0<p): ∀(k T:Nat),p<=T->T<2^(k+1)*p-> ∃b,b<=k/\p<=T/2^b/\T/2^b<2*p
 |0,T,W,h2=>⟨0,aR _,by simpa using W,by simpa using h2⟩
 | k+1,T,W,h2=>by
  by_cases h:T<2*p
  exact⟨0,bP _,by simpa using W,by simpa using h⟩
  have h3:p<=T/2:=I;have h4:T/2<2^(k+1)*p:=(by have e:2^(k+1+1)*p=2*(2^(k+1)*p):=(by rw[jT,iu (2^(k+1)) 2,tg]);omega);obtain⟨b,hb,h5,h6⟩:=alv hp k (T/2) h3 h4;refine⟨b+1,I,?_,?_⟩
  rw[EZ,<-sk];exact h5
  rw[EZ,<-sk];exact h6
theorem aCF(h:gW shares log){s:Nat}(hl:s<shares.length)(hs:shares.getD s 0≠0){to:Nat}(ht:to<2^log): ∃i,i<(cY shares log).length/\((cY shares log).getD i default).sym=s/\((cY shares log).getD i default).base<=to/\to<((cY shares log).getD i default).base+2^((cY shares log).getD i default).bits:=by
 have pt:=h.lo s;by_cases hn:shares.getD s 0= -1
 obtain⟨W,h2⟩:=aCD h hl hn;exact⟨_,by rw[zu];exact W,by rw[h2],by rw[h2];exact bP _,by rw[h2];simpa using ht⟩
 obtain⟨p,hp⟩: ∃p:Nat,shares.getD s 0=(p:Int):=⟨(shares.getD s 0).toNat,I⟩;have tZ:0<p:=I;have zD:=h.hi s;have fF:p<=2^log:=(by rw[hp]at zD;exact_mod_cast zD);have rT:(to+2^log).log2=log:=(by have e1:=(H4 (show to+2^log≠0 by have:=ep log;omega)).2 (I:2^log<=to+2^log);have e2:=(qI (show to+2^log≠0 by have:=ep log;omega)).2 (show to+2^log<2^(log+1) by rw[jT];omega);omega)
 obtain⟨b,hb,W,h2⟩:=alv tZ log (to+2^log) I (by
   have e:2^(log+1)*1<=2^(log+1)*p:=xE _ tZ
   have:2^(log+1)=2*2^log:=by rw[jT,iu]
   omega)
 obtain⟨x,hx,hxs,hxc⟩:=alq (n:=0) (shares:=shares) (log:=log) (s:=s) (c:=(to+2^log)/2^b-p) (i:=Go.Z.high shares log) (by rw[aCB h hl,hp,VI];omega);have hc:=aCC h hx hxs hl;have vJ:(shares.getD s 0+((uC shares log s x:Nat):Int)).toNat=(to+2^log)/2^b:=(by rw[hp,hxc];omega);have JH:gK log ((to+2^log)/2^b)=b:=(by unfold gK;rw[aCE (by have:=ep log;omega) (by rw[rT];exact hb),rT];omega);rw[vJ,JH]at hc;have BI:=K7 (to+2^log) (2^b);have oV:=dH (to+2^log) (ep b);rw[iu]at BI;refine⟨x,by rw[zu];exact ry hx h.wz,by rw[hc],?_,?_⟩
 rw[hc];dsimp only;omega
 rw[hc];dsimp only;omega
end
end Go.Z
namespace Go.Z
open Go Go.Proofs
variable {to:Int}{cs:List de}{L:List aD}{P:List Int}{S Ws:List Nat}{M log:Nat}{r:dQ}{w:World}
theorem vP.ok(h:vP S M log P)(hl:5<=log/\log<=9)(hM:M<=256):gW P log:=
 gW.of hl (aI h.len hM) (λp hp=>by obtain⟨i,hi,rfl⟩:=CD hp;have:=h.lo i;rw[bS,gv hi]at this;exact this) h.sum
structure Oc(Ws:List Nat)(lg:Nat)(P:List Int)(St:List Nat):Prop where
 sg:vP Ws 13 lg P
 l3:3<=Ws.length
 py:5<=lg/\lg<=6
 len:St.length=Ws.length
 st: ∀i,i<Ws.length->St.getD i 0<2^lg/\((cY P lg).getD (St.getD i 0) default).sym=Ws.getD i 0
 nx: ∀i,i+2<Ws.length->((cY P lg).getD (St.getD i 0) default).base<=St.getD (i+2) 0/\St.getD (i+2) 0<((cY P lg).getD (St.getD i 0) default).base+2^((cY P lg).getD (St.getD i 0) default).bits
 en: ∀i,i<Ws.length->Ws.length<=i+2-> ∀j,j<2^lg->((cY P lg).getD j default).sym=Ws.getD i 0->((cY P lg).getD j default).bits<=((cY P lg).getD (St.getD i 0) default).bits
def qF(cs:List de)(St:List Nat)(k:Nat):List Bool:=(List.range k).flatMap λi=>dG (St.getD (i+2) 0- (cs.getD (St.getD i 0) default).base) (cs.getD (St.getD i 0) default).bits
theorem aCG(cs:List de)(St:List Nat)(k:Nat):qF cs St (k+1)=qF cs St k++dG (St.getD (k+2) 0- (cs.getD (St.getD k 0) default).base) (cs.getD (St.getD k 0) default).bits:=by
 unfold qF;rw[pU,K6];simp
def nI(lg:Nat)(P:List Int)(St:List Nat):List UInt8:=xo (fp (lg-5) 4++mM (2^lg) P)++qD (dG (St.getD 0 0) lg++dG (St.getD 1 0) lg++qF (cY P lg) St (St.length-2))
theorem alw{sym:Nat}{k:Int}(hb:Au cs sym to cs.length k)(hx: ∃i,i<cs.length/\(cs.getD i default).sym=sym/\(0<=to->s8 (cs.getD i default) to)): ∃n:Nat,k=(n:Int)/\n<cs.length/\(cs.getD n default).sym=sym/\(0<=to->s8 (cs.getD n default) to)/\(to<0-> ∀j,j<cs.length->(cs.getD j default).sym=sym->(cs.getD j default).bits<=(cs.getD n default).bits):=by
 rcases hb with⟨W,h2⟩| ⟨i,h⟩
 obtain⟨i,hi,hs,hr⟩:=hx;obtain⟨h3,h4⟩:=h2 i hi hs;exact absurd (hr h3) h4
 exact⟨i,h⟩
theorem Ug{s:Nat}(h:gW P log)(hs:P.getD s 0≠0){to:Int}(ht:to<((2^log:Nat):Int)): ∃i,i<(cY P log).length/\((cY P log).getD i default).sym=s/\(0<=to->s8 ((cY P log).getD i default) to):=by
 have hl:s<P.length:=by
  rcases dh s P.length with h'|h'
  exact h'
  exact absurd (by rw[bS,gP h'];rfl) hs
 obtain⟨i,W,h2,h3,h4⟩:=aCF h hl hs (to:=to.toNat) (by have:=ep log;omega);exact⟨i,W,h2,λh0=>⟨I,I⟩⟩
def Uh(Ws St:List Nat)(cs:List de)(n:Nat):Prop:=St.length=Ws.length/\ ∀i,n<=i->i<Ws.length->(St.getD i 0<cs.length/\(cs.getD (St.getD i 0) default).sym=Ws.getD i 0)/\(i+2<Ws.length->(cs.getD (St.getD i 0) default).base<=St.getD (i+2) 0/\St.getD (i+2) 0<(cs.getD (St.getD i 0) default).base+2^(cs.getD (St.getD i 0) default).bits)/\
 (Ws.length<=i+2-> ∀j,j<cs.length->(cs.getD j default).sym=Ws.getD i 0->(cs.getD j default).bits<=(cs.getD (St.getD i 0) default).bits)
theorem Uh.step{St:List Nat}{n m:Nat}(h:Uh Ws St cs n)(hn:0<n)(fW:n<=Ws.length)(ht:(to= -1/\Ws.length<=n+1)\/(to=((St.getD (n+1) 0:Nat):Int)/\n+1<Ws.length))(W:m<cs.length)(h2:(cs.getD m default).sym=Ws.getD (n-1) 0)(h3:0<=to->s8 (cs.getD m default) to)(h4:to<0-> ∀j,j<cs.length->(cs.getD j default).sym=Ws.getD (n-1) 0->(cs.getD j default).bits<=(cs.getD m default).bits):Uh Ws (St.set (n-1) m) cs (n-1):=by
 have oB: ∀s,(St.set (n-1) m).getD s 0=if n-1=s then m else St.getD s 0:=λs=>by
  rw[eE];by_cases e:n-1=s
  rw[ai ⟨e,by rw[h.1];omega⟩,ai e]
  rw[ag (λz=>e z.1),ag e]
 refine⟨by rw[dD];exact h.1,λi hi nX=>?_⟩;by_cases e:n-1=i
 subst e;have e1:=oB (n-1);rw[ai J]at e1;have e2:=oB (n-1+2);rw[ag I,show n-1+2=n+1 by omega]at e2;rw[e1,show n-1+2=n+1 by omega,e2];refine⟨⟨W,h2⟩,λhx=>?_,λhx=>?_⟩
 rcases ht with⟨_,h5⟩| ⟨h5,_⟩
 omega
 have:=h3 I;unfold s8 at this;omega
 rcases ht with⟨h5,_⟩| ⟨_,h5⟩
 exact h4 I
 omega
 have e1:=oB i;rw[ag e]at e1;have e2:=oB (i+2);rw[ag I]at e2;rw[e1,e2];exact h.2 i I nX
theorem aCH(h:gW P log):(cY P log).length<=65536/\ ∀i,i<(cY P log).length->((cY P log).getD i default).bits<=9/\((cY P log).getD i default).base<=65536:=by
 have h9:2^log<=512:=aI (dp aj h.lZ.2) aj;rw[zu];refine⟨I,λi hi=>?_⟩;have:=FE h hi;have h5:=h.lZ.2;exact⟨aI this.1 h5,aI (aI (mS _ _) this.2.1) (aI h9 aj)⟩
theorem abK{e:Ending}(hh:(e= .returned (.slice none 0 0)/\H r w L)\/(∃bd P,e= .returned (cf bd P.length P.length)/\vP S M log P/\H r w ((af bd (List.map i64 P) 3)::L))): ∃(so:Option Nat) (P:List Int),e= .returned (.slice (aB so) P.length P.length)/\H r w ((so,C (List.map i64 P) 3)::L)/\(∀b,so=some b->vP S M log P):=by
 rcases hh with⟨W,h2⟩| ⟨bd,P,W,h2,h3⟩
 exact⟨none,[],W,h2.ghost _,λb e=>by cases e⟩
 exact⟨some bd,P,W,h3,λb e=>h2⟩
theorem aCI{so:Option Nat}(h:(aB so).isNone=false): ∃b,so=some b:=by
 cases so with
 |none=>cases h
 |some b=>exact⟨b,J⟩
theorem abL{l:List Nat}{i:Nat}(h:i<l.length):l.getD i 0∈l:=by
 rw[bS,gv h];exact za h
theorem alx: ∀f z:Nat,(r8 f z).length<=2*f
 |0,_=>aR _
 | f+1,z=>by
  unfold r8;split
  have:=alx f (z-3);rw[aF,xm];omega
  rw[xm];omega
theorem abM: ∀(f left:Nat) (l:List Int),left<=512->(Aw f left l).length<=f*(10+2*l.length)
 |0,_,_,_=>bP _
 |f+1,left,[],h=>bP _
 | f+1,left,p::l,h=>by
  unfold Aw;have W:= @akW left (p+1).toNat h;have h2:=alx l.length (rl l);have h3:=abM f left (l.drop (rl l)) h;have h4:=abM f (left-fY p) l I;have h5:f*(10+2*(l.drop (rl l)).length)<=f*(10+2*(p::l).length):=xE _ (by rw[bV,ek];omega);have h6:f*(10+2*l.length)<=f*(10+2*(p::l).length):=xE _ (by rw[ek];omega);have h7:(p::l).length=l.length+1:=rfl;rw[aF,vU];split
  rw[aF];omega
  omega
theorem aly{left:Nat}{P:List Int}(h:left<=512):(mM left P).length<=P.length*(10+2*P.length):=abM _ _ _ h
theorem alz{wb sc:Nat}{x:Wr}{sa:Option Addr}{nn nc at_:Nat}{na:Option Addr}{N:List Int}(h:H r w ((af wb (aT x) 49)::(some x.cb,C [.slice na nn nc,R at_] 38)::L))(hN:nG L (.slice na nn nc) N)(jg:at_<=1152921504606846976)(hS:gO L (.slice sa Ws.length sc) (Ws.map R))(Ci: ∀s,s∈Ws->s<13)(uz:Ws.length<=256):Calls PP 68 #[aW wb,.slice sa Ws.length sc] w λe w'=> ∃at',at'<=at_+257/\((e= .returned (.slice none 0 0)/\H r w' ((af wb (aT x) 49)::(some x.cb,C [.slice na nn nc,R at'] 38)::L))\/(∃ob S c lg P St,e= .returned (.slice (aB ob) ((nI lg P St).length+1) c)/\ob≠none/\BB ob (UInt8.ofNat (nI lg P St).length::nI lg P St) S c/\(nI lg P St).length<=127/\Oc Ws lg P St/\H r w' (EB ob (UInt8.ofNat (nI lg P St).length::nI lg P St) S::(af wb (aT x) 49)::(some x.cb,C [.slice na nn nc,R at'] 38)::L))):=by
 refine gS Tryz.func68 Tryz.ntmps68 [4] ?_;refine V 12 ?_;replace h:=h.zz [1] 0;refine b_ (v1:=R 2) J J J (aA (kI (n:=2) (at_:=at_) h (hN.sub aJ) I aj) ?_);clear h;rintro e w1 ⟨ov,iX,rfl,me,sT,h⟩;refine ah (bZ (d_ (a:=5) (W:=ao.lit _) J J az) (show 5+ov=5+ov from J)) ?_;replace h:=h.zz [1] 0;refine ee J J J J ((abx (log:=5+ov) (M:=13) h hN I hS I aj Ci I).mono ?_);clear h;rintro e w1 ⟨gF,abn,hh⟩;refine AV (abK hh) λso P hu=>?_;refine⟨_,hu.1,?_⟩;have h:=hu.2.1;clear hh;refine dI (aC (cD [(4,4),(27,33)] (λρ w=> ∃sb:Nat,Kn ρ []/\H r w ((af sb (List.map i64 P) 3)::(af wb (aT x) 49)::(some x.cb,C [.slice na nn nc,R gF] 38)::L)/\(so=some sb)/\(3<=Ws.length)) ?_ ?_))
 refine V 6 ?_;refine d' (t:=30) J (λaCJ=>?_) (λaCJ=>?_)
 refine V 4 ?_;refine iI J ?_;refine V 5 ?_;exact⟨gF,I,Or.inl ⟨J,h.tail⟩⟩
 refine V 1 ?_;refine dn J J J (abh J J) J ?_;refine V 2 ?_;refine eA J ?_ ?_<;>intro Bd
 refine V 5 ?_;exact⟨gF,I,Or.inl ⟨J,h.tail⟩⟩
 refine(aCI Bd).elim λsb e0=>?_;rw[e0]at h;exact aQ ⟨aM,sb,aq,h,e0,I⟩
 clear h;rintro ρ w ⟨sb,⟨N0,rfl⟩,h,Aa,kZ⟩;subst Aa;have pP:=hu.2.2 sb J;have py:5<=5+ov/\5+ov<=9:=I;have EF:=pP.ok py aj;refine cg (5+ov) λlg aCK=>?_;have Bm:5<=lg/\lg<=6:=I;rw[aCK]at pP EF;have hwP:=pP.sum;have hp6:2^lg<=64:=aI (dp aj Bm.2) aj;have Ho:=pP.len;refine V 12 ?_;refine bQ (σ:=Nat) [(6,6),(8,8),(36,46)] (λi ρ w=>Kn ρ [(36,R i),(6,R (wt (P.take i)))]/\H r w ((af sb (List.map i64 P) 3)::(af wb (aT x) 49)::(some x.cb,C [.slice na nn nc,R gF] 38)::L)/\(i<=P.length)) (λi=>P.length-i) (0) ⟨(Kn.mk ⟨J,(int_eq J),trivial⟩),h,I⟩ ?_;clear h;rintro i ρ w ⟨⟨N1,rfl⟩,h,hi⟩;refine V 5 ?_;refine an J ?_ ?_<;>intro BC
 have alA:=pP.lo i;have Ui:=xO (D:=P) (i:=i) I;refine cg (P.getD i 0) λp hp=>?_;have hwi:=akT (l:=P) (i:=i) I;rw[hp]at alA Ui hwi;have aI3:p<=64:=(by have:p<=((fY p:Nat):Int):=(by unfold fY;split<;>omega);omega);refine V 5 ?_;refine ah (js J J J BC) (aO h J Ui ?_);refine V 6 ?_;refine ah (VX J I I) (ah (Ch (akU alA) (V8 J J)) ?_);refine V 7 ?_;exact⟨aH 13,i+1,cw,Kn.mk ⟨J,(int_eq (b8 Int.ofNat hwi.2.symm)),trivial⟩,h,I⟩
 have ia:wt (P.take i)=2^lg:=(by rw[jf I];exact hwP);refine V 7 ?_;refine bQ (σ:=Nat) [(9,9),(47,52)] (λk ρ w=>Kn ρ [(9,R k)]/\H r w ((af sb (List.map i64 P) 3)::(af wb (aT x) 49)::(some x.cb,C [.slice na nn nc,R gF] 38)::L)/\(5<=k)/\(k<=lg)) (λk=>lg-k) (5) ⟨aq,h,(aR _),I⟩ ?_;clear h;rintro k ρ w ⟨⟨N2,rfl⟩,h,sS,GF⟩;refine V 4 ?_;refine ah (gn J J dw (aI (dp aj GF) (aI hp6 aj))) ?_;refine V 3 ?_;refine an J ?_ ?_<;>intro Mj
 have aI4:k<lg:=by
  rcases dh k lg with e|e
  exact e
  have:=dp (n:=2) aj e;omega
 refine V 7 ?_;exact⟨aH 7,k+1,I,aq,h,I,I⟩
 obtain rfl:k=lg:=by
  rcases dh k lg with e|e
  exact absurd (by rw[ia];exact Nat.pow_lt_pow_right aj e) Mj
  omega
 refine V 5 ?_;refine b_ J J J (aA (Fw (sb:=sb) (T:=3) (shares:=P) (sp:=[]) (c:=P.length) (log:=k) h (by rw[dP];exact e_ ..) EF (aR _)) ?_);clear h;rintro e w1 ⟨cb,rfl,h⟩;have eo:=zu P k;have kG:=aCH EF;refine cg (cY P k) λcs ig=>?_;rw[ig]at h eo kG;refine eh h J ?_;clear h;intro bt w h;refine b7 ?_;intro w h;refine V 5 ?_;refine tu h J J J I I I J ?_;clear h;intro bs w h;rw[Ub]at h;refine V 5 ?_;replace h:=h.zz [5,5,5,5,5,5] 0;refine V 2 ?_;refine ah (Ch (show(((Ws.length:Nat):Int) -1)=((Ws.length:Nat):Int) -1 from J) (oH (v:=1) J J I I)) ?_;refine V 3 ?_;refine bQ (σ:=Nat×List Nat) [(12,13),(62,85)] (λ⟨n,St⟩ ρ w=>Kn ρ [(12,.int .i64 (((n:Nat):Int) -1))]/\H r w ((af bs (List.map R (St)) 3)::(af bt [cf cb (2^k) (2^k),R k] 124)::(af cb (fQ cs) 126)::(af sb (List.map i64 P) 3)::(af wb (aT x) 49)::(some x.cb,C [.slice na nn nc,R gF] 38)::L)/\(n<=Ws.length)/\(Uh Ws St cs n)) (λ⟨n,St⟩=>n) (Ws.length,List.replicate Ws.length 0) ⟨aq,h,(aR _),dR,λi hi nX=>absurd hi I⟩ ?_;clear h;rintro⟨n,St⟩ ρ w ⟨⟨T6,rfl⟩,h,hn,pR⟩;refine V 4 ?_;refine ah (zf (v:=0) J J) (aC (an J ?_ ?_))<;>intro Fk
 refine kC (hS.eH (show 0<(Ws.map R).length by rw[bX];omega)) λpb pq lp Tp q1=>?_;refine fx q1.2.1 λip qC=>?_;refine V 7 ?_;refine cD [(13,13),(66,75)] (λρ w=> ∃to:Int,Kn ρ [(13,.int .i64 to)]/\H r w ((af bs (List.map R (St)) 3)::(af bt [cf cb (2^k) (2^k),R k] 124)::(af cb (fQ cs) 126)::(af sb (List.map i64 P) 3)::(af wb (aT x) 49)::(some x.cb,C [.slice na nn nc,R gF] 38)::L)/\((to= -1/\Ws.length<=n+1)\/(to=((St.getD (n+1) 0:Nat):Int)/\n+1<Ws.length))) ?_ ?_
 refine V 3 ?_;refine ah (Ch (I:(((n:Nat):Int) -1+2)=((n+1:Nat):Int)) (H_ (v:=2) J J I I)) ?_;refine V 4 ?_;refine an J ?_ ?_<;>intro Fv
 refine V 3 ?_;refine ah (Ch (I:(((n:Nat):Int) -1+2)=((n+1:Nat):Int)) (H_ (v:=2) J J I I)) ?_;refine V 1 ?_;refine aO h J (jC (by rw[pR.1];omega)) ?_;exact dI (aC ⟨aH 11,(((St.getD (n+1) 0:Nat):Int)),aq,h,Or.inr ⟨J,Fv⟩⟩)
 exact aQ ⟨aH 5,-1,aq,h,Or.inl ⟨J,I⟩⟩
 clear h;rintro ρ w ⟨to,⟨T7,rfl⟩,h,kg⟩
 have aCL:to<((2^k:Nat):Int)/\ -1<=to:=by
  rcases kg with⟨e,_⟩| ⟨e,e2⟩
  omega
  have:=(pR.2 (n+1) I e2).1.1;omega
 have hws:=abL (l:=Ws) (i:=n-1) I;refine bL h [0,4,12,16,20,28,9,25,35,36,43] ?_;clear h;intro w h;refine av 4 ?_;refine aw J (cI (a:=n-1) (W:=⟨I⟩) J J q1.1 I) ?_;refine kA J (xN J (λw hk=>iK [_,_] (h.keeps hk) J ⟨J,J,trivial⟩ J) J (aK J h J (nd q1.2.2 I) (zk J (v0:= .agg #[cf cb cs.length (2^k),R k]) (v1:=R (Ws.getD (n-1) 0)) (by rw[eo];rfl) J J J ?_)));refine(abm h (ar (ar bF)) kG.1 kG.2 I).mono ?_;clear h;rintro e w1 ⟨kk,rfl,mF,h⟩;refine(alw mF (ig▸Ug EF (pP.sym _ hws) aCL.1)).elim λm hm=>?_;refine⟨R m,(by rw[hm.1]),?_⟩;have Uj:=pR.step I hn kg hm.2.1 hm.2.2.1 hm.2.2.2.1 hm.2.2.2.2;refine aw J (js (a:=n-1) (W:=⟨I⟩) J J J I) ?_;refine v_ (v:=R m) J h J (jC (by rw[pR.1];omega)) J J J ?_;clear h;intro w h;dsimp only[List.set]at h;rw[Ks]at h;exact cm (eS (cM (ah (oH (v:=1) J J I I) (dI (aC ⟨aH 18,(n-1,St.set (n-1) m),cw,Kn.mk ⟨(int_eq I),trivial⟩,h,I,Uj⟩)))))
 obtain rfl:n=0:=I;have a8:=pR.1;have aal:=pR.2 0 (bP _) I;have pG:=pR.2 1 (bP _) I;replace h:=h.ghost (C (List.map bl []++[]) 4);refine V 3 ?_;refine ah (Iq Wf) (sB h J J J ?_);clear h;intro bb w h;refine V 4 ?_;replace h:=h.zz [7,7,7,7,7,7,7,7] 0;refine V 3 ?_;refine aO h J (jC I) (cM (ee J J J J (aA (Hp (bits:=[]) (ob:=none) (c:=0) (sp:=[]) h ⟨J,J,aR _,λ_=>rfl⟩ I I (bP _)) ?_)));clear h;rintro e w1 ⟨bI,c1,bJ,rfl,eF,h⟩;refine V 6 ?_;refine aO h J (jC I) (cM (ee J J J J (aA (Hp h eF I I (by rw[aF,yU];simp only[fE];omega)) ?_)));clear h;rintro e w1 ⟨cr,c2,cG,rfl,cK,h⟩;refine V 7 ?_;refine bQ (σ:=Nat×Option Nat×Nat×List Value) [(15,16),(100,126)] (λ⟨i,ob,c,sp⟩ ρ w=>Kn ρ [(15,R i)]/\H r w ((af bb [.slice (aB ob) (List.length (([]++dG (St.getD 0 0) k++dG (St.getD 1 0) k++qF cs St (i)))) c] 120)::(ob,C (List.map bl (([]++dG (St.getD 0 0) k++dG (St.getD 1 0) k++qF cs St (i)))++sp) 4)::(af bs (List.map R (St)) 3)::(af bt [cf cb (2^k) (2^k),R k] 124)::(af cb (fQ cs) 126)::(af sb (List.map i64 P) 3)::(af wb (aT x) 49)::(some x.cb,C [.slice na nn nc,R gF] 38)::L)/\(i+2<=Ws.length)/\(bG ob (List.length (([]++dG (St.getD 0 0) k++dG (St.getD 1 0) k++qF cs St (i)))) c (List.map bl (([]++dG (St.getD 0 0) k++dG (St.getD 1 0) k++qF cs St (i)))) sp 1)/\(List.length (([]++dG (St.getD 0 0) k++dG (St.getD 1 0) k++qF cs St (i)))<=12+9*i)) (λ⟨i,ob,c,sp⟩=>Ws.length-i) (0,cr,c2,cG) ⟨aq,(by show H r _ ((af bb [.slice (aB cr) (List.length ([]++dG (St.getD 0 0) k++dG (St.getD 1 0) k++[])) c2] 120)::(cr,C (List.map bl ([]++dG (St.getD 0 0) k++dG (St.getD 1 0) k++[])++cG) 4)::(af bs (List.map R (St)) 3)::(af bt [cf cb (2^k) (2^k),R k] 124)::(af cb (fQ cs) 126)::(af sb (List.map i64 P) 3)::(af wb (aT x) 49)::(some x.cb,C [.slice na nn nc,R gF] 38)::L);rw[dP];exact h),I,(by show bG _ (List.length ([]++dG (St.getD 0 0) k++dG (St.getD 1 0) k++[])) _ (List.map bl ([]++dG (St.getD 0 0) k++dG (St.getD 1 0) k++[])) _ 1;rw[dP];exact cK),(by simp only[aF,yU,qF,VC,List.flatMap_nil,fE];omega)⟩ ?_;clear h;rintro⟨i,ob,c,sp⟩ ρ w ⟨⟨T8,rfl⟩,h,hi,hk,jG⟩;refine V 9 ?_;refine an J ?_ ?_<;>intro alB
 have Uk:=pR.2 i (bP _) I;have aCz:=kG.2 _ Uk.1.1;have jn:=pR.2 (i+2) (bP _) alB;have px:=Uk.2.1 alB;have lh:([]++dG (St.getD 0 0) k++dG (St.getD 1 0) k++qF cs St (i))++dG (St.getD (i+2) 0- (cs.getD (St.getD i 0) default).base) (cs.getD (St.getD i 0) default).bits=([]++dG (St.getD 0 0) k++dG (St.getD 1 0) k++qF cs St (i+1)):=(by rw[aCG,cF]);refine V 4 ?_;refine bL h [0,8,12,16,5,21,24,29,34,39] ?_;clear h;intro w h;refine av 5 ?_;refine aK J h J (jC I) (aw J (ky J J J (by rw[<-eo];exact Uk.1.1)) ?_);refine xN J (λw hk=>iK (u9 (cs.getD (St.getD i 0) default)) (h.keeps hk) J (PY Uk.1.1) J) J (ada J h J ?_);clear h;intro bq w h;refine Lo J h J J J J (by first|decide|exact aR _|exact ff J| (simp;done)|omega) J ?_;clear h;intro w h;(try dsimp only[cT,List.set]at h);refine cm (bL h [0,4,8,12,16,24,36,21,29,32,41,47] ?_);clear h;intro w h;refine av 7 ?_;refine aK J h J (jC I) ?_;refine av 1 ?_;refine aw J (iz J J px.1 (by have:=jn.1.1;simp only[aG];omega)) ?_;refine av 1 ?_;replace h:=h.zz [8,8,8,8,8,8,6,8,8] 0;refine zk J J J J J (aA (Hp h hk I (by have:=jn.1.1;omega) I) ?_);clear h;rintro e w1 ⟨yM,c4,Ak,rfl,rO,h⟩;rw[lh]at h rO;refine cm ?_;refine V 5 ?_;replace h:=h.zz [8,8,8,8,8,8,7,7,8] 1;exact⟨aH 30,(i+1,yM,c4,Ak),cw,aq,h,I,rO,(by rw[<-lh,aF,yU];omega)⟩
 refine V 5 ?_;refine b_ J J J (aA (akX (sa:=some ⟨sb,0,none⟩) (sc:=P.length) h ⟨_,_,_,J,by rw[bX],aR _,λ_=>⟨sb,0,_,_,J,ar (ar (ar (ar (ar bF)))),Rd.self _⟩⟩ I pP.lo hwP I pP.last) ?_);clear h;rintro e w1 ⟨bd,rfl,h⟩;have aI5:=TY (fp (k-5) 4++mM (2^k) P);have My:=aI (aly (left:=2^k) (P:=P) I) (sr Ho (I:10+2*P.length<=36));have aI6:(fp (k-5) 4++mM (2^k) P).length<=500:=(by rw[aF,xm];omega);refine cM ?_;replace h:=h.zz [8,8,8,8,8,8,6,8,8] 0;refine dJ J J ?_;have hiw:i=Ws.length-2:=I;refine(abj h hk I).mono ?_;clear h;rintro e w1 ⟨bd2,rfl,h⟩;refine⟨_,J,?_⟩;have aI7:=NY (([]++dG (St.getD 0 0) k++dG (St.getD 1 0) k++qF cs St (i)));refine lk (X:=xo (fp (k-5) 4++mM (2^k) P)) (S:=[]) (Y:=qD (([]++dG (St.getD 0 0) k++dG (St.getD 1 0) k++qF cs St (i)))) (F:=[EB (some bd2) (qD (([]++dG (St.getD 0 0) k++dG (St.getD 1 0) k++qF cs St (i)))) []]) h 1 J J J ⟨by rw[dP],λe=>by cases e⟩ (BB.sl ⟨by rw[dP],λe=>by cases e⟩) (λe he=>by rcases je.1 he with rfl;exact e_ ..) I J ?_;clear h;intro w m9 c5 S5 h Ad;dsimp only[List.set]at h;have Ku:xo (fp (k-5) 4++mM (2^k) P)++qD (([]++dG (St.getD 0 0) k++dG (St.getD 1 0) k++qF cs St (i)))=nI k P St:=(by unfold nI;rw[ig,a8,show i=Ws.length-2 by omega];rfl);refine cg (xo (fp (k-5) 4++mM (2^k) P)++qD (([]++dG (St.getD 0 0) k++dG (St.getD 1 0) k++qF cs St (i)))) λWD hWD=>?_;rw[hWD]at h Ad Ku;have kh:(xo (fp (k-5) 4++mM (2^k) P)++qD (([]++dG (St.getD 0 0) k++dG (St.getD 1 0) k++qF cs St (i)))).length=WD.length:=(by rw[hWD]);replace h:=h.tail;refine V 6 ?_;refine ah (bZ (CM J) kh) ?_;refine V 2 ?_;refine an J ?_ ?_<;>intro ZE
 refine V 5 ?_;exact⟨gF,I,Or.inl ⟨J,h.tail.tail.tail.tail.tail⟩⟩
 refine V 4 ?_;refine ah (bZ (CM J) kh) ?_;refine V 1 ?_;refine kX J (kB _) h ?_;clear h;intro bz w h;refine cM ?_;have hz:C [Value.int .u8 ((WD.length:Nat):Int)] 5=C (List.map u8 ([UInt8.ofNat WD.length]++[])) 5:=(by show C [_] 5=C [u8 (UInt8.ofNat WD.length)] 5;rw[xp,mw (show WD.length<aG .u8+1 by simp only[aG];omega)]);rw[hz]at h;refine lk (ob:=some bz) (c:=1) (X:=[UInt8.ofNat WD.length]) (S:=[]) (Y:=WD) (F:=[EB m9 WD S5]) h 0 J (gi J kh) J ⟨J,λe=>by cases e⟩ Ad.sl (λe he=>by rcases je.1 he with rfl;exact ar bF) (by simp only[ek,fE];omega) J ?_;clear h;intro w EC c6 S6 h Kv;dsimp only[List.set]at h;have aCM:EC≠none:=λe=>(by have:=Kv.2 e;have:=Kv.1;rw[aF,aF]at this;simp only[ek,fE]at this;omega);refine V 3 ?_;have aCN:Oc Ws k P St:=⟨pP,kZ,Bm,a8,λi hi=>by have:=(pR.2 i (bP _) hi).1;rw[ig,<-eo];exact this,λi hi=>by rw[ig];exact(pR.2 i (bP _) I).2.1 hi,λi hi vA=>by rw[ig,<-eo];exact(pR.2 i (bP _) hi).2.2 vA⟩;rw[Ku]at h Kv ZE;refine⟨gF,I,Or.inr ⟨EC,S6,c6,k,P,St,?_,aCM,Kv,I,aCN,?_⟩⟩
 exact b8 Ending.returned (iJ J (by rw[<-Ku,aF];simp only[ek,fE];omega) J)
 exact((((((h.mv 1).tail.mv 1).tail.mv 1).tail.mv 1).tail.mv 1).tail)
variable {l:List Nat}{a:Nat}
def EG(m n:Nat):Nat:=if n=0 then 0 else m+1-n
def dg(l:List Nat):List Nat:=(l.take (l.length-1)).map (EG (nh l))
def rn(ws:List Nat)(k:Nat):List UInt8:=(List.range k).map λj=>UInt8.ofNat (ws.getD (2*j) 0*16+ws.getD (2*j+1) 0)
theorem aCO(ws:List Nat)(k:Nat):rn ws (k+1)=rn ws k++[UInt8.ofNat (ws.getD (2*k) 0*16+ws.getD (2*k+1) 0)]:=by simp[rn,pU]
theorem alC(ws:List Nat)(k:Nat):(rn ws k).length=k:=by simp[rn]
def Od(l:List Nat)(B:List UInt8):Prop:=
 (∃lg P St,B=UInt8.ofNat (nI lg P St).length::nI lg P St/\(nI lg P St).length<=127/\Oc (dg l) lg P St)\/
 (B=UInt8.ofNat (127+(dg l).length)::rn (dg l) (((dg l).length+1)/2)/\1<=(dg l).length/\(dg l).length<=128)
theorem alD(l:List Nat):(dg l).length=l.length-1:=by simp[dg]
theorem aCP{j:Nat}(h:j+1<l.length):(dg l).take (j+1)=(dg l).take j++[EG (nh l) (l.getD j 0)]:=by
 rw[oK (dg l) 0 j (by rw[alD];omega)];congr 2;unfold dg;rw[bS,kK,pT,ai I,gv I,bS,gv I];rfl
theorem abN(hb: ∀s,l.getD s 0<=11): ∀s,s∈dg l->s<13:=by
 intro s hs;unfold dg at hs;obtain⟨n,hn,rfl⟩:=jd.1 hs;have:=Ua hb;unfold EG;split<;>omega
theorem aCQ(hb: ∀s,l.getD s 0<=11)(i:Nat):(dg l).getD i 0<=12:=by
 rcases dh i (dg l).length with h|h
 have:=abN hb _ (abL h);omega
 rw[bS,gP h];exact bP _
theorem alE{A:List aD}{e:Ending}(hh:(e= .returned (.slice none 0 0)/\H r w A)\/(∃ob S c lg P St,e= .returned (.slice (aB ob) ((nI lg P St).length+1) c)/\ob≠none/\BB ob (UInt8.ofNat (nI lg P St).length::nI lg P St) S c/\(nI lg P St).length<=127/\Oc Ws lg P St/\H r w (EB ob (UInt8.ofNat (nI lg P St).length::nI lg P St) S::A))): ∃(ob:Option Nat) (B S:List UInt8) (c:Nat),e= .returned (.slice (aB ob) B.length c)/\H r w (EB ob B S::A)/\BB ob B S c/\(ob≠none-> ∃lg P St,B=UInt8.ofNat (nI lg P St).length::nI lg P St/\(nI lg P St).length<=127/\Oc Ws lg P St):=by
 rcases hh with⟨W,h2⟩| ⟨ob,S,c,lg,P,St,W,h2,h3,h4,h5,h6⟩
 exact⟨none,[],[],0,W,h2.ghost _,⟨J,λ_=>rfl⟩,λe=>absurd J e⟩
 exact⟨ob,UInt8.ofNat (nI lg P St).length::nI lg P St,S,c,W,h6,h3,λ_=>⟨lg,P,St,J,h4,h5⟩⟩
theorem abO{so:Option Nat}(h:(!(aB so).isNone)=true):so≠none:=λe=>by subst e;cases h
theorem aCR{b:Nat}(hb:b<16):a*2^4|||b=a*16+b:=by
 rw[OS,oJ (i:=4) I];omega
theorem aCS{P:Program}{ρ:Env}{x y:Operand}{T T' ty:TypeId}{m:Nat}{v:Int}[h2:ao v 1](e:a=m)(hx:Env.ev ρ x=R a)(hy:Env.ev ρ y= .int .i64 v)(hk:m+1<=aG .i64):run P ρ (.binOp .add T x y T') ty w= .ok (.value (R (m+1))) w:=by
 subst e;exact d_ hx hy hk
theorem gO.alF{F:List aD}{ad:Option Addr}{c:Nat}{A:List Nat}(h:gO F (.slice ad (A.map R).length c) (A.map R)):gO F (.slice ad A.length c) (A.map R):=by
 rw[bX]at h;exact h
theorem aCT{i:Nat}(h:l.length<=i):l.getD i 0=0:=by rw[bS,gP h];rfl
theorem alG{p:Prop}(h:p:=by refine V 6 ?_;refine AW (hu.2.2.2 (abO FO)) λlg P St q=>?_;exact⟨iX,I,Or.inr ⟨oo,BD,SS,co,J,abO FO,hu.2.2.1,Or.inl ⟨lg,P,St,q⟩,by rw[q.1,ek];omega,(h.mv 3).tail⟩⟩):p:=h
theorem alH{wb lc:Nat}{x:Wr}{la:Option Addr}{nn nc at_:Nat}{na:Option Addr}{N:List Int}(h:H r w ((af wb (aT x) 49)::(some x.cb,C [.slice na nn nc,R at_] 38)::L))(hN:nG L (.slice na nn nc) N)(jg:at_<=1152921504606846000)(hL:gO L (.slice la l.length lc) (l.map R))(hl:l.length<=256)(hJ:2<=l.length)(hb: ∀s,l.getD s 0<=11):Calls PP 50 #[aW wb,.slice la l.length lc] w λe w'=> ∃at',at'<=at_+258/\((e= .returned (.slice none 0 0)/\H r w' ((af wb (aT x) 49)::(some x.cb,C [.slice na nn nc,R at'] 38)::L))\/(∃ob B S c,e= .returned (.slice (aB ob) B.length c)/\ob≠none/\BB ob B S c/\Od l B/\B.length<=200/\H r w' (EB ob B S::(af wb (aT x) 49)::(some x.cb,C [.slice na nn nc,R at'] 38)::L))):=by
 refine kC (hL.eH (show 0<(l.map R).length by rw[bX];omega)) λpb pq lp Tp q1=>?_;refine fx q1.2.1 λip qC=>?_;have yp:=Ua hb;have kh:=alD l;have hLc:=hL.len.2;refine gS Tryz.func50 Tryz.ntmps50 [4] ?_;refine V 16 ?_;refine bQ (σ:=Nat) [(5,5),(7,7),(18,25)] (λi ρ w=>Kn ρ [(18,R i),(5,R (nh (l.take i)))]/\H r w ((af wb (aT x) 49)::(some x.cb,C [.slice na nn nc,R at_] 38)::L)/\(i<=l.length)) (λi=>l.length-i) (0) ⟨aq,h,I⟩ ?_;rintro i ρ w ⟨⟨N0,rfl⟩,h,hi⟩;refine V 5 ?_;refine an J ?_ ?_<;>intro L7
 refine V 5 ?_;refine ah (cI J J q1.1 I) (aO h J (nd q1.2.2 I) ?_);refine V 5 ?_;refine ah (Lf J J) ?_;refine V 6 ?_;exact⟨aH 10,i+1,cw,Kn.mk ⟨J,(int_eq (by rw[oK l 0 i I,ala])),trivial⟩,h,I⟩
 have alI:nh (l.take i)=nh l:=(by rw[jf I]);refine cg (nh l) λm hm=>?_;rw[hm]at yp alI;replace h:=h.ghost (C (List.map R ((dg l).take 0)++[]) 3);refine V 12 ?_;refine ah (lX J J I) ?_;refine V 4 ?_;refine bQ (σ:=Nat×Option Nat×Nat×List Value) [(8,8),(10,10),(32,46)] (λ⟨j,uo,uc,mh⟩ ρ w=>Kn ρ [(32,R j),(8,.slice (aB uo) (List.length ((dg l).take j)) uc)]/\H r w ((uo,C (List.map R ((dg l).take (j))++mh) 3)::(af wb (aT x) 49)::(some x.cb,C [.slice na nn nc,R at_] 38)::L)/\(j<=l.length-1)/\(bG uo (List.length ((dg l).take (j))) uc (List.map R ((dg l).take (j))) mh 1)) (λ⟨j,uo,uc,mh⟩=>l.length-j) (0,none,0,[]) ⟨aq,h,I,J,J,aR _,λ_=>rfl⟩ ?_;rintro⟨j,uo,uc,mh⟩ ρ w ⟨⟨N1,rfl⟩,h,hj,hk⟩;refine V 5 ?_;refine an J ?_ ?_<;>intro Bd
 have GC:= @abD l j;rw[hm]at GC;have jH:((dg l).take j).length=j:=(by rw[gk];omega);refine V 5 ?_;refine ah (cI J J q1.1 I) (aO h J (nd q1.2.2 I) (dI (aC (cD [(10,10),(36,41)] (λρ w=>Kn ρ [(10,R (EG m (l.getD j 0)))]/\H r w ((uo,C (List.map R ((dg l).take (j))++mh) 3)::(af wb (aT x) 49)::(some x.cb,C [.slice na nn nc,R at_] 38)::L)) ?_ ?_))))
 refine V 5 ?_;refine an J ?_ ?_<;>intro BC
 refine eS (cM (ah (aCS (h2:=ao.lit _) alI J J az) ?_));refine V 4 ?_;exact⟨aH 7,Kn.mk ⟨(int_eq (by unfold EG;rw[ag I])),trivial⟩,h⟩
 exact aQ ⟨aH 2,Kn.mk ⟨(int_eq (by unfold EG;rw[ai I];congr 1;omega)),trivial⟩,h⟩
 rintro ρ w ⟨⟨N2,rfl⟩,h⟩;refine V 3 ?_;refine kX J (lB _) h ?_;intro bz w h;refine kW (List.map R ((dg l).take j)) mh [R (EG m (l.getD j 0))] h 1 J J J hk (Src.slice (j:=0) (q2:=0) J ⟨J,trivial⟩ J) (by intro y hy;simp at hy;subst hy;rfl) I aj J ?_;intro w N8 N9 N_ h dE aCU kZ;dsimp only[List.set]at h;have ew:=aCP (l:=l) (j:=j) I;rw[hm]at ew;have eb:List.map R ((dg l).take j)++[R (EG m (l.getD j 0))]=List.map R ((dg l).take (j+1)):=(by rw[ew,f_];rfl);rw[eb]at h dE;have el:(List.length ((dg l).take j))+1=List.length ((dg l).take (j+1)):=(by rw[ew,aF];rfl);have lK:bG N8 (List.length ((dg l).take (j+1))) N9 (List.map R ((dg l).take (j+1))) N_ 1:=⟨by rw[bX,eC],dE,by rw[<-el];exact aCU,kZ⟩;replace h:=h.tail;refine V 6 ?_;exact⟨aH 12,(j+1,N8,N9,N_),cw,Kn.mk ⟨J,(gi J el),trivial⟩,h,I,lK⟩
 have Kk:(dg l).take j=dg l:=jf I;rw[Kk]at h hk;refine(Hr hk I).elim λb0 e0=>?_;subst e0;have alJ:=aCQ hb;have abP:(List.take j (dg l)).length=(dg l).length:=(by rw[Kk]);refine iy (cD [(4,4),(11,11),(47,63)] (λρ w=> ∃fU:Nat,Kn ρ []/\H r w ((af b0 (List.map R (dg l)++mh) 3)::(af wb (aT x) 49)::(some x.cb,C [.slice na nn nc,R fU] 38)::L)/\(fU<=at_+258)) ?_ ?_)
 refine V 6 ?_;replace h:=h.zz [1,2] 0;refine b_ (v1:=R 2) J J J (aA (kI (n:=2) (at_:=at_) h (hN.sub aJ) I aj) ?_);rintro e w1 ⟨ov,dX,rfl,me,yV,h⟩;refine V 2 ?_;refine d' (t:=53) J (λaCV=>?_) (λaCV=>?_)
 refine V 5 ?_;refine iI J ?_;refine V 4 ?_;replace h:=h.zz [2,1,2] 0;refine b_ (v0:=aW wb) (v1:=cf b0 (dg l).length uc) J (gi J abP) J ((alz (Ws:=dg l) h (hN.sub (Sub.cons _ _)) I (gO.own (Y:=(dg l).map R) (by rw[bX];exact hk)).alF (abN hb) I).mono ?_);clear h;rintro e w1 ⟨iX,sT,hh⟩;refine aY (alE hh) (λoo eN=>aY (eN) (λBD eK=>aY (eK) (λSS fL=>aY (fL) (λco hu=>?_))));refine⟨_,hu.1,?_⟩;have h:=hu.2.1;clear hh;refine V 5 ?_;refine ah (Kh J J) (aC (eA J ?_ ?_))<;>intro FO
 exact alG
 refine aQ ?_;replace h:=h.zz [2,2,3,3] 1;exact⟨aM,iX,aq,h,I⟩
 refine V 5 ?_;refine an J ?_ ?_<;>intro FN
 refine V 4 ?_;replace h:=h.zz [2,1,2] 0;refine b_ (v0:=aW wb) (v1:=cf b0 (dg l).length uc) J (gi J abP) J ((alz (Ws:=dg l) h (hN.sub (Sub.cons _ _)) I (gO.own (Y:=(dg l).map R) (by rw[bX];exact hk)).alF (abN hb) I).mono ?_);clear h;rintro e w1 ⟨iX,sT,hh⟩;refine kC (alE hh) λoo BD SS co hu=>?_;refine⟨_,hu.1,?_⟩;have h:=hu.2.1;clear hh;refine V 5 ?_;refine ah (Kh J J) (aC (eA J ?_ ?_))<;>intro FO
 exact alG
 refine aQ ?_;replace h:=h.zz [2,2,3,3] 1;exact⟨aM,iX,aq,h,I⟩
 refine aQ ?_;replace h:=h.zz [1,2] 0;exact⟨aM,dX,aq,h,I⟩
 rintro ρ w ⟨fU,⟨T6,rfl⟩,h,uD⟩;refine V 3 ?_;refine ah (bZ (CM J) abP) (dI (aC (cD [(4,4),(66,71)] (λρ w=>Kn ρ []/\H r w ((af b0 (List.map R (dg l)++mh) 3)::(af wb (aT x) 49)::(some x.cb,C [.slice na nn nc,R fU] 38)::L)/\((dg l).length<=128)/\(0<(dg l).length)) ?_ ?_)))
 refine V 5 ?_;refine d' (t:=68) J (λTF=>?_) (λTF=>?_)
 refine V 4 ?_;refine iI J ?_;refine V 5 ?_;exact⟨fU,uD,Or.inl ⟨J,h.tail⟩⟩
 refine V 4 ?_;refine an J ?_ ?_<;>intro Fx
 refine V 5 ?_;exact⟨fU,uD,Or.inl ⟨J,h.tail⟩⟩
 exact aQ ⟨aM,aq,h,I,I⟩
 rintro ρ w ⟨⟨T7,rfl⟩,h,aCW,ke⟩;refine V 5 ?_;refine kX J (kB _) h ?_;intro bD w h;have Mx:C [Value.int .u8 ((127+(dg l).length:Nat):Int)] 5=C (List.map u8 ((UInt8.ofNat (127+(dg l).length)::rn (dg l) (0))++[])) 5:=(by show C [_] 5=C [u8 (UInt8.ofNat (127+(dg l).length))] 5;rw[xp,mw (show 127+(dg l).length<aG .u8+1 by simp only[aG];omega)]);rw[Mx]at h;refine V 8 ?_;refine bQ (σ:=Nat×Option Nat×List UInt8×Nat) [(13,15),(76,101)] (λ⟨k,ob,S,c⟩ ρ w=>Kn ρ [(14,R (2*k)),(13,.slice (aB ob) (List.length (UInt8.ofNat (127+(dg l).length)::rn (dg l) (k))) c)]/\H r w (EB ob (UInt8.ofNat (127+(dg l).length)::rn (dg l) (k)) S::(af b0 (List.map R (dg l)++mh) 3)::(af wb (aT x) 49)::(some x.cb,C [.slice na nn nc,R fU] 38)::L)/\(2*k<=(dg l).length+1)/\(BB ob (UInt8.ofNat (127+(dg l).length)::rn (dg l) (k)) S c)/\(ob≠none)) (λ⟨k,ob,S,c⟩=>(dg l).length+1-k) (0,some bD,[],1) ⟨aq,h,I,⟨J,λe=>by cases e⟩,(λe=>by cases e)⟩ ?_;rintro⟨k,ob,S,c⟩ ρ w ⟨⟨T8,rfl⟩,h,cK,hB,mE⟩;refine V 7 ?_;refine an J ?_ ?_<;>intro Qd
 have mU:=alJ (2*k);have rP:=alJ (2*k+1);have g9:=alC (dg l) k;refine V 8 ?_;refine aO h J (ED I) (ah (dN (b:=4) (h2:=ao.lit _) J J aj az) ?_);refine dI (aC (cD [(15,15),(86,96)] (λρ w=>Kn ρ [(15,R ((dg l).getD (2*k) 0*16+(dg l).getD (2*k+1) 0))]/\H r w (EB ob (UInt8.ofNat (127+(dg l).length)::rn (dg l) (k)) S::(af b0 (List.map R (dg l)++mh) 3)::(af wb (aT x) 49)::(some x.cb,C [.slice na nn nc,R fU] 38)::L)) ?_ ?_))
 refine V 7 ?_;refine an J ?_ ?_<;>intro zJ
 refine V 6 ?_;exact aO h J (ED I) (ah (bZ (eI J J az az) (aCR I)) (dI (aC ⟨aH 12,aq,h⟩)))
 exact aQ ⟨aH 4,Kn.mk ⟨(int_eq (by rw[show(dg l).getD (2*k+1) 0=0 from aCT I];rfl)),trivial⟩,h⟩
 rintro ρ w ⟨⟨abA,rfl⟩,h⟩;refine V 4 ?_;refine kX J (kB _) h ?_;intro bz w h;refine lk (X:=(UInt8.ofNat (127+(dg l).length)::rn (dg l) (k))) (Y:=[UInt8.ofNat ((dg l).getD (2*k) 0*16+(dg l).getD (2*k+1) 0)]) (F:=[(af bz [gR ((dg l).getD (2*k) 0*16+(dg l).getD (2*k+1) 0)] 5)]) h 1 J J J hB ⟨_,_,_,J,J,aR _,λ_=>⟨bz,0,_,_,J,e_ ..,by rw[xp,mw (show _<aG .u8+1 by simp only[aG];omega)];rfl,trivial⟩⟩ (λe he=>by rcases je.1 he with rfl;exact e_ ..) (by simp only[ek,fE];omega) J ?_;intro w cr c2 S2 h rY;dsimp only[List.set]at h;have F4:(UInt8.ofNat (127+(dg l).length)::rn (dg l) (k))++[UInt8.ofNat ((dg l).getD (2*k) 0*16+(dg l).getD (2*k+1) 0)]=(UInt8.ofNat (127+(dg l).length)::rn (dg l) (k+1)):=(by rw[aCO];rfl);have hel:List.length ((UInt8.ofNat (127+(dg l).length)::rn (dg l) (k))++[UInt8.ofNat ((dg l).getD (2*k) 0*16+(dg l).getD (2*k+1) 0)])=List.length (UInt8.ofNat (127+(dg l).length)::rn (dg l) (k+1)):=(by rw[F4]);rw[F4]at h rY;have aCX:cr≠none:=λe=>(by have:=rY.2 e;have:=rY.1;rw[aF,ek]at this;omega);replace h:=h.tail;refine V 7 ?_;exact⟨aH 19,(k+1,cr,S2,c2),cw,Kn.mk ⟨(int_eq I),(gi J hel),trivial⟩,h,I,rY,aCX⟩
 refine V 7 ?_;have QX:k=((dg l).length+1)/2:=I;exact⟨fU,uD,Or.inr ⟨ob,(UInt8.ofNat (127+(dg l).length)::rn (dg l) (k)),S,c,J,mE,hB,Or.inr ⟨by rw[QX],ke,aCW⟩,by rw[ek,alC];omega,(h.mv 1).tail⟩⟩
variable {K e0 e1 e2 e3:aD}{F G5:List aD}{Cd Cs:List Nat}{T:List UInt8}{c i j k n tc:Nat}{lo:Option (List Nat)}{ta:Option Addr}{p:Prop}{x:Wr}
structure Ul(l:List Nat):Prop where
 N6:2<=l.length
 len:l.length<=256
 last:0<l.getD (l.length-1) 0
 le: ∀s,l.getD s 0<=11
 ak_:kr l=2048
 two: ∃s,s+1<l.length/\0<l.getD s 0
theorem N5.g(h:N5 Cs l)(hC:Cs.length<=256):Ul l:=⟨h.N6,aI h.len hC,h.last,h.le,h.ak_,h.two⟩
def mN(F:List aD)(x:Wr):Option (List Nat)->Prop
 |none=>x.la=none
 |some l=>x.la≠none/\x.ln=l.length/\gO F (.slice x.la x.ln x.lc) (l.map R)/\Ul l
theorem mN.sub{F':List aD}(h:mN F x lo)(hs:Sub F F'):mN F' x lo:=by
 cases lo with
 |none=>exact h
 |some l=>exact⟨h.1,h.2.1,h.2.2.1.sub hs,h.2.2.2⟩
def ll(x:Wr)(a:Option Addr)(n c:Nat):Wr:={x with la:=a,ln:=n,lc:=c}
def kT(l Cd:List Nat)(T:List UInt8):List UInt8:=qD (T.flatMap λy=>dG (Cd.getD y.toNat 0) (l.getD y.toNat 0))
def jc(T:List UInt8)(i:Nat):List UInt8:=(T.drop (i*((T.length+3)/4))).take (min ((i+1)*((T.length+3)/4)) T.length-i*((T.length+3)/4))
def uE(l Cd:List Nat)(T:List UInt8)(k:Nat):List UInt8:=(List.range k).flatMap λi=>kT l Cd (jc T i)
def nJ(l Cd:List Nat)(T:List UInt8)(k:Nat):List UInt8:=(List.range k).flatMap λi=>cu (kT l Cd (jc T i)).length 2
def Ax(f:Nat):Nat:=[1024,1024,16384,262144].getD f 0
def uF(f:Nat):Nat:=[10,10,14,18].getD f 0
def EH(f:Nat):Nat:=[3,3,4,5].getD f 0
def Um(lo:Option (List Nat))(l:List Nat)(T B:List UInt8):Prop:= ∃(tree Oe:List UInt8) (Cd:List Nat) (fits four:Bool) (form:Nat),
 (fits=true->lo=some l/\tree=[])/\(fits=false->Od l tree)/\Ul l/\abE l Cd/\(∀i,i<T.length->0<l.getD (T.getD i 0).toNat 0)/\
 (four=false->form=0/\T.length<=1023/\Oe=kT l Cd T)/\(four=true->1<=form/\form<=3/\6<=T.length/\1<=T.length-3*((T.length+3)/4)/\(∀i,i<4->(kT l Cd (jc T i)).length<=65535)/\Oe=nJ l Cd T 3++uE l Cd T 4)/\
 T.length<Ax form/\(tree++Oe).length<Ax form/\
 B=cu ((tree++Oe).length*2^(4+uF form)+(T.length*16+form*4+(if fits=true then 3 else 2))) (EH form)++(tree++Oe)
theorem alK{A:List aD}{e:Ending}(hh:(e= .returned (.slice none 0 0)/\H r w A)\/(∃ob B S c,e= .returned (.slice (aB ob) B.length c)/\ob≠none/\BB ob B S c/\Od l B/\B.length<=200/\H r w (EB ob B S::A))): ∃(ob:Option Nat) (B S:List UInt8) (c:Nat),e= .returned (.slice (aB ob) (List.length B) c)/\H r w (EB ob B S::A)/\BB ob B S c/\(ob≠none->Od l B/\B.length<=200):=by
 rcases hh with⟨W,h2⟩| ⟨ob,B,S,c,W,h2,h3,h4,h5,h6⟩
 exact⟨none,[],[],0,W,h2.ghost _,⟨J,λ_=>rfl⟩,λe=>absurd J e⟩
 exact⟨ob,B,S,c,W,h6,h3,λ_=>⟨h4,h5⟩⟩
theorem aCY{so:Option Nat}(h:(aB so).isNone=false):so≠none:=λe=>by subst e;cases h
theorem BB.none:BB none [] [] 0:=⟨J,λ_=>rfl⟩
theorem aCZ(h:mN F x lo)(e:(!x.la.isNone)=true): ∃l,lo=some l/\ ∀s,s<0->0<Cs.getD s 0->0<l.getD s 0:=by
 cases lo with
 |none=>have W:x.la=none:=h;rw[W]at e;cases e
 |some l=>exact⟨l,J,λs hs=>absurd hs (nP _)⟩
theorem alL(h: ∀s,s<j->0<Cs.getD s 0->0<l.getD s 0)(h2:0<Cs.getD j 0->0<l.getD j 0): ∀s,s<j+1->0<Cs.getD s 0->0<l.getD s 0:=λs hs hc=>by
 rcases vY.1 hs with hh|rfl
 exact h s hh hc
 exact h2 hc
theorem Of{b:Nat}{T:TT}:gO ((af b (List.map R l) T)::F) (cf b l.length l.length) (l.map R):=
 ⟨_,_,_,J,by rw[bX],aR _,λ_=>⟨b,0,_,_,J,e_ ..,Rd.self _⟩⟩
theorem aC0{a:Option Addr}:(aT x).set 4 (.slice a n c)=aT (ll x a n c):=rfl
theorem aC1(h:x.ln=l.length):aT x=aT (ll x x.la l.length x.lc):=by unfold ll;rw[<-h]
theorem aC2(h:abE l Cd)(hl:l.length<=256)(hb: ∀s,l.getD s 0<=11): ∀s,0<l.getD s 0->s<l.length/\Cd.getD s 0<=10000000:=λs hs=>by
 have a8:s<l.length:=by
  rcases dh s l.length with e|e
  exact e
  rw[bS,gP e]at hs;exact absurd hs (xC 0)
 refine⟨a8,?_⟩;rw[h.code s a8 hs];have W:= @alh l (l.getD s 0) (nh l) s hl I (Ua hb);exact aI (j6 _ _) W.1
theorem H.alM(h:H r w (e0::e1::e2::e3::L)):H r w (e1::e2::e3::e0::L):=((h.mv 3).mv 3).mv 3
theorem H.aC3{e4:aD}(h:H r w (e0::e1::e2::e3::e4::L)):H r w (e1::e2::e3::e4::e0::L):=(((h.mv 4).mv 4).mv 4).mv 4
theorem abQ{l Cd:List Nat}{T:List UInt8}(hb: ∀s,l.getD s 0<=11):(kT l Cd T).length<=2*T.length+1:=by
 have h: ∀T:List UInt8,(T.flatMap λy=>dG (Cd.getD y.toNat 0) (l.getD y.toNat 0)).length<=11*T.length:=by
  intro T
  induction T with
  |nil=>exact aR _
  |cons y T ih=>rw[E0,aF,yU,ek];have:=hb y.toNat;omega
 unfold kT;rw[NY];have:=h T;omega
theorem Oh{T:List UInt8}{i:Nat}:(jc T i).length=min ((i+1)*((T.length+3)/4)) T.length-i*((T.length+3)/4):=by
 unfold jc;rw[gk,bV];omega
theorem Un(h:k<(jc T i).length):i*((T.length+3)/4)+k<T.length/\(jc T i).getD k 0=T.getD (i*((T.length+3)/4)+k) 0:=by
 have W:= @Oh T i;refine⟨I,?_⟩;unfold jc;rw[bS,pT,ai I,oE,<-bS]
theorem aC4(hT:aP F (.slice ta T.length tc) T)(h:i*((T.length+3)/4)<=T.length):aP F (.slice (cut ta tc (i*((T.length+3)/4)) 1) (jc T i).length (tc-i*((T.length+3)/4))) (jc T i):=by
 have:=(hT.drop h).take (m:=min ((i+1)*((T.length+3)/4)) T.length-i*((T.length+3)/4)) I;rw[Oh];exact this
theorem aC5(hi:i<=3)(h:1<=n-3*((n+3)/4)):i*((n+3)/4)<=min ((i+1)*((n+3)/4)) n/\(i+1)*((n+3)/4)<=4*((n+3)/4):=by
 rcases(I:i=0\/i=1\/i=2\/i=3)with rfl|rfl|rfl|rfl<;>omega
theorem alN:uE l Cd T (k+1)=uE l Cd T k++kT l Cd (jc T k):=by unfold uE;rw[pU,K6];simp
theorem alO:nJ l Cd T (k+1)=nJ l Cd T k++cu (kT l Cd (jc T k)).length 2:=by unfold nJ;rw[pU,K6];simp
theorem abR{l Cd:List Nat}{T:List UInt8}(hb: ∀s,l.getD s 0<=11): ∀k,(uE l Cd T k).length<=(2*T.length+1)*k
 |0=>bP _
 |k+1=>by have W:=abR (l:=l) (Cd:=Cd) (T:=T) hb k;have h2:= @abQ l Cd (jc T k) hb;have h3:(jc T k).length<=T.length:=(by rw[Oh];omega);rw[alN,aF,Pb];omega
theorem Uo{l Cd:List Nat}{T:List UInt8}: ∀k,(nJ l Cd T k).length=2*k
 |0=>rfl
 |k+1=>by rw[alO,aF,eP,Uo k];omega
def Up(F:List aD)(vs:List Value)(l Cd:List Nat)(T:List UInt8)(i:Nat):Prop:=vs.length=4/\ ∀j,j<i-> ∃ad n c,vs[j]? =some (.slice ad n c)/\aP F (.slice ad n c) (kT l Cd (jc T j))
theorem Up.step{vs:List Value}{bd:Nat}(h:Up F vs l Cd T i)(hi:i<4):Up (EB (some bd) (kT l Cd (jc T i)) []::F) (vs.set i (cf bd (kT l Cd (jc T i)).length (kT l Cd (jc T i)).length)) l Cd T (i+1):=by
 refine⟨by rw[dD];exact h.1,λj hj=>?_⟩;by_cases e:i=j
 subst e;exact⟨some ⟨bd,0,none⟩,(kT l Cd (jc T i)).length,(kT l Cd (jc T i)).length,by rw[uK,ai J,ai (by rw[h.1];exact hi)],BB.sl (ob:=some bd) ⟨by rw[dP],λe=>by cases e⟩⟩
 obtain⟨ad,n,c,W,h2⟩:=h.2 j I;exact⟨ad,n,c,by rw[uK,ag e];exact W,h2.sub (Sub.cons _ _)⟩
theorem alP{P:Program}{ρ:Env}{x y:Operand}{T T' ty:TypeId}{e m:Nat}(he:e=m)(hx:Env.ev ρ x=R a)(hy:Env.ev ρ y=R e)(hk:a*m<=aG .i64):run P ρ (.binOp .mul T x y T') ty w= .ok (.value (R (a*m))) w:=by
 subst he;exact AJ hx hy hk
theorem aC6(hb: ∀s,l.getD s 0<=11):(kT l Cd (jc T j)).length<=2*T.length+1:=by
 have W:= @abQ l Cd (jc T j) hb;have h3:(jc T j).length<=T.length:=(by rw[Oh];omega);omega
theorem aC7{d f hd:Nat}(hf:f<=3)(hh:hd<=3)(h: ¬ [1024,1024,16384,262144].getD f 0<=max n d):n*2^4|||f*2^2=n*16+f*4/\n*16+f*4|||hd=n*16+f*4+hd/\d*2^(4+uF f)||| (n*16+f*4+hd)=d*2^(4+uF f)+(n*16+f*4+hd)/\uF f<=18/\n<Ax f/\d<Ax f/\n*16+f*4+hd<=10000000/\d*2^(4+uF f)<=1099511627776/\EH f<=5/\3<=EH f/\d<=262144:=by
 have hl:Ax f=2^uF f:=(by rcases(I:f=0\/f=1\/f=2\/f=3)with rfl|rfl|rfl|rfl<;>rfl);have h0:[1024,1024,16384,262144].getD f 0=Ax f:=rfl;have hw:uF f<=18:=(by rcases(I:f=0\/f=1\/f=2\/f=3)with rfl|rfl|rfl|rfl<;>decide);have hs:EH f<=5/\3<=EH f:=(by rcases(I:f=0\/f=1\/f=2\/f=3)with rfl|rfl|rfl|rfl<;>decide);have hm:Ax f<=262144:=(by rw[hl];exact dp aj hw);rw[h0]at h;have hn:n<Ax f:=I;have Uq:d<Ax f:=I;have e4:2^(4+uF f)=16*Ax f:=(by rw[ks,hl]);refine⟨?_,?_,?_,hw,hn,Uq,I,?_,hs.1,hs.2,I⟩
 have:= @v7 4 (f*2^2) I n;rw[iu n (2^4),<-this]
 have:= @v7 2 hd I (n*4+f);rw[show n*16+f*4=2^2*(n*4+f) by omega];exact this.symm
 have:= @v7 (4+uF f) (n*16+f*4+hd) (by rw[e4];omega) d;rw[iu d,<-this]
 rw[e4];have:=sr (AB Uq) (xE 16 hm);exact aI (sr (I:d<=262144) (xE 16 hm)) aj
theorem H.asc{G:List aD}(h:H r w (e1::e2::(G5++(K::(G++L))))):H r w (e1::e2::((G5++K::G)++L)):=by
 rw[cF];exact h
theorem H.aC8{G:List aD}(h:H r w (e0::e1::e2::(G5++(K::(G++L))))):H r w (e0::e1::e2::((G5++K::G)++L)):=by
 rw[cF];exact h
theorem aC9{G:List aD}:Sub (G++L) ((G5++K::G)++L):=λe he=>by
 rcases nL.1 he with h|h
 exact ni _ (fe _ (ar h))
 exact fe _ h
theorem aC_{ob:Option Nat}{X S:List UInt8}(h:BB ob X S c)(h0:0<X.length):ob≠none:=λe=>by
 have W:=h.2 e;have h2:=h.1;subst W;simp only[aF]at h2;omega
theorem alQ(h:p:=by have rQ:=ht.2.2.2 (aCY FD);refine V 6 ?_;refine gU (cf vR l1.length l1.length) ?_;intro w h;rw[aC0]at h;exact dI (aC ⟨aM,l1,false,some ⟨vR,0,none⟩,l1.length,fU,to1,TB1,TS1,tc1,[(af vR (List.map R l1) 3)],aq,h,ht.2.2.1,(λe=>by cases e),(λ_=>rQ.1),rQ.2,py,Of,(λe=>by cases e),(λs hs=>(Es.used s).2 hs),I⟩)):p:=h
theorem alR(h:p:=by refine V 5 ?_;exact⟨lV,fZ,l'.length,fD,G5++(af bk (List.map R Cd) 3)::G,I,.inl ⟨J,h.tail.tail.asc⟩⟩):p:=h
theorem alS(h:p:=by refine V 5 ?_;exact⟨fU,x.la,x.ln,x.lc,[(af vR (List.map R l1) 3)],I,.inl ⟨J,h.tail⟩⟩):p:=h
theorem aC'{wb cc used kind:Nat}{ca:Option Addr}{nn nc at_:Nat}{na:Option Addr}{N:List Int}(h:H r w ((af wb (aT x) 49)::(some x.cb,C [.slice na nn nc,R at_] 38)::L))(hN:nG L (.slice na nn nc) N)(jg:at_<=1152921504606840000)(hT:aP L (.slice ta T.length tc) T)(Ze:0<T.length)(rT:T.length<=131072)(hC:gO L (.slice ca Cs.length cc) (Cs.map R))(hCl:Cs.length=256)(hCb: ∀s,Cs.getD s 0<=131072)(hCT: ∀i,i<T.length->0<Cs.getD (T.getD i 0).toNat 0)(hus:used=(cR Cs Cs.length).length)(hkd:kind<=4)(qG:mN L x lo):Calls PP 39 #[aW wb,.slice ta T.length tc,.slice ca Cs.length cc,R used,R kind] w λe w'=> ∃at' fZ mi fD G,at'<=at_+270/\((e= .returned (.slice none 0 0)/\H r w' ((af wb (aT (ll x fZ mi fD)) 49)::(some x.cb,C [.slice na nn nc,R at'] 38)::(G++L)))\/(∃ob B S c l',e= .returned (.slice (aB ob) (List.length B) c)/\ob≠none/\BB ob B S c/\mN (G++L) (ll x fZ mi fD) (some l')/\Um lo l' T B/\List.length B<=270000/\H r w' (EB ob B S::(af wb (aT (ll x fZ mi fD)) 49)::(some x.cb,C [.slice na nn nc,R at'] 38)::(G++L)))):=by
 refine kC (hC.eH (show 0<(Cs.map R).length by rw[bX];omega)) λpb pq lp Tp q1=>?_;refine fx q1.2.1 λip qC=>?_;have Oi:=hT.len.2;have MA:=T_ Cs Cs.length;refine qN (P:=PP) Tryz.func39 232 Tryz.ntmps39 [10] J J (args:=[_,_,_,_,_]) J ?_;refine V 10 ?_;refine ah (Kh J J) ?_;refine V 10 ?_;refine bQ (σ:=Nat×Bool) [(11,13),(37,66)] (λ⟨j,fb⟩ ρ w=>Kn ρ [(37,R j),(11,.bool fb)]/\H r w ((af wb (aT x) 49)::(some x.cb,C [.slice na nn nc,R at_] 38)::L)/\(j<=Cs.length)/\(fb=true-> ∃l,lo=some l/\ ∀s,s<j->0<Cs.getD s 0->0<l.getD s 0)) (λ⟨j,fb⟩=>Cs.length-j) (0,!x.la.isNone) ⟨aq,h,I,(λe=>aCZ qG e)⟩ ?_;rintro⟨j,fb⟩ ρ w ⟨⟨N0,rfl⟩,h,hj,n6⟩;refine V 5 ?_;refine an J ?_ ?_<;>intro rN
 refine aQ (a9 (jB [(11,13),(39,65)] (λρ w=> ∃f2:Bool,Kn ρ [(11,.bool f2)]/\H r w ((af wb (aT x) 49)::(some x.cb,C [.slice na nn nc,R at_] 38)::L)/\(f2=true-> ∃l,lo=some l/\ ∀s,s<j+1->0<Cs.getD s 0->0<l.getD s 0)) ?_ ?_))
 refine V 3 ?_;refine ah (cI J J q1.1 I) (aO h J (nd q1.2.2 I) ?_);refine V 6 ?_;refine we (t:=43) J (λUr=>?_) (λUr=>?_)
 refine V 3 ?_;refine d' (t:=46) J (λaDa=>?_) (λaDa=>?_)
 refine V 8 ?_;refine fT J J J J (fT J J J J (fT J J J J (fT J J J J (fT J J J J (fT J J J J (fT J J J J (fT J J J J (oF_ J J J (dn J J J (sw J) J ?_)))))))));refine V 3 ?_;exact⟨aM,true,aq,h,(λ_=>aY (n6 Ur) (λl1 q=>⟨l1,q.1,alL q.2 (λe=>I)⟩))⟩
 refine V 8 ?_;refine d' (t:=54) J (λHv=>?_) (λHv=>?_)
 refine V 4 ?_;refine(n6 Ur).elim λl0 q3=>?_;rw[q3.1]at qG;have aI8:=qG.2.1;have hLl:=qG.2.2.1.len;rw[bX]at hLl;refine kC (qG.2.2.1.eH (show 0<(l0.map R).length by rw[bX];omega)) λpb2 pq2 lp2 Tp2 q2=>?_;refine fx q2.2.1 λip2 aI9=>?_;refine V 1 ?_;refine dn J J J (cI J J q2.1 I) J (dn J J J (run_load h J (nd q2.2.2 I)) J ?_);refine V 1 ?_;refine dn J J J (sw J) J (dn J J J (uW J) J ?_);refine V 3 ?_;exact⟨aM,decide (0<l0.getD j 0),aq,h,(λe=>⟨l0,q3.1,alL (aY (n6 Ur) (λl1 q=>by have:=vZ (q.1.symm.trans q3.1);rw[<-this];exact q.2)) (λ_=>tf e)⟩)⟩
 refine V 8 ?_;refine dn J J J (uW J) J (dn J J J (uW J) J ?_);refine V 3 ?_;exact⟨aM,false,aq,h,(λe=>by cases e)⟩
 refine V 3 ?_;refine fT J J J J (fT J J J J (fT J J J J (fT J J J J (fT J J J J (fT J J J J (fT J J J J (fT J J J J (fT J J J J (fT J J J J (fT J J J J (fT J J J J (fT J J J J (fT J J J J ?_)))))))))))));refine fT J J J J (fT J J J J (fT J J J J ?_));refine V 4 ?_;exact⟨aM,false,aq,h,(λe=>by cases e)⟩
 rintro ρ w ⟨f2,⟨N1,rfl⟩,h,yB⟩;refine V 4 ?_;exact⟨aH 4,(j+1,f2),cw,aq,h,I,yB⟩
 have hjC:j=Cs.length:=I;refine V 5 ?_;refine cD [(10,11),(14,15),(67,91)] (λρ w=> ∃l':List Nat,∃Kw:Bool,∃fZ:Option Addr,∃fD dX:Nat,∃to:Option Nat,∃TB TS:List UInt8,∃tc2:Nat,∃G:List aD,Kn ρ [(11,.bool Kw),(14,.slice (aB to) (List.length TB) tc2)]/\H r w (EB to TB TS::(af wb (aT (ll x fZ l'.length fD)) 49)::(some x.cb,C [.slice na nn nc,R dX] 38)::(G++L))/\(BB to TB TS tc2)/\(Kw=true->lo=some l'/\TB=[])/\(Kw=false->Od l' TB)/\(List.length TB<=200)/\(Ul l')/\(gO (G++L) (.slice fZ l'.length fD) (l'.map R))/\(fZ≠none)/\(∀s,0<Cs.getD s 0->0<l'.getD s 0)/\(dX<=at_+260)) ?_ ?_
 refine V 5 ?_;refine d' (t:=69) J (λQA=>?_) (λQA=>?_)
 refine V 4 ?_;refine iI J ?_;refine V 6 ?_;refine an J ?_ ?_<;>intro Mc
 refine V 5 ?_;exact⟨at_,x.la,x.ln,x.lc,[],I,.inl ⟨J,h⟩⟩
 refine V 8 ?_;replace h:=h.zz [1] 0;refine b_ (v1:=R 2) J J J (aA (kI (n:=2) (at_:=at_) h (hN.sub aJ) I aj) ?_);rintro e w1 ⟨ov,iX,rfl,me,sT,h⟩;refine V 1 ?_;refine b_ J J J (aA (ale (abF:=decide (ov=1)) h (hC.sub aJ) I (λs=>aI (hCb s) aj) I) ?_);rintro e w1 ⟨vR,l1,rfl,Es,h⟩;have py:=Es.g I;refine V 7 ?_;replace h:=h.zz [1,2] 0;refine b_ J J J ((alH (L:=(af vR (List.map R l1) 3)::L) (l:=l1) h (hN.sub (Sub.cons _ _)) I (Of (T:=3)) py.len py.N6 py.le).mono ?_);clear h;rintro e w1 ⟨fU,uD,hh⟩;refine aY (alK hh) (λto1 eN=>aY (eN) (λTB1 eK=>aY (eK) (λTS1 fL=>aY (fL) (λtc1 ht=>?_))));refine⟨_,ht.1,?_⟩;have h:=ht.2.1;clear hh;refine V 5 ?_;refine ah (abh J J) (aC (eA J ?_ ?_))<;>intro FD
 exact alS
 exact alQ
 refine V 1 ?_;refine dn J J J (j8 J) J ?_;refine V 2 ?_;refine eA J ?_ ?_<;>intro Re
 refine V 6 ?_;refine an J ?_ ?_<;>intro Mc
 refine V 5 ?_;exact⟨at_,x.la,x.ln,x.lc,[],I,.inl ⟨J,h⟩⟩
 refine V 8 ?_;replace h:=h.zz [1] 0;refine b_ (v1:=R 2) J J J (aA (kI (n:=2) (at_:=at_) h (hN.sub aJ) I aj) ?_);rintro e w1 ⟨ov,iX,rfl,me,sT,h⟩;refine V 1 ?_;refine b_ J J J (aA (ale (abF:=decide (ov=1)) h (hC.sub aJ) I (λs=>aI (hCb s) aj) I) ?_);rintro e w1 ⟨vR,l1,rfl,Es,h⟩;have py:=Es.g I;refine V 7 ?_;replace h:=h.zz [1,2] 0;refine b_ J J J ((alH (L:=(af vR (List.map R l1) 3)::L) (l:=l1) h (hN.sub (Sub.cons _ _)) I (Of (T:=3)) py.len py.N6 py.le).mono ?_);clear h;rintro e w1 ⟨fU,uD,hh⟩;refine aY (alK hh) (λto1 eN=>aY (eN) (λTB1 eK=>aY (eK) (λTS1 fL=>aY (fL) (λtc1 ht=>?_))));refine⟨_,ht.1,?_⟩;have h:=ht.2.1;clear hh;refine V 5 ?_;refine ah (abh J J) (aC (eA J ?_ ?_))<;>intro FD
 exact alS
 exact alQ
 refine(n6 (EA Re)).elim λl0 q3=>?_;rw[q3.1]at qG;rw[aC1 qG.2.1]at h;replace h:=h.ghost (C (List.map u8 ([]++[])) 5);exact aQ ⟨aM,l0,fb,x.la,x.lc,at_,none,[],[],0,[],aq,h,BB.none,(λ_=>⟨q3.1,J⟩),(λe=>by rw[EA Re]at e;cases e),bP _,qG.2.2.2,qG.2.1▸qG.2.2.1,qG.1,(λs hs=>q3.2 s (by rcases dh s j with e|e;exact e;rw[bS,gP I]at hs;exact absurd hs (xC 0)) hs),I⟩
 rintro ρ w ⟨l',Kw,fZ,fD,dX,to,TB,TS,tc2,G,⟨N2,rfl⟩,h,Kx,MI,Ie,IS,vS,uz,oO,alT,yV⟩;refine V 6 ?_;refine dJ J J (aA (aCt (l:=l') h (uz.sub aJ) vS.len vS.le (by have:=vS.N6;omega)) ?_);rintro e w1 ⟨bk,Cd,rfl,Ck,h⟩;have aDb:=aC2 Ck vS.len vS.le;replace h:=h.alM;have alU:gO [(af bk (List.map R Cd) 3)] (cf bk Cd.length l'.length) (Cd.map R):=(by have:=Of (F:=[]) (b:=bk) (l:=Cd) (T:=3);rw[Ck.len]at this ⊢;exact this);have Us: ∀i,i<T.length->(T.getD i 0).toNat<l'.length/\Cd.getD (T.getD i 0).toNat 0<=10000000:=λi hi=>aDb _ (alT _ (hCT i hi));refine V 8 ?_;refine cD [(18,18),(99,112)] (λρ w=> ∃f4:Bool,∃jL:Nat,Kn ρ [(18,.bool f4)]/\H r w (EB to TB TS::(af wb (aT (ll x fZ l'.length fD)) 49)::(some x.cb,C [.slice na nn nc,R jL] 38)::((af bk (List.map R Cd) 3)::(G++L)))/\(f4=true->6<=T.length)/\(jL<=at_+261)) ?_ ?_
 refine V 4 ?_;refine d' (t:=101) J (λabS=>?_) (λabS=>?_)
 refine V 4 ?_;replace h:=h.zz [1,2] 0;refine yT (v1:=R 2) J J J J J J (aA (kI (n:=2) (at_:=dX) h (hN.sub aJ) I aj) ?_);rintro e w1 ⟨ov,jL,rfl,me,Hw,h⟩;refine V 2 ?_;refine d' (t:=108) J (λaDc=>?_) (λaDc=>?_)
 refine V 2 ?_;refine dn J J J (sw J) J ?_;refine V 3 ?_;replace h:=h.zz [1,2] 0;exact⟨aM,true,jL,aq,h,(λ_=>abS),I⟩
 refine V 2 ?_;refine dn J J J (uW J) J ?_;refine V 3 ?_;replace h:=h.zz [1,2] 0;exact⟨aM,decide (1023<T.length),jL,aq,h,(λ_=>abS),I⟩
 refine V 7 ?_;refine fT J J J J (fT J J J J ?_);refine V 4 ?_;exact⟨aM,false,dX,aq,h,(λe=>by cases e),I⟩
 rintro ρ w ⟨f4,jL,⟨T6,rfl⟩,h,Jm,Hw⟩;refine V 4 ?_;refine ah (mT (b:=4) (h2:=ao.lit _) J J aj az) ?_;refine dI (aC (cD [(18,18),(116,123)] (λρ w=> ∃f5:Bool,Kn ρ [(18,.bool f5)]/\H r w (EB to TB TS::(af wb (aT (ll x fZ l'.length fD)) 49)::(some x.cb,C [.slice na nn nc,R jL] 38)::((af bk (List.map R Cd) 3)::(G++L)))/\(f5=true->6<=T.length/\1<=T.length-3*((T.length+3)/4))) ?_ ?_))
 refine V 4 ?_;refine we (t:=117) J (λalV=>?_) (λalV=>?_)
 refine V 2 ?_;refine dn J J J (AJ (a:=3) (W:=ao.lit _) J J az) J (dn J J J (oH J J I I) J (dn J J J (qL (v:=1) J J) J ?_));refine V 2 ?_;refine an J ?_ ?_<;>intro I2
 refine V 3 ?_;exact⟨aM,false,aq,h,(λe=>by cases e)⟩
 exact aQ ⟨aM,f4,aq,h,(λe=>⟨Jm e,I⟩)⟩
 refine V 7 ?_;exact fV J (aQ ⟨aM,f4,aq,h,(λe=>by rw[alV]at e;cases e)⟩)
 rintro ρ w ⟨f5,⟨T7,rfl⟩,h,Gm⟩;refine cD [(10,10),(124,129)] (λρ w=>Kn ρ []/\H r w (EB to TB TS::(af wb (aT (ll x fZ l'.length fD)) 49)::(some x.cb,C [.slice na nn nc,R jL] 38)::((af bk (List.map R Cd) 3)::(G++L)))/\(f5=false->T.length<=1023)) ?_ ?_
 refine V 3 ?_;refine ah (j8 J) (cM (we (t:=126) J (λUt=>?_) (λUt=>?_)))
 refine V 4 ?_;refine an J ?_ ?_<;>intro qe
 refine V 5 ?_;exact⟨jL,fZ,l'.length,fD,(af bk (List.map R Cd) 3)::G,I,.inl ⟨J,h.tail⟩⟩
 exact aQ ⟨aM,aq,h,(λ_=>I)⟩
 refine V 4 ?_;exact fV J (aQ ⟨aM,aq,h,(λe=>by rw[EA Ut]at e;cases e)⟩)
 rintro ρ w ⟨⟨T8,rfl⟩,h,hf6⟩;refine V 4 ?_;refine cD [(10,10),(20,23),(25,25),(130,177)] (λρ w=> ∃Oj:Option Nat,∃SB Uu:List UInt8,∃sc5:Nat,∃G5:List aD,Kn ρ [(20,.slice (aB Oj) (List.length SB) sc5)]/\H r w (EB Oj SB Uu::EB to TB TS::(af wb (aT (ll x fZ l'.length fD)) 49)::(some x.cb,C [.slice na nn nc,R jL] 38)::(G5++((af bk (List.map R Cd) 3)::(G++L))))/\(BB Oj SB Uu sc5)/\(f5=false->SB=kT l' Cd T)/\(f5=true->(∀i,i<4->(kT l' Cd (jc T i)).length<=65535)/\SB=nJ l' Cd T 3++uE l' Cd T 4)/\(List.length SB<=1100000)) ?_ ?_
 refine V 4 ?_;refine eA J ?_ ?_<;>intro Jo
 have alW:=Gm Jo;refine cg ((T.length+3)/4) λea Uv=>(a9 (eS (eh h J ?_)));intro bA w h;refine V 7 ?_;refine bQ (σ:=Nat×List Value×List aD) [(22,22),(131,150)] (λ⟨i,vs,G4⟩ ρ w=>Kn ρ [(131,R i)]/\H r w ((af bA (vs) 135)::EB to TB TS::(af wb (aT (ll x fZ l'.length fD)) 49)::(some x.cb,C [.slice na nn nc,R jL] 38)::(G4++((af bk (List.map R Cd) 3)::(G++L))))/\(i<=4)/\(Up G4 vs l' Cd T i)) (λ⟨i,vs,G4⟩=>4-i) (0,[.slice none 0 0,.slice none 0 0,.slice none 0 0,.slice none 0 0],[]) ⟨aq,h,I,J,λj hj=>absurd hj (nP _)⟩ ?_;rintro⟨i,vs,G4⟩ ρ w ⟨⟨abA,rfl⟩,h,hi,Ky⟩;refine V 5 ?_;refine an J ?_ ?_<;>intro NU
 have heb:=aC5 (n:=T.length) (i:=i) I alW.2;have hTi:=aC4 (i:=i) hT (aI heb.1 (Vu _ _));rw[Uv]at hTi;have fF:= @Oh T i;rw[Uv]at heb fF alW;have aI_:i*ea<=200000:=I;have aI':(i+1)*ea<=200000:=I;have hpT:(jc T i).length<=T.length:=I;refine V 14 ?_;refine ah (alP Uv J J az) ?_;refine V 3 ?_;refine ah (alP Uv J J az) (cM (ah (zh J J) (ah (uX J J J heb.1 I) (cM (ee (v0:=aW wb) (v1:= .slice (cut ta tc (i*ea) 1) (jc T i).length (tc-i*ea)) (v2:=cf bk Cd.length l'.length) J (gi J fF.symm) (gi J Ck.len.symm) J (aA (alj (x:=(ll x fZ l'.length fD)) (l:=l') (Cd:=Cd) (T:=jc T i) h (ar (ar bF)) (uz.sub aJ) (alU.sub (λ_ hh=>ar (ar (ar (ar (fe _ (by rcases je.1 hh with rfl;exact e_ ..))))))) (hTi.sub aJ) Ck.len I (λk hk=>by rw[(Un hk).2];exact(Us _ (Un hk).1).1) vS.le (λk hk=>by rw[(Un hk).2];exact(Us _ (Un hk).1).2)) ?_))))));rintro e w1 ⟨bd,rfl,h⟩;replace h:=h.aC3;refine V 1 ?_;refine cV (cf bd (kT l' Cd (jc T i)).length (kT l' Cd (jc T i)).length) (gv (show i<vs.length by rw[Ky.1];omega)) ?_;intro w h;refine V 5 ?_;exact⟨aH 22,(i+1,vs.set i (cf bd (kT l' Cd (jc T i)).length (kT l' Cd (jc T i)).length),EB (some bd) (kT l' Cd (jc T i)) []::G4),cw,aq,h,I,Ky.step I⟩
 have hi4:i=4:=I;rw[hi4]at Ky;have t_:=Ky.1;have alX: ∀j,(kT l' Cd (jc T j)).length<=2*T.length+1:=λj=>aC6 vS.le;replace h:=h.ghost (C (List.map u8 (nJ l' Cd T 0++[])) 5);refine V 7 ?_;refine bQ (σ:=Nat×Option Nat×List UInt8×Nat) [(20,20),(23,23),(151,162)] (λ⟨k,so,SS,sc⟩ ρ w=>Kn ρ [(151,R k),(20,.slice (aB so) (List.length (nJ l' Cd T k)) sc)]/\H r w (EB so (nJ l' Cd T k) SS::(af bA (vs) 135)::EB to TB TS::(af wb (aT (ll x fZ l'.length fD)) 49)::(some x.cb,C [.slice na nn nc,R jL] 38)::(G4++((af bk (List.map R Cd) 3)::(G++L))))/\(k<=3)/\(BB so (nJ l' Cd T k) SS sc)) (λ⟨k,so,SS,sc⟩=>3-k) (0,none,[],0) ⟨aq,h,I,BB.none⟩ ?_;rintro⟨k,so,SS,sc⟩ ρ w ⟨⟨aCu,rfl⟩,h,lK,hSB⟩;refine V 5 ?_;refine an J ?_ ?_<;>intro ahi
 refine AW (Ky.2 k I) λva vn vc q2=>?_;have NC:=q2.2.len.1;have Hx:=alX k;refine V 12 ?_;refine ah (run_load h J q2.1) ?_;refine V 2 ?_;refine b_ (v1:=R 2) J J J (aA (qE (x:=vn) (k:=2) h I aj) ?_);rintro e w1 ⟨nK,lS,lT,rfl,j4,h⟩;refine lk (X:=nJ l' Cd T k) (Y:=cu vn 2) (F:=[EB nK (cu vn 2) lS]) h 1 J (gi J (eP vn 2).symm) J hSB (j4.sl) (λe he=>by rcases je.1 he with rfl;exact e_ ..) (by rw[Uo,eP];omega) J ?_;intro w so2 sc2 SS2 h alY;dsimp only[List.set]at h;have hfh:nJ l' Cd T k++cu vn 2=nJ l' Cd T (k+1):=(by rw[alO,NC]);rw[hfh]at h alY;replace h:=h.tail;refine V 6 ?_;exact⟨aH 14,(k+1,so2,SS2,sc2),cw,Kn.mk ⟨J,(gi J (b8 List.length hfh)),trivial⟩,h,I,alY⟩
 have aDd:k=3:=I;subst aDd;refine V 3 ?_;refine ah (iK vs h J (Rd.self _) t_) ?_;refine V 3 ?_;refine bQ (σ:=Nat×Option Nat×List UInt8×Nat) [(10,10),(20,20),(25,25),(164,173)] (λ⟨j,Kz,Ok,Ol⟩ ρ w=>Kn ρ [(164,R j),(20,.slice (aB Kz) (List.length (nJ l' Cd T 3++uE l' Cd T (j))) Ol)]/\H r w (EB Kz (nJ l' Cd T 3++uE l' Cd T (j)) Ok::(af bA (vs) 135)::EB to TB TS::(af wb (aT (ll x fZ l'.length fD)) 49)::(some x.cb,C [.slice na nn nc,R jL] 38)::(G4++((af bk (List.map R Cd) 3)::(G++L))))/\(j<=4)/\(BB Kz (nJ l' Cd T 3++uE l' Cd T (j)) Ok Ol)/\(∀t,t<j->(kT l' Cd (jc T t)).length<=65535)) (λ⟨j,Kz,Ok,Ol⟩=>4-j) (0,so,SS,sc) ⟨(Kn.mk ⟨J,(gi J (by rw[show uE l' Cd T 0=[]from J,dP])),trivial⟩),(by show H r _ (EB so (nJ l' Cd T 3++[]) SS::_);rw[dP];exact h),I,(by show BB so (nJ l' Cd T 3++[]) SS sc;rw[dP];exact hSB),(λt ht=>absurd ht (nP _))⟩ ?_;rintro⟨j,Kz,Ok,Ol⟩ ρ w ⟨⟨aCv,rfl⟩,h,hj4,alZ,h65⟩;refine V 5 ?_;refine an J ?_ ?_<;>intro aap
 refine AW (Ky.2 j I) λva vn vc q2=>?_;have NC:=q2.2.len.1;have Hx:=alX j;refine V 5 ?_;refine ah (adj J J I q2.1) ?_;refine V 9 ?_;refine an J ?_ ?_<;>intro aJa
 refine V 5 ?_;exact⟨jL,fZ,l'.length,fD,G4++(af bk (List.map R Cd) 3)::G,I,.inl ⟨J,h.tail.tail.tail.asc⟩⟩
 refine V 4 ?_;refine lk (X:=(nJ l' Cd T 3++uE l' Cd T (j))) (Y:=kT l' Cd (jc T j)) (F:=G4) h 0 J J J alZ q2.2 (λe he=>ar (ar (ar (ar (ar (ni _ he)))))) (by have:= @abR l' Cd T vS.le j;have h4:(2*T.length+1)*j<=(2*T.length+1)*4:=xE _ hj4;rw[aF,Uo];omega) J ?_;intro w so4 sc4 SS4 h al0;dsimp only[List.set]at h;have MI:(nJ l' Cd T 3++uE l' Cd T (j))++kT l' Cd (jc T j)=(nJ l' Cd T 3++uE l' Cd T (j+1)):=(by rw[alN,cF]);rw[MI]at h al0;refine V 6 ?_;exact⟨aH 12,(j+1,so4,SS4,sc4),cw,Kn.mk ⟨J,(gi J (b8 List.length MI)),trivial⟩,h,I,al0,(λt ht=>by rcases vY.1 ht with hh|rfl;exact h65 t hh;rw[<-NC];omega)⟩
 refine iy ?_;replace h:=h.zz [4,4,4,3,4] 1;exact⟨aH 12,Kz,(nJ l' Cd T 3++uE l' Cd T (j)),Ok,Ol,G4,aq,h,alZ,(λe=>by rw[Jo]at e;cases e),(λ_=>⟨λt ht=>h65 t I,by rw[show j=4 by omega]⟩),(by have:= @abR l' Cd T vS.le j;have h4:(2*T.length+1)*j<=(2*T.length+1)*4:=xE _ hj4;rw[aF,Uo];omega)⟩
 refine V 4 ?_;refine ee (v0:=aW wb) (v1:= .slice ta T.length tc) (v2:=cf bk Cd.length l'.length) J J (gi J Ck.len.symm) J (aA (alj (x:=(ll x fZ l'.length fD)) (l:=l') (Cd:=Cd) (T:=T) h (ar bF) (uz.sub aJ) (alU.sub (λ_ hh=>ar (ar (ar (by rcases je.1 hh with rfl;exact e_ ..))))) (hT.sub aJ) Ck.len I (λk hk=>(Us k hk).1) vS.le (λk hk=>(Us k hk).2)) ?_);rintro e w1 ⟨bd,rfl,h⟩;exact dI (aC ⟨aH 6,some bd,kT l' Cd T,[],List.length (kT l' Cd T),[],aq,h,⟨by rw[dP],λe=>by cases e⟩,(λ_=>rfl),(λe=>by rw[Jo]at e;cases e),(by have:= @abQ l' Cd T vS.le;omega)⟩)
 rintro ρ w ⟨Oj,SB,Uu,sc5,G5,⟨aCw,rfl⟩,h,Ad,aDe,al1,aJb⟩;refine V 4 ?_;refine lk (X:=TB) (Y:=SB) (F:=[EB Oj SB Uu]) h 1 J J J Kx (Ad.sl) (λe he=>by rcases je.1 he with rfl;exact e_ ..) I J ?_;intro w Uw dc DS h hBD;dsimp only[List.set]at h;replace h:=h.tail;have j1:(TB++SB).length=TB.length+SB.length:=aF;refine V 6 ?_;refine cD [(27,27),(181,187)] (λρ w=> ∃form lV:Nat,Kn ρ [(27,R form)]/\H r w (EB Uw (TB++SB) DS::(af wb (aT (ll x fZ l'.length fD)) 49)::(some x.cb,C [.slice na nn nc,R lV] 38)::(G5++((af bk (List.map R Cd) 3)::(G++L))))/\(f5=true->1<=form)/\(f5=false->form=0)/\(form<=3)/\(lV<=at_+262)) ?_ ?_
 refine V 4 ?_;refine eA J ?_ ?_<;>intro al2
 refine V 5 ?_;replace h:=h.zz [1,2] 0;refine b_ (v1:=R 3) J J J (aA (kI (n:=3) (at_:=jL) h (hN.sub aJ) I aj) ?_);rintro e w1 ⟨ov,lV,rfl,me,Om,h⟩;refine V 3 ?_;replace h:=h.zz [1,2] 0;exact⟨aH 8,1+ov,lV,aq,h,(λ_=>I),(λe=>by rw[al2]at e;cases e),I,I⟩
 exact aQ ⟨aH 1,0,jL,aq,h,(λe=>by rw[al2]at e;cases e),(λ_=>rfl),I,I⟩
 rintro ρ w ⟨form,lV,⟨aCx,rfl⟩,h,aDf,aDg,aJc,Om⟩;refine a9 (ze (bQ (σ:=Nat) [(10,10),(27,27),(188,204)] (λfo ρ w=>Kn ρ [(27,R fo)]/\H r w (EB Uw (TB++SB) DS::(af wb (aT (ll x fZ l'.length fD)) 49)::(some x.cb,C [.slice na nn nc,R lV] 38)::(G5++((af bk (List.map R Cd) 3)::(G++L))))/\(f5=true->1<=fo)/\(f5=false->fo=0)/\(fo<=3)) (λfo=>4-fo) (form) ⟨aq,h,aDf,aDg,I⟩ ?_));rintro fo ρ w ⟨⟨aCy,rfl⟩,h,aDh,aDi,al3⟩;refine V 6 ?_;refine ah (Lf J J) (Iu J J J J (tw _ _ _ _) h ?_);intro bq w h;refine V 2 ?_;refine aO h J (sR (a:=1024) (b:=1024) (c:=16384) (d:=262144) I) ?_;refine V 2 ?_;refine an J ?_ ?_<;>intro aDj
 refine V 11 ?_;refine ah (j8 J) (cM (we (t:=201) J (λabT=>?_) (λabT=>?_)))
 refine V 4 ?_;refine iI J ?_;exact alR
 refine V 4 ?_;refine an J ?_ ?_<;>intro aJd
 exact alR
 refine aQ ?_;replace h:=h.tail;(try dsimp only[dB]at h);exact⟨aM,fo+1,cw,aq,h,(λ_=>Nat.succ_le_succ (bP _)),(λe=>by rw[e]at abT;cases abT),I⟩
 refine V 5 ?_;refine cD [(28,28),(205,205)] (λρ w=> ∃hd:Nat,Kn ρ [(28,R hd)]/\H r w (EB Uw (TB++SB) DS::(af wb (aT (ll x fZ l'.length fD)) 49)::(some x.cb,C [.slice na nn nc,R lV] 38)::(G5++((af bk (List.map R Cd) 3)::(G++L))))/\(hd=if Kw=true then 3 else 2)) ?_ ?_
 refine V 4 ?_;refine eA J ?_ ?_<;>intro Rf
 refine V 3 ?_;replace h:=h.tail;(try dsimp only[dB]at h);exact⟨aH 2,3,aq,h,(by rw[Rf];rfl)⟩
 refine aQ ?_;replace h:=h.tail;(try dsimp only[dB]at h);exact⟨aH 1,2,aq,h,(by rw[Rf];rfl)⟩
 rintro ρ w ⟨hd,⟨aJe,rfl⟩,h,jZ⟩;refine a9 (eS (Iu J J J J (tw _ _ _ _) h ?_));intro bq w h;refine V 2 ?_;refine aO h J (sR (a:=10) (b:=10) (c:=14) (d:=18) I) ?_;have j5:=aC7 (n:=T.length) (d:=List.length (TB++SB)) (f:=fo) (hd:=hd) al3 (by rw[jZ];split<;>omega) aDj;have eK:=j5.2.2.2.1;have wP:=j5.2.2.2.2.2.2.1;have rZ:=j5.2.2.2.2.2.2.2.1;have hx9:=j5.2.2.2.2.2.2.2.2;refine V 3 ?_;refine bL h [0,4,8,12,16,20,24,28,32,36,40,44,48,52,56,64,80,62,68,73,79,87,88] ?_;intro w h;refine av 4 ?_;refine aw J (d_ (a:=4) (b:=uF fo) (W:=ao.lit _) (h2:=⟨J⟩) J J az) (aw J (dN (a:=List.length (TB++SB)) (b:=4+uF fo) J J dw (aI rZ (ff J))) ?_);refine kA J (aw J (dN (b:=4) (h2:=ao.lit _) J J dw az) ?_);refine kA J (aw J (dN (b:=2) (h2:=ao.lit _) J J dw az) ?_);refine aw J (bZ (eI J J az az) j5.1) (kA J (aw J (bZ (eI J J az az) j5.2.1) ?_));refine av 1 ?_;refine aw J (bZ (eI J J (aI rZ (ff J)) az) j5.2.2.1) ?_;refine av 2 ?_;refine C' J J J J J (tw _ _ _ _) h ?_;intro bq w h;refine av 1 ?_;refine aK J h J (sR (a:=3) (b:=3) (c:=4) (d:=5) I) (kL J J J J (aA (qE (x:=(List.length (TB++SB)*2^(4+uF fo)+(T.length*16+fo*4+hd))) (k:=EH fo) h (aI (Nat.add_le_add rZ wP) (ff J)) I) ?_));rintro e w1 ⟨nK,lS,lT,rfl,j4,h⟩;refine Kj (X:=cu (List.length (TB++SB)*2^(4+uF fo)+(T.length*16+fo*4+hd)) (EH fo)) (Y:=TB++SB) (F:=[EB Uw (TB++SB) DS]) J h 0 (gi J (eP _ _).symm) J J j4 (hBD.sl) (λe he=>by rcases je.1 he with rfl;exact ar (ar (ar bF))) (by rw[eP];omega) J ?_;intro w oz cz SZ h s9;dsimp only[List.set]at h;refine eY J (cm (iG (⟨lV,fZ,l'.length,fD,G5++(af bk (List.map R Cd) 3)::G,I,.inr ⟨oz,cu (List.length (TB++SB)*2^(4+uF fo)+(T.length*16+fo*4+hd)) (EH fo)++(TB++SB),SZ,cz,l',J,aC_ s9 (by rw[aF,eP];omega),s9,⟨oO,J,uz.sub aC9,vS⟩,?_,by rw[aF,eP];omega,h.alM.tail.tail.tail.aC8⟩⟩)));exact⟨TB,SB,Cd,Kw,f5,fo,MI,Ie,vS,Ck,λi hi=>alT _ (hCT i hi),λe=>⟨aDi e,hf6 e,aDe e⟩,λe=>⟨aDh e,al3,(Gm e).1,(Gm e).2,(al1 e).1,(al1 e).2⟩,j5.2.2.2.2.1,j5.2.2.2.2.2.1,by rw[jZ]⟩
def Cm(c:List Nat)(y:UInt8):List Nat:=c.set y.toNat (c.getD y.toNat 0+1)
def mn(T:List UInt8)(j:Nat):List Nat:=(T.take j).foldl Cm (List.replicate 256 0)
theorem Ux(h:j<T.length):mn T (j+1)=Cm (mn T j) (T.getD j 0):=by
 unfold mn;have:T.take (j+1)=T.take j++[T.getD j 0]:=(by rw[List.take_add_one,bS,gv h];rfl);rw[this,OT];rfl
theorem aDk{c:List Nat}{y:UInt8}:(Cm c y).length=c.length:=by unfold Cm;rw[dD]
theorem aDl{X:List UInt8}: ∀{c:List Nat},(X.foldl Cm c).length=c.length:=by
 induction X with
 |nil=>intro c;rfl
 |cons y X ih=>intro c;rw[KV,ih,aDk]
theorem On{T:List UInt8}{j:Nat}:(mn T j).length=256:=by unfold mn;rw[aDl,dR]
theorem abU{c:List Nat}{y:UInt8}{s:Nat}(hc:c.length=256):(Cm c y).getD s 0=if s=y.toNat then c.getD s 0+1 else c.getD s 0:=by
 unfold Cm;have hy:y.toNat<256:=y.toNat_lt;rw[bS,uK];by_cases e:y.toNat=s
 subst e;rw[ai J,ai I,ai J];rfl
 rw[ag e,ag (λh=>e h.symm),<-bS]
theorem abV{T:List UInt8}{j:Nat}(h:j<=T.length)(s:Nat):(mn T j).getD s 0<=j:=by
 induction j with
 | zero=>
   show(List.replicate 256 0).getD s 0<=0
   rw[bS,uM];split<;>simp
 | succ j ih=>
   rw[Ux I,abU On]
   have:=ih I
   split<;>omega
theorem abW(h:j<=T.length)(hi:i<j):0<(mn T j).getD (T.getD i 0).toNat 0:=by
 induction j with
 |zero=>omega
 | succ j ih=>
   rw[Ux I,abU On]
   rcases vY.1 hi with hh|rfl
   . have:=ih I hh
     split<;>omega
   . rw[ai J];omega
theorem al4{c:List Nat}{y:UInt8}(hc:c.length=256): ∀n,(cR (Cm c y) n).length=(cR c n).length+if c.getD y.toNat 0=0/\y.toNat<n then 1 else 0
 |0=>by simp[cR]
 | n+1=>by
  have ih:=al4 (y:=y) hc n;have e:= @abU c y n hc;by_cases hn:n=y.toNat
  have W:0<(Cm c y).getD n 0:=(by rw[e,ai hn];omega);rw[Kp W,aF,ih,ag I];by_cases h0:0<c.getD n 0
  rw[Kp h0,aF,ag (by rw[<-hn];omega)];rfl
  rw[Kq h0,ai (by rw[<-hn];omega)];rfl
  rw[ag hn]at e;by_cases h0:0<c.getD n 0
  rw[Kp h0,Kp (by rw[e];exact h0),aF,aF,ih];have:(c.getD y.toNat 0=0/\y.toNat<n)↔(c.getD y.toNat 0=0/\y.toNat<n+1):=I;simp only[this];omega
  rw[Kq h0,Kq (by rw[e];exact h0),ih];have:(c.getD y.toNat 0=0/\y.toNat<n)↔(c.getD y.toNat 0=0/\y.toNat<n+1):=I;simp only[this]
def r9(T:List UInt8)(j:Nat):Nat:=(cR (mn T j) 256).length
theorem al5:r9 T 0=0:=by
 unfold r9;rw[kq,Vj];intro s hs;have:=(Kr.1 hs).2;have h2:= @abV T 0 (bP _) s;omega
theorem aDm(h:j<T.length):r9 T (j+1)=r9 T j+if(mn T j).getD (T.getD j 0).toNat 0=0 then 1 else 0:=by
 unfold r9;rw[Ux h,al4 On];have hy:(T.getD j 0).toNat<256:=(T.getD j 0).toNat_lt;congr 1;(split<;>split<;>first|rfl|omega)
theorem al6{T:List UInt8}{j:Nat}:r9 T j<=256:=T_ _ _
theorem al7(h:r9 T T.length=1){i:Nat}(hi:i<T.length):T.getD i 0=T.getD 0 0:=by
 have W:=abW (T:=T) (aR _) hi;have h2:=abW (T:=T) (i:=0) (aR _) I;have m1:(T.getD i 0).toNat∈cR (mn T T.length) 256:=Kr.2 ⟨(T.getD i 0).toNat_lt,W⟩;have m2:(T.getD 0 0).toNat∈cR (mn T T.length) 256:=Kr.2 ⟨(T.getD 0 0).toNat_lt,h2⟩;unfold r9 at h;obtain⟨a,ha⟩:=List.length_eq_one_iff.1 h;rw[ha]at m1 m2;exact K8.1 ((je.1 m1).trans (je.1 m2).symm)
variable {f nc nn wb:Nat}{na:Option Addr}
def al8(f:Nat):Nat:=[32,4096,1048576].getD f 0
def uG(f:Nat):Nat:=[1,2,3].getD f 0
def kp(f:Nat):Nat:=[3,4,4].getD f 0
def kJ(f:Nat):Nat:=[0,1,3].getD f 0
def al9(lo oC:Option (List Nat))(T B:List UInt8):Prop:=(∃l',oC=some l'/\Um lo l' T B)\/
 (oC=lo/\ ∃f,f<=2/\T.length<al8 f/\((0<T.length/\(∀i,i<T.length->T.getD i 0=T.getD 0 0)/\B=cu (T.length*2^kp f+kJ f*4+1) (uG f)++[T.getD 0 0])\/B=cu (T.length*2^kp f+kJ f*4) (uG f)++T))
theorem aP.eH{ad:Option Addr}{X:List UInt8}(h:aP F (.slice ad n c) X)(h0:0<n): ∃b q l T,ad=some ⟨b,q,none⟩/\(af b l T)∈F/\Rd l q (X.map u8):=by
 obtain⟨_,_,_,e1,_,_,h4⟩:=h;cases e1;exact h4 h0
theorem aDn(hf:f<=2)(hn:n<=131072)(h:[32,4096,1048576].getD f 0<=n):f+1<=2:=by
 rcases(I:f=0\/f=1\/f=2)with rfl|rfl|rfl
 decide
 decide
 exact absurd h (by show ¬1048576<=n;omega)
theorem aDo(hf:f<=2)(hn:n<=131072):n*2^kp f|||kJ f*2^2=n*2^kp f+kJ f*4/\n*2^kp f+kJ f*4|||1=n*2^kp f+kJ f*4+1/\n*2^kp f<=2097152/\kp f<=4/\kJ f<=3/\uG f<=3/\n*2^kp f+kJ f*4<=3000000/\n*2^kp f+kJ f*4+1<=3000000:=by
 rcases(I:f=0\/f=1\/f=2)with rfl|rfl|rfl
 have W:= @v7 3 0 I n;have h2:= @v7 1 1 I (n*4);simp only[kp,kJ,uG,AF,y'];refine⟨by rw[iu n];simp,?_,I,I,I,I,I,I⟩;rw[show n*2^3+0*4=2^1*(n*4) by omega];exact h2.symm
 have W:= @v7 4 4 I n;have h2:= @v7 1 1 I (n*8+2);simp only[kp,kJ,uG,AF,y'];refine⟨by rw[iu n];exact W.symm,?_,I,I,I,I,I,I⟩;rw[show n*2^4+1*4=2^1*(n*8+2) by omega];exact h2.symm
 have W:= @v7 4 12 I n;have h2:= @v7 1 1 I (n*8+6);simp only[kp,kJ,uG,AF,y'];refine⟨by rw[iu n];exact W.symm,?_,I,I,I,I,I,I⟩;rw[show n*2^4+3*4=2^1*(n*8+6) by omega];exact h2.symm
theorem H.aDp(h:H r w (e0::e1::e2::L)):H r w (e1::e2::e0::L):=(h.mv 2).mv 2
theorem aDq(n:Nat):List.replicate n (Value.int .i64 ((0:Nat):Int))=List.map R (List.replicate n 0):=by rw[vX]
theorem aDr{e:Ending}{na_:Nat}{at_:Nat}(hh: ∃at' fZ mi fD G,at'<=at_+270/\((e= .returned (.slice none 0 0)/\H r w ((af wb (aT (ll x fZ mi fD)) 49)::(some x.cb,C [.slice na nn nc,R at'] 38)::(G++L)))\/(∃ob B S c l',e= .returned (.slice (aB ob) (List.length B) c)/\ob≠none/\BB ob B S c/\mN (G++L) (ll x fZ mi fD) (some l')/\Um lo l' T B/\List.length B<=270000/\H r w (EB ob B S::(af wb (aT (ll x fZ mi fD)) 49)::(some x.cb,C [.slice na nn nc,R at'] 38)::(G++L))))): ∃ob B S c l' at' fZ mi fD G,e= .returned (.slice (aB ob) (List.length B) c)/\at'<=at_+270/\BB ob B S c/\List.length B<=270000/\(ob≠none->mN (G++L) (ll x fZ mi fD) (some l')/\Um lo l' T B)/\H r w (EB ob B S::(af wb (aT (ll x fZ mi fD)) 49)::(some x.cb,C [.slice na nn nc,R at'] 38)::(G++L)):=by
 obtain⟨at',fZ,mi,fD,G,W,⟨h2,h3⟩| ⟨ob,B,S,c,l',h2,h3,h4,h5,h6,h7,h8⟩⟩:=hh
 exact⟨none,[],[],0,[],at',fZ,mi,fD,G,h2,W,BB.none,bP _,λe=>absurd J e,h3.ghost _⟩
 exact⟨ob,B,S,c,l',at',fZ,mi,fD,G,h2,W,h4,h7,λ_=>⟨h5,h6⟩,h8⟩
theorem aDs{a:Option Addr}:(aT (ll x a n c)).set 4 (.slice x.la x.ln x.lc)=aT x:=rfl
theorem H.as2{G:List aD}(h:H r w (e1::e2::(G++(K::L)))):H r w (e1::e2::((G++[K])++L)):=by
 rw[cF];exact h
theorem H.as3{G:List aD}(h:H r w (e0::e1::e2::(G++(K::L)))):H r w (e0::e1::e2::((G++[K])++L)):=by
 rw[cF];exact h
theorem aDt{G:List aD}:Sub (G++(K::L)) ((G++[K])++L):=λe he=>by rw[cF];exact he
theorem aDu(e:j=T.length)(h:r9 T j=1):r9 T T.length=1:=by rw[<-e];exact h
theorem aDv(h:r9 T T.length=1):0<T.length:=by
 rcases nO T.length with e|e
 rw[e,al5]at h;cases h
 exact e
theorem Hy{b:Nat}{y:UInt8}{T:TT}:aP ((af b [u8 y] T)::F) (cf b 1 1) [y]:=
 ⟨_,_,_,J,J,aR _,λ_=>⟨b,0,_,_,J,e_ ..,Rd.self _⟩⟩
theorem al_(h:p:=by rintro e w1 ⟨nK,lS,lT,rfl,j4,h⟩;refine Kj (X:=cu (T.length*2^kp fo+kJ fo*4+1) (uG fo)) (Y:=[T.getD 0 0]) (F:=[(af bz [u8 (T.getD 0 0)] 5)]) J h 0 (gi J (eP _ _).symm) J J j4 Hy wi (by rw[eP];simp only[ek,fE];omega) J ?_;intro w oz cz SZ h s9;dsimp only[List.set]at h;refine eY J (cm (iG ?_));replace h:=h.zz [7,7,2,7,7,7,7,7] 5;exact⟨jL,x.la,x.ln,x.lc,lo,G4,oz,_,SZ,cz,J,I,s9,qG.sub (w7 G4),.inr ⟨J,fo,l7,vW fO,.inl ⟨Jq,λi hi=>al7 Oo hi,J⟩⟩,by rw[aF,eP];simp only[ek,fE];omega,h⟩):p:=h
theorem al'(h:p:=by intro bz w h;refine Kj (X:=cu (T.length*2^kp fo+kJ fo*4+1) (uG fo)) (Y:=[T.getD 0 0]) (F:=[(af bz [u8 (T.getD 0 0)] 5)]) J h 1 (gi J (eP _ _).symm) J J j4 Hy wi (by rw[eP];simp only[ek,fE];omega) J ?_;intro w oz cz SZ h s9;dsimp only[List.set]at h;refine eY J (cm (iG ?_));replace h:=h.zz [7,7,3,7,7,7,7,7] 5;exact⟨jL,x.la,x.ln,x.lc,lo,G4,oz,_,SZ,cz,J,I,s9,qG.sub (w7 G4),.inr ⟨J,fo,l7,vW fO,.inl ⟨Jq,λi hi=>al7 Oo hi,J⟩⟩,by rw[aF,eP];simp only[ek,fE];omega,h⟩):p:=h
theorem ama(h:p:=by refine aw J (bZ (eI J J (aI gE (ff J)) az) j5.1) (aw J (eB J (aI eL (ff J))) (kL J J J J (aA (qE (x:=(T.length*2^kp fo+kJ fo*4)) (k:=uG fo) h (aI eL (ff J)) I) ?_)));rintro e w1 ⟨nK,lS,lT,rfl,j4,h⟩;refine Kj (X:=cu (T.length*2^kp fo+kJ fo*4) (uG fo)) (Y:=T) (F:=L) J h 0 (gi J (eP _ _).symm) J J j4 hT (λe he=>by repeat first|exact fe _ he|apply mu) (by rw[eP];omega) J ?_;intro w oz cz SZ h s9;dsimp only[List.set]at h;refine eY J (cm (iG ?_));replace h:=h.zz [6,6,2,6,6,6,6] 4;exact⟨jL,x.la,x.ln,x.lc,lo,G4,oz,_,SZ,cz,J,I,s9,qG.sub (w7 G4),.inr ⟨J,fo,l7,vW fO,.inr J⟩,by rw[aF,eP];omega,h⟩):p:=h
theorem amb(h:p:=by refine aw J (bZ (eI J J (aI gE (ff J)) az) j5.1) (aw J (bZ (eI (b:=1) (h2:=ao.lit _) J J (aI eL (ff J)) aj) j5.2.1) ?_);refine aw J (eB J (aI fh (ff J))) (kL J J J J (aA (qE (x:=(T.length*2^kp fo+kJ fo*4+1)) (k:=uG fo) h (aI fh (ff J)) I) ?_));exact al_):p:=h
theorem KC(h:p:=by · refine kL J J J J (aA (qE (x:=(T.length*2^kp fo+kJ fo*4+1)) (k:=uG fo) h (aI fh (ff J)) I) ?_);rintro e w1 ⟨nK,lS,lT,rfl,j4,h⟩;refine ka J J (kB _) h ?_;exact al'):p:=h
theorem KD(h:p:=by refine ka J J (kB _) h ?_;intro bz w h;refine kL J J J J (aA (qE (x:=(T.length*2^kp fo+kJ fo*4+1)) (k:=uG fo) h (aI fh (ff J)) I) ?_);exact al_):p:=h
theorem abX(h:p:=by refine pf J J J J (kM _ _ _) h ?_;intro bq w h;refine av 1 ?_;refine aK J h J (l9 (a:=3) (b:=4) (c:=4) I) (aw J (dN (a:=T.length) (b:=kp fo) (h2:=⟨J⟩) J J dw (aI gE (ff J))) ?_);exact amb):p:=h
theorem amc(h:p:=by · refine pf J J J J (kM _ _ _) h ?_;intro bq w h;refine av 1 ?_;refine aK J h J (l9 (a:=3) (b:=4) (c:=4) I) (aw J (dN (a:=T.length) (b:=kp fo) (h2:=⟨J⟩) J J dw (aI gE (ff J))) ?_);refine pf J J J J (kM _ _ _) h ?_;intro bq w h;refine av 1 ?_;refine aK J h J (l9 (a:=0) (b:=1) (c:=3) I) (aw J (dN (a:=kJ fo) (b:=2) (W:=⟨J⟩) (h2:=ao.lit _) J J dw az) ?_);exact ama):p:=h
theorem amd(h:p:=by refine pf J J J J (kM _ _ _) h ?_;intro bq w h;refine av 1 ?_;refine aK J h J (l9 (a:=0) (b:=1) (c:=3) I) (aw J (dN (a:=kJ fo) (b:=2) (W:=⟨J⟩) (h2:=ao.lit _) J J dw az) ?_);refine pf J J J J (kM _ _ _) h ?_;intro bq w h;refine av 1 ?_;refine aK J h J (l9 (a:=3) (b:=4) (c:=4) I) (aw J (dN (a:=T.length) (b:=kp fo) (h2:=⟨J⟩) J J dw (aI gE (ff J))) ?_);exact ama):p:=h
theorem abY(h:p:=by refine pf J J J J (kM _ _ _) h ?_;intro bq w h;refine av 1 ?_;refine aK J h J (l9 (a:=0) (b:=1) (c:=3) I) (aw J (dN (a:=kJ fo) (b:=2) (W:=⟨J⟩) (h2:=ao.lit _) J J dw az) ?_);exact amb):p:=h
theorem ame(h:p:=by · refine kL J J J J (aA (qE (x:=(T.length*2^kp fo+kJ fo*4+1)) (k:=uG fo) h (aI fh (ff J)) I) ?_);rintro e w1 ⟨nK,lS,lT,rfl,j4,h⟩;refine aK J h J (jy q1.2.2 I) (ka J J (kB _) h ?_);exact al'):p:=h
theorem amf(h:p:=by replace h:=h.zz [1] 0;exact⟨aM,dX,[(af bA (List.map R (mn T T.length)) 110)],aq,h,I⟩):p:=h
theorem aDw{at_:Nat}{N:List Int}(h:H r w ((af wb (aT x) 49)::(some x.cb,C [.slice na nn nc,R at_] 38)::L))(hN:nG L (.slice na nn nc) N)(jg:at_<=1152921504606000000)(hT:aP L (.slice ta T.length tc) T)(rT:T.length<=131072)(qG:mN L x lo):Calls PP 28 #[aW wb,.slice ta T.length tc] w λe w'=> ∃at' fZ mi fD oC G ob B S c,e= .returned (.slice (aB ob) (List.length B) c)/\at'<=at_+280/\BB ob B S c/\mN (G++L) (ll x fZ mi fD) oC/\al9 lo oC T B/\List.length B<=270000/\H r w' (EB ob B S::(af wb (aT (ll x fZ mi fD)) 49)::(some x.cb,C [.slice na nn nc,R at'] 38)::(G++L)):=by
 have Oi:=hT.len.2;refine gS Tryz.func28 Tryz.ntmps28 [4] ?_;refine V 16 ?_;refine eh h J ?_;intro bA w h;refine V 6 ?_;have h0:H r w ((af bA (List.map R (mn T 0)) 110)::(af wb (aT x) 49)::(some x.cb,C [.slice na nn nc,R at_] 38)::L):=(by rw[aDq]at h;exact h);refine V 3 ?_;refine bQ (σ:=Nat) [(6,6),(9,9),(19,34)] (λj ρ w=>Kn ρ [(19,R j),(6,R (r9 T j))]/\H r w ((af bA (List.map R (mn T j)) 110)::(af wb (aT x) 49)::(some x.cb,C [.slice na nn nc,R at_] 38)::L)/\(j<=T.length)) (λj=>T.length-j) (0) ⟨(Kn.mk ⟨J,(gy al5.symm),trivial⟩),h0,I⟩ ?_;rintro j ρ w ⟨⟨KE,rfl⟩,h,hj⟩;refine V 5 ?_;refine an J ?_ ?_<;>intro F6
 refine kC (hT.eH I) λpb pq lp Tp q1=>?_;refine fx q1.2.1 λip qC=>?_;have hyl:=(T.getD j 0).toNat_lt;have jv:= @On T j;have ig:=Ux (I:j<T.length);have hus:=aDm (I:j<T.length);have n_:=abV (I:j<=T.length) (T.getD j 0).toNat;have MA:= @al6 T j;refine V 5 ?_;refine ah (cI J J q1.1 I) (aO h J (jy q1.2.2 I) (dI (aC (cD [(6,6),(23,28)] (λρ w=> ∃u:Nat,Kn ρ [(6,R u)]/\H r w ((af bA (List.map R (mn T j)) 110)::(af wb (aT x) 49)::(some x.cb,C [.slice na nn nc,R at_] 38)::L)/\(u=r9 T (j+1))) ?_ ?_))))
 refine V 4 ?_;refine aO h J (jC I) ?_;refine V 2 ?_;refine an J ?_ ?_<;>intro DM
 refine V 5 ?_;exact⟨aH 7,r9 T j+1,aq,h,(by rw[hus,ai DM])⟩
 exact aQ ⟨aH 4,r9 T j,aq,h,(by rw[hus,ag DM];rfl)⟩
 rintro ρ w ⟨u,⟨KF,rfl⟩,h,hu⟩;refine V 3 ?_;refine aO h J (jC I) ?_;refine V 2 ?_;refine gC (v:=R ((mn T j).getD (T.getD j 0).toNat 0+1)) h J (jC I) J J J ?_;intro w h;dsimp only[List.set]at h;rw[<-jM]at h;have e9:(mn T j).set (T.getD j 0).toNat ((mn T j).getD (T.getD j 0).toNat 0+1)=mn T (j+1):=ig.symm;rw[e9]at h;refine V 5 ?_;exact⟨aH 13,j+1,cw,Kn.mk ⟨J,(gy hu),trivial⟩,h,I⟩
 have hjT:j=T.length:=I;rw[hjT]at h;replace h:=h.aDp;have MA:= @al6 T T.length;have jv:= @On T T.length;refine V 7 ?_;replace h:=h.zz [1] 0;refine b_ (v1:=R 5) J J J (aA (kI (n:=5) (at_:=at_) h (hN.sub aJ) I aj) ?_);rintro e w1 ⟨ov,dX,rfl,me,yV,h⟩;refine dI (aC (cD [(4,4),(11,12),(40,62)] (λρ w=> ∃fU:Nat,∃G4:List aD,Kn ρ []/\H r w ((af wb (aT x) 49)::(some x.cb,C [.slice na nn nc,R fU] 38)::(G4++L))/\(fU<=at_+275)) ?_ ?_))
 refine V 5 ?_;refine d' (t:=42) J (λUy=>?_) (λUy=>?_)
 refine V 4 ?_;refine an J ?_ ?_<;>intro Dy
 refine V 13 ?_;refine ah (Ll J) (cM (cM ?_));replace h:=h.zz [1] 0;refine CP J J J J J J ?_;have hCs:gO ((af bA (List.map R (mn T T.length)) 110)::L) (cf bA (mn T T.length).length 256) ((mn T T.length).map R):=(by have:=Of (F:=L) (b:=bA) (l:=mn T T.length) (T:=110);rw[jv]at this ⊢;exact this);have abZ:=aC' (lo:=lo) (used:=r9 T j) (kind:=ov) h (hN.sub (Sub.cons _ _)) I (hT.sub (Sub.cons _ _)) Dy rT hCs jv (λs=>aI (abV (aR _) s) rT) (λi hi=>abW (aR _) hi) (by rw[jv,hjT];rfl) I (qG.sub (Sub.cons _ _));rw[jv]at abZ;refine abZ.mono ?_;clear h abZ;rintro e w1 hh;refine aY (aDr (na_:=0) hh) (λmB eN=>aY (eN) (λB3 eK=>aY (eK) (λS3 fL=>aY (fL) (λc3 gE=>aY (gE) (λl3 qf=>aY (qf) (λiX zR=>aY (zR) (λUz I4=>aY (I4) (λUA wP=>aY (wP) (λUB rZ=>aY (rZ) (λG3 ht=>?_))))))))));refine⟨_,ht.1,?_⟩;have h:=ht.2.2.2.2.2;have sT:=ht.2.1;clear hh;refine V 5 ?_;refine ah (Kh J J) (aC (eA J ?_ ?_))<;>intro FN
 refine V 6 ?_;have rQ:=ht.2.2.2.2.1 (abO FN);exact⟨iX,Uz,UA,UB,some l3,G3++[(af bA (List.map R (mn T T.length)) 110)],mB,B3,S3,c3,J,I,ht.2.2.1,rQ.1.sub aDt,.inl ⟨l3,J,rQ.2⟩,ht.2.2.2.1,h.as3⟩
 refine V 6 ?_;refine gU (.slice x.la x.ln x.lc) ?_;intro w h;rw[aDs]at h;replace h:=h.tail.as2;exact aC ⟨aM,iX,G3++[(af bA (List.map R (mn T T.length)) 110)],aq,h,I⟩
 refine aQ ?_;exact amf
 refine V 4 ?_;refine fV J (aQ ?_);exact amf
 rintro ρ w ⟨fU,G4,⟨KG,rfl⟩,h,uD⟩;refine V 6 ?_;replace h:=h.zz [1] 0;refine b_ (v1:=R 3) J J J (aA (kI (n:=3) (at_:=fU) h (hN.sub aJ) I aj) ?_);rintro e w1 ⟨ov,jL,rfl,me,Hw,h⟩;replace h:=h.zz [1] 0;refine V 4 ?_;refine bQ (σ:=Nat) [(13,13),(68,75)] (λfo ρ w=>Kn ρ [(13,R fo)]/\H r w ((af wb (aT x) 49)::(some x.cb,C [.slice na nn nc,R jL] 38)::(G4++L))/\(fo<=2)) (λfo=>3-fo) (ov) ⟨aq,h,I⟩ ?_;rintro fo ρ w ⟨⟨KH,rfl⟩,h,l7⟩;refine V 4 ?_;refine AX J J J (kM _ _ _) h ?_;intro bq w h;refine V 2 ?_;refine aO h J (l9 (a:=32) (b:=4096) (c:=1048576) I) ?_;refine V 2 ?_;refine an J ?_ ?_<;>intro MR
 have yB:=aDn l7 rT MR;refine V 7 ?_;replace h:=h.tail;(try dsimp only[dB]at h);exact⟨aH 9,fo+1,cw,aq,h,I⟩
 refine V 3 ?_;refine AX J J J (kM _ _ _) h ?_;intro bq w h;refine V 2 ?_;refine aO h J (l9 (a:=1) (b:=2) (c:=3) I) ?_;have j5:=aDo (n:=T.length) (f:=fo) l7 rT;have gE:=j5.2.2.1;have qf:=j5.2.2.2.1;have zR:=j5.2.2.2.2.1;have I4:=j5.2.2.2.2.2.1;have eL:=j5.2.2.2.2.2.2.1;have fh:=j5.2.2.2.2.2.2.2;have fO: ¬al8 fo<=T.length:=MR;refine V 8 ?_;refine d' (t:=82) J (λaDx=>?_) (λaDx=>?_)
 . refine V 4 ?_;refine an J ?_ ?_<;>intro D1
   . have Oo:=aDu hjT D1;have Jq:=aDv Oo;refine kC (hT.eH Jq) λpb pq lp Tp q1=>?_;refine fx (fe G4 q1.2.1) λip qC=>(a9 (wk h (cL [0,8,28,56,64,68] (.fork (cL [6,12,17,20] (.fork (cL [26,32,37,40,44,48,52] (.fork (cL [63,73,78,83,84] .nil) (cL [73] (.fork (cL [63,78,83,84] .nil) (cL [78,63,83,84] .nil))))) (cL [73] (.fork (cL [26,32,37,40,44,48,52] (.fork (cL [63,78,83,84] .nil) (cL [78,63,83,84] .nil))) (cL [78,26,32,37,40,44,48,52,63,83,84] .nil))))) (.fork (cL [26,32,37,40] (.fork (cL [6,12,17,20,44,48,52] (.fork (cL [63,73,78,83,84] .nil) (cL [73] (.fork (cL [63,78,83,84] .nil) (cL [78,63,83,84] .nil))))) (cL [73] (.fork (cL [6,12,17,20,44,48,52] (.fork (cL [63,78,83,84] .nil) (cL [78,63,83,84] .nil))) (cL [78,6,12,17,20,44,48,52,63,83,84] .nil))))) (cL [73] (.fork (cL [6,12,17,20] (.fork (cL [26,32,37,40,44,48,52] (.fork (cL [63,78,83,84] .nil) (cL [78,63,83,84] .nil))) (cL [78,26,32,37,40,44,48,52,63,83,84] .nil))) (.fork (cL [26,32,37,40] (.fork (cL [6,12,17,20,44,48,52] (.fork (cL [63,78,83,84] .nil) (cL [78,63,83,84] .nil))) (cL [78,6,12,17,20,44,48,52,63,83,84] .nil))) (cL [78] (.fork (cL [6,12,17,20,26,32,37,40,44,48,52,63,83,84] .nil) (cL [26,32,37,40,6,12,17,20,44,48,52,63,83,84] .nil))))))))) ?_));intro w h;refine av 5 ?_;refine aw J (cI (a:=0) (W:=ao.lit _) J J q1.1 I) (gg ?_ ?_)
     . refine pf J J J J (kM _ _ _) h ?_;intro bq w h;refine av 1 ?_;refine aK J h J (l9 (a:=3) (b:=4) (c:=4) I) (aw J (dN (a:=T.length) (b:=kp fo) (h2:=⟨J⟩) J J dw (aI gE (ff J))) ?_);refine gg ?_ ?_
       . refine pf J J J J (kM _ _ _) h ?_;intro bq w h;refine av 1 ?_;refine aK J h J (l9 (a:=0) (b:=1) (c:=3) I) (aw J (dN (a:=kJ fo) (b:=2) (W:=⟨J⟩) (h2:=ao.lit _) J J dw az) ?_);refine aw J (bZ (eI J J (aI gE (ff J)) az) j5.1) (aw J (bZ (eI (b:=1) (h2:=ao.lit _) J J (aI eL (ff J)) aj) j5.2.1) ?_);refine aw J (eB J (aI fh (ff J))) (gg ?_ ?_)
         exact ame
         refine aK J h J (jy q1.2.2 I) (gg ?_ ?_)
         exact KC
         exact KD
       refine aK J h J (jy q1.2.2 I) (gg ?_ ?_)
       . refine pf J J J J (kM _ _ _) h ?_;intro bq w h;refine av 1 ?_;refine aK J h J (l9 (a:=0) (b:=1) (c:=3) I) (aw J (dN (a:=kJ fo) (b:=2) (W:=⟨J⟩) (h2:=ao.lit _) J J dw az) ?_);refine aw J (bZ (eI J J (aI gE (ff J)) az) j5.1) (aw J (bZ (eI (b:=1) (h2:=ao.lit _) J J (aI eL (ff J)) aj) j5.2.1) ?_);refine aw J (eB J (aI fh (ff J))) (gg ?_ ?_)
         exact KC
         exact KD
       refine ka J J (kB _) h ?_;intro bz w h;exact abY
     refine gg ?_ ?_
     . refine pf J J J J (kM _ _ _) h ?_;intro bq w h;refine av 1 ?_;refine aK J h J (l9 (a:=0) (b:=1) (c:=3) I) (aw J (dN (a:=kJ fo) (b:=2) (W:=⟨J⟩) (h2:=ao.lit _) J J dw az) ?_);refine gg ?_ ?_
       . refine pf J J J J (kM _ _ _) h ?_;intro bq w h;refine av 1 ?_;refine aK J h J (l9 (a:=3) (b:=4) (c:=4) I) (aw J (dN (a:=T.length) (b:=kp fo) (h2:=⟨J⟩) J J dw (aI gE (ff J))) ?_);refine aw J (bZ (eI J J (aI gE (ff J)) az) j5.1) (aw J (bZ (eI (b:=1) (h2:=ao.lit _) J J (aI eL (ff J)) aj) j5.2.1) ?_);refine aw J (eB J (aI fh (ff J))) (gg ?_ ?_)
         exact ame
         refine aK J h J (jy q1.2.2 I) (gg ?_ ?_)
         exact KC
         exact KD
       refine aK J h J (jy q1.2.2 I) (gg ?_ ?_)
       . refine pf J J J J (kM _ _ _) h ?_;intro bq w h;refine av 1 ?_;refine aK J h J (l9 (a:=3) (b:=4) (c:=4) I) (aw J (dN (a:=T.length) (b:=kp fo) (h2:=⟨J⟩) J J dw (aI gE (ff J))) ?_);refine aw J (bZ (eI J J (aI gE (ff J)) az) j5.1) (aw J (bZ (eI (b:=1) (h2:=ao.lit _) J J (aI eL (ff J)) aj) j5.2.1) ?_);refine aw J (eB J (aI fh (ff J))) (gg ?_ ?_)
         exact KC
         exact KD
       refine ka J J (kB _) h ?_;intro bz w h;exact abX
     refine aK J h J (jy q1.2.2 I) (gg ?_ ?_)
     . refine pf J J J J (kM _ _ _) h ?_;intro bq w h;refine av 1 ?_;refine aK J h J (l9 (a:=3) (b:=4) (c:=4) I) (aw J (dN (a:=T.length) (b:=kp fo) (h2:=⟨J⟩) J J dw (aI gE (ff J))) ?_);refine gg ?_ ?_
       . refine pf J J J J (kM _ _ _) h ?_;intro bq w h;refine av 1 ?_;refine aK J h J (l9 (a:=0) (b:=1) (c:=3) I) (aw J (dN (a:=kJ fo) (b:=2) (W:=⟨J⟩) (h2:=ao.lit _) J J dw az) ?_);refine aw J (bZ (eI J J (aI gE (ff J)) az) j5.1) (aw J (bZ (eI (b:=1) (h2:=ao.lit _) J J (aI eL (ff J)) aj) j5.2.1) ?_);refine aw J (eB J (aI fh (ff J))) (gg ?_ ?_)
         exact KC
         exact KD
       refine ka J J (kB _) h ?_;intro bz w h;exact abY
     refine gg ?_ ?_
     . refine pf J J J J (kM _ _ _) h ?_;intro bq w h;refine av 1 ?_;refine aK J h J (l9 (a:=0) (b:=1) (c:=3) I) (aw J (dN (a:=kJ fo) (b:=2) (W:=⟨J⟩) (h2:=ao.lit _) J J dw az) ?_);refine gg ?_ ?_
       . refine pf J J J J (kM _ _ _) h ?_;intro bq w h;refine av 1 ?_;refine aK J h J (l9 (a:=3) (b:=4) (c:=4) I) (aw J (dN (a:=T.length) (b:=kp fo) (h2:=⟨J⟩) J J dw (aI gE (ff J))) ?_);refine aw J (bZ (eI J J (aI gE (ff J)) az) j5.1) (aw J (bZ (eI (b:=1) (h2:=ao.lit _) J J (aI eL (ff J)) aj) j5.2.1) ?_);refine aw J (eB J (aI fh (ff J))) (gg ?_ ?_)
         exact KC
         exact KD
       refine ka J J (kB _) h ?_;intro bz w h;exact abX
     refine ka J J (kB _) h ?_;intro bz w h;refine gg ?_ ?_
     . refine pf J J J J (kM _ _ _) h ?_;intro bq w h;refine av 1 ?_;refine aK J h J (l9 (a:=3) (b:=4) (c:=4) I) (aw J (dN (a:=T.length) (b:=kp fo) (h2:=⟨J⟩) J J dw (aI gE (ff J))) ?_);exact abY
     refine pf J J J J (kM _ _ _) h ?_;intro bq w h;refine av 1 ?_;refine aK J h J (l9 (a:=0) (b:=1) (c:=3) I) (aw J (dN (a:=kJ fo) (b:=2) (W:=⟨J⟩) (h2:=ao.lit _) J J dw az) ?_);exact abX
   refine aQ (a9 (wk h (cL [0,8,28,52,60] (.fork (cL [6,12,17,20,26,32,37,40,44,48,59,67,68] .nil) (cL [26,32,37,40,6,12,17,20,44,48,59,67,68] .nil))) ?_));intro w h;refine av 5 ?_;refine gg ?_ ?_
   exact amc
   exact amd
 refine V 4 ?_;refine fV J (aQ (a9 (wk h (cL [0,8,28,52,60] (.fork (cL [6,12,17,20,26,32,37,40,44,48,59,67,68] .nil) (cL [26,32,37,40,6,12,17,20,44,48,59,67,68] .nil))) ?_)));intro w h;refine av 5 ?_;refine gg ?_ ?_
 exact amc
 exact amd
variable {e4:aD}{b cb kind s tb:Nat}{gY:Option Tb}{t:Tb}
structure mO(kind:Nat)(t:Tb):Prop where
 ok:q6 kind t
 aDy: ∀s,Av t s-> ∀to:Int,to<((2^t.log:Nat):Int)-> ∃i,i<t.cells.length/\(t.cells.getD i default).sym=s/\(0<=to->s8 (t.cells.getD i default) to)
theorem mO.of(h:gW P log)(hk:P.length<=(cj kind).1+1):mO kind ⟨cY P log,log⟩:=
 ⟨q6.of h hk,λs hs to ht=>by
   obtain⟨i,W,h2⟩:=hs
   have h3:=(FE h (i:=i) (by rw[<-zu P log];exact W)).2.2.2
   rw[h2]at h3
   exact Ug h h3 ht⟩
theorem mO.single(h:s<=(cj kind).1):mO kind (po s):=
 ⟨⟨J,bP _,λi hi=>by
   have:i=0:=by have W:i<1:=hi;omega
   subst this
   exact⟨bP _,aR _,h⟩⟩,λs' hs to ht=>by
   obtain⟨i,W,h2⟩:=hs
   have:i=0:=by have h3:i<1:=W;omega
   subst this
   refine⟨0,Nat.zero_lt_one,h2,λh0=>?_⟩
   have h3:to<1:=ht
   refine⟨?_,?_⟩
   . show((0:Nat):Int)<=to;omega
   . show to<((0+2^0:Nat):Int);omega⟩
theorem mO.amg(hk:kind<=2):mO kind (ji kind):=mO.of (II kind) (by rcases(I:kind=0\/kind=1\/kind=2)with rfl|rfl|rfl<;>decide)
theorem mO.bd(h:mO kind t):akO t:=by
 have W:=h.ok.len;have h2:2^t.log<=512:=vh h.ok.log;refine⟨I,λi hi=>?_⟩;have:=h.ok.cell i I;exact⟨this.1,aI (mS _ _) (aI this.2.1 (aI h2 aj))⟩
def PK(x:Wr):Nat->Value
 |0=>x.p0
 |1=>x.p1
 |_=>x.p2
def WP(x:Wr)(k:Nat)(p:Value):Wr:=match k with
 |0=>{x with p0:=p}
 |1=>{x with p1:=p}
 |_=>{x with p2:=p}
theorem Hz(hk:k<=2):(aT x)[5+k]? =some (PK x k):=by
 rcases(I:k=0\/k=1\/k=2)with rfl|rfl|rfl<;>rfl
theorem ab0{v:Value}(hk:k<=2):(aT x).set (5+k) v=aT (WP x k v):=by
 rcases(I:k=0\/k=1\/k=2)with rfl|rfl|rfl<;>rfl
theorem aDz(hk:k<=2):WP x k (PK x k)=x:=by
 rcases(I:k=0\/k=1\/k=2)with rfl|rfl|rfl<;>rfl
def KI:Nat->Nat
 |0=>35
 |1=>28
 |_=>52
theorem aDA(hk:kind<=2)(h:s<=KI kind):Av (ji kind) s:=by
 have W:(vi kind).getD s 0≠0:=by
  rcases(I:kind=0\/kind=1\/kind=2)with rfl|rfl|rfl
  exact(show ∀s,s<36->(vi 0).getD s 0≠0 by decide) s (H7 h)
  exact(show ∀s,s<29->(vi 1).getD s 0≠0 by decide) s (H7 h)
  exact(show ∀s,s<53->(vi 2).getD s 0≠0 by decide) s (H7 h)
 obtain⟨i,h2,h3,_⟩:=Ug (II kind) W (to:= -1) (by have:=ep (Du kind);omega);exact⟨i,h2,h3⟩
theorem UC(hk:kind<=2):KI kind<=(cj kind).1:=by
 rcases(I:kind=0\/kind=1\/kind=2)with rfl|rfl|rfl<;>decide
theorem tbu:lI ((af tb [cf cb t.cells.length t.cells.length,R t.log] 124)::(af cb (fQ t.cells) 126)::F) (aW tb) t:=
 ⟨tb,cb,J,e_ ..,ar bF⟩
theorem aDB:Sub F (e1::e2::e3::e4::F):=λ_ hh=>ar (ar (ar (ar hh)))
theorem aDC{so:Option Nat}(h:(!(aB so).isNone)=true): ∃b,so=some b:=by
 cases so with
 |none=>cases h
 |some b=>exact⟨b,J⟩
def Oq(gY:Option Tb)(kind mode:Nat)(S:List Nat)(t:Tb)(B:List UInt8):Prop:=
 (mode=0/\t=ji kind/\B=[])\/(mode=1/\ ∃c,c<=(cj kind).1/\t=po c/\B=[UInt8.ofNat c])\/
 (mode=2/\ ∃P log,6<=log/\log<=(cj kind).2/\vP S ((cj kind).1+1) log P/\t=⟨cY P log,log⟩/\B=xo (fp (log-5) 4++mM (2^log) P))\/
 (mode=3/\gY=some t/\B=[])
theorem aDD{p:Value}{o:Option Tb}{ad:Option Addr}(h:H r w F)(ho:sP F p o)(hT: ∀t,o=some t->mO kind t)(hS:gO F (.slice ad n c) (S.map R))(hn:n<=1099511627776):Calls PP 55 #[p,.slice ad n c] w λe w'=> ∃b,e= .returned (.bool b)/\(b=true-> ∃t,o=some t/\lI F p t/\ ∀s,s∈S->Av t s)/\H r w' F:=by
 cases o with
 | none=>
   have e:p= .pointer none:=ho
   subst e
   exact(aBH h).mono (λe w' W=>⟨false,W.1,(λe=>by cases e),W.2⟩)
 |some t=>exact(akP h ho (hT t J).bd hS hn).mono (λe w' ⟨b,W,h2,h3⟩=>⟨b,W,λe=>⟨t,J,ho,h2 e⟩,h3⟩)
theorem aDE(h: ∀i,i<j->S.getD i 0=S.getD 0 0)(h2:S.getD j 0=S.getD 0 0): ∀i,i<j+1->S.getD i 0=S.getD 0 0:=λi hi=>by
 rcases vY.1 hi with hh|rfl
 exact h i hh
 exact h2
theorem aDF{T:TT}(h:(af b (List.map i64 P) T)∈F):gO F (cf b P.length P.length) (P.map i64):=
 ⟨_,_,_,J,by rw[bX],aR _,λ_=>⟨b,0,_,_,J,h,Rd.self _⟩⟩
theorem H.aDG(h:H r w (e0::e1::e2::e3::e4::L)):H r w (e3::e4::e0::e1::e2::L):=(h.mv 4).mv 4
theorem H.aDH{e5:aD}(h:H r w (e0::e1::e2::e3::e4::e5::L)):H r w (e4::e5::e0::e1::e2::e3::L):=(h.mv 5).mv 5
theorem H.aDI(h:H r w (e0::e1::e2::e3::L)):H r w (e2::e3::e0::e1::L):=(h.mv 3).mv 3
theorem aDJ(n:Nat):Value.int .u8 ((n % (aG .u8+1):Nat):Int)=u8 (UInt8.ofNat n):=by
 show _=Value.int .u8 (((UInt8.ofNat n).toNat:Nat):Int);rw[Pf];rfl
theorem amh(h:i<S.length):S.getD i 0∈S:=by
 rw[bS,gv h];exact za h
theorem aDK(h: ∀i,i<S.length->S.getD i 0=S.getD 0 0){s:Nat}(hs:s∈S):s=S.getD 0 0:=by
 obtain⟨i,W,h2⟩:=CD hs;rw[<-h i W,bS,gv W];exact h2.symm
theorem aDL(h: ∀i,i<S.length->S.getD i 0=S.getD 0 0): ∀s,s∈S->Av (po (S.getD 0 0)) s:=λs hs=>⟨0,Nat.zero_lt_one,(aDK h hs).symm⟩
theorem aDM(h:gW P log)(hs:P.getD s 0≠0):Av ⟨cY P log,log⟩ s:=by
 obtain⟨i,h2,h3,_⟩:=Ug h hs (to:= -1) (by have:=ep log;omega);exact⟨i,h2,h3⟩
theorem tbp(W:(af tb [cf cb (2^log) (2^log),R log] 124)∈F)(h2:(af cb (fQ (cY P log)) 126)∈F):lI F (aW tb) ⟨cY P log,log⟩:=
 ⟨tb,cb,J,by show(af tb [cf cb (cY P log).length (cY P log).length,R log] 124)∈F;rw[zu];exact W,h2⟩
theorem aDN{p:Value}{o:Option Tb}(h:sP F p o)(e:o=some t):lI F p t:=by subst e;exact h
theorem ab1{mode:Nat}{B:List UInt8}(h:Oq gY kind mode S t B)(hk:kind<=2):B.length<=1000:=by
 rcases h with⟨_,_,rfl⟩| ⟨_,c,_,_,rfl⟩| ⟨_,P,log,W,h2,h3,_,rfl⟩| ⟨_,_,rfl⟩
 exact bP _
 exact ff J
 have hm:(cj kind).1<=52/\(cj kind).2<=9:=(by rcases(I:kind=0\/kind=1\/kind=2)with rfl|rfl|rfl<;>decide);have hp:=h3.len;have h4:= @aly (2^log) P (vh I);have h5:P.length*(10+2*P.length)<=53*116:=sr I I;have h6:(fp (log-5) 4).length=4:=xm _ _;rw[TY,aF];omega
 exact bP _
theorem aDO{X:List UInt8}:aP (EB (some b) X []::F) (cf b X.length X.length) X:=BB.sl (ob:=some b) ⟨by rw[dP],λe=>by cases e⟩
theorem ami(h:p:=by refine(aDC UD).elim λsb e0=>?_;have pP:=hu.2.2 sb e0;rw[e0]at h;have Ho:=pP.len;have EF:=pP.ok (log:=6+ov) I I;have hTT:=mO.of (kind:=kind) EF Ho;refine V 4 ?_;refine b_ (v0:=cf sb P.length P.length) (v1:=R (6+ov)) (iJ (b8 aB e0) J J) J J (aA (Fw (sb:=sb) (shares:=P) (sp:=[]) (log:=6+ov) (T:=3) h (by rw[dP];exact e_ ..) EF (aR _)) ?_);rintro e w1 ⟨cb,rfl,h⟩;refine eh h J ?_;intro bt w h;refine b7 ?_;intro w h;refine V 8 ?_;refine cV (.pointer _) (Hz hk) ?_;intro w h;rw[ab0 hk]at h;refine V 5 ?_;refine b_ (v0:=cf sb P.length P.length) (v1:=R (6+ov)) (iJ (b8 aB e0) J J) J J (aA (akX (P:=P) (log:=6+ov) h (aDF (by repeat first|exact e_ .. |apply mu)) I pP.lo pP.sum I pP.last) ?_);rintro e w1 ⟨bd,rfl,h⟩;refine V 4 ?_;exact⟨fU,2,_,xo (fp (6+ov-5) 4++mM (2^(6+ov)) P),[_,_,_,_],⟨cY P (6+ov),6+ov⟩,aW bt,J,I,aDO,I,tbp (ar bF) (ar (ar bF)),hTT,λs hs=>aDM EF (pP.sym s hs),.inr (.inr (.inl ⟨J,P,6+ov,I,I,pP,J,J⟩)),h.aDH⟩):p:=h
theorem amj(h:p:=by refine aQ ?_;replace h:=h.tail;(try dsimp only[dB]at h);exact⟨aM,fU,aq,h,I⟩):p:=h
theorem aDP{sc:Nat}{sa:Option Addr}{at_:Nat}{N:List Int}(h:H r w ((af wb (aT x) 49)::(some x.cb,C [.slice na nn nc,R at_] 38)::L))(hN:nG L (.slice na nn nc) N)(jg:at_<=1152921504606000000)(hk:kind<=2)(hS:gO L (.slice sa S.length sc) (S.map R))(w8:0<S.length)(uz:S.length<=2147483648)(Ci: ∀s,s∈S->s<=KI kind)(ho:sP L (PK x kind) gY)(hoT: ∀t,gY=some t->mO kind t):Calls PP 41 #[aW wb,R kind,.slice sa S.length sc] w λe w'=> ∃at' mode v B G t p,e= .returned (.tuple #[R mode,v])/\at'<=at_+262/\aP (G++L) v B/\mode<=3/\lI (G++L) p t/\mO kind t/\(∀s,s∈S->Av t s)/\Oq gY kind mode S t B/\H r w' ((af wb (aT (WP x kind p)) 49)::(some x.cb,C [.slice na nn nc,R at'] 38)::(G++L)):=by
 have oP:(cj kind).1<=52/\(cj kind).2<=9/\6<=(cj kind).2:=(by unfold cj;split<;>(try split)<;>decide);refine kC (hS.eH (show 0<(S.map R).length by rw[bX];omega)) λpb pq lp Tp q1=>?_;refine fx q1.2.1 λip qC=>(mW Tryz.func41 Tryz.ntmps41 [6,7] ?_);refine V 11 ?_;replace h:=h.zz [1] 0;refine b_ (v1:=R 4) J J J (aA (kI (n:=4) (at_:=at_) h (hN.sub (Sub.cons _ _)) I aj) ?_);rintro e w1 ⟨ov,dX,rfl,me,yV,h⟩;refine dI (aC (cD [(6,7),(23,34)] (λρ w=>Kn ρ []/\H r w ((af wb (aT x) 49)::(some x.cb,C [.slice na nn nc,R dX] 38)::L)) ?_ ?_))
 refine V 5 ?_;refine d' (t:=25) J (λabg=>?_) (λabg=>?_)
 refine V 4 ?_;refine dn J J J (nq J J I) J (dn J J J (run_load h J (Hz hk)) J ?_);refine V 1 ?_;refine yT J J J J J J (aA (aDD (o:=gY) (kind:=kind) (S:=S) h (ho.sub aJ) hoT (hS.sub aJ) I) ?_);rintro e w1 ⟨bc,rfl,hbc,h⟩;refine V 2 ?_;refine eA J ?_ ?_<;>intro Ge
 refine V 6 ?_;refine(hbc Ge).elim λt ht=>?_;exact⟨dX,3,.slice none 0 0,[],[],t,PK x kind,J,I,aP.nil _,I,aDN ho ht.1,hoT t ht.1,ht.2.2,.inr (.inr (.inr ⟨J,ht.1,J⟩)),by rw[aDz hk];exact h.mv 1⟩
 refine aQ ?_;replace h:=h.zz [1] 0;exact⟨aM,aq,h⟩
 refine V 10 ?_;refine fV J (aQ ?_);replace h:=h.zz [1] 0;exact⟨aM,aq,h⟩
 rintro ρ w ⟨⟨KE,rfl⟩,h⟩;refine V 12 ?_;refine bQ (σ:=Nat×Bool) [(9,9),(11,11),(37,49)] (λ⟨j,sm⟩ ρ w=>Kn ρ [(37,R j),(9,.bool sm)]/\H r w ((af wb (aT x) 49)::(some x.cb,C [.slice na nn nc,R dX] 38)::L)/\(j<=S.length)/\(sm=true-> ∀i,i<j->S.getD i 0=S.getD 0 0)) (λ⟨j,sm⟩=>S.length-j) (0,true) ⟨aq,h,I,(λ_ i hi=>absurd hi (nP _))⟩ ?_;rintro⟨j,sm⟩ ρ w ⟨⟨KF,rfl⟩,h,hj,zG⟩;refine V 5 ?_;refine an J ?_ ?_<;>intro rN
 refine aQ (a9 (jB [(9,9),(11,11),(39,48)] (λρ w=> ∃f2:Bool,Kn ρ [(9,.bool f2)]/\H r w ((af wb (aT x) 49)::(some x.cb,C [.slice na nn nc,R dX] 38)::L)/\(f2=true-> ∀i,i<j+1->S.getD i 0=S.getD 0 0)) ?_ ?_))
 refine a9 (eS (ah (cI J J q1.1 I) (aO h J (nd q1.2.2 I) ?_)));refine V 5 ?_;refine we (t:=42) J (λUy=>?_) (λUy=>?_)
 refine V 2 ?_;refine dn J J J (cI (a:=0) (W:=ao.lit _) J J q1.1 I) J (dn J J J (run_load h J (nd q1.2.2 I)) J ?_);refine V 4 ?_;exact⟨aM,decide (S.getD j 0=S.getD 0 0),aq,h,(λe=>aDE (zG Uy) (tf e))⟩
 refine V 8 ?_;exact⟨aM,false,aq,h,(λe=>by cases e)⟩
 rintro ρ w ⟨f2,⟨KG,rfl⟩,h,ab2⟩;refine V 4 ?_;exact⟨aH 4,(j+1,f2),cw,aq,h,I,ab2⟩
 refine iy (cD [(6,7),(12,12),(50,68)] (λρ w=>Kn ρ []/\H r w ((af wb (aT x) 49)::(some x.cb,C [.slice na nn nc,R dX] 38)::L)) ?_ ?_)
 refine V 5 ?_;refine d' (t:=52) J (λaDQ=>?_) (λaDQ=>?_)
 refine V 3 ?_;refine eA J ?_ ?_<;>intro GI
 refine V 3 ?_;refine ah (cI (a:=0) (W:=ao.lit _) J J q1.1 I) (aO h J (nd q1.2.2 I) (dJ J J (aA (aeD (sym:=S.getD 0 0) h) ?_)));rintro e w1 ⟨cb,rfl,h⟩;refine eh h J ?_;intro bt w h;refine b7 ?_;intro w h;refine V 8 ?_;refine cV (.pointer _) (Hz hk) ?_;intro w h;rw[ab0 hk]at h;refine aC (a9 (bL h [0,4,20,9,12,18,24] ?_));intro w h;refine kA J (aw J (cI (a:=0) (W:=ao.lit _) J J q1.1 I) (aw J (zl 1 J (ao.lit _).eq) (aK J h J (nd q1.2.2 I) (aw J (CL J J) (ka J J (kB _) h ?_)))));intro bz w h;refine eY J (cm (iG ?_));have DA:=zG GI;have hjS:j=S.length:=I;rw[hjS]at DA;rw[aDJ]at h;exact⟨dX,1,_,[UInt8.ofNat (S.getD 0 0)],[_,_,_],po (S.getD 0 0),aW bt,J,I,Hy,I,⟨bt,cb,J,ar bF,ar (ar bF)⟩,mO.single (aI (Ci _ (amh w8)) (UC hk)),aDL DA,.inr (.inl ⟨J,_,aI (Ci _ (amh w8)) (UC hk),J,J⟩),h.aDG⟩
 exact aQ ⟨aM,aq,h⟩
 refine V 3 ?_;exact fV J (aQ ⟨aM,aq,h⟩)
 rintro ρ w ⟨⟨KH,rfl⟩,h⟩;refine cD [(6,7),(13,17),(69,107)] (λρ w=> ∃iX:Nat,Kn ρ []/\H r w ((af wb (aT x) 49)::(some x.cb,C [.slice na nn nc,R iX] 38)::L)/\(iX<=at_+260)) ?_ ?_
 refine V 5 ?_;refine d' (t:=71) J (λaDR=>?_) (λaDR=>?_)
 . refine V 7 ?_;refine iI J ?_;refine V 3 ?_;refine dJ J J (aA (PV hk) ?_);rintro e w1 ⟨rfl,rfl⟩;refine V 14 ?_;replace h:=h.zz [1] 0;refine b_ J J J (aA (kI (n:=(cj kind).2-5) (at_:=dX) h (hN.sub aJ) I I) ?_);rintro e w1 ⟨ov,jL,rfl,me,Hw,h⟩;refine V 8 ?_;replace h:=h.zz [1] 0;refine ee J J J J ((abx (log:=6+ov) (S:=S) (M:=(cj kind).1+1) h (hN.sub aJ) I (hS.sub aJ) I I (λs hs=>H7 (aI (Ci s hs) (UC hk))) uz).mono ?_);clear h;rintro e w1 ⟨fU,uD,hh⟩;refine aY (abK hh) (λso eN=>aY (eN) (λP hu=>?_));refine⟨_,hu.1,?_⟩;have h:=hu.2.1;clear hh;refine V 5 ?_;refine ah (Kh J J) (aC (eA J ?_ ?_))<;>intro UD
   exact ami
   exact amj
 refine V 1 ?_;refine aA4 J J J J J (aA (Xd h hk) ?_);rintro e w1 ⟨tb,cb,rfl,h⟩;refine V 1 ?_;refine yT J J J J J J (aA (akP (S:=S) (t:=ji kind) h tbu (mO.amg hk).bd (hS.sub aDB) I) ?_);rintro e w1 ⟨bu,rfl,_,h⟩;replace h:=h.tail.tail;refine dn J J J (j8 J) J ?_;refine V 2 ?_;refine eA J ?_ ?_<;>intro avv
 . refine V 3 ?_;refine dJ J J (aA (PV hk) ?_);rintro e w1 ⟨rfl,rfl⟩;refine V 14 ?_;replace h:=h.zz [1] 0;refine b_ J J J (aA (kI (n:=(cj kind).2-5) (at_:=dX) h (hN.sub aJ) I I) ?_);rintro e w1 ⟨ov,jL,rfl,me,Hw,h⟩;refine V 8 ?_;replace h:=h.zz [1] 0;refine ee J J J J ((abx (log:=6+ov) (S:=S) (M:=(cj kind).1+1) h (hN.sub aJ) I (hS.sub aJ) I I (λs hs=>H7 (aI (Ci s hs) (UC hk))) uz).mono ?_);clear h;rintro e w1 ⟨fU,uD,hh⟩;refine AV (abK hh) λso P hu=>?_;refine⟨_,hu.1,?_⟩;have h:=hu.2.1;clear hh;refine V 5 ?_;refine ah (Kh J J) (aC (eA J ?_ ?_))<;>intro UD
   exact ami
   exact amj
 exact aQ ⟨aM,dX,aq,h,I⟩
 rintro ρ w ⟨iX,⟨Ou,rfl⟩,h,sT⟩;refine a9 (bL h [0,4,8,16,20,15,24,31] ?_);intro w h;refine av 5 ?_;refine pY J J J (aA (Xd h hk) ?_);rintro e w1 ⟨tb,cb,rfl,h⟩;refine av 1 ?_;refine cV (.pointer _) (Hz hk) ?_;intro w h;rw[ab0 hk]at h;refine cm ?_;refine V 6 ?_;exact⟨iX,0,.slice none 0 0,[],[_,_],ji kind,_,J,I,aP.nil _,I,tbu,mO.amg hk,λs hs=>aDA hk (Ci s hs),.inl ⟨J,J,J⟩,h.aDI⟩
end Go.Z
