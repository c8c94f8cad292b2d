/- Part 12 of the proof. -/
import Derived.Test.YtmgkiicjpmihfaaGreatDoorQK
set_option linter.all false
set_option maxRecDepth 20000
set_option maxHeartbeats 400000000
open List renaming length -> W, getD -> aa, map -> ar, replicate -> aT, set -> bJ, range -> cL
open UInt8 renaming ofNat -> bS
open Or renaming inl -> a_, inr -> bG
open Go.Z.Env renaming ev -> aL, put -> fU
namespace Go.Z
open Go Go.Proofs Tryz
variable {to:Int}{cs:List dx}{L:List aK}{P:List Int}{S Ws:List Nat}{M log:Nat}{r:fT}{w:World}
def xo.ok(h:xo S M log P)(a:5<=log/\log<=9)(b:M<=256):iy P log:=
 iy.of a (aM h.len b) (λp hp=>by obtain⟨i,hi,rfl⟩:=DO hp;have:=h.lo i;rw[bX,gW hi]at this;exact this) h.sum
structure LB(Ws:List Nat)(lg:Nat)(P:List Int)(St:List Nat):Prop where
 sg:xo Ws 13 lg P
 l3:3<=W Ws
 oK:5<=lg/\lg<=6
 len:W St=W Ws
 st: ∀i,i<W Ws->aa St i 0<2^lg/\(aa (dn P lg) (aa St i 0) default).sym=aa Ws i 0
 nx: ∀i,i+2<W Ws->(aa (dn P lg) (aa St i 0) default).base<=aa St (i+2) 0/\aa St (i+2) 0<(aa (dn P lg) (aa St i 0) default).base+2^(aa (dn P lg) (aa St i 0) default).bits
 en: ∀i,i<W Ws->W Ws<=i+2-> ∀j,j<2^lg->(aa (dn P lg) j default).sym=aa Ws i 0->(aa (dn P lg) j default).bits<=(aa (dn P lg) (aa St i 0) default).bits
def ou(cs:List dx)(St:List Nat)(k:Nat):List Bool:=(cL k).flatMap λi=>cT (aa St (i+2) 0- (aa cs (aa St i 0) default).base) (aa cs (aa St i 0) default).bits
def aD4(cs:List dx)(St:List Nat)(k:Nat):ou cs St (k+1)=ou cs St k++cT (aa St (k+2) 0- (aa cs (aa St k 0) default).base) (aa cs (aa St k 0) default).bits:=by
 unfold ou;rw[pR,I9];simp
def jP(lg:Nat)(P:List Int)(St:List Nat):List UInt8:=rD (eD (lg-5) 4++kh (2^lg) P)++kX (cT (aa St 0 0) lg++cT (aa St 1 0) lg++ou (dn P lg) St (W St-2))
def amL{sym:Nat}{k:Int}(hb:Bw cs sym to (W cs) k)(a: ∃i,i<W cs/\(aa cs i default).sym=sym/\(0<=to->ux (aa cs i default) to)): ∃n:Nat,k=(n:Int)/\n<W cs/\(aa cs n default).sym=sym/\(0<=to->ux (aa cs n default) to)/\(to<0-> ∀j,j<W cs->(aa cs j default).sym=sym->(aa cs j default).bits<=(aa cs n default).bits):=by
 rcases hb with⟨h1,h2⟩| ⟨i,h⟩
 obtain⟨i,hi,hs,b⟩:=a;obtain⟨c,d⟩:=h2 i hi hs;exact absurd (b c) d
 exact⟨i,h⟩
def Vt{s:Nat}(h:iy P log)(hs:aa P s 0≠0){to:Int}(c:to<((2^log:Nat):Int)): ∃i,i<W (dn P log)/\(aa (dn P log) i default).sym=s/\(0<=to->ux (aa (dn P log) i default) to):=by
 have b:s<W P:=by
  rcases dq s (W P) with a|a
  exact a
  exact absurd (by rw[bX,gB a];rfl) hs
 obtain⟨i,h1,h2,d,e⟩:=aD3 h b hs (to:=to.toNat) (by have:=eA log;omega);exact⟨i,h1,h2,λf=>⟨I,I⟩⟩
def Vu(Ws St:List Nat)(cs:List dx)(n:Nat):Prop:=W St=W Ws/\ ∀i,n<=i->i<W Ws->(aa St i 0<W cs/\(aa cs (aa St i 0) default).sym=aa Ws i 0)/\(i+2<W Ws->(aa cs (aa St i 0) default).base<=aa St (i+2) 0/\aa St (i+2) 0<(aa cs (aa St i 0) default).base+2^(aa cs (aa St i 0) default).bits)/\
 (W Ws<=i+2-> ∀j,j<W cs->(aa cs j default).sym=aa Ws i 0->(aa cs j default).bits<=(aa cs (aa St i 0) default).bits)
def Vu.step{St:List Nat}{n m:Nat}(h:Vu Ws St cs n)(l:0<n)(o:n<=W Ws)(c:(to= -1/\W Ws<=n+1)\/(to=((aa St (n+1) 0:Nat):Int)/\n+1<W Ws))(h1:m<W cs)(h2:(aa cs m default).sym=aa Ws (n-1) 0)(d:0<=to->ux (aa cs m default) to)(f:to<0-> ∀j,j<W cs->(aa cs j default).sym=aa Ws (n-1) 0->(aa cs j default).bits<=(aa cs m default).bits):Vu Ws (St.set (n-1) m) cs (n-1):=by
 have a: ∀s,aa (St.set (n-1) m) s 0=if n-1=s then m else aa St s 0:=λs=>by
  rw[e_];by_cases e:n-1=s
  rw[ao ⟨e,by rw[h.1];omega⟩,ao e]
  rw[aj (λz=>e z.1),aj e]
 refine⟨by rw[dW];exact h.1,λi hi g=>?_⟩;by_cases e:n-1=i
 subst e;have e1:=a (n-1);rw[ao J]at e1;have e2:=a (n-1+2);rw[aj I,show n-1+2=n+1 by omega]at e2;rw[e1,show n-1+2=n+1 by omega,e2];refine⟨⟨h1,h2⟩,λk=>?_,λk=>?_⟩
 rcases c with⟨_,b⟩| ⟨b,_⟩
 omega
 have:=d I;unfold ux at this;omega
 rcases c with⟨b,_⟩| ⟨_,b⟩
 exact f I
 omega
 have e1:=a i;rw[aj e]at e1;have e2:=a (i+2);rw[aj I]at e2;rw[e1,e2];exact h.2 i I g
def aD5(h:iy P log):W (dn P log)<=65536/\ ∀i,i<W (dn P log)->(aa (dn P log) i default).bits<=9/\(aa (dn P log) i default).base<=65536:=by
 have a:2^log<=512:=aM (dF an h.mJ.2) an;rw[xQ];refine⟨I,λi hi=>?_⟩;have:=GL h hi;have b:=h.mJ.2;exact⟨aM this.1 b,aM (aM (lV _ _) this.2.1) (aM a an)⟩
def acK{e:Ending}(c:(e= .returned (.slice none 0 0)/\H r w L)\/(∃bd P,e= .returned (cK bd (W P) (W P))/\xo S M log P/\H r w ((ah bd (ar i64 P) 3)::L))): ∃(a:Option Nat) (P:List Int),e= .returned (.slice (aI a) (W P) (W P))/\H r w ((a,C (ar i64 P) 3)::L)/\(∀b,a=some b->xo S M log P):=by
 rcases c with⟨h1,h2⟩| ⟨bd,P,h1,h2,d⟩
 exact⟨none,[],h1,h2.ghost _,λb e=>by cases e⟩
 exact⟨some bd,P,h1,d,λb e=>h2⟩
def aD6{a:Option Nat}(h:(aI a).isNone=false): ∃b,a=some b:=by
 cases a with
 |none=>cases h
 |some b=>exact⟨b,J⟩
def Vv{l:List Nat}{i:Nat}(h:i<W l):aa l i 0∈l:=by
 rw[bX,gW h];exact Ai h
def amM: ∀f z:Nat,W (oU f z)<=2*f
 |0,_=>aW _
 | f+1,z=>by
  unfold oU;split
  have:=amM f (z-3);rw[aF,oT];omega
  rw[oT];omega
def acL: ∀(f left:Nat) (l:List Int),left<=512->W (BA f left l)<=f*(10+2*W l)
 |0,_,_,_=>cj _
 |f+1,left,[],h=>cj _
 | f+1,left,p::l,h=>by
  unfold BA;have h1:= @al' left (p+1).toNat h;have h2:=amM (W l) (j6 l);have a:=acL f left (l.drop (j6 l)) h;have b:=acL f (left-fK p) l I;have c:f*(10+2*W (l.drop (j6 l)))<=f*(10+2*W (p::l)):=yP _ (by rw[cr,dL];omega);have d:f*(10+2*W l)<=f*(10+2*W (p::l)):=yP _ (by rw[dL];omega);have e:W (p::l)=W l+1:=rfl;rw[aF,vY];split
  rw[aF];omega
  omega
def amN{left:Nat}{P:List Int}(h:left<=512):W (kh left P)<=W P*(10+2*W P):=acL _ _ _ h
def amO{wb sc:Nat}{x:Wr}{sa:Option Addr}{nn nc at_:Nat}{na:Option Addr}{N:List Int}(h:H r w ((ah wb (bj x) 49)::(some x.cb,C [.slice na nn nc,af at_] 38)::L))(hN:og L (.slice na nn nc) N)(jU:at_<=1152921504606846976)(hS:iQ L (.slice sa (W Ws) sc) (Ws.map af))(Dn: ∀s,s∈Ws->s<13)(vK:W Ws<=256):Calls PP 68 #[bL wb,.slice sa (W Ws) sc] w λe w'=> ∃at',at'<=at_+257/\((e= .returned (.slice none 0 0)/\H r w' ((ah wb (bj x) 49)::(some x.cb,C [.slice na nn nc,af at'] 38)::L))\/(∃ob S c lg P St,e= .returned (.slice (aI ob) (W (jP lg P St)+1) c)/\ob≠none/\BB ob (bS (W (jP lg P St))::jP lg P St) S c/\W (jP lg P St)<=127/\LB Ws lg P St/\H r w' (EB ob (bS (W (jP lg P St))::jP lg P St) S::(ah wb (bj x) 49)::(some x.cb,C [.slice na nn nc,af at'] 38)::L))):=by
 refine iI func68 ntmps68 [4] ?_;refine g_ 12 ?_;replace h:=h.zz [1] 0;refine cJ (v1:=af 2) J J J (aH (lR (n:=2) (at_:=at_) h (hN.sub aP) I an) ?_);clear h;rintro e g ⟨o,jG,rfl,nd,uf,h⟩;refine ak (cG (eR (a:=5) (h1:=av.lit _) J J aG) (show 5+o=5+o from J)) ?_;replace h:=h.zz [1] 0;refine eS J J J J ((acy (log:=5+o) (M:=13) h hN I hS I an Dn I).mono ?_);clear h;rintro e g ⟨d,aco,hh⟩;refine B8 (acK hh) λso P hu=>?_;refine⟨_,hu.1,?_⟩;have h:=hu.2.1;clear hh;refine ee (aJ (cW [(4,4),(27,33)] (λρ w=> ∃sb:Nat,Kn ρ []/\H r w ((ah sb (ar i64 P) 3)::(ah wb (bj x) 49)::(some x.cb,C [.slice na nn nc,af d] 38)::L)/\(so=some sb)/\(3<=W Ws)) ?_ ?_))
 refine g_ 6 ?_;refine eM (t:=30) J (λU=>?_) (λU=>?_)
 refine g_ 4 ?_;refine jv J ?_;refine g_ 5 ?_;exact⟨d,I,a_ ⟨J,h.tail⟩⟩
 refine g_ 1 ?_;refine dI J J J (acf J J) J ?_;refine g_ 2 ?_;refine eY J ?_ ?_<;>intro Cr
 refine g_ 5 ?_;exact⟨d,I,a_ ⟨J,h.tail⟩⟩
 refine(aD6 Cr).elim λsb e0=>?_;rw[e0]at h;exact a8 ⟨aS,sb,az,h,e0,I⟩
 clear h;rintro ρ w ⟨sb,⟨Pg,rfl⟩,h,A_,mi⟩;subst A_;have f:=hu.2.2 sb J;have oK:5<=5+o/\5+o<=9:=I;have K:=f.ok oK an;refine cM (5+o) λlg V=>?_;have CA:5<=lg/\lg<=6:=I;rw[V]at f K;have y:=f.sum;have Z:2^lg<=64:=aM (dF an CA.2) an;have It:=f.len;refine g_ 12 ?_;refine cw (σ:=Nat) [(6,6),(8,8),(36,46)] (λi ρ w=>Kn ρ [(36,af i),(6,af (wt (P.take i)))]/\H r w ((ah sb (ar i64 P) 3)::(ah wb (bj x) 49)::(some x.cb,C [.slice na nn nc,af d] 38)::L)/\(i<=W P)) (λi=>W P-i) (0) ⟨(Kn.mk ⟨J,(int_eq J),trivial⟩),h,I⟩ ?_;clear h;rintro i ρ w ⟨⟨Ph,rfl⟩,h,hi⟩;refine g_ 5 ?_;refine au J ?_ ?_<;>intro CM
 have z:=f.lo i;have Vw:=y_ (D:=P) (i:=i) I;refine cM (aa P i 0) λp hp=>?_;have A:=al8 (l:=P) (i:=i) I;rw[hp]at z Vw A;have aLg:p<=64:=(by have:p<=((fK p:Nat):Int):=(by unfold fK;split<;>omega);omega);refine g_ 5 ?_;refine ak (j8 J J J CM) (aX h J Vw ?_);refine g_ 6 ?_;refine ak (Xm J I I) (ak (Dl (al9 z) (Xv J J)) ?_);refine g_ 7 ?_;exact⟨aO 13,i+1,cQ,Kn.mk ⟨J,(int_eq (cD Int.ofNat A.2.symm)),trivial⟩,h,I⟩
 have gv:wt (P.take i)=2^lg:=(by rw[je I];exact y);refine g_ 7 ?_;refine cw (σ:=Nat) [(9,9),(47,52)] (λk ρ w=>Kn ρ [(9,af k)]/\H r w ((ah sb (ar i64 P) 3)::(ah wb (bj x) 49)::(some x.cb,C [.slice na nn nc,af d] 38)::L)/\(5<=k)/\(k<=lg)) (λk=>lg-k) (5) ⟨az,h,(aW _),I⟩ ?_;clear h;rintro k ρ w ⟨⟨Pj,rfl⟩,h,ue,HL⟩;refine g_ 4 ?_;refine ak (gY J J dQ (aM (dF an HL) (aM Z an))) ?_;refine g_ 3 ?_;refine au J ?_ ?_<;>intro Nw
 have aLh:k<lg:=by
  rcases dq k lg with e|e
  exact e
  have:=dF (n:=2) an e;omega
 refine g_ 7 ?_;exact⟨aO 7,k+1,I,az,h,I,I⟩
 obtain rfl:k=lg:=by
  rcases dq k lg with e|e
  exact absurd (by rw[gv];exact Nat.pow_lt_pow_right an e) Nw
  omega
 refine g_ 5 ?_;refine cJ J J J (aH (GC (sb:=sb) (T:=3) (shares:=P) (sp:=[]) (c:=W P) (log:=k) h (by rw[dN];exact fQ ..) K (aW _)) ?_);clear h;rintro e g ⟨cb,rfl,h⟩;have B:=xQ P k;have O:=aD5 K;refine cM (dn P k) λcs q=>?_;rw[q]at h B O;refine eN h J ?_;clear h;intro bt w h;refine cI ?_;intro w h;refine g_ 5 ?_;refine uK h J J J I I I J ?_;clear h;intro bs w h;rw[Vo]at h;refine g_ 5 ?_;replace h:=h.zz [5,5,5,5,5,5] 0;refine g_ 2 ?_;refine ak (Dl (show(((W Ws:Nat):Int) -1)=((W Ws:Nat):Int) -1 from J) (pU (v:=1) J J I I)) ?_;refine g_ 3 ?_;refine cw (σ:=Nat×List Nat) [(12,13),(62,85)] (λ⟨n,St⟩ ρ w=>Kn ρ [(12,.int .i64 (((n:Nat):Int) -1))]/\H r w ((ah bs (ar af (St)) 3)::(ah bt [cK cb (2^k) (2^k),af k] 124)::(ah cb (gC cs) 126)::(ah sb (ar i64 P) 3)::(ah wb (bj x) 49)::(some x.cb,C [.slice na nn nc,af d] 38)::L)/\(n<=W Ws)/\(Vu Ws St cs n)) (λ⟨n,St⟩=>n) (W Ws,aT (W Ws) 0) ⟨az,h,(aW _),dS,λi hi pt=>absurd hi I⟩ ?_;clear h;rintro⟨n,St⟩ ρ w ⟨⟨Vj,rfl⟩,h,hn,b⟩;refine g_ 4 ?_;refine ak (Am (v:=0) J J) (aJ (au J ?_ ?_))<;>intro Gr
 refine lB (hS.fp (show 0<W (Ws.map af) by rw[cB];omega)) λpb pq lp Tp q1=>?_;refine gg q1.2.1 λip rC=>?_;refine g_ 7 ?_;refine cW [(13,13),(66,75)] (λρ w=> ∃to:Int,Kn ρ [(13,.int .i64 to)]/\H r w ((ah bs (ar af (St)) 3)::(ah bt [cK cb (2^k) (2^k),af k] 124)::(ah cb (gC cs) 126)::(ah sb (ar i64 P) 3)::(ah wb (bj x) 49)::(some x.cb,C [.slice na nn nc,af d] 38)::L)/\((to= -1/\W Ws<=n+1)\/(to=((aa St (n+1) 0:Nat):Int)/\n+1<W Ws))) ?_ ?_
 refine g_ 3 ?_;refine ak (Dl (I:(((n:Nat):Int) -1+2)=((n+1:Nat):Int)) (Jb (v:=2) J J I I)) ?_;refine g_ 4 ?_;refine au J ?_ ?_<;>intro GB
 refine g_ 3 ?_;refine ak (Dl (I:(((n:Nat):Int) -1+2)=((n+1:Nat):Int)) (Jb (v:=2) J J I I)) ?_;refine g_ 1 ?_;refine aX h J (kq (by rw[b.1];omega)) ?_;exact ee (aJ ⟨aO 11,(((aa St (n+1) 0:Nat):Int)),az,h,bG ⟨J,GB⟩⟩)
 exact a8 ⟨aO 5,-1,az,h,a_ ⟨J,I⟩⟩
 clear h;rintro ρ w ⟨to,⟨Vk,rfl⟩,h,lj⟩
 have aD9:to<((2^k:Nat):Int)/\ -1<=to:=by
  rcases lj with⟨e,_⟩| ⟨e,e2⟩
  omega
  have:=(b.2 (n+1) I e2).1.1;omega
 have hws:=Vv (l:=Ws) (i:=n-1) I;refine cm h [0,4,12,16,20,28,9,25,35,36,43] ?_;clear h;intro w h;refine aC 4 ?_;refine aD J (da (a:=n-1) (h1:=⟨I⟩) J J q1.1 I) ?_;refine lx J (yZ J (λw u=>jx [_,_] (h.keeps u) J ⟨J,J,trivial⟩ J) J (aQ J h J (om q1.2.2 I) (Ar J (v0:= .agg #[cK cb (W cs) (2^k),af k]) (v1:=af (aa Ws (n-1) 0)) (by rw[B];rfl) J J J ?_)));refine(acn h (aA (aA bZ)) O.1 O.2 I).mono ?_;clear h;rintro e g ⟨kk,rfl,nD,h⟩;refine(amL nD (q▸Vt K (f.sym _ hws) aD9.1)).elim λm hm=>?_;refine⟨af m,(by rw[hm.1]),?_⟩;have Vx:=b.step I hn lj hm.2.1 hm.2.2.1 hm.2.2.2.1 hm.2.2.2.2;refine aD J (j8 (a:=n-1) (h1:=⟨I⟩) J J J I) ?_;refine xF (v:=af m) J h J (kq (by rw[b.1];omega)) J J J ?_;clear h;intro w h;dsimp only[bJ]at h;rw[Lz]at h;exact cO (fD (dg (ak (pU (v:=1) J J I I) (ee (aJ ⟨aO 18,(n-1,St.set (n-1) m),cQ,Kn.mk ⟨(int_eq I),trivial⟩,h,I,Vx⟩)))))
 obtain rfl:n=0:=I;have bF:=b.1;have abf:=b.2 0 (cj _) I;have qC:=b.2 1 (cj _) I;replace h:=h.ghost (C (ar bl []++[]) 4);refine g_ 3 ?_;refine ak (Jp XE) (tL h J J J ?_);clear h;intro bb w h;refine g_ 4 ?_;replace h:=h.zz [7,7,7,7,7,7,7,7] 0;refine g_ 3 ?_;refine aX h J (kq I) (dg (eS J J J J (aH (Iv (bits:=[]) (ob:=none) (c:=0) (sp:=[]) h ⟨J,J,aW _,λ_=>rfl⟩ I I (cj _)) ?_)));clear h;rintro e g ⟨cf,c1,cg,rfl,fi,h⟩;refine g_ 6 ?_;refine aX h J (kq I) (dg (eS J J J J (aH (Iv h fi I I (by rw[aF,vN];simp only[eW];omega)) ?_)));clear h;rintro e g ⟨cP,c2,cZ,rfl,cS,h⟩;refine g_ 7 ?_;refine cw (σ:=Nat×Option Nat×Nat×List Value) [(15,16),(100,126)] (λ⟨i,ob,c,sp⟩ ρ w=>Kn ρ [(15,af i)]/\H r w ((ah bb [.slice (aI ob) (W (([]++cT (aa St 0 0) k++cT (aa St 1 0) k++ou cs St (i)))) c] 120)::(ob,C (ar bl (([]++cT (aa St 0 0) k++cT (aa St 1 0) k++ou cs St (i)))++sp) 4)::(ah bs (ar af (St)) 3)::(ah bt [cK cb (2^k) (2^k),af k] 124)::(ah cb (gC cs) 126)::(ah sb (ar i64 P) 3)::(ah wb (bj x) 49)::(some x.cb,C [.slice na nn nc,af d] 38)::L)/\(i+2<=W Ws)/\(b8 ob (W (([]++cT (aa St 0 0) k++cT (aa St 1 0) k++ou cs St (i)))) c (ar bl (([]++cT (aa St 0 0) k++cT (aa St 1 0) k++ou cs St (i)))) sp 1)/\(W (([]++cT (aa St 0 0) k++cT (aa St 1 0) k++ou cs St (i)))<=12+9*i)) (λ⟨i,ob,c,sp⟩=>W Ws-i) (0,cP,c2,cZ) ⟨az,(by show H r _ ((ah bb [.slice (aI cP) (W ([]++cT (aa St 0 0) k++cT (aa St 1 0) k++[])) c2] 120)::(cP,C (ar bl ([]++cT (aa St 0 0) k++cT (aa St 1 0) k++[])++cZ) 4)::(ah bs (ar af (St)) 3)::(ah bt [cK cb (2^k) (2^k),af k] 124)::(ah cb (gC cs) 126)::(ah sb (ar i64 P) 3)::(ah wb (bj x) 49)::(some x.cb,C [.slice na nn nc,af d] 38)::L);rw[dN];exact h),I,(by show b8 _ (W ([]++cT (aa St 0 0) k++cT (aa St 1 0) k++[])) _ (ar bl ([]++cT (aa St 0 0) k++cT (aa St 1 0) k++[])) _ 1;rw[dN];exact cS),(by simp only[aF,vN,ou,W4,List.flatMap_nil,eW];omega)⟩ ?_;clear h;rintro⟨i,ob,c,sp⟩ ρ w ⟨⟨Vl,rfl⟩,h,hi,u,jL⟩;refine g_ 9 ?_;refine au J ?_ ?_<;>intro E
 have Q:=b.2 i (cj _) I;have aD0:=O.2 _ Q.1.1;have j3:=b.2 (i+2) (cj _) E;have oF:=Q.2.1 E;have mA:([]++cT (aa St 0 0) k++cT (aa St 1 0) k++ou cs St (i))++cT (aa St (i+2) 0- (aa cs (aa St i 0) default).base) (aa cs (aa St i 0) default).bits=([]++cT (aa St 0 0) k++cT (aa St 1 0) k++ou cs St (i+1)):=(by rw[aD4,bV]);refine g_ 4 ?_;refine cm h [0,8,12,16,5,21,24,29,34,39] ?_;clear h;intro w h;refine aC 5 ?_;refine aQ J h J (kq I) (aD J (lu J J J (by rw[<-B];exact Q.1.1)) ?_);refine yZ J (λw u=>jx (wy (aa cs (aa St i 0) default)) (h.keeps u) J (Re Q.1.1) J) J (aey J h J ?_);clear h;intro bq w h;refine MF J h J J J J (by first|decide|exact aW _|exact fS J| (simp;done)|omega) J ?_;clear h;intro w h;(try dsimp only[dm,bJ]at h);refine cO (cm h [0,4,8,12,16,24,36,21,29,32,41,47] ?_);clear h;intro w h;refine aC 7 ?_;refine aQ J h J (kq I) ?_;refine aC 1 ?_;refine aD J (jm J J oF.1 (by have:=j3.1.1;simp only[aN];omega)) ?_;refine aC 1 ?_;replace h:=h.zz [8,8,8,8,8,8,6,8,8] 0;refine Ar J J J J J (aH (Iv h u I (by have:=j3.1.1;omega) I) ?_);clear h;rintro e g ⟨zY,c4,Bi,rfl,s6,h⟩;rw[mA]at h s6;refine cO ?_;refine g_ 5 ?_;replace h:=h.zz [8,8,8,8,8,8,7,7,8] 1;exact⟨aO 30,(i+1,zY,c4,Bi),cQ,az,h,I,s6,(by rw[<-mA,aF,vN];omega)⟩
 refine g_ 5 ?_;refine cJ J J J (aH (ama (sa:=some ⟨sb,0,none⟩) (sc:=W P) h ⟨_,_,_,J,by rw[cB],aW _,λ_=>⟨sb,0,_,_,J,aA (aA (aA (aA (aA bZ)))),Rd.self _⟩⟩ I f.lo y I f.last) ?_);clear h;rintro e g ⟨bd,rfl,h⟩;have aLi:=Iu (eD (k-5) 4++kh (2^k) P);have NJ:=aM (amN (left:=2^k) (P:=P) I) (tG It (I:10+2*W P<=36));have aLj:W (eD (k-5) 4++kh (2^k) P)<=500:=(by rw[aF,oT];omega);refine dg ?_;replace h:=h.zz [8,8,8,8,8,8,6,8,8] 0;refine d' J J ?_;have hiw:i=W Ws-2:=I;refine(acj h u I).mono ?_;clear h;rintro e g ⟨bd2,rfl,h⟩;refine⟨_,J,?_⟩;have aLk:=Dm (([]++cT (aa St 0 0) k++cT (aa St 1 0) k++ou cs St (i)));refine mC (X:=rD (eD (k-5) 4++kh (2^k) P)) (S:=[]) (Y:=kX (([]++cT (aa St 0 0) k++cT (aa St 1 0) k++ou cs St (i)))) (F:=[EB (some bd2) (kX (([]++cT (aa St 0 0) k++cT (aa St 1 0) k++ou cs St (i)))) []]) h 1 J J J ⟨by rw[dN],λe=>by cases e⟩ (BB.sl ⟨by rw[dN],λe=>by cases e⟩) (λe he=>by rcases jT.1 he with rfl;exact fQ ..) I J ?_;clear h;intro w oc c5 S5 h Be;dsimp only[bJ]at h;have LC:rD (eD (k-5) 4++kh (2^k) P)++kX (([]++cT (aa St 0 0) k++cT (aa St 1 0) k++ou cs St (i)))=jP k P St:=(by unfold jP;rw[q,bF,show i=W Ws-2 by omega];rfl);refine cM (rD (eD (k-5) 4++kh (2^k) P)++kX (([]++cT (aa St 0 0) k++cT (aa St 1 0) k++ou cs St (i)))) λj G=>?_;rw[G]at h Be LC;have kB:W (rD (eD (k-5) 4++kh (2^k) P)++kX (([]++cT (aa St 0 0) k++cT (aa St 1 0) k++ou cs St (i))))=W j:=(by rw[G]);replace h:=h.tail;refine g_ 6 ?_;refine ak (cG (DY J) kB) ?_;refine g_ 2 ?_;refine au J ?_ ?_<;>intro aaM
 refine g_ 5 ?_;exact⟨d,I,a_ ⟨J,h.tail.tail.tail.tail.tail⟩⟩
 refine g_ 4 ?_;refine ak (cG (DY J) kB) ?_;refine g_ 1 ?_;refine mf J (ly _) h ?_;clear h;intro bz w h;refine dg ?_;have hz:C [Value.int .u8 ((W j:Nat):Int)] 5=C (ar u8 ([bS (W j)]++[])) 5:=(by show C [_] 5=C [u8 (bS (W j))] 5;rw[yC,iV (show W j<aN .u8+1 by simp only[aN];omega)]);rw[hz]at h;refine mC (ob:=some bz) (c:=1) (X:=[bS (W j)]) (S:=[]) (Y:=j) (F:=[EB oc j S5]) h 0 J (gS J kB) J ⟨J,λe=>by cases e⟩ Be.sl (λe he=>by rcases jT.1 he with rfl;exact aA bZ) (by simp only[dL,eW];omega) J ?_;clear h;intro w FF c6 S6 h R;dsimp only[bJ]at h;have aD_:FF≠none:=λe=>(by have:=R.2 e;have:=R.1;rw[aF,aF]at this;simp only[dL,eW]at this;omega);refine g_ 3 ?_;have aD':LB Ws k P St:=⟨f,mi,CA,bF,λi hi=>by have:=(b.2 i (cj _) hi).1;rw[q,<-B];exact this,λi hi=>by rw[q];exact(b.2 i (cj _) I).2.1 hi,λi hi wX=>by rw[q,<-B];exact(b.2 i (cj _) hi).2.2 wX⟩;rw[LC]at h R aaM;refine⟨d,I,bG ⟨FF,S6,c6,k,P,St,?_,aD_,R,I,aD',?_⟩⟩
 exact cD Ending.returned (jw J (by rw[<-LC,aF];simp only[dL,eW];omega) J)
 exact((((((h.mv 1).tail.mv 1).tail.mv 1).tail.mv 1).tail.mv 1).tail)
variable {l:List Nat}{a:Nat}
def jQ(m n:Nat):Nat:=if n=0 then 0 else m+1-n
def cH(l:List Nat):List Nat:=(l.take (W l-1)).map (jQ (dy l))
def qb(ws:List Nat)(k:Nat):List UInt8:=(cL k).map λj=>bS (aa ws (2*j) 0*16+aa ws (2*j+1) 0)
def aEa(ws:List Nat)(k:Nat):qb ws (k+1)=qb ws k++[bS (aa ws (2*k) 0*16+aa ws (2*k+1) 0)]:=by simp[qb,pR]
def Pu(ws:List Nat)(k:Nat):W (qb ws k)=k:=by simp[qb]
def LF(l:List Nat)(B:List UInt8):Prop:=
 (∃lg P St,B=bS (W (jP lg P St))::jP lg P St/\W (jP lg P St)<=127/\LB (cH l) lg P St)\/
 (B=bS (127+W (cH l))::qb (cH l) ((W (cH l)+1)/2)/\1<=W (cH l)/\W (cH l)<=128)
def Vz(l:List Nat):W (cH l)=W l-1:=by simp[cH]
def aEb{j:Nat}(h:j+1<W l):(cH l).take (j+1)=(cH l).take j++[jQ (dy l) (aa l j 0)]:=by
 rw[lY (cH l) 0 j (by rw[Vz];omega)];congr 2;unfold cH;rw[bX,kP,qg,ao I,gW I,bX,gW I];rfl
def acM(hb: ∀s,aa l s 0<=11): ∀s,s∈cH l->s<13:=by
 intro s hs;unfold cH at hs;obtain⟨n,a,rfl⟩:=jS.1 hs;have:=Ly hb;unfold jQ;split<;>omega
def acN(hb: ∀s,aa l s 0<=11)(i:Nat):aa (cH l) i 0<=12:=by
 rcases dq i (W (cH l)) with h|h
 have:=acM hb _ (Vv h);omega
 rw[bX,gB h];exact cj _
def amR{A:List aK}{e:Ending}(a:(e= .returned (.slice none 0 0)/\H r w A)\/(∃ob S c lg P St,e= .returned (.slice (aI ob) (W (jP lg P St)+1) c)/\ob≠none/\BB ob (bS (W (jP lg P St))::jP lg P St) S c/\W (jP lg P St)<=127/\LB Ws lg P St/\H r w (EB ob (bS (W (jP lg P St))::jP lg P St) S::A))): ∃(ob:Option Nat) (B S:List UInt8) (c:Nat),e= .returned (.slice (aI ob) (W B) c)/\H r w (EB ob B S::A)/\BB ob B S c/\(ob≠none-> ∃lg P St,B=bS (W (jP lg P St))::jP lg P St/\W (jP lg P St)<=127/\LB Ws lg P St):=by
 rcases a with⟨h1,h2⟩| ⟨ob,S,c,lg,P,St,h1,h2,b,d,f,g⟩
 exact⟨none,[],[],0,h1,h2.ghost _,⟨J,λ_=>rfl⟩,λe=>absurd J e⟩
 exact⟨ob,bS (W (jP lg P St))::jP lg P St,S,c,h1,g,b,λ_=>⟨lg,P,St,J,d,f⟩⟩
def acO{a:Option Nat}(h:(!(aI a).isNone)=true):a≠none:=λe=>by subst e;cases h
def aEc{b:Nat}(hb:b<16):a*2^4|||b=a*16+b:=by
 rw[Qb,pW (i:=4) I];omega
def aEd{P:Program}{ρ:Env}{x y:Operand}{T T' ty:TypeId}{m:Nat}{v:Int}[h2:av v 1](e:a=m)(b:aL ρ x=af a)(c:aL ρ y= .int .i64 v)(d:m+1<=aN .i64):run P ρ (.binOp .add T x y T') ty w= .ok (.value (af (m+1))) w:=by
 subst e;exact eR b c d
def iQ.amS{F:List aK}{ad:Option Addr}{c:Nat}{A:List Nat}(h:iQ F (.slice ad (W (A.map af)) c) (A.map af)):iQ F (.slice ad (W A) c) (A.map af):=by
 rw[cB]at h;exact h
def aEe{i:Nat}(h:W l<=i):aa l i 0=0:=by rw[bX,gB h];rfl
def amT{p:Prop}(h:p:=by refine g_ 6 ?_;refine B9 (hu.2.2.2 (acO GV)) λlg P St q=>?_;exact⟨jG,I,bG ⟨oo,BD,SS,co,J,acO GV,hu.2.2.1,a_ ⟨lg,P,St,q⟩,by rw[q.1,dL];omega,(h.mv 3).tail⟩⟩):p:=h
def amU{wb lc:Nat}{x:Wr}{la:Option Addr}{nn nc at_:Nat}{na:Option Addr}{N:List Int}(h:H r w ((ah wb (bj x) 49)::(some x.cb,C [.slice na nn nc,af at_] 38)::L))(hN:og L (.slice na nn nc) N)(jU:at_<=1152921504606846000)(T:iQ L (.slice la (W l) lc) (l.map af))(hl:W l<=256)(ig:2<=W l)(hb: ∀s,aa l s 0<=11):Calls PP 50 #[bL wb,.slice la (W l) lc] w λe w'=> ∃at',at'<=at_+258/\((e= .returned (.slice none 0 0)/\H r w' ((ah wb (bj x) 49)::(some x.cb,C [.slice na nn nc,af at'] 38)::L))\/(∃ob B S c,e= .returned (.slice (aI ob) (W B) c)/\ob≠none/\BB ob B S c/\LF l B/\W B<=200/\H r w' (EB ob B S::(ah wb (bj x) 49)::(some x.cb,C [.slice na nn nc,af at'] 38)::L))):=by
 refine lB (T.fp (show 0<W (l.map af) by rw[cB];omega)) λpb pq lp Tp p=>?_;refine gg p.2.1 λip rC=>?_;have zB:=Ly hb;have kB:=Vz l;have hLc:=T.len.2;refine iI func50 ntmps50 [4] ?_;refine g_ 16 ?_;refine cw (σ:=Nat) [(5,5),(7,7),(18,25)] (λi ρ w=>Kn ρ [(18,af i),(5,af (dy (l.take i)))]/\H r w ((ah wb (bj x) 49)::(some x.cb,C [.slice na nn nc,af at_] 38)::L)/\(i<=W l)) (λi=>W l-i) (0) ⟨az,h,I⟩ ?_;rintro i ρ w ⟨⟨Pg,rfl⟩,h,hi⟩;refine g_ 5 ?_;refine au J ?_ ?_<;>intro JO
 refine g_ 5 ?_;refine ak (da J J p.1 I) (aX h J (om p.2.2 I) ?_);refine g_ 5 ?_;refine ak (Mx J J) ?_;refine g_ 6 ?_;exact⟨aO 10,i+1,cQ,Kn.mk ⟨J,(int_eq (by rw[lY l 0 i I,amp])),trivial⟩,h,I⟩
 have u:dy (l.take i)=dy l:=(by rw[je I]);refine cM (dy l) λm hm=>?_;rw[hm]at zB u;replace h:=h.ghost (C (ar af ((cH l).take 0)++[]) 3);refine g_ 12 ?_;refine ak (mX J J I) ?_;refine g_ 4 ?_;refine cw (σ:=Nat×Option Nat×Nat×List Value) [(8,8),(10,10),(32,46)] (λ⟨j,g,o,a⟩ ρ w=>Kn ρ [(32,af j),(8,.slice (aI g) (W ((cH l).take j)) o)]/\H r w ((g,C (ar af ((cH l).take (j))++a) 3)::(ah wb (bj x) 49)::(some x.cb,C [.slice na nn nc,af at_] 38)::L)/\(j<=W l-1)/\(b8 g (W ((cH l).take (j))) o (ar af ((cH l).take (j))) a 1)) (λ⟨j,g,o,a⟩=>W l-j) (0,none,0,[]) ⟨az,h,I,J,J,aW _,λ_=>rfl⟩ ?_;rintro⟨j,g,o,a⟩ ρ w ⟨⟨Ph,rfl⟩,h,hj,v⟩;refine g_ 5 ?_;refine au J ?_ ?_<;>intro Cr
 have HJ:= @BC l j;rw[hm]at HJ;have kC:W ((cH l).take j)=j:=(by rw[fR];omega);refine g_ 5 ?_;refine ak (da J J p.1 I) (aX h J (om p.2.2 I) (ee (aJ (cW [(10,10),(36,41)] (λρ w=>Kn ρ [(10,af (jQ m (aa l j 0)))]/\H r w ((g,C (ar af ((cH l).take (j))++a) 3)::(ah wb (bj x) 49)::(some x.cb,C [.slice na nn nc,af at_] 38)::L)) ?_ ?_))))
 refine g_ 5 ?_;refine au J ?_ ?_<;>intro CM
 refine fD (dg (ak (aEd (h2:=av.lit _) u J J aG) ?_));refine g_ 4 ?_;exact⟨aO 7,Kn.mk ⟨(int_eq (by unfold jQ;rw[aj I])),trivial⟩,h⟩
 exact a8 ⟨aO 2,Kn.mk ⟨(int_eq (by unfold jQ;rw[ao I];congr 1;omega)),trivial⟩,h⟩
 rintro ρ w ⟨⟨Pj,rfl⟩,h⟩;refine g_ 3 ?_;refine mf J (mH _) h ?_;intro D w h;refine me (ar af ((cH l).take j)) a [af (jQ m (aa l j 0))] h 1 J J J v (Src.slice (j:=0) (q2:=0) J ⟨J,trivial⟩ J) (by intro y U;simp at U;subst U;rfl) I an J ?_;intro w V Z Pq h dV E mi;dsimp only[bJ]at h;have G:=aEb (l:=l) (j:=j) I;rw[hm]at G;have eb:ar af ((cH l).take j)++[af (jQ m (aa l j 0))]=ar af ((cH l).take (j+1)):=(by rw[G,gJ];rfl);rw[eb]at h dV;have el:(W ((cH l).take j))+1=W ((cH l).take (j+1)):=(by rw[G,aF];rfl);have mP:b8 V (W ((cH l).take (j+1))) Z (ar af ((cH l).take (j+1))) Pq 1:=⟨by rw[cB,fg],dV,by rw[<-el];exact E,mi⟩;replace h:=h.tail;refine g_ 6 ?_;exact⟨aO 12,(j+1,V,Z,Pq),cQ,Kn.mk ⟨J,(gS J el),trivial⟩,h,I,mP⟩
 have Lp:(cH l).take j=cH l:=je I;rw[Lp]at h v;refine(Ix v I).elim λb0 e0=>?_;subst e0;have z:=acN hb;have f:W (List.take j (cH l))=W (cH l):=(by rw[Lp]);refine jl (cW [(4,4),(11,11),(47,63)] (λρ w=> ∃d:Nat,Kn ρ []/\H r w ((ah b0 (ar af (cH l)++a) 3)::(ah wb (bj x) 49)::(some x.cb,C [.slice na nn nc,af d] 38)::L)/\(d<=at_+258)) ?_ ?_)
 refine g_ 6 ?_;replace h:=h.zz [1,2] 0;refine cJ (v1:=af 2) J J J (aH (lR (n:=2) (at_:=at_) h (hN.sub aP) I an) ?_);rintro e w1 ⟨ov,eI,rfl,nd,Ab,h⟩;refine g_ 2 ?_;refine eM (t:=53) J (λK=>?_) (λK=>?_)
 refine g_ 5 ?_;refine jv J ?_;refine g_ 4 ?_;replace h:=h.zz [2,1,2] 0;refine cJ (v0:=bL wb) (v1:=cK b0 (W (cH l)) o) J (gS J f) J ((amO (Ws:=cH l) h (hN.sub (Sub.cons _ _)) I (iQ.own (Y:=(cH l).map af) (by rw[cB];exact v)).amS (acM hb) I).mono ?_);clear h;rintro e w1 ⟨jG,uf,hh⟩;refine aZ (amR hh) (λoo eK=>aZ (eK) (λBD eJ=>aZ (eJ) (λSS fH=>aZ (fH) (λco hu=>?_))));refine⟨_,hu.1,?_⟩;have h:=hu.2.1;clear hh;refine g_ 5 ?_;refine ak (Ll J J) (aJ (eY J ?_ ?_))<;>intro GV
 exact amT
 refine a8 ?_;replace h:=h.zz [2,2,3,3] 1;exact⟨aS,jG,az,h,I⟩
 refine g_ 5 ?_;refine au J ?_ ?_<;>intro GU
 refine g_ 4 ?_;replace h:=h.zz [2,1,2] 0;refine cJ (v0:=bL wb) (v1:=cK b0 (W (cH l)) o) J (gS J f) J ((amO (Ws:=cH l) h (hN.sub (Sub.cons _ _)) I (iQ.own (Y:=(cH l).map af) (by rw[cB];exact v)).amS (acM hb) I).mono ?_);clear h;rintro e w1 ⟨jG,uf,hh⟩;refine lB (amR hh) λoo BD SS co hu=>?_;refine⟨_,hu.1,?_⟩;have h:=hu.2.1;clear hh;refine g_ 5 ?_;refine ak (Ll J J) (aJ (eY J ?_ ?_))<;>intro GV
 exact amT
 refine a8 ?_;replace h:=h.zz [2,2,3,3] 1;exact⟨aS,jG,az,h,I⟩
 refine a8 ?_;replace h:=h.zz [1,2] 0;exact⟨aS,eI,az,h,I⟩
 rintro ρ w ⟨d,⟨Vj,rfl⟩,h,M⟩;refine g_ 3 ?_;refine ak (cG (DY J) f) (ee (aJ (cW [(4,4),(66,71)] (λρ w=>Kn ρ []/\H r w ((ah b0 (ar af (cH l)++a) 3)::(ah wb (bj x) 49)::(some x.cb,C [.slice na nn nc,af d] 38)::L)/\(W (cH l)<=128)/\(0<W (cH l))) ?_ ?_)))
 refine g_ 5 ?_;refine eM (t:=68) J (λU2=>?_) (λU2=>?_)
 refine g_ 4 ?_;refine jv J ?_;refine g_ 5 ?_;exact⟨d,M,a_ ⟨J,h.tail⟩⟩
 refine g_ 4 ?_;refine au J ?_ ?_<;>intro GD
 refine g_ 5 ?_;exact⟨d,M,a_ ⟨J,h.tail⟩⟩
 exact a8 ⟨aS,az,h,I,I⟩
 rintro ρ w ⟨⟨Vk,rfl⟩,h,O,ku⟩;refine g_ 5 ?_;refine mf J (ly _) h ?_;intro bD w h;have NI:C [Value.int .u8 ((127+W (cH l):Nat):Int)] 5=C (ar u8 ((bS (127+W (cH l))::qb (cH l) (0))++[])) 5:=(by show C [_] 5=C [u8 (bS (127+W (cH l)))] 5;rw[yC,iV (show 127+W (cH l)<aN .u8+1 by simp only[aN];omega)]);rw[NI]at h;refine g_ 8 ?_;refine cw (σ:=Nat×Option Nat×List UInt8×Nat) [(13,15),(76,101)] (λ⟨k,ob,S,c⟩ ρ w=>Kn ρ [(14,af (2*k)),(13,.slice (aI ob) (W (bS (127+W (cH l))::qb (cH l) (k))) c)]/\H r w (EB ob (bS (127+W (cH l))::qb (cH l) (k)) S::(ah b0 (ar af (cH l)++a) 3)::(ah wb (bj x) 49)::(some x.cb,C [.slice na nn nc,af d] 38)::L)/\(2*k<=W (cH l)+1)/\(BB ob (bS (127+W (cH l))::qb (cH l) (k)) S c)/\(ob≠none)) (λ⟨k,ob,S,c⟩=>W (cH l)+1-k) (0,some bD,[],1) ⟨az,h,I,⟨J,λe=>by cases e⟩,(λe=>by cases e)⟩ ?_;rintro⟨k,ob,S,c⟩ ρ w ⟨⟨Vl,rfl⟩,h,cS,hB,nC⟩;refine g_ 7 ?_;refine au J ?_ ?_<;>intro Rq
 have nT:=z (2*k);have q7:=z (2*k+1);have ja:=Pu (cH l) k;refine g_ 8 ?_;refine aX h J (FG I) (ak (eB (b:=4) (h2:=av.lit _) J J an aG) ?_);refine ee (aJ (cW [(15,15),(86,96)] (λρ w=>Kn ρ [(15,af (aa (cH l) (2*k) 0*16+aa (cH l) (2*k+1) 0))]/\H r w (EB ob (bS (127+W (cH l))::qb (cH l) (k)) S::(ah b0 (ar af (cH l)++a) 3)::(ah wb (bj x) 49)::(some x.cb,C [.slice na nn nc,af d] 38)::L)) ?_ ?_))
 refine g_ 7 ?_;refine au J ?_ ?_<;>intro AK
 refine g_ 6 ?_;exact aX h J (FG I) (ak (cG (fq J J aG aG) (aEc I)) (ee (aJ ⟨aO 12,az,h⟩)))
 exact a8 ⟨aO 4,Kn.mk ⟨(int_eq (by rw[show(cH l).getD (2*k+1) 0=0 from aEe I];rfl)),trivial⟩,h⟩
 rintro ρ w ⟨⟨acB,rfl⟩,h⟩;refine g_ 4 ?_;refine mf J (ly _) h ?_;intro D w h;refine mC (X:=(bS (127+W (cH l))::qb (cH l) (k))) (Y:=[bS (aa (cH l) (2*k) 0*16+aa (cH l) (2*k+1) 0)]) (F:=[(ah D [iW (aa (cH l) (2*k) 0*16+aa (cH l) (2*k+1) 0)] 5)]) h 1 J J J hB ⟨_,_,_,J,J,aW _,λ_=>⟨D,0,_,_,J,fQ ..,by rw[yC,iV (show _<aN .u8+1 by simp only[aN];omega)];rfl,trivial⟩⟩ (λe he=>by rcases jT.1 he with rfl;exact fQ ..) (by simp only[dL,eW];omega) J ?_;intro w cP c2 S2 h A;dsimp only[bJ]at h;have Hd:(bS (127+W (cH l))::qb (cH l) (k))++[bS (aa (cH l) (2*k) 0*16+aa (cH l) (2*k+1) 0)]=(bS (127+W (cH l))::qb (cH l) (k+1)):=(by rw[aEa];rfl);have Q:W ((bS (127+W (cH l))::qb (cH l) (k))++[bS (aa (cH l) (2*k) 0*16+aa (cH l) (2*k+1) 0)])=W (bS (127+W (cH l))::qb (cH l) (k+1)):=(by rw[Hd]);rw[Hd]at h A;have R:cP≠none:=λe=>(by have:=A.2 e;have:=A.1;rw[aF,dL]at this;omega);replace h:=h.tail;refine g_ 7 ?_;exact⟨aO 19,(k+1,cP,S2,c2),cQ,Kn.mk ⟨(int_eq I),(gS J Q),trivial⟩,h,I,A,R⟩
 refine g_ 7 ?_;have Si:k=(W (cH l)+1)/2:=I;exact⟨d,M,bG ⟨ob,(bS (127+W (cH l))::qb (cH l) (k)),S,c,J,nC,hB,bG ⟨by rw[Si],ku,O⟩,by rw[dL,Pu];omega,(h.mv 1).tail⟩⟩
variable {K e0 e1 e2 e3:aK}{F G5:List aK}{Cd Cs:List Nat}{T:List UInt8}{c i j k n tc:Nat}{lo:Option (List Nat)}{ta:Option Addr}{p:Prop}{x:Wr}
structure vQ(l:List Nat):Prop where
 Lw:2<=W l
 len:W l<=256
 last:0<aa l (W l-1) 0
 le: ∀s,aa l s 0<=11
 acC:kr l=2048
 two: ∃s,s+1<W l/\0<aa l s 0
def Pm.g(h:Pm Cs l)(hC:W Cs<=256):vQ l:=⟨h.Lw,aM h.len hC,h.last,h.le,h.acC,h.two⟩
def nK(F:List aK)(x:Wr):Option (List Nat)->Prop
 |none=>x.la=none
 |some l=>x.la≠none/\x.ln=W l/\iQ F (.slice x.la x.ln x.lc) (l.map af)/\vQ l
def nK.sub{a:List aK}(h:nK F x lo)(hs:Sub F a):nK a x lo:=by
 cases lo with
 |none=>exact h
 |some l=>exact⟨h.1,h.2.1,h.2.2.1.sub hs,h.2.2.2⟩
def mD(x:Wr)(a:Option Addr)(n c:Nat):Wr:={x with la:=a,ln:=n,lc:=c}
def gU(l Cd:List Nat)(T:List UInt8):List UInt8:=kX (T.flatMap λy=>cT (aa Cd y.toNat 0) (aa l y.toNat 0))
def eG(T:List UInt8)(i:Nat):List UInt8:=(T.drop (i*((W T+3)/4))).take (min ((i+1)*((W T+3)/4)) (W T)-i*((W T+3)/4))
def rF(l Cd:List Nat)(T:List UInt8)(k:Nat):List UInt8:=(cL k).flatMap λi=>gU l Cd (eG T i)
def mU(l Cd:List Nat)(T:List UInt8)(k:Nat):List UInt8:=(cL k).flatMap λi=>bQ (W (gU l Cd (eG T i))) 2
def Ac(f:Nat):Nat:=[1024,1024,16384,262144].getD f 0
def qM(f:Nat):Nat:=[10,10,14,18].getD f 0
def uy(f:Nat):Nat:=[3,3,4,5].getD f 0
def Pv(lo:Option (List Nat))(l:List Nat)(T B:List UInt8):Prop:= ∃(tree a:List UInt8) (Cd:List Nat) (fits four:Bool) (form:Nat),
 (fits=true->lo=some l/\tree=[])/\(fits=false->LF l tree)/\vQ l/\FK l Cd/\(∀i,i<W T->0<aa l (aa T i 0).toNat 0)/\
 (four=false->form=0/\W T<=1023/\a=gU l Cd T)/\(four=true->1<=form/\form<=3/\6<=W T/\1<=W T-3*((W T+3)/4)/\(∀i,i<4->W (gU l Cd (eG T i))<=65535)/\a=mU l Cd T 3++rF l Cd T 4)/\
 W T<Ac form/\W (tree++a)<Ac form/\
 B=bQ (W (tree++a)*2^(4+qM form)+(W T*16+form*4+(if fits=true then 3 else 2))) (uy form)++(tree++a)
def amX{A:List aK}{e:Ending}(a:(e= .returned (.slice none 0 0)/\H r w A)\/(∃ob B S c,e= .returned (.slice (aI ob) (W B) c)/\ob≠none/\BB ob B S c/\LF l B/\W B<=200/\H r w (EB ob B S::A))): ∃(ob:Option Nat) (B S:List UInt8) (c:Nat),e= .returned (.slice (aI ob) (W B) c)/\H r w (EB ob B S::A)/\BB ob B S c/\(ob≠none->LF l B/\W B<=200):=by
 rcases a with⟨h1,h2⟩| ⟨ob,B,S,c,h1,h2,b,d,f,g⟩
 exact⟨none,[],[],0,h1,h2.ghost _,⟨J,λ_=>rfl⟩,λe=>absurd J e⟩
 exact⟨ob,B,S,c,h1,g,b,λ_=>⟨d,f⟩⟩
def aEj{a:Option Nat}(h:(aI a).isNone=false):a≠none:=λe=>by subst e;cases h
def BB.none:BB none [] [] 0:=⟨J,λ_=>rfl⟩
def aEk(h:nK F x lo)(e:(!x.la.isNone)=true): ∃l,lo=some l/\ ∀s,s<0->0<aa Cs s 0->0<aa l s 0:=by
 cases lo with
 |none=>have h1:x.la=none:=h;rw[h1]at e;cases e
 |some l=>exact⟨l,J,λs hs=>absurd hs (ma _)⟩
def amY(h: ∀s,s<j->0<aa Cs s 0->0<aa l s 0)(h2:0<aa Cs j 0->0<aa l j 0): ∀s,s<j+1->0<aa Cs s 0->0<aa l s 0:=λs hs a=>by
 rcases xB.1 hs with b|rfl
 exact h s b a
 exact h2 a
def Pw{b:Nat}{T:TT}:iQ ((ah b (ar af l) T)::F) (cK b (W l) (W l)) (l.map af):=
 ⟨_,_,_,J,by rw[cB],aW _,λ_=>⟨b,0,_,_,J,fQ ..,Rd.self _⟩⟩
def aEl{a:Option Addr}:(bj x).set 4 (.slice a n c)=bj (mD x a n c):=rfl
def aEm(h:x.ln=W l):bj x=bj (mD x x.la (W l) x.lc):=by unfold mD;rw[<-h]
def aEn(h:FK l Cd)(b:W l<=256)(hb: ∀s,aa l s 0<=11): ∀s,0<aa l s 0->s<W l/\aa Cd s 0<=10000000:=λs hs=>by
 have a:s<W l:=by
  rcases dq s (W l) with e|e
  exact e
  rw[bX,gB e]at hs;exact absurd hs (vT 0)
 refine⟨a,?_⟩;rw[h.code s a hs];have h1:= @amw l (aa l s 0) (dy l) s b I (Ly hb);exact aM (k6 _ _) h1.1
def H.amZ(h:H r w (e0::e1::e2::e3::L)):H r w (e1::e2::e3::e0::L):=((h.mv 3).mv 3).mv 3
def H.aEo{e4:aK}(h:H r w (e0::e1::e2::e3::e4::L)):H r w (e1::e2::e3::e4::e0::L):=(((h.mv 4).mv 4).mv 4).mv 4
def acQ{l Cd:List Nat}{T:List UInt8}(hb: ∀s,aa l s 0<=11):W (gU l Cd T)<=2*W T+1:=by
 have h: ∀T:List UInt8,W (T.flatMap λy=>cT (aa Cd y.toNat 0) (aa l y.toNat 0))<=11*W T:=by
  intro T
  induction T with
  |nil=>exact aW _
  |cons y T a=>rw[BK,aF,vN,dL];have:=hb y.toNat;omega
 unfold gU;rw[Dm];have:=h T;omega
def Px{T:List UInt8}{i:Nat}:W (eG T i)=min ((i+1)*((W T+3)/4)) (W T)-i*((W T+3)/4):=by
 unfold eG;rw[fR,cr];omega
def VA(h:k<W (eG T i)):i*((W T+3)/4)+k<W T/\aa (eG T i) k 0=aa T (i*((W T+3)/4)+k) 0:=by
 have h1:= @Px T i;refine⟨I,?_⟩;unfold eG;rw[bX,qg,ao I,nQ,<-bX]
def aEp(a:aY F (.slice ta (W T) tc) T)(h:i*((W T+3)/4)<=W T):aY F (.slice (cut ta tc (i*((W T+3)/4)) 1) (W (eG T i)) (tc-i*((W T+3)/4))) (eG T i):=by
 have:=(a.drop h).take (m:=min ((i+1)*((W T+3)/4)) (W T)-i*((W T+3)/4)) I;rw[Px];exact this
def aEq(hi:i<=3)(h:1<=n-3*((n+3)/4)):i*((n+3)/4)<=min ((i+1)*((n+3)/4)) n/\(i+1)*((n+3)/4)<=4*((n+3)/4):=by
 rcases(I:i=0\/i=1\/i=2\/i=3)with rfl|rfl|rfl|rfl<;>omega
def am0:rF l Cd T (k+1)=rF l Cd T k++gU l Cd (eG T k):=by unfold rF;rw[pR,I9];simp
def am1:mU l Cd T (k+1)=mU l Cd T k++bQ (W (gU l Cd (eG T k))) 2:=by unfold mU;rw[pR,I9];simp
def acR{l Cd:List Nat}{T:List UInt8}(hb: ∀s,aa l s 0<=11): ∀k,W (rF l Cd T k)<=(2*W T+1)*k
 |0=>cj _
 |k+1=>by have h1:=acR (l:=l) (Cd:=Cd) (T:=T) hb k;have h2:= @acQ l Cd (eG T k) hb;have a:W (eG T k)<=W T:=(by rw[Px];omega);rw[am0,aF,Qu];omega
def VB{l Cd:List Nat}{T:List UInt8}: ∀k,W (mU l Cd T k)=2*k
 |0=>rfl
 |k+1=>by rw[am1,aF,cY,VB k];omega
def VC(F:List aK)(vs:List Value)(l Cd:List Nat)(T:List UInt8)(i:Nat):Prop:=W vs=4/\ ∀j,j<i-> ∃ad n c,vs[j]? =some (.slice ad n c)/\aY F (.slice ad n c) (gU l Cd (eG T j))
def VC.step{vs:List Value}{bd:Nat}(h:VC F vs l Cd T i)(hi:i<4):VC (EB (some bd) (gU l Cd (eG T i)) []::F) (vs.set i (cK bd (W (gU l Cd (eG T i))) (W (gU l Cd (eG T i))))) l Cd T (i+1):=by
 refine⟨by rw[dW];exact h.1,λj a=>?_⟩;by_cases e:i=j
 subst e;exact⟨some ⟨bd,0,none⟩,W (gU l Cd (eG T i)),W (gU l Cd (eG T i)),by rw[vV,ao J,ao (by rw[h.1];exact hi)],BB.sl (ob:=some bd) ⟨by rw[dN],λe=>by cases e⟩⟩
 obtain⟨ad,n,c,h1,h2⟩:=h.2 j I;exact⟨ad,n,c,by rw[vV,aj e];exact h1,h2.sub (Sub.cons _ _)⟩
def am2{P:Program}{ρ:Env}{x y:Operand}{T T' ty:TypeId}{e m:Nat}(he:e=m)(b:aL ρ x=af a)(c:aL ρ y=af e)(d:a*m<=aN .i64):run P ρ (.binOp .mul T x y T') ty w= .ok (.value (af (a*m))) w:=by
 subst he;exact BQ b c d
def aEr(hb: ∀s,aa l s 0<=11):W (gU l Cd (eG T j))<=2*W T+1:=by
 have h1:= @acQ l Cd (eG T j) hb;have a:W (eG T j)<=W T:=(by rw[Px];omega);omega
def aEs{d f hd:Nat}(g:f<=3)(i:hd<=3)(h: ¬ [1024,1024,16384,262144].getD f 0<=max n d):n*2^4|||f*2^2=n*16+f*4/\n*16+f*4|||hd=n*16+f*4+hd/\d*2^(4+qM f)||| (n*16+f*4+hd)=d*2^(4+qM f)+(n*16+f*4+hd)/\qM f<=18/\n<Ac f/\d<Ac f/\n*16+f*4+hd<=10000000/\d*2^(4+qM f)<=1099511627776/\uy f<=5/\3<=uy f/\d<=262144:=by
 have a:Ac f=2^qM f:=(by rcases(I:f=0\/f=1\/f=2\/f=3)with rfl|rfl|rfl|rfl<;>rfl);have c:[1024,1024,16384,262144].getD f 0=Ac f:=rfl;have hw:qM f<=18:=(by rcases(I:f=0\/f=1\/f=2\/f=3)with rfl|rfl|rfl|rfl<;>decide);have hs:uy f<=5/\3<=uy f:=(by rcases(I:f=0\/f=1\/f=2\/f=3)with rfl|rfl|rfl|rfl<;>decide);have hm:Ac f<=262144:=(by rw[a];exact dF an hw);rw[c]at h;have e:n<Ac f:=I;have b:d<Ac f:=I;have e4:2^(4+qM f)=16*Ac f:=(by rw[h_,a]);refine⟨?_,?_,?_,hw,e,b,I,?_,hs.1,hs.2,I⟩
 have:= @xD 4 (f*2^2) I n;rw[im n (2^4),<-this]
 have:= @xD 2 hd I (n*4+f);rw[show n*16+f*4=2^2*(n*4+f) by omega];exact this.symm
 have:= @xD (4+qM f) (n*16+f*4+hd) (by rw[e4];omega) d;rw[im d,<-this]
 rw[e4];have:=tG (BJ b) (yP 16 hm);exact aM (tG (I:d<=262144) (yP 16 hm)) an
def H.asc{G:List aK}(h:H r w (e1::e2::(G5++(K::(G++L))))):H r w (e1::e2::((G5++K::G)++L)):=by
 rw[bV];exact h
def H.aEt{G:List aK}(h:H r w (e0::e1::e2::(G5++(K::(G++L))))):H r w (e0::e1::e2::((G5++K::G)++L)):=by
 rw[bV];exact h
def aEu{G:List aK}:Sub (G++L) ((G5++K::G)++L):=λe he=>by
 rcases oX.1 he with h|h
 exact oA _ (fM _ (aA h))
 exact fM _ h
def aEv{ob:Option Nat}{X S:List UInt8}(h:BB ob X S c)(a:0<W X):ob≠none:=λe=>by
 have h1:=h.2 e;have h2:=h.1;subst h1;simp only[aF]at h2;omega
def am3(h:p:=by have s7:=ht.2.2.2 (aEj GK);refine g_ 6 ?_;refine iX (cK xq (W l1) (W l1)) ?_;intro w h;rw[aEl]at h;exact ee (aJ ⟨aS,l1,false,some ⟨xq,0,none⟩,W l1,gI,to1,TB1,TS1,tc1,[(ah xq (ar af l1) 3)],az,h,ht.2.2.1,(λe=>by cases e),(λ_=>s7.1),s7.2,oK,Pw,(λe=>by cases e),(λs hs=>(Fw.used s).2 hs),I⟩)):p:=h
def am4(h:p:=by refine g_ 5 ?_;exact⟨mV,gO,W l',gk,G5++(ah bk (ar af Cd) 3)::G,I,.inl ⟨J,h.tail.tail.asc⟩⟩):p:=h
def am5(h:p:=by refine g_ 5 ?_;exact⟨gI,x.la,x.ln,x.lc,[(ah xq (ar af l1) 3)],I,.inl ⟨J,h.tail⟩⟩):p:=h
def aEw{wb cc used kind:Nat}{ca:Option Addr}{nn nc at_:Nat}{na:Option Addr}{N:List Int}(h:H r w ((ah wb (bj x) 49)::(some x.cb,C [.slice na nn nc,af at_] 38)::L))(hN:og L (.slice na nn nc) N)(jU:at_<=1152921504606840000)(hT:aY L (.slice ta (W T) tc) T)(hT1:0<W T)(s9:W T<=131072)(hC:iQ L (.slice ca (W Cs) cc) (Cs.map af))(hCl:W Cs=256)(hCb: ∀s,aa Cs s 0<=131072)(hCT: ∀i,i<W T->0<aa Cs (aa T i 0).toNat 0)(hus:used=W (dj Cs (W Cs)))(hkd:kind<=4)(A:nK L x lo):Calls PP 39 #[bL wb,.slice ta (W T) tc,.slice ca (W Cs) cc,af used,af kind] w λe w'=> ∃at' gO ni gk G,at'<=at_+270/\((e= .returned (.slice none 0 0)/\H r w' ((ah wb (bj (mD x gO ni gk)) 49)::(some x.cb,C [.slice na nn nc,af at'] 38)::(G++L)))\/(∃ob B S c l',e= .returned (.slice (aI ob) (W B) c)/\ob≠none/\BB ob B S c/\nK (G++L) (mD x gO ni gk) (some l')/\Pv lo l' T B/\W B<=270000/\H r w' (EB ob B S::(ah wb (bj (mD x gO ni gk)) 49)::(some x.cb,C [.slice na nn nc,af at'] 38)::(G++L)))):=by
 refine lB (hC.fp (show 0<W (Cs.map af) by rw[cB];omega)) λpb pq lp Tp q1=>?_;refine gg q1.2.1 λip rC=>?_;have Py:=hT.len.2;have NL:=Vn Cs (W Cs);refine rU (P:=PP) func39 232 ntmps39 [10] J J (args:=[_,_,_,_,_]) J ?_;refine g_ 10 ?_;refine ak (Ll J J) ?_;refine g_ 10 ?_;refine cw (σ:=Nat×Bool) [(11,13),(37,66)] (λ⟨j,fb⟩ ρ w=>Kn ρ [(37,af j),(11,.bool fb)]/\H r w ((ah wb (bj x) 49)::(some x.cb,C [.slice na nn nc,af at_] 38)::L)/\(j<=W Cs)/\(fb=true-> ∃l,lo=some l/\ ∀s,s<j->0<aa Cs s 0->0<aa l s 0)) (λ⟨j,fb⟩=>W Cs-j) (0,!x.la.isNone) ⟨az,h,I,(λe=>aEk A e)⟩ ?_;rintro⟨j,fb⟩ ρ w ⟨⟨Pg,rfl⟩,h,hj,pB⟩;refine g_ 5 ?_;refine au J ?_ ?_<;>intro sZ
 refine a8 (bY (kp [(11,13),(39,65)] (λρ w=> ∃f2:Bool,Kn ρ [(11,.bool f2)]/\H r w ((ah wb (bj x) 49)::(some x.cb,C [.slice na nn nc,af at_] 38)::L)/\(f2=true-> ∃l,lo=some l/\ ∀s,s<j+1->0<aa Cs s 0->0<aa l s 0)) ?_ ?_))
 refine g_ 3 ?_;refine ak (da J J q1.1 I) (aX h J (om q1.2.2 I) ?_);refine g_ 6 ?_;refine xG (t:=43) J (λVE=>?_) (λVE=>?_)
 refine g_ 3 ?_;refine eM (t:=46) J (λaEx=>?_) (λaEx=>?_)
 refine g_ 8 ?_;refine gH J J J J (gH J J J J (gH J J J J (gH J J J J (gH J J J J (gH J J J J (gH J J J J (gH J J J J (oF_ J J J (dI J J J (tJ J) J ?_)))))))));refine g_ 3 ?_;exact⟨aS,true,az,h,(λ_=>aZ (pB VE) (λl1 q=>⟨l1,q.1,amY q.2 (λe=>I)⟩))⟩
 refine g_ 8 ?_;refine eM (t:=54) J (λIB=>?_) (λIB=>?_)
 refine g_ 4 ?_;refine(pB VE).elim λl0 Q=>?_;rw[Q.1]at A;have aLl:=A.2.1;have hLl:=A.2.2.1.len;rw[cB]at hLl;refine lB (A.2.2.1.fp (show 0<W (l0.map af) by rw[cB];omega)) λpb2 pq2 lp2 Tp2 q2=>?_;refine gg q2.2.1 λip2 aLm=>?_;refine g_ 1 ?_;refine dI J J J (da J J q2.1 I) J (dI J J J (run_load h J (om q2.2.2 I)) J ?_);refine g_ 1 ?_;refine dI J J J (tJ J) J (dI J J J (wk J) J ?_);refine g_ 3 ?_;exact⟨aS,decide (0<aa l0 j 0),az,h,(λe=>⟨l0,Q.1,amY (aZ (pB VE) (λl1 q=>by have:=xC (q.1.symm.trans Q.1);rw[<-this];exact q.2)) (λ_=>tE e)⟩)⟩
 refine g_ 8 ?_;refine dI J J J (wk J) J (dI J J J (wk J) J ?_);refine g_ 3 ?_;exact⟨aS,false,az,h,(λe=>by cases e)⟩
 refine g_ 3 ?_;refine gH J J J J (gH J J J J (gH J J J J (gH J J J J (gH J J J J (gH J J J J (gH J J J J (gH J J J J (gH J J J J (gH J J J J (gH J J J J (gH J J J J (gH J J J J (gH J J J J ?_)))))))))))));refine gH J J J J (gH J J J J (gH J J J J ?_));refine g_ 4 ?_;exact⟨aS,false,az,h,(λe=>by cases e)⟩
 rintro ρ w ⟨f2,⟨Ph,rfl⟩,h,zM⟩;refine g_ 4 ?_;exact⟨aO 4,(j+1,f2),cQ,az,h,I,zM⟩
 have hjC:j=W Cs:=I;refine g_ 5 ?_;refine cW [(10,11),(14,15),(67,91)] (λρ w=> ∃l':List Nat,∃LG:Bool,∃gO:Option Addr,∃gk eI:Nat,∃to:Option Nat,∃m D:List UInt8,∃R:Nat,∃G:List aK,Kn ρ [(11,.bool LG),(14,.slice (aI to) (W m) R)]/\H r w (EB to m D::(ah wb (bj (mD x gO (W l') gk)) 49)::(some x.cb,C [.slice na nn nc,af eI] 38)::(G++L))/\(BB to m D R)/\(LG=true->lo=some l'/\m=[])/\(LG=false->LF l' m)/\(W m<=200)/\(vQ l')/\(iQ (G++L) (.slice gO (W l') gk) (l'.map af))/\(gO≠none)/\(∀s,0<aa Cs s 0->0<aa l' s 0)/\(eI<=at_+260)) ?_ ?_
 refine g_ 5 ?_;refine eM (t:=69) J (λRS=>?_) (λRS=>?_)
 refine g_ 4 ?_;refine jv J ?_;refine g_ 6 ?_;refine au J ?_ ?_<;>intro No
 refine g_ 5 ?_;exact⟨at_,x.la,x.ln,x.lc,[],I,.inl ⟨J,h⟩⟩
 refine g_ 8 ?_;replace h:=h.zz [1] 0;refine cJ (v1:=af 2) J J J (aH (lR (n:=2) (at_:=at_) h (hN.sub aP) I an) ?_);rintro e z ⟨ov,jG,rfl,nd,uf,h⟩;refine g_ 1 ?_;refine cJ J J J (aH (amt (acE:=decide (ov=1)) h (hC.sub aP) I (λs=>aM (hCb s) an) I) ?_);rintro e z ⟨xq,l1,rfl,Fw,h⟩;have oK:=Fw.g I;refine g_ 7 ?_;replace h:=h.zz [1,2] 0;refine cJ J J J ((amU (L:=(ah xq (ar af l1) 3)::L) (l:=l1) h (hN.sub (Sub.cons _ _)) I (Pw (T:=3)) oK.len oK.Lw oK.le).mono ?_);clear h;rintro e z ⟨gI,vP,hh⟩;refine aZ (amX hh) (λto1 eK=>aZ (eK) (λTB1 eJ=>aZ (eJ) (λTS1 fH=>aZ (fH) (λtc1 ht=>?_))));refine⟨_,ht.1,?_⟩;have h:=ht.2.1;clear hh;refine g_ 5 ?_;refine ak (acf J J) (aJ (eY J ?_ ?_))<;>intro GK
 exact am5
 exact am3
 refine g_ 1 ?_;refine dI J J J (k8 J) J ?_;refine g_ 2 ?_;refine eY J ?_ ?_<;>intro SF
 refine g_ 6 ?_;refine au J ?_ ?_<;>intro No
 refine g_ 5 ?_;exact⟨at_,x.la,x.ln,x.lc,[],I,.inl ⟨J,h⟩⟩
 refine g_ 8 ?_;replace h:=h.zz [1] 0;refine cJ (v1:=af 2) J J J (aH (lR (n:=2) (at_:=at_) h (hN.sub aP) I an) ?_);rintro e z ⟨ov,jG,rfl,nd,uf,h⟩;refine g_ 1 ?_;refine cJ J J J (aH (amt (acE:=decide (ov=1)) h (hC.sub aP) I (λs=>aM (hCb s) an) I) ?_);rintro e z ⟨xq,l1,rfl,Fw,h⟩;have oK:=Fw.g I;refine g_ 7 ?_;replace h:=h.zz [1,2] 0;refine cJ J J J ((amU (L:=(ah xq (ar af l1) 3)::L) (l:=l1) h (hN.sub (Sub.cons _ _)) I (Pw (T:=3)) oK.len oK.Lw oK.le).mono ?_);clear h;rintro e z ⟨gI,vP,hh⟩;refine aZ (amX hh) (λto1 eK=>aZ (eK) (λTB1 eJ=>aZ (eJ) (λTS1 fH=>aZ (fH) (λtc1 ht=>?_))));refine⟨_,ht.1,?_⟩;have h:=ht.2.1;clear hh;refine g_ 5 ?_;refine ak (acf J J) (aJ (eY J ?_ ?_))<;>intro GK
 exact am5
 exact am3
 refine(pB (FE SF)).elim λl0 Q=>?_;rw[Q.1]at A;rw[aEm A.2.1]at h;replace h:=h.ghost (C (ar u8 ([]++[])) 5);exact a8 ⟨aS,l0,fb,x.la,x.lc,at_,none,[],[],0,[],az,h,BB.none,(λ_=>⟨Q.1,J⟩),(λe=>by rw[FE SF]at e;cases e),cj _,A.2.2.2,A.2.1▸A.2.2.1,A.1,(λs hs=>Q.2 s (by rcases dq s j with e|e;exact e;rw[bX,gB I]at hs;exact absurd hs (vT 0)) hs),I⟩
 rintro ρ w ⟨l',LG,gO,gk,eI,to,m,D,R,G,⟨Pj,rfl⟩,h,LH,NT,Jf,JS,y,vK,mK,am6,Ab⟩;refine g_ 6 ?_;refine d' J J (aH (aDU (l:=l') h (vK.sub aP) y.len y.le (by have:=y.Lw;omega)) ?_);rintro e z ⟨bk,Cd,rfl,U,h⟩;have aEy:=aEn U y.len y.le;replace h:=h.amZ;have am7:iQ [(ah bk (ar af Cd) 3)] (cK bk (W Cd) (W l')) (Cd.map af):=(by have:=Pw (F:=[]) (b:=bk) (l:=Cd) (T:=3);rw[U.len]at this ⊢;exact this);have VF: ∀i,i<W T->(aa T i 0).toNat<W l'/\aa Cd (aa T i 0).toNat 0<=10000000:=λi hi=>aEy _ (am6 _ (hCT i hi));refine g_ 8 ?_;refine cW [(18,18),(99,112)] (λρ w=> ∃f4:Bool,∃u:Nat,Kn ρ [(18,.bool f4)]/\H r w (EB to m D::(ah wb (bj (mD x gO (W l') gk)) 49)::(some x.cb,C [.slice na nn nc,af u] 38)::((ah bk (ar af Cd) 3)::(G++L)))/\(f4=true->6<=W T)/\(u<=at_+261)) ?_ ?_
 refine g_ 4 ?_;refine eM (t:=101) J (λV=>?_) (λV=>?_)
 refine g_ 4 ?_;replace h:=h.zz [1,2] 0;refine xm (v1:=af 2) J J J J J J (aH (lR (n:=2) (at_:=eI) h (hN.sub aP) I an) ?_);rintro e z ⟨ov,u,rfl,nd,IC,h⟩;refine g_ 2 ?_;refine eM (t:=108) J (λaEz=>?_) (λaEz=>?_)
 refine g_ 2 ?_;refine dI J J J (tJ J) J ?_;refine g_ 3 ?_;replace h:=h.zz [1,2] 0;exact⟨aS,true,u,az,h,(λ_=>V),I⟩
 refine g_ 2 ?_;refine dI J J J (wk J) J ?_;refine g_ 3 ?_;replace h:=h.zz [1,2] 0;exact⟨aS,decide (1023<W T),u,az,h,(λ_=>V),I⟩
 refine g_ 7 ?_;refine gH J J J J (gH J J J J ?_);refine g_ 4 ?_;exact⟨aS,false,eI,az,h,(λe=>by cases e),I⟩
 rintro ρ w ⟨f4,u,⟨Vj,rfl⟩,h,Km,IC⟩;refine g_ 4 ?_;refine ak (nS (b:=4) (h2:=av.lit _) J J an aG) ?_;refine ee (aJ (cW [(18,18),(116,123)] (λρ w=> ∃f5:Bool,Kn ρ [(18,.bool f5)]/\H r w (EB to m D::(ah wb (bj (mD x gO (W l') gk)) 49)::(some x.cb,C [.slice na nn nc,af u] 38)::((ah bk (ar af Cd) 3)::(G++L)))/\(f5=true->6<=W T/\1<=W T-3*((W T+3)/4))) ?_ ?_))
 refine g_ 4 ?_;refine xG (t:=117) J (λam8=>?_) (λam8=>?_)
 refine g_ 2 ?_;refine dI J J J (BQ (a:=3) (h1:=av.lit _) J J aG) J (dI J J J (pU J J I I) J (dI J J J (rR (v:=1) J J) J ?_));refine g_ 2 ?_;refine au J ?_ ?_<;>intro J1
 refine g_ 3 ?_;exact⟨aS,false,az,h,(λe=>by cases e)⟩
 exact a8 ⟨aS,f4,az,h,(λe=>⟨Km e,I⟩)⟩
 refine g_ 7 ?_;exact gK J (a8 ⟨aS,f4,az,h,(λe=>by rw[am8]at e;cases e)⟩)
 rintro ρ w ⟨f5,⟨Vk,rfl⟩,h,Hu⟩;refine cW [(10,10),(124,129)] (λρ w=>Kn ρ []/\H r w (EB to m D::(ah wb (bj (mD x gO (W l') gk)) 49)::(some x.cb,C [.slice na nn nc,af u] 38)::((ah bk (ar af Cd) 3)::(G++L)))/\(f5=false->W T<=1023)) ?_ ?_
 refine g_ 3 ?_;refine ak (k8 J) (dg (xG (t:=126) J (λVG=>?_) (λVG=>?_)))
 refine g_ 4 ?_;refine au J ?_ ?_<;>intro q8
 refine g_ 5 ?_;exact⟨u,gO,W l',gk,(ah bk (ar af Cd) 3)::G,I,.inl ⟨J,h.tail⟩⟩
 exact a8 ⟨aS,az,h,(λ_=>I)⟩
 refine g_ 4 ?_;exact gK J (a8 ⟨aS,az,h,(λe=>by rw[FE VG]at e;cases e)⟩)
 rintro ρ w ⟨⟨Vl,rfl⟩,h,hf6⟩;refine g_ 4 ?_;refine cW [(10,10),(20,23),(25,25),(130,177)] (λρ w=> ∃Pz:Option Nat,∃o VH:List UInt8,∃Z:Nat,∃G5:List aK,Kn ρ [(20,.slice (aI Pz) (W o) Z)]/\H r w (EB Pz o VH::EB to m D::(ah wb (bj (mD x gO (W l') gk)) 49)::(some x.cb,C [.slice na nn nc,af u] 38)::(G5++((ah bk (ar af Cd) 3)::(G++L))))/\(BB Pz o VH Z)/\(f5=false->o=gU l' Cd T)/\(f5=true->(∀i,i<4->W (gU l' Cd (eG T i))<=65535)/\o=mU l' Cd T 3++rF l' Cd T 4)/\(W o<=1100000)) ?_ ?_
 refine g_ 4 ?_;refine eY J ?_ ?_<;>intro Kp
 have am9:=Hu Kp;refine cM ((W T+3)/4) λea VI=>(bY (fD (eN h J ?_)));intro bA w h;refine g_ 7 ?_;refine cw (σ:=Nat×List Value×List aK) [(22,22),(131,150)] (λ⟨i,vs,E⟩ ρ w=>Kn ρ [(131,af i)]/\H r w ((ah bA (vs) 135)::EB to m D::(ah wb (bj (mD x gO (W l') gk)) 49)::(some x.cb,C [.slice na nn nc,af u] 38)::(E++((ah bk (ar af Cd) 3)::(G++L))))/\(i<=4)/\(VC E vs l' Cd T i)) (λ⟨i,vs,E⟩=>4-i) (0,[.slice none 0 0,.slice none 0 0,.slice none 0 0,.slice none 0 0],[]) ⟨az,h,I,J,λj hj=>absurd hj (ma _)⟩ ?_;rintro⟨i,vs,E⟩ ρ w ⟨⟨acB,rfl⟩,h,hi,LJ⟩;refine g_ 5 ?_;refine au J ?_ ?_<;>intro O'
 have heb:=aEq (n:=W T) (i:=i) I am9.2;have hTi:=aEp (i:=i) hT (aM heb.1 (WT _ _));rw[VI]at hTi;have fX:= @Px T i;rw[VI]at heb fX am9;have aLn:i*ea<=200000:=I;have aLo:(i+1)*ea<=200000:=I;have hpT:W (eG T i)<=W T:=I;refine g_ 14 ?_;refine ak (am2 VI J J aG) ?_;refine g_ 3 ?_;refine ak (am2 VI J J aG) (dg (ak (Ao J J) (ak (wm J J J heb.1 I) (dg (eS (v0:=bL wb) (v1:= .slice (cut ta tc (i*ea) 1) (W (eG T i)) (tc-i*ea)) (v2:=cK bk (W Cd) (W l')) J (gS J fX.symm) (gS J U.len.symm) J (aH (amy (x:=(mD x gO (W l') gk)) (l:=l') (Cd:=Cd) (T:=eG T i) h (aA (aA bZ)) (vK.sub aP) (am7.sub (λ_ hh=>aA (aA (aA (aA (fM _ (by rcases jT.1 hh with rfl;exact fQ ..))))))) (hTi.sub aP) U.len I (λk K=>by rw[(VA K).2];exact(VF _ (VA K).1).1) y.le (λk K=>by rw[(VA K).2];exact(VF _ (VA K).1).2)) ?_))))));rintro e z ⟨bd,rfl,h⟩;replace h:=h.aEo;refine g_ 1 ?_;refine dt (cK bd (W (gU l' Cd (eG T i))) (W (gU l' Cd (eG T i)))) (gW (show i<W vs by rw[LJ.1];omega)) ?_;intro w h;refine g_ 5 ?_;exact⟨aO 22,(i+1,vs.set i (cK bd (W (gU l' Cd (eG T i))) (W (gU l' Cd (eG T i)))),EB (some bd) (gU l' Cd (eG T i)) []::E),cQ,az,h,I,LJ.step I⟩
 have hi4:i=4:=I;rw[hi4]at LJ;have vm:=LJ.1;have am_: ∀j,W (gU l' Cd (eG T j))<=2*W T+1:=λj=>aEr y.le;replace h:=h.ghost (C (ar u8 (mU l' Cd T 0++[])) 5);refine g_ 7 ?_;refine cw (σ:=Nat×Option Nat×List UInt8×Nat) [(20,20),(23,23),(151,162)] (λ⟨k,O,SS,sc⟩ ρ w=>Kn ρ [(151,af k),(20,.slice (aI O) (W (mU l' Cd T k)) sc)]/\H r w (EB O (mU l' Cd T k) SS::(ah bA (vs) 135)::EB to m D::(ah wb (bj (mD x gO (W l') gk)) 49)::(some x.cb,C [.slice na nn nc,af u] 38)::(E++((ah bk (ar af Cd) 3)::(G++L))))/\(k<=3)/\(BB O (mU l' Cd T k) SS sc)) (λ⟨k,O,SS,sc⟩=>3-k) (0,none,[],0) ⟨az,h,I,BB.none⟩ ?_;rintro⟨k,O,SS,sc⟩ ρ w ⟨⟨aDV,rfl⟩,h,mP,hSB⟩;refine g_ 5 ?_;refine au J ?_ ?_<;>intro ais
 refine B9 (LJ.2 k I) λva vn vc q2=>?_;have OQ:=q2.2.len.1;have Dt:=am_ k;refine g_ 12 ?_;refine ak (run_load h J q2.1) ?_;refine g_ 2 ?_;refine cJ (v1:=af 2) J J J (aH (rE (x:=vn) (k:=2) h I an) ?_);rintro e z ⟨oW,lS,mT,rfl,kY,h⟩;refine mC (X:=mU l' Cd T k) (Y:=bQ vn 2) (F:=[EB oW (bQ vn 2) lS]) h 1 J (gS J (cY vn 2).symm) J hSB (kY.sl) (λe he=>by rcases jT.1 he with rfl;exact fQ ..) (by rw[VB,cY];omega) J ?_;intro w so2 sc2 SS2 h am';dsimp only[bJ]at h;have hfh:mU l' Cd T k++bQ vn 2=mU l' Cd T (k+1):=(by rw[am1,OQ]);rw[hfh]at h am';replace h:=h.tail;refine g_ 6 ?_;exact⟨aO 14,(k+1,so2,SS2,sc2),cQ,Kn.mk ⟨J,(gS J (cD W hfh)),trivial⟩,h,I,am'⟩
 have aEA:k=3:=I;subst aEA;refine g_ 3 ?_;refine ak (jx vs h J (Rd.self _) vm) ?_;refine g_ 3 ?_;refine cw (σ:=Nat×Option Nat×List UInt8×Nat) [(10,10),(20,20),(25,25),(164,173)] (λ⟨j,LK,PA,PB⟩ ρ w=>Kn ρ [(164,af j),(20,.slice (aI LK) (W (mU l' Cd T 3++rF l' Cd T (j))) PB)]/\H r w (EB LK (mU l' Cd T 3++rF l' Cd T (j)) PA::(ah bA (vs) 135)::EB to m D::(ah wb (bj (mD x gO (W l') gk)) 49)::(some x.cb,C [.slice na nn nc,af u] 38)::(E++((ah bk (ar af Cd) 3)::(G++L))))/\(j<=4)/\(BB LK (mU l' Cd T 3++rF l' Cd T (j)) PA PB)/\(∀t,t<j->W (gU l' Cd (eG T t))<=65535)) (λ⟨j,LK,PA,PB⟩=>4-j) (0,O,SS,sc) ⟨(Kn.mk ⟨J,(gS J (by rw[show rF l' Cd T 0=[]from J,dN])),trivial⟩),(by show H r _ (EB O (mU l' Cd T 3++[]) SS::_);rw[dN];exact h),I,(by show BB O (mU l' Cd T 3++[]) SS sc;rw[dN];exact hSB),(λt ht=>absurd ht (ma _))⟩ ?_;rintro⟨j,LK,PA,PB⟩ ρ w ⟨⟨aDW,rfl⟩,h,hj4,ana,h65⟩;refine g_ 5 ?_;refine au J ?_ ?_<;>intro abj
 refine B9 (LJ.2 j I) λva vn vc q2=>?_;have OQ:=q2.2.len.1;have Dt:=am_ j;refine g_ 5 ?_;refine ak (aeE J J I q2.1) ?_;refine g_ 9 ?_;refine au J ?_ ?_<;>intro aLp
 refine g_ 5 ?_;exact⟨u,gO,W l',gk,E++(ah bk (ar af Cd) 3)::G,I,.inl ⟨J,h.tail.tail.tail.asc⟩⟩
 refine g_ 4 ?_;refine mC (X:=(mU l' Cd T 3++rF l' Cd T (j))) (Y:=gU l' Cd (eG T j)) (F:=E) h 0 J J J ana q2.2 (λe he=>aA (aA (aA (aA (aA (oA _ he)))))) (by have:= @acR l' Cd T y.le j;have h4:(2*W T+1)*j<=(2*W T+1)*4:=yP _ hj4;rw[aF,VB];omega) J ?_;intro w so4 sc4 SS4 h anb;dsimp only[bJ]at h;have NT:(mU l' Cd T 3++rF l' Cd T (j))++gU l' Cd (eG T j)=(mU l' Cd T 3++rF l' Cd T (j+1)):=(by rw[am0,bV]);rw[NT]at h anb;refine g_ 6 ?_;exact⟨aO 12,(j+1,so4,SS4,sc4),cQ,Kn.mk ⟨J,(gS J (cD W NT)),trivial⟩,h,I,anb,(λt ht=>by rcases xB.1 ht with hh|rfl;exact h65 t hh;rw[<-OQ];omega)⟩
 refine jl ?_;replace h:=h.zz [4,4,4,3,4] 1;exact⟨aO 12,LK,(mU l' Cd T 3++rF l' Cd T (j)),PA,PB,E,az,h,ana,(λe=>by rw[Kp]at e;cases e),(λ_=>⟨λt ht=>h65 t I,by rw[show j=4 by omega]⟩),(by have:= @acR l' Cd T y.le j;have h4:(2*W T+1)*j<=(2*W T+1)*4:=yP _ hj4;rw[aF,VB];omega)⟩
 refine g_ 4 ?_;refine eS (v0:=bL wb) (v1:= .slice ta (W T) tc) (v2:=cK bk (W Cd) (W l')) J J (gS J U.len.symm) J (aH (amy (x:=(mD x gO (W l') gk)) (l:=l') (Cd:=Cd) (T:=T) h (aA bZ) (vK.sub aP) (am7.sub (λ_ hh=>aA (aA (aA (by rcases jT.1 hh with rfl;exact fQ ..))))) (hT.sub aP) U.len I (λk K=>(VF k K).1) y.le (λk K=>(VF k K).2)) ?_);rintro e z ⟨bd,rfl,h⟩;exact ee (aJ ⟨aO 6,some bd,gU l' Cd T,[],W (gU l' Cd T),[],az,h,⟨by rw[dN],λe=>by cases e⟩,(λ_=>rfl),(λe=>by rw[Kp]at e;cases e),(by have:= @acQ l' Cd T y.le;omega)⟩)
 rintro ρ w ⟨Pz,o,VH,Z,G5,⟨aDX,rfl⟩,h,Be,aEB,anc,aLq⟩;refine g_ 4 ?_;refine mC (X:=m) (Y:=o) (F:=[EB Pz o VH]) h 1 J J J LH (Be.sl) (λe he=>by rcases jT.1 he with rfl;exact fQ ..) I J ?_;intro w VJ dc DS h hBD;dsimp only[bJ]at h;replace h:=h.tail;have kV:W (m++o)=W m+W o:=aF;refine g_ 6 ?_;refine cW [(27,27),(181,187)] (λρ w=> ∃form mV:Nat,Kn ρ [(27,af form)]/\H r w (EB VJ (m++o) DS::(ah wb (bj (mD x gO (W l') gk)) 49)::(some x.cb,C [.slice na nn nc,af mV] 38)::(G5++((ah bk (ar af Cd) 3)::(G++L))))/\(f5=true->1<=form)/\(f5=false->form=0)/\(form<=3)/\(mV<=at_+262)) ?_ ?_
 refine g_ 4 ?_;refine eY J ?_ ?_<;>intro ane
 refine g_ 5 ?_;replace h:=h.zz [1,2] 0;refine cJ (v1:=af 3) J J J (aH (lR (n:=3) (at_:=u) h (hN.sub aP) I an) ?_);rintro e z ⟨ov,mV,rfl,nd,PC,h⟩;refine g_ 3 ?_;replace h:=h.zz [1,2] 0;exact⟨aO 8,1+ov,mV,az,h,(λ_=>I),(λe=>by rw[ane]at e;cases e),I,I⟩
 exact a8 ⟨aO 1,0,u,az,h,(λe=>by rw[ane]at e;cases e),(λ_=>rfl),I,I⟩
 rintro ρ w ⟨form,mV,⟨aDY,rfl⟩,h,aEC,aED,aLr,PC⟩;refine bY (Al (cw (σ:=Nat) [(10,10),(27,27),(188,204)] (λp ρ w=>Kn ρ [(27,af p)]/\H r w (EB VJ (m++o) DS::(ah wb (bj (mD x gO (W l') gk)) 49)::(some x.cb,C [.slice na nn nc,af mV] 38)::(G5++((ah bk (ar af Cd) 3)::(G++L))))/\(f5=true->1<=p)/\(f5=false->p=0)/\(p<=3)) (λp=>4-p) (form) ⟨az,h,aEC,aED,I⟩ ?_));rintro p ρ w ⟨⟨aDZ,rfl⟩,h,aEE,aEF,anf⟩;refine g_ 6 ?_;refine ak (Mx J J) (Jt J J J J (uL _ _ _ _) h ?_);intro bq w h;refine g_ 2 ?_;refine aX h J (ud (a:=1024) (b:=1024) (c:=16384) (d:=262144) I) ?_;refine g_ 2 ?_;refine au J ?_ ?_<;>intro aEG
 refine g_ 11 ?_;refine ak (k8 J) (dg (xG (t:=201) J (λacT=>?_) (λacT=>?_)))
 refine g_ 4 ?_;refine jv J ?_;exact am4
 refine g_ 4 ?_;refine au J ?_ ?_<;>intro aLs
 exact am4
 refine a8 ?_;replace h:=h.tail;(try dsimp only[dX]at h);exact⟨aS,p+1,cQ,az,h,(λ_=>Nat.succ_le_succ (cj _)),(λe=>by rw[e]at acT;cases acT),I⟩
 refine g_ 5 ?_;refine cW [(28,28),(205,205)] (λρ w=> ∃hd:Nat,Kn ρ [(28,af hd)]/\H r w (EB VJ (m++o) DS::(ah wb (bj (mD x gO (W l') gk)) 49)::(some x.cb,C [.slice na nn nc,af mV] 38)::(G5++((ah bk (ar af Cd) 3)::(G++L))))/\(hd=if LG=true then 3 else 2)) ?_ ?_
 refine g_ 4 ?_;refine eY J ?_ ?_<;>intro SG
 refine g_ 3 ?_;replace h:=h.tail;(try dsimp only[dX]at h);exact⟨aO 2,3,az,h,(by rw[SG];rfl)⟩
 refine a8 ?_;replace h:=h.tail;(try dsimp only[dX]at h);exact⟨aO 1,2,az,h,(by rw[SG];rfl)⟩
 rintro ρ w ⟨hd,⟨aLt,rfl⟩,h,jM⟩;refine bY (fD (Jt J J J J (uL _ _ _ _) h ?_));intro bq w h;refine g_ 2 ?_;refine aX h J (ud (a:=10) (b:=10) (c:=14) (d:=18) I) ?_;have M:=aEs (n:=W T) (d:=W (m++o)) (f:=p) (hd:=hd) anf (by rw[jM];split<;>omega) aEG;have eJ:=M.2.2.2.1;have yc:=M.2.2.2.2.2.2.1;have tj:=M.2.2.2.2.2.2.2.1;have hx9:=M.2.2.2.2.2.2.2.2;refine g_ 3 ?_;refine cm h [0,4,8,12,16,20,24,28,32,36,40,44,48,52,56,64,80,62,68,73,79,87,88] ?_;intro w h;refine aC 4 ?_;refine aD J (eR (a:=4) (b:=qM p) (h1:=av.lit _) (h2:=⟨J⟩) J J aG) (aD J (eB (a:=W (m++o)) (b:=4+qM p) J J dQ (aM tj (fS J))) ?_);refine lx J (aD J (eB (b:=4) (h2:=av.lit _) J J dQ aG) ?_);refine lx J (aD J (eB (b:=2) (h2:=av.lit _) J J dQ aG) ?_);refine aD J (cG (fq J J aG aG) M.1) (lx J (aD J (cG (fq J J aG aG) M.2.1) ?_));refine aC 1 ?_;refine aD J (cG (fq J J (aM tj (fS J)) aG) M.2.2.1) ?_;refine aC 2 ?_;refine Eh J J J J J (uL _ _ _ _) h ?_;intro bq w h;refine aC 1 ?_;refine aQ J h J (ud (a:=3) (b:=3) (c:=4) (d:=5) I) (lW J J J J (aH (rE (x:=(W (m++o)*2^(4+qM p)+(W T*16+p*4+hd))) (k:=uy p) h (aM (Nat.add_le_add tj yc) (fS J)) I) ?_));rintro e z ⟨oW,lS,mT,rfl,kY,h⟩;refine Ln (X:=bQ (W (m++o)*2^(4+qM p)+(W T*16+p*4+hd)) (uy p)) (Y:=m++o) (F:=[EB VJ (m++o) DS]) J h 0 (gS J (cY _ _).symm) J J kY (hBD.sl) (λe he=>by rcases jT.1 he with rfl;exact aA (aA (aA bZ))) (by rw[cY];omega) J ?_;intro w oz cz SZ h uz;dsimp only[bJ]at h;refine fG J (cO (ju (⟨mV,gO,W l',gk,G5++(ah bk (ar af Cd) 3)::G,I,.inr ⟨oz,bQ (W (m++o)*2^(4+qM p)+(W T*16+p*4+hd)) (uy p)++(m++o),SZ,cz,l',J,aEv uz (by rw[aF,cY];omega),uz,⟨mK,J,vK.sub aEu,y⟩,?_,by rw[aF,cY];omega,h.amZ.tail.tail.tail.aEt⟩⟩)));exact⟨m,o,Cd,LG,f5,p,NT,Jf,y,U,λi hi=>am6 _ (hCT i hi),λe=>⟨aEF e,hf6 e,aEB e⟩,λe=>⟨aEE e,anf,(Hu e).1,(Hu e).2,(anc e).1,(anc e).2⟩,M.2.2.2.2.1,M.2.2.2.2.2.1,by rw[jM]⟩
def Du(c:List Nat)(y:UInt8):List Nat:=c.set y.toNat (aa c y.toNat 0+1)
def nj(T:List UInt8)(j:Nat):List Nat:=(T.take j).foldl Du (aT 256 0)
def VK(h:j<W T):nj T (j+1)=Du (nj T j) (aa T j 0):=by
 unfold nj;have:T.take (j+1)=T.take j++[aa T j 0]:=(by rw[List.take_add_one,bX,gW h];rfl);rw[this,Qc];rfl
def aEH{c:List Nat}{y:UInt8}:W (Du c y)=W c:=by unfold Du;rw[dW]
def aEI{X:List UInt8}: ∀{c:List Nat},W (X.foldl Du c)=W c:=by
 induction X with
 |nil=>intro c;rfl
 |cons y X a=>intro c;rw[Mf,a,aEH]
def PD{T:List UInt8}{j:Nat}:W (nj T j)=256:=by unfold nj;rw[aEI,dS]
def acU{c:List Nat}{y:UInt8}{s:Nat}(a:W c=256):aa (Du c y) s 0=if s=y.toNat then aa c s 0+1 else aa c s 0:=by
 unfold Du;have b:y.toNat<256:=y.toNat_lt;rw[bX,vV];by_cases e:y.toNat=s
 subst e;rw[ao J,ao I,ao J];rfl
 rw[aj e,aj (λh=>e h.symm),<-bX]
def acV{T:List UInt8}{j:Nat}(h:j<=W T)(s:Nat):aa (nj T j) s 0<=j:=by
 induction j with
 | zero=>
   show(aT 256 0).getD s 0<=0
   rw[bX,rK];split<;>simp
 | succ j a=>
   rw[VK I,acU PD]
   have:=a I
   split<;>omega
def acW(h:j<=W T)(hi:i<j):0<aa (nj T j) (aa T i 0).toNat 0:=by
 induction j with
 |zero=>omega
 | succ j a=>
   rw[VK I,acU PD]
   rcases xB.1 hi with b|rfl
   . have:=a I b
     split<;>omega
   . rw[ao J];omega
def ang{c:List Nat}{y:UInt8}(f:W c=256): ∀n,W (dj (Du c y) n)=W (dj c n)+if aa c y.toNat 0=0/\y.toNat<n then 1 else 0
 |0=>by simp[dj]
 | n+1=>by
  have d:=ang (y:=y) f n;have e:= @acU c y n f;by_cases b:n=y.toNat
  have h1:0<aa (Du c y) n 0:=(by rw[e,ao b];omega);rw[Lt h1,aF,d,aj I];by_cases a:0<aa c n 0
  rw[Lt a,aF,aj (by rw[<-b];omega)];rfl
  rw[Lu a,ao (by rw[<-b];omega)];rfl
  rw[aj b]at e;by_cases a:0<aa c n 0
  rw[Lt a,Lt (by rw[e];exact a),aF,aF,d];have:(aa c y.toNat 0=0/\y.toNat<n)↔(aa c y.toNat 0=0/\y.toNat<n+1):=I;simp only[this];omega
  rw[Lu a,Lu (by rw[e];exact a),d];have:(aa c y.toNat 0=0/\y.toNat<n)↔(aa c y.toNat 0=0/\y.toNat<n+1):=I;simp only[this]
def tw(T:List UInt8)(j:Nat):Nat:=W (dj (nj T j) 256)
def anh:tw T 0=0:=by
 unfold tw;rw[k7,WI];intro s hs;have:=(Lv.1 hs).2;have h2:= @acV T 0 (cj _) s;omega
def aEJ(h:j<W T):tw T (j+1)=tw T j+if(nj T j).getD (aa T j 0).toNat 0=0 then 1 else 0:=by
 unfold tw;rw[VK h,ang PD];have a:(aa T j 0).toNat<256:=(aa T j 0).toNat_lt;congr 1;(split<;>split<;>first|rfl|omega)
def ani{T:List UInt8}{j:Nat}:tw T j<=256:=Vn _ _
def anj(h:tw T (W T)=1){i:Nat}(hi:i<W T):aa T i 0=aa T 0 0:=by
 have h1:=acW (T:=T) (aW _) hi;have h2:=acW (T:=T) (i:=0) (aW _) I;have b:(aa T i 0).toNat∈dj (nj T (W T)) 256:=Lv.2 ⟨(aa T i 0).toNat_lt,h1⟩;have c:(aa T 0 0).toNat∈dj (nj T (W T)) 256:=Lv.2 ⟨(aa T 0 0).toNat_lt,h2⟩;unfold tw at h;obtain⟨a,d⟩:=List.length_eq_one_iff.1 h;rw[d]at b c;exact Mo.1 ((jT.1 b).trans (jT.1 c).symm)
variable {f nc nn wb:Nat}{na:Option Addr}
def PE(f:Nat):Nat:=[32,4096,1048576].getD f 0
def qe(f:Nat):Nat:=[1,2,3].getD f 0
def jr(f:Nat):Nat:=[3,4,4].getD f 0
def jH(f:Nat):Nat:=[0,1,3].getD f 0
def acX(lo js:Option (List Nat))(T B:List UInt8):Prop:=(∃l',js=some l'/\Pv lo l' T B)\/
 (js=lo/\ ∃f,f<=2/\W T<PE f/\((0<W T/\(∀i,i<W T->aa T i 0=aa T 0 0)/\B=bQ (W T*2^jr f+jH f*4+1) (qe f)++[aa T 0 0])\/B=bQ (W T*2^jr f+jH f*4) (qe f)++T))
def aY.fp{ad:Option Addr}{X:List UInt8}(h:aY F (.slice ad n c) X)(a:0<n): ∃b q l T,ad=some ⟨b,q,none⟩/\(ah b l T)∈F/\Rd l q (X.map u8):=by
 obtain⟨_,_,_,e1,_,_,d⟩:=h;cases e1;exact d a
def aEK(a:f<=2)(b:n<=131072)(h:[32,4096,1048576].getD f 0<=n):f+1<=2:=by
 rcases(I:f=0\/f=1\/f=2)with rfl|rfl|rfl
 decide
 decide
 exact absurd h (by show ¬1048576<=n;omega)
def aEL(a:f<=2)(b:n<=131072):n*2^jr f|||jH f*2^2=n*2^jr f+jH f*4/\n*2^jr f+jH f*4|||1=n*2^jr f+jH f*4+1/\n*2^jr f<=2097152/\jr f<=4/\jH f<=3/\qe f<=3/\n*2^jr f+jH f*4<=3000000/\n*2^jr f+jH f*4+1<=3000000:=by
 rcases(I:f=0\/f=1\/f=2)with rfl|rfl|rfl
 have h1:= @xD 3 0 I n;have h2:= @xD 1 1 I (n*4);simp only[jr,jH,qe,pS,qh];refine⟨by rw[im n];simp,?_,I,I,I,I,I,I⟩;rw[show n*2^3+0*4=2^1*(n*4) by omega];exact h2.symm
 have h1:= @xD 4 4 I n;have h2:= @xD 1 1 I (n*8+2);simp only[jr,jH,qe,pS,qh];refine⟨by rw[im n];exact h1.symm,?_,I,I,I,I,I,I⟩;rw[show n*2^4+1*4=2^1*(n*8+2) by omega];exact h2.symm
 have h1:= @xD 4 12 I n;have h2:= @xD 1 1 I (n*8+6);simp only[jr,jH,qe,pS,qh];refine⟨by rw[im n];exact h1.symm,?_,I,I,I,I,I,I⟩;rw[show n*2^4+3*4=2^1*(n*8+6) by omega];exact h2.symm
def H.aEM(h:H r w (e0::e1::e2::L)):H r w (e1::e2::e0::L):=(h.mv 2).mv 2
def aEN(n:Nat):aT n (Value.int .i64 ((0:Nat):Int))=ar af (aT n 0):=by rw[xz]
def aEO{e:Ending}{na_:Nat}{at_:Nat}(g: ∃at' a b d G,at'<=at_+270/\((e= .returned (.slice none 0 0)/\H r w ((ah wb (bj (mD x a b d)) 49)::(some x.cb,C [.slice na nn nc,af at'] 38)::(G++L)))\/(∃ob B S c l',e= .returned (.slice (aI ob) (W B) c)/\ob≠none/\BB ob B S c/\nK (G++L) (mD x a b d) (some l')/\Pv lo l' T B/\W B<=270000/\H r w (EB ob B S::(ah wb (bj (mD x a b d)) 49)::(some x.cb,C [.slice na nn nc,af at'] 38)::(G++L))))): ∃ob B S c l' at' a b d G,e= .returned (.slice (aI ob) (W B) c)/\at'<=at_+270/\BB ob B S c/\W B<=270000/\(ob≠none->nK (G++L) (mD x a b d) (some l')/\Pv lo l' T B)/\H r w (EB ob B S::(ah wb (bj (mD x a b d)) 49)::(some x.cb,C [.slice na nn nc,af at'] 38)::(G++L)):=by
 obtain⟨at',a,b,d,G,h1,⟨h2,f⟩| ⟨ob,B,S,c,l',h2,f,h,i,j,k,l⟩⟩:=g
 exact⟨none,[],[],0,[],at',a,b,d,G,h2,h1,BB.none,cj _,λe=>absurd J e,f.ghost _⟩
 exact⟨ob,B,S,c,l',at',a,b,d,G,h2,h1,h,k,λ_=>⟨i,j⟩,l⟩
def aEP{a:Option Addr}:(bj (mD x a n c)).set 4 (.slice x.la x.ln x.lc)=bj x:=rfl
def H.as2{G:List aK}(h:H r w (e1::e2::(G++(K::L)))):H r w (e1::e2::((G++[K])++L)):=by
 rw[bV];exact h
def H.as3{G:List aK}(h:H r w (e0::e1::e2::(G++(K::L)))):H r w (e0::e1::e2::((G++[K])++L)):=by
 rw[bV];exact h
def aEQ{G:List aK}:Sub (G++(K::L)) ((G++[K])++L):=λe he=>by rw[bV];exact he
def aER(e:j=W T)(h:tw T j=1):tw T (W T)=1:=by rw[<-e];exact h
def aES(h:tw T (W T)=1):0<W T:=by
 rcases pd (W T) with e|e
 rw[e,anh]at h;cases h
 exact e
def ID{b:Nat}{y:UInt8}{T:TT}:aY ((ah b [u8 y] T)::F) (cK b 1 1) [y]:=
 ⟨_,_,_,J,J,aW _,λ_=>⟨b,0,_,_,J,fQ ..,Rd.self _⟩⟩
def ank(h:p:=by rintro e w1 ⟨oW,lS,mT,rfl,kY,h⟩;refine Ln (X:=bQ (W T*2^jr fo+jH fo*4+1) (qe fo)) (Y:=[aa T 0 0]) (F:=[(ah bz [u8 (aa T 0 0)] 5)]) J h 0 (gS J (cY _ _).symm) J J kY ID xI (by rw[cY];simp only[dL,eW];omega) J ?_;intro w oz cz SZ h uz;dsimp only[bJ]at h;refine fG J (cO (ju ?_));replace h:=h.zz [7,7,2,7,7,7,7,7] 5;exact⟨kF,x.la,x.ln,x.lc,lo,G4,oz,_,SZ,cz,J,I,uz,rG.sub (yp G4),.inr ⟨J,fo,m6,xy gw,.inl ⟨Kr,λi hi=>anj PF hi,J⟩⟩,by rw[aF,cY];simp only[dL,eW];omega,h⟩):p:=h
def anl(h:p:=by intro bz w h;refine Ln (X:=bQ (W T*2^jr fo+jH fo*4+1) (qe fo)) (Y:=[aa T 0 0]) (F:=[(ah bz [u8 (aa T 0 0)] 5)]) J h 1 (gS J (cY _ _).symm) J J kY ID xI (by rw[cY];simp only[dL,eW];omega) J ?_;intro w oz cz SZ h uz;dsimp only[bJ]at h;refine fG J (cO (ju ?_));replace h:=h.zz [7,7,3,7,7,7,7,7] 5;exact⟨kF,x.la,x.ln,x.lc,lo,G4,oz,_,SZ,cz,J,I,uz,rG.sub (yp G4),.inr ⟨J,fo,m6,xy gw,.inl ⟨Kr,λi hi=>anj PF hi,J⟩⟩,by rw[aF,cY];simp only[dL,eW];omega,h⟩):p:=h
def anm(h:p:=by refine aD J (cG (fq J J (aM gN (fS J)) aG) kZ.1) (aD J (eZ J (aM fj (fS J))) (lW J J J J (aH (rE (x:=(W T*2^jr fo+jH fo*4)) (k:=qe fo) h (aM fj (fS J)) I) ?_)));rintro e w1 ⟨oW,lS,mT,rfl,kY,h⟩;refine Ln (X:=bQ (W T*2^jr fo+jH fo*4) (qe fo)) (Y:=T) (F:=L) J h 0 (gS J (cY _ _).symm) J J kY hT (λe he=>by repeat first|exact fM _ he|apply nq) (by rw[cY];omega) J ?_;intro w oz cz SZ h uz;dsimp only[bJ]at h;refine fG J (cO (ju ?_));replace h:=h.zz [6,6,2,6,6,6,6] 4;exact⟨kF,x.la,x.ln,x.lc,lo,G4,oz,_,SZ,cz,J,I,uz,rG.sub (yp G4),.inr ⟨J,fo,m6,xy gw,.inr J⟩,by rw[aF,cY];omega,h⟩):p:=h
def ann(h:p:=by refine aD J (cG (fq J J (aM gN (fS J)) aG) kZ.1) (aD J (cG (fq (b:=1) (h2:=av.lit _) J J (aM fj (fS J)) an) kZ.2.1) ?_);refine aD J (eZ J (aM fW (fS J))) (lW J J J J (aH (rE (x:=(W T*2^jr fo+jH fo*4+1)) (k:=qe fo) h (aM fW (fS J)) I) ?_));exact ank):p:=h
def LL(h:p:=by · refine lW J J J J (aH (rE (x:=(W T*2^jr fo+jH fo*4+1)) (k:=qe fo) h (aM fW (fS J)) I) ?_);rintro e w1 ⟨oW,lS,mT,rfl,kY,h⟩;refine ld J J (ly _) h ?_;exact anl):p:=h
def LM(h:p:=by refine ld J J (ly _) h ?_;intro bz w h;refine lW J J J J (aH (rE (x:=(W T*2^jr fo+jH fo*4+1)) (k:=qe fo) h (aM fW (fS J)) I) ?_);exact ank):p:=h
def acY(h:p:=by refine qo J J J J (lX _ _ _) h ?_;intro bq w h;refine aC 1 ?_;refine aQ J h J (m7 (a:=3) (b:=4) (c:=4) I) (aD J (eB (a:=W T) (b:=jr fo) (h2:=⟨J⟩) J J dQ (aM gN (fS J))) ?_);exact ann):p:=h
def ano(h:p:=by · refine qo J J J J (lX _ _ _) h ?_;intro bq w h;refine aC 1 ?_;refine aQ J h J (m7 (a:=3) (b:=4) (c:=4) I) (aD J (eB (a:=W T) (b:=jr fo) (h2:=⟨J⟩) J J dQ (aM gN (fS J))) ?_);refine qo J J J J (lX _ _ _) h ?_;intro bq w h;refine aC 1 ?_;refine aQ J h J (m7 (a:=0) (b:=1) (c:=3) I) (aD J (eB (a:=jH fo) (b:=2) (h1:=⟨J⟩) (h2:=av.lit _) J J dQ aG) ?_);exact anm):p:=h
def anp(h:p:=by refine qo J J J J (lX _ _ _) h ?_;intro bq w h;refine aC 1 ?_;refine aQ J h J (m7 (a:=0) (b:=1) (c:=3) I) (aD J (eB (a:=jH fo) (b:=2) (h1:=⟨J⟩) (h2:=av.lit _) J J dQ aG) ?_);refine qo J J J J (lX _ _ _) h ?_;intro bq w h;refine aC 1 ?_;refine aQ J h J (m7 (a:=3) (b:=4) (c:=4) I) (aD J (eB (a:=W T) (b:=jr fo) (h2:=⟨J⟩) J J dQ (aM gN (fS J))) ?_);exact anm):p:=h
def acZ(h:p:=by refine qo J J J J (lX _ _ _) h ?_;intro bq w h;refine aC 1 ?_;refine aQ J h J (m7 (a:=0) (b:=1) (c:=3) I) (aD J (eB (a:=jH fo) (b:=2) (h1:=⟨J⟩) (h2:=av.lit _) J J dQ aG) ?_);exact ann):p:=h
def anq(h:p:=by · refine lW J J J J (aH (rE (x:=(W T*2^jr fo+jH fo*4+1)) (k:=qe fo) h (aM fW (fS J)) I) ?_);rintro e w1 ⟨oW,lS,mT,rfl,kY,h⟩;refine aQ J h J (kf q1.2.2 I) (ld J J (ly _) h ?_);exact anl):p:=h
def anr(h:p:=by replace h:=h.zz [1] 0;exact⟨aS,eI,[(ah bA (ar af (nj T (W T))) 110)],az,h,I⟩):p:=h
def aET{at_:Nat}{N:List Int}(h:H r w ((ah wb (bj x) 49)::(some x.cb,C [.slice na nn nc,af at_] 38)::L))(hN:og L (.slice na nn nc) N)(jU:at_<=1152921504606000000)(hT:aY L (.slice ta (W T) tc) T)(q:W T<=131072)(rG:nK L x lo):Calls PP 28 #[bL wb,.slice ta (W T) tc] w λe w'=> ∃at' E K M js G ob B S c,e= .returned (.slice (aI ob) (W B) c)/\at'<=at_+280/\BB ob B S c/\nK (G++L) (mD x E K M) js/\acX lo js T B/\W B<=270000/\H r w' (EB ob B S::(ah wb (bj (mD x E K M)) 49)::(some x.cb,C [.slice na nn nc,af at'] 38)::(G++L)):=by
 have Py:=hT.len.2;refine iI func28 ntmps28 [4] ?_;refine g_ 16 ?_;refine eN h J ?_;intro bA w h;refine g_ 6 ?_;have h0:H r w ((ah bA (ar af (nj T 0)) 110)::(ah wb (bj x) 49)::(some x.cb,C [.slice na nn nc,af at_] 38)::L):=(by rw[aEN]at h;exact h);refine g_ 3 ?_;refine cw (σ:=Nat) [(6,6),(9,9),(19,34)] (λj ρ w=>Kn ρ [(19,af j),(6,af (tw T j))]/\H r w ((ah bA (ar af (nj T j)) 110)::(ah wb (bj x) 49)::(some x.cb,C [.slice na nn nc,af at_] 38)::L)/\(j<=W T)) (λj=>W T-j) (0) ⟨(Kn.mk ⟨J,(ie anh.symm),trivial⟩),h0,I⟩ ?_;rintro j ρ w ⟨⟨LN,rfl⟩,h,hj⟩;refine g_ 5 ?_;refine au J ?_ ?_<;>intro Hf
 refine lB (hT.fp I) λpb pq lp Tp q1=>?_;refine gg q1.2.1 λip rC=>?_;have hyl:=(aa T j 0).toNat_lt;have o:= @PD T j;have jh:=VK (I:j<W T);have p:=aEJ (I:j<W T);have pE:=acV (I:j<=W T) (aa T j 0).toNat;have NL:= @ani T j;refine g_ 5 ?_;refine ak (da J J q1.1 I) (aX h J (kf q1.2.2 I) (ee (aJ (cW [(6,6),(23,28)] (λρ w=> ∃u:Nat,Kn ρ [(6,af u)]/\H r w ((ah bA (ar af (nj T j)) 110)::(ah wb (bj x) 49)::(some x.cb,C [.slice na nn nc,af at_] 38)::L)/\(u=tw T (j+1))) ?_ ?_))))
 refine g_ 4 ?_;refine aX h J (kq I) ?_;refine g_ 2 ?_;refine au J ?_ ?_<;>intro O
 refine g_ 5 ?_;exact⟨aO 7,tw T j+1,az,h,(by rw[p,ao O])⟩
 exact a8 ⟨aO 4,tw T j,az,h,(by rw[p,aj O];rfl)⟩
 rintro ρ w ⟨u,⟨LO,rfl⟩,h,hu⟩;refine g_ 3 ?_;refine aX h J (kq I) ?_;refine g_ 2 ?_;refine ir (v:=af (aa (nj T j) (aa T j 0).toNat 0+1)) h J (kq I) J J J ?_;intro w h;dsimp only[bJ]at h;rw[<-kH]at h;have e9:(nj T j).set (aa T j 0).toNat (aa (nj T j) (aa T j 0).toNat 0+1)=nj T (j+1):=jh.symm;rw[e9]at h;refine g_ 5 ?_;exact⟨aO 13,j+1,cQ,Kn.mk ⟨J,(ie hu),trivial⟩,h,I⟩
 have d:j=W T:=I;rw[d]at h;replace h:=h.aEM;have NL:= @ani T (W T);have o:= @PD T (W T);refine g_ 7 ?_;replace h:=h.zz [1] 0;refine cJ (v1:=af 5) J J J (aH (lR (n:=5) (at_:=at_) h (hN.sub aP) I an) ?_);rintro e w1 ⟨z,eI,rfl,nd,Ab,h⟩;refine ee (aJ (cW [(4,4),(11,12),(40,62)] (λρ w=> ∃y:Nat,∃G4:List aK,Kn ρ []/\H r w ((ah wb (bj x) 49)::(some x.cb,C [.slice na nn nc,af y] 38)::(G4++L))/\(y<=at_+275)) ?_ ?_))
 refine g_ 5 ?_;refine eM (t:=42) J (λVL=>?_) (λVL=>?_)
 refine g_ 4 ?_;refine au J ?_ ?_<;>intro EF
 refine g_ 13 ?_;refine ak (MC J) (dg (dg ?_));replace h:=h.zz [1] 0;refine D2 J J J J J J ?_;have A:iQ ((ah bA (ar af (nj T (W T))) 110)::L) (cK bA (W (nj T (W T))) 256) ((nj T (W T)).map af):=(by have:=Pw (F:=L) (b:=bA) (l:=nj T (W T)) (T:=110);rw[o]at this ⊢;exact this);have g:=aEw (lo:=lo) (used:=tw T j) (kind:=z) h (hN.sub (Sub.cons _ _)) I (hT.sub (Sub.cons _ _)) EF q A o (λs=>aM (acV (aW _) s) q) (λi hi=>acW (aW _) hi) (by rw[o,d];rfl) I (rG.sub (Sub.cons _ _));rw[o]at g;refine g.mono ?_;clear h g;rintro e w1 hh;refine aZ (aEO (na_:=0) hh) (λnw eK=>aZ (eK) (λB3 eJ=>aZ (eJ) (λS3 fH=>aZ (fH) (λc3 gN=>aZ (gN) (λl3 P=>aZ (P) (λQ R=>aZ (R) (λVM U=>aZ (U) (λVN yc=>aZ (yc) (λVO tj=>aZ (tj) (λG3 m=>?_))))))))));refine⟨_,m.1,?_⟩;have h:=m.2.2.2.2.2;have uf:=m.2.1;clear hh;refine g_ 5 ?_;refine ak (Ll J J) (aJ (eY J ?_ ?_))<;>intro GU
 refine g_ 6 ?_;have V:=m.2.2.2.2.1 (acO GU);exact⟨Q,VM,VN,VO,some l3,G3++[(ah bA (ar af (nj T (W T))) 110)],nw,B3,S3,c3,J,I,m.2.2.1,V.1.sub aEQ,.inl ⟨l3,J,V.2⟩,m.2.2.2.1,h.as3⟩
 refine g_ 6 ?_;refine iX (.slice x.la x.ln x.lc) ?_;intro w h;rw[aEP]at h;replace h:=h.tail.as2;exact aJ ⟨aS,Q,G3++[(ah bA (ar af (nj T (W T))) 110)],az,h,I⟩
 refine a8 ?_;exact anr
 refine g_ 4 ?_;refine gK J (a8 ?_);exact anr
 rintro ρ w ⟨y,G4,⟨LP,rfl⟩,h,vP⟩;refine g_ 6 ?_;replace h:=h.zz [1] 0;refine cJ (v1:=af 3) J J J (aH (lR (n:=3) (at_:=y) h (hN.sub aP) I an) ?_);rintro e w1 ⟨z,kF,rfl,nd,IC,h⟩;replace h:=h.zz [1] 0;refine g_ 4 ?_;refine cw (σ:=Nat) [(13,13),(68,75)] (λfo ρ w=>Kn ρ [(13,af fo)]/\H r w ((ah wb (bj x) 49)::(some x.cb,C [.slice na nn nc,af kF] 38)::(G4++L))/\(fo<=2)) (λfo=>3-fo) (z) ⟨az,h,I⟩ ?_;rintro fo ρ w ⟨⟨LQ,rfl⟩,h,m6⟩;refine g_ 4 ?_;refine B_ J J J (lX _ _ _) h ?_;intro bq w h;refine g_ 2 ?_;refine aX h J (m7 (a:=32) (b:=4096) (c:=1048576) I) ?_;refine g_ 2 ?_;refine au J ?_ ?_<;>intro Z
 have zM:=aEK m6 q Z;refine g_ 7 ?_;replace h:=h.tail;(try dsimp only[dX]at h);exact⟨aO 9,fo+1,cQ,az,h,I⟩
 refine g_ 3 ?_;refine B_ J J J (lX _ _ _) h ?_;intro bq w h;refine g_ 2 ?_;refine aX h J (m7 (a:=1) (b:=2) (c:=3) I) ?_;have kZ:=aEL (n:=W T) (f:=fo) m6 q;have gN:=kZ.2.2.1;have P:=kZ.2.2.2.1;have R:=kZ.2.2.2.2.1;have U:=kZ.2.2.2.2.2.1;have fj:=kZ.2.2.2.2.2.2.1;have fW:=kZ.2.2.2.2.2.2.2;have gw: ¬PE fo<=W T:=Z;refine g_ 8 ?_;refine eM (t:=82) J (λD=>?_) (λD=>?_)
 . refine g_ 4 ?_;refine au J ?_ ?_<;>intro E0
   . have PF:=aER d E0;have Kr:=aES PF;refine lB (hT.fp Kr) λpb pq lp Tp q1=>?_;refine gg (fM G4 q1.2.1) λip rC=>(bY (xK h (de [0,8,28,56,64,68] (.fork (de [6,12,17,20] (.fork (de [26,32,37,40,44,48,52] (.fork (de [63,73,78,83,84] .nil) (de [73] (.fork (de [63,78,83,84] .nil) (de [78,63,83,84] .nil))))) (de [73] (.fork (de [26,32,37,40,44,48,52] (.fork (de [63,78,83,84] .nil) (de [78,63,83,84] .nil))) (de [78,26,32,37,40,44,48,52,63,83,84] .nil))))) (.fork (de [26,32,37,40] (.fork (de [6,12,17,20,44,48,52] (.fork (de [63,73,78,83,84] .nil) (de [73] (.fork (de [63,78,83,84] .nil) (de [78,63,83,84] .nil))))) (de [73] (.fork (de [6,12,17,20,44,48,52] (.fork (de [63,78,83,84] .nil) (de [78,63,83,84] .nil))) (de [78,6,12,17,20,44,48,52,63,83,84] .nil))))) (de [73] (.fork (de [6,12,17,20] (.fork (de [26,32,37,40,44,48,52] (.fork (de [63,78,83,84] .nil) (de [78,63,83,84] .nil))) (de [78,26,32,37,40,44,48,52,63,83,84] .nil))) (.fork (de [26,32,37,40] (.fork (de [6,12,17,20,44,48,52] (.fork (de [63,78,83,84] .nil) (de [78,63,83,84] .nil))) (de [78,6,12,17,20,44,48,52,63,83,84] .nil))) (de [78] (.fork (de [6,12,17,20,26,32,37,40,44,48,52,63,83,84] .nil) (de [26,32,37,40,6,12,17,20,44,48,52,63,83,84] .nil))))))))) ?_));intro w h;refine aC 5 ?_;refine aD J (da (a:=0) (h1:=av.lit _) J J q1.1 I) (gR ?_ ?_)
     . refine qo J J J J (lX _ _ _) h ?_;intro bq w h;refine aC 1 ?_;refine aQ J h J (m7 (a:=3) (b:=4) (c:=4) I) (aD J (eB (a:=W T) (b:=jr fo) (h2:=⟨J⟩) J J dQ (aM gN (fS J))) ?_);refine gR ?_ ?_
       . refine qo J J J J (lX _ _ _) h ?_;intro bq w h;refine aC 1 ?_;refine aQ J h J (m7 (a:=0) (b:=1) (c:=3) I) (aD J (eB (a:=jH fo) (b:=2) (h1:=⟨J⟩) (h2:=av.lit _) J J dQ aG) ?_);refine aD J (cG (fq J J (aM gN (fS J)) aG) kZ.1) (aD J (cG (fq (b:=1) (h2:=av.lit _) J J (aM fj (fS J)) an) kZ.2.1) ?_);refine aD J (eZ J (aM fW (fS J))) (gR ?_ ?_)
         exact anq
         refine aQ J h J (kf q1.2.2 I) (gR ?_ ?_)
         exact LL
         exact LM
       refine aQ J h J (kf q1.2.2 I) (gR ?_ ?_)
       . refine qo J J J J (lX _ _ _) h ?_;intro bq w h;refine aC 1 ?_;refine aQ J h J (m7 (a:=0) (b:=1) (c:=3) I) (aD J (eB (a:=jH fo) (b:=2) (h1:=⟨J⟩) (h2:=av.lit _) J J dQ aG) ?_);refine aD J (cG (fq J J (aM gN (fS J)) aG) kZ.1) (aD J (cG (fq (b:=1) (h2:=av.lit _) J J (aM fj (fS J)) an) kZ.2.1) ?_);refine aD J (eZ J (aM fW (fS J))) (gR ?_ ?_)
         exact LL
         exact LM
       refine ld J J (ly _) h ?_;intro bz w h;exact acZ
     refine gR ?_ ?_
     . refine qo J J J J (lX _ _ _) h ?_;intro bq w h;refine aC 1 ?_;refine aQ J h J (m7 (a:=0) (b:=1) (c:=3) I) (aD J (eB (a:=jH fo) (b:=2) (h1:=⟨J⟩) (h2:=av.lit _) J J dQ aG) ?_);refine gR ?_ ?_
       . refine qo J J J J (lX _ _ _) h ?_;intro bq w h;refine aC 1 ?_;refine aQ J h J (m7 (a:=3) (b:=4) (c:=4) I) (aD J (eB (a:=W T) (b:=jr fo) (h2:=⟨J⟩) J J dQ (aM gN (fS J))) ?_);refine aD J (cG (fq J J (aM gN (fS J)) aG) kZ.1) (aD J (cG (fq (b:=1) (h2:=av.lit _) J J (aM fj (fS J)) an) kZ.2.1) ?_);refine aD J (eZ J (aM fW (fS J))) (gR ?_ ?_)
         exact anq
         refine aQ J h J (kf q1.2.2 I) (gR ?_ ?_)
         exact LL
         exact LM
       refine aQ J h J (kf q1.2.2 I) (gR ?_ ?_)
       . refine qo J J J J (lX _ _ _) h ?_;intro bq w h;refine aC 1 ?_;refine aQ J h J (m7 (a:=3) (b:=4) (c:=4) I) (aD J (eB (a:=W T) (b:=jr fo) (h2:=⟨J⟩) J J dQ (aM gN (fS J))) ?_);refine aD J (cG (fq J J (aM gN (fS J)) aG) kZ.1) (aD J (cG (fq (b:=1) (h2:=av.lit _) J J (aM fj (fS J)) an) kZ.2.1) ?_);refine aD J (eZ J (aM fW (fS J))) (gR ?_ ?_)
         exact LL
         exact LM
       refine ld J J (ly _) h ?_;intro bz w h;exact acY
     refine aQ J h J (kf q1.2.2 I) (gR ?_ ?_)
     . refine qo J J J J (lX _ _ _) h ?_;intro bq w h;refine aC 1 ?_;refine aQ J h J (m7 (a:=3) (b:=4) (c:=4) I) (aD J (eB (a:=W T) (b:=jr fo) (h2:=⟨J⟩) J J dQ (aM gN (fS J))) ?_);refine gR ?_ ?_
       . refine qo J J J J (lX _ _ _) h ?_;intro bq w h;refine aC 1 ?_;refine aQ J h J (m7 (a:=0) (b:=1) (c:=3) I) (aD J (eB (a:=jH fo) (b:=2) (h1:=⟨J⟩) (h2:=av.lit _) J J dQ aG) ?_);refine aD J (cG (fq J J (aM gN (fS J)) aG) kZ.1) (aD J (cG (fq (b:=1) (h2:=av.lit _) J J (aM fj (fS J)) an) kZ.2.1) ?_);refine aD J (eZ J (aM fW (fS J))) (gR ?_ ?_)
         exact LL
         exact LM
       refine ld J J (ly _) h ?_;intro bz w h;exact acZ
     refine gR ?_ ?_
     . refine qo J J J J (lX _ _ _) h ?_;intro bq w h;refine aC 1 ?_;refine aQ J h J (m7 (a:=0) (b:=1) (c:=3) I) (aD J (eB (a:=jH fo) (b:=2) (h1:=⟨J⟩) (h2:=av.lit _) J J dQ aG) ?_);refine gR ?_ ?_
       . refine qo J J J J (lX _ _ _) h ?_;intro bq w h;refine aC 1 ?_;refine aQ J h J (m7 (a:=3) (b:=4) (c:=4) I) (aD J (eB (a:=W T) (b:=jr fo) (h2:=⟨J⟩) J J dQ (aM gN (fS J))) ?_);refine aD J (cG (fq J J (aM gN (fS J)) aG) kZ.1) (aD J (cG (fq (b:=1) (h2:=av.lit _) J J (aM fj (fS J)) an) kZ.2.1) ?_);refine aD J (eZ J (aM fW (fS J))) (gR ?_ ?_)
         exact LL
         exact LM
       refine ld J J (ly _) h ?_;intro bz w h;exact acY
     refine ld J J (ly _) h ?_;intro bz w h;refine gR ?_ ?_
     . refine qo J J J J (lX _ _ _) h ?_;intro bq w h;refine aC 1 ?_;refine aQ J h J (m7 (a:=3) (b:=4) (c:=4) I) (aD J (eB (a:=W T) (b:=jr fo) (h2:=⟨J⟩) J J dQ (aM gN (fS J))) ?_);exact acZ
     refine qo J J J J (lX _ _ _) h ?_;intro bq w h;refine aC 1 ?_;refine aQ J h J (m7 (a:=0) (b:=1) (c:=3) I) (aD J (eB (a:=jH fo) (b:=2) (h1:=⟨J⟩) (h2:=av.lit _) J J dQ aG) ?_);exact acY
   refine a8 (bY (xK h (de [0,8,28,52,60] (.fork (de [6,12,17,20,26,32,37,40,44,48,59,67,68] .nil) (de [26,32,37,40,6,12,17,20,44,48,59,67,68] .nil))) ?_));intro w h;refine aC 5 ?_;refine gR ?_ ?_
   exact ano
   exact anp
 refine g_ 4 ?_;refine gK J (a8 (bY (xK h (de [0,8,28,52,60] (.fork (de [6,12,17,20,26,32,37,40,44,48,59,67,68] .nil) (de [26,32,37,40,6,12,17,20,44,48,59,67,68] .nil))) ?_)));intro w h;refine aC 5 ?_;refine gR ?_ ?_
 exact ano
 exact anp
variable {e4:aK}{b cb kind s tb:Nat}{gD:Option Tb}{t:Tb}
structure nL(kind:Nat)(t:Tb):Prop where
 ok:se kind t
 aEV: ∀s,Bz t s-> ∀to:Int,to<((2^t.log:Nat):Int)-> ∃i,i<W t.cells/\(t.cells.getD i default).sym=s/\(0<=to->ux (t.cells.getD i default) to)
def nL.of(h:iy P log)(b:W P<=(cE kind).1+1):nL kind ⟨dn P log,log⟩:=
 ⟨se.of h b,λs hs to c=>by
   obtain⟨i,h1,h2⟩:=hs
   have a:=(GL h (i:=i) (by rw[<-xQ P log];exact h1)).2.2.2
   rw[h2]at a
   exact Vt h a c⟩
def nL.single(h:s<=(cE kind).1):nL kind (qu s):=
 ⟨⟨J,cj _,λi hi=>by
   have:i=0:=by have h1:i<1:=hi;omega
   subst this
   exact⟨cj _,aW _,h⟩⟩,λc hs to a=>by
   obtain⟨i,h1,h2⟩:=hs
   have:i=0:=by have b:i<1:=h1;omega
   subst this
   refine⟨0,Nat.zero_lt_one,h2,λd=>?_⟩
   have b:to<1:=a
   refine⟨?_,?_⟩
   . show((0:Nat):Int)<=to;omega
   . show to<((0+2^0:Nat):Int);omega⟩
def nL.ans(a:kind<=2):nL kind (jY kind):=nL.of (JJ kind) (by rcases(I:kind=0\/kind=1\/kind=2)with rfl|rfl|rfl<;>decide)
def nL.bd(h:nL kind t):al1 t:=by
 have h1:=h.ok.len;have h2:2^t.log<=512:=wI h.ok.log;refine⟨I,λi hi=>?_⟩;have:=h.ok.cell i I;exact⟨this.1,aM (lV _ _) (aM this.2.1 (aM h2 an))⟩
def PK(x:Wr):Nat->Value
 |0=>x.p0
 |1=>x.p1
 |_=>x.p2
def WP(x:Wr)(k:Nat)(p:Value):Wr:=match k with
 |0=>{x with p0:=p}
 |1=>{x with p1:=p}
 |_=>{x with p2:=p}
def IE(a:k<=2):(bj x)[5+k]? =some (PK x k):=by
 rcases(I:k=0\/k=1\/k=2)with rfl|rfl|rfl<;>rfl
def ac1{v:Value}(a:k<=2):(bj x).set (5+k) v=bj (WP x k v):=by
 rcases(I:k=0\/k=1\/k=2)with rfl|rfl|rfl<;>rfl
def aEW(a:k<=2):WP x k (PK x k)=x:=by
 rcases(I:k=0\/k=1\/k=2)with rfl|rfl|rfl<;>rfl
def LR:Nat->Nat
 |0=>35
 |1=>28
 |_=>52
def aEX(b:kind<=2)(h:s<=LR kind):Bz (jY kind) s:=by
 have h1:aa (wJ kind) s 0≠0:=by
  rcases(I:kind=0\/kind=1\/kind=2)with rfl|rfl|rfl
  exact(show ∀s,s<36->aa (wJ 0) s 0≠0 by decide) s (I7 h)
  exact(show ∀s,s<29->aa (wJ 1) s 0≠0 by decide) s (I7 h)
  exact(show ∀s,s<53->aa (wJ 2) s 0≠0 by decide) s (I7 h)
 obtain⟨i,h2,a,_⟩:=Vt (JJ kind) h1 (to:= -1) (by have:=eA (EA kind);omega);exact⟨i,h2,a⟩
def VP(a:kind<=2):LR kind<=(cE kind).1:=by
 rcases(I:kind=0\/kind=1\/kind=2)with rfl|rfl|rfl<;>decide
def tbu:mN ((ah tb [cK cb (W t.cells) (W t.cells),af t.log] 124)::(ah cb (gC t.cells) 126)::F) (bL tb) t:=
 ⟨tb,cb,J,fQ ..,aA bZ⟩
def aEY:Sub F (e1::e2::e3::e4::F):=λ_ a=>aA (aA (aA (aA a)))
def aEZ{a:Option Nat}(h:(!(aI a).isNone)=true): ∃b,a=some b:=by
 cases a with
 |none=>cases h
 |some b=>exact⟨b,J⟩
def Dv(gD:Option Tb)(kind mode:Nat)(S:List Nat)(t:Tb)(B:List UInt8):Prop:=
 (mode=0/\t=jY kind/\B=[])\/(mode=1/\ ∃c,c<=(cE kind).1/\t=qu c/\B=[bS c])\/
 (mode=2/\ ∃P log,6<=log/\log<=(cE kind).2/\xo S ((cE kind).1+1) log P/\t=⟨dn P log,log⟩/\B=rD (eD (log-5) 4++kh (2^log) P))\/
 (mode=3/\gD=some t/\B=[])
def aE0{p:Value}{o:Option Tb}{ad:Option Addr}(h:H r w F)(a:tZ F p o)(d: ∀t,o=some t->nL kind t)(f:iQ F (.slice ad n c) (S.map af))(g:n<=1099511627776):Calls PP 55 #[p,.slice ad n c] w λe w'=> ∃b,e= .returned (.bool b)/\(b=true-> ∃t,o=some t/\mN F p t/\ ∀s,s∈S->Bz t s)/\H r w' F:=by
 cases o with
 | none=>
   have e:p= .pointer none:=a
   subst e
   exact(aC' h).mono (λe w' h1=>⟨false,h1.1,(λe=>by cases e),h1.2⟩)
 |some t=>exact(al2 h a (d t J).bd f g).mono (λe w' ⟨b,h1,h2,i⟩=>⟨b,h1,λe=>⟨t,J,a,h2 e⟩,i⟩)
def aE1(h: ∀i,i<j->aa S i 0=aa S 0 0)(h2:aa S j 0=aa S 0 0): ∀i,i<j+1->aa S i 0=aa S 0 0:=λi hi=>by
 rcases xB.1 hi with a|rfl
 exact h i a
 exact h2
def aE2{T:TT}(h:(ah b (ar i64 P) T)∈F):iQ F (cK b (W P) (W P)) (P.map i64):=
 ⟨_,_,_,J,by rw[cB],aW _,λ_=>⟨b,0,_,_,J,h,Rd.self _⟩⟩
def H.aE3(h:H r w (e0::e1::e2::e3::e4::L)):H r w (e3::e4::e0::e1::e2::L):=(h.mv 4).mv 4
def H.aE4{a:aK}(h:H r w (e0::e1::e2::e3::e4::a::L)):H r w (e4::a::e0::e1::e2::e3::L):=(h.mv 5).mv 5
def H.aE5(h:H r w (e0::e1::e2::e3::L)):H r w (e2::e3::e0::e1::L):=(h.mv 3).mv 3
def aE6(n:Nat):Value.int .u8 ((n % (aN .u8+1):Nat):Int)=u8 (bS n):=by
 show _=Value.int .u8 (((bS n).toNat:Nat):Int);rw[Ak];rfl
def ant(h:i<W S):aa S i 0∈S:=by
 rw[bX,gW h];exact Ai h
def aE7(h: ∀i,i<W S->aa S i 0=aa S 0 0){s:Nat}(hs:s∈S):s=aa S 0 0:=by
 obtain⟨i,h1,h2⟩:=DO hs;rw[<-h i h1,bX,gW h1];exact h2.symm
def aE8(h: ∀i,i<W S->aa S i 0=aa S 0 0): ∀s,s∈S->Bz (qu (aa S 0 0)) s:=λs hs=>⟨0,Nat.zero_lt_one,(aE7 h hs).symm⟩
def aE9(h:iy P log)(hs:aa P s 0≠0):Bz ⟨dn P log,log⟩ s:=by
 obtain⟨i,h2,a,_⟩:=Vt h hs (to:= -1) (by have:=eA log;omega);exact⟨i,h2,a⟩
def tbp(h1:(ah tb [cK cb (2^log) (2^log),af log] 124)∈F)(h2:(ah cb (gC (dn P log)) 126)∈F):mN F (bL tb) ⟨dn P log,log⟩:=
 ⟨tb,cb,J,by show(ah tb [cK cb (W (dn P log)) (W (dn P log)),af log] 124)∈F;rw[xQ];exact h1,h2⟩
def aE_{p:Value}{o:Option Tb}(h:tZ F p o)(e:o=some t):mN F p t:=by subst e;exact h
def ac2{mode:Nat}{B:List UInt8}(h:Dv gD kind mode S t B)(b:kind<=2):W B<=1000:=by
 rcases h with⟨_,_,rfl⟩| ⟨_,c,_,_,rfl⟩| ⟨_,P,log,h1,h2,a,_,rfl⟩| ⟨_,_,rfl⟩
 exact cj _
 exact fS J
 have hm:(cE kind).1<=52/\(cE kind).2<=9:=(by rcases(I:kind=0\/kind=1\/kind=2)with rfl|rfl|rfl<;>decide);have hp:=a.len;have d:= @amN (2^log) P (wI I);have e:W P*(10+2*W P)<=53*116:=tG I I;have f:W (eD (log-5) 4)=4:=oT _ _;rw[Iu,aF];omega
 exact cj _
def aE'{X:List UInt8}:aY (EB (some b) X []::F) (cK b (W X) (W X)) X:=BB.sl (ob:=some b) ⟨by rw[dN],λe=>by cases e⟩
def anu(h:p:=by refine(aEZ VQ).elim λsb e0=>?_;have qK:=hu.2.2 sb e0;rw[e0]at h;have It:=qK.len;have FL:=qK.ok (log:=6+ov) I I;have hTT:=nL.of (kind:=kind) FL It;refine g_ 4 ?_;refine cJ (v0:=cK sb (W P) (W P)) (v1:=af (6+ov)) (jw (cD aI e0) J J) J J (aH (GC (sb:=sb) (shares:=P) (sp:=[]) (log:=6+ov) (T:=3) h (by rw[dN];exact fQ ..) FL (aW _)) ?_);rintro e w1 ⟨cb,rfl,h⟩;refine eN h J ?_;intro bt w h;refine cI ?_;intro w h;refine g_ 8 ?_;refine dt (.pointer _) (IE hk) ?_;intro w h;rw[ac1 hk]at h;refine g_ 5 ?_;refine cJ (v0:=cK sb (W P) (W P)) (v1:=af (6+ov)) (jw (cD aI e0) J J) J J (aH (ama (P:=P) (log:=6+ov) h (aE2 (by repeat first|exact fQ .. |apply nq)) I qK.lo qK.sum I qK.last) ?_);rintro e w1 ⟨bd,rfl,h⟩;refine g_ 4 ?_;exact⟨gI,2,_,rD (eD (6+ov-5) 4++kh (2^(6+ov)) P),[_,_,_,_],⟨dn P (6+ov),6+ov⟩,bL bt,J,I,aE',I,tbp (aA bZ) (aA (aA bZ)),hTT,λs hs=>aE9 FL (qK.sym s hs),.inr (.inr (.inl ⟨J,P,6+ov,I,I,qK,J,J⟩)),h.aE4⟩):p:=h
def anv(h:p:=by refine a8 ?_;replace h:=h.tail;(try dsimp only[dX]at h);exact⟨aS,gI,az,h,I⟩):p:=h
def aFa{sc:Nat}{sa:Option Addr}{at_:Nat}{N:List Int}(h:H r w ((ah wb (bj x) 49)::(some x.cb,C [.slice na nn nc,af at_] 38)::L))(hN:og L (.slice na nn nc) N)(jU:at_<=1152921504606000000)(hk:kind<=2)(d:iQ L (.slice sa (W S) sc) (S.map af))(D:0<W S)(E:W S<=2147483648)(f: ∀s,s∈S->s<=LR kind)(F:tZ L (PK x kind) gD)(g: ∀t,gD=some t->nL kind t):Calls PP 41 #[bL wb,af kind,.slice sa (W S) sc] w λe w'=> ∃at' mode v B G t p,e= .returned (.tuple #[af mode,v])/\at'<=at_+262/\aY (G++L) v B/\mode<=3/\mN (G++L) p t/\nL kind t/\(∀s,s∈S->Bz t s)/\Dv gD kind mode S t B/\H r w' ((ah wb (bj (WP x kind p)) 49)::(some x.cb,C [.slice na nn nc,af at'] 38)::(G++L)):=by
 have oG:(cE kind).1<=52/\(cE kind).2<=9/\6<=(cE kind).2:=(by unfold cE;split<;>(try split)<;>decide);refine lB (d.fp (show 0<W (S.map af) by rw[cB];omega)) λpb pq lp Tp b=>?_;refine gg b.2.1 λip rC=>(nV func41 ntmps41 [6,7] ?_);refine g_ 11 ?_;replace h:=h.zz [1] 0;refine cJ (v1:=af 4) J J J (aH (lR (n:=4) (at_:=at_) h (hN.sub (Sub.cons _ _)) I an) ?_);rintro e w1 ⟨ov,c,rfl,K,Ab,h⟩;refine ee (aJ (cW [(6,7),(23,34)] (λρ w=>Kn ρ []/\H r w ((ah wb (bj x) 49)::(some x.cb,C [.slice na nn nc,af c] 38)::L)) ?_ ?_))
 refine g_ 5 ?_;refine eM (t:=25) J (λm=>?_) (λm=>?_)
 refine g_ 4 ?_;refine dI J J J (oD J J I) J (dI J J J (run_load h J (IE hk)) J ?_);refine g_ 1 ?_;refine xm J J J J J J (aH (aE0 (o:=gD) (kind:=kind) (S:=S) h (F.sub aP) g (d.sub aP) I) ?_);rintro e w1 ⟨bc,rfl,q,h⟩;refine g_ 2 ?_;refine eY J ?_ ?_<;>intro U
 refine g_ 6 ?_;refine(q U).elim λt k=>?_;exact⟨c,3,.slice none 0 0,[],[],t,PK x kind,J,I,aY.nil _,I,aE_ F k.1,g t k.1,k.2.2,.inr (.inr (.inr ⟨J,k.1,J⟩)),by rw[aEW hk];exact h.mv 1⟩
 refine a8 ?_;replace h:=h.zz [1] 0;exact⟨aS,az,h⟩
 refine g_ 10 ?_;refine gK J (a8 ?_);replace h:=h.zz [1] 0;exact⟨aS,az,h⟩
 rintro ρ w ⟨⟨LN,rfl⟩,h⟩;refine g_ 12 ?_;refine cw (σ:=Nat×Bool) [(9,9),(11,11),(37,49)] (λ⟨j,sm⟩ ρ w=>Kn ρ [(37,af j),(9,.bool sm)]/\H r w ((ah wb (bj x) 49)::(some x.cb,C [.slice na nn nc,af c] 38)::L)/\(j<=W S)/\(sm=true-> ∀i,i<j->aa S i 0=aa S 0 0)) (λ⟨j,sm⟩=>W S-j) (0,true) ⟨az,h,I,(λ_ i hi=>absurd hi (ma _))⟩ ?_;rintro⟨j,sm⟩ ρ w ⟨⟨LO,rfl⟩,h,hj,O⟩;refine g_ 5 ?_;refine au J ?_ ?_<;>intro sZ
 refine a8 (bY (kp [(9,9),(11,11),(39,48)] (λρ w=> ∃f2:Bool,Kn ρ [(9,.bool f2)]/\H r w ((ah wb (bj x) 49)::(some x.cb,C [.slice na nn nc,af c] 38)::L)/\(f2=true-> ∀i,i<j+1->aa S i 0=aa S 0 0)) ?_ ?_))
 refine bY (fD (ak (da J J b.1 I) (aX h J (om b.2.2 I) ?_)));refine g_ 5 ?_;refine xG (t:=42) J (λQ=>?_) (λQ=>?_)
 refine g_ 2 ?_;refine dI J J J (da (a:=0) (h1:=av.lit _) J J b.1 I) J (dI J J J (run_load h J (om b.2.2 I)) J ?_);refine g_ 4 ?_;exact⟨aS,decide (aa S j 0=aa S 0 0),az,h,(λe=>aE1 (O Q) (tE e))⟩
 refine g_ 8 ?_;exact⟨aS,false,az,h,(λe=>by cases e)⟩
 rintro ρ w ⟨f2,⟨LP,rfl⟩,h,u⟩;refine g_ 4 ?_;exact⟨aO 4,(j+1,f2),cQ,az,h,I,u⟩
 refine jl (cW [(6,7),(12,12),(50,68)] (λρ w=>Kn ρ []/\H r w ((ah wb (bj x) 49)::(some x.cb,C [.slice na nn nc,af c] 38)::L)) ?_ ?_)
 refine g_ 5 ?_;refine eM (t:=52) J (λy=>?_) (λy=>?_)
 refine g_ 3 ?_;refine eY J ?_ ?_<;>intro V
 refine g_ 3 ?_;refine ak (da (a:=0) (h1:=av.lit _) J J b.1 I) (aX h J (om b.2.2 I) (d' J J (aH (afO (sym:=aa S 0 0) h) ?_)));rintro e w1 ⟨cb,rfl,h⟩;refine eN h J ?_;intro bt w h;refine cI ?_;intro w h;refine g_ 8 ?_;refine dt (.pointer _) (IE hk) ?_;intro w h;rw[ac1 hk]at h;refine aJ (bY (cm h [0,4,20,9,12,18,24] ?_));intro w h;refine lx J (aD J (da (a:=0) (h1:=av.lit _) J J b.1 I) (aD J (As 1 J (av.lit _).eq) (aQ J h J (om b.2.2 I) (aD J (DX J J) (ld J J (ly _) h ?_)))));intro bz w h;refine fG J (cO (ju ?_));have R:=O V;have z:j=W S:=I;rw[z]at R;rw[aE6]at h;exact⟨c,1,_,[bS (aa S 0 0)],[_,_,_],qu (aa S 0 0),bL bt,J,I,ID,I,⟨bt,cb,J,aA bZ,aA (aA bZ)⟩,nL.single (aM (f _ (ant D)) (VP hk)),aE8 R,.inr (.inl ⟨J,_,aM (f _ (ant D)) (VP hk),J,J⟩),h.aE3⟩
 exact a8 ⟨aS,az,h⟩
 refine g_ 3 ?_;exact gK J (a8 ⟨aS,az,h⟩)
 rintro ρ w ⟨⟨LQ,rfl⟩,h⟩;refine cW [(6,7),(13,17),(69,107)] (λρ w=> ∃l:Nat,Kn ρ []/\H r w ((ah wb (bj x) 49)::(some x.cb,C [.slice na nn nc,af l] 38)::L)/\(l<=at_+260)) ?_ ?_
 refine g_ 5 ?_;refine eM (t:=71) J (λA=>?_) (λA=>?_)
 . refine g_ 7 ?_;refine jv J ?_;refine g_ 3 ?_;refine d' J J (aH (Q' hk) ?_);rintro e w1 ⟨rfl,rfl⟩;refine g_ 14 ?_;replace h:=h.zz [1] 0;refine cJ J J J (aH (lR (n:=(cE kind).2-5) (at_:=c) h (hN.sub aP) I I) ?_);rintro e w1 ⟨ov,X,rfl,K,Y,h⟩;refine g_ 8 ?_;replace h:=h.zz [1] 0;refine eS J J J J ((acy (log:=6+ov) (S:=S) (M:=(cE kind).1+1) h (hN.sub aP) I (d.sub aP) I I (λs hs=>I7 (aM (f s hs) (VP hk))) E).mono ?_);clear h;rintro e w1 ⟨gI,Z,hh⟩;refine aZ (acK hh) (λso eK=>aZ (eK) (λP hu=>?_));refine⟨_,hu.1,?_⟩;have h:=hu.2.1;clear hh;refine g_ 5 ?_;refine ak (Ll J J) (aJ (eY J ?_ ?_))<;>intro VQ
   exact anu
   exact anv
 refine g_ 1 ?_;refine aCB J J J J J (aH (Yw h hk) ?_);rintro e w1 ⟨tb,cb,rfl,h⟩;refine g_ 1 ?_;refine xm J J J J J J (aH (al2 (S:=S) (t:=jY kind) h tbu (nL.ans hk).bd (d.sub aEY) I) ?_);rintro e w1 ⟨bu,rfl,_,h⟩;replace h:=h.tail.tail;refine dI J J J (k8 J) J ?_;refine g_ 2 ?_;refine eY J ?_ ?_<;>intro aw4
 . refine g_ 3 ?_;refine d' J J (aH (Q' hk) ?_);rintro e w1 ⟨rfl,rfl⟩;refine g_ 14 ?_;replace h:=h.zz [1] 0;refine cJ J J J (aH (lR (n:=(cE kind).2-5) (at_:=c) h (hN.sub aP) I I) ?_);rintro e w1 ⟨ov,X,rfl,K,Y,h⟩;refine g_ 8 ?_;replace h:=h.zz [1] 0;refine eS J J J J ((acy (log:=6+ov) (S:=S) (M:=(cE kind).1+1) h (hN.sub aP) I (d.sub aP) I I (λs hs=>I7 (aM (f s hs) (VP hk))) E).mono ?_);clear h;rintro e w1 ⟨gI,Z,hh⟩;refine B8 (acK hh) λso P hu=>?_;refine⟨_,hu.1,?_⟩;have h:=hu.2.1;clear hh;refine g_ 5 ?_;refine ak (Ll J J) (aJ (eY J ?_ ?_))<;>intro VQ
   exact anu
   exact anv
 exact a8 ⟨aS,c,az,h,I⟩
 rintro ρ w ⟨l,⟨PG,rfl⟩,h,uf⟩;refine bY (cm h [0,4,8,16,20,15,24,31] ?_);intro w h;refine aC 5 ?_;refine qU J J J (aH (Yw h hk) ?_);rintro e w1 ⟨tb,cb,rfl,h⟩;refine aC 1 ?_;refine dt (.pointer _) (IE hk) ?_;intro w h;rw[ac1 hk]at h;refine cO ?_;refine g_ 6 ?_;exact⟨l,0,.slice none 0 0,[],[_,_],jY kind,_,J,I,aY.nil _,I,tbu,nL.ans hk,λs hs=>aEX hk (f s hs),.inl ⟨J,J,J⟩,h.aE5⟩
variable {X:List UInt8}{l0:List Value}{b0:Nat}{ad:Option Addr}{T0:TT}
def anw{X:List UInt8}{q:Nat}:ag (aT q 0++X) q (W X)=X:=by
 unfold ag;rw[Aj (by rw[dS];omega),yR (by rw[dS];omega),List.nil_append,BL]
def anx{l:List Value}{q:Nat}(h:Rd l q (X.map u8)): ∀i,q<=i->i<q+W X->l[i]? =some (u8 (aa (aT q 0++X) i 0)):=λi h1 h2=>by
 have a:=kf (i:=i-q) h I;have e:aa (aT q 0++X) i 0=aa X (i-q) 0:=(by rw[bX,l_ (by rw[dS];omega),dS,<-bX]);rw[show q+(i-q)=i by omega]at a;rw[a,e]
def IF(h:H r w F)(d:aY F (.slice ad n c) X)(f:0<W X)(g:W X<=8)(hN:num X<=9223372036854775807):Calls PP 22 #[.slice ad n c] w λe w'=>e= .returned (af (num X))/\H r w' F:=by
 have a:=d.len.1;obtain⟨b,q,l,T,e1,e2,e3⟩:=d.fp I;obtain⟨F0,hp⟩:=Gu e2;have hs:= @anw X q;have:=afv (D:=aT q 0++X) (q:=q) (len:=n) (cap:=c) (ad:=ad) (h.perm hp) (by rw[a];exact anx e3) (λ_=>e1) (by rw[aF,dS];omega) I (by rw[a,hs];exact hN);rw[a,hs]at this;rw[a];exact this.mono (λe w' h1=>⟨h1.1,h1.2▸h⟩)
def aFd(h:H r w F)(d:aY F (.slice ad n c) X)(hb:(ah b0 l0 T0)∈F)(m:W X<=140737488355328):Calls PP 21 #[.slice ad n c] w λe w'=>e= .returned (cR (lF X))/\H r w' F:=by
 have a:=d.len.1;have f:=d.len.2;by_cases g:0<n
 obtain⟨b,q,l,T,e1,e2,e3⟩:=d.fp g;obtain⟨F0,hp⟩:=Gu e2;have hs:= @anw X q;have:=XY (D:=aT q 0++X) (q:=q) (len:=n) (cap:=c) (ad:=ad) (h.perm hp) (by rw[a];exact anx e3) (λ_=>e1) (by rw[aF,dS];omega) f I;rw[a,hs]at this;rw[a];exact this.mono (λe w' h1=>⟨h1.1,h1.2.perm hp.symm⟩)
 have j:X=[]:=List.eq_nil_of_length_eq_zero I;subst j;have k:n=0:=a;subst k;obtain⟨F0,hp⟩:=Gu hb;have:=XY (D:=[]) (q:=0) (len:=0) (cap:=c) (ad:=ad) (h.perm hp) (λi h1 h2=>absurd h2 I) (λh1=>absurd h1 I) (aW _) f I;exact this.mono (λe w' h1=>⟨h1.1,h1.2.perm hp.symm⟩)
def aFe(h:H r w F)(a:aY F (.slice ad n c) X)(hb:(ah b0 l0 T0)∈F)(b:W X<=140737488355328):Calls PP 15 #[.slice ad n c] w λe w'=>e= .returned (bR (lF X % 4294967296))/\H r w' F:=by
 refine iu func15 ntmps15 [2] ?_;refine g_ 7 ?_;refine d' J J (aH (aFd h a hb b) ?_);rintro e d ⟨rfl,h⟩;refine ak (DX J J) ?_;refine g_ 3 ?_;exact⟨J,h⟩
variable {ord:Ot}
section
variable {P:Program}{n i:Nat}{K:ia}{ρ:Env}{w:World}{ops:Array Oper}{r:fT}{L:List aK}{d:Option Nat}{ty:TypeId}{pos:String}{aV:Array Edge}{T kt et:TypeId}{x y z:Operand}{mb B:Nat}{o:Obj}{k:Int}
def VR{v:Nat}[hu:cu P T (.map kt et)] [p:cu P kt (.int .i64)](a:ops[j]? =some {dst:=d,op:= .mapUpdate T x y z,type:=ty,pos:=pos,after:=aV,guard:=none})(h:H r w L)(i:Nat)(hi:L[i]? =some (some mb,o))(b:pM B o)(c:aL ρ x= .map (some mb))(e:aL ρ y= .int .i64 k)(f:aL ρ z=af v)(g:v<=B)(hd:bH n d=true)(l: ∀w' o',pM B o'->H r w' (L.set i (some mb,o'))->D P n ops ord K (fU ρ d undef) w'):D P n ops (.cons (j,.h) ord) K ρ w:=by
 obtain⟨o',w',h1,h2,m⟩:=aCO (P:=P) (ty:=ty) (kt:=kt) (et:=et) (T:=T) h hi b c e f g;exact Xr a m hd (l w' o' h1 h2)
def anz[hu:cu P T (.map kt et)] [l:cu P kt (.int .i64)](a:ops[j]? =some {dst:=d,op:= .lookup T x y true,type:=ty,pos:=pos,after:=aV,guard:=none})(h:H r w L)(i:Nat)(hi:L[i]? =some (some mb,o))(b:pM B o)(c:(zeroValue et).run P w= .ok (af 0) w)(e:aL ρ x= .map (some mb))(f:aL ρ y= .int .i64 k)(hd:bH n d=true)(g: ∀v ok,v<=B->D P n ops ord K (fU ρ d (.tuple #[af v,.bool ok])) w):D P n ops (.cons (j,.h) ord) K ρ w:=by
 obtain⟨v,ok,h1,h2⟩:=aCL (P:=P) (ty:=ty) (kt:=kt) (et:=et) (T:=T) h hi b c e f;exact Mw a h2 hd (g v ok h1)
end
def sG(x:Wr)(s:Nat):Wr:={x with seen:=s}
def aFf:(bj (sG x s)).set 12 (af n)=bj (sG x n):=rfl
def VS:(bj (sG x s))[0+1]? =some (.slice x.ta x.tn x.tc):=rfl
def aFg:(bj (sG x s))[0+3]? =some (af x.bO):=rfl
def anA:(bj (sG x s))[0+8+0]? =some (af x.a):=rfl
def aFh:(bj (sG x s))[0+8+1]? =some (af x.b):=rfl
def aFi:(bj (sG x s))[0+8+2]? =some (af x.c):=rfl
def LS:(bj (sG x s))[0+11]? =some (.map (some x.mb)):=rfl
def FM:(bj (sG x s))[0+12]? =some (af s):=rfl
def anB(h:W X=3):num X<=9223372036854775807:=by
 have h1:=Ek X 3;rw[je I]at h1;omega
def anC{tn:Nat}(a:aY F (.slice ta tn tc) X)(h:k+3<=W X):aY F (.slice (cut ta tc k 1) 3 (tc-k)) ((X.drop k).take 3)/\W ((X.drop k).take 3)=3:=by
 have b:=a.len.1;subst b;exact⟨(a.drop I).take (m:=3) I,by rw[fR,cr];omega⟩
def TR(x:Wr):List Int:=[(x.a:Int),(x.b:Int),(x.c:Int),(x.a:Int) -1,1,2]
def aFj{ob:Option Nat}(h:ob=none->c=0)(a:0<c): ∃b,ob=some b:=by
 cases ob with
 |none=>exact absurd (h J) I
 |some b=>exact⟨b,J⟩
def Dw(l:List Int):Prop:= ∀j,-4398046511104<=aa l j 0/\aa l j 0<=4398046511104
def Dw.tr(h1:x.a<=1099511627776)(h2:x.b<=1099511627776)(d:x.c<=1099511627776):Dw (TR x):=λj=>by
 match j with
 |0=>show-4398046511104<=(x.a:Int)/\(x.a:Int)<=4398046511104;omega
 |1=>show-4398046511104<=(x.b:Int)/\(x.b:Int)<=4398046511104;omega
 |2=>show-4398046511104<=(x.c:Int)/\(x.c:Int)<=4398046511104;omega
 |3=>show-4398046511104<=(x.a:Int) -1/\(x.a:Int) -1<=4398046511104;omega
 |4=>show-4398046511104<=(1:Int)/\(1:Int)<=4398046511104;omega
 |5=>show-4398046511104<=(2:Int)/\(2:Int)<=4398046511104;omega
 |j+6=>show-4398046511104<=(0:Int)/\(0:Int)<=4398046511104;omega
def Dw.snoc{l:List Int}{v:Int}(h:Dw l)(a: -4398046511104<=v/\v<=4398046511104):Dw (l++[v]):=λj=>by
 rcases dq j (W l) with e|e
 rw[bX,gP e,<-bX];exact h j
 rw[bX,l_ e]
 match j-W l with
 |0=>exact a
 |k+1=>show-4398046511104<=(0:Int)/\(0:Int)<=4398046511104;omega
def aFk{D:List Int}{sp:List Value}(h:i<W D):(D.map i64++sp)[i]? =some (i64 (aa D i 0)):=by
 rw[gP (by rw[cB];exact h)];exact y_ h
def aFl{e wn a o:Nat}(h:0<n->1<=o/\o<=i/\o<=wn/\i+n<=e/\ ∀k,k<n->aa X (i+k) 0=aa X (i+k-o) 0)(d:a<=n):0<a->1<=o/\o<=i/\o<=wn/\i+a<=e/\ ∀k,k<a->aa X (i+k) 0=aa X (i+k-o) 0:=λf=>by
 obtain⟨h1,h2,b,g,c⟩:=h I;exact⟨h1,h2,b,I,λk j=>c k I⟩
def VT(h:p:=by intro w yF C8 h;dsimp only[bJ]at h;refine cO ?_;refine g_ 4 ?_;refine aX h J FM ?_;refine g_ 3 ?_;refine iX (af (s+1)) ?_;intro w h;rw[aFf]at h;exact aJ ⟨aO 39,(s+1,yF),cQ,az,h,I,C8⟩):p:=h
def anD(h:p:=by refine g_ 4 ?_;refine ak (pU J J I I) (mf J (mH _) h ?_);intro bz w h;refine me (ar i64 (TR x)) [] [i64 ((i:Int) - (v9:Int))] h 1 J J J ⟨J,J,aW _,λe=>by cases e⟩ (Src.slice (j:=0) (q2:=0) J ⟨J,trivial⟩ J) (by intro y hy;simp at hy;subst hy;rfl) I an J ?_;intro w cP c2 cZ h aLu aLv aFm;dsimp only[bJ]at h;refine(aFj aFm I).elim λtb2 e0=>?_;rw[e0]at h;replace h:=h.tail;exact ee (aJ ⟨aO 31,tb2,(TR x++[(i:Int) - (v9:Int)]),c2,cZ,Kn.mk ⟨(jw (cD aI e0) J J),trivial⟩,h,aW _,(Dw.tr Db nC IG).snoc I⟩)):p:=h
def anE(h:p:=by rintro e w1 ⟨rfl,h⟩;refine VR (o:=kj) (B:=2147483647) (v:=s) J h 2 J uA J J J I J ?_;exact VT):p:=h
def anF(h:p:=by refine g_ 6 ?_;exact⟨aS,q,o9,Kn.mk ⟨J,(int_eq fk),trivial⟩,h,(λ_=>⟨pF,n7.1,n7.2,hqe,FN⟩)⟩):p:=h
def anG(h:p:=by exact a8 ⟨aO 24,bt,TR x,6,[],az,h,fS J,Dw.tr Db nC IG⟩):p:=h
def aFn{e sn:Nat}{O:Obj}{at_:Nat}{N:List Int}(h:H r w ((ah wb (bj (sG x sn)) 49)::(some x.cb,C [.slice na nn nc,af at_] 38)::(some x.mb,O)::L))(hN:og L (.slice na nn nc) N)(jU:at_<=4611686018427387000)(oG:pM 2147483647 O)(F:aY L (.slice x.ta x.tn x.tc) X)(hX:W X<=1048577)(NG:i<=e)(he:e<=W X)(hsn:sn<=1048577)(q_:x.bO<=1099511627776)(Db:x.a<=1099511627776)(nC:x.b<=1099511627776)(IG:x.c<=1099511627776):Calls PP 26 #[bL wb,af i,af e] w λen w'=> ∃at' FO LU n o,en= .returned (.tuple #[af n,af o])/\at'<=at_+2/\pM 2147483647 FO/\LU<=1048577/\n<=60000/\(0<n->1<=o/\o<=i/\o<=x.bO/\i+n<=e/\ ∀k,k<n->aa X (i+k) 0=aa X (i+k-o) 0)/\H r w' ((ah wb (bj (sG x LU)) 49)::(some x.cb,C [.slice na nn nc,af at'] 38)::(some x.mb,FO)::L):=by
 have JU:=F.len.1;have Py:=F.len.2;refine nV func26 ntmps26 [6,7] ?_;refine g_ 7 ?_;refine cw (σ:=Nat×Obj) [(16,52)] (λ⟨s,kj⟩ ρ w=>Kn ρ []/\H r w ((ah wb (bj (sG x s)) 49)::(some x.cb,C [.slice na nn nc,af at_] 38)::(some x.mb,kj)::L)/\(s<=1048577)/\(pM 2147483647 kj)) (λ⟨s,kj⟩=>i-s) (sn,O) ⟨az,h,I,oG⟩ ?_;rintro⟨s,kj⟩ ρ w ⟨⟨LN,rfl⟩,h,hs,uA⟩;refine g_ 6 ?_;refine aX h J FM ?_;refine g_ 4 ?_;refine au J ?_ ?_<;>intro Ej
 . have m:=anC (k:=s) F I;have g:=anB m.2;refine g_ 3 ?_;refine xK h (de [0,4,8,16,20,24,32,36,40,48,52,56,76,80,84,29,45,61,64,68] (.fork (de [13] (.fork (de [75,89,95] .nil) (de [89,75,95] .nil))) (.fork (de [75,13,89,95] .nil) (de [89] (.fork (de [13,75,95] .nil) (de [75,13,95] .nil)))))) ?_;intro w h;refine aC 15 ?_;refine aQ J h J VS (aQ J h J FM (aQ J h J FM ?_));refine aC 1 ?_;refine aD J (zF s 3 J J J I) (gR ?_ ?_)
   . refine aQ J h J LS (gR ?_ ?_)
     . refine qU J J J (aH (IF h (m.1.sub aP) I I g) ?_);rintro e w1 ⟨rfl,h⟩;refine aQ J h J FM (VR (o:=kj) (B:=2147483647) (v:=s) J h 2 J uA J J J I J ?_);exact VT
     refine aQ J h J FM (qU J J J (aH (IF h (m.1.sub aP) I I g) ?_));exact anE
   refine gR ?_ ?_
   . refine qU J J J (aH (IF h (m.1.sub aP) I I g) ?_);rintro e w1 ⟨rfl,h⟩;refine aQ J h J LS (aQ J h J FM (VR (o:=kj) (B:=2147483647) (v:=s) J h 2 J uA J J J I J ?_));exact VT
   refine aQ J h J FM (gR ?_ ?_)
   . refine aQ J h J LS (qU J J J (aH (IF h (m.1.sub aP) I I g) ?_));exact anE
   refine qU J J J (aH (IF h (m.1.sub aP) I I g) ?_);rintro e w1 ⟨rfl,h⟩;refine aQ J h J LS (VR (o:=kj) (B:=2147483647) (v:=s) J h 2 J uA J J J I J ?_);exact VT
 refine g_ 7 ?_;refine cm h [0,4,8,12,20,24,28,32,40,44,48,52,60,64,68,72,17,37,57,77,80,86,88] ?_;intro w h;refine aC 16 ?_;refine aQ J h J anA (aQ J h J aFh (aQ J h J aFi (aQ J h J anA (aD J (pU (v:=1) J J I I) (QO (v:=λb=>cK b 6 6) J (λw=>aqA (u:=λb=>cK b 6 6) (aq4 _ _ _ _ _ _) J J J J J J) h J ?_)))));intro bt w h;refine fG J (cO (cW [(10,12),(75,102)] (λρ w=> ∃p:Nat,∃d:List Int,∃tcp:Nat,∃z:List Value,Kn ρ [(10,cK p (W d) tcp)]/\H r w ((ah p (ar i64 d++z) 3)::(ah wb (bj (sG x s)) 49)::(some x.cb,C [.slice na nn nc,af at_] 38)::(some x.mb,kj)::L)/\(W d<=7)/\(Dw d)) ?_ ?_))
 refine g_ 7 ?_;refine au J ?_ ?_<;>intro Rq
 . have P:=anC (k:=i) F I;have g:=anB P.2;refine bY (xK h (de [0,4,8,16,20,24,32,36,40,29,44] (.fork (de [13,51,55,56,60,64,68,72] .nil) (de [51,13,55,56,60,64,68,72] .nil))) ?_);intro w h;refine aC 9 ?_;refine aQ J h J VS (aD J (zF i 3 J J J I) (gR ?_ ?_))
   . refine aQ J h J LS (qU J J J (aH (IF h (P.1.sub aP) I I g) ?_));rintro e w1 ⟨rfl,h⟩;refine anz (o:=kj) (B:=2147483647) J h 3 J uA (by kernel_rfl) J J J ?_;intro v9 Q R;refine aC 6 ?_;refine g_ 4 ?_;refine eY J ?_ ?_<;>intro VQ
     exact anD
     exact anG
   refine qU J J J (aH (IF h (P.1.sub aP) I I g) ?_);rintro e w1 ⟨rfl,h⟩;refine aQ J h J LS (anz (o:=kj) (B:=2147483647) J h 3 J uA (by kernel_rfl) J J J ?_);intro v9 Q R;refine aC 6 ?_;refine g_ 4 ?_;refine eY J ?_ ?_<;>intro VQ
   exact anD
   exact anG
 exact a8 ⟨aO 4,bt,TR x,6,[],az,h,fS J,Dw.tr Db nC IG⟩
 rintro ρ w ⟨p,d,tcp,z,⟨LO,rfl⟩,h,Lj,yG⟩;refine g_ 8 ?_;refine cw (σ:=Nat×Nat×Nat) [(8,9),(14,15),(105,156)] (λ⟨j,bs,fr⟩ ρ w=>Kn ρ [(105,af j),(8,af bs),(9,af fr)]/\H r w ((ah p (ar i64 d++z) 3)::(ah wb (bj (sG x s)) 49)::(some x.cb,C [.slice na nn nc,af at_] 38)::(some x.mb,kj)::L)/\(j<=W d)/\(0<bs->1<=fr/\fr<=i/\fr<=x.bO/\i+bs<=e/\ ∀k,k<bs->aa X (i+k) 0=aa X (i+k-fr) 0)) (λ⟨j,bs,fr⟩=>W d-j) (0,0,0) ⟨az,h,I,(λe=>absurd e (vT _))⟩ ?_;rintro⟨j,bs,fr⟩ ρ w ⟨⟨LP,rfl⟩,h,hj,A⟩;refine g_ 5 ?_;refine au J ?_ ?_<;>intro aLw
 have S:=yG j;refine cM (aa d j 0) λG T=>?_;have nJ:=aFk (D:=d) (sp:=z) (i:=j) I;rw[T]at S nJ;refine a8 (bY (kp [(8,9),(14,15),(107,155)] (λρ w=> ∃E l:Nat,Kn ρ [(8,af E),(9,af l)]/\H r w ((ah p (ar i64 d++z) 3)::(ah wb (bj (sG x s)) 49)::(some x.cb,C [.slice na nn nc,af at_] 38)::(some x.mb,kj)::L)/\(0<E->1<=l/\l<=i/\l<=x.bO/\i+E<=e/\ ∀k,k<E->aa X (i+k) 0=aa X (i+k-l) 0)) ?_ ?_))
 refine g_ 3 ?_;refine aX h J nJ ?_;refine g_ 6 ?_;refine ak (rR (v:=1) J J) (dg (eM (t:=111) J (λU=>?_) (λU=>?_)))
 refine g_ 10 ?_;exact jv J (jl ⟨aS,bs,fr,Kn.mk ⟨J,(ie J),trivial⟩,h,A⟩)
 refine g_ 5 ?_;refine dI J J J (run_load h J aFg) J (dI J J J (Ao J J) J (dI J J J (Xi J J) J ?_));refine g_ 2 ?_;refine au J ?_ ?_<;>intro aFp
 exact jl ⟨aS,bs,fr,Kn.mk ⟨J,(ie J),trivial⟩,h,A⟩
 refine(Int.eq_ofNat_of_zero_le (I:0<=G)).elim λo9 fk=>?_;haveI hio:av G o9:=⟨fk⟩;have pF:1<=o9:=I;have n7:o9<=i/\o9<=x.bO:=I;refine g_ 7 ?_;refine cw (σ:=Nat) [(15,15),(121,150)] (λq ρ w=>Kn ρ [(15,af q)]/\H r w ((ah p (ar i64 d++z) 3)::(ah wb (bj (sG x s)) 49)::(some x.cb,C [.slice na nn nc,af at_] 38)::(some x.mb,kj)::L)/\(i+q<=e)/\(∀k,k<q->aa X (i+k) 0=aa X (i+k-o9) 0)) (λq=>e-i-q) (0) ⟨az,h,I,(λk f=>absurd f (ma _))⟩ ?_;rintro q ρ w ⟨⟨PG,rfl⟩,h,hqe,FN⟩;refine bY (bY (cm h [0,4,8,12,16,20,24,28,32,40,44,48,60,64,68,76,80,84,88,92,37,52,57,73,96,101,104,108] ?_));intro w h;refine aC 2 ?_;refine aD J (eR (a:=i) (b:=q) J J aG) ?_;refine aC 3 ?_;refine BU (t:=126) J (λVG=>?_) (λVG=>?_)
 refine dz J J J J (λw=>run_move) J ?_;refine lB (F.fp I) λpb pq lp Tp K=>?_;refine gg K.2.1 λip rC=>(dz J J J J (λw=>v_ J) J (dz J J J J (λw=>pg J) J (dz J J J J (λw=>run_move) J (dz J J J J (λw=>run_move) J (dz J J J J (λw=>eR (a:=i) (b:=q) J J aG) J (dz J J J J (λw=>run_move) J (dz J J J J (λw=>v_ J) J (dz J J J J (λw=>pg J) J (dz J J J J (λw=>run_move) J (dz J J J J (λw=>run_move) J (dz J J J J (λw=>eR (a:=i) (b:=q) J J aG) J (dz J J J J (λw=>run_move) J (dz J J J J (λw=>jm (a:=i+q) (b:=o9) J J I aG) J ?_)))))))))))));refine qk J J J J (λw f=>run_load (h.keeps f) J VS) J (dz J J J J (λw=>da (a:=i+q) J J K.1 I) J (qk J J J J (λw f=>run_load (h.keeps f) J (kf K.2.2 I)) J (qk J J J J (λw f=>run_load (h.keeps f) J VS) J (dz J J J J (λw=>da (a:=i+q-o9) J J K.1 I) J (qk J J J J (λw f=>run_load (h.keeps f) J (kf K.2.2 I)) J (dz J J J J (λw=>Ms J J) J ?_))))));refine aC 2 ?_;refine au J ?_ ?_<;>intro V
 refine g_ 7 ?_;exact⟨aS,q+1,cQ,az,h,I,(λk f=>by rcases xB.1 f with hh|rfl;exact FN k hh;exact Mo.1 V)⟩
 refine g_ 7 ?_;refine au J ?_ ?_<;>intro U5
 exact anF
 exact a8 ⟨aS,bs,fr,Kn.mk ⟨J,(ie J),trivial⟩,h,A⟩
 refine aC 23 ?_;refine gK J ?_;refine g_ 7 ?_;refine au J ?_ ?_<;>intro U5
 exact anF
 exact a8 ⟨aS,bs,fr,Kn.mk ⟨J,(ie J),trivial⟩,h,A⟩
 rintro ρ w ⟨E,l,⟨LQ,rfl⟩,h,lh⟩;refine g_ 4 ?_;exact⟨aO 4,(j+1,E,l),cQ,az,h,I,lh⟩
 refine jl (cW [(8,8),(157,174)] (λρ w=> ∃M at9:Nat,Kn ρ [(8,af M)]/\H r w ((ah wb (bj (sG x s)) 49)::(some x.cb,C [.slice na nn nc,af at9] 38)::(some x.mb,kj)::L)/\(M<=bs)/\(at9<=at_+2)) ?_ ?_)
 refine g_ 5 ?_;refine eM (t:=159) J (λY=>?_) (λY=>?_)
 . refine g_ 4 ?_;replace h:=h.zz [1,2] 0;refine xm (v1:=af 6) J J J J J J (aH (lR (n:=6) (at_:=at_) h (hN.sub aP) I an) ?_);rintro e w1 ⟨G,jG,rfl,T,uf,h⟩;refine g_ 3 ?_;refine au J ?_ ?_<;>intro aLx
   . refine g_ 7 ?_;replace h:=h.zz [1,1] 0;refine cJ J J J (aH (lR (n:=bs-3) (at_:=jG) h (hN.sub aP) I (by have:=NG;have:=he;have:=(A I).2.2.2.1;omega)) ?_);rintro e w1 ⟨G,gI,rfl,T,vP,h⟩;refine g_ 3 ?_;replace h:=h.zz [3,1,2,3] 1;exact⟨aS,3+G,gI,az,h,I,I⟩
   refine a8 ?_;replace h:=h.zz [3,1,2,3] 1;exact⟨aS,bs,jG,az,h,I,I⟩
 refine g_ 8 ?_;refine gK J (a8 ?_);replace h:=h.tail;(try dsimp only[dX]at h);exact⟨aS,bs,at_,az,h,I,I⟩
 rintro ρ w ⟨M,at9,⟨ac4,rfl⟩,h,sS,Z⟩;refine g_ 3 ?_;refine ak (Ao (b:=60000) (h2:=av.lit _) J J) ?_;refine g_ 5 ?_;exact⟨at9,kj,s,min M 60000,fr,J,Z,uA,hs,WT _ _,aFl A (aM (Ql _ _) sS),h⟩
end Go.Z
