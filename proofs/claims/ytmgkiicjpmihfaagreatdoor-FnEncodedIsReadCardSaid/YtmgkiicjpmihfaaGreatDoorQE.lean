/- Part 5 of the proof. -/
import Derived.KernelRfl
import Derived.Test.YtmgkiicjpmihfaaGreatDoorQD
set_option linter.all false
set_option maxRecDepth 20000
set_option maxHeartbeats 400000000
open List renaming length -> W, getD -> aa, map -> ar, replicate -> aT, set -> bJ, range -> cL
open UInt8 renaming ofNat -> bS
open Or renaming inl -> a_, inr -> bG
open Go.Z.Env renaming ev -> aL, put -> fU
namespace Go.Z
open Go Go.Proofs Tryz
variable {N size:Nat}
structure Fs where
 out:List UInt8
 tree:Option Tr
 bI:List (Option Tb)
 a:Nat
 b:Nat
 c:Nat
def eh(b:Nat):Nat:=if b=255 then 3 else if 128<=b then 2 else 1
def kT(E:List UInt8):Nat:=if eh (byte E 0)=2 then(byte E 0-128)*2^8+byte E 1 else if eh (byte E 0)=3 then num (ag E 1 2)+32512 else byte E 0
def fI(a:Nat)(gD:List (Option Tb))(E:List UInt8):Nat->Nat×List (Option Tb)×Nat
 |0=>(1,gD,0)
 | i+1=>
   let x:=fI a gD E i
   if x.1≠1 then x
   else
     match ke (aa x.2.1 i none) i (a/2^(6-2*i) % 4) (E.drop x.2.2)with
     |none=>(2,gD,0)
     |some y=>if a/2^(6-2*i) % 4=2/\W E- (x.2.2+y.2)<2 then(0,gD,0)else(1,x.2.1.set i (some y.1),x.2.2+y.2)
def p7(l:List (Option Tb))(k:Nat):Tb:=(aa l k none).getD (qu 0)
def wV(aR aq:Nat)(s:Fs)(tr:Option Tr)(text:List UInt8)(many:Nat)(E2:List UInt8):Nat×Fs:=
 if W E2=0 then(2,s)
 else if byte E2 0 % 4≠0 then(0,s)
 else
   let x:=fI (byte E2 0) s.bI (E2.drop 1) 3
   if x.1≠1 then(x.1,s)
   else
     let y:=lP (p7 x.2.1) aR aq s.out s.a s.b s.c text many ((E2.drop 1).drop x.2.2)
     (y.1,⟨y.2.1,tr,x.2.1,y.2.2.1,y.2.2.2.1,y.2.2.2.2⟩)
def iL(aR aq:Nat)(s:Fs)(E:List UInt8):Nat×Fs:=
 let l:=dZ s.tree E
 if l.1≠1 then(l.1,s)
 else
   let a:=E.drop l.2.2.1
   if W a=0 then(2,s)
   else if W a<eh (byte a 0)then(2,s)
   else
     let E2:=a.drop (eh (byte a 0))
     if kT a=0 then
       (if(1<eh (byte a 0)\/0<W E2)\/aq<W l.2.1 then(0,s)else(1,{s with out:=s.out++l.2.1,tree:=l.2.2.2}))
     else wV aR aq s l.2.2.2 l.2.1 (kT a) E2
def JY{a:Nat}{gD:List (Option Tb)}{E:List UInt8}{i:Nat}(h:(fI a gD E i).1≠1): ∀{j},i<=j->fI a gD E j=fI a gD E i
 | 0, c => by have:i=0:=I; subst this;rfl
 | j+1,c=>by
   rcases dq j i with b|b
   . have:i=j+1:=I
     subst this;rfl
   . have d:=JY h b
     rw[fI,d,ao h]
def as0{len a aq v a1:Nat}{b b1:Bool}(h:ky N len a b aq=(v,a1,b1))(f:a<=8*len):a1<=8*len:=by
 unfold ky at h;dsimp only at h;rcases c:gh N len a b aq.log2 with⟨x,g,i⟩;rw[c]at h;dsimp only at h;have h1:=(Eu c f).1;split at h
 cases h;exact h1
 rcases d:gh N len g i 1 with⟨y,k,j⟩;rw[d]at h;have e:=cD (λz=>z.2.1) h;dsimp only at e;rw[<-e];exact(Eu d h1).1
def agz{N len symbols:Nat}: ∀{f:Nat} {out dh:List Int} {a a':Nat},nt N len symbols f out a=some (dh,a')->a<=8*len->a'<=8*len
 | f+1,out,dh,a,a',h,b=>by
  rcases hv:gh N len a false 2 with⟨v,a1,b1⟩;rw[tW hv]at h;have h1:=(Eu hv b).1;split at h
  cases h
  split at h
  cases h;exact h1
  exact agz h h1
def Zd{N len symbols:Nat}: ∀{f left:Nat} {out dh:List Int} {a a':Nat},gz N len symbols f left out a=some (dh,a')->a<=8*len->a'<=8*len
 | f+1,left,out,dh,a,a',h,c=>by
  by_cases d:left=0
  unfold gz at h;rw[ao d]at h;cases h;exact c
  rcases hv:ky N len a false (left+1)with⟨v,a1,b1⟩;rw[xR d hv]at h;have h1:=as0 hv c;split at h
  cases h
  split at h
  cases b:nt N len symbols (symbols+1) (out++[(v:Int) -1]) a1 with
  |none=>rw[b]at h;cases h
  | some y=>
    rw[b]at h
    exact Zd (show gz N len symbols f _ y.1 y.2=some (dh,a')from h) (agz (dh:=y.1) (a':=y.2) b h1)
  exact Zd h h1
def GZ{len lJ symbols:Nat}{out:List Int}{log:Nat}(h:fO N len lJ symbols=some (out,log,size)):size<=len:=by
 unfold fO at h;dsimp only at h;rcases c:gh N len 0 false 4 with⟨v,a,b⟩;rw[c]at h;dsimp only at h;split at h
 cases h
 cases hp:gz N len symbols (symbols+1) (2^(v+5)) [] a with
 |none=>rw[hp]at h;cases h
 | some y=>
   rw[hp]at h;cases h
   have:=Zd (dh:=y.1) (a':=y.2) hp (Eu c (cj _)).1
   omega
def RN{gD:Option Tb}{kind mode:Nat}{E:List UInt8}{t:Tb}(h:ke gD kind mode E=some (t,size)):size<=W E:=by
 unfold ke at h;by_cases a:mode=0
 rw[ao a]at h;cases h;omega
 rw[aj a]at h;by_cases h1:mode=1
 rw[ao h1]at h;split at h
 cases h
 cases h;omega
 rw[aj h1]at h;by_cases h2:mode=2
 rw[ao h2]at h
 cases hp:fO (num E) (W E) (cE kind).2 ((cE kind).1+1)with
 |none=>rw[hp]at h;cases h
 | some x=>
   rw[hp]at h;cases h
   exact GZ (out:=x.1) (log:=x.2.1) (size:=x.2.2) hp
 rw[aj h2]at h
 cases gD with
 |none=>cases h
 |some b=>cases h;omega
variable {F:List aK}{k:Nat}{r:fT}{p p0 p1 p2:Value}{w:World}
structure Nu(s:Fs):Prop where
 tree: ∀t,s.tree=some t->xT t
 bI:W s.bI=3
 zE: ∀k,k<3-> ∀t,aa s.bI k none=some t->se k t
 a1:1<=s.a
 a2:s.a<=1099511627776
 b2:s.b<=1099511627776
 c2:s.c<=1099511627776
structure RP(F:List aK)(pp:Option Addr)(p0 p1 p2:Value)(s:Fs):Prop where
 tree:wQ F (.pointer pp) s.tree
 zE: ∀k,k<3->tZ F ([p0,p1,p2].getD k undef) (aa s.bI k none)
def H.n5{r:fT}{w:World}{F:List aK}: ∀{G:List aK},H r w (G++F)->H r w F
 | [],h=>h
 |_::G,h=>H.n5 (G:=G) h.tail
def H.G6{G:List aK}{e a:aK}(h:H r w (e::(G++a::F))):H r w (e::a::(G++F)):=h.perm (List.perm_middle.cons e)
def as1{f:Nat}(h:f<3):([af 0,af 1,af 2]:List Value)[f]? =some (af f):=by
 rcases(I:f=0\/f=1\/f=2)with rfl|rfl|rfl<;>rfl
def as4{x0 a b c d e f:Value}(hk:k<3):([x0,a,b,c,p0,p1,p2,d,e,f]:List Value).set (4+k) p=[x0,a,b,c,if k=0 then p else p0,if k=1 then p else p1,if k=2 then p else p2,d,e,f]:=by
 rcases(I:k=0\/k=1\/k=2)with rfl|rfl|rfl<;>rfl
def as5(hk:k<3)(p:Value):[if k=0 then p else p0,if k=1 then p else p1,if k=2 then p else p2].getD k undef=p:=by
 rcases(I:k=0\/k=1\/k=2)with rfl|rfl|rfl<;>rfl
def as6{i:Nat}(hi:i<3)(hk:k<3)(h:k≠i):[if i=0 then p else p0,if i=1 then p else p1,if i=2 then p else p2].getD k undef=[p0,p1,p2].getD k undef:=by
 (rcases(I:k=0\/k=1\/k=2)with rfl|rfl|rfl<;>rcases(I:i=0\/i=1\/i=2)with rfl|rfl|rfl<;>first|rfl|exact absurd J h)
def H.as7{G:List aK}{e a e2:aK}(h:H r w (e::(G++a::e2::F))):H r w (e::a::e2::(G++F)):=
 h.perm ((List.perm_middle.trans (List.perm_middle.cons a)).cons e)
def agA{p:Prop}(h:p:=by rw[as6 wM hk e,e_,aj I];exact(lj k hk).sub (λe he=>by rw[bV];exact fM _ he)):p:=h
def agB{p:Prop}(h:p:=by rw[e,as5 wM p',e_,ao ⟨J,I⟩];show mN _ _ _;rw[bV];exact as8):p:=h
def as9{db q:Nat}{ad:Option Addr}{D:List UInt8}{len cap:Nat}{T:TT}{sb aR aq co:Nat}{pp:Option Addr}{ob:Option Nat}{sp:List Value}{s:Fs}(h:H r w ((ah sb [.slice (aI ob) (W s.out) co,af aR,af aq,.pointer pp,p0,p1,p2,af s.a,af s.b,af s.c] 101)::(ob,C (ar u8 s.out++sp) 5)::F))(hm:(ah db (D.map u8) T)∈F)(bF:0<len->ad=some ⟨db,q,none⟩)(hq:q+len<=W D)(j9:len<=cap)(hlen:len<=140737488355328)(q':RP F pp p0 p1 p2 s)(g:Nu s)(fZ:b8 ob (W s.out) co (s.out.map u8) sp 1)(AF:W s.out<=1099511627776)(pZ:aq<=131072)(q_:aR<=1099511627776):Calls PP 34 #[bL sb,.slice ad len cap] w λe w'=> ∃v,e= .returned (af v)/\(iL aR aq s (ag D q len)).1=v/\(v≠1->H r w' F)/\(v=1-> ∃l G E K M N O GR dH,iL aR aq s (ag D q len)=(1,l)/\RP (G++F) E K M N l/\Nu l/\b8 O (W l.out) GR (l.out.map u8) dH 1/\H r w' ((ah sb [.slice (aI O) (W l.out) GR,af aR,af aq,.pointer E,K,M,N,af l.a,af l.b,af l.c] 101)::(O,C (ar u8 l.out++dH) 5)::(G++F))):=by
 obtain⟨wD,wE⟩:=dw hm;have eo:=dK hq;refine iI func34 ntmps34 [4] ?_;refine g_ 8 ?_;refine cJ J J J (aH (asE (F:=F) (L:=(ob,C (ar u8 s.out++sp) 5)::F) h (Sub.cons _ _) hm bF hq j9 hlen q'.tree g.tree) ?_);rintro e w1 ⟨v,mu,nv,cv,ln,G1,P,rfl,dV,ig,h⟩;replace h:=h.G6;refine g_ 14 ?_;refine au J ?_ ?_<;>intro u7
 refine g_ 6 ?_;exact⟨v,J,(by unfold iL;dsimp only;rw[dV,ao u7]),λ_=>h.tail.tail.n5,λe=>absurd e u7⟩
 have gA:v=1:=I;refine B8 (ig gA) λtext p Ze=>?_;have hL:=Ze.1;have ET:=Ze.2.1;have zC:=Ze.2.2;have mM:=agc hL g.tree;rw[eo]at mM;have Cg:(ag D q len).drop ln=(ag D (q+ln) (len-ln)):=tS;have Cf:0<len-ln->(cut ad cap ln 1)=some ⟨db,q+ln,none⟩:=λh0=>eU (bF I) I;have Q:W (ag D (q+ln) (len-ln))=len-ln:=dK I;refine gg (fM G1 hm) λaIJ aIK=>?_;refine g_ 5 ?_;refine ak (jJ (a:=ln) J J I I) ?_;refine g_ 9 ?_;refine au J ?_ ?_<;>intro Cv
 refine g_ 5 ?_;exact⟨2,J,(by unfold iL;dsimp only;rw[hL];dsimp only;rw[aj (λf=>f J),Cg];rw[ao I]),λ_=>h.tail.tail.n5,(by intro e;cases e)⟩
 have R:byte (ag D (q+ln) (len-ln)) 0=(aa D (q+ln+0) 0).toNat:=AJ I;have fj:=toNat_le (aa D (q+ln+0) 0);have fW:=toNat_le (aa D (q+ln+1) 0);refine g_ 4 ?_;refine ak (da (a:=0) (h1:=av.lit _) J J (Cf I) I) (aX h J (gX I) ?_);refine g_ 5 ?_;refine kp [(9,9),(35,40)] (λρ w=> ∃head:Nat,Kn ρ [(9,af head)]/\H r w ((ah sb [.slice (aI ob) (W s.out) co,af aR,af aq,.pointer P,p0,p1,p2,af s.a,af s.b,af s.c] 101)::(ob,C (ar u8 s.out++sp) 5)::(G1++F))/\(head=eh (aa D (q+ln+0) 0).toNat)) ?_ ?_
 refine g_ 6 ?_;refine au J ?_ ?_<;>intro jA
 refine g_ 3 ?_;exact⟨aS,3,az,h,(by unfold eh;rw[ao jA])⟩
 refine g_ 6 ?_;refine au J ?_ ?_<;>intro sZ
 refine g_ 3 ?_;exact⟨aS,2,az,h,(by unfold eh;rw[aj jA,ao sZ])⟩
 exact a8 ⟨aS,1,az,h,(by unfold eh;rw[aj jA,aj sZ])⟩
 rintro ρ w ⟨head,⟨ny,rfl⟩,h,A⟩;have r8:1<=head/\head<=3/\(head=2->128<=(aa D (q+ln+0) 0).toNat):=(by rw[A];unfold eh;(repeat' split)<;>omega);refine g_ 8 ?_;refine au J ?_ ?_<;>intro AO
 refine g_ 5 ?_;exact⟨2,J,(by unfold iL;dsimp only;rw[hL];dsimp only;rw[aj (λf=>f J),Cg];rw[Q,aj Cv,R,<-A,ao AO]),λ_=>h.tail.tail.n5,(by intro e;cases e)⟩
 have s7:=ET.len;have uW:0<len-ln-head->(cut (cut ad cap ln 1) (cap-ln) head 1)=some ⟨db,q+ln+head,none⟩:=λh0=>eU (Cf I) I;have uh:(ag D (q+ln) (len-ln)).drop head=(ag D (q+ln+head) (len-ln-head)):=tS;have RQ:W (ag D (q+ln+head) (len-ln-head))=len-ln-head:=dK I;refine g_ 6 ?_;refine kp [(8,8),(46,61)] (λρ w=> ∃many:Nat,Kn ρ [(8,af many)]/\H r w ((ah sb [.slice (aI ob) (W s.out) co,af aR,af aq,.pointer P,p0,p1,p2,af s.a,af s.b,af s.c] 101)::(ob,C (ar u8 s.out++sp) 5)::(G1++F))/\(many=kT (ag D (q+ln) (len-ln)))/\(many<=1048576)) ?_ ?_
 refine g_ 5 ?_;refine au J ?_ ?_<;>intro JL
 refine g_ 3 ?_;refine ak (eB (b:=8) (h2:=av.lit _) J J an aG) ?_;refine dg (ak (da (a:=1) (h1:=av.lit _) J J (Cf I) I) (aX h J (gX I) ?_));refine g_ 4 ?_;exact⟨aS,((aa D (q+ln+0) 0).toNat-128)*2^8+(aa D (q+ln+1) 0).toNat,az,h,(by unfold kT;rw[R,<-A,ao JL,AJ I]),I⟩
 refine g_ 5 ?_;refine au J ?_ ?_<;>intro GH
 refine fD (dg (ak (wm (a:=1) (h1:=av.lit _) (c:=3) (h2:=av.lit _) J J J I I) (d' J J (aH (tV (ad:=cut (cut ad cap ln 1) (cap-ln) 1 1) (q:=q+ln+1) (len:=2) h (aA (aA (fM _ hm))) (λ_=>eU (Cf I) I) I I (Rv _ _)) ?_))));rintro e w1 ⟨rfl,rfl⟩;have gy:= @qp D (q+ln+1) 2;refine g_ 3 ?_;exact⟨aS,num (ag D (q+ln+1) 2)+32512,az,h,(by unfold kT;rw[R,<-A,aj JL,ao GH,jy I]),I⟩
 exact a8 ⟨aS,(aa D (q+ln+0) 0).toNat,az,h,(by unfold kT;rw[R,<-A,aj JL,aj GH]),I⟩
 rintro ρ w ⟨many,⟨mn,rfl⟩,h,EG,Y'⟩;have u:iL aR aq s (ag D q len)=if many=0 then(if(1<head\/0<len-ln-head)\/aq<W text then(0,s)else(1,{s with out:=s.out++text,tree:=p}))else wV aR aq s p text many (ag D (q+ln+head) (len-ln-head)):=(by unfold iL;dsimp only;rw[hL];dsimp only;rw[aj (λf=>f J),Cg];rw[Q,aj Cv,R,<-A,aj AO,uh,RQ,<-EG]);refine g_ 4 ?_;refine ak (jJ (a:=head) J J I I) ?_;refine g_ 8 ?_;refine au J ?_ ?_<;>intro z
 refine g_ 6 ?_;refine eM (t:=69) J (λRS=>?_) (λRS=>?_)
 refine g_ 14 ?_;refine jv J ?_;refine g_ 5 ?_;exact⟨0,J,(by rw[u,ao z,ao (a_ (a_ RS))]),λ_=>h.tail.tail.n5,(by intro e;cases e)⟩
 refine g_ 5 ?_;refine eM (t:=74) J (λG7=>?_) (λG7=>?_)
 refine g_ 9 ?_;refine jv J ?_;refine g_ 5 ?_;exact⟨0,J,(by rw[u,ao z,ao (a_ (bG G7))]),λ_=>h.tail.tail.n5,(by intro e;cases e)⟩
 refine g_ 9 ?_;refine au J ?_ ?_<;>intro Nl
 refine g_ 5 ?_;exact⟨0,J,(by rw[u,ao z,ao (bG I)]),λ_=>h.tail.tail.n5,(by intro e;cases e)⟩
 refine g_ 9 ?_;refine me (ar u8 s.out) sp (text.map u8) h 1 J J J fZ (q9 ET (λe he=>aA (aA he))) (by intro x hx;obtain⟨y,_,rfl⟩:=jS.1 hx;rfl) I an J ?_;intro w dR c9 ep h dC gl fk;dsimp only[bJ]at h;rw[<-gJ]at h dC;refine g_ 2 ?_;refine cI ?_;intro w h;refine g_ 6 ?_;have S:iL aR aq s (ag D q len)=(1,{s with out:=s.out++text,tree:=p}):=(by rw[u,ao z,aj (by intro f;rcases f with(f|f)|f<;>omega)]);have as_:W (s.out++text)=W s.out+nv:=(by rw[aF,s7.1]);rw[<-as_]at h;exact⟨1,J,(by rw[S]),(λe=>absurd J e),λ_=>⟨{s with out:=s.out++text,tree:=p},G1,P,p0,p1,p2,dR,c9,ep,S,⟨zC,λk hk=>(q'.zE k hk).sub (Sub.right _ _)⟩,⟨mM.2.2,g.bI,g.zE,g.a1,g.a2,g.b2,g.c2⟩,⟨by simp,dC,by dsimp only;omega,fk⟩,h⟩⟩
 refine g_ 8 ?_;refine au J ?_ ?_<;>intro J0
 refine g_ 5 ?_;exact⟨2,J,(by rw[u,aj z];unfold wV;rw[RQ,ao I]),λ_=>h.tail.tail.n5,(by intro e;cases e)⟩
 have wP:=toNat_le (aa D (q+ln+head+0) 0);have m:=u;have Jz:(ag D (q+ln+head) (len-ln-head)).drop 1=(ag D (q+ln+head+1) (len-ln-head-1)):=tS;have qx:byte (ag D (q+ln+head) (len-ln-head)) 0=(aa D (q+ln+head+0) 0).toNat:=AJ I;refine g_ 4 ?_;refine ak (da (a:=0) (h1:=av.lit _) J J (uW I) I) (aX h J (gX I) ?_);refine g_ 7 ?_;refine ak (wT J J aG) ?_;refine g_ 2 ?_;refine au J ?_ ?_<;>intro RT
 refine g_ 5 ?_;exact⟨0,J,(by rw[u,aj z];unfold wV;rw[RQ,aj I,qx,ao RT]),λ_=>h.tail.tail.n5,(by intro e;cases e)⟩
 have U:wV aR aq s p text many (ag D (q+ln+head) (len-ln-head))=if(fI (aa D (q+ln+head+0) 0).toNat s.bI (ag D (q+ln+head+1) (len-ln-head-1)) 3).1≠1 then((fI (aa D (q+ln+head+0) 0).toNat s.bI (ag D (q+ln+head+1) (len-ln-head-1)) 3).1,s)else
     ((lP (p7 (fI (aa D (q+ln+head+0) 0).toNat s.bI (ag D (q+ln+head+1) (len-ln-head-1)) 3).2.1) aR aq s.out s.a s.b s.c text many ((ag D (q+ln+head+1) (len-ln-head-1)).drop (fI (aa D (q+ln+head+0) 0).toNat s.bI (ag D (q+ln+head+1) (len-ln-head-1)) 3).2.2)).1,
       ⟨(lP (p7 (fI (aa D (q+ln+head+0) 0).toNat s.bI (ag D (q+ln+head+1) (len-ln-head-1)) 3).2.1) aR aq s.out s.a s.b s.c text many ((ag D (q+ln+head+1) (len-ln-head-1)).drop (fI (aa D (q+ln+head+0) 0).toNat s.bI (ag D (q+ln+head+1) (len-ln-head-1)) 3).2.2)).2.1,p,(fI (aa D (q+ln+head+0) 0).toNat s.bI (ag D (q+ln+head+1) (len-ln-head-1)) 3).2.1,
        (lP (p7 (fI (aa D (q+ln+head+0) 0).toNat s.bI (ag D (q+ln+head+1) (len-ln-head-1)) 3).2.1) aR aq s.out s.a s.b s.c text many ((ag D (q+ln+head+1) (len-ln-head-1)).drop (fI (aa D (q+ln+head+0) 0).toNat s.bI (ag D (q+ln+head+1) (len-ln-head-1)) 3).2.2)).2.2.1,(lP (p7 (fI (aa D (q+ln+head+0) 0).toNat s.bI (ag D (q+ln+head+1) (len-ln-head-1)) 3).2.1) aR aq s.out s.a s.b s.c text many ((ag D (q+ln+head+1) (len-ln-head-1)).drop (fI (aa D (q+ln+head+0) 0).toNat s.bI (ag D (q+ln+head+1) (len-ln-head-1)) 3).2.2)).2.2.2.1,(lP (p7 (fI (aa D (q+ln+head+0) 0).toNat s.bI (ag D (q+ln+head+1) (len-ln-head-1)) 3).2.1) aR aq s.out s.a s.b s.c text many ((ag D (q+ln+head+1) (len-ln-head-1)).drop (fI (aa D (q+ln+head+0) 0).toNat s.bI (ag D (q+ln+head+1) (len-ln-head-1)) 3).2.2)).2.2.2.2⟩):=by
   unfold wV;rw[RQ,aj I,qx,aj RT,Jz]
 rw[aj z,U]at m;clear U;refine g_ 4 ?_;refine ak (jJ (a:=1) (h1:=av.lit _) J J I I) ?_;refine g_ 5 ?_;refine B_ J J J (lX _ _ _) h ?_;intro bz w h;refine g_ 4 ?_;refine cw (σ:=Nat×List (Option Tb)×Nat×Value×Value×Value×List aK×Option Addr) [(1,1),(4,4),(11,14),(106,141)] (λ⟨i,bI,d,p0,p1,p2,G,n⟩ ρ w=>Kn ρ [(106,af i),(1,.slice n (len-ln-head-1-d) (cap-ln-head-1-d))]/\H r w ((ah bz [af 0,af 1,af 2] 3)::(ah sb [.slice (aI ob) (W s.out) co,af aR,af aq,.pointer P,p0,p1,p2,af s.a,af s.b,af s.c] 101)::(ob,C (ar u8 s.out++sp) 5)::(G++F))/\(i<=3)/\(fI (aa D (q+ln+head+0) 0).toNat s.bI (ag D (q+ln+head+1) (len-ln-head-1)) i=(1,bI,d))/\(d<=len-ln-head-1)/\(0<len-ln-head-1-d->n=some ⟨db,q+ln+head+1+d,none⟩)/\(∀k,k<3->tZ (G++F) ([p0,p1,p2].getD k undef) (aa bI k none))/\(∀k,k<3-> ∀t,aa bI k none=some t->se k t)/\(∀k,k<i-> ∃t,aa bI k none=some t)/\(W bI=3)/\(Sub G1 G)) (λ⟨i,bI,d,p0,p1,p2,G,n⟩=>3-i) (0,s.bI,0,p0,p1,p2,G1,(cut (cut (cut ad cap ln 1) (cap-ln) head 1) (cap-ln-head) 1 1)) ⟨az,h,I,J,(cj _),(λh0=>eU (uW I) I),(λk hk=>(q'.zE k hk).sub (Sub.right _ _)),g.zE,(λk hk=>I),g.bI,(Sub.refl _)⟩ ?_;rintro⟨i,bI,d,p0,p1,p2,G,n⟩ ρ w ⟨⟨nz,rfl⟩,h,hi,B,qX,RU,lj,V,X,Zf,Zg⟩;refine g_ 5 ?_;refine au J ?_ ?_<;>intro wM
 refine g_ 7 ?_;refine aX h J (as1 wM) ?_;refine g_ 12 ?_;refine ak (wT J J (aM (k6 _ _) aG)) (dg ?_);replace h:=h.zz [1] 0;refine wj J J J J J (aH (ar5 (F:=G++F) (ad:=n) (q:=q+ln+head+1+d) (len:=(len-ln-head-1-d)) (kind:=i) (mode:=((aa D (q+ln+head+0) 0).toNat/2^(6-2*i) % 4)) (gD:=aa bI i none) h (λe he=>aA (aA he)) (fM _ hm) RU I I I I (lj i wM)) ?_);rintro e w1 ⟨ok,t,size,Gn,p',rfl,o,htA,h⟩;rw[as4 wM]at h;replace h:=h.as7;rw[<-bV]at h;have as':W (ag D (q+ln+head+1+d) (len-ln-head-1-d))=(len-ln-head-1-d):=dK I;refine g_ 10 ?_;refine ak (k8 J) (aJ (eY J ?_ ?_))<;>intro Zh
 (have uZ:ok=false:=by cases ok<;>first|rfl| (exfalso;revert Zh;decide));rw[uZ,aj an]at o;refine g_ 5 ?_;have Y:fI (aa D (q+ln+head+0) 0).toNat s.bI (ag D (q+ln+head+1) (len-ln-head-1)) (i+1)=(2,s.bI,0):=(by rw[fI,B];dsimp only;rw[aj (λf=>f J),tS,o]);exact⟨2,J,(by rw[m,JY (i:=i+1) (by rw[Y];exact(show(2:Nat)≠1 by decide)) (I:i+1<=3),Y];rfl),λ_=>h.tail.tail.tail.n5,(by intro e;cases e)⟩
 (have gM:ok=true:=by cases ok<;>first|rfl| (exfalso;revert Zh;decide));rw[gM,ao J]at o;have as8:=htA gM;have gv:=RN o;rw[as']at gv;have Z:=agk I o (V i wM);refine g_ 5 ?_;refine ak (jJ (a:=size) J J I I) ?_;refine g_ 9 ?_;refine ak (wT J J (aM (k6 _ _) aG)) ?_;refine g_ 2 ?_;refine eM (t:=136) J (λagE=>?_) (λagE=>?_)
 refine g_ 5 ?_;refine au J ?_ ?_<;>intro aIL
 refine g_ 5 ?_;have Y:fI (aa D (q+ln+head+0) 0).toNat s.bI (ag D (q+ln+head+1) (len-ln-head-1)) (i+1)=(0,s.bI,0):=(by rw[fI,B];dsimp only;rw[aj (λf=>f J),tS,o];dsimp only;rw[ao ⟨agE,by rw[dK I];omega⟩]);exact⟨0,J,(by rw[m,JY (i:=i+1) (by rw[Y];exact(show(0:Nat)≠1 by decide)) (I:i+1<=3),Y];rfl),λ_=>h.tail.tail.tail.n5,(by intro e;cases e)⟩
 refine g_ 5 ?_;replace h:=h.zz [2,1,2] 0;refine⟨aS,?_⟩;have s9:fI (aa D (q+ln+head+0) 0).toNat s.bI (ag D (q+ln+head+1) (len-ln-head-1)) (i+1)=(1,bI.set i (some t),d+size):=(by rw[fI,B];dsimp only;rw[aj (λf=>f J),tS,o];dsimp only;rw[aj (by rw[dK I];omega)]);refine⟨(i+1,bI.set i (some t),d+size,(if i=0 then p' else p0),(if i=1 then p' else p1),(if i=2 then p' else p2),Gn++G,cut n (cap-ln-head-1-d) size 1),cQ,?_⟩;refine⟨Kn.mk ⟨J,jw J I I,trivial⟩,h,I,s9,I,(λh0=>?_),(λk hk=>?_),(λk hk t' j=>?_),(λk hk=>?_),(by rw[dW];exact Zf),(λe he=>fM _ (Zg e he))⟩
 rw[<-fL];exact eU (RU I) I
 by_cases e:k=i
 exact agB
 exact agA
 rw[e_]at j;by_cases e:k=i
 rw[ao ⟨e.symm,I⟩]at j;cases j;rw[e];exact Z
 rw[aj I]at j;exact V k hk t' j
 rw[e_];by_cases e:k=i
 rw[ao ⟨e.symm,I⟩];exact⟨t,J⟩
 rw[aj I];exact X k I
 refine g_ 5 ?_;refine gK J ?_;refine g_ 5 ?_;replace h:=h.zz [2,1,2] 0;refine⟨aS,?_⟩;have s9:fI (aa D (q+ln+head+0) 0).toNat s.bI (ag D (q+ln+head+1) (len-ln-head-1)) (i+1)=(1,bI.set i (some t),d+size):=(by rw[fI,B];dsimp only;rw[aj (λf=>f J),tS,o];dsimp only;rw[aj (by rw[dK I];omega)]);refine⟨(i+1,bI.set i (some t),d+size,(if i=0 then p' else p0),(if i=1 then p' else p1),(if i=2 then p' else p2),Gn++G,cut n (cap-ln-head-1-d) size 1),cQ,?_⟩;refine⟨Kn.mk ⟨J,jw J I I,trivial⟩,h,I,s9,I,(λh0=>?_),(λk hk=>?_),(λk hk t' j=>?_),(λk hk=>?_),(by rw[dW];exact Zf),(λe he=>fM _ (Zg e he))⟩
 rw[<-fL];exact eU (RU I) I
 by_cases e:k=i
 exact agB
 exact agA
 rw[e_]at j;by_cases e:k=i
 rw[ao ⟨e.symm,I⟩]at j;cases j;rw[e];exact Z
 rw[aj I]at j;exact V k hk t' j
 rw[e_];by_cases e:k=i
 rw[ao ⟨e.symm,I⟩];exact⟨t,J⟩
 rw[aj I];exact X k I
 refine g_ 7 ?_;refine wj J J J J J ?_;replace h:=h.tail;have zD:i=3:=I;rw[zD]at B X
 have agF:Sub (G1++F) (G++F):=λe he=>by
  rcases oX.1 he with h1|h1
  exact oA _ (Zg e h1)
  exact fM _ h1
 have ata:AM (p7 bI):=λk hk=>(by obtain⟨t,ht⟩:=X k hk;unfold p7;rw[ht];exact V k hk t ht);have atb: ∀k,k<3->mN (G++F) ([p0,p1,p2].getD k undef) (p7 bI k):=λk hk=>(by obtain⟨t,ht⟩:=X k hk;have:=lj k hk;rw[ht]at this;unfold p7;rw[ht];exact this);refine(asQ (F:=G++F) (ts:=p7 bI) (text:=text) (many:=many) (ad:=n) (q:=q+ln+head+1+d) (len:=(len-ln-head-1-d)) h (fM _ hm) RU I I atb ata fZ (ET.sub agF) mM.1 I Y' g.a1 g.a2 g.b2 g.c2 AF pZ q_).mono ?_;rintro e w1 ⟨v2,rfl,fe,fP,jC⟩;refine⟨_,J,?_⟩;refine g_ 3 ?_;rw[B]at m;dsimp only at m;rw[aj (λf=>f J),tS]at m;refine⟨v2,J,(by rw[m];exact fe),λe=>(fP e).n5,λe=>?_⟩;obtain⟨dh,a',b',c',O,GR,dH,hq',h1,h2,h3,h4,h5,h⟩:=jC e;exact⟨⟨dh,p,bI,a',b',c'⟩,G,P,p0,p1,p2,O,GR,dH,(by rw[m,hq']),⟨zC.sub agF,lj⟩,⟨mM.2.2,Zf,V,h2,h3,h4,h5⟩,h1,h⟩
def dM(d:Nat):Bool:=decide (¬d&&&32=0)
def eF(d:Nat):Nat:=[if dM d=true then 1 else 0,2,4,8].getD (d/64) 0
def iz(d:Nat):Nat:=[0,1,2,4].getD (d % 4) 0
def p8(x:Nat):Nat:=2^min (10+x/8) 50+2^min (10+x/8) 50/8*(x % 8)
def jF(E:List UInt8):Nat×Nat×Nat×Bool×Bool×Nat:=
 let d:=byte E 4
 let wide:=eF d
 let id:=iz d
 let one:=if dM d=true then 0 else 1
 if ¬d&&&8=0 then(2,0,0,false,false,0)
 else if W E<5+id+wide+one then(2,0,0,false,false,0)
 else if ¬num (ag E (5+one) id)=0 then(2,0,0,false,false,0)
 else if wide=8/\64<=byte E (5+one+id+7)then(0,0,0,false,false,0)
 else
   let size:=num (ag E (5+one+id) wide)+(if wide=2 then 256 else 0)
   let aR:=if dM d=true then size else p8 (byte E 5)
   if 8388608<aR then(0,0,0,false,false,0)
   else(1,size,aR,decide (0<wide),decide (¬d&&&4=0),5+one+id+wide)
variable {d q:Nat}{p:Prop}
def Nv(h: ¬d&&&32=0):dM d=true:=sL h
def EY(h: ¬ ¬d&&&32=0): ¬dM d=true:=λe=>h (tE e)
def agG(h: ¬ ¬d&&&32=0):dM d=false:=by
 cases e:dM d with
 |false=>rfl
 |true=>exact absurd e (EY h)
def RV(h: ¬ ¬ ¬d&&&32=0):dM d=true:=Nv (λe=>h (λa=>a e))
def agH(d:Nat):eF d=8\/eF d<=4:=by
 unfold eF
 match d/64 with
 |0=>right;show(if dM d=true then 1 else 0)<=4;split<;>omega
 |1=>right;show 2<=4;omega
 |2=>right;show 4<=4;omega
 |3=>left;rfl
 |n+4=>right;exact cj _
def zF{P:Program}{ρ:Env}{T T' ty:TypeId}{x y z:Operand}[hu:cu P T (.slice T')]{s:Nat} [hs:Sz P T' s]{ad:Option Addr}{len cap:Nat}{u b:Int}{k k':IntKind}(a n:Nat)(c:aL ρ x= .slice ad len cap)(d:aL ρ y= .int k u)(e:aL ρ z= .int k' b) [h1:av u a] [h2:av b (a+n)](f:a+n<=cap):run P ρ (.slice T x (some y) (some z) none) ty w= .ok (.value (.slice (cut ad cap a s) n (cap-a))) w:=by
 rw[wm c d e (lV _ _) f,tH]
def agI{d:Nat}:eF d<=8:=by unfold eF;exact GO _ (by split<;>omega)
def agJ{d:Nat}:iz d<=4:=GO _ I
def zG{D:List UInt8}{q n:Nat}(h:n<=4):num (ag D q n)<=4294967295:=by
 have h1:= @qp D q n;have h2:2^(8*n)<=2^32:=dF I I;omega
def atc{D:List UInt8}(a:q+8<=W D)(h:(aa D (q+7) 0).toNat<64):num (ag D q 8)<=4611686018427387903:=by
 have b:W (ag D q 8)=8:=dK a;have e:=tR (ag D q 8) 7 I;have e2:(ag D q 8).take (7+1)=ag D q 8:=je I;rw[e2,lD I]at e;have h1:=Ek (ag D q 8) 7;omega
def agK(h:p:=by refine g_ 3 ?_;refine ak (eR (b:=256) (h2:=av.lit _) J J (by have:= @zG D (q+(5+(if dM (aa D (q+4) 0).toNat=true then 0 else 1)+(iz (aa D (q+4) 0).toNat))) (eF (aa D (q+4) 0).toNat) I;simp only[aN];omega)) ?_;refine qm J (cI ?_);intro w h;exact aJ ⟨aS,az,(by first| (rw[ao G8];exact h)| (rw[aj G8,kN];exact h))⟩):p:=h
def agL(h:p:=by refine g_ 4 ?_;refine cI ?_;intro w h;exact aJ ⟨aS,az,(by first| (have e:=Nv J1;rw[e]at h ⊢;exact h)| (have e:=agG J1;rw[e]at h ⊢;exact h))⟩):p:=h
def agM(h:p:=by exact a8 ⟨aS,az,(by first| (have e:=Nv J1;rw[e]at h ⊢;exact h)| (have e:=agG J1;rw[e]at h ⊢;exact h))⟩):p:=h
def agN(h:p:=by refine⟨_,rX [_,_,_,_] h J iG J,?_⟩;exact⟨1,_,_,_,_,_,J,(by rw[hH]),λ_=>hH,h.tail.tail⟩):p:=h
def agO(h:p:=by exact a8 ⟨aS,az,(by first| (rw[ao G8];exact h)| (rw[aj G8,kN];exact h))⟩):p:=h
def atd{db:Nat}{ad:Option Addr}{D:List UInt8}{len cap:Nat}{T:TT}(h:H r w F)(hm:(ah db (D.map u8) T)∈F)(l:0<len->ad=some ⟨db,q,none⟩)(O:q+len<=W D)(Y:len<=cap)(hlen:len<=140737488355328)(Z:5<=len):Calls PP 33 #[.slice ad len cap] w λe w'=> ∃v hs hw hk hu at_,e= .returned (.tuple #[.agg #[af hs,af hw,.bool hk,.bool hu],af at_,af v])/\(jF (ag D q len)).1=v/\(v=1->jF (ag D q len)=(1,hs,hw,hk,hu,at_))/\H r w' F:=by
 obtain⟨wD,wE⟩:=dw hm;have g:=dK O;have hd:=toNat_le (aa D (q+4) 0);have hx:=toNat_le (aa D (q+5) 0);have kB:= @agI (aa D (q+4) 0).toNat;have Q:= @agJ (aa D (q+4) 0).toNat;have i:byte (ag D q len) 4=(aa D (q+4) 0).toNat:=AJ I;refine D9 (P:=PP) func33 135 ntmps33 2 95 [3,4] J J (args:=[_]) J (bY (fD (eN h J ?_)));intro j w h;refine g_ 6 ?_;refine ak (da (a:=4) (h1:=av.lit _) J J (l I) I) (aX h J (gX I) ?_);refine g_ 16 ?_;refine Jt J J J J (uL _ _ _ _) h ?_;intro R w h;refine ee (aJ (cW [(21,23)] (λρ w=>Kn ρ []/\H r w ((ah R [af (if dM (aa D (q+4) 0).toNat=true then 1 else 0),af 2,af 4,af 8] 3)::(ah j [af 0,af 0,.bool false,.bool false] 95)::F)) ?_ ?_))
 refine g_ 4 ?_;refine au J ?_ ?_<;>intro x
 refine fD (dg (ak (j8 (a:=0) (h1:=av.lit _) J J (by first|rfl|assumption|exact tK J I|exact eU J I|exact eU (by assumption) I) I) ?_));refine iX (af 1) ?_;intro w h;exact aJ ⟨aS,az,(by first| (rw[ao (Nv x)];exact h)| (rw[aj (EY x)];exact h))⟩
 exact a8 ⟨aS,az,(by first| (rw[ao (Nv x)];exact h)| (rw[aj (EY x)];exact h))⟩
 rintro ρ w ⟨⟨ny,rfl⟩,h⟩;refine cW [(9,10),(24,33)] (λρ w=>Kn ρ [(9,af (eF (aa D (q+4) 0).toNat)),(10,af (iz (aa D (q+4) 0).toNat))]/\H r w ((ah j [af 0,af 0,.bool false,.bool false] 95)::F)) ?_ ?_
 refine cm h [0,4,8,12,24,28,17,40,22,32,37,44] ?_;intro w h;refine aC 5 ?_;refine aD J (wT J J aG) (aQ J h J (ud (a:=if dM (aa D (q+4) 0).toNat=true then 1 else 0) (b:=2) (c:=4) (d:=8) I) (fG J (Eh J J J J J (uL _ _ _ _) h ?_)));intro S w h;refine aC 1 ?_;refine aQ J h J (ud (a:=0) (b:=1) (c:=2) (d:=4) I) (fG J (cO ?_));replace h:=h.tail.tail;(try dsimp only[dX]at h);exact⟨aS,az,h⟩
 rintro ρ w ⟨⟨mn,rfl⟩,h⟩;refine g_ 7 ?_;refine ak (At (aqJ _ _) J J) (eN h J ?_);intro o w h;refine cI ?_;intro w h;refine g_ 8 ?_;refine au J ?_ ?_<;>intro k
 refine bY (fD (ak (jx [_,_,_,_] h J iG J) (cI ?_)));intro w h;refine g_ 4 ?_;refine⟨_,rX [_,_,_,_] h J iG J,?_⟩;exact⟨2,_,_,_,_,_,J,(by unfold jF;dsimp only;rw[i,g,ao k]),(by intro e;cases e),h.tail.tail⟩
 refine g_ 5 ?_;refine ak (eR (a:=5) (b:=(iz (aa D (q+4) 0).toNat)) J J aG) (dg (ak (eR (a:=5+(iz (aa D (q+4) 0).toNat)) (b:=(eF (aa D (q+4) 0).toNat)) J J aG) (ee (aJ (cW [(12,12),(49,52)] (λρ w=>Kn ρ [(12,af (5+(iz (aa D (q+4) 0).toNat)+(eF (aa D (q+4) 0).toNat)+(if dM (aa D (q+4) 0).toNat=true then 0 else 1)))]/\H r w ((ah o [af 0,af 0,.bool (decide (0<eF (aa D (q+4) 0).toNat)),.bool (decide (¬(aa D (q+4) 0).toNat&&&4=0))] 95)::(ah j [af 0,af 0,.bool false,.bool false] 95)::F)) ?_ ?_)))))
 refine g_ 3 ?_;refine ak (Xl J) (aJ (au J ?_ ?_))<;>intro L
 refine g_ 5 ?_;exact⟨aS,Kn.mk ⟨ie (by rw[aj (EY L)]),trivial⟩,h⟩
 exact a8 ⟨aS,Kn.mk ⟨ie (by rw[ao (RV L)];rfl),trivial⟩,h⟩
 rintro ρ w ⟨⟨nz,rfl⟩,h⟩;refine g_ 8 ?_;refine au J ?_ ?_<;>intro U
 refine bY (fD (ak (jx [_,_,_,_] h J iG J) (cI ?_)));intro w h;refine g_ 4 ?_;refine⟨_,rX [_,_,_,_] h J iG J,?_⟩;exact⟨2,_,_,_,_,_,J,(by unfold jF;dsimp only;rw[i,g,aj k,ao I]),(by intro e;cases e),h.tail.tail⟩
 have A: ¬dM (aa D (q+4) 0).toNat=true->byte (ag D q len) 5=(aa D (q+5) 0).toNat:=λf=>(by rw[aj f]at U;exact AJ I);have B:(eF (aa D (q+4) 0).toNat)=8->byte (ag D q len) ((5+(if dM (aa D (q+4) 0).toNat=true then 0 else 1)+(iz (aa D (q+4) 0).toNat))+7)=(aa D (q+((5+(if dM (aa D (q+4) 0).toNat=true then 0 else 1)+(iz (aa D (q+4) 0).toNat))+7)) 0).toNat:=λf=>AJ I
 have y: ∀z,(if dM (aa D (q+4) 0).toNat=true then z else p8 (byte (ag D q len) 5))=(if dM (aa D (q+4) 0).toNat=true then z else p8 (aa D (q+5) 0).toNat):=λz=>by
  by_cases f:dM (aa D (q+4) 0).toNat=true
  rw[ao f,ao f]
  rw[aj f,aj f,A f]
 refine a8 (cW [(6,6),(58,85)] (λρ w=>Kn ρ [(6,af (5+(if dM (aa D (q+4) 0).toNat=true then 0 else 1)))]/\H r w ((ah o [af 0,af (if dM (aa D (q+4) 0).toNat=true then 0 else p8 (aa D (q+5) 0).toNat),.bool (decide (0<eF (aa D (q+4) 0).toNat)),.bool (decide (¬(aa D (q+4) 0).toNat&&&4=0))] 95)::(ah j [af 0,af 0,.bool false,.bool false] 95)::F)) ?_ ?_)
 refine g_ 3 ?_;refine ak (Xl J) (aJ (au J ?_ ?_))<;>intro m
 have C:2^min (10+(aa D (q+5) 0).toNat/2^3) 50<=1125899906842624:=aM (dF I (WT _ _)) an;have CH:(if dM (aa D (q+4) 0).toNat=true then 0 else 1)=1:=aj (EY m);have mL:2^min (10+(aa D (q+5) 0).toNat/2^3) 50/8*((aa D (q+5) 0).toNat % 2^3)<=9007199254740992:=aM (tG (aM (k6 _ _) C) (BJ (dY _ an))) an;refine g_ 4 ?_;refine ak (da (a:=5) (h1:=av.lit _) J J (l I) I) (aX h J (gX I) ?_);refine g_ 3 ?_;refine ak (Ao (b:=50) (h2:=av.lit _) J J) (ak (gY J J dQ aG) ?_);refine qm J (iX (af (2^min (10+(aa D (q+5) 0).toNat/2^3) 50)) ?_);intro w h;refine aJ (bY (cm h [0,8,20,24,28,5,13,16,33,36,40,44,48,52,59] ?_));intro w h;refine aC 4 ?_;refine aD J (da (a:=5) (h1:=av.lit _) J J (l I) I) ?_;refine aC 2 ?_;refine aD J (nS (b:=8) (h2:=av.lit _) J J I aG) (aQ J h J (gX I) ?_);refine aC 1 ?_;refine aD J (kJ (n:=3) J J aG aG) (aD J (BQ J J aG) ?_);refine aC 2 ?_;refine cI ?_;intro w h;refine cO ?_;refine g_ 5 ?_;exact⟨aS,Kn.mk ⟨ie (by rw[aj (EY m)]),trivial⟩,(by first| (rw[aj (EY m)];exact h)| (rw[ao (RV m)];exact h))⟩
 exact a8 ⟨aS,Kn.mk ⟨ie (by rw[ao (RV m)]),trivial⟩,(by first| (rw[aj (EY m)];exact h)| (rw[ao (RV m)];exact h))⟩
 rintro ρ w ⟨⟨r_,rfl⟩,h⟩;refine g_ 8 ?_;refine ak (zF (5+(if dM (aa D (q+4) 0).toNat=true then 0 else 1)) (iz (aa D (q+4) 0).toNat) J J J I) (d' J J (aH (tV (ad:=cut ad cap (5+(if dM (aa D (q+4) 0).toNat=true then 0 else 1)) 1) (q:=q+(5+(if dM (aa D (q+4) 0).toNat=true then 0 else 1))) (len:=(iz (aa D (q+4) 0).toNat)) h (aA (aA hm)) (λM=>eU (l I) I) I I (aM (zG Q) I)) ?_));rintro e N ⟨rfl,rfl⟩;refine g_ 2 ?_;refine au J ?_ ?_<;>intro p
 refine bY (fD (ak (jx [_,_,_,_] h J iG J) (cI ?_)));intro w h;refine g_ 4 ?_;refine⟨_,rX [_,_,_,_] h J iG J,?_⟩;exact⟨2,_,_,_,_,_,J,(by unfold jF;dsimp only;rw[i,g,aj k,aj I,jy I,ao p]),(by intro e;cases e),h.tail.tail⟩
 refine g_ 14 ?_;refine eM (t:=100) J (λs=>?_) (λs=>?_)
 refine g_ 3 ?_;refine dI J J J (da (a:=(5+(if dM (aa D (q+4) 0).toNat=true then 0 else 1)+(iz (aa D (q+4) 0).toNat))+7) J J (l I) I) J (dI J J J (run_load h J (gX I)) J ?_);refine g_ 3 ?_;refine au J ?_ ?_<;>intro wM
 refine bY (fD (ak (jx [_,_,_,_] h J iG J) (cI ?_)));intro w h;refine g_ 4 ?_;refine⟨_,rX [_,_,_,_] h J iG J,?_⟩;exact⟨0,_,_,_,_,_,J,(by unfold jF;dsimp only;rw[i,g,aj k,aj I,jy I,aj p,ao ⟨s,by rw[B s];omega⟩]),(by intro e;cases e),h.tail.tail⟩
 refine g_ 8 ?_;refine ak (zF (5+(if dM (aa D (q+4) 0).toNat=true then 0 else 1)+(iz (aa D (q+4) 0).toNat)) (eF (aa D (q+4) 0).toNat) J J J I) ?_
 have E:num (ag D (q+(5+(if dM (aa D (q+4) 0).toNat=true then 0 else 1)+(iz (aa D (q+4) 0).toNat))) (eF (aa D (q+4) 0).toNat))<=9223372036854775807:=by
  rcases agH (aa D (q+4) 0).toNat with G|K
  rw[G];exact aM (atc I (by rw[fL];omega)) I
  exact aM (zG K) I
 refine d' J J (aH (tV (ad:=cut ad cap (5+(if dM (aa D (q+4) 0).toNat=true then 0 else 1)+(iz (aa D (q+4) 0).toNat)) 1) (q:=q+(5+(if dM (aa D (q+4) 0).toNat=true then 0 else 1)+(iz (aa D (q+4) 0).toNat))) (len:=(eF (aa D (q+4) 0).toNat)) h (aA (aA hm)) (λM=>eU (l I) I) I I (E)) ?_);rintro e N ⟨rfl,rfl⟩;refine qm J (cI ?_);intro w h;refine aJ (cW [(117,122)] (λρ w=>Kn ρ []/\H r w ((ah o [af ((num (ag D (q+(5+(if dM (aa D (q+4) 0).toNat=true then 0 else 1)+(iz (aa D (q+4) 0).toNat))) (eF (aa D (q+4) 0).toNat)))+(if(eF (aa D (q+4) 0).toNat)=2 then 256 else 0)),af (if dM (aa D (q+4) 0).toNat=true then 0 else p8 (aa D (q+5) 0).toNat),.bool (decide (0<eF (aa D (q+4) 0).toNat)),.bool (decide (¬(aa D (q+4) 0).toNat&&&4=0))] 95)::(ah j [af 0,af 0,.bool false,.bool false] 95)::F)) ?_ ?_)
 refine g_ 5 ?_;refine au J ?_ ?_<;>intro G8
 exact agK
 exact agO
 rintro ρ w ⟨⟨V,rfl⟩,h⟩;refine cW [(123,126)] (λρ w=>Kn ρ []/\H r w ((ah o [af ((num (ag D (q+(5+(if dM (aa D (q+4) 0).toNat=true then 0 else 1)+(iz (aa D (q+4) 0).toNat))) (eF (aa D (q+4) 0).toNat)))+(if(eF (aa D (q+4) 0).toNat)=2 then 256 else 0)),af (if dM (aa D (q+4) 0).toNat=true then((num (ag D (q+(5+(if dM (aa D (q+4) 0).toNat=true then 0 else 1)+(iz (aa D (q+4) 0).toNat))) (eF (aa D (q+4) 0).toNat)))+(if(eF (aa D (q+4) 0).toNat)=2 then 256 else 0))else p8 (aa D (q+5) 0).toNat),.bool (decide (0<eF (aa D (q+4) 0).toNat)),.bool (decide (¬(aa D (q+4) 0).toNat&&&4=0))] 95)::(ah j [af 0,af 0,.bool false,.bool false] 95)::F)) ?_ ?_
 refine g_ 4 ?_;refine au J ?_ ?_<;>intro J1
 exact agL
 exact agM
 rintro ρ w ⟨⟨X,rfl⟩,h⟩;refine g_ 7 ?_;refine au J ?_ ?_<;>intro u
 refine bY (fD (ak (jx [_,_,_,_] h J iG J) (cI ?_)));intro w h;refine g_ 4 ?_;refine⟨_,rX [_,_,_,_] h J iG J,?_⟩;exact⟨0,_,_,_,_,_,J,(by unfold jF;dsimp only;rw[i,g,aj k,aj I,jy I,aj p,aj (by intro f;have:=f.2;rw[B f.1]at this;omega),jy I,y,ao u]),(by intro e;cases e),h.tail.tail⟩
 refine g_ 3 ?_;refine ak (jx [_,_,_,_] h J iG J) ?_;refine g_ 3 ?_;refine cI ?_;intro w h;refine g_ 4 ?_;have hH:jF (ag D q len)=(1,((num (ag D (q+(5+(if dM (aa D (q+4) 0).toNat=true then 0 else 1)+(iz (aa D (q+4) 0).toNat))) (eF (aa D (q+4) 0).toNat)))+(if(eF (aa D (q+4) 0).toNat)=2 then 256 else 0)),(if dM (aa D (q+4) 0).toNat=true then((num (ag D (q+(5+(if dM (aa D (q+4) 0).toNat=true then 0 else 1)+(iz (aa D (q+4) 0).toNat))) (eF (aa D (q+4) 0).toNat)))+(if(eF (aa D (q+4) 0).toNat)=2 then 256 else 0))else p8 (aa D (q+5) 0).toNat),decide (0<(eF (aa D (q+4) 0).toNat)),decide (¬(aa D (q+4) 0).toNat&&&4=0),(5+(if dM (aa D (q+4) 0).toNat=true then 0 else 1)+(iz (aa D (q+4) 0).toNat))+(eF (aa D (q+4) 0).toNat)):=(by unfold jF;dsimp only;rw[i,g,aj k,aj I,jy I,aj p,aj (by intro f;have:=f.2;rw[B f.1]at this;omega),jy I,y,aj u]);exact agN
 refine g_ 8 ?_;refine gK J ?_;refine g_ 8 ?_;refine ak (zF (5+(if dM (aa D (q+4) 0).toNat=true then 0 else 1)+(iz (aa D (q+4) 0).toNat)) (eF (aa D (q+4) 0).toNat) J J J I) ?_
 have E:num (ag D (q+(5+(if dM (aa D (q+4) 0).toNat=true then 0 else 1)+(iz (aa D (q+4) 0).toNat))) (eF (aa D (q+4) 0).toNat))<=9223372036854775807:=by
  rcases agH (aa D (q+4) 0).toNat with G|K
  exact absurd G s
  exact aM (zG K) I
 refine d' J J (aH (tV (ad:=cut ad cap (5+(if dM (aa D (q+4) 0).toNat=true then 0 else 1)+(iz (aa D (q+4) 0).toNat)) 1) (q:=q+(5+(if dM (aa D (q+4) 0).toNat=true then 0 else 1)+(iz (aa D (q+4) 0).toNat))) (len:=(eF (aa D (q+4) 0).toNat)) h (aA (aA hm)) (λM=>eU (l I) I) I I (E)) ?_);rintro e N ⟨rfl,rfl⟩;refine qm J (cI ?_);intro w h;refine aJ (cW [(117,122)] (λρ w=>Kn ρ []/\H r w ((ah o [af ((num (ag D (q+(5+(if dM (aa D (q+4) 0).toNat=true then 0 else 1)+(iz (aa D (q+4) 0).toNat))) (eF (aa D (q+4) 0).toNat)))+(if(eF (aa D (q+4) 0).toNat)=2 then 256 else 0)),af (if dM (aa D (q+4) 0).toNat=true then 0 else p8 (aa D (q+5) 0).toNat),.bool (decide (0<eF (aa D (q+4) 0).toNat)),.bool (decide (¬(aa D (q+4) 0).toNat&&&4=0))] 95)::(ah j [af 0,af 0,.bool false,.bool false] 95)::F)) ?_ ?_)
 refine g_ 5 ?_;refine au J ?_ ?_<;>intro G8
 exact agK
 exact agO
 rintro ρ w ⟨⟨V,rfl⟩,h⟩;refine cW [(123,126)] (λρ w=>Kn ρ []/\H r w ((ah o [af ((num (ag D (q+(5+(if dM (aa D (q+4) 0).toNat=true then 0 else 1)+(iz (aa D (q+4) 0).toNat))) (eF (aa D (q+4) 0).toNat)))+(if(eF (aa D (q+4) 0).toNat)=2 then 256 else 0)),af (if dM (aa D (q+4) 0).toNat=true then((num (ag D (q+(5+(if dM (aa D (q+4) 0).toNat=true then 0 else 1)+(iz (aa D (q+4) 0).toNat))) (eF (aa D (q+4) 0).toNat)))+(if(eF (aa D (q+4) 0).toNat)=2 then 256 else 0))else p8 (aa D (q+5) 0).toNat),.bool (decide (0<eF (aa D (q+4) 0).toNat)),.bool (decide (¬(aa D (q+4) 0).toNat&&&4=0))] 95)::(ah j [af 0,af 0,.bool false,.bool false] 95)::F)) ?_ ?_
 refine g_ 4 ?_;refine au J ?_ ?_<;>intro J1
 exact agL
 exact agM
 rintro ρ w ⟨⟨X,rfl⟩,h⟩;refine g_ 7 ?_;refine au J ?_ ?_<;>intro u
 refine bY (fD (ak (jx [_,_,_,_] h J iG J) (cI ?_)));intro w h;refine g_ 4 ?_;refine⟨_,rX [_,_,_,_] h J iG J,?_⟩;exact⟨0,_,_,_,_,_,J,(by unfold jF;dsimp only;rw[i,g,aj k,aj I,jy I,aj p,aj (λf=>s f.1),jy I,y,ao u]),(by intro e;cases e),h.tail.tail⟩
 refine g_ 3 ?_;refine ak (jx [_,_,_,_] h J iG J) ?_;refine g_ 3 ?_;refine cI ?_;intro w h;refine g_ 4 ?_;have hH:jF (ag D q len)=(1,((num (ag D (q+(5+(if dM (aa D (q+4) 0).toNat=true then 0 else 1)+(iz (aa D (q+4) 0).toNat))) (eF (aa D (q+4) 0).toNat)))+(if(eF (aa D (q+4) 0).toNat)=2 then 256 else 0)),(if dM (aa D (q+4) 0).toNat=true then((num (ag D (q+(5+(if dM (aa D (q+4) 0).toNat=true then 0 else 1)+(iz (aa D (q+4) 0).toNat))) (eF (aa D (q+4) 0).toNat)))+(if(eF (aa D (q+4) 0).toNat)=2 then 256 else 0))else p8 (aa D (q+5) 0).toNat),decide (0<(eF (aa D (q+4) 0).toNat)),decide (¬(aa D (q+4) 0).toNat&&&4=0),(5+(if dM (aa D (q+4) 0).toNat=true then 0 else 1)+(iz (aa D (q+4) 0).toNat))+(eF (aa D (q+4) 0).toNat)):=(by unfold jF;dsimp only;rw[i,g,aj k,aj I,jy I,aj p,aj (λf=>s f.1),jy I,y,aj u]);exact agN
def iM(aR aq:Nat)(E:List UInt8)(s:Fs)(kind size a:Nat):Nat×Fs:=
 if kind=0 then(1,{s with out:=s.out++ag E a size})
 else if kind=1 then(1,{s with out:=s.out++aT size (aa E a 0)})
 else iL aR aq s (ag E a size)
def gp(aR aq room:Nat)(E:List UInt8):Nat->Nat->Fs->Nat×Fs×Nat
 |0,_,s=>(2,s,0)
 | f+1,at_,s=>
   if W E<at_+3 then(2,s,0)
   else
     let n:=num (ag E at_ 3)
     let kind:=n/2 % 4
     let size:=n/8
     let a:=if kind=1 then 1 else size
     if(kind=3\/131072<size)\/W E<at_+3+a then(2,s,0)
     else if aR<size then(0,s,0)
     else
       let r:=iM aR aq E s kind size (at_+3)
       if r.1≠1 then(r.1,s,0)
       else if room<W r.2.out then(0,s,0)
       else if n % 2=1 then(1,r.2,at_+3+a)
       else gp aR aq room E f (at_+3+a) r.2
def ve:Fs:=⟨[],none,[none,none,none],1,4,8⟩
def p9(E:List UInt8)(room:Nat):Nat×List UInt8×Nat:=
 let h:=jF E
 if h.1≠1 then(h.1,[],0)
 else
   let size:=h.2.1
   let aR:=h.2.2.1
   let aq:=if ¬byte E 4&&&32=0 then 131072 else min 131072 aR
   let x:=gp aR aq room E (W E+1) h.2.2.2.2.2 ve
   if x.1≠1 then(x.1,[],0)
   else if h.2.2.2.1=true/\ ¬W x.2.1.out=size then(2,[],0)
   else if h.2.2.2.2.1=true then
     (if W E<x.2.2+4\/ ¬num (ag E x.2.2 4) % 4294967296=lF x.2.1.out % 4294967296 then(2,[],0)else(1,x.2.1.out,x.2.2+4))
   else(1,x.2.1.out,x.2.2)
def ij(E:List UInt8)(room:Nat):Nat×List UInt8×Nat:=
 if W E<4 then(2,[],0)
 else
   let a:=num (ag E 0 4)
   if a/16*16=407710288 then
     (if W E<8 then(2,[],0)else if W E<8+num (ag E 4 4)then(2,[],0)else(1,[],8+num (ag E 4 4)))
   else if ¬a=4247762216\/W E<5 then(2,[],0)
   else p9 E room
def qy(E:List UInt8):Nat->Nat->List UInt8->Nat×List UInt8
 |0,_,_=>(2,[])
 | f+1,at_,out=>
   if at_<W E then
     let x:=ij (E.drop at_) (4194304-W out)
     if x.1≠1 then(x.1,[])else qy E f (at_+x.2.2) (out++x.2.1)
   else(1,out)
def mx(E:List UInt8):Nat×List UInt8:=if W E=0 then(0,[])else qy E (W E+1) 0 []
variable {ops:Array Oper}{f:FuncId}{m:Nat}{ord:Ot}
section
variable {P:Program}{n:Nat}{K:ia}{ρ:Env}{w:World}{all:Array Oper}{d:Option Nat}{ty:TypeId}{pos:String}{aV:Array Edge}{g t:Nat}{want:Bool}
theorem agQ(h:D P n ops ord K ρ w){a:Act}(h1:a.tmps.size=n)(h2:a.defers=[])(b:mF a=ρ):uH P ops (up n K) ord a w:=by
 unfold D at h;exact h a h1 h2 b
theorem atf(h: ∀a:Act,a.tmps.size=n->a.defers=[]->mF a=ρ->uH P ops (up n K) ord a w):D P n ops ord K ρ w:=by
 unfold D;exact h
def atg{i:Nat}{rest:Ot}{op:Op}{args:Array Value}{b:World}(hi:all[i]? =some {dst:=d,op:=op,type:=ty,pos:=pos,after:=aV,guard:=some (g,want)})(k:(all[g]?).bind (·.dst)=some t)(l:Nat.blt t n=true)(hv:ρ t= .bool want)(m:run P ρ op ty w= .ok (.enter f args) b)(hd:bH n d=true)(h:Calls P f args b λe j=> ∃v,e= .returned v/\D P n all rest K (fU ρ d v) j):D P n all (.cons (i,.h) rest) K ρ w:=
 Gd (.inr J) hi λa h1 h2 c=> .inl ⟨Jh k (by rw[h1];exact l) (by rw[c];exact hv),.inr (.inr ⟨f,args,b,by rw[qS,c,rQ];exact m,h.mono λe j ⟨v,o,p⟩=>⟨v,o,λe=>absurd J e,
   agQ p (by rw[size_put,h1]) (by rw[pe,h2]) (by rw[pf a d v (by rw[h1];exact hd),c])⟩⟩)⟩
def ath{ord:Ot}[Body P f] {x0:Operand} {v0:Value} {ts:Array TypeId} (hi:all[m]? =some {dst:=d,op:= .call {callee:= .value (.func f),args:= #[x0],argTypes:=ts},type:=ty,pos:=pos,after:=aV,guard:=some (g,want)})
 (a:(all[g]?).bind (·.dst)=some t) (b:Nat.blt t n=true) (hv:ρ t= .bool want) (c:aL ρ x0=v0) (hd:bH n d=true)
 (h:Calls P f #[v0] w λe w'=> ∃v,e= .returned v/\D P n all ord K (fU ρ d v) w'):
 D P n all (.cons (m,.h) ord) K ρ w:=atg hi a b hv Ji hd ((show(#[x0]:Array Operand).map (aL ρ)= #[v0] by simp[c])▸h)
def ati{ord:Ot}[Body P f] {x0:Operand} {v0:Value} {ts:Array TypeId} (hi:all[m]? =some {dst:=d,op:= .call {callee:= .value (.func f),args:= #[x0],argTypes:=ts},type:=ty,pos:=pos,after:=aV,guard:=some (g,want)})
 (a:(all[g]?).bind (·.dst)=some t) (b:Nat.blt t n=true) (hv:ρ t= .bool want) (c:aL ρ x0=v0) (hd:bH n d=true)
 (h:Calls P f #[v0] w λe w'=> ∃v,e= .returned v/\ft w w'/\D P n all ord K (fU ρ d v) w'):
 D P n all (.cons (m,.g) ord) K ρ w:=ao_ hi a b hv Ji hd ((show(#[x0]:Array Operand).map (aL ρ)= #[v0] by simp[c])▸h)
end
variable {hk hu:Bool}{s:Fs}{E:List UInt8}{a c db f hs hv hw aq n aR:Nat}
def atj{P:Program}{K:ia}{ρ:Env}{all:Array Oper}{t:Nat}{p:Bool}(a:ρ t= .bool p)(h1:p=true->D P n all ord K (Env.set ρ t (.bool true)) w)(h2:p=false->D P n all ord K (Env.set ρ t (.bool false)) w):D P n all ord K ρ w:=by
 cases p
 have:=h2 J;rwa [Env.BS a]at this
 have:=h1 J;rwa [Env.BS a]at this
def H.agR{e:aK}{G:List aK}(h:H r w (e::(G++F))):H r w (e::F):=by
 have:H r w (G++(e::F)):=h.perm List.perm_middle.symm;exact H.n5 this
def atk{at_:Nat}(h:jF E=(1,hs,hw,hk,hu,at_)):5<=at_/\at_<=W E/\hw<=8388608:=by
 unfold jF at h;dsimp only at h;by_cases c1: ¬byte E 4&&&8=0
 rw[ao c1]at h;cases h
 rw[aj c1]at h;by_cases c2:W E<5+iz (byte E 4)+eF (byte E 4)+(if dM (byte E 4)=true then 0 else 1)
 rw[ao c2]at h;cases h
 rw[aj c2]at h;by_cases a: ¬num (ag E (5+(if dM (byte E 4)=true then 0 else 1)) (iz (byte E 4)))=0
 rw[ao a]at h;cases h
 rw[aj a]at h;by_cases b:eF (byte E 4)=8/\64<=byte E (5+(if dM (byte E 4)=true then 0 else 1)+iz (byte E 4)+7)
 rw[ao b]at h;cases h
 rw[aj b]at h;obtain⟨bO,d⟩: ∃bO,(if dM (byte E 4)=true then num (ag E (5+(if dM (byte E 4)=true then 0 else 1)+iz (byte E 4)) (eF (byte E 4)))+(if eF (byte E 4)=2 then 256 else 0)else p8 (byte E 5))=bO:=⟨_,J⟩;rw[d]at h;by_cases c:8388608<bO
 rw[ao c]at h;cases h
 rw[aj c]at h;cases h;omega
def atl{ts:Nat->Tb}{w:Nat}{out:List UInt8}{b:Nat}{text:List UInt8}{many:Nat}{x:agl}(h:lP ts w m out a b c text many E=x)(h1:x.1=1):W x.2.1<=W out+m:=by
 subst h;revert h1;unfold lP;split
 intro e;cases e
 split
 intro e;cases e
 dsimp only;split
 intro e;rename_i d;exact absurd e d
 split
 intro e;cases e
 split
 intro e;cases e
 intro _;dsimp only;omega
def atm{b:Fs}(h:iL aR aq s E=(1,b)):W b.out<=W s.out+aq:=by
 unfold iL at h;dsimp only at h;split at h
 rename_i a;exact absurd (cD Prod.fst h) a
 split at h
 cases h
 split at h
 cases h
 split at h
 split at h
 cases h
 cases h;rw[aF];omega
 unfold wV at h;split at h
 cases h
 split at h
 cases h
 dsimp only at h;split at h
 rename_i a;exact absurd (cD Prod.fst h) a
 have e2:=cD (λz=>z.2.out) h;have c:=cD (λz=>z.1) h;dsimp only at c e2;rw[<-e2];exact atl J c
def atn{room:Nat}{at_:Nat}(h:W E<at_+3):(gp aR aq room E (f+1) at_ s).1=2:=by
 rw[gp,ao h]
def Zk{room:Nat}{at_:Nat}(a:num (ag E at_ 3)=n)(h1:at_+3<=W E)(b:hv=if n/2^1 % 4=1 then 1 else n/2^3)(h2:(n/2^1 % 4=3\/131072<n/2^3)\/W E<at_+3+hv):(gp aR aq room E (f+1) at_ s).1=2:=by
 subst a;simp only[DR,show(2:Nat)^3=8 from J]at*;subst b;rw[gp,aj I];dsimp only;rw[ao h2]
def ato{room:Nat}{at_:Nat}(a:num (ag E at_ 3)=n)(h1:at_+3<=W E)(b:hv=if n/2^1 % 4=1 then 1 else n/2^3)(h2: ¬((n/2^1 % 4=3\/131072<n/2^3)\/W E<at_+3+hv))(c:aR<n/2^3):(gp aR aq room E (f+1) at_ s).1=0:=by
 subst a;simp only[DR,show(2:Nat)^3=8 from J]at*;subst b;rw[gp,aj I];dsimp only;rw[aj h2,ao c]
def atp{room:Nat}{at_ v:Nat}(a:num (ag E at_ 3)=n)(h1:at_+3<=W E)(b:hv=if n/2^1 % 4=1 then 1 else n/2^3)(h2: ¬((n/2^1 % 4=3\/131072<n/2^3)\/W E<at_+3+hv))(c: ¬aR<n/2^3)(hb:(iM aR aq E s (n/2^1 % 4) (n/2^3) (at_+3)).1=v)(hv:v≠1):(gp aR aq room E (f+1) at_ s).1=v:=by
 subst a;simp only[DR,show(2:Nat)^3=8 from J]at*;subst b;rw[gp,aj I];dsimp only;subst hb;rw[aj h2,aj c,ao hv]
def agS{room:Nat}{at_:Nat}{s1:Fs}(a:num (ag E at_ 3)=n)(h1:at_+3<=W E)(b:hv=if n/2^1 % 4=1 then 1 else n/2^3)(h2: ¬((n/2^1 % 4=3\/131072<n/2^3)\/W E<at_+3+hv))(c: ¬aR<n/2^3)(hb:iM aR aq E s (n/2^1 % 4) (n/2^3) (at_+3)=(1,s1)):gp aR aq room E (f+1) at_ s=if room<W s1.out then(0,s,0)else if n % 2=1 then(1,s1,at_+3+hv)else gp aR aq room E f (at_+3+hv) s1:=by
 subst a;simp only[DR,show(2:Nat)^3=8 from J]at*;subst b;rw[gp,aj I];dsimp only;rw[aj h2,aj c,hb];rfl
def ya(E:List UInt8)(hs:Nat)(hk hu:Bool)(x:Nat×Fs×Nat):Nat×List UInt8×Nat:=
 if x.1≠1 then(x.1,[],0)
 else if hk=true/\ ¬W x.2.1.out=hs then(2,[],0)
 else if hu=true then
   (if W E<x.2.2+4\/ ¬num (ag E x.2.2 4) % 4294967296=lF x.2.1.out % 4294967296 then(2,[],0)else(1,x.2.1.out,x.2.2+4))
 else(1,x.2.1.out,x.2.2)
def atq{room a:Nat}(h:jF E=(1,hs,hw,hk,hu,a)):p9 E room=ya E hs hk hu (gp hw (if ¬byte E 4&&&32=0 then 131072 else min 131072 hw) room E (W E+1) a ve):=by
 unfold p9 ya;rw[h];rfl
def G_{v:Nat}{x:Nat×Fs×Nat}(h:x.1=v)(hv:v≠1):(ya E hs hk hu x).1=v:=by
 unfold ya;rw[ao (by rw[h];exact hv)];exact h
def atr(h:hk=true/\ ¬W s.out=hs):(ya E hs hk hu (1,s,a)).1=2:=by
 unfold ya;rw[aj (λe=>e J),ao h]
def agT(h: ¬(hk=true/\ ¬W s.out=hs))(b:hu=true)(c:num (ag E a 4)=n)(h2:W E<a+4\/ ¬n % 4294967296=lF s.out % 4294967296):(ya E hs hk hu (1,s,a)).1=2:=by
 subst c;unfold ya;rw[aj (λe=>e J),aj h,ao b,ao h2]
def ats(h: ¬(hk=true/\ ¬W s.out=hs))(b:hu=true)(c:num (ag E a 4)=n)(h2: ¬(W E<a+4\/ ¬n % 4294967296=lF s.out % 4294967296)):ya E hs hk hu (1,s,a)=(1,s.out,a+4):=by
 subst c;unfold ya;rw[aj (λe=>e J),aj h,ao b,aj h2]
def att(h: ¬(hk=true/\ ¬W s.out=hs))(b: ¬hu=true):ya E hs hk hu (1,s,a)=(1,s.out,a):=by
 unfold ya;rw[aj (λe=>e J),aj h,aj b]
def atu{ob:Option Nat}{O:List UInt8}{sp:List Value}{D:List UInt8}{a:TT}(h:H r w F)(hm:(ob,C (O.map u8++sp) 5)∈F)(hk:b8 ob (W O) c (O.map u8) sp 1)(d:(ah db (D.map u8) a)∈F)(hlen:W O<=140737488355328):Calls PP 15 #[.slice (aI ob) (W O) c] w λe w'=>e= .returned (bR (lF O % 4294967296))/\H r w' F:=by
 cases ob with
 | some b=>
   have:=afN (q:=0) (ad:=some ⟨b,0,none⟩) (len:=W O) (cap:=c) h hm (λ_=>rfl) I hk.2.2.1 hlen
   have e:ag O 0 (W O)=O:=by unfold ag;rw[xA,BL]
   rwa [e]at this
 | none=>
   have f:=hk.2.2.2 J
   have h1:=hk.2.2.1
   have e:O=[]:=List.eq_nil_of_length_eq_zero I
   subst e;subst f
   exact afN (q:=0) (ad:=none) (len:=0) (cap:=0) (sp:=[]) (D:=D) (T:=a) h (by rw[dN];exact d) (λh=>absurd h I) I I I
def atv(k:Nat)(hk:k<3):tZ F ([.pointer none,.pointer none,.pointer none].getD k undef) (aa ve.bI k none):=by
 rcases(I:k=0\/k=1\/k=2)with rfl|rfl|rfl<;>rfl
def atw:Nu ve:=⟨(by intro t e;cases e),J,(by intro k hk t e;rcases(I:k=0\/k=1\/k=2)with rfl|rfl|rfl<;>cases e),by decide,by decide,by decide,by decide⟩
def atx{ad:Option Addr}{D:List UInt8}{len cap:Nat}{T:TT}{room:Nat}(h:H r w F)(hm:(ah db (D.map u8) T)∈F)(z:0<len->ad=some ⟨db,q,none⟩)(hq:q+len<=W D)(j9:len<=cap)(hlen:len<=140737488355328)(h5:5<=len)(pV:room<=4194304):Calls PP 23 #[.slice ad len cap,af room] w λe w'=> ∃v mu nv cv n,e= .returned (.tuple #[.slice mu nv cv,af n,af v])/\(p9 (ag D q len) room).1=v/\(v≠1->H r w' F)/\(v=1-> ∃out ob co sp,p9 (ag D q len) room=(1,out,n)/\mu=aI ob/\nv=W out/\cv=co/\b8 ob (W out) co (out.map u8) sp 1/\H r w' (((ob,C (ar u8 out++sp) 5))::F)):=by
 obtain⟨wD,wE⟩:=dw hm;have eo:=dK hq;have sf:byte (ag D q len) 4=(aa D (q+4) 0).toNat:=AJ I;have hd:=toNat_le (aa D (q+4) 0);refine iI func23 ntmps23 [4,5,6] ?_;refine g_ 9 ?_;refine d' J J (aH (atd h hm z hq j9 hlen h5) ?_);rintro e w1 ⟨v,hs,hw,hk,hu,si,rfl,gA,lh,h⟩;refine g_ 4 ?_;refine eN h J ?_;intro bh w h;refine cI ?_;intro w h;refine g_ 9 ?_;refine au J ?_ ?_<;>intro JB
 refine g_ 8 ?_;exact⟨v,none,0,0,0,J,(by unfold p9;dsimp only;rw[ao (by rw[gA];exact JB)];exact gA),(λ_=>h.tail),(λe=>absurd e JB)⟩
 have vf:v=1:=I;have hH:=lh vf;have hho:=atk hH;rw[eo]at hho;refine g_ 7 ?_;refine ak (Ao (a:=131072) (h1:=av.lit _) J J) (ak (xH (v0:=af 1) (v1:=af 4) (v2:=af 8) (MG _ _ _) J J J) (ak (xH (aqK _ _ _ _ _) J J J) (tL h J J J ?_)));intro bs w h;refine ee (aJ (cW [(34,41)] (λρ w=>Kn ρ []/\H r w ((ah bs [.slice none 0 0,af hw,af (if ¬(aa D (q+4) 0).toNat&&&32=0 then 131072 else min 131072 hw),.pointer none,.pointer none,.pointer none,.pointer none,af 1,af 4,af 8] 101)::(ah bh [af hs,af hw,.bool hk,.bool hu] 95)::F)) ?_ ?_))
 refine g_ 3 ?_;refine ak (da (a:=4) (h1:=av.lit _) J J (z I) I) (aX h J (gX I) ?_);refine g_ 3 ?_;refine au J ?_ ?_<;>intro sZ
 refine g_ 4 ?_;refine iX (af 131072) ?_;intro w h;exact aJ ⟨aS,az,(by first| (rw[ao sZ];exact h)| (rw[aj sZ];exact h))⟩
 exact a8 ⟨aS,az,(by first| (rw[ao sZ];exact h)| (rw[aj sZ];exact h))⟩
 rintro ρ w ⟨⟨ny,rfl⟩,h⟩;refine g_ 6 ?_;refine cM (gp hw (if ¬(aa D (q+4) 0).toNat&&&32=0 then 131072 else min 131072 hw) room (ag D q len) (len+1) si ve) λR nu=>?_;have d:=atq (room:=room) hH;rw[sf,eo,nu]at d;replace h:=(h.ghost (C (ar u8 []++[]) 5)).mv 1;dsimp only[dX]at h;refine cw (σ:=Nat×Nat×Bool×Fs×List aK×Option Addr×Value×Value×Value×Option Nat×Nat×List Value) [(4,6),(8,8),(11,16),(42,144)] (λ⟨f,at_,last,s,G,pp,p0,p1,p2,ob,co,sp⟩ ρ w=>Kn ρ [(8,af at_),(11,.bool last)]/\H r w ((ah bs [.slice (aI ob) (W s.out) co,af hw,af (if ¬(aa D (q+4) 0).toNat&&&32=0 then 131072 else min 131072 hw),.pointer pp,p0,p1,p2,af s.a,af s.b,af s.c] 101)::(ob,C (ar u8 s.out++sp) 5)::(G++F))/\(at_<=len)/\(len+1<=f+at_)/\(RP (G++F) pp p0 p1 p2 s)/\(Nu s)/\(b8 ob (W s.out) co (ar u8 s.out) sp 1)/\(W s.out<=4194304)/\((ah bh [af hs,af hw,.bool hk,.bool hu] 95)∈G)/\(last=false->(gp hw (if ¬(aa D (q+4) 0).toNat&&&32=0 then 131072 else min 131072 hw) room (ag D q len) f at_ s)=R)/\(last=true->(1,s,at_)=R/\W s.out<=room)) (λ⟨f,at_,last,s,G,pp,p0,p1,p2,ob,co,sp⟩=>(if last=true then 0 else len+1-at_)) (len+1,si,false,ve,[(ah bh [af hs,af hw,.bool hk,.bool hu] 95)],none,.pointer none,.pointer none,.pointer none,none,0,[]) ⟨az,h,I,I,⟨J,λk hk=>atv k hk⟩,atw,b8.nil,(cj _),bZ,(λ_=>nu),(by intro e;cases e)⟩ ?_;rintro⟨f,at_,last,s,G,pp,p0,p1,p2,ob,co,sp⟩ ρ w ⟨⟨nz,rfl⟩,h,jU,hf,O,g,B,AF,jM,Zl,gn⟩;refine gg (oA F jM) λihd aIM=>(gg (fM G hm) λaIN aIO=>?_);refine g_ 4 ?_;refine ak (k8 J) (aJ (eY J ?_ ?_))<;>intro EZ
 have mh:last=false:=(by simpa using EZ);have p:=Zl mh;refine aZ (show ∃f',f=f'+1 from⟨f-1,I⟩) (λf' Ha=>?_);rw[Ha]at p;refine g_ 11 ?_;refine au J ?_ ?_<;>intro YR
 refine g_ 7 ?_;exact⟨2,none,0,0,0,J,(by rw[d,<-p];exact G_ (atn I) I),(λ_=>H.n5 h.tail.tail),(λe=>absurd e I)⟩
 have A:num (ag (ag D q len) at_ 3)=num (ag D (q+at_) 3):=(by rw[jy I]);refine g_ 7 ?_;refine ak (zF at_ 3 J J J I) (d' J J (aH (tV (ad:=cut ad cap at_ 1) (q:=q+at_) (len:=3) h (aA (aA (fM _ hm))) (λh0=>eU (z I) I) I I (aM (zG I) I)) ?_));rintro e w1 ⟨rfl,rfl⟩;have vg:= @zG D (q+at_) 3 I;refine g_ 11 ?_;refine ak (kJ (n:=1) J J aG an) ?_;refine g_ 7 ?_;refine ak (wT J J (aM (k6 _ _) aG)) ?_;refine g_ 10 ?_;refine cW [(15,15),(66,67)] (λρ w=> ∃hv:Nat,Kn ρ [(15,af hv)]/\H r w ((ah bs [.slice (aI ob) (W s.out) co,af hw,af (if ¬(aa D (q+4) 0).toNat&&&32=0 then 131072 else min 131072 hw),.pointer pp,p0,p1,p2,af s.a,af s.b,af s.c] 101)::(ob,C (ar u8 s.out++sp) 5)::(G++F))/\(hv=(if((num (ag D (q+at_) 3))/2^1 % 4)=1 then 1 else((num (ag D (q+at_) 3))/2^3)))) ?_ ?_
 refine g_ 5 ?_;refine au J ?_ ?_<;>intro JP
 refine g_ 3 ?_;exact⟨aS,1,az,h,(by rw[ao JP])⟩
 exact a8 ⟨aS,((num (ag D (q+at_) 3))/2^3),az,h,(by rw[aj JP])⟩
 rintro ρ w ⟨hv,⟨mn,rfl⟩,h,l⟩;have aIP:hv<=4294967296:=(by rw[l];split<;>omega);refine cW [(4,6),(68,81)] (λρ w=>Kn ρ []/\H r w ((ah bs [.slice (aI ob) (W s.out) co,af hw,af (if ¬(aa D (q+4) 0).toNat&&&32=0 then 131072 else min 131072 hw),.pointer pp,p0,p1,p2,af s.a,af s.b,af s.c] 101)::(ob,C (ar u8 s.out++sp) 5)::(G++F))/\(¬((((num (ag D (q+at_) 3))/2^1 % 4)=3\/131072<((num (ag D (q+at_) 3))/2^3))\/len<at_+3+hv))/\(¬((((num (ag D (q+at_) 3))/2^1 % 4)=3\/131072<((num (ag D (q+at_) 3))/2^3))\/W (ag D q len)<at_+3+hv))) ?_ ?_
 refine g_ 5 ?_;refine eM (t:=70) J (λP=>?_) (λP=>?_)
 refine g_ 12 ?_;refine jv J ?_;refine g_ 7 ?_;exact⟨2,none,0,0,0,J,(by rw[d,<-p];exact G_ (Zk A I l (a_ (a_ P))) I),(λ_=>H.n5 h.tail.tail),(λe=>absurd e I)⟩
 refine g_ 4 ?_;refine eM (t:=74) J (λG7=>?_) (λG7=>?_)
 refine g_ 8 ?_;refine jv J ?_;refine g_ 7 ?_;exact⟨2,none,0,0,0,J,(by rw[d,<-p];exact G_ (Zk A I l (a_ (bG G7))) I),(λ_=>H.n5 h.tail.tail),(λe=>absurd e I)⟩
 refine g_ 8 ?_;refine au J ?_ ?_<;>intro Nx
 refine g_ 7 ?_;exact⟨2,none,0,0,0,J,(by rw[d,<-p];exact G_ (Zk A I l (bG I)) I),(λ_=>H.n5 h.tail.tail),(λe=>absurd e I)⟩
 exact a8 ⟨aS,az,h,I,I⟩
 rintro ρ w ⟨⟨wK,rfl⟩,h,h81,RX⟩;refine g_ 8 ?_;refine au J ?_ ?_<;>intro E0
 refine g_ 7 ?_;exact⟨0,none,0,0,0,J,(by rw[d,<-p];exact G_ (ato A I l RX E0) I),(λ_=>H.n5 h.tail.tail),(λe=>absurd e I)⟩
 refine g_ 6 ?_;refine kp [(4,6),(16,16),(87,134)] (λρ w=> ∃s1:Fs,∃G1:List aK,∃AN:Option Addr,∃K L q2:Value,∃i:Option Nat,∃o:Nat,∃m:List Value,Kn ρ []/\H r w ((ah bs [.slice (aI i) (W s1.out) o,af hw,af (if ¬(aa D (q+4) 0).toNat&&&32=0 then 131072 else min 131072 hw),.pointer AN,K,L,q2,af s1.a,af s1.b,af s1.c] 101)::(i,C (ar u8 s1.out++m) 5)::(G1++F))/\(RP (G1++F) AN K L q2 s1)/\(Nu s1)/\(b8 i (W s1.out) o (ar u8 s1.out) m 1)/\((ah bh [af hs,af hw,.bool hk,.bool hu] 95)∈G1)/\(iM hw (if ¬(aa D (q+4) 0).toNat&&&32=0 then 131072 else min 131072 hw) (ag D q len) s ((num (ag D (q+at_) 3))/2^1 % 4) ((num (ag D (q+at_) 3))/2^3) (at_+3)=(1,s1))/\(W s1.out<=4325376)) ?_ ?_
 refine g_ 5 ?_;refine au J ?_ ?_<;>intro GK
 have Q:hv=((num (ag D (q+at_) 3))/2^3):=(by rw[l,aj I]);refine cm h [0,4,8,12,20,24,28,32,36,40,17,47,48,52,59] ?_;intro w h;refine aC 9 ?_;refine aD J (zF (at_+3) ((num (ag D (q+at_) 3))/2^3) J J J I) ?_;refine aC 1 ?_;refine nU (ar u8 s.out) sp ((ag D (q+(at_+3)) ((num (ag D (q+at_) 3))/2^3)).map u8) J h 1 J J J B (q9 (aY.ag (F:=F) hm (λh0=>eU (z I) I) I I) (λe he=>aA (aA (fM _ he)))) (by intro x hx;obtain⟨y,_,rfl⟩:=jS.1 hx;rfl) I an J ?_;intro w dR c9 ep h M gl fk;dsimp only[bJ]at h;rw[<-gJ]at h M;have u:W (s.out++ag D (q+(at_+3)) ((num (ag D (q+at_) 3))/2^3))=W s.out+((num (ag D (q+at_) 3))/2^3):=(by rw[aF,dK I]);rw[<-u]at gl;refine aC 2 ?_;refine cI ?_;intro w h;exact cO ⟨aS,({s with out:=s.out++ag D (q+(at_+3)) ((num (ag D (q+at_) 3))/2^3)}),G,pp,p0,p1,p2,dR,c9,ep,az,(by first|exact h| (dsimp only;rw[u];exact h)),⟨O.tree,O.zE⟩,⟨g.tree,g.bI,g.zE,g.a1,g.a2,g.b2,g.c2⟩,⟨by rw[cB,fg],M,gl,fk⟩,jM,(by unfold iM;rw[ao GK,jy I]),(by dsimp only;rw[u];omega)⟩
 refine g_ 5 ?_;refine au J ?_ ?_<;>intro S
 have Q:hv=1:=(by rw[l,ao S]);refine g_ 6 ?_;refine cw (σ:=Nat×Option Nat×Nat×List Value) [(106,121)] (λ⟨j,i,o,m⟩ ρ w=>Kn ρ [(106,af j)]/\H r w ((ah bs [.slice (aI i) (W s.out+j) o,af hw,af (if ¬(aa D (q+4) 0).toNat&&&32=0 then 131072 else min 131072 hw),.pointer pp,p0,p1,p2,af s.a,af s.b,af s.c] 101)::(i,C (ar u8 (s.out++aT j (aa D (q+(at_+3)) 0))++m) 5)::(G++F))/\(j<=((num (ag D (q+at_) 3))/2^3))/\(b8 i (W s.out+j) o (ar u8 (s.out++aT j (aa D (q+(at_+3)) 0))) m 1)) (λ⟨j,i,o,m⟩=>((num (ag D (q+at_) 3))/2^3) -j) (0,ob,co,sp) ⟨az,(by rw[I2,dN];exact h),(cj _),(by rw[I2,dN];exact B)⟩ ?_;rintro⟨j,i,o,m⟩ ρ w ⟨⟨r_,rfl⟩,h,hj,N⟩;refine g_ 5 ?_;refine au J ?_ ?_<;>intro wM
 refine g_ 3 ?_;refine cm h [0,4,8,12,20,24,28,17,33,38,43,44,48,55] ?_;intro w h;refine aC 6 ?_;refine aD J (da J J (z I) I) ?_;refine aC 1 ?_;refine aQ J h J (gX I) (ld J J (ly _) h ?_);intro bz w h;refine nU (ar u8 (s.out++aT j (aa D (q+(at_+3)) 0))) m [u8 (aa D (q+(at_+3)) 0)] J h 2 J J J N (Src.slice (j:=0) (q2:=0) J ⟨J,trivial⟩ J) (by intro x hx;simp at hx;subst hx;rfl) I an J ?_;intro w dR c9 ep h M gl fk;dsimp only[bJ]at h;rw[Yz]at h M;replace h:=h.tail;(try dsimp only[dX]at h);refine aC 2 ?_;refine cI ?_;intro w h;refine cO ?_;refine g_ 4 ?_;refine⟨aS,?_⟩;have hrs:(s.out++aT j (aa D (q+(at_+3)) 0))++[(aa D (q+(at_+3)) 0)]=(s.out++aT (j+1) (aa D (q+(at_+3)) 0)):=(by rw[bV,DP]);rw[hrs]at h M;exact⟨(j+1,dR,c9,ep),cQ,az,h,I,by rw[cB,aF,dS,fg],M,gl,fk⟩
 have Nt:j=((num (ag D (q+at_) 3))/2^3):=I;rw[Nt]at h N;have u:W (s.out++aT ((num (ag D (q+at_) 3))/2^3) (aa D (q+(at_+3)) 0))=W s.out+((num (ag D (q+at_) 3))/2^3):=(by rw[aF,dS]);rw[<-u]at h N;exact jl ⟨aS,({s with out:=s.out++aT ((num (ag D (q+at_) 3))/2^3) (aa D (q+(at_+3)) 0)}),G,pp,p0,p1,p2,i,o,m,az,(by first|exact h| (dsimp only;rw[u];exact h)),⟨O.tree,O.zE⟩,⟨g.tree,g.bI,g.zE,g.a1,g.a2,g.b2,g.c2⟩,N,jM,(by unfold iM;rw[aj I,ao S,lD I]),(by dsimp only;rw[u];omega)⟩
 refine g_ 5 ?_;refine au J ?_ ?_<;>intro aty
 have Q:hv=((num (ag D (q+at_) 3))/2^3):=(by rw[l,aj I]);refine g_ 8 ?_;refine ak (zF (at_+3) ((num (ag D (q+at_) 3))/2^3) J J J I) (cJ J J J (aH (as9 (F:=G++F) (ad:=cut ad cap (at_+3) 1) (q:=q+(at_+3)) (len:=((num (ag D (q+at_) 3))/2^3)) (s:=s) h (fM _ hm) (λh0=>eU (z I) I) I I I O g B I (by split<;>omega) I) ?_));rintro e w1 ⟨v2,rfl,fe,fP,jC⟩;refine g_ 7 ?_;refine au J ?_ ?_<;>intro aIQ
 refine g_ 8 ?_;exact⟨v2,none,0,0,0,J,(by rw[d,<-p];exact G_ (atp A I l RX E0 (by unfold iM;rw[aj I,aj I,jy I];exact fe) I) I),(λ_=>H.n5 (fP I)),(λe=>absurd e I)⟩
 have lh:v2=1:=I;refine aZ (jC lh) (λs' eK=>aZ (eK) (λGn eJ=>aZ (eJ) (λpp2 fH=>aZ (fH) (λK gN=>aZ (gN) (λL oJ=>aZ (oJ) (λq2 yb=>aZ (yb) (λcP J3=>aZ (J3) (λCF yc=>aZ (yc) (λcZ U=>?_)))))))));have V:=U.1;have X:=U.2.1;have gj:=U.2.2.1;have tX:=U.2.2.2.1;have h:=U.2.2.2.2;rw[<-bV]at h X;exact a8 ⟨aS,s',Gn++G,pp2,K,L,q2,cP,CF,cZ,az,(by first|exact h| (dsimp only;rw[u];exact h)),X,gj,tX,fM _ jM,(by unfold iM;rw[aj I,aj I,jy I];exact V),aM (atm V) (by split<;>omega)⟩
 exfalso;omega
 rintro ρ w ⟨s1,G1,AN,K,L,q2,i,o,m,⟨sV,rfl⟩,h,atz,gM,N,Y,fj,JF⟩;refine gg (oA F Y) λaIR aIS=>?_;refine g_ 17 ?_;refine au J ?_ ?_<;>intro aIT
 refine g_ 7 ?_;exact⟨0,none,0,0,0,J,(by rw[d,<-p];exact G_ (by rw[agS A I l RX E0 fj,ao (I:room<W s1.out)]) I),(λ_=>H.n5 h.tail.tail),(λe=>absurd e I)⟩
 refine a8 (⟨aS,?_⟩);have Z:=agS (f:=f') (room:=room) A I l RX E0 fj;rw[aj (I: ¬room<W s1.out),p]at Z;exact⟨(f',at_+3+hv,decide (num (ag D (q+at_) 3) % 2=1),s1,G1,AN,K,L,q2,i,o,m),(by dsimp only;rw[mh];split<;>simp<;>omega),az,h,I,I,atz,gM,N,I,Y,(λe=>by rw[aj (WC e)]at Z;exact Z.symm),(λe=>And.intro (by rw[ao (tE e)]at Z;exact Z.symm) I)⟩
 have dV:last=true:=(by simpa using EZ);have Hb:=(gn dV).1;have E4:=(gn dV).2;rw[<-Hb]at d;refine jl (cW [(4,6),(145,156)] (λρ w=>Kn ρ []/\H r w ((ah bs [.slice (aI ob) (W s.out) co,af hw,af (if ¬(aa D (q+4) 0).toNat&&&32=0 then 131072 else min 131072 hw),.pointer pp,p0,p1,p2,af s.a,af s.b,af s.c] 101)::(ob,C (ar u8 s.out++sp) 5)::(G++F))/\(¬(hk=true/\ ¬W s.out=hs))) ?_ ?_)
 refine bY (cm h [0,5,8,12,16,20,32,25,28,37,40,44] ?_);intro w h;refine aC 3 ?_;refine atj (t:=147) J (λZm=>?_) (λZm=>?_)
 refine dz J J J J (λw=>run_move) J (dz J J J J (λw=>v_ J) J (dz J J J J (λw=>pg J) J (dz J J J J (λw=>pg J) J (qk J J J J (λw hk=>run_load (h.keeps hk) J J) J (dz J J J J (λw=>DY J) J (qk J J J J (λw hk=>run_load (h.keeps hk) J J) J (dz J J J J (λw=>Jc J J) J ?_)))))));refine aC 2 ?_;refine au J ?_ ?_<;>intro Y2
 refine g_ 7 ?_;exact⟨2,none,0,0,0,J,(by rw[d];exact atr ⟨by simpa using Zm,I⟩),(λ_=>H.n5 h.tail.tail),(λe=>absurd e I)⟩
 exact a8 ⟨aS,az,h,(λe=>by have:=e.2;omega)⟩
 refine aC 10 ?_;exact gK J (a8 ⟨aS,az,h,(λe=>by rw[Zm]at e;exact absurd e.1 an)⟩)
 rintro ρ w ⟨⟨J4,rfl⟩,h,Hc⟩;refine g_ 6 ?_;refine eY J ?_ ?_<;>intro RY
 refine cW [(4,6),(159,178)] (λρ w=>Kn ρ []/\H r w ((ah bs [.slice (aI ob) (W s.out) co,af hw,af (if ¬(aa D (q+4) 0).toNat&&&32=0 then 131072 else min 131072 hw),.pointer pp,p0,p1,p2,af s.a,af s.b,af s.c] 101)::(ob,C (ar u8 s.out++sp) 5)::(G++F))/\(¬(len<at_+4\/ ¬(num (ag D (q+at_) 4)) % 4294967296=lF s.out % 4294967296))) ?_ ?_
 refine bY (cm h [0,4,8,12,16,20,24,28,32,36,40,52,56,60,65,46,48,71,72,76] ?_);intro w h;refine aC 6 ?_;refine BU (t:=164) J (λatA=>?_) (λatA=>?_)
 refine aC 15 ?_;refine jv J ?_;refine g_ 7 ?_;exact⟨2,none,0,0,0,J,(by rw[d];exact(agT Hc (by simpa using RY) J (a_ I))),(λ_=>H.n5 h.tail.tail),(λe=>absurd e I)⟩
 refine dz J J J J (λw=>run_move) J (dz J J J J (λw=>run_move) J (dz J J J J (λw=>run_move) J (dz J J J J (λw=>eR (b:=4) (h2:=av.lit _) J J k_) J (dz J J J J (λw=>zF at_ 4 J J J I) J (dz J J J J (λw=>run_move) J (dz J J J J (λw=>v_ J) J (dz J J J J (λw=>pg J) J (qk J J J J (λw hk=>run_load (h.keeps hk) J J) J (ati J J J J J J ((tV (ad:=cut ad cap at_ 1) (q:=q+at_) (len:=4) h (aA (aA (fM _ hm))) (λh0=>eU (z I) I) I I (aM (zG I) I)).mono ?_))))))))));rintro e w1 ⟨rfl,rfl⟩;refine⟨_,J,ft.refl _,?_⟩;refine dz J J J J (λw=>DX J J) J (ath J J J J J J ((atu h (aA bZ) B (aA (aA (fM _ hm))) I).mono ?_));rintro e w1 ⟨rfl,h⟩;refine⟨_,J,?_⟩;refine dz J J J J (λw=>Jc J J) J ?_;refine aC 2 ?_;refine au J ?_ ?_<;>intro RZ
 refine g_ 7 ?_;have CI:num (ag (ag D q len) at_ 4)=num (ag D (q+at_) 4):=(by rw[jy I]);exact⟨2,none,0,0,0,J,(by rw[d];exact(agT Hc (by simpa using RY) CI (bG RZ))),(λ_=>H.n5 h.tail.tail),(λe=>absurd e I)⟩
 exact a8 ⟨aS,az,h,(by rintro(e|e);(· omega);(· exact RZ e))⟩
 rintro ρ w ⟨⟨Ny,rfl⟩,h,Hd⟩;refine g_ 17 ?_;have CI:num (ag (ag D q len) at_ 4)=num (ag D (q+at_) 4):=(by rw[jy I]);have mQ:=ats (hs:=hs) (E:=ag D q len) Hc (by simpa using RY) CI (by rw[eo];exact Hd);exact⟨1,aI ob,W s.out,co,at_+4,J,(by rw[d,mQ]),(λe=>absurd J e),(λ_=>⟨s.out,ob,co,sp,(by rw[d,mQ]),J,J,J,B,H.agR h.tail⟩)⟩
 refine g_ 13 ?_;have mQ:=att (hs:=hs) (hu:=hu) (a:=at_) (E:=ag D q len) Hc (by rw[RY];decide);exact⟨1,aI ob,W s.out,co,at_,J,(by rw[d,mQ]),(λe=>absurd J e),(λ_=>⟨s.out,ob,co,sp,(by rw[d,mQ]),J,J,J,B,H.agR h.tail⟩)⟩
def atB(h:a<2^64):a&&&18446744073709551600=a/16*16:=by
 have e:a/16*16=(a>>>4)<<<4:=(by rw[I3,Nat.shiftLeft_eq]);have e2:(18446744073709551600:Nat)=(2^60-1)<<<4:=an;rw[e,e2];apply Qk;intro i;simp only[Nat.testBit_and,Nat.testBit_shiftLeft,Nat.testBit_two_pow_sub_one,WV];by_cases hi:4<=i
 rw[show 4+(i-4)=i by omega];by_cases b:i<64
 simp[hi,show i-4<60 by omega]
 have:a.testBit i=false:=Nat.testBit_lt_two_pow (qN h (dF I I));simp[this]
 simp[hi]
def atC{P:Program}{ρ:Env}{T T' ty:TypeId}{x y:Operand}{u v:Int}{b:Nat}(e:aL ρ x= .int .i64 u)(f:aL ρ y= .int .i64 v) [h1:av u a] [h2:av v b](c:a<=aN .i64)(hb:b=15):run P ρ (.binOp .andNot T x y T') ty w= .ok (.value (af (a/16*16))) w:=by
 subst hb;rw[lr _ e f,h1.eq,h2.eq];have d:a<2^64:=DV .i64 a c;have:=uF .i64 (a/16*16) (aM (Nat.div_mul_le_self _ _) c);have g:(BitVec.ofNat 64 a&&&18446744073709551600#64).toNat=a/16*16:=(by rw[BitVec.toNat_and];simp only[BitVec.toNat_ofNat];rw[iV d];exact atB d);simp[binOp,Op.intBits,IntKind.bits];show IntKind.i64.wrap (((BitVec.ofNat 64 a&&&18446744073709551600#64).toNat:Nat):Int)=_;rw[g,this];omega
def atD{D:List UInt8}{len:Nat}(h:n<=len):ag (ag D q len) 0 n=ag D q n:=jy I
def atE{D:List UInt8}{len room:Nat}(b:q+len<=W D)(c:4<=len):ij (ag D q len) room=(if num (ag D q 4)/16*16=407710288 then(if len<8 then(2,[],0)else if len<8+num (ag D (q+4) 4)then(2,[],0)else(1,[],8+num (ag D (q+4) 4)))else if ¬num (ag D q 4)=4247762216\/len<5 then(2,[],0)else p9 (ag D q len) room):=by
 unfold ij;rw[dK b,aj I];dsimp only;rw[atD c];by_cases a:len<8
 rw[ao a,ao a]
 rw[aj a,aj a,jy I]
def atF{ad:Option Addr}{D:List UInt8}{len cap:Nat}{T:TT}{room:Nat}(h:H r w F)(hm:(ah db (D.map u8) T)∈F)(k:0<len->ad=some ⟨db,q,none⟩)(l:q+len<=W D)(u:len<=cap)(hlen:len<=140737488355328)(x:room<=4194304):Calls PP 16 #[.slice ad len cap,af room] w λe w'=> ∃v g i j n,e= .returned (.tuple #[.slice g i j,af n,af v])/\(ij (ag D q len) room).1=v/\(v≠1->H r w' F)/\(v=1-> ∃out ob co sp,ij (ag D q len) room=(1,out,n)/\g=aI ob/\i=W out/\j=co/\b8 ob (W out) co (out.map u8) sp 1/\H r w' ((ob,C (ar u8 out++sp) 5)::F)):=by
 have B:=dK l;refine iI func16 ntmps16 [4,5,6] ?_;refine g_ 13 ?_;refine au J ?_ ?_<;>intro E
 refine g_ 7 ?_;exact⟨2,none,0,0,0,J,(by unfold ij;rw[ao I]),(λ_=>h),(λe=>absurd e I)⟩
 have d:ij (ag D q len) room=(if num (ag D q 4)/16*16=407710288 then(if len<8 then(2,[],0)else if len<8+num (ag D (q+4) 4)then(2,[],0)else(1,[],8+num (ag D (q+4) 4)))else if ¬num (ag D q 4)=4247762216\/len<5 then(2,[],0)else p9 (ag D q len) room):=atE l I;refine g_ 4 ?_;refine ak (mX (c:=4) (h1:=av.lit _) J J I) (d' J J (aH (tV (len:=4) h hm (λ_=>k I) I I (aM (zG I) I)) ?_));rintro e o ⟨rfl,rfl⟩;have G:= @zG D q 4 I;refine g_ 6 ?_;refine ak (atC (b:=15) (h2:=av.lit _) J J aG J) ?_;refine g_ 2 ?_;refine au J ?_ ?_<;>intro f
 refine g_ 7 ?_;refine au J ?_ ?_<;>intro K
 refine g_ 7 ?_;exact⟨2,none,0,0,0,J,(by rw[d,ao f,ao I]),(λ_=>h),(λe=>absurd e I)⟩
 refine g_ 4 ?_;refine ak (wm (a:=4) (h1:=av.lit _) (c:=8) (h2:=av.lit _) J J J I I) (d' J J (aH (tV (ad:=cut ad cap 4 1) (q:=q+4) (len:=4) h hm (λL=>eU (k I) I) I I (aM (zG I) I)) ?_));rintro e o ⟨rfl,rfl⟩;have y:= @zG D (q+4) 4 I;refine g_ 11 ?_;refine au J ?_ ?_<;>intro M
 refine g_ 7 ?_;exact⟨2,none,0,0,0,J,(by rw[d,ao f,aj I,ao I]),(λ_=>h),(λe=>absurd e I)⟩
 refine g_ 9 ?_;exact⟨1,none,0,0,8+num (ag D (q+4) 4),J,(by rw[d,ao f,aj I,aj I]),(λe=>absurd J e),(λ_=>⟨[],none,0,[],(by rw[d,ao f,aj I,aj I]),J,J,J,b8.nil,h.ghost _⟩)⟩
 refine g_ 7 ?_;refine eM (t:=32) J (λm=>?_) (λm=>?_)
 refine g_ 5 ?_;refine jv J ?_;refine g_ 7 ?_;exact⟨2,none,0,0,0,J,(by rw[d,aj f,ao (a_ I)]),(λ_=>h),(λe=>absurd e I)⟩
 refine g_ 5 ?_;refine au J ?_ ?_<;>intro N
 refine g_ 7 ?_;exact⟨2,none,0,0,0,J,(by rw[d,aj f,ao (bG I)]),(λ_=>h),(λe=>absurd e I)⟩
 refine g_ 5 ?_;refine cJ J J J (aH (atx h hm k l u hlen I x) ?_);rintro e o ⟨v,g,i,j,n,rfl,p,z,s⟩;refine g_ 8 ?_;have A:ij (ag D q len) room=p9 (ag D q len) room:=(by rw[d,aj f,aj I]);rw[<-A]at p s;exact⟨v,g,i,j,n,J,p,z,s⟩
variable {E2:List UInt8}{cap:Nat}{ad:Option Addr}{T:TT}
def H.Zo{a b:aK}(h:H r w (a::b::F)):H r w (a::F):=(h.perm (List.Perm.swap b a F)).tail
def atH(l:List Int)(x:Int):ar i64 l++[i64 x]=ar i64 (l++[x]):=by simp
def agZ{w m room:Nat}{E:List UInt8}{a:Fs}{a':Nat}: ∀f at_ s,gp w m room E f at_ s=(1,a,a')->at_+3<=a'/\a'<=W E/\W a.out<=room
 |0,at_,s,h=>by cases h
 | f+1,at_,s,h=>by
  rw[gp]at h;split at h
  cases h
  dsimp only at h;generalize (if num (ag E at_ 3)/2 % 4=1 then 1 else num (ag E at_ 3)/8)=hv at h;split at h
  cases h
  rename_i hk;split at h
  cases h
  split at h
  rename_i c;exact absurd (cD Prod.fst h) c
  split at h
  cases h
  split at h
  cases h;exact⟨I,I,I⟩
  have b:=agZ f _ _ h;exact⟨I,b.2.1,b.2.2⟩
def atI{room:Nat}{out:List UInt8}(h:p9 E room=(1,out,n)):3<=n/\n<=W E/\W out<=room:=by
 unfold p9 at h;dsimp only at h;split at h
 rename_i a;exact absurd (cD Prod.fst h) a
 generalize b:gp _ _ room E _ _ _=x at h;obtain⟨v,d,a'⟩:=x;dsimp only at h;split at h
 rename_i a;exact absurd (cD Prod.fst h) a
 rename_i hv;have c:v=1:=(by simpa using hv);subst c;have:=agZ _ _ _ b;split at h
 cases h
 split at h
 split at h
 cases h
 cases h;exact⟨I,I,this.2.2⟩
 cases h;exact⟨I,I,this.2.2⟩
def atJ{room:Nat}{out:List UInt8}(h:ij E room=(1,out,n)):3<=n/\n<=W E/\W out<=room:=by
 unfold ij at h;split at h
 cases h
 dsimp only at h;split at h
 split at h
 cases h
 split at h
 cases h
 cases h;exact⟨I,I,cj _⟩
 split at h
 cases h
 exact atI h
def atK{D:List UInt8}{len:Nat}{room:Nat}(h:H r w F)(hm:(ah db (D.map u8) T)∈F)(f:0<len->ad=some ⟨db,q,none⟩)(g:q+len<=W D)(i:len<=cap)(hlen:len<=140737488355328)(j:room<=4194304):Calls PP 16 #[.slice ad len cap,af room] w λe w'=> ∃v a b c n out ob co sp,e= .returned (.tuple #[.slice a b c,af n,af v])/\(ij (ag D q len) room).1=v/\(v=1->ij (ag D q len) room=(1,out,n)/\a=aI ob/\b=W out/\c=co/\b8 ob (W out) co (out.map u8) sp 1)/\H r w' ((ob,C (ar u8 out++sp) 5)::F):=by
 refine(atF h hm f g i hlen j).mono ?_;rintro e t ⟨v,a,b,c,n,rfl,d,k,l⟩;by_cases hv:v=1
 obtain⟨out,ob,co,sp,h1,h2,m,o,p,s⟩:=l hv;exact⟨v,a,b,c,n,out,ob,co,sp,J,d,λ_=>⟨h1,h2,m,o,p⟩,s⟩
 exact⟨v,a,b,c,n,[],none,0,[],J,d,λe=>absurd e hv,(k hv).ghost _⟩
def atM{out:List UInt8}{at_:Nat}(h: ¬at_<W E):qy E (f+1) at_ out=(1,out):=by
 rw[qy,aj h]
def atN{out:List UInt8}{at_ v:Nat}{room:Nat}(h:at_<W E)(a:E.drop at_=E2)(b:4194304-W out=room)(hv:(ij E2 room).1=v)(h1:v≠1):(qy E (f+1) at_ out).1=v:=by
 subst a;subst b;rw[qy,ao h];dsimp only;rw[ao (by rw[hv];exact h1)];exact hv
def atO{out a:List UInt8}{at_:Nat}{room:Nat}(h:at_<W E)(b:E.drop at_=E2)(c:4194304-W out=room)(hv:ij E2 room=(1,a,n)):qy E (f+1) at_ out=qy E f (at_+n) (out++a):=by
 subst b;subst c;rw[qy,ao h];dsimp only;rw[hv];rfl
def ag0{D:List UInt8}{len:Nat}(h:H r w F)(hm:(ah db (D.map u8) T)∈F)(Y:0<len->ad=some ⟨db,q,none⟩)(Z:q+len<=W D)(j9:len<=cap)(hlen:len<=1099511627776):Calls PP 9 #[.slice ad len cap] w λe w'=> ∃v m c o ae ne ce,e= .returned (.agg #[.slice m c o,af v,.slice ae ne ce])/\(mx (ag D q len)).1=v/\(v≠1->H r w' F)/\(v=1-> ∃out ob co sp,mx (ag D q len)=(1,out)/\m=aI ob/\c=W out/\o=co/\b8 ob (W out) co (out.map u8) sp 1/\H r w' ((ob,C (ar u8 out++sp) 5)::F)):=by
 have eo:=dK Z;refine D9 (P:=PP) func9 48 ntmps9 2 30 [] J J (args:=[_]) J (bY (fD (eN h J ?_)));intro br w h;refine g_ 3 ?_;refine eN h J ?_;intro bd w h;refine g_ 12 ?_;refine au J ?_ ?_<;>intro tP
 have vd:W (ag D q len)=0:=I;refine bY (fD (ak (jx [_,_,_] h J ⟨J,J,J,trivial⟩ J) (cI ?_)));intro w h;refine aJ (ju (⟨_,rX [_,_,_] h J ⟨J,J,J,trivial⟩ J,?_⟩));exact⟨0,_,_,_,_,_,_,J,(by unfold mx;rw[ao vd]),(λ_=>h.tail.tail),(λe=>absurd e an)⟩
 refine g_ 3 ?_;refine cM (qy (ag D q len) (len+1) 0 []) λR K=>?_;replace h:=((h.ghost (C (ar i64 []++[]) 3)).ghost (C (ar u8 []++[]) 5)).mv 3;dsimp only[dX]at h;replace h:=h.zz [3] 0;have t: ¬len=0->mx (ag D q len)=R:=λL=>(by unfold mx;rw[eo,aj L];exact K);refine cw (σ:=Nat×Nat×List UInt8×Option Nat×Nat×List Value×List Int×Option Nat×Nat×List Value) [(4,7),(12,45)] (λ⟨f,at_,out,ob,co,sp,en,g,ce,i⟩ ρ w=>Kn ρ [(4,af at_)]/\H r w ((ah bd [.slice (aI ob) (W out) co,.int .i64 0,.slice (aI g) (W en) ce] 30)::(ah br [.slice none 0 0,.int .i64 0,.slice none 0 0] 30)::(ob,C (ar u8 out++sp) 5)::(g,C (ar i64 en++i) 3)::F)/\(at_<=len)/\(len+1<=f+at_)/\(W out<=4194304)/\(W en<=at_)/\(b8 ob (W out) co (ar u8 out) sp 1)/\(b8 g (W en) ce (ar i64 en) i 1)/\(qy (ag D q len) f at_ out=R)) (λ⟨f,at_,out,ob,co,sp,en,g,ce,i⟩=>len+1-at_) (len+1,0,[],none,0,[],[],none,0,[]) ⟨az,h,I,I,(cj _),(cj _),b8.nil,b8.nil,K⟩ ?_;rintro⟨f,at_,out,ob,co,sp,en,g,ce,i⟩ ρ w ⟨⟨ny,rfl⟩,h,jU,hf,AF,sj,M,u,d⟩;refine g_ 8 ?_;refine au J ?_ ?_<;>intro JN
 refine aZ (show ∃a,f=a+1 from⟨f-1,I⟩) (λa z=>?_);rw[z]at d;have N:(ag D q len).drop at_=ag D (q+at_) (len-at_):=tS;refine g_ 3 ?_;refine cm h [0,4,8,12,17,20,24,31,32,36,40,44,48,52,56] ?_;intro w h;refine aC 2 ?_;refine aD J (jJ J J I I) ?_;refine aC 4 ?_;refine lW J J J J (aH (atK (ad:=cut ad cap at_ 1) (q:=q+at_) (len:=len-at_) (room:=4194304-W out) h (aA (aA (aA (aA hm)))) (λL=>eU (Y I) I) I I I I) ?_);rintro e w1 ⟨v,m,c,o,n,p,cP,CF,cZ,rfl,fj,O,h⟩;refine aC 8 ?_;refine g_ 6 ?_;refine au J ?_ ?_<;>intro nX
 refine g_ 3 ?_;refine ak (Gj (aqC _) J) (cI ?_);intro w h;refine aJ (ju (⟨_,rX [_,_,_] h J ⟨J,J,J,trivial⟩ J,?_⟩));exact⟨v,_,_,_,_,_,_,J,(by rw[t I,<-d];exact atN I N J fj I),(λ_=>h.tail.tail.tail.tail.tail),(λe=>absurd e I)⟩
 have Q:v=1:=I;have S:=(O Q).1;have hu:=(O Q).2;have m6:=atJ S;rw[dK I]at m6;have h2l:=hu.2.1;refine g_ 6 ?_;refine me (ar u8 out) sp (p.map u8) h 3 J J J M (show Src _ _ _ 1 c (.slice m c o) (p.map u8)from by rw[hu.1,hu.2.1,hu.2.2.1];exact afY (j:=0) J hu.2.2.2) (by intro x s;obtain⟨y,_,rfl⟩:=jS.1 s;rfl) I an J ?_;intro w dR c9 ep h U V fk;dsimp only[bJ]at h;rw[<-gJ]at h U;have ui:W (out++p)=W out+c:=(by rw[aF,hu.2.1]);refine dg (dg (ak (eR (b:=n) J J aG) (qm J (cI ?_))));intro w h;refine g_ 6 ?_;refine mf J (mH _) h ?_;intro bz w h;refine me (ar i64 en) i [i64 ((at_+n:Nat):Int)] h 5 J J J u (Src.slice (j:=0) (q2:=0) J ⟨J,trivial⟩ J) (by intro x s;simp at s;subst s;rfl) I an J ?_;intro w A B E h k l G;dsimp only[bJ]at h;rw[atH]at h k;replace h:=h.tail;(try dsimp only[dX]at h);refine qm J (cI ?_);intro w h;refine aJ ?_;replace h:=h.tail;(try dsimp only[dX]at h);refine⟨aO 38,?_⟩;have X:=atO (f:=a) I N J S;rw[d]at X;rw[<-ui]at h V;have hle:W (en++[((at_+n:Nat):Int)])=W en+1:=(by rw[aF];rfl);rw[<-hle]at h l;exact⟨((a,at_+n,out++p,dR,c9,ep,en++[((at_+n:Nat):Int)],A,B,E)),cQ,az,h,I,I,I,(by rw[aF];simp only[dL,eW];omega),⟨by rw[cB,fg],U,V,fk⟩,⟨by rw[cB,fg],k,l,G⟩,X.symm⟩
 refine aZ (show ∃a,f=a+1 from⟨f-1,I⟩) (λa z=>?_);rw[z,atM I]at d;refine g_ 4 ?_;refine iX (af 1) ?_;intro w h;refine g_ 3 ?_;refine ak (jx [_,_,_] h J ⟨J,J,J,trivial⟩ J) (cI ?_);intro w h;refine aJ (ju (⟨_,rX [_,_,_] h J ⟨J,J,J,trivial⟩ J,?_⟩));exact⟨1,_,_,_,_,_,_,J,(by rw[t I,<-d]),(λe=>absurd J e),(λ_=>⟨out,ob,co,sp,(by rw[t I,<-d]),J,J,J,M,H.Zo h.tail.tail⟩)⟩
end Go.Z
