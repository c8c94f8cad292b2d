/- Part 5 of the proof. -/
import Derived.KernelRfl
import Derived.Test.YtmgkiicjpmihfaaGreatDoorQD
set_option linter.all false
set_option maxRecDepth 20000
set_option maxHeartbeats 400000000
namespace Go.Z
variable {N size:Nat}
structure Fs where
 out:List UInt8
 tree:Option Tr
 a_:List (Option Tb)
 a:Nat
 b:Nat
 c:Nat
def dU(b:Nat):Nat:=if b=255 then 3 else if 128<=b then 2 else 1
def lM(E:List UInt8):Nat:=if dU (byte E 0)=2 then(byte E 0-128)*2^8+byte E 1 else if dU (byte E 0)=3 then num (aa E 1 2)+32512 else byte E 0
def fv(FR:Nat)(gY:List (Option Tb))(E:List UInt8):Nat->Nat×List (Option Tb)×Nat
 |0=>(1,gY,0)
 | i+1=>
   let x:=fv FR gY E i
   if x.1≠1 then x
   else
     match kf (x.2.1.getD i none) i (FR/2^(6-2*i) % 4) (E.drop x.2.2)with
     |none=>(2,gY,0)
     |some y=>if FR/2^(6-2*i) % 4=2/\E.length- (x.2.2+y.2)<2 then(0,gY,0)else(1,x.2.1.set i (some y.1),x.2.2+y.2)
def qh(l:List (Option Tb))(k:Nat):Tb:=(l.getD k none).getD (po 0)
def zL(aL ak:Nat)(s:Fs)(tr:Option Tr)(text:List UInt8)(many:Nat)(E2:List UInt8):Nat×Fs:=
 if E2.length=0 then(2,s)
 else if byte E2 0 % 4≠0 then(0,s)
 else
   let x:=fv (byte E2 0) s.a_ (E2.drop 1) 3
   if x.1≠1 then(x.1,s)
   else
     let y:=k9 (qh x.2.1) aL ak s.out s.a s.b s.c text many ((E2.drop 1).drop x.2.2)
     (y.1,⟨y.2.1,tr,x.2.1,y.2.2.1,y.2.2.2.1,y.2.2.2.2⟩)
def i'(aL ak:Nat)(s:Fs)(E:List UInt8):Nat×Fs:=
 let l:=dT s.tree E
 if l.1≠1 then(l.1,s)
 else
   let E1:=E.drop l.2.2.1
   if E1.length=0 then(2,s)
   else if E1.length<dU (byte E1 0)then(2,s)
   else
     let E2:=E1.drop (dU (byte E1 0))
     if lM E1=0 then
       (if(1<dU (byte E1 0)\/0<E2.length)\/ak<l.2.1.length then(0,s)else(1,{s with out:=s.out++l.2.1,tree:=l.2.2.2}))
     else zL aL ak s l.2.2.2 l.2.1 (lM E1) E2
theorem IY{FR:Nat}{gY:List (Option Tb)}{E:List UInt8}{i:Nat}(h:(fv FR gY E i).1≠1): ∀{j},i<=j->fv FR gY E j=fv FR gY E i
 | 0, hj => by have:i=0:=I; subst this;rfl
 | j+1,hj=>by
   rcases dh j i with h'|h'
   . have:i=j+1:=I
     subst this;rfl
   . have ih:=IY h h'
     rw[fv,ih,ai h]
theorem ari{len a ak v a1:Nat}{b b1:Bool}(h:jW N len a b ak=(v,a1,b1))(ha:a<=8*len):a1<=8*len:=by
 unfold jW at h;dsimp only at h;rcases hx:fM N len a b ak.log2 with⟨x,ax,bx⟩;rw[hx]at h;dsimp only at h;have W:=(Dl hx ha).1;split at h
 cases h;exact W
 rcases hy:fM N len ax bx 1 with⟨y,ay,b_y⟩;rw[hy]at h;have e:=b8 (λz=>z.2.1) h;dsimp only at e;rw[<-e];exact(Dl hy W).1
theorem afq{N len symbols:Nat}: ∀{f:Nat} {out cO:List Int} {a a':Nat},ns N len symbols f out a=some (cO,a')->a<=8*len->a'<=8*len
 | f+1,out,cO,a,a',h,ha=>by
  rcases hv:fM N len a false 2 with⟨v,a1,b1⟩;rw[sL hv]at h;have W:=(Dl hv ha).1;split at h
  cases h
  split at h
  cases h;exact W
  exact afq h W
theorem X0{N len symbols:Nat}: ∀{f left:Nat} {out cO:List Int} {a a':Nat},gh N len symbols f left out a=some (cO,a')->a<=8*len->a'<=8*len
 | f+1,left,out,cO,a,a',h,ha=>by
  by_cases h0:left=0
  unfold gh at h;rw[ai h0]at h;cases h;exact ha
  rcases hv:jW N len a false (left+1)with⟨v,a1,b1⟩;rw[wB h0 hv]at h;have W:=ari hv ha;split at h
  cases h
  split at h
  cases hz:ns N len symbols (symbols+1) (out++[(v:Int) -1]) a1 with
  |none=>rw[hz]at h;cases h
  | some y=>
    rw[hz]at h
    exact X0 (show gh N len symbols f _ y.1 y.2=some (cO,a')from h) (afq (cO:=y.1) (a':=y.2) hz W)
  exact X0 h W
theorem FT{len lG symbols:Nat}{out:List Int}{log:Nat}(h:ft N len lG symbols=some (out,log,size)):size<=len:=by
 unfold ft at h;dsimp only at h;rcases hx:fM N len 0 false 4 with⟨v,a,b⟩;rw[hx]at h;dsimp only at h;split at h
 cases h
 cases hp:gh N len symbols (symbols+1) (2^(v+5)) [] a with
 |none=>rw[hp]at h;cases h
 | some y=>
   rw[hp]at h;cases h
   have:=X0 (cO:=y.1) (a':=y.2) hp (Dl hx (bP _)).1
   omega
theorem Qx{gY:Option Tb}{kind mode:Nat}{E:List UInt8}{t:Tb}(h:kf gY kind mode E=some (t,size)):size<=E.length:=by
 unfold kf at h;by_cases h0:mode=0
 rw[ai h0]at h;cases h;omega
 rw[ag h0]at h;by_cases W:mode=1
 rw[ai W]at h;split at h
 cases h
 cases h;omega
 rw[ag W]at h;by_cases h2:mode=2
 rw[ai h2]at h
 cases hp:ft (num E) E.length (cj kind).2 ((cj kind).1+1)with
 |none=>rw[hp]at h;cases h
 | some x=>
   rw[hp]at h;cases h
   exact FT (out:=x.1) (log:=x.2.1) (size:=x.2.2) hp
 rw[ag h2]at h
 cases gY with
 |none=>cases h
 |some t'=>cases h;omega
end Go.Z
namespace Go.Z
open Go Go.Proofs
variable {F:List aD}{k:Nat}{r:dQ}{p p0 p1 p2:Value}{w:World}
structure Mh(s:Fs):Prop where
 tree: ∀t,s.tree=some t->wE t
 a_:s.a_.length=3
 yt: ∀k,k<3-> ∀t,s.a_.getD k none=some t->q6 k t
 a1:1<=s.a
 a2:s.a<=1099511627776
 b2:s.b<=1099511627776
 c2:s.c<=1099511627776
structure Qy(F:List aD)(pp:Option Addr)(p0 p1 p2:Value)(s:Fs):Prop where
 tree:vo F (.pointer pp) s.tree
 yt: ∀k,k<3->sP F ([p0,p1,p2].getD k undef) (s.a_.getD k none)
theorem H.m6{r:dQ}{w:World}{F:List aD}: ∀{G:List aD},H r w (G++F)->H r w F
 | [],h=>h
 |_::G,h=>H.m6 (G:=G) h.tail
theorem H.IZ{G:List aD}{e e':aD}(h:H r w (e::(G++e'::F))):H r w (e::e'::(G++F)):=h.perm (List.perm_middle.cons e)
theorem arj{f:Nat}(h:f<3):([R 0,R 1,R 2]:List Value)[f]? =some (R f):=by
 rcases(I:f=0\/f=1\/f=2)with rfl|rfl|rfl<;>rfl
theorem ark{x0 x1 x2 x3 y0 y1 y2:Value}(hk:k<3):([x0,x1,x2,x3,p0,p1,p2,y0,y1,y2]:List Value).set (4+k) p=[x0,x1,x2,x3,if k=0 then p else p0,if k=1 then p else p1,if k=2 then p else p2,y0,y1,y2]:=by
 rcases(I:k=0\/k=1\/k=2)with rfl|rfl|rfl<;>rfl
theorem arl(hk:k<3)(p:Value):[if k=0 then p else p0,if k=1 then p else p1,if k=2 then p else p2].getD k undef=p:=by
 rcases(I:k=0\/k=1\/k=2)with rfl|rfl|rfl<;>rfl
theorem arn{i:Nat}(hi:i<3)(hk:k<3)(h:k≠i):[if i=0 then p else p0,if i=1 then p else p1,if i=2 then p else p2].getD k undef=[p0,p1,p2].getD k undef:=by
 (rcases(I:k=0\/k=1\/k=2)with rfl|rfl|rfl<;>rcases(I:i=0\/i=1\/i=2)with rfl|rfl|rfl<;>first|rfl|exact absurd J h)
theorem H.aro{G:List aD}{e e1 e2:aD}(h:H r w (e::(G++e1::e2::F))):H r w (e::e1::e2::(G++F)):=
 h.perm ((List.perm_middle.trans (List.perm_middle.cons e1)).cons e)
theorem afr{p:Prop}(h:p:=by rw[arn vm hk e,eE,ag I];exact(kg k hk).sub (λe he=>by rw[cF];exact fe _ he)):p:=h
theorem afs{p:Prop}(h:p:=by rw[e,arl vm p',eE,ai ⟨J,I⟩];show lI _ _ _;rw[cF];exact arp):p:=h
theorem arq{db q:Nat}{ad:Option Addr}{D:List UInt8}{len cap:Nat}{T:TT}{sb aL ak co:Nat}{pp:Option Addr}{ob:Option Nat}{sp:List Value}{s:Fs}(h:H r w ((af sb [.slice (aB ob) s.out.length co,R aL,R ak,.pointer pp,p0,p1,p2,R s.a,R s.b,R s.c] 101)::(ob,C (List.map u8 s.out++sp) 5)::F))(hm:(af db (D.map u8) T)∈F)(a8:0<len->ad=some ⟨db,q,none⟩)(hq:q+len<=D.length)(jt:len<=cap)(hlen:len<=140737488355328)(qi:Qy F pp p0 p1 p2 s)(cS:Mh s)(fu:bG ob s.out.length co (s.out.map u8) sp 1)(zC:s.out.length<=1099511627776)(oQ:ak<=131072)(vx:aL<=1099511627776):Calls PP 34 #[aW sb,.slice ad len cap] w λe w'=> ∃v,e= .returned (R v)/\(i' aL ak s (aa D q len)).1=v/\(v≠1->H r w' F)/\(v=1-> ∃s' G pp' p0' p1' p2' bH FL dm,i' aL ak s (aa D q len)=(1,s')/\Qy (G++F) pp' p0' p1' p2' s'/\Mh s'/\bG bH s'.out.length FL (s'.out.map u8) dm 1/\H r w' ((af sb [.slice (aB bH) s'.out.length FL,R aL,R ak,.pointer pp',p0',p1',p2',R s'.a,R s'.b,R s'.c] 101)::(bH,C (List.map u8 s'.out++dm) 5)::(G++F))):=by
 obtain⟨vd,ve⟩:=cX hm;have dK:=dx hq;refine gS Tryz.func34 Tryz.ntmps34 [4] ?_;refine V 8 ?_;refine b_ J J J (aA (aqW (F:=F) (L:=(ob,C (List.map u8 s.out++sp) 5)::F) h (Sub.cons _ _) hm a8 hq jt hlen qi.tree cS.tree) ?_);rintro e w1 ⟨v,lL,nv,cv,ln,G1,zM,rfl,dE,hJ,h⟩;replace h:=h.IZ;refine V 14 ?_;refine an J ?_ ?_<;>intro tQ
 refine V 6 ?_;exact⟨v,J,(by unfold i';dsimp only;rw[dE,ai tQ]),λ_=>h.tail.tail.m6,λe=>absurd e tQ⟩
 have gr:v=1:=I;refine AV (hJ gr) λtext nw X5=>?_;have hL:=X5.1;have DQ:=X5.2.1;have yq:=X5.2.2;have pt:=ae6 hL cS.tree;rw[dK]at pt;have A4:(aa D q len).drop ln=(aa D (q+ln) (len-ln)):=sI;have A0:0<len-ln->(cut ad cap ln 1)=some ⟨db,q+ln,none⟩:=λh0=>eg (a8 I) I;have afu:(aa D (q+ln) (len-ln)).length=len-ln:=dx I;refine fx (fe G1 hm) λaGu aGv=>?_;refine V 5 ?_;refine ah (iY (a:=ln) J J I I) ?_;refine V 9 ?_;refine an J ?_ ?_<;>intro Bg
 refine V 5 ?_;exact⟨2,J,(by unfold i';dsimp only;rw[hL];dsimp only;rw[ag (λh'=>h' J),A4];rw[ai I]),λ_=>h.tail.tail.m6,(by intro e;cases e)⟩
 have dO:byte (aa D (q+ln) (len-ln)) 0=(D.getD (q+ln+0) 0).toNat:=zI I;have eL:=toNat_le (D.getD (q+ln+0) 0);have fh:=toNat_le (D.getD (q+ln+1) 0);refine V 4 ?_;refine ah (cI (a:=0) (W:=ao.lit _) J J (A0 I) I) (aO h J (gl I) ?_);refine V 5 ?_;refine jB [(9,9),(35,40)] (λρ w=> ∃head:Nat,Kn ρ [(9,R head)]/\H r w ((af sb [.slice (aB ob) s.out.length co,R aL,R ak,.pointer zM,p0,p1,p2,R s.a,R s.b,R s.c] 101)::(ob,C (List.map u8 s.out++sp) 5)::(G1++F))/\(head=dU (D.getD (q+ln+0) 0).toNat)) ?_ ?_
 refine V 6 ?_;refine an J ?_ ?_<;>intro iP
 refine V 3 ?_;exact⟨aM,3,aq,h,(by unfold dU;rw[ai iP])⟩
 refine V 6 ?_;refine an J ?_ ?_<;>intro rN
 refine V 3 ?_;exact⟨aM,2,aq,h,(by unfold dU;rw[ag iP,ai rN])⟩
 exact aQ ⟨aM,1,aq,h,(by unfold dU;rw[ag iP,ag rN])⟩
 rintro ρ w ⟨head,⟨mC,rfl⟩,h,I0⟩;have qV:1<=head/\head<=3/\(head=2->128<=(D.getD (q+ln+0) 0).toNat):=(by rw[I0];unfold dU;(repeat' split)<;>omega);refine V 8 ?_;refine an J ?_ ?_<;>intro zN
 refine V 5 ?_;exact⟨2,J,(by unfold i';dsimp only;rw[hL];dsimp only;rw[ag (λh'=>h' J),A4];rw[afu,ag Bg,dO,<-I0,ai zN]),λ_=>h.tail.tail.m6,(by intro e;cases e)⟩
 have rQ:=DQ.len;have tJ:0<len-ln-head->(cut (cut ad cap ln 1) (cap-ln) head 1)=some ⟨db,q+ln+head,none⟩:=λh0=>eg (A0 I) I;have FU:(aa D (q+ln) (len-ln)).drop head=(aa D (q+ln+head) (len-ln-head)):=sI;have Qz:(aa D (q+ln+head) (len-ln-head)).length=len-ln-head:=dx I;refine V 6 ?_;refine jB [(8,8),(46,61)] (λρ w=> ∃many:Nat,Kn ρ [(8,R many)]/\H r w ((af sb [.slice (aB ob) s.out.length co,R aL,R ak,.pointer zM,p0,p1,p2,R s.a,R s.b,R s.c] 101)::(ob,C (List.map u8 s.out++sp) 5)::(G1++F))/\(many=lM (aa D (q+ln) (len-ln)))/\(many<=1048576)) ?_ ?_
 refine V 5 ?_;refine an J ?_ ?_<;>intro IK
 refine V 3 ?_;refine ah (dN (b:=8) (h2:=ao.lit _) J J aj az) ?_;refine cM (ah (cI (a:=1) (W:=ao.lit _) J J (A0 I) I) (aO h J (gl I) ?_));refine V 4 ?_;exact⟨aM,((D.getD (q+ln+0) 0).toNat-128)*2^8+(D.getD (q+ln+1) 0).toNat,aq,h,(by unfold lM;rw[dO,<-I0,ai IK,zI I]),I⟩
 refine V 5 ?_;refine an J ?_ ?_<;>intro FA
 refine eS (cM (ah (uX (a:=1) (W:=ao.lit _) (c:=3) (h2:=ao.lit _) J J J I I) (dJ J J (aA (sK (ad:=cut (cut ad cap ln 1) (cap-ln) 1 1) (q:=q+ln+1) (len:=2) h (ar (ar (fe _ hm))) (λ_=>eg (A0 I) I) I I (Qh _ _)) ?_))));rintro e w1 ⟨rfl,rfl⟩;have fW:= @ph D (q+ln+1) 2;refine V 3 ?_;exact⟨aM,num (aa D (q+ln+1) 2)+32512,aq,h,(by unfold lM;rw[dO,<-I0,ag IK,ai FA,iL I]),I⟩
 exact aQ ⟨aM,(D.getD (q+ln+0) 0).toNat,aq,h,(by unfold lM;rw[dO,<-I0,ag IK,ag FA]),I⟩
 rintro ρ w ⟨many,⟨k5,rfl⟩,h,Dz,XU⟩;have zO:i' aL ak s (aa D q len)=if many=0 then(if(1<head\/0<len-ln-head)\/ak<text.length then(0,s)else(1,{s with out:=s.out++text,tree:=nw}))else zL aL ak s nw text many (aa D (q+ln+head) (len-ln-head)):=(by unfold i';dsimp only;rw[hL];dsimp only;rw[ag (λh'=>h' J),A4];rw[afu,ag Bg,dO,<-I0,ag zN,FU,Qz,<-Dz]);refine V 4 ?_;refine ah (iY (a:=head) J J I I) ?_;refine V 8 ?_;refine an J ?_ ?_<;>intro wJ
 refine V 6 ?_;refine d' (t:=69) J (λQA=>?_) (λQA=>?_)
 refine V 14 ?_;refine iI J ?_;refine V 5 ?_;exact⟨0,J,(by rw[zO,ai wJ,ai (Or.inl (Or.inl QA))]),λ_=>h.tail.tail.m6,(by intro e;cases e)⟩
 refine V 5 ?_;refine d' (t:=74) J (λFV=>?_) (λFV=>?_)
 refine V 9 ?_;refine iI J ?_;refine V 5 ?_;exact⟨0,J,(by rw[zO,ai wJ,ai (Or.inl (Or.inr FV))]),λ_=>h.tail.tail.m6,(by intro e;cases e)⟩
 refine V 9 ?_;refine an J ?_ ?_<;>intro Ma
 refine V 5 ?_;exact⟨0,J,(by rw[zO,ai wJ,ai (Or.inr I)]),λ_=>h.tail.tail.m6,(by intro e;cases e)⟩
 refine V 9 ?_;refine kW (List.map u8 s.out) sp (text.map u8) h 1 J J J fu (qg DQ (λe he=>ar (ar he))) (by intro x hx;obtain⟨y,_,rfl⟩:=jd.1 hx;rfl) I aj J ?_;intro w dy c9 dL h df fG eG;dsimp only[List.set]at h;rw[<-f_]at h df;refine V 2 ?_;refine b7 ?_;intro w h;refine V 6 ?_;have hC7:i' aL ak s (aa D q len)=(1,{s with out:=s.out++text,tree:=nw}):=(by rw[zO,ai wJ,ag (by intro h';rcases h' with(h'|h')|h'<;>omega)]);have ars:(s.out++text).length=s.out.length+nv:=(by rw[aF,rQ.1]);rw[<-ars]at h;exact⟨1,J,(by rw[hC7]),(λe=>absurd J e),λ_=>⟨{s with out:=s.out++text,tree:=nw},G1,zM,p0,p1,p2,dy,c9,dL,hC7,⟨yq,λk hk=>(qi.yt k hk).sub (Sub.right _ _)⟩,⟨pt.2.2,cS.a_,cS.yt,cS.a1,cS.a2,cS.b2,cS.c2⟩,⟨by simp,df,by dsimp only;omega,eG⟩,h⟩⟩
 refine V 8 ?_;refine an J ?_ ?_<;>intro I1
 refine V 5 ?_;exact⟨2,J,(by rw[zO,ag wJ];unfold zL;rw[Qz,ai I]),λ_=>h.tail.tail.m6,(by intro e;cases e)⟩
 have L6:=toNat_le (D.getD (q+ln+head+0) 0);have zP:=zO;have Iy:(aa D (q+ln+head) (len-ln-head)).drop 1=(aa D (q+ln+head+1) (len-ln-head-1)):=sI;have pA:byte (aa D (q+ln+head) (len-ln-head)) 0=(D.getD (q+ln+head+0) 0).toNat:=zI I;refine V 4 ?_;refine ah (cI (a:=0) (W:=ao.lit _) J J (tJ I) I) (aO h J (gl I) ?_);refine V 7 ?_;refine ah (vv J J az) ?_;refine V 2 ?_;refine an J ?_ ?_<;>intro QB
 refine V 5 ?_;exact⟨0,J,(by rw[zO,ag wJ];unfold zL;rw[Qz,ag I,pA,ai QB]),λ_=>h.tail.tail.m6,(by intro e;cases e)⟩
 have hSP:zL aL ak s nw text many (aa D (q+ln+head) (len-ln-head))=if(fv (D.getD (q+ln+head+0) 0).toNat s.a_ (aa D (q+ln+head+1) (len-ln-head-1)) 3).1≠1 then((fv (D.getD (q+ln+head+0) 0).toNat s.a_ (aa D (q+ln+head+1) (len-ln-head-1)) 3).1,s)else
     ((k9 (qh (fv (D.getD (q+ln+head+0) 0).toNat s.a_ (aa D (q+ln+head+1) (len-ln-head-1)) 3).2.1) aL ak s.out s.a s.b s.c text many ((aa D (q+ln+head+1) (len-ln-head-1)).drop (fv (D.getD (q+ln+head+0) 0).toNat s.a_ (aa D (q+ln+head+1) (len-ln-head-1)) 3).2.2)).1,
       ⟨(k9 (qh (fv (D.getD (q+ln+head+0) 0).toNat s.a_ (aa D (q+ln+head+1) (len-ln-head-1)) 3).2.1) aL ak s.out s.a s.b s.c text many ((aa D (q+ln+head+1) (len-ln-head-1)).drop (fv (D.getD (q+ln+head+0) 0).toNat s.a_ (aa D (q+ln+head+1) (len-ln-head-1)) 3).2.2)).2.1,nw,(fv (D.getD (q+ln+head+0) 0).toNat s.a_ (aa D (q+ln+head+1) (len-ln-head-1)) 3).2.1,
        (k9 (qh (fv (D.getD (q+ln+head+0) 0).toNat s.a_ (aa D (q+ln+head+1) (len-ln-head-1)) 3).2.1) aL ak s.out s.a s.b s.c text many ((aa D (q+ln+head+1) (len-ln-head-1)).drop (fv (D.getD (q+ln+head+0) 0).toNat s.a_ (aa D (q+ln+head+1) (len-ln-head-1)) 3).2.2)).2.2.1,(k9 (qh (fv (D.getD (q+ln+head+0) 0).toNat s.a_ (aa D (q+ln+head+1) (len-ln-head-1)) 3).2.1) aL ak s.out s.a s.b s.c text many ((aa D (q+ln+head+1) (len-ln-head-1)).drop (fv (D.getD (q+ln+head+0) 0).toNat s.a_ (aa D (q+ln+head+1) (len-ln-head-1)) 3).2.2)).2.2.2.1,(k9 (qh (fv (D.getD (q+ln+head+0) 0).toNat s.a_ (aa D (q+ln+head+1) (len-ln-head-1)) 3).2.1) aL ak s.out s.a s.b s.c text many ((aa D (q+ln+head+1) (len-ln-head-1)).drop (fv (D.getD (q+ln+head+0) 0).toNat s.a_ (aa D (q+ln+head+1) (len-ln-head-1)) 3).2.2)).2.2.2.2⟩):=by
   unfold zL;rw[Qz,ag I,pA,ag QB,Iy]
 rw[ag wJ,hSP]at zP;clear hSP;refine V 4 ?_;refine ah (iY (a:=1) (W:=ao.lit _) J J I I) ?_;refine V 5 ?_;refine AX J J J (kM _ _ _) h ?_;intro bz w h;refine V 4 ?_;refine bQ (σ:=Nat×List (Option Tb)×Nat×Value×Value×Value×List aD×Option Addr) [(1,1),(4,4),(11,14),(106,141)] (λ⟨i,a_,ps,p0,p1,p2,G,DW⟩ ρ w=>Kn ρ [(106,R i),(1,.slice DW (len-ln-head-1-ps) (cap-ln-head-1-ps))]/\H r w ((af bz [R 0,R 1,R 2] 3)::(af sb [.slice (aB ob) s.out.length co,R aL,R ak,.pointer zM,p0,p1,p2,R s.a,R s.b,R s.c] 101)::(ob,C (List.map u8 s.out++sp) 5)::(G++F))/\(i<=3)/\(fv (D.getD (q+ln+head+0) 0).toNat s.a_ (aa D (q+ln+head+1) (len-ln-head-1)) i=(1,a_,ps))/\(ps<=len-ln-head-1)/\(0<len-ln-head-1-ps->DW=some ⟨db,q+ln+head+1+ps,none⟩)/\(∀k,k<3->sP (G++F) ([p0,p1,p2].getD k undef) (a_.getD k none))/\(∀k,k<3-> ∀t,a_.getD k none=some t->q6 k t)/\(∀k,k<i-> ∃t,a_.getD k none=some t)/\(a_.length=3)/\(Sub G1 G)) (λ⟨i,a_,ps,p0,p1,p2,G,DW⟩=>3-i) (0,s.a_,0,p0,p1,p2,G1,(cut (cut (cut ad cap ln 1) (cap-ln) head 1) (cap-ln-head) 1 1)) ⟨aq,h,I,J,(bP _),(λh0=>eg (tJ I) I),(λk hk=>(qi.yt k hk).sub (Sub.right _ _)),cS.yt,(λk hk=>I),cS.a_,(Sub.refl _)⟩ ?_;rintro⟨i,a_,ps,p0,p1,p2,G,DW⟩ ρ w ⟨⟨mD,rfl⟩,h,hi,hT,p8,QC,kg,jH,yi,X6,X7⟩;refine V 5 ?_;refine an J ?_ ?_<;>intro vm
 refine V 7 ?_;refine aO h J (arj vm) ?_;refine V 12 ?_;refine ah (vv J J (aI (j6 _ _) az)) (cM ?_);replace h:=h.zz [1] 0;refine uV J J J J J (aA (aqo (F:=G++F) (ad:=DW) (q:=q+ln+head+1+ps) (len:=(len-ln-head-1-ps)) (kind:=i) (mode:=((D.getD (q+ln+head+0) 0).toNat/2^(6-2*i) % 4)) (gY:=a_.getD i none) h (λe he=>ar (ar he)) (fe _ hm) QC I I I I (kg i vm)) ?_);rintro e w1 ⟨ok,t,size,Gn,p',rfl,kG,htA,h⟩;rw[ark vm]at h;replace h:=h.aro;rw[<-cF]at h;have art:(aa D (q+ln+head+1+ps) (len-ln-head-1-ps)).length=(len-ln-head-1-ps):=dx I;refine V 10 ?_;refine ah (j8 J) (aC (eA J ?_ ?_))<;>intro X8
 (have tL:ok=false:=by cases ok<;>first|rfl| (exfalso;revert X8;decide));rw[tL,ag aj]at kG;refine V 5 ?_;have dd:fv (D.getD (q+ln+head+0) 0).toNat s.a_ (aa D (q+ln+head+1) (len-ln-head-1)) (i+1)=(2,s.a_,0):=(by rw[fv,hT];dsimp only;rw[ag (λh'=>h' J),sI,kG]);exact⟨2,J,(by rw[zP,IY (i:=i+1) (by rw[dd];exact(show(2:Nat)≠1 by decide)) (I:i+1<=3),dd];rfl),λ_=>h.tail.tail.tail.m6,(by intro e;cases e)⟩
 (have fX:ok=true:=by cases ok<;>first|rfl| (exfalso;revert X8;decide));rw[fX,ai J]at kG;have arp:=htA fX;have ia:=Qx kG;rw[art]at ia;have afv:=afb I kG (jH i vm);refine V 5 ?_;refine ah (iY (a:=size) J J I I) ?_;refine V 9 ?_;refine ah (vv J J (aI (j6 _ _) az)) ?_;refine V 2 ?_;refine d' (t:=136) J (λafw=>?_) (λafw=>?_)
 refine V 5 ?_;refine an J ?_ ?_<;>intro aGw
 refine V 5 ?_;have dd:fv (D.getD (q+ln+head+0) 0).toNat s.a_ (aa D (q+ln+head+1) (len-ln-head-1)) (i+1)=(0,s.a_,0):=(by rw[fv,hT];dsimp only;rw[ag (λh'=>h' J),sI,kG];dsimp only;rw[ai ⟨afw,by rw[dx I];omega⟩]);exact⟨0,J,(by rw[zP,IY (i:=i+1) (by rw[dd];exact(show(0:Nat)≠1 by decide)) (I:i+1<=3),dd];rfl),λ_=>h.tail.tail.tail.m6,(by intro e;cases e)⟩
 refine V 5 ?_;replace h:=h.zz [2,1,2] 0;refine⟨aM,?_⟩;have rT:fv (D.getD (q+ln+head+0) 0).toNat s.a_ (aa D (q+ln+head+1) (len-ln-head-1)) (i+1)=(1,a_.set i (some t),ps+size):=(by rw[fv,hT];dsimp only;rw[ag (λh'=>h' J),sI,kG];dsimp only;rw[ag (by rw[dx I];omega)]);refine⟨(i+1,a_.set i (some t),ps+size,(if i=0 then p' else p0),(if i=1 then p' else p1),(if i=2 then p' else p2),Gn++G,cut DW (cap-ln-head-1-ps) size 1),cw,?_⟩;refine⟨Kn.mk ⟨J,iJ J I I,trivial⟩,h,I,rT,I,(λh0=>?_),(λk hk=>?_),(λk hk t' qM=>?_),(λk hk=>?_),(by rw[dD];exact X6),(λe he=>fe _ (X7 e he))⟩
 rw[<-gQ];exact eg (QC I) I
 by_cases e:k=i
 exact afs
 exact afr
 rw[eE]at qM;by_cases e:k=i
 rw[ai ⟨e.symm,I⟩]at qM;cases qM;rw[e];exact afv
 rw[ag I]at qM;exact jH k hk t' qM
 rw[eE];by_cases e:k=i
 rw[ai ⟨e.symm,I⟩];exact⟨t,J⟩
 rw[ag I];exact yi k I
 refine V 5 ?_;refine fV J ?_;refine V 5 ?_;replace h:=h.zz [2,1,2] 0;refine⟨aM,?_⟩;have rT:fv (D.getD (q+ln+head+0) 0).toNat s.a_ (aa D (q+ln+head+1) (len-ln-head-1)) (i+1)=(1,a_.set i (some t),ps+size):=(by rw[fv,hT];dsimp only;rw[ag (λh'=>h' J),sI,kG];dsimp only;rw[ag (by rw[dx I];omega)]);refine⟨(i+1,a_.set i (some t),ps+size,(if i=0 then p' else p0),(if i=1 then p' else p1),(if i=2 then p' else p2),Gn++G,cut DW (cap-ln-head-1-ps) size 1),cw,?_⟩;refine⟨Kn.mk ⟨J,iJ J I I,trivial⟩,h,I,rT,I,(λh0=>?_),(λk hk=>?_),(λk hk t' qM=>?_),(λk hk=>?_),(by rw[dD];exact X6),(λe he=>fe _ (X7 e he))⟩
 rw[<-gQ];exact eg (QC I) I
 by_cases e:k=i
 exact afs
 exact afr
 rw[eE]at qM;by_cases e:k=i
 rw[ai ⟨e.symm,I⟩]at qM;cases qM;rw[e];exact afv
 rw[ag I]at qM;exact jH k hk t' qM
 rw[eE];by_cases e:k=i
 rw[ai ⟨e.symm,I⟩];exact⟨t,J⟩
 rw[ag I];exact yi k I
 refine V 7 ?_;refine uV J J J J J ?_;replace h:=h.tail;have yr:i=3:=I;rw[yr]at hT yi
 have afx:Sub (G1++F) (G++F):=λe he=>by
  rcases nL.1 he with W|W
  exact ni _ (X7 e W)
  exact fe _ W
 have aru:zK (qh a_):=λk hk=>(by obtain⟨t,ht⟩:=yi k hk;unfold qh;rw[ht];exact jH k hk t ht);have arv: ∀k,k<3->lI (G++F) ([p0,p1,p2].getD k undef) (qh a_ k):=λk hk=>(by obtain⟨t,ht⟩:=yi k hk;have:=kg k hk;rw[ht]at this;unfold qh;rw[ht];exact this);refine(aq8 (F:=G++F) (ts:=qh a_) (text:=text) (many:=many) (ad:=DW) (q:=q+ln+head+1+ps) (len:=(len-ln-head-1-ps)) h (fe _ hm) QC I I arv aru fu (DQ.sub afx) pt.1 I XU cS.a1 cS.a2 cS.b2 cS.c2 zC oQ vx).mono ?_;rintro e w1 ⟨v2,rfl,eZ,fH,i_⟩;refine⟨_,J,?_⟩;refine V 3 ?_;rw[hT]at zP;dsimp only at zP;rw[ag (λh'=>h' J),sI]at zP;refine⟨v2,J,(by rw[zP];exact eZ),λe=>(fH e).m6,λe=>?_⟩;obtain⟨cO,a',b',c',bH,FL,dm,hq',W,h2,h3,h4,h5,h⟩:=i_ e;exact⟨⟨cO,nw,a_,a',b',c'⟩,G,zM,p0,p1,p2,bH,FL,dm,(by rw[zP,hq']),⟨yq.sub afx,kg⟩,⟨pt.2.2,X6,jH,h2,h3,h4,h5⟩,W,h⟩
end Go.Z
namespace Go.Z
def dC(d:Nat):Bool:=decide (¬d&&&32=0)
def dV(d:Nat):Nat:=[if dC d=true then 1 else 0,2,4,8].getD (d/64) 0
def h_(d:Nat):Nat:=[0,1,2,4].getD (d % 4) 0
def qj(x:Nat):Nat:=2^min (10+x/8) 50+2^min (10+x/8) 50/8*(x % 8)
def jk(E:List UInt8):Nat×Nat×Nat×Bool×Bool×Nat:=
 let d:=byte E 4
 let wide:=dV d
 let id:=h_ d
 let one:=if dC d=true then 0 else 1
 if ¬d&&&8=0 then(2,0,0,false,false,0)
 else if E.length<5+id+wide+one then(2,0,0,false,false,0)
 else if ¬num (aa E (5+one) id)=0 then(2,0,0,false,false,0)
 else if wide=8/\64<=byte E (5+one+id+7)then(0,0,0,false,false,0)
 else
   let size:=num (aa E (5+one+id) wide)+(if wide=2 then 256 else 0)
   let aL:=if dC d=true then size else qj (byte E 5)
   if 8388608<aL then(0,0,0,false,false,0)
   else(1,size,aL,decide (0<wide),decide (¬d&&&4=0),5+one+id+wide)
end Go.Z
namespace Go.Z
open Go Go.Proofs
variable {d q:Nat}{p:Prop}{w:World}
theorem Mi(h: ¬d&&&32=0):dC d=true:=xF h
theorem DX(h: ¬ ¬d&&&32=0): ¬dC d=true:=λe=>h (tf e)
theorem afy(h: ¬ ¬d&&&32=0):dC d=false:=by
 cases e:dC d with
 |false=>rfl
 |true=>exact absurd e (DX h)
theorem QD(h: ¬ ¬ ¬d&&&32=0):dC d=true:=Mi (λe=>h (λe'=>e' e))
theorem afz(d:Nat):dV d=8\/dV d<=4:=by
 unfold dV
 match d/64 with
 |0=>right;show(if dC d=true then 1 else 0)<=4;split<;>omega
 |1=>right;show 2<=4;omega
 |2=>right;show 4<=4;omega
 |3=>left;rfl
 |n+4=>right;exact bP _
theorem yu{P:Program}{ρ:Env}{T T' ty:TypeId}{x y z:Operand}[hu:bO P T (.slice T')]{s:Nat} [hs:Sz P T' s]{ad:Option Addr}{len cap:Nat}{u u':Int}{k k':IntKind}(a n:Nat)(hx:Env.ev ρ x= .slice ad len cap)(hy:Env.ev ρ y= .int k u)(hz:Env.ev ρ z= .int k' u') [W:ao u a] [h2:ao u' (a+n)](h4:a+n<=cap):run P ρ (.slice T x (some y) (some z) none) ty w= .ok (.value (.slice (cut ad cap a s) n (cap-a))) w:=by
 rw[uX hx hy hz (mS _ _) h4,uO]
theorem afA{d:Nat}:dV d<=8:=by unfold dV;exact FH _ (by split<;>omega)
theorem afB{d:Nat}:h_ d<=4:=FH _ I
theorem yv{D:List UInt8}{q n:Nat}(h:n<=4):num (aa D q n)<=4294967295:=by
 have W:= @ph D q n;have h2:2^(8*n)<=2^32:=dp I I;omega
theorem arx{D:List UInt8}(hq:q+8<=D.length)(h:(D.getD (q+7) 0).toNat<64):num (aa D q 8)<=4611686018427387903:=by
 have hl:(aa D q 8).length=8:=dx hq;have e:=sH (aa D q 8) 7 I;have e2:(aa D q 8).take (7+1)=aa D q 8:=jf I;rw[e2,kN I]at e;have W:=Dd (aa D q 8) 7;omega
theorem afC(h:p:=by refine V 3 ?_;refine ah (d_ (b:=256) (h2:=ao.lit _) J J (by have:= @yv D (q+(5+(if dC (D.getD (q+4) 0).toNat=true then 0 else 1)+(h_ (D.getD (q+4) 0).toNat))) (dV (D.getD (q+4) 0).toNat) I;simp only[aG];omega)) ?_;refine pe J (b7 ?_);intro w h;exact aC ⟨aM,aq,(by first| (rw[ai FW];exact h)| (rw[ag FW,kU];exact h))⟩):p:=h
theorem afD(h:p:=by refine V 4 ?_;refine b7 ?_;intro w h;exact aC ⟨aM,aq,(by first| (have e:=Mi I2;rw[e]at h ⊢;exact h)| (have e:=afy I2;rw[e]at h ⊢;exact h))⟩):p:=h
theorem afE(h:p:=by exact aQ ⟨aM,aq,(by first| (have e:=Mi I2;rw[e]at h ⊢;exact h)| (have e:=afy I2;rw[e]at h ⊢;exact h))⟩):p:=h
theorem afF(h:p:=by refine⟨_,qQ [_,_,_,_] h J gJ J,?_⟩;exact⟨1,_,_,_,_,_,J,(by rw[hH]),λ_=>hH,h.tail.tail⟩):p:=h
theorem afG(h:p:=by exact aQ ⟨aM,aq,(by first| (rw[ai FW];exact h)| (rw[ag FW,kU];exact h))⟩):p:=h
theorem ary{r:dQ}{F:List aD}{db:Nat}{ad:Option Addr}{D:List UInt8}{len cap:Nat}{T:TT}(h:H r w F)(hm:(af db (D.map u8) T)∈F)(a8:0<len->ad=some ⟨db,q,none⟩)(hq:q+len<=D.length)(jt:len<=cap)(hlen:len<=140737488355328)(h5:5<=len):Calls PP 33 #[.slice ad len cap] w λe w'=> ∃v hs hw hk hu at_,e= .returned (.tuple #[.agg #[R hs,R hw,.bool hk,.bool hu],R at_,R v])/\(jk (aa D q len)).1=v/\(v=1->jk (aa D q len)=(1,hs,hw,hk,hu,at_))/\H r w' F:=by
 obtain⟨vd,ve⟩:=cX hm;have dK:=dx hq;have hd:=toNat_le (D.getD (q+4) 0);have hx:=toNat_le (D.getD (q+5) 0);have kh:= @afA (D.getD (q+4) 0).toNat;have nX:= @afB (D.getD (q+4) 0).toNat;have tU:byte (aa D q len) 4=(D.getD (q+4) 0).toNat:=zI I;refine CW (P:=PP) Tryz.func33 135 Tryz.ntmps33 2 95 [3,4] J J (args:=[_]) J (a9 (eS (eh h J ?_)));intro br w h;refine V 6 ?_;refine ah (cI (a:=4) (W:=ao.lit _) J J (a8 I) I) (aO h J (gl I) ?_);refine V 16 ?_;refine Iu J J J J (tw _ _ _ _) h ?_;intro bz w h;refine dI (aC (cD [(21,23)] (λρ w=>Kn ρ []/\H r w ((af bz [R (if dC (D.getD (q+4) 0).toNat=true then 1 else 0),R 2,R 4,R 8] 3)::(af br [R 0,R 0,.bool false,.bool false] 95)::F)) ?_ ?_))
 refine V 4 ?_;refine an J ?_ ?_<;>intro oR
 refine eS (cM (ah (js (a:=0) (W:=ao.lit _) J J (by first|rfl|assumption|exact sx J I|exact eg J I|exact eg (by assumption) I) I) ?_));refine gU (R 1) ?_;intro w h;exact aC ⟨aM,aq,(by first| (rw[ai (Mi oR)];exact h)| (rw[ag (DX oR)];exact h))⟩
 exact aQ ⟨aM,aq,(by first| (rw[ai (Mi oR)];exact h)| (rw[ag (DX oR)];exact h))⟩
 rintro ρ w ⟨⟨mC,rfl⟩,h⟩;refine cD [(9,10),(24,33)] (λρ w=>Kn ρ [(9,R (dV (D.getD (q+4) 0).toNat)),(10,R (h_ (D.getD (q+4) 0).toNat))]/\H r w ((af br [R 0,R 0,.bool false,.bool false] 95)::F)) ?_ ?_
 refine bL h [0,4,8,12,24,28,17,40,22,32,37,44] ?_;intro w h;refine av 5 ?_;refine aw J (vv J J az) (aK J h J (sR (a:=if dC (D.getD (q+4) 0).toNat=true then 1 else 0) (b:=2) (c:=4) (d:=8) I) (eY J (C' J J J J J (tw _ _ _ _) h ?_)));intro by2 w h;refine av 1 ?_;refine aK J h J (sR (a:=0) (b:=1) (c:=2) (d:=4) I) (eY J (cm ?_));replace h:=h.tail.tail;(try dsimp only[dB]at h);exact⟨aM,aq,h⟩
 rintro ρ w ⟨⟨k5,rfl⟩,h⟩;refine V 7 ?_;refine ah (zm (ao_ _ _) J J) (eh h J ?_);intro bh w h;refine b7 ?_;intro w h;refine V 8 ?_;refine an J ?_ ?_<;>intro yw
 refine a9 (eS (ah (iK [_,_,_,_] h J gJ J) (b7 ?_)));intro w h;refine V 4 ?_;refine⟨_,qQ [_,_,_,_] h J gJ J,?_⟩;exact⟨2,_,_,_,_,_,J,(by unfold jk;dsimp only;rw[tU,dK,ai yw]),(by intro e;cases e),h.tail.tail⟩
 refine V 5 ?_;refine ah (d_ (a:=5) (b:=(h_ (D.getD (q+4) 0).toNat)) J J az) (cM (ah (d_ (a:=5+(h_ (D.getD (q+4) 0).toNat)) (b:=(dV (D.getD (q+4) 0).toNat)) J J az) (dI (aC (cD [(12,12),(49,52)] (λρ w=>Kn ρ [(12,R (5+(h_ (D.getD (q+4) 0).toNat)+(dV (D.getD (q+4) 0).toNat)+(if dC (D.getD (q+4) 0).toNat=true then 0 else 1)))]/\H r w ((af bh [R 0,R 0,.bool (decide (0<dV (D.getD (q+4) 0).toNat)),.bool (decide (¬(D.getD (q+4) 0).toNat&&&4=0))] 95)::(af br [R 0,R 0,.bool false,.bool false] 95)::F)) ?_ ?_)))))
 refine V 3 ?_;refine ah (VW J) (aC (an J ?_ ?_))<;>intro Mj
 refine V 5 ?_;exact⟨aM,Kn.mk ⟨gy (by rw[ag (DX Mj)]),trivial⟩,h⟩
 exact aQ ⟨aM,Kn.mk ⟨gy (by rw[ai (QD Mj)];rfl),trivial⟩,h⟩
 rintro ρ w ⟨⟨mD,rfl⟩,h⟩;refine V 8 ?_;refine an J ?_ ?_<;>intro FA
 refine a9 (eS (ah (iK [_,_,_,_] h J gJ J) (b7 ?_)));intro w h;refine V 4 ?_;refine⟨_,qQ [_,_,_,_] h J gJ J,?_⟩;exact⟨2,_,_,_,_,_,J,(by unfold jk;dsimp only;rw[tU,dK,ag yw,ai I]),(by intro e;cases e),h.tail.tail⟩
 have hb5: ¬dC (D.getD (q+4) 0).toNat=true->byte (aa D q len) 5=(D.getD (q+5) 0).toNat:=λh'=>(by rw[ag h']at FA;exact zI I);have X9:(dV (D.getD (q+4) 0).toNat)=8->byte (aa D q len) ((5+(if dC (D.getD (q+4) 0).toNat=true then 0 else 1)+(h_ (D.getD (q+4) 0).toNat))+7)=(D.getD (q+((5+(if dC (D.getD (q+4) 0).toNat=true then 0 else 1)+(h_ (D.getD (q+4) 0).toNat))+7)) 0).toNat:=λh'=>zI I
 have QE: ∀z,(if dC (D.getD (q+4) 0).toNat=true then z else qj (byte (aa D q len) 5))=(if dC (D.getD (q+4) 0).toNat=true then z else qj (D.getD (q+5) 0).toNat):=λz=>by
  by_cases h':dC (D.getD (q+4) 0).toNat=true
  rw[ai h',ai h']
  rw[ag h',ag h',hb5 h']
 refine aQ (cD [(6,6),(58,85)] (λρ w=>Kn ρ [(6,R (5+(if dC (D.getD (q+4) 0).toNat=true then 0 else 1)))]/\H r w ((af bh [R 0,R (if dC (D.getD (q+4) 0).toNat=true then 0 else qj (D.getD (q+5) 0).toNat),.bool (decide (0<dV (D.getD (q+4) 0).toNat)),.bool (decide (¬(D.getD (q+4) 0).toNat&&&4=0))] 95)::(af br [R 0,R 0,.bool false,.bool false] 95)::F)) ?_ ?_)
 refine V 3 ?_;refine ah (VW J) (aC (an J ?_ ?_))<;>intro rL
 have arz:2^min (10+(D.getD (q+5) 0).toNat/2^3) 50<=1125899906842624:=aI (dp I (Vu _ _)) aj;have FY:(if dC (D.getD (q+4) 0).toNat=true then 0 else 1)=1:=ag (DX rL);have lH:2^min (10+(D.getD (q+5) 0).toNat/2^3) 50/8*((D.getD (q+5) 0).toNat % 2^3)<=9007199254740992:=aI (sr (aI (j6 _ _) arz) (AB (dH _ aj))) aj;refine V 4 ?_;refine ah (cI (a:=5) (W:=ao.lit _) J J (a8 I) I) (aO h J (gl I) ?_);refine V 3 ?_;refine ah (zh (b:=50) (h2:=ao.lit _) J J) (ah (gn J J dw az) ?_);refine pe J (gU (R (2^min (10+(D.getD (q+5) 0).toNat/2^3) 50)) ?_);intro w h;refine aC (a9 (bL h [0,8,20,24,28,5,13,16,33,36,40,44,48,52,59] ?_));intro w h;refine av 4 ?_;refine aw J (cI (a:=5) (W:=ao.lit _) J J (a8 I) I) ?_;refine av 2 ?_;refine aw J (mT (b:=8) (h2:=ao.lit _) J J I az) (aK J h J (gl I) ?_);refine av 1 ?_;refine aw J (jO (n:=3) J J az az) (aw J (AJ J J az) ?_);refine av 2 ?_;refine b7 ?_;intro w h;refine cm ?_;refine V 5 ?_;exact⟨aM,Kn.mk ⟨gy (by rw[ag (DX rL)]),trivial⟩,(by first| (rw[ag (DX rL)];exact h)| (rw[ai (QD rL)];exact h))⟩
 exact aQ ⟨aM,Kn.mk ⟨gy (by rw[ai (QD rL)]),trivial⟩,(by first| (rw[ag (DX rL)];exact h)| (rw[ai (QD rL)];exact h))⟩
 rintro ρ w ⟨⟨qY,rfl⟩,h⟩;refine V 8 ?_;refine ah (yu (5+(if dC (D.getD (q+4) 0).toNat=true then 0 else 1)) (h_ (D.getD (q+4) 0).toNat) J J J I) (dJ J J (aA (sK (ad:=cut ad cap (5+(if dC (D.getD (q+4) 0).toNat=true then 0 else 1)) 1) (q:=q+(5+(if dC (D.getD (q+4) 0).toNat=true then 0 else 1))) (len:=(h_ (D.getD (q+4) 0).toNat)) h (ar (ar hm)) (λh0=>eg (a8 I) I) I I (aI (yv nX) I)) ?_));rintro e w1 ⟨rfl,rfl⟩;refine V 2 ?_;refine an J ?_ ?_<;>intro qU
 refine a9 (eS (ah (iK [_,_,_,_] h J gJ J) (b7 ?_)));intro w h;refine V 4 ?_;refine⟨_,qQ [_,_,_,_] h J gJ J,?_⟩;exact⟨2,_,_,_,_,_,J,(by unfold jk;dsimp only;rw[tU,dK,ag yw,ag I,iL I,ai qU]),(by intro e;cases e),h.tail.tail⟩
 refine V 14 ?_;refine d' (t:=100) J (λI3=>?_) (λI3=>?_)
 refine V 3 ?_;refine dn J J J (cI (a:=(5+(if dC (D.getD (q+4) 0).toNat=true then 0 else 1)+(h_ (D.getD (q+4) 0).toNat))+7) J J (a8 I) I) J (dn J J J (run_load h J (gl I)) J ?_);refine V 3 ?_;refine an J ?_ ?_<;>intro vm
 refine a9 (eS (ah (iK [_,_,_,_] h J gJ J) (b7 ?_)));intro w h;refine V 4 ?_;refine⟨_,qQ [_,_,_,_] h J gJ J,?_⟩;exact⟨0,_,_,_,_,_,J,(by unfold jk;dsimp only;rw[tU,dK,ag yw,ag I,iL I,ag qU,ai ⟨I3,by rw[X9 I3];omega⟩]),(by intro e;cases e),h.tail.tail⟩
 refine V 8 ?_;refine ah (yu (5+(if dC (D.getD (q+4) 0).toNat=true then 0 else 1)+(h_ (D.getD (q+4) 0).toNat)) (dV (D.getD (q+4) 0).toNat) J J J I) ?_
 have Ig:num (aa D (q+(5+(if dC (D.getD (q+4) 0).toNat=true then 0 else 1)+(h_ (D.getD (q+4) 0).toNat))) (dV (D.getD (q+4) 0).toNat))<=9223372036854775807:=by
  rcases afz (D.getD (q+4) 0).toNat with h8|h4
  rw[h8];exact aI (arx I (by rw[gQ];omega)) I
  exact aI (yv h4) I
 refine dJ J J (aA (sK (ad:=cut ad cap (5+(if dC (D.getD (q+4) 0).toNat=true then 0 else 1)+(h_ (D.getD (q+4) 0).toNat)) 1) (q:=q+(5+(if dC (D.getD (q+4) 0).toNat=true then 0 else 1)+(h_ (D.getD (q+4) 0).toNat))) (len:=(dV (D.getD (q+4) 0).toNat)) h (ar (ar hm)) (λh0=>eg (a8 I) I) I I (Ig)) ?_);rintro e w1 ⟨rfl,rfl⟩;refine pe J (b7 ?_);intro w h;refine aC (cD [(117,122)] (λρ w=>Kn ρ []/\H r w ((af bh [R ((num (aa D (q+(5+(if dC (D.getD (q+4) 0).toNat=true then 0 else 1)+(h_ (D.getD (q+4) 0).toNat))) (dV (D.getD (q+4) 0).toNat)))+(if(dV (D.getD (q+4) 0).toNat)=2 then 256 else 0)),R (if dC (D.getD (q+4) 0).toNat=true then 0 else qj (D.getD (q+5) 0).toNat),.bool (decide (0<dV (D.getD (q+4) 0).toNat)),.bool (decide (¬(D.getD (q+4) 0).toNat&&&4=0))] 95)::(af br [R 0,R 0,.bool false,.bool false] 95)::F)) ?_ ?_)
 refine V 5 ?_;refine an J ?_ ?_<;>intro FW
 exact afC
 exact afG
 rintro ρ w ⟨⟨sO,rfl⟩,h⟩;refine cD [(123,126)] (λρ w=>Kn ρ []/\H r w ((af bh [R ((num (aa D (q+(5+(if dC (D.getD (q+4) 0).toNat=true then 0 else 1)+(h_ (D.getD (q+4) 0).toNat))) (dV (D.getD (q+4) 0).toNat)))+(if(dV (D.getD (q+4) 0).toNat)=2 then 256 else 0)),R (if dC (D.getD (q+4) 0).toNat=true then((num (aa D (q+(5+(if dC (D.getD (q+4) 0).toNat=true then 0 else 1)+(h_ (D.getD (q+4) 0).toNat))) (dV (D.getD (q+4) 0).toNat)))+(if(dV (D.getD (q+4) 0).toNat)=2 then 256 else 0))else qj (D.getD (q+5) 0).toNat),.bool (decide (0<dV (D.getD (q+4) 0).toNat)),.bool (decide (¬(D.getD (q+4) 0).toNat&&&4=0))] 95)::(af br [R 0,R 0,.bool false,.bool false] 95)::F)) ?_ ?_
 refine V 4 ?_;refine an J ?_ ?_<;>intro I2
 exact afD
 exact afE
 rintro ρ w ⟨⟨vk,rfl⟩,h⟩;refine V 7 ?_;refine an J ?_ ?_<;>intro qe
 refine a9 (eS (ah (iK [_,_,_,_] h J gJ J) (b7 ?_)));intro w h;refine V 4 ?_;refine⟨_,qQ [_,_,_,_] h J gJ J,?_⟩;exact⟨0,_,_,_,_,_,J,(by unfold jk;dsimp only;rw[tU,dK,ag yw,ag I,iL I,ag qU,ag (by intro h';have:=h'.2;rw[X9 h'.1]at this;omega),iL I,QE,ai qe]),(by intro e;cases e),h.tail.tail⟩
 refine V 3 ?_;refine ah (iK [_,_,_,_] h J gJ J) ?_;refine V 3 ?_;refine b7 ?_;intro w h;refine V 4 ?_;have hH:jk (aa D q len)=(1,((num (aa D (q+(5+(if dC (D.getD (q+4) 0).toNat=true then 0 else 1)+(h_ (D.getD (q+4) 0).toNat))) (dV (D.getD (q+4) 0).toNat)))+(if(dV (D.getD (q+4) 0).toNat)=2 then 256 else 0)),(if dC (D.getD (q+4) 0).toNat=true then((num (aa D (q+(5+(if dC (D.getD (q+4) 0).toNat=true then 0 else 1)+(h_ (D.getD (q+4) 0).toNat))) (dV (D.getD (q+4) 0).toNat)))+(if(dV (D.getD (q+4) 0).toNat)=2 then 256 else 0))else qj (D.getD (q+5) 0).toNat),decide (0<(dV (D.getD (q+4) 0).toNat)),decide (¬(D.getD (q+4) 0).toNat&&&4=0),(5+(if dC (D.getD (q+4) 0).toNat=true then 0 else 1)+(h_ (D.getD (q+4) 0).toNat))+(dV (D.getD (q+4) 0).toNat)):=(by unfold jk;dsimp only;rw[tU,dK,ag yw,ag I,iL I,ag qU,ag (by intro h';have:=h'.2;rw[X9 h'.1]at this;omega),iL I,QE,ag qe]);exact afF
 refine V 8 ?_;refine fV J ?_;refine V 8 ?_;refine ah (yu (5+(if dC (D.getD (q+4) 0).toNat=true then 0 else 1)+(h_ (D.getD (q+4) 0).toNat)) (dV (D.getD (q+4) 0).toNat) J J J I) ?_
 have Ig:num (aa D (q+(5+(if dC (D.getD (q+4) 0).toNat=true then 0 else 1)+(h_ (D.getD (q+4) 0).toNat))) (dV (D.getD (q+4) 0).toNat))<=9223372036854775807:=by
  rcases afz (D.getD (q+4) 0).toNat with h8|h4
  exact absurd h8 I3
  exact aI (yv h4) I
 refine dJ J J (aA (sK (ad:=cut ad cap (5+(if dC (D.getD (q+4) 0).toNat=true then 0 else 1)+(h_ (D.getD (q+4) 0).toNat)) 1) (q:=q+(5+(if dC (D.getD (q+4) 0).toNat=true then 0 else 1)+(h_ (D.getD (q+4) 0).toNat))) (len:=(dV (D.getD (q+4) 0).toNat)) h (ar (ar hm)) (λh0=>eg (a8 I) I) I I (Ig)) ?_);rintro e w1 ⟨rfl,rfl⟩;refine pe J (b7 ?_);intro w h;refine aC (cD [(117,122)] (λρ w=>Kn ρ []/\H r w ((af bh [R ((num (aa D (q+(5+(if dC (D.getD (q+4) 0).toNat=true then 0 else 1)+(h_ (D.getD (q+4) 0).toNat))) (dV (D.getD (q+4) 0).toNat)))+(if(dV (D.getD (q+4) 0).toNat)=2 then 256 else 0)),R (if dC (D.getD (q+4) 0).toNat=true then 0 else qj (D.getD (q+5) 0).toNat),.bool (decide (0<dV (D.getD (q+4) 0).toNat)),.bool (decide (¬(D.getD (q+4) 0).toNat&&&4=0))] 95)::(af br [R 0,R 0,.bool false,.bool false] 95)::F)) ?_ ?_)
 refine V 5 ?_;refine an J ?_ ?_<;>intro FW
 exact afC
 exact afG
 rintro ρ w ⟨⟨sO,rfl⟩,h⟩;refine cD [(123,126)] (λρ w=>Kn ρ []/\H r w ((af bh [R ((num (aa D (q+(5+(if dC (D.getD (q+4) 0).toNat=true then 0 else 1)+(h_ (D.getD (q+4) 0).toNat))) (dV (D.getD (q+4) 0).toNat)))+(if(dV (D.getD (q+4) 0).toNat)=2 then 256 else 0)),R (if dC (D.getD (q+4) 0).toNat=true then((num (aa D (q+(5+(if dC (D.getD (q+4) 0).toNat=true then 0 else 1)+(h_ (D.getD (q+4) 0).toNat))) (dV (D.getD (q+4) 0).toNat)))+(if(dV (D.getD (q+4) 0).toNat)=2 then 256 else 0))else qj (D.getD (q+5) 0).toNat),.bool (decide (0<dV (D.getD (q+4) 0).toNat)),.bool (decide (¬(D.getD (q+4) 0).toNat&&&4=0))] 95)::(af br [R 0,R 0,.bool false,.bool false] 95)::F)) ?_ ?_
 refine V 4 ?_;refine an J ?_ ?_<;>intro I2
 exact afD
 exact afE
 rintro ρ w ⟨⟨vk,rfl⟩,h⟩;refine V 7 ?_;refine an J ?_ ?_<;>intro qe
 refine a9 (eS (ah (iK [_,_,_,_] h J gJ J) (b7 ?_)));intro w h;refine V 4 ?_;refine⟨_,qQ [_,_,_,_] h J gJ J,?_⟩;exact⟨0,_,_,_,_,_,J,(by unfold jk;dsimp only;rw[tU,dK,ag yw,ag I,iL I,ag qU,ag (λh'=>I3 h'.1),iL I,QE,ai qe]),(by intro e;cases e),h.tail.tail⟩
 refine V 3 ?_;refine ah (iK [_,_,_,_] h J gJ J) ?_;refine V 3 ?_;refine b7 ?_;intro w h;refine V 4 ?_;have hH:jk (aa D q len)=(1,((num (aa D (q+(5+(if dC (D.getD (q+4) 0).toNat=true then 0 else 1)+(h_ (D.getD (q+4) 0).toNat))) (dV (D.getD (q+4) 0).toNat)))+(if(dV (D.getD (q+4) 0).toNat)=2 then 256 else 0)),(if dC (D.getD (q+4) 0).toNat=true then((num (aa D (q+(5+(if dC (D.getD (q+4) 0).toNat=true then 0 else 1)+(h_ (D.getD (q+4) 0).toNat))) (dV (D.getD (q+4) 0).toNat)))+(if(dV (D.getD (q+4) 0).toNat)=2 then 256 else 0))else qj (D.getD (q+5) 0).toNat),decide (0<(dV (D.getD (q+4) 0).toNat)),decide (¬(D.getD (q+4) 0).toNat&&&4=0),(5+(if dC (D.getD (q+4) 0).toNat=true then 0 else 1)+(h_ (D.getD (q+4) 0).toNat))+(dV (D.getD (q+4) 0).toNat)):=(by unfold jk;dsimp only;rw[tU,dK,ag yw,ag I,iL I,ag qU,ag (λh'=>I3 h'.1),iL I,QE,ag qe]);exact afF
end Go.Z
namespace Go.Z
def jx(aL ak:Nat)(E:List UInt8)(s:Fs)(kind size gF:Nat):Nat×Fs:=
 if kind=0 then(1,{s with out:=s.out++aa E gF size})
 else if kind=1 then(1,{s with out:=s.out++List.replicate size (E.getD gF 0)})
 else i' aL ak s (aa E gF size)
def jI(aL ak room:Nat)(E:List UInt8):Nat->Nat->Fs->Nat×Fs×Nat
 |0,_,s=>(2,s,0)
 | f+1,at_,s=>
   if E.length<at_+3 then(2,s,0)
   else
     let n:=num (aa E at_ 3)
     let kind:=n/2 % 4
     let size:=n/8
     let n5:=if kind=1 then 1 else size
     if(kind=3\/131072<size)\/E.length<at_+3+n5 then(2,s,0)
     else if aL<size then(0,s,0)
     else
       let r:=jx aL ak E s kind size (at_+3)
       if r.1≠1 then(r.1,s,0)
       else if room<r.2.out.length then(0,s,0)
       else if n % 2=1 then(1,r.2,at_+3+n5)
       else jI aL ak room E f (at_+3+n5) r.2
def DY:Fs:=⟨[],none,[none,none,none],1,4,8⟩
def rU(E:List UInt8)(room:Nat):Nat×List UInt8×Nat:=
 let h:=jk E
 if h.1≠1 then(h.1,[],0)
 else
   let size:=h.2.1
   let aL:=h.2.2.1
   let ak:=if ¬byte E 4&&&32=0 then 131072 else min 131072 aL
   let x:=jI aL ak room E (E.length+1) h.2.2.2.2.2 DY
   if x.1≠1 then(x.1,[],0)
   else if h.2.2.2.1=true/\ ¬x.2.1.out.length=size then(2,[],0)
   else if h.2.2.2.2.1=true then
     (if E.length<x.2.2+4\/ ¬num (aa E x.2.2 4) % 4294967296=lD x.2.1.out % 4294967296 then(2,[],0)else(1,x.2.1.out,x.2.2+4))
   else(1,x.2.1.out,x.2.2)
def gM(E:List UInt8)(room:Nat):Nat×List UInt8×Nat:=
 if E.length<4 then(2,[],0)
 else
   let afH:=num (aa E 0 4)
   if afH/16*16=407710288 then
     (if E.length<8 then(2,[],0)else if E.length<8+num (aa E 4 4)then(2,[],0)else(1,[],8+num (aa E 4 4)))
   else if ¬afH=4247762216\/E.length<5 then(2,[],0)
   else rU E room
def q7(E:List UInt8):Nat->Nat->List UInt8->Nat×List UInt8
 |0,_,_=>(2,[])
 | f+1,at_,out=>
   if at_<E.length then
     let x:=gM (E.drop at_) (4194304-out.length)
     if x.1≠1 then(x.1,[])else q7 E f (at_+x.2.2) (out++x.2.1)
   else(1,out)
def pB(E:List UInt8):Nat×List UInt8:=if E.length=0 then(0,[])else q7 E (E.length+1) 0 []
end Go.Z
namespace Go.Z
open Go
variable {ops:Array Oper}{f:FuncId}{m:Nat}{ord:Ot}
section
variable {P:Program}{n:Nat}{K:gw}{ρ:Env}{w:World}{all:Array Oper}{d:Option Nat}{ty:TypeId}{pos:String}{aN:Array Edge}{g t:Nat}{want:Bool}
theorem afI(h:D P n ops ord K ρ w){a:Act}(W:a.tmps.size=n)(h2:a.defers=[])(h3:lx a=ρ):tk P ops (up n K) ord a w:=by
 unfold D at h;exact h a W h2 h3
theorem arA(h: ∀a:Act,a.tmps.size=n->a.defers=[]->lx a=ρ->tk P ops (up n K) ord a w):D P n ops ord K ρ w:=by
 unfold D;exact h
theorem arB{i:Nat}{rest:Ot}{op:Op}{args:Array Value}{w0:World}(hi:all[i]? =some {dst:=d,op:=op,type:=ty,pos:=pos,after:=aN,guard:=some (g,want)})(hg:(all[g]?).bind (·.dst)=some t)(ht:Nat.blt t n=true)(hv:ρ t= .bool want)(hr:run P ρ op ty w= .ok (.enter f args) w0)(hd:aV n d=true)(h:Calls P f args w0 λe w1=> ∃v,e= .returned v/\D P n all rest K (Env.put ρ d v) w1):D P n all (.cons (i,.h) rest) K ρ w:=
 E9 (.inr J) hi λa W h2 h3=> .inl ⟨Ih hg (by rw[W];exact ht) (by rw[h3];exact hv),.inr (.inr ⟨f,args,w0,by rw[pW,h3,qK];exact hr,h.mono λe w1 ⟨v,e1,e3⟩=>⟨v,e1,λe=>absurd J e,
   afI e3 (by rw[size_put,W]) (by rw[nQ,h2]) (by rw[nR a d v (by rw[W];exact hd),h3])⟩⟩)⟩
theorem arC{ord:Ot}[Body P f] {x0:Operand} {v0:Value} {ts:Array TypeId} (hi:all[m]? =some {dst:=d,op:= .call {callee:= .value (.func f),args:= #[x0],argTypes:=ts},type:=ty,pos:=pos,after:=aN,guard:=some (g,want)})
 (hg:(all[g]?).bind (·.dst)=some t) (ht:Nat.blt t n=true) (hv:ρ t= .bool want) (h0:Env.ev ρ x0=v0) (hd:aV n d=true)
 (h:Calls P f #[v0] w λe w'=> ∃v,e= .returned v/\D P n all ord K (Env.put ρ d v) w'):
 D P n all (.cons (m,.h) ord) K ρ w:=arB hi hg ht hv Ii hd ((show(#[x0]:Array Operand).map (Env.ev ρ)= #[v0] by simp[h0])▸h)
theorem arD{ord:Ot}[Body P f] {x0:Operand} {v0:Value} {ts:Array TypeId} (hi:all[m]? =some {dst:=d,op:= .call {callee:= .value (.func f),args:= #[x0],argTypes:=ts},type:=ty,pos:=pos,after:=aN,guard:=some (g,want)})
 (hg:(all[g]?).bind (·.dst)=some t) (ht:Nat.blt t n=true) (hv:ρ t= .bool want) (h0:Env.ev ρ x0=v0) (hd:aV n d=true)
 (h:Calls P f #[v0] w λe w'=> ∃v,e= .returned v/\eJ w w'/\D P n all ord K (Env.put ρ d v) w'):
 D P n all (.cons (m,.g) ord) K ρ w:=anz hi hg ht hv Ii hd ((show(#[x0]:Array Operand).map (Env.ev ρ)= #[v0] by simp[h0])▸h)
end
end Go.Z
namespace Go.Z
open Go Go.Proofs
variable {hk hu:Bool}{s:Fs}{F:List aD}{E:List UInt8}{a c db f hs hv hw ak n aL:Nat}{r:dQ}{w:World}
theorem arE{P:Program}{K:gw}{ρ:Env}{all:Array Oper}{t:Nat}{p:Bool}{ord:Ot}(ht:ρ t= .bool p)(W:p=true->D P n all ord K (Env.set ρ t (.bool true)) w)(h2:p=false->D P n all ord K (Env.set ρ t (.bool false)) w):D P n all ord K ρ w:=by
 cases p
 have:=h2 J;rwa [Env.AM ht]at this
 have:=W J;rwa [Env.AM ht]at this
theorem H.afJ{e:aD}{G:List aD}(h:H r w (e::(G++F))):H r w (e::F):=by
 have:H r w (G++(e::F)):=h.perm List.perm_middle.symm;exact H.m6 this
theorem arF{at_:Nat}(h:jk E=(1,hs,hw,hk,hu,at_)):5<=at_/\at_<=E.length/\hw<=8388608:=by
 unfold jk at h;dsimp only at h;by_cases c1: ¬byte E 4&&&8=0
 rw[ai c1]at h;cases h
 rw[ag c1]at h;by_cases c2:E.length<5+h_ (byte E 4)+dV (byte E 4)+(if dC (byte E 4)=true then 0 else 1)
 rw[ai c2]at h;cases h
 rw[ag c2]at h;by_cases c3: ¬num (aa E (5+(if dC (byte E 4)=true then 0 else 1)) (h_ (byte E 4)))=0
 rw[ai c3]at h;cases h
 rw[ag c3]at h;by_cases c4:dV (byte E 4)=8/\64<=byte E (5+(if dC (byte E 4)=true then 0 else 1)+h_ (byte E 4)+7)
 rw[ai c4]at h;cases h
 rw[ag c4]at h;obtain⟨cJ,vx⟩: ∃cJ,(if dC (byte E 4)=true then num (aa E (5+(if dC (byte E 4)=true then 0 else 1)+h_ (byte E 4)) (dV (byte E 4)))+(if dV (byte E 4)=2 then 256 else 0)else qj (byte E 5))=cJ:=⟨_,J⟩;rw[vx]at h;by_cases h8:8388608<cJ
 rw[ai h8]at h;cases h
 rw[ag h8]at h;cases h;omega
theorem arG{ts:Nat->Tb}{w m:Nat}{out:List UInt8}{b:Nat}{text:List UInt8}{many:Nat}{x:afc}(h:k9 ts w m out a b c text many E=x)(W:x.1=1):x.2.1.length<=out.length+m:=by
 subst h;revert W;unfold k9;split
 intro e;cases e
 split
 intro e;cases e
 dsimp only;split
 intro e;rename_i bY;exact absurd e bY
 split
 intro e;cases e
 split
 intro e;cases e
 intro _;dsimp only;omega
theorem arH{s':Fs}(h:i' aL ak s E=(1,s')):s'.out.length<=s.out.length+ak:=by
 unfold i' at h;dsimp only at h;split at h
 rename_i bY;exact absurd (b8 Prod.fst h) bY
 split at h
 cases h
 split at h
 cases h
 split at h
 split at h
 cases h
 cases h;rw[aF];omega
 unfold zL at h;split at h
 cases h
 split at h
 cases h
 dsimp only at h;split at h
 rename_i bY;exact absurd (b8 Prod.fst h) bY
 have e2:=b8 (λz=>z.2.out) h;have e1:=b8 (λz=>z.1) h;dsimp only at e1 e2;rw[<-e2];exact arG J e1
theorem arI{room:Nat}{at_:Nat}(h:E.length<at_+3):(jI aL ak room E (f+1) at_ s).1=2:=by
 rw[jI,ai h]
theorem X_{room:Nat}{at_:Nat}(hn:num (aa E at_ 3)=n)(W:at_+3<=E.length)(jY:hv=if n/2^1 % 4=1 then 1 else n/2^3)(h2:(n/2^1 % 4=3\/131072<n/2^3)\/E.length<at_+3+hv):(jI aL ak room E (f+1) at_ s).1=2:=by
 subst hn;simp only[CF,show(2:Nat)^3=8 from J]at*;subst jY;rw[jI,ag I];dsimp only;rw[ai h2]
theorem arJ{room:Nat}{at_:Nat}(hn:num (aa E at_ 3)=n)(W:at_+3<=E.length)(jY:hv=if n/2^1 % 4=1 then 1 else n/2^3)(h2: ¬((n/2^1 % 4=3\/131072<n/2^3)\/E.length<at_+3+hv))(h3:aL<n/2^3):(jI aL ak room E (f+1) at_ s).1=0:=by
 subst hn;simp only[CF,show(2:Nat)^3=8 from J]at*;subst jY;rw[jI,ag I];dsimp only;rw[ag h2,ai h3]
theorem arK{room:Nat}{at_ v:Nat}(hn:num (aa E at_ 3)=n)(W:at_+3<=E.length)(jY:hv=if n/2^1 % 4=1 then 1 else n/2^3)(h2: ¬((n/2^1 % 4=3\/131072<n/2^3)\/E.length<at_+3+hv))(h3: ¬aL<n/2^3)(hb:(jx aL ak E s (n/2^1 % 4) (n/2^3) (at_+3)).1=v)(hv:v≠1):(jI aL ak room E (f+1) at_ s).1=v:=by
 subst hn;simp only[CF,show(2:Nat)^3=8 from J]at*;subst jY;rw[jI,ag I];dsimp only;subst hb;rw[ag h2,ag h3,ai hv]
theorem afK{room:Nat}{at_:Nat}{s1:Fs}(hn:num (aa E at_ 3)=n)(W:at_+3<=E.length)(jY:hv=if n/2^1 % 4=1 then 1 else n/2^3)(h2: ¬((n/2^1 % 4=3\/131072<n/2^3)\/E.length<at_+3+hv))(h3: ¬aL<n/2^3)(hb:jx aL ak E s (n/2^1 % 4) (n/2^3) (at_+3)=(1,s1)):jI aL ak room E (f+1) at_ s=if room<s1.out.length then(0,s,0)else if n % 2=1 then(1,s1,at_+3+hv)else jI aL ak room E f (at_+3+hv) s1:=by
 subst hn;simp only[CF,show(2:Nat)^3=8 from J]at*;subst jY;rw[jI,ag I];dsimp only;rw[ag h2,ag h3,hb];rfl
def wL(E:List UInt8)(hs:Nat)(hk hu:Bool)(x:Nat×Fs×Nat):Nat×List UInt8×Nat:=
 if x.1≠1 then(x.1,[],0)
 else if hk=true/\ ¬x.2.1.out.length=hs then(2,[],0)
 else if hu=true then
   (if E.length<x.2.2+4\/ ¬num (aa E x.2.2 4) % 4294967296=lD x.2.1.out % 4294967296 then(2,[],0)else(1,x.2.1.out,x.2.2+4))
 else(1,x.2.1.out,x.2.2)
theorem arL{room Ml:Nat}(h:jk E=(1,hs,hw,hk,hu,Ml)):rU E room=wL E hs hk hu (jI hw (if ¬byte E 4&&&32=0 then 131072 else min 131072 hw) room E (E.length+1) Ml DY):=by
 unfold rU wL;rw[h];rfl
theorem FZ{v:Nat}{x:Nat×Fs×Nat}(h:x.1=v)(hv:v≠1):(wL E hs hk hu x).1=v:=by
 unfold wL;rw[ai (by rw[h];exact hv)];exact h
theorem arM(h:hk=true/\ ¬s.out.length=hs):(wL E hs hk hu (1,s,a)).1=2:=by
 unfold wL;rw[ag (λe=>e J),ai h]
theorem afL(h: ¬(hk=true/\ ¬s.out.length=hs))(zQ:hu=true)(hn:num (aa E a 4)=n)(h2:E.length<a+4\/ ¬n % 4294967296=lD s.out % 4294967296):(wL E hs hk hu (1,s,a)).1=2:=by
 subst hn;unfold wL;rw[ag (λe=>e J),ag h,ai zQ,ai h2]
theorem arN(h: ¬(hk=true/\ ¬s.out.length=hs))(zQ:hu=true)(hn:num (aa E a 4)=n)(h2: ¬(E.length<a+4\/ ¬n % 4294967296=lD s.out % 4294967296)):wL E hs hk hu (1,s,a)=(1,s.out,a+4):=by
 subst hn;unfold wL;rw[ag (λe=>e J),ag h,ai zQ,ag h2]
theorem arO(h: ¬(hk=true/\ ¬s.out.length=hs))(zQ: ¬hu=true):wL E hs hk hu (1,s,a)=(1,s.out,a):=by
 unfold wL;rw[ag (λe=>e J),ag h,ag zQ]
theorem arP{ob:Option Nat}{O:List UInt8}{sp:List Value}{D:List UInt8}{T0:TT}(h:H r w F)(hm:(ob,C (O.map u8++sp) 5)∈F)(hk:bG ob O.length c (O.map u8) sp 1)(fk:(af db (D.map u8) T0)∈F)(hlen:O.length<=140737488355328):Calls PP 15 #[.slice (aB ob) O.length c] w λe w'=>e= .returned (aZ (lD O % 4294967296))/\H r w' F:=by
 cases ob with
 | some b=>
   have:=aeC (q:=0) (ad:=some ⟨b,0,none⟩) (len:=O.length) (cap:=c) h hm (λ_=>rfl) I hk.2.2.1 hlen
   have e:aa O 0 O.length=O:=by unfold aa;rw[CG,K1]
   rwa [e]at this
 | none=>
   have h0:=hk.2.2.2 J
   have W:=hk.2.2.1
   have e:O=[]:=List.eq_nil_of_length_eq_zero I
   subst e;subst h0
   exact aeC (q:=0) (ad:=none) (len:=0) (cap:=0) (sp:=[]) (D:=D) (T:=T0) h (by rw[dP];exact fk) (λh=>absurd h I) I I I
theorem arQ(k:Nat)(hk:k<3):sP F ([.pointer none,.pointer none,.pointer none].getD k undef) (DY.a_.getD k none):=by
 rcases(I:k=0\/k=1\/k=2)with rfl|rfl|rfl<;>rfl
theorem arR:Mh DY:=⟨(by intro t e;cases e),J,(by intro k hk t e;rcases(I:k=0\/k=1\/k=2)with rfl|rfl|rfl<;>cases e),by decide,by decide,by decide,by decide⟩
theorem arS{q:Nat}{ad:Option Addr}{D:List UInt8}{len cap:Nat}{T:TT}{room:Nat}(h:H r w F)(hm:(af db (D.map u8) T)∈F)(a8:0<len->ad=some ⟨db,q,none⟩)(hq:q+len<=D.length)(jt:len<=cap)(hlen:len<=140737488355328)(h5:5<=len)(oI:room<=4194304):Calls PP 23 #[.slice ad len cap,R room] w λe w'=> ∃v lL nv cv n,e= .returned (.tuple #[.slice lL nv cv,R n,R v])/\(rU (aa D q len) room).1=v/\(v≠1->H r w' F)/\(v=1-> ∃out ob co sp,rU (aa D q len) room=(1,out,n)/\lL=aB ob/\nv=out.length/\cv=co/\bG ob out.length co (out.map u8) sp 1/\H r w' (((ob,C (List.map u8 out++sp) 5))::F)):=by
 obtain⟨vd,ve⟩:=cX hm;have dK:=dx hq;have tU:byte (aa D q len) 4=(D.getD (q+4) 0).toNat:=zI I;have hd:=toNat_le (D.getD (q+4) 0);refine gS Tryz.func23 Tryz.ntmps23 [4,5,6] ?_;refine V 9 ?_;refine dJ J J (aA (ary h hm a8 hq jt hlen h5) ?_);rintro e w1 ⟨v,hs,hw,hk,hu,Ml,rfl,gr,k4,h⟩;refine V 4 ?_;refine eh h J ?_;intro bh w h;refine b7 ?_;intro w h;refine V 9 ?_;refine an J ?_ ?_<;>intro IA
 refine V 8 ?_;exact⟨v,none,0,0,0,J,(by unfold rU;dsimp only;rw[ai (by rw[gr];exact IA)];exact gr),(λ_=>h.tail),(λe=>absurd e IA)⟩
 have tV:v=1:=I;have hH:=k4 tV;have hho:=arF hH;rw[dK]at hho;refine V 7 ?_;refine ah (zh (a:=131072) (W:=ao.lit _) J J) (ah (wg (v0:=R 1) (v1:=R 4) (v2:=R 8) (Lp _ _ _) J J J) (ah (wg (ao' _ _ _ _ _) J J J) (sB h J J J ?_)));intro bs w h;refine dI (aC (cD [(34,41)] (λρ w=>Kn ρ []/\H r w ((af bs [.slice none 0 0,R hw,R (if ¬(D.getD (q+4) 0).toNat&&&32=0 then 131072 else min 131072 hw),.pointer none,.pointer none,.pointer none,.pointer none,R 1,R 4,R 8] 101)::(af bh [R hs,R hw,.bool hk,.bool hu] 95)::F)) ?_ ?_))
 refine V 3 ?_;refine ah (cI (a:=4) (W:=ao.lit _) J J (a8 I) I) (aO h J (gl I) ?_);refine V 3 ?_;refine an J ?_ ?_<;>intro rN
 refine V 4 ?_;refine gU (R 131072) ?_;intro w h;exact aC ⟨aM,aq,(by first| (rw[ai rN];exact h)| (rw[ag rN];exact h))⟩
 exact aQ ⟨aM,aq,(by first| (rw[ai rN];exact h)| (rw[ag rN];exact h))⟩
 rintro ρ w ⟨⟨mC,rfl⟩,h⟩;refine V 6 ?_;refine cg (jI hw (if ¬(D.getD (q+4) 0).toNat&&&32=0 then 131072 else min 131072 hw) room (aa D q len) (len+1) Ml DY) λZ9 mA=>?_;have mF:=arL (room:=room) hH;rw[tU,dK,mA]at mF;replace h:=(h.ghost (C (List.map u8 []++[]) 5)).mv 1;dsimp only[dB]at h;refine bQ (σ:=Nat×Nat×Bool×Fs×List aD×Option Addr×Value×Value×Value×Option Nat×Nat×List Value) [(4,6),(8,8),(11,16),(42,144)] (λ⟨f,at_,last,s,G,pp,p0,p1,p2,ob,co,sp⟩ ρ w=>Kn ρ [(8,R at_),(11,.bool last)]/\H r w ((af bs [.slice (aB ob) s.out.length co,R hw,R (if ¬(D.getD (q+4) 0).toNat&&&32=0 then 131072 else min 131072 hw),.pointer pp,p0,p1,p2,R s.a,R s.b,R s.c] 101)::(ob,C (List.map u8 s.out++sp) 5)::(G++F))/\(at_<=len)/\(len+1<=f+at_)/\(Qy (G++F) pp p0 p1 p2 s)/\(Mh s)/\(bG ob s.out.length co (List.map u8 s.out) sp 1)/\(s.out.length<=4194304)/\((af bh [R hs,R hw,.bool hk,.bool hu] 95)∈G)/\(last=false->(jI hw (if ¬(D.getD (q+4) 0).toNat&&&32=0 then 131072 else min 131072 hw) room (aa D q len) f at_ s)=Z9)/\(last=true->(1,s,at_)=Z9/\s.out.length<=room)) (λ⟨f,at_,last,s,G,pp,p0,p1,p2,ob,co,sp⟩=>(if last=true then 0 else len+1-at_)) (len+1,Ml,false,DY,[(af bh [R hs,R hw,.bool hk,.bool hu] 95)],none,.pointer none,.pointer none,.pointer none,none,0,[]) ⟨aq,h,I,I,⟨J,λk hk=>arQ k hk⟩,arR,bG.nil,(bP _),bF,(λ_=>mA),(by intro e;cases e)⟩ ?_;rintro⟨f,at_,last,s,G,pp,p0,p1,p2,ob,co,sp⟩ ρ w ⟨⟨mD,rfl⟩,h,jg,hf,qi,cS,fu,zC,jZ,X',fI⟩;refine fx (ni F jZ) λihd aGx=>(fx (fe G hm) λaGy aGz=>?_);refine V 4 ?_;refine ah (j8 J) (aC (eA J ?_ ?_))<;>intro DZ
 have kY:last=false:=(by simpa using DZ);have hR:=X' kY;refine aY (show ∃f',f=f'+1 from⟨f-1,I⟩) (λf' F1=>?_);rw[F1]at hR;refine V 11 ?_;refine an J ?_ ?_<;>intro Xz
 refine V 7 ?_;exact⟨2,none,0,0,0,J,(by rw[mF,<-hR];exact FZ (arI I) I),(λ_=>H.m6 h.tail.tail),(λe=>absurd e I)⟩
 have jX:num (aa (aa D q len) at_ 3)=num (aa D (q+at_) 3):=(by rw[iL I]);refine V 7 ?_;refine ah (yu at_ 3 J J J I) (dJ J J (aA (sK (ad:=cut ad cap at_ 1) (q:=q+at_) (len:=3) h (ar (ar (fe _ hm))) (λh0=>eg (a8 I) I) I I (aI (yv I) I)) ?_));rintro e w1 ⟨rfl,rfl⟩;have tW:= @yv D (q+at_) 3 I;refine V 11 ?_;refine ah (jO (n:=1) J J az aj) ?_;refine V 7 ?_;refine ah (vv J J (aI (j6 _ _) az)) ?_;refine V 10 ?_;refine cD [(15,15),(66,67)] (λρ w=> ∃hv:Nat,Kn ρ [(15,R hv)]/\H r w ((af bs [.slice (aB ob) s.out.length co,R hw,R (if ¬(D.getD (q+4) 0).toNat&&&32=0 then 131072 else min 131072 hw),.pointer pp,p0,p1,p2,R s.a,R s.b,R s.c] 101)::(ob,C (List.map u8 s.out++sp) 5)::(G++F))/\(hv=(if((num (aa D (q+at_) 3))/2^1 % 4)=1 then 1 else((num (aa D (q+at_) 3))/2^3)))) ?_ ?_
 refine V 5 ?_;refine an J ?_ ?_<;>intro IN
 refine V 3 ?_;exact⟨aM,1,aq,h,(by rw[ai IN])⟩
 exact aQ ⟨aM,((num (aa D (q+at_) 3))/2^3),aq,h,(by rw[ag IN])⟩
 rintro ρ w ⟨hv,⟨k5,rfl⟩,h,jY⟩;have aGA:hv<=4294967296:=(by rw[jY];split<;>omega);refine cD [(4,6),(68,81)] (λρ w=>Kn ρ []/\H r w ((af bs [.slice (aB ob) s.out.length co,R hw,R (if ¬(D.getD (q+4) 0).toNat&&&32=0 then 131072 else min 131072 hw),.pointer pp,p0,p1,p2,R s.a,R s.b,R s.c] 101)::(ob,C (List.map u8 s.out++sp) 5)::(G++F))/\(¬((((num (aa D (q+at_) 3))/2^1 % 4)=3\/131072<((num (aa D (q+at_) 3))/2^3))\/len<at_+3+hv))/\(¬((((num (aa D (q+at_) 3))/2^1 % 4)=3\/131072<((num (aa D (q+at_) 3))/2^3))\/(aa D q len).length<at_+3+hv))) ?_ ?_
 refine V 5 ?_;refine d' (t:=70) J (λafM=>?_) (λafM=>?_)
 refine V 12 ?_;refine iI J ?_;refine V 7 ?_;exact⟨2,none,0,0,0,J,(by rw[mF,<-hR];exact FZ (X_ jX I jY (Or.inl (Or.inl afM))) I),(λ_=>H.m6 h.tail.tail),(λe=>absurd e I)⟩
 refine V 4 ?_;refine d' (t:=74) J (λFV=>?_) (λFV=>?_)
 refine V 8 ?_;refine iI J ?_;refine V 7 ?_;exact⟨2,none,0,0,0,J,(by rw[mF,<-hR];exact FZ (X_ jX I jY (Or.inl (Or.inr FV))) I),(λ_=>H.m6 h.tail.tail),(λe=>absurd e I)⟩
 refine V 8 ?_;refine an J ?_ ?_<;>intro Mm
 refine V 7 ?_;exact⟨2,none,0,0,0,J,(by rw[mF,<-hR];exact FZ (X_ jX I jY (Or.inr I)) I),(λ_=>H.m6 h.tail.tail),(λe=>absurd e I)⟩
 exact aQ ⟨aM,aq,h,I,I⟩
 rintro ρ w ⟨⟨vk,rfl⟩,h,h81,QF⟩;refine V 8 ?_;refine an J ?_ ?_<;>intro D1
 refine V 7 ?_;exact⟨0,none,0,0,0,J,(by rw[mF,<-hR];exact FZ (arJ jX I jY QF D1) I),(λ_=>H.m6 h.tail.tail),(λe=>absurd e I)⟩
 refine V 6 ?_;refine jB [(4,6),(16,16),(87,134)] (λρ w=> ∃s1:Fs,∃G1:List aD,∃zM:Option Addr,∃q0 q1 q2:Value,∃bI:Option Nat,∃sU:Nat,∃bJ:List Value,Kn ρ []/\H r w ((af bs [.slice (aB bI) s1.out.length sU,R hw,R (if ¬(D.getD (q+4) 0).toNat&&&32=0 then 131072 else min 131072 hw),.pointer zM,q0,q1,q2,R s1.a,R s1.b,R s1.c] 101)::(bI,C (List.map u8 s1.out++bJ) 5)::(G1++F))/\(Qy (G1++F) zM q0 q1 q2 s1)/\(Mh s1)/\(bG bI s1.out.length sU (List.map u8 s1.out) bJ 1)/\((af bh [R hs,R hw,.bool hk,.bool hu] 95)∈G1)/\(jx hw (if ¬(D.getD (q+4) 0).toNat&&&32=0 then 131072 else min 131072 hw) (aa D q len) s ((num (aa D (q+at_) 3))/2^1 % 4) ((num (aa D (q+at_) 3))/2^3) (at_+3)=(1,s1))/\(s1.out.length<=4325376)) ?_ ?_
 refine V 5 ?_;refine an J ?_ ?_<;>intro FD
 have afN:hv=((num (aa D (q+at_) 3))/2^3):=(by rw[jY,ag I]);refine bL h [0,4,8,12,20,24,28,32,36,40,17,47,48,52,59] ?_;intro w h;refine av 9 ?_;refine aw J (yu (at_+3) ((num (aa D (q+at_) 3))/2^3) J J J I) ?_;refine av 1 ?_;refine mV (List.map u8 s.out) sp ((aa D (q+(at_+3)) ((num (aa D (q+at_) 3))/2^3)).map u8) J h 1 J J J fu (qg (aP.aa (F:=F) hm (λh0=>eg (a8 I) I) I I) (λe he=>ar (ar (fe _ he)))) (by intro x hx;obtain⟨y,_,rfl⟩:=jd.1 hx;rfl) I aj J ?_;intro w dy c9 dL h df fG eG;dsimp only[List.set]at h;rw[<-f_]at h df;have wM:(s.out++aa D (q+(at_+3)) ((num (aa D (q+at_) 3))/2^3)).length=s.out.length+((num (aa D (q+at_) 3))/2^3):=(by rw[aF,dx I]);rw[<-wM]at fG;refine av 2 ?_;refine b7 ?_;intro w h;exact cm ⟨aM,({s with out:=s.out++aa D (q+(at_+3)) ((num (aa D (q+at_) 3))/2^3)}),G,pp,p0,p1,p2,dy,c9,dL,aq,(by first|exact h| (dsimp only;rw[wM];exact h)),⟨qi.tree,qi.yt⟩,⟨cS.tree,cS.a_,cS.yt,cS.a1,cS.a2,cS.b2,cS.c2⟩,⟨by rw[bX,eC],df,fG,eG⟩,jZ,(by unfold jx;rw[ai FD,iL I]),(by dsimp only;rw[wM];omega)⟩
 refine V 5 ?_;refine an J ?_ ?_<;>intro afO
 have afN:hv=1:=(by rw[jY,ai afO]);refine V 6 ?_;refine bQ (σ:=Nat×Option Nat×Nat×List Value) [(106,121)] (λ⟨j,bI,sU,bJ⟩ ρ w=>Kn ρ [(106,R j)]/\H r w ((af bs [.slice (aB bI) (s.out.length+j) sU,R hw,R (if ¬(D.getD (q+4) 0).toNat&&&32=0 then 131072 else min 131072 hw),.pointer pp,p0,p1,p2,R s.a,R s.b,R s.c] 101)::(bI,C (List.map u8 (s.out++List.replicate j (D.getD (q+(at_+3)) 0))++bJ) 5)::(G++F))/\(j<=((num (aa D (q+at_) 3))/2^3))/\(bG bI (s.out.length+j) sU (List.map u8 (s.out++List.replicate j (D.getD (q+(at_+3)) 0))) bJ 1)) (λ⟨j,bI,sU,bJ⟩=>((num (aa D (q+at_) 3))/2^3) -j) (0,ob,co,sp) ⟨aq,(by rw[H0,dP];exact h),(bP _),(by rw[H0,dP];exact fu)⟩ ?_;rintro⟨j,bI,sU,bJ⟩ ρ w ⟨⟨qY,rfl⟩,h,hj,zF⟩;refine V 5 ?_;refine an J ?_ ?_<;>intro vm
 refine V 3 ?_;refine bL h [0,4,8,12,20,24,28,17,33,38,43,44,48,55] ?_;intro w h;refine av 6 ?_;refine aw J (cI J J (a8 I) I) ?_;refine av 1 ?_;refine aK J h J (gl I) (ka J J (kB _) h ?_);intro bz w h;refine mV (List.map u8 (s.out++List.replicate j (D.getD (q+(at_+3)) 0))) bJ [u8 (D.getD (q+(at_+3)) 0)] J h 2 J J J zF (Src.slice (j:=0) (q2:=0) J ⟨J,trivial⟩ J) (by intro x hx;simp at hx;subst hx;rfl) I aj J ?_;intro w dy c9 dL h df fG eG;dsimp only[List.set]at h;rw[Xg]at h df;replace h:=h.tail;(try dsimp only[dB]at h);refine av 2 ?_;refine b7 ?_;intro w h;refine cm ?_;refine V 4 ?_;refine⟨aM,?_⟩;have hrs:(s.out++List.replicate j (D.getD (q+(at_+3)) 0))++[(D.getD (q+(at_+3)) 0)]=(s.out++List.replicate (j+1) (D.getD (q+(at_+3)) 0)):=(by rw[cF,CE]);rw[hrs]at h df;exact⟨(j+1,dy,c9,dL),cw,aq,h,I,by rw[bX,aF,dR,eC],df,fG,eG⟩
 have Mg:j=((num (aa D (q+at_) 3))/2^3):=I;rw[Mg]at h zF;have wM:(s.out++List.replicate ((num (aa D (q+at_) 3))/2^3) (D.getD (q+(at_+3)) 0)).length=s.out.length+((num (aa D (q+at_) 3))/2^3):=(by rw[aF,dR]);rw[<-wM]at h zF;exact iy ⟨aM,({s with out:=s.out++List.replicate ((num (aa D (q+at_) 3))/2^3) (D.getD (q+(at_+3)) 0)}),G,pp,p0,p1,p2,bI,sU,bJ,aq,(by first|exact h| (dsimp only;rw[wM];exact h)),⟨qi.tree,qi.yt⟩,⟨cS.tree,cS.a_,cS.yt,cS.a1,cS.a2,cS.b2,cS.c2⟩,zF,jZ,(by unfold jx;rw[ag I,ai afO,kN I]),(by dsimp only;rw[wM];omega)⟩
 refine V 5 ?_;refine an J ?_ ?_<;>intro arT
 have afN:hv=((num (aa D (q+at_) 3))/2^3):=(by rw[jY,ag I]);refine V 8 ?_;refine ah (yu (at_+3) ((num (aa D (q+at_) 3))/2^3) J J J I) (b_ J J J (aA (arq (F:=G++F) (ad:=cut ad cap (at_+3) 1) (q:=q+(at_+3)) (len:=((num (aa D (q+at_) 3))/2^3)) (s:=s) h (fe _ hm) (λh0=>eg (a8 I) I) I I I qi cS fu I (by split<;>omega) I) ?_));rintro e w1 ⟨v2,rfl,eZ,fH,i_⟩;refine V 7 ?_;refine an J ?_ ?_<;>intro aGB
 refine V 8 ?_;exact⟨v2,none,0,0,0,J,(by rw[mF,<-hR];exact FZ (arK jX I jY QF D1 (by unfold jx;rw[ag I,ag I,iL I];exact eZ) I) I),(λ_=>H.m6 (fH I)),(λe=>absurd e I)⟩
 have k4:v2=1:=I;refine aY (i_ k4) (λs' eN=>aY (eN) (λGn eK=>aY (eK) (λpp2 fL=>aY (fL) (λq0 gE=>aY (gE) (λq1 qf=>aY (qf) (λq2 zR=>aY (zR) (λcr I4=>aY (I4) (λBr wP=>aY (wP) (λcG yn=>?_)))))))));have hcm:=yn.1;have afP:=yn.2.1;have fB:=yn.2.2.1;have sM:=yn.2.2.2.1;have h:=yn.2.2.2.2;rw[<-cF]at h afP;exact aQ ⟨aM,s',Gn++G,pp2,q0,q1,q2,cr,Br,cG,aq,(by first|exact h| (dsimp only;rw[wM];exact h)),afP,fB,sM,fe _ jZ,(by unfold jx;rw[ag I,ag I,iL I];exact hcm),aI (arH hcm) (by split<;>omega)⟩
 exfalso;omega
 rintro ρ w ⟨s1,G1,zM,q0,q1,q2,bI,sU,bJ,⟨sO,rfl⟩,h,arU,fX,zF,afQ,eL,IE⟩;refine fx (ni F afQ) λaGC aGD=>?_;refine V 17 ?_;refine an J ?_ ?_<;>intro aGE
 refine V 7 ?_;exact⟨0,none,0,0,0,J,(by rw[mF,<-hR];exact FZ (by rw[afK jX I jY QF D1 eL,ai (I:room<s1.out.length)]) I),(λ_=>H.m6 h.tail.tail),(λe=>absurd e I)⟩
 refine aQ (⟨aM,?_⟩);have dd:=afK (f:=f') (room:=room) jX I jY QF D1 eL;rw[ag (I: ¬room<s1.out.length),hR]at dd;exact⟨(f',at_+3+hv,decide (num (aa D (q+at_) 3) % 2=1),s1,G1,zM,q0,q1,q2,bI,sU,bJ),(by dsimp only;rw[kY];split<;>simp<;>omega),aq,h,I,I,arU,fX,zF,I,afQ,(λe=>by rw[ag (Vf e)]at dd;exact dd.symm),(λe=>And.intro (by rw[ai (tf e)]at dd;exact dd.symm) I)⟩
 have dE:last=true:=(by simpa using DZ);have F2:=(fI dE).1;have D2:=(fI dE).2;rw[<-F2]at mF;refine iy (cD [(4,6),(145,156)] (λρ w=>Kn ρ []/\H r w ((af bs [.slice (aB ob) s.out.length co,R hw,R (if ¬(D.getD (q+4) 0).toNat&&&32=0 then 131072 else min 131072 hw),.pointer pp,p0,p1,p2,R s.a,R s.b,R s.c] 101)::(ob,C (List.map u8 s.out++sp) 5)::(G++F))/\(¬(hk=true/\ ¬s.out.length=hs))) ?_ ?_)
 refine a9 (bL h [0,5,8,12,16,20,32,25,28,37,40,44] ?_);intro w h;refine av 3 ?_;refine arE (t:=147) J (λYa=>?_) (λYa=>?_)
 refine cZ J J J J (λw=>run_move) J (cZ J J J J (λw=>uR J) J (cZ J J J J (λw=>nS J) J (cZ J J J J (λw=>nS J) J (oZ J J J J (λw hk=>run_load (h.keeps hk) J J) J (cZ J J J J (λw=>CM J) J (oZ J J J J (λw hk=>run_load (h.keeps hk) J J) J (cZ J J J J (λw=>Ia J J) J ?_)))))));refine av 2 ?_;refine an J ?_ ?_<;>intro XK
 refine V 7 ?_;exact⟨2,none,0,0,0,J,(by rw[mF];exact arM ⟨by simpa using Ya,I⟩),(λ_=>H.m6 h.tail.tail),(λe=>absurd e I)⟩
 exact aQ ⟨aM,aq,h,(λe=>by have:=e.2;omega)⟩
 refine av 10 ?_;exact fV J (aQ ⟨aM,aq,h,(λe=>by rw[Ya]at e;exact absurd e.1 aj)⟩)
 rintro ρ w ⟨⟨I5,rfl⟩,h,F3⟩;refine V 6 ?_;refine eA J ?_ ?_<;>intro QG
 refine cD [(4,6),(159,178)] (λρ w=>Kn ρ []/\H r w ((af bs [.slice (aB ob) s.out.length co,R hw,R (if ¬(D.getD (q+4) 0).toNat&&&32=0 then 131072 else min 131072 hw),.pointer pp,p0,p1,p2,R s.a,R s.b,R s.c] 101)::(ob,C (List.map u8 s.out++sp) 5)::(G++F))/\(¬(len<at_+4\/ ¬(num (aa D (q+at_) 4)) % 4294967296=lD s.out % 4294967296))) ?_ ?_
 refine a9 (bL h [0,4,8,12,16,20,24,28,32,36,40,52,56,60,65,46,48,71,72,76] ?_);intro w h;refine av 6 ?_;refine AN (t:=164) J (λarV=>?_) (λarV=>?_)
 refine av 15 ?_;refine iI J ?_;refine V 7 ?_;exact⟨2,none,0,0,0,J,(by rw[mF];exact(afL F3 (by simpa using QG) J (Or.inl I))),(λ_=>H.m6 h.tail.tail),(λe=>absurd e I)⟩
 refine cZ J J J J (λw=>run_move) J (cZ J J J J (λw=>run_move) J (cZ J J J J (λw=>run_move) J (cZ J J J J (λw=>d_ (b:=4) (h2:=ao.lit _) J J k_) J (cZ J J J J (λw=>yu at_ 4 J J J I) J (cZ J J J J (λw=>run_move) J (cZ J J J J (λw=>uR J) J (cZ J J J J (λw=>nS J) J (oZ J J J J (λw hk=>run_load (h.keeps hk) J J) J (arD J J J J J J ((sK (ad:=cut ad cap at_ 1) (q:=q+at_) (len:=4) h (ar (ar (fe _ hm))) (λh0=>eg (a8 I) I) I I (aI (yv I) I)).mono ?_))))))))));rintro e w1 ⟨rfl,rfl⟩;refine⟨_,J,eJ.refl _,?_⟩;refine cZ J J J J (λw=>CL J J) J (arC J J J J J J ((arP h (ar bF) fu (ar (ar (fe _ hm))) I).mono ?_));rintro e w1 ⟨rfl,h⟩;refine⟨_,J,?_⟩;refine cZ J J J J (λw=>Ia J J) J ?_;refine av 2 ?_;refine an J ?_ ?_<;>intro QH
 refine V 7 ?_;have Bu:num (aa (aa D q len) at_ 4)=num (aa D (q+at_) 4):=(by rw[iL I]);exact⟨2,none,0,0,0,J,(by rw[mF];exact(afL F3 (by simpa using QG) Bu (Or.inr QH))),(λ_=>H.m6 h.tail.tail),(λe=>absurd e I)⟩
 exact aQ ⟨aM,aq,h,(by rintro(e|e);(· omega);(· exact QH e))⟩
 rintro ρ w ⟨⟨Mo,rfl⟩,h,F4⟩;refine V 17 ?_;have Bu:num (aa (aa D q len) at_ 4)=num (aa D (q+at_) 4):=(by rw[iL I]);have lP:=arN (hs:=hs) (E:=aa D q len) F3 (by simpa using QG) Bu (by rw[dK];exact F4);exact⟨1,aB ob,s.out.length,co,at_+4,J,(by rw[mF,lP]),(λe=>absurd J e),(λ_=>⟨s.out,ob,co,sp,(by rw[mF,lP]),J,J,J,fu,H.afJ h.tail⟩)⟩
 refine V 13 ?_;have lP:=arO (hs:=hs) (hu:=hu) (a:=at_) (E:=aa D q len) F3 (by rw[QG];decide);exact⟨1,aB ob,s.out.length,co,at_,J,(by rw[mF,lP]),(λe=>absurd J e),(λ_=>⟨s.out,ob,co,sp,(by rw[mF,lP]),J,J,J,fu,H.afJ h.tail⟩)⟩
variable {q:Nat}
theorem arW(h:a<2^64):a&&&18446744073709551600=a/16*16:=by
 have e:a/16*16=(a>>>4)<<<4:=(by rw[H2,Nat.shiftLeft_eq]);have e2:(18446744073709551600:Nat)=(2^60-1)<<<4:=aj;rw[e,e2];apply O5;intro i;simp only[Nat.testBit_and,Nat.testBit_shiftLeft,Nat.testBit_two_pow_sub_one,Vv];by_cases hi:4<=i
 rw[show 4+(i-4)=i by omega];by_cases Yb:i<64
 simp[hi,show i-4<60 by omega]
 have:a.testBit i=false:=Nat.testBit_lt_two_pow (ry h (dp I I));simp[this]
 simp[hi]
theorem arX{P:Program}{ρ:Env}{T T' ty:TypeId}{x y:Operand}{u v:Int}{b:Nat}(hx:Env.ev ρ x= .int .i64 u)(hy:Env.ev ρ y= .int .i64 v) [W:ao u a] [h2:ao v b](ha:a<=aG .i64)(hb:b=15):run P ρ (.binOp .andNot T x y T') ty w= .ok (.value (R (a/16*16))) w:=by
 subst hb;rw[ku _ hx hy,W.eq,h2.eq];have Yb:a<2^64:=CJ .i64 a ha;have:=th .i64 (a/16*16) (aI (Nat.div_mul_le_self _ _) ha);have e3:(BitVec.ofNat 64 a&&&18446744073709551600#64).toNat=a/16*16:=(by rw[BitVec.toNat_and];simp only[BitVec.toNat_ofNat];rw[mw Yb];exact arW Yb);simp[binOp,Op.intBits,IntKind.bits];show IntKind.i64.wrap (((BitVec.ofNat 64 a&&&18446744073709551600#64).toNat:Nat):Int)=_;rw[e3,this];omega
theorem arY{D:List UInt8}{len:Nat}(h:n<=len):aa (aa D q len) 0 n=aa D q n:=iL I
theorem arZ{D:List UInt8}{len room:Nat}(hq:q+len<=D.length)(h4:4<=len):gM (aa D q len) room=(if num (aa D q 4)/16*16=407710288 then(if len<8 then(2,[],0)else if len<8+num (aa D (q+4) 4)then(2,[],0)else(1,[],8+num (aa D (q+4) 4)))else if ¬num (aa D q 4)=4247762216\/len<5 then(2,[],0)else rU (aa D q len) room):=by
 unfold gM;rw[dx hq,ag I];dsimp only;rw[arY h4];by_cases h8:len<8
 rw[ai h8,ai h8]
 rw[ag h8,ag h8,iL I]
theorem ar0{ad:Option Addr}{D:List UInt8}{len cap:Nat}{T:TT}{room:Nat}(h:H r w F)(hm:(af db (D.map u8) T)∈F)(a8:0<len->ad=some ⟨db,q,none⟩)(hq:q+len<=D.length)(jt:len<=cap)(hlen:len<=140737488355328)(oI:room<=4194304):Calls PP 16 #[.slice ad len cap,R room] w λe w'=> ∃v lL nv cv n,e= .returned (.tuple #[.slice lL nv cv,R n,R v])/\(gM (aa D q len) room).1=v/\(v≠1->H r w' F)/\(v=1-> ∃out ob co sp,gM (aa D q len) room=(1,out,n)/\lL=aB ob/\nv=out.length/\cv=co/\bG ob out.length co (out.map u8) sp 1/\H r w' ((ob,C (List.map u8 out++sp) 5)::F)):=by
 have dK:=dx hq;refine gS Tryz.func16 Tryz.ntmps16 [4,5,6] ?_;refine V 13 ?_;refine an J ?_ ?_<;>intro Dm
 refine V 7 ?_;exact⟨2,none,0,0,0,J,(by unfold gM;rw[ai I]),(λ_=>h),(λe=>absurd e I)⟩
 have F5:gM (aa D q len) room=(if num (aa D q 4)/16*16=407710288 then(if len<8 then(2,[],0)else if len<8+num (aa D (q+4) 4)then(2,[],0)else(1,[],8+num (aa D (q+4) 4)))else if ¬num (aa D q 4)=4247762216\/len<5 then(2,[],0)else rU (aa D q len) room):=arZ hq I;refine V 4 ?_;refine ah (lX (c:=4) (W:=ao.lit _) J J I) (dJ J J (aA (sK (len:=4) h hm (λ_=>a8 I) I I (aI (yv I) I)) ?_));rintro e w1 ⟨rfl,rfl⟩;have QI:= @yv D q 4 I;refine V 6 ?_;refine ah (arX (b:=15) (h2:=ao.lit _) J J az J) ?_;refine V 2 ?_;refine an J ?_ ?_<;>intro mz
 refine V 7 ?_;refine an J ?_ ?_<;>intro F6
 refine V 7 ?_;exact⟨2,none,0,0,0,J,(by rw[F5,ai mz,ai I]),(λ_=>h),(λe=>absurd e I)⟩
 refine V 4 ?_;refine ah (uX (a:=4) (W:=ao.lit _) (c:=8) (h2:=ao.lit _) J J J I I) (dJ J J (aA (sK (ad:=cut ad cap 4 1) (q:=q+4) (len:=4) h hm (λh0=>eg (a8 I) I) I I (aI (yv I) I)) ?_));rintro e w1 ⟨rfl,rfl⟩;have hn8:= @yv D (q+4) 4 I;refine V 11 ?_;refine an J ?_ ?_<;>intro D3
 refine V 7 ?_;exact⟨2,none,0,0,0,J,(by rw[F5,ai mz,ag I,ai I]),(λ_=>h),(λe=>absurd e I)⟩
 refine V 9 ?_;exact⟨1,none,0,0,8+num (aa D (q+4) 4),J,(by rw[F5,ai mz,ag I,ag I]),(λe=>absurd J e),(λ_=>⟨[],none,0,[],(by rw[F5,ai mz,ag I,ag I]),J,J,J,bG.nil,h.ghost _⟩)⟩
 refine V 7 ?_;refine d' (t:=32) J (λar3=>?_) (λar3=>?_)
 refine V 5 ?_;refine iI J ?_;refine V 7 ?_;exact⟨2,none,0,0,0,J,(by rw[F5,ag mz,ai (Or.inl I)]),(λ_=>h),(λe=>absurd e I)⟩
 refine V 5 ?_;refine an J ?_ ?_<;>intro F7
 refine V 7 ?_;exact⟨2,none,0,0,0,J,(by rw[F5,ag mz,ai (Or.inr I)]),(λ_=>h),(λe=>absurd e I)⟩
 refine V 5 ?_;refine b_ J J J (aA (arS h hm a8 hq jt hlen I oI) ?_);rintro e w1 ⟨v,lL,nv,cv,n,rfl,eL,fh,rG⟩;refine V 8 ?_;have n6:gM (aa D q len) room=rU (aa D q len) room:=(by rw[F5,ag mz,ag I]);rw[<-n6]at eL rG;exact⟨v,lL,nv,cv,n,J,eL,fh,rG⟩
variable {E2:List UInt8}{cap:Nat}{ad:Option Addr}{T:TT}
theorem H.Yc{a b:aD}(h:H r w (a::b::F)):H r w (a::F):=(h.perm (List.Perm.swap b a F)).tail
theorem ar4(l:List Int)(x:Int):List.map i64 l++[i64 x]=List.map i64 (l++[x]):=by simp
theorem afR{w m room:Nat}{E:List UInt8}{s':Fs}{a':Nat}: ∀f at_ s,jI w m room E f at_ s=(1,s',a')->at_+3<=a'/\a'<=E.length/\s'.out.length<=room
 |0,at_,s,h=>by cases h
 | f+1,at_,s,h=>by
  rw[jI]at h;split at h
  cases h
  dsimp only at h;generalize (if num (aa E at_ 3)/2 % 4=1 then 1 else num (aa E at_ 3)/8)=hv at h;split at h
  cases h
  rename_i hk;split at h
  cases h
  split at h
  rename_i bY;exact absurd (b8 Prod.fst h) bY
  split at h
  cases h
  split at h
  cases h;exact⟨I,I,I⟩
  have ih:=afR f _ _ h;exact⟨I,ih.2.1,ih.2.2⟩
theorem ar5{room:Nat}{out:List UInt8}(h:rU E room=(1,out,n)):3<=n/\n<=E.length/\out.length<=room:=by
 unfold rU at h;dsimp only at h;split at h
 rename_i bY;exact absurd (b8 Prod.fst h) bY
 generalize hx:jI _ _ room E _ _ _=x at h;obtain⟨v,s',a'⟩:=x;dsimp only at h;split at h
 rename_i bY;exact absurd (b8 Prod.fst h) bY
 rename_i hv;have gr:v=1:=(by simpa using hv);subst gr;have:=afR _ _ _ hx;split at h
 cases h
 split at h
 split at h
 cases h
 cases h;exact⟨I,I,this.2.2⟩
 cases h;exact⟨I,I,this.2.2⟩
theorem ar6{room:Nat}{out:List UInt8}(h:gM E room=(1,out,n)):3<=n/\n<=E.length/\out.length<=room:=by
 unfold gM at h;split at h
 cases h
 dsimp only at h;split at h
 split at h
 cases h
 split at h
 cases h
 cases h;exact⟨I,I,bP _⟩
 split at h
 cases h
 exact ar5 h
theorem ar7{D:List UInt8}{len:Nat}{room:Nat}(h:H r w F)(hm:(af db (D.map u8) T)∈F)(a8:0<len->ad=some ⟨db,q,none⟩)(hq:q+len<=D.length)(jt:len<=cap)(hlen:len<=140737488355328)(oI:room<=4194304):Calls PP 16 #[.slice ad len cap,R room] w λe w'=> ∃v lL nv cv n out ob co sp,e= .returned (.tuple #[.slice lL nv cv,R n,R v])/\(gM (aa D q len) room).1=v/\(v=1->gM (aa D q len) room=(1,out,n)/\lL=aB ob/\nv=out.length/\cv=co/\bG ob out.length co (out.map u8) sp 1)/\H r w' ((ob,C (List.map u8 out++sp) 5)::F):=by
 refine(ar0 h hm a8 hq jt hlen oI).mono ?_;rintro e w1 ⟨v,lL,nv,cv,n,rfl,eL,fh,rG⟩;by_cases hv:v=1
 obtain⟨out,ob,co,sp,W,h2,h3,h4,h5,h6⟩:=rG hv;exact⟨v,lL,nv,cv,n,out,ob,co,sp,J,eL,λ_=>⟨W,h2,h3,h4,h5⟩,h6⟩
 exact⟨v,lL,nv,cv,n,[],none,0,[],J,eL,λe=>absurd e hv,(fh hv).ghost _⟩
theorem ar8{out:List UInt8}{at_:Nat}(h: ¬at_<E.length):q7 E (f+1) at_ out=(1,out):=by
 rw[q7,ag h]
theorem ar9{out:List UInt8}{at_ v:Nat}{room:Nat}(h:at_<E.length)(hE:E.drop at_=E2)(hr:4194304-out.length=room)(hv:(gM E2 room).1=v)(W:v≠1):(q7 E (f+1) at_ out).1=v:=by
 subst hE;subst hr;rw[q7,ai h];dsimp only;rw[ai (by rw[hv];exact W)];exact hv
theorem ar_{out dM:List UInt8}{at_:Nat}{room:Nat}(h:at_<E.length)(hE:E.drop at_=E2)(hr:4194304-out.length=room)(hv:gM E2 room=(1,dM,n)):q7 E (f+1) at_ out=q7 E f (at_+n) (out++dM):=by
 subst hE;subst hr;rw[q7,ai h];dsimp only;rw[hv];rfl
theorem ar'{D:List UInt8}{len:Nat}(h:H r w F)(hm:(af db (D.map u8) T)∈F)(a8:0<len->ad=some ⟨db,q,none⟩)(hq:q+len<=D.length)(jt:len<=cap)(hlen:len<=1099511627776):Calls PP 9 #[.slice ad len cap] w λe w'=> ∃v lL nv cv ae ne ce,e= .returned (.agg #[.slice lL nv cv,R v,.slice ae ne ce])/\(pB (aa D q len)).1=v/\(v≠1->H r w' F)/\(v=1-> ∃out ob co sp,pB (aa D q len)=(1,out)/\lL=aB ob/\nv=out.length/\cv=co/\bG ob out.length co (out.map u8) sp 1/\H r w' ((ob,C (List.map u8 out++sp) 5)::F)):=by
 have dK:=dx hq;refine CW (P:=PP) Tryz.func9 48 Tryz.ntmps9 2 30 [] J J (args:=[_]) J (a9 (eS (eh h J ?_)));intro br w h;refine V 3 ?_;refine eh h J ?_;intro bd w h;refine V 12 ?_;refine an J ?_ ?_<;>intro sF
 have tT:(aa D q len).length=0:=I;refine a9 (eS (ah (iK [_,_,_] h J ⟨J,J,J,trivial⟩ J) (b7 ?_)));intro w h;refine aC (iG (⟨_,qQ [_,_,_] h J ⟨J,J,J,trivial⟩ J,?_⟩));exact⟨0,_,_,_,_,_,_,J,(by unfold pB;rw[ai tT]),(λ_=>h.tail.tail),(λe=>absurd e aj)⟩
 refine V 3 ?_;refine cg (q7 (aa D q len) (len+1) 0 []) λZ9 mA=>?_;replace h:=((h.ghost (C (List.map i64 []++[]) 3)).ghost (C (List.map u8 []++[]) 5)).mv 3;dsimp only[dB]at h;replace h:=h.zz [3] 0;have gp: ¬len=0->pB (aa D q len)=Z9:=λh0=>(by unfold pB;rw[dK,ag h0];exact mA);refine bQ (σ:=Nat×Nat×List UInt8×Option Nat×Nat×List Value×List Int×Option Nat×Nat×List Value) [(4,7),(12,45)] (λ⟨f,at_,out,ob,co,sp,en,oe,ce,Mp⟩ ρ w=>Kn ρ [(4,R at_)]/\H r w ((af bd [.slice (aB ob) out.length co,.int .i64 0,.slice (aB oe) en.length ce] 30)::(af br [.slice none 0 0,.int .i64 0,.slice none 0 0] 30)::(ob,C (List.map u8 out++sp) 5)::(oe,C (List.map i64 en++Mp) 3)::F)/\(at_<=len)/\(len+1<=f+at_)/\(out.length<=4194304)/\(en.length<=at_)/\(bG ob out.length co (List.map u8 out) sp 1)/\(bG oe en.length ce (List.map i64 en) Mp 1)/\(q7 (aa D q len) f at_ out=Z9)) (λ⟨f,at_,out,ob,co,sp,en,oe,ce,Mp⟩=>len+1-at_) (len+1,0,[],none,0,[],[],none,0,[]) ⟨aq,h,I,I,(bP _),(bP _),bG.nil,bG.nil,mA⟩ ?_;rintro⟨f,at_,out,ob,co,sp,en,oe,ce,Mp⟩ ρ w ⟨⟨mC,rfl⟩,h,jg,hf,zC,Bv,fu,asa,hR⟩;refine V 8 ?_;refine an J ?_ ?_<;>intro IM
 refine aY (show ∃f',f=f'+1 from⟨f-1,I⟩) (λf' F1=>?_);rw[F1]at hR;have yx:(aa D q len).drop at_=aa D (q+at_) (len-at_):=sI;refine V 3 ?_;refine bL h [0,4,8,12,17,20,24,31,32,36,40,44,48,52,56] ?_;intro w h;refine av 2 ?_;refine aw J (iY J J I I) ?_;refine av 4 ?_;refine kL J J J J (aA (ar7 (ad:=cut ad cap at_ 1) (q:=q+at_) (len:=len-at_) (room:=4194304-out.length) h (ar (ar (ar (ar hm)))) (λh0=>eg (a8 I) I) I I I I) ?_);rintro e w1 ⟨v,lL,nv,cv,n,dM,cr,Br,cG,rfl,eL,fh,h⟩;refine av 8 ?_;refine V 6 ?_;refine an J ?_ ?_<;>intro mY
 refine V 3 ?_;refine ah (Fe (ao3 _) J) (b7 ?_);intro w h;refine aC (iG (⟨_,qQ [_,_,_] h J ⟨J,J,J,trivial⟩ J,?_⟩));exact⟨v,_,_,_,_,_,_,J,(by rw[gp I,<-hR];exact ar9 I yx J eL I),(λ_=>h.tail.tail.tail.tail.tail),(λe=>absurd e I)⟩
 have tV:v=1:=I;have wQ:=(fh tV).1;have hu:=(fh tV).2;have l7:=ar6 wQ;rw[dx I]at l7;have h2l:=hu.2.1;refine V 6 ?_;refine kW (List.map u8 out) sp (dM.map u8) h 3 J J J fu (show Src _ _ _ 1 nv (.slice lL nv cv) (dM.map u8)from by rw[hu.1,hu.2.1,hu.2.2.1];exact aeO (j:=0) J hu.2.2.2) (by intro x hx;obtain⟨y,_,rfl⟩:=jd.1 hx;rfl) I aj J ?_;intro w dy c9 dL h df fG eG;dsimp only[List.set]at h;rw[<-f_]at h df;have wM:(out++dM).length=out.length+nv:=(by rw[aF,hu.2.1]);refine cM (cM (ah (d_ (b:=n) J J az) (pe J (b7 ?_))));intro w h;refine V 6 ?_;refine kX J (lB _) h ?_;intro bz w h;refine kW (List.map i64 en) Mp [i64 ((at_+n:Nat):Int)] h 5 J J J asa (Src.slice (j:=0) (q2:=0) J ⟨J,trivial⟩ J) (by intro x hx;simp at hx;subst hx;rfl) I aj J ?_;intro w oe9 ce9 se9 h afS afT asb;dsimp only[List.set]at h;rw[ar4]at h afS;replace h:=h.tail;(try dsimp only[dB]at h);refine pe J (b7 ?_);intro w h;refine aC ?_;replace h:=h.tail;(try dsimp only[dB]at h);refine⟨aH 38,?_⟩;have dd:=ar_ (f:=f') I yx J wQ;rw[hR]at dd;rw[<-wM]at h fG;have hle:(en++[((at_+n:Nat):Int)]).length=en.length+1:=(by rw[aF];rfl);rw[<-hle]at h afT;exact⟨((f',at_+n,out++dM,dy,c9,dL,en++[((at_+n:Nat):Int)],oe9,ce9,se9)),cw,aq,h,I,I,I,(by rw[aF];simp only[ek,fE];omega),⟨by rw[bX,eC],df,fG,eG⟩,⟨by rw[bX,eC],afS,afT,asb⟩,dd.symm⟩
 refine aY (show ∃f',f=f'+1 from⟨f-1,I⟩) (λf' F1=>?_);rw[F1,ar8 I]at hR;refine V 4 ?_;refine gU (R 1) ?_;intro w h;refine V 3 ?_;refine ah (iK [_,_,_] h J ⟨J,J,J,trivial⟩ J) (b7 ?_);intro w h;refine aC (iG (⟨_,qQ [_,_,_] h J ⟨J,J,J,trivial⟩ J,?_⟩));exact⟨1,_,_,_,_,_,_,J,(by rw[gp I,<-hR]),(λe=>absurd J e),(λ_=>⟨out,ob,co,sp,(by rw[gp I,<-hR]),J,J,J,fu,H.Yc h.tail.tail⟩)⟩
end Go.Z
