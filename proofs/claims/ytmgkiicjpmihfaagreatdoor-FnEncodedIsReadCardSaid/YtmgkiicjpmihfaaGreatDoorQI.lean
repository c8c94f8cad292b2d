/- Part 9 of the proof. -/
import Derived.KernelRfl
import Derived.Test.YtmgkiicjpmihfaaGreatDoorQH
set_option linter.all false
set_option maxRecDepth 20000
set_option maxHeartbeats 400000000
open List renaming length -> W, getD -> aa, map -> ar, replicate -> aT, set -> bJ, range -> cL
open UInt8 renaming ofNat -> bS
open Or renaming inl -> a_, inr -> bG
open Go.Z.Env renaming ev -> aL, put -> fU
namespace Go.Z
open Go Go.Proofs Tryz
variable {s:Fs}{E:List UInt8}{i m w:Nat}
def C9(l:List (Option Tb)):Prop:=W l=3/\ ∀k,k<3-> ∀t,aa l k none=some t->se k t
def C9.set{l:List (Option Tb)}{t:Tb}(h:C9 l)(hi:i<3)(a:se i t):C9 (l.set i (some t)):=by
 refine⟨by rw[dW];exact h.1,λk b u hu=>?_⟩;rw[e_]at hu;by_cases e:i=k
 rw[ao ⟨e,by rw[h.1];exact hi⟩]at hu;cases hu;subst e;exact a
 rw[aj I]at hu;exact h.2 k b u hu
def akl{m:Nat}{gD:List (Option Tb)}{E:List UInt8}(f:C9 gD): ∀i,i<=3-> ∀{tl:List (Option Tb)} {p:Nat},fI m gD E i=(1,tl,p)->C9 tl/\ ∀k,k<i-> ∃t,aa tl k none=some t
 |0,_,tl,p,h=>by cases h;exact⟨f,λk j=>by omega⟩
 | i+1,hi,tl,p,h=>by
  rcases g:fI m gD E i with⟨v,c,p0⟩;rw[fI,g]at h;dsimp only at h;by_cases a:v≠1
  rw[ao a]at h;exact absurd (cD Prod.fst h) a
  have l:v=1:=oB.1 a;subst l;rw[aj a]at h;have b:=akl f i I g
  cases d:ke (aa c i none) i (m/2^(6-2*i) % 4) (E.drop p0)with
  |none=>rw[d]at h;exact absurd (cD Prod.fst h) (by show(2:Nat)≠1;decide)
  | some y=>
    rw[d]at h
    dsimp only at h
    split at h
    . exact absurd (cD Prod.fst h) (by show(0:Nat)≠1;decide)
    . cases h
      have n:=agk (t:=y.1) (size:=y.2) I d (λt e=>b.1.2 i I t e)
      refine⟨b.1.set I n,λk j=>?_⟩
      rw[e_]
      by_cases e:i=k
      . rw[ao ⟨e,by rw[b.1.1];omega⟩];exact⟨_,J⟩
      . rw[aj I];exact b.2 k I
def aby(h:(dZ s.tree E).1≠1):(iL w m s E).1=(dZ s.tree E).1:=by
 unfold iL;dsimp only;rw[ao h]
def azn:kT E<=131072:=by
 have a:byte E 0<=255:=toNat_le _;have h1:byte E 1<=255:=toNat_le _;have h2:num (ag E 1 2)<2^16:=qp;unfold kT;split
 omega
 split<;>omega
def abz{j:Nat}:byte (E.drop i) j=byte E (i+j):=by
 unfold byte;simp only[bX,nQ]
def azo{l:Nat}{text:List UInt8}{tr:Option Tr}(H:dZ s.tree E=(1,text,l,tr))(n:(iL w m s E).1≠0)(K:C9 s.bI):
   (j4 s.bI (E.drop l)).1≠0/\((j4 s.bI (E.drop l)).1≠1->(iL w m s E).1≠1)/\
   (∀i g,j4 s.bI (E.drop l)=(1,0,i,g)->g=s.bI/\W (E.drop l)=1/\i=1/\W text<=m/\iL w m s E=(1,{s with out:=s.out++text,tree:=tr}))/\
   (∀many i g,many≠0->j4 s.bI (E.drop l)=(1,many,i,g)->many<=131072/\C9 g/\(∀k,k<3-> ∃t,aa g k none=some t)/\ ∃y,y=lP (p7 g) w m s.out s.a s.b s.c text many ((E.drop l).drop i)/\
     iL w m s E=(y.1,⟨y.2.1,tr,g,y.2.2.1,y.2.2.2.1,y.2.2.2.2⟩)):=by
 obtain⟨d,B⟩: ∃d,E.drop l=d:=⟨_,J⟩
 rw[B]
 have f:iL w m s E=if W d=0 then(2,s)else if W d<eh (byte d 0)then(2,s)
     else if kT d=0 then(if(1<eh (byte d 0)\/0<W (d.drop (eh (byte d 0))))\/m<W text then(0,s)else(1,{s with out:=s.out++text,tree:=tr}))
     else wV w m s tr text (kT d) (d.drop (eh (byte d 0))):=by
   unfold iL
   rw[H]
   dsimp only
   rw[aj an,B]
 by_cases q:W d=0
 . have hi:j4 s.bI d=(2,0,0,s.bI):=by unfold j4;rw[ao q]
   rw[ao q]at f
   rw[hi,f]
   exact⟨by show(2:Nat)≠0;decide,λ_=>by show(2:Nat)≠1;decide,λi g e=>absurd (cD Prod.fst e) (by show(2:Nat)≠1;decide),λmany i g _ e=>absurd (cD Prod.fst e) (by show(2:Nat)≠1;decide)⟩
 rw[aj q]at f
 by_cases r:byte d 0=0
 . have hi:j4 s.bI d=(1,0,1,s.bI):=by unfold j4;rw[aj q,ao r]
   have o:eh (byte d 0)=1:=by rw[r];decide
   have hm:kT d=0:=by unfold kT;rw[o];simpa using r
   rw[o,aj I,ao hm]at f
   by_cases u:(1<1\/0<W (d.drop 1))\/m<W text
   . rw[ao u]at f;rw[f]at n;exact absurd J n
   . rw[aj u]at f
     rw[cr]at u
     rw[hi]
     refine⟨by show(1:Nat)≠0;decide,λe=>absurd J e,λi g e=>?_,λmany i g C e=>?_⟩
     . cases e;exact⟨J,I,J,I,f⟩
     . cases e;exact absurd J C
 by_cases o:W d<eh (byte d 0)
 . have hi:j4 s.bI d=(2,0,0,s.bI):=by unfold j4;rw[aj q,aj r,ao o]
   rw[ao o]at f
   rw[hi,f]
   exact⟨by show(2:Nat)≠0;decide,λ_=>by show(2:Nat)≠1;decide,λi g e=>absurd (cD Prod.fst e) (by show(2:Nat)≠1;decide),λmany i g _ e=>absurd (cD Prod.fst e) (by show(2:Nat)≠1;decide)⟩
 rw[aj o]at f
 have hm:kT d≠0:=by
   intro hm
   rw[ao hm]at f
   have h2:1<eh (byte d 0):=by
     rcases dq 1 (eh (byte d 0))with h|h
     . exact h
     . exfalso
       have N:1<=eh (byte d 0):=by
         unfold eh;split
         . omega
         . split<;>omega
       have:eh (byte d 0)=1:=I
       unfold kT at hm
       rw[this]at hm
       exact r (by simpa using hm)
   rw[ao (a_ (a_ h2))]at f
   rw[f]at n;exact n J
 rw[aj hm]at f
 obtain⟨j,A⟩: ∃j,d.drop (eh (byte d 0))=j:=⟨_,J⟩
 rw[A]at f
 have hi:j4 s.bI d=if W j=0 then(2,0,0,s.bI)else if byte j 0 % 4≠0 then(0,0,0,s.bI)
     else((fI (byte j 0) s.bI (j.drop 1) 3).1,kT d,eh (byte d 0)+1+(fI (byte j 0) s.bI (j.drop 1) 3).2.2,(fI (byte j 0) s.bI (j.drop 1) 3).2.1):=by
   unfold j4;rw[aj q,aj r,aj o,A]
 unfold wV at f
 by_cases D:W j=0
 . rw[ao D]at f hi
   rw[hi,f]
   exact⟨by show(2:Nat)≠0;decide,λ_=>by show(2:Nat)≠1;decide,λi g e=>absurd (cD Prod.fst e) (by show(2:Nat)≠1;decide),λmany i g _ e=>absurd (cD Prod.fst e) (by show(2:Nat)≠1;decide)⟩
 rw[aj D]at f hi
 by_cases F:byte j 0 % 4≠0
 . rw[ao F]at f;rw[f]at n;exact absurd J n
 rw[aj F]at f hi
 dsimp only at f
 rcases u:fI (byte j 0) s.bI (j.drop 1) 3 with⟨v,tl,p⟩
 rw[u]at f hi
 dsimp only at f hi
 rw[hi]
 by_cases x:v≠1
 . rw[ao x]at f
   have L:v≠0:=λe=>n (by rw[f];exact e)
   rw[f]
   exact⟨L,λ_=>x,λi g e=>absurd (cD Prod.fst e) x,λmany i g _ e=>absurd (cD Prod.fst e) x⟩
 . rw[aj x]at f
   have M:v=1:=oB.1 x
   subst M
   have G:=akl K 3 (aW _) u
   refine⟨by show(1:Nat)≠0;decide,λe=>absurd J e,λi g e=>absurd (cD (λz=>z.2.1) e) hm,λmany i g C e=>?_⟩
   cases e
   refine⟨azn,G.1,G.2,_,J,?_⟩
   rw[f]
   have hd:j.drop 1=d.drop (eh (byte d 0)+1):=by rw[<-A,kG]
   rw[hd,kG]
def azp{bI:List (Option Tb)}(h:C9 bI)(hs: ∀k,k<3-> ∃t,aa bI k none=some t):AM (p7 bI)/\ ∀k,k<3->aa bI k none=some (p7 bI k):=by
 refine⟨λk a=>?_,λk a=>?_⟩
 obtain⟨t,b⟩:=hs k a;unfold p7;rw[b];exact h.2 k a t b
 obtain⟨t,b⟩:=hs k a;unfold p7;rw[b];rfl
variable {aE aU:Addr}{c c2:Prop}{x:dk}{r:fT}{w:World}
def Fp{a b d:Value}[Decidable c] [Decidable c2](h: ¬c):(if c then a else if c2 then b else d)=b\/(if c then a else if c2 then b else d)=d:=by
 rw[aj h];by_cases h2:c2
 rw[ao h2];exact .inl J
 rw[aj h2];exact .inr J
def Fq{F:List aK}{rb:Nat}{zo:Int}{v:Value}(h:H r w F)(a:(ah rb (aB x) 81)∈F)(c:Gl F aE aU)(d:v= .iface 199 (.pointer (some aE))\/v= .iface 199 (.pointer (some aU))):Calls PP 83 #[bL rb,.int .i64 zo,v] w λe w'=> ∃b,e= .returned (.iface 182 (bL b))/\H r w' F:=by
 rcases d with rfl|rfl
 exact atZ h a c
 exact aua h a c
def C_{ρ:Env}{T' ty:TypeId}{x:Operand}[Decidable c] [Decidable c2](a:aL ρ x=if c then .nilIface else if c2 then .iface 199 (.pointer (some aE))else .iface 199 (.pointer (some aU))){n:Value}(d:n= .nilIface):run PP ρ (.binOp .neq 103 x (.const n) T') ty w= .ok (.value (.bool (decide (¬c)))) w:=by
 by_cases b:c
 rw[ao b]at a;rw[ye a d];simp[b]
 rw[aj b]at a;by_cases h2:c2
 rw[ao h2]at a;rw[J5 a d];simp[b]
 rw[aj h2]at a;rw[J5 a d];simp[b]
def akm{p:Prop}(h:p:=by refine g_ 7 ?_;replace h:=h.zz [3] 0;refine D2 J J J J J J (aH (axo (tr:=tr) h bZ (hG.sub aP) (hX.sub aP) nY hE hk I hV) ?_);rintro e w1 ⟨n,er,dh,b_,mS,dH,v',rfl,h,cS,kA,lI⟩;refine g_ 8 ?_;replace h:=h.zz [3,3,3] 0;exact⟨n,er,dh,b_,mS,dH,v',x.hA,x.hN,x.hC,x.hb,x.fA,x.fN,x.fC,eP,cs,hO,m,J,h,ss,H4,cS,(λe=>⟨(kA e).1,(kA e).2.1,tr,(kA e).2.2,zX⟩),(λe=>a_ (lI e))⟩):p:=h
theorem azq{L:List aK}{br o bc:Nat}{ad:Option Addr}{ob eP hO:Option Nat}{sp:List Value}{tr:Option Tr}{cs:List dx}{m:List Nat}(h:H r w ((ah br (aB (LX x x.hA x.hN x.hC x.hb x.fA x.fN x.fC)) 81)::(eP,C (dp cs) 227)::(hO,C (ar dG m) 174)::(ob,C (ar u8 ([])++sp) 5)::L))(hG:Gl L aE aU)(hX:aY L (.slice ad (W E) o) E)(hE:W E<=268435456)(hk:b8 ob 0 bc [] sp 1)(ss:yn x.fA x.fN x.fC eP cs)(H4:H2 x.hA x.hN x.hC hO m)(zX:H3 x.hN x.hb m tr)(hV:(dZ tr E).1≠0):Calls PP 97 #[bL br,.slice ad (W E) o,af 0,.slice (aI ob) 0 bc] w λe w'=> ∃n er dh b_ mS dH v' a n' c b fa fn fc f g j d,e= .returned (.tuple #[af n,v',er])/\H r w' ((ah br (aB (LX x a n' c b fa fn fc)) 81)::(f,C (dp g) 227)::(j,C (ar dG d) 174)::(b_,C (ar u8 (dh)++dH) 5)::L)/\yn fa fn fc f g/\H2 a n' c j d/\b8 b_ (W dh) mS (dh.map u8) dH 1/\((dZ tr E).1=1->er= .nilIface/\v'= .slice (aI b_) (W dh) mS/\ ∃p,dZ tr E=(1,dh,n,p)/\H3 n' b d p)/\((dZ tr E).1≠1->Er aU er):=by
 have s:0<W E-> ∃db q l T,ad=some ⟨db,q,none⟩/\(ah db l T)∈L/\Rd l q (E.map u8):=(by obtain⟨O,n',c',z,P,Q,A⟩:=id hX;cases z;exact λh=>A I);refine xJ func97 ntmps97 [8,9,10] ?_;refine g_ 14 ?_;refine au J ?_ ?_<;>intro R
 have B:(dZ tr E).1≠1:=(by unfold dZ;rw[ao I];show(2:Nat)≠1;decide);refine g_ 4 ?_;refine cJ J J J (aH (vi (zo:=0) h bZ (hG.sub aP)) ?_);rintro e w1 ⟨be,rfl,h⟩;refine g_ 5 ?_;exact⟨_,_,[],ob,bc,sp,_,x.hA,x.hN,x.hC,x.hb,x.fA,x.fN,x.fC,eP,cs,hO,m,J,h,ss,H4,hk,(λe=>absurd e B),(λ_=>a_ ⟨_,J⟩)⟩
 have nY:1<=W E:=I;refine(s I).elim λdb u=>?_;refine u.elim λq v=>?_;refine v.elim λl y=>?_;refine y.elim λT hd=>?_;clear u v y s;have D:=λi (hi:i<W E)=>kf hd.2.2 (i:=i) hi;refine gg hd.2.1 λS U=>?_;have F:byte E 0<=255:=toNat_le _;refine g_ 5 ?_;refine ak (da (a:=0) (h1:=av.lit _) J J hd.1 I) (ak (xd (run_load h J (D 0 I)) (show(aa E 0 0).toNat=byte E 0 from J)) ?_);refine g_ 5 ?_;refine ak (cG (eR (a:=0) (h1:=av.lit _) (b:=1) (h2:=av.lit _) J J aG) (il 1)) ?_;refine g_ 5 ?_;refine ak (wT J J aG) ?_;refine g_ 2 ?_;refine eM (t:=28) J (λG=>?_) (λG=>?_)
 refine g_ 5 ?_;refine jv J ?_;exact akm
 refine g_ 1 ?_;refine dI J J J (wT J J aG) J ?_;refine g_ 3 ?_;refine au J ?_ ?_<;>intro V
 exact akm
 refine g_ 7 ?_;refine D2 J J J J J J (aH (azh (tr:=tr) h hG hX nY hE hk ss H4 zX I hV) ?_);rintro e w1 ⟨n,er,dh,b_,mS,dH,v',K,M,xc,xb,fa,fn,fc,f,g,j,d,rfl,h,N,k,cS,kA,lI⟩;refine g_ 8 ?_;exact⟨n,er,dh,b_,mS,dH,v',K,M,xc,xb,fa,fn,fc,f,g,j,d,J,h,N,k,cS,kA,lI⟩
variable {pr:Int}{bI:List (Option Tb)}{b0 b1 b2:List Bl}{F L:List aK}{l:List Value}{b br c fc fn n sb:Nat}{a fa:Option Addr}{kO o0 o1 o2:Option Nat}
def akn{len cap pos:Nat}{ad:Option Addr}{y:List Value}{B b:TypeId}(h:H r w ((ah sb [.slice ad len cap,af (pos),.int .i64 pr] 84)::(kO,C l B)::(ah br y b)::F))(d:aY F (.slice ad len cap) E)(f:pos<=len)(hlen:len<=140737488355328)(g:Gl F aE aU)(s:n<=W l)(j:n<=c)(k:kO=none->c=0):Calls PP 78 #[.iface 58 (bL sb),.slice (aI kO) n c] w λe w'=> ∃a,e= .returned (.tuple #[af (min (len-pos) n),(if n<=len-pos then .nilIface else if len-pos=0 then .iface 199 (.pointer (some aE))else .iface 199 (.pointer (some aU)))])/\H r w' ((ah sb [.slice ad len cap,af (pos+min (len-pos) n),.int .i64 a] 84)::(kO,C (dm l 0 (ar u8 ((E.drop pos).take n))) B)::(ah br y b)::F):=by
 cases kO with
 |some t=>exact CN h (d.sub (Sub.cons _ _)) f hlen (g.sub (Sub.cons _ _)) (λ_=>rfl) I j
 | none=>
   have m:=k J
   subst m
   have o:n=0:=I
   subst o
   have i: ∀l:List Value,dm l 0 (ar u8 ((E.drop pos).take 0))=l:=λl=>by rw[qi];rfl
   rw[i]
   refine(CN (h.mv 1).tail d f hlen g (λp=>absurd p (vT 0)) (cj _) (aW 0) (q:=0)).mono ?_
   rintro e u ⟨a,he,h1⟩
   rw[i]at h1
   exact⟨a,he,(h1.ghost _).mv 1⟩
def H.ako{A G B:List aK}(h:H r w (A++(G++(B++L)))):H r w (A++(B++(G++L))):=
 h.perm (WZ A (by rw[<-bV,<-bV];exact List.Perm.append_right L List.perm_append_comm))
def akp{m:Nat}{gD:List (Option Tb)}{E:List UInt8}: ∀i,(fI m gD E i).1<=2
 |0=>by show 1<=2;decide
 | i+1=>by
  have a:= @akp m gD E i;rw[fI];split
  exact a
  split
  exact aW 2
  split
  exact cj 2
  show 1<=2;decide
def azs:(j4 bI E).1<=2:=by
 unfold j4;split
 exact aW 2
 split
 show 1<=2;decide
 split
 exact aW 2
 split
 exact aW 2
 split
 exact cj 2
 exact akp 3
def C3(x:dk)(kO:Option Nat)(kn kc:Nat)(ob:Option Nat)(bn bc:Nat)(lO:Option Nat)(ln lc:Nat):dk:={x with cA:=aI kO,cN:=kn,cC:=kc,bA:=aI ob,bN:=bn,bC:=bc,lA:=aI lO,lN:=ln,lC:=lc}
section
variable {x:dk}{kO zZ ob b_ lO z5:Option Nat}{kn kc bn bc ln lc n' c':Nat}
def azt(h1:x.cA=aI kO)(h2:x.bA=aI ob)(a:x.lA=aI lO):aB x=aB (C3 x kO x.cN x.cC ob x.bN x.bC lO x.lN x.lC):=by unfold C3;rw[<-h1,<-h2,<-a]
def akq:(aB (C3 x kO kn kc ob bn bc lO ln lc)).set 17 (.slice (aI zZ) n' c')=aB (C3 x zZ n' c' ob bn bc lO ln lc):=rfl
def azu:(aB (C3 x kO kn kc ob bn bc lO ln lc)).set 7 (.slice (aI b_) n' c')=aB (C3 x kO kn kc b_ n' c' lO ln lc):=rfl
def H6:(aB (C3 x kO kn kc ob bn bc lO ln lc))[17]? =some (.slice (aI kO) kn kc):=rfl
def akr:(aB (C3 x kO kn kc ob bn bc lO ln lc))[7]? =some (.slice (aI ob) bn bc):=rfl
def azv:(aB (C3 x kO kn kc ob bn bc lO ln lc))[18]? =some (.slice (aI lO) ln lc):=rfl
def azw:aB (C3 x kO kn kc ob bn bc lO ln lc)=aB (LX (C3 x kO kn kc ob bn bc lO ln lc) x.hA x.hN x.hC x.hb x.fA x.fN x.fC):=rfl
def azx:(aB (LX (C3 x kO kn kc ob bn bc lO ln lc) a n c b fa fn fc)).set 18 (.slice (aI z5) n' c')=aB (LX (C3 x kO kn kc ob bn bc z5 n' c') a n c b fa fn fc):=rfl
def azy:(aB (LX (C3 x kO kn kc ob bn bc lO ln lc) a n c b fa fn fc))[18]? =some (.slice (aI lO) ln lc):=rfl
end
def core(x:dk):=(x.uj,x.iD,x.sum,x.one,x.d_,x.rem,x.oM,x.off,x.wS,x.wA,x.wN,x.wC,x.wO,x.gF,x.xl,x.xv,x.xb,x.xc)
structure Ft(x:dk)(ob kO lO eP hO o0 o1 o2:Option Nat)(bv kv lv:List Value)(cs:List dx)(m:List Nat)(b0 b1 b2:List Bl):Prop where
 b:x.bA=aI ob/\W bv=x.bC/\(ob=none->x.bC=0)
 k:x.cA=aI kO/\W kv=x.cC/\x.cN<=x.cC/\(kO=none->x.cC=0)
 l:x.lA=aI lO/\W lv=x.lC/\(lO=none->x.lC=0)
 u:H2 x.hA x.hN x.hC hO m
 s:aar x eP cs o0 o1 o2 b0 b1 b2
structure KV(F:List aK)(x:dk)(m:List Nat)(o0 o1 o2:Option Nat)(b0 b1 b2:List Bl)(s:Fs):Prop where
 tr:H3 x.hN x.hb m s.tree
 tb:Hv F x o0 o1 o2 b0 b1 b2 s.bI
 ok:C9 s.bI
 a:x.r1=s.a/\x.r2=s.b/\x.r3=s.c
 bd:1<=s.a/\s.a<=4294967295/\s.b<=4294967295/\s.c<=4294967295
def tg.less{a:List aK}{v:Value}{lg k:Nat}{t:Option Tb}(h:tg L v lg k t)(hs: ∀b bs,(ah b (bP bs) 214)∈L->(ah b (bP bs) 214)∈a):tg a v lg k t:=by
 cases t with
 |none=>exact h
 |some t=>obtain⟨b,c,bs,h1,h2,d⟩:=h;exact⟨b,c,bs,h1,hs _ _ h2,d⟩
def abA{a:List aK}(h:Hv F x o0 o1 o2 b0 b1 b2 bI)(hs: ∀b bs,(ah b (bP bs) 214)∈F->(ah b (bP bs) 214)∈a):Hv a x o0 o1 o2 b0 b1 b2 bI:=by
 have key: ∀e:aK,∀b bs,(ah b (bP bs) 214)∈e::F->(ah b (bP bs) 214)∈e::a:=λe b bs hm=>by
  rcases nP.1 hm with c|hm
  rw[c];exact fQ ..
  exact aA (hs _ _ hm)
 exact⟨h.1.less (key _),h.2.1.less (key _),h.2.2.less (key _)⟩
def no5{bs:List Bl}{k:Option Nat}{G:List aK}(h:(ah b (bP bs) 214)∈G++(k,C l 5)::F):(ah b (bP bs) 214)∈G++F:=by
 rcases oX.1 h with h|h
 exact oA _ h
 rcases nP.1 h with e|h
 injection e with c e2;injection e2 with d a;exact absurd a an
 exact fM _ h
def Uu{o:Option Nat}(h:o=none->c=0)(a:0<n)(d:n<=c): ∃b,o=some b:=by
 cases o with
 |some b=>exact⟨b,J⟩
 |none=>have:=h J;omega
def azz{kc:Nat}{X:List UInt8}(hm:(kO,C (dm l 0 (ar u8 X)) 5)∈F)(e:W l=kc)(a:W X<=kc)(c:kO=none->kc=0):aY F (.slice (aI kO) (W X) kc) X:=
 ⟨_,_,_,J,J,a,λhp=>by
   obtain⟨b,hb⟩:=Uu c hp a
   subst hb
   exact⟨b,0,_,_,J,hm,Rd.of λj d=>by
     rw[cB]at d
     rw[QN,ao (by rw[cB];omega)];simp⟩⟩
theorem azA{pos ic aR aq:Nat}{iA:Option Addr}{ob lO eP hO:Option Nat}{bv kv lv:List Value}{cs:List dx}{m:List Nat}{D wd:List UInt8}(h:H r w ((ah br (aB x) 81)::(ah sb [.slice iA (W D) ic,af (pos),.int .i64 pr] 84)::(ob,C (bv) 5)::(eP,C (dp cs) 227)::(hO,C (ar dG m) 174)::(o0,C (bP b0) 214)::(o1,C (bP b1) 214)::(o2,C (bP b2) 214)::(kO,C (kv) 5)::(lO,C (lv) 5)::L))(i_:Sub F L)(hG:Gl F aE aU)(hD:aY F (.slice iA (W D) ic) D)(qH:x.uj= .iface 58 (bL sb))(lZ:pos<=W D)(kK:W D<=140737488355328)(hn:n<=131072)(hW:aY L (.slice x.wA x.wN x.wC) wd)(uq:x.wO<=W wd)(kB:W wd<=8388608)(aaC: ∃p0,s.out=p0++fB wd x.wO/\(p0=[]\/aR<=W wd))(fX:W s.out<=4194304)(pZ:aq<=131072)(hI:Ft x ob kO lO eP hO o0 o1 o2 bv kv lv cs m b0 b1 b2)(azB:KV F x m o0 o1 o2 b0 b1 b2 s)(hV:pos+n<=W D->(iL aR aq s (ag D pos n)).1≠0):Calls PP 89 #[bL br,af n] w λe w'=> ∃er,e= .returned er/\((pos+n<=W D/\(iL aR aq s (ag D pos n)).1=1)->er= .nilIface/\ ∃x' my b_ KW oP kE tq m' vw vx vy vz vA vB zZ Fu z5 Fv G,H r w' ((ah br (aB x') 81)::(ah sb [.slice iA (W D) ic,af (pos+n),.int .i64 my] 84)::(b_,C (KW) 5)::(oP,C (dp kE) 227)::(tq,C (ar dG m') 174)::(vw,C (bP vx) 214)::(vy,C (bP vz) 214)::(vA,C (bP vB) 214)::(zZ,C (Fu) 5)::(z5,C (Fv) 5)::(G++L))/\Ft x' b_ zZ z5 oP tq vw vy vA KW Fu Fv kE m' vx vz vB/\core x'=core x/\ ∃s' out sp,iL aR aq s (ag D pos n)=(1,s')/\s'.out=s.out++out/\KW=out.map u8++sp/\x'.bN=W out/\KV (G++F) x' m' vw vy vA vx vz vB s')/\(¬(pos+n<=W D/\(iL aR aq s (ag D pos n)).1=1)->Er aU er/\ ∃Z,H r w' (Z++L)):=by
 obtain⟨Bj,H7,H8,OJ,KX⟩:=id hI;obtain⟨X,hrb,OK,Hq,q'⟩:=id azB;have rj:=hG.sub i_;rw[azt H7.1 Bj.1 H8.1]at h;obtain⟨KY,azC⟩: ∃v,x.cN=v:=⟨_,J⟩;obtain⟨kc0,azD⟩: ∃v,x.cC=v:=⟨_,J⟩;obtain⟨O,azE⟩: ∃v,x.bC=v:=⟨_,J⟩;obtain⟨OL,azF⟩: ∃v,x.lC=v:=⟨_,J⟩;rw[azC,azD]at h H7;rw[azE]at h Bj;rw[azF]at h H8;obtain⟨_,fi,cS,mP⟩:=H7;obtain⟨_,fj,fW⟩:=Bj;obtain⟨_,dV,ig⟩:=H8;have fY:(aB x)[0]? =some (.iface 58 (bL sb)):=(by rw[<-qH];rfl);refine iI func89 ntmps89 [4] ?_;refine g_ 4 ?_;refine cW [(5,5),(14,45)] (λρ w=> ∃g:Option Nat,∃j:List Value,∃q:Nat,Kn ρ []/\H r w ((ah br (aB (C3 x g n q ob x.bN O lO x.lN OL)) 81)::(ah sb [.slice iA (W D) ic,af (pos),.int .i64 pr] 84)::(ob,C (bv) 5)::(eP,C (dp cs) 227)::(hO,C (ar dG m) 174)::(o0,C (bP b0) 214)::(o1,C (bP b1) 214)::(o2,C (bP b2) 214)::(g,C (j) 5)::(lO,C (lv) 5)::L)/\(W j=q)/\(n<=q)/\(g=none->q=0)) ?_ ?_
 refine g_ 5 ?_;refine aX h J H6 ?_;refine g_ 4 ?_;refine au J ?_ ?_<;>intro Hf
 refine g_ 5 ?_;refine aX h J H6 (dg (ak (mX J J I) ?_));refine g_ 2 ?_;refine dt (.slice (aI kO) n kc0) H6 ?_;intro w h;rw[akq]at h;exact aJ ⟨aO 17,kO,kv,kc0,az,h,fi,I,mP⟩
 refine g_ 6 ?_;refine aX h J H6 ?_;refine g_ 9 ?_;refine aX h J H6 (dg (aiZ (kv.take KY) (kv.drop KY) h 8 J J (by rw[uD];rfl) ⟨by rw[fR,fg];omega,by rw[uD,fg];exact fi,cS,mP⟩ (by intro v hv;simp at hv;subst hv;rfl) I an J ?_));intro w i K P h dC gl fk;dsimp only[bJ]at h;have Da:KY+(n-KY)=n:=I;rw[Da];rw[Da]at gl;refine g_ 2 ?_;refine dt (.slice (aI i) n K) H6 ?_;intro w h;rw[akq]at h;exact aJ ⟨aO 25,i,(kv.take KY++dD [iW 0] (n-KY)++P),K,az,h,(by rw[fg]at dC;exact dC),I,fk⟩
 rintro ρ w ⟨g,j,q,⟨mn,rfl⟩,h,HL,Uv,Uw⟩;refine bY (bY (cm h [0,4,8,16,20,24,13,29,35,36,40,44,48,52] ?_));intro w h;refine aC 6 ?_;refine aQ J h J (show(aB (C3 x g n q ob x.bN O lO x.lN OL))[0]? =_ from fY) (aQ J h J H6 ?_);replace h:=h.zz [8,2] 0;refine lW J J J J (aH (akn h ((hD.sub i_).sub aP) lZ kK (rj.sub aP) I Uv Uw) ?_);rintro e w1 ⟨xg,rfl,h⟩;refine aC 6 ?_;refine g_ 3 ?_;refine ak (C_ (aE:=aE) (aU:=aU) J J) (aJ (au J ?_ ?_))<;>intro sY
 have Y: ¬(pos+n<=W D/\(iL aR aq s (ag D pos n)).1=1):=λe=>sY (by have:=e.1;omega);refine g_ 4 ?_;refine eS (v1:=af 0) J J J J (aH (Fq (zo:=0) h (aA (aA bZ)) (rj.sub aP) (Fp sY)) ?_);rintro e w1 ⟨be,rfl,h⟩;refine g_ 3 ?_;replace h:=h.zz [9,2,9,9,9,9,9,9,8,9] 0;exact⟨_,J,λe=>absurd e Y,λ_=>⟨a_ ⟨_,J⟩,[_,_,_,_,_,_,_,_,_,_],h⟩⟩
 have ks:pos+n<=W D:=I;have hVV:=hV ks;have HV:pos+min (W D-pos) n=pos+n:=I;have eo:W (ag D pos n)=n:=dK ks;have jb:(D.drop pos).take n=(ag D pos n):=rfl;rw[HV,jb]at h;have R8:(aB (C3 x g n q ob x.bN O lO x.lN OL))[17]? =some (.slice (aI g) (W (ag D pos n)) q):=(by rw[eo];rfl);have hXk:=λ(F':List aK) (hm:(g,C (dm j 0 (ar u8 (ag D pos n))) 5)∈F')=>azz hm HL (by rw[eo];exact Uv) Uw;have hEb:W (ag D pos n)<=268435456:=I;refine g_ 6 ?_;refine aX h J R8 ?_;refine g_ 12 ?_;refine aX h J akr (ak (mX (c:=0) (h1:=av.lit _) J J (cj _)) ?_);refine g_ 2 ?_;refine dt (.slice (aI ob) 0 O) akr ?_;intro w h;rw[azu]at h;refine g_ 9 ?_;refine aX h J azv (ak (mX (c:=0) (h1:=av.lit _) J J (cj _)) ?_);replace h:=h.zz [9,6,6,5] 0;refine wj J J J J J ?_;rw[azw]at h;have azG:b8 lO 0 OL [] lv 1:=⟨J,by rw[fg];exact dV,cj _,ig⟩;refine(azq (x:=(C3 x g n q ob 0 O lO x.lN OL)) (tr:=s.tree) (E:=(ag D pos n)) h (rj.sub aP) (hXk _ (aA bZ)) hEb azG KX.1 OJ X (λe=>hVV (by rw[aby I];exact e))).mono ?_;rintro e w1 ⟨n1,sr,text,Q,mT,KZ,v1,xa,xn,xc,xb,fa,fn,fc,j5,ik,S,p,rfl,h,azH,aks,K0,ji,nZ⟩;refine⟨_,J,?_⟩;refine g_ 12 ?_;refine ak (Ul (aU:=aU) sr ((dZ s.tree (ag D pos n)).1=1) J (λe=>(ji e).1) (λe=>nZ e) J) (aJ (au J ?_ ?_))<;>intro AK
 have wu:(iL aR aq s (ag D pos n)).1≠1:=(by rw[aby AK];exact AK);have Y: ¬(pos+n<=W D/\(iL aR aq s (ag D pos n)).1=1):=λe=>wu e.2;refine g_ 6 ?_;replace h:=h.zz [3,5,9,9,9,7,7,9,9,9] 0;exact⟨_,J,λe=>absurd e Y,λ_=>⟨nZ AK,[_,_,_,_,_,_,_,_,_,_],h⟩⟩
 have yf:=ji (oB.1 AK);clear ji nZ;refine yf.2.2.elim λoI vv=>?_;have akt:=vv.1;have zC:=vv.2;have gA:=yf.2.1;clear yf vv;have Fw:=agc akt (λt e=>by rw[e]at X;exact X.2.2.1.ok);have Fx:=azo (w:=aR) (m:=aq) akt hVV OK;have ET:=Fw.1;have iZ:=Fw.2.1;clear Fw;rw[gA];refine g_ 7 ?_;refine dt (.slice (aI Q) (W text) mT) azy ?_;intro w h;rw[azx]at h;refine g_ 11 ?_;replace h:=h.zz [9,9,9,4,4] 0;refine eS J J J J ?_
 refine(awq (F:=(g,C (dm j 0 (ar u8 (ag D pos n))) 5)::F) (x:=(LX (C3 x g n q ob 0 O Q (W text) mT) xa xn xc xb fa fn fc)) (bI:=s.bI) h (λe he=>by
   rcases nP.1 he with e1|he
   . rw[e1];exact(aA (aA (aA bZ)))
   . exact aA (aA (aA (aA (aA ((i_ _ he))))))) (hG.sub (Sub.cons _ _)) (hXk _ bZ) hEb iZ OK.1 ⟨azH,KX.2⟩ (abA hrb (λb bs hm=>aA hm))).mono ?_
 rintro e w1 ⟨many,a2,w7,ok,d,Hx,nG,p0,c0,p1,c1,p2,c2,G,rfl,h,f,uI,gM,gj⟩;refine⟨_,J,?_⟩;replace h:=H.ako (A:=[(ah br (aB d) 81),(Hx,C (dp nG) 227),(p0,C (bP c0) 214),(p1,C (bP c1) 214),(p2,C (bP c2) 214)]) (B:=[(S,C (ar dG p) 174),(Q,C (ar u8 text++KZ) 5),(ah sb [.slice iA (W D) ic,af (pos+n),.int .i64 xg] 84),(g,C (dm j 0 (ar u8 (ag D pos n))) 5),(ob,C (bv) 5)]) h;dsimp only[List.cons_append,List.nil_append]at h;replace gM:=Hid.mk gM;replace gj:=Hid.mk gj;have CB:core d=core x:=(by rw[f];rfl);have OM:d.r1=s.a:=(cD dk.r1 f).trans Hq.1;have Ux:d.r2=s.b:=(cD dk.r2 f).trans Hq.2.1;have Uy:d.r3=s.c:=(cD dk.r3 f).trans Hq.2.2;have h5b:d.bA=aI ob:=(cD dk.bA f).trans J;have h5n:d.bN=0:=(cD dk.bN f).trans J;have h5c:d.bC=O:=(cD dk.bC f).trans J;have M:d.cA=aI g/\d.cN=n/\d.cC=q:=⟨(cD dk.cA f).trans J,(cD dk.cN f).trans J,(cD dk.cC f).trans J⟩;have K1:d.lA=aI Q/\d.lC=mT:=⟨(cD dk.lA f).trans J,(cD dk.lC f).trans J⟩;have N:d.hA=xa/\d.hN=xn/\d.hC=xc/\d.hb=xb:=⟨(cD dk.hA f).trans J,(cD dk.hN f).trans J,(cD dk.hC f).trans J,(cD dk.hb f).trans J⟩;have ON:d.wA=x.wA/\d.wN=x.wN/\d.wC=x.wC/\d.wO=x.wO:=⟨(cD dk.wA f).trans J,(cD dk.wN f).trans J,(cD dk.wC f).trans J,(cD dk.wO f).trans J⟩;clear f;have yb:d=BX d ob 0 O:=(awy h5b h5n h5c).symm;rw[yb]at h;refine g_ 12 ?_;refine ak (kg w7 (ok=true) J (λe=>(gM.o e).1) (λe=>(gj.o (by simpa using e)).1) J) ?_;refine aJ (au J ?_ ?_)<;>intro AV
 have mz:=gj.o (by simpa using AV);have wu:(iL aR aq s (ag D pos n)).1≠1:=Fx.2.1 mz.2;have Y: ¬(pos+n<=W D/\(iL aR aq s (ag D pos n)).1=1):=λe=>wu e.2;refine g_ 6 ?_;replace h:=h.zz [6,8,6,6,6,7,7,9,9,9] 0;exact⟨_,J,λe=>absurd e Y,λ_=>⟨a_ mz.1,[_,_,_,_,_,_,_,_,_,_]++G,by rw[bV];exact h⟩⟩
 have mz:=gM.o (by simpa using AV);clear gM gj;have pC:(j4 s.bI (List.drop n1 (ag D pos n))).1=1:=(by have:=mz.2.1;have:=Fx.1;have:=azs (bI:=s.bI) (E:=List.drop n1 (ag D pos n));omega);refine(mz.2.2 pC).elim λU oO=>?_;clear mz pC;obtain⟨aku,han,haE,j3⟩:=oO;refine g_ 7 ?_;refine au J ?_ ?_<;>intro Ep
 have fJ:many=0:=Ep;have V:=Fx.2.2.1 (a2-n1) U (by rw[<-fJ];exact aku);clear Fx;rw[cr]at V;refine g_ 8 ?_;refine au J ?_ ?_<;>intro avi
 exfalso;have h1:=V.2.1;have h2:=V.2.2.1;omega
 refine g_ 7 ?_;refine aX h J sx (dg ?_)
 refine me (ar u8 []) bv (text.map u8) h 9 J J J ⟨J,by rw[fg];exact fj,cj _,fW⟩ (q9 (aY.own (T:=5) K0) (λe he=>by
   rcases jT.1 he with rfl
   exact(aA (aA (aA (aA (aA (aA bZ)))))))) (by intro y hy;obtain⟨z,_,rfl⟩:=jS.1 hy;rfl) I an J ?_
 intro w i K P h dC gl fk;dsimp only[bJ]at h;rw[F4,List.nil_append]at h dC;refine g_ 2 ?_;refine dt (.slice (aI i) (0+W text) K) sx ?_;intro w h;rw[Hy]at h;refine g_ 6 ?_;replace h:=h.zz [6,8,6,6,6,7,7,9,9,9] 0
 have hinv:Ft (BX d i (0+W text) K) i g Q Hx S p0 p1 p2 (ar u8 text++P) (dm j 0 (ar u8 (ag D pos n))) (ar u8 text++KZ) nG p c0 c1 c2:=
   {b:=⟨J,(by rw[dC,fg];rfl),fk⟩,k:=⟨M.1,(by rw[MD,HL];exact M.2.2.symm),(by show d.cN<=d.cC;rw[M.2.1,M.2.2];exact Uv),(λe=>M.2.2.trans (Uw e))⟩,l:=⟨K1.1,(by rw[K0.2.1,fg];exact K1.2.symm),(λe=>K1.2.trans (K0.2.2.2 e))⟩,u:=(by show H2 d.hA d.hN d.hC S p;rw[N.1,N.2.1,N.2.2.1];exact aks),s:=uI}
 have abB:KV (G++F) (BX d i (0+W text) K) p p0 p1 p2 c0 c1 c2 {s with out:=s.out++text,tree:=oI}:=
   {tr:=(by show H3 d.hN d.hb p oI;rw[N.2.1,N.2.2.2];exact zC),tb:=(by show Hv (G++F) d p0 p1 p2 c0 c1 c2 s.bI;rw[<-V.1];exact abA j3 (λb bs hm=>no5 hm)),ok:=OK,a:=⟨OM,Ux,Uy⟩,bd:=q'}
 exact⟨_,J,λ_=>⟨J,BX d i (0+W text) K,xg,i,ar u8 text++P,Hx,nG,S,p,p0,c0,p1,c1,p2,c2,g,(dm j 0 (ar u8 (ag D pos n))),Q,ar u8 text++KZ,G,h,hinv,CB,({s with out:=s.out++text,tree:=oI}),text,P,V.2.2.2.2,J,J,il (W text),abB⟩,λe=>absurd ⟨ks,by rw[V.2.2.2.2]⟩ e⟩
 have V:=Fx.2.2.2 many (a2-n1) U Ep aku;clear Fx;obtain⟨qx,GP,j7,azI⟩:=V;refine azI.elim λy K2=>?_;have lj:=azp GP j7;have Db:List.drop (a2-n1) (List.drop n1 (ag D pos n))=List.drop a2 (ag D pos n):=(by rw[kG];congr 1;omega);rw[Db]at K2;have Us:(lP (p7 U) aR aq s.out d.r1 d.r2 d.r3 text many (List.drop a2 (ag D pos n))).1≠0:=(by rw[OM,Ux,Uy,<-K2.1];intro e;exact hVV (by rw[K2.2];exact e));refine g_ 8 ?_;replace h:=h.zz [9,1] 0;refine D2 J J J J J J ?_
 refine(aw3 (x:=d) (ob:=ob) (sp:=bv) (bc:=O) (E:=(ag D pos n)) (text:=text) (wd:=wd) (pre:=s.out) (aR:=aR) (aq:=aq) (ts:=p7 U) h (rj.sub (λe he=>aA (aA (aA (aA (aA (aA (aA (aA ((fM _ he))))))))))) (hXk _ (aA (aA (aA (aA (aA (aA (aA bZ)))))))) hEb haE ((aY.own (T:=5) K0).sub (λe he=>by
   rcases jT.1 he with rfl
   exact(aA (aA (aA (aA (aA bZ))))))) (by rw[ON.1,ON.2.1,ON.2.2.1];exact hW.sub (λe he=>aA (aA (aA (aA (aA (aA (aA (aA ((fM _ he))))))))))) ⟨J,by rw[fg];exact fj,cj _,fW⟩ (λk hk=>?_) lj.1 (by rw[ON.2.2.2];exact uq) kB (by rw[ON.2.2.2];exact aaC) fX ET I I pZ (by rw[OM];exact q'.1) (by rw[OM];exact q'.2.1) (by rw[Ux];exact q'.2.2.1) (by rw[Uy];exact q'.2.2.2) Us).mono ?_
 have s8: ∀e:aK,e∈[(p0,C (bP c0) 214),(p1,C (bP c1) 214),(p2,C (bP c2) 214)]\/e∈G++(g,C (dm j 0 (ar u8 (ag D pos n))) 5)::F->e∈(Hx,C (dp nG) 227)::(p0,C (bP c0) 214)::(p1,C (bP c1) 214)::(p2,C (bP c2) 214)::(S,C (ar dG p) 174)::(Q,C (ar u8 text++KZ) 5)::(ah sb [.slice iA (W D) ic,af (pos+n),.int .i64 xg] 84)::(g,C (dm j 0 (ar u8 (ag D pos n))) 5)::(G++L):=by
  intro e he;rcases he with he|he
  rcases nP.1 he with rfl|he
  exact(aA bZ)
  rcases nP.1 he with rfl|he
  exact(aA (aA bZ))
  rcases jT.1 he with rfl;exact(aA (aA (aA bZ)))
  rcases oX.1 he with he|he
  exact aA (aA (aA (aA (aA (aA (aA (aA ((oA _ he)))))))))
  rcases nP.1 he with rfl|he
  exact(aA (aA (aA (aA (aA (aA (aA bZ)))))))
  exact aA (aA (aA (aA (aA (aA (aA (aA ((fM _ (i_ _ he))))))))))
 rcases k3 hk with rfl|rfl|rfl
 exact(Kq j3.1 (lj.2 0 an)).sub (λe he=>by
   rcases nP.1 he with rfl|he
   . exact s8 _ (a_ bZ)
   . exact s8 _ (bG he))
 exact(Kq j3.2.1 (lj.2 1 an)).sub (λe he=>by
   rcases nP.1 he with rfl|he
   . exact s8 _ (a_ (aA bZ))
   . exact s8 _ (bG he))
 exact(Kq j3.2.2 (lj.2 2 an)).sub (λe he=>by
   rcases nP.1 he with rfl|he
   . exact s8 _ (a_ (aA (aA bZ)))
   . exact s8 _ (bG he))
 rintro e w1 ⟨er9,i,K,R,P,ra,rb,rc,rfl,h,zu,vl,w9⟩;refine⟨_,J,?_⟩;rw[OM,Ux,Uy,<-K2.1]at vl w9;refine g_ 3 ?_;replace h:=h.zz [7,9,7,7,7,8,8,8,9,9] 0
 have hinv:Ft (BX (RO d ra rb rc) i (W R) K) i g Q Hx S p0 p1 p2 (ar u8 R++P) (dm j 0 (ar u8 (ag D pos n))) (ar u8 text++KZ) nG p c0 c1 c2:=
   {b:=⟨J,(by rw[zu.2.1,fg];rfl),zu.2.2.2⟩,k:=⟨M.1,(by rw[MD,HL];exact M.2.2.symm),(by show d.cN<=d.cC;rw[M.2.1,M.2.2];exact Uv),(λe=>M.2.2.trans (Uw e))⟩,l:=⟨K1.1,(by rw[K0.2.1,fg];exact K1.2.symm),(λe=>K1.2.trans (K0.2.2.2 e))⟩,u:=(by show H2 d.hA d.hN d.hC S p;rw[N.1,N.2.1,N.2.2.1];exact aks),s:=uI}
 by_cases yt:y.1=1
 have vp:=vl yt
 have abB:KV (G++F) (BX (RO d ra rb rc) i (W R) K) p p0 p1 p2 c0 c1 c2 ⟨s.out++R,oI,U,ra,rb,rc⟩:=
   {tr:=(by show H3 d.hN d.hb p oI;rw[N.2.1,N.2.2.2];exact zC),tb:=(by show Hv (G++F) d p0 p1 p2 c0 c1 c2 U;exact abA j3 (λb bs hm=>no5 hm)),ok:=GP,a:=⟨J,J,J⟩,bd:=vp.2.2}
 have hcf:iL aR aq s (ag D pos n)=(1,⟨s.out++R,oI,U,ra,rb,rc⟩):=(by rw[K2.2,vp.2.1]);exact⟨_,J,λ_=>⟨vp.1,BX (RO d ra rb rc) i (W R) K,xg,i,ar u8 R++P,Hx,nG,S,p,p0,c0,p1,c1,p2,c2,g,(dm j 0 (ar u8 (ag D pos n))),Q,ar u8 text++KZ,G,h,hinv,CB,⟨s.out++R,oI,U,ra,rb,rc⟩,R,P,hcf,J,J,J,abB⟩,λe=>absurd ⟨ks,by rw[hcf]⟩ e⟩
 have Y: ¬(pos+n<=W D/\(iL aR aq s (ag D pos n)).1=1):=λe=>yt (by have h2:=e.2;rw[K2.2]at h2;exact h2);exact⟨_,J,λe=>absurd e Y,λ_=>⟨a_ (w9 yt),[_,_,_,_,_,_,_,_,_,_]++G,by rw[bV];exact h⟩⟩
variable {S T b:List UInt8}{j nn q:Nat}{bf:Nat->UInt8}
def azJ(h:q+n<=W T):ag (T++b) q n=ag T q n:=by
 unfold ag;rw[Aj I,WY (by rw[cr];omega)]
def akv(a:j<4):lane (ag E q 32) j=num (ag E (q+8*j) 8):=by
 unfold lane;rw[jy I]
def akw:lane (E.drop q) j=num (ag E (q+8*j) 8):=by
 unfold lane ag;rw[kG]
def azK{v:V4}(a:j<4):aa (Gm v E) j 0=jf (aa v j 0) (lane E j):=by
 unfold Gm;rw[XP _ _ _ _ a,ao a]
def akx{v:V4}:Gm v (ag E q 32)=Gm v (E.drop q):=by
 unfold Gm qV;refine I_ λj a=>?_;have:=oY.1 a;rw[ao this,ao this,akv this,akw]
def Uz{v:V4}:kR 0 E v=v:=by unfold kR;rw[W4,Qd]
def UA{T b:List UInt8}{v:V4}: ∀(n:Nat),32*n<=W T->kR n (T++b) v=kR n T v
 |0,_=>by rw[Uz,Uz]
 |n+1,h=>by have c:=UA (T:=T) (b:=b) (v:=v) n I;have a:=akx (E:=T++b) (q:=32*n) (v:=kR n T v);have e2:=akx (E:=T) (q:=32*n) (v:=kR n T v);rw[azJ I]at a;have h1:=Jx n (T++b) v;have h2:=Jx n T v;rw[c]at h1;exact h1.trans (a.symm.trans (e2.trans h2.symm))
def VV(v:Nat->Nat)(n:Nat)(S:List UInt8):Prop:= ∀k,k<4->v k=aa (kR n S v0) k 0
structure XI(n:Nat)(v:Nat->Nat)(bf:Nat->UInt8)(c:Nat)(T:List UInt8):Prop where
 en:n=W T
 ec:c=W T % 32
 ev:VV v (W T/32) T
 eb: ∀i,i<c->bf i=aa T (32*(W T/32)+i) 0
def VV.lt{v:Nat->Nat}(h:VV v n S){k:Nat}(a:k<4):v k<dA:=by
 rw[h k a];exact Gp n S v0 Gq k
def VV.step{v:Nat->Nat}(h:VV v n S):VV (fF (fF (fF (fF v 0 (jf (v 0) (lane (S.drop (32*n)) 0))) 1 (jf (v 1) (lane (S.drop (32*n)) 1))) 2 (jf (v 2) (lane (S.drop (32*n)) 2))) 3 (jf (v 3) (lane (S.drop (32*n)) 3))) (n+1) S:=by
 intro k a;rw[Jx,azK a,<-h k a];rcases(I:k=0\/k=1\/k=2\/k=3)with rfl|rfl|rfl|rfl
 rw[um an,um an,um an,zO]
 rw[um an,um an,zO]
 rw[um an,zO]
 rw[zO]
def XI.zero{v:Nat->Nat}(h: ∀k,k<4->v k=aa v0 k 0):XI 0 v bf 0 []:=⟨J,J,(λk a=>(h k a).trans (by rw[eW,Nat.zero_div,Uz])),λi hi=>by omega⟩
def aky(h:i<W T):aa (T++b) i 0=aa T i 0:=by
 simp only[bX];rw[gP h]
def akz(h:W T<=i):aa (T++b) i 0=aa b (i-W T) 0:=by
 simp only[bX];rw[l_ h]
def XI.less{v:Nat->Nat}(h:XI n v bf c T)(e:c+W b<32):XI (n+W b) v (eH bf c b) (c+W b) (T++b):=by
 have f:=h.ec;have hd:(W T+W b)/32=W T/32:=I;refine⟨by rw[h.en,aF],by rw[aF];omega,?_,λi hi=>?_⟩
 intro k a;rw[aF,hd,UA _ I];exact h.ev k a
 rw[aF,hd];unfold eH;by_cases d:i<c
 rw[aj I,h.eb i d,aky I]
 rw[ao I,akz I];congr 1;omega
def XI.full{v:Nat->Nat}(h:XI n v bf c T)(d:32<=c+W b):(cL 32).map (eH bf c (b.take (32-c)))=ag (T++b) (32*(W T/32)) 32:=by
 have f:=h.ec;have hs:W (ag (T++b) (32*(W T/32)) 32)=32:=dK (by rw[aF];omega);apply nR;intro i;by_cases hi:i<32
 rw[kP,Ah hi,uE];have e:(ag (T++b) (32*(W T/32)) 32)[i]? =some (aa (ag (T++b) (32*(W T/32)) 32) i 0):=(by rw[bX,gW I];rfl);rw[e,lD hi];congr 1;unfold eH;rw[fR];by_cases a:i<c
 rw[aj I,h.eb i a,aky I]
 rw[ao I,akz I];have e2:aa (b.take (32-c)) (i-c) 0=aa b (i-c) 0:=(by simp only[bX,qg];rw[ao I]);rw[e2];congr 1;omega
 rw[gB (by simp;omega),gB I]
def XI.done{v:Nat->Nat}(a:nn=W S)(h:VV v n S)(h1:32*n<=W S)(h2:W S-32*n<32):XI nn v (eH bf 0 (S.drop (32*n))) (W S-32*n) S:=by
 have hd:W S/32=n:=I;refine⟨a,I,by rw[hd];exact h,λi hi=>?_⟩;unfold eH;rw[cr,ao I,hd];simp only[bX,nQ,F1]
def XI.azL{v:Nat->Nat}(a:nn=W S)(h:VV v n S)(h1:32*n<=W S)(h2:W S-32*n=0):XI nn v bf 0 S:=by
 have hd:W S/32=n:=I;exact⟨a,I,by rw[hd];exact h,λi hi=>by omega⟩
def XX(x:dk)(n:Nat)(v:Nat->Nat)(b:Nat->UInt8)(c:Nat):dk:={x with xl:=n,xv:=v,xb:=b,xc:=c}
section
variable {x:dk}{n n' c c' k:Nat}{v:Nat->Nat}{b:Nat->UInt8}
def akA:(aB (XX x n v b c)).set 45 (cR n')=aB (XX x n' v b c):=rfl
def UB:(aB (XX x n v b c)).set 46 (cR n')=aB (XX x n (fF v 0 n') b c):=rfl
def abC:(aB (XX x n v b c)).set 47 (cR n')=aB (XX x n (fF v 1 n') b c):=rfl
def abD:(aB (XX x n v b c)).set 48 (cR n')=aB (XX x n (fF v 2 n') b c):=rfl
def UC:(aB (XX x n v b c)).set 49 (cR n')=aB (XX x n (fF v 3 n') b c):=rfl
def UD:(aB (XX x n v b c)).set 82 (af n')=aB (XX x n v b n'):=rfl
def K3:(aB (XX x n v b c))[45]? =some (cR n):=rfl
def Dd:(aB (XX x n v b c))[46]? =some (cR (v 0)):=rfl
def H_:(aB (XX x n v b c))[47]? =some (cR (v 1)):=rfl
def Fz:(aB (XX x n v b c))[48]? =some (cR (v 2)):=rfl
def De:(aB (XX x n v b c))[49]? =some (cR (v 3)):=rfl
def Df:(aB (XX x n v b c))[82]? =some (af c):=rfl
def UE{X:List UInt8}(a:q=50+k)(h:k+W X<=32):dm (aB (XX x n v b c)) q (X.map u8)=aB (XX x n v (eH b k X) c):=by
 rw[avZ a h];rfl
def akB:Rd (aB (XX x n v b c)) 50 (((cL 32).map b).map u8):=by
 rw[F3];have h:aB (XX x n v b c)=(aB (XX x n v b c)).take 50++((cL 32).map (u8∘b)++(aB (XX x n v b c)).drop 82):=rfl;refine Rd.of λj a=>?_;rw[h,l_ (by show 50<=50+j;omega)];rw[gP (by show 50+j-50<_;omega)];congr 1;show 50+j-50=j;omega
end
def akC{v:Nat->Nat}{b:Nat->UInt8}(h:(ah br (aB (XX x n v b c)) 81)∈F):aY F (.slice (some ⟨br,50,none⟩) 32 32) ((cL 32).map b):=
 ⟨_,_,_,J,by simp,aW _,λ_=>⟨br,50,_,_,J,h,akB⟩⟩
section
variable {P:Program}{ρ:Env}{T T' ty:TypeId}{r:fT}{w:World}{L:List aK}{x:Operand}{b q i n c:Nat}{l:List Value}{B:TypeId}
def azM{a u:Value}{w':World}(b:aL ρ x=a)(c:(Builtin.clear_ #[T] ty #[a]).run P w= .ok u w'):run P ρ (.call {callee:= .builtin .clear,args:= #[x],argTypes:= #[T]}) ty w= .ok (.value u) w':=by
 simp[run,execOp,resolve,invoke,builtin,b,c]
def azN{z:Value}[hu:cu P T (.slice T')] [d:Zr P T' [z]](e:plain z=true)(o:n≠0)(h:H r w L)(hi:L[i]? =some (ah b l B))(p:q+n<=W l): ∃w',(Builtin.clear_ #[T] ty #[.slice (some ⟨b,q,none⟩) n c]).run P w= .ok (.tuple #[]) w'/\H r w' (L.set i (ah b (dm l q (aT n z)) B)):=by
 obtain⟨f,g,j⟩:=d.zero w;have m:(Builtin.zeroCells f.cells n).toList=aT n z:=(by rw[<-D6,j];simp[Builtin.zeroCells,dD,DN,tD]);obtain⟨w',s1,s2,_,_⟩:=D5 (P:=P) (aT n z) w L l q 0 h hi (λv a=>by rw[Qh]at a;rw[a.2];exact e) (by rw[dS];omega);refine⟨w',?_,by simpa using s2⟩;obtain⟨k,rfl⟩: ∃k,n=k+1:=⟨n-1,I⟩;simp[Builtin.clear_,underlying,program,Sem.run,hu.eq,g,m,s1]
def azO{K:ia}{all:Array Oper}{rest:List Oper}{pos:String}{aV:Array Edge}{z:Value}[hu:cu P T (.slice T')] [j:Zr P T' [z]](i:Nat)(h:H r w L)(a:aL ρ x= .slice (some ⟨b,q,none⟩) n c)(d:plain z=true)(e:n≠0)(hi:L[i]? =some (ah b l B))(f:q+n<=W l)(g: ∀w',H r w' (L.set i (ah b (dm l q (aT n z)) B))->O P m all rest K ρ w'):O P m all ({dst:=none,op:= .call {callee:= .builtin .clear,args:= #[x],argTypes:= #[T]},type:=ty,pos:=pos,after:=aV,guard:=none}::rest) K ρ w:=by
 obtain⟨w',h1,h2⟩:=azN (P:=P) (ty:=ty) (T:=T) (T':=T') (c:=c) d e h hi f;exact gQ (azM a h1) J (g w' h2)
end
def azP{P:Program}{ρ:Env}{T ty:TypeId}{x:Operand}(a:aL ρ x=cR n)(b:n<=dA):run P ρ (.unOp .neg T x) ty w= .ok (.value (cR ((0+dA-n) % dA))) w:=by
 have hw:IntKind.u64.wrap (-(n:Int))=(((0+dA-n) % dA:Nat):Int):=(by have h:=adZ .u64 0 n (by rw[jn]at b;simp only[aN];omega) J;rw[show(((0:Nat):Int) - (n:Int))= -(n:Int) by omega]at h;rw[h,jn];rfl);simp[run,execOp,a,Op.unary,Op.intArith,hw]
variable {a h l:Nat}{ad:Option Addr}{pv:Value}
def H.left{A B:List aK}(h:H r w (A++B)):H r w A:=
 ⟨h.rest,by have:=h.nodup;rw[List.filterMap_append]at this;exact(P9.1 this).1,λb o hm=>h.fp b o (oA _ hm)⟩
def FA{X:List UInt8}(h:H r w F)(b:aY F (.slice ad n c) X)(hN:8<=W X):Calls PP 86 #[.slice ad n c] w λe w'=>e= .returned (cR (num (X.take 8)))/\ft w w'/\H r w' F:=by
 obtain⟨d,h1,h2⟩:=h.full;refine(ZC h1 (b.sub (λ_ hm=>oA _ hm)) hN).mono ?_;rintro e f ⟨he,a⟩;exact⟨he,h2 _ a,a.left⟩
def azQ{x:Nat}:(rotl (h^^^jf 0 x) 27*11400714785074694791 % (aN .u64+1)+9650029242287828579) % (aN .u64+1)=El h x:=by
 (conv=>rhs;unfold El);rw[uV,Q1,jn];rfl
def azR{x:Nat}:(rotl (h^^^x*11400714785074694791 % (aN .u64+1)) 23*14029467366897019727 % (aN .u64+1)+1609587929392839161) % (aN .u64+1)=zl h x:=by
 (conv=>rhs;unfold zl);rw[uV,Av,Q0,jn];rfl
def azS{x:Nat}:rotl (h^^^x*2870177450012600261 % (aN .u64+1)) 11*11400714785074694791 % (aN .u64+1)=Cc h x:=by
 (conv=>rhs;unfold Cc);rw[uV,Jw,jn];rfl
def abE{b:Nat}(c:a<dA)(hb:b<dA):a^^^b<dA:=by rw[Au]at*;exact Ma c hb
def azT{v:Nat->Nat}{V:V4}(h: ∀k,k<4->v k=aa V k 0):(((rotl (v 0) 1+rotl (v 1) 7) % (aN .u64+1)+rotl (v 2) 12) % (aN .u64+1)+rotl (v 3) 18) % (aN .u64+1)=zk V:=by
 rw[h 0 an,h 1 an,h 2 an,h 3 an];(conv=>rhs;unfold zk);rw[jn];rfl
def azU{V:V4}:pX V 0=zk V:=by unfold pX;rw[W4,Qd]
def akD(h: ∀i,i<c->bf i=aa E i 0)(a:c<=32)(b:c=W E){q n:Nat}(d:q+n<=c):(((cL 32).map bf).drop q).take n=ag E q n:=by
 apply nR;intro i;unfold ag;rw[qg,qg];split
 rw[nQ,nQ,kP,Ah I,uE,h _ I,bX,gW I];rfl
 rfl
def azV(h:i<32):aa ((cL 32).map bf) i 0=bf i:=by
 rw[bX,kP,Ah h];rfl
def abF{k:Nat}{v:Nat->Nat}{b:Nat->UInt8}(h:(ah br (aB (XX x n v b c)) 81)∈F)(d:k<=32):aY F (.slice (some ⟨br,50+k,none⟩) (32-k) (32-k)) (((cL 32).map b).drop k):=
 ⟨_,_,_,J,by simp,aW _,λ_=>⟨br,50+k,_,_,J,h,Rd.of λj a=>by
   rw[cB,cr,cB,BM]at a
   have:=(akB (x:=x) (n:=n) (v:=v) (b:=b) (c:=c)).get (k+j) (by simp;omega)
   rw[fL,this,WS,nQ]⟩⟩
def azW:(11400714785074694791+14029467366897019727) % (aN .u64+1)=(P1+P2) % dA:=by rw[uV,Av,jn];rfl
def azX:11400714785074694791<=dA:=by rw[jn];decide
def azY:(0+dA-11400714785074694791) % dA=(0+dA-P1) % dA:=by rw[uV]
def FB(E:List UInt8)(i:Nat):lane E i<dA:=by unfold lane;rw[Au];exact qp
def Bo(c:a<dA)(d:l<dA):Calls PP 100 #[pv,.int .u64 (a:Int),.int .u64 (l:Int)] w λe w'=>e= .returned (cR (jf a l))/\w'=w:=by
 rw[jn]at c d;refine nV func100 ntmps100 [6] ?_;refine g_ 8 ?_;refine ak (pT (b:=14029467366897019727) (h2:=av.lit _) J J J) (ak (qj J J J) ?_);refine g_ 5 ?_;refine cJ (v1:=af 31) J J J (aH (sR (k:=31) (by rw[jn];exact dY _ an) an) ?_);rintro e f ⟨rfl,rfl⟩;refine g_ 5 ?_;refine ak (pT (b:=11400714785074694791) (h2:=av.lit _) J J J) ?_;refine g_ 8 ?_;refine⟨(Jl (a:=rotl ((a+l*14029467366897019727 % (aN .u64+1)) % (aN .u64+1)) 31*11400714785074694791 % (aN .u64+1)) ?_),J⟩;unfold jf;rw[uV,Av,jn];rfl
def UG(c:a<dA)(d:l<dA):Calls PP 101 #[pv,.int .u64 (a:Int),.int .u64 (l:Int)] w λe w'=>e= .returned (cR (xN a l))/\w'=w:=by
 have f:=jn;refine nV func101 ntmps101 [6] ?_;refine g_ 8 ?_;refine eS (v1:=cR 0) J J J J (aH (Bo (a:=0) fV d) ?_);rintro e g ⟨rfl,rfl⟩;refine g_ 6 ?_;refine ak (uG J J (a9 c) (a9 (iY _ _))) ?_;refine g_ 5 ?_;refine ak (pT (b:=11400714785074694791) (h2:=av.lit _) J J J) (ak (qj (b:=9650029242287828579) (h2:=av.lit _) J J J) ?_);refine g_ 8 ?_;refine⟨(Jl (a:=((a^^^jf 0 l)*11400714785074694791 % (aN .u64+1)+9650029242287828579) % (aN .u64+1)) ?_),J⟩;(conv=>rhs;unfold xN);rw[uV,Q1,jn];rfl
def azZ{v:Nat->Nat}(h:H r w ((ah br (aB (XX x n v bf c)) 81)::L)):Calls PP 84 #[.pointer (some ⟨br,45,none⟩)] w λe w'=>e= .returned (.tuple #[])/\ ∃a d,H r w' ((ah br (aB (XX x 0 a d 0)) 81)::L)/\XI 0 a d 0 []:=by
 refine iu func84 ntmps84 [] ?_;refine g_ 5 ?_;refine dt (cR (0)) K3 ?_;intro w h;rw[akA]at h;refine g_ 7 ?_;refine dt (cR (11400714785074694791)) Dd ?_;intro w h;rw[UB]at h;refine aJ ?_;refine bY ?_;refine cm h [0,4,8,12,24,28,17,20,32,39] ?_;intro w h;refine aC 6 ?_;refine aQ J h J Dd ?_;refine aD J (cG (qj (b:=14029467366897019727) (h2:=av.lit _) J J J) azW) ?_;refine aC 1 ?_;refine dt (cR ((P1+P2) % dA)) Dd ?_;intro w h;rw[UB]at h;refine cO ?_;refine g_ 6 ?_;refine dt (cR (14029467366897019727)) H_ ?_;intro w h;rw[abC]at h;refine g_ 7 ?_;refine dt (cR (0)) Fz ?_;intro w h;rw[abD]at h;refine g_ 7 ?_;refine dt (cR (11400714785074694791)) De ?_;intro w h;rw[UC]at h;refine aJ ?_;refine bY ?_;refine cm h [0,4,8,12,16,28,32,21,24,36,43] ?_;intro w h;refine aC 7 ?_;refine aQ J h J De ?_;refine aD J (cG (azP J azX) azY) ?_;refine aC 1 ?_;refine dt (cR ((0+dA-P1) % dA)) De ?_;intro w h;rw[UC]at h;refine cO ?_;refine g_ 5 ?_;refine ak (MC J) ?_;refine azO (q:=50) (n:=32) 0 h J J an J (by rw[zL];decide) ?_;intro w h;dsimp only[bJ]at h;rw[show(aT 32 (iW 0):List Value)=(aT 32 (0:UInt8)).map u8 by rw[xz];rfl,UE (k:=0) J (by rw[dS];decide)]at h;refine g_ 5 ?_;refine dt (af 0) Df ?_;intro w h;rw[UD]at h;refine aJ ?_;refine⟨J,fF (fF (fF (fF (fF (fF v 0 11400714785074694791) 0 ((P1+P2) % dA)) 1 14029467366897019727) 2 0) 3 11400714785074694791) 3 ((0+dA-P1) % dA),_,h,XI.zero (λk f=>?_)⟩;unfold v0;rw[Av];rcases(I:k=0\/k=1\/k=2\/k=3)with rfl|rfl|rfl|rfl
 rw[um an,um an,um an,um an,zO];rfl
 rw[um an,um an,um an,zO];rfl
 rw[um an,um an,zO];rfl
 rw[zO];rfl
def az0{q:Nat}{v:Nat->Nat}{B:List UInt8}(h:H r w ((ah br (aB (XX x n v bf c)) 81)::L))(u:aY L (.slice ad (W B) q) B)(p:XI n v bf c T)(hT:W T+W B<=4611686018427387903):Calls PP 90 #[.pointer (some ⟨br,45,none⟩),.slice ad (W B) q] w λe w'=>e= .returned (.tuple #[])/\ ∃R S c',H r w' ((ah br (aB (XX x (n+W B) R S c')) 81)::L)/\XI (n+W B) R S c' (T++B):=by
 have U:W B<=q:=Hz u;have hn:=p.en;have hc:=p.ec;have vK:W (T++B)=W T+W B:=aF;have hM:=jn;refine iI func90 ntmps90 [] ?_;refine g_ 5 ?_;refine aX h J K3 ?_;refine g_ 6 ?_;refine dt (cR (n+W B)) K3 ?_;intro w h;rw[akA]at h;refine g_ 7 ?_;refine aX h J Df ?_;refine g_ 5 ?_;refine au J ?_ ?_<;>intro Ej
 refine bY (cm h [0,4,8,12,16,20,32,25,28,39] ?_);intro w h;refine aC 7 ?_;refine aQ J h J Df (aD J (Jn J J I) (Hh (i:=0) (F:=L) (X:=B) J h J J J (λ_=>rfl) u (λe he=>aA he) (by rw[zL];omega) J ?_));intro w h;dsimp only[bJ]at h;rw[je I,UE (k:=c) I (by first|omega| (rw[fR];omega))]at h;refine cO ?_;refine g_ 5 ?_;refine aX h J Df ?_;refine g_ 5 ?_;refine dt (af (c+W B)) Df ?_;intro w h;rw[UD]at h;exact aJ (ju ⟨J,v,eH bf c B,c+W B,h,p.less I⟩)
 refine a8 (cW [(1,1),(4,4),(42,126)] (λρ w=> ∃d:Nat,∃o:Option Addr,∃l:Nat,∃v1:Nat->Nat,∃y:Nat->UInt8,Kn ρ [(1,.slice o (W (T++B)-32*d) l)]/\H r w ((ah br (aB (XX x (n+W B) v1 y 0)) 81)::L)/\(VV v1 d (T++B))/\(32*d<=W (T++B))/\(aY L (.slice o (W (T++B)-32*d) l) ((T++B).drop (32*d)))) ?_ ?_)
 refine g_ 5 ?_;refine aX h J Df ?_;refine g_ 2 ?_;refine au J ?_ ?_<;>intro JL
 have V:min (W B) (32-c)=32-c:=I;have G:=p.full (b:=B) I;have C: ∀j,j<4->lane ((cL 32).map (eH bf c (B.take (32-c)))) j=lane ((T++B).drop (32*(W T/32))) j:=λj Y=>(by rw[G,akv Y,akw]);have Z:VV v (W T/32) (T++B):=λk K=>(by rw[UA _ I];exact p.ev k K);have M:VV (fF (fF (fF (fF v 0 (jf (v 0) (lane ((cL 32).map (eH bf c (B.take (32-c)))) 0))) 1 (jf (v 1) (lane ((cL 32).map (eH bf c (B.take (32-c)))) 1))) 2 (jf (v 2) (lane ((cL 32).map (eH bf c (B.take (32-c)))) 2))) 3 (jf (v 3) (lane ((cL 32).map (eH bf c (B.take (32-c)))) 3))) ((W T/32)+1) (T++B):=(by have z:=Z.step;rw[<-C 0 an,<-C 1 an,<-C 2 an,<-C 3 an]at z;exact z);have zI:(T++B).drop (32*((W T/32)+1))=B.drop (32-c):=(by rw[show 32*((W T/32)+1)=W T+(32-c) by omega,<-kG,List.drop_left]);have N:aY L (.slice (cut ad q (32-c) 1) (W (T++B)-32*((W T/32)+1)) (q- (32-c))) ((T++B).drop (32*((W T/32)+1))):=(by rw[zI,show(T++B).length-32*((W T/32)+1)=W B- (32-c) by omega];exact aY.drop u I);refine bY (cm h [0,4,8,12,16,20,32,25,28,39,40] ?_);intro w h;refine aC 7 ?_;refine aQ J h J Df (aD J (Jn J J I) (Hh (i:=0) (F:=L) (X:=B) J h J J J (λ_=>rfl) u (λe he=>aA he) (by rw[zL];omega) J ?_));intro w h;dsimp only[bJ]at h;rw[UE (k:=c) I (by first|omega| (rw[fR];omega))]at h;refine aD J (cG (k:= .i64) (a:=min (W B) (32-c)) run_assign V) (cO ?_);refine g_ 4 ?_;refine ak (jJ J J I U) ?_;refine g_ 3 ?_;refine cm h [0,4,8,12,16,20,28,32,36,40,52,56,25,46,50,60,67] ?_;intro w h;refine aC 9 ?_;refine aD J (MC J) ?_;refine aC 2 ?_;refine aQ J h J Dd (BV J J J ((FA h (akC bZ) (by first| (rw[cr];omega)| (simp;done)| (simp;omega))).mono ?_));rintro e f ⟨rfl,g,h⟩;refine⟨(cR (lane ((cL 32).map (eH bf c (B.take (32-c)))) 0)),J,g,?_⟩;refine D1 J J J J J ((Bo (p.ev.lt (k:=0) an) (FB _ _)).mono ?_);rintro e f ⟨rfl,rfl⟩;refine⟨_,J,ft.refl _,?_⟩;refine aC 1 ?_;refine dt (cR (jf (v 0) (lane ((cL 32).map (eH bf c (B.take (32-c)))) 0))) Dd ?_;intro w h;rw[UB]at h;refine cO (bY (cm h [0,4,8,12,16,20,28,32,36,40,52,56,25,46,50,60,67] ?_));intro w h;refine aC 9 ?_;refine aD J (Jn (a:=8) (h1:=av.lit _) J J an) ?_;refine aC 2 ?_;refine aQ J h J H_ (BV J J J ((FA h (abF (k:=8) bZ an) (by first| (rw[cr];omega)| (simp;done)| (simp;omega))).mono ?_));rintro e f ⟨rfl,g,h⟩;refine⟨(cR (lane ((cL 32).map (eH bf c (B.take (32-c)))) 1)),J,g,?_⟩;refine D1 J J J J J ((Bo (p.ev.lt (k:=1) an) (FB _ _)).mono ?_);rintro e f ⟨rfl,rfl⟩;refine⟨_,J,ft.refl _,?_⟩;refine aC 1 ?_;refine dt (cR (jf (v 1) (lane ((cL 32).map (eH bf c (B.take (32-c)))) 1))) H_ ?_;intro w h;rw[abC]at h;refine cO (bY (cm h [0,4,8,12,16,20,28,32,36,40,52,56,25,46,50,60,67] ?_));intro w h;refine aC 9 ?_;refine aD J (Jn (a:=16) (h1:=av.lit _) J J an) ?_;refine aC 2 ?_;refine aQ J h J Fz (BV J J J ((FA h (abF (k:=16) bZ an) (by first| (rw[cr];omega)| (simp;done)| (simp;omega))).mono ?_));rintro e f ⟨rfl,g,h⟩;refine⟨(cR (lane ((cL 32).map (eH bf c (B.take (32-c)))) 2)),J,g,?_⟩;refine D1 J J J J J ((Bo (p.ev.lt (k:=2) an) (FB _ _)).mono ?_);rintro e f ⟨rfl,rfl⟩;refine⟨_,J,ft.refl _,?_⟩;refine aC 1 ?_;refine dt (cR (jf (v 2) (lane ((cL 32).map (eH bf c (B.take (32-c)))) 2))) Fz ?_;intro w h;rw[abD]at h;refine cO (bY (cm h [0,4,8,12,16,20,28,32,36,40,52,56,25,46,50,60,67] ?_));intro w h;refine aC 9 ?_;refine aD J (Jn (a:=24) (h1:=av.lit _) J J an) ?_;refine aC 2 ?_;refine aQ J h J De (BV J J J ((FA h (abF (k:=24) bZ an) (by first| (rw[cr];omega)| (simp;done)| (simp;omega))).mono ?_));rintro e f ⟨rfl,g,h⟩;refine⟨(cR (lane ((cL 32).map (eH bf c (B.take (32-c)))) 3)),J,g,?_⟩;refine D1 J J J J J ((Bo (p.ev.lt (k:=3) an) (FB _ _)).mono ?_);rintro e f ⟨rfl,rfl⟩;refine⟨_,J,ft.refl _,?_⟩;refine aC 1 ?_;refine dt (cR (jf (v 3) (lane ((cL 32).map (eH bf c (B.take (32-c)))) 3))) De ?_;intro w h;rw[UC]at h;refine cO ?_;refine g_ 4 ?_;refine dt (af 0) Df ?_;intro w h;rw[UD]at h;exact aJ ⟨aO 92,(W T/32)+1,cut ad q (32-c) 1,q- (32-c),(fF (fF (fF (fF v 0 (jf (v 0) (lane ((cL 32).map (eH bf c (B.take (32-c)))) 0))) 1 (jf (v 1) (lane ((cL 32).map (eH bf c (B.take (32-c)))) 1))) 2 (jf (v 2) (lane ((cL 32).map (eH bf c (B.take (32-c)))) 2))) 3 (jf (v 3) (lane ((cL 32).map (eH bf c (B.take (32-c)))) 3))),(eH bf c (B.take (32-c))),Kn.mk ⟨jw J I J,trivial⟩,(by first|exact h| (rw[A]at h;exact h)),M,I,N⟩
 have A:c=0:=I;have O:VV v (W T/32) (T++B):=λk K=>(by rw[UA _ I];exact p.ev k K);have P:aY L (.slice ad (W (T++B)-32*(W T/32)) q) ((T++B).drop (32*(W T/32))):=(by rw[show(T++B).length-32*(W T/32)=W B by omega,show 32*(W T/32)=W T by omega,List.drop_left];exact u);exact a8 ⟨aO 5,(W T/32),ad,q,v,bf,Kn.mk ⟨jw J I J,trivial⟩,(by first|exact h| (rw[A]at h;exact h)),O,I,P⟩
 rintro ρ w ⟨d,o,l,v1,y,⟨mn,rfl⟩,h,s,D,t⟩;refine bY (Al (cw (σ:=Nat×Option Addr×Nat×(Nat->Nat)) [(1,1),(127,186)] (λ⟨d,o,l,v1⟩ ρ w=>Kn ρ [(1,.slice o (W (T++B)-32*d) l)]/\H r w ((ah br (aB (XX x (n+W B) v1 y 0)) 81)::L)/\(VV v1 d (T++B))/\(32*d<=W (T++B))/\(aY L (.slice o (W (T++B)-32*d) l) ((T++B).drop (32*d)))) (λ⟨d,o,l,v1⟩=>W (T++B)-32*d) (d,o,l,v1) ⟨az,h,s,D,t⟩ ?_));rintro⟨d,o,l,v1⟩ ρ w ⟨⟨nz,rfl⟩,h,s,D,t⟩;have E:=Hz t;refine g_ 7 ?_;refine au J ?_ ?_<;>intro q8
 have OQ:=s.step;have Ia:aY L (.slice (cut o l 32 1) (W (T++B)-32*(d+1)) (l-32)) ((T++B).drop (32*(d+1))):=(by have z:=aY.drop t (m:=32) I;rw[kG,show(T++B).length-32*d-32=W (T++B)-32*(d+1) by omega,show 32*d+32=32*(d+1) by omega]at z;exact z);refine g_ 3 ?_;refine cm h [0,4,8,12,16,20,28,40,44,25,34,38,48,55] ?_;intro w h;refine aC 9 ?_;refine aQ J h J Dd (BV J J J ((FA h (t.sub (Sub.cons _ _)) (by first| (rw[cr];omega)| (rw[cr,cr];omega))).mono ?_));rintro e f ⟨rfl,g,h⟩;refine⟨(cR (lane ((T++B).drop (32*d)) 0)),J,g,?_⟩;refine D1 J J J J J ((Bo (s.lt (k:=0) an) (FB _ _)).mono ?_);rintro e f ⟨rfl,rfl⟩;refine⟨_,J,ft.refl _,?_⟩;refine aC 1 ?_;refine dt (cR (jf (v1 0) (lane ((T++B).drop (32*d)) 0))) Dd ?_;intro w h;rw[UB]at h;refine cO (bY (cm h [0,4,8,12,16,20,28,32,44,48,25,38,42,52,59] ?_));intro w h;refine aC 7 ?_;refine aD J (jJ (a:=8) (h1:=av.lit _) J J I E) ?_;refine aC 2 ?_;refine aQ J h J H_ (BV J J J ((FA h ((aY.drop t (m:=8) I).sub (Sub.cons _ _)) (by first| (rw[cr];omega)| (rw[cr,cr];omega))).mono ?_));rintro e f ⟨rfl,g,h⟩;refine⟨(cR (lane ((T++B).drop (32*d)) 1)),J,g,?_⟩;refine D1 J J J J J ((Bo (s.lt (k:=1) an) (FB _ _)).mono ?_);rintro e f ⟨rfl,rfl⟩;refine⟨_,J,ft.refl _,?_⟩;refine aC 1 ?_;refine dt (cR (jf (v1 1) (lane ((T++B).drop (32*d)) 1))) H_ ?_;intro w h;rw[abC]at h;refine cO (bY (cm h [0,4,8,12,16,20,28,32,44,48,25,38,42,52,59] ?_));intro w h;refine aC 7 ?_;refine aD J (jJ (a:=16) (h1:=av.lit _) J J I E) ?_;refine aC 2 ?_;refine aQ J h J Fz (BV J J J ((FA h ((aY.drop t (m:=16) I).sub (Sub.cons _ _)) (by first| (rw[cr];omega)| (rw[cr,cr];omega))).mono ?_));rintro e f ⟨rfl,g,h⟩;refine⟨(cR (lane ((T++B).drop (32*d)) 2)),J,g,?_⟩;refine D1 J J J J J ((Bo (s.lt (k:=2) an) (FB _ _)).mono ?_);rintro e f ⟨rfl,rfl⟩;refine⟨_,J,ft.refl _,?_⟩;refine aC 1 ?_;refine dt (cR (jf (v1 2) (lane ((T++B).drop (32*d)) 2))) Fz ?_;intro w h;rw[abD]at h;refine cO (bY (cm h [0,4,8,12,16,20,28,32,44,48,25,38,42,52,59] ?_));intro w h;refine aC 7 ?_;refine aD J (jJ (a:=24) (h1:=av.lit _) J J I E) ?_;refine aC 2 ?_;refine aQ J h J De (BV J J J ((FA h ((aY.drop t (m:=24) I).sub (Sub.cons _ _)) (by first| (rw[cr];omega)| (rw[cr,cr];omega))).mono ?_));rintro e f ⟨rfl,g,h⟩;refine⟨(cR (lane ((T++B).drop (32*d)) 3)),J,g,?_⟩;refine D1 J J J J J ((Bo (s.lt (k:=3) an) (FB _ _)).mono ?_);rintro e f ⟨rfl,rfl⟩;refine⟨_,J,ft.refl _,?_⟩;refine aC 1 ?_;refine dt (cR (jf (v1 3) (lane ((T++B).drop (32*d)) 3))) De ?_;intro w h;rw[UC]at h;exact cO (fD (dg (ak (jJ (a:=32) (h1:=av.lit _) J J I E) (ee (aJ ⟨aO 65,(d+1,cut o l 32 1,l-32,(fF (fF (fF (fF v1 0 (jf (v1 0) (lane (List.drop (32*d) (T++B)) 0))) 1 (jf (v1 1) (lane (List.drop (32*d) (T++B)) 1))) 2 (jf (v1 2) (lane (List.drop (32*d) (T++B)) 2))) 3 (jf (v1 3) (lane (List.drop (32*d) (T++B)) 3)))),cQ,Kn.mk ⟨jw J I J,trivial⟩,h,OQ,I,Ia⟩)))))
 have Q:W (T++B)-32*d<32:=I;refine g_ 7 ?_;refine au J ?_ ?_<;>intro azk
 . refine g_ 5 ?_;refine ak (MC J) (dg (aui (i:=0) (F:=L) (X:=(T++B).drop (32*d)) h J J J (λ_=>rfl) t (λe he=>aA he) (by rw[zL];omega) J ?_));intro w h;dsimp only[bJ]at h;rw[je (by rw[cr];omega),UE (k:=0) J (by rw[cr];omega)]at h;refine g_ 7 ?_;refine dt (af (W (T++B)-32*d)) Df ?_;intro w h;rw[UD]at h;exact aJ ⟨J,v1,eH y 0 ((T++B).drop (32*d)),W (T++B)-32*d,h,XI.done I s D Q⟩
 exact a8 ⟨J,v1,y,0,h,XI.azL I s D I⟩
def UI:a % (aN .u64+1)<dA:=by rw[jn];exact dY _ aG
def az5(E:List UInt8)(h:Nat)(a:h<dA): ∀i,i<=W E->zm (E.take i) h<dA
 |0,_=>by rw[qi];exact a
 |i+1,hi=>by rw[lY E 0 i I,Q4];exact afn _ _
theorem az6(h:H r w L)(hR:(ah br (aB x) 81)∈L)(E:XI x.xl x.xv x.xb x.xc T)(hT:W T<=4611686018427387903):Calls PP 92 #[.pointer (some ⟨br,45,none⟩)] w λe w'=>e= .returned (cR (lF T))/\H r w' L:=by
 obtain⟨iR,CK⟩:=dw hR;have hn:=E.en;have hc:=E.ec;have hM:=jn;have hv:=E.ev;have A:W (T.drop (32*(W T/32)))=W T % 32:=(by rw[cr];omega);have M: ∀i,i<W T % 32->x.xb i=aa (T.drop (32*(W T/32))) i 0:=λi hi=>(by rw[E.eb i I];simp only[bX,nQ]);have gn:(ah br (aB (XX x x.xl x.xv x.xb x.xc)) 81)∈L:=hR;obtain⟨V,N⟩: ∃V,(kR (W T/32) T v0)=V:=⟨_,J⟩;have z: ∀k,k<4->x.xv k=aa V k 0:=λk O=>(by rw[<-N];exact hv k O);have p: ∀k,k<4->x.xv k<dA:=λk O=>hv.lt O;have P:pX V 1=xN (zk V) (aa V 0 0):=(by rw[<-azU];exact Jy V 0);have Q:pX V 2=xN (pX V 1) (aa V 1 0):=Jy V 1;have R:pX V 3=xN (pX V 2) (aa V 2 0):=Jy V 2;have S:pX V 4=xN (pX V 3) (aa V 3 0):=Jy V 3;have uY:W T % 32<32:=dY _ an;have hKM:dA-1=aN .u64:=(by rw[jn];rfl);refine iu func92 ntmps92 [2] ?_;refine g_ 8 ?_;refine cW [(3,3),(7,76)] (λρ w=> ∃h1:Nat,Kn ρ [(3,cR (h1))]/\H r w (L)/\(h1=if 32<=W T then Q3 V else P5)) ?_ ?_
 refine g_ 5 ?_;refine aX h J (K3 (x:=x) (n:=x.xl) (v:=x.xv) (b:=x.xb) (c:=x.xc)) ?_;refine g_ 2 ?_;refine au J ?_ ?_<;>intro Ev
 have U:(x.xv 2+2870177450012600261) % (aN .u64+1)=P5:=(by have e2:x.xv 2=0:=(by rw[z 2 an,<-N,show W T/32=0 by omega,Uz];rfl);rw[e2,Jw];rfl);refine g_ 5 ?_;exact aX h J (Fz (x:=x) (n:=x.xl) (v:=x.xv) (b:=x.xb) (c:=x.xc)) (ak (cG (qj (b:=2870177450012600261) (h2:=av.lit _) J J J) U) (ee (aJ ⟨aO 12,P5,az,h,(by rw[aj I])⟩)))
 refine bY (cm h [0,4,8,12,24,28,32,36,52,56,60,64,80,84,88,92,17,41,69,97,22,46,48,74,76,102,104,108] ?_);intro w h;refine aC 16 ?_;refine aQ J h J (Dd (x:=x) (n:=x.xl) (v:=x.xv) (b:=x.xb) (c:=x.xc)) (aQ J h J (H_ (x:=x) (n:=x.xl) (v:=x.xv) (b:=x.xb) (c:=x.xc)) (aQ J h J (Fz (x:=x) (n:=x.xl) (v:=x.xv) (b:=x.xb) (c:=x.xc)) (aQ J h J (De (x:=x) (n:=x.xl) (v:=x.xv) (b:=x.xb) (c:=x.xc)) (BW (v1:=af 1) J J J J ((sR (k:=1) (p 0 an) an).mono ?_)))));rintro e f ⟨rfl,rfl⟩;refine⟨_,J,ft.refl _,?_⟩;refine BW (v1:=af 7) J J J J ((sR (k:=7) (p 1 an) an).mono ?_);rintro e f ⟨rfl,rfl⟩;refine⟨_,J,ft.refl _,?_⟩;refine aD J (qj J J J) (BW (v1:=af 12) J J J J ((sR (k:=12) (p 2 an) an).mono ?_));rintro e f ⟨rfl,rfl⟩;refine⟨_,J,ft.refl _,?_⟩;refine aD J (qj J J J) (BW (v1:=af 18) J J J J ((sR (k:=18) (p 3 an) an).mono ?_));rintro e f ⟨rfl,rfl⟩;refine⟨_,J,ft.refl _,?_⟩;refine aD J (cG (qj J J J) (azT z)) (fG J (cO ?_));refine g_ 8 ?_;refine aX h J (Dd (x:=x) (n:=x.xl) (v:=x.xv) (b:=x.xb) (c:=x.xc)) (eS J J J J ((UG (afj V) (p 0 an)).mono ?_));rintro e f ⟨rfl,rfl⟩;refine⟨(cR (pX V 1)),(by rw[P,z 0 an]),?_⟩;refine g_ 10 ?_;refine aX h J (H_ (x:=x) (n:=x.xl) (v:=x.xv) (b:=x.xb) (c:=x.xc)) (eS J J J J ((UG (MT V 1) (p 1 an)).mono ?_));rintro e f ⟨rfl,rfl⟩;refine⟨(cR (pX V 2)),(by rw[Q,z 1 an]),?_⟩;refine g_ 10 ?_;refine aX h J (Fz (x:=x) (n:=x.xl) (v:=x.xv) (b:=x.xb) (c:=x.xc)) (eS J J J J ((UG (MT V 2) (p 2 an)).mono ?_));rintro e f ⟨rfl,rfl⟩;refine⟨(cR (pX V 3)),(by rw[R,z 2 an]),?_⟩;refine g_ 9 ?_;refine aX h J (De (x:=x) (n:=x.xl) (v:=x.xv) (b:=x.xb) (c:=x.xc)) (eS J J J J ((UG (MT V 3) (p 3 an)).mono ?_));rintro e f ⟨rfl,rfl⟩;refine⟨(cR (pX V 4)),(by rw[S,z 3 an]),?_⟩;exact ee (aJ ⟨aO 69,pX V 4,az,h,(by rw[ao I];rfl)⟩)
 rintro ρ w ⟨h1,⟨r_,rfl⟩,h,En⟩;have pY:(h1+W T) % dA<dA:=dY _ fV;refine cM ((h1+W T) % dA) λh2 u=>?_;rw[u]at pY;refine g_ 6 ?_;refine aX h J (K3 (x:=x) (n:=x.xl) (v:=x.xv) (b:=x.xb) (c:=x.xc)) (ak (cG (qj J J J) (show(h1+x.xl) % (aN .u64+1)=h2 by rw[hn,<-u,jn];rfl)) ?_);refine g_ 7 ?_;refine aX h J (K3 (x:=x) (n:=x.xl) (v:=x.xv) (b:=x.xb) (c:=x.xc)) ?_;refine g_ 5 ?_;refine ak (cG (kJ (n:=5) J J aG an) (show x.xl % 2^5=W T % 32 by rw[hn])) ?_;refine g_ 7 ?_;refine ak (MC J) ?_;refine g_ 4 ?_;refine cw (σ:=Nat×Option Addr) [(3,6),(93,109)] (λ⟨j,ad⟩ ρ w=>Kn ρ [(5,.slice ad (32-8*j) (32-8*j)),(4,cR (W T % 32-8*j)),(3,cR (xO j (T.drop (32*(W T/32))) h2))]/\H r w (L)/\(8*j<=W T % 32)/\(aY L (.slice ad (32-8*j) (32-8*j)) (((cL 32).map x.xb).drop (8*j)))) (λ⟨j,ad⟩=>W T % 32-8*j) (0,some ⟨br,50,none⟩) ⟨az,h,(cj _),(akC gn)⟩ ?_;rintro⟨j,ad⟩ ρ w ⟨⟨sV,rfl⟩,h,hj,B⟩;have d:=afo j (T.drop (32*(W T/32))) h2 pY;refine g_ 6 ?_;refine au J ?_ ?_<;>intro J0
 have C:aY L (.slice (cut ad (32-8*j) 8 1) (32-8*(j+1)) (32-8*(j+1))) (((cL 32).map x.xb).drop (8*(j+1))):=(by have s:=aY.drop B (m:=8) I;rw[kG,show 32-8*j-8=32-8*(j+1) by omega,show 8*j+8=8*(j+1) by omega]at s;exact s);have X:=akD M I A.symm (q:=8*j) (n:=8) I;refine g_ 6 ?_;refine d' J J ((ZC h B (by rw[cr,cB,BM];omega)).mono ?_);rintro e f ⟨rfl,h⟩;refine⟨(cR (num (ag (T.drop (32*(W T/32))) (8*j) 8))),(by rw[<-X]),?_⟩;refine eS (v1:=cR 0) J J J J (aH (Bo (a:=0) fV (by rw[Au];exact qp)) ?_);rintro e f ⟨rfl,rfl⟩;refine g_ 5 ?_;refine ak (jJ (a:=8) (h1:=av.lit _) J J I (aW _)) ?_;refine g_ 6 ?_;refine ak (uG J J (a9 d) (a9 (iY _ _))) ?_;refine g_ 5 ?_;refine cJ (v1:=af 27) J J J (aH (sR (k:=27) (abE d (iY _ _)) an) ?_);rintro e f ⟨rfl,rfl⟩;refine ak (pT (b:=11400714785074694791) (h2:=av.lit _) J J J) (ak (cG (qj (b:=9650029242287828579) (h2:=av.lit _) J J J) azQ) ?_);refine g_ 7 ?_;exact⟨aO 22,(j+1,cut ad (32-8*j) 8 1),cQ,Kn.mk ⟨jw J I I,(int_eq I),(int_eq (cD Int.ofNat (XQ j _ h2).symm)),trivial⟩,h,I,C⟩
 have X0:(W T % 32)/8=j:=I;refine jl (cW [(3,5),(110,125)] (λρ w=> ∃m:Nat,∃F:Option Addr,∃t:Nat,Kn ρ [(5,.slice F (32-8*j-m) (32-8*j-m)),(4,cR (W T % 32-8*j-m)),(3,cR (t))]/\H r w (L)/\(m=if 4<=W T % 32-8*j then 4 else 0)/\(t=if 4<=W T % 32-8*j then zl (xO j (T.drop (32*(W T/32))) h2) (num (ag (T.drop (32*(W T/32))) (8*j) 4))else xO j (T.drop (32*(W T/32))) h2)/\(aY L (.slice F (32-8*j-m) (32-8*j-m)) (((cL 32).map x.xb).drop (8*j+m)))/\(8*j+m<=W T % 32)) ?_ ?_)
 refine g_ 5 ?_;refine au J ?_ ?_<;>intro G
 have C:aY L (.slice (cut ad (32-8*j) 4 1) (32-8*j-4) (32-8*j-4)) (((cL 32).map x.xb).drop (8*j+4)):=(by have s:=aY.drop B (m:=4) I;rw[kG]at s;exact s);have X:=akD M I A.symm (q:=8*j) (n:=4) I;have R0:num (ag (T.drop (32*(W T/32))) (8*j) 4)<2^32:=qp;refine g_ 4 ?_;refine d' J J ((Hk h B (by rw[cr,cB,BM];omega)).mono ?_);rintro e f ⟨rfl,h⟩;refine⟨dB (num (ag (T.drop (32*(W T/32))) (8*j) 4)),(by rw[<-X]),?_⟩;refine ak (eZ J (by have:=R0;simp only[aN];omega)) ?_;refine ak (pT (b:=11400714785074694791) (h2:=av.lit _) J J J) (ak (uG J J (a9 d) (a9 UI)) ?_);refine g_ 5 ?_;refine ak (jJ (a:=4) (h1:=av.lit _) J J I (aW _)) ?_;refine g_ 5 ?_;refine cJ (v1:=af 23) J J J (aH (sR (k:=23) (abE d UI) an) ?_);rintro e f ⟨rfl,rfl⟩;refine ak (pT (b:=14029467366897019727) (h2:=av.lit _) J J J) (ak (cG (qj (b:=1609587929392839161) (h2:=av.lit _) J J J) azR) ?_);refine g_ 7 ?_;exact⟨aO 20,4,cut ad (32-8*j) 4 1,zl (xO j (T.drop (32*(W T/32))) h2) (num (ag (T.drop (32*(W T/32))) (8*j) 4)),az,h,(by rw[ao G]),(by rw[ao G]),C,I⟩
 exact a8 ⟨aO 2,0,ad,xO j (T.drop (32*(W T/32))) h2,az,h,(by rw[aj G]),(by rw[aj G]),B,I⟩
 rintro ρ w ⟨m,F,t,⟨wK,rfl⟩,h,hm,D,Q_,mL⟩
 have o:t<dA:=by
  rw[D];split
  exact afm _ _
  exact d
 refine bY (Al (cw (σ:=Nat×Option Addr) [(3,5),(126,141)] (λ⟨i,y⟩ ρ w=>Kn ρ [(5,.slice y (32-8*j-m-i) (32-8*j-m-i)),(4,cR (W T % 32-8*j-m-i)),(3,cR (zm (((T.drop (32*(W T/32))).drop (8*j+m)).take i) t))]/\H r w (L)/\(i<=W T % 32-8*j-m)/\(aY L (.slice y (32-8*j-m-i) (32-8*j-m-i)) (((cL 32).map x.xb).drop (8*j+m+i)))) (λ⟨i,y⟩=>W T % 32-8*j-m-i) (0,F) ⟨(Kn.mk ⟨J,J,(int_eq (by rw[qi];rfl)),trivial⟩),h,(cj _),Q_⟩ ?_));rintro⟨i,y⟩ ρ w ⟨⟨J4,rfl⟩,h,hi,FC⟩;have aKW:W ((T.drop (32*(W T/32))).drop (8*j+m))=W T % 32-8*j-m:=(by rw[cr,A];omega);have g:=az5 ((T.drop (32*(W T/32))).drop (8*j+m)) t o i I;refine g_ 6 ?_;refine au J ?_ ?_<;>intro akF
 have C:aY L (.slice (cut y (32-8*j-m-i) 1 1) (32-8*j-m- (i+1)) (32-8*j-m- (i+1))) (((cL 32).map x.xb).drop (8*j+m+(i+1))):=(by have s:=aY.drop FC (m:=1) I;rw[kG,show 32-8*j-m-i-1=32-8*j-m- (i+1) by omega,show 8*j+m+i+1=8*j+m+(i+1) by omega]at s;exact s);refine aZ (show ∃Y,∃Z,∃q2,∃q3,y=some ⟨Y,Z,none⟩/\(ah Y q2 q3)∈L/\Rd q2 Z ((((cL 32).map x.xb).drop (8*j+m+i)).map u8) by obtain⟨a1,a2,a3,a4,a5,a6,a7⟩:=id FC;cases a4;exact a7 I) (λY j1=>?_);refine j1.elim λZ ji=>?_;refine ji.elim λq2 nZ=>?_;refine nZ.elim λq3 hq=>?_;clear j1 ji nZ;refine gg hq.2.1 λiq hiq=>(cM ((x.xb (8*j+m+i)).toNat) λfh tQ=>?_);have aKX:fh<=255:=(by rw[<-tQ];exact toNat_le _);have hxb:(aa (((cL 32).map x.xb).drop (8*j+m+i)) 0 0).toNat=fh:=(by rw[<-tQ];congr 1;simp only[bX,nQ,kN];rw[<-bX,azV I]);have nA:zm (((T.drop (32*(W T/32))).drop (8*j+m)).take (i+1)) t=Cc (zm (((T.drop (32*(W T/32))).drop (8*j+m)).take i) t) fh:=(by rw[lY _ 0 i I,Q4];congr 1;rw[<-tQ,M _ I];simp only[bX,nQ]);refine g_ 6 ?_;refine ak (da (a:=0) (h1:=av.lit _) J J hq.1 I) (ak (xd (run_load h J (kf hq.2.2 (i:=0) (by rw[cr];simp;omega))) hxb) ?_);refine g_ 1 ?_;refine ak (pT (b:=2870177450012600261) (h2:=av.lit _) J J J) (ak (uG J J (a9 g) (a9 UI)) ?_);refine g_ 5 ?_;refine ak (jJ (a:=1) (h1:=av.lit _) J J I (aW _)) ?_;refine g_ 5 ?_;refine cJ (v1:=af 11) J J J (aH (sR (k:=11) (abE g UI) an) ?_);rintro e f ⟨rfl,rfl⟩;refine ak (cG (pT (b:=11400714785074694791) (h2:=av.lit _) J J J) azS) ?_;refine g_ 7 ?_;exact⟨aO 20,(i+1,cut y (32-8*j-m-i) 1 1),cQ,Kn.mk ⟨jw J I I,(int_eq I),(int_eq (cD Int.ofNat nA.symm)),trivial⟩,h,I,C⟩
 have pt:i=W T % 32-8*j-m:=I;have kC:((T.drop (32*(W T/32))).drop (8*j+m)).take i=((T.drop (32*(W T/32))).drop (8*j+m)):=je I;refine g_ 5 ?_;refine ak (qT (b:=33) (h2:=av.lit _) J J (by first|assumption|exact a9 d|exact a9 o|exact a9 g|exact a9 (iY _ _)|exact a9 (dY _ fV)|exact dT _ an| (simp only[aN];omega))) ?_;refine ak (uG J J (by first|assumption|exact a9 d|exact a9 o|exact a9 g|exact a9 (iY _ _)|exact a9 (dY _ fV)|exact dT _ an| (simp only[aN];omega)) (by first|assumption|exact a9 d|exact a9 o|exact a9 g|exact a9 (iY _ _)|exact a9 (dY _ fV)|exact dT _ an| (simp only[aN];omega))) ?_;refine g_ 5 ?_;refine ak (pT (b:=14029467366897019727) (h2:=av.lit _) J J J) ?_;refine g_ 6 ?_;refine ak (qT (b:=29) (h2:=av.lit _) J J (by first|assumption|exact a9 d|exact a9 o|exact a9 g|exact a9 (iY _ _)|exact a9 (dY _ fV)|exact dT _ an| (simp only[aN];omega))) ?_;refine ak (uG J J (by first|assumption|exact a9 d|exact a9 o|exact a9 g|exact a9 (iY _ _)|exact a9 (dY _ fV)|exact dT _ an| (simp only[aN];omega)) (by first|assumption|exact a9 d|exact a9 o|exact a9 g|exact a9 (iY _ _)|exact a9 (dY _ fV)|exact dT _ an| (simp only[aN];omega))) ?_;refine g_ 5 ?_;refine ak (pT (b:=1609587929392839161) (h2:=av.lit _) J J J) ?_;refine g_ 6 ?_;refine ak (qT (b:=32) (h2:=av.lit _) J J (by first|assumption|exact a9 d|exact a9 o|exact a9 g|exact a9 (iY _ _)|exact a9 (dY _ fV)|exact dT _ an| (simp only[aN];omega))) ?_;refine ak (uG J J (by first|assumption|exact a9 d|exact a9 o|exact a9 g|exact a9 (iY _ _)|exact a9 (dY _ fV)|exact dT _ an| (simp only[aN];omega)) (by first|assumption|exact a9 d|exact a9 o|exact a9 g|exact a9 (iY _ _)|exact a9 (dY _ fV)|exact dT _ an| (simp only[aN];omega))) ?_;refine g_ 8 ?_;refine⟨Jl ?_,h⟩;refine(afr _).trans ?_;rw[kC];unfold lF XT;dsimp only;rw[N,<-En,u,A,X0,cr,A];by_cases K:4<=W T % 32-8*j
 rw[ao K]at hm D ⊢;have e3:(T.drop (32*(W T/32))).drop (8*j+4)=((T.drop (32*(W T/32))).drop (8*j)).drop 4:=(kG (i:=4) (j:=8*j) (l:=(T.drop (32*(W T/32))))).symm;rw[ao K,D,hm,e3];rfl
 rw[aj K]at hm D ⊢;rw[aj K,D,hm];rfl
variable {X wd:List UInt8}
def kL(wd:List UInt8)(o:Nat)(X:List UInt8):List UInt8:=wd.take o++X++wd.drop (o+W X)
def Bp{o:Nat}(h:o+W X<=W wd):W (kL wd o X)=W wd:=by
 unfold kL;simp only[aF,fR,cr];omega
def abH{sp:List Value}{o:Nat}(h:o+W X<=W wd):dm (ar u8 wd++sp) o (ar u8 X)=ar u8 (kL wd o X)++sp:=by
 rw[ahK _ _ _ _ (by rw[cB,cB];exact h),BY _ _ _ (by rw[cB,cB];exact h)];unfold kL;rw[gJ,gJ,WR,WS,cB]
def Sv(S:Nat)(wd:List UInt8)(o:Nat)(B a:List UInt8)(o':Nat):Prop:=
 (S=0->a=wd/\o'=o)/\(S≠0->fB a o'=(fB wd o++B).drop (W wd+W B-S)/\W a=min S (W wd+W B)/\o'<=W a/\(W a<S->o'=0))
def abI:fB wd 0=wd:=by unfold fB;rw[xA,qi,dN]
section
variable {S o:Nat}{wd B:List UInt8}
def az'(h:S=0):Sv S wd o B wd o:=⟨λ_=>⟨J,J⟩,λh2=>absurd h h2⟩
def aAa(d:W wd<=S)(a:o<=W wd)(b:W wd<S->o=0)(c:W B=0):Sv S wd o B wd o:=
 ⟨λ_=>⟨J,J⟩,λ_=>⟨by rw[k7.1 c,dN,show W wd+W ([]:List UInt8)-S=0 by simp;omega,xA],I,a,b⟩⟩
def aAb(a:S≠0)(d:W wd<=S)(b:o<=W wd)(f:S<=W B):Sv S wd o B (B.drop (W B-S)) 0:=by
 refine⟨λh=>absurd h a,λ_=>⟨?_,by rw[cr];omega,cj _,λ_=>rfl⟩⟩;have g:=CT b;have e:=FZ (l₁:=fB wd o) (l₂:=B) (i:=W wd+W B-S);have c:(fB wd o).drop (W wd+W B-S)=[]:=yR I;rw[abI,e,c,List.nil_append];congr 1;omega
def aAc(b:S≠0)(c:W wd=S)(d:o<=W wd)(f:o+W B<=S):Sv S wd o B (kL wd o B) (o+W B):=by
 refine⟨λh=>absurd h b,λ_=>⟨?_,by rw[Bp I];omega,by rw[Bp I];omega,λh=>by rw[Bp I]at h;omega⟩⟩;have e:W wd+W B-S=W B:=I;unfold fB kL;have a:W (wd.take o++B)=o+W B:=(by rw[aF,fR];omega);rw[Qy a,W5 a,e,Aj (by simp;omega),Aj (by rw[cr];omega),kG,bV]
def aAd(d:S≠0)(c:W wd=S)(j:o<=W wd)(k:S<o+W B)(l:W B<S):Sv S wd o B (kL (kL wd o (B.take (S-o))) 0 (B.drop (S-o))) (W B- (S-o)):=by
 have m:W (B.take (S-o))=S-o:=(by rw[fR];omega);have a:W (B.drop (S-o))=W B- (S-o):=cr;have e:W (kL wd o (B.take (S-o)))=S:=(by rw[Bp I];exact c);have f:kL wd o (B.take (S-o))=wd.take o++B.take (S-o):=(by unfold kL;rw[yR I,dN]);have b:W (kL (kL wd o (B.take (S-o))) 0 (B.drop (S-o)))=S:=(by rw[Bp I];exact e);refine⟨λh=>absurd h d,λ_=>⟨?_,by rw[b];omega,by rw[b];omega,λh=>by rw[b]at h;omega⟩⟩;rw[f];have e2:kL (wd.take o++B.take (S-o)) 0 (B.drop (S-o))=B.drop (S-o)++(wd.take o++B.take (S-o)).drop (W B- (S-o)):=(by unfold kL;rw[qi,List.nil_append,il,a]);rw[e2];unfold fB;rw[Qy a,W5 a];have l3:W (wd.drop o)=S-o:=(by rw[cr,c]);have n:W (wd.take o)=o:=(by rw[fR];omega);have g:W wd+W B-S=(S-o)+(W B- (S-o)):=I;have a1:(wd.take o++B.take (S-o)).drop (W B- (S-o))=(wd.take o).drop (W B- (S-o))++B.take (S-o):=Aj I;have a2:(wd.take o++B).drop (W B- (S-o))=(wd.take o).drop (W B- (S-o))++B:=Aj I;have i:(wd.drop o++(wd.take o++B)).drop (S-o)=wd.take o++B:=Qy l3;rw[a1,g,<-kG,bV,uD,bV,i,a2]
def aAe(a:S≠0)(b:o=0)(c:W wd+W B<=S):Sv S wd o B (wd++B) o:=by
 subst b;refine⟨λh=>absurd h a,λ_=>⟨?_,by rw[aF];omega,cj _,λ_=>rfl⟩⟩;rw[abI,abI,show W wd+W B-S=0 by omega,xA]
def aAf(c:S≠0)(f:W wd<S)(d:o=0)(g:S<W wd+W B)(i:W B<S):Sv S wd o B (kL (wd++B.take (S-W wd)) 0 (B.drop (S-W wd))) (W B- (S-W wd)):=by
 subst d;have j:W (B.take (S-W wd))=S-W wd:=(by rw[fR];omega);have a:W (B.drop (S-W wd))=W B- (S-W wd):=cr;have e:W (wd++B.take (S-W wd))=S:=(by rw[aF];omega);have b:W (kL (wd++B.take (S-W wd)) 0 (B.drop (S-W wd)))=S:=(by rw[Bp I];exact e);refine⟨λh=>absurd h c,λ_=>⟨?_,by rw[b];omega,by rw[b];omega,λh=>by rw[b]at h;omega⟩⟩;have e2:kL (wd++B.take (S-W wd)) 0 (B.drop (S-W wd))=B.drop (S-W wd)++(wd++B.take (S-W wd)).drop (W B- (S-W wd)):=(by unfold kL;rw[qi,List.nil_append,il,a]);rw[e2];unfold fB;rw[Qy a,W5 a,xA,qi,dN];rw[<-Aj I,bV,uD];congr 1;omega
end
def aAg{S aR o o':Nat}{b B pre:List UInt8}(h:Sv S wd o B b o')(i:S=aR)(j:W wd<=S)(f:o<=W wd)(g:S=0->B=[])(hp: ∃p0,pre=p0++fB wd o/\(p0=[]\/aR<=W wd)): ∃p0,pre++B=p0++fB b o'/\(p0=[]\/aR<=W b):=by
 obtain⟨p0,e,a⟩:=hp;by_cases c:S=0
 obtain⟨d,e2⟩:=h.1 c;rw[d,e2,g c,dN];exact⟨p0,e,a⟩
 obtain⟨d,e2,_⟩:=h.2 c;have k:=CT f;refine⟨p0++(fB wd o++B).take (W wd+W B-S),?_,?_⟩
 rw[d,e,bV,bV,uD]
 by_cases l:S<=W wd+W B
 right;omega
 rw[show W wd+W B-S=0 by omega,qi,dN];rcases a with a|a
 exact .inl a
 right;omega
def WX(x:dk)(s:Nat)(wo:Option Nat)(n c o:Nat):dk:={x with wS:=s,wA:=aI wo,wN:=n,wC:=c,wO:=o}
section
variable {x:dk}{s s' n n' c c' o o':Nat}{wo nf:Option Nat}
def aAh:(aB (WX x s wo n c o)).set 14 (af s')=aB (WX x s' wo n c o):=rfl
def UJ:(aB (WX x s wo n c o)).set 15 (.slice (aI nf) n' c')=aB (WX x s nf n' c' o):=rfl
def OR:(aB (WX x s wo n c o)).set 16 (af o')=aB (WX x s wo n c o'):=rfl
def OS:(aB (WX x s wo n c o))[14]? =some (af s):=rfl
def yy:(aB (WX x s wo n c o))[15]? =some (.slice (aI wo) n c):=rfl
def Ic:(aB (WX x s wo n c o))[16]? =some (af o):=rfl
end
variable {S size wc:Nat}{wo:Option Nat}
section
variable {P:Program}{n:Nat}{K:ia}{ρ:Env}{all:Array Oper}{d:Option Nat}{ty:TypeId}{pos:String}{aV:Array Edge}{r:fT}{w:World}{L:List aK}{x y:Operand}{T T':TypeId}
def aAi{ord:Ot}{j:Nat}{T2:TypeId}{zs:List Value}{fh:Nat}[hu:cu P T (.slice T')] [hs:Sz P T' size] [t:Zr P T' zs] [hb:By P T' fh] [u:cu P T2 (.int .i64)]
   {ob:Option Nat} {nn c m:Nat} (xs sp:List Value) (f:all[j]? =some {dst:=d,op:= .call {callee:= .builtin .append,args:= #[x,y],argTypes:= #[T,T2]},type:=ty,pos:=pos,after:=aV,guard:=none})
   (h:H r w L) (i:Nat) (g:aL ρ x= .slice (aI ob) nn c) (k:aL ρ y=af m) (hi:L[i]? =some (ob,C (xs++sp) T'))
   (hlen:W xs=nn*size/\W (xs++sp)=c*size/\nn<=c/\(ob=none->c=0)) (l: ∀v∈zs,plain v=true) (b:(2*(nn+m)+1000)*fh<=281474976710656/\nn+m<=281474976710656)
   (e:W zs=size/\0<size) (hd:bH n d=true)
   (o: ∀w' b_ c' a,H r w' (L.set i (b_,C (xs++dD zs m++a) T'))->W (xs++dD zs m++a)=c'*size->nn+m<=c'->(b_=none->c'=0)->D P n all ord K (fU ρ d (.slice (aI b_) (nn+m) c')) w'):
   D P n all (.cons (j,.h) ord) K ρ w:=by
 obtain⟨w',b_,c',a,h1,h2,p,q,s⟩:=aiY (P:=P) (ty:=ty) (T:=T) (T2:=T2) e.1 h hi hlen.1 hlen.2.1 hlen.2.2.1 hlen.2.2.2 e.2 l b.1 b.2
 exact Mw f (D8 g k h1) hd (o w' b_ c' a h2 p q s)
end
def aAj{o:Nat}{g:List Value}(h:H r w ((ah br (aB (WX x S wo n wc o)) 81)::(wo,C (g) 5)::L))(l:W g=wc)(m:wo=none->wc=0)(hs:size<=8388608):Calls PP 87 #[.pointer (some ⟨br,14,none⟩),af size] w λe w'=>e= .returned (.tuple #[])/\ ∃nf i k,H r w' ((ah br (aB (WX x size nf 0 i 0)) 81)::(nf,C (k) 5)::L)/\W k=i/\(nf=none->i=0):=by
 refine iI func87 ntmps87 [] ?_;refine g_ 5 ?_;refine aX h J yy (ak (mX (c:=0) (h1:=av.lit _) J J (cj _)) (ee (aJ (cW [(4,4),(10,15)] (λρ w=> ∃b:Option Nat,∃d:Nat,∃f:List Value,Kn ρ [(4,.slice (aI b) 0 d)]/\H r w ((ah br (aB (WX x S wo n wc o)) 81)::(b,C (f) 5)::L)/\(W f=d)/\(b=none->d=0)) ?_ ?_))))
 refine g_ 3 ?_;refine ak (Ge J) ?_;refine g_ 3 ?_;refine au J ?_ ?_<;>intro s
 refine fD (dg (uK (a:=0) (h1:=av.lit _) (c:=size) h J J J (cj _) I I J ?_));intro p w h;rw[D6]at h;refine ee (aJ ?_);replace h:=h.zz [1,2] 1;exact⟨aO 7,some p,size,(aT size (iW 0)),az,h,dS ..,(λe=>by cases e)⟩
 exact a8 ⟨aO 4,wo,wc,g,az,h,l,m⟩
 rintro ρ w ⟨b,d,f,⟨t,rfl⟩,h,q,j⟩;refine g_ 6 ?_;refine dt (.slice (aI b) 0 d) yy ?_;intro w h;rw[UJ]at h;refine g_ 6 ?_;refine dt (af 0) Ic ?_;intro w h;rw[OR]at h;refine g_ 6 ?_;refine dt (af size) OS ?_;intro w h;rw[aAh]at h;exact aJ ⟨J,b,d,f,h,q,j⟩
def akG{i bc:Nat}{ob:Option Nat}{bv:List Value}(h:H r w ((ah br (aB (BX x ob i bc)) 81)::(ob,C (bv) 5)::L))(f:W bv=bc)(j:ob=none->bc=0)(hs:size<=8388608):Calls PP 88 #[bL br,af size] w λe w'=>e= .returned (.tuple #[])/\ ∃b_ c k,H r w' ((ah br (aB (BX x b_ size c)) 81)::(b_,C (k) 5)::L)/\W k=c/\size<=c/\(b_=none->c=0):=by
 refine iI func88 ntmps88 [] ?_;refine cW [(4,33)] (λρ w=> ∃b:Option Nat,∃l a:Nat,∃d:List Value,Kn ρ []/\H r w ((ah br (aB (BX x b l a)) 81)::(b,C (d) 5)::L)/\(W d=a)/\(size<=a)/\(b=none->a=0)) ?_ ?_
 refine g_ 5 ?_;refine aX h J sx (ak (Ge J) ?_);refine g_ 3 ?_;refine au J ?_ ?_<;>intro y
 refine g_ 6 ?_;refine aX h J sx (ak (Ge J) ?_);refine g_ 3 ?_;refine cm h [0,4,8,12,20,24,28,44,17,33,36,40,51,52,56,63] ?_;intro w h;refine aC 8 ?_;refine aQ J h J sx (aQ J h J sx (aD J (Ge J) (aD J (mX J J (aW _)) (aAi bv [] J h 1 J J (by rw[dN];rfl) ⟨by rw[fg];exact f,by rw[dN,fg];exact f,aW _,j⟩ (by intro v m;simp at m;subst m;rfl) I an J ?_))));intro w n o q h s z t;dsimp only[bJ]at h;refine aC 2 ?_;refine dt (.slice (aI n) (bc+(size-bc)) o) sx ?_;intro w h;rw[Hy]at h;exact cO ⟨aO 31,n,bc+(size-bc),o,(bv++dD [iW 0] (size-bc)++q),az,h,(by rw[s,fg]),I,t⟩
 exact a8 ⟨aO 7,ob,i,bc,bv,az,h,f,I,j⟩
 rintro ρ w ⟨b,l,a,d,⟨A,rfl⟩,h,u,p,g⟩;refine g_ 5 ?_;refine aX h J sx (dg (ak (mX J J p) ?_));refine g_ 2 ?_;refine dt (.slice (aI b) size a) sx ?_;intro w h;rw[Hy]at h;exact aJ ⟨J,b,a,d,h,u,p,g⟩
def aAk{o O:Nat}{B:List UInt8}{sp:List Value}(h:H r w ((ah br (aB (WX x S wo (W wd) wc o)) 81)::(wo,C (ar u8 wd++sp) 5)::L))(j:aY L (.slice ad (W B) O) B)(d:b8 wo (W wd) wc (ar u8 wd) sp 1)(hS:S<=8388608)(HH:W B<=8388608)(Y:W wd<=S)(K:o<=W wd)(P:W wd<S->o=0):Calls PP 91 #[.pointer (some ⟨br,14,none⟩),.slice ad (W B) O] w λe w'=>e= .returned (.tuple #[])/\ ∃nf Z u dH o',H r w' ((ah br (aB (WX x S nf (W u) Z o')) 81)::(nf,C (ar u8 u++dH) 5)::L)/\b8 nf (W u) Z (ar u8 u) dH 1/\Sv S wd o B u o':=by
 have Q:W B<=O:=Hz j;have fi:=d.1;have cS:=d.2.1;have mP:=d.2.2.1;refine iI func91 ntmps91 [] ?_;refine g_ 6 ?_;refine aX h J OS ?_;refine g_ 2 ?_;refine au J ?_ ?_<;>intro Ev
 exact ju ⟨J,wo,wc,wd,sp,o,h,d,az' I⟩
 refine g_ 8 ?_;refine au J ?_ ?_<;>intro GN
 exact ju ⟨J,wo,wc,wd,sp,o,h,d,aAa Y K P I⟩
 refine g_ 9 ?_;refine aX h J OS ?_;refine g_ 2 ?_;refine au J ?_ ?_<;>intro p6
 refine g_ 7 ?_;refine aX h J OS ?_;refine g_ 4 ?_;refine cm h [0,4,8,12,24,28,32,17,20,39,40,44,51] ?_;intro w h;refine aC 6 ?_;refine aD J (jJ J J I Q) (aQ J h J yy (aD J (mX (c:=0) (h1:=av.lit _) J J (cj _)) (nU (ar u8 []) (ar u8 wd++sp) ((B.drop (W B-S)).map u8) J h 1 J J J ⟨J,cS,cj _,d.2.2.2⟩ (q9 (aY.drop j I) aP) (by intro y v;obtain⟨z,_,rfl⟩:=jS.1 v;rfl) I an J ?_)));intro w l b m h f gl A;dsimp only[bJ]at h;rw[F4,List.nil_append]at h f;refine aC 2 ?_;refine dt (.slice (aI l) (0+(W B- (W B-S))) b) yy ?_;intro w h;rw[UJ]at h;refine cO ?_;refine g_ 5 ?_;refine dt (af 0) Ic ?_;intro w h;rw[OR]at h;refine aJ (ju ?_);have kV:W (B.drop (W B-S))=W B- (W B-S):=cr;rw[il,<-kV]at h;exact⟨J,l,b,(B.drop (W B-S)),m,0,h,⟨by rw[cB,fg],f,I,A⟩,aAb I Y K I⟩
 refine a8 (bY (cm h [0,4,8,16,20,24,13,29,32,36,40] ?_));intro w h;refine aC 6 ?_;refine aQ J h J OS (aQ J h J yy ?_);refine aC 4 ?_;refine g_ 5 ?_;refine au J ?_ ?_<;>intro Ox
 refine(Uu (n:=1) d.2.2.2 I I).elim λp q=>?_;rw[q]at h;have D:W (ar u8 wd++sp)=wc:=(by rw[cS,fg]);have t:W wd=S:=I;have R:0<W wd-o->cut (aI (some p)) wc o 1=some ⟨p,o,none⟩:=λhp=>tK J I;refine cM (min (W B) (W wd-o)) λnn u_=>(bY (cm h [0,4,8,16,20,24,36,13,29,32,43,44] ?_));intro w h;refine aC 7 ?_;refine aQ J h J yy (aQ J h J Ic (aD J (jJ J J I I) (Hh (i:=1) (F:=L) (X:=B) J h J J J R j (λe he=>aA (aA (he))) (by rw[D];omega) J ?_)));intro w h;dsimp only[bJ]at h;rw[abH (by rw[fR];omega),show W wd-o=S-o by rw[t]]at h;refine aD J (cG (k:= .i64) (a:=min (W B) (W wd-o)) run_assign u_) (cO ?_);refine g_ 7 ?_;refine au J ?_ ?_<;>intro GB
 have T:nn=W B:=GB;have kC:B.take (S-o)=B:=je I;rw[kC]at h;refine g_ 4 ?_;refine aX h J Ic ?_;refine g_ 4 ?_;refine dt (af (o+nn)) Ic ?_;intro w h;rw[OR]at h;refine aJ ?_;have g:W (kL wd o B)=W wd:=Bp I;rw[T,<-g]at h;have E:W (ar u8 (kL wd o B)++sp)=wc:=(by rw[aF,cB,g];rw[aF,cB]at D;exact D);exact⟨J,some p,wc,kL wd o B,sp,o+W B,h,⟨by rw[cB,fg],by rw[E,fg],I,(λe=>by cases e)⟩,aAc I t K I⟩
 have U:nn=S-o:=I;have M:W (kL wd o (B.take (S-o)))=S:=(by rw[Bp (by rw[fR];omega)];exact t);refine cm h [0,4,8,12,20,24,28,17,35,36,40,47] ?_;intro w h;refine aC 6 ?_;refine aD J (jJ J J I Q) (aQ J h J (show(aB (WX x S (some p) (W wd) wc o))[15]? =_ from yy) (Hh (i:=1) (F:=L) (X:=B.drop nn) J h J J J (λ_=>rfl) (aY.drop j I) (λe he=>aA (aA (he))) (by rw[aF,cB,M,<-t];omega) J ?_));intro w h;dsimp only[bJ]at h;have s:(B.drop nn).take (W wd)=B.drop nn:=je (by rw[cr];omega);rw[s,U,abH (by rw[M,cr];omega)]at h;have V:min (W B-nn) (W wd)=W B- (S-o):=I;refine aC 2 ?_;refine dt (af (min (W B-nn) (W wd))) Ic ?_;intro w h;rw[OR]at h;refine cO ?_;have g:W (kL (kL wd o (B.take (S-o))) 0 (B.drop (S-o)))=W wd:=(by rw[Bp (by rw[M,cr];omega),M,t]);have E:W (ar u8 (kL (kL wd o (B.take (S-o))) 0 (B.drop (S-o)))++sp)=wc:=(by rw[aF,cB,g];rw[aF,cB]at D;exact D);rw[V,<-g]at h;exact⟨J,some p,wc,(kL (kL wd o (B.take (S-o))) 0 (B.drop (S-o))),sp,W B- (S-o),h,⟨by rw[cB,fg],by rw[E,fg],I,(λe=>by cases e)⟩,aAd I t K I I⟩
 refine g_ 7 ?_;refine au J ?_ ?_<;>intro r7
 refine g_ 5 ?_;refine aX h J yy (dg (me (ar u8 wd) sp (B.map u8) h 1 J J J d (q9 j aP) (by intro y v;obtain⟨z,_,rfl⟩:=jS.1 v;rfl) I an J ?_));intro w l b m h f gl A;dsimp only[bJ]at h;rw[<-gJ]at h f;refine g_ 2 ?_;refine dt (.slice (aI l) (W wd+W B) b) yy ?_;intro w h;rw[UJ]at h;refine aJ ?_;have mK:W (wd++B)=W wd+W B:=aF;rw[<-mK]at h;exact⟨J,l,b,wd++B,m,o,h,⟨by rw[cB,fg],f,I,A⟩,aAe I (P I) I⟩
 refine bY (cm h [0,4,8,12,20,24,28,17,35,36,40,47] ?_);intro w h;refine aC 6 ?_;refine aD J (mX J J I) (aQ J h J yy (nU (ar u8 wd) sp ((B.take (S-W wd)).map u8) J h 1 J J J d (q9 (aY.take j I) aP) (by intro y v;obtain⟨z,_,rfl⟩:=jS.1 v;rfl) I an J ?_));intro w l b m h f gl A;dsimp only[bJ]at h;rw[<-gJ]at h f;have N:W (wd++B.take (S-W wd))=S:=(by rw[aF,fR];omega);have G:W (ar u8 (wd++B.take (S-W wd))++m)=b:=(by rw[f,fg]);have zi:S<=b:=I;refine(Uu (n:=1) A I I).elim λp q=>?_;refine aC 2 ?_;refine dt (.slice (aI l) (W wd+(S-W wd)) b) yy ?_;intro w h;rw[UJ]at h;rw[q]at h;refine cO (cm h [0,4,8,12,20,24,28,17,35,36,40,47] ?_);intro w h;refine aC 6 ?_;refine aD J (jJ J J I Q) (aQ J h J yy (Hh (i:=1) (F:=L) (X:=B.drop (S-W wd)) J h J J J (λ_=>by rfl) (aY.drop j I) (λe he=>aA (aA (he))) (by rw[G];omega) J ?_));intro w h;dsimp only[bJ]at h;have s:(B.drop (S-W wd)).take (W wd+(S-W wd))=B.drop (S-W wd):=je (by rw[cr];omega);rw[s,abH (by rw[N,cr];omega)]at h;have V:min (W B- (S-W wd)) (W wd+(S-W wd))=W B- (S-W wd):=I;refine aC 2 ?_;refine dt (af (min (W B- (S-W wd)) (W wd+(S-W wd)))) Ic ?_;intro w h;rw[OR]at h;refine cO ?_;have g:W (kL (wd++B.take (S-W wd)) 0 (B.drop (S-W wd)))=W wd+(S-W wd):=(by rw[Bp (by rw[N,cr];omega),N];omega);have E:W (ar u8 (kL (wd++B.take (S-W wd)) 0 (B.drop (S-W wd)))++m)=b:=(by rw[aF,cB,g];rw[aF,cB,N]at G;omega);rw[V,<-g]at h;exact⟨J,some p,b,(kL (wd++B.take (S-W wd)) 0 (B.drop (S-W wd))),m,W B- (S-W wd),h,⟨by rw[cB,fg],by rw[E,fg],I,(λe=>by cases e)⟩,aAf I I (P I) I I⟩
variable {sum:Bool}{kind aq aR:Nat}{x:Nat×Fs×Nat}
def qJ(E:List UInt8)(known:Bool)(size:Nat)(sum:Bool)(x:Nat×Fs×Nat):Nat×List UInt8×Nat:=
 if x.1≠1 then(x.1,[],0)
 else if known=true/\ ¬W x.2.1.out=size then(2,[],0)
 else if sum=true then
   (if W E<x.2.2+4\/ ¬num (ag E x.2.2 4) % 4294967296=lF x.2.1.out % 4294967296 then(2,[],0)else(1,x.2.1.out,x.2.2+4))
 else(1,x.2.1.out,x.2.2)
structure Fr where
 aR:Nat
 aq:Nat
 room:Nat
 E:List UInt8
 known:Bool
 size:Nat
 sum:Bool
def Fr.V(p:Fr)(f at_:Nat)(s:Fs):Nat×List UInt8×Nat:=qJ p.E p.known p.size p.sum (gp p.aR p.aq p.room p.E f at_ s)
def akH{room:Nat}(h:(jF E).1=1):p9 E room=(Fr.mk (jF E).2.2.1 (if ¬byte E 4&&&32=0 then 131072 else min 131072 (jF E).2.2.1) room E (jF E).2.2.2.1 (jF E).2.1 (jF E).2.2.2.2.1).V (W E+1) (jF E).2.2.2.2.2 ve:=by
 unfold p9 Fr.V qJ;dsimp only;rw[aj I]
def Ig{known:Bool}(h:x.1≠1):(qJ E known size sum x).1=x.1:=by unfold qJ;rw[ao h]
def UN{known:Bool}(h:(qJ E known size sum x).1=1):x.1=1/\(known=true->W x.2.1.out=size):=by
 unfold qJ at h;by_cases h1:x.1≠1
 rw[ao h1]at h;exact absurd h h1
 rw[aj h1]at h;refine⟨oB.1 h1,λa=>?_⟩;by_cases h2:known=true/\ ¬W x.2.1.out=size
 rw[ao h2]at h;cases h
 exact oB.1 (λb=>h2 ⟨a,b⟩)
section
variable {p:Fr}{f at_:Nat}{s:Fs}
def Ih{room:Nat}:gp aR aq room E (f+1) at_ s=
 if W E<at_+3 then(2,s,0)
 else if(num (ag E at_ 3)/2 % 4=3\/131072<num (ag E at_ 3)/8)\/W E<at_+3+(if num (ag E at_ 3)/2 % 4=1 then 1 else num (ag E at_ 3)/8)then(2,s,0)
 else if aR<num (ag E at_ 3)/8 then(0,s,0)
 else if(iM aR aq E s (num (ag E at_ 3)/2 % 4) (num (ag E at_ 3)/8) (at_+3)).1≠1 then((iM aR aq E s (num (ag E at_ 3)/2 % 4) (num (ag E at_ 3)/8) (at_+3)).1,s,0)
 else if room<W (iM aR aq E s (num (ag E at_ 3)/2 % 4) (num (ag E at_ 3)/8) (at_+3)).2.out then(0,s,0)
 else if num (ag E at_ 3) % 2=1 then(1,(iM aR aq E s (num (ag E at_ 3)/2 % 4) (num (ag E at_ 3)/8) (at_+3)).2,at_+3+(if num (ag E at_ 3)/2 % 4=1 then 1 else num (ag E at_ 3)/8))
 else gp aR aq room E f (at_+3+(if num (ag E at_ 3)/2 % 4=1 then 1 else num (ag E at_ 3)/8)) (iM aR aq E s (num (ag E at_ 3)/2 % 4) (num (ag E at_ 3)/8) (at_+3)).2:=rfl
def aAl{a:Nat}{s s':Fs}(h:iM aR aq E s kind size a=(1,s'))(b: ∀s',iL aR aq s (ag E a size)=(1,s')->W s.out<=W s'.out):W s.out<=W s'.out:=by
 unfold iM at h;split at h
 cases h;simp
 split at h
 cases h;simp
 exact b _ h
def abK(h:W p.E<at_+3):(p.V (f+1) at_ s).1=2:=by
 unfold Fr.V;rw[Ih,ao h];rw[Ig (by show(2:Nat)≠1;decide)]
def akI(h:(num (ag p.E at_ 3)/2 % 4=3\/131072<num (ag p.E at_ 3)/8)\/W p.E<at_+3+(if num (ag p.E at_ 3)/2 % 4=1 then 1 else num (ag p.E at_ 3)/8)):(p.V (f+1) at_ s).1=2:=by
 by_cases a:W p.E<at_+3
 exact abK a
 unfold Fr.V;rw[Ih,aj a,ao h];rw[Ig (by show(2:Nat)≠1;decide)]
def aAm(h:p.aR<num (ag p.E at_ 3)/8):(p.V (f+1) at_ s).1≠1:=by
 by_cases a:W p.E<at_+3
 rw[abK a];decide
 by_cases h1:(num (ag p.E at_ 3)/2 % 4=3\/131072<num (ag p.E at_ 3)/8)\/W p.E<at_+3+(if num (ag p.E at_ 3)/2 % 4=1 then 1 else num (ag p.E at_ 3)/8)
 rw[akI h1];decide
 unfold Fr.V;rw[Ih,aj a,aj h1,ao h,Ig (by show(0:Nat)≠1;decide)];show(0:Nat)≠1;decide
def abL{a:Nat}(g:num (ag p.E at_ 3)=n)(h:n/2 % 4=kind)(hs:n/8=size)(i:(if kind=1 then 1 else size)=a)(h1: ¬W p.E<at_+3)(h2: ¬((kind=3\/131072<size)\/W p.E<at_+3+a))(b:(p.V (f+1) at_ s).1≠0):size<=p.aR/\(iM p.aR p.aq p.E s kind size (at_+3)).1≠0/\((iM p.aR p.aq p.E s kind size (at_+3)).1≠1->(p.V (f+1) at_ s).1≠1)/\ ∀s',iM p.aR p.aq p.E s kind size (at_+3)=(1,s')->W s'.out<=p.room/\p.V (f+1) at_ s=if n % 2=1 then qJ p.E p.known p.size p.sum (1,s',at_+3+a)else p.V f (at_+3+a) s':=by
 have e:p.V (f+1) at_ s=qJ p.E p.known p.size p.sum (if p.aR<size then(0,s,0)
   else if(iM p.aR p.aq p.E s kind size (at_+3)).1≠1 then((iM p.aR p.aq p.E s kind size (at_+3)).1,s,0)
   else if p.room<W (iM p.aR p.aq p.E s kind size (at_+3)).2.out then(0,s,0)
   else if n % 2=1 then(1,(iM p.aR p.aq p.E s kind size (at_+3)).2,at_+3+a)
   else gp p.aR p.aq p.room p.E f (at_+3+a) (iM p.aR p.aq p.E s kind size (at_+3)).2):=by
   unfold Fr.V
   rw[Ih,g,h,hs,i,aj h1,aj h2]
 by_cases hw:p.aR<size
 rw[e,ao hw,Ig (by show(0:Nat)≠1;decide)]at b;exact absurd J b
 rw[aj hw]at e;refine⟨I,?_,?_,?_⟩
 intro c;rw[e,ao I,Ig (by show(iM _ _ _ _ _ _ _).1≠1;omega)]at b;exact b c
 intro c;rw[e,ao c,Ig c];exact c
 intro s' j;rw[j]at e;rw[aj (by show ¬(1:Nat)≠1;decide)]at e;by_cases d:p.room<W s'.out
 rw[ao d]at e;rw[e,Ig (by show(0:Nat)≠1;decide)]at b;exact absurd J b
 rw[aj d]at e;refine⟨I,?_⟩;rw[e];by_cases h2:n % 2=1
 rw[ao h2,ao h2]
 rw[aj h2,aj h2];rfl
end
variable {s':Fs}{text:List UInt8}{w:Nat}{ts:Nat->Tb}
def aAn{N g:Nat}{s s':Sq}(h:gf N ts w m g text s=(1,s')):W s.out<=W s'.out:=by
 unfold gf at h;dsimp only at h;split at h
 cases h
 split at h
 cases h
 split at h
 cases h
 split at h
 cases h
 cases h;dsimp only;rw[ER,aF];omega
def akJ{N w m g:Nat}{ts:Nat->Tb}{text:List UInt8}: ∀{n:Nat} {s s':Sq},mw N ts w m g text n s=(1,s')->W s.out<=W s'.out
 |0,s,s',h=>by cases h;exact aW _
 | n+1,s,s',h=>by
  rw[mw]at h;rcases b:gf N ts w m g text s with⟨v,s1⟩;rw[b]at h;dsimp only at h;split at h
  rename_i a;cases h;exact absurd J a
  rename_i a;have c:v=1:=oB.1 a;subst c;have h1:=aAn b;split at h
  cases h;exact h1
  split at h
  cases h
  have h2:=akJ h;exact aM h1 h2
def aAo{out:List UInt8}{b:Nat}{many:Nat}(h1:(lP ts w m out a b c text many E).1=1):W out<=W (lP ts w m out a b c text many E).2.1:=by
 revert h1;unfold lP;split
 intro e;cases e
 split
 intro e;cases e
 dsimp only;split
 intro e;rename_i d;exact absurd e d
 rename_i d;split
 intro e;cases e
 split
 intro e;cases e
 intro _;dsimp only;have:=akJ (Prod.ext (oB.1 d) J:mw _ _ _ _ _ _ _ _=(1,_));rw[aF];exact aM this (lV _ _)
def aAp(h:iL w m s E=(1,s')):W s.out<=W s'.out:=by
 unfold iL at h;dsimp only at h;split at h
 rename_i a;exact absurd (cD Prod.fst h) a
 split at h
 cases h
 split at h
 cases h
 split at h
 split at h
 cases h
 cases h;dsimp only;rw[aF];omega
 unfold wV at h;split at h
 cases h
 split at h
 cases h
 dsimp only at h;split at h
 rename_i a;exact absurd (cD Prod.fst h) a
 have b:=cD Prod.fst h;have e2:=cD Prod.snd h;dsimp only at b e2;rw[<-e2];exact aAo b
def aAq{a:Nat}(h:iM w m E s kind size a=(1,s')):W s.out<=W s'.out:=aAl h (λs1 h1=>aAp h1)
def akK{w m room:Nat}{E:List UInt8}: ∀{f at_:Nat} {s s':Fs} {a':Nat},gp w m room E f at_ s=(1,s',a')->W s.out<=W s'.out
 |0,at_,s,s',a',h=>by cases h
 | f+1,at_,s,s',a',h=>by
  rw[Ih]at h;obtain⟨d,c⟩: ∃x,(if num (ag E at_ 3)/2 % 4=1 then 1 else num (ag E at_ 3)/8)=x:=⟨_,J⟩;rw[c]at h;obtain⟨y,b⟩: ∃y,iM w m E s (num (ag E at_ 3)/2 % 4) (num (ag E at_ 3)/8) (at_+3)=y:=⟨_,J⟩;rw[b]at h;split at h
  cases h
  split at h
  cases h
  split at h
  cases h
  split at h
  rename_i a;exact absurd (cD Prod.fst h) a
  rename_i a;have h1:=aAq (b.trans (Prod.ext (oB.1 a) J:y=(1,y.2)));split at h
  cases h
  split at h
  have e:=cD (λz=>z.2.1) h;dsimp only at e;rw[<-e];exact h1
  exact aM h1 (akK h)
def aAr{p:Fr}{f at_:Nat}(a:p.known=true)(h:p.size<W s.out):(p.V f at_ s).1≠1:=by
 intro e;have h1:=UN e;have h2:=akK (Prod.ext h1.1 J:gp p.aR p.aq p.room p.E f at_ s=(1,(gp p.aR p.aq p.room p.E f at_ s).2.1,(gp p.aR p.aq p.room p.E f at_ s).2.2));have b:=h1.2 a;omega
variable {p:Fr}{s1:Fs}{b f k:Nat}{sc:Nat->UInt8}{x y:dk}{w:World}
structure abM(x:dk)(wo:Option Nat)(wd:List UInt8)(od:List Value):Prop where
 a:x.wA=aI wo
 n:x.wN=W wd
 ok:b8 wo (W wd) x.wC (ar u8 wd) od 1
structure UO(F:List aK)(x:dk)(m:List Nat)(o0 o1 o2:Option Nat)(b0 b1 b2:List Bl)(wd:List UInt8)(p:Fr)(s:Fs):Prop where
 rel:KV F x m o0 o1 o2 b0 b1 b2 s
 wS:x.wS=p.aR/\p.aR<=8388608
 wl:W wd<=p.aR/\x.wO<=W wd/\(W wd<p.aR->x.wO=0)
 pre: ∃p0,s.out=p0++fB wd x.wO/\(p0=[]\/p.aR<=W wd)
 d_:x.d_=!p.known
 rem:p.known=true->x.rem+W s.out=p.size
 rm:x.rem<=aN .u64
 sm:x.sum=p.sum
 xi:p.sum=true->XI x.xl x.xv x.xb x.xc s.out
 ol:W s.out<=4194304
def YX(x:dk)(sc:Nat->UInt8)(z:Int):dk:={x with gF:=sc,oM:=z}
def ZB(x:dk)(rem xl:Nat)(xv:Nat->Nat)(xb:Nat->UInt8)(xc:Nat):dk:=XX {x with rem:=rem} xl xv xb xc
section
variable {x:dk}{sc:Nat->UInt8}{z z':Int}{ob:Option Nat}{n c rem OT xl xc:Nat}{xv:Nat->Nat}{xb:Nat->UInt8}
def aAs(h:x.bA=aI ob):aB x=aB (BX (YX x x.gF x.oM) ob x.bN x.bC):=by unfold BX YX;rw[<-h]
def abN:(aB (BX (YX x sc z) ob n c)).set 6 (.int .i64 z')=aB (BX (YX x sc z') ob n c):=rfl
def K8:(aB (BX (YX x sc z) ob n c))[6]? =some (.int .i64 z):=rfl
def akL(a:q=28+k)(h:k+W X<=16):dm (aB (BX (YX x sc z) ob n c)) q (X.map u8)=aB (BX (YX x (eH sc k X) z) ob n c):=by rw[aae a h];rfl
def aAt:aB x=aB (ZB x x.rem x.xl x.xv x.xb x.xc):=rfl
def aAu:(aB (ZB x rem xl xv xb xc)).set 5 (cR OT)=aB (ZB x OT xl xv xb xc):=rfl
def UP:(aB (ZB x rem xl xv xb xc))[5]? =some (cR rem):=rfl
def akM:aB x=aB (YX x x.gF x.oM):=rfl
def OU:(aB (YX x sc z)).set 6 (.int .i64 z')=aB (YX x sc z'):=rfl
def akN(a:q=28+k)(h:k+W X<=16):dm (aB (YX x sc z)) q (X.map u8)=aB (YX x (eH sc k X) z):=by rw[aae a h];rfl
def aAv{b:Bool}:(aB (YX x sc z)).set 1 (.bool b)=aB {YX x sc z with iD:=b}:=rfl
def aAw{n c o:Nat}(h1:y.wS=S)(h2:y.wA=aI wo)(a:y.wN=n)(b:y.wC=c)(d:y.wO=o):aB y=aB (WX y S wo n c o):=by
 subst h1;subst a;subst b;subst d;unfold WX;rw[<-h2]
end
def z8(x:dk):=(x.uj,x.iD,x.sum,x.one,x.d_,x.rem,x.off,x.wS,x.wA,x.wN,x.wC,x.wO,x.xl,x.xv,x.xb,x.xc)
def aAx(h:core x=core y):z8 x=z8 y:=by
 unfold core at h;simp only[qO]at h;unfold z8;simp only[qO];obtain⟨h1,h2,g,i,j,k,q,l,m,a,b,n,c,o,d,p,e,f⟩:=h;exact⟨h1,h2,g,i,j,k,l,m,a,b,n,c,d,p,e,f⟩
def z9(x:dk):=(x.uj,x.one,x.off)
def akO(h:z8 x=z8 y):z9 x=z9 y:=by
 unfold z8 at h;simp only[qO]at h;unfold z9;simp only[qO];exact⟨h.1,h.2.2.2.1,h.2.2.2.2.2.2.1⟩
def FD(h:i<W X):eH sc 0 X i=aa X i 0:=by
 unfold eH;rw[ao I];rfl
def aAy{e:Nat}{v:Nat×List UInt8×Nat}(h:v=if n % 2=1 then qJ p.E p.known p.size p.sum (1,s1,e)else p.V f e s1)(a:p.known=true)(b:p.size<W s1.out):v.1≠1:=by
 rw[h];split
 intro c;have:=(UN c).2 a;dsimp only at this;omega
 exact aAr a b
def aAz{l:List Value}{v:UInt8}(h:i<W l):(dm l 0 (ar u8 (aT i v))).set i (u8 v)=dm l 0 (ar u8 (aT (i+1) v)):=by
 have h1:=ag' (A:=ar u8 (aT i v)) (B:=[u8 v]) (l:=l) (q:=0) (i:=i) (by simp);rw[il]at h1;rw[DP,gJ];exact h1
def aAA{P:Program}{ρ:Env}{op:Op}{ty:TypeId}{w':World}{z v:UInt8}(h:run P ρ op ty w= .ok (.value (u8 z)) w')(e:z=v):run P ρ op ty w= .ok (.value (u8 v)) w':=by rw[h,e]
def aAB{f:Nat->UInt8}(h:W X<=16):((cL 16).map (eH f 0 X)).take (W X)=X:=by
 apply nR;intro j;rw[qg];split
 rename_i a;rw[kP,Ah I,uE,FD a,bX,gW a];rfl
 rename_i a;rw[gB I]
def aAC{z:Int}:Rd (aB (YX x sc z)) 28 (((cL 16).map sc).map u8):=by
 rw[F3];have h:aB (YX x sc z)=(aB (YX x sc z)).take 28++((cL 16).map (u8∘sc)++(aB (YX x sc z)).drop 44):=rfl;refine Rd.of λj a=>?_;rw[h,l_ (by show 28<=28+j;omega)];rw[gP (by show 28+j-28<_;omega)];congr 1;show 28+j-28=j;omega
def akP{z:Int}(h:(ah br (aB (YX x (eH sc 0 X) z)) 81)∈F)(b:n=W X)(a:W X<=16):aY F (.slice (some ⟨br,28,none⟩) n 16) X:=by
 subst b;have c:aY F (.slice (some ⟨br,28,none⟩) 16 16) ((cL 16).map (eH sc 0 X)):=⟨_,_,_,J,by simp,aW _,λ_=>⟨br,28,_,_,J,h,aAC⟩⟩;have h1:=aY.take c a;rw[aAB a]at h1;exact h1
def akQ{e:Nat}(a:p.known=true->W s1.out=p.size):qJ p.E p.known p.size p.sum (1,s1,e)=if p.sum=true then(if W p.E<e+4\/ ¬num (ag p.E e 4) % 4294967296=lF s1.out % 4294967296 then(2,[],0)else(1,s1.out,e+4))else(1,s1.out,e):=by
 unfold qJ;dsimp only;rw[aj an,aj (λh=>h.2 (a h.1))]
def aAD{e:Nat}(a:p.known=true)(b:W s1.out≠p.size):(qJ p.E p.known p.size p.sum (1,s1,e)).1≠1:=by
 intro h;exact b ((UN h).2 a)
def aAE(h:a+b=c)(d:a≠0):b≠c:=I
def aAF(h:a+b=c)(d:a=0):b=c:=I
def aAG{w:Nat}(h:W E=0):(iL w m s E).1≠1:=by
 have h1:(dZ s.tree E).1=2:=(by unfold dZ;rw[ao h]);rw[aby I,h1];decide
def aAH{o o':Nat}{B a:List UInt8}(h:Sv S wd o B a o')(c:W wd<=S)(d:o<=W wd)(e:W wd<S->o=0):W a<=S/\o'<=W a/\(W a<S->o'=0):=by
 by_cases b:S=0
 obtain⟨f,e2⟩:=h.1 b;rw[f,e2];exact⟨c,d,e⟩
 obtain⟨_,e2,g,i⟩:=h.2 b;exact⟨I,g,i⟩
section
variable {P:Program}{n:Nat}{K:ia}{ρ:Env}{w:World}{all:Array Oper}{rest:List Oper}{d:Option Nat}{op:Op}{ty:TypeId}{pos:String}{aV:Array Edge}
def gH{g t:Nat}{want:Bool}(e:(all[g]?).bind (·.dst)=some t)(f:Nat.blt t n=true)(i:ρ t=undef)(hd:bH n d=true)(h:O P n all rest K (fU ρ d undef) w):O P n all ({dst:=d,op:=op,type:=ty,pos:=pos,after:=aV,guard:=some (g,want)}::rest) K ρ w:=by
 unfold O at*;intro a h1 h2 c;have j:yielded all a.tmps g=none:=(by have k:t<a.tmps.size:=(by rw[h1];simpa [FT] using f);have b:mF a t=undef:=(by rw[c];exact i);have:a.tmps[t]? =some undef:=(by simp only[mF,tD]at b;simp[k]at b ⊢;exact b);simp[yielded,e,this,undef]);have hw:Region.wanted ({dst:=d,op:=op,type:=ty,pos:=pos,after:=aV,guard:=some (g,want)}:Oper) (yielded all a.tmps)=false:=(by simp only[Region.wanted,j];rfl);refine wpList_step λm l=>?_;rw[aj (by simp[hw])];exact l _ _ (h (a.put d undef) (by rw[size_put,h1]) (by rw[pe,h2]) (by rw[pf a d undef (by rw[h1];exact hd),c]))
end
def akR{p:Prop}(h:p:=by refine g_ 4 ?_;refine eS J J J J (aH (re h (aA bZ) (rj.sub aP)) ?_);rintro e w1 ⟨be,rfl,h⟩;refine g_ 3 ?_;replace h:=h.zz [10,10,10,10,10,10,10,10,10,9,10] 0;exact⟨_,J,bG ⟨a_ ⟨_,J⟩,(Decidable.byCases (λhh:131072<size=>Ij.o (a_ (bG hh))) (λhh=>hVw.o I)),[_,_,_,_,_,_,_,_,_,_,_],h⟩⟩):p:=h
def abO{p:Prop}(h:p:=by exact⟨_,J,bG ⟨a_ ⟨_,J⟩,cF,[_,_,_,_,_,_,_,_,_,_,_],h⟩⟩):p:=h
def abP{p:Prop}(h:p:=by exact⟨_,J,bG ⟨a_ ⟨_,J⟩,cF,[_,_,_,_,_,_,_,_,_,_,_]++G,by rw[bV];exact h⟩⟩):p:=h
def akS{p:Prop}(h:p:=by rintro e w1 ⟨be,rfl,h⟩;refine g_ 3 ?_;replace h:=h.zz [10,10,10,10,10,10,10,10,10,9,10] 0;exact abO):p:=h
theorem aAI{pos base at_ ic:Nat}{iA:Option Addr}{ob lO eP hO:Option Nat}{bv kv lv od:List Value}{cs:List dx}{m:List Nat}{D:List UInt8}(h:H r w ((ah br (aB x) 81)::(ah sb [.slice iA (W D) ic,af (pos),.int .i64 pr] 84)::(ob,C (bv) 5)::(eP,C (dp cs) 227)::(hO,C (ar dG m) 174)::(o0,C (bP b0) 214)::(o1,C (bP b1) 214)::(o2,C (bP b2) 214)::(kO,C (kv) 5)::(lO,C (lv) 5)::(wo,C (ar u8 wd++od) 5)::L))(i_:Sub F L)(hG:Gl F aE aU)(hD:aY F (.slice iA (W D) ic) D)(qH:x.uj= .iface 58 (bL sb))(kK:W D<=140737488355328)(HU:p.E=D.drop base)(EL:base+at_=pos)(lZ:pos<=W D)(hI:Ft x ob kO lO eP hO o0 o1 o2 bv kv lv cs m b0 b1 b2)(hW:abM x wo wd od)(hFr:UO F x m o0 o1 o2 b0 b1 b2 wd p s)(pV:p.room<=4194304)(pZ:p.aq<=131072)(hV:(p.V (f+1) at_ s).1≠0):Calls PP 77 #[bL br] w λe w'=> ∃er,e= .returned er/\((er= .nilIface/\ ∃x' pos' my b_ out sp oP kE tq m' vw vx vy vz vA vB zZ Fu z5 Fv nf mB OV G,H r w' ((ah br (aB x') 81)::(ah sb [.slice iA (W D) ic,af (pos'),.int .i64 my] 84)::(b_,C (ar u8 out++sp) 5)::(oP,C (dp kE) 227)::(tq,C (ar dG m') 174)::(vw,C (bP vx) 214)::(vy,C (bP vz) 214)::(vA,C (bP vB) 214)::(zZ,C (Fu) 5)::(z5,C (Fv) 5)::(nf,C (ar u8 mB++OV) 5)::(G++L))/\Ft x' b_ zZ z5 oP tq vw vy vA (ar u8 out++sp) Fu Fv kE m' vx vz vB/\abM x' nf mB OV/\x'.bN=W out/\z9 x'=z9 x/\base+at_+3<=pos'/\pos'<=W D/\((x'.iD=false/\p.V (f+1) at_ s=(1,s.out++out,pos'-base))\/(x'.iD=x.iD/\ ∃s',s'.out=s.out++out/\UO (G++F) x' m' vw vy vA vx vz vB mB p s'/\p.V (f+1) at_ s=p.V f (pos'-base) s')))\/(Er aU er/\(p.V (f+1) at_ s).1≠1/\ ∃Z,H r w' (Z++L))):=by
 have rj:=hG.sub i_;have UQ:=hD.sub i_;obtain⟨Bj,H7,H8,OJ,KX⟩:=id hI;obtain⟨OW,UR,OX⟩:=id hW;obtain⟨P,US,Dg,akT,akU,aAJ,abQ,abR,aAK,aAL⟩:=id hFr;have eo:W p.E=W D-base:=(by rw[HU,cr]);have zS: ∀a k,ag p.E a k=ag D (base+a) k:=λa k=>(by rw[HU];unfold ag;rw[kG]);rw[aAs Bj.1]at h;have fY:(aB (BX (YX x x.gF x.oM) ob x.bN x.bC))[0]? =some (.iface 58 (bL sb)):=(by rw[<-qH];rfl);refine iu func77 ntmps77 [2] ?_;refine g_ 10 ?_;refine cm h [0,4,8,16,20,24,28,13,35,36,40,44,48,52] ?_;intro w h;refine aC 6 ?_;refine aD J (wq (c:=3) (h1:=av.lit _) J J an) ?_;refine aQ J h J fY ?_;replace h:=h.zz [1] 0;refine lW J J J J (aH (CN (q:=28) (n:=3) h (UQ.sub aP) lZ kK (rj.sub aP) (λ_=>rfl) (by rw[zL];decide) an) ?_);rintro e w1 ⟨xg,rfl,h⟩;rw[akL (k:=0) J (by rw[fR];omega)]at h;refine aC 6 ?_;refine g_ 3 ?_;refine ak (C_ (aE:=aE) (aU:=aU) J J) (aJ (au J ?_ ?_))<;>intro Hn
 have cF:(p.V (f+1) at_ s).1≠1:=(by rw[abK I];decide);refine g_ 5 ?_;refine eS J J J J (aH (Fq h (aA bZ) (rj.sub aP) (Fp Hn)) ?_);exact akS
 have h3:pos+3<=W D:=I;have HV:pos+min (W D-pos) 3=pos+3:=I;have jb:(D.drop pos).take 3=ag D pos 3:=rfl;rw[HV,jb]at h;have Q_:W (ag D pos 3)=3:=dK h3;refine cM ((aa D pos 0).toNat) λc0 mZ=>(cM ((aa D (pos+1) 0).toNat) λc1 nW=>(cM ((aa D (pos+2) 0).toNat) λc2 m4=>?_));have aKY:c0<=255:=(by rw[<-mZ];exact toNat_le _);have akV:c1<=255:=(by rw[<-nW];exact toNat_le _);have AS:c2<=255:=(by rw[<-m4];exact toNat_le _);have hu0:((eH x.gF 0 (ag D pos 3)) 0).toNat=c0:=(by rw[FD I,lD an];exact mZ);have AR:((eH x.gF 0 (ag D pos 3)) 1).toNat=c1:=(by rw[FD I,lD an];exact nW);have lb:((eH x.gF 0 (ag D pos 3)) 2).toNat=c2:=(by rw[FD I,lD an];exact m4);refine cM (num (ag p.E at_ 3)) λn hn=>?_;have qw:c0+c1*2^8+c2*2^16=n:=(by rw[<-hn,zS,EL,Tt h3,mZ,nW,m4]);refine cM (n/2 % 4) λkind OY=>(cM (n/8) λsize Bt=>(cM (if kind=1 then 1 else size) λpA Ik=>?_));have Ij:((kind=3\/131072<size)\/W p.E<at_+3+pA)->(p.V (f+1) at_ s).1≠1:=λe=>(by rw[akI (by rw[hn,OY,Bt,Ik];exact e)];decide);have hVw:p.aR<size->(p.V (f+1) at_ s).1≠1:=λe=>aAm (by rw[hn,Bt];exact e);replace Ij:=Hid.mk Ij;replace hVw:=Hid.mk hVw;have aKZ:size<=2097151:=I;have akW:(aB (BX (YX x (eH x.gF 0 (ag D pos 3)) x.oM) ob x.bN x.bC))[14]? =some (af p.aR):=(by rw[<-US.1];rfl);refine g_ 8 ?_;refine cm h [0,4,8,12,24,28,32,36,56,60,64,68,17,20,41,44,48,52,73,76,80,84,88] ?_;intro w h;refine aC 12 ?_;refine yZ J (λw hk=>xd (run_load (h.keeps hk) J (show(aB (BX (YX x (eH x.gF 0 (ag D pos 3)) x.oM) ob x.bN x.bC))[28+0]? =some (u8 ((eH x.gF 0 (ag D pos 3)) 0))from J)) hu0) J ?_;refine aC 1 ?_;refine yZ J (λw hk=>xd (run_load (h.keeps hk) J (show(aB (BX (YX x (eH x.gF 0 (ag D pos 3)) x.oM) ob x.bN x.bC))[28+1]? =some (u8 ((eH x.gF 0 (ag D pos 3)) 1))from J)) AR) J ?_;refine aC 1 ?_;refine aD J (eB (b:=8) (h2:=av.lit _) J J an aG) ?_;refine aD J (cG (fq J J aG aG) (pW I)) (yZ J (λw hk=>xd (run_load (h.keeps hk) J (show(aB (BX (YX x (eH x.gF 0 (ag D pos 3)) x.oM) ob x.bN x.bC))[28+2]? =some (u8 ((eH x.gF 0 (ag D pos 3)) 2))from J)) lb) J ?_);refine aC 1 ?_;refine aD J (eB (b:=16) (h2:=av.lit _) J J an aG) ?_;refine aD J (cG (fq J J aG aG) ((pW I).trans qw)) (fG J (cO ?_));refine g_ 3 ?_;refine ak (kJ (n:=1) J J aG an) ?_;refine g_ 7 ?_;refine ak (cG (wT J J aG) (show n/2^1 % 4=kind from OY)) ?_;refine g_ 5 ?_;refine ak (cG (qT (b:=3) (h2:=av.lit _) J J aG) (show n/2^3=size from Bt)) ?_;refine g_ 3 ?_;refine cW [(2,2),(72,93)] (λρ w=>Kn ρ []/\H r w ((ah br (aB (BX (YX x (eH x.gF 0 (ag D pos 3)) x.oM) ob x.bN x.bC)) 81)::(ah sb [.slice iA (W D) ic,af (pos+3),.int .i64 xg] 84)::(ob,C (bv) 5)::(eP,C (dp cs) 227)::(hO,C (ar dG m) 174)::(o0,C (bP b0) 214)::(o1,C (bP b1) 214)::(o2,C (bP b2) 214)::(kO,C (kv) 5)::(lO,C (lv) 5)::(wo,C (ar u8 wd++od) 5)::L)/\(size<=131072)/\(p.aR=0\/size<=p.aR)) ?_ ?_
 refine g_ 5 ?_;refine eM (t:=74) J (λG7=>?_) (λG7=>?_)
 refine g_ 7 ?_;refine gH J J J J (gH J J J J (gH J J J J (gH J J J J (gH J J J J (gH J J J J (gH J J J J ?_))))));refine g_ 3 ?_;refine jv J ?_;exact akR
 refine g_ 4 ?_;refine dI J J J (run_load h J akW) J ?_;refine g_ 2 ?_;refine eM (t:=81) J (λaAM=>?_) (λaAM=>?_)
 refine g_ 5 ?_;refine dI J J J (run_load h J akW) J ?_;refine g_ 1 ?_;refine dI J J J (tJ J) J ?_;refine g_ 2 ?_;refine au J ?_ ?_<;>intro aAN
 exact akR
 refine a8 ?_;replace h:=h.zz [10,10,10,10,10,10,10,10,10,9,10] 0;exact⟨aS,az,h,I,I⟩
 refine g_ 7 ?_;refine dI J J J (wk J) J ?_;refine g_ 2 ?_;refine gK J (a8 ?_);replace h:=h.zz [10,10,10,10,10,10,10,10,10,9,10] 0;exact⟨aS,az,h,I,I⟩
 rintro ρ w ⟨⟨nz,rfl⟩,h,YY,K9⟩;refine g_ 5 ?_;refine kp [(2,3),(10,16),(95,211)] (λρ w=> ∃g:dk,∃j:Nat,∃qz:Int,∃U:Option Nat,∃out:List UInt8,∃Y:List Value,∃j5:Option Nat,∃ik:List dx,∃qF:Option Nat,∃m1:List Nat,∃p0:Option Nat,∃d0:List Bl,∃p1:Option Nat,∃d1:List Bl,∃p2:Option Nat,∃d2:List Bl,∃lQ:Option Nat,∃oR:List Value,∃qI:Option Nat,∃Dh:List Value,∃G:List aK,∃s1:Fs,∃zz:Int,Kn ρ [(3,.int .i64 zz)]/\H r w ((ah br (aB g) 81)::(ah sb [.slice iA (W D) ic,af (j),.int .i64 qz] 84)::(U,C (ar u8 out++Y) 5)::(j5,C (dp ik) 227)::(qF,C (ar dG m1) 174)::(p0,C (bP d0) 214)::(p1,C (bP d1) 214)::(p2,C (bP d2) 214)::(lQ,C (oR) 5)::(qI,C (Dh) 5)::(wo,C (ar u8 wd++od) 5)::(G++L))/\(Ft g U lQ qI j5 qF p0 p1 p2 (ar u8 out++Y) oR Dh ik m1 d0 d1 d2)/\(g.bN=W out)/\(z8 g=z8 x)/\(KV (G++F) g m1 p0 p1 p2 d0 d1 d2 s1)/\(s1.out=s.out++out)/\(j=pos+3+pA)/\(j<=W D)/\(W s1.out<=p.room/\p.V (f+1) at_ s=if n % 2=1 then qJ p.E p.known p.size p.sum (1,s1,at_+3+pA)else p.V f (at_+3+pA) s1)/\(p.aR=0->out=[])) ?_ ?_
 refine g_ 5 ?_;refine au J ?_ ?_<;>intro aK0
 have mG:kind=0:=I;have kU:size=pA:=(by rw[<-Ik,aj I]);refine g_ 4 ?_;replace h:=h.zz [2,1] 0;refine cJ J J J (aH (akG h Bj.2.1 Bj.2.2 I) ?_);rintro e w1 ⟨rfl,cP,zU,Bu,h,fW,Az,OZ⟩;refine g_ 3 ?_;refine cm h [0,4,8,16,20,24,13,29,35,36,40,44,48,52] ?_;intro w h;refine aC 6 ?_;refine aQ J h J (show(aB (BX (YX x (eH x.gF 0 (ag D pos 3)) x.oM) cP size zU))[0]? =_ from fY) (aQ J h J sx ?_);replace h:=h.zz [1,2] 0;refine lW J J J J (aH (akn h (UQ.sub aP) h3 kK (rj.sub aP) I Az OZ) ?_);rintro e w1 ⟨pr3,rfl,h⟩;refine aC 6 ?_;refine g_ 3 ?_;refine ak (C_ (aE:=aE) (aU:=aU) J J) (aJ (au J ?_ ?_))<;>intro akd
 have cF:(p.V (f+1) at_ s).1≠1:=Ij.o (bG I);refine g_ 5 ?_;refine eS J J J J (aH (Fq h (aA (aA bZ)) (rj.sub aP) (Fp akd)) ?_);rintro e w1 ⟨be,rfl,h⟩;refine g_ 3 ?_;replace h:=h.zz [10,10,10,10,10,10,10,10,9,9,10] 0;exact abO
 have ks:pos+3+size<=W D:=I;have Ie:pos+3+min (W D- (pos+3)) size=pos+3+size:=I;have Cz:W (ag D (pos+3) size)=size:=dK ks;have abS:(D.drop (pos+3)).take size=(ag D (pos+3) size):=rfl;have xS:dm Bu 0 (ar u8 (ag D (pos+3) size))=ar u8 (ag D (pos+3) size)++Bu.drop size:=(by rw[BY _ _ _ (by rw[cB];omega),qi,List.nil_append,cB,il,Cz]);rw[Ie,abS,xS]at h;have jL:W (ar u8 (ag D (pos+3) size)++Bu.drop size)=zU:=(by rw[aF,cB,cr];omega);have Q:=abL (p:=p) (f:=f) (at_:=at_) (s:=s) hn OY Bt Ik I I hV;have fj:iM p.aR p.aq p.E s kind size (at_+3)=(1,{s with out:=s.out++(ag D (pos+3) size)}):=(by unfold iM;rw[ao mG,zS,<-fL,EL]);have qC:=Q.2.2.2 _ fj;have mI:p.aR=0->(ag D (pos+3) size)=[]:=λe=>k7.1 (by have:=Q.1;omega);clear Q;refine g_ 12 ?_;refine aX h J K8 (dg (ak (yd J J) ?_));refine g_ 2 ?_;refine dt (.int .i64 _) K8 ?_;intro w h;rw[abN]at h;refine aJ ?_;replace h:=h.zz [10,10,10,10,10,10,10,10,9,9,10] 0;exact⟨aO 34,_,pos+3+size,_,cP,(ag D (pos+3) size),Bu.drop size,eP,cs,hO,m,o0,b0,o1,b1,o2,b2,kO,kv,lO,lv,[],({s with out:=s.out++(ag D (pos+3) size)}),_,az,h,{b:=⟨J,jL,OZ⟩,k:=H7,l:=H8,u:=OJ,s:=KX},Cz.symm,J,{tr:=P.tr,tb:=P.tb,ok:=P.ok,a:=P.a,bd:=P.bd},J,(by rw[kU]),ks,qC,mI⟩
 refine g_ 5 ?_;refine au J ?_ ?_<;>intro q8
 have fi:kind=1:=I;have kU:1=pA:=(by rw[<-Ik,ao fi]);refine g_ 4 ?_;replace h:=h.zz [2,1] 0;refine cJ J J J (aH (akG h Bj.2.1 Bj.2.2 I) ?_);rintro e w1 ⟨rfl,cP,zU,Bu,h,fW,Az,OZ⟩;refine g_ 3 ?_;refine cm h [0,4,8,16,20,24,28,13,35,36,40,44,48,52] ?_;intro w h;refine aC 6 ?_;refine aD J (wq (c:=1) (h1:=av.lit _) J J an) ?_;refine aQ J h J (show(aB (BX (YX x (eH x.gF 0 (ag D pos 3)) x.oM) cP size zU))[0]? =_ from fY) ?_;replace h:=h.zz [2] 0;refine lW J J J J (aH (CN (q:=28) (n:=1) h (UQ.sub aP) h3 kK (rj.sub aP) (λ_=>rfl) (by rw[zL];decide) an) ?_);rintro e w1 ⟨xg,rfl,h⟩;rw[akL (k:=0) J (by rw[fR];omega)]at h;refine aC 6 ?_;refine g_ 3 ?_;refine ak (C_ (aE:=aE) (aU:=aU) J J) (aJ (au J ?_ ?_))<;>intro ai6
 have cF:(p.V (f+1) at_ s).1≠1:=Ij.o (bG I);refine g_ 5 ?_;refine eS J J J J (aH (Fq h (aA bZ) (rj.sub aP) (Fp ai6)) ?_);exact akS
 have ks:pos+3+1<=W D:=I;have Ie:pos+3+min (W D- (pos+3)) 1=pos+3+1:=I;have abS:(D.drop (pos+3)).take 1=ag D (pos+3) 1:=rfl;rw[Ie,abS]at h;have aK1:W (ag D (pos+3) 1)=1:=dK ks;refine cM (aa D (pos+3) 0) λrv hrv=>?_;have hsc:(eH (eH x.gF 0 (ag D pos 3)) 0 (ag D (pos+3) 1)) 0=rv:=(by rw[FD I,lD an];exact hrv);refine g_ 13 ?_;refine ak (aAA (run_load h J (show(aB (BX (YX x (eH (eH x.gF 0 (ag D pos 3)) 0 (ag D (pos+3) 1)) x.oM) cP size zU))[28+0]? =some (u8 ((eH (eH x.gF 0 (ag D pos 3)) 0 (ag D (pos+3) 1)) 0))from J)) hsc) ?_;refine g_ 8 ?_;refine aX h J sx ?_;refine g_ 4 ?_;refine cw (σ:=Nat) [(15,15),(164,174)] (λi ρ w=>Kn ρ [(164,af i)]/\H r w ((ah br (aB (BX (YX x (eH (eH x.gF 0 (ag D pos 3)) 0 (ag D (pos+3) 1)) x.oM) cP size zU)) 81)::(ah sb [.slice iA (W D) ic,af (pos+3+1),.int .i64 xg] 84)::(cP,C (dm Bu 0 (ar u8 (aT i rv))) 5)::(eP,C (dp cs) 227)::(hO,C (ar dG m) 174)::(o0,C (bP b0) 214)::(o1,C (bP b1) 214)::(o2,C (bP b2) 214)::(kO,C (kv) 5)::(lO,C (lv) 5)::(wo,C (ar u8 wd++od) 5)::L)/\(i<=size)) (λi=>size-i) (0) ⟨az,h.mv 1,(cj _)⟩ ?_;rintro i ρ w ⟨⟨r_,rfl⟩,h,hi⟩;refine g_ 5 ?_;refine au J ?_ ?_<;>intro abj
 refine(Uu (n:=1) OZ I I).elim λbB hbB=>?_;rw[hbB]at h;have aK2:aI cP=some ⟨bB,0,none⟩:=(by rw[hbB];rfl);refine g_ 12 ?_;refine aX h J sx ?_;refine g_ 3 ?_;refine ir (v:=u8 rv) h J (gW (by rw[MD];omega)) J J J ?_;intro w h;dsimp only[bJ]at h;rw[aAz I,<-hbB]at h;refine g_ 5 ?_;exact⟨aO 13,i+1,cQ,az,h,I⟩
 have q6:i=size:=I;have xS:dm Bu 0 (ar u8 (aT size rv))=ar u8 (aT size rv)++Bu.drop size:=(by rw[BY _ _ _ (by rw[cB,dS];omega),qi,List.nil_append,cB,dS,il]);rw[q6,xS]at h;have jL:W (ar u8 (aT size rv)++Bu.drop size)=zU:=(by rw[aF,cB,dS,cr];omega);have Q:=abL (p:=p) (f:=f) (at_:=at_) (s:=s) hn OY Bt Ik I I hV;have hgE:aa p.E (at_+3) 0=rv:=(by rw[HU,<-hrv,<-EL];simp only[bX,nQ,fL]);have fj:iM p.aR p.aq p.E s kind size (at_+3)=(1,{s with out:=s.out++(aT size rv)}):=(by unfold iM;rw[aj I,ao fi,hgE]);have qC:=Q.2.2.2 _ fj;have mI:p.aR=0->(aT size rv)=[]:=λe=>k7.1 (by have:=Q.1;rw[dS];omega);clear Q;refine g_ 5 ?_;refine aX h J K8 (dg (ak (yd J J) ?_));refine g_ 2 ?_;refine dt (.int .i64 _) K8 ?_;intro w h;rw[abN]at h;exact aJ ⟨aO 49,_,pos+3+1,_,cP,(aT size rv),Bu.drop size,eP,cs,hO,m,o0,b0,o1,b1,o2,b2,kO,kv,lO,lv,[],({s with out:=s.out++(aT size rv)}),_,az,h,{b:=⟨J,jL,OZ⟩,k:=H7,l:=H8,u:=OJ,s:=KX},(dS ..).symm,J,{tr:=P.tr,tb:=P.tb,ok:=P.ok,a:=P.a,bd:=P.bd},J,(by rw[kU]),ks,qC,mI⟩
 refine g_ 5 ?_;refine au J ?_ ?_<;>intro ax3
 have cS:kind=2:=I;have kU:size=pA:=(by rw[<-Ik,aj I]);have Q:=λ(hf:pos+3+size<=W D)=>abL (p:=p) (f:=f) (at_:=at_) (s:=s) hn OY Bt Ik I I hV;replace Q:=Hid.mk Q;have Cu: ∀(iC:Nat),iC=at_+3->iM p.aR p.aq p.E s kind size iC=iL p.aR p.aq s (ag D (pos+3) size):=λiC e1=>(by unfold iM;rw[aj I,aj I,zS,e1,<-fL,EL]);refine g_ 5 ?_;refine aX h J K8 (dg (ak (yd J J) ?_));refine g_ 2 ?_;refine dt (.int .i64 _) K8 ?_;intro w h;rw[abN]at h;refine g_ 6 ?_;replace h:=h.zz [9,9,9,9,9,9,9,9,9,9] 0;refine cJ J J J ((azA (F:=F) (L:=(wo,C (ar u8 wd++od) 5)::L) (n:=size) (aR:=p.aR) (aq:=p.aq) (s:=s) (wd:=wd) (x:=(BX (YX x (eH x.gF 0 (ag D pos 3)) (IntKind.i64.wrap (x.oM+((3:Nat):Int)))) ob x.bN x.bC)) (bv:=bv) h (λe he=>aA (i_ e he)) hG hD qH h3 kK YY ?_ Dg.2.1 I akT aAL pZ ?_ ?_ ?_).mono ?_)
 have h0:=aY.own (F:=[]) (T:=5) OX;show aY _ (.slice x.wA x.wN x.wC) wd;rw[OW,UR];exact h0.sub (λe he=>by rcases jT.1 he with rfl;exact fQ ..)
 exact{b:=⟨J,Bj.2⟩,k:=H7,l:=H8,u:=OJ,s:=KX}
 exact{tr:=P.tr,tb:=P.tb,ok:=P.ok,a:=P.a,bd:=P.bd}
 intro hf;have h0:=(Q.o hf).2.1;rw[Cu _ J]at h0;exact h0
 clear h;rintro e w1 ⟨A9,rfl,sB,Fg⟩;replace sB:=Hid.mk sB;replace Fg:=Hid.mk Fg;refine⟨_,J,?_⟩;refine g_ 5 ?_;refine ak (Ul (aU:=aU) A9 (pos+3+size<=W D/\(iL p.aR p.aq s (ag D (pos+3) size)).1=1) J (λe=>(sB.o e).1) (λe=>(Fg.o e).1) J) (aJ (au J ?_ ?_))<;>intro abT
 have cF:(p.V (f+1) at_ s).1≠1:=by
  by_cases hf:pos+3+size<=W D
  have h0:=(Q.o hf).2.2.1;rw[Cu _ J]at h0;exact h0 (λe=>abT ⟨hf,e⟩)
  exact Ij.o (bG I)
 have fx:=Fg.o abT;refine g_ 6 ?_;exact⟨A9,J,bG ⟨fx.1,cF,by obtain⟨Z,hZ⟩:=fx.2;exact⟨Z++[_],by rw[bV];exact hZ⟩⟩⟩
 have kI:=oB.1 abT;have qD:=sB.o kI;have vH:=qD.2;refine aZ (vH) (λx1 eK=>aZ (eK) (λpr5 eJ=>aZ (eJ) (λoc fH=>aZ (fH) (λbv5 gN=>aZ (gN) (λof5 oJ=>aZ (oJ) (λcs5 yb=>aZ (yb) (λhO5 J3=>aZ (J3) (λm5 yc=>aZ (yc) (λp0 tj=>aZ (tj) (λd0 hx9=>aZ (hx9) (λp1 aAO=>aZ (aAO) (λd1 aAP=>aZ (aAP) (λp2 aAQ=>aZ (aAQ) (λd2 aAR=>aZ (aAR) (λkO5 aAS=>aZ (aAS) (λkv5 aAT=>aZ (aAT) (λlO5 aAU=>aZ (aAU) (λlv5 aAV=>aZ (aAV) (λG yu=>?_)))))))))))))))))));clear vH;have h:=yu.1;have Fo:=yu.2.1;have aAW:=yu.2.2.1;have sD:=yu.2.2.2;refine B9 (sD) λs5 yx qG aAX=>?_;clear sD yu;obtain⟨aAY,aAZ,aA0,aA1,O0⟩:=aAX;rw[aA0]at h Fo;replace h:=H.ako (A:=[(ah br (aB x1) 81),(ah sb [.slice iA (W D) ic,af (pos+3+size),.int .i64 pr5] 84),(oc,C (ar u8 yx++qG) 5),(of5,C (dp cs5) 227),(hO5,C (ar dG m5) 174),(p0,C (bP d0) 214),(p1,C (bP d1) 214),(p2,C (bP d2) 214),(kO5,C (kv5) 5),(lO5,C (lv5) 5)]) (B:=[(wo,C (ar u8 wd++od) 5)]) h;dsimp only[List.cons_append,List.nil_append]at h;have UT:pos+3+size<=W D:=kI.1;have OA:=(Q.o UT).2.2.2 s5 (by rw[Cu _ J];exact aAY);have mI:p.aR=0->yx=[]:=λe=>absurd kI.2 (aAG (by rw[dK UT];have:=(Q.o UT).1;omega));refine g_ 7 ?_;refine ak (yd J J) ?_;refine g_ 2 ?_;refine cI ?_;intro w h;rw[ahJ]at h;exact aJ ⟨aO 30,_,pos+3+size,pr5,oc,yx,qG,of5,cs5,hO5,m5,p0,d0,p1,d1,p2,d2,kO5,kv5,lO5,lv5,G,s5,_,az,h,{b:=Fo.b,k:=Fo.k,l:=Fo.l,u:=Fo.u,s:=Fo.s},aA1,show z8 x1=z8 x from(aAx aAW).trans J,{tr:=O0.tr,tb:=O0.tb,ok:=O0.ok,a:=O0.a,bd:=O0.bd},aAZ,(by rw[kU]),UT,OA,mI⟩
 refine g_ 5 ?_;refine au J ?_ ?_<;>intro aK3
 have cF:(p.V (f+1) at_ s).1≠1:=Ij.o (a_ (a_ I));refine g_ 4 ?_;refine eS J J J J (aH (re h bZ (rj.sub aP)) ?_);rintro e w1 ⟨be,rfl,h⟩;refine g_ 3 ?_;exact abO
 exfalso;omega
 rintro ρ w ⟨g,j,qz,U,out,Y,j5,ik,qF,m1,p0,d0,p1,d1,p2,d2,lQ,oR,qI,Dh,G,s1,zz,⟨Uk,rfl⟩,h,R,jD,CB,AD,A_,qX,abU,du,mI⟩;have hcq:=CB;unfold z8 at hcq;simp only[qO]at hcq;obtain⟨e1,e2,e3,e4,e5,e6,e7,e8,e9,e10,e11,e12,e13,e14,e15,e16⟩:=hcq;have K_:Gl (G++L) aE aU:=rj.sub aP;have aA2:aY (G++L) (.slice iA (W D) ic) D:=UQ.sub aP;have zn:(aB g)[4]? =some (.bool (!p.known)):=(by rw[<-akU,<-e5];rfl);have UU: ∀a b c d e,(aB (ZB g a b c d e))[7]? =some (.slice (aI U) (W out) g.bC):=λa b c d e=>(by show some (Value.slice g.bA g.bN g.bC)=_;rw[R.b.1,jD]);have Cf:W s1.out=W s.out+W out:=(by rw[A_,aF]);have aA3:b8 U (W out) g.bC (ar u8 out) Y 1:=⟨by rw[cB,fg],by rw[R.b.2.1,fg],(by have h0:=R.b.2.1;rw[aF,cB]at h0;omega),R.b.2.2⟩;have nC:aY [(U,C (ar u8 out++Y) 5)] (.slice (aI U) (W out) g.bC) out:=aY.own aA3;have AF:W out<=4194304:=I;rw[aAt]at h;refine cW [(2,2),(212,243)] (λρ w=> ∃z:Nat,Kn ρ []/\H r w ((ah br (aB (ZB g z g.xl g.xv g.xb g.xc)) 81)::(ah sb [.slice iA (W D) ic,af (j),.int .i64 qz] 84)::(U,C (ar u8 out++Y) 5)::(j5,C (dp ik) 227)::(qF,C (ar dG m1) 174)::(p0,C (bP d0) 214)::(p1,C (bP d1) 214)::(p2,C (bP d2) 214)::(lQ,C (oR) 5)::(qI,C (Dh) 5)::(wo,C (ar u8 wd++od) 5)::(G++L))/\(p.known=true->z+W s1.out=p.size)/\(z<=aN .u64)) ?_ ?_
 refine g_ 5 ?_;refine aX h J (show(aB (ZB g g.rem g.xl g.xv g.xb g.xc))[4]? =_ from zn) (ak (k8 J) (aJ (eY J ?_ ?_)))<;>intro akX
 have Da:p.known=true:=(by simpa using akX);have O5:=aAJ Da;refine bY (bY (cm h [0,4,8,24,28,32,13,16,20,37,40] ?_));intro w h;refine aC 6 ?_;refine aQ J h J (UU _ _ _ _ _) ?_;refine aC 2 ?_;refine aQ J h J UP ?_;refine aC 2 ?_;refine au J ?_ ?_<;>intro aK4
 have cF:(p.V (f+1) at_ s).1≠1:=aAy du.2 Da (by rw[Cf];omega);refine g_ 4 ?_;refine eS J J J J (aH (re h bZ (K_.sub aP)) ?_);rintro e w1 ⟨be,rfl,h⟩;refine g_ 3 ?_;exact abP
 refine a8 (cm h [0,4,8,16,20,24,13,29,32,36,40,44,48,55] ?_);intro w h;refine aC 6 ?_;refine aQ J h J UP (aQ J h J (UU _ _ _ _ _) ?_);refine aC 2 ?_;refine aD J (jm J J I (by rw[e6];exact abQ)) ?_;refine aC 2 ?_;refine dt (cR (g.rem-W out)) UP ?_;intro w h;rw[aAu]at h;exact cO ⟨aO 30,g.rem-W out,az,h,(λ_=>by rw[Cf,e6];omega),aM (vZ _ _) (by rw[e6];exact abQ)⟩
 have Da:p.known=false:=(by simpa using akX);exact a8 ⟨aO 5,g.rem,az,h,(λe=>by rw[Da]at e;cases e),(by rw[e6];exact abQ)⟩
 rintro ρ w ⟨z,⟨wK,rfl⟩,h,lI,aA4⟩;have ka:(aB (ZB g z g.xl g.xv g.xb g.xc))[2]? =some (.bool p.sum):=(by rw[<-abR,<-e3];rfl);refine cW [(244,255)] (λρ w=> ∃K:Nat,∃M:Nat->Nat,∃N:Nat->UInt8,∃O:Nat,Kn ρ []/\H r w ((ah br (aB (ZB g z K M N O)) 81)::(ah sb [.slice iA (W D) ic,af (j),.int .i64 qz] 84)::(U,C (ar u8 out++Y) 5)::(j5,C (dp ik) 227)::(qF,C (ar dG m1) 174)::(p0,C (bP d0) 214)::(p1,C (bP d1) 214)::(p2,C (bP d2) 214)::(lQ,C (oR) 5)::(qI,C (Dh) 5)::(wo,C (ar u8 wd++od) 5)::(G++L))/\(p.sum=true->XI K M N O s1.out)) ?_ ?_
 refine g_ 5 ?_;refine aX h J ka (aJ (eY J ?_ ?_))<;>intro akY
 refine cm h [0,4,8,12,16,20,25,31] ?_;intro w h;refine aC 6 ?_;refine aQ J h J (UU _ _ _ _ _) (lW J J J J ?_)
 refine(az0 (x:={g with rem:=z}) (T:=s.out) (B:=out) h (nC.sub (λe he=>by
   rcases jT.1 he with rfl
   exact(aA bZ))) (by rw[e13,e14,e15,e16];exact aAK akY) I).mono ?_
 rintro e w1 ⟨rfl,xv3,xb3,xc3,h,aA5⟩;refine⟨_,J,?_⟩;exact cO ⟨aO 12,g.xl+W out,xv3,xb3,xc3,az,h,(λ_=>by rw[A_];exact aA5)⟩
 exact a8 ⟨aO 4,g.xl,g.xv,g.xb,g.xc,az,h,(λe=>by rw[akY]at e;cases e)⟩
 rintro ρ w ⟨K,M,N,O,⟨J4,rfl⟩,h,akZ⟩;refine g_ 4 ?_;refine ak (Xl J) (aJ (au J ?_ ?_))<;>intro ak0
 have gy: ¬n % 2=1:=(by have h0:=ak0;omega);have j3:=du.2;rw[aj gy]at j3;refine cm h [0,4,8,12,16,20,25,31] ?_;intro w h;refine aC 6 ?_;refine aQ J h J (UU _ _ _ _ _) ?_;replace h:=h.zz [10,1] 0;refine lW J J J J ?_;rw[aAw (y:=(ZB g z K M N O)) (S:=p.aR) (wo:=wo) (n:=W wd) (c:=x.wC) (o:=x.wO) (e8.trans US.1) (e9.trans OW) (e10.trans UR) e11 e12]at h
 refine(aAk (B:=out) h (nC.sub (λe he=>by
   rcases jT.1 he with rfl
   exact(aA bZ))) OX US.2 I Dg.1 Dg.2.1 Dg.2.2).mono ?_
 rintro e w1 ⟨rfl,wo5,wc5,UW,aA6,ak1,h,aA7,ak2⟩;refine⟨_,J,?_⟩;refine cO ?_;refine g_ 5 ?_;replace h:=h.zz [1,10,10,10,10,10,10,10,10,10,10] 0
 have aA8:UO (G++F) (WX (ZB g z K M N O) p.aR wo5 (W UW) wc5 ak1) m1 p0 p1 p2 d0 d1 d2 UW p s1:=
   {rel:={tr:=AD.tr,tb:=AD.tb,ok:=AD.ok,a:=AD.a,bd:=AD.bd},wS:=⟨J,US.2⟩,wl:=aAH ak2 Dg.1 Dg.2.1 Dg.2.2,pre:=by rw[A_];exact aAg ak2 J Dg.1 Dg.2.1 mI akT,d_:=e5.trans akU,rem:=lI,rm:=aA4,sm:=e3.trans abR,xi:=akZ,ol:=by omega}
 exact⟨_,J,a_ ⟨J,WX (ZB g z K M N O) p.aR wo5 (W UW) wc5 ak1,j,qz,U,out,Y,j5,ik,qF,m1,p0,d0,p1,d1,p2,d2,lQ,oR,qI,Dh,wo5,UW,aA6,G,h,{b:=R.b,k:=R.k,l:=R.l,u:=R.u,s:=R.s},⟨J,J,aA7⟩,jD,show z9 g=z9 x from akO CB,I,abU,bG ⟨e2,s1,A_,aA8,by rw[j3];congr 1;omega⟩⟩⟩
 have gy:n % 2=1:=(by have h0:=ak0;omega);have j3:=du.2;rw[ao gy]at j3;refine cW [(2,2),(266,280)] (λρ w=>Kn ρ []/\H r w ((ah br (aB (ZB g z K M N O)) 81)::(ah sb [.slice iA (W D) ic,af (j),.int .i64 qz] 84)::(U,C (ar u8 out++Y) 5)::(j5,C (dp ik) 227)::(qF,C (ar dG m1) 174)::(p0,C (bP d0) 214)::(p1,C (bP d1) 214)::(p2,C (bP d2) 214)::(lQ,C (oR) 5)::(qI,C (Dh) 5)::(wo,C (ar u8 wd++od) 5)::(G++L))/\(p.known=true->W s1.out=p.size)) ?_ ?_
 refine g_ 5 ?_;refine aX h J (show(aB (ZB g z K M N O))[4]? =_ from zn) (ak (k8 J) (dg (xG (t:=271) J (λO6=>?_) (λO6=>?_))))
 refine g_ 3 ?_;refine dI J J J (run_load h J UP) J ?_;refine g_ 3 ?_;refine au J ?_ ?_<;>intro ak3
 refine g_ 4 ?_;refine eS J J J J (aH (re h bZ (K_.sub aP)) ?_);rintro e w1 ⟨be,rfl,h⟩;refine g_ 3 ?_;exact⟨_,J,bG ⟨a_ ⟨_,J⟩,(by rw[j3];exact aAD (by simpa using O6) (aAE (lI (by simpa using O6)) ak3)),[_,_,_,_,_,_,_,_,_,_,_]++G,by rw[bV];exact h⟩⟩
 exact a8 ⟨aS,az,h,(λe=>aAF (lI e) (oB.1 ak3))⟩
 refine g_ 7 ?_;exact gK J (a8 ⟨aS,az,h,(λe=>by rw[e]at O6;cases O6)⟩)
 rintro ρ w ⟨⟨Ny,rfl⟩,h,ak4⟩;have aA9:(aB (ZB g z K M N O))[2]? =some (.bool p.sum):=(by rw[<-abR,<-e3];rfl);have aA_:(aB (YX (ZB g z K M N O) (ZB g z K M N O).gF (ZB g z K M N O).oM))[0]? =some (.iface 58 (bL sb)):=(by rw[<-qH,<-e1];rfl);rw[akM (x:=(ZB g z K M N O))]at h;refine cW [(2,2),(17,20),(281,324)] (λρ w=> ∃La:Nat,∃pr6:Int,∃sc6:Nat->UInt8,∃z6:Int,Kn ρ []/\H r w ((ah br (aB (YX (ZB g z K M N O) sc6 z6)) 81)::(ah sb [.slice iA (W D) ic,af (La),.int .i64 pr6] 84)::(U,C (ar u8 out++Y) 5)::(j5,C (dp ik) 227)::(qF,C (ar dG m1) 174)::(p0,C (bP d0) 214)::(p1,C (bP d1) 214)::(p2,C (bP d2) 214)::(lQ,C (oR) 5)::(qI,C (Dh) 5)::(wo,C (ar u8 wd++od) 5)::(G++L))/\(p.V (f+1) at_ s=(1,s1.out,La-base))/\(j<=La/\La<=W D)) ?_ ?_
 refine g_ 5 ?_;refine aX h J (show(aB (YX (ZB g z K M N O) (ZB g z K M N O).gF (ZB g z K M N O).oM))[2]? =_ from aA9) (aJ (eY J ?_ ?_))<;>intro abV
 have mQ:=akQ (p:=p) (s1:=s1) (e:=at_+3+pA) ak4;rw[ao abV]at mQ;refine bY (bY (cm h [0,4,8,16,20,24,28,13,35,36,40,44,48,52] ?_));intro w h;refine aC 6 ?_;refine aD J (wq (c:=4) (h1:=av.lit _) J J an) ?_;refine aQ J h J aA_ ?_;replace h:=h.zz [1] 0;refine lW J J J J (aH (CN (q:=28) (n:=4) h (aA2.sub aP) abU kK (K_.sub aP) (λ_=>rfl) (by rw[zL];decide) an) ?_);rintro e w1 ⟨xg,rfl,h⟩;rw[akN (k:=0) J (by rw[fR];omega)]at h;refine aC 6 ?_;refine g_ 3 ?_;refine ak (C_ (aE:=aE) (aU:=aU) J J) (aJ (au J ?_ ?_))<;>intro aA'
 have cF:(p.V (f+1) at_ s).1≠1:=(by rw[j3,mQ,ao (a_ I)];show(2:Nat)≠1;decide);refine g_ 4 ?_;refine eS (v1:=af 0) J J J J (aH (Fq (zo:=0) h (aA bZ) (K_.sub aP) (Fp aA')) ?_);rintro e w1 ⟨be,rfl,h⟩;refine g_ 3 ?_;replace h:=h.zz [10,10,10,10,10,10,10,10,10,9,10] 0;exact abP
 have h4:j+4<=W D:=I;have O7:j+min (W D-j) 4=j+4:=I;have CI:(D.drop j).take 4=ag D j 4:=rfl;rw[O7,CI]at h;have FC:W (ag D j 4)=4:=dK h4;have aBa:ag p.E (at_+3+pA) 4=ag D j 4:=(by rw[zS];congr 1;omega);have ak5:num (ag D j 4)<2^32:=qp;rw[aBa]at mQ;refine g_ 6 ?_;refine ak (wq (c:=4) (h1:=av.lit _) J J an) ?_;refine d' J J ((Hk h (akP (X:=ag D j 4) (aA bZ) FC.symm I) I).mono ?_);rintro e w1 ⟨rfl,h⟩;refine⟨dB (num (ag D j 4)),(by rw[je I]),?_⟩;refine g_ 7 ?_;refine d' J J (aH (az6 (T:=s1.out) h (aA bZ) (akZ abV) I) ?_);rintro e w1 ⟨rfl,h⟩;refine ak (cG (DX J J) (show lF s1.out % (aN .u32+1)=lF s1.out % 4294967296 from J)) ?_;refine g_ 9 ?_;refine au J ?_ ?_<;>intro aK5
 have cF:(p.V (f+1) at_ s).1≠1:=(by rw[j3,mQ,ao (bG I)];show(2:Nat)≠1;decide);refine g_ 3 ?_;refine d' J J (aH (ag6 h) ?_);rintro e w1 ⟨be0,rfl,h⟩;have aBb:(⟨be0,0,none⟩:Addr)≠aE:=λe=>(by obtain⟨lE,TE,hE⟩:=K_.bE;exact H.ag5 h (aA (aA (aA (aA (aA (aA (aA (aA (aA (aA (aA (hE)))))))))))) (cD Addr.block e));refine eS (v1:=af 0) J J J J (aH (R5 (zo:=0) bZ aBb h (aA (aA bZ)) (K_.sub aP)) ?_);rintro e w1 ⟨be,rfl,h⟩;refine g_ 3 ?_;replace h:=h.zz [11,11,11,11,11,11,11,11,11,10,11,11] 1;exact abP
 rw[aj I]at mQ;refine g_ 6 ?_;refine ak (yd J J) ?_;refine g_ 2 ?_;refine cI ?_;intro w h;rw[OU]at h;refine aJ ?_;replace h:=h.zz [10,10,10,10,10,10,10,10,10,9,10] 0;exact⟨aO 43,j+4,xg,_,_,az,h,(by rw[j3,mQ,qX];congr 2;omega),I,I⟩
 have mQ:=akQ (p:=p) (s1:=s1) (e:=at_+3+pA) ak4;rw[aj (λe=>by rw[abV]at e;cases e)]at mQ;exact a8 ⟨aO 4,j,qz,_,_,az,h,(by rw[j3,mQ,qX];congr 2;omega),aW _,abU⟩
 rintro ρ w ⟨La,pr6,sc6,z6,⟨Sr,rfl⟩,h,ak6,hp6⟩;refine g_ 4 ?_;refine iX (.bool false) ?_;intro w h;rw[aAv]at h;refine g_ 6 ?_;exact⟨_,J,a_ ⟨J,({YX (ZB g z K M N O) sc6 z6 with iD:=false}),La,pr6,U,out,Y,j5,ik,qF,m1,p0,d0,p1,d1,p2,d2,lQ,oR,qI,Dh,wo,wd,od,G,h,{b:=R.b,k:=R.k,l:=R.l,u:=R.u,s:=R.s},⟨e9.trans OW,e10.trans UR,(by show b8 wo (W wd) g.wC (ar u8 wd) od 1;rw[e11];exact OX)⟩,jD,show z9 g=z9 x from akO CB,I,hp6.2,a_ ⟨J,by rw[ak6,A_]⟩⟩⟩
end Go.Z
