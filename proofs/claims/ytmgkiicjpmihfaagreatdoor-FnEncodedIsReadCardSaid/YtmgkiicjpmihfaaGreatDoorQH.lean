/- Part 8 of the proof. -/
import Derived.KernelRfl
import Derived.Test.YtmgkiicjpmihfaaGreatDoorQG
set_option linter.all false
set_option maxRecDepth 20000
set_option maxHeartbeats 400000000
open List renaming length -> W, getD -> aa, map -> ar, replicate -> aT, set -> bJ, range -> cL
open UInt8 renaming ofNat -> bS
open Or renaming inl -> a_, inr -> bG
open Go.Z.Env renaming ev -> aL, put -> fU
namespace Go.Z
open Go Go.Proofs Tryz
variable {E:List UInt8}{B N N' a k sE m aq n off:Nat}{t:Tr}
def aaX(al:List Nat)(aq w:Nat): ∀i,2^w∣W (ff al aq (w+1) i)
 |0=>⟨0,J⟩
 | i+1=>by
  rw[ff,aF];refine Nat.dvd_add (aaX al aq w i) ?_;split
  rw[dS];exact Qw _
  exact⟨0,J⟩
def aaY{al:List Nat}{aq m:Nat}(a:W (df al aq m)=2^m): ∀d w,w+d=m->2^w∣W (df al aq w)
 |0,w,e=>by have:w=m:=I;subst this;rw[a];exact Qw _
 |d+1,w,e=>by have h:=aaY a d (w+1) I;have h2:2^w∣2^(w+1):=I8 2 I;have b:=Nat.dvd_trans h2 h;rw[df,aF]at b;exact(Nat.dvd_add_left (aaX al aq w (W al))).1 b
def aiJ(al:List Nat)(aq w:Nat): ∀n i j,i<W (ff al aq (w+1) n)->i/2^w=j/2^w->(ff al aq (w+1) n)[j]? =(ff al aq (w+1) n)[i]?
 |0,i,j,hi,_=>by simp[ff]at hi
 | n+1,i,j,hi,e=>by
  have hp:=eA w;obtain⟨c,b⟩:=aaX al aq w n;rw[ff]at hi ⊢;have d:=DT j (2^w);have f:=DT i (2^w);have l:=dY j hp;have g:=dY i hp;rcases dq i (W (ff al aq (w+1) n)) with h|h
  have a:j<W (ff al aq (w+1) n):=(by rw[b]at h ⊢;have h1:i/2^w<c:=(Qn hp).2 (by rw[im];exact h);rw[e]at h1;have:=(Qn hp).1 h1;rwa [im]);rw[gP h,gP a];exact aiJ al aq w n i j h e
  have a:W (ff al aq (w+1) n)<=j:=(by rw[b]at h ⊢;have h1:c<=i/2^w:=(I6 hp).2 (by rw[im];exact h);rw[e]at h1;have:=(I6 hp).1 h1;rwa [im]);rw[l_ h,l_ a];rw[aF]at hi;split at hi
  rename_i k;rw[ao k];rw[dS]at hi;rw[rK,rK];simp only[yS]at hi ⊢;rw[b]at h a hi ⊢;have h1:i/2^w=c:=Nat.div_eq_of_lt_le (by rw[im];exact h) (by rw[qQ,rN,im c];exact hi);have h2:j/2^w=c:=(by rw[<-e];exact h1);rw[h1]at f;rw[h2]at d;rw[ao I,ao I]
  simp at hi;omega
def aiK{al:List Nat}{aq m:Nat}(d:W (df al aq m)=2^m): ∀Z_,Z_<=m->Z_<=aq-> ∀{i j:Nat} {x:Nat×Nat},(df al aq Z_)[i]? =some x->i/2^(aq-x.2)=j/2^(aq-x.2)->(df al aq Z_)[j]? =some x
 |0,_,_,i,j,x,h,_=>by simp[df]at h
 | Z_+1,g,k,i,j,x,h,e=>by
  obtain⟨c,a⟩:=aaY d (m-Z_) Z_ I;rw[df]at h ⊢;rcases dq i (W (df al aq Z_)) with hi|hi
  rw[gP hi]at h;have hb:=aiK d Z_ I I h e;have b:=(qP.1 hb).1;rw[gP b];exact hb
  rw[l_ hi]at h;have l:=Ry (vU h);have f:=(qP.1 h).1;have he:aq-x.2=Z_:=I;rw[he]at e;have hp:=eA Z_;rw[a]at hi;have h1:c<=i/2^Z_:=(I6 hp).2 (by rw[im];exact hi);have h2:c<=j/2^Z_:=(by rw[<-e];exact h1);have b:2^Z_*c<=j:=(by have:=(I6 hp).1 h2;rwa [im]);rw[l_ (by rw[a];exact b)];rw[<-h];refine aiJ al aq Z_ (W al) _ _ f ?_;rw[a];have a1:i=(i-2^Z_*c)+2^Z_*c:=I;have a2:j=(j-2^Z_*c)+2^Z_*c:=I;have b1:i/2^Z_=(i-2^Z_*c)/2^Z_+c:=(by rw[a1];simp[Qq _ _ hp]);have b2:j/2^Z_=(j-2^Z_*c)/2^Z_+c:=(by rw[a2];simp[Qq _ _ hp]);omega
structure CY(t:Tr):Prop where
 ok:xT t
 bm: ∀i,aa t.bits i 0<=t.aq
 al: ∀i j,i<2^t.aq->i/2^(t.aq-aa t.bits i 0)=j/2^(t.aq-aa t.bits i 0)->aa t.bits j 0=aa t.bits i 0/\aa t.syms j 0=aa t.syms i 0
def axq{al:List Nat}(h:xT (mr al aq)):CY (mr al aq):=by
 have c:W (df al aq aq)=2^aq:=(by have:=h.syms;simpa [mr] using this);have g1: ∀i,aa (mr al aq).syms i 0=((df al aq aq)[i]?.map (·.1)).getD 0:=λi=>(by show((df al aq aq).map (·.1)).getD i 0=_;rw[bX,kP]);have g2: ∀i,aa (mr al aq).bits i 0=((df al aq aq)[i]?.map (·.2)).getD 0:=λi=>(by show((df al aq aq).map (·.2)).getD i 0=_;rw[bX,kP]);refine⟨h,λi=>?_,λi j hi e=>?_⟩
 rw[g2]
 cases a:(df al aq aq)[i]? with
 |none=>simp
 | some x=>
   have:=Rz (vU a)
   show x.2<=aq
   omega
 have d:i<W (df al aq aq):=(by rw[c];exact hi);have a:=gW d;obtain⟨x,b⟩: ∃x,(df al aq aq)[i]=x:=⟨_,J⟩;rw[b]at a;have hb:aa (mr al aq).bits i 0=x.2:=(by rw[g2,a];rfl);have hm:(mr al aq).aq=aq:=rfl;rw[hb,hm]at e;have f:=aiK c aq (aW _) (aW _) a e;rw[g1,g1,g2,g2,a,f];exact⟨J,J⟩
def aiL{ws:List Nat}(h:g9 ws=some t):CY t:=by
 have a:=(Ni h).1;unfold g9 at h;split at h
 cases h
 dsimp only at h;split at h
 cases h
 split at h
 cases h
 cases h;exact axq a
def aaZ{N l:Nat}{t:Tr}: ∀d i,(fy N t l (i+d)).1<=(fy N t l i).1
 |0,i=>Qx _
 |d+1,i=>by have h:=aaZ (N:=N) (l:=l) (t:=t) d i;rw[<-fL,fy];dsimp only;omega
def aiM(N l:Nat): ∀d,dE N (l:Int) (l+d)=dJ N 0 l*2^d
 |0=>by rw[kN,Ca N l l (aW _),vX];simp
 |d+1=>by rw[<-fL,dE,aiM N l d,aj I,jI,kN,im 2,sK]
def Oj{p:Nat}(h:p+k<=8*n):dJ (num (ag E off n)) p k=dJ (num E) (8*off+p) k:=by
 have h1:num (E.drop off)=num (ag E off n)+256^W (ag E off n)*num ((E.drop off).drop n):=(by have:=Cb ((E.drop off).take n) ((E.drop off).drop n);rw[uD]at this;exact this);rw[AW];by_cases d:n<=W (E.drop off)
 have a:W (ag E off n)=n:=(by unfold ag;rw[fR];omega);rw[a,show(256:Nat)^n=2^(8*n) by rw[Mc]]at h1;rw[h1];unfold dJ;obtain⟨c,b⟩: ∃c,8*n=p+(k+c):=⟨8*n-p-k,I⟩;rw[b,h_ 2 p,sK,Qq _ _ (eA _),h_ 2 k,sK,Qt]
 have:ag E off n=E.drop off:=(by unfold ag;rw[je I]);rw[this]
def aiN{cs many a i:Nat}(j:CY t)(C:2<=off)(hb:jg (ag E off cs)=some a)(hle:a<=8*cs)(hd:(gE (ag E off cs) t many).1≠0)(hi:i<many): ∃lf nx idx:Nat,(fy (num (ag E off cs)) t a i).1=(lf:Int)/\idx=dJ (num E) (8*off+lf-t.aq) t.aq/\idx<2^t.aq/\aa t.bits idx 0<=lf/\nx=lf-aa t.bits idx 0/\(fy (num (ag E off cs)) t a (i+1))=((nx:Int),(fy (num (ag E off cs)) t a i).2++[bS (aa t.syms idx 0)])/\lf<=8*cs:=by
 have u:=j.ok.aq;obtain⟨S,o⟩: ∃S,ag E off cs=S:=⟨_,J⟩;have q:=λp k (h:p+k<=8*cs)=>o▸(Oj (E:=E) (off:=off) h);rw[o]at hb hd ⊢
 have v:(fy (num S) t a many).1=0:=by
  unfold gE at hd;split at hd
  exact absurd J hd
  rw[hb]at hd;dsimp only at hd;split at hd
  exact absurd J hd
  rename_i w;exact oB.1 w
 have r:=aaZ (N:=num S) (l:=a) (t:=t) (many-i) i;have e:=aaZ (N:=num S) (l:=a) (t:=t) (many- (i+1)) (i+1);rw[show i+(many-i)=many by omega]at r;rw[show i+1+(many- (i+1))=many by omega]at e;rw[v]at r e;have D:=(Yy (N:=num S) (left:=a) j.ok i).2;obtain⟨lf,s⟩: ∃lf:Nat,(fy (num S) t a i).1=(lf:Int):=⟨(fy (num S) t a i).1.toNat,I⟩;have m:lf<=8*cs:=I;have n:fy (num S) t a (i+1)=((lf:Int) -aa t.bits (dE (num S) (lf:Int) t.aq) 0,(fy (num S) t a i).2++[bS (aa t.syms (dE (num S) (lf:Int) t.aq) 0)]):=(by rw[fy,s]);obtain⟨k,f⟩: ∃k,dE (num S) (lf:Int) t.aq=k:=⟨_,J⟩;rw[f]at n;have x:k<2^t.aq:=(by rw[<-f];exact wx _ _ _);have y:aa t.bits k 0<=lf:=(by rw[n]at e;dsimp only at e;omega);obtain⟨idx,g⟩: ∃idx,idx=dJ (num E) (8*off+lf-t.aq) t.aq:=⟨_,J⟩;have z:idx<2^t.aq:=(by rw[g];exact Gk _ _ _)
 have b:aa t.bits idx 0=aa t.bits k 0/\aa t.syms idx 0=aa t.syms k 0:=by
  rcases dq lf t.aq with h|h
  obtain⟨d,c⟩: ∃d,t.aq=lf+d:=⟨t.aq-lf,I⟩;have A:k=dJ (num S) 0 lf*2^d:=(by rw[<-f,c,aiM]);have B:idx/2^d=dJ (num S) 0 lf:=(by rw[q 0 lf I,g];unfold dJ;rw[c,show 8*off+lf- (lf+d)=8*off-d by omega,uC lf d,h_,Md,rM,<-h_,show 8*off-d+d=8*off+0 by omega]);refine j.al k idx x ?_;have he:t.aq-aa t.bits k 0=d+(lf-aa t.bits k 0):=I;rw[he,h_,<-rM,<-rM,B,A,Nat.mul_div_cancel _ (eA _)]
  have:idx=k:=(by rw[g,<-f,Ca _ _ _ h,q _ _ I];congr 1;omega);rw[this];exact⟨J,J⟩
 refine⟨lf,lf-aa t.bits idx 0,idx,s,g,z,by rw[b.1];exact y,J,?_,m⟩;rw[n,b.1,b.2];congr 1;omega
def Ba{len v a1:Nat}(hN: ∀p k,p+k<=B->dJ N' p k=dJ N p k)(c:B<=8*sE)(h:gh N len a false k=(v,a1,false))(b:a1<=B):gh N' sE a false k=(v,a1,false)/\a<=a1:=by
 unfold gh at*;split at h
 cases h;rw[ao I,hN _ _ b];exact⟨J,I⟩
 cases h
def aiO{len v a1:Nat}:gh N len a true k=(v,a1,false)->False:=by
 unfold gh;split<;>intro h<;>cases h
def aiP{len v a1:Nat}(hN: ∀p k,p+k<=B->dJ N' p k=dJ N p k)(b:B<=8*sE)(h:ky N len a false m=(v,a1,false))(c:a1<=B):ky N' sE a false m=(v,a1,false)/\a<=a1:=by
 unfold ky at*;dsimp only at*;rcases d:gh N len a false m.log2 with⟨x,i,f⟩;rw[d]at h;dsimp only at h;split at h
 rename_i hs;cases h;have:=Ba hN b d c;rw[this.1];dsimp only;rw[ao hs];exact⟨J,this.2⟩
 rename_i hs;rcases e:gh N len i f 1 with⟨y,j,fh⟩;rw[e]at h;dsimp only at h;have e2:=cD (λz=>z.2.1) h;have g:=cD (λz=>z.2.2) h;dsimp only at e2 g;subst e2;subst g
 cases f with
 |true=>exact(aiO e).elim
 | false=>
   have h2:=Ba hN b e c
   have h1:=Ba hN b d (aM h2.2 c)
   rw[h1.1];dsimp only
   rw[aj hs,h2.1]
   exact⟨h,aM h1.2 h2.2⟩
def Tu{N len symbols:Nat}: ∀{f:Nat} {out o:List Int} {a a':Nat},nt N len symbols f out a=some (o,a')->a<=a'
 | f+1,out,o,a,a',h=>by
  rcases b:gh N len a false 2 with⟨v,a1,b1⟩;rw[tW b]at h;have c:b1=false->a<=a1:=λe=>(by subst e;exact(Ba (N':=N) (sE:=len) (B:=8*len) (λ_ _ _=>rfl) (aW _) b (by unfold gh at b;split at b<;>cases b;omega)).2);split at h
  cases h
  rename_i hb;have d:b1=false:=(by cases b1 with|false=>rfl|true=>exact absurd (a_ J) hb);split at h
  cases h;exact c d
  exact aM (c d) (Tu h)
def aiQ{N N' len sE B symbols:Nat}(hN: ∀p k,p+k<=B->dJ N' p k=dJ N p k)(b:B<=8*sE): ∀{f:Nat} {out o:List Int} {a a':Nat},nt N len symbols f out a=some (o,a')->a'<=B->nt N' sE symbols f out a=some (o,a')
 | f+1,out,o,a,a',h,c=>by
  rcases d:gh N len a false 2 with⟨v,a1,b1⟩;rw[tW d]at h;split at h
  cases h
  rename_i hb;have g:b1=false:=(by cases b1 with|false=>rfl|true=>exact absurd (a_ J) hb);subst g;split at h
  rename_i e;cases h;rw[tW (Ba hN b d c).1,aj hb,ao e]
  rename_i e;rw[tW (Ba hN b d (aM (Tu h) c)).1,aj hb,aj e];exact aiQ hN b h c
def aiR{len v a1:Nat}(h:ky N len a false m=(v,a1,false)):a<=a1/\a1<=8*len\/a1=a:=by
 have c: ∀{a k v a1:Nat},gh N len a false k=(v,a1,false)->a1<=8*len:=λ{a k v a1} e=>(by unfold gh at e;split at e<;>cases e;omega);unfold ky at h;dsimp only at h;rcases b:gh N len a false m.log2 with⟨x,i,f⟩;rw[b]at h;dsimp only at h;split at h
 cases h;exact .inl ⟨(Ba (N':=N) (sE:=len) (B:=8*len) (λ_ _ _=>rfl) (aW _) b (c b)).2,c b⟩
 rcases d:gh N len i f 1 with⟨y,j,fh⟩;rw[d]at h;have e2:=cD (λz=>z.2.1) h;have g:=cD (λz=>z.2.2) h;dsimp only at e2 g;subst e2;subst g
 cases f with
 |true=>exact(aiO d).elim
 | false=>
   have h2:=(Ba (N':=N) (sE:=len) (B:=8*len) (λ_ _ _=>rfl) (aW _) d (c d)).2
   have h1:=(Ba (N':=N) (sE:=len) (B:=8*len) (λ_ _ _=>rfl) (aW _) b (c b)).2
   exact .inl ⟨aM h1 h2,c d⟩
def Tw{N len symbols:Nat}: ∀{f:Nat} {out o:List Int} {a a':Nat},nt N len symbols f out a=some (o,a')->a'<=8*len
 | f+1,out,o,a,a',h=>by
  rcases b:gh N len a false 2 with⟨v,a1,b1⟩;rw[tW b]at h;split at h
  cases h
  rename_i hb;have c:b1=false:=(by cases b1 with|false=>rfl|true=>exact absurd (a_ J) hb);subst c;split at h
  cases h;unfold gh at b;split at b<;>cases b;omega
  exact Tw h
def Ok{N len symbols:Nat}: ∀{f left:Nat} {out o:List Int} {a a':Nat},gz N len symbols f left out a=some (o,a')->a<=8*len->a<=a'/\a'<=8*len
 | f+1,left,out,o,a,a',h,e=>by
  by_cases c:left=0
  unfold gz at h;rw[ao c]at h;cases h;exact⟨aW _,e⟩
  rcases d:ky N len a false (left+1)with⟨v,a1,b1⟩;rw[xR c d]at h;split at h
  cases h
  rename_i hb;have g:b1=false:=(by cases b1 with|false=>rfl|true=>exact absurd (a_ J) hb);subst g;have hm:=aiR d;split at h
  cases b:nt N len symbols (symbols+1) (out++[(v:Int) -1]) a1 with
  |none=>rw[b]at h;cases h
  | some y=>
    rw[b]at h
    have h1:=Tu (o:=y.1) (a':=y.2) b
    have h2:=Ok (show gz N len symbols f _ y.1 y.2=some (o,a')from h) (Tw (o:=y.1) (a':=y.2) b)
    exact⟨I,h2.2⟩
  have h2:=Ok h I;exact⟨I,h2.2⟩
def aa1{N N' len sE B symbols:Nat}(hN: ∀p k,p+k<=B->dJ N' p k=dJ N p k)(c:B<=8*sE): ∀{f left:Nat} {out o:List Int} {a a':Nat},gz N len symbols f left out a=some (o,a')->a<=8*len->a'<=B->gz N' sE symbols f left out a=some (o,a')
 | f+1,left,out,o,a,a',h,l,i=>by
  by_cases d:left=0
  unfold gz at h ⊢;rw[ao d]at h ⊢;exact h
  rcases e:ky N len a false (left+1)with⟨v,a1,b1⟩;rw[xR d e]at h;split at h
  cases h
  rename_i hb;have j:b1=false:=(by cases b1 with|false=>rfl|true=>exact absurd (a_ J) hb);subst j;have hm:=aiR e;split at h
  rename_i g
  cases b:nt N len symbols (symbols+1) (out++[(v:Int) -1]) a1 with
  |none=>rw[b]at h;cases h
  | some y=>
    rw[b]at h
    have h1:=Tu (o:=y.1) (a':=y.2) b
    have hp:gz N len symbols f _ y.1 y.2=some (o,a'):=h
    have h2:=Ok hp (Tw (o:=y.1) (a':=y.2) b)
    rw[xR d (aiP hN c e I).1,aj hb,ao g,aiQ hN c (o:=y.1) (a':=y.2) b I]
    exact aa1 hN c hp (Tw (o:=y.1) (a':=y.2) b) i
  rename_i g;have h2:=Ok h I;rw[xR d (aiP hN c e I).1,aj hb,aj g];exact aa1 hN c h I i
def aiS{len symbols:Nat}{out:List Int}{lg size:Nat}(hN: ∀p k,p+k<=8*n->dJ N' p k=dJ N p k)(f:n<=sE)(h:fO N len aq symbols=some (out,lg,size))(hs:size<=n):fO N' sE aq symbols=some (out,lg,size):=by
 unfold fO at*;dsimp only at*;rcases c:gh N len 0 false 4 with⟨v,a,b⟩;rw[c]at h;dsimp only at h;split at h
 cases h
 rename_i hb;have e:b=false:=(by cases b with|false=>rfl|true=>exact absurd (a_ J) hb);subst e;have d:a<=8*len:=(by unfold gh at c;split at c<;>cases c;omega)
 cases hp:gz N len symbols (symbols+1) (2^(v+5)) [] a with
 |none=>rw[hp]at h;cases h
 | some y=>
   rw[hp]at h;cases h
   have hm:=Ok (o:=y.1) (a':=y.2) hp d
   rw[(Ba hN I c I).1]
   dsimp only
   rw[aj hb,aa1 hN I (o:=y.1) (a':=y.2) hp d I]
variable {cs i many:Nat}{w:World}
def oa(t:Tr)(i:Nat):Nat:=aa t.syms i 0 % 256*256+aa t.bits i 0
def HuT(L:List aK)(x:dk)(t:Tr):Prop:= ∃tb m,x.hA=some ⟨tb,0,none⟩/\(some tb,C (ar dG m) 174)∈L/\x.hN<=W m/\2^t.aq<=x.hN/\(∀i,i<2^t.aq->aa m i 0=oa t i)/\x.hb=t.aq
def aiT(E:List UInt8)(off cs:Nat):ag E off cs=(E.take (off+cs)).drop off:=by
 unfold ag;rw[IY,tH]
def aa2(h1:1<=cs)(h:off+cs<=W E)(a:(aa E (off+cs-1) 0).toNat=0):jg (ag E off cs)=none:=by
 have b:W (E.take (off+cs))=off+cs:=(by rw[fR];omega);have c:aa (E.take (off+cs)) (off+cs-1) 0=aa E (off+cs-1) 0:=(by simp only[bX,qg];rw[ao I]);rw[aiT];exact aif I (by rw[b,c];exact a)
def aa3(h1:1<=cs)(h:off+cs<=W E)(c:(aa E (off+cs-1) 0).toNat≠0):jg (ag E off cs)=some (7- (8-iE (aa E (off+cs-1) 0).toNat)+8*(cs-1)):=by
 have a:W (E.take (off+cs))=off+cs:=(by rw[fR];omega);have b:aa (E.take (off+cs)) (off+cs-1) 0=aa E (off+cs-1) 0:=(by simp only[bX,qg];rw[ao I]);rw[aiT,aih I (by rw[a,b];exact c),a,b];congr 2;omega
def Bs.start(h1:1<=cs)(h2:2<=off)(h:off+cs<=W E)(a:(aa E (off+cs-1) 0).toNat≠0):Bs E (off-2) (off+cs-1) (aa E (off+cs-1) 0).toNat (7- (8-iE (aa E (off+cs-1) 0).toNat)) (7- (8-iE (aa E (off+cs-1) 0).toNat)+8*(cs-1)+16):=by
 have hb:=toNat_le (aa E (off+cs-1) 0);have b:= @lk (aa E (off+cs-1) 0).toNat 8 I;exact⟨I,I,I,p_.init I a,I⟩
def vI{P:Program}{ρ:Env}{op:Op}{ty:TypeId}{w':World}{s:UInt8}(h:run P ρ op ty w= .ok (.value (iW n)) w')(e:n=s.toNat):run P ρ op ty w= .ok (.value (u8 s)) w':=by rw[h,e]
def aiU(h:(gE E t many).1≠0):1<=W E:=by
 rcases pd (W E) with e|e
 exfalso;apply h;unfold gE;rw[ao e]
 exact e
def aiV(h:jg E=none):(gE E t many).1≠1:=by
 unfold gE;split
 decide
 rw[h];show(2:Nat)≠1;decide
def aiW{l:Nat}(h:jg E=some l)(hd:(gE E t many).1≠0):gE E t many=(1,(fy (num E) t l many).2):=by
 unfold gE at*;split
 rename_i e;rw[ao e]at hd;exact absurd J hd
 rename_i e;rw[aj e,h]at hd;dsimp only at hd;rw[h];dsimp only;split
 rename_i e2;rw[ao e2]at hd;exact absurd J hd
 rfl
def HM(h:aa t.bits i 0<=11):oa t i % 2^8=aa t.bits i 0:=by unfold oa;omega
def Ol(h:aa t.bits i 0<=11):oa t i/2^8=(bS (aa t.syms i 0)).toNat:=by
 have e:(bS (aa t.syms i 0)).toNat=aa t.syms i 0 % 256:=(by simp);rw[e];unfold oa;omega
def Om(h:aa t.bits i 0<=11):oa t i<=65535:=by unfold oa;omega
def axt{r:fT}{L:List aK}{br dc bc:Nat}{x:dk}{aE aU:Addr}{ad:Option Addr}{ob:Option Nat}{sp:List Value}(h:H r w ((ob,C (ar u8 ([])++sp) 5)::L))(U:(ah br (aB x) 81)∈L)(hG:Gl L aE aU)(V:aY L (.slice ad (W E) dc) E)(X:W E<=268435456)(Y:b8 ob 0 bc [] sp 1)(hT:HuT L x t)(v:CY t)(Z:2<=off)(s:off+cs<=W E)(EG:many<=131072)(y:(gE (ag E off cs) t many).1≠0):Calls PP 110 #[.pointer (some ⟨br,0,none⟩),.slice ad (W E) dc,af off,af cs,af many,.slice (aI ob) 0 bc] w λe w'=> ∃er dh z mS dH v',e= .returned (.tuple #[v',er])/\H r w' ((z,C (ar u8 (dh)++dH) 5)::L)/\b8 z (W dh) mS (dh.map u8) dH 1/\((gE (ag E off cs) t many).1=1->er= .nilIface/\v'= .slice (aI z) (W dh) mS/\gE (ag E off cs) t many=(1,dh))/\((gE (ag E off cs) t many).1≠1-> ∃be,er= .iface 182 (.pointer (some ⟨be,0,none⟩))):=by
 have bF:W (ag E off cs)=cs:=dK s;have f:1<=cs:=(by have:=aiU y;omega);obtain⟨tb,m,hA,hm,u_,Fj,Fk,qx⟩:=hT;have mO:=v;have C5:=v.ok.aq;have u:=v.ok.le;have On:(aB x)[13]? =some (af t.aq):=(by rw[<-qx];rfl);have HN:(aB x)[12]? =some (.slice (some ⟨tb,0,none⟩) x.hN x.hC):=(by rw[<-hA];rfl);have n6:=eA t.aq;have Oo:2^t.aq<=2048:=aM (dF an C5) an;obtain⟨b,A⟩: ∃b,t.aq=b:=⟨_,J⟩;rw[A]at C5 On Fj Fk n6 Oo;obtain⟨iR,CK⟩:=dw U;obtain⟨iT,hiT⟩:=dw hm;refine rU (P:=PP) func110 86 ntmps110 [12,13] J J (args:=[_,_,_,_,_,_]) J ?_;refine g_ 15 ?_;refine wj J J J J J (aH (Hl h (aA U) (hG.sub aP) (V.sub aP) (off:=off+cs-1) (st:=off-2) I X I) ?_);rintro e w1 ⟨vs,N0,rfl,vm,Fb,h,hz,rl⟩;refine g_ 3 ?_;refine eN h J ?_;intro bB w h;refine rW (vs:=vs) h J J vm Fb (by exact aW 6) J ?_;intro w h;dsimp only[bJ]at h;rw[HB (by rw[vm];rfl)]at h;refine g_ 6 ?_;refine ak (kg N0 (¬(aa E (off+cs-1) 0).toNat=0) J (λe=>(rl e).1) (λe=>hz (F9.1 e)) J) (aJ (au J ?_ ?_))<;>intro jA
 have g:(aa E (off+cs-1) 0).toNat=0:=I;have cF:(gE (ag E off cs) t many).1≠1:=aiV (aa2 f s g);refine g_ 7 ?_;replace h:=h.tail;(try dsimp only[dX]at h);exact⟨_,[],ob,bc,sp,_,J,h,Y,(λe=>absurd e cF),(λ_=>hz g)⟩
 have g:(aa E (off+cs-1) 0).toNat≠0:=I;have B:=aa3 f s g;have N1:=Bs.start f Z s g;rw[(rl g).2]at h;have S_:= @lk (aa E (off+cs-1) 0).toNat 8 (by have:=toNat_le (aa E (off+cs-1) 0);omega);refine cM (7- (8-iE (aa E (off+cs-1) 0).toNat)+8*(cs-1)) λc A5=>?_;rw[A5]at B N1;have D:c<=8*cs:=I;have g8:=aiW B y;refine g_ 6 ?_;refine aX h J HN ?_;refine g_ 7 ?_;refine aX h J On ?_;refine g_ 6 ?_;refine ak (gY J J dQ aG) ?_;refine g_ 9 ?_;refine cw (σ:=Nat×Nat×Nat×Nat×Nat×Option Nat×Nat×List Value) [(5,5),(12,13),(19,21),(49,84)] (λ⟨i,lf,o,bi,cn,k,p,l⟩ ρ w=>Kn ρ [(19,af i),(5,.slice (aI k) i p)]/\H r w ((ah bB [.pointer (some ⟨br,0,none⟩),.slice ad (W E) dc,bR o,bR (off-2),bR bi,bR cn] 207)::(k,C (ar u8 ((fy (num (ag E off cs)) t c i).2)++l) 5)::L)/\(i<=many)/\((fy (num (ag E off cs)) t c i).1=(lf:Int))/\(Bs E (off-2) o bi cn (lf+16))/\(b8 k i p (ar u8 ((fy (num (ag E off cs)) t c i).2)) l 1)) (λ⟨i,lf,o,bi,cn,k,p,l⟩=>many-i) (0,c,off+cs-1,(aa E (off+cs-1) 0).toNat,7- (8-iE (aa E (off+cs-1) 0).toNat),ob,bc,sp) ⟨az,h,(cj _),J,N1,Y⟩ ?_;rintro⟨i,lf,o,bi,cn,k,p,l⟩ ρ w ⟨⟨ny,rfl⟩,h,hi,jX,d,fi⟩;refine g_ 7 ?_;refine au J ?_ ?_<;>intro afB
 refine(aiN mO Z B D y (i:=i) I).elim λKK eJ=>?_;refine eJ.elim λnx fH=>?_;refine fH.elim λidx gN=>?_;obtain⟨su,F,E',G,K,q,M⟩:=gN;clear eJ fH;have N:=mO.bm idx;rw[A]at N;have O:KK=lf:=(by have:=jX;omega);rw[O]at F G K M;rw[A]at F E';have Nn:=u idx;have jV:=Om Nn;have aJx:=HM Nn;have HH:=d.left;have Oq:=d.st;have aiX:=d.le;have hBc:=d.vD;refine g_ 8 ?_;refine cJ J J J (aH (NF h (V.sub aP) d.le X I (b:=b) I d.vD d.Z9) ?_);rintro e w1 ⟨ok,o1,jo,Q,rfl,h,hoo,pk,R,gM,Ks,qC⟩;refine ak (k8 J) (aJ (eY J ?_ ?_))<;>intro GU
 exfalso;cases ok with|true=>exact absurd GU an|false=>have:=Ks J;omega
 have KL:ok=true:=(by cases ok with|true=>rfl|false=>exact absurd GU an);have gj:=gM KL;have j3:=qC Oq;have Tx:Q<=32:=I;have axx:=R.1;have CZ:jo/2^(Q-b) % 2^b=idx:=(by rw[R.val gj.1 Tx,F];congr 1;omega);have S:(ar dG m)[idx]? =some (dG (oa t idx)):=(by rw[E6 I,Fk _ E']);refine g_ 12 ?_;refine ak (jm J J gj.1 aG) ?_;refine g_ 2 ?_;refine ak (kJ (n:=b) J J (aM (k6 _ _) aG) aG) ?_;refine g_ 6 ?_;refine ak (j8 J J J (by rw[CZ];omega)) ?_;refine aX h J (by rw[CZ];exact S) ?_;refine g_ 7 ?_;refine ak (vI (eZ (a:=oa t idx/2^8) J aG) (Ol (u idx))) (mf J (ly _) h ?_);intro bz w h;refine me (ar u8 ((fy (num (ag E off cs)) t c i).2)) l [u8 (bS (aa t.syms idx 0))] h 2 J J J fi (Src.slice (j:=0) (q2:=0) J ⟨J,trivial⟩ J) (by intro x hx;simp at hx;subst hx;rfl) I an J ?_;intro w dR c9 ep h dC gl fk;dsimp only[bJ]at h;have T:(fy (num (ag E off cs)) t c i).2++[bS (aa t.syms idx 0)]=(fy (num (ag E off cs)) t c (i+1)).2:=(by rw[q]);rw[aiE,T]at h dC;have zu:b8 dR (i+1) c9 (ar u8 ((fy (num (ag E off cs)) t c (i+1)).2)) ep 1:=⟨by rw[cB,Co,fg],dC,gl,fk⟩;replace h:=h.tail;(try dsimp only[dX]at h);refine g_ 6 ?_;refine ak (kJ (n:=8) J J aG an) ?_;refine ak (eZ J (by rw[HM (u idx)];simp only[aN];omega)) ?_;refine ak (jm J J (by rw[HM (u idx)];omega) aG) ?_;refine qm J (cI ?_);intro w h;refine g_ 6 ?_;exact⟨aO 41,(i+1,nx,o1,jo,Q-oa t idx % 2^8,dR,c9,ep),cQ,az,h,I,(by rw[q]),⟨by have:=d.st;omega,by have:=d.le;omega,I,p_.less R (vZ _ _),by have:=d.left;have:=d.st;omega⟩,zu⟩
 have q6:i=many:=I;have mP:=fi;rw[q6]at mP h;have Ty:W ((fy (num (ag E off cs)) t c many).2)=many:=Co _ _ _ _;refine g_ 8 ?_;replace h:=h.tail;(try dsimp only[dX]at h);rw[q6];exact⟨_,(fy (num (ag E off cs)) t c many).2,k,p,l,_,J,h,(by rw[Ty];exact mP),(λ_=>⟨J,jw J Ty.symm J,g8⟩),(λe=>absurd (by rw[g8]) e)⟩
variable {f:FuncId}
section
variable {n:Nat}{K:ia}{ρ:Env}{w:World}{all:Array Oper}{d:Option Nat}{ty:TypeId}{pos:String}{aV:Array Edge}{ts:Array TypeId}{x y z x0:Operand}{v0 c0 c1 c2:Value}{rest:List Oper}
def axz(a:aL ρ x=c0)(h1:aL ρ y=c1)(h2:aL ρ z=c2):run PP ρ (.makeFunc (.func f) #[] #[x,y,z]) ty w= .ok (.value (.func (.func f) #[] #[c0,c1,c2])) w:=by
 simp[run,execOp,Instr.makeFunc,a,h1,h2]
def axA[hb:Body PP f](a:aL ρ y= .func (.func f) #[] #[c0,c1,c2])(b:aL ρ x0=v0):run PP ρ (.call {callee:= .value y,args:= #[x0],argTypes:=ts}) ty w= .ok (.enter f #[v0,c0,c1,c2]) w:=by
 have h:=hb.run #[v0,c0,c1,c2] w;simp[run,execOp,resolve,invoke,Deferred.ofValue,a,b,h]
def Tz[Body PP f] (a:aL ρ y= .func (.func f) #[] #[c0,c1,c2]) (b:aL ρ x0=v0) (hd:bH n d=true)
 (h:Calls PP f #[v0,c0,c1,c2] w λe w'=> ∃v,e= .returned v/\O PP n all rest K (fU ρ d v) w'):
 O PP n all ({dst:=d,op:= .call {callee:= .value y,args:= #[x0],argTypes:=ts},type:=ty,pos:=pos,after:=aV,guard:=none}::rest) K ρ w:=Mq (axA a b) hd h
end
variable {zs:List Value}{fh size:Nat}{T2:TypeId}
section
variable {P:Program}{n:Nat}{K:ia}{ρ:Env}{all:Array Oper}{rest:List Oper}{d:Option Nat}{ty:TypeId}{pos:String}{aV:Array Edge}
variable {r:fT}{w:World}{L:List aK}{x y z:Operand}{b q i:Nat}{l:List Value}{T T':TypeId}{v:Value}
def TA{v:Value}(h:v∈dD zs m)(a:0<W zs):v∈zs:=by
 unfold dD at h;obtain⟨j,b,e⟩:=jS.1 h;have hm:=dY j a;rw[gW hm]at e;subst e;exact Ai hm
def aiY[hu:cu P T (.slice T')] [hs:Sz P T' size] [u:Zr P T' zs] [hb:By P T' fh] [x:cu P T2 (.int .i64)](E:W zs=size){ob:Option Nat}{xs sp:List Value}{nn c m:Nat}(h:H r w L)(hi:L[i]? =some (ob,C (xs++sp) T'))(n:W xs=nn*size)(F:W (xs++sp)=c*size)(wu:nn<=c)(G:ob=none->c=0)(gv:0<size)(y: ∀v∈zs,plain v=true)(fx:(2*(nn+m)+1000)*fh<=281474976710656)(XD:nn+m<=281474976710656): ∃w' z c' K,(Builtin.append_ #[T,T2] ty #[.slice (aI ob) nn c,af m]).run P w= .ok (.slice (aI z) (nn+m) c') w'/\H r w' (L.set i (z,C (xs++dD zs m++K) T'))/\W (xs++dD zs m++K)=c'*size/\nn+m<=c'/\(z=none->c'=0):=by
 obtain⟨t,t1,t2⟩:=hb.bytes w;have e2:=hs.size w;have Z: ∀v∈dD zs m,plain v=true:=λv hv=>y v (TA hv I);have h1:W (dD zs m)=m*size:=(by rw[D7,E]);have ph:i<W L:=(qP.1 hi).1;have M:IntKind.i64.wrap ((m:Nat):Int)=(m:Int):=uF .i64 m aG;have N: ¬((281474976710656:Int)<(m:Int)*(fh:Int)):=(by have h3:m*fh<=(2*(nn+m)+1000)*fh:=rL fh I;have h4:((m*fh:Nat):Int)=(m:Int)*(fh:Int):=(by simp);omega);have O: ¬((m:Int)<0):=I
 have Q: ∀w':World,(if m*size=0 then(pure #[]:Sem (Array Value))else do pure (Builtin.zeroCells (<-zeroValue T').cells m)).run P w'= .ok (dD zs m).toArray w':=by
  intro w';obtain⟨o,f,p⟩:=u.zero w';by_cases d:m*size=0
  rw[ao d];have:dD zs m=[]:=k7.1 (by rw[h1,d]);rw[this];simp
  rw[aj d];have q:(Builtin.zeroCells o.cells m)=⟨dD zs m⟩:=(by rw[p];apply FY.1;simp[Builtin.zeroCells,dD,DN,tD]);simp[f,q]
 by_cases s:nn+m<=c
 have hle:nn*size+W (dD zs m)<=W (xs++sp):=(by have:(nn+m)*size<=c*size:=rL _ s;rw[qQ]at this;omega)
 cases ob with
 | none=>
   have R:=G J
   subst R
   obtain rfl:nn=0:=I
   obtain rfl:m=0:=I
   have l:dD zs 0=[]:=k7.1 (by rw[h1];omega)
   refine⟨w,none,0,sp,?_,?_,by rw[l];simpa using F,aW _,λ_=>rfl⟩
   . simp[Builtin.append_,underlying,program,Sem.run,hu.eq,x.eq,e2,t1,t2,asInt,asIntOf,aI,show IntKind.i64.wrap 0=0 from J]
   . rw[l,dN,Jo hi];exact h
 | some b=>
   obtain⟨w',s1,s2,_,_⟩:=D5 (P:=P) (dD zs m) w L (xs++sp) (nn*size) 0 h hi Z I
   refine⟨w',some b,c,sp.drop (W (dD zs m)),?_,?_,?_,s,λe=>by cases e⟩
   . have:=Q w
     simp[Builtin.append_,underlying,program,Sem.run,hu.eq,x.eq,e2,s,t1,t2,asInt,asIntOf,M,O,N,aI,add_plain]
     by_cases d:m*size=0
     . have l:dD zs m=[]:=k7.1 (by rw[h1];exact d)
       rw[l]at s1
       simp[d,s1]
     . have A: ¬(m*size=0):=d
       rw[aj A]at this
       simp at this
       obtain⟨o,f,p⟩:=u.zero w
       simp[f]at this
       simp[d,f,this,s1]
   . have e5:dm (xs++sp) (nn*size+0) (dD zs m)=xs++dD zs m++sp.drop (W (dD zs m)):=by
       rw[kN,BY _ _ _ hle,<-n]
       simp[FZ]
     rw[e5]at s2;exact s2
   . simp only[aF,cr]at F hle ⊢;omega
 have j9:c<nn+m:=I;have BZ: ¬((281474976710656:Nat)<Builtin.nextslicecap (nn+m) c*fh):=(by have:=rL fh (QS j9);omega);have Gh: ¬((9223372036854775807:Int)<(nn:Int)+(m:Int)):=I;obtain⟨a,B⟩: ∃a:World,a=w.drew:=⟨_,J⟩;have S:H r a L:=(by rw[B];exact h.drew);have D:=Q a;obtain⟨o,f,p⟩:=u.zero a;obtain⟨t',U,V⟩:=hb.bytes a;obtain⟨g,X⟩: ∃g,g=(Question.appendCap (nn+m) c T').cut (w.tape w.drawn (Question.appendCap (nn+m) c T')):=⟨_,J⟩;have oC:nn+m<=g:=(by rw[X];exact QT _ _ _ _);have Y: ∀k,(askRoom k).run P a= .ok () a:=λk=>(by unfold askRoom;split<;>simp[mark,Sem.run])
 have hold:(Builtin.firstCells size nn (.slice (aI ob) nn c)).run P a= .ok xs.toArray a:=by
  cases ob with
  | none=>
    have R:=G J
    have : xs = [] := k7.1 (by rw[n]; have:nn=0:=I; subst this;simp)
    subst this;simp[Builtin.firstCells,aI]
  | some b=>
    simp only[Builtin.firstCells,aI]
    refine D4 S hi ?_ n
    exact Rd.of λj hj=>by rw[il,gP hj]
 have q:(Builtin.zeroCells o.cells (g- (nn+m)))=⟨dD zs (g- (nn+m))⟩:=(by rw[p];apply FY.1;simp[Builtin.zeroCells,dD,DN,tD]);have Gi:(Question.appendCap (nn+m) c T').forced=false:=rfl;refine⟨a.alloc (C (xs++dD zs m++dD zs (g- (nn+m))) T'),some a.heap.size,g,dD zs (g- (nn+m)),?_,(S.alloc _).replace ph,?_,oC,λe=>by cases e⟩
 simp[Builtin.append_,underlying,program,Sem.run,hu.eq,x.eq,e2,s,t1,t2,asInt,asIntOf,M,O,N,BZ,Gh,choose,Gi];simp only[<-X,show({w with drawn:=w.drawn+1}:World)=a from B.symm,show w.drew=a from B.symm];by_cases d:m*size=0
 have l:dD zs m=[]:=k7.1 (by rw[h1];exact d);simp[C,U,V,Y,hold,d,f,q,l,newRow,newObj,Sem.run,show aI (some a.heap.size)=some ⟨a.heap.size,0,none⟩from J]
 have A: ¬(m*size=0):=d;rw[aj A]at D;simp[f]at D;simp[C,U,V,Y,hold,d,f,D,q,newRow,newObj,Sem.run,show aI (some a.heap.size)=some ⟨a.heap.size,0,none⟩from J]
 rw[aF,aF,h1,D7,E,n,<-qQ,<-qQ];congr 1;omega
def aiZ[hu:cu P T (.slice T')] [hs:Sz P T' size] [s:Zr P T' zs] [hb:By P T' fh] [t:cu P T2 (.int .i64)]{ob:Option Nat}{nn c m:Nat}(xs sp:List Value)(h:H r w L)(i:Nat)(g:aL ρ x= .slice (aI ob) nn c)(j:aL ρ y=af m)(hi:L[i]? =some (ob,C (xs++sp) T'))(hlen:W xs=nn*size/\W (xs++sp)=c*size/\nn<=c/\(ob=none->c=0))(k: ∀v∈zs,plain v=true)(e:(2*(nn+m)+1000)*fh<=281474976710656/\nn+m<=281474976710656)(f:W zs=size/\0<size)(hd:bH n d=true)(l: ∀w' a c' b,H r w' (L.set i (a,C (xs++dD zs m++b) T'))->W (xs++dD zs m++b)=c'*size->nn+m<=c'->(a=none->c'=0)->O P n all rest K (fU ρ d (.slice (aI a) (nn+m) c')) w'):O P n all ({dst:=d,op:= .call {callee:= .builtin .append,args:= #[x,y],argTypes:= #[T,T2]},type:=ty,pos:=pos,after:=aV,guard:=none}::rest) K ρ w:=by
 obtain⟨w',a,c',b,h1,h2,o,p,q⟩:=aiY (P:=P) (ty:=ty) (T:=T) (T2:=T2) f.1 h hi hlen.1 hlen.2.1 hlen.2.2.1 hlen.2.2.2 f.2 k e.1 e.2;exact gQ (D8 g j h1) hd (l w' a c' b h2 o p q)
end
def cG{P:Program}{ρ:Env}{op:Op}{ty:TypeId}{w':World}{k:IntKind}{b:Nat}(h:run P ρ op ty w= .ok (.value (.int k ((a:Nat):Int))) w')(e:a=b):run P ρ op ty w= .ok (.value (.int k ((b:Nat):Int))) w':=by rw[h,e]
variable {X:List UInt8}{y:UInt8}
def TC{S:List UInt8}{pos:Nat}(hi:i<4)(h1:(f_ S t many i).1=1)(c:(f_ S t many 4).1≠0)(hp:(f_ S t many i).2.2=pos)(d:(if i=3 then many-3*((many+3)/4)else(many+3)/4)=n)(hs:(if i=3 then W S-pos else num (ag S (2*i) 2))=size):(W S-pos<size->(f_ S t many 4).1≠1)/\(size<=W S-pos->n≠0/\(gE (ag S pos size) t n).1≠0/\((gE (ag S pos size) t n).1≠1->(f_ S t many 4).1≠1)/\((gE (ag S pos size) t n).1=1->f_ S t many (i+1)=(1,(f_ S t many i).2.1++(gE (ag S pos size) t n).2,pos+size))):=by
 have e:f_ S t many (i+1)=if W S-pos<size then(2,[],0)else if n=0 then(0,[],0)else
     if(gE (ag S pos size) t n).1≠1 then((gE (ag S pos size) t n).1,[],0)else(1,(f_ S t many i).2.1++(gE (ag S pos size) t n).2,pos+size):=by
   rw[f_];dsimp only
   rw[aj I,hp,d,hs]
 have a:(f_ S t many (i+1)).1≠1->(f_ S t many 4).1=(f_ S t many (i+1)).1:=λf=>(by rw[M' f I]);refine⟨λg=>?_,λh=>?_⟩
 rw[ao g]at e;rw[a (by rw[e];show(2:Nat)≠1;decide),e];show(2:Nat)≠1;decide
 rw[aj I]at e;by_cases b:n=0
 rw[ao b]at e;exact absurd (by rw[a (by rw[e];show(0:Nat)≠1;decide),e]) c
 rw[aj b]at e;refine⟨b,?_,?_,?_⟩
 intro hd;rw[ao I]at e;exact c (by rw[a (by rw[e];show(gE (ag S pos size) t n).1≠1;omega),e];exact hd)
 intro hd;rw[ao hd]at e;rw[a (by rw[e];exact hd),e];exact hd
 intro hd;rw[aj I]at e;exact e
def TD{T pos O:Nat}{outs:List UInt8}(e:off+T<=W E)(hO:O=off+pos)(f:2<=O)(g:pos+size<=T)(hi:i<4)(h1:f_ (ag E off T) t many i=(1,outs,pos))(h:(f_ (ag E off T) t many 4).1≠0)(j:(if i=3 then many-3*((many+3)/4)else(many+3)/4)=n)(hs:(if i=3 then T-pos else num (ag (ag E off T) (2*i) 2))=size):1<=n/\1<=size/\((aa E (O+size-1) 0).toNat=0->(f_ (ag E off T) t many 4).1≠1)/\((aa E (O+size-1) 0).toNat≠0-> ∃lf X,jg (ag E O size)=some lf/\lf<=8*size/\Bs E (O-2) (O+size-1) (aa E (O+size-1) 0).toNat (7- (8-iE (aa E (O+size-1) 0).toNat)) (lf+16)/\(gE (ag E O size) t n).1≠0/\X=(fy (num (ag E O size)) t lf n).2/\W X=n/\f_ (ag E off T) t many (i+1)=(1,outs++X,pos+size)):=by
 have b:W (ag E off T)=T:=dK e;have c:=(TC (pos:=pos) (n:=n) (size:=size) hi (by rw[h1]) h (by rw[h1]) j (by rw[b];exact hs)).2 (by rw[b];omega);rw[h1,jy g,<-hO]at c;obtain⟨a1,a2,k,l⟩:=c;have p:W (ag E O size)=size:=dK I;have a:1<=size:=(by have:=aiU a2;omega);refine⟨I,a,λm=>k (aiV (aa2 a I m)),λd=>?_⟩;have hb:=aa3 (off:=O) a I d;have o:=Bs.start a f I d;have q:= @lk (aa E (O+size-1) 0).toNat 8 (by have:=toNat_le (aa E (O+size-1) 0);omega);have hd:=aiW hb a2;exact⟨_,_,hb,I,o,a2,J,Co _ _ _ _,by rw[l (by rw[hd]),hd]⟩
def HO(E:List UInt8)(t:Tr)(O size a i o bi cn lf:Nat):Prop:=(fy (num (ag E O size)) t a i).1=(lf:Int)/\Bs E (O-2) o bi cn (lf+16)
def pz(X:List UInt8)(i:Nat):List UInt8:=X.take i++aT (W X-i) 0
def Fl(X:List UInt8)(i:Nat):W (pz X i)=W X:=by unfold pz;rw[aF,fR,dS];omega
def axB(X:List UInt8):pz X 0=aT (W X) 0:=by unfold pz;simp
def TG(h:W X<=i):pz X i=X:=by unfold pz;rw[je h,Nat.sub_eq_zero_of_le h];simp
def axC(h:i<W X):(pz X i).set i (aa X i 0)=pz X (i+1):=by
 unfold pz;have a:W (X.take i)=i:=(by rw[fR];omega);rw[IZ _ _ I,a,vX,lY X 0 i h];obtain⟨c,b⟩: ∃c,W X-i=c+1:=⟨W X-i-1,I⟩;rw[b,DQ,List.set_cons_zero,bV,show W X- (i+1)=c by omega];rfl
def TH{A B:List UInt8}{sp:List Value}{q:Nat}(a:q=W A+i)(h:i<W X)(b:aa X i 0=y):(ar u8 (A++(pz X i++B))++sp).set q (u8 y)=ar u8 (A++(pz X (i+1)++B))++sp:=by
 subst b;have c:=Fl X i;rw[Mh _ _ (by rw[cB,aF,aF];omega),<-kH,a,IZ _ _ I,tH,Mh _ _ I,axC h]
def four(X1 X2 X3 X4:List UInt8)(a b c d:Nat):List UInt8:=pz X1 a++(pz X2 b++(pz X3 c++pz X4 d))
def TJ(X1 X2 X3 X4:List UInt8)(a b c d:Nat):W (four X1 X2 X3 X4 a b c d)=W X1+(W X2+(W X3+W X4)):=by
 unfold four;simp only[aF,Fl]
section
variable {X1 X2 X3 X4:List UInt8}{a b c d q:Nat}{sp:List Value}{y:UInt8}
def axD(e:q=a)(h:a<W X1)(f:aa X1 a 0=y):(ar u8 (four X1 X2 X3 X4 a b c d)++sp).set q (u8 y)=ar u8 (four X1 X2 X3 X4 (a+1) b c d)++sp:=by
 have:=TH (A:=[]) (B:=pz X2 b++(pz X3 c++pz X4 d)) (sp:=sp) (q:=q) (by simpa using e) h f;exact this
def axE(e:q=W X1+b)(h:b<W X2)(f:aa X2 b 0=y):(ar u8 (four X1 X2 X3 X4 a b c d)++sp).set q (u8 y)=ar u8 (four X1 X2 X3 X4 a (b+1) c d)++sp:=
 TH (A:=pz X1 a) (B:=pz X3 c++pz X4 d) (by rw[Fl];exact e) h f
def axF(e:q=W X1+W X2+c)(h:c<W X3)(f:aa X3 c 0=y):(ar u8 (four X1 X2 X3 X4 a b c d)++sp).set q (u8 y)=ar u8 (four X1 X2 X3 X4 a b (c+1) d)++sp:=by
 have:=TH (A:=pz X1 a++pz X2 b) (B:=pz X4 d) (sp:=sp) (q:=q) (by rw[aF,Fl,Fl];exact e) h f;rw[bV,bV]at this;exact this
def axG(e:q=W X1+W X2+W X3+d)(h:d<W X4)(f:aa X4 d 0=y):(ar u8 (four X1 X2 X3 X4 a b c d)++sp).set q (u8 y)=ar u8 (four X1 X2 X3 X4 a b c (d+1))++sp:=by
 have:=TH (A:=pz X1 a++pz X2 b++pz X3 c) (B:=[]) (sp:=sp) (q:=q) (by rw[aF,aF,Fl,Fl,Fl];exact e) h f;rw[dN,dN,bV,bV,bV,bV]at this;exact this
def ai0:four X1 X2 X3 X4 0 0 0 0=aT (W X1+(W X2+(W X3+W X4))) 0:=by
 unfold four;simp only[axB,F5]
def axH(h1:W X1<=a)(h2:W X2<=b)(e:W X3<=c)(f:W X4<=d):four X1 X2 X3 X4 a b c d=X1++(X2++(X3++X4)):=by
 unfold four;rw[TG h1,TG h2,TG e,TG f]
end
def ai1{N l:Nat}{t:Tr}: ∀k i,∃Z,(fy N t l (i+k)).2=(fy N t l i).2++Z
 |0,i=>⟨[],by simp⟩
 |k+1,i=>by obtain⟨Z,a⟩:=ai1 (N:=N) (l:=l) (t:=t) k i;rw[<-fL,fy];exact⟨Z++[_],by dsimp only;rw[a,bV]⟩
def axI{l:Nat}{a:Int}(h:i<n)(e:fy N t l (i+1)=(a,(fy N t l i).2++[y])):aa (fy N t l n).2 i 0=y:=by
 obtain⟨Z,b⟩:=ai1 (N:=N) (l:=l) (t:=t) (n- (i+1)) (i+1);rw[show i+1+(n- (i+1))=n by omega,e]at b;rw[b];have c:=Co N t l i;simp only[bX];rw[gP (by simp[c]),l_ I,c];simp
def TK{O a o bi cn lf b:Nat}(e:CY t)(hb:t.aq=b)(hO:2<=O)(j:jg (ag E O size)=some a)(k:a<=8*size)(l:(gE (ag E O size) t many).1≠0)(hi:i<many)(m:HO E t O size a i o bi cn lf): ∃idx,idx=dJ (num E) (8*O+lf-b) b/\idx<2^b/\aa t.bits idx 0<=lf/\aa t.bits idx 0<=b/\aa t.bits idx 0<=11/\aa (fy (num (ag E O size)) t a many).2 i 0=bS (aa t.syms idx 0)/\ ∀o' f d,Bs E (O-2) o' f d (lf+16)->aa t.bits idx 0<=d->HO E t O size a (i+1) o' f (d-aa t.bits idx 0) (lf-aa t.bits idx 0):=by
 obtain⟨n,nx,idx,h1,h2,g,p,q,h,r⟩:=aiN e hO j k l hi;have he:n=lf:=(by have:=m.1;omega);subst he;rw[hb]at h2 g;refine⟨idx,h2,g,p,by rw[<-hb];exact e.bm idx,e.ok.le idx,axI hi h,λo' f d c s=>⟨by rw[h,q],?_⟩⟩;exact⟨c.st,c.le,by have:=c.vD;omega,c.Z9.less (vZ _ _),by have:=c.left;omega⟩
variable {br dc:Nat}{ad:Option Addr}{p:Prop}{r:fT}
def axJ{S:List UInt8}(h:(gZ S t many true).1≠0):6<=many/\(W S<6->(gZ S t many true).1=2)/\(6<=W S->gZ S t many true=((f_ S t many 4).1,(f_ S t many 4).2.1)):=by
 unfold gZ at*;rw[aj an]at h ⊢;by_cases a:many<6
 rw[ao a]at h;exact absurd J h
 rw[aj a]at h ⊢;refine⟨I,λhs=>by rw[ao hs],λhs=>by rw[aj I]⟩
def TL{F:List aK}{rb q s kt tb O o bi cn lf b idx v hN hC:Nat}{m:List Nat}(h:H r w ((ah rb [bL br,.slice ad (W E) dc,bR o,bR (O-2),bR bi,bR cn] 207)::F))(d:(ah q [dB b] 51)∈F)(f:(ah s [dB (2^b-1)] 51)∈F)(g:(ah kt [cK tb hN hC] 68)∈F)(hm:(ah tb (ar dG m) 174)∈F)(U:hN<=W m)(V:2^b<=hN)(z:aY F (.slice ad (W E) dc) E)(A:W E<=268435456)(hb:b<=11)(hO:2<=O)(a:Bs E (O-2) o bi cn (lf+16))(B:idx=dJ (num E) (8*O+lf-b) b)(X:idx<2^b)(C:aa m idx 0=v):Calls PP 119 #[bL rb,bL q,bL s,bL kt] w λe w'=> ∃o' t i,e= .returned (.tuple #[dG v,.nilIface])/\H r w' ((ah rb [bL br,.slice ad (W E) dc,bR o',bR (O-2),bR t,bR i] 207)::F)/\Bs E (O-2) o' t i (lf+16)/\b<=i:=by
 obtain⟨i1,Y⟩:=dw d;obtain⟨i2,Z⟩:=dw f;obtain⟨i3,zD⟩:=dw g;obtain⟨i4,D⟩:=dw hm;have n6:=eA b;have Oo:2^b<=2048:=aM (dF an hb) an;have HH:=a.left;have G:=a.st;have K:=a.le;have L:=a.vD;refine xJ func119 ntmps119 [5,6] ?_;refine g_ 11 ?_;refine cJ J J J (aH (NF h z a.le A I (b:=b) I a.vD a.Z9) ?_);rintro e w1 ⟨ok,o1,u,j,rfl,h,M,pk,k,N,P,Q⟩;refine ak (k8 J) (aJ (eY J ?_ ?_))<;>intro x
 exfalso;cases ok with|true=>exact absurd x an|false=>have:=P J;omega
 have R:ok=true:=(by cases ok with|true=>rfl|false=>exact absurd x an);have l:=N R;have S:=Q G;have y:j<=32:=I;have T:=k.1;have c:u/2^(j-b) % 2^b=idx:=(by rw[k.val l.1 y,B];congr 1;omega);have p:(ar dG m)[idx]? =some (dG v):=(by rw[E6 I,C]);refine a8 (bY (cm h [0,4,8,16,20,24,13,29,33,36,40,45,48,52] ?_));intro w h;refine aC 9 ?_;refine aD J (jm J J l.1 aG) ?_;refine aC 2 ?_;refine aD J (kJ (n:=b) J J (aM (k6 _ _) aG) aG) (fG J (cO ?_));refine g_ 4 ?_;refine ak (j8 J J J (by rw[c];omega)) ?_;refine aX h J (by rw[c];exact p) ?_;refine g_ 4 ?_;exact⟨o1,u,j,J,h,⟨S,I,y,k,I⟩,l.1⟩
def ai3(h:p:=by rintro e w1 ⟨be,rfl,h⟩;refine g_ 4 ?_;exact⟨_,[],ob,bc,sp,_,J,h,hk,(λe=>absurd e cF),(λ_=>Exists.intro be J)⟩):p:=h
def ai4(h:p:=by refine g_ 4 ?_;refine cJ J J J (aH (vi h (aA (hR)) (hG.sub aP)) ?_);exact ai3):p:=h
def axK{L:List aK}{T bc:Nat}{x:dk}{aE aU:Addr}{ob:Option Nat}{sp:List Value}(h:H r w ((ob,C (ar u8 ([])++sp) 5)::L))(hR:(ah br (aB x) 81)∈L)(hG:Gl L aE aU)(o:aY L (.slice ad (W E) dc) E)(q:W E<=268435456)(hk:b8 ob 0 bc [] sp 1)(hT:HuT L x t)(ht:CY t)(yi:1<=off)(jh:off+T<=W E)(EG:many<=131072)(hV:(gZ (ag E off T) t many true).1≠0):Calls PP 111 #[.pointer (some ⟨br,0,none⟩),.slice ad (W E) dc,af off,af T,af many,.slice (aI ob) 0 bc] w λe w'=> ∃er dh b_ mS dH v',e= .returned (.tuple #[v',er])/\H r w' ((b_,C (ar u8 (dh)++dH) 5)::L)/\b8 b_ (W dh) mS (dh.map u8) dH 1/\((gZ (ag E off T) t many true).1=1->er= .nilIface/\v'= .slice (aI b_) (W dh) mS/\gZ (ag E off T) t many true=(1,dh))/\((gZ (ag E off T) t many true).1≠1-> ∃be,er= .iface 182 (.pointer (some ⟨be,0,none⟩))):=by
 have bF:W (ag E off T)=T:=dK jh;obtain⟨hm6,u,hF4⟩:=axJ hV;rw[bF]at u hF4;obtain⟨tb,m,hA,hm,u_,Fj,Fk,qx⟩:=hT;have mO:=ht;have Z:=ht.ok.aq;have On:(aB x)[13]? =some (af t.aq):=(by rw[<-qx];rfl);have HN:(aB x)[12]? =some (.slice (some ⟨tb,0,none⟩) x.hN x.hC):=(by rw[<-hA];rfl);have n6:=eA t.aq;have Oo:2^t.aq<=2048:=aM (dF an Z) an;obtain⟨b,C6⟩: ∃b,t.aq=b:=⟨_,J⟩;rw[C6]at Z On Fj Fk n6 Oo;obtain⟨iR,CK⟩:=dw hR;have kV:W E<=dc:=Hz o;obtain⟨n,s⟩: ∃n,(many+3)/4=n:=⟨_,J⟩;obtain⟨y,R0⟩: ∃y,many-3*n=y:=⟨_,J⟩;obtain⟨s1,fe⟩: ∃s1,num (ag E off 2)=s1:=⟨_,J⟩;obtain⟨s2,fP⟩: ∃s2,num (ag E (off+2) 2)=s2:=⟨_,J⟩;obtain⟨c,jC⟩: ∃c,num (ag E (off+4) 2)=c:=⟨_,J⟩;have fj:s1<2^16:=(by rw[<-fe];exact qp);have fW:s2<2^16:=(by rw[<-fP];exact qp);have sS:c<2^16:=(by rw[<-jC];exact qp);refine rU (P:=PP) func111 318 ntmps111 [12,13] J J (args:=[_,_,_,_,_,_]) J ?_;refine g_ 14 ?_;refine au J ?_ ?_<;>intro HP
 have cF:(gZ (ag E off T) t many true).1≠1:=(by rw[u I];decide);exact ai4
 refine g_ 7 ?_;refine au J ?_ ?_<;>intro sY
 have cF:(gZ (ag E off T) t many true).1≠1:=(by rw[u I];decide);refine g_ 4 ?_;refine eS J J J J (aH (re h (aA (hR)) (hG.sub aP)) ?_);exact ai3
 have z:=hF4 I;have hT6:6<=T:=I;have A:(f_ (ag E off T) t many 4).1≠0:=(by rw[z]at hV;exact hV);have iZ:2<=n/\n*3<=many/\many<=4*n:=I;refine g_ 5 ?_;refine ak (cG (nS (b:=4) (h2:=av.lit _) J J an aG) s) ?_;refine g_ 10 ?_;refine au J ?_ ?_<;>intro JM
 exfalso;omega
 refine g_ 5 ?_;refine ak (jJ J J I kV) (d' J J ((Sb h ((aY.drop o (m:=off) I).sub aP) (by rw[cr];omega)).mono ?_));rintro e w1 ⟨rfl,h⟩;refine⟨dG s1,(by rw[<-fe];rfl),?_⟩;refine g_ 7 ?_;refine ak (jJ J J I kV) (d' J J ((Sb h ((aY.drop o (m:=(off+2)) I).sub aP) (by rw[cr];omega)).mono ?_));rintro e w1 ⟨rfl,h⟩;refine⟨dG s2,(by rw[<-fP];rfl),?_⟩;refine g_ 7 ?_;refine ak (jJ J J I kV) (d' J J ((Sb h ((aY.drop o (m:=(off+4)) I).sub aP) (by rw[cr];omega)).mono ?_));rintro e w1 ⟨rfl,h⟩;refine⟨dG c,(by rw[<-jC];rfl),?_⟩;refine g_ 29 ?_;refine au J ?_ ?_<;>intro RT
 have cF:(gZ (ag E off T) t many true).1≠1:=by
  rw[z];have q0:f_ (ag E off T) t many 0=(1,[],6):=rfl;have a0:=TC (S:=(ag E off T)) (t:=t) (many:=many) (i:=0) (pos:=6) (n:=n) (size:=s1) an J A J (by rw[aj an];exact s) (by rw[aj an,jy I];exact fe);rw[bF]at a0;by_cases c0:T-6<s1
  exact a0.1 c0
  by_cases d0:(gE (ag (ag E off T) 6 s1) t n).1=1
  have e0:=(a0.2 I).2.2.2 d0;have a1:=TC (S:=(ag E off T)) (t:=t) (many:=many) (i:=1) (pos:=6+s1) (n:=n) (size:=s2) an (by rw[e0]) A (by rw[e0]) (by rw[aj an];exact s) (by rw[aj an,jy I];exact fP);rw[bF]at a1;by_cases c1:T- (6+s1)<s2
  exact a1.1 c1
  by_cases d1:(gE (ag (ag E off T) (6+s1) s2) t n).1=1
  have e1:=(a1.2 I).2.2.2 d1;have a2:=TC (S:=(ag E off T)) (t:=t) (many:=many) (i:=2) (pos:=6+s1+s2) (n:=n) (size:=c) an (by rw[e1]) A (by rw[e1]) (by rw[aj an];exact s) (by rw[aj an,jy I];exact jC);rw[bF]at a2;exact a2.1 I
  exact(a1.2 I).2.2.1 d1
  exact(a0.2 I).2.2.1 d0
 exact ai4
 have aJy:s1+s2+c<=T-6:=I;refine cM (T-6- (s1+s2+c)) λl EC=>(cM (off+6) λf qF=>(cM (f+s1) λg TF=>(cM (g+s2) λj hO3=>(cM (j+c) λk hO4=>?_))));have hO5:k+l=off+T:=I;have kA:=TD (E:=E) (t:=t) (off:=off) (T:=T) (many:=many) (i:=0) (pos:=6) (n:=n) (size:=s1) (O:=f) (outs:=[]) jh I I I an J A (by rw[aj an];exact s) (by rw[aj an,jy I];exact fe);have aJz:=kA.2.1;refine g_ 8 ?_;refine ak (cG (jm J J I aG) EC) ?_;refine g_ 5 ?_;refine ak (cG (jm (b:=1) (h2:=av.lit _) J J I aG) (I:off+6-1=off+5)) ?_;refine g_ 7 ?_;refine ak (cG (eR J J aG) (I:off+5+s1=f+s1-1)) ?_;refine g_ 5 ?_;refine ak (cG (eR (b:=1) (h2:=av.lit _) J J aG) (I:off+5+1=f)) ?_;refine g_ 7 ?_;refine ak (cG (eR J J aG) (I:f+s1-1+s2=g+s2-1)) ?_;refine g_ 5 ?_;refine ak (cG (eR (b:=1) (h2:=av.lit _) J J aG) (I:f+s1-1+1=g)) ?_;refine g_ 7 ?_;refine ak (cG (eR J J aG) (I:g+s2-1+c=j+c-1)) ?_;refine g_ 5 ?_;refine ak (cG (eR (b:=1) (h2:=av.lit _) J J aG) (I:g+s2-1+1=j)) ?_;refine g_ 7 ?_;refine ak (cG (eR J J aG) (I:j+c-1+l=k+l-1)) ?_;refine g_ 5 ?_;refine ak (cG (eR (b:=1) (h2:=av.lit _) J J aG) (I:j+c-1+1=k)) ?_;refine g_ 9 ?_;refine wj J J J J J (aH (Hl h (aA (hR)) (hG.sub aP) (o.sub aP) (off:=f+s1-1) (st:=f-2) I q I) ?_);rintro e w1 ⟨vs1,sr,rfl,ai5,axL,h,vl,B⟩;refine g_ 3 ?_;refine eN h J ?_;intro bR1 w h;refine rW (vs:=vs1) h J J ai5 axL (by exact aW 6) J ?_;intro w h;dsimp only[bJ]at h;rw[HB (by rw[ai5];rfl)]at h;refine g_ 6 ?_;refine ak (kg sr (¬(aa E (f+s1-1) 0).toNat=0) J (λe=>(B e).1) (λe=>vl (F9.1 e)) J) (aJ (au J ?_ ?_))<;>intro ai6
 have p:(aa E (f+s1-1) 0).toNat=0:=I;have cF:(gZ (ag E off T) t many true).1≠1:=(by rw[z];exact kA.2.2.1 p);refine g_ 7 ?_;replace h:=h.tail;(try dsimp only[dX]at h);exact⟨_,[],ob,bc,sp,_,J,h,hk,(λe=>absurd e cF),(λ_=>vl p)⟩
 have ai7:(aa E (f+s1-1) 0).toNat≠0:=I;rw[(B ai7).2]at h;have ji:=kA.2.2.2 ai7;clear kA vl B;refine ji.elim λKK ai8=>?_;refine ai8.elim λX1 axM=>?_;clear ji ai8;obtain⟨Ko,axN,Tc,axO,axP,aJA,qC⟩:=axM;have lI:=TD (E:=E) (t:=t) (off:=off) (T:=T) (many:=many) (i:=1) (pos:=(6+s1)) (n:=n) (size:=s2) (O:=g) (outs:=([]++X1)) jh I I I an qC A (by rw[aj an];exact s) (by rw[aj an,jy I];exact fP);have YY:=lI.2.1;refine g_ 8 ?_;refine wj J J J J J (aH (Hl h (aA (aA (hR))) (hG.sub aP) (o.sub aP) (off:=g+s2-1) (st:=g-2) I q I) ?_);rintro e w1 ⟨vs2,w7,rfl,ai9,axQ,h,w9,D⟩;refine g_ 3 ?_;refine eN h J ?_;intro bR2 w h;refine rW (vs:=vs2) h J J ai9 axQ (by exact aW 6) J ?_;intro w h;dsimp only[bJ]at h;rw[HB (by rw[ai9];rfl)]at h;refine g_ 6 ?_;refine ak (kg w7 (¬(aa E (g+s2-1) 0).toNat=0) J (λe=>(D e).1) (λe=>w9 (F9.1 e)) J) (aJ (au J ?_ ?_))<;>intro agw
 have p:(aa E (g+s2-1) 0).toNat=0:=I;have cF:(gZ (ag E off T) t many true).1≠1:=(by rw[z];exact lI.2.2.1 p);refine g_ 7 ?_;replace h:=h.tail.tail;(try dsimp only[dX]at h);exact⟨_,[],ob,bc,sp,_,J,h,hk,(λe=>absurd e cF),(λ_=>w9 p)⟩
 have ai_:(aa E (g+s2-1) 0).toNat≠0:=I;rw[(D ai_).2]at h;have nZ:=lI.2.2.2 ai_;clear lI w9 D;refine nZ.elim λCW ai'=>?_;refine ai'.elim λX2 axR=>?_;clear nZ ai';obtain⟨NO,axS,Td,axT,axU,aJB,j3⟩:=axR;have Ke:=TD (E:=E) (t:=t) (off:=off) (T:=T) (many:=many) (i:=2) (pos:=(6+s1+s2)) (n:=n) (size:=c) (O:=j) (outs:=([]++X1++X2)) jh I I I an j3 A (by rw[aj an];exact s) (by rw[aj an,jy I];exact jC);have aJC:=Ke.2.1;refine g_ 8 ?_;refine wj J J J J J (aH (Hl h (aA (aA (aA (hR)))) (hG.sub aP) (o.sub aP) (off:=j+c-1) (st:=j-2) I q I) ?_);rintro e w1 ⟨vs3,CS,rfl,aja,axV,h,vp,Ou⟩;refine g_ 3 ?_;refine eN h J ?_;intro bR3 w h;refine rW (vs:=vs3) h J J aja axV (by exact aW 6) J ?_;intro w h;dsimp only[bJ]at h;rw[HB (by rw[aja];rfl)]at h;refine g_ 6 ?_;refine ak (kg CS (¬(aa E (j+c-1) 0).toNat=0) J (λe=>(Ou e).1) (λe=>vp (F9.1 e)) J) (aJ (au J ?_ ?_))<;>intro ajb
 have p:(aa E (j+c-1) 0).toNat=0:=I;have cF:(gZ (ag E off T) t many true).1≠1:=(by rw[z];exact Ke.2.2.1 p);refine g_ 7 ?_;replace h:=h.tail.tail.tail;(try dsimp only[dX]at h);exact⟨_,[],ob,bc,sp,_,J,h,hk,(λe=>absurd e cF),(λ_=>vp p)⟩
 have ajc:(aa E (j+c-1) 0).toNat≠0:=I;rw[(Ou ajc).2]at h;have yf:=Ke.2.2.2 ajc;clear Ke vp Ou;refine yf.elim λqE ajd=>?_;refine ajd.elim λX3 axW=>?_;clear yf ajd;obtain⟨axX,axY,Te,axZ,ax0,aJD,ax1⟩:=axW;have wG:=TD (E:=E) (t:=t) (off:=off) (T:=T) (many:=many) (i:=3) (pos:=(6+s1+s2+c)) (n:=y) (size:=l) (O:=k) (outs:=([]++X1++X2++X3)) jh I I I an ax1 A (by rw[ao J,s];exact R0) (by rw[ao J];omega);have aJE:=wG.2.1;have aJF:=wG.1;refine g_ 8 ?_;refine wj J J J J J (aH (Hl h (aA (aA (aA (aA (hR))))) (hG.sub aP) (o.sub aP) (off:=k+l-1) (st:=k-2) I q I) ?_);rintro e w1 ⟨vs4,zN,rfl,aje,ax2,h,F,G⟩;refine g_ 3 ?_;refine eN h J ?_;intro bR4 w h;refine rW (vs:=vs4) h J J aje ax2 (by exact aW 6) J ?_;intro w h;dsimp only[bJ]at h;rw[HB (by rw[aje];rfl)]at h;refine g_ 6 ?_;refine ak (kg zN (¬(aa E (k+l-1) 0).toNat=0) J (λe=>(G e).1) (λe=>F (F9.1 e)) J) (aJ (au J ?_ ?_))<;>intro ax3
 have p:(aa E (k+l-1) 0).toNat=0:=I;have cF:(gZ (ag E off T) t many true).1≠1:=(by rw[z];exact wG.2.2.1 p);refine g_ 7 ?_;replace h:=h.tail.tail.tail.tail;(try dsimp only[dX]at h);exact⟨_,[],ob,bc,sp,_,J,h,hk,(λe=>absurd e cF),(λ_=>F p)⟩
 have ajf:(aa E (k+l-1) 0).toNat≠0:=I;rw[(G ajf).2]at h;have vv:=wG.2.2.2 ajf;clear wG F G;refine vv.elim λK ajg=>?_;refine ajg.elim λX4 ax4=>?_;clear vv ajg;obtain⟨ax5,ax6,Tl,ax7,ax8,aJG,ax9⟩:=ax4;have mQ:gZ (ag E off T) t many true=(1,X1++(X2++(X3++X4))):=(by rw[z,ax9];show(1,_)=(1,_);rw[List.nil_append,bV,bV]);have xP:W X1+(W X2+(W X3+W X4))=many:=I;refine g_ 11 ?_;refine ak (cG (eR J J aG) (il n)) ?_;refine g_ 21 ?_;refine ak (cG (jm J J I aG) (I:many-n*3=y)) ?_;refine g_ 6 ?_;refine aiZ (ar u8 []) sp h 4 J J J hk (by intro v hv;simp at hv;subst hv;rfl) I an J ?_;intro w dR c9 ep h dC gl fk;dsimp only[bJ]at h;rw[age,<-xP,<-ai0,F4,List.nil_append]at h dC;refine aZ (show ∃M,dR=some M by cases dR with|none=>(have:=fk J;omega)|some M=>exact⟨M,J⟩) (λM ED=>?_);rw[ED]at h;refine g_ 7 ?_;refine aX h J HN (eN h J ?_);intro bT w h;refine cI ?_;intro w h;refine g_ 6 ?_;refine aX h J On ?_;refine g_ 1 ?_;refine eN h J ?_;intro bK w h;refine cI ?_;intro w h;refine g_ 4 ?_;refine ak (gY J J dQ aG) ?_;refine g_ 1 ?_;refine eN h J ?_;intro bM w h;refine cI ?_;intro w h;refine g_ 7 ?_;refine cw (σ:=Nat×Nat×Nat×Nat×Nat×Nat×Nat×Nat×Nat×Nat×Nat×Nat×Nat×Nat×Nat×Nat×Nat×Nat) [(12,13),(33,36),(41,49),(215,316)] (λ⟨i,d,o1,jo,fv,l1,o2,oH,uk,l2,o3,oN,l5,l3,o4,AY,AZ,l4⟩ ρ w=>Kn ρ [(41,af i),(33,af i),(34,af (n+i)),(35,af (n+n+i)),(36,af (n+n+n+d))]/\H r w ((ah bM [dB (2^b-1)] 51)::(ah bK [dB b] 51)::(ah bT [.slice (some ⟨tb,0,none⟩) x.hN x.hC] 68)::(ah bR4 [.pointer (some ⟨br,0,none⟩),.slice ad (W E) dc,bR o4,bR (k-2),bR AY,bR AZ] 207)::(ah bR3 [.pointer (some ⟨br,0,none⟩),.slice ad (W E) dc,bR o3,bR (j-2),bR oN,bR l5] 207)::(ah bR2 [.pointer (some ⟨br,0,none⟩),.slice ad (W E) dc,bR o2,bR (g-2),bR oH,bR uk] 207)::(ah bR1 [.pointer (some ⟨br,0,none⟩),.slice ad (W E) dc,bR o1,bR (f-2),bR jo,bR fv] 207)::(ah M (ar u8 (four X1 X2 X3 X4 i i i d)++ep) 5)::L)/\(i<=n)/\(d=min i y)/\(HO E t f s1 KK i o1 jo fv l1)/\(HO E t g s2 CW i o2 oH uk l2)/\(HO E t j c qE i o3 oN l5 l3)/\(HO E t k l K d o4 AY AZ l4)) (λ⟨i,d,o1,jo,fv,l1,o2,oH,uk,l2,o3,oN,l5,l3,o4,AY,AZ,l4⟩=>n-i) (0,0,f+s1-1,(aa E (f+s1-1) 0).toNat,7- (8-iE (aa E (f+s1-1) 0).toNat),KK,g+s2-1,(aa E (g+s2-1) 0).toNat,7- (8-iE (aa E (g+s2-1) 0).toNat),CW,j+c-1,(aa E (j+c-1) 0).toNat,7- (8-iE (aa E (j+c-1) 0).toNat),qE,k+l-1,(aa E (k+l-1) 0).toNat,7- (8-iE (aa E (k+l-1) 0).toNat),K) ⟨az,h,(cj _),I,⟨J,Tc⟩,⟨J,Td⟩,⟨J,Te⟩,J,Tl⟩ ?_;rintro⟨i,d,o1,jo,fv,l1,o2,oH,uk,l2,o3,oN,l5,l3,o4,AY,AZ,l4⟩ ρ w ⟨⟨mn,rfl⟩,h,hi,hd,AU,mR,NH,N⟩;refine g_ 7 ?_;refine au J ?_ ?_<;>intro GW
 refine(TK mO C6 I Ko axN axO (i:=i) I AU).elim λx1 eJ=>?_;obtain⟨ax_,ajh,aJH,aJI,Q,aji,ax'⟩:=eJ;rw[<-axP]at aji;have YU:=Om Q;have ajj:=HM Q;refine(TK mO C6 I NO axS axT (i:=i) I mR).elim λx2 fH=>?_;obtain⟨aya,ajk,aJJ,aJK,R,ajl,ayb⟩:=fH;rw[<-axU]at ajl;have GX:=Om R;have ajm:=HM R;refine(TK mO C6 I axX axY axZ (i:=i) I NH).elim λx3 gN=>?_;obtain⟨ayc,ajn,aJL,aJM,U,ajo,ayd⟩:=gN;rw[<-ax0]at ajo;have aJN:=Om U;have ajp:=HM U;refine g_ 12 ?_;refine ak (axz J J J) ?_;refine g_ 5 ?_;replace h:=h.zz [6] 0;refine Tz J J J ((TL (b:=b) (O:=f) (lf:=l1) (idx:=x1) (v:=oa t x1) h (aA bZ) bZ (aA (aA bZ)) (aA (aA (aA (aA (aA (aA (aA (hm)))))))) u_ Fj (o.sub aP) q Z I AU.2 ax_ ajh (Fk _ ajh)).mono ?_);rintro e w1 ⟨p1,q1,r1,rfl,h,ajq,aJO⟩;refine⟨_,J,?_⟩;have aJP:=ajq.vD;refine g_ 10 ?_;refine ak (ye J J) (aJ (gK J ?_));refine g_ 4 ?_;replace h:=h.zz [6] 0;refine Tz J J J ((TL (b:=b) (O:=g) (lf:=l2) (idx:=x2) (v:=oa t x2) h (aA (aA bZ)) (aA bZ) (aA (aA (aA bZ))) (aA (aA (aA (aA (aA (aA (aA (hm)))))))) u_ Fj (o.sub aP) q Z I mR.2 aya ajk (Fk _ ajk)).mono ?_);rintro e w1 ⟨p2,q2,r2,rfl,h,ajr,aJQ⟩;refine⟨_,J,?_⟩;have aJR:=ajr.vD;refine g_ 10 ?_;refine ak (ye J J) (aJ (gK J ?_));refine g_ 4 ?_;replace h:=h.zz [6] 0;refine Tz J J J ((TL (b:=b) (O:=j) (lf:=l3) (idx:=x3) (v:=oa t x3) h (aA (aA (aA bZ))) (aA (aA bZ)) (aA (aA (aA (aA bZ)))) (aA (aA (aA (aA (aA (aA (aA (hm)))))))) u_ Fj (o.sub aP) q Z I NH.2 ayc ajn (Fk _ ajn)).mono ?_);rintro e w1 ⟨p3,q3,r3,rfl,h,ajs,aJS⟩;refine⟨_,J,?_⟩;have aJT:=ajs.vD;refine g_ 10 ?_;refine ak (ye J J) (aJ (gK J (a8 (cW [(12,13),(36,36),(48,49),(248,271)] (λρ w=> ∃d2 TM TN TO V:Nat,Kn ρ [(36,af (n+n+n+d2))]/\H r w ((ah bR3 [.pointer (some ⟨br,0,none⟩),.slice ad (W E) dc,bR p3,bR (j-2),bR q3,bR r3] 207)::(ah bR2 [.pointer (some ⟨br,0,none⟩),.slice ad (W E) dc,bR p2,bR (g-2),bR q2,bR r2] 207)::(ah bR1 [.pointer (some ⟨br,0,none⟩),.slice ad (W E) dc,bR p1,bR (f-2),bR q1,bR r1] 207)::(ah bM [dB (2^b-1)] 51)::(ah bK [dB b] 51)::(ah bT [.slice (some ⟨tb,0,none⟩) x.hN x.hC] 68)::(ah bR4 [.pointer (some ⟨br,0,none⟩),.slice ad (W E) dc,bR TM,bR (k-2),bR TN,bR TO] 207)::(ah M (ar u8 (four X1 X2 X3 X4 i i i d2)++ep) 5)::L)/\(d2=min (i+1) y)/\(HO E t k l K d2 TM TN TO V)) ?_ ?_))))
 refine g_ 4 ?_;refine au J ?_ ?_<;>intro aJU
 refine(TK mO C6 I ax5 ax6 ax7 (i:=d) I N).elim λx4 oJ=>?_;obtain⟨aye,ajt,aJV,aJW,X,aju,ayf⟩:=oJ;rw[<-ax8]at aju;have aJX:=Om X;have ajv:=HM X;refine g_ 3 ?_;replace h:=h.zz [6] 0;refine Tz J J J ((TL (b:=b) (O:=k) (lf:=l4) (idx:=x4) (v:=oa t x4) h (aA (aA (aA (aA bZ)))) (aA (aA (aA bZ))) (aA (aA (aA (aA (aA bZ))))) (aA (aA (aA (aA (aA (aA (aA (hm)))))))) u_ Fj (o.sub aP) q Z I N.2 aye ajt (Fk _ ajt)).mono ?_);rintro e w1 ⟨p4,q4,r4,rfl,h,ajw,aJY⟩;refine⟨_,J,?_⟩;have aJZ:=ajw.vD;refine g_ 10 ?_;refine ak (ye J J) (aJ (gK J ?_));refine g_ 7 ?_;refine ak (vI (eZ (a:=oa t x4/2^8) J aG) (Ol X)) (ak (j8 J J (by rw[ED];rfl) I) ?_);refine ir (v:=u8 (bS (aa t.syms x4 0))) h J (M9 (by rw[TJ];omega)) J J J ?_;intro w h;dsimp only[bJ]at h;rw[axG I I aju]at h;refine g_ 11 ?_;refine ak (kJ (n:=8) J J aG an) ?_;refine ak (cG (eZ J (by rw[ajv];simp only[aN];omega)) ajv) ?_;refine g_ 2 ?_;refine cI ?_;intro w h;refine aJ ?_;replace h:=h.zz [7,1,7,7,7,7,7,7] 0;exact⟨aO 28,d+1,p4,q4,r4-aa t.bits x4 0,l4-aa t.bits x4 0,az,h,I,ayf _ _ _ ajw I⟩
 exact a8 ⟨aO 1,d,o4,AY,AZ,l4,az,h,I,N⟩
 rintro ρ w ⟨d2,TM,TN,TO,V,⟨nz,rfl⟩,h,n_,ayg⟩;refine g_ 6 ?_;refine ak (vI (eZ (a:=oa t x1/2^8) J aG) (Ol Q)) (ak (j8 J J (by rw[ED];rfl) I) ?_);refine ir (v:=u8 (bS (aa t.syms x1 0))) h J (M9 (by rw[TJ];omega)) J J J ?_;intro w h;dsimp only[bJ]at h;rw[axD I I aji]at h;refine g_ 12 ?_;refine ak (kJ (n:=8) J J aG an) ?_;refine ak (cG (eZ J (by rw[ajj];simp only[aN];omega)) ajj) ?_;refine g_ 2 ?_;refine cI ?_;intro w h;refine g_ 7 ?_;refine ak (vI (eZ (a:=oa t x2/2^8) J aG) (Ol R)) (ak (j8 J J (by rw[ED];rfl) I) ?_);refine ir (v:=u8 (bS (aa t.syms x2 0))) h J (M9 (by rw[TJ];omega)) J J J ?_;intro w h;dsimp only[bJ]at h;rw[axE I I ajl]at h;refine g_ 12 ?_;refine ak (kJ (n:=8) J J aG an) ?_;refine ak (cG (eZ J (by rw[ajm];simp only[aN];omega)) ajm) ?_;refine g_ 2 ?_;refine cI ?_;intro w h;refine g_ 7 ?_;refine ak (vI (eZ (a:=oa t x3/2^8) J aG) (Ol U)) (ak (j8 J J (by rw[ED];rfl) I) ?_);refine ir (v:=u8 (bS (aa t.syms x3 0))) h J (M9 (by rw[TJ];omega)) J J J ?_;intro w h;dsimp only[bJ]at h;rw[axF I I ajo]at h;refine g_ 11 ?_;refine ak (kJ (n:=8) J J aG an) ?_;refine ak (cG (eZ J (by rw[ajp];simp only[aN];omega)) ajp) ?_;refine g_ 2 ?_;refine cI ?_;intro w h;refine g_ 6 ?_;replace h:=h.zz [7,3,3,3,7,7,7,7] 0;exact⟨aO 94,(i+1,d2,p1,q1,r1-aa t.bits x1 0,l1-aa t.bits x1 0,p2,q2,r2-aa t.bits x2 0,l2-aa t.bits x2 0,p3,q3,r3-aa t.bits x3 0,l3-aa t.bits x3 0,TM,TN,TO,V),cQ,az,h,I,n_,ax' _ _ _ ajq I,ayb _ _ _ ajr I,ayd _ _ _ ajs I,ayg⟩
 have q6:i=n:=I;have hdn:d=y:=I;rw[q6,hdn,axH I I I I]at h;rw[ai0,aF,cB,dS,xP]at dC;have Y:W (X1++(X2++(X3++X4)))=many:=(by simp only[aF];omega);refine g_ 8 ?_;replace h:=h.tail.tail.tail.tail.tail.tail.tail;(try dsimp only[dX]at h);exact⟨_,X1++(X2++(X3++X4)),some M,c9,ep,_,J,h,(by rw[Y];exact⟨by rw[cB,Y,fg],by rw[aF,cB,Y];exact dC,I,(λe=>by cases e)⟩),(λ_=>⟨J,jw (by rw[ED]) I J,mQ⟩),(λe=>absurd (by rw[mQ]) e)⟩
variable {al m ws:List Nat}{Wv:List UInt8}{j r s w:Nat}
def nH(al:List Nat)(w:Nat):Nat->Nat
 |0=>0
 |i+1=>nH al w i+if aa al i 0=w then 1 else 0
def ajx(al:List Nat)(aq w:Nat): ∀i,W (ff al aq (w+1) i)=nH al (w+1) i*2^w
 |0=>by simp[ff,nH]
 | i+1=>by
  rw[ff,aF,ajx al aq w i,nH,qQ];split
  rw[dS,rN];rfl
  simp
def Ov(al:List Nat)(aq w:Nat):W (df al aq (w+1))=W (df al aq w)+nH al (w+1) (W al)*2^w:=by
 rw[df,aF,ajx]
def KM(al:List Nat)(aq:Nat): ∀d w,W (df al aq w)<=W (df al aq (w+d))
 |0,w=>aW _
 |d+1,w=>by have:=KM al aq d w;rw[<-fL,Ov];omega
def abb(al:List Nat)(aq w:Nat): ∀d i,W (ff al aq w i)<=W (ff al aq w (i+d))
 |0,i=>aW _
 |d+1,i=>by have:=abb al aq w d i;rw[<-fL,ff,aF];omega
def ayh(a:W (df al aq aq)=2^aq)(h1:1<=aq):nH al 1 (W al) % 2=0:=by
 have h:=aaY a (aq-1) 1 I;have e:=Ov al aq 0;simp only[df,eW,il,F8,fg]at e h;rw[e]at h;exact Nat.mod_eq_zero_of_dvd (by simpa using h)
def ajy{al:List Nat}{aq:Nat}: ∀Z_,1<=Z_->Z_<=aq-> ∀{j:Nat} {x:Nat×Nat},(df al aq Z_)[j]? =some x->W (df al aq 1)<=j->x.2<aq
 | Z_+1,h1,c,j,x,h,a=>by
  rw[df]at h;rcases dq j (W (df al aq Z_)) with hi|hi
  rw[gP hi]at h;rcases pd Z_ with e|e
  subst e;simp[df]at hi
  exact ajy Z_ e I h a
  rw[l_ hi]at h;have hm:=Ry (vU h);rcases pd Z_ with e|e
  subst e;have b:=(qP.1 h).1;simp only[df,List.nil_append,eW,F1,il]at b a;omega
  omega
def ayi{al:List Nat}{aq:Nat}(d:W (df al aq aq)=2^aq)(h1:1<=aq)(a:nH al 1 (W al)=0):aa (mr al aq).bits 0 0<aq:=by
 have e:aa (mr al aq).bits 0 0=((df al aq aq)[0]?.map (·.2)).getD 0:=(by show((df al aq aq).map (·.2)).getD 0 0=_;rw[bX,kP]);have b:W (df al aq (0+1))=0:=(by rw[Ov al aq 0,il,a];simp[df]);rw[e]
 cases c:(df al aq aq)[0]? with
 |none=>show 0<aq;omega
 | some x=>
   show x.2<aq
   exact ajy aq h1 (aW _) c (by rw[il]at b;omega)
def ayj(a:j<W ws)(h:11<aa ws j 0):g9 ws=none:=by
 unfold g9;rw[ao (any_true a h)]
def ayk(h:eO ws (W ws)=0):g9 ws=none:=by
 unfold g9;split
 rfl
 dsimp only;rw[ao h]
def ayl(h:11<mq (eO ws (W ws))):g9 ws=none:=by
 unfold g9;split
 rfl
 dsimp only;split
 rfl
 rw[ao (a_ h)]
def aym(h:2^r.log2=r):qY r=r.log2+1:=by
 unfold qY;split
 rename_i h1;have d:=eA r.log2;have:r=1:=I;subst this;decide
 rename_i h1;obtain⟨k,a⟩: ∃k,r.log2=k:=⟨_,J⟩;rw[a]at h ⊢;have f:k≠0:=(by intro e;subst e;simp at h;omega);obtain⟨c,b⟩: ∃c,k=c+1:=⟨k-1,I⟩;subst b;have g:=eA c;rw[jI]at h;have:(r-1).log2=c:=(I0 I).2 ⟨I,by rw[jI];omega⟩;omega
def ayn(k:Nat):(2^k).log2=k:=(I0 (by have:=eA k;omega)).2 ⟨aW _,Nat.pow_lt_pow_right I I⟩
def ayo(h: ¬2^(2^mq (eO ws (W ws)) -eO ws (W ws)).log2=2^mq (eO ws (W ws)) -eO ws (W ws)):g9 ws=none:=by
 unfold g9;split
 rfl
 dsimp only;split
 rfl
 rw[ao];refine bG λe=>h ?_;rw[<-e,ayn]
def ayp{m:Nat}(hw: ∀j,j<W ws->aa ws j 0<=11)(hs:eO ws (W ws)=s)(a:s≠0)(hm:mq s=m)(b:m<=11)(c:2^m-s=r)(hp:2^r.log2=r):g9 ws=some (mr (ws++[r.log2+1]) m):=by
 unfold g9;rw[any_false hw];simp only[Bool.false_eq_true,if_false];rw[hs,aj a,hm,c,aym hp,yS,aj I]
def ajz(ws:List Nat)(l w:Nat): ∀i,i<=W ws->nH (ws++[l]) w i=nH ws w i
 |0,_=>rfl
 |i+1,h=>by rw[nH,nH,ajz ws l w i I];have:aa (ws++[l]) i 0=aa ws i 0:=(by simp only[bX];rw[gP I]);rw[this]
def ayq(ws:List Nat)(l w:Nat):nH (ws++[l]) w (W (ws++[l]))=nH ws w (W ws)+if l=w then 1 else 0:=by
 rw[aF,I1,nH,ajz _ _ _ _ (aW _)];have:aa (ws++[l]) (W ws) 0=l:=(by simp);rw[this]
def ajA{ws:List Nat}: ∀{i j:Nat},j<i->w2 (aa ws j 0)<=eO ws i
 | i+1,j,h=>by
  rw[eO];rcases dq j i with a|a
  have:=ajA (ws:=ws) a;omega
  have:j=i:=I;subst this;omega
def ajB{m:Nat}(hs:eO ws (W ws)=s)(c:s≠0)(hm:mq s=m)(a:j<W ws):aa ws j 0<=m:=by
 have h1:=ajA (ws:=ws) a;rw[hs]at h1;unfold w2 at h1;split at h1
 have h2:=yQ (n:=s);have b:2^(aa ws j 0-1)<2^(s.log2+1):=I;have:=(Mj (I:1<2)).1 b;unfold mq at hm;omega
 omega
def Mk(ws:List Nat)(mk:List Nat)(i:Nat):Prop:=W mk=13/\ ∀w,w<13->aa mk w 0=nH ws w i
def Mk.step{mk:List Nat}(h:Mk ws mk i)(hw:aa ws i 0<13):Mk ws (mk.set (aa ws i 0) (aa mk (aa ws i 0) 0+1)) (i+1):=by
 refine⟨by rw[dW];exact h.1,λw a=>?_⟩;rw[nH,e_];by_cases e:aa ws i 0=w
 rw[ao ⟨e,by rw[h.1];exact hw⟩,ao e,e,h.2 w a]
 rw[aj I,aj e,h.2 w a,kN]
def Mk.last{mk:List Nat}{l:Nat}(h:Mk ws mk (W ws))(b:l<13):Mk (ws++[l]) (mk.set l (aa mk l 0+1)) (W (ws++[l])):=by
 refine⟨by rw[dW];exact h.1,λw a=>?_⟩;rw[ayq,e_];by_cases e:l=w
 rw[ao ⟨e,by rw[h.1];exact b⟩,ao e,e,h.2 w a]
 rw[aj I,aj e,h.2 w a,kN]
def Ow(ws:List Nat)(w:Nat): ∀i,nH ws w i<=i
 |0=>aW _
 |i+1=>by rw[nH];have:=Ow ws w i;split<;>omega
def Mn(al:List Nat)(aq:Nat)(mk:List Nat)(i:Nat):Prop:=W mk=13/\(∀w,1<=w->w<=i->aa mk w 0=W (df al aq (w-1)))/\ ∀w,i<w->w<13->aa mk w 0=nH al w (W al)
def Mn.init{mk:List Nat}(h:Mk al mk (W al)):Mn al aq mk 0:=⟨h.1,λw h1 h2=>by omega,λw _ hw=>h.2 w hw⟩
def Mn.step{mk:List Nat}(h:Mn al aq mk i)(hi:i+1<13):Mn al aq (mk.set (i+1) (W (df al aq i))) (i+1):=by
 refine⟨by rw[dW];exact h.1,λw h1 h2=>?_,λw h1 h2=>?_⟩
 rw[e_];by_cases e:i+1=w
 rw[ao ⟨e,by rw[h.1];omega⟩,<-e];rfl
 rw[aj I];exact h.2.1 w h1 I
 rw[e_,aj I];exact h.2.2 w I h2
def cod(x:Nat×Nat):Nat:=x.1 % 256*256+x.2
structure FI(al:List Nat)(aq:Nat)(m mk:List Nat)(i:Nat):Prop where
 ml:2^aq<=W m
 kl:W mk=13
 k: ∀w,1<=w->w<=aq->aa mk w 0=W (df al aq (w-1))+W (ff al aq w i)
 m: ∀w,1<=w->w<=aq-> ∀j,j<W (ff al aq w i)->aa m (W (df al aq (w-1))+j) 0=cod (aa (ff al aq w i) j (0,0))
def FI.init{mk:List Nat}(h:Mn al aq mk aq)(hm:2^aq<=W m):FI al aq m mk 0:=
 ⟨hm,h.1,λw h1 h2=>by rw[h.2.1 w h1 h2];rfl,λw _ _ j a=>by simp[ff]at a⟩
def FI.skip{mk:List Nat}(h:FI al aq m mk i)(b:aa al i 0=0):FI al aq m mk (i+1):=by
 have e: ∀w,1<=w->ff al aq w (i+1)=ff al aq w i:=λw hw=>(by rw[ff,aj I,dN]);exact⟨h.ml,h.kl,λw h1 h2=>by rw[e w h1];exact h.k w h1 h2,λw h1 h2 j a=>by rw[e w h1]at a ⊢;exact h.m w h1 h2 j a⟩
def FI.room{mk:List Nat}(b:W (df al aq aq)=2^aq)(h:FI al aq m mk i)(hi:i<W al)(hw:aa al i 0=w+1)(c:w+1<=aq):aa mk (w+1) 0=W (df al aq w)+W (ff al aq (w+1) i)/\aa mk (w+1) 0+2^w<=W (df al aq (w+1))/\W (df al aq (w+1))<=2^aq:=by
 have h1:=h.k (w+1) I c;have h2:W (ff al aq (w+1) (i+1))=W (ff al aq (w+1) i)+2^w:=(by rw[ff,ao hw,aF,dS];rfl);have d:=abb al aq (w+1) (W al- (i+1)) (i+1);rw[show i+1+(W al- (i+1))=W al by omega]at d;have e:W (df al aq (w+1))=W (df al aq w)+W (ff al aq (w+1) (W al)):=(by rw[df,aF]);have a:=KM al aq (aq- (w+1)) (w+1);rw[show w+1+(aq- (w+1))=aq by omega,b]at a;simp only[yS]at h1;exact⟨h1,I,a⟩
def FI.step{a mk:List Nat}(d:W (df al aq aq)=2^aq)(h:FI al aq m mk i)(hi:i<W al)(hw:aa al i 0=w+1)(f:w+1<=aq)(o:aq<13)(p:W a=W m)(hm: ∀q,q<W m->aa a q 0=if aa mk (w+1) 0<=q/\q<aa mk (w+1) 0+2^w then i % 256*256+(aq-w)else aa m q 0):FI al aq a (mk.set (w+1) (aa mk (w+1) 0+2^w)) (i+1):=by
 obtain⟨r1,r2,r3⟩:=h.room d hi hw f;have r:=h.ml;have hs:ff al aq (w+1) (i+1)=ff al aq (w+1) i++aT (2^w) (i,aq-w):=(by rw[ff,ao hw,yS,show aq+1- (w+1)=aq-w by omega]);have g: ∀v,1<=v->v≠w+1->ff al aq v (i+1)=ff al aq v i:=λv _ l=>(by rw[ff,aj I,dN]);refine⟨by rw[p];exact r,by rw[dW];exact h.kl,λv h1 h2=>?_,λv h1 h2 j b=>?_⟩
 rw[e_];by_cases e:w+1=v
 rw[ao ⟨e,by rw[h.kl];omega⟩,<-e,hs,aF,dS,yS];omega
 rw[aj I,g v h1 I];exact h.k v h1 h2
 by_cases e:w+1=v
 subst e;rw[hs,aF,dS]at b;simp only[yS];rw[hm _ I];by_cases n:j<W (ff al aq (w+1) i)
 rw[aj I];have:=h.m (w+1) I f j n;simp only[yS]at this;rw[this,hs];congr 1;simp only[bX];rw[gP n]
 rw[ao I,hs];simp only[bX];rw[l_ I,rK,ao I];rfl
 rw[g v h1 I]at b ⊢;have x:W (df al aq v)=W (df al aq (v-1))+W (ff al aq v (W al)):=(by obtain⟨c,rfl⟩: ∃c,v=c+1:=⟨v-1,I⟩;rw[df,aF,yS]);have s:=abb al aq v (W al-i) i;rw[show i+(W al-i)=W al by omega]at s;have t:=KM al aq (aq-v) v;rw[show v+(aq-v)=aq by omega,d]at t
 have u: ¬(aa mk (w+1) 0<=W (df al aq (v-1))+j/\W (df al aq (v-1))+j<aa mk (w+1) 0+2^w):=by
  rcases dq v (w+1)with l|l
  have:=KM al aq (w-v) v;rw[show v+(w-v)=w by omega]at this;omega
  have:=KM al aq (v-1- (w+1)) (w+1);rw[show w+1+(v-1- (w+1))=v-1 by omega]at this;omega
 rw[hm _ I,aj u];exact h.m v h1 h2 j b
def FI.rows{mk:List Nat}(h:FI al aq m mk (W al)): ∀Z_,Z_<=aq-> ∀{j:Nat} {x:Nat×Nat},(df al aq Z_)[j]? =some x->aa m j 0=cod x
 |0,_,j,x,a=>by simp[df]at a
 | Z_+1,b,j,x,a=>by
  rw[df]at a;rcases dq j (W (df al aq Z_)) with hi|hi
  rw[gP hi]at a;exact h.rows Z_ I a
  rw[l_ hi]at a;have c:=(qP.1 a).1;have:=h.m (Z_+1) I b _ c;simp only[yS]at this;rw[show(df al aq Z_).length+(j- W (df al aq Z_))=j by omega]at this;rw[this];simp[bX,a]
def FI.zE{mk:List Nat}(b:W (df al aq aq)=2^aq)(h:FI al aq m mk (W al)){i:Nat}(hi:i<2^aq):aa m i 0=oa (mr al aq) i:=by
 have a:=gW (l:=df al aq aq) (I:i<_);rw[h.rows aq (aW _) a];unfold cod oa mr;simp only[bX,kP,a];rfl
def ajC{O lf b:Nat}(hb:b<=lf)(a:lf<=8*cs):dE (num (E.drop O)) (lf:Int) b=dE (num (ag E O cs)) (lf:Int) b:=by
 rw[Ca _ _ _ hb,Ca _ _ _ hb,Oj I,<-AW]
structure zV(Wv:List UInt8)(ws:List Nat):Prop where
 l:W Wv=256
 n:W ws<=256
 g: ∀i,i<W ws->(aa Wv i 0).toNat=aa ws i 0
def zV.snoc{v:UInt8}(h:zV Wv ws)(b:W ws<256)(a:v.toNat=s):zV (Wv.set (W ws) v) (ws++[s]):=by
 refine⟨by rw[dW];exact h.l,by simp;omega,λi hi=>?_⟩;rw[aF,I1]at hi;rw[e_];by_cases e:W ws=i
 rw[ao ⟨e,by rw[h.l];omega⟩,a];subst e;simp
 rw[aj I,h.g i I];simp only[bX];rw[gP I]
def zV.more{q:Nat}{v:UInt8}(h:zV Wv ws)(a:W ws<=q):zV (Wv.set q v) ws:=by
 refine⟨by rw[dW];exact h.l,h.n,λi hi=>?_⟩;rw[e_,aj I];exact h.g i hi
def ayr(h:gL E=some (t,k)):CY t:=by
 unfold gL at h;split at h
 cases h
 dsimp only at h;split at h
 split at h
 cases h
 cases a:g9 ((cL (byte E 0-127)).map λi=>byte E (1+i/2)/2^(4-i % 2*4) % 16)with
 |none=>rw[a]at h;cases h
 |some b=>rw[a]at h;cases h;exact aiL a
 split at h
 cases h
 cases hw:wF (ag E 1 (byte E 0))with
 |none=>rw[hw]at h;cases h
 | some ws=>
   rw[hw,rO]at h
   cases a:g9 ws with
   |none=>rw[a]at h;cases h
   |some b=>rw[a]at h;cases h;exact aiL a
def ays{m:Nat}(h:g9 ws=some t)(e:t=mr al m):W (df al m m)=2^m:=by
 have:=(Ni h).1.syms;rw[e]at this;simpa [mr] using this
variable {cs:List dx}{S U:List UInt8}{b cur f lf lg u9 st tv y:Nat}
def ajD:(ag E a n).drop k=ag E (a+k) (n-k):=by
 unfold ag;rw[IY,kG]
def ajE{p:Nat}(h:p+k<=8*n):dJ (num (ag E a n)) p k=dJ (num (E.drop a)) p k:=by
 rw[Oj h,AW]
def ajF(h: ∀out lg size,fO (num S) (W S) 6 256=some (out,lg,size)->W S<size+2):wF S=none:=by
 unfold wF
 cases hp:fO (num S) (W S) 6 256 with
 |none=>rfl
 | some x=>
   have h1:=h x.1 x.2.1 x.2.2 hp
   have b:=Ez (out:=x.1) (log:=x.2.1) (size:=x.2.2) hp an an
   have oK:=b.1.mJ
   have c:=GZ (out:=x.1) (log:=x.2.1) (size:=x.2.2) hp
   dsimp only
   rw[l9 c]
   cases hb:jg (S.drop x.2.2)with
   |none=>rfl
   | some left=>
     dsimp only
     have d:left<=7:=by
       unfold jg at hb
       split at hb
       . cases hb
       . rename_i a
         have hlen:W (S.drop x.2.2)=1:=by
           have:=cr (i:=x.2.2) (l:=S)
           have:W (S.drop x.2.2)≠0:=λe=>a (a_ e)
           omega
         have f:uX (S.drop x.2.2)<=255:=toNat_le _
         have g:uX (S.drop x.2.2)≠0:=λe=>a (bG e)
         have:=(qR g (k:=8)).2 I
         injection hb with hb
         rw[hlen]at hb
         omega
     rw[ao I]
def ayt{out:List Int}{left:Nat}(hp:fO (num S) (W S) 6 256=some (out,lg,size))(hb:jg (S.drop size)=some left)(b:2*lg<=left):wF S=sd (num (S.drop size)) (dn out lg) 257 (dE (num (S.drop size)) left lg) (dE (num (S.drop size)) ((left:Int) -lg) lg) ((left:Int) -lg-lg) []:=by
 have a:=GZ hp;unfold wF;rw[hp];dsimp only;rw[l9 a,hb];dsimp only;rw[aj I]
def ayu{out:List Int}{left:Nat}(hp:fO (num S) (W S) 6 256=some (out,lg,size))(hb:jg (S.drop size)=some left)(b:left<2*lg):wF S=none:=by
 have a:=GZ hp;unfold wF;rw[hp];dsimp only;rw[l9 a,hb];dsimp only;rw[ao I]
def ayv{out:List Int}(hp:fO (num S) (W S) 6 256=some (out,lg,size))(hb:jg (S.drop size)=none):wF S=none:=by
 have a:=GZ hp;unfold wF;rw[hp];dsimp only;rw[l9 a,hb]
section
variable {E:List UInt8}{p hd:Nat}
def ajH{out:List Int}(hle:p+1+hd<=W E)(h:fO (num (ag E (p+1) hd)) (W (ag E (p+1) hd)) 6 256=some (out,lg,size)):fO (num (E.drop (p+1))) (W E- (p+1)) 6 256=some (out,lg,size):=by
 have c:W (ag E (p+1) hd)=hd:=dK I;have hs:=GZ h;exact aiS (n:=hd) (λa k b=>(ajE b).symm) I h I
def ayw{out:List Int}(hle:p+1+hd<=W E)(h:fO (num (E.drop (p+1))) (W E- (p+1)) 6 256=some (out,lg,size))(hs:size<=hd):fO (num (ag E (p+1) hd)) (W (ag E (p+1) hd)) 6 256=some (out,lg,size):=by
 have c:W (ag E (p+1) hd)=hd:=dK I;exact aiS (n:=hd) (λa k b=>ajE b) I h I
def ayx(hle:p+1+hd<=W E)(h:yh (W E- (p+1)) (fO (num (E.drop (p+1))) (W E- (p+1)) 6 256)):wF (ag E (p+1) hd)=none:=by
 refine ajF λout lg size hp=>?_;have a:W (ag E (p+1) hd)=hd:=dK I;have:=h out lg size (ajH hle hp);omega
def ayy{out:List Int}{x0:Nat}(hle:p+1+hd<=W E)(d:fO (num (E.drop (p+1))) (W E- (p+1)) 6 256=some (out,lg,size))(a:(aa E (p+1+hd-1) 0).toNat=x0):(x0=0->wF (ag E (p+1) hd)=none)/\(x0≠0-> ∀lf,7- (8-iE x0)+8*(p+1+hd-1- (p+1+size))=lf->(lf<2*lg->wF (ag E (p+1) hd)=none)/\(2*lg<=lf->size<hd/\lf<=8*(hd-size)/\wF (ag E (p+1) hd)=sd (num (ag E (p+1+size) (hd-size))) (dn out lg) 257 (dJ (num E) (8*(p+1+size)+lf-lg) lg) (dJ (num E) (8*(p+1+size)+lf-lg-lg) lg) ((lf-2*lg:Nat):Int) [])):=by
 have q:W (ag E (p+1) hd)=hd:=dK I;have h:=Ez d an an;have oK:=h.1.mJ;have f:hd<=size->wF (ag E (p+1) hd)=none:=λhs=>ajF λdh i j hp=>(by have e:=(ajH hle hp).symm.trans d;cases e;omega);have r:x0<=255:=(by rw[<-a];exact toNat_le _);have k:= @lk x0 8 I;rcases dq size hd with hs|hs
 have hp:=ayw hle d I;have b:(ag E (p+1) hd).drop size=ag E (p+1+size) (hd-size):=ajD;have hi:p+1+size+(hd-size) -1=p+1+hd-1:=I;refine⟨λc=>ayv hp ?_,λc lf l=>?_⟩
 rw[b];exact aa2 I I (by rw[hi,a];exact c)
 have hb:jg (ag E (p+1+size) (hd-size))=some lf:=(by rw[aa3 I I (by rw[hi,a];exact c),hi,a];congr 1;omega);have s:=Hi (n:=x0) I;refine⟨λm=>ayu hp (by rw[b];exact hb) m,λg=>⟨hs,I,?_⟩⟩;have t:lf<=8*(hd-size):=I;rw[ayt hp (by rw[b];exact hb) g,b];have o:(lf:Int) -lg=((lf-lg:Nat):Int):=I;have e2:((lf-lg:Nat):Int) -lg=((lf-2*lg:Nat):Int):=I;rw[o,e2,Ca _ _ _ (I:lg<=lf),Ca _ _ _ (I:lg<=lf-lg),Oj I,Oj I];congr 2<;>omega
 refine⟨λ_=>f hs,λc lf l=>⟨λ_=>f hs,λg=>?_⟩⟩;exfalso;omega
end
def abc{HS:List dx}(hi:i<W cs)(e:aa cs i default=aa HS i default)(a:(aa HS i default).sym=y)(hb:(aa HS i default).bits=b)(c:(aa HS i default).base=n):(dp cs)[i*3+0]? =some (U8 y)/\(dp cs)[i*3+1]? =some (U8 b)/\(dp cs)[i*3+2]? =some (dG n):=by
 rw[J7 hi,Se hi,Sf hi,e,a,hb,c];exact⟨J,J,J⟩
def rn(h:n<=255):n=(bS n).toNat:=by
 have:(bS n).toNat=n % 256:=(by simp);omega
def ajI{a:Nat}{out:List Nat}(c:(aa cs cur default).sym=y)(hb:(aa cs cur default).bits=b)(d:(aa cs u9 default).sym=a)(h:lf<b):sd N cs (f+1) cur u9 (lf:Int) out=if W out+2<=255 then some (out++[y]++[a])else none:=by
 rw[Nm,c,hb,d,ao I]
def ajJ{v:Nat}{out:List Nat}(a:(aa cs cur default).sym=y)(hb:(aa cs cur default).bits=b)(c:(aa cs cur default).base=n)(h:b<=lf)(d:dE N (lf:Int) b=v):sd N cs (f+1) cur u9 (lf:Int) out=if 255<W out+1 then none else sd N cs f u9 (n+v) ((lf-b:Nat):Int) (out++[y]):=by
 rw[Nm,a,hb,c,aj I,d,show(lf:Int) - (b:Int)=((lf-b:Nat):Int) by omega]
def ajK{α:Type}(f:Nat->α)(n:Nat):(cL (n+1)).map f=(cL n).map f++[f n]:=by rw[pR,gJ];rfl
def tk(U:List UInt8)(i:Nat):Nat:=byte U (1+i/2)/2^(4-i % 2*4) % 16
def ayz(h:i % 2=0)(hb:byte U (1+i/2)=b):tk U i=b/2^4/\tk U (i+1)=b % 2^4:=by
 have h1:(i+1)/2=i/2:=I;have h2:(i+1) % 2=1:=I;have a:b<=255:=(by rw[<-hb];exact toNat_le _);unfold tk;rw[h1,h,h2,hb];refine⟨?_,?_⟩
 show b/16 % 16=b/16;omega
 show b/1 % 16=b % 16;omega
def TP(a:W U≠0)(hb:128<=byte U 0)(b:byte U 0-127=n):gL U=if W U<1+(n+1)/2 then none else(g9 ((cL n).map (tk U))).map λt=>(t,1+(n+1)/2):=by
 subst b;unfold gL;rw[aj a];dsimp only;rw[ao hb,ao hb];rfl
def TQ(a:W U≠0)(hb:byte U 0<128):gL U=if W U<1+byte U 0 then none else(wF (ag U 1 (byte U 0))).bind λws=>(g9 ws).map λt=>(t,1+byte U 0):=by
 unfold gL;have b: ¬128<=byte U 0:=I;rw[aj a];dsimp only;simp only[aj b]
def abd{ws:List Nat}: ∀{i:Nat},(∀j,j<i->aa ws j 0<=12)->eO ws i<=2048*i
 |0,_=>by simp[eO]
 | i+1,h=>by
  have h1:=abd (ws:=ws) (i:=i) (λj a=>h j I)
  have h2:w2 (aa ws i 0)<=2048:=by
   unfold w2;split
   exact aM (dF I (show aa ws i 0-1<=11 by have:=h i I;omega)) an
   omega
  rw[eO];omega
def ayA(n:Nat):aT n (iW 0)=ar u8 (aT n 0):=by rw[xz];rfl
def C7{D:List Nat}(h:i<W D):(D.map dB)[i]? =some (dB (aa D i 0)):=by simp[h]
def HT(m a:List Nat)(st j tv:Nat):Prop:=W a=W m/\ ∀q,q<W m->aa a q 0=if st<=q/\q<st+j then tv else aa m q 0
def HT.init:HT m m st 0 tv:=⟨J,λq _=>by rw[aj I]⟩
def HT.step{a:List Nat}(h:HT m a st j tv):HT m (a.set (st+j) tv) st (j+1) tv:=by
 refine⟨by rw[dW];exact h.1,λq b=>?_⟩;rw[e_];by_cases e:st+j=q
 rw[ao ⟨e,by rw[h.1];omega⟩,ao I]
 rw[aj I,h.2 q b];by_cases e2:st<=q/\q<st+j
 rw[ao e2,ao I]
 rw[aj e2,aj I]
variable {c:Nat}{x:dk}{w:World}
def FX(x:dk)(fa:Option Addr)(fn fc:Nat):dk:={x with fA:=fa,fN:=fn,fC:=fc}
def ayB{a a':Option Addr}{n' c':Nat}:(aB (FX x a n c)).set 44 (.slice a' n' c')=aB (FX x a' n' c'):=rfl
def TV{a:Option Addr}:(aB (FX x a n c))[44]? =some (.slice a n c):=rfl
structure Hid(P:Prop):Prop where
 o:P
def ar2{x:Nat}(e:c+x+a=lf)(h: ¬2*a<=lf):c+x<a:=I
def arf(h:f+1+1+n=257):f+(n+1+1)=257:=I
def arw(h: ¬255<=n+1):n+1+1<=255:=I
def arm{g:Nat}(h:f=g+1+1):g<f:=I
def ar1{x:Nat}(e:c+x+a=lf)(h:2*a<=lf):a<=c+x:=I
def xd{P:Program}{ρ:Env}{op:Op}{ty:TypeId}{w':World}{z:UInt8}(h:run P ρ op ty w= .ok (.value (u8 z)) w')(e:z.toNat=n):run P ρ op ty w= .ok (.value (U8 n)) w':=by rw[h,<-e]
def TW(h:p:=by have hN:gL (E.drop p)=none:=(by rw[EM,<-qA];rfl);refine bY (fD (cJ J J J (aH (R6 h (aA (aA (aA bZ))) (hG.sub aP) bZ I) ?_)));rintro e w1 ⟨be,rfl,h⟩;refine g_ 5 ?_;replace h:=h.zz [4,2,4,4,4] 2;exact⟨_,_,_,some ⟨fb,0,none⟩,f2,nF,some fb,nG,m,J,h,vJ,mL,bG ⟨(a_ ⟨_,J⟩),(λt k e=>by rw[hN]at e;cases e)⟩⟩):p:=h
def TX(h:p:=by refine g_ 4 ?_;refine eS J J J J (aH (re h (aA (aA bZ)) (hG.sub aP)) ?_);rintro e w1 ⟨be,rfl,h⟩;refine g_ 5 ?_;replace h:=h.tail.tail;(try dsimp only[dX]at h);exact⟨_,_,_,fa,fn,fc,j5,ik,m,J,h,hFs,mL,bG ⟨(a_ ⟨_,J⟩),(λt k e=>by rw[hN]at e;cases e)⟩⟩):p:=h
def ajL(h:p:=by refine g_ 4 ?_;refine eS J J J J (aH (re h (aA (aA bZ)) (hG.sub aP)) ?_);rintro e w1 ⟨be,rfl,h⟩;refine g_ 5 ?_;replace h:=h.tail.tail;(try dsimp only[dX]at h);exact⟨_,_,_,fa,fn,fc,j5,ik,m,J,h,hFs,mL,bG ⟨(a_ ⟨_,J⟩),(λt k e=>bG (by rw[Fm]at e;cases e;exact ajM I))⟩⟩):p:=h
theorem ayC{r:fT}{L:List aK}{hb p:Nat}{aE aU:Addr}{eP:Option Nat}(h:H r w ((ah br (aB (FX x x.fA x.fN x.fC)) 81)::(eP,C (dp cs) 227)::(ah hb (ar dG m) 174)::L))(hG:Gl L aE aU)(V:aY L (.slice ad (W E) dc) E)(hE:W E<=268435456)(hp:p<=W E)(ss:yn x.fA x.fN x.fC eP cs)(mL:W m=2048):Calls PP 109 #[bL br,.slice ad (W E) dc,af p,cK hb 2048 2048] w λe w'=> ∃a b er fa fn fc oP kE m',e= .returned (.tuple #[af a,af b,er])/\H r w' ((ah br (aB (FX x fa fn fc)) 81)::(oP,C (dp kE) 227)::(ah hb (ar dG m') 174)::L)/\yn fa fn fc oP kE/\W m'=2048/\((er= .nilIface/\ ∃t k,gL (E.drop p)=some (t,k)/\b=p+k/\a=t.aq/\(∀i,i<2^t.aq->aa m' i 0=oa t i)/\p+k<=W E/\1<=k)\/(Er aU er/\ ∀t k,gL (E.drop p)=some (t,k)->W E<=p+k\/aa t.bits 0 0<t.aq)):=by
 have rh:0<W E-> ∃db q l T,ad=some ⟨db,q,none⟩/\(ah db l T)∈L/\Rd l q (E.map u8):=(by obtain⟨jz,n',c',e1,hl,hc,h3⟩:=id V;cases e1;intro h0;exact h3 I);obtain⟨T1,gi⟩:=hG.g1;obtain⟨i1,pC⟩:=dw gi;obtain⟨qW,zM,NN,Km⟩:=id ss;have hUl:W (E.drop p)=W E-p:=cr;refine xJ func109 ntmps109 [8,9,10] ?_;refine g_ 14 ?_;refine au J ?_ ?_<;>intro AO
 have hN:gL (E.drop p)=none:=(by unfold gL;rw[ao I]);refine g_ 4 ?_;refine cJ J J J (aH (vi h bZ (hG.sub aP)) ?_);rintro e w1 ⟨be,rfl,h⟩;refine g_ 5 ?_;exact⟨_,_,_,x.fA,x.fN,x.fC,eP,cs,m,J,h,ss,mL,bG ⟨(a_ ⟨_,J⟩),(λt k e=>by rw[hN]at e;cases e)⟩⟩
 refine aZ (rh I) (λdb M=>aZ (M) (λq eJ=>aZ (eJ) (λl fH=>aZ (fH) (λT j1=>?_))));have ji:=j1.1;have kW:=λi (hi:i<W E)=>kf j1.2.2 (i:=i) hi;refine gg j1.2.1 λib ph=>(cM ((aa E p 0).toNat) λG kU=>?_);have hv8:G<=255:=(by rw[<-kU];exact toNat_le _);have tQ: ∀i,byte (E.drop p) i=(aa E (p+i) 0).toNat:=λi=>(by unfold byte;simp only[bX,nQ]);have eC:byte (E.drop p) 0=G:=(by rw[tQ,kN];exact kU);have hU0:W (E.drop p)≠0:=I;have HU:p<W E:=I;clear rh;refine g_ 5 ?_;refine ak (da J J ji I) (ak (xd (run_load h J (kW _ I)) kU) ?_);refine g_ 10 ?_;refine eN h J ?_;intro O w h;rw[ayA]at h;have ajN:zV (aT 256 0) []:=⟨by rw[dS],by show 0<=256;omega,λi hi=>absurd hi (by show ¬i<0;omega)⟩;refine g_ 5 ?_;refine cW [(2,2),(8,10),(13,25),(54,277)] (λρ w=> ∃ws:List Nat,∃Wv:List UInt8,∃k:Nat,∃fa:Option Addr,∃fn fc:Nat,∃j5:Option Nat,∃ik:List dx,Kn ρ [(2,af (p+k)),(13,af (W ws))]/\H r w ((ah O (ar u8 Wv) 233)::(ah br (aB (FX x fa fn fc)) 81)::(j5,C (dp ik) 227)::(ah hb (ar dG m) 174)::L)/\(zV Wv ws)/\(yn fa fn fc j5 ik)/\(gL (E.drop p)=(g9 ws).map λt=>(t,k))/\(p+k<=W E/\1<=k)/\(W ws<=255)) ?_ ?_
 refine g_ 5 ?_;refine au J ?_ ?_<;>intro Ox
 refine cW [(56,65)] (λρ w=> ∃fb:Nat,∃ik:List dx,∃f2 nF:Nat,Kn ρ []/\H r w ((ah O (ar u8 (aT 256 0)) 233)::(ah br (aB (FX x (some ⟨fb,0,none⟩) f2 nF)) 81)::((some fb),C (dp ik) 227)::(ah hb (ar dG m) 174)::L)/\(nF<=W ik)/\(64<=f2/\f2<=nF)) ?_ ?_
 refine g_ 5 ?_;refine aX h J TV ?_;refine g_ 3 ?_;refine au J ?_ ?_<;>intro aim
 refine fD (dg (uK (a:=64) (h1:=av.lit _) (c:=64) (h2:=av.lit _) h J J J I I I J ?_));intro bc w h;rw[ahQ]at h;refine g_ 2 ?_;refine dt (cK bc 64 64) TV ?_;intro w h;rw[ayB]at h;refine aJ ?_;replace h:=h.zz [4,1,3,3,4] 1;exact⟨aO 11,bc,aT 64 default,64,64,az,h,(by rw[dS];exact aW _),I,I⟩
 have aao:eP≠none:=λe=>(by have:=Km e;omega);refine(WW.1 aao).elim λfb pB=>?_;rw[pB]at h;have Hu:x.fA=some ⟨fb,0,none⟩:=(by rw[qW,pB];rfl);rw[Hu]at h;exact a8 ⟨aO 6,fb,cs,x.fN,x.fC,az,h,I,I,I⟩
 rintro ρ w ⟨fb,ik,f2,nF,⟨mn,rfl⟩,h,awe,awf⟩;refine g_ 8 ?_;refine aX h J TV ?_;replace h:=h.zz [2] 0;refine Xz (v3:=af 255) (v4:=af 6) J J J J J J J (aH (ahx (off:=p+1) (ms:=255) (mb:=6) h (aA bZ) (hG.sub aP) (V.sub aP) I hE I I (by show 64<=f2;omega) I) ?_);rintro e w1 ⟨a1,b1,sr,nG,rfl,h,GX,hd⟩;refine(Kk hd).elim λok c_=>?_;have gM:=c_.1;have gj:=c_.2;have vJ:yn (some ⟨fb,0,none⟩) f2 nF (some fb) nG:=⟨J,I,I,λe=>by cases e⟩;have hSg:ag (E.drop p) 1 G=ag E (p+1) G:=(by unfold ag;rw[kG]);have xY:=λ(dd:G<128)=>TQ hU0 (by rw[eC];exact dd);rw[eC]at xY;rw[hSg]at xY;refine g_ 12 ?_;refine ak (kg sr (ok=true) J (λe=>(gM e).1) (λe=>(gj (by simpa using e)).1) J) ?_;refine aJ (au J ?_ ?_)<;>intro Q9
 have hN:gL (E.drop p)=none:=by
  rw[xY I];by_cases hh:W E-p<1+G
  rw[ao I]
  rw[aj I,ayx I (gj (by simpa using Q9)).2,Option.bind_none]
 refine g_ 8 ?_;replace h:=h.zz [3,1,3,3] 1;exact⟨_,_,_,some ⟨fb,0,none⟩,f2,nF,some fb,nG,m,J,h,vJ,mL,bG ⟨(a_ ((gj (by simpa using Q9)).1)),(λt k e=>by rw[hN]at e;cases e)⟩⟩
 have gi:=gM (by simpa using Q9);refine aZ (gi.2) (λout M=>aZ (M) (λsize ka=>?_));have hP:=ka.1;have HI:=ka.2.1;have abe:=ka.2.2;clear c_ gM gj hd gi ka M;have vu:=Ez hP an an;have aJ2:=vu.1.mJ;have CA:a1<=6:=vu.2.1;have ajO:2^a1<=64:=aM (dF an CA) an;have px:=λy (hy:y<2^a1)=>GL vu.1 hy;have aJ3:p+1+size<=W E:=(by have:=GZ hP;omega);refine cM (p+1+size) λK abf=>?_;refine g_ 6 ?_;refine aX h J TV ?_;refine g_ 13 ?_;refine au J ?_ ?_<;>intro u6
 have hN:gL (E.drop p)=none:=(by rw[xY I,ao I]);refine g_ 4 ?_;refine cJ J J J (aH (vi h (aA (aA bZ)) (hG.sub aP)) ?_);rintro e w1 ⟨be,rfl,h⟩;refine g_ 5 ?_;replace h:=h.zz [3,1,3,3] 1;exact⟨_,_,_,some ⟨fb,0,none⟩,f2,nF,some fb,nG,m,J,h,vJ,mL,bG ⟨(a_ ⟨_,J⟩),(λt k e=>by rw[hN]at e;cases e)⟩⟩
 have hle:p+1+G<=W E:=I;refine cM (p+1+G-1) λo0 ho0=>?_;have aJ4:p+G=o0:=I;refine cM ((aa E o0 0).toNat) λx0 M=>?_;have CC:=ayy (x0:=x0) hle hP (by rw[ho0];exact M);rw[ho0,abf]at CC;have aJ5:x0<=255:=(by rw[<-M];exact toNat_le _);refine cM (wF (ag E (p+1) G)) λRR hRR=>?_;rw[hRR]at CC xY;have EM:gL (E.drop p)=RR.bind λws=>(g9 ws).map λt=>(t,1+G):=(by rw[xY I,aj I]);replace CC:=Hid.mk CC;clear xY;refine g_ 9 ?_;refine ak (cG (jm (b:=1) (h2:=av.lit _) J J I aG) ho0) (dg (wj J J J J J (aH (Hl h (aA (aA bZ)) (hG.sub aP) (V.sub aP) (off:=o0) (st:=b1) I hE I) ?_)));rintro e w1 ⟨vs,N0,rfl,vm,Fb,h,hz,rl⟩;rw[M]at hz rl;replace hz:=Hid.mk hz;replace rl:=Hid.mk rl;refine g_ 3 ?_;refine eN h J ?_;intro bB w h;refine rW (vs:=vs) h J J vm Fb (by exact aW 6) J ?_;intro w h;dsimp only[bJ]at h;rw[HB (by rw[vm];rfl)]at h;refine g_ 6 ?_;refine ak (kg N0 (¬x0=0) J (λe=>(rl.o e).1) (λe=>hz.o (F9.1 e)) J) (aJ (au J ?_ ?_))<;>intro Ep
 have ajP:x0=0:=I;have hN:gL (E.drop p)=none:=(by rw[EM,CC.o.1 ajP];rfl);refine g_ 8 ?_;replace h:=h.zz [4,2,4,4,4] 2;exact⟨_,_,_,some ⟨fb,0,none⟩,f2,nF,some fb,nG,m,J,h,vJ,mL,bG ⟨(a_ (hz.o ajP)),(λt k e=>by rw[hN]at e;cases e)⟩⟩
 have abg:x0≠0:=I;rw[(rl.o abg).2,HI,abf]at h;have S_:= @lk x0 8 I;have hI0:=p_.init (E:=E) (o:=o0) I (by rw[M];exact abg);rw[M]at hI0;refine cM (7- (8-iE x0)) λc0 mZ=>?_;have aJ6:c0<=7:=I;refine cM (c0+8*(o0-K)) λX A5=>?_;have kB:=Hid.mk (CC.o.2 abg X (by rw[mZ];exact A5));rw[mZ]at h hI0;clear hz CC rl mZ S_ M;refine g_ 5 ?_;refine cJ J J J (aH (ZF (b:=a1) (st:=K) h (aA (aA bZ)) (hG.sub aP) (V.sub aP) I hE I I I hI0) ?_);rintro e w1 ⟨v1,w7,o1,jo,fv,rfl,h,pF,qC,gA,nT⟩;rw[A5]at gA nT;replace gA:=Hid.mk gA;replace nT:=Hid.mk nT;replace qC:=Hid.mk qC;refine g_ 10 ?_;refine ak (kg w7 (a1<=X) J (λe=>(gA.o e).1) (λe=>nT.o (xy e)) J) (aJ (au J ?_ ?_))<;>intro ayD
 have hN:gL (E.drop p)=none:=(by rw[EM,kB.o.1 I];rfl);refine g_ 8 ?_;replace h:=h.zz [4,2,4,4,4] 2;exact⟨_,_,_,some ⟨fb,0,none⟩,f2,nF,some fb,nG,m,J,h,vJ,mL,bG ⟨(a_ (nT.o (xy ayD))),(λt k e=>by rw[hN]at e;cases e)⟩⟩
 have h1a:a1<=X:=I;have ayE:=gA.o h1a;obtain⟨aJ7,ayF,ayG,ayH,TY,TZ⟩:=ayE;replace TZ:=TZ (aM CA an);clear nT gA;refine g_ 5 ?_;refine cJ J J J (aH (ZF (b:=a1) (st:=K) h (aA (aA bZ)) (hG.sub aP) (V.sub aP) I hE I I ayG ayH) ?_);rintro e w1 ⟨v2,CS,o2,oH,uk,rfl,h,n7,j3,lh,q7⟩;replace lh:=Hid.mk lh;replace q7:=Hid.mk q7;replace j3:=Hid.mk j3;refine g_ 10 ?_;refine ak (kg CS (2*a1<=X) J (λe=>(lh.o (ar1 TY e)).1) (λe=>q7.o (ar2 TY e)) J) (aJ (au J ?_ ?_))<;>intro ajQ
 have hN:gL (E.drop p)=none:=(by rw[EM,kB.o.1 (xy ajQ)];rfl);refine g_ 8 ?_;replace h:=h.zz [4,2,4,4,4] 2;exact⟨_,_,_,some ⟨fb,0,none⟩,f2,nF,some fb,nG,m,J,h,vJ,mL,bG ⟨(a_ (q7.o (ar2 TY ajQ))),(λt k e=>by rw[hN]at e;cases e)⟩⟩
 have h2a:2*a1<=X:=I;have ayI:=lh.o (ar1 TY h2a);obtain⟨aJ8,ayJ,ayK,ayL,aJ9,T3⟩:=ayI;clear q7 lh;replace T3:=T3 (aM CA an);have NU:=kB.o.2 h2a;obtain⟨sQ,qZ,abh⟩:=NU;refine cM (G-size) λds hds=>?_;rw[hds]at qZ abh;have aJ_:size+ds=G:=I;clear hds;clear kB;replace qC:=qC.o I;replace j3:=j3.o qC;have e1:v1=dJ (num E) (8*K+X-a1) a1:=(by rw[TZ];congr 1;omega);have e2:v2=dJ (num E) (8*K+X-a1-a1) a1:=(by rw[T3];congr 1;omega);rw[<-e1,<-e2]at abh;have A7:Bs E K o2 oH uk (X-2*a1):=⟨j3,I,ayK,ayL,I⟩;clear TZ T3 e1 e2 qC j3;refine g_ 3 ?_;refine cw (σ:=Nat×Nat×Nat×Nat×Nat×Nat×Nat×List Nat×List UInt8) [(8,10),(13,13),(19,23),(128,241)] (λ⟨f,s1,s2,o,bi,cn,lf,ws,Wv⟩ ρ w=>Kn ρ [(19,dB s1),(20,dB s2),(13,af (W ws))]/\H r w ((ah bB [bL br,.slice ad (W E) dc,bR o,bR K,bR bi,bR cn] 207)::(ah fb (dp nG) 227)::(ah O (ar u8 Wv) 233)::(ah br (aB (FX x (some ⟨fb,0,none⟩) f2 nF)) 81)::(ah hb (ar dG m) 174)::L)/\(Bs E K o bi cn lf)/\(lf<=8*ds)/\(s1<2^a1)/\(s2<2^a1)/\(zV Wv ws)/\(sd (num (ag E K ds)) (dn out a1) f s1 s2 ((lf:Nat):Int) (ws)=RR)/\(f+W ws=257)/\(W ws<=255)) (λ⟨f,s1,s2,o,bi,cn,lf,ws,Wv⟩=>f) (257,v1,v2,o2,oH,uk,X-2*a1,[],aT 256 0) ⟨az,h,A7,(aM (vZ _ _) qZ),ayF,ayJ,ajN,abh.symm,J,(by show 0<=255;omega)⟩ ?_;rintro⟨f,s1,s2,o,bi,cn,lf,ws,Wv⟩ ρ w ⟨⟨nz,rfl⟩,h,hB,qZ,fe,fP,u,qA,hf,kB⟩;refine aZ (show ∃Oy,f=Oy+1+1 from⟨f-2,I⟩) (λOy abi=>?_);rw[abi]at qA;have aiX:=hB.le;have Oq:=hB.st;have HH:=hB.left;have hBc:=hB.vD;refine cM ((aa (dn out a1) s1 default).sym) λD yt=>(cM ((aa (dn out a1) s1 default).bits) λN T4=>(cM ((aa (dn out a1) s1 default).base) λn1 iZ=>?_));have Oz:=abc (cs:=nG) (HS:=dn out a1) (i:=s1) I (abe _ fe) yt T4 iZ;have T6:=px _ fe;rw[yt,T4,iZ]at T6;have T7:D<=255:=(by have:=T6.2.2.1;have:=vu.2.2;omega);have aJ':=eA N;refine cM ((aa (dn out a1) s2 default).sym) λA A8=>(cM ((aa (dn out a1) s2 default).bits) λoQ T8=>(cM ((aa (dn out a1) s2 default).base) λn2 gy=>?_));have KN:=abc (cs:=nG) (HS:=dn out a1) (i:=s2) I (abe _ fP) A8 T8 gy;have T9:=px _ fP;rw[A8,T8,gy]at T9;have KO:A<=255:=(by have:=T9.2.2.1;have:=vu.2.2;omega);have aKa:=eA oQ;refine g_ 5 ?_;refine ak (lu J J J I) ?_;refine g_ 8 ?_;refine ak (run_load h J Oz.2.1) (cJ J J J (aH (NF (b:=N) h (V.sub aP) hB.le hE I I hB.vD hB.Z9) ?_));rintro e w1 ⟨T_,o5,bi5,cn5,rfl,h,aKb,ayM,Fo,sB,Ua,OA⟩;have OA:=OA Oq;replace sB:=Hid.mk sB;replace Ua:=Hid.mk Ua;refine ak (k8 J) (aJ (eY J ?_ ?_))<;>intro RK
 have ayN:T_=false:=(by cases T_ with|false=>rfl|true=>exact absurd RK an);have ajR:lf<N:=(by have:=Ua.o ayN;omega);rw[ajI yt T4 A8 ajR]at qA;refine g_ 6 ?_;refine au J ?_ ?_<;>intro aKc
 rw[aj I]at qA;exact TW
 rw[ao I]at qA;have P:W (ws++[D])=W ws+1:=(by rw[aF];rfl);have OB:=(u.snoc (v:=bS D) (s:=D) I (rn T7).symm).snoc (v:=bS A) (s:=A) (by rw[P];omega) (rn KO).symm;rw[P]at OB;have OC:=EM;rw[<-qA,rO]at OC;refine g_ 7 ?_;refine ak (vI (run_load h J Oz.1) (rn T7)) ?_;refine g_ 1 ?_;refine ir (v:=u8 (bS D)) h J (gX (by first| (rw[u.l];omega)| (rw[dW,u.l];omega)| (rw[dW,dW,u.l];omega))) J J J ?_;intro w h;dsimp only[bJ]at h;rw[<-kH]at h;refine g_ 7 ?_;refine ak (lu J J J I) (qm J (ak (vI (run_load h J KN.1) (rn KO)) ?_));refine g_ 1 ?_;refine ir (v:=u8 (bS A)) h J (gX (by first| (rw[u.l];omega)| (rw[dW,u.l];omega)| (rw[dW,dW,u.l];omega))) J J J ?_;intro w h;dsimp only[bJ]at h;rw[<-kH]at h;refine g_ 15 ?_;replace h:=h.zz [4,2,4,4,4] 1;exact⟨aO 106,ws++[D]++[A],(Wv.set (W ws) (bS D)).set (W ws+1) (bS A),1+G,some ⟨fb,0,none⟩,f2,nF,some fb,nG,Kn.mk ⟨(ie I),(ie (by rw[aF,aF];rfl)),trivial⟩,h,OB,vJ,OC,⟨I,I⟩,(by rw[aF,aF];show W ws+1+1<=255;omega)⟩
 have ayO:T_=true:=(by cases T_ with|true=>rfl|false=>exact absurd RK an);replace sB:=sB.o ayO;clear Ua;have Ub:N<=lf:=I;have Be:Bs E K o5 bi5 cn5 lf:=⟨OA,I,I,Fo,I⟩;refine g_ 6 ?_;refine ak (run_load h J Oz.2.1) (cJ J J J (aH (zT (b:=N) h (aA (aA bZ)) (hG.sub aP) (V.sub aP) hE Be I) ?_));rintro e w1 ⟨y3,CS,o3,oN,l5,rfl,h,AX,Y,Fc⟩;replace Y:=Hid.mk Y;replace Fc:=Hid.mk Fc;refine g_ 10 ?_;refine ak (kg CS (N<=lf) J (λe=>(Y.o e).1) (λe=>Fc.o (xy e)) J) (aJ (au J ?_ ?_))<;>intro abj
 exact absurd Ub abj
 replace Y:=Y.o Ub;clear Fc;have aKd:=Y.2.1;have yv:=Y.2.2.1;have ajS:=Y.2.2.2 (aM T6.1 (aM CA an));clear Y;rw[ajC Ub qZ]at ajS;rw[ajJ yt T4 iZ Ub ajS.symm]at qA;have aKe:=yv.le;have ayP:=yv.st;have aKf:=yv.left;have aKg:=yv.vD;have jC:n1+y3<2^a1:=(by have:=T6.2.1;omega);refine g_ 6 ?_;refine ak (run_load h J Oz.2.2) ?_;refine g_ 11 ?_;refine au J ?_ ?_<;>intro aKh
 rw[ao I]at qA;exact TW
 rw[aj I]at qA;have ajT:=u.snoc (v:=bS D) (s:=D) I (rn T7).symm;have P:W (ws++[D])=W ws+1:=(by rw[aF];rfl);refine g_ 7 ?_;refine ak (vI (run_load h J Oz.1) (rn T7)) ?_;refine g_ 1 ?_;refine ir (v:=u8 (bS D)) h J (gX (by first| (rw[u.l];omega)| (rw[dW,u.l];omega)| (rw[dW,dW,u.l];omega))) J J J ?_;intro w h;dsimp only[bJ]at h;rw[<-kH]at h;refine g_ 11 ?_;refine ak (lu J J J I) ?_;refine g_ 8 ?_;refine ak (run_load h J KN.2.1) (cJ J J J (aH (NF (b:=oQ) h (V.sub aP) yv.le hE I I yv.vD yv.Z9) ?_));rintro e w1 ⟨Uc,o7,bi7,cn7,rfl,h,aKi,aKj,hI7,vH,Ud,abk⟩;have abk:=abk ayP;replace vH:=Hid.mk vH;replace Ud:=Hid.mk Ud;refine ak (k8 J) (aJ (eY J ?_ ?_))<;>intro ajU
 have ayQ:Uc=false:=(by cases Uc with|false=>rfl|true=>exact absurd ajU an);have ayR:lf-N<oQ:=(by have:=Ud.o ayQ;omega);refine cM ((aa (dn out a1) (n1+y3) default).sym) λy9 Of=>(cM ((aa (dn out a1) (n1+y3) default).bits) λb9_ ajV=>(cM ((aa (dn out a1) (n1+y3) default).base) λn9 hn9=>?_));have ayS:=abc (cs:=nG) (HS:=dn out a1) (i:=(n1+y3)) I (abe _ jC) Of ajV hn9;have ajW:=px _ jC;rw[Of,ajV,hn9]at ajW;have ajX:y9<=255:=(by have:=ajW.2.2.1;have:=vu.2.2;omega);have aKk:=eA b9_;rw[ajI A8 T8 Of ayR,P]at qA;refine g_ 6 ?_;refine au J ?_ ?_<;>intro ayT
 rw[aj I]at qA;exact TW
 rw[ao I]at qA;have ajY:W (ws++[D]++[A])=W ws+1+1:=(by rw[aF,P];rfl);have OB:=(ajT.snoc (v:=bS A) (s:=A) I (rn KO).symm).snoc (v:=bS y9) (s:=y9) (by rw[ajY];omega) (rn ajX).symm;rw[ajY,P]at OB;have OC:=EM;rw[<-qA,rO]at OC;refine g_ 7 ?_;refine ak (vI (run_load h J KN.1) (rn KO)) ?_;refine g_ 1 ?_;refine ir (v:=u8 (bS A)) h J (gX (by first| (rw[u.l];omega)| (rw[dW,u.l];omega)| (rw[dW,dW,u.l];omega))) J J J ?_;intro w h;dsimp only[bJ]at h;rw[<-kH]at h;refine g_ 7 ?_;refine ak (lu J J J I) (qm J (ak (vI (run_load h J ayS.1) (rn ajX)) ?_));refine g_ 1 ?_;refine ir (v:=u8 (bS y9)) h J (gX (by first| (rw[u.l];omega)| (rw[dW,u.l];omega)| (rw[dW,dW,u.l];omega))) J J J ?_;intro w h;dsimp only[bJ]at h;rw[<-kH]at h;refine g_ 15 ?_;replace h:=h.zz [4,2,4,4,4] 1;exact⟨aO 148,ws++[D]++[A]++[y9],((Wv.set (W ws) (bS D)).set (W ws+1) (bS A)).set (W ws+1+1) (bS y9),1+G,some ⟨fb,0,none⟩,f2,nF,some fb,nG,Kn.mk ⟨(ie I),(ie (by rw[aF,aF,aF];rfl)),trivial⟩,h,OB,vJ,OC,⟨I,I⟩,(by rw[aF,aF,P];show W ws+1+1+1<=255;omega)⟩
 have ayU:Uc=true:=(by cases Uc with|true=>rfl|false=>exact absurd ajU an);replace vH:=vH.o ayU;clear Ud;have Ue:oQ<=lf-N:=I;have hB7:Bs E K o7 bi7 cn7 (lf-N):=⟨abk,I,I,hI7,I⟩;refine g_ 6 ?_;refine ak (run_load h J KN.2.1) (cJ J J J (aH (zT (b:=oQ) h (aA (aA bZ)) (hG.sub aP) (V.sub aP) hE hB7 I) ?_));rintro e w1 ⟨y6,er6,o6,N_,Oa,rfl,h,ho6,Z,Fh⟩;replace Z:=Hid.mk Z;replace Fh:=Hid.mk Fh;refine g_ 10 ?_;refine ak (kg er6 (oQ<=lf-N) J (λe=>(Z.o e).1) (λe=>Fh.o (xy e)) J) (aJ (au J ?_ ?_))<;>intro ayV
 exact absurd Ue ayV
 replace Z:=Z.o Ue;clear Fh;have ayW:=Z.2.1;have hBf:=Z.2.2.1;have ajZ:=Z.2.2.2 (aM T9.1 (aM CA an));clear Z;rw[ajC Ue (aM (vZ _ _) qZ)]at ajZ;rw[ajJ A8 T8 gy Ue ajZ.symm,P]at qA;refine g_ 6 ?_;refine ak (run_load h J KN.2.2) ?_;refine g_ 11 ?_;refine au J ?_ ?_<;>intro aj0
 rw[ao I]at qA;exact TW
 rw[aj I]at qA;have ayX:=qA;have ayY:=T9.2.1;have KP:W (ws++[D]++[A])=W ws+1+1:=(by rw[aF,P];rfl);have hfn:Oy+W (ws++[D]++[A])=257:=(by rw[KP];exact arf (show Oy+1+1+W ws=257 by rw[<-abi];exact hf));have CU:W (ws++[D]++[A])<=255:=(by rw[KP];exact arw aj0);have hs6:n2+y6<2^a1:=qN (Nat.add_lt_add_left ayW n2) ayY;have aj1:=ajT.snoc (v:=bS A) (s:=A) I (rn KO).symm;rw[P]at aj1;refine g_ 7 ?_;refine ak (vI (run_load h J KN.1) (rn KO)) ?_;refine g_ 1 ?_;refine ir (v:=u8 (bS A)) h J (gX (by first| (rw[u.l];omega)| (rw[dW,u.l];omega)| (rw[dW,dW,u.l];omega))) J J J ?_;intro w h;dsimp only[bJ]at h;rw[<-kH]at h;refine g_ 6 ?_;exact⟨aO 84,(Oy,n1+y3,n2+y6,o6,N_,Oa,lf-N-oQ,ws++[D]++[A],(Wv.set (W ws) (bS D)).set (W ws+1) (bS A)),arm abi,Kn.mk ⟨J,J,(ie KP.symm),trivial⟩,h,hBf,aM (vZ _ _) (aM (vZ _ _) qZ),jC,hs6,aj1,ayX,hfn,CU⟩
 refine cM (G-127) λF ku=>?_;have Uf:=TP hU0 (by rw[eC];omega) (n:=F) (by rw[eC];exact ku);rw[hUl]at Uf;refine g_ 4 ?_;refine ak (cG (jm (b:=127) (h2:=av.lit _) J J I aG) ku) ?_;refine g_ 8 ?_;refine ak (nS (b:=2) (h2:=av.lit _) J J an aG) ?_;refine g_ 5 ?_;refine au J ?_ ?_<;>intro aj2
 have hN2: ∀t k,gL (E.drop p)=some (t,k)->W E<=p+k:=by
  intro t k e;rw[Uf]at e;split at e
  cases e
  cases hx:g9 ((cL F).map (tk (E.drop p)))with
  |none=>rw[hx]at e;cases e
  |some t'=>rw[hx]at e;cases e;omega
 refine bY (cm h [4,8,1,12] ?_);intro w h;refine aD J (As 0 J (av.lit _).eq) (aD J (As 0 J (av.lit _).eq) ?_);refine aC 3 ?_;refine ju ?_;replace h:=h.tail;(try dsimp only[dX]at h);exact⟨_,_,_,x.fA,x.fN,x.fC,eP,cs,m,J,h,ss,mL,bG ⟨(bG J),(λt k e=>a_ (hN2 t k e))⟩⟩
 rw[aj I]at Uf;refine g_ 6 ?_;refine cw (σ:=Nat×List UInt8) [(2,2),(24,25),(258,277)] (λ⟨i,Wv⟩ ρ w=>Kn ρ [(24,af i),(2,af (p+1+i/2))]/\H r w ((ah O (ar u8 Wv) 233)::(ah br (aB (FX x x.fA x.fN x.fC)) 81)::(eP,C (dp cs) 227)::(ah hb (ar dG m) 174)::L)/\(i % 2=0/\i<=F+1)/\(zV Wv ((cL (min (i) F)).map (tk (E.drop p))))) (λ⟨i,Wv⟩=>F+2-i) (0,aT 256 0) ⟨az,h,⟨J,I⟩,(by rw[Nat.zero_min];exact ajN)⟩ ?_;rintro⟨i,Wv⟩ ρ w ⟨⟨r_,rfl⟩,h,hi,u⟩;refine g_ 7 ?_;refine au J ?_ ?_<;>intro aKl
 refine cM ((aa E (p+1+i/2) 0).toNat) λbv r9=>?_;have aKm:bv<=255:=(by rw[<-r9];exact toNat_le _);have OD:=ayz (U:=(E.drop p)) (b:=bv) hi.1 (by rw[tQ,<-fL];exact r9)
 have ayZ:zV ((Wv.set i (bS (bv/2^4))).set (i+1) (bS (bv % 2^4))) ((cL (min (i+2) F)).map (tk (E.drop p))):=by
  have l1:W ((cL (min (i) F)).map (tk (E.drop p)))=i:=(by rw[cB,BM];omega);have s1:=u.snoc (v:=bS (bv/2^4)) (s:=bv/2^4) (by rw[l1];omega) (rn I).symm;rw[l1,show min i F=i by omega,<-OD.1,<-ajK]at s1;have l2:W ((cL (i+1)).map (tk (E.drop p)))=i+1:=(by rw[cB,BM]);by_cases xU:i+1=F
  rw[show min (i+2) F=i+1 by omega,<-OD.1];exact s1.more (by rw[l2];omega)
  have s2:=s1.snoc (v:=bS (bv % 2^4)) (s:=bv % 2^4) (by rw[l2];omega) (rn I).symm;rw[l2,<-OD.2,<-ajK]at s2;rw[show min (i+2) F=i+1+1 by omega,<-OD.1,<-OD.2];exact s2
 refine g_ 7 ?_;refine ak (da J J ji I) (ak (xd (run_load h J (kW _ I)) r9) ?_);refine g_ 12 ?_;refine ak (vI (qT (b:=4) (h2:=av.lit _) J J aG) (rn I)) ?_;refine g_ 1 ?_;refine ir (v:=u8 (bS (bv/2^4))) h J (gX (by first| (rw[u.l];omega)| (rw[dW,u.l];omega)| (rw[dW,dW,u.l];omega))) J J J ?_;intro w h;dsimp only[bJ]at h;rw[<-kH]at h;refine g_ 5 ?_;refine ak (vI (kJ (n:=4) J J aG an) (rn I)) ?_;refine g_ 1 ?_;refine ir (v:=u8 (bS (bv % 2^4))) h J (gX (by first| (rw[u.l];omega)| (rw[dW,u.l];omega)| (rw[dW,dW,u.l];omega))) J J J ?_;intro w h;dsimp only[bJ]at h;rw[<-kH]at h;refine g_ 6 ?_;exact⟨aO 25,(i+2,(Wv.set i (bS (bv/2^4))).set (i+1) (bS (bv % 2^4))),cQ,Kn.mk ⟨J,(ie (I:p+1+i/2+1=p+1+(i+2)/2)),trivial⟩,h,⟨I,I⟩,ayZ⟩
 have HV:min i F=F:=I;rw[HV]at u;have Cz:W ((cL F).map (tk (E.drop p)))=F:=(by rw[cB,BM]);have q6:i/2=(F+1)/2:=I;exact jl ⟨aO 19,(cL F).map (tk (E.drop p)),Wv,1+(F+1)/2,x.fA,x.fN,x.fC,eP,cs,Kn.mk ⟨(ie I),(ie Cz.symm),trivial⟩,h,u,ss,Uf,⟨I,I⟩,(by rw[Cz];omega)⟩
 rintro ρ w ⟨ws,Wv,k,fa,fn,fc,j5,ik,⟨sV,rfl⟩,h,u,hFs,Fm,po,kB⟩;refine bY (fD (eN h J ?_));intro bM w h;replace h:H r w ((ah bM (ar dB (aT 13 0)) 235)::_):=h;have ay0:Mk ws (aT 13 0) 0:=⟨by rw[dS],λw hw=>by rw[bX,rK,ao hw];rfl⟩;refine g_ 9 ?_;refine ak (wq J J I) ?_;refine g_ 4 ?_;refine cw (σ:=Nat×List Nat) [(8,10),(27,27),(29,29),(281,302)] (λ⟨i,mk⟩ ρ w=>Kn ρ [(281,af i),(27,dB (eO ws i))]/\H r w ((ah bM (ar dB mk) 235)::(ah O (ar u8 Wv) 233)::(ah br (aB (FX x fa fn fc)) 81)::(j5,C (dp ik) 227)::(ah hb (ar dG m) 174)::L)/\(i<=W ws)/\(Mk ws mk i)/\(∀j,j<i->aa ws j 0<=12)) (λ⟨i,mk⟩=>W ws-i) (0,aT 13 0) ⟨az,h,(cj _),ay0,(λj hj=>I)⟩ ?_;rintro⟨i,mk⟩ ρ w ⟨⟨wK,rfl⟩,h,hi,KQ,HW⟩;refine g_ 5 ?_;refine au J ?_ ?_<;>intro aKn
 refine cM (aa ws i 0) λB Q=>?_;have aKo:B<=255:=(by rw[<-Q,<-u.g i I];exact toNat_le _);have bF:=abd HW;have hss:eO ws (i+1)=eO ws i+w2 B:=(by rw[eO,Q]);refine g_ 6 ?_;refine ak (xd (run_load h J (gX (by rw[u.l];omega))) ((u.g i I).trans Q)) ?_;refine g_ 8 ?_;refine au J ?_ ?_<;>intro aKp
 have hN:gL (E.drop p)=none:=(by rw[Fm,ayj (j:=i) I I];rfl);exact TX
 have abl:=KQ.step (by rw[Q];omega);rw[Q]at abl;have jV:=Ow ws B i;have hmc:aa mk B 0=nH ws B i:=KQ.2 B I;have EU:2^(B-1)<=2048:=aM (dF an (I:B-1<=11)) an;refine g_ 5 ?_;refine aX h J (C7 (by rw[KQ.1];omega)) ?_;refine g_ 2 ?_;refine ir (v:=dB (aa mk B 0+1)) h J (C7 (by rw[KQ.1];omega)) J J J ?_;intro w h;dsimp only[bJ]at h;rw[<-kH]at h;refine g_ 6 ?_;refine au J ?_ ?_<;>intro aKq
 have tY:dB (eO ws i+2^(B-1))=dB (eO ws (i+1)):=(by rw[hss];unfold w2;rw[ao I]);refine g_ 4 ?_;refine ak (gY J J dQ aG) ?_;refine g_ 7 ?_;exact⟨aO 22,(i+1,mk.set B (aa mk B 0+1)),cQ,Kn.mk ⟨J,tY,trivial⟩,h,I,abl,(λj hj=>by rcases dq j i with h1|h1;exact HW j h1;rw[show j=i by omega,Q];omega)⟩
 have tY:dB (eO ws i)=dB (eO ws (i+1)):=(by rw[hss];unfold w2;rw[aj I,kN]);refine g_ 5 ?_;exact⟨aO 16,(i+1,mk.set B (aa mk B 0+1)),cQ,Kn.mk ⟨J,tY,trivial⟩,h,I,abl,(λj hj=>by rcases dq j i with h1|h1;exact HW j h1;rw[show j=i by omega,Q];omega)⟩
 have q6:i=W ws:=I;rw[q6]at KQ HW;refine cM (eO ws (W ws)) λS hS=>?_;have vK:=abd HW;rw[hS]at vK;have hSi:eO ws i=S:=(by rw[q6];exact hS);refine g_ 7 ?_;refine au J ?_ ?_<;>intro aKr
 have hN:gL (E.drop p)=none:=(by rw[Fm,ayk I];rfl);exact TX
 have yq:S≠0:=I;have hbS:=Hi (n:=S) I;have aKs:= @lk S 32 I;refine cM (mq S) λd xV=>?_;have hmm:32- (32-iE (eO ws i))=d:=(by rw[hSi];unfold mq at xV;omega);have aj3:1<=d:=(by unfold mq at xV;omega);have aKt:S<2^d:=(by rw[<-xV];exact yQ);refine g_ 4 ?_;refine d' J J (aH (ahb (by rw[hSi];omega)) ?_);rintro e w1 ⟨rfl,rfl⟩;refine ak (cG (jm (a:=32) (h1:=av.lit _) J J I aG) hmm) ?_;refine g_ 8 ?_;refine au J ?_ ?_<;>intro aKu
 have hN:gL (E.drop p)=none:=(by rw[Fm,ayl (by rw[hS,xV];omega)];rfl);exact TX
 have aj4:d<=11:=I;have Oo:2^d<=2048:=aM (dF an aj4) an;have hpm:=eA d;refine cM (2^d-S) λrr KR=>?_;have hr:2^d-eO ws i=rr:=(by rw[hSi];exact KR);have hbR:=Hi (n:=rr) I;have aKv:= @lk rr 12 I;refine cM rr.log2 λz hlz=>?_;have ig:31- (32-iE rr)=z:=I;have ay1:z<=11:=I;have aKw:2^z<=2048:=aM (dF an ay1) an;refine g_ 7 ?_;refine ak (gY J J dQ aG) ?_;refine g_ 2 ?_;refine au J ?_ ?_<;>intro aKx
 exfalso;omega
 refine g_ 4 ?_;refine ak (gY J J dQ aG) ?_;refine dg (ak (cG (jm J J I aG) hr) ?_);refine g_ 8 ?_;refine au J ?_ ?_<;>intro aiw
 exfalso;omega
 refine g_ 4 ?_;refine d' J J (aH (ahb (a:=rr) I) ?_);rintro e w1 ⟨rfl,rfl⟩;refine ak (cG (jm (a:=31) (h1:=av.lit _) J J I aG) ig) ?_;refine g_ 6 ?_;refine ak (gY J J dQ aG) ?_;refine g_ 3 ?_;refine au J ?_ ?_<;>intro aKy
 have hN:gL (E.drop p)=none:=(by rw[Fm,ayo (by rw[hS,xV,KR,hlz];omega)];rfl);exact TX
 refine g_ 7 ?_;refine au J ?_ ?_<;>intro aKz
 exfalso;omega
 have Bf:2^z=rr:=I;have Ug:=ayp (ws:=ws) (λj hj=>by have:=ajB hS yq xV hj;omega) hS yq xV aj4 KR (by rw[hlz];exact Bf);rw[hlz]at Ug;rw[Ug]at Fm;have GI:z+1<=d:=(by have h1:2^z<2^d:=I;have:=(Mj (I:1<2)).1 h1;omega);have Uh:=KQ;have abm:=u.snoc (v:=bS (z+1)) (s:=z+1) I (rn I).symm;have Ui:=Uh.last (l:=z+1) I;have aKA:aa mk (z+1) 0=nH ws (z+1) (W ws):=Uh.2 _ I;have aKB:=Ow ws (z+1) (W ws);have j7:W (ws++[z+1])=W ws+1:=(by rw[aF];rfl);have HX:W (df (ws++[z+1]) d d)=2^d:=ays Ug J
 have xW: ∀j,j<W (ws++[z+1])->aa (ws++[z+1]) j 0<=d:=λj hj=>by
  rcases dq j (W ws) with h1|h1
  have:=ajB hS yq xV h1;simp only[bX]at this ⊢;rw[gP h1];exact this
  have:j=W ws:=I;subst this;simp;exact GI
 refine cM (ws++[z+1]) λal mO=>?_;rw[mO]at Fm Ug abm Ui j7 HX xW;have ay2:=ayh HX aj3;have ajM:= @ayi al d HX aj3;refine cM (nH al 1 (W al)) λc1 nW=>?_;rw[nW]at ay2 ajM;have aj5:(ar dB (mk.set (z+1) (aa mk (z+1) 0+1)))[1]? =some (dB c1):=(by rw[C7 (by rw[Ui.1];decide),Ui.2 1 an,nW]);have aKC:c1<=256:=(by rw[<-nW];have:=Ow al 1 (W al);omega);refine g_ 6 ?_;refine ak (vI (eZ (a:=z+1) J aG) (rn I)) ?_;refine g_ 1 ?_;refine ir (v:=u8 (bS (z+1))) h J (gX (by rw[u.l];omega)) J J J ?_;intro w h;dsimp only[bJ]at h;rw[<-kH]at h;refine g_ 12 ?_;refine aX h J (C7 (by rw[Uh.1];omega)) ?_;refine g_ 2 ?_;refine ir (v:=dB (aa mk (z+1) 0+1)) h J (C7 (by rw[Uh.1];omega)) J J J ?_;intro w h;dsimp only[bJ]at h;rw[<-kH]at h;refine aJ (cW [(8,10),(361,372)] (λρ w=>Kn ρ [(8,af d)]/\H r w ((ah bM (ar dB (mk.set (z+1) (aa mk (z+1) 0+1))) 235)::(ah O (ar u8 (Wv.set (W ws) (bS (z+1)))) 233)::(ah br (aB (FX x fa fn fc)) 81)::(j5,C (dp ik) 227)::(ah hb (ar dG m) 174)::L)/\(2<=c1)) ?_ ?_)
 refine g_ 3 ?_;refine aX h J aj5 ?_;refine g_ 2 ?_;refine eM (t:=364) J (λay3=>?_) (λay3=>?_)
 refine g_ 6 ?_;refine jv J ?_;exact ajL
 refine dI J J J (MB (a:=1) (h1:=av.lit _) J J I) J (dI J J J (run_load h J aj5) J (dI J J J (kJ (n:=1) J J aG an) J ?_));refine g_ 3 ?_;refine au J ?_ ?_<;>intro aKD
 exact ajL
 have AT:2<=c1:=I;exact a8 ⟨aS,az,h,I⟩
 rintro ρ w ⟨⟨J4,rfl⟩,h,AT⟩;refine g_ 10 ?_;refine cw (σ:=Nat×List Nat) [(32,34),(373,390)] (λ⟨i,HZ⟩ ρ w=>Kn ρ [(33,af i),(32,dB (W (df al d i)))]/\H r w ((ah bM (ar dB HZ) 235)::(ah O (ar u8 (Wv.set (W ws) (bS (z+1)))) 233)::(ah br (aB (FX x fa fn fc)) 81)::(j5,C (dp ik) 227)::(ah hb (ar dG m) 174)::L)/\(i<=d)/\(Mn al d HZ i)) (λ⟨i,HZ⟩=>d-i) (0,(mk.set (z+1) (aa mk (z+1) 0+1))) ⟨az,h,(cj _),(Mn.init Ui)⟩ ?_;rintro⟨i,HZ⟩ ρ w ⟨⟨Ny,rfl⟩,h,hi,KS⟩;refine g_ 7 ?_;refine au J ?_ ?_<;>intro aKE
 have ay4:(ar dB HZ)[i+1]? =some (dB (nH al (i+1) (W al))):=(by rw[C7 (by rw[KS.1];omega),KS.2.2 _ I I]);have kA:=Ov al d i;have lI:=KM al d (d- (i+1)) (i+1);rw[show i+1+(d- (i+1))=d by omega,HX]at lI;have hrb:nH al (i+1) (W al)*2^i<=2048:=I;have aKF:W (df al d i)<=2048:=I;have AB:=Ow al (i+1) (W al);refine g_ 14 ?_;refine aX h J ay4 (dg (ak (eB J J dQ aG) ?_));refine ak (cG (eR J J aG) (Ov al d i).symm) ?_;refine g_ 7 ?_;refine ir (v:=dB (W (df al d i))) h J (C7 (by rw[KS.1];omega)) J J J ?_;intro w h;dsimp only[bJ]at h;rw[<-kH]at h;refine g_ 6 ?_;exact⟨aO 22,(i+1,HZ.set (i+1) (W (df al d i))),cQ,az,h,I,KS.step I⟩
 have him:i=d:=I;rw[him]at KS;have ay5:=FI.init KS (m:=m) I;refine g_ 5 ?_;refine ak (wq J J I) ?_;refine g_ 4 ?_;refine cw (σ:=Nat×List Nat×List Nat) [(35,40),(394,434)] (λ⟨i,R,m2⟩ ρ w=>Kn ρ [(394,af i)]/\H r w ((ah bM (ar dB R) 235)::(ah O (ar u8 (Wv.set (W ws) (bS (z+1)))) 233)::(ah br (aB (FX x fa fn fc)) 81)::(j5,C (dp ik) 227)::(ah hb (ar dG m2) 174)::L)/\(i<=W al)/\(FI al d m2 R i)/\(W m2=2048)) (λ⟨i,R,m2⟩=>W al-i) (0,HZ,m) ⟨az,h,(cj _),ay5,mL⟩ ?_;rintro⟨i,R,m2⟩ ρ w ⟨⟨Sr,rfl⟩,h,hi,H0,lH⟩;refine g_ 5 ?_;refine au J ?_ ?_<;>intro ayM
 refine cM (aa al i 0) λB Q=>?_;have aKG:B<=d:=(by rw[<-Q];exact xW i I);refine a8 (bY (kp [(35,40),(396,433)] (λρ w=> ∃Uj mj:List Nat,Kn ρ []/\H r w ((ah bM (ar dB Uj) 235)::(ah O (ar u8 (Wv.set (W ws) (bS (z+1)))) 233)::(ah br (aB (FX x fa fn fc)) 81)::(j5,C (dp ik) 227)::(ah hb (ar dG mj) 174)::L)/\(FI al d mj Uj (i+1))/\(W mj=2048)) ?_ ?_))
 refine g_ 4 ?_;refine ak (xd (run_load h J (gX (by rw[abm.l];omega))) ((abm.g i I).trans Q)) ?_;refine g_ 9 ?_;refine au J ?_ ?_<;>intro aKH
 exact jl ⟨aO 7,R,m2,az,(by first|exact h| (rw[du];exact h)),H0.skip I,lH⟩
 refine cM (B-1) λv gA=>?_;have lh:v+1<=d:=I;have aj6:B=v+1:=I;have hrm:=H0.room HX I I lh;refine cM (aa R (v+1) 0) λK du=>?_;rw[du]at hrm;have hgw:(ar dB R)[B]? =some (dB K):=(by rw[aj6,C7 (by rw[H0.kl];omega),du]);have hpv:=eA v;have aKI:2^v<=2048:=I;have htv:i*2^8||| (d-v)=i % 256*256+(d-v):=(by rw[Qb,pW I];omega);refine g_ 4 ?_;refine ak (cG (jm (b:=1) (h2:=av.lit _) J J I aG) gA) (ak (gY J J dQ aG) ?_);refine g_ 6 ?_;refine ak (eB (b:=8) (h2:=av.lit _) J J an aG) ?_;refine g_ 5 ?_;refine ak (cG (jm J J I aG) (I:d+1-B=d-v)) (ak (cG (fq J J aG aG) htv) ?_);refine g_ 6 ?_;refine aX h J hgw ?_;refine g_ 8 ?_;refine cw (σ:=Nat×List Nat) [(40,40),(417,427)] (λ⟨j,m3⟩ ρ w=>Kn ρ [(40,dB j)]/\H r w ((ah bM (ar dB R) 235)::(ah O (ar u8 (Wv.set (W ws) (bS (z+1)))) 233)::(ah br (aB (FX x fa fn fc)) 81)::(j5,C (dp ik) 227)::(ah hb (ar dG m3) 174)::L)/\(j<=2^v)/\(HT m2 m3 K j (i % 256*256+(d-v)))) (λ⟨j,m3⟩=>2^v-j) (0,m2) ⟨az,h,(cj _),HT.init⟩ ?_;rintro⟨j,m3⟩ ρ w ⟨⟨abn,rfl⟩,h,hj,OE⟩;refine g_ 7 ?_;refine au J ?_ ?_<;>intro aKJ
 refine g_ 10 ?_;refine ir (v:=dG (i % 256*256+(d-v))) h J (E6 (by rw[OE.1];omega)) J J J ?_;intro w h;dsimp only[bJ]at h;rw[<-kH]at h;refine g_ 6 ?_;exact⟨aO 13,(j+1,m3.set (K+j) (i % 256*256+(d-v))),cQ,az,h,I,OE.step⟩
 have hjn:j=2^v:=I;refine g_ 4 ?_;refine aX h J hgw ?_;refine g_ 3 ?_;refine ir (v:=dB (K+2^v)) h J (C7 (by rw[H0.kl];omega)) J J J ?_;intro w h;dsimp only[bJ]at h;rw[<-kH,aj6]at h;exact aJ ⟨aO 38,R.set (v+1) (aa R (v+1) 0+2^v),m3,az,(by first|exact h| (rw[du];exact h)),H0.step HX I I lh I OE.1 (by intro q hq;rw[OE.2 q hq,du,hjn]),OE.1.trans lH⟩
 rintro ρ w ⟨Uj,mj,⟨Uk,rfl⟩,h,ay6,hmj⟩;refine g_ 4 ?_;exact⟨aO 4,(i+1,Uj,mj),cQ,az,h,I,ay6,hmj⟩
 have ay7:i=W al:=I;rw[ay7]at H0;refine g_ 10 ?_;replace h:=h.tail.tail;(try dsimp only[dX]at h);exact⟨d,p+k,_,fa,fn,fc,j5,ik,m2,J,h,hFs,lH,a_ ⟨J,mr al d,k,Fm,J,J,(λi hi=>H0.zE HX hi),po.1,po.2⟩⟩
variable {aU:Addr}{fm hd ub:Nat}
def LX(x:dk)(a:Option Addr)(n c b:Nat)(fa:Option Addr)(fn fc:Nat):dk:={x with hA:=a,hN:=n,hC:=c,hb:=b,fA:=fa,fN:=fn,fC:=fc}
section
variable {x:dk}{a a' fa fa':Option Addr}{n c b fn fc n' c' b' fn' fc':Nat}
def ay8:(aB (LX x a n c b fa fn fc)).set 12 (.slice a' n' c')=aB (LX x a' n' c' b fa fn fc):=rfl
def ay9:(aB (LX x a n c b fa fn fc)).set 13 (af b')=aB (LX x a n c b' fa fn fc):=rfl
def abo:(aB (LX x a n c b fa fn fc))[12]? =some (.slice a n c):=rfl
def aj7:(aB (LX x a n c b fa fn fc))[13]? =some (af b):=rfl
def ay_:FX (LX x a n c b fa fn fc) fa' fn' fc'=LX x a n c b fa' fn' fc':=rfl
def ay':LX x a n c b fa fn fc=FX (LX x a n c b fa fn fc) (LX x a n c b fa fn fc).fA (LX x a n c b fa fn fc).fN (LX x a n c b fa fn fc).fC:=rfl
end
def H2(hA:Option Addr)(hN hC:Nat)(hO:Option Nat)(m:List Nat):Prop:=hA=aI hO/\(hN=0\/(hN=2048/\hC=2048/\W m=2048/\ ∃b,hO=some b))
def H3(hN hb:Nat)(m:List Nat):Option Tr->Prop
 |none=>hb=0
 |some t=>hN=2048/\hb=t.aq/\CY t/\ ∀i,i<2^t.aq->aa m i 0=oa t i
def Ul{ρ:Env}{T' ty:TypeId}{x:Operand}(er:Value)(c:Prop) [Decidable c](b:aL ρ x=er)(h1:c->er= .nilIface)(h2: ¬c->Er aU er){n:Value}(d:n= .nilIface):run PP ρ (.binOp .neq 103 x (.const n) T') ty w= .ok (.value (.bool (decide (¬c)))) w:=by
 by_cases a:c
 rw[ye (b.trans (h1 a)) d];simp[a]
 rcases h2 a with⟨be,e⟩|e
 rw[J5 (b.trans e) d];simp[a]
 rw[J5 (b.trans e) d];simp[a]
def abp:gZ S t many false=gE S t many:=by unfold gZ;rw[ao J]
def aj8(h:i<n):byte (U.take n) i=byte U i:=by
 unfold byte;simp only[bX,qg];rw[ao h]
def aj9(h:gL U=some (t,k)):1<=k/\k<=W U:=by
 refine⟨?_,(Y1 h).2.1⟩;rcases pd (W U) with a|a
 unfold gL at h;rw[ao a]at h;cases h
 by_cases hb:128<=byte U 0
 rw[TP I hb J]at h;split at h
 cases h
 obtain⟨b,_,e⟩:=Qo.1 h;cases e;omega
 rw[TQ I I]at h;split at h
 cases h
 obtain⟨ws,_,h2⟩:=Option.bind_eq_some_iff.1 h;obtain⟨b,_,e⟩:=Qo.1 h2;cases e;omega
def aza(g:n<=W U):gL (U.take n)=(gL U).bind λx=>if x.2<=n then some x else none:=by
 have b:W (U.take n)=n:=(by rw[fR];omega);rcases pd n with d|d
 subst d;have:gL (U.take 0)=none:=(by unfold gL;rw[ao b]);rw[this]
 cases h:gL U with
 |none=>rfl
 | some x=>
   have:=aj9 (t:=x.1) (k:=x.2) h
   rw[rO,aj I]
 have a:byte (U.take n) 0=byte U 0:=aj8 d;by_cases hb:128<=byte U 0
 rw[TP I (by rw[a];exact hb) (by rw[a]),TP I hb J,b];obtain⟨c,f⟩: ∃c,byte U 0-127=c:=⟨_,J⟩;rw[f];by_cases h1:n<1+(c+1)/2
 rw[ao h1];split
 rfl
 cases g9 ((cL c).map (tk U))with
 |none=>rfl
 |some t=>rw[uE,rO,aj I]
 rw[aj h1,aj I];have e:(cL c).map (tk (U.take n))=(cL c).map (tk U):=(by refine I_ λi hi=>?_;have:=oY.1 hi;unfold tk;rw[aj8 I]);rw[e]
 cases g9 ((cL c).map (tk U))with
 |none=>rfl
 |some t=>rw[uE,rO,ao I]
 rw[TQ I (by rw[a];omega),TQ I I,b,a];obtain⟨c,f⟩: ∃c,byte U 0=c:=⟨_,J⟩;rw[f];by_cases h1:n<1+c
 rw[ao h1];split
 rfl
 cases wF (ag U 1 c)with
 |none=>rfl
 | some ws=>
   rw[rO]
   cases g9 ws with
   |none=>rfl
   |some t=>rw[uE,rO,aj I]
 rw[aj h1,aj I];have e:ag (U.take n) 1 c=ag U 1 c:=(by unfold ag;rw[IY,Mg,l9 I]);rw[e]
 cases wF (ag U 1 c)with
 |none=>rfl
 | some ws=>
   rw[rO]
   cases g9 ws with
   |none=>rfl
   |some t=>rw[uE,rO,ao I]
def azb{p:Nat}(h:p+n<=W E):gL (ag E p n)=(gL (E.drop p)).bind λx=>if x.2<=n then some x else none:=
 aza (by rw[cr];omega)
def aj_(h:4<=W E):num (ag E 0 4)=(aa E 0 0).toNat+(aa E 1 0).toNat*2^8+(aa E 2 0).toNat*2^16+(aa E 3 0).toNat*2^24:=by
 have a:=tR E 3 I;have e2:=tR E 2 I;have b:=tR E 1 I;have c:=tR E 0 I;show num (E.take 4)=_;rw[a,e2,b,c];simp[num]
def azc(h:5<=W E):num (ag E 0 5)=(aa E 0 0).toNat+(aa E 1 0).toNat*2^8+(aa E 2 0).toNat*2^16+(aa E 3 0).toNat*2^24+(aa E 4 0).toNat*2^32:=by
 have a:=tR E 4 I;have b:=aj_ (E:=E) I;show num (E.take 5)=_;rw[a];show num (ag E 0 4)+_=_;rw[b]
def azd{tr:Option Tr}(a:byte E 0/4 % 4=fm)(h:[3,3,4,5].getD fm 0=hd)(c:hd<=W E)(b:W E≠0)(hm:num (ag E 0 hd)/16 % 2^ [10,10,14,18].getD fm 0=many)(hs:num (ag E 0 hd)/16/2^ [10,10,14,18].getD fm 0=size)(h2: ¬byte E 0 % 4<2):
   dZ tr E=if W E<hd+size then(2,[],0,none)else if byte E 0 % 4=2 then
       match gL (ag E hd size)with
       |none=>(2,[],0,none)
       |some x=>if aa x.1.bits 0 0<x.1.aq then(0,[],0,none)else nB many (decide (¬fm=0)) (hd+size) (some x.1) ((ag E hd size).drop x.2)
     else nB many (decide (¬fm=0)) (hd+size) tr (ag E hd size):=by
 subst a;subst h;subst hm;subst hs
 unfold dZ
 rw[aj b,aj h2]
 dsimp only
 rw[aj I]
 rfl
def abq{tr:Option Tr}(a:byte E 0/4 % 4=fm)(h:[3,3,4,5].getD fm 0=hd)(c:W E<hd)(b:W E≠0)(h2: ¬byte E 0 % 4<2):(dZ tr E).1=2:=by
 subst a;subst h;unfold dZ;rw[aj b,aj h2];dsimp only;rw[ao I]
def aze{four:Bool}(h:(nB many four ub (some t) S).1≠0):many<=131072/\many≠0/\(gZ S t many four).1≠0/\((gZ S t many four).1=1->nB many four ub (some t) S=(1,(gZ S t many four).2,ub,some t))/\((gZ S t many four).1≠1->(nB many four ub (some t) S).1≠1):=by
 unfold nB at*;dsimp only at*;by_cases hm:131072<many\/many=0
 rw[ao hm]at h;exact absurd J h
 rw[aj hm]at h ⊢;refine⟨I,I,?_,λe=>by rw[ao e],λe=>by rw[aj e];exact e⟩;intro e;rw[aj I]at h;exact h e
def aj'{four:Bool}{tr:Option Tr}(h:131072<many):(nB many four ub tr S).1≠1:=by
 unfold nB;split
 show(2:Nat)≠1;decide
 rw[ao (a_ h)];show(0:Nat)≠1;decide
def Um{l:List Value}{q:Nat}(h:i<W E->l[q+i]? =some (u8 (aa E i 0)))(e:(aa E i 0).toNat=b):i<W E->l[q+i]? =some (U8 b):=λhi=>by rw[h hi,<-e]
def azf(n:Nat):dD [D3 0] n=ar dG (aT n 0):=by rw[D6,xz]
def azg{four:Bool}{tr:Option Tr}:(nB many four ub tr []).1≠1:=by
 unfold nB;split
 show(2:Nat)≠1;decide
 split
 show(0:Nat)≠1;decide
 rename_i t _
 have:(gZ [] t many four).1≠1:=by
  unfold gZ;split
  unfold gE;rw[ao eW];show(0:Nat)≠1;decide
  split
  show(0:Nat)≠1;decide
  rw[ao (by show 0<6;decide)];show(2:Nat)≠1;decide
 rw[aj this];exact this
def abr(h:p:=by rintro e w1 ⟨be,rfl,h⟩;refine g_ 5 ?_;exact⟨_,_,[],ob,bc,sp,_,x.hA,x.hN,x.hC,x.hb,x.fA,x.fN,x.fC,eP,cs,hO,m,J,h,ss,H4,hk,(λe=>absurd e cF),(λ_=>a_ ⟨_,J⟩)⟩):p:=h
def abt(h:p:=by have cF:(dZ tr E).1≠1:=I;refine g_ 4 ?_;refine cJ J J J (aH (vi h bZ (hG.sub aP)) ?_);exact abr):p:=h
def aka(h:p:=by have sQ:(dZ tr E).1=2:=abq (hd:=3) (fm:=fm) Un (by first|rw[show fm=0 by omega];rfl|rw[show fm=1 by omega];rfl|rw[show fm=2 by omega];rfl|rw[show fm=3 by omega];rfl) I I Uo;exact abt):p:=h
def akb(h:p:=by refine g_ 4 ?_;refine eS J J J J (aH (re h bZ (hG.sub aP)) ?_);exact abr):p:=h
theorem azh{r:fT}{L:List aK}{bc:Nat}{aE:Addr}{ob eP hO:Option Nat}{sp:List Value}{tr:Option Tr}(h:H r w ((ah br (aB (LX x x.hA x.hN x.hC x.hb x.fA x.fN x.fC)) 81)::(eP,C (dp cs) 227)::(hO,C (ar dG m) 174)::(ob,C (ar u8 ([])++sp) 5)::L))(hG:Gl L aE aU)(Y:aY L (.slice ad (W E) dc) E)(nY:1<=W E)(hE:W E<=268435456)(hk:b8 ob 0 bc [] sp 1)(ss:yn x.fA x.fN x.fC eP cs)(H4:H2 x.hA x.hN x.hC hO m)(D:H3 x.hN x.hb m tr)(lH: ¬byte E 0 % 4<2)(hV:(dZ tr E).1≠0):Calls PP 103 #[bL br,.slice ad (W E) dc,af 1,U8 (byte E 0),.slice (aI ob) 0 bc] w λe w'=> ∃n er dh b_ mS dH v' a n' c b fa fn fc oP kE tq m',e= .returned (.tuple #[af n,v',er])/\H r w' ((ah br (aB (LX x a n' c b fa fn fc)) 81)::(oP,C (dp kE) 227)::(tq,C (ar dG m') 174)::(b_,C (ar u8 (dh)++dH) 5)::L)/\yn fa fn fc oP kE/\H2 a n' c tq m'/\b8 b_ (W dh) mS (dh.map u8) dH 1/\((dZ tr E).1=1->er= .nilIface/\v'= .slice (aI b_) (W dh) mS/\ ∃qv,dZ tr E=(1,dh,n,qv)/\H3 n' b m' qv)/\((dZ tr E).1≠1->Er aU er):=by
 have j1: ∃db q l T,ad=some ⟨db,q,none⟩/\(ah db l T)∈L/\Rd l q (E.map u8):=(by obtain⟨jz,n',c',e1,hl,hc,h3⟩:=id Y;cases e1;exact h3 I);have kV:W E<=dc:=Hz Y;obtain⟨db,q,l,T,g,nZ,yf⟩:=j1;have kW:=λi (hi:i<W E)=>kf yf (i:=i) hi;obtain⟨ib,ph⟩:=dw nZ;have HI:byte E 0=(aa E 0 0).toNat:=rfl;obtain⟨b0,z⟩: ∃b0,byte E 0=b0:=⟨_,J⟩;obtain⟨b1,R⟩: ∃b1,(aa E 1 0).toNat=b1:=⟨_,J⟩;obtain⟨b2,S⟩: ∃b1,(aa E 2 0).toNat=b1:=⟨_,J⟩;obtain⟨Z,sS⟩: ∃b1,(aa E 3 0).toNat=b1:=⟨_,J⟩;obtain⟨b4,sf⟩: ∃b1,(aa E 4 0).toNat=b1:=⟨_,J⟩;have aKK:b0<=255:=(by rw[<-z];exact toNat_le _);have aKL:b1<=255:=(by rw[<-R];exact toNat_le _);have aKM:b2<=255:=(by rw[<-S];exact toNat_le _);have aKN:Z<=255:=(by rw[<-sS];exact toNat_le _);have aKO:b4<=255:=(by rw[<-sf];exact toNat_le _);rw[z]at lH ⊢;obtain⟨fm,Up⟩: ∃fm,b0/4 % 4=fm:=⟨_,J⟩;have Un:byte E 0/4 % 4=fm:=(by rw[z];exact Up);have Uo: ¬byte E 0 % 4<2:=(by rw[z];exact lH);have U:=Um (kW 1) R;have V:=Um (kW 2) S;have akc:=Um (kW 3) sS;have azi:=Um (kW 4) sf;obtain⟨qW,zM,NN,Km⟩:=id ss;obtain⟨AR,lb⟩:=id H4;refine rU (P:=PP) func103 268 ntmps103 [10,11,12] J J (args:=[_,_,_,_,_]) J ?_;refine g_ 23 ?_;refine ak (cG (kJ (n:=2) J J aG an) (show b0/2^2 % 2^2=fm from Up)) ?_;refine aJ (kp [(2,2),(10,15),(25,166)] (λρ w=> ∃hd many size st:Nat,Kn ρ [(13,af many),(14,af size),(15,af st),(2,af hd)]/\H r w ((ah br (aB (LX x x.hA x.hN x.hC x.hb x.fA x.fN x.fC)) 81)::(eP,C (dp cs) 227)::(hO,C (ar dG m) 174)::(ob,C (ar u8 ([])++sp) 5)::L)/\([3,3,4,5].getD fm 0=hd)/\(num (ag E 0 hd)/16 % 2^ [10,10,14,18].getD fm 0=many)/\(num (ag E 0 hd)/16/2^ [10,10,14,18].getD fm 0=size)/\(3<=hd/\hd<=W E/\hd<=5)/\(many<=262143/\size<=262143)/\((fm=0/\st=1)\/(¬fm=0/\st=4))) ?_ ?_)
 refine g_ 6 ?_;refine au J ?_ ?_<;>intro xM
 refine a8 (au J ?_ ?_)<;>intro xM
 refine g_ 4 ?_;refine ak (cG (eR (b:=1) (h2:=av.lit _) J J aG) (show 1+1=2 from J)) ?_;refine g_ 4 ?_;refine au J ?_ ?_<;>intro uY
 exact aka
 have j:num (ag E 0 3)=b0+b1*2^8+b2*2^16:=(by rw[Tt I,<-z,<-R,<-S];rfl);refine g_ 8 ?_;refine ak (da J J g I) (aX h J (U I) ?_);refine g_ 1 ?_;refine ak (kJ (n:=6) J J aG an) ?_;refine ak (eB (b:=4) (h2:=av.lit _) J J an aG) ?_;refine ak (cG (fq J J aG aG) (pW I)) ?_;refine g_ 3 ?_;refine cm h [0,4,8,24,28,32,36,13,16,20,41,44,48,52,56] ?_;intro w h;refine aC 2 ?_;refine aD J (da J J g I) ?_;refine aC 2 ?_;refine aD J (cG (eR (b:=1) (h2:=av.lit _) J J aG) (show 1+1=2 from J)) (aD J (da J J g I) (aQ J h J (U I) ?_));refine aC 2 ?_;refine aQ J h J (V I) ?_;refine aC 1 ?_;refine aD J (eB (b:=2) (h2:=av.lit _) J J an aG) ?_;refine aD J (cG (fq J J aG aG) (pW I)) (fG J (cO ?_));refine g_ 3 ?_;refine ak (cG (eR (b:=2) (h2:=av.lit _) J J aG) (show 1+2=3 from J)) ?_;refine g_ 6 ?_;refine ak (cG (kJ (n:=2) J J aG an) (show b0/2^2 % 2^2=fm from Up)) ?_;refine g_ 2 ?_;refine au J ?_ ?_<;>intro xZ
 refine g_ 3 ?_;exact⟨aO 42,3,b0/2^4+b1 % 2^6*2^4,b1/2^6+b2*2^2,1,az,h,(by rw[show fm=0 by omega];rfl),(by rw[show fm=0 by omega];show num (ag E 0 _)/16 % 2^10=_;rw[j];omega),(by rw[show fm=0 by omega];show num (ag E 0 _)/16/2^10=_;rw[j];omega),⟨I,I,I⟩,⟨I,I⟩,a_ ⟨I,J⟩⟩
 refine g_ 3 ?_;refine⟨aO 42,?_⟩;exfalso;omega
 exfalso;omega
 refine g_ 4 ?_;refine au J ?_ ?_<;>intro xM
 refine g_ 4 ?_;refine ak (cG (eR (b:=1) (h2:=av.lit _) J J aG) (show 1+1=2 from J)) ?_;refine g_ 4 ?_;refine au J ?_ ?_<;>intro uY
 exact aka
 have j:num (ag E 0 3)=b0+b1*2^8+b2*2^16:=(by rw[Tt I,<-z,<-R,<-S];rfl);refine g_ 8 ?_;refine ak (da J J g I) (aX h J (U I) ?_);refine g_ 1 ?_;refine ak (kJ (n:=6) J J aG an) ?_;refine ak (eB (b:=4) (h2:=av.lit _) J J an aG) ?_;refine ak (cG (fq J J aG aG) (pW I)) ?_;refine g_ 3 ?_;refine cm h [0,4,8,24,28,32,36,13,16,20,41,44,48,52,56] ?_;intro w h;refine aC 2 ?_;refine aD J (da J J g I) ?_;refine aC 2 ?_;refine aD J (cG (eR (b:=1) (h2:=av.lit _) J J aG) (show 1+1=2 from J)) (aD J (da J J g I) (aQ J h J (U I) ?_));refine aC 2 ?_;refine aQ J h J (V I) ?_;refine aC 1 ?_;refine aD J (eB (b:=2) (h2:=av.lit _) J J an aG) ?_;refine aD J (cG (fq J J aG aG) (pW I)) (fG J (cO ?_));refine g_ 3 ?_;refine ak (cG (eR (b:=2) (h2:=av.lit _) J J aG) (show 1+2=3 from J)) ?_;refine g_ 6 ?_;refine ak (cG (kJ (n:=2) J J aG an) (show b0/2^2 % 2^2=fm from Up)) ?_;refine g_ 2 ?_;refine au J ?_ ?_<;>intro xZ
 refine g_ 3 ?_;refine⟨aO 44,?_⟩;exfalso;omega
 refine g_ 3 ?_;exact⟨aO 44,3,b0/2^4+b1 % 2^6*2^4,b1/2^6+b2*2^2,4,az,h,(by rw[show fm=1 by omega];rfl),(by rw[show fm=1 by omega];show num (ag E 0 _)/16 % 2^10=_;rw[j];omega),(by rw[show fm=1 by omega];show num (ag E 0 _)/16/2^10=_;rw[j];omega),⟨I,I,I⟩,⟨I,I⟩,bG ⟨I,J⟩⟩
 refine g_ 5 ?_;refine au J ?_ ?_<;>intro JP
 refine g_ 4 ?_;refine ak (cG (eR (b:=2) (h2:=av.lit _) J J aG) (show 1+2=3 from J)) ?_;refine g_ 4 ?_;refine au J ?_ ?_<;>intro N2
 have sQ:(dZ tr E).1=2:=abq (hd:=4) (fm:=fm) Un (by first|rw[show fm=0 by omega];rfl|rw[show fm=1 by omega];rfl|rw[show fm=2 by omega];rfl|rw[show fm=3 by omega];rfl) I I Uo;exact abt
 have j:num (ag E 0 4)=b0+b1*2^8+b2*2^16+Z*2^24:=(by rw[aj_ I,<-z,<-R,<-S,<-sS];rfl);refine a8 (bY (cm h [0,4,8,12,16,20,40,44,48,52,25,28,32,36,57,60,64,68,72,76] ?_));intro w h;refine aC 5 ?_;refine aD J (da J J g I) ?_;refine aC 2 ?_;refine aD J (cG (eR (b:=1) (h2:=av.lit _) J J aG) (show 1+1=2 from J)) (aD J (da J J g I) (aQ J h J (U I) ?_));refine aC 1 ?_;refine aD J (eB (b:=4) (h2:=av.lit _) J J an aG) ?_;refine aD J (cG (fq J J aG aG) (pW I)) (aQ J h J (V I) ?_);refine aC 1 ?_;refine aD J (kJ (n:=2) J J aG an) ?_;refine aD J (eB (b:=12) (h2:=av.lit _) J J an aG) ?_;refine aD J (cG (fq J J aG aG) (pW I)) (fG J (cO (bY (cm h [0,4,8,12,28,32,36,40,17,20,24,45,48,52,56,60] ?_))));intro w h;refine aC 2 ?_;refine aD J (cG (eR (b:=1) (h2:=av.lit _) J J aG) (show 1+1=2 from J)) (aD J (da J J g I) ?_);refine aC 2 ?_;refine aD J (cG (eR (b:=2) (h2:=av.lit _) J J aG) (show 1+2=3 from J)) (aD J (da J J g I) (aQ J h J (V I) ?_));refine aC 2 ?_;refine aQ J h J (akc I) ?_;refine aC 1 ?_;refine aD J (eB (b:=6) (h2:=av.lit _) J J an aG) ?_;refine aD J (cG (fq J J aG aG) (pW I)) (fG J (cO ?_));refine g_ 3 ?_;refine ak (cG (eR (b:=3) (h2:=av.lit _) J J aG) (show 1+3=4 from J)) ?_;refine g_ 5 ?_;exact⟨aO 51,4,b0/2^4+b1*2^4+b2 % 2^2*2^12,b2/2^2+Z*2^6,4,az,h,(by rw[show fm=2 by omega];rfl),(by rw[show fm=2 by omega];show num (ag E 0 _)/16 % 2^14=_;rw[j];omega),(by rw[show fm=2 by omega];show num (ag E 0 _)/16/2^14=_;rw[j];omega),⟨I,I,I⟩,⟨I,I⟩,bG ⟨I,J⟩⟩
 refine g_ 5 ?_;refine au J ?_ ?_<;>intro akd
 refine g_ 4 ?_;refine ak (cG (eR (b:=3) (h2:=av.lit _) J J aG) (show 1+3=4 from J)) ?_;refine g_ 4 ?_;refine au J ?_ ?_<;>intro aKP
 have sQ:(dZ tr E).1=2:=abq (hd:=5) (fm:=fm) Un (by first|rw[show fm=0 by omega];rfl|rw[show fm=1 by omega];rfl|rw[show fm=2 by omega];rfl|rw[show fm=3 by omega];rfl) I I Uo;exact abt
 have j:num (ag E 0 5)=b0+b1*2^8+b2*2^16+Z*2^24+b4*2^32:=(by rw[azc I,<-z,<-R,<-S,<-sS,<-sf];rfl);refine a8 (bY (cm h [0,4,8,12,16,20,40,44,48,52,25,28,32,36,57,60,64,68,72,76] ?_));intro w h;refine aC 5 ?_;refine aD J (da J J g I) ?_;refine aC 2 ?_;refine aD J (cG (eR (b:=1) (h2:=av.lit _) J J aG) (show 1+1=2 from J)) (aD J (da J J g I) (aQ J h J (U I) ?_));refine aC 1 ?_;refine aD J (eB (b:=4) (h2:=av.lit _) J J an aG) ?_;refine aD J (cG (fq J J aG aG) (pW I)) (aQ J h J (V I) ?_);refine aC 1 ?_;refine aD J (kJ (n:=6) J J aG an) ?_;refine aD J (eB (b:=12) (h2:=av.lit _) J J an aG) ?_;refine aD J (cG (fq J J aG aG) (pW I)) (fG J (cO (bY (cm h [0,4,8,12,28,32,36,40,60,64,68,72,17,20,24,45,48,52,56,77,80,84,88,92] ?_))));intro w h;refine aC 2 ?_;refine aD J (cG (eR (b:=1) (h2:=av.lit _) J J aG) (show 1+1=2 from J)) (aD J (da J J g I) ?_);refine aC 2 ?_;refine aD J (cG (eR (b:=2) (h2:=av.lit _) J J aG) (show 1+2=3 from J)) (aD J (da J J g I) ?_);refine aC 2 ?_;refine aD J (cG (eR (b:=3) (h2:=av.lit _) J J aG) (show 1+3=4 from J)) (aD J (da J J g I) (aQ J h J (V I) ?_));refine aC 2 ?_;refine aQ J h J (akc I) ?_;refine aC 1 ?_;refine aD J (eB (b:=2) (h2:=av.lit _) J J an aG) ?_;refine aD J (cG (fq J J aG aG) (pW I)) (aQ J h J (azi I) ?_);refine aC 1 ?_;refine aD J (eB (b:=10) (h2:=av.lit _) J J an aG) ?_;refine aD J (cG (fq J J aG aG) (pW I)) (fG J (cO ?_));refine g_ 3 ?_;refine ak (cG (eR (b:=4) (h2:=av.lit _) J J aG) (show 1+4=5 from J)) ?_;refine g_ 5 ?_;exact⟨aO 61,5,b0/2^4+b1*2^4+b2 % 2^6*2^12,b2/2^6+Z*2^2+b4*2^10,4,az,h,(by rw[show fm=3 by omega];rfl),(by rw[show fm=3 by omega];show num (ag E 0 _)/16 % 2^18=_;rw[j];omega),(by rw[show fm=3 by omega];show num (ag E 0 _)/16/2^18=_;rw[j];omega),⟨I,I,I⟩,⟨I,I⟩,bG ⟨I,J⟩⟩
 exfalso;omega
 rintro ρ w ⟨hd,many,size,st,⟨mn,rfl⟩,h,jM,u_,gv,hhb,fx,du⟩;have f:=azd (tr:=tr) Un jM hhb.2.1 I u_ gv Uo;rw[z]at f;clear jM u_ gv;refine g_ 6 ?_;refine au J ?_ ?_<;>intro Y3
 have cF:(dZ tr E).1≠1:=by
  rw[f];split
  show(2:Nat)≠1;decide
  split
  split
  show(2:Nat)≠1;decide
  split
  show(0:Nat)≠1;decide
  exact aj' I
  exact aj' I
 exact akb
 refine g_ 8 ?_;refine cW [(10,12),(175,185)] (λρ w=>Kn ρ []/\H r w ((ah br (aB (LX x x.hA x.hN x.hC x.hb x.fA x.fN x.fC)) 81)::(eP,C (dp cs) 227)::(hO,C (ar dG m) 174)::(ob,C (ar u8 ([])++sp) 5)::L)/\(hd+size<=W E)) ?_ ?_
 refine g_ 7 ?_;refine eM (t:=179) J (λazj=>?_) (λazj=>?_)
 refine g_ 4 ?_;refine jv J ?_;refine g_ 4 ?_;refine cJ J J J (aH (vi h bZ (hG.sub aP)) ?_);rintro e w1 ⟨be,rfl,h⟩;refine g_ 5 ?_;exact⟨_,_,[],ob,bc,sp,_,x.hA,x.hN,x.hC,x.hb,x.fA,x.fN,x.fC,eP,cs,hO,m,J,h,ss,H4,hk,(λe=>absurd e (by rw[f,ao I];show(2:Nat)≠1;decide)),(λ_=>a_ ⟨_,J⟩)⟩
 refine g_ 4 ?_;refine au J ?_ ?_<;>intro aKQ
 have cF:(dZ tr E).1≠1:=(by rw[f,ao I];show(2:Nat)≠1;decide);refine g_ 4 ?_;refine cJ J J J (aH (vi h bZ (hG.sub aP)) ?_);exact abr
 exact a8 ⟨aS,az,h,I⟩
 rintro ρ w ⟨⟨nz,rfl⟩,h,ks⟩;rw[aj I]at f;refine g_ 5 ?_;refine cW [(2,2),(10,12),(17,20),(187,240)] (λρ w=> ∃d:Nat,∃A:List Nat,∃t3:Tr,∃s T2:Nat,∃fa:Option Addr,∃fn fc:Nat,∃u:Option Nat,∃v:List dx,Kn ρ [(2,af s),(17,af T2)]/\H r w ((ah br (aB (LX x (some ⟨d,0,none⟩) 2048 2048 t3.aq fa fn fc)) 81)::(u,C (dp v) 227)::((some d),C (ar dG A) 174)::(ob,C (ar u8 ([])++sp) 5)::L)/\(W A=2048)/\(CY t3)/\(∀i,i<2^t3.aq->aa A i 0=oa t3 i)/\(yn fa fn fc u v)/\(2<=s/\s+T2=hd+size)/\(dZ tr E=nB many (decide (¬fm=0)) (hd+size) (some t3) (ag E s T2))) ?_ ?_
 refine g_ 3 ?_;refine ak (wT J J aG) ?_;refine g_ 2 ?_;refine au J ?_ ?_<;>intro azk
 rw[ao I]at f;refine cW [(190,199)] (λρ w=> ∃d:Nat,∃m1:List Nat,Kn ρ []/\H r w ((ah br (aB (LX x (some ⟨d,0,none⟩) 2048 2048 x.hb x.fA x.fN x.fC)) 81)::(eP,C (dp cs) 227)::((some d),C (ar dG m1) 174)::(ob,C (ar u8 ([])++sp) 5)::L)/\(W m1=2048)) ?_ ?_
 refine g_ 5 ?_;refine aX h J abo ?_;refine g_ 3 ?_;refine au J ?_ ?_<;>intro ayT
 refine fD (dg (uK (a:=2048) (h1:=av.lit _) (c:=2048) (h2:=av.lit _) h J J J I I I J ?_));intro bt w h;rw[azf]at h;refine g_ 2 ?_;refine dt (cK bt 2048 2048) abo ?_;intro w h;rw[ay8]at h;refine aJ ?_;replace h:=h.zz [4,1,3,3,4] 1;exact⟨aO 11,bt,aT 2048 0,az,h,dS ..⟩
 have B:=lb.resolve_left I;refine B.2.2.2.elim λd G=>?_;rw[AR,B.1,B.2.1,G]at h;exact a8 ⟨aO 6,d,m,az,h,B.2.2.1⟩
 rintro ρ w ⟨d,m1,⟨r_,rfl⟩,h,jW⟩;refine g_ 8 ?_;refine aX h J abo ?_;replace h:=h.zz [2,2,2] 0;refine wj J J J J J ?_;rw[ay']at h;refine(ayC (x:=(LX x (some ⟨d,0,none⟩) 2048 2048 x.hb x.fA x.fN x.fC)) (p:=hd) h (hG.sub aP) (Y.sub aP) hE I ss jW).mono ?_;rintro e w1 ⟨a1,n1,sr,fa,fn,fc,u,v,m2,rfl,h,vJ,K,R9⟩;refine⟨_,J,?_⟩;rw[ay_]at h;refine(Kk R9).elim λok c_=>?_;have gM:=Hid.mk c_.1;have gj:=Hid.mk c_.2;clear c_ R9;have t_:=azb (E:=E) (p:=hd) (n:=size) ks;refine g_ 12 ?_;refine ak (Ul (aU:=aU) sr (ok=true) J (λe=>(gM.o e).1) (λe=>(gj.o (by simpa using e)).1) J) ?_;refine aJ (au J ?_ ?_)<;>intro ake
 have OF:=gj.o (by simpa using ake)
 have cF:(dZ tr E).1≠1:=by
  rw[f,t_]
  cases OG:gL (E.drop hd)with
  |none=>show(2:Nat)≠1;decide
  | some y=>
    have h9:=OF.2 y.1 y.2 OG
    have pJ:=aj9 (t:=y.1) (k:=y.2) OG
    rw[cr]at pJ
    rw[rO]
    by_cases hys:y.2<=size
    . rw[ao hys]
      dsimp only
      by_cases Uq:aa y.1.bits 0 0<y.1.aq
      . rw[ao Uq];show(0:Nat)≠1;decide
      . rw[aj Uq]
        have xf:(ag E hd size).drop y.2=[]:=List.drop_eq_nil_of_le (by rw[dK ks];omega)
        rw[xf]
        exact azg
    . rw[aj hys];show(2:Nat)≠1;decide
 refine g_ 8 ?_;exact⟨_,_,[],ob,bc,sp,_,some ⟨d,0,none⟩,2048,2048,x.hb,fa,fn,fc,u,v,some d,m2,J,h,vJ,⟨J,bG ⟨J,J,K,_,J⟩⟩,hk,(λe=>absurd e cF),(λ_=>OF.1)⟩
 have KL:=gM.o (by simpa using ake);have OF:=KL.2;clear gM gj;refine OF.elim λt2 akf=>?_;refine akf.elim λkk azl=>?_;clear OF akf KL;obtain⟨OG,iZ,CD,Z3,po,fi⟩:=azl;have mO:=ayr OG;have dU:n1-hd=kk:=I;rw[OG,rO]at t_;have aKR:n1<=268435456:=I;have pZ:=mO.ok.aq;refine g_ 7 ?_;refine dt (af a1) aj7 ?_;intro w h;rw[ay9]at h;refine g_ 7 ?_;refine ak (cG (jm J J I aG) dU) ?_;refine g_ 2 ?_;refine au J ?_ ?_<;>intro RL
 have cF:(dZ tr E).1≠1:=(by rw[f,t_,aj (by show ¬kk<=size;omega)];show(2:Nat)≠1;decide);refine g_ 4 ?_;refine eS J J J J (aH (re h bZ (hG.sub aP)) ?_);rintro e w1 ⟨be,rfl,h⟩;refine g_ 5 ?_;exact⟨_,_,[],ob,bc,sp,_,some ⟨d,0,none⟩,2048,2048,a1,fa,fn,fc,u,v,some d,m2,J,h,vJ,⟨J,bG ⟨J,J,K,_,J⟩⟩,hk,(λe=>absurd e cF),(λ_=>a_ ⟨_,J⟩)⟩
 rw[t_,ao (by show kk<=size;omega)]at f;dsimp only at f;have Uq: ¬aa t2.bits 0 0<t2.aq:=λe=>(by rw[ao e]at f;rw[f]at hV;exact hV J);rw[aj Uq,ajD]at f;rw[CD]at h;refine g_ 6 ?_;refine ak (cG (jm J J I aG) dU) ?_;refine g_ 7 ?_;exact⟨aO 39,d,m2,t2,hd+kk,size-kk,fa,fn,fc,u,v,Kn.mk ⟨(ie iZ),J,trivial⟩,h,K,mO,Z3,vJ,⟨I,I⟩,f⟩
 rw[aj I]at f;refine g_ 5 ?_;refine aX h J aj7 ?_;refine g_ 2 ?_;refine au J ?_ ?_<;>intro azm
 have cF:(dZ tr E).1≠1:=by
  rw[f]
  cases tr with
  |none=>show(2:Nat)≠1;decide
  |some t=>have h1:=D.2.1;have h2:=D.2.2.1.ok.ar7;omega
 exact akb
 refine aZ (show ∃t,tr=some t by cases tr with|none=>(exact absurd D azm)|some t=>exact⟨t,J⟩) (λt JW=>?_);rw[JW]at D f;have B:=lb.resolve_left (by have:=D.1;omega);refine B.2.2.2.elim λd G=>?_;rw[AR,B.1,B.2.1,G,D.2.1]at h;exact a8 ⟨aO 8,d,m,t,hd,size,x.fA,x.fN,x.fC,eP,cs,az,h,B.2.2.1,D.2.2.1,D.2.2.2,ss,⟨I,I⟩,JW▸f⟩
 rintro ρ w ⟨d,A,t3,s,T2,fa,fn,fc,u,v,⟨sV,rfl⟩,h,OH,Ur,M,akg,aKS,KE⟩;rw[KE]at hV;have hfv:=aze hV;obtain⟨akh,aKT,Us,fe,hsN⟩:=hfv;have C8:=Ur.ok.aq;have Hm:2^t3.aq<=2048:=aM (dF an C8) an;refine g_ 4 ?_;refine cW [(4,4),(21,21),(241,262)] (λρ w=> ∃A9 v5:Value,∃F:List UInt8,∃X:Option Nat,∃OI:Nat,∃qG:List Value,Kn ρ [(4,v5),(21,A9)]/\H r w ((ah br (aB (LX x (some ⟨d,0,none⟩) 2048 2048 t3.aq fa fn fc)) 81)::(u,C (dp v) 227)::((some d),C (ar dG A) 174)::(X,C (ar u8 (F)++qG) 5)::L)/\(b8 X (W F) OI (F.map u8) qG 1)/\((gZ (ag E s T2) t3 many (decide (¬fm=0))).1=1->A9= .nilIface/\v5= .slice (aI X) (W F) OI/\gZ (ag E s T2) t3 many (decide (¬fm=0))=(1,F))/\((gZ (ag E s T2) t3 many (decide (¬fm=0))).1≠1-> ∃be,A9= .iface 182 (bL be))) ?_ ?_
 refine g_ 5 ?_;refine au J ?_ ?_<;>intro aKU
 have N:decide (¬fm=0)=false:=(by rw[I4];omega);refine g_ 7 ?_;replace h:=h.zz [3] 0;refine Xz J J J J J J J (aH (axt (t:=t3) h bZ (hG.sub aP) (Y.sub aP) hE hk ⟨d,A,J,(aA (aA bZ)),by rw[OH];exact aW 2048,Hm,M,J⟩ Ur I I akh (by rw[<-abp,<-N];exact Us)) ?_);rintro e w1 ⟨zN,O,zY,Q,Bi,v4,rfl,h,s6,kA,lI⟩;refine g_ 6 ?_;replace h:=h.zz [3,3,3] 0;exact⟨aO 14,zN,v4,O,zY,Q,Bi,az,h,s6,(by rw[N,abp];exact kA),(by rw[N,abp];exact lI)⟩
 have N:decide (¬fm=0)=true:=(by rw[sL];omega);refine g_ 7 ?_;replace h:=h.zz [3] 0;refine Xz J J J J J J J (aH (axK (t:=t3) h bZ (hG.sub aP) (Y.sub aP) hE hk ⟨d,A,J,(aA (aA bZ)),by rw[OH];exact aW 2048,Hm,M,J⟩ Ur I I akh (by rw[<-N];exact Us)) ?_);rintro e w1 ⟨zN,O,zY,Q,Bi,v4,rfl,h,s6,kA,lI⟩;refine g_ 6 ?_;replace h:=h.zz [3,3,3] 0;exact⟨aO 14,zN,v4,O,zY,Q,Bi,az,h,s6,(by rw[N];exact kA),(by rw[N];exact lI)⟩
 rintro ρ w ⟨A9,v5,F,X,OI,qG,⟨wK,rfl⟩,h,ue,aki,akj⟩;refine g_ 4 ?_;refine ak (kg A9 ((gZ (ag E s T2) t3 many (decide (¬fm=0))).1=1) J (λe=>(aki e).1) (λe=>akj e) J) (aJ (au J ?_ ?_))<;>intro KG
 have cF:(dZ tr E).1≠1:=(by rw[KE];exact hsN KG);refine g_ 8 ?_;exact⟨_,_,F,X,OI,qG,_,some ⟨d,0,none⟩,2048,2048,t3.aq,fa,fn,fc,u,v,some d,A,J,h,akg,⟨J,bG ⟨J,J,OH,_,J⟩⟩,ue,(λe=>absurd e cF),(λ_=>a_ (akj KG))⟩
 have akk:(gZ (ag E s T2) t3 many (decide (¬fm=0))).1=1:=oB.1 KG;have KR:=aki akk;have Jf:=fe akk;rw[KR.2.2]at Jf;have mQ:=KE.trans Jf;refine g_ 10 ?_;exact⟨hd+size,_,F,X,OI,qG,_,some ⟨d,0,none⟩,2048,2048,t3.aq,fa,fn,fc,u,v,some d,A,J,h,akg,⟨J,bG ⟨J,J,OH,_,J⟩⟩,ue,(λ_=>⟨J,KR.2.1,some t3,mQ,J,J,Ur,M⟩),(λe=>absurd (by rw[mQ]) e)⟩
end Go.Z
