/- Part 13 of the proof. -/
import Derived.Test.YtmgkiicjpmihfaaGreatDoorQL
set_option linter.all false
set_option maxRecDepth 20000
set_option maxHeartbeats 400000000
open List renaming length -> W, getD -> aa, map -> ar, replicate -> aT, set -> bJ, range -> cL
open UInt8 renaming ofNat -> bS
open Or renaming inl -> a_, inr -> bG
open Go.Z.Env renaming ev -> aL, put -> fU
namespace Go.Z
open Go Go.Proofs Tryz
variable {k:Nat}
def G3(f:Nat->aK):List aK:=[f 0,f 1,f 2]
def yH(f:Nat->aK):Nat->List aK
 |0=> [f 1,f 2]
 |1=> [f 0,f 2]
 |_=> [f 0,f 1]
def jj{α:Type}(f:Nat->α)(k:Nat)(e:α):Nat->α:=λj=>if j=k then e else f j
def tA{α:Type}{f:Nat->α}{e:α}:jj f k e k=e:=ao J
def yI{α:Type}{f:Nat->α}{j:Nat}{e:α}(h:j≠k):jj f k e j=f j:=aj h
def V3(v:Nat->Value):List Value:=[v 0,v 1,v 2]
def vR{v:Nat->Value}(a:k<=2):(V3 v)[k]? =some (v k):=by
 rcases(I:k=0\/k=1\/k=2)with rfl|rfl|rfl<;>rfl
def VU{v:Nat->Value}{e:Value}(a:k<=2):(V3 v).set k e=V3 (jj v k e):=by
 rcases(I:k=0\/k=1\/k=2)with rfl|rfl|rfl<;>rfl
def aFs{f:Nat->aK}{L:List aK}{k:Nat}(a:k<=2):f k∈G3 f++L:=by
 rcases(I:k=0\/k=1\/k=2)with rfl|rfl|rfl
 exact fQ ..
 exact aA bZ
 exact aA (aA bZ)
structure NS where
 ob:Option Nat
 l:List Nat
 c:Nat
 sp:List Value
def NS.e(s:NS):aK:=(s.ob,C (s.l.map af++s.sp) 3)
def NS.v(s:NS):Value:= .slice (aI s.ob) (W s.l) s.c
structure NS.ok(s:NS):Prop where
 len:W (s.l.map af++s.sp)=s.c
 le:W s.l<=s.c
 nn:s.ob=none->s.c=0
def NS.nil:NS:=⟨none,[],0,[]⟩
def NS.ac5:NS.nil.ok:=⟨J,aW _,λ_=>rfl⟩
def NS.sl{s:NS}(h:s.ok){F:List aK}(hm:s.e∈F):iQ F s.v (s.l.map af):=
 ⟨_,_,_,J,by rw[cB],h.le,λa=>by
   obtain⟨ob,l,c,sp⟩:=s
   cases ob with
   |none=>have h1:=h.nn J;have h2:=h.le;simp only at h1 h2;simp only at a;omega
   |some b=>exact⟨b,0,_,_,J,hm,Rd.left _ _⟩⟩
variable {Q:List (Nat×Nat×Nat)}{F:List aK}{c n:Nat}{ad:Option Addr}
def pP(q:Nat×Nat×Nat):Nat->Nat
 |0=>q.1
 |1=>q.2.1
 |_=>q.2.2
def Ad(q:Nat×Nat×Nat):List Value:=[af q.1,af q.2.1,af q.2.2]
def np(Q:List (Nat×Nat×Nat)):List Value:=Q.flatMap Ad
def anI(Q:List (Nat×Nat×Nat)):W (np Q)=3*W Q:=by
 induction Q with
 |nil=>rfl
 |cons q Q a=>simp only[np,BK,aF,dL]at*;rw[a];simp[Ad];omega
def FP(F:List aK)(v:Value)(Q:List (Nat×Nat×Nat)):Prop:= ∃ad n c,v= .slice ad n c/\n=W Q/\n<=c/\(0<n-> ∃b q l T,ad=some ⟨b,q,none⟩/\(some b,C l T)∈F/\Rd l q (np Q))
def FP.len(h:FP F (.slice ad n c) Q):n=W Q/\n<=c:=by
 obtain⟨_,_,_,a,e2,b,_⟩:=h;cases a;exact⟨e2,b⟩
def FP.fp(h:FP F (.slice ad n c) Q)(a:0<n): ∃b q l T,ad=some ⟨b,q,none⟩/\(ah b l T)∈F/\Rd l q (np Q):=by
 obtain⟨_,_,_,d,_,_,e⟩:=h;cases d;exact e a
def LY(kind n c:Nat):Prop:=c<=(cE kind).1/\(codeF kind c).1<=n/\(c<(cE kind).1->n<(codeF kind (c+1)).1)
def rH(Q:List (Nat×Nat×Nat))(k j:Nat)(cl ml a:List Nat):Prop:=W cl=j/\W ml=j/\W a=j/\ ∀i,i<j->LY k (pP (aa Q i default) k) (aa cl i 0)/\aa ml i 0=pP (aa Q i default) k- (codeF k (aa cl i 0)).1/\aa a i 0=(codeF k (aa cl i 0)).2
def rH.nil:rH Q k 0 [] [] []:=⟨J,J,J,λi hi=>absurd hi (ma _)⟩
def ac6{l:List Nat}{x i:Nat}:aa (l++[x]) i 0=if i=W l then x else aa l i 0:=by
 rw[bX];rcases Nat.lt_trichotomy i (W l) with h|h|h
 rw[gP h,aj I,<-bX]
 rw[l_ I,ao h,h,vX];rfl
 rw[l_ I,aj I,bX,gB (by simp;omega),gB I]
def rH.snoc{j:Nat}{cl ml a:List Nat}(h:rH Q k j cl ml a)(d:LY k (pP (aa Q j default) k) c):rH Q k (j+1) (cl++[c]) (ml++[pP (aa Q j default) k- (codeF k c).1]) (a++[(codeF k c).2]):=by
 obtain⟨h1,h2,b,f⟩:=h;refine⟨by rw[aF,h1];rfl,by rw[aF,h2];rfl,by rw[aF,b];rfl,λi hi=>?_⟩;rw[ac6,ac6,ac6,h1,h2,b];by_cases e:i=j
 subst e;rw[ao J,ao J,ao J];exact⟨d,J,J⟩
 rw[aj e,aj e,aj e];exact f i I
def LY.sm(h:LY k n c)(b:k<=2)(a:n<=400000000):c<=LR k:=by
 have h1:=h.1;have h2:=h.2.1;rcases(I:k=0\/k=1\/k=2)with rfl|rfl|rfl
 exact h1
 have d:c<=31:=h1;rcases dq 28 c with e|e
 rcases(I:c=29\/c=30\/c=31)with rfl|rfl|rfl
 exact absurd (aM h2 a) an
 exact absurd (aM h2 a) an
 exact absurd (aM h2 a) an
 exact e
 exact h1
variable {listed:Array Bool}{ds:List (Nat×Nat)}{l:List Oper}{i id:Nat}{S:Nat->Bool}
section
variable {P:Program}{ops:Array Oper}{Q:Exit->Act->World->Prop}
def ac7(ops:Array Oper):Bool:=(cL ops.size).all λi=>match ops[i]? with
 |some o=>o.after.all λe=>!Region.binds .any e||Nat.blt e.on i
 |none=>true
def yJ(S:Nat->Bool)(i:Nat):Nat->Bool:=λj=>bif Nat.beq j i then true else S j
def FQ(l:List Bool):Nat:=l.countP (!·)
def ac8{l:List Bool}(h:l[i]? =some false):FQ (l.set i true)+1=FQ l:=by
 induction l generalizing i with
 |nil=>simp at h
 | cons x l a=>
   cases i with
   |zero=>simp at h;subst h;simp[FQ]
   |succ i=>simp at h;have:=a h;cases x<;>simp[FQ]at* <;>omega
def ac9(h:listed.getD i true=false):listed.toList[i]? =some false:=by
 rcases dq i listed.size with a|a
 simp[a]at h ⊢;exact h
 simp[a]at h
def aFt(hi:i<listed.size):(λj=>(listed.setIfInBounds i true).getD j false)=yJ (λj=>listed.getD j false) i:=by
 funext j;unfold yJ;by_cases e:j=i
 subst e;simp[hi]
 rw[I' e];simp[Array.getElem?_setIfInBounds_ne (Ne.symm e)]
def aFu{l:List Bool}(h: ∀i,i<W l->l[i]? =some true):FQ l=0:=by
 refine List.countP_eq_zero.2 λx a=>?_;obtain⟨i,hi⟩:=IU a;have b:i<W l:=(qP.1 hi).1;rw[h i b]at hi;cases hi;simp
def aFv(h:0<FQ listed.toList): ∃i,i<listed.size/\listed.getD i true=false/\ ∀j,j<i->listed.getD j false=true:=by
 have key: ∀m,m<=listed.size->(∀j,j<m->listed.getD j false=true)\/ ∃i,i<listed.size/\listed.getD i true=false/\ ∀j,j<i->listed.getD j false=true:=by
  intro m
  induction m with
  |zero=>exact λ_=> .inl λj a=>absurd a (ma _)
  | succ m d=>
    intro hm
    rcases d I with q|q
    . rcases getD_or (listed:=listed) (i:=m) I with e|e
      . refine .inl λj a=>?_
        rcases dq j m with b|b
        . exact q j b
        . rw[show j=m by omega];exact e
      . exact .inr ⟨m,I,e,q⟩
    . exact .inr q
 rcases key listed.size (aW _)with q|q
 exfalso;have:=aFu (l:=listed.toList) λi hi=>(by have c:i<listed.size:=(by simpa using hi);have:=q i c;simp[c]at this ⊢;exact this);omega
 exact q
def anJ(hb:ac7 ops=true)(Z9:(Nat->Bool)->Act->World->Prop)(hs: ∀S a w i o,ops[i]? =some o->S i=false->(∀e∈o.after,Region.binds .any e=true->S e.on=true)->Z9 S a w->yU P ops .h o (Z9 (yJ S i)) a w)(he: ∀S a w,(∀i,i<ops.size->S i=true)->Z9 S a w->Q .normal a w): ∀(n:Nat) (listed:Array Bool) (a:Act) (w:World),listed.size=ops.size->FQ listed.toList=n->Z9 (λi=>listed.getD i false) a w->wpAny P .any ops Q n listed a w
 | 0,listed,a,w,h1,h2,h=>by
  have d: ∀i,i<ops.size->listed.getD i false=true:=λi hi=>by
   rcases getD_or (listed:=listed) (i:=i) I with e|e
   exact e
   have:=ac8 (ac9 e);omega
  refine⟨WI.2 λj f=>?_,he _ a w d h⟩;obtain⟨c,oj,b,_⟩:=mem_ready.1 f;have x:=(Qa.1 b).1;have l:=ac8 (ac9 c);omega
 | n+1,listed,a,w,h1,h2,h=>by
  constructor
  intro r;exfalso;obtain⟨i,hi,l,s⟩:=aFv (listed:=listed) I;have m:i<ops.size:=I;have p:ops[i]? =some ops[i]:=(by simp[m]);have:i∈Region.ready .any ops listed:=(by refine mem_ready.2 ⟨l,ops[i],p,λe g t=>s _ ?_⟩;have:=vW.1 hb i (oY.2 m);simp only[p]at this;have:=WJ.1 this e g;simpa [t,FT] using this);rw[r]at this;cases this
  intro j f;obtain⟨c,oj,b,d⟩:=mem_ready.1 f;have q:j<listed.size:=(by rw[h1];exact(Qa.1 b).1);have k:listed.getD j false=false:=(by have:=c;simp[q]at this ⊢;exact this);refine ad8 b (QE (hs _ a w j oj b k d h) λv y _ u=>?_);refine anJ hb Z9 hs he n _ _ _ (by simp[h1]) ?_ ?_
  have:=ac8 (ac9 c);rw[Array.toList_setIfInBounds];omega
  rw[aFt q];exact u
def LZ(P:Program)(n:Nat)(o:Oper)(b:Env->World->Prop)(ρ:Env)(w:World):Prop:=
 o.guard=none/\bH n o.dst=true/\((∃v a,run P ρ o.op o.type w= .ok (.value v) a/\b (fU ρ o.dst v) a)\/(∃a,run P ρ o.op o.type w= .ok .skip a/\b (fU ρ o.dst undef) a)\/
   (∃f args c,run P ρ o.op o.type w= .ok (.enter f args) c/\Calls P f args c λe a=> ∃v,e= .returned v/\b (fU ρ o.dst v) a))
def ac_(S:Nat->Bool)(o:Oper):Prop:= ∀e∈o.after,Region.binds .any e=true->S e.on=true
def Dx(P:Program)(n:Nat)(Z9:(Nat->Bool)->Env->World->Prop):Nat->List Oper->Prop
 |_,[]=>True
 |i,o::l=>(∀S ρ w,S i=false->ac_ S o->Z9 S ρ w->LZ P n o (Z9 (yJ S i)) ρ w)/\Dx P n Z9 (i+1) l
def Dx.get{n:Nat}{Z9:(Nat->Bool)->Env->World->Prop}: ∀{l:List Oper} {i j:Nat} {o:Oper},Dx P n Z9 i l->l[j]? =some o-> ∀S ρ w,S (i+j)=false->ac_ S o->Z9 S ρ w->LZ P n o (Z9 (yJ S (i+j))) ρ w
 | [],_,_,_,_,h=>by simp at h
 |x::l,i,0,o,hs,h=>by simp at h;subst h;exact hs.1
 |x::l,i,j+1,o,hs,h=>by simp at h;have:=Dx.get hs.2 h;rw[show i+1+j=i+(j+1) by omega]at this;exact this
def Dy{b:Env->World->Prop}{ρ:Env}{w a:World}{o:Oper}{v:Value}(c:run P ρ o.op o.type w= .ok (.value v) a)(d:o.guard=none)(hd:bH n o.dst=true)(h:b (fU ρ o.dst v) a):LZ P n o b ρ w:=⟨d,hd,.inl ⟨v,a,c,h⟩⟩
variable {n:Nat}{K:ia}{ρ:Env}{w:World}
theorem aFw(Z9:(Nat->Bool)->Env->World->Prop)(hm:P.follows .mixedOrders=true)(hb:ac7 l.toArray=true)(h:Z9 (λ_=>false) ρ {w with drawn:=w.drawn+1})(hs:Dx P n Z9 0 l)(he: ∀S ρ w,(∀i,i<l.toArray.size->S i=true)->Z9 S ρ w->K .normal ρ w):Z_ P n (.region id l.toArray true) K ρ w:=by
 unfold Z_;intro a h1 h2 m;refine wp_region_any hm (anJ hb (λS a w=>a.tmps.size=n/\a.defers=[]/\Z9 S (mF a) w) ?_ ?_ _ _ _ _ (by simp) ?_ ?_)
 rintro S a w i o p q d ⟨c,q2,g⟩;have:=Dx.get hs (i:=0) (j:=i) (o:=o) (by simpa using p) S _ w (by simpa using q) d g;rw[il]at this;obtain⟨r,hd,h⟩:=this;have hw:Region.wanted o (yielded l.toArray a.tmps)=true:=(by simp[Region.wanted,r]);have s:bH a.tmps.size o.dst=true:=(by rw[c];exact hd);refine .inl ⟨hw,?_⟩;have put: ∀v b,Z9 (yJ S i) (fU (mF a) o.dst v) b->(a.put o.dst v).tmps.size=n/\(a.put o.dst v).defers=[]/\Z9 (yJ S i) (mF (a.put o.dst v)) b:=λv b h=>⟨by rw[size_put,c],by rw[pe,q2],by rw[pf a o.dst v s];exact h⟩;have er: ∀w,run P (mF a) o.op o.type w=(execOp a.eval o).run P w:=λw=>(by rw[qS,rQ]);rcases h with⟨v,b,h1,h2⟩| ⟨b,h1,h2⟩| ⟨f,args,t,h1,h2⟩
 exact .inl ⟨v,b,by rw[<-er];exact h1,λe=>absurd J e,put v b h2⟩
 exact .inr (.inl ⟨b,by rw[<-er];exact h1,λe=>absurd J e,put undef b h2⟩)
 exact .inr (.inr ⟨f,args,t,by rw[<-er];exact h1,h2.mono λe b ⟨v,u,e2⟩=>⟨v,u,λe=>absurd J e,put v b e2⟩⟩)
 rintro S a w x ⟨c,q2,g⟩;exact⟨c,q2,he S _ w x g⟩
 simp only[FQ,WK,Array.toList_replicate,List.countP_replicate];rfl
 refine⟨h1,h2,?_⟩;have:(λi=>(Array.replicate l.toArray.size false).getD i false)=λ_=>false:=(by funext i;rcases dq i l.toArray.size with k|k<;>simp at k<;>simp[k]);rw[this,m];exact h
def nM(S:Nat->Bool)(ρ:Env):List (Nat×Nat×Value)->Prop
 | []=>True
 | (j,t,v)::l=>(S j=true->ρ t=v)/\nM S ρ l
def ac'(i d:Nat):List (Nat×Nat×Value)->Bool
 | []=>true
 | (j,t,_)::l=>(if j=i then t==d else !(Nat.beq t d))&&ac' i d l
def anK(i:Nat)(v:Value):List (Nat×Nat×Value)->Prop
 | []=>True
 | (j,_,u)::l=>(if j=i then u=v else True)/\anK i v l
def nM.put{S:Nat->Bool}{ρ:Env}{i d:Nat}{v:Value}: ∀{l:List (Nat×Nat×Value)},nM S ρ l->ac' i d l=true->anK i v l->nM (yJ S i) (fU ρ (some d) v) l
 | [],_,_,_=>trivial
 | (j,t,u)::l,h,h1,h2=>by
  simp only[ac',oZ]at h1;refine⟨λb=>?_,nM.put h.2 h1.2 h2.2⟩;have a:=h1.1;have c:=h2.1;by_cases e:j=i
  rw[ao e]at a c;have:t=d:=(by simpa using a);subst this;simp only[fU,Env.set,Nat.beq_refl,cond_true];exact c.symm
  rw[aj e]at a;simp only[yJ,I' e,P8]at b;have f:Nat.beq t d=false:=(by simpa using a);simp only[fU,Env.set,f,P8];exact h.1 b
def nM.anL{ρ:Env}: ∀{l:List (Nat×Nat×Value)},nM (λ_=>false) ρ l
 | []=>trivial
 | (_,_,_)::_=>⟨λh=>Bool.noConfusion h,nM.anL⟩
def nM.get{S:Nat->Bool}{ρ:Env}{j t:Nat}{v:Value}: ∀{l:List (Nat×Nat×Value)} (k:Nat),nM S ρ l->l[k]? =some (j,t,v)->S j=true->ρ t=v
 | [],_,_,h,_=>by simp at h
 |x::l,0,h,e,hs=>by simp at e;subst e;exact h.1 hs
 |x::l,k+1,h,e,hs=>by simp at e;exact nM.get k h.2 e hs
def nM.nN{ρ a:Env}{j t:Nat}{v:Value}{l:List (Nat×Nat×Value)}(h:nM S (ql ds a ρ) l)(k:Nat)(e:l[k]? =some (j,t,v))(hs:S j=true)(hi:sO ds t=true):a t=v:=by
 have:=nM.get k h e hs;simpa only[ql,hi,cond_true] using this
def anM(S:Nat->Bool):List (Nat×Nat×Value)->List (Nat×Nat×Value)->Prop
 | [],[]=>True
 | (j,t,v)::l,(a,b,c)::l'=>j=a/\t=b/\(S j=true->v=c)/\anM S l l'
 |_,_=>False
def nM.same{S:Nat->Bool}{ρ:Env}: ∀{l l':List (Nat×Nat×Value)},nM S ρ l->anM S l l'->nM S ρ l'
 | [],[],_,_=>trivial
 | [],_::_,_,e=>e.elim
 |_::_,[],_,e=>e.elim
 | (j,t,v)::l,(c,d,f)::l',h,e=>by obtain⟨rfl,rfl,b,e2⟩:=e;exact⟨λa=>(h.1 a).trans (b a),nM.same h.2 e2⟩
def nM.up{S:Nat->Bool}{ρ:Env}{i:Nat}: ∀{l:List (Nat×Nat×Value)},nM S ρ l->(l.all λx=>!Nat.beq x.1 i)=true->nM (yJ S i) ρ l
 | [],_,_=>trivial
 | (j,t,u)::l,h,h1=>by simp only[WL,oZ,IV]at h1;exact⟨λa=>h.1 (by simpa only[yJ,h1.1,P8] using a),nM.up h.2 h1.2⟩
def ada(o:Oper)(k:Nat):Bool:=o.after.toList.any λe=>Region.binds .any e&&Nat.beq e.on k
def aFy{o:Oper}(h:ac_ S o){k:Nat}(a:ada o k=true):S k=true:=by
 simp only[ada,Mb,oZ]at a;obtain⟨e,he,h1,h2⟩:=a;rw[<-WB h2];exact h e (Array.mem_toList_iff.1 he) h1
def mE.cons{Z9:(Nat->Bool)->Env->World->Prop}{o:Oper}(h1: ∀S a w,S i=false->(∀k,ada o k=true->S k=true)->Z9 S (ql ds a ρ) w->LZ P n o (λb w'=>dP b ρ ds/\Z9 (yJ S i) b w') (ql ds a ρ) w)(h2:Dx P n (λS a w'=>dP a ρ ds/\Z9 S a w') (i+1) l):Dx P n (λS a w'=>dP a ρ ds/\Z9 S a w') i (o::l):=
 ⟨λS a w d hd ⟨e,f⟩=>by
   have c:=h1 S a w d (λk g=>aFy hd g)
   rw[e.Jj]at c
   exact c f,h2⟩
theorem aFz(ds:List (Nat×Nat))(Z9:(Nat->Bool)->Env->World->Prop)(hm:P.follows .mixedOrders=true)(hb:ac7 l.toArray=true)(h:Z9 (λ_=>false) ρ {w with drawn:=w.drawn+1})(hs:Dx P n (λS a w'=>dP a ρ ds/\Z9 S a w') 0 l)(he: ∀S a w,(∀i,i<W l->S i=true)->Z9 S (ql ds a ρ) w->K .normal (ql ds a ρ) w):Z_ P n (.region id l.toArray true) K ρ w:=by
 refine aFw (λS a w'=>dP a ρ ds/\Z9 S a w') hm hb ⟨dP.refl _ _,h⟩ hs λS a w' c ⟨d,e⟩=>?_;have b:=he S a w' (λi hi=>c i (by simpa using hi));rw[d.Jj]at b;exact b e
end
variable {ρ:Env}{L:List aK}{s:NS}{b:Nat}{f fb fc fm:Nat->aK}{x y:Operand}{r:fT}{w:World}
def L0(a:k<=2):(G3 f).Perm (f k::yH f k):=by
 rcases(I:k=0\/k=1\/k=2)with rfl|rfl|rfl
 exact .refl _
 . exact .swap _ _ _
 exact((List.Perm.swap (f 2) (f 1) []).cons (f 0)).trans (.swap _ _ _)
def adb{e:aK}(a:k<=2):yH (jj f k e) k=yH f k:=by
 rcases(I:k=0\/k=1\/k=2)with rfl|rfl|rfl<;>rfl
def anN{A a d e:List aK}{c m b:aK}:(A++((c::a)++((m::d)++((b::e)++L)))).Perm (c::m::b::(A++(a++(d++(e++L))))):=by
 have p1:(A++(c::(a++(m::(d++(b::(e++L))))))).Perm (c::(A++(a++(m::(d++(b::(e++L))))))):=tF;have p2:((A++a)++(m::(d++(b::(e++L))))).Perm (m::((A++a)++(d++(b::(e++L))))):=tF;have f:((A++a++d)++(b::(e++L))).Perm (b::((A++a++d)++(e++L))):=tF;simp only[bV]at p2 f;exact p1.trans ((p2.trans (f.cons m)).cons c)
def H.aFA(A:List aK){L:List aK}{k:Nat}(h:H r w (A++(G3 fc++(G3 fm++(G3 fb++L)))))(a:k<=2):H r w (fc k::fm k::fb k::(A++(yH fc k++(yH fm k++(yH fb k++L))))):=
 h.perm ((WZ A ((L0 a).append ((L0 a).append ((L0 a).append (.refl L))))).trans anN)
def H.aFB(A:List aK){L:List aK}{k:Nat}{c m b:aK}(h:H r w (c::m::b::(A++(yH fc k++(yH fm k++(yH fb k++L))))))(a:k<=2):H r w (A++(G3 (jj fc k c)++(G3 (jj fm k m)++(G3 (jj fb k b)++L)))):=by
 have p:=(WZ A ((L0 (f:=jj fc k c) a).append ((L0 (f:=jj fm k m) a).append ((L0 (f:=jj fb k b) a).append (.refl L))))).trans anN;rw[adb a,adb a,adb a,tA,tA,tA]at p;exact h.perm p.symm
def II{α β:Type}{g:α->β}{f:Nat->α}{e:α}:(λj=>g (jj f k e j))=jj (λj=>g (f j)) k (g e):=by
 funext j;unfold jj;split<;>rfl
def H.newAt{o:Obj}{e:aK}(h:H r w L)(hi:L[i]? =some e):H r (w.alloc o) (L.set i (some w.heap.size,o)):=by
 have hs: ∀x:aK,L.set i x=L.take i++x::L.drop (i+1):=λx=>(by have a:=(qP.1 hi).1;rw[List.set_eq_take_append_cons_drop,ao a]);have b:L=L.take i++e::L.drop (i+1):=(by rw[<-hs e];exact(Jo hi).symm);have hp:(((some w.heap.size,o):aK)::L).Perm (e::L.set i (some w.heap.size,o)):=(by rw[hs];refine((b▸List.Perm.refl L:L.Perm (L.take i++e::L.drop (i+1))).trans tF).cons _|>.trans ((List.Perm.swap ..).trans (List.perm_middle.symm.cons _)));exact((h.alloc o).perm hp).tail
def aFC{v:Nat}{j:Nat}(h:H r w L)(hi:L[i]? =some s.e)(n:L[j]? =some (ah b [af v] 3))(g:s.ok)(k:W s.l<=1099511627776)(a:aL ρ x=s.v)(o:aL ρ y=cK b 1 1): ∃(d:NS) (f:World),run PP ρ (.call {callee:= .builtin .append,args:= #[x,y],argTypes:= #[23,23]}) 23 w= .ok (.value d.v) f/\d.ok/\d.l=s.l++[v]/\H r f (L.set i d.e):=by
 obtain⟨ob,l,c,sp⟩:=s;obtain⟨f,p,c',q,t,q2,u,z,A⟩:=XC (P:=PP) (ty:=23) (T:=23) (T2:=23) (ob:=ob) (nn:=W l) (c:=c) (m:=1) (size:=1) (xs:=l.map af) (sp:=sp) (ys:=[af v]) J h hi (by simp) (by have:=g.len;simp only at this;rw[this];omega) g.le g.nn an (Src.slice (j:=j) (q2:=0) n ⟨J,trivial⟩ J) (by intro x a;simp at a;subst a;rfl) (by simp only at k;omega) (by simp only at k;omega);refine⟨⟨p,l++[v],c',q⟩,f,?_,⟨?_,?_,A⟩,J,?_⟩
 have:=D8 (P:=PP) (T:=23) (T2:=23) a o t;rw[this];simp only[NS.v,aF,dL,eW]
 simp only[gJ,DM,F4];rw[u];omega
 simp only[aF,dL,eW];exact z
 simp only[NS.e,gJ,DM,F4];exact q2
def ade{v:Nat}{d:Option Nat}{pos:String}{aV:Array Edge}{f:Env->World->Prop}(h:H r w L)(i j:Nat)(hi:L[i]? =some s.e)(g:L[j]? =some (ah b [af v] 3))(k:s.ok)(m:W s.l<=1099511627776)(o:aL ρ x=s.v)(p:aL ρ y=cK b 1 1)(hd:bH n d=true)(q: ∀(a:NS) (c:World),a.ok->a.l=s.l++[v]->H r c (L.set i a.e)->f (fU ρ d a.v) c):LZ PP n {dst:=d,op:= .call {callee:= .builtin .append,args:= #[x,y],argTypes:= #[23,23]},type:=23,pos:=pos,after:=aV,guard:=none} f ρ w:=by
 obtain⟨a,c,h1,h2,t,u⟩:=aFC h hi g k m o p;exact Dy h1 J hd (q a c h2 t u)
variable {a:aK}{bs cl ml st:List Nat}{B:List UInt8}{kk m:Nat}{fl:Nat->List Nat}{md:Nat->Nat}{tO:Nat->Option Tb}{ts:Nat->Tb}{p:Nat->Value}{t:Tb}{x:Wr}
def W3(x:Wr)(p:Nat->Value):Wr:={x with p0:=p 0,p1:=p 1,p2:=p 2}
def VX(a:k<=2):PK (W3 x p) k=p k:=by
 rcases(I:k=0\/k=1\/k=2)with rfl|rfl|rfl<;>rfl
def aFD{v:Value}(a:k<=2):WP (W3 x p) k v=W3 x (jj p k v):=by
 rcases(I:k=0\/k=1\/k=2)with rfl|rfl|rfl<;>rfl
def tB(md:Nat->Nat):Nat->Nat
 |0=>0
 |1=>md 0*64
 |2=>md 0*64+md 1*16
 |_=>md 0*64+md 1*16+md 2*4
def aFE(d:kk<=2)(h: ∀k,k<kk->md k<=3)(hm:m<=3):tB md kk|||m*2^(6-2*kk)=tB (jj md kk m) (kk+1):=by
 rcases(I:kk=0\/kk=1\/kk=2)with rfl|rfl|rfl
 show 0|||m*64=m*64;exact Nat.zero_or _
 have c:=h 0 an;show md 0*64|||m*16=md 0*64+m*16;generalize md 0=a at c;exact(show ∀a,a<4-> ∀m,m<4->a*64|||m*16=a*64+m*16 by decide) a I m I
 have c:=h 0 an;have h1:=h 1 an;show(md 0*64+md 1*16)|||m*4=md 0*64+md 1*16+m*4;generalize md 0=a at c;generalize md 1=b at h1;exact(show ∀a,a<4-> ∀b,b<4-> ∀m,m<4->(a*64+b*16)|||m*4=a*64+b*16+m*4 by decide) a I b I m I
def adf(a:kk<=3)(h: ∀k,k<kk->md k<=3):tB md kk<=252:=by
 rcases(I:kk=0\/kk=1\/kk=2\/kk=3)with rfl|rfl|rfl|rfl
 exact cj _
 have:=h 0 an;show md 0*64<=252;omega
 have:=h 0 an;have:=h 1 an;show md 0*64+md 1*16<=252;omega
 have:=h 0 an;have:=h 1 an;have:=h 2 an;show md 0*64+md 1*16+md 2*4<=252;omega
def aFF(hm:m<=3)(a:kk<=2):m*2^(6-2*kk)<=192:=by
 rcases(I:kk=0\/kk=1\/kk=2)with rfl|rfl|rfl
 show m*64<=192;omega
 show m*16<=192;omega
 show m*4<=192;omega
def jt(Bs:Nat->List UInt8):Nat->List UInt8
 |0=> []
 |k+1=>jt Bs k++Bs k
def anO{Bs a:Nat->List UInt8}: ∀{k:Nat},(∀j,j<k->Bs j=a j)->jt Bs k=jt a k
 |0,_=>rfl
 |k+1,h=>by simp only[jt];rw[anO λj b=>h j (Nat.lt_succ_of_lt b),h k (F_ _)]
def anP{Bs:Nat->List UInt8}:jt (jj Bs k B) (k+1)=jt Bs k++B:=by
 simp only[jt];rw[tA,anO λj a=>yI (WG a)]
def adg{Bs:Nat->List UInt8}: ∀{k:Nat},(∀j,j<k->W (Bs j)<=1000)->W (jt Bs k)<=1000*k
 |0,_=>aW _
 |k+1,h=>by have h1:=adg λj a=>h j (Nat.lt_succ_of_lt a);have h2:=h k (F_ _);simp only[jt,aF];omega
def IJ(F:List aK)(x:Wr)(tO:Nat->Option Tb)(fl:Nat->List Nat)(kk:Nat)(p:Nat->Value)(ts:Nat->Tb)(Bs:Nat->List UInt8)(md:Nat->Nat):Prop:=
 ∀k,k<=2->(k<kk->mN F (p k) (ts k)/\nL k (ts k)/\(∀s,s∈fl k->Bz (ts k) s)/\Dv (tO k) k (md k) (fl k) (ts k) (Bs k)/\md k<=3)/\(kk<=k->p k=PK x k)
def IJ.zero{Bs:Nat->List UInt8}:IJ F x tO fl 0 (PK x) ts Bs md:=λ_ _=>⟨λh=>absurd h (ma _),λ_=>rfl⟩
def IJ.step{c:List aK}{Bs:Nat->List UInt8}{v:Value}(h:IJ F x tO fl kk p ts Bs md)(hs:Sub F c)(h1:mN c v t)(h2:nL kk t)(g: ∀s,s∈fl kk->Bz t s)(i:Dv (tO kk) kk m (fl kk) t B)(j:m<=3):IJ c x tO fl (kk+1) (jj p kk v) (jj ts kk t) (jj Bs kk B) (jj md kk m):=λk f=>by
 by_cases e:k=kk
 subst e;rw[tA,tA,tA,tA];exact⟨λ_=>⟨h1,h2,g,i,j⟩,λd=>absurd d I⟩
 rw[yI e,yI e,yI e,yI e];exact⟨λd=>let ⟨a,b⟩:=(h k f).1 I;⟨a.sub hs,b⟩,λd=>(h k f).2 I⟩
def yK(n i:Nat)(st:List Nat):Int:=if i<n then((aa st i 0:Nat):Int)else-1
def StR(t:Tb)(cl:List Nat)(n:Nat)(st:List Nat)(k:Nat):Prop:=
 aa st k 0<W t.cells/\(t.cells.getD (aa st k 0) default).sym=aa cl k 0/\(k+1<n->(t.cells.getD (aa st k 0) default).base<=aa st (k+1) 0/\aa st (k+1) 0<(t.cells.getD (aa st k 0) default).base+2^(t.cells.getD (aa st k 0) default).bits)
def BE(t:Tb)(cl:List Nat)(n i:Nat)(st:List Nat):Prop:=W st=n/\ ∀k,i<=k->k<n->StR t cl n st k
def PH{l:List Nat}{j v:Nat}(h:i<W l):aa (l.set i v) j 0=if i=j then v else aa l j 0:=by
 simp only[bX,vV];by_cases e:i=j
 subst e;rw[ao J,ao J,ao h];rfl
 rw[aj e,aj e]
def BE.step(h:BE t cl n i st)(l:0<i)(o:i<=n)(h1:m<W t.cells)(h2:(t.cells.getD m default).sym=aa cl (i-1) 0)(d:0<=yK n i st->ux (t.cells.getD m default) (yK n i st)):BE t cl n (i-1) (st.set (i-1) m)/\yK n (i-1) (st.set (i-1) m)=((m:Nat):Int):=by
 have f:=h.1;have a:i-1<W st:=I;refine⟨⟨by rw[dW];exact f,λk p g=>?_⟩,?_⟩
 unfold StR;by_cases e:i-1=k
 rw[PH a,ao e,PH a,aj I];refine⟨h1,by rw[h2,e],λj=>?_⟩;have b:yK n i st=((aa st (k+1) 0:Nat):Int):=(by unfold yK;rw[show i=k+1 by omega,ao j]);have c:=d (by rw[b];omega);rw[b]at c;unfold ux at c;omega
 rw[PH a,aj e,PH a,aj I];exact h.2 k I g
 unfold yK;rw[ao I,PH a,ao J]
def aFG(h:BE t cl n i st)(a:W t.cells=2^t.log): -1<=yK n i st/\yK n i st<((2^t.log:Nat):Int):=by
 unfold yK;split
 rename_i hi;have:=(h.2 i (aW _) hi).1;omega
 have:=eA t.log;omega
def BF(ts:Nat->Tb)(st:Nat->List Nat):Nat->List Bool
 |0=> []
 |k+1=>BF ts st k++cT (aa (st k) 0 0) (ts k).log
def jR(ml bs:Nat->List Nat)(i:Nat):Nat->List Bool
 |0=> []
 |j+1=>jR ml bs i j++cT (aa (ml ([1,2,0].getD j 0)) i 0) (aa (bs ([1,2,0].getD j 0)) i 0)
def vS(t:Tb)(st:List Nat)(i:Nat):List Bool:=cT (aa st (i+1) 0- (t.cells.getD (aa st i 0) default).base) (t.cells.getD (aa st i 0) default).bits
def sH(ts:Nat->Tb)(st:Nat->List Nat)(i:Nat):Nat->List Bool
 |0=> []
 |j+1=>sH ts st i j++vS (ts ([0,2,1].getD j 0)) (st ([0,2,1].getD j 0)) i
def hJ(ml bs:Nat->List Nat)(ts:Nat->Tb)(st:Nat->List Nat):Nat->List Bool
 |0=>BF ts st 3
 |i+1=>hJ ml bs ts st i++jR ml bs i 3++sH ts st i 3
def anQ{ml bs:Nat->List Nat}{i:Nat}(h: ∀k,k<=2->aa (bs k) i 0<=31): ∀{j:Nat},W (jR ml bs i j)<=31*j
 |0=>aW _
 | j+1=>by
  have h1:= @anQ ml bs i h j
  have h2:[1,2,0].getD j 0<=2:=by
   rcases(I:j=0\/j=1\/j=2\/3<=j)with rfl|rfl|rfl|e
   decide
   decide
   decide
   rw[bX,gB (by simpa using e)];decide
  have a:=h _ h2;simp only[jR,aF,vN];omega
def anR{ts:Nat->Tb}{st:Nat->List Nat}{i:Nat}(h: ∀k,k<=2->((ts k).cells.getD (aa (st k) i 0) default).bits<=9): ∀{j:Nat},W (sH ts st i j)<=9*j
 |0=>aW _
 | j+1=>by
  have h1:= @anR ts st i h j
  have h2:[0,2,1].getD j 0<=2:=by
   rcases(I:j=0\/j=1\/j=2\/3<=j)with rfl|rfl|rfl|e
   decide
   decide
   decide
   rw[bX,gB (by simpa using e)];decide
  have a:=h _ h2;simp only[sH,vS,aF,vN];omega
def adh{ts:Nat->Tb}{st:Nat->List Nat}(h: ∀k,k<=2->(ts k).log<=9): ∀{k:Nat},k<=3->W (BF ts st k)<=9*k
 |0,_=>aW _
 |k+1,a=>by have h1:= @adh ts st h k I;have h2:=h k I;simp only[BF,aF,vN];omega
def adj(tO:Nat->Option Tb)(ts:Nat->Tb)(Q:List (Nat×Nat×Nat))(B:List UInt8):Prop:=
 ∃(md:Nat->Nat) (Bs:Nat->List UInt8) (cl ml bs st:Nat->List Nat),(∀k,k<=2->rH Q k (W Q) (cl k) (ml k) (bs k)/\Dv (tO k) k (md k) (cl k) (ts k) (Bs k)/\md k<=3/\BE (ts k) (cl k) (W Q) 0 (st k))/\
   B=(bS (tB md 3)::jt Bs 3)++kX (hJ ml bs ts st (W Q-1)++jR ml bs (W Q-1) 3)
def rH.get(h:rH Q k (W Q) cl ml bs)(a:k<=2)(hb: ∀i,i<W Q->pP (aa Q i default) k<=400000000){i:Nat}(hi:i<W Q):aa cl i 0<=LR k/\aa ml i 0<=400000000/\aa bs i 0<=31:=by
 obtain⟨h1,h2,b⟩:=h.2.2.2 i hi;have c:=hb i hi;refine⟨h1.sm a c,I,?_⟩;rw[b];exact(agm I h1.1).1
def rH.sm(h:rH Q k (W Q) cl ml bs)(a:k<=2)(hb: ∀i,i<W Q->pP (aa Q i default) k<=400000000): ∀s,s∈cl->s<=LR k:=λs hs=>by
 obtain⟨i,hi⟩:=IU hs;have b:=(qP.1 hi).1;have:=(h.get a hb (i:=i) (by rw[<-h.1];exact b)).1;rw[bX,hi]at this;exact this
def mN.IK{G:List aK}{ob:Option Nat}{X S:List UInt8}{p:Value}(h:mN (G++(EB ob X S::F)) p t):mN (G++F) p t:=by
 have key: ∀(b:Nat) (l:List Value) (T:TypeId),T≠5->(ah b l T)∈G++(EB ob X S::F)->(ah b l T)∈G++F:=λb l T a hm=>by
  rcases oX.1 hm with q|q
  exact oA _ q
  rcases nP.1 q with q|q
  simp only[EB,qO,C,Obj.cells.injEq]at q;exact absurd q.2.2.1 a
  exact fM _ q
 obtain⟨tb,cb,h1,h2,c⟩:=h;exact⟨tb,cb,h1,key _ _ _ an h2,key _ _ _ an c⟩
def se.bd{kind:Nat}(h:se kind t):W t.cells<=512/\ ∀i,i<W t.cells->(t.cells.getD i default).bits<=9/\(t.cells.getD i default).base<=65536:=by
 have h1:2^t.log<=2^9:=dF an h.log;have h2:=h.len;refine⟨I,λi hi=>?_⟩;have a:=h.cell i I;exact⟨a.1,aM (aM (lV _ _) a.2.1) I⟩
def VY(F:List aK)(ts:Nat->Tb)(cl:Nat->List Nat)(n b:Nat)(a:Nat->NS):Prop:= ∀k,k<=2->k<b->(a k).e∈F/\(a k).ok/\BE (ts k) (cl k) n 0 (a k).l
def VY.step{cl:Nat->List Nat}{a:Nat}{c:Nat->NS}(h:VY F ts cl n a c)(hs:BE (ts a) (cl a) n 0 st):VY ((ah b (ar af st) 3)::F) ts cl n (a+1) (jj c a ⟨some b,st,n,[]⟩):=λk d f=>by
 by_cases e:k=a
 subst e;rw[tA];refine⟨by simp[NS.e],⟨by simp[hs.1],by simp[hs.1],λe=>by cases e⟩,hs⟩
 rw[yI e];have:=h k d I;exact⟨aA this.1,this.2⟩
def aFH{a e2 b c d:aK}(h:H r w (a::e2::b::c::d::(G3 fc++(G3 fm++(G3 fb++L))))): ∃G,H r w (c::d::(G++L))/\a∈G++L/\e2∈G++L/\b∈G++L/\ ∀k,k<=2->fc k∈G++L/\fm k∈G++L/\fb k∈G++L:=by
 have h2:=(h.mv 4).mv 4;refine⟨a::e2::b::(G3 fc++(G3 fm++G3 fb)),by simp only[dX,List.cons_append,bV]at h2 ⊢;exact h2,by simp,by simp,by simp,λk e=>?_⟩;have hm: ∀f:Nat->aK,f k∈G3 f:=λf=>(by have:= @aFs f [] k e;simpa using this);refine⟨?_,?_,?_⟩
 have:=hm fc;simp[this]
 have:=hm fm;simp[this]
 have:=hm fb;simp[this]
def H.aFI{b e:aK}{G:List aK}(h:H r w (a::b::(G++(e::F)))):H r w (a::b::e::(G++F)):=
 h.perm ((List.perm_middle.cons b).cons a)
def aFJ{G:List aK}{b e c:aK}(he:e=c):Sub (G++(e::F)) (a::b::c::(G++F)):=λx d=>by
 subst he;rcases oX.1 d with h|h
 simp[h]
 rcases nP.1 h with rfl|h
 simp
 simp[h]
variable {b:Bool}{b' c' m':NS}{gb gc gm:Nat->NS}{p:Prop}
def H.gh9{a e2 b c d:aK}(h:H r w (a::e2::b::c::d::L)):H r w (a::e2::b::c::d::(G3 (λ_=>NS.nil.e)++(G3 (λ_=>NS.nil.e)++(G3 (λ_=>NS.nil.e)++L)))):=by
 have o:=C (ar af []++[]) 3;have f:=((((((((h.ghost (C (ar af []++[]) 3)).ghost (C (ar af []++[]) 3)).ghost (C (ar af []++[]) 3)).ghost (C (ar af []++[]) 3)).ghost (C (ar af []++[]) 3)).ghost (C (ar af []++[]) 3)).ghost (C (ar af []++[]) 3)).ghost (C (ar af []++[]) 3)).ghost (C (ar af []++[]) 3);exact((((f.mv 13).mv 13).mv 13).mv 13).mv 13
def aFK{l:List Value}{q:Nat}(h:Rd l q (np Q))(hi:i<W Q):Rd l (q+i*3) (Ad (aa Q i default)):=by
 have h1:=X' Ad 3 (λ_=>rfl) default Q i hi;exact Rd.of λj a=>(by have h2:=h1.get j a;have b:i*3+j<W (np Q):=(by rw[anI];have:j<3:=a;omega);have c:=h.get (i*3+j) b;rw[show q+i*3+j=q+(i*3+j) by omega,c];exact h2)
def aFL{q:Nat×Nat×Nat}(a:k<=2):(Ad q)[k]? =some (af (pP q k)):=by
 rcases(I:k=0\/k=1\/k=2)with rfl|rfl|rfl<;>rfl
def MR(h:b=true)(a:b=false):False:=by rw[h]at a;cases a
def adk{a:Bool}{Q:Prop}(s:a=true->b=true/\Q)(h:b=false):a=false:=by
 cases a with
 |false=>rfl
 |true=>exact(MR (s J).1 h).elim
def adl{P:Program}{b:Env->World->Prop}{a:World}{o:Oper}(c:run P ρ o.op o.type w= .ok .skip a)(d:o.guard=none)(hd:bH n o.dst=true)(h:b (fU ρ o.dst undef) a):LZ P n o b ρ w:=⟨d,hd,.inr (.inl ⟨a,c,h⟩)⟩
def aFM(h: ∀k,k<=2->(gc k).ok/\(gm k).ok/\(gb k).ok)(h1:c'.ok)(h2:m'.ok)(a:b'.ok): ∀k,k<=2->(jj gc kk c' k).ok/\(jj gm kk m' k).ok/\(jj gb kk b' k).ok:=λk b=>by
 by_cases e:k=kk
 subst e;rw[tA,tA,tA];exact⟨h1,h2,a⟩
 rw[yI e,yI e,yI e];exact h k b
def aFN{j cd nk:Nat}(h: ∀k,k<=2->rH Q k (if k<kk then j+1 else j) (gc k).l (gm k).l (gb k).l)(c:LY kk nk cd)(g:kk<=2)(d:pP (aa Q j default) kk=nk)(h1:c'.l=(gc kk).l++[cd])(h2:m'.l=(gm kk).l++[nk- (codeF kk cd).1])(f:b'.l=(gb kk).l++[(codeF kk cd).2]): ∀k,k<=2->rH Q k (if k<kk+1 then j+1 else j) (jj gc kk c' k).l (jj gm kk m' k).l (jj gb kk b' k).l:=λk b=>by
 by_cases e:k=kk
 subst e;rw[tA,tA,tA,ao (F_ _),h1,h2,f];have a:=h k b;rw[aj (vT _)]at a;subst d;exact a.snoc c
 rw[yI e,yI e,yI e];have a:=h k b;by_cases e2:k<kk
 rw[ao e2]at a;rw[ao I];exact a
 rw[aj e2]at a;rw[aj I];exact a
def Dz(h:p:=by obtain⟨c',m',b',o7,gV,jk,lp,lq,ls,hK,p0,q0,f0,n0,s0,p1,q1,f1,n1,s1,p2,q2,f2,n2,s2,h⟩:=hI;exact Dy run_move J J ⟨dP.put J (dP.mix _ _ _),c',m',b',o7,gV,jk,lp,lq,ls,hK.put J iG,p0,q0,f0,n0,s0,p1,q1,f1,n1,s1,p2,q2,f2,n2,s2,h⟩):p:=h
def L1(h:p:=by subst e1;exact Dy (MB J J I) J J ⟨dP.put J (dP.mix _ _ _),c',m',b',o7,gV,jk,lp,lq,ls,hK.put J iG,p0,q0,f0,n0,s0,p1,q1,f1,n1,s1,p2,q2,f2,n2,s2,h⟩):p:=h
def aFO{wb qc:Nat}{qa:Option Addr}{nn nc at_:Nat}{V:Option Addr}{N:List Int}(h:H r w ((ah wb (bj x) 49)::(some x.cb,C [.slice V nn nc,af at_] 38)::L))(hN:og L (.slice V nn nc) N)(jU:at_<=1152921504605000000)(hQ:FP L (.slice qa (W Q) qc) Q)(FR:0<W Q)(hQ2:W Q<=131072)(IL: ∀k,k<=2->tZ L (PK x k) (tO k)/\ ∀t,tO k=some t->nL k t)(VZ: ∀i,i<W Q-> ∀k,k<=2->(codeF k 0).1<=pP (aa Q i default) k/\pP (aa Q i default) k<=400000000):Calls PP 29 #[bL wb,.slice qa (W Q) qc] w λe w'=> ∃at' G' p ts ob B S c,e= .returned (.slice (aI ob) (W B) c)/\BB ob B S c/\at'<=at_+800/\adj tO ts Q B/\(∀k,k<=2->mN (G'++L) (p k) (ts k)/\nL k (ts k))/\W B<=10000000/\H r w' (EB ob B S::(ah wb (bj (W3 x p)) 49)::(some x.cb,C [.slice V nn nc,af at'] 38)::(G'++L)):=by
 have hQc:=hQ.len.2;refine lB (hQ.fp FR) λpb pq lp Tp q1=>?_;refine iI func29 ntmps29 [4] ?_;refine g_ 6 ?_;refine eN h J ?_;intro R w h;refine eN h J ?_;intro T w h;refine eN h J ?_;intro bs w h;refine g_ 7 ?_;have h0:=h.gh9;refine aJ (Al (cw (σ:=Nat×(Nat->NS)×(Nat->NS)×(Nat->NS)) [(9,14),(34,83)] (λ⟨j,fc,fm,fb⟩ ρ w=>Kn ρ [(34,af j)]/\H r w ((ah bs (V3 (λk=>(fb k).v)) 112)::(ah T (V3 (λk=>(fm k).v)) 112)::(ah R (V3 (λk=>(fc k).v)) 112)::(ah wb (bj x) 49)::(some x.cb,C [.slice V nn nc,af at_] 38)::(G3 (λk=>(fc k).e)++(G3 (λk=>(fm k).e)++(G3 (λk=>(fb k).e)++L))))/\(j<=W Q)/\(∀k,k<=2->(fc k).ok/\(fm k).ok/\(fb k).ok)/\(∀k,k<=2->rH Q k (j) (fc k).l (fm k).l (fb k).l)) (λ⟨j,fc,fm,fb⟩=>W Q-j) (0,(λ_=>NS.nil),(λ_=>NS.nil),(λ_=>NS.nil)) ⟨az,h0,I,(λ_ _=>⟨NS.ac5,NS.ac5,NS.ac5⟩),(λ_ _=>rH.nil)⟩ ?_));rintro⟨j,fc,fm,fb⟩ ρ w ⟨⟨LN,rfl⟩,h,hj,c_,wY⟩;refine g_ 5 ?_;refine au J ?_ ?_<;>intro jA
 refine gg (fM (G3 (λk=>(fc k).e)) (fM (G3 (λk=>(fm k).e)) (fM (G3 (λk=>(fb k).e)) q1.2.1))) λip rC=>(cM (aa Q j default) λqd hqd=>?_);have q':=aFK q1.2.2 (i:=j) I;have hqb:=VZ j I;rw[hqd]at q' hqb;refine g_ 5 ?_;refine ak (QI J J q1.1 I) (ak (jx (Ad qd) h J q' J) (eN h J ?_));intro bd w h;refine cI ?_;intro w h;refine g_ 9 ?_;refine B_ J J J (lX _ _ _) h ?_;intro bz w h;refine g_ 4 ?_;refine cw (σ:=Nat×(Nat->NS)×(Nat->NS)×(Nat->NS)) [(10,14),(46,82)] (λ⟨kk,gc,gm,gb⟩ ρ w=>Kn ρ [(46,af kk)]/\H r w ((ah bz (Ad qd) 3)::(ah bs (V3 (λk=>(gb k).v)) 112)::(ah T (V3 (λk=>(gm k).v)) 112)::(ah R (V3 (λk=>(gc k).v)) 112)::(ah wb (bj x) 49)::(some x.cb,C [.slice V nn nc,af at_] 38)::(G3 (λk=>(gc k).e)++(G3 (λk=>(gm k).e)++(G3 (λk=>(gb k).e)++L))))/\(kk<=3)/\(∀k,k<=2->(gc k).ok/\(gm k).ok/\(gb k).ok)/\(∀k,k<=2->rH Q k (if k<kk then j+1 else j) (gc k).l (gm k).l (gb k).l)) (λ⟨kk,gc,gm,gb⟩=>3-kk) (0,fc,fm,fb) ⟨az,(h.mv 1).tail,I,c_,wY⟩ ?_;rintro⟨kk,gc,gm,gb⟩ ρ w ⟨⟨LO,rfl⟩,h,dU,gj,PI⟩;refine g_ 5 ?_;refine au J ?_ ?_<;>intro u5
 have E:kk<=2:=I;have FN:=hqb kk E;refine cM (pP qd kk) λnk Hc=>?_;have nJ:=aFL (q:=qd) E;rw[Hc]at FN nJ;refine g_ 7 ?_;refine aX h J nJ ?_;refine g_ 7 ?_;refine cJ J J J (aH (aC8 (kind:=kk) (n:=nk) h E FN.1 I) ?_);rintro e w1 ⟨cd,rfl,aFP,aFQ,aFR,h⟩;refine g_ 8 ?_;refine aFz [(58,81)] (λS y w'=> ∃(c' m' b':NS) (o7 gV jk:Option Nat) (lp lq ls:List Value),nM S y [(0,58,af kk),(1,59,af kk),(2,60,af kk),(3,61,af kk),(4,62,.pointer (some ⟨R,kk,none⟩)),(5,63,(gc kk).v),(6,64,af cd),(7,65,.slice (aI o7) 1 1),(8,66,c'.v),(9,67,af kk),(10,68,.pointer (some ⟨T,kk,none⟩)),(11,69,(gm kk).v),(12,70,af (nk- (codeF kk cd).1)),(13,71,.slice (aI gV) 1 1),(14,72,m'.v),(15,73,af kk),(16,74,.pointer (some ⟨bs,kk,none⟩)),(17,75,(gb kk).v),(18,76,af (codeF kk cd).2),(19,77,.slice (aI jk) 1 1),(20,78,b'.v),(21,79,.pointer (some ⟨R,kk,none⟩)),(23,80,.pointer (some ⟨T,kk,none⟩)),(25,81,.pointer (some ⟨bs,kk,none⟩))]/\(S 8=false->c'=gc kk)/\(c'.ok/\c'.l=if S 8=true then(gc kk).l++[cd]else(gc kk).l)/\(S 7=true-> ∃b,o7=some b)/\(S 22=false->lp=V3 (λk=>(gc k).v))/\(S 22=true->S 5=true/\S 8=true/\lp=(V3 (λk=>(gc k).v)).set kk c'.v)/\(S 14=false->m'=gm kk)/\(m'.ok/\m'.l=if S 14=true then(gm kk).l++[(nk- (codeF kk cd).1)]else(gm kk).l)/\(S 13=true-> ∃b,gV=some b)/\(S 24=false->lq=V3 (λk=>(gm k).v))/\(S 24=true->S 11=true/\S 14=true/\lq=(V3 (λk=>(gm k).v)).set kk m'.v)/\(S 20=false->b'=gb kk)/\(b'.ok/\b'.l=if S 20=true then(gb kk).l++[(codeF kk cd).2]else(gb kk).l)/\(S 19=true-> ∃b,jk=some b)/\(S 26=false->ls=V3 (λk=>(gb k).v))/\(S 26=true->S 17=true/\S 20=true/\ls=(V3 (λk=>(gb k).v)).set kk b'.v)/\H r w' ((o7,C [af cd] 3)::(gV,C [af (nk- (codeF kk cd).1)] 3)::(jk,C [af (codeF kk cd).2] 3)::c'.e::m'.e::b'.e::(ah bz (Ad qd) 3)::(ah bs ls 112)::(ah T lq 112)::(ah R lp 112)::(ah wb (bj x) 49)::(some x.cb,C [.slice V nn nc,af at_] 38)::(yH (λk=>(gc k).e) kk++(yH (λk=>(gm k).e) kk++(yH (λk=>(gb k).e) kk++L))))) XH (by decide+kernel) ?_ ?_ ?_
 exact⟨gc kk,gm kk,gb kk,none,none,none,_,_,_,nM.anL,λ_=>rfl,⟨(gj kk E).1,J⟩,λe=>Bool.noConfusion e,λ_=>rfl,λe=>Bool.noConfusion e,λ_=>rfl,⟨(gj kk E).2.1,J⟩,λe=>Bool.noConfusion e,λ_=>rfl,λe=>Bool.noConfusion e,λ_=>rfl,⟨(gj kk E).2.2,J⟩,λe=>Bool.noConfusion e,λ_=>rfl,λe=>Bool.noConfusion e,((((h.aFA (fc:=λk=>(gc k).e) (fm:=λk=>(gm k).e) (fb:=λk=>(gb k).e) (L:=L) (k:=kk) [_,_,_,_,_,_] E).drew).ghost _).ghost _).ghost _⟩
 refine mE.cons (λS y w hS hd hI=>?_) ?_
 exact Dz
 refine mE.cons (λS y w hS hd hI=>?_) ?_
 exact Dz
 refine mE.cons (λS y w hS hd hI=>?_) ?_
 exact Dz
 refine mE.cons (λS y w hS hd hI=>?_) ?_
 exact Dz
 refine mE.cons (λS y w hS hd hI=>?_) ?_
 obtain⟨c',m',b',o7,gV,jk,lp,lq,ls,hK,p0,q0,f0,n0,s0,p1,q1,f1,n1,s1,p2,q2,f2,n2,s2,h⟩:=hI;refine(Kn.mk (ρ:=y) (l:=[(61,_)]) ⟨hK.nN 3 J (hd 3 J) J,trivial⟩).elim λU e1=>?_;exact L1
 refine mE.cons (λS y w hS hd hI=>?_) ?_
 obtain⟨c',m',b',o7,gV,jk,lp,lq,ls,hK,p0,q0,f0,n0,s0,p1,q1,f1,n1,s1,p2,q2,f2,n2,s2,h⟩:=hI;refine(Kn.mk (ρ:=y) (l:=[(62,_)]) ⟨hK.nN 4 J (hd 4 J) J,trivial⟩).elim λU e1=>?_;subst e1;have hu:=(n0 (adk s0 hS)).symm▸vR (v:=λk=>(gc k).v) E;exact Dy (run_load h J hu) J J ⟨dP.put J (dP.mix _ _ _),c',m',b',o7,gV,jk,lp,lq,ls,hK.put J iG,p0,q0,f0,n0,λe=>⟨J,(s0 e).2⟩,p1,q1,f1,n1,s1,p2,q2,f2,n2,s2,h⟩
 refine mE.cons (λS y w hS hd hI=>?_) ?_
 exact Dz
 refine mE.cons (λS y w hS hd hI=>?_) ?_
 obtain⟨c',m',b',o7,gV,jk,lp,lq,ls,hK,p0,q0,f0,n0,s0,p1,q1,f1,n1,s1,p2,q2,f2,n2,s2,h⟩:=hI;refine(Kn.mk (ρ:=y) (l:=[(64,_)]) ⟨hK.nN 6 J (hd 6 J) J,trivial⟩).elim λU e1=>?_;subst e1;exact Dy (ME (u:=λb=>cK b 1 1) (mH _) J) J J ⟨dP.put J (dP.mix _ _ _),c',m',b',some w.heap.size,gV,jk,lp,lq,ls,(hK.same (l':=[(0,58,af kk),(1,59,af kk),(2,60,af kk),(3,61,af kk),(4,62,.pointer (some ⟨R,kk,none⟩)),(5,63,(gc kk).v),(6,64,af cd),(7,65,.slice (aI (some w.heap.size)) 1 1),(8,66,c'.v),(9,67,af kk),(10,68,.pointer (some ⟨T,kk,none⟩)),(11,69,(gm kk).v),(12,70,af (nk- (codeF kk cd).1)),(13,71,.slice (aI gV) 1 1),(14,72,m'.v),(15,73,af kk),(16,74,.pointer (some ⟨bs,kk,none⟩)),(17,75,(gb kk).v),(18,76,af (codeF kk cd).2),(19,77,.slice (aI jk) 1 1),(20,78,b'.v),(21,79,.pointer (some ⟨R,kk,none⟩)),(23,80,.pointer (some ⟨T,kk,none⟩)),(25,81,.pointer (some ⟨bs,kk,none⟩))]) Jr).put J iG,p0,q0,λ_=>⟨_,J⟩,n0,s0,p1,q1,f1,n1,s1,p2,q2,f2,n2,s2,h.newAt (i:=0) J⟩
 refine mE.cons (λS y w hS hd hI=>?_) ?_
 obtain⟨c',m',b',o7,gV,jk,lp,lq,ls,hK,p0,q0,f0,n0,s0,p1,q1,f1,n1,s1,p2,q2,f2,n2,s2,h⟩:=hI;refine(f0 (hd 7 J)).elim λb hb=>?_;have e8:=p0 hS;subst hb;subst e8;refine(Kn.mk (ρ:=y) (l:=[(63,_),(65,_)]) ⟨hK.nN 5 J (hd 5 J) J,hK.nN 7 J (hd 7 J) J,trivial⟩).elim λU e1=>?_;subst e1;exact ade (s:=gc kk) h 3 0 J J q0.1 (by have:=(PI kk E).1;rw[this];split<;>omega) J J J (λs' w1 e1 e2 h=>⟨dP.put J (dP.mix _ _ _),s',m',b',some b,gV,jk,lp,lq,ls,(hK.same (l':=[(0,58,af kk),(1,59,af kk),(2,60,af kk),(3,61,af kk),(4,62,.pointer (some ⟨R,kk,none⟩)),(5,63,(gc kk).v),(6,64,af cd),(7,65,.slice (aI (some b)) 1 1),(8,66,s'.v),(9,67,af kk),(10,68,.pointer (some ⟨T,kk,none⟩)),(11,69,(gm kk).v),(12,70,af (nk- (codeF kk cd).1)),(13,71,.slice (aI gV) 1 1),(14,72,m'.v),(15,73,af kk),(16,74,.pointer (some ⟨bs,kk,none⟩)),(17,75,(gb kk).v),(18,76,af (codeF kk cd).2),(19,77,.slice (aI jk) 1 1),(20,78,b'.v),(21,79,.pointer (some ⟨R,kk,none⟩)),(23,80,.pointer (some ⟨T,kk,none⟩)),(25,81,.pointer (some ⟨bs,kk,none⟩))]) Jr).put J iG,λe=>Bool.noConfusion e,⟨e1,e2.trans (ao J).symm⟩,λ_=>⟨_,J⟩,n0,λe=>(MR (s0 e).2.1 hS).elim,p1,q1,f1,n1,s1,p2,q2,f2,n2,s2,h⟩)
 refine mE.cons (λS y w hS hd hI=>?_) ?_
 exact Dz
 refine mE.cons (λS y w hS hd hI=>?_) ?_
 obtain⟨c',m',b',o7,gV,jk,lp,lq,ls,hK,p0,q0,f0,n0,s0,p1,q1,f1,n1,s1,p2,q2,f2,n2,s2,h⟩:=hI;refine(Kn.mk (ρ:=y) (l:=[(67,_)]) ⟨hK.nN 9 J (hd 9 J) J,trivial⟩).elim λU e1=>?_;exact L1
 refine mE.cons (λS y w hS hd hI=>?_) ?_
 obtain⟨c',m',b',o7,gV,jk,lp,lq,ls,hK,p0,q0,f0,n0,s0,p1,q1,f1,n1,s1,p2,q2,f2,n2,s2,h⟩:=hI;refine(Kn.mk (ρ:=y) (l:=[(68,_)]) ⟨hK.nN 10 J (hd 10 J) J,trivial⟩).elim λU e1=>?_;subst e1;have hu:=(n1 (adk s1 hS)).symm▸vR (v:=λk=>(gm k).v) E;exact Dy (run_load h J hu) J J ⟨dP.put J (dP.mix _ _ _),c',m',b',o7,gV,jk,lp,lq,ls,hK.put J iG,p0,q0,f0,n0,s0,p1,q1,f1,n1,λe=>⟨J,(s1 e).2⟩,p2,q2,f2,n2,s2,h⟩
 refine mE.cons (λS y w hS hd hI=>?_) ?_
 exact Dz
 refine mE.cons (λS y w hS hd hI=>?_) ?_
 obtain⟨c',m',b',o7,gV,jk,lp,lq,ls,hK,p0,q0,f0,n0,s0,p1,q1,f1,n1,s1,p2,q2,f2,n2,s2,h⟩:=hI;refine(Kn.mk (ρ:=y) (l:=[(70,_)]) ⟨hK.nN 12 J (hd 12 J) J,trivial⟩).elim λU e1=>?_;subst e1;exact Dy (ME (u:=λb=>cK b 1 1) (mH _) J) J J ⟨dP.put J (dP.mix _ _ _),c',m',b',o7,some w.heap.size,jk,lp,lq,ls,(hK.same (l':=[(0,58,af kk),(1,59,af kk),(2,60,af kk),(3,61,af kk),(4,62,.pointer (some ⟨R,kk,none⟩)),(5,63,(gc kk).v),(6,64,af cd),(7,65,.slice (aI o7) 1 1),(8,66,c'.v),(9,67,af kk),(10,68,.pointer (some ⟨T,kk,none⟩)),(11,69,(gm kk).v),(12,70,af (nk- (codeF kk cd).1)),(13,71,.slice (aI (some w.heap.size)) 1 1),(14,72,m'.v),(15,73,af kk),(16,74,.pointer (some ⟨bs,kk,none⟩)),(17,75,(gb kk).v),(18,76,af (codeF kk cd).2),(19,77,.slice (aI jk) 1 1),(20,78,b'.v),(21,79,.pointer (some ⟨R,kk,none⟩)),(23,80,.pointer (some ⟨T,kk,none⟩)),(25,81,.pointer (some ⟨bs,kk,none⟩))]) Jr).put J iG,p0,q0,f0,n0,s0,p1,q1,λ_=>⟨_,J⟩,n1,s1,p2,q2,f2,n2,s2,h.newAt (i:=1) J⟩
 refine mE.cons (λS y w hS hd hI=>?_) ?_
 obtain⟨c',m',b',o7,gV,jk,lp,lq,ls,hK,p0,q0,f0,n0,s0,p1,q1,f1,n1,s1,p2,q2,f2,n2,s2,h⟩:=hI;refine(f1 (hd 13 J)).elim λb hb=>?_;have e8:=p1 hS;subst hb;subst e8;refine(Kn.mk (ρ:=y) (l:=[(69,_),(71,_)]) ⟨hK.nN 11 J (hd 11 J) J,hK.nN 13 J (hd 13 J) J,trivial⟩).elim λU e1=>?_;subst e1;exact ade (s:=gm kk) h 4 1 J J q1.1 (by have:=(PI kk E).2.1;rw[this];split<;>omega) J J J (λs' w1 e1 e2 h=>⟨dP.put J (dP.mix _ _ _),c',s',b',o7,some b,jk,lp,lq,ls,(hK.same (l':=[(0,58,af kk),(1,59,af kk),(2,60,af kk),(3,61,af kk),(4,62,.pointer (some ⟨R,kk,none⟩)),(5,63,(gc kk).v),(6,64,af cd),(7,65,.slice (aI o7) 1 1),(8,66,c'.v),(9,67,af kk),(10,68,.pointer (some ⟨T,kk,none⟩)),(11,69,(gm kk).v),(12,70,af (nk- (codeF kk cd).1)),(13,71,.slice (aI (some b)) 1 1),(14,72,s'.v),(15,73,af kk),(16,74,.pointer (some ⟨bs,kk,none⟩)),(17,75,(gb kk).v),(18,76,af (codeF kk cd).2),(19,77,.slice (aI jk) 1 1),(20,78,b'.v),(21,79,.pointer (some ⟨R,kk,none⟩)),(23,80,.pointer (some ⟨T,kk,none⟩)),(25,81,.pointer (some ⟨bs,kk,none⟩))]) Jr).put J iG,p0,q0,f0,n0,s0,λe=>Bool.noConfusion e,⟨e1,e2.trans (ao J).symm⟩,λ_=>⟨_,J⟩,n1,λe=>(MR (s1 e).2.1 hS).elim,p2,q2,f2,n2,s2,h⟩)
 refine mE.cons (λS y w hS hd hI=>?_) ?_
 exact Dz
 refine mE.cons (λS y w hS hd hI=>?_) ?_
 obtain⟨c',m',b',o7,gV,jk,lp,lq,ls,hK,p0,q0,f0,n0,s0,p1,q1,f1,n1,s1,p2,q2,f2,n2,s2,h⟩:=hI;refine(Kn.mk (ρ:=y) (l:=[(73,_)]) ⟨hK.nN 15 J (hd 15 J) J,trivial⟩).elim λU e1=>?_;exact L1
 refine mE.cons (λS y w hS hd hI=>?_) ?_
 obtain⟨c',m',b',o7,gV,jk,lp,lq,ls,hK,p0,q0,f0,n0,s0,p1,q1,f1,n1,s1,p2,q2,f2,n2,s2,h⟩:=hI;refine(Kn.mk (ρ:=y) (l:=[(74,_)]) ⟨hK.nN 16 J (hd 16 J) J,trivial⟩).elim λU e1=>?_;subst e1;have hu:=(n2 (adk s2 hS)).symm▸vR (v:=λk=>(gb k).v) E;exact Dy (run_load h J hu) J J ⟨dP.put J (dP.mix _ _ _),c',m',b',o7,gV,jk,lp,lq,ls,hK.put J iG,p0,q0,f0,n0,s0,p1,q1,f1,n1,s1,p2,q2,f2,n2,λe=>⟨J,(s2 e).2⟩,h⟩
 refine mE.cons (λS y w hS hd hI=>?_) ?_
 exact Dz
 refine mE.cons (λS y w hS hd hI=>?_) ?_
 obtain⟨c',m',b',o7,gV,jk,lp,lq,ls,hK,p0,q0,f0,n0,s0,p1,q1,f1,n1,s1,p2,q2,f2,n2,s2,h⟩:=hI;refine(Kn.mk (ρ:=y) (l:=[(76,_)]) ⟨hK.nN 18 J (hd 18 J) J,trivial⟩).elim λU e1=>?_;subst e1;exact Dy (ME (u:=λb=>cK b 1 1) (mH _) J) J J ⟨dP.put J (dP.mix _ _ _),c',m',b',o7,gV,some w.heap.size,lp,lq,ls,(hK.same (l':=[(0,58,af kk),(1,59,af kk),(2,60,af kk),(3,61,af kk),(4,62,.pointer (some ⟨R,kk,none⟩)),(5,63,(gc kk).v),(6,64,af cd),(7,65,.slice (aI o7) 1 1),(8,66,c'.v),(9,67,af kk),(10,68,.pointer (some ⟨T,kk,none⟩)),(11,69,(gm kk).v),(12,70,af (nk- (codeF kk cd).1)),(13,71,.slice (aI gV) 1 1),(14,72,m'.v),(15,73,af kk),(16,74,.pointer (some ⟨bs,kk,none⟩)),(17,75,(gb kk).v),(18,76,af (codeF kk cd).2),(19,77,.slice (aI (some w.heap.size)) 1 1),(20,78,b'.v),(21,79,.pointer (some ⟨R,kk,none⟩)),(23,80,.pointer (some ⟨T,kk,none⟩)),(25,81,.pointer (some ⟨bs,kk,none⟩))]) Jr).put J iG,p0,q0,f0,n0,s0,p1,q1,f1,n1,s1,p2,q2,λ_=>⟨_,J⟩,n2,s2,h.newAt (i:=2) J⟩
 refine mE.cons (λS y w hS hd hI=>?_) ?_
 obtain⟨c',m',b',o7,gV,jk,lp,lq,ls,hK,p0,q0,f0,n0,s0,p1,q1,f1,n1,s1,p2,q2,f2,n2,s2,h⟩:=hI;refine(f2 (hd 19 J)).elim λb hb=>?_;have e8:=p2 hS;subst hb;subst e8;refine(Kn.mk (ρ:=y) (l:=[(75,_),(77,_)]) ⟨hK.nN 17 J (hd 17 J) J,hK.nN 19 J (hd 19 J) J,trivial⟩).elim λU e1=>?_;subst e1;exact ade (s:=gb kk) h 5 2 J J q2.1 (by have:=(PI kk E).2.2.1;rw[this];split<;>omega) J J J (λs' w1 e1 e2 h=>⟨dP.put J (dP.mix _ _ _),c',m',s',o7,gV,some b,lp,lq,ls,(hK.same (l':=[(0,58,af kk),(1,59,af kk),(2,60,af kk),(3,61,af kk),(4,62,.pointer (some ⟨R,kk,none⟩)),(5,63,(gc kk).v),(6,64,af cd),(7,65,.slice (aI o7) 1 1),(8,66,c'.v),(9,67,af kk),(10,68,.pointer (some ⟨T,kk,none⟩)),(11,69,(gm kk).v),(12,70,af (nk- (codeF kk cd).1)),(13,71,.slice (aI gV) 1 1),(14,72,m'.v),(15,73,af kk),(16,74,.pointer (some ⟨bs,kk,none⟩)),(17,75,(gb kk).v),(18,76,af (codeF kk cd).2),(19,77,.slice (aI (some b)) 1 1),(20,78,s'.v),(21,79,.pointer (some ⟨R,kk,none⟩)),(23,80,.pointer (some ⟨T,kk,none⟩)),(25,81,.pointer (some ⟨bs,kk,none⟩))]) Jr).put J iG,p0,q0,f0,n0,s0,p1,q1,f1,n1,s1,λe=>Bool.noConfusion e,⟨e1,e2.trans (ao J).symm⟩,λ_=>⟨_,J⟩,n2,λe=>(MR (s2 e).2.1 hS).elim,h⟩)
 refine mE.cons (λS y w hS hd hI=>?_) ?_
 obtain⟨c',m',b',o7,gV,jk,lp,lq,ls,hK,p0,q0,f0,n0,s0,p1,q1,f1,n1,s1,p2,q2,f2,n2,s2,h⟩:=hI;refine(Kn.mk (ρ:=y) (l:=[(58,_)]) ⟨hK.nN 0 J (hd 0 J) J,trivial⟩).elim λU e1=>?_;exact L1
 refine mE.cons (λS y w hS hd hI=>?_) ?_
 obtain⟨c',m',b',o7,gV,jk,lp,lq,ls,hK,p0,q0,f0,n0,s0,p1,q1,f1,n1,s1,p2,q2,f2,n2,s2,h⟩:=hI;refine(Kn.mk (ρ:=y) (l:=[(66,_),(79,_)]) ⟨hK.nN 8 J (hd 8 J) J,hK.nN 21 J (hd 21 J) J,trivial⟩).elim λU e1=>?_;subst e1;have hu:=(n0 hS).symm▸vR (v:=λk=>(gc k).v) E;exact adl (run_store h J hu J J) J J ⟨dP.QJ (dP.mix _ _ _),c',m',b',o7,gV,jk,lp.set kk c'.v,lq,ls,hK.up J,p0,q0,f0,λe=>Bool.noConfusion e,λ_=>⟨hd 5 J,hd 8 J,by rw[n0 hS]⟩,p1,q1,f1,n1,s1,p2,q2,f2,n2,s2,h.store (i:=9) J _⟩
 refine mE.cons (λS y w hS hd hI=>?_) ?_
 obtain⟨c',m',b',o7,gV,jk,lp,lq,ls,hK,p0,q0,f0,n0,s0,p1,q1,f1,n1,s1,p2,q2,f2,n2,s2,h⟩:=hI;refine(Kn.mk (ρ:=y) (l:=[(59,_)]) ⟨hK.nN 1 J (hd 1 J) J,trivial⟩).elim λU e1=>?_;exact L1
 refine mE.cons (λS y w hS hd hI=>?_) ?_
 obtain⟨c',m',b',o7,gV,jk,lp,lq,ls,hK,p0,q0,f0,n0,s0,p1,q1,f1,n1,s1,p2,q2,f2,n2,s2,h⟩:=hI;refine(Kn.mk (ρ:=y) (l:=[(72,_),(80,_)]) ⟨hK.nN 14 J (hd 14 J) J,hK.nN 22 J (hd 23 J) J,trivial⟩).elim λU e1=>?_;subst e1;have hu:=(n1 hS).symm▸vR (v:=λk=>(gm k).v) E;exact adl (run_store h J hu J J) J J ⟨dP.QJ (dP.mix _ _ _),c',m',b',o7,gV,jk,lp,lq.set kk m'.v,ls,hK.up J,p0,q0,f0,n0,s0,p1,q1,f1,λe=>Bool.noConfusion e,λ_=>⟨hd 11 J,hd 14 J,by rw[n1 hS]⟩,p2,q2,f2,n2,s2,h.store (i:=8) J _⟩
 refine mE.cons (λS y w hS hd hI=>?_) ?_
 obtain⟨c',m',b',o7,gV,jk,lp,lq,ls,hK,p0,q0,f0,n0,s0,p1,q1,f1,n1,s1,p2,q2,f2,n2,s2,h⟩:=hI;refine(Kn.mk (ρ:=y) (l:=[(60,_)]) ⟨hK.nN 2 J (hd 2 J) J,trivial⟩).elim λU e1=>?_;exact L1
 refine mE.cons (λS y w hS hd hI=>?_) ?_
 obtain⟨c',m',b',o7,gV,jk,lp,lq,ls,hK,p0,q0,f0,n0,s0,p1,q1,f1,n1,s1,p2,q2,f2,n2,s2,h⟩:=hI;refine(Kn.mk (ρ:=y) (l:=[(78,_),(81,_)]) ⟨hK.nN 20 J (hd 20 J) J,hK.nN 23 J (hd 25 J) J,trivial⟩).elim λU e1=>?_;subst e1;have hu:=(n2 hS).symm▸vR (v:=λk=>(gb k).v) E;exact adl (run_store h J hu J J) J J ⟨dP.QJ (dP.mix _ _ _),c',m',b',o7,gV,jk,lp,lq,ls.set kk b'.v,hK.up J,p0,q0,f0,n0,s0,p1,q1,f1,n1,s1,p2,q2,f2,λe=>Bool.noConfusion e,λ_=>⟨hd 17 J,hd 20 J,by rw[n2 hS]⟩,h.store (i:=7) J _⟩
 exact trivial
 rintro S ρ w j7 ⟨c',m',b',o7,gV,jk,lp,lq,ls,hK,p0,q0,f0,n0,s0,p1,q1,f1,n1,s1,p2,q2,f2,n2,s2,h⟩;rw[ao (j7 8 an)]at q0;rw[ao (j7 14 an)]at q1;rw[ao (j7 20 an)]at q2;rw[(s0 (j7 22 an)).2.2,(s1 (j7 24 an)).2.2,(s2 (j7 26 an)).2.2,VU E,VU E,VU E]at h;replace h:=h.tail.tail.tail.aFB [_,_,_,_,_,_] E;rw[<-II,<-II,<-II,<-II,<-II,<-II]at h;have oO:=aFM gj q0.1 q1.1 q2.1 (kk:=kk);have anS:=aFN (kk:=kk) (nk:=nk) PI ⟨aFP,aFQ,aFR⟩ E (by rw[hqd];exact Hc) q0.2 q1.2 q2.2;refine cM (jj gc kk c') λhc ehc=>(cM (jj gm kk m') λhm ehm=>(cM (jj gb kk b') λhb ehb=>?_));rw[ehc,ehm,ehb]at h oO anS;refine g_ 4 ?_;exact⟨aO 19,(kk+1,hc,hm,hb),cQ,az,h,I,oO,anS⟩
 have ekk:kk=3:=I;have aFS: ∀k,k<=2->rH Q k (j+1) (gc k).l (gm k).l (gb k).l:=λk o=>(by have:=PI k o;rw[ao I]at this;exact this);refine g_ 4 ?_;have h0:=h.gh9;refine aJ ?_;replace h:=h.tail;(try dsimp only[dX]at h);exact⟨aO 18,(j+1,gc,gm,gb),cQ,az,h,I,gj,aFS⟩
 have ej:j=W Q:=I;rw[ej]at wY;have vh:=aFH h;clear h;refine vh.elim λG vh=>?_;have h:=vh.1.ghost (C (ar u8 ([]++[])) 5);replace h:=h.zz [2,2] 0;have V0:=vh.2.2.2.2;have hmp:=vh.2.2.2.1;have hmq:=vh.2.2.1;have CP:=vh.2.1;have FN: ∀k,k<=2-> ∀i,i<W Q->pP (aa Q i default) k<=400000000:=λk o i hi=>(VZ i hi k o).2;have aFT:=λk (o:k<=2)=>(wY k o).sm o (FN k o);have EE:=λk (o:k<=2) i (hi:i<W Q)=>(wY k o).get o (FN k o) hi;refine g_ 15 ?_;refine cw (σ:=Nat×Nat×List aK×(Nat->Value)×(Nat->Tb)×(Nat->List UInt8)×(Nat->Nat)×Option Nat×List UInt8×Nat) [(15,19),(84,106)] (λ⟨kk,eI,Gb,p,ts,Bs,md,Z,Sh,ch⟩ ρ w=>Kn ρ [(84,af kk),(15,af (tB md kk)),(16,.slice (aI Z) (W (jt Bs kk)) ch)]/\H r w ((ah wb (bj (W3 x p)) 49)::(some x.cb,C [.slice V nn nc,af eI] 38)::EB Z (jt Bs kk) Sh::(Gb++L))/\(kk<=3)/\(eI<=at_+262*kk)/\(Sub (G++L) (Gb++L))/\(BB Z (jt Bs kk) Sh ch)/\(IJ (Gb++L) x tO (λk=>(fc k).l) kk p ts Bs md)) (λ⟨kk,eI,Gb,p,ts,Bs,md,Z,Sh,ch⟩=>3-kk) (0,at_,G,PK x,λ_=>qu 0,λ_=> [],λ_=>0,none,[],0) ⟨az,h,I,I,aP,⟨J,λ_=>rfl⟩,IJ.zero⟩ ?_;rintro⟨kk,eI,Gb,p,ts,Bs,md,Z,Sh,ch⟩ ρ w ⟨⟨LP,rfl⟩,h,dU,Ab,fP,LH,yG⟩;refine g_ 5 ?_;refine au J ?_ ?_<;>intro E0
 have E:kk<=2:=I;have jV:=(wY kk E).1;have aFU:=vR (v:=λk=>(fc k).v) E;have V1: ∀k,k<kk->md k<=3:=λk o=>((yG k I).1 o).2.2.2.2;have Rp:=adg (Bs:=Bs) (k:=kk) λk o=>ac2 ((yG k I).1 o).2.2.2.1 I;have V2:=adf I V1;refine gg (fP _ hmp) λibp aFV=>?_;refine g_ 14 ?_;refine aX h J aFU (eS J J J J (aH (aFa (S:=(fc kk).l) (gD:=tO kk) h (hN.sub (λe he=>aA (fM _ he))) I E (NS.sl (c_ kk E).1 (aA (fP _ (V0 kk E).1))) (by rw[jV];exact FR) (by rw[jV];omega) (aFT kk E) (by rw[VX E,(yG kk E).2 (aW _)];exact(IL kk E).1.sub (λe he=>aA (fM _ he))) (IL kk E).2) ?_));rintro e w1 ⟨jG,mode,v,B,Gn,t,p3,rfl,uf,hv,wP,hTA,hTT,lK,JS,h⟩;rw[aFD E]at h;replace h:=h.aFI;rw[<-bV Gn Gb L]at h;have hs5:Sub (Gb++L) ((Gn++Gb)++L):=λz hz=>(by rw[bV];exact fM _ hz);have hs6:Sub (G++L) ((Gn++Gb)++L):=λz hz=>hs5 _ (fP _ hz);have aFW:=yG.step hs5 (by rw[bV];exact hTA.IK) hTT lK JS wP;have HH:=ac2 JS E;have NJ:=aFF wP E;have aFX:=aFE E V1 wP;refine g_ 13 ?_;refine ak (eB J J dQ (aM NJ an)) ?_;refine ak (cG (fq J J (aM V2 an) (aM NJ an)) aFX) ?_;refine g_ 5 ?_;refine mC (X:=jt Bs kk) (Y:=B) (F:=Gn++(EB Z (jt Bs kk) Sh::(Gb++L))) h 2 J J J LH hv (by rw[bV];exact aFJ J) I J ?_;intro w oh5 ch5 Sh5 h anT;dsimp only[bJ]at h;rw[<-anP (Bs:=Bs) (k:=kk) (B:=B)]at h anT;refine g_ 6 ?_;exact⟨aO 28,(kk+1,jG,Gn++Gb,jj p kk p3,jj ts kk t,jj Bs kk B,jj md kk mode,oh5,Sh5,ch5),cQ,Kn.mk ⟨J,J,(gS J (by rw[anP])),trivial⟩,h,I,I,hs6,anT,aFW⟩
 have sw: ∀k,k<=2->_:=λk o=>(yG k o).1 I;have aFY:kk=3:=I;refine g_ 3 ?_;refine ak (Jp aqM) (eN h J ?_);intro bu w h;refine cI ?_;intro w h;refine g_ 7 ?_;refine cw (σ:=Nat×(Nat->NS)×List aK) [(21,23),(108,145)] (λ⟨K,d,O⟩ ρ w=>Kn ρ [(108,af K)]/\H r w ((ah bu (V3 (λk=>(d k).v)) 112)::(ah wb (bj (W3 x p)) 49)::(some x.cb,C [.slice V nn nc,af eI] 38)::EB Z (jt Bs kk) Sh::(O++L))/\(K<=3)/\(Sub (Gb++L) (O++L))/\(VY (O++L) ts (λk=>(fc k).l) (W Q) K d)) (λ⟨K,d,O⟩=>3-K) (0,λ_=>NS.nil,Gb) ⟨az,h,I,aP,(λ_ _ hh=>absurd hh (ma _))⟩ ?_;rintro⟨K,d,O⟩ ρ w ⟨⟨LQ,rfl⟩,h,E,jC,du⟩;refine g_ 5 ?_;refine au J ?_ ?_<;>intro axp
 have A:K<=2:=I;refine B8 (sw K A).1 λtb cb qt=>?_;have nJ:(bj (W3 x p))[0+5+K]? =some (bL tb):=(by rw[show 0+5+K=5+K by omega,IE A,VX A,qt.1]);have sD:=(sw K A).2.1.ok;have lL:=sD.bd;have Vw:=vR (v:=λk=>(fc k).v) A;have aFZ:iQ (O++L) (.slice (aI (fc K).ob) (W (fc K).l) (fc K).c) ((fc K).l.map af):=NS.sl (c_ K A).1 (jC _ (fP _ (V0 K A).1));have anU:W (fc K).l=W Q:=(wY K A).1;refine aZ (aFZ.fp (by rw[cB,anU];exact FR)) (λaLy DA=>aZ DA (λaLz DA=>aZ DA (λaLA DA=>aZ DA (λaLB DA=>?_))));refine gg DA.2.1 λaLC aLD=>(gg (jC _ (fP _ hmp)) λibp aFV=>(gg (jC _ qt.2.1) λitb anV=>?_));refine g_ 13 ?_;refine uK h J J J I I I J ?_;intro bm w h;rw[Vo]at h;refine g_ 1 ?_;refine dt (cK bm (W Q) (W Q)) (vR A) ?_;intro w h;rw[VU A]at h;refine g_ 9 ?_;refine ak (Dl (show(((W Q:Nat):Int) -1)=((W Q:Nat):Int) -1 from J) (pU (v:=1) J J I I)) ?_;refine g_ 3 ?_;refine cw (σ:=Nat×List Nat) [(22,23),(119,144)] (λ⟨i,st⟩ ρ w=>Kn ρ [(23,.int .i64 (((i:Nat):Int) -1)),(22,.int .i64 (yK (W Q) i st))]/\H r w ((ah bm (ar af st) 3)::(ah bu (V3 (jj (λk=>(d k).v) K (cK bm (W Q) (W Q)))) 112)::(ah wb (bj (W3 x p)) 49)::(some x.cb,C [.slice V nn nc,af eI] 38)::EB Z (jt Bs kk) Sh::(O++L))/\(i<=W Q)/\(BE (ts K) (fc K).l (W Q) i st)) (λ⟨i,st⟩=>i) (W Q,aT (W Q) 0) ⟨(Kn.mk ⟨J,(int_eq (show(-1:Int)=yK _ _ _ by unfold yK;rw[aj (vT _)])),trivial⟩),h,(aW _),dS,λk h1 h2=>absurd h2 I⟩ ?_;rintro⟨i,st⟩ ρ w ⟨⟨PG,rfl⟩,h,hi,qL⟩;refine g_ 4 ?_;refine ak (Am (v:=0) J J) (aJ (au J ?_ ?_))<;>intro aFp
 have s_:0<i:=I;have lj:=aFG qL sD.len;have aLE:=sD.len;refine g_ 4 ?_;refine cm h [0,4,8,12,16,32,36,44,56,21,24,29,41,48,53,63,64] ?_;intro w h;refine aC 9 ?_;refine aQ J h J nJ (aen J J (yZ J (λw o=>jx [_,_] (h.keeps o) J ⟨J,J,trivial⟩ J) J (aQ J h J Vw (aD J (da (a:=i-1) (h1:=⟨I⟩) J J DA.1 I) ?_))));refine aQ J h J (om DA.2.2 I) (Ar J (v0:= .agg #[cK cb (W (ts K).cells) (W (ts K).cells),af (ts K).log]) (v1:=af (aa (fc K).l (i-1) 0)) J J J J ((acn h (aA (aA (aA (aA (aA (jC _ qt.2.2)))))) (aM lL.1 an) lL.2 I).mono ?_));rintro e w1 ⟨kz,rfl,nD,h⟩;refine aZ (amL nD ((sw K A).2.1.aEV _ ((sw K A).2.2.1 _ (Vv (i:=i-1) (by rw[anU];omega))) _ lj.2)) (λm hm=>?_);refine⟨af m,(by rw[hm.1]),?_⟩;have Vx:=qL.step s_ hi hm.2.1 hm.2.2.1 hm.2.2.2.1;refine fG J (cO ?_);refine g_ 3 ?_;refine aX h J ((vR A).trans (cD some tA)) (dg (dg (ak (j8 (a:=i-1) (h1:=⟨I⟩) J J J I) ?_)));refine ir (v:=af m) h J (kq (by rw[qL.1];omega)) J J J ?_;intro w h;dsimp only[bJ]at h;rw[Lz]at h;refine g_ 3 ?_;exact ak (pU (v:=1) J J I I) (ee (aJ ⟨aO 29,(i-1,st.set (i-1) m),cQ,Kn.mk ⟨(int_eq I),(int_eq Vx.2.symm),trivial⟩,h,I,Vx.1⟩))
 have ei:i=0:=I;rw[ei]at qL;replace h:=h.zz [4,4,4,4] 0;have eV:jj (λk=>(d k).v) K (Value.slice (some ⟨bm,0,none⟩) (W Q) (W Q))=λk=>(jj d K ⟨some bm,st,W Q,[]⟩ k).v:=(by rw[II (g:=NS.v)];show _=jj _ _ (Value.slice (some ⟨bm,0,none⟩) (W st) (W Q));rw[qL.1]);rw[eV]at h;have j3:=du.step (b:=bm) qL;refine g_ 5 ?_;exact⟨aO 19,(K+1,jj d K ⟨some bm,st,W Q,[]⟩,(ah bm (ar af st) 3)::O),cQ,az,h,I,(λz hz=>aA (jC _ hz)),j3⟩
 have Ae: ∀k,k<=2->_:=λk o=>du k o I;have adm: ∀k,k<=2->(ts k).log<=9:=λk o=>(sw k o).2.1.ok.log;replace h:=h.ghost (C (ar bl []++[]) 4);refine g_ 3 ?_;refine ak (Jp XE) (tL h J J J ?_);intro bb w h;refine g_ 8 ?_;refine cw (σ:=Nat×Option Nat×Nat×List Value) [(25,25),(148,167)] (λ⟨k3,ob,c,sp⟩ ρ w=>Kn ρ [(148,af k3)]/\H r w ((ah bb [.slice (aI ob) (W (BF ts (λk=>(d k).l) (k3))) c] 120)::(ob,C (ar bl (BF ts (λk=>(d k).l) (k3))++sp) 4)::(ah bu (V3 (λk=>(d k).v)) 112)::(ah wb (bj (W3 x p)) 49)::(some x.cb,C [.slice V nn nc,af eI] 38)::EB Z (jt Bs kk) Sh::(O++L))/\(k3<=3)/\(b8 ob (W (BF ts (λk=>(d k).l) (k3))) c (ar bl (BF ts (λk=>(d k).l) (k3))) sp 1)) (λ⟨k3,ob,c,sp⟩=>3-k3) (0,none,0,[]) ⟨az,h,I,J,J,aW _,λ_=>rfl⟩ ?_;rintro⟨k3,ob,c,sp⟩ ρ w ⟨⟨ac4,rfl⟩,h,mP,o⟩;refine g_ 5 ?_;refine au J ?_ ?_<;>intro aLF
 have A:k3<=2:=I;refine B8 (sw k3 A).1 λtb cb qt=>?_;have nJ:(bj (W3 x p))[0+5+k3]? =some (bL tb):=(by rw[show 0+5+k3=5+k3 by omega,IE A,VX A,qt.1]);have sD:=(sw k3 A).2.1.ok;have lL:=sD.bd;have V5:=vR (v:=λk=>(d k).v) A;have adn:iQ (O++L) (.slice (aI (d k3).ob) (W (d k3).l) (d k3).c) ((d k3).l.map af):=NS.sl (Ae k3 A).2.1 (Ae k3 A).1;have ado:W (d k3).l=W Q:=(Ae k3 A).2.2.1;refine aZ (adn.fp (by rw[cB,ado];exact FR)) (λaF0 M=>aZ M (λaF1 M=>aZ M (λaF2 M=>aZ M (λaF3 M=>?_))));refine gg M.2.1 λaF4 aF5=>(gg (jC _ qt.2.1) λitb anV=>?_);have xX:=((Ae k3 A).2.2.2 0 (aW _) FR).1;have Dt:=adh (ts:=ts) (st:=(λk=>(d k).l)) adm (k:=k3) I;have dC:=adm k3 A;refine g_ 8 ?_;refine cm h [0,4,8,24,28,32,36,40,13,16,21,45,48,52,57,63] ?_;intro w h;refine aC 8 ?_;refine aQ J h J V5 (aD J (da (a:=0) (h1:=av.lit _) J J M.1 I) (aQ J h J (om M.2.2 I) (aQ J h J nJ ?_)));refine aC 3 ?_;refine Ar J J J J J (aH (Iv h o I I I) ?_);rintro e w1 ⟨oc,c5,qG,rfl,ue,h⟩;refine cO ?_;refine g_ 4 ?_;exact⟨aO 21,(k3+1,oc,c5,qG),cQ,az,h,I,ue⟩
 have ek3:k3=3:=I;rw[ek3]at h o;have Dt:=adh (ts:=ts) (st:=(λk=>(d k).l)) adm (k:=3) (aW _);refine g_ 9 ?_;refine cw (σ:=Nat×Option Nat×Nat×List Value) [(26,26),(28,28),(30,31),(170,237)] (λ⟨i,ob,c,sp⟩ ρ w=>Kn ρ [(170,af i)]/\H r w ((ah bb [.slice (aI ob) (W (hJ (λk=>(fm k).l) (λk=>(fb k).l) ts (λk=>(d k).l) (i))) c] 120)::(ob,C (ar bl (hJ (λk=>(fm k).l) (λk=>(fb k).l) ts (λk=>(d k).l) (i))++sp) 4)::(ah bu (V3 (λk=>(d k).v)) 112)::(ah wb (bj (W3 x p)) 49)::(some x.cb,C [.slice V nn nc,af eI] 38)::EB Z (jt Bs kk) Sh::(O++L))/\(i<W Q)/\(b8 ob (W (hJ (λk=>(fm k).l) (λk=>(fb k).l) ts (λk=>(d k).l) (i))) c (ar bl (hJ (λk=>(fm k).l) (λk=>(fb k).l) ts (λk=>(d k).l) (i))) sp 1)/\(W (hJ (λk=>(fm k).l) (λk=>(fb k).l) ts (λk=>(d k).l) (i))<=27+120*i)) (λ⟨i,ob,c,sp⟩=>W Q-i) (0,ob,c,sp) ⟨az,h,I,o,Dt⟩ ?_;rintro⟨i,ob,c,sp⟩ ρ w ⟨⟨aF6,rfl⟩,h,hi,o,jL⟩;refine g_ 5 ?_;refine au J ?_ ?_<;>intro ajb
 have qx:=λz=>anQ (ml:=(λk=>(fm k).l)) (bs:=(λk=>(fb k).l)) (i:=i) (λk o=>(EE k o i hi).2.2) (j:=z);have anW:=λz=>anR (ts:=ts) (st:=(λk=>(d k).l)) (i:=i) (λk o=>((sw k o).2.1.ok.bd.2 _ ((Ae k o).2.2.2 i (cj _) hi).1).1) (j:=z);have aLG:=qx 3;have aLH:=anW 3;refine g_ 11 ?_;refine B_ J J J (lX _ _ _) h ?_;intro be w h;refine g_ 1 ?_;replace h:=h.zz [6,6,6,6,4,6,6] 0;refine g_ 3 ?_;refine cw (σ:=Nat×Option Nat×Nat×List Value) [(28,28),(175,193)] (λ⟨j,cf,c1,cg⟩ ρ w=>Kn ρ [(175,af j)]/\H r w ((ah bb [.slice (aI cf) (W (hJ (λk=>(fm k).l) (λk=>(fb k).l) ts (λk=>(d k).l) (i)++jR (λk=>(fm k).l) (λk=>(fb k).l) (i) (j))) c1] 120)::(cf,C (ar bl (hJ (λk=>(fm k).l) (λk=>(fb k).l) ts (λk=>(d k).l) (i)++jR (λk=>(fm k).l) (λk=>(fb k).l) (i) (j))++cg) 4)::(ah be [af 1,af 2,af 0] 3)::(ah bu (V3 (λk=>(d k).v)) 112)::(ah wb (bj (W3 x p)) 49)::(some x.cb,C [.slice V nn nc,af eI] 38)::EB Z (jt Bs kk) Sh::(O++L))/\(j<=3)/\(b8 cf (W (hJ (λk=>(fm k).l) (λk=>(fb k).l) ts (λk=>(d k).l) (i)++jR (λk=>(fm k).l) (λk=>(fb k).l) (i) (j))) c1 (ar bl (hJ (λk=>(fm k).l) (λk=>(fb k).l) ts (λk=>(d k).l) (i)++jR (λk=>(fm k).l) (λk=>(fb k).l) (i) (j))) cg 1)) (λ⟨j,cf,c1,cg⟩=>3-j) (0,ob,c,sp) ⟨az,(by show H r _ ((ah bb [.slice (aI ob) (W (hJ (λk=>(fm k).l) (λk=>(fb k).l) ts (λk=>(d k).l) (i)++[])) c] 120)::(ob,C (ar bl (hJ (λk=>(fm k).l) (λk=>(fb k).l) ts (λk=>(d k).l) (i)++[])++sp) 4)::(ah be [af 1,af 2,af 0] 3)::(ah bu (V3 (λk=>(d k).v)) 112)::(ah wb (bj (W3 x p)) 49)::(some x.cb,C [.slice V nn nc,af eI] 38)::EB Z (jt Bs kk) Sh::(O++L));rw[dN];exact h),I,(by show b8 _ (W (_++[])) _ (ar bl (_++[])) _ 1;rw[dN];exact o)⟩ ?_;rintro⟨j,cf,c1,cg⟩ ρ w ⟨⟨aF7,rfl⟩,h,hj,fi⟩;refine g_ 5 ?_;refine au J ?_ ?_<;>intro aLI
 refine cM ([1,2,0].getD j 0) λD IM=>?_;have A:D<=2:=(by rw[<-IM];rcases(I:j=0\/j=1\/j=2)with rfl|rfl|rfl<;>decide);have PJ:=m7 (a:=1) (b:=2) (c:=0) (f:=j) I;rw[IM]at PJ;have Pr:=vR (v:=λk=>(fm k).v) A;have aF8:=vR (v:=λk=>(fb k).v) A;have aF9:iQ (O++L) (.slice (aI (fm D).ob) (W (fm D).l) (fm D).c) ((fm D).l.map af):=NS.sl (c_ D A).2.1 (jC _ (fP _ (V0 D A).2.1));have aF_:W (fm D).l=W Q:=(wY D A).2.1;refine aZ (aF9.fp (by rw[cB,aF_];exact FR)) (λaLJ DC=>aZ DC (λaLK DC=>aZ DC (λaLL DC=>aZ DC (λaLM DC=>?_))));refine gg DC.2.1 λaLN aLO=>?_;have aF':iQ (O++L) (.slice (aI (fb D).ob) (W (fb D).l) (fb D).c) ((fb D).l.map af):=NS.sl (c_ D A).2.2 (jC _ (fP _ (V0 D A).2.2));have aGa:W (fb D).l=W Q:=(wY D A).2.2.1;refine aZ (aF'.fp (by rw[cB,aGa];exact FR)) (λaLP DG=>aZ DG (λaLQ DG=>aZ DG (λaLR DG=>aZ DG (λaLS DG=>?_))));refine gg DG.2.1 λaLT aLU=>(gg (jC _ (fP _ hmq)) λibq aLV=>(gg (jC _ (fP _ CP)) λibs aLW=>?_));have hgx:=EE D A i hi;have aLX:=qx j;have mA:(hJ (λk=>(fm k).l) (λk=>(fb k).l) ts (λk=>(d k).l) (i)++jR (λk=>(fm k).l) (λk=>(fb k).l) (i) (j))++cT (aa (fm D).l i 0) (aa (fb D).l i 0)=hJ (λk=>(fm k).l) (λk=>(fb k).l) ts (λk=>(d k).l) (i)++jR (λk=>(fm k).l) (λk=>(fb k).l) (i) (j+1):=(by rw[bV];subst IM;rfl);refine g_ 6 ?_;refine aX h J PJ (ee (aJ (cm h [0,4,8,16,28,32,40,13,20,25,37,44,49,55] ?_)));intro w h;refine aC 7 ?_;refine aQ J h J Pr (aD J (da J J DC.1 I) (aQ J h J (om DC.2.2 I) (aQ J h J aF8 (aD J (da J J DG.1 I) (aQ J h J (om DG.2.2 I) (Ar J J J J J (aH (Iv h fi I I (by rw[aF];omega)) ?_)))))));rintro e w1 ⟨oc,c5,qG,rfl,ue,h⟩;rw[mA]at h ue;refine cO ?_;refine g_ 2 ?_;replace h:=h.zz [6,6,6,6,6,6,6] 0;exact dg (aJ ⟨aO 20,(j+1,oc,c5,qG),cQ,az,h,I,ue⟩)
 have ej3:j=3:=I;rw[ej3]at h fi;refine g_ 10 ?_;refine au J ?_ ?_<;>intro aLY
 . have V1: ∀k,k<kk->md k<=3:=λk o=>((yG k I).1 o).2.2.2.2;have V2:=adf I V1;have Rp:=adg (Bs:=Bs) (k:=kk) λk o=>ac2 ((yG k I).1 o).2.2.2.1 I;have aLZ:W (hJ (λk=>(fm k).l) (λk=>(fb k).l) ts (λk=>(d k).l) (i)++jR (λk=>(fm k).l) (λk=>(fb k).l) (i) (3))<=200+120*i:=(by rw[aF];omega);have po:=Dm (hJ (λk=>(fm k).l) (λk=>(fb k).l) ts (λk=>(d k).l) (i)++jR (λk=>(fm k).l) (λk=>(fb k).l) (i) (3));refine g_ 4 ?_;refine ak (eZ J (aM V2 an)) ?_;refine mf J (ly _) h ?_;intro bh w h;refine dg ?_;have hz:C [Value.int .u8 ((tB md kk:Nat):Int)] 5=C (ar u8 ([bS (tB md kk)]++[])) 5:=(by show C [_] 5=C [u8 (bS (tB md kk))] 5;rw[yC,iV (WQ V2 an)]);rw[hz]at h;refine mC (ob:=some bh) (c:=1) (X:=[bS (tB md kk)]) (S:=[]) (Y:=jt Bs kk) (F:=[EB Z (jt Bs kk) Sh]) h 0 J J J ⟨J,λe=>by cases e⟩ LH.sl xI (by simp only[dL,eW];omega) J ?_;intro w FF c6 S6 h LD;dsimp only[bJ]at h;have hl6:W ([bS (tB md kk)]++jt Bs kk)<=4000:=(by rw[aF];simp only[dL,eW];omega);refine dg ?_;replace h:=h.zz [7,7,7,7,7,5,7,7] 0;refine d' J J (aH (acj h fi I) ?_);rintro e w1 ⟨bD,rfl,h⟩;refine mC (ob:=FF) (c:=c6) (X:=[bS (tB md kk)]++jt Bs kk) (S:=S6) (Y:=kX (hJ (λk=>(fm k).l) (λk=>(fb k).l) ts (λk=>(d k).l) (i)++jR (λk=>(fm k).l) (λk=>(fb k).l) (i) (3))) (F:=[EB (some bD) (kX (hJ (λk=>(fm k).l) (λk=>(fb k).l) ts (λk=>(d k).l) (i)++jR (λk=>(fm k).l) (λk=>(fb k).l) (i) (3))) []]) h 1 J J J LD (BB.sl ⟨by rw[dN],λe=>by cases e⟩) (λe he=>by rcases jT.1 he with rfl;exact fQ ..) I J ?_;intro w ob7 c7 S7 h hB7;dsimp only[bJ]at h;refine g_ 3 ?_;replace h:=h.zz [5,5,3,6,6,6,6] 4;have ei:W Q-1=i:=I;refine⟨eI,O,p,ts,ob7,_,S7,c7,J,hB7,I,⟨md,Bs,(λk=>(fc k).l),(λk=>(fm k).l),(λk=>(fb k).l),(λk=>(d k).l),λk o=>⟨wY k o,(sw k o).2.2.2.1,(sw k o).2.2.2.2,(Ae k o).2.2⟩,?_⟩,λk o=>⟨(sw k o).1.sub jC,(sw k o).2.1⟩,?_,h⟩
   rw[ei,<-aFY];rfl
   rw[aF];omega
 replace h:=h.zz [2] 1;refine g_ 3 ?_;refine B_ J J J (lX _ _ _) h ?_;intro bf w h;refine g_ 1 ?_;replace h:=h.zz [6,6,6,6,4,6,6] 0;refine g_ 3 ?_;refine cw (σ:=Nat×Option Nat×Nat×List Value) [(30,31),(201,236)] (λ⟨P,cP,c2,cZ⟩ ρ w=>Kn ρ [(201,af P)]/\H r w ((ah bb [.slice (aI cP) (W (hJ (λk=>(fm k).l) (λk=>(fb k).l) ts (λk=>(d k).l) (i)++jR (λk=>(fm k).l) (λk=>(fb k).l) (i) (3)++sH ts (λk=>(d k).l) (i) (P))) c2] 120)::(cP,C (ar bl (hJ (λk=>(fm k).l) (λk=>(fb k).l) ts (λk=>(d k).l) (i)++jR (λk=>(fm k).l) (λk=>(fb k).l) (i) (3)++sH ts (λk=>(d k).l) (i) (P))++cZ) 4)::(ah bf [af 0,af 2,af 1] 3)::(ah bu (V3 (λk=>(d k).v)) 112)::(ah wb (bj (W3 x p)) 49)::(some x.cb,C [.slice V nn nc,af eI] 38)::EB Z (jt Bs kk) Sh::(O++L))/\(P<=3)/\(b8 cP (W (hJ (λk=>(fm k).l) (λk=>(fb k).l) ts (λk=>(d k).l) (i)++jR (λk=>(fm k).l) (λk=>(fb k).l) (i) (3)++sH ts (λk=>(d k).l) (i) (P))) c2 (ar bl (hJ (λk=>(fm k).l) (λk=>(fb k).l) ts (λk=>(d k).l) (i)++jR (λk=>(fm k).l) (λk=>(fb k).l) (i) (3)++sH ts (λk=>(d k).l) (i) (P))) cZ 1)) (λ⟨P,cP,c2,cZ⟩=>3-P) (0,cf,c1,cg) ⟨az,(by show H r _ ((ah bb [.slice (aI cf) (W (hJ (λk=>(fm k).l) (λk=>(fb k).l) ts (λk=>(d k).l) (i)++jR (λk=>(fm k).l) (λk=>(fb k).l) (i) (3)++[])) c1] 120)::(cf,C (ar bl (hJ (λk=>(fm k).l) (λk=>(fb k).l) ts (λk=>(d k).l) (i)++jR (λk=>(fm k).l) (λk=>(fb k).l) (i) (3)++[])++cg) 4)::(ah bf [af 0,af 2,af 1] 3)::(ah bu (V3 (λk=>(d k).v)) 112)::(ah wb (bj (W3 x p)) 49)::(some x.cb,C [.slice V nn nc,af eI] 38)::EB Z (jt Bs kk) Sh::(O++L));rw[dN];exact h),I,(by show b8 _ (W (_++[])) _ (ar bl (_++[])) _ 1;rw[dN];exact fi)⟩ ?_;rintro⟨P,cP,c2,cZ⟩ ρ w ⟨⟨aGb,rfl⟩,h,NR,adp⟩;refine g_ 5 ?_;refine au J ?_ ?_<;>intro aL0
 refine cM ([0,2,1].getD P 0) λD IM=>?_;have A:D<=2:=(by rw[<-IM];rcases(I:P=0\/P=1\/P=2)with rfl|rfl|rfl<;>decide);have PJ:=m7 (a:=0) (b:=2) (c:=1) (f:=P) I;rw[IM]at PJ;refine B8 (sw D A).1 λtb cb qt=>?_;have nJ:(bj (W3 x p))[0+5+D]? =some (bL tb):=(by rw[show 0+5+D=5+D by omega,IE A,VX A,qt.1]);have sD:=(sw D A).2.1.ok;have lL:=sD.bd;have V5:=vR (v:=λk=>(d k).v) A;have adn:iQ (O++L) (.slice (aI (d D).ob) (W (d D).l) (d D).c) ((d D).l.map af):=NS.sl (Ae D A).2.1 (Ae D A).1;have ado:W (d D).l=W Q:=(Ae D A).2.2.1;refine aZ (adn.fp (by rw[cB,ado];exact FR)) (λaF0 M=>aZ M (λaF1 M=>aZ M (λaF2 M=>aZ M (λaF3 M=>?_))));refine gg M.2.1 λaF4 aF5=>(gg (jC _ qt.2.1) λitb anV=>(gg (jC _ qt.2.2) λicb aL1=>?_));have pC:i+1<W Q:=I;have uI:=(Ae D A).2.2.2 i (cj _) hi;have hsn:=uI.2.2 pC;have fe:=((Ae D A).2.2.2 (i+1) (cj _) pC).1;have aL2:=lL.2 _ uI.1;have aL3:=anW P;have mA:(hJ (λk=>(fm k).l) (λk=>(fb k).l) ts (λk=>(d k).l) (i)++jR (λk=>(fm k).l) (λk=>(fb k).l) (i) (3)++sH ts (λk=>(d k).l) (i) (P))++cT (aa (d D).l (i+1) 0- ((ts D).cells.getD (aa (d D).l i 0) default).base) ((ts D).cells.getD (aa (d D).l i 0) default).bits=hJ (λk=>(fm k).l) (λk=>(fb k).l) ts (λk=>(d k).l) (i)++jR (λk=>(fm k).l) (λk=>(fb k).l) (i) (3)++sH ts (λk=>(d k).l) (i) (P+1):=(by rw[bV (hJ (λk=>(fm k).l) (λk=>(fb k).l) ts (λk=>(d k).l) (i)++jR (λk=>(fm k).l) (λk=>(fb k).l) (i) (3))];subst IM;rfl);refine g_ 6 ?_;refine aX h J PJ ?_;refine g_ 3 ?_;refine cm h [0,4,8,12,16,36,40,48,21,24,28,33,45,52,57,60,65,70,75] ?_;intro w h;refine aC 8 ?_;refine aQ J h J nJ ?_;refine aC 3 ?_;refine aQ J h J V5 (aD J (da J J M.1 I) (aQ J h J (om M.2.2 I) (aD J (lu J J J uI.1) (yZ J (λw o=>jx (wy ((ts D).cells.getD (aa (d D).l i 0) default)) (h.keeps o) J (Re uI.1) J) J (aey J h J ?_)))));intro bg w h;refine MF J h J J J J (by first|decide|exact aW _|exact fS J| (simp;done)|omega) J ?_;intro w h;(try dsimp only[dm,bJ]at h);refine cO (cm h [0,4,8,16,20,32,44,13,24,29,37,40,49,55] ?_);intro w h;refine aC 7 ?_;refine aQ J h J V5 (aD J (da J J M.1 I) (aQ J h J (om M.2.2 I) ?_));refine aC 1 ?_;refine aD J (jm J J hsn.1 aG) ?_;refine aC 1 ?_;replace h:=h.zz [7,7,7,7,7,5,7,7] 0;refine Ar J J J J J (aH (Iv h adp I I (by rw[aF,aF];omega)) ?_);rintro e w1 ⟨oc,c5,qG,rfl,ue,h⟩;rw[mA]at h ue;replace h:=h.zz [2] 1;refine cO ?_;refine g_ 2 ?_;replace h:=h.zz [6,6,6,6,6,6,6] 0;exact dg (aJ ⟨aO 39,(P+1,oc,c5,qG),cQ,az,h,I,ue⟩)
 have ej4:P=3:=I;rw[ej4]at h adp;replace h:=h.zz [2] 1;have hk7:b8 cP (W (hJ (λk=>(fm k).l) (λk=>(fb k).l) ts (λk=>(d k).l) (i+1))) c2 (ar bl (hJ (λk=>(fm k).l) (λk=>(fb k).l) ts (λk=>(d k).l) (i+1))) cZ 1:=adp;have aGc:W (hJ (λk=>(fm k).l) (λk=>(fb k).l) ts (λk=>(d k).l) (i+1))<=27+120*(i+1):=(by show W (hJ (λk=>(fm k).l) (λk=>(fb k).l) ts (λk=>(d k).l) (i)++jR (λk=>(fm k).l) (λk=>(fb k).l) (i) (3)++sH ts (λk=>(d k).l) (i) (3))<=_;rw[aF,aF];omega);refine g_ 5 ?_;exact⟨aO 20,(i+1,cP,c2,cZ),cQ,az,h,I,hk7,aGc⟩
 exact absurd hi ajb
variable {T X:List UInt8}{A B a a0 b b0 c0 mb s bO:Nat}{q:Nat×Nat×Nat}{p:Nat->Value}{mo:Obj}{lo:Option (List Nat)}
def WU(x:Wr)(la:Option Addr)(ln lc:Nat)(p:Nat->Value)(a b c s:Nat):Wr:={x with la:=la,ln:=ln,lc:=lc,p0:=p 0,p1:=p 1,p2:=p 2,a:=a,b:=b,c:=c,seen:=s}
inductive sI(X:List UInt8)(bO A a0 b0 c0:Nat):Nat->List UInt8->List (Nat×Nat×Nat)->Nat->Nat->Nat->Nat->Prop
 |nil:sI X bO A a0 b0 c0 A [] [] 0 a0 b0 c0
 |lit {i run a b c:Nat} {T:List UInt8} {Q:List (Nat×Nat×Nat)}:sI X bO A a0 b0 c0 i T Q run a b c->sI X bO A a0 b0 c0 (i+1) (T++[aa X i 0]) Q (run+1) a b c
 |seq {i run a b c v n o b' c':Nat} {T:List UInt8} {Q:List (Nat×Nat×Nat)}:sI X bO A a0 b0 c0 i T Q run a b c->mY v (decide (run=0)) a b c=(o,b',c')->1<=v->v<=o+3->3<=n->n<=60000->1<=o->o<=i->o<=bO->
     (∀k,k<n->aa X (i+k) 0=aa X (i+k-o) 0)->sI X bO A a0 b0 c0 (i+n) T (Q++[(run,v,n)]) 0 o b' c'
def sI.bd{run:Nat}(h:sI X bO A a0 b0 c0 i T Q run a b c)(h1:1<=a0)(j:a0<=m)(hb:b0<=m)(k:c0<=m)(hm:i+3<=m):A<=i/\W T+3*W Q<=i-A/\run<=W T/\1<=a/\a<=m/\b<=m/\c<=m:=by
 induction h with
 |nil=>exact⟨aW _,by simp,cj _,h1,j,hb,k⟩
 | lit h d=>
   obtain⟨l,e2,p,f,e⟩:=d I
   refine⟨I,?_,?_,f,e⟩<;>(rw[aF];simp only[dL,eW];omega)
 | @seq i run a b c v n o b' c' T Q h q u w x y r z hw B d=>
   obtain⟨l,e2,p,f,e,s,t⟩:=d I
   have g:=agn (v:=v) (n:=decide (run=0)) e s t I
   rw[q]at g
   refine⟨I,?_,cj _,r,g⟩
   rw[aF];simp only[dL,eW];omega
def aGd(h:q.1<=m/\1<=q.2.1/\q.2.1<=m/\3<=q.2.2/\q.2.2<=m)(hm:m<=400000000): ∀k,k<=2->(codeF k 0).1<=pP q k/\pP q k<=400000000:=λk a=>by
 rcases(I:k=0\/k=1\/k=2)with rfl|rfl|rfl
 exact⟨cj _,aM h.1 hm⟩
 exact⟨h.2.1,aM h.2.2.1 hm⟩
 exact⟨h.2.2.2.1,aM h.2.2.2.2 hm⟩
def sI.each{run m0:Nat}(h:sI X bO A a0 b0 c0 i T Q run a b c)(h1:1<=a0)(g:a0<=m0)(hb:b0<=m0)(k:c0<=m0)(r:i+3<=m0)(hm:i+3<=m)(l:60000<=m): ∀j,j<W Q->(aa Q j default).1<=m/\1<=(aa Q j default).2.1/\(aa Q j default).2.1<=m/\3<=(aa Q j default).2.2/\(aa Q j default).2.2<=m:=by
 induction h with
 |nil=>exact λj d=>absurd d (ma _)
 |lit h f=>exact f I I
 | @seq i run a b c v n o b' c' T Q h s p t q u w x hw y f=>
   intro j d
   have z:=h.bd h1 g hb k I
   rw[aF]at d
   simp only[dL,eW]at d
   rcases dq j (W Q) with e|e
   . have:=f I I j e
     rw[bX,gP e,<-bX];exact this
   . have:aa (Q++[(run,v,n)]) j default=(run,v,n):=by
       rw[bX,l_ e,show j-W Q=0 by omega];rfl
     rw[this]
     exact⟨(I:run<=m),p,(I:v<=m),q,(I:n<=m)⟩
def PL(n:Nat)(hd:List UInt8):Prop:=(32512<=n/\hd=255::bQ (n-32512) 2)\/(n<128/\hd=[bS n])\/(n<32512/\hd=[bS (128+n/256),bS n])
def PL.len{hd:List UInt8}(h:PL n hd):W hd<=3:=by
 rcases h with⟨_,rfl⟩| ⟨_,rfl⟩| ⟨_,rfl⟩
 rw[dL,cY];decide
 exact fS J
 exact fS J
def adq(X:List UInt8)(bO A e:Nat)(lo js:Option (List Nat))(tO k5:Nat->Option Tb)(a0 b0 c0 a b c:Nat)(B:List UInt8):Prop:=
 ∃T Q run Bl,sI X bO A a0 b0 c0 e T Q run a b c/\acX lo js T Bl/\
   ((Q=[]/\k5=tO/\B=Bl++[0])\/(0<W Q/\ ∃ts d hd,k5=(λk=>some (ts k))/\adj tO ts Q d/\PL (W Q) hd/\B=(Bl++hd)++d))
def adr{G:List aK}(hm:pM B mo){b:Nat}{l:List Value}{T:TT}(h:(ah b l T)∈G++((some mb,mo)::F)):(ah b l T)∈G++F:=by
 rcases oX.1 h with q|q
 exact oA _ q
 rcases nP.1 q with q|q
 obtain⟨es,a,e,_⟩:=hm;rw[e]at q;simp only[qO,C]at q;exact absurd q.2 (by intro e;cases e)
 exact fM _ q
def nK.noM{G:List aK}(hm:pM B mo)(h:nK (G++((some mb,mo)::F)) x lo):nK (G++F) x lo:=by
 cases lo with
 |none=>exact h
 | some l=>
   obtain⟨h1,h2,⟨ad,n,c,a,e2,d,e⟩,f⟩:=h
   exact⟨h1,h2,⟨ad,n,c,a,e2,d,λg=>by obtain⟨b,q,l',T,f1,f2,f3⟩:=e g;exact⟨b,q,l',T,f1,adr hm f2,f3⟩⟩,f⟩
def mN.noM{G:List aK}{p:Value}(hm:pM B mo)(h:mN (G++((some mb,mo)::F)) p t):mN (G++F) p t:=by
 obtain⟨tb,cb,h1,h2,a⟩:=h;exact⟨tb,cb,h1,adr hm h2,adr hm a⟩
def H.asm{a b c d e2 m:aK}{G:List aK}(h:H r w (a::b::c::(G++(d::e2::m::L)))):H r w (a::b::c::m::((G++[d,e2])++L)):=by
 refine h.perm (((List.Perm.cons c ?_).cons b).cons a);have h1:(G++[d,e2]++(m::L)).Perm (m::((G++[d,e2])++L)):=tF;simpa using h1
def H.aGe{q a b e m:aK}{G:List aK}(h:H r w (q::a::b::(G++(e::m::L)))):H r w (q::a::b::m::e::(G++L)):=by
 refine h.perm (((List.Perm.cons b ?_).cons a).cons q);have h1:(G++(e::m::L)).Perm (e::(G++(m::L))):=tF;have h2:(G++(m::L)).Perm (m::(G++L)):=tF;exact h1.trans ((h2.cons e).trans (.swap _ _ _))
def aGf(h:nK F x lo):nK F (WU x x.la x.ln x.lc p a b c s) lo:=by
 cases lo<;>exact h
def anX{d:Nat->Value}{la:Option Addr}{ln lc a' b' c' e:Nat}(h:nK F (WU x la ln lc p a b c s) lo):nK F (WU x la ln lc d a' b' c' e) lo:=by
 cases lo<;>exact h
def FP.own{a:Option Nat}{d:Nat}{sq:List Value}(c:b8 a (W Q) d (np Q) sq 3)(hm:(a,C (np Q++sq) 90)∈F):FP F (.slice (aI a) (W Q) d) Q:=
 ⟨_,_,_,J,J,c.2.2.1,λe=>by
   cases a with
   |none=>have:=c.2.2.2 J;have:=c.2.2.1;omega
   |some b=>exact⟨b,0,_,_,J,hm,Rd.left _ _⟩⟩
def aGg:np Q++Ad q=np (Q++[q]):=by simp[np]
section
variable {x:Wr}{la:Option Addr}{ln lc a b c s:Nat}{p:Nat->Value}
def ads:(bj (WU x la ln lc p a b c s))[0]? =some (.pointer (some ⟨x.cb,0,none⟩)):=rfl
def aGh:(bj (WU x la ln lc p a b c s))[0+1]? =some (.slice x.ta x.tn x.tc):=rfl
end
def aGi{wb pn pc:Nat}{pa:Option Addr}{nn nc at_:Nat}{A:Option Addr}{N:List Int}(h:H r w ((ah wb (bj x) 49)::(some x.cb,C [.slice A nn nc,af at_] 38)::(some x.mb,mo)::L))(hN:og L (.slice A nn nc) N)(jU:at_<=1152921504000000000)(oG:pM 2147483647 mo)(hT:aY L (.slice x.ta x.tn x.tc) X)(hX:W X<=1048577)(Pf:x.at_+pn<=W X)(anY:pn<=131072)(hsn:x.seen<=1048577)(q_:x.bO<=1099511627776)(adu:1<=x.a)(Db:x.a<=1099511627776)(nC:x.b<=1099511627776)(IG:x.c<=1099511627776)(rG:nK L x lo)(IL: ∀k,k<=2->tZ L (PK x k) (tO k)/\ ∀t,tO k=some t->nL k t):Calls PP 20 #[bL wb,.slice pa pn pc] w λe w'=> ∃at' FO LU G ob B S c la' ln' lc' p' a' b' c' js k5,e= .returned (.slice (aI ob) (W B) c)/\BB ob B S c/\at'<=at_+20*pn+2000/\pM 2147483647 FO/\LU<=1048577/\nK (G++L) (WU x la' ln' lc' p' a' b' c' LU) js/\(∀k,k<=2->tZ (G++L) (p' k) (k5 k)/\ ∀t,k5 k=some t->nL k t)/\(1<=a'/\a'<=1099511627776/\b'<=1099511627776/\c'<=1099511627776)/\W B<=20000000/\adq X x.bO x.at_ (x.at_+pn) lo js tO k5 x.a x.b x.c a' b' c' B/\H r w' (EB ob B S::(ah wb (bj (WU x la' ln' lc' p' a' b' c' LU)) 49)::(some x.cb,C [.slice A nn nc,af at'] 38)::(some x.mb,FO)::(G++L)):=by
 have JU:=hT.len.1;have Py:=hT.len.2;replace h:=(h.ghost (C (np []++[]) 90)).ghost (C (ar u8 ([]++[])) 5);replace h:=h.zz [4,4,4] 0;refine iI func20 ntmps20 [4] ?_;refine g_ 37 ?_;refine cw (σ:=Nat×Nat×List UInt8×(List (Nat×Nat×Nat))×Nat×Nat×Nat×Nat×Nat×Obj×Option Nat×List UInt8×Nat×Option Nat×List Value×Nat) [(5,6),(8,11),(25,72)] (λ⟨i,run,T,Q,a,b,c,sn,eI,K,D,St,ct,y,sq,cq⟩ ρ w=>Kn ρ [(9,af i),(8,af run),(5,.slice (aI D) (W T) ct),(6,.slice (aI y) (W Q) cq)]/\H r w ((ah wb (bj (WU x x.la x.ln x.lc (PK x) a b c sn)) 49)::(some x.cb,C [.slice A nn nc,af eI] 38)::(some x.mb,K)::EB D (T) St::(y,C (np (Q)++sq) 90)::L)/\(i<=x.at_+pn)/\(sI X x.bO x.at_ x.a x.b x.c i T Q run a b c)/\(eI<=at_+20*(i-x.at_))/\(pM 2147483647 K)/\(sn<=1048577)/\(BB D T St ct)/\(b8 y (W Q) cq (np Q) sq 3)) (λ⟨i,run,T,Q,a,b,c,sn,eI,K,D,St,ct,y,sq,cq⟩=>x.at_+pn-i) (x.at_,0,[],[],x.a,x.b,x.c,x.seen,at_,mo,none,[],0,none,[],0) ⟨az,h,(lV _ _),sI.nil,I,oG,I,⟨J,λ_=>rfl⟩,J,J,aW _,λ_=>rfl⟩ ?_;rintro⟨i,run,T,Q,a,b,c,sn,eI,K,D,St,ct,y,sq,cq⟩ ρ w ⟨⟨LN,rfl⟩,h,hi,R,Ab,uA,adw,IA,hkQ⟩;refine g_ 7 ?_;refine au J ?_ ?_<;>intro sT
 have M:=R.bd (m:=1099511627776) adu Db nC IG I;have hbT:W T<=131072/\W Q<=131072/\run<=131072:=I;refine a8 (kp [(5,6),(8,11),(28,72)] (λρ w=> ∃i5 V6:Nat,∃T5:List UInt8,∃Q5:List (Nat×Nat×Nat),∃a5 b5 c5 V7 kF:Nat,∃V8:Obj,∃PM:Option Nat,∃V9:List UInt8,∃V_:Nat,∃PN:Option Nat,∃V':List Value,∃Wa:Nat,Kn ρ [(9,af i5),(8,af V6),(5,.slice (aI PM) (W T5) V_),(6,.slice (aI PN) (W Q5) Wa)]/\H r w ((ah wb (bj (WU x x.la x.ln x.lc (PK x) a5 b5 c5 V7)) 49)::(some x.cb,C [.slice A nn nc,af kF] 38)::(some x.mb,V8)::EB PM (T5) V9::(PN,C (np (Q5)++V') 90)::L)/\(i<i5)/\(i5<=x.at_+pn)/\(sI X x.bO x.at_ x.a x.b x.c i5 T5 Q5 V6 a5 b5 c5)/\(kF<=at_+20*(i5-x.at_))/\(pM 2147483647 V8)/\(V7<=1048577)/\(BB PM T5 V9 V_)/\(b8 PN (W Q5) Wa (np Q5) V' 3)) ?_ ?_)
 . refine g_ 5 ?_;refine eS J J J J (aH (aFn (x:=WU x x.la x.ln x.lc (PK x) a b c sn) (sn:=sn) (X:=X) h (hN.sub (Sub.Yt _ _ _)) I uA (hT.sub (Sub.Yt _ _ _)) hX hi I adw q_ M.2.2.2.2.1 M.2.2.2.2.2.1 M.2.2.2.2.2.2) ?_);rintro e U ⟨jG,yF,DH,n,o,rfl,uf,C8,Wb,hn6,hv3,h⟩;replace h:H r _ ((ah wb (bj (WU x x.la x.ln x.lc (PK x) a b c DH)) 49)::(some x.cb,C [.slice A nn nc,af jG] 38)::(some x.mb,yF)::EB D (T) St::(y,C (np (Q)++sq) 90)::L):=h;refine g_ 7 ?_;refine cW [(35,44)] (λρ w=> ∃gI:Nat,∃bv:Bool,Kn ρ [(44,.bool bv)]/\H r w ((ah wb (bj (WU x x.la x.ln x.lc (PK x) a b c DH)) 49)::(some x.cb,C [.slice A nn nc,af gI] 38)::(some x.mb,yF)::EB D (T) St::(y,C (np (Q)++sq) 90)::L)/\(gI<=eI+3)/\(bv=false->3<=n)) ?_ ?_
   . refine g_ 4 ?_;refine eM (t:=37) J (λaGj=>?_) (λaGj=>?_)
     refine g_ 8 ?_;exact⟨aS,jG,true,az,h,I,(λe=>by cases e)⟩
     refine g_ 3 ?_;refine dI J J J (run_load h J ads) J ?_;replace h:=h.zz [4,4,4,3,4] 0;refine xm (v1:=af 5) J J J J J J (aH (lR (n:=5) (at_:=jG) h (hN.sub aP) I an) ?_);rintro e U ⟨ov,gI,rfl,nd,vP,h⟩;refine g_ 3 ?_;replace h:=h.zz [4,4,4,3,4] 0;exact⟨aS,gI,decide (ov=0),az,h,I,(λ_=>I)⟩
   rintro ρ w ⟨gI,bv,⟨LP,rfl⟩,h,vP,r9⟩;refine eY J ?_ ?_<;>intro AO
   refine g_ 6 ?_;refine aX h J aGh ?_;refine lB (hT.fp I) λpb pq lp Tp q1=>?_;refine gg q1.2.1 λip rC=>(dg (ak (da J J q1.1 I) (aX h J (kf q1.2.2 I) (mf J (ly _) h ?_))));intro f w h;refine mC (X:=T) (Y:=[aa X i 0]) (F:=[(ah f [u8 (aa X i 0)] 5)]) h 4 J J J IA ⟨_,_,_,J,J,aW _,λ_=>⟨f,0,_,_,J,fQ ..,J,trivial⟩⟩ (λe he=>by rcases jT.1 he with rfl;exact(by repeat first|exact fQ .. |apply nq)) (by simp only[dL,eW];omega) J ?_;intro w g d l h q;dsimp only[bJ]at h;replace h:=h.tail;refine g_ 12 ?_;exact⟨aO 27,i+1,run+1,T++[aa X i 0],Q,a,b,c,DH,gI,yF,g,l,d,y,sq,cq,az,h,I,I,R.lit,I,C8,Wb,q,hkQ⟩
   have vg:=r9 AO;have r6:=hv3 I;have hAi:=M.1;have NG:=r6.2.2.2.1;refine g_ 9 ?_;refine eS J J J J (aH (aDb (x:=WU x x.la x.ln x.lc (PK x) a b c DH) (cy:=o) (none:=decide (run=0)) h (hN.sub aP) I r6.1 I M.2.2.2.1 M.2.2.2.2.1) ?_);rintro e U ⟨v,O,b9,d,rfl,gA,lh,py,PC,h⟩;replace h:H r _ ((ah wb (bj (WU x x.la x.ln x.lc (PK x) o b9 d DH)) 49)::(some x.cb,C [.slice A nn nc,af O] 38)::(some x.mb,yF)::EB D (T) St::(y,C (np (Q)++sq) 90)::L):=h;have hR9:=R.seq py gA lh (r9 AO) hn6 r6.1 r6.2.1 r6.2.2.1 r6.2.2.2.2;refine dg (ak (xH (aqI _ _ _) J J J) (mf J (aq' _ _ _) h ?_));intro bg w h;refine me (np Q) sq (Ad (run,v,n)) h 5 J J J hkQ (Src.slice (j:=0) (q2:=0) J ⟨J,J,J,trivial⟩ J) (by intro z hz;simp only[Ad,nP,List.not_mem_nil,or_false]at hz;rcases hz with rfl|rfl|rfl<;>rfl) I an J ?_;intro w oq9 cq9 sq9 h dV ig mi;dsimp only[bJ]at h;rw[aGg]at h dV;have zu:b8 oq9 (W (Q++[(run,v,n)])) cq9 (np (Q++[(run,v,n)])) sq9 3:=⟨by rw[anI];omega,dV,by rw[aF];exact ig,mi⟩;replace h:=h.tail;refine g_ 9 ?_;exact⟨aO 27,i+n,0,T,Q++[(run,v,n)],o,b9,d,DH,O,yF,D,St,ct,oq9,sq9,cq9,Kn.mk ⟨J,J,J,(gS J (by rw[aF];rfl)),trivial⟩,h,I,I,hR9,I,C8,Wb,IA,zu⟩
 rintro ρ w ⟨i5,V6,T5,Q5,a5,b5,c5,V7,kF,V8,PM,V9,V_,PN,V',Wa,⟨LO,rfl⟩,h,ajR,hi5,hR5,IC,aGk,aGl,aGm,aGn⟩;exact⟨aO 4,(i5,V6,T5,Q5,a5,b5,c5,V7,kF,V8,PM,V9,V_,PN,V',Wa),cQ,az,h,hi5,hR5,IC,aGk,aGl,aGm,aGn⟩
 have ei:i=x.at_+pn:=I;rw[ei]at R Ab;have M:=R.bd (m:=1099511627776) adu Db nC IG I;have hbT:W T<=131072/\W Q<=131072:=I;have VZ:=λj hj=>aGd (R.each (m:=200000000) (m0:=1099511627776) adu Db nC IG I I an j hj) an;refine g_ 5 ?_;replace h:=h.zz [2,4,4,4,4] 0;refine cJ J J J (aH (aET (x:=WU x x.la x.ln x.lc (PK x) a b c sn) (lo:=lo) (T:=T) h (hN.sub aP) I IA.sl hbT.1 (aGf (rG.sub aP))) ?_);rintro e U ⟨O,V,Z,gk,lo2,G9,ox,Bl,Sx,cx,rfl,PC,PO,aGo,SW,aL4,h⟩;replace h:=h.asm;have PQ:nK ((G9++[EB D T St,(y,C (np Q++sq) 90)])++L) (WU x V Z gk (PK x) a b c sn) lo2:=nK.noM uA (by have:=aGo;simp only[bV,List.cons_append,List.nil_append]at this ⊢;exact anX (p:=PK x) (a:=a) (b:=b) (c:=c) (s:=sn) this);have hQm:(y,C (np Q++sq) 90)∈(G9++[EB D T St,(y,C (np Q++sq) 90)])++L:=(by simp);refine cM (G9++[EB D T St,(y,C (np Q++sq) 90)]) λG2 hG2=>?_;rw[hG2]at PQ hQm h;replace h:H r _ (EB ox (Bl) Sx::(ah wb (bj (WU x V Z gk (PK x) a b c sn)) 49)::(some x.cb,C [.slice A nn nc,af O] 38)::(some x.mb,K)::(G2++L)):=h;refine g_ 9 ?_;refine kp [(4,4),(12,12),(78,138)] (λρ w=> ∃at9:Nat,∃hd:List UInt8,∃g:Option Nat,∃l:List UInt8,∃d:Nat,Kn ρ [(12,.slice (aI g) (W (Bl++hd)) d)]/\H r w (EB g (Bl++hd) l::(ah wb (bj (WU x V Z gk (PK x) a b c sn)) 49)::(some x.cb,C [.slice A nn nc,af at9] 38)::(some x.mb,K)::(G2++L))/\(at9<=O+2)/\(PL (W Q) hd)/\(BB g (Bl++hd) l d)/\(0<W Q)) ?_ ?_
 refine g_ 6 ?_;refine au J ?_ ?_<;>intro JH
 refine g_ 3 ?_;refine mf J (ly _) h ?_;intro f w h;refine mC (X:=Bl) (Y:=[0]) (F:=[(ah f [iW 0] 5)]) h 1 J J J PO ⟨_,_,_,J,J,aW _,λ_=>⟨f,0,_,_,J,fQ ..,J,trivial⟩⟩ (λe he=>by rcases jT.1 he with rfl;exact(by repeat first|exact fQ .. |apply nq)) (by simp only[dL,eW];omega) J ?_;intro w g d l h q;dsimp only[bJ]at h;replace h:=h.tail;refine g_ 3 ?_;have eQ:Q=[]:=k7.1 JH;exact⟨O,K,sn,G2,g,_,l,d,V,Z,gk,PK x,a,b,c,lo2,tO,J,q,I,uA,adw,PQ,λk E=>⟨(IL k E).1.sub aP,(IL k E).2⟩,M.2.2.2,by rw[aF];simp only[dL,eW];omega,⟨T,Q,run,Bl,R,SW,a_ ⟨eQ,J,J⟩⟩,h⟩
 refine cW [(92,102)] (λρ w=> ∃P:Nat,∃bv:Bool,Kn ρ [(92,.bool bv)]/\H r w (EB ox (Bl) Sx::(ah wb (bj (WU x V Z gk (PK x) a b c sn)) 49)::(some x.cb,C [.slice A nn nc,af P] 38)::(some x.mb,K)::(G2++L))/\(P<=O+1)/\(bv=true->32512<=W Q)) ?_ ?_
 refine g_ 4 ?_;refine eM (t:=95) J (λanZ=>?_) (λanZ=>?_)
 refine g_ 3 ?_;refine dI J J J (run_load h J ads) J ?_;replace h:=h.zz [3,2,2,3] 0;refine xm (v1:=af 2) J J J J J J (aH (lR (n:=2) (at_:=O) h (hN.sub aP) I an) ?_);rintro e U ⟨ov,P,rfl,nd,adx,h⟩;refine g_ 4 ?_;replace h:=h.zz [3,1,3,3] 0;exact⟨aS,P,decide (ov=0),az,h,I,(λ_=>anZ)⟩
 refine g_ 9 ?_;exact⟨aS,O,false,az,h,I,(λe=>by cases e)⟩
 rintro ρ w ⟨P,bv,⟨LQ,rfl⟩,h,adx,r9⟩;refine eY J ?_ ?_<;>intro GJ
 refine fD (dg (mf J (ly _) h ?_));intro f w h;refine mC (X:=Bl) (Y:=[255]) (F:=[(ah f [iW 255] 5)]) h 1 J J J PO ⟨_,_,_,J,J,aW _,λ_=>⟨f,0,_,_,J,fQ ..,J,trivial⟩⟩ (λe he=>by rcases jT.1 he with rfl;exact(by repeat first|exact fQ .. |apply nq)) (by simp only[dL,eW];omega) J ?_;intro w o8 c8 S8 h PS;dsimp only[bJ]at h;replace h:=h.tail;refine dg (ak (jm (b:=32512) (h2:=av.lit _) J J (by have:=r9 GJ;omega) aG) ?_);refine g_ 1 ?_;refine cJ (v1:=af 2) J J J (aH (rE (x:=W Q-32512) (k:=2) h I an) ?_);rintro e U ⟨oW,lS,lc,rfl,kY,h⟩;refine mC (X:=Bl++[255]) (Y:=bQ (W Q-32512) 2) (F:=[EB oW (bQ (W Q-32512) 2) lS]) h 1 J (gS J (cY _ 2).symm) J PS (kY.sl) (λe he=>by rcases jT.1 he with rfl;exact fQ ..) (by rw[aF,cY];simp only[dL,eW];omega) J ?_;intro w g d l h q;dsimp only[bJ]at h;replace h:=h.tail;have e9:Bl++[255]++bQ (W Q-32512) 2=Bl++(255::bQ (W Q-32512) 2):=(by rw[bV];rfl);rw[e9]at h q;exact ee (aJ ⟨aO 13,P,255::bQ (W Q-32512) 2,g,l,d,Kn.mk ⟨(gS J (by rw[e9])),trivial⟩,h,I,a_ ⟨r9 GJ,J⟩,q,I⟩)
 refine cW [(111,121)] (λρ w=> ∃at8:Nat,∃bw:Bool,Kn ρ [(111,.bool bw)]/\H r w (EB ox (Bl) Sx::(ah wb (bj (WU x V Z gk (PK x) a b c sn)) 49)::(some x.cb,C [.slice A nn nc,af at8] 38)::(some x.mb,K)::(G2++L))/\(at8<=P+1)/\(bw=true->W Q<128)) ?_ ?_
 refine g_ 4 ?_;refine eM (t:=114) J (λan0=>?_) (λan0=>?_)
 refine g_ 3 ?_;refine dI J J J (run_load h J ads) J ?_;replace h:=h.zz [3,2,2,3] 0;refine xm (v1:=af 4) J J J J J J (aH (lR (n:=4) (at_:=P) h (hN.sub aP) I an) ?_);rintro e U ⟨ov,at8,rfl,nd,ady,h⟩;refine g_ 4 ?_;replace h:=h.zz [3,1,3,3] 0;exact⟨aS,at8,decide (0<ov),az,h,I,(λ_=>an0)⟩
 refine g_ 9 ?_;exact⟨aS,P,false,az,h,I,(λe=>by cases e)⟩
 rintro ρ w ⟨at8,bw,⟨PG,rfl⟩,h,ady,hbw⟩;refine eY J ?_ ?_<;>intro zQ
 refine g_ 3 ?_;refine ak (eZ J (by have:=hbw zQ;simp only[aN];omega)) ?_;refine mf J (ly _) h ?_;intro f w h;refine mC (X:=Bl) (Y:=[bS (W Q)]) (F:=[(ah f [iW (W Q)] 5)]) h 1 J J J PO ⟨_,_,_,J,J,aW _,λ_=>⟨f,0,_,_,J,fQ ..,by rw[yC,iV (by have:=hbw zQ;simp only[aN];omega)];rfl,trivial⟩⟩ (λe he=>by rcases jT.1 he with rfl;exact(by repeat first|exact fQ .. |apply nq)) (by simp only[dL,eW];omega) J ?_;intro w g d l h q;dsimp only[bJ]at h;replace h:=h.tail;exact ee (aJ ⟨aO 11,at8,[bS (W Q)],g,l,d,az,h,I,bG (a_ ⟨hbw zQ,J⟩),q,I⟩)
 refine g_ 6 ?_;refine au J ?_ ?_<;>intro akF
 refine g_ 3 ?_;refine ak (cG (qT (b:=8) (h2:=av.lit _) J J aG) (show W Q/2^8=W Q/256 from J)) ?_;refine g_ 3 ?_;refine ak (DX J J) (uJ (v:=λb=>cK b 2 2) (λw=>aqy (u:=λb=>cK b 2 2) (aq2 _ _) J J) h J ?_);intro f w h;refine mC (X:=Bl) (Y:=[bS (128+W Q/256),bS (W Q)]) (F:=[(ah f [iW (128+W Q/256),iW (W Q % (aN .u8+1))] 5)]) h 1 J J J PO ⟨_,_,_,J,J,aW _,λ_=>⟨f,0,_,_,J,fQ ..,by rw[yC,iV (show 128+W Q/256<aN .u8+1 by simp only[aN];omega)];rfl,by rw[yC];rfl,trivial⟩⟩ (λe he=>by rcases jT.1 he with rfl;exact(by repeat first|exact fQ .. |apply nq)) (by simp only[dL,eW];omega) J ?_;intro w g d l h q;dsimp only[bJ]at h;replace h:=h.tail;exact ee (aJ ⟨aO 18,at8,[bS (128+W Q/256),bS (W Q)],g,l,d,az,h,I,bG (bG ⟨I,J⟩),q,I⟩)
 refine fD (dg (mf J (ly _) h ?_));intro f w h;refine mC (X:=Bl) (Y:=[255]) (F:=[(ah f [iW 255] 5)]) h 1 J J J PO ⟨_,_,_,J,J,aW _,λ_=>⟨f,0,_,_,J,fQ ..,J,trivial⟩⟩ (λe he=>by rcases jT.1 he with rfl;exact(by repeat first|exact fQ .. |apply nq)) (by simp only[dL,eW];omega) J ?_;intro w o8 c8 S8 h PS;dsimp only[bJ]at h;replace h:=h.tail;refine g_ 3 ?_;refine cJ (v1:=af 2) J J J (aH (rE (x:=W Q-32512) (k:=2) h I an) ?_);rintro e U ⟨oW,lS,lc,rfl,kY,h⟩;refine mC (X:=Bl++[255]) (Y:=bQ (W Q-32512) 2) (F:=[EB oW (bQ (W Q-32512) 2) lS]) h 1 J (gS J (cY _ 2).symm) J PS (kY.sl) (λe he=>by rcases jT.1 he with rfl;exact fQ ..) (by rw[aF,cY];simp only[dL,eW];omega) J ?_;intro w g d l h q;dsimp only[bJ]at h;replace h:=h.tail;have e9:Bl++[255]++bQ (W Q-32512) 2=Bl++(255::bQ (W Q-32512) 2):=(by rw[bV];rfl);rw[e9]at h q;exact ee (aJ ⟨aO 17,at8,255::bQ (W Q-32512) 2,g,l,d,Kn.mk ⟨(gS J (by rw[e9])),trivial⟩,h,I,a_ ⟨I,J⟩,q,I⟩)
 rintro ρ w ⟨at9,hd,g,l,d,⟨ac4,rfl⟩,h,anH,sU,q,hQ0⟩;refine g_ 5 ?_;replace h:=h.zz [3,1,3,3] 0;refine cJ J J J (aH (aFO (x:=WU x V Z gk (PK x) a b c sn) (tO:=tO) h (hN.sub aP) I (FP.own hkQ (aA (aA hQm))) hQ0 hbT.2 (λk E=>⟨(IL k E).1.sub aP,(IL k E).2⟩) VZ) ?_);rintro e U ⟨IN,DI,p10,ts,vG,Bq,IP,PT,rfl,Wc,aL5,hSq,yG,aL6,h⟩;replace h:=h.aGe;rw[<-bV DI G2 L]at h;have jV:=sU.len;refine mC (X:=Bl++hd) (Y:=Bq) (F:=[EB vG Bq IP]) h 4 J J J q (Wc.sl) (λe he=>by rcases jT.1 he with rfl;exact fQ ..) (by rw[aF];omega) J ?_;intro w o11 c11 S11 h Wd;dsimp only[bJ]at h;refine g_ 3 ?_;replace h:=h.zz [3,3,3,4,4] 1
 have hT9: ∀k,k<=2->mN ((DI++G2)++L) (p10 k) (ts k)/\nL k (ts k):=λk E=>⟨by
   have:=((yG k E).1.IK).noM uA
   rw[bV];exact this,(yG k E).2⟩
 exact⟨IN,K,sn,DI++G2,o11,_,S11,c11,V,Z,gk,p10,a,b,c,lo2,(λk=>some (ts k)),J,Wd,I,uA,adw,anX (PQ.sub (λz hz=>by rw[bV];exact fM _ hz)),λk E=>⟨(hT9 k E).1,λt ht=>by cases ht;exact(hT9 k E).2⟩,M.2.2.2,by rw[aF,aF];omega,⟨T,Q,run,Bl,R,SW,bG ⟨hQ0,ts,Bq,hd,J,hSq,sU,J⟩⟩,h⟩
def IQ(x:Wr)(n:Nat):Wr:={x with at_:=n}
structure yL(F:List aK)(x:Wr)(X:List UInt8)(lo:Option (List Nat))(tO:Nat->Option Tb):Prop where
 txt:aY F (.slice x.ta x.tn x.tc) X
 ln:nK F x lo
 tb: ∀k,k<=2->tZ F (PK x k) (tO k)/\ ∀t,tO k=some t->nL k t
 seen:x.seen<=1048577
 bO:x.bO<=1099511627776
 a1:1<=x.a
 a:x.a<=1099511627776
 b:x.b<=1099511627776
 c:x.c<=1099511627776
def an1(h:nK F x lo):nK F (IQ x n) lo:=by cases lo<;>exact h
def yL.at_{d:List aK}(h:yL F x X lo tO)(hs:Sub F d):yL d (IQ x n) X lo tO:=
 ⟨h.txt.sub hs,an1 (h.ln.sub hs),λk e=>⟨(h.tb k e).1.sub hs,(h.tb k e).2⟩,h.seen,h.bO,h.a1,h.a,h.b,h.c⟩
def adz{p:Value}{o:Option Tb}(h:tZ F p o):plain p=true:=by
 cases o with
 |none=>rw[show p= .pointer none from h];rfl
 |some t=>obtain⟨tb,cb,e,_⟩:=h;rw[e];rfl
def yL.pl(h:yL F x X lo tO):(bj x).all plain=true:=by
 have a:plain x.p0=true:=adz (h.tb 0 an).1;have h1:plain x.p1=true:=adz (h.tb 1 an).1;have h2:plain x.p2=true:=adz (h.tb 2 an).1;simp only[bj,WL,a,h1,h2,Bool.true_and,List.all_nil];rfl
def We{t:Nat}(h:t<=7):n*2^3|||t=n*8+t:=by
 have:=xD (i:=3) (b:=t) (I:t<2^3) n;rw[im n (2^3),<-this,im]
def an2{e:Nat}(h:e<=1)(c:Nat)(a:c % 2=0)(d:c<=6):n*8+c|||e=n*8+c+e:=by
 have:=xD (i:=1) (b:=e) (I:e<2^1) (n*4+c/2);rw[show n*8+c=2^1*(n*4+c/2) by omega,<-this]
def yM(X:List UInt8)(bO A n en:Nat)(lo js:Option (List Nat))(tO k5:Nat->Option Tb)(a0 b0 c0 a b c:Nat)(B:List UInt8):Prop:=
 (js=lo/\k5=tO/\a=a0/\b=b0/\c=c0/\(B=bQ (n*8+0+en) 3++(X.drop A).take n\/(0<n/\(∀i,i<n->aa ((X.drop A).take n) i 0=aa ((X.drop A).take n) 0 0)/\B=bQ (n*8+2+en) 3++[aa ((X.drop A).take n) 0 0])))\/
 (∃d,adq X bO A (A+n) lo js tO k5 a0 b0 c0 a b c d/\W d<=min 131072 bO/\B=bQ (W d*8+4+en) 3++d)
def aGp{x y:UInt8}(h:x.toNat=y.toNat):x=y:=Mo.1 h
variable {S:List UInt8}{ob:Option Nat}
section
variable {P:Program}{n:Nat}{K:ia}{ρ:Env}{all:Array Oper}{rest:List Oper}{d:Option Nat}{ty:TypeId}{pos:String}{aV:Array Edge}
variable {r:fT}{w:World}{L:List aK}{x y z:Operand}{b q i:Nat}{l:List Value}{T T':TypeId}{v:Value}
def aGq{T2:TypeId}{zs:List Value}{fh size:Nat}[hu:cu P T (.slice T')] [hs:Sz P T' size] [y:Zr P T' zs] [hb:By P T' fh] [z:cu P T2 (.int .i64)](K:W zs=size){ob:Option Nat}{xs sp:List Value}{nn c m:Nat}(h:H r w L)(hi:L[i]? =some (ob,C (xs++sp) T'))(o:W xs=nn*size)(M:W (xs++sp)=c*size)(wu:nn<=c)(N:ob=none->c=0)(gv:0<size)(A: ∀v∈zs,plain v=true)(fx:(2*(nn+m)+1000)*fh<=281474976710656)(XD:nn+m<=281474976710656)(p:Value->Prop)(O: ∀v∈sp,p v)(n6: ∀v∈zs,p v): ∃w' B c' D,(Builtin.append_ #[T,T2] ty #[.slice (aI ob) nn c,af m]).run P w= .ok (.slice (aI B) (nn+m) c') w'/\H r w' (L.set i (B,C (xs++dD zs m++D) T'))/\W (xs++dD zs m++D)=c'*size/\nn+m<=c'/\(B=none->c'=0)/\ ∀v∈D,p v:=by
 obtain⟨t,t1,t2⟩:=hb.bytes w;have e2:=hs.size w;have fX: ∀v∈dD zs m,plain v=true:=λv n=>A v (TA n I);have h1:W (dD zs m)=m*size:=(by rw[D7,K]);have ph:i<W L:=(qP.1 hi).1;have Q:IntKind.i64.wrap ((m:Nat):Int)=(m:Int):=uF .i64 m aG;have R: ¬((281474976710656:Int)<(m:Int)*(fh:Int)):=(by have h3:m*fh<=(2*(nn+m)+1000)*fh:=rL fh I;have h4:((m*fh:Nat):Int)=(m:Int)*(fh:Int):=(by simp);omega);have S: ¬((m:Int)<0):=I
 have U: ∀w':World,(if m*size=0 then(pure #[]:Sem (Array Value))else do pure (Builtin.zeroCells (<-zeroValue T').cells m)).run P w'= .ok (dD zs m).toArray w':=by
  intro w';obtain⟨q,f,s⟩:=y.zero w';by_cases d:m*size=0
  rw[ao d];have:dD zs m=[]:=k7.1 (by rw[h1,d]);rw[this];simp
  rw[aj d];have u:(Builtin.zeroCells q.cells m)=⟨dD zs m⟩:=(by rw[s];apply FY.1;simp[Builtin.zeroCells,dD,DN,tD]);simp[f,u]
 by_cases x:nn+m<=c
 have hle:nn*size+W (dD zs m)<=W (xs++sp):=(by have:(nn+m)*size<=c*size:=rL _ x;rw[qQ]at this;omega)
 cases ob with
 | none=>
   have V:=N J
   subst V
   obtain rfl:nn=0:=I
   obtain rfl:m=0:=I
   have l:dD zs 0=[]:=k7.1 (by rw[h1];omega)
   refine⟨w,none,0,sp,?_,?_,by rw[l];simpa using M,aW _,λ_=>rfl,O⟩
   . simp[Builtin.append_,underlying,program,Sem.run,hu.eq,z.eq,e2,t1,t2,asInt,asIntOf,aI,show IntKind.i64.wrap 0=0 from J]
   . rw[l,dN,Jo hi];exact h
 | some b=>
   obtain⟨w',s1,s2,_,_⟩:=D5 (P:=P) (dD zs m) w L (xs++sp) (nn*size) 0 h hi fX I
   refine⟨w',some b,c,sp.drop (W (dD zs m)),?_,?_,?_,x,(λe=>by cases e),λv n=>O v (List.mem_of_mem_drop n)⟩
   . have:=U w
     simp[Builtin.append_,underlying,program,Sem.run,hu.eq,z.eq,e2,x,t1,t2,asInt,asIntOf,Q,S,R,aI,add_plain]
     by_cases d:m*size=0
     . have l:dD zs m=[]:=k7.1 (by rw[h1];exact d)
       rw[l]at s1
       simp[d,s1]
     . have E: ¬(m*size=0):=d
       rw[aj E]at this
       simp at this
       obtain⟨q,f,s⟩:=y.zero w
       simp[f]at this
       simp[d,f,this,s1]
   . have e5:dm (xs++sp) (nn*size+0) (dD zs m)=xs++dD zs m++sp.drop (W (dD zs m)):=by
       rw[kN,BY _ _ _ hle,<-o]
       simp[FZ]
     rw[e5]at s2;exact s2
   . simp only[aF,cr]at M hle ⊢;omega
 have j9:c<nn+m:=I;have BZ: ¬((281474976710656:Nat)<Builtin.nextslicecap (nn+m) c*fh):=(by have:=rL fh (QS j9);omega);have Gh: ¬((9223372036854775807:Int)<(nn:Int)+(m:Int)):=I;obtain⟨a,F⟩: ∃a:World,a=w.drew:=⟨_,J⟩;have X:H r a L:=(by rw[F];exact h.drew);have G:=U a;obtain⟨q,f,s⟩:=y.zero a;obtain⟨t',Y,Z⟩:=hb.bytes a;obtain⟨g,za⟩: ∃g,g=(Question.appendCap (nn+m) c T').cut (w.tape w.drawn (Question.appendCap (nn+m) c T')):=⟨_,J⟩;have oC:nn+m<=g:=(by rw[za];exact QT _ _ _ _);have pV: ∀k,(askRoom k).run P a= .ok () a:=λk=>(by unfold askRoom;split<;>simp[mark,Sem.run])
 have hold:(Builtin.firstCells size nn (.slice (aI ob) nn c)).run P a= .ok xs.toArray a:=by
  cases ob with
  | none=>
    have V:=N J
    have : xs = [] := k7.1 (by rw[o]; have:nn=0:=I; subst this;simp)
    subst this;simp[Builtin.firstCells,aI]
  | some b=>
    simp only[Builtin.firstCells,aI]
    refine D4 X hi ?_ o
    exact Rd.of λj hj=>by rw[il,gP hj]
 have u:(Builtin.zeroCells q.cells (g- (nn+m)))=⟨dD zs (g- (nn+m))⟩:=(by rw[s];apply FY.1;simp[Builtin.zeroCells,dD,DN,tD]);have Gi:(Question.appendCap (nn+m) c T').forced=false:=rfl;refine⟨a.alloc (C (xs++dD zs m++dD zs (g- (nn+m))) T'),some a.heap.size,g,dD zs (g- (nn+m)),?_,(X.alloc _).replace ph,?_,oC,(λe=>by cases e),λv n=>n6 v (TA n I)⟩
 simp[Builtin.append_,underlying,program,Sem.run,hu.eq,z.eq,e2,x,t1,t2,asInt,asIntOf,Q,S,R,BZ,Gh,choose,Gi];simp only[<-za,show({w with drawn:=w.drawn+1}:World)=a from F.symm,show w.drew=a from F.symm];by_cases d:m*size=0
 have l:dD zs m=[]:=k7.1 (by rw[h1];exact d);simp[C,Y,Z,pV,hold,d,f,u,l,newRow,newObj,Sem.run,show aI (some a.heap.size)=some ⟨a.heap.size,0,none⟩from J]
 have E: ¬(m*size=0):=d;rw[aj E]at G;simp[f]at G;simp[C,Y,Z,pV,hold,d,f,G,u,newRow,newObj,Sem.run,show aI (some a.heap.size)=some ⟨a.heap.size,0,none⟩from J]
 rw[aF,aF,h1,D7,K,o,<-qQ,<-qQ];congr 1;omega
def aGr [hu:cu P T (.slice 5)] [hs:Sz P 5 1] [t:Zr P 5 [iW 0]] [hb:By P 5 1]{T2:TypeId} [u:cu P T2 (.int .i64)]{ob:Option Nat}{X S:List UInt8}{c m:Nat}(h:H r w L)(i:Nat)(j:aL ρ x= .slice (aI ob) (W X) c)(k:aL ρ y=af m)(hi:L[i]? =some (EB ob X S))(l:BB ob X S c)(A:W X+m<=70368744177664)(hd:bH n d=true)(o: ∀w' a c' e,H r w' (L.set i (EB a (X++aT m 0) e))->BB a (X++aT m 0) e c'->O P n all rest K (fU ρ d (.slice (aI a) (W (X++aT m 0)) c')) w'):O P n all ({dst:=d,op:= .call {callee:= .builtin .append,args:= #[x,y],argTypes:= #[T,T2]},type:=ty,pos:=pos,after:=aV,guard:=none}::rest) K ρ w:=by
 have f:=l.ok
 obtain⟨w',a,c',B,h1,h2,g,C,p,q⟩:=aGq (P:=P) (ty:=ty) (T:=T) (T2:=T2) (T':=5) (zs:=[iW 0]) (size:=1) (fh:=1) (m:=m) (xs:=ar u8 X) (sp:=ar u8 S) J h (by rw[hi];simp;rfl) f.1 f.2.1 f.2.2.1 f.2.2.2 an
   (by intro v b;rw[jT.1 b];rfl) I I (λv=> ∃x:UInt8,v=u8 x) (by intro v b;obtain⟨z,_,rfl⟩:=jS.1 b;exact⟨z,J⟩) (by intro v b;exact⟨0,jT.1 b⟩)
 obtain⟨e,rfl⟩:=bytesOf q;have s:dD [Value.int .u8 ((0:Nat):Int)] m=ar u8 (aT m 0):=(by rw[D6,xz];rfl);rw[s]at h2 g;have:=o w' a c' e (by rw[<-gJ,<-gJ]at h2;exact h2) ⟨by simpa using g,p⟩;rw[aF,dS]at this;exact gQ (D8 j k h1) hd this
end
def Wf(i:Nat)(hb:b<2^i)(c:a % 2^i=0):a|||b=a+b:=by
 have h1:=xD hb (a/2^i);have h2:=DT a (2^i);rw[c,kN]at h2;rw[h2]at h1;exact h1.symm
def aGs{P:Program}{x z:Operand}{ty:TypeId}{k:IntKind}{u v t:Int}(d:aL ρ x= .int k u)(e:aL ρ y= .int k v)(f:aL ρ z= .int k t) [h1:av u a] [h2:av v b] [g:av t c]{ts:Array TypeId}:run P ρ (.call {callee:= .builtin .min,args:= #[x,y,z],argTypes:=ts}) ty w= .ok (.value (.int k ((min (min a b) c:Nat):Int))) w:=by
 simp[run,execOp,resolve,invoke,builtin,Builtin.min_,Builtin.min2,d,e,f,h1.eq,h2.eq,g.eq,List.foldlM];split<;>split<;>omega
inductive xt(X:List UInt8)(bO:Nat):Nat->Option (List Nat)->(Nat->Option Tb)->Nat->Nat->Nat->List UInt8->Prop
 |nil:xt X bO 0 none (λ_=>none) 1 4 8 []
 |step {A n a b c a' b' c':Nat} {lo js:Option (List Nat)} {tO k5:Nat->Option Tb} {D B:List UInt8}:xt X bO A lo tO a b c D->n<=131072->n<=bO->A+n<=W X->yM X bO A n 0 lo js tO k5 a b c a' b' c' B->xt X bO (A+n) js k5 a' b' c' (D++B)
def Wg(X:List UInt8)(bO:Nat)(D:List UInt8):Prop:=
 (∃lo tO a b c d,xt X bO (W X) lo tO a b c d/\D=d++bQ 1 3)\/
 (∃A n lo js tO k5 a b c a' b' c' d B,xt X bO A lo tO a b c d/\n<=131072/\n<=bO/\A+n=W X/\yM X bO A n 1 lo js tO k5 a b c a' b' c' B/\D=d++B)
def Wh(sg len bO:Nat)(wd:List UInt8):Prop:=
 (sg=1/\wd=[]/\bO=len)\/(sg=0/\ ∃lg mo,lg<=10/\mo<=7/\len<=2^(10+lg)/\bO=2^(10+lg)+2^(10+lg)/8*mo/\bO<=8388608/\wd=[bS (lg*8+mo)])
def adA(T D:List UInt8):Prop:=
 ∃f sg v sm id bO wd a sb,f<=3/\sg<=1/\v<=1/\sm<=1/\id<=3/\Wh sg (W T) bO wd/\((f=1->256<=W T/\W T<=65791)/\(f=0->sg=1->W T<=255))/\Wg T bO a/\
   ((sm=1/\sb=bQ (lF T % 4294967296) 4)\/(sm=0/\sb=[]))/\
   D=bQ 4247762216 4++[bS (f*2^6+sg*2^5+v*2^4+sm*2^2+id)]++wd++aT ([0,1,2,4].getD id 0) 0++bQ (if [sg,2,4,8].getD f 0=2 then W T-256 else W T) ([sg,2,4,8].getD f 0)++a++sb
def iQ.IK{G:List aK}{v:Value}{l:List Nat}(h:iQ (G++(EB ob X S::F)) v (l.map af)):iQ (G++F) v (l.map af):=by
 obtain⟨ad,n,c,a,e2,d,e⟩:=h;refine⟨ad,n,c,a,e2,d,λf=>?_⟩;obtain⟨b,q,l',T,f1,f2,f3⟩:=e f;refine⟨b,q,l',T,f1,?_,f3⟩;rcases oX.1 f2 with z|z
 exact oA _ z
 rcases nP.1 z with z|z
 exfalso;simp only[EB,qO,C,Obj.cells.injEq,Xa]at z;have g:0<W l:=(by rw[cB]at e2;omega);have h1:=om f3 g;rw[z.2.1,kP]at h1;obtain⟨y,_,h2⟩:=Qo.1 h1;simp only[u8,af,Value.int.injEq]at h2;exact absurd h2.1 an
 exact fM _ z
def yL.IK{G:List aK}{Y:List UInt8}(h:yL (G++(EB ob Y S::F)) x X lo tO)(f:aY (G++F) (.slice x.ta x.tn x.tc) X):yL (G++F) x X lo tO:=by
 refine⟨f,?_,λk d=>⟨?_,(h.tb k d).2⟩,h.seen,h.bO,h.a1,h.a,h.b,h.c⟩
 have:=h.ln
 cases lo with
 |none=>exact this
 |some l=>exact⟨this.1,this.2.1,this.2.2.1.IK,this.2.2.2⟩
 have:=(h.tb k d).1
 cases e:tO k with
 |none=>rw[e]at this;exact this
 |some t=>rw[e]at this;exact mN.IK this
def H.aGt{q a b m e:aK}{G:List aK}(h:H r w (q::a::b::m::(G++(e::F)))):H r w (q::e::a::b::m::(G++F)):=by
 refine h.perm (List.Perm.cons q ?_);have h1:(G++(e::F)).Perm (e::(G++F)):=tF;exact(((h1.cons m).cons b).cons a).trans (((List.Perm.swap ..).cons b).cons a|>.trans (((List.Perm.swap ..).cons a).trans (.swap ..)))
def H.adB{r:fT}{w:World}: ∀{Z F:List aK},H r w (Z++F)->H r w F
 | [],_,h=>h
 |_::Z,_,h=>H.adB (Z:=Z) h.tail
def H.aGu{e:aK}{Z:List aK}(h:H r w (e::(Z++F))):H r w (e::F):=
 H.adB (Z:=Z) (h.perm List.perm_middle.symm)
variable {lc ln:Nat}{la:Option Addr}
def aGv:(bj x)[0+0]? =some (.pointer (some ⟨x.cb,0,none⟩)):=rfl
def aGw:(bj x)[0+1]? =some (.slice x.ta x.tn x.tc):=rfl
def Wi:(bj x)[0+2]? =some (af x.at_):=rfl
def an3:(bj x).set 2 (af n)=bj (IQ x n):=rfl
def aGx:(bj (WU x la ln lc p a b c s))[0+2]? =some (af x.at_):=rfl
def aGy:(bj (WU x la ln lc p a b c s))[0+3]? =some (af x.bO):=rfl
def aGz{P:Program}{op:Op}{ty:TypeId}{w':World}{a b:Option Addr}(h:run P ρ op ty w= .ok (.value (.slice a n c)) w')(e:a=b):run P ρ op ty w= .ok (.value (.slice b n c)) w':=by rw[h,e]
def aGA{P:List UInt8}{j:Nat}(h:0<n/\ ∀i,i<j->aa P i 0=aa P 0 0)(h2:(aa P j 0).toNat=(aa P 0 0).toNat):0<n/\ ∀i,i<j+1->aa P i 0=aa P 0 0:=⟨h.1,λi hi=>by
 rcases xB.1 hi with a|rfl
 . exact h.2 i a
 . exact aGp h2⟩
def an4{p:Prop}(h:p:=by have rh:yM X x.bO x.at_ size (bif last then 1 else 0) lo lo tO tO x.a x.b x.c x.a x.b x.c (bQ (size*8+2+en) 3++[aa P 0 0]):=(by rw[sj];unfold yM;rw[hPe];exact a_ ⟨J,J,J,J,J,bG ⟨gv,an5.2,J⟩⟩);exact⟨eI,mo,[],oz,_,SZ,cz,IQ x (x.at_+size),lo,tO,J,uz,I,oG,iG,hS.at_ aP,rh,by rw[aF,cY];simp only[dL,eW];omega,h⟩):p:=h
def an6{p:Prop}(h:p:=by intro bz w h;refine Ln (X:=bQ (size*8+2+en) 3) (Y:=[aa P 0 0]) (F:=[(ah bz [u8 (aa P 0 0)] 5)]) J h 1 (gS J (cY _ _).symm) J J kY ID xI (by rw[cY];simp only[dL,eW];omega) J ?_;intro w oz cz SZ h uz;dsimp only[bJ]at h;refine fG J (cO (ju ?_));replace h:=h.tail;(try dsimp only[dX]at h);exact an4):p:=h
def aGB{wb size:Nat}{last:Bool}{nn nc at_:Nat}{f:Option Addr}{N:List Int}(h:H r w ((ah wb (bj x) 49)::(some x.cb,C [.slice f nn nc,af at_] 38)::(some x.mb,mo)::L))(hN:og L (.slice f nn nc) N)(jU:at_<=1152921503000000000)(oG:pM 2147483647 mo)(hS:yL L x X lo tO)(hX:W X<=1048577)(Pf:x.at_+size<=W X)(anY:size<=131072):Calls PP 14 #[bL wb,af size,.bool last] w λe w'=> ∃at' FO G ob B S c d js k5,e= .returned (.slice (aI ob) (W B) c)/\BB ob B S c/\at'<=at_+20*size+2010/\pM 2147483647 FO/\(d.cb=x.cb/\d.mb=x.mb/\d.ta=x.ta/\d.tn=x.tn/\d.tc=x.tc/\d.bO=x.bO/\d.at_=x.at_+size)/\yL (G++L) d X js k5/\yM X x.bO x.at_ size (bif last then 1 else 0) lo js tO k5 x.a x.b x.c d.a d.b d.c B/\W B<=131100/\H r w' (EB ob B S::(ah wb (bj d) 49)::(some x.cb,C [.slice f nn nc,af at'] 38)::(some x.mb,FO)::(G++L)):=by
 have q:=hS.txt;have JU:=q.len.1;have Py:=q.len.2;have q_:=hS.bO;have s:aY L (.slice (cut x.ta x.tc x.at_ 1) size (x.tc-x.at_)) ((X.drop x.at_).take size):=(q.drop I).take I;have aGC:W ((X.drop x.at_).take size)=size:=(by rw[fR,cr];omega);refine cM ((X.drop x.at_).take size) λP hPe=>?_;rw[hPe]at s aGC;refine cM (cut x.ta x.tc x.at_ 1) λpa u=>?_;have K:=s;rw[u]at K;refine cM (bif last then(1:Nat)else 0) λen sj=>?_;have v:en<=1:=(by rw[<-sj];cases last<;>decide);refine nV func14 ntmps14 [6] ?_;refine g_ 5 ?_;refine cm h [0,4,8,16,20,24,32,36,40,48,13,29,45,52,56,60] ?_;intro w h;refine aC 10 ?_;refine aQ J h J aGw (aQ J h J Wi (aQ J h J Wi ?_));refine aC 1 ?_;refine aD J (aGz (zF x.at_ size J J J I) u) (fG J (cO ?_));refine g_ 4 ?_;refine cW [(8,8),(31,31)] (λρ w=>Kn ρ [(8,af en)]/\H r w ((ah wb (bj x) 49)::(some x.cb,C [.slice f nn nc,af at_] 38)::(some x.mb,mo)::L)) ?_ ?_
 refine g_ 4 ?_;refine eY J ?_ ?_<;>intro tU
 refine g_ 3 ?_;exact⟨aO 2,Kn.mk ⟨(ie (by rw[<-sj,tU];rfl)),trivial⟩,h⟩
 exact a8 ⟨aO 1,Kn.mk ⟨(ie (by rw[<-sj,tU];rfl)),trivial⟩,h⟩
 rintro ρ w ⟨⟨LN,rfl⟩,h⟩;refine g_ 14 ?_;refine cw (σ:=Nat×Bool) [(9,9),(11,11),(36,48)] (λ⟨j,sm⟩ ρ w=>Kn ρ [(36,af j),(9,.bool sm)]/\H r w ((ah wb (bj x) 49)::(some x.cb,C [.slice f nn nc,af at_] 38)::(some x.mb,mo)::L)/\(j<=size)/\(sm=true->0<size/\ ∀i,i<j->aa P i 0=aa P 0 0)) (λ⟨j,sm⟩=>size-j) (0,decide (0<size)) ⟨az,h,I,(λe=>⟨tE e,λi hi=>absurd hi (ma _)⟩)⟩ ?_;rintro⟨j,sm⟩ ρ w ⟨⟨LO,rfl⟩,h,hj,sX⟩;refine g_ 5 ?_;refine au J ?_ ?_<;>intro CM
 refine lB (K.fp I) λpb pq lp Tp g=>?_;refine gg g.2.1 λip rC=>(a8 (bY (kp [(9,9),(11,11),(38,47)] (λρ w=> ∃f2:Bool,Kn ρ [(9,.bool f2)]/\H r w ((ah wb (bj x) 49)::(some x.cb,C [.slice f nn nc,af at_] 38)::(some x.mb,mo)::L)/\(f2=true->0<size/\ ∀i,i<j+1->aa P i 0=aa P 0 0)) ?_ ?_)))
 refine bY (fD (ak (da J J g.1 I) (aX h J (kf g.2.2 I) ?_)));refine g_ 5 ?_;refine xG (t:=41) J (λWj=>?_) (λWj=>?_)
 refine g_ 2 ?_;refine dI J J J (da (a:=0) (h1:=av.lit _) J J g.1 I) J (dI J J J (run_load h J (kf g.2.2 I)) J ?_);refine g_ 4 ?_;exact⟨aS,decide ((aa P j 0).toNat=(aa P 0 0).toNat),az,h,(λe=>aGA (sX Wj) (tE e))⟩
 refine g_ 8 ?_;exact⟨aS,false,az,h,(λe=>by cases e)⟩
 rintro ρ w ⟨f2,⟨LP,rfl⟩,h,ac3⟩;refine g_ 4 ?_;exact⟨aO 4,(j+1,f2),cQ,az,h,I,ac3⟩
 have ej:j=size:=I;rw[ej]at sX;refine g_ 6 ?_;refine aX h J aGv ?_;replace h:=h.zz [2,1,2] 0;refine cJ (v1:=af 4) J J J (aH (lR (n:=4) (at_:=at_) h (hN.sub aP) I an) ?_);rintro e p ⟨ov,eI,rfl,nd,Ab,h⟩;refine g_ 3 ?_;refine cW [(54,58)] (λρ w=> ∃bv:Bool,Kn ρ [(58,.bool bv)]/\H r w ((ah wb (bj x) 49)::(some x.cb,C [.slice f nn nc,af eI] 38)::(some x.mb,mo)::L)/\(bv=true->sm=true)) ?_ ?_
 refine g_ 4 ?_;refine eM (t:=56) J (λaGD=>?_) (λaGD=>?_)
 refine g_ 3 ?_;replace h:=h.zz [2,1,2] 0;exact⟨aS,sm,az,h,(λe=>e)⟩
 refine g_ 3 ?_;replace h:=h.zz [2,1,2] 0;exact⟨aS,false,az,h,(λe=>by cases e)⟩
 rintro ρ w ⟨bv,⟨LQ,rfl⟩,h,r9⟩;refine eY J ?_ ?_<;>intro EP
 . have an5:=sX (r9 EP);have gv:=an5.1;refine lB (K.fp I) λpb pq lp Tp g=>?_;refine gg g.2.1 λip rC=>?_;refine g_ 5 ?_;refine aX h J Wi ?_;refine g_ 4 ?_;refine iX (af (x.at_+size)) ?_;intro w h;rw[an3]at h;refine aJ (bY (xK h (de [0,4,8,12,16,20,28,32] (.fork (de [27,37,42,47,48] .nil) (de [37] (.fork (de [27,42,47,48] .nil) (de [42,27,47,48] .nil))))) ?_));intro w h;refine lx J (aD J (eB (b:=3) (h2:=av.lit _) J J an aG) ?_);refine aD J (cG (fq (b:=2) (h2:=av.lit _) J J aG an) (We (t:=2) an)) ?_;refine lx J (aD J (cG (fq J J aG aG) (an2 v 2 J an)) ?_);refine aC 2 ?_;refine aD J (da (a:=0) (h1:=av.lit _) J J g.1 I) (gR ?_ ?_)
   . refine lW (v1:=af 3) J J J J (aH (rE (x:=size*8+2+en) (k:=3) h I an) ?_);rintro e p ⟨M,O,Q,rfl,kY,h⟩;refine aQ J h J (kf g.2.2 I) (ld J J (ly _) h ?_);exact an6
   refine aQ J h J (kf g.2.2 I) (gR ?_ ?_)
   . refine lW (v1:=af 3) J J J J (aH (rE (x:=size*8+2+en) (k:=3) h I an) ?_);rintro e p ⟨M,O,Q,rfl,kY,h⟩;refine ld J J (ly _) h ?_;exact an6
   refine ld J J (ly _) h ?_;intro bz w h;refine lW (v1:=af 3) J J J J (aH (rE (x:=size*8+2+en) (k:=3) h I an) ?_);rintro e p ⟨M,O,Q,rfl,kY,h⟩;refine Ln (X:=bQ (size*8+2+en) 3) (Y:=[aa P 0 0]) (F:=[(ah bz [u8 (aa P 0 0)] 5)]) J h 0 (gS J (cY _ _).symm) J J kY ID xI (by rw[cY];simp only[dL,eW];omega) J ?_;intro w oz cz SZ h uz;dsimp only[bJ]at h;refine fG J (cO (ju ?_));replace h:=h.zz [4,4,4,3,4] 1;exact an4
 refine a8 (cW [(6,6),(13,15),(79,123)] (λρ w=> ∃R:Nat,∃T:Obj,∃G4:List aK,Kn ρ []/\H r w ((ah wb (bj x) 49)::(some x.cb,C [.slice f nn nc,af R] 38)::(some x.mb,T)::(G4++L))/\(R<=at_+20*size+2005)/\(pM 2147483647 T)) ?_ ?_)
 refine g_ 5 ?_;refine au J ?_ ?_<;>intro awK
 refine g_ 4 ?_;refine ak (jx [_,_,_,_,_,_,_,_,_,_,_,_,_] h J iG J) (eN h J ?_);intro bv w h;refine rW h J J J hS.pl (by first|decide|exact aW _|exact fS J| (simp;done)|omega) J ?_;intro w h;(try dsimp only[dm,bJ]at h);refine g_ 6 ?_;replace h:=h.zz [3,3,3] 0;refine cJ J J J ?_;replace h:H r _ ((ah wb (bj x) 49)::(some x.cb,C [.slice f nn nc,af eI] 38)::(some x.mb,mo)::((ah bv (bj x) 49)::L)):=h;refine(aGi (X:=X) (lo:=lo) (tO:=tO) (pn:=size) h (hN.sub (Sub.cons _ _)) I oG (q.sub (Sub.cons _ _)) hX Pf anY hS.seen hS.bO hS.a1 hS.a hS.b hS.c (hS.ln.sub (Sub.cons _ _)) (λk y=>⟨(hS.tb k y).1.sub (Sub.cons _ _),(hS.tb k y).2⟩)).mono ?_;rintro e p ⟨U,V,DH,o,o3,m,S3,c3,VM,VN,VO,p3,a3,b3,c4,A,D,rfl,yv,uf,C8,Wb,PQ,E,Z,aL7,aGE,h⟩;refine⟨_,J,?_⟩;refine gg (fM o (fQ (a:=(ah bv (bj x) 49)) (l:=L))) λiv Ex=>?_;refine g_ 9 ?_;refine aX h J aGy (ak (Ao (a:=131072) (h1:=av.lit _) J J) ?_);refine g_ 2 ?_;refine au J ?_ ?_<;>intro J0
 . have u_:W m<=131072:=aM J0 (Ql _ _);refine g_ 5 ?_;refine aX h J aGx ?_;refine g_ 4 ?_;refine iX (af (x.at_+size)) ?_;intro w h;refine g_ 5 ?_;refine ak (eB (b:=3) (h2:=av.lit _) J J an aG) ?_;refine ak (cG (fq (b:=4) (h2:=av.lit _) J J aG an) (We (t:=4) an)) ?_;refine dg (ak (cG (fq J J aG aG) (an2 v 4 J an)) ?_);refine g_ 1 ?_;refine cJ (v1:=af 3) J J J (aH (rE (x:=W m*8+4+en) (k:=3) h I an) ?_);rintro e p ⟨M,O,Q,rfl,kY,h⟩;refine dg (mC (X:=bQ (W m*8+4+en) 3) (Y:=m) (F:=[EB o3 m S3]) h 0 (gS J (cY _ _).symm) J J kY (yv.sl) xI (by rw[cY];omega) J ?_);intro w oz cz SZ h uz;dsimp only[bJ]at h;refine g_ 3 ?_;replace h:=h.zz [4,4,4,3,4] 1;have rh:yM X x.bO x.at_ size (bif last then 1 else 0) lo A tO D x.a x.b x.c a3 b3 c4 (bQ (W m*8+4+en) 3++m):=(by rw[sj];exact bG ⟨m,aGE,J0,J⟩);have hSub:Sub (o++((ah bv (bj x) 49)::L)) ((o++[(ah bv (bj x) 49)])++L):=λz hz=>(by rw[bV];exact hz);replace h:H r w (EB oz (bQ (W m*8+4+en) 3++m) SZ::(ah wb (bj (IQ (WU x VM VN VO p3 a3 b3 c4 DH) (x.at_+size))) 49)::(some x.cb,C [.slice f nn nc,af U] 38)::(some x.mb,V)::((o++[(ah bv (bj x) 49)])++L)):=(by rw[bV];exact h);exact⟨U,V,o++[(ah bv (bj x) 49)],oz,_,SZ,cz,IQ (WU x VM VN VO p3 a3 b3 c4 DH) (x.at_+size),A,D,J,uz,I,C8,iG,⟨q.sub (yp _),an1 (PQ.sub hSub),λk y=>⟨by have:=(E k y).1.sub hSub;rcases(I:k=0\/k=1\/k=2)with rfl|rfl|rfl<;>exact this,(E k y).2⟩,Wb,q_,Z.1,Z.2.1,Z.2.2.1,Z.2.2.2⟩,rh,by rw[aF,cY];omega,h⟩
 refine g_ 12 ?_;refine ak (jx [_,_,_,_,_,_,_,_,_,_,_,_,_] h J iG J) (nk_ J (rW h J J J hS.pl (by first|decide|exact aW _|exact fS J| (simp;done)|omega) J ?_));intro w h;(try dsimp only[dm,bJ]at h);refine g_ 6 ?_;refine iX (.pointer (some ⟨x.cb,0,none⟩)) ?_;intro w h;replace h:H r w ((ah wb (bj x) 49)::(some x.cb,C [.slice f nn nc,af U] 38)::(some x.mb,V)::((o++[(ah bv (bj x) 49)])++L)):=(by rw[bV];exact h.tail);exact aJ ⟨aO 33,U,V,o++[(ah bv (bj x) 49)],az,h,I,C8⟩
 exact a8 ⟨aO 2,eI,mo,[],az,h,I,oG⟩
 rintro ρ w ⟨R,T,G4,⟨PG,rfl⟩,h,vP,aGF⟩;refine g_ 5 ?_;refine aX h J Wi ?_;refine g_ 4 ?_;refine iX (af (x.at_+size)) ?_;intro w h;rw[an3]at h;refine g_ 4 ?_;refine ak (eB (b:=3) (h2:=av.lit _) J J an aG) ?_;refine dg (ak (cG (fq J J aG aG) (show size*2^3|||en=size*8+0+en from(We I).trans I)) ?_);refine g_ 1 ?_;refine cJ (v1:=af 3) J J J (aH (rE (x:=size*8+0+en) (k:=3) h I an) ?_);rintro e p ⟨M,O,Q,rfl,kY,h⟩;refine dg (mC (X:=bQ (size*8+0+en) 3) (Y:=P) (F:=L) h 0 (gS J (cY _ _).symm) J J kY K (λe he=>by repeat first|exact fM _ he|apply nq) (by rw[cY];omega) J ?_);intro w oz cz SZ h uz;dsimp only[bJ]at h;refine g_ 3 ?_;have rh:yM X x.bO x.at_ size (bif last then 1 else 0) lo lo tO tO x.a x.b x.c x.a x.b x.c (bQ (size*8+0+en) 3++P):=(by rw[sj];unfold yM;rw[hPe];exact a_ ⟨J,J,J,J,J,a_ J⟩);exact⟨R,T,G4,oz,_,SZ,cz,IQ x (x.at_+size),lo,tO,J,uz,I,aGF,iG,hS.at_ (yp _),rh,by rw[aF,cY];omega,h⟩
end Go.Z
