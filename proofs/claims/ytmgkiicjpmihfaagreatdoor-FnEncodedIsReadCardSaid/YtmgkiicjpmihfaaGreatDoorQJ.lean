/- Part 10 of the proof. -/
import Derived.KernelRfl
import Derived.Laws.BytesString
import Derived.Laws.Strings
import Derived.Scope
import Derived.Test.YtmgkiicjpmihfaaGreatDoorQI
set_option linter.all false
set_option maxRecDepth 20000
set_option maxHeartbeats 400000000
open List renaming length -> W, getD -> aa, map -> ar, replicate -> aT, set -> bJ, range -> cL
open UInt8 renaming ofNat -> bS
open Or renaming inl -> a_, inr -> bG
open Go.Z.Env renaming ev -> aL, put -> fU
namespace Go.Z
open Go Go.Proofs Tryz
variable {ρ:Env}{pr:Int}{L:List aK}{sb:Nat}{x:Operand}{r:fT}{ty:TypeId}{w:World}
def aBc(a:Addr)(w:World):(Instr.typeAssert (.iface 58 (.pointer (some a))) 67 186 true).run PP w= .ok (.tuple #[.iface 58 (.pointer (some a)),.bool true]) w:=by kernel_rfl
def aBd{a:Addr}(b:aL ρ x= .iface 58 (.pointer (some a))):run PP ρ (.typeAssert x 67 186 true) ty w= .ok (.value (.tuple #[.iface 58 (.pointer (some a)),.bool true])) w:=by
 have h:=aBc a w;simp only[run,execOp,b];simp[h]
def aBe{P:Program}{y:Operand}{T T':TypeId}{a b:Nat}(c:aL ρ x= .int .i64 (a:Int))(d:aL ρ y= .int .i64 (b:Int))(e:a<=281474976710656)(hb:b<=281474976710656):run P ρ (.binOp .sub T x y T') ty w= .ok (.value (.int .i64 ((a:Int) - (b:Int)))) w:=by
 rw[ag3 c d];have h:IntKind.i64.wrap ((a:Int) - (b:Int))=(a:Int) - (b:Int):=wrap_i64 _ I I;rw[h]
def abW{len cap pos off wh res:Nat}{ad:Option Addr}(h:H r w ((ah sb [.slice ad len cap,af (pos),.int .i64 pr] 84)::L))(hw:(wh=0/\res=off)\/(wh=1/\res=pos+off)\/(wh=2/\res=len+off))(hb:res<=281474976710656):Calls PP 153 #[bL sb,af off,af wh] w λe w'=>e= .returned (.tuple #[af res,.nilIface])/\H r w' ((ah sb [.slice ad len cap,af (res),.int .i64 (-1)] 84)::L):=by
 refine nV func153 ntmps153 [6,7] ?_;refine g_ 10 ?_;refine cI ?_;intro w h;refine g_ 10 ?_;refine kp [(6,8),(13,33)] (λρ w=> ∃v:Nat,Kn ρ [(8,af v)]/\H r w ((ah sb [.slice ad len cap,af (pos),.int .i64 (-1)] 84)::L)/\(v=res)) ?_ ?_
 refine g_ 5 ?_;refine au J ?_ ?_<;>intro b
 refine g_ 4 ?_;exact⟨aO 4,off,az,h,I⟩
 refine g_ 5 ?_;refine au J ?_ ?_<;>intro c
 refine g_ 9 ?_;exact⟨aO 11,pos+off,az,h,I⟩
 refine g_ 5 ?_;refine au J ?_ ?_<;>intro d
 refine g_ 10 ?_;exact⟨aO 14,len+off,az,h,I⟩
 exfalso;omega
 rintro ρ w ⟨v,⟨f,rfl⟩,h,a⟩;refine g_ 6 ?_;refine au J ?_ ?_<;>intro g
 exfalso;omega
 refine g_ 7 ?_;refine cI ?_;intro w h;refine g_ 8 ?_;subst a;exact⟨J,h⟩
def aBf{br pos ic:Nat}{iA:Option Addr}{aE aU:Addr}{x:dk}{D:List UInt8}(h:H r w ((ah br (aB x) 81)::(ah sb [.slice iA (W D) ic,af (pos),.int .i64 pr] 84)::L))(d:Gl L aE aU)(j:aY L (.slice iA (W D) ic) D)(l:x.uj= .iface 58 (bL sb))(m:W D<=140737488355328)(o:pos<=W D):Calls PP 81 #[bL br] w λe w'=> ∃er,e= .returned er/\ ∃sc z pos' p,H r w' ((ah br (aB (YX x sc z)) 81)::(ah sb [.slice iA (W D) ic,af (pos'),.int .i64 p] 84)::L)/\((er= .nilIface/\pos+4<=W D/\pos'=pos+4+num (ag D pos 4)/\pos'<=W D)\/(Er aU er/\(W D<pos+4\/W D<pos+4+num (ag D pos 4)))):=by
 rw[akM]at h;have i: ∀sc z,(aB (YX x sc z))[0]? =some (.iface 58 (bL sb)):=λsc z=>(by rw[<-l];rfl);refine iu func81 ntmps81 [2] ?_;refine g_ 10 ?_;refine cm h [0,4,8,16,20,24,28,13,35,36,40,44,48,52] ?_;intro w h;refine aC 6 ?_;refine aD J (wq (c:=4) (h1:=av.lit _) J J an) ?_;refine aQ J h J (i _ _) ?_;replace h:=h.zz [1] 0;refine lW J J J J (aH (CN (q:=28) (n:=4) h j o m d (λ_=>rfl) (by rw[zL];decide) an) ?_);rintro e a ⟨B,rfl,h⟩;rw[akN (k:=0) J (by rw[fR];omega)]at h;refine aC 6 ?_;refine g_ 3 ?_;refine ak (C_ (aE:=aE) (aU:=aU) J J) (aJ (au J ?_ ?_))<;>intro s
 refine g_ 5 ?_;refine eS J J J J (aH (Fq h (aA bZ) (d.sub aP) (Fp s)) ?_);rintro e a ⟨be,rfl,h⟩;refine g_ 3 ?_;replace h:=h.zz [1] 0;exact⟨_,J,_,_,_,_,h,bG ⟨a_ ⟨_,J⟩,a_ I⟩⟩
 have b:pos+4<=W D:=I;have t:pos+min (W D-pos) 4=pos+4:=I;have y:(D.drop pos).take 4=ag D pos 4:=rfl;rw[t,y]at h;have A:W (ag D pos 4)=4:=dK b;have f:num (ag D pos 4)<2^32:=qp;refine cM (num (ag D pos 4)) λsize g=>?_;rw[g]at f;refine g_ 12 ?_;refine ak (wq (c:=4) (h1:=av.lit _) J J an) ?_;refine d' J J ((Hk h (akP (X:=ag D pos 4) (aA bZ) A.symm I) I).mono ?_);rintro e a ⟨rfl,h⟩;refine⟨dB size,(by rw[je I,g]),?_⟩;refine g_ 8 ?_;refine au J ?_ ?_<;>intro C
 refine g_ 7 ?_;refine ak (yd J J) ?_;refine g_ 2 ?_;refine cI ?_;intro w h;rw[OU]at h;refine g_ 6 ?_;replace h:=h.zz [1] 0;exact⟨_,J,_,_,_,_,h,a_ ⟨J,b,I,b⟩⟩
 refine g_ 7 ?_;refine aX h J (i _ _) (ak (aBd J) ?_);refine g_ 10 ?_;refine jv J ?_;refine g_ 7 ?_;refine ak (yd J J) ?_;refine g_ 2 ?_;refine cI ?_;intro w h;rw[OU]at h;refine g_ 4 ?_;replace h:=h.zz [1,1] 0;refine Mq (Zu (v:=af (0)) (u:=af 1) J J J) J ((abW (off:=0) (wh:=1) (res:=pos+4) h (bG (a_ ⟨J,J⟩)) I).mono ?_);rintro e a ⟨rfl,h⟩;refine⟨_,J,?_⟩;refine g_ 10 ?_;refine ak (ye J J) (aJ (gK J ?_));refine g_ 4 ?_;replace h:=h.zz [1,1] 0;refine Mq (Zu (v:=af (0)) (u:=af 2) J J J) J ((abW (off:=0) (wh:=2) (res:=W D) h (bG (bG ⟨J,J⟩)) I).mono ?_);rintro e a ⟨rfl,h⟩;refine⟨_,J,?_⟩;refine g_ 10 ?_;refine ak (ye J J) (aJ (gK J ?_));refine g_ 8 ?_;refine ak (aBe J J I I) (ak (Xi J J) (aJ (au J ?_ ?_)))<;>intro E
 refine g_ 8 ?_;refine ak (ag3 J J) (ak (yd J J) ?_);refine g_ 2 ?_;refine cI ?_;intro w h;rw[OU]at h;refine g_ 4 ?_;refine cJ (v1:=af 0) J J J (aH (vi (zo:=0) h (aA bZ) (d.sub aP)) ?_);rintro e a ⟨be,rfl,h⟩;refine g_ 3 ?_;replace h:=h.zz [1] 0;exact⟨_,J,_,_,_,_,h,bG ⟨a_ ⟨_,J⟩,bG I⟩⟩
 refine g_ 8 ?_;replace h:=h.zz [1,1] 0;refine Mq (Zu (v:=af (pos+4+size)) (u:=af 0) J J J) J ((abW (off:=pos+4+size) (wh:=0) (res:=pos+4+size) h (a_ ⟨J,J⟩) I).mono ?_);rintro e a ⟨rfl,h⟩;refine⟨_,J,?_⟩;refine g_ 9 ?_;refine ak (ye J J) (aJ (gK J ?_));refine g_ 9 ?_;refine ak (yd J J) ?_;refine g_ 2 ?_;refine cI ?_;intro w h;rw[OU]at h;refine g_ 6 ?_;replace h:=h.zz [1] 0;exact⟨_,J,_,_,_,_,h,a_ ⟨J,b,by rw[g],I⟩⟩
variable {R:Code}{l:Nat}{σ:Type}
def UX(l:Nat)(next:Env->World->Prop)(K:ia):ia:=fun
 | .goto l',ρ,w=>bif Nat.beq l' l then next ρ w else False
 |e,ρ,w=>K e ρ w
section
variable {P:Program}{n:Nat}{K:ia}{ρ:Env}{w:World}
theorem aBg(Z9:σ->Env->World->Prop)(m:σ->Nat)(s:σ)(h:Z9 s ρ w)(round: ∀s ρ w,Z9 s ρ w->Z_ P n R (UX l (λp w'=> ∃o,m o<m s/\Z9 o p w') K) ρ w):Z_ P n (.scope (.seq (.label l) R)) K ρ w:=by
 unfold Z_ at round ⊢;intro a h1 h2 q b k cs
 have key: ∀j s a w,m s=j->a.tmps.size=n->a.defers=[]->Z9 s (mF a) w->
     ∃e a' w',up n K e a' w'/\Arrives P (lone (b.at a (.code R:: .inScope (.seq (.label l) R)::k)) cs w) b k cs e a' w':=by
   intro j
   induction j using Nat.strongRecOn with
   | _ j r=>
     intro s a w t h1 h2 u
     obtain⟨e,f,g,⟨i,q2,c⟩,d⟩:=round s _ w u a h1 h2 J b (.inScope (.seq (.label l) R)::k) cs
     cases e with
     |normal=>exact⟨_,f,g,⟨i,q2,c⟩,Steps.trans d (.one step_inScope)⟩
     |exit id=>exact⟨_,f,g,⟨i,q2,c⟩,λk' v=>d k' (by simp[exitTo,v])⟩
     | goto l'=>
       simp only[UX]at c
       cases hb:Nat.beq l' l
       . rw[hb]at c;exact c.elim
       . rw[hb]at c
         have e:=WB hb
         subst e
         obtain⟨o,x,y⟩:=c
         obtain⟨z,A,B,C,D⟩:=r (m o) (t▸x) o f g J i q2 y
         have st:=d (.code (.seq .skip R):: .inScope (.seq (.label l') R)::k) (by simp[gotoIn,findLabel])
         exact⟨z,A,B,C,.of_steps (Steps.trans st (.head step_seq (.one step_skip))) D⟩
     |ret=>exact⟨_,f,g,⟨i,q2,c⟩,d⟩
     |panic ch=>exact⟨_,f,g,⟨i,q2,c⟩,d⟩
     |outgrown=>exact⟨_,f,g,⟨i,q2,c⟩,d⟩
 obtain⟨e,a',w',E,d⟩:=key _ s a w J h1 h2 (q▸h);exact⟨e,a',w',E,.of_steps (.head step_scope (.head step_seq (.one step_label))) d⟩
def aBh(c:List (Nat×Nat))(Z9:σ->Env->World->Prop)(m:σ->Nat)(s:σ)(h:Z9 s ρ w)(round: ∀s a w',Z9 s a w'->Z_ P n R (UX l (λd f=>dP d ρ c/\ ∃b,m b<m s/\Z9 b d f) K) (ql c a ρ) w'):Z_ P n (.scope (.seq (.label l) R)) K ρ w:=by
 refine aBg (λs a w'=>dP a ρ c/\Z9 s a w') m s ⟨dP.refl _ _,h⟩ λs a w' ⟨g,i⟩=>?_;have:=round s a w' i;rw[g.Jj]at this;refine this.mono λe d f q=>?_
 cases e with
 | goto l'=>
   simp only[UX]at q ⊢
   cases hb:Nat.beq l' l
   . rw[hb]at q;exact q
   . rw[hb]at q
     obtain⟨j,b,q2,k⟩:=q;exact⟨b,q2,j,k⟩
 |_=>exact q
end
variable {E:List UInt8}
def xk{α:Type}{c:Prop}[Decidable c]{a b:Nat×α}(h:(if c then a else b).1=1)(e:a.1≠1): ¬c/\b.1=1/\(if c then a else b)=b:=by
 by_cases d:c
 rw[ao d]at h;exact absurd h e
 rw[aj d]at h ⊢;exact⟨d,h,J⟩
def Il{α:Type}{a:α}:((2:Nat),a).1≠1:=by show(2:Nat)≠1;decide
def Lb{α:Type}{a:α}:((0:Nat),a).1≠1:=by show(0:Nat)≠1;decide
def ak7{aR aq room:Nat}{E:List UInt8}: ∀f at_ s,(gp aR aq room E f at_ s).1=1->at_<=(gp aR aq room E f at_ s).2.2
 |0,at_,s,h=>by simp[gp]at h
 | f+1,at_,s,h=>by
  rw[Ih]at h ⊢;obtain⟨_,h,e⟩:=xk h Il;rw[e];clear e;obtain⟨_,h,e⟩:=xk h Il;rw[e];clear e;obtain⟨_,h,e⟩:=xk h Lb;rw[e];clear e;by_cases a:(iM aR aq E s (num (ag E at_ 3)/2 % 4) (num (ag E at_ 3)/8) (at_+3)).1≠1
  rw[ao a]at h;exact absurd h a
  rw[aj a]at h ⊢;obtain⟨_,h,e⟩:=xk h Lb;rw[e];clear e;by_cases b:num (ag E at_ 3) % 2=1
  rw[ao b];exact aM (lV _ _) (lV _ _)
  rw[aj b]at h ⊢;exact aM (aM (lV _ _) (lV _ _)) (ak7 f _ _ h)
def aBi(h:(jF E).1=1):5<=(jF E).2.2.2.2.2:=by
 unfold jF at h ⊢;dsimp only at h ⊢;obtain⟨_,h,e⟩:=xk h Il;rw[e];clear e;obtain⟨_,h,e⟩:=xk h Il;rw[e];clear e;obtain⟨_,h,e⟩:=xk h Il;rw[e];clear e;obtain⟨_,h,e⟩:=xk h Lb;rw[e];clear e;obtain⟨_,h,e⟩:=xk h Lb;rw[e];clear e;show 5<=5+_+_+_;omega
def ak8{known sum:Bool}{size:Nat}{x:Nat×Fs×Nat}(h:(qJ E known size sum x).1=1):x.1=1/\x.2.2<=(qJ E known size sum x).2.2:=by
 have h1:=UN h;refine⟨h1.1,?_⟩;unfold qJ at h ⊢;rw[aj (by simp[h1.1])]at h ⊢;split at h
 cases h
 rename_i h2;rw[aj h2];split at h
 rename_i a;rw[ao a];split at h
 cases h
 rename_i b;rw[aj b];exact lV _ _
 rename_i a;rw[aj a];exact aW _
def ak9{room:Nat}(h:(ij E room).1=1):4<=(ij E room).2.2:=by
 unfold ij at h ⊢;dsimp only at h ⊢;split at h
 cases h
 rename_i h1;rw[aj h1];split at h
 rename_i h2;rw[ao h2];split at h
 cases h
 rename_i e;rw[aj e];split at h
 cases h
 rename_i d;rw[aj d];show 4<=8+_;omega
 rename_i h2;rw[aj h2];split at h
 cases h
 rename_i e;rw[aj e]
 have f:(jF E).1=1:=by
  unfold p9 at h;dsimp only at h;split at h
  rename_i d;exact absurd h d
  rename_i d;exact oB.1 d
 rw[akH f]at h ⊢;unfold Fr.V at h ⊢;have a:=ak8 h;have b:=ak7 _ _ _ a.1;have c:=aBi f;omega
def aBj{D:List UInt8}: ∀f g at_ out,W D<=f+at_->W D<=g+at_->qy D (f+1) at_ out=qy D (g+1) at_ out:=by
 intro f
 induction f with
 | zero=>
   intro g at_ out h1 h2
   unfold qy
   rw[aj I,aj I]
 | succ f c=>
   intro g at_ out h1 h2
   unfold qy
   by_cases h:at_<W D
   . rw[ao h,ao h]
     dsimp only
     by_cases a:(ij (D.drop at_) (4194304-W out)).1≠1
     . rw[ao a,ao a]
     . rw[aj a,aj a]
       have hp:=ak9 (oB.1 a)
       obtain⟨b,rfl⟩: ∃b,g=b+1:=⟨g-1,I⟩
       exact c b _ _ I I
   . rw[aj h,aj h]
def DF(D:List UInt8)(at_:Nat)(out:List UInt8):Nat×List UInt8:=qy D (W D+1) at_ out
section
variable {D:List UInt8}{at_:Nat}{out:List UInt8}
def abX(h:at_<W D):DF D at_ out=if(ij (D.drop at_) (4194304-W out)).1≠1 then((ij (D.drop at_) (4194304-W out)).1,[])else DF D (at_+(ij (D.drop at_) (4194304-W out)).2.2) (out++(ij (D.drop at_) (4194304-W out)).2.1):=by
 have b:DF D at_ out=if at_<W D then(if(ij (D.drop at_) (4194304-W out)).1≠1 then((ij (D.drop at_) (4194304-W out)).1,[])else qy D (W D) (at_+(ij (D.drop at_) (4194304-W out)).2.2) (out++(ij (D.drop at_) (4194304-W out)).2.1))else(1,out):=rfl;rw[b,ao h];by_cases a:(ij (D.drop at_) (4194304-W out)).1≠1
 rw[ao a,ao a]
 rw[aj a,aj a];have hp:=ak9 (oB.1 a);obtain⟨g,c⟩: ∃g,W D=g+1:=⟨W D-1,I⟩;have:=aBj (D:=D) g (W D) (at_+(ij (D.drop at_) (4194304-W out)).2.2) (out++(ij (D.drop at_) (4194304-W out)).2.1) I I;rw[<-c]at this;exact this
def aBk(h:W D<=at_):DF D at_ out=(1,out):=by
 have a:DF D at_ out=if at_<W D then _ else(1,out):=rfl;rw[a,aj I]
def UY(h:at_<W D)(a:(ij (D.drop at_) (4194304-W out)).1≠1):(DF D at_ out).1=(ij (D.drop at_) (4194304-W out)).1:=by
 rw[abX h,ao a]
def Lc{k q:Nat}:ag (D.drop at_) q k=ag D (at_+q) k:=by unfold ag;rw[kG]
def aBl(h:at_<W D)(a:W D<at_+4):(DF D at_ out).1=2:=by
 have e:(ij (D.drop at_) (4194304-W out)).1=2:=(by unfold ij;rw[ao (by rw[cr];omega)]);rw[UY h (by rw[e];decide),e]
def aBm(c:at_+4<=W D){m:Nat}(hm:num (ag D at_ 4)=m)(h1:407710288<=m)(h2:m<=407710303):((W D<at_+8\/W D<at_+8+num (ag D (at_+4) 4))->(DF D at_ out).1=2)/\(¬(W D<at_+8\/W D<at_+8+num (ag D (at_+4) 4))->DF D at_ out=DF D (at_+(8+num (ag D (at_+4) 4))) out):=by
 have e:ij (D.drop at_) (4194304-W out)=(if W D-at_<8 then(2,[],0)else if W D-at_<8+num (ag D (at_+4) 4)then(2,[],0)else(1,[],8+num (ag D (at_+4) 4))):=(by unfold ij;dsimp only;rw[cr,aj I,Lc,Lc,kN,hm,ao I]);constructor
 intro b
 have e2:(ij (D.drop at_) (4194304-W out)).1=2:=by
  rw[e];by_cases a:W D-at_<8
  rw[ao a]
  rw[aj a,ao I]
 rw[UY I (by rw[e2];decide),e2]
 intro b;rw[aj I,aj I]at e;rw[abX I,e,aj (by show ¬(1:Nat)≠1;decide),dN]
def ak_(a:at_+4<=W D){m:Nat}(hm:num (ag D at_ 4)=m)(h1: ¬(407710288<=m/\m<=407710303))(h2:m≠4247762216\/W D<at_+5):(DF D at_ out).1=2:=by
 have e:ij (D.drop at_) (4194304-W out)=(2,[],0):=(by unfold ij;dsimp only;rw[cr,aj I,Lc,kN,hm,aj I,ao I]);rw[UY I (by rw[e];decide),e]
def ak'(a:at_+5<=W D)(hm:num (ag D at_ 4)=4247762216):ij (D.drop at_) (4194304-W out)=p9 (D.drop at_) (4194304-W out):=by
 unfold ij;dsimp only;rw[cr,aj I,Lc,kN,hm,aj an,aj I]
end
variable {d hp:Nat}
theorem aBn{D:List UInt8}{one id wide x:Nat}(hd:(aa D (hp+4) 0).toNat=d)(a:(aa D (hp+5) 0).toNat=x)(b:(if dM d=true then 0 else 1)=one)(hi:iz d=id)(hw:eF d=wide):jF (D.drop hp)=if ¬d&&&8=0 then(2,0,0,false,false,0)else if W D-hp<5+id+wide+one then(2,0,0,false,false,0)else if ¬num (ag D (hp+(5+one)) id)=0 then(2,0,0,false,false,0)else if wide=8/\64<=(aa D (hp+(5+one+id+7)) 0).toNat then(0,0,0,false,false,0)else if 8388608<(if dM d=true then num (ag D (hp+(5+one+id)) wide)+(if wide=2 then 256 else 0)else p8 x)then(0,0,0,false,false,0)else(1,num (ag D (hp+(5+one+id)) wide)+(if wide=2 then 256 else 0),(if dM d=true then num (ag D (hp+(5+one+id)) wide)+(if wide=2 then 256 else 0)else p8 x),decide (0<wide),decide (¬d&&&4=0),5+one+id+wide):=by
 subst b hi hw a;unfold jF;dsimp only;rw[abz,show byte D (hp+4)=d from hd,cr,Lc,Lc,abz,abz];rfl
def ala{D:List UInt8}{out:List UInt8}(a:hp+5<=W D)(hm:num (ag D hp 4)=4247762216)(h:(jF (D.drop hp)).1≠1):(DF D hp out).1=(jF (D.drop hp)).1:=by
 have e:(ij (D.drop hp) (4194304-W out)).1=(jF (D.drop hp)).1:=(by rw[ak' a hm];unfold p9;dsimp only;rw[ao h]);rw[UY I (by rw[e];exact h),e]
def abY(h:d<=255):(if 2^(d/64)=1/\ ¬dM d=true then 0 else 2^(d/64))=eF d:=by
 have a:d/64=0\/d/64=1\/d/64=2\/d/64=3:=I;unfold eF;rcases a with e|e|e|e<;>rw[e]
 by_cases hs:dM d=true
 rw[aj (λx=>x.2 hs)];simp[hs]
 rw[ao ⟨J,hs⟩];simp[hs]
 rw[aj (λx=>absurd x.1 an)];rfl
 rw[aj (λx=>absurd x.1 an)];rfl
 rw[aj (λx=>absurd x.1 an)];rfl
def id_eq:(if d % 4=0 then 0 else 2^(d % 4-1))=iz d:=by
 have a:d % 4=0\/d % 4=1\/d % 4=2\/d % 4=3:=I;unfold iz;rcases a with e|e|e|e<;>rw[e]<;>rfl
variable {aE aU:Addr}{F:List aK}{X:List UInt8}{P br fw i k n q:Nat}{sc:Nat->UInt8}{y:Operand}{c2 p:Prop}{x:dk}{T':TypeId}
def HA(x:dk)(one:Bool)(z:Int)(sc:Nat->UInt8)(sm d_:Bool)(rem n:Nat)(v:Nat->Nat)(b:Nat->UInt8)(c:Nat):dk:={x with one:=one,oM:=z,gF:=sc,sum:=sm,d_:=d_,rem:=rem,xl:=n,xv:=v,xb:=b,xc:=c}
def HY(x:dk)(iD:Bool)(r1 r2 r3 hb:Nat)(st:Nat->Value):dk:={x with iD:=iD,r1:=r1,r2:=r2,r3:=r3,hb:=hb,st:=st}
section
variable {x:dk}{one iD:Bool}{z z':Int}{sc sc':Nat->UInt8}{sm d_ q:Bool}{rem n n' r1 r2 r3 hb OT:Nat}{v v':Nat->Nat}{b b':Nat->UInt8}{c c':Nat}{st:Nat->Value}{u:Value}
def aBo:aB x=aB (HA x x.one x.oM x.gF x.sum x.d_ x.rem x.xl x.xv x.xb x.xc):=rfl
def aBp:aB (YX (HA x one z sc sm d_ rem n v b c) sc' z')=aB (HA x one z' sc' sm d_ rem n v b c):=rfl
def aBq:aB (XX (HA x one z sc sm d_ rem n v b c) n' v' b' c')=aB (HA x one z sc sm d_ rem n' v' b' c'):=rfl
def aBr:(aB (HA x one z sc sm d_ rem n v b c)).set 3 (.bool q)=aB (HA x q z sc sm d_ rem n v b c):=rfl
def aBs:(aB (HA x one z sc sm d_ rem n v b c)).set 2 (.bool q)=aB (HA x one z sc q d_ rem n v b c):=rfl
def alb:(aB (HA x one z sc sm d_ rem n v b c)).set 4 (.bool q)=aB (HA x one z sc sm q rem n v b c):=rfl
def O8:(aB (HA x one z sc sm d_ rem n v b c)).set 5 (cR OT)=aB (HA x one z sc sm d_ OT n v b c):=rfl
def aBt:(aB (HA x one z sc sm d_ rem n v b c)).set 6 (.int .i64 z')=aB (HA x one z' sc sm d_ rem n v b c):=rfl
def alc:(aB (HA x one z sc sm d_ rem n v b c))[6]? =some (.int .i64 z):=rfl
def aBu:(aB (HA x one z sc sm d_ rem n v b c))[2]? =some (.bool sm):=rfl
def ald:(aB (HA x one z sc sm d_ rem n v b c))[3]? =some (.bool one):=rfl
def Ld:(aB (HA x one z sc sm d_ rem n v b c))[5]? =some (cR rem):=rfl
def abZ{q:Nat}(a:q=28+k)(h:k+W X<=16):dm (aB (HA x one z sc sm d_ rem n v b c)) q (X.map u8)=aB (HA x one z (eH sc k X) sm d_ rem n v b c):=by rw[aae a h];rfl
def aBv:aB x=aB (HY x x.iD x.r1 x.r2 x.r3 x.hb x.st):=rfl
def aBw:(aB (HY x iD r1 r2 r3 hb st)).set 1 (.bool q)=aB (HY x q r1 r2 r3 hb st):=rfl
def aBx:(aB (HY x iD r1 r2 r3 hb st)).set 9 (bR n)=aB (HY x iD n r2 r3 hb st):=rfl
def aBy:(aB (HY x iD r1 r2 r3 hb st)).set 10 (bR n)=aB (HY x iD r1 n r3 hb st):=rfl
def aBz:(aB (HY x iD r1 r2 r3 hb st)).set 11 (bR n)=aB (HY x iD r1 r2 n hb st):=rfl
def aBA:(aB (HY x iD r1 r2 r3 hb st)).set 13 (af n)=aB (HY x iD r1 r2 r3 n st):=rfl
end
def ale{rb:Nat}{zo:Int}{v:Value}(c2:Prop) [Decidable c2](h:H r w F)(f:(ah rb (aB x) 81)∈F)(a:Gl F aE aU)(c:v=if c2 then .iface 199 (.pointer (some aE))else .iface 199 (.pointer (some aU))):Calls PP 79 #[bL rb,.int .i64 zo,v] w λe w'=> ∃er,e= .returned er/\H r w' F/\(c2->er= .iface 199 (.pointer (some aE)))/\(¬c2-> ∃b,er= .iface 182 (bL b)):=by
 by_cases h2:c2
 rw[ao h2]at c;subst c;refine(atY (rb:=rb) (x:=x) h a).mono ?_;rintro e g ⟨rfl,h⟩;exact⟨_,J,h,λ_=>rfl,λd=>absurd h2 d⟩
 rw[aj h2]at c;subst c;obtain⟨l,T,i⟩:=a.bU;refine(R5 i a.ne h f a).mono ?_;rintro e g ⟨be,rfl,h⟩;exact⟨_,J,h,λd=>absurd d h2,λ_=>⟨_,J⟩⟩
def aBB{x:Operand}{c:Prop}[Decidable c] [Decidable c2](a:aL ρ x=if c then .nilIface else if c2 then .iface 199 (.pointer (some aE))else .iface 199 (.pointer (some aU)))(e: ¬c)(d:aL ρ y= .iface 199 (.pointer (some aE)))(h:H r w L)(b:Gl L aE aU):run PP ρ (.binOp .eql 103 x y T') ty w= .ok (.value (.bool (decide c2))) w:=by
 rw[aj e]at a;by_cases h2:c2
 rw[ao h2]at a;rw[NA a d];simp[h2]
 rw[aj h2]at a;obtain⟨l,T,f⟩:=b.bU;obtain⟨l',T',g⟩:=b.bE;rw[R4 a d h b.ne f g];simp[h2]
section
variable {x:dk}{one:Bool}{z:Int}{sc:Nat->UInt8}{sm d_:Bool}{rem n:Nat}{v:Nat->Nat}{b:Nat->UInt8}{c:Nat}
def UZ(hi:i<16):(aB (HA x one z sc sm d_ rem n v b c))[28+i]? =some (u8 (sc i)):=
 match i,hi with
 |0,_=>rfl|1,_=>rfl|2,_=>rfl|3,_=>rfl|4,_=>rfl|5,_=>rfl|6,_=>rfl|7,_=>rfl
 |8,_=>rfl|9,_=>rfl|10,_=>rfl|11,_=>rfl|12,_=>rfl|13,_=>rfl|14,_=>rfl|15,_=>rfl
 |n+16,h=>absurd h I
def alf{m d:Nat}(h:(ah br (aB (HA x one z sc sm d_ rem n v b c)) 81)∈F)(hm:m=W X)(e:m<=d)(g:k+W X<=16)(f: ∀j,j<W X->sc (k+j)=aa X j 0):aY F (.slice (some ⟨br,28+k,none⟩) m d) X:=by
 subst hm
 exact⟨_,_,_,J,J,e,λ_=>⟨br,28+k,_,_,J,h,Rd.of λj a=>by
   rw[cB]at a
   rw[fL,UZ I,f j a,kP,gW a,bX,gW a];rfl⟩⟩
end
def fw0(hd:d<=255)(h1:2^(d/64)=1)(h2:(!decide (¬d&&&32=0))=true):0=eF d:=by
 rw[<-abY hd,ao ⟨h1,λe=>by unfold dM at e;rw[e]at h2;cases h2⟩]
def fw1(hd:d<=255)(h2:(!decide (¬d&&&32=0))=false):2^(d/64)=eF d:=by
 rw[<-abY hd,aj (λe=>e.2 (by unfold dM;simpa using h2))]
def fw2(hd:d<=255)(h1: ¬2^(d/64)=1):2^(d/64)=eF d:=by
 rw[<-abY hd,aj (λe=>h1 e.1)]
def aBC(hd:d<=255):2^(d/64)<=8:=aM (dF an (I:d/64<=3)) an
def aBD{d:Nat}:2^(d % 4-1)<=4:=aM (dF an (I:d % 4-1<=2)) an
def aBE{P:Program}{T:TypeId}{x z:Operand}{b:Nat}{len s:Nat}[hu:cu P T (.array len T')] [hs:Sz P T' s]{u d:Int}{k k':IntKind}{a c:Nat}(e:aL ρ x= .pointer (some ⟨b,q,none⟩))(f:aL ρ y= .int k u)(g:aL ρ z= .int k' d) [h1:av u a] [h2:av d c](l:a<=c)(h:c<=len)(m:a<len):run P ρ (.slice T x (some y) (some z) none) ty w= .ok (.value (.slice (some ⟨b,q+a*s,none⟩) (c-a) (len-a))) w:=by
 have e2:=hs.size w;have i:(Instr.sliceBound (.int k (a:Int)) c .sliceB).run P w= .ok a w:=(by simp[Instr.sliceBound,asIntOf];omega);have j:(Instr.sliceBound (.int k' (c:Int)) len .sliceAlen).run P w= .ok c w:=(by simp[Instr.sliceBound,asIntOf,h]);have: ¬len=a:=I;simp[run,execOp,e,f,g,h1.eq,h2.eq,Instr.sliceAt,Instr.sureAddr,Instr.sliceBounds,underlying,program,Sem.run,hu.eq,e2,i,j,this,add_plain]
def alg{one:Bool}{z:Int}{sm d_:Bool}{rem:Nat}{v:Nat->Nat}{b:Nat->UInt8}{c:Nat}(a:q=28+i)(hi:i<16):(aB (HA x one z sc sm d_ rem n v b c))[q]? =some (u8 (sc i)):=by rw[a];exact UZ hi
def aBF{x bs:Nat}(a:x<=255)(hb:2^(x/2^3+10)=bs):bs+bs/8*(x % 2^3)=p8 x:=by
 unfold p8;have e:min (10+x/8) 50=x/2^3+10:=I;rw[e,hb]
def aBG{x:Nat}(a:x<=255):2^(x/2^3+10)<=2199023255552:=aM (dF an (I:x/2^3+10<=41)) an
def aBH{D:List UInt8}(a:q+n<=W D)(hi:i<n)(b: ¬(aa D (q+i) 0).toNat=0): ¬num (ag D q n)=0:=by
 intro h;have c:=dK a;have e1:=tR (ag D q n) i I;rw[lD hi]at e1;have e2:num (ag D q n)=num ((ag D q n).take (i+1))+256^(i+1)*num ((ag D q n).drop (i+1)):=(by(conv=>lhs;rw[<-uD (i+1) (ag D q n),Cb]);rw[fR,l9 I]);have h1:0<(aa D (q+i) 0).toNat*2^(8*i):=Nat.mul_pos I (Nat.pow_pos an);omega
def ab0{D:List UInt8}{q:Nat}: ∀n,q+n<=W D->(∀j,j<n->(aa D (q+j) 0).toNat=0)->num (ag D q n)=0
 |0,_,_=>by unfold ag;rw[qi];rfl
 |n+1,b,a=>by have c:=dK b;have e:=tR (ag D q (n+1)) n I;rw[lD I,a n I,je I]at e;have e2:(ag D q (n+1)).take n=ag D q n:=(by unfold ag;rw[Mg,l9 I]);rw[e,e2,ab0 n I (λj d=>a j I)];simp
def aBI(hd:d<=255):eF d=0\/eF d=1\/eF d=2\/eF d=4\/eF d=8:=by
 have a:d/64=0\/d/64=1\/d/64=2\/d/64=3:=I;unfold eF;rcases a with e|e|e|e<;>rw[e]
 by_cases hs:dM d=true
 right;left;simp[hs]
 left;simp[hs]
 right;right;left;rfl
 right;right;right;left;rfl
 right;right;right;right;rfl
def aBJ{D:List UInt8}(h:P+1<=W D):(aa D P 0).toNat=num (ag D P 1):=by
 have h1:=dK h;have:=ZA (X:=ag D P 1) I;rw[lD an,je I,kN]at this;exact this
def aBK{D:List UInt8}(b: ∀j,j<n->sc (q+j)=aa D (P+j) 0)(c:q+n<=16)(d:P+n<=W D):((cL (16-q)).map λj=>sc (q+j)).take n=ag D P n:=by
 apply nR;intro j;rw[qg];split
 rename_i a;rw[kP,Ah I,uE,b _ a];unfold ag;rw[qg,ao a,nQ,bX,gW I];rfl
 rename_i a;rw[gB (by rw[dK I];omega)]
section
variable {r:fT}{w:World}{F:List aK}{br q P:Nat}{D:List UInt8}{x:dk}{one:Bool}{z:Int}{sc:Nat->UInt8}{sm d_:Bool}{rem n:Nat}{v:Nat->Nat}{b:Nat->UInt8}{c:Nat}
def ab1(hm:(ah br (aB (HA x one z sc sm d_ rem n v b c)) 81)∈F)(d:q<=16):aY F (.slice (some ⟨br,28+q*1,none⟩) (16-q) (16-q)) ((cL (16-q)).map λj=>sc (q+j)):=by
 rw[fg];exact alf hm (by simp) (aW _) (by simp;omega) (λj a=>by simp at a;simp[a])
def ab2(h:p:=by rintro e w1 ⟨rfl,h⟩;exact⟨by rw[aBK hX hq hP],h⟩):p:=h
def aBL(h:H r w F)(hm:(ah br (aB (HA x one z sc sm d_ rem n v b c)) 81)∈F)(hq:q+2<=16)(hP:P+2<=W D)(hX: ∀j,j<2->sc (q+j)=aa D (P+j) 0):Calls PP 85 #[.slice (some ⟨br,28+q*1,none⟩) (16-q) (16-q)] w λe w'=>e= .returned (D3 (num (ag D P 2)))/\H r w' F:=by
 refine(Sb h (ab1 hm I) (by simp;omega)).mono ?_;exact ab2
def aBM(h:H r w F)(hm:(ah br (aB (HA x one z sc sm d_ rem n v b c)) 81)∈F)(hq:q+4<=16)(hP:P+4<=W D)(hX: ∀j,j<4->sc (q+j)=aa D (P+j) 0):Calls PP 80 #[.slice (some ⟨br,28+q*1,none⟩) (16-q) (16-q)] w λe w'=>e= .returned (bR (num (ag D P 4)))/\H r w' F:=by
 refine(Hk h (ab1 hm I) (by simp;omega)).mono ?_;exact ab2
def aBN(h:H r w F)(hm:(ah br (aB (HA x one z sc sm d_ rem n v b c)) 81)∈F)(hq:q+8<=16)(hP:P+8<=W D)(hX: ∀j,j<8->sc (q+j)=aa D (P+j) 0):Calls PP 86 #[.slice (some ⟨br,28+q*1,none⟩) (16-q) (16-q)] w λe w'=>e= .returned (cR (num (ag D P 8)))/\H r w' F:=by
 refine(ZC h (ab1 hm I) (by simp;omega)).mono ?_;exact ab2
end
def ab3{D:List UInt8}(h:fw=n)(a:n≠2):num (ag D P n)=num (ag D P fw)+(if fw=2 then 256 else 0):=by subst h;rw[aj a];rfl
def aBO{D:List UInt8}(h:fw=2):256+num (ag D P 2)=num (ag D P fw)+(if fw=2 then 256 else 0):=by subst h;rw[ao J];exact uC _ _
def O9{D:List UInt8}(a:n<=8):num (ag D P n)<=aN .u64:=by
 have h1:num (ag D P n)<2^(8*n):=qp;have h2:2^(8*n)<=2^64:=dF an I;have b:(2:Nat)^64=aN .u64+1:=rfl;omega
def aBP{D:List UInt8}{P:Nat}:num (ag D P 2)<=65535:=by
 have h1:num (ag D P 2)<2^(8*2):=qp;omega
def alh{D:List UInt8}:num (ag D P 4)<=aN .u64:=O9 an
def ali{D:List UInt8}:256+num (ag D P 2)<=aN .u64:=by
 have:= @aBP D P;simp only[aN];omega
def U0(h:fw=n)(a:0<n):false=!decide (0<fw):=by subst h;rw[sL a];rfl
def aBQ(h:fw=0):true=!decide (0<fw):=by subst h;rfl
def aBR{X:Nat×Nat×Nat×Bool×Bool×Nat}{c1 e f:Prop}[Decidable c1] [Decidable c2] [Decidable e] [Decidable f]{a b c:Nat×Nat×Bool×Bool×Nat}{Z_:Nat}{R:Nat×Nat×Nat×Bool×Bool×Nat}(h:X=if c1 then(2,a)else if c2 then(2,a)else if e then(2,a)else if f then(0,b)else if 8388608<Z_ then(0,c)else R)(h1: ¬c1)(h2: ¬c2)(j: ¬e)(d:X.1≠0):X=R/\Z_<=8388608:=by
 rw[aj h1,aj h2,aj j]at h;by_cases g:f
 rw[ao g]at h;rw[h]at d;exact absurd J d
 rw[aj g]at h;by_cases i:8388608<Z_
 rw[ao i]at h;rw[h]at d;exact absurd J d
 rw[aj i]at h;exact⟨h,I⟩
def aBS(hd:d<=255)(hs:dM d=true):0<eF d:=by
 have a:d/64=0\/d/64=1\/d/64=2\/d/64=3:=I;unfold eF;rcases a with e|e|e|e<;>rw[e]
 simp[hs]
 show 0<2;decide
 show 0<4;decide
 show 0<8;decide
section
variable {x:dk}{one iD:Bool}{z z':Int}{sc:Nat->UInt8}{sm d_ q:Bool}{rem n r1 r2 r3 hb:Nat}{v:Nat->Nat}{b:Nat->UInt8}{c:Nat}{st:Nat->Value}{u:Value}{S nn cc oo:Nat}{wo:Option Nat}
def aBT:(aB (HY (HA x one z sc sm d_ rem n v b c) iD r1 r2 r3 hb st)).set 3 (.bool q)=aB (HY (HA x q z sc sm d_ rem n v b c) iD r1 r2 r3 hb st):=rfl
def aBU:(aB (HY (HA x one z sc sm d_ rem n v b c) iD r1 r2 r3 hb st)).set 6 (.int .i64 z')=aB (HY (HA x one z' sc sm d_ rem n v b c) iD r1 r2 r3 hb st):=rfl
def aBV(h:x.wA=aI wo):aB (HY (HA x one z sc sm d_ rem n v b c) iD r1 r2 r3 hb st)=aB (WX (HY (HA x one z sc sm d_ rem n v b c) iD r1 r2 r3 hb st) x.wS wo x.wN x.wC x.wO):=by unfold WX;rw[<-h];rfl
def aBW:(aB (WX (HY x iD r1 r2 r3 hb st) S wo nn cc oo)).set 19 u=aB (WX (HY x iD r1 r2 r3 hb (fF st 0 u)) S wo nn cc oo):=rfl
def aBX:(aB (WX (HY x iD r1 r2 r3 hb st) S wo nn cc oo)).set 20 u=aB (WX (HY x iD r1 r2 r3 hb (fF st 1 u)) S wo nn cc oo):=rfl
def aBY:(aB (WX (HY x iD r1 r2 r3 hb st) S wo nn cc oo)).set 21 u=aB (WX (HY x iD r1 r2 r3 hb (fF st 2 u)) S wo nn cc oo):=rfl
end
def U1{D out:List UInt8}{p:Nat}(a:DF D p out=DF D q out)(h:(DF D q out).1=2):(DF D p out).1≠1:=by rw[a,h];decide
def ab4{D out:List UInt8}{p:Nat}(a:DF D p out=DF D q out)(b:q+5<=W D)(hm:num (ag D q 4)=4247762216)(h:(jF (D.drop q)).1=2):(DF D p out).1≠1:=by
 rw[a,ala b hm (by rw[h];decide),h];decide
def alj(h:p:=by refine g_ 5 ?_;refine eS J J J J (aH (re h (aA bZ) (hG.sub aP)) ?_);rintro e w1 ⟨be,rfl,h⟩;refine g_ 3 ?_;replace h:=h.zz [2,1,2] 0;exact⟨_,J,bG (a_ ⟨a_ ⟨_,J⟩,U1 g8 (ak_ h4 Le I (a_ Em)),[_,_,_],h⟩)⟩):p:=h
def aBZ{pos ic:Nat}{iA:Option Addr}{D out:List UInt8}{wo:Option Nat}{l:List Value}(h:H r w ((ah br (aB x) 81)::(ah sb [.slice iA (W D) ic,af (pos),.int .i64 pr] 84)::(wo,C l 5)::L))(hG:Gl L aE aU)(hD:aY L (.slice iA (W D) ic) D)(qH:x.uj= .iface 58 (bL sb))(kK:W D<=140737488355328)(lZ:pos<=W D)(hwA:x.wA=aI wo)(kB:W l=x.wC)(mI:wo=none->x.wC=0)(hon:x.one=true\/pos<W D)(hV:(DF D pos out).1≠0):Calls PP 76 #[bL br] w λe w'=> ∃er,e= .returned er/\((er= .iface 199 (.pointer (some aE))/\DF D pos out=(1,out)/\ ∃Z,H r w' (Z++L))\/(Er aU er/\(DF D pos out).1≠1/\ ∃Z,H r w' (Z++L))\/(er= .nilIface/\ ∃hp pos' my sm d_ rem z sc xl xv xb xc nf xj Br size bO,H r w' ((ah br (aB (WX (HY (HA x true z sc sm d_ rem xl xv xb xc) true 1 4 8 0 (fF (fF (fF x.st 0 (.slice none 0 0)) 1 (.slice none 0 0)) 2 (.slice none 0 0))) bO nf 0 xj 0)) 81)::(ah sb [.slice iA (W D) ic,af (pos'),.int .i64 my] 84)::(nf,C Br 5)::L)/\W Br=xj/\(nf=none->xj=0)/\pos<=hp/\hp+5<=pos'/\pos'<=W D/\DF D pos out=DF D hp out/\num (ag D hp 4)=4247762216/\jF (D.drop hp)=(1,size,bO,!d_,sm,pos'-hp)/\bO<=8388608/\(d_=false->rem=size)/\rem<=aN .u64/\(sm=true->XI xl xv xb xc []))):=by
 rw[aBo]at h;have fY: ∀o z sc sm un rm n v b c,(aB (HA x o z sc sm un rm n v b c))[0]? =some (.iface 58 (bL sb)):=λo z sc sm un rm n v b c=>(by rw[<-qH];rfl);obtain⟨T0,Im⟩:=hG.g0;obtain⟨i0,s_⟩:=dw Im;obtain⟨T2,aB0⟩:=hG.g2;obtain⟨i2,wX⟩:=dw aB0;refine iu func76 ntmps76 [2] ?_;refine g_ 4 ?_;refine aBh (σ:=Nat×Int×Bool×Int×(Nat->UInt8)) [(2,26),(28,347)] (λ⟨f,G,one,z,sc⟩ ρ w=>Kn ρ []/\H r w ((ah br (aB (HA x one z sc x.sum x.d_ x.rem x.xl x.xv x.xb x.xc)) 81)::(ah sb [.slice iA (W D) ic,af (f),.int .i64 G] 84)::(wo,C l 5)::L)/\(f<=W D)/\(DF D pos out=DF D f out)/\(one=true\/f<W D)/\(pos<=f)) (λ⟨f,G,one,z,sc⟩=>W D-f) (pos,pr,x.one,x.oM,x.gF) ⟨az,h,lZ,J,hon,(aW _)⟩ ?_;rintro⟨f,G,one,z,sc⟩ ρ w ⟨⟨mn,rfl⟩,h,td,g8,CH,Ct⟩;refine g_ 6 ?_;refine cm h [0,4,8,16,20,24,28,13,35,36,40,44,48,52] ?_;intro w h;refine aC 6 ?_;refine aD J (wq (c:=4) (h1:=av.lit _) J J an) ?_;refine aQ J h J (fY _ _ _ _ _ _ _ _ _ _) ?_;replace h:=h.zz [1] 0;refine lW J J J J (aH (CN (q:=28) (n:=4) h (hD.sub aP) td kK (hG.sub aP) (λ_=>rfl) (by rw[zL];omega) an) ?_);rintro e w1 ⟨s,rfl,h⟩;rw[abZ (k:=0) J (by rw[fR];omega)]at h;refine aC 6 ?_;refine g_ 3 ?_;refine ak (C_ (aE:=aE) (aU:=aU) J J) (aJ (au J ?_ ?_))<;>intro EZ
 refine g_ 5 ?_;refine ak (aBB (aE:=aE) (aU:=aU) J EZ J h (hG.sub aP)) (dg (eM (t:=47) J (λK=>?_) (λK=>?_)))
 refine g_ 3 ?_;refine dI J J J (run_load h J ald) J (dI J J J (k8 J) J ?_);refine g_ 2 ?_;refine eY J ?_ ?_<;>intro EI
 have h1:=CH.resolve_right I;rw[h1]at EI;cases EI
 refine g_ 6 ?_;refine eS J J J J (aH (ale (W D-f=0) h (aA bZ) (hG.sub aP) (aj EZ)) ?_);rintro e w1 ⟨er,rfl,h,x_,S⟩;refine g_ 3 ?_;replace h:=h.zz [2,1,2] 0;exact⟨_,J,a_ ⟨x_ K,g8.trans (aBk I),[_,_,_],h⟩⟩
 refine g_ 7 ?_;refine gK J ?_;refine g_ 6 ?_;refine eS J J J J (aH (ale (W D-f=0) h (aA bZ) (hG.sub aP) (aj EZ)) ?_);rintro e w1 ⟨er,rfl,h,x_,S⟩;refine g_ 3 ?_;replace h:=h.zz [2,1,2] 0;exact⟨_,J,bG (a_ ⟨a_ (S K),U1 g8 (aBl I I),[_,_,_],h⟩)⟩
 have h4:f+4<=W D:=I;have O7:f+min (W D-f) 4=f+4:=I;have CI:(D.drop f).take 4=ag D f 4:=rfl;rw[O7,CI]at h;have FC:W (ag D f 4)=4:=dK h4;refine cM (num (ag D f 4)) λmg Le=>?_;refine g_ 7 ?_;refine ak (wq (c:=4) (h1:=av.lit _) J J an) ?_;refine d' J J ((Hk h (alf (k:=0) (X:=ag D f 4) (aA bZ) FC.symm I I (λj m=>by rw[FD I];rw[il])) I).mono ?_);rintro e w1 ⟨rfl,h⟩;refine⟨dB mg,(by rw[je I,Le]),?_⟩;refine g_ 7 ?_;refine au J ?_ ?_<;>intro Em
 refine g_ 6 ?_;refine eM (t:=68) J (λU2=>?_) (λU2=>?_)
 refine g_ 4 ?_;refine au J ?_ ?_<;>intro GD
 have fe:407710288<=mg:=U2;have fP:mg<=407710303:=GD;refine g_ 5 ?_;refine aX h J alc ?_;refine g_ 2 ?_;refine ak (yd J J) ?_;refine g_ 2 ?_;refine dt (.int .i64 _) alc ?_;intro w h;rw[aBt]at h;refine g_ 5 ?_;replace h:=h.zz [1] 0;refine d' J J (aH (aBf (pos:=f+4) h (hG.sub aP) (hD.sub aP) qH kK h4) ?_);rintro e w1 ⟨er,rfl,sc2,z2,U3,xg,h,fZ⟩;rw[aBp]at h
 have c_:(f+4+4<=W D/\f+4+4+num (ag D (f+4) 4)<=W D)->er= .nilIface:=λe=>by
  rcases fZ with hh|hh
  exact hh.1
  exact absurd e (by have:=hh.2;omega)
 have fx: ¬(f+4+4<=W D/\f+4+4+num (ag D (f+4) 4)<=W D)->Er aU er:=λe=>by
  rcases fZ with hh|hh
  exact absurd ⟨hh.2.1,by have:=hh.2.2;omega⟩ e
  exact hh.1
 have qX:(f+4+4<=W D/\f+4+4+num (ag D (f+4) 4)<=W D)->U3=f+(8+num (ag D (f+4) 4)):=λe=>by
  rcases fZ with hh|hh
  have:=hh.2.2.1;omega
  exact absurd e (by have:=hh.2;omega)
 clear fZ;have T:=aBm (out:=out) h4 Le fe fP;refine g_ 5 ?_;refine ak (Ul (aU:=aU) er (f+4+4<=W D/\f+4+4+num (ag D (f+4) 4)<=W D) J c_ fx J) (aJ (au J ?_ ?_))<;>intro Yi
 refine g_ 6 ?_;exact⟨_,J,bG (a_ ⟨fx Yi,U1 g8 (T.1 I),[_,_,_],h⟩)⟩
 have kI:(f+4+4<=W D/\f+4+4+num (ag D (f+4) 4)<=W D):=oB.1 Yi;have n6:=qX kI;have tX:DF D f out=DF D U3 out:=(by rw[n6];exact T.2 I);refine g_ 6 ?_;refine dt (.bool true) ald ?_;intro w h;rw[aBr]at h;exact aJ (aoW ⟨aS,(U3,xg,true,z2,sc2),show W D-U3<W D-f by omega,az,h,I,g8.trans tX,a_ J,I⟩)
 exact alj
 refine g_ 4 ?_;refine gK J ?_;exact alj
 have O:num (ag D f 4)=4247762216:=Le.trans (oB.1 Em);refine g_ 9 ?_;refine cm h [0,4,8,16,20,24,28,13,35,36,40,44,48,52] ?_;intro w h;refine aC 6 ?_;refine aD J (wq (c:=1) (h1:=av.lit _) J J an) ?_;refine aQ J h J (fY _ _ _ _ _ _ _ _ _ _) ?_;replace h:=h.zz [1,1] 0;refine lW J J J J (aH (CN (q:=28) (n:=1) h (hD.sub aP) h4 kK (hG.sub aP) (λ_=>rfl) (by rw[zL];omega) an) ?_);rintro e w1 ⟨s,rfl,h⟩;rw[abZ (k:=0) J (by rw[fR];omega)]at h;refine aC 6 ?_;refine g_ 3 ?_;refine ak (C_ (aE:=aE) (aU:=aU) J J) (aJ (au J ?_ ?_))<;>intro wM
 refine g_ 5 ?_;refine eS J J J J (aH (Fq h (aA bZ) (hG.sub aP) (Fp wM)) ?_);rintro e w1 ⟨be,rfl,h⟩;refine g_ 3 ?_;replace h:=h.zz [2,1,2] 0;exact⟨_,J,bG (a_ ⟨a_ ⟨_,J⟩,U1 g8 (ak_ h4 O an (bG I)),[_,_,_],h⟩)⟩
 have U:f+4+1<=W D:=I;have aB1:f+4+min (W D- (f+4)) 1=f+5:=I;have aB2:(D.drop (f+4)).take 1=ag D (f+4) 1:=rfl;rw[aB1,aB2]at h;have aK6:W (ag D (f+4) 1)=1:=dK U;refine cM ((aa D (f+4) 0).toNat) λd xf=>?_;have hd:d<=255:=(by rw[<-xf];exact toNat_le _);refine cM (eH (eH sc 0 (ag D f 4)) 0 (ag D (f+4) 1)) λM V=>?_;rw[V]at h;have hu0:(M 0).toNat=d:=(by rw[<-V,FD I,lD an];exact xf);have ajO:=aBC hd;have Su:= @aBD d;refine g_ 7 ?_;refine ak (xd (run_load h J (UZ (i:=0) an)) hu0) ?_;refine g_ 12 ?_;refine ak (cG (qT (b:=6) (h2:=av.lit _) J J aG) (show d/2^6=d/64 from J)) (ak (gY J J (I:d/64<=64) (aM ajO an)) ?_);refine ee (aJ (cW [(12,12),(123,128)] (λρ w=> ∃fw:Nat,Kn ρ [(12,af fw)]/\H r w ((ah sb [.slice iA (W D) ic,af (f+5),.int .i64 s] 84)::(ah br (aB (HA x one z M x.sum x.d_ x.rem x.xl x.xv x.xb x.xc)) 81)::(wo,C l 5)::L)/\(fw=eF d)) ?_ ?_))
 refine g_ 5 ?_;refine eM (t:=125) J (λN=>?_) (λN=>?_)
 refine g_ 1 ?_;refine dI J J J (k8 J) J ?_;refine g_ 2 ?_;refine eY J ?_ ?_<;>intro Y
 refine g_ 3 ?_;exact⟨aS,0,az,h,fw0 hd N Y⟩
 exact a8 ⟨aS,2^(d/64),az,h,fw1 hd Y⟩
 refine g_ 4 ?_;exact gK J (a8 ⟨aS,2^(d/64),az,h,fw2 hd N⟩)
 rintro ρ w ⟨fw,⟨nz,rfl⟩,h,U4⟩;refine g_ 4 ?_;refine cW [(13,13),(129,129)] (λρ w=> ∃o1:Nat,Kn ρ [(13,af o1)]/\H r w ((ah sb [.slice iA (W D) ic,af (f+5),.int .i64 s] 84)::(ah br (aB (HA x one z M x.sum x.d_ x.rem x.xl x.xv x.xb x.xc)) 81)::(wo,C l 5)::L)/\((if dM d=true then 0 else 1)=o1)) ?_ ?_
 refine g_ 4 ?_;refine au J ?_ ?_<;>intro q8
 refine g_ 3 ?_;exact⟨aO 2,0,az,h,ao (sL q8)⟩
 refine g_ 3 ?_;exact⟨aO 2,1,az,h,aj (λe=>q8 (tE e))⟩
 rintro ρ w ⟨o1,⟨r_,rfl⟩,h,pF⟩;have Q:=aBn (D:=D) (hp:=f) xf J pF J U4.symm;have n7:o1<=1:=(by rw[<-pF];split<;>omega);have O_:= @agJ d;have yz:fw<=8:=(by rw[U4];exact agI);refine g_ 7 ?_;refine au J ?_ ?_<;>intro O'
 refine g_ 4 ?_;refine eS J J J J (aH (re h (aA bZ) (hG.sub aP)) ?_);rintro e w1 ⟨be,rfl,h⟩;refine g_ 3 ?_;replace h:=h.zz [2,1,2] 0;exact⟨_,J,bG (a_ ⟨a_ ⟨_,J⟩,ab4 g8 U O (by rw[Q,ao O']),[_,_,_],h⟩)⟩
 refine g_ 9 ?_;refine iX (.bool (decide (¬d&&&4=0))) ?_;intro w h;rw[aBs]at h;refine aJ (cW [(142,149)] (λρ w=> ∃u:Nat,∃y:Nat->Nat,∃A:Nat->UInt8,∃B:Nat,Kn ρ []/\H r w ((ah sb [.slice iA (W D) ic,af (f+5),.int .i64 s] 84)::(ah br (aB (HA x one z M (decide (¬d&&&4=0)) x.d_ x.rem u y A B)) 81)::(wo,C l 5)::L)/\((decide (¬d&&&4=0))=true->XI u y A B [])) ?_ ?_)
 refine g_ 5 ?_;refine aX h J aBu (aJ (au J ?_ ?_))<;>intro RI
 refine g_ 4 ?_;replace h:=h.zz [1] 0;refine d' J J (aH (azZ (x:=(HA x one z M (decide (¬d&&&4=0)) x.d_ x.rem x.xl x.xv x.xb x.xc)) (n:=x.xl) (v:=x.xv) (bf:=x.xb) (c:=x.xc) h) ?_);rintro e w1 ⟨rfl,xv2,xb2,h,CG⟩;rw[aBq]at h;refine aJ ?_;replace h:=h.zz [2,1,2] 0;exact⟨aO 8,0,xv2,xb2,0,az,h,(λ_=>CG)⟩
 exact a8 ⟨aO 4,x.xl,x.xv,x.xb,x.xc,az,h,(λe=>absurd (tE e) RI)⟩
 rintro ρ w ⟨u,y,A,B,⟨sV,rfl⟩,h,aB3⟩;refine g_ 4 ?_;refine cW [(14,15),(150,156)] (λρ w=> ∃g:Nat,Kn ρ [(14,af g)]/\H r w ((ah sb [.slice iA (W D) ic,af (f+5),.int .i64 s] 84)::(ah br (aB (HA x one z M (decide (¬d&&&4=0)) x.d_ x.rem u y A B)) 81)::(wo,C l 5)::L)/\(iz d=g)) ?_ ?_
 refine g_ 3 ?_;refine ak (wT J J aG) ?_;refine g_ 7 ?_;refine au J ?_ ?_<;>intro U5
 refine g_ 3 ?_;refine ak (gY J J (I:d % 4-1<=64) (aM Su an)) ?_;exact ee (aJ ⟨aO 9,2^(d % 4-1),az,h,(by rw[<-id_eq,aj U5])⟩)
 exact a8 ⟨aO 5,0,az,h,(by rw[<-id_eq,ao (oB.1 U5)])⟩
 rintro ρ w ⟨g,⟨wK,rfl⟩,h,hdi⟩;rw[hdi]at Q O_;refine g_ 17 ?_;refine cm h [0,4,8,16,20,24,28,32,13,39,40,44,48,52,56] ?_;intro w h;refine aC 7 ?_;refine aD J (wq J J I) (aQ J h J (fY _ _ _ _ _ _ _ _ _ _) (lW J J J J (aH (CN (q:=28) (n:=o1+g+fw) h (hD.sub aP) U kK (hG.sub aP) (λ_=>rfl) (by rw[zL];omega) I) ?_)));rintro e w1 ⟨s,rfl,h⟩;rw[abZ (k:=0) J (by rw[fR];omega)]at h;refine aC 6 ?_;refine g_ 3 ?_;refine ak (C_ (aE:=aE) (aU:=aU) J J) (aJ (au J ?_ ?_))<;>intro RZ
 refine g_ 5 ?_;refine eS J J J J (aH (Fq h (aA bZ) (hG.sub aP) (Fp RZ)) ?_);rintro e w1 ⟨be,rfl,h⟩;refine g_ 3 ?_;replace h:=h.zz [2,1,2] 0;exact⟨_,J,bG (a_ ⟨a_ ⟨_,J⟩,ab4 g8 U O (by rw[Q,aj O',ao I]),[_,_,_],h⟩)⟩
 have h6:f+5+(o1+g+fw)<=W D:=I;have aB4:f+5+min (W D- (f+5)) (o1+g+fw)=f+5+(o1+g+fw):=I;have aB5:(D.drop (f+5)).take (o1+g+fw)=ag D (f+5) (o1+g+fw):=rfl;rw[aB4,aB5]at h;refine cM (eH M 0 (ag D (f+5) (o1+g+fw))) λp aln=>?_;rw[aln]at h;have aK7:W (ag D (f+5) (o1+g+fw))=(o1+g+fw):=dK h6;have R: ∀j,j<(o1+g+fw)->p j=aa D (f+5+j) 0:=λj m=>(by rw[<-aln,FD I,lD m]);refine cM ((aa D (f+5) 0).toNat) λF Mv=>?_;have alo:F<=255:=(by rw[<-Mv];exact toNat_le _);rw[Mv]at Q;have alp:=aBG alo;refine cM (2^(F/2^3+10)) λbs Az=>?_;rw[Az]at alp;have mL:bs/8*(F % 2^3)<=bs/8*7:=yP _ I;refine g_ 5 ?_;refine cW [(2,2),(19,25),(183,218)] (λρ w=> ∃bO:Nat,Kn ρ [(19,cR bO)]/\H r w ((ah sb [.slice iA (W D) ic,af (f+5+(o1+g+fw)),.int .i64 s] 84)::(ah br (aB (HA x one z p (decide (¬d&&&4=0)) x.d_ x.rem u y A B)) 81)::(wo,C l 5)::L)/\(bO=if dM d=true then 0 else p8 F)) ?_ ?_
 refine g_ 3 ?_;refine ak (k8 J) (aJ (eY J ?_ ?_))<;>intro Oc
 have E:dM d=false:=(by unfold dM;simpa using Oc);have AX:o1=1:=(by rw[<-pF,E];rfl);have hux:(p 0).toNat=F:=(by rw[R 0 I,<-Mv]);refine g_ 6 ?_;refine ak (xd (run_load h J (UZ (i:=0) an)) hux) ?_;refine g_ 12 ?_;refine ak (kJ (n:=3) J J aG an) ?_;refine g_ 12 ?_;refine ak (cG (gY J J (I:F/2^3+10<=64) (by rw[Az];exact aM alp an)) Az) ?_;refine g_ 5 ?_;refine ak (nS (b:=8) (h2:=av.lit _) J J I aG) ?_;refine g_ 8 ?_;refine ak (cG (eR J J aG) (aBF alo Az)) ?_;refine g_ 9 ?_;refine gH J J J J (gH J J J J ?_);refine g_ 3 ?_;exact gK J (a8 ⟨aO 40,p8 F,az,h,(by rw[E];rfl)⟩)
 have E:dM d=true:=(by unfold dM;simpa using Oc);exact a8 ⟨aO 2,0,az,h,(by rw[E];rfl)⟩
 rintro ρ w ⟨bO,⟨J4,rfl⟩,h,q_⟩;refine cW [(2,2),(26,26),(28,28),(219,240)] (λρ w=>Kn ρ []/\H r w ((ah sb [.slice iA (W D) ic,af (f+5+(o1+g+fw)),.int .i64 s] 84)::(ah br (aB (HA x one z p (decide (¬d&&&4=0)) x.d_ x.rem u y A B)) 81)::(wo,C l 5)::L)/\(num (ag D (f+(5+o1)) g)=0)) ?_ ?_
 refine g_ 5 ?_;refine au J ?_ ?_<;>intro aK8
 have hlu: ∀i,i<g->(p (o1+i)).toNat=(aa D (f+5+(o1+i)) 0).toNat:=λi hi=>(by rw[R _ I]);refine g_ 9 ?_;refine ak (aBE J J J (lV _ _) I I) ?_;refine g_ 9 ?_;refine cw (σ:=Nat) [(2,2),(28,28),(231,240)] (λi ρ w=>Kn ρ [(231,af i)]/\H r w ((ah sb [.slice iA (W D) ic,af (f+5+(o1+g+fw)),.int .i64 s] 84)::(ah br (aB (HA x one z p (decide (¬d&&&4=0)) x.d_ x.rem u y A B)) 81)::(wo,C l 5)::L)/\(i<=g)/\(∀j,j<i->(aa D (f+5+(o1+j)) 0).toNat=0)) (λi=>g-i) (0) ⟨az,h,(cj _),(λj m=>absurd m (ma _))⟩ ?_;rintro i ρ w ⟨⟨Ny,rfl⟩,h,hi,hz⟩;refine g_ 5 ?_;refine au J ?_ ?_<;>intro aj0
 refine g_ 5 ?_;refine ak (da J J J I) (ak (xd (run_load h J (alg (i:=o1+i) I I)) (hlu i I)) ?_);refine g_ 7 ?_;refine au J ?_ ?_<;>intro alq
 refine g_ 4 ?_;refine eS J J J J (aH (re h (aA bZ) (hG.sub aP)) ?_);rintro e w1 ⟨be,rfl,h⟩;refine g_ 3 ?_;replace h:=h.zz [2,1,2] 0;exact⟨_,J,bG (a_ ⟨a_ ⟨_,J⟩,ab4 g8 U O (by rw[Q,aj O',aj I,ao (aBH (q:=f+(5+o1)) (i:=i) I I (by rw[show f+(5+o1)+i=f+5+(o1+i) by omega];exact alq))]),[_,_,_],h⟩)⟩
 refine g_ 5 ?_;exact⟨aO 8,i+1,cQ,az,h,I,(λj m=>by rcases xB.1 m with hh|rfl;exact hz j hh;exact oB.1 alq)⟩
 exact jl ⟨aO 16,az,h,(ab0 g I (λj m=>by have:=hz j I;rw[<-this];congr 2;omega))⟩
 exact a8 ⟨aO 2,az,h,ab0 g I (λj m=>absurd m I)⟩
 rintro ρ w ⟨⟨Sr,rfl⟩,h,rl⟩;have aB6:=aBI hd;rw[<-U4]at aB6;refine g_ 5 ?_;refine iX (.bool false) ?_;intro w h;rw[alb]at h;refine g_ 6 ?_;refine dt (cR 0) Ld ?_;intro w h;rw[O8]at h;refine g_ 9 ?_;refine ak (Jn J J I) ?_;refine g_ 7 ?_;refine kp [(255,293)] (λρ w=> ∃d_:Bool,∃rem:Nat,Kn ρ []/\H r w ((ah sb [.slice iA (W D) ic,af (f+5+(o1+g+fw)),.int .i64 s] 84)::(ah br (aB (HA x one z p (decide (¬d&&&4=0)) d_ rem u y A B)) 81)::(wo,C l 5)::L)/\(d_=!decide (0<fw))/\(d_=false->rem=(num (ag D (f+(5+o1+g)) fw)+(if fw=2 then 256 else 0)))/\(rem<=aN .u64)) ?_ ?_
 refine g_ 5 ?_;refine au J ?_ ?_<;>intro aj2
 refine g_ 4 ?_;refine iX (.bool true) ?_;intro w h;rw[alb]at h;exact aJ ⟨aO 6,true,0,az,h,aBQ aj2,(λe=>by cases e),cj _⟩
 refine g_ 5 ?_;refine au J ?_ ?_<;>intro alr
 have qW:(p (o1+g)).toNat=num (ag D (f+(5+o1+g)) 1):=(by rw[R _ I,show f+5+(o1+g)=(f+(5+o1+g)) by omega];exact aBJ I);refine g_ 3 ?_;refine ak (da (a:=0) (h1:=av.lit _) J J J I) (ak (xd (run_load h J (alg (i:=o1+g) I I)) qW) (ak (eZ J (O9 an)) ?_));refine g_ 2 ?_;refine dt (cR (num (ag D (f+(5+o1+g)) 1))) Ld ?_;intro w h;rw[O8]at h;exact aJ ⟨aO 12,false,num (ag D (f+(5+o1+g)) 1),az,h,U0 alr an,(λ_=>ab3 alr an),O9 an⟩
 refine g_ 5 ?_;refine au J ?_ ?_<;>intro NP
 have Pa: ∀j,j<2->p (o1+g+j)=aa D ((f+(5+o1+g))+j) 0:=λj m=>(by rw[R _ I,show f+5+(o1+g+j)=(f+(5+o1+g))+j by omega]);refine g_ 3 ?_;refine d' J J (aH (aBL (P:=(f+(5+o1+g))) h (aA bZ) I I Pa) ?_);rintro e w1 ⟨rfl,h⟩;refine ak (eZ J (O9 an)) ?_;refine ak (eR (a:=256) (h1:=av.lit _) J J ali) ?_;refine g_ 2 ?_;refine dt (cR (256+num (ag D (f+(5+o1+g)) 2))) Ld ?_;intro w h;rw[O8]at h;exact aJ ⟨aO 14,false,256+num (ag D (f+(5+o1+g)) 2),az,h,U0 NP an,(λ_=>aBO NP),ali⟩
 refine g_ 5 ?_;refine au J ?_ ?_<;>intro SH
 have Pa: ∀j,j<4->p (o1+g+j)=aa D ((f+(5+o1+g))+j) 0:=λj m=>(by rw[R _ I,show f+5+(o1+g+j)=(f+(5+o1+g))+j by omega]);refine g_ 3 ?_;refine d' J J (aH (aBM (P:=(f+(5+o1+g))) h (aA bZ) I I Pa) ?_);rintro e w1 ⟨rfl,h⟩;refine ak (eZ J alh) ?_;refine g_ 2 ?_;refine dt (cR (num (ag D (f+(5+o1+g)) 4))) Ld ?_;intro w h;rw[O8]at h;exact aJ ⟨aO 15,false,num (ag D (f+(5+o1+g)) 4),az,h,U0 SH an,(λ_=>ab3 SH an),alh⟩
 refine g_ 5 ?_;refine au J ?_ ?_<;>intro als
 have Pa: ∀j,j<8->p (o1+g+j)=aa D ((f+(5+o1+g))+j) 0:=λj m=>(by rw[R _ I,show f+5+(o1+g+j)=(f+(5+o1+g))+j by omega]);refine g_ 3 ?_;refine d' J J (aH (aBN (P:=(f+(5+o1+g))) h (aA bZ) I I Pa) ?_);rintro e w1 ⟨rfl,h⟩;refine g_ 2 ?_;refine dt (cR (num (ag D (f+(5+o1+g)) 8))) Ld ?_;intro w h;rw[O8]at h;exact aJ ⟨aO 16,false,num (ag D (f+(5+o1+g)) 8),az,h,U0 als an,(λ_=>ab3 als an),O9 an⟩
 exfalso;omega
 rintro ρ w ⟨d_,rem,⟨Uk,rfl⟩,h,alu,O5,aB7⟩;refine cW [(19,19),(294,298)] (λρ w=> ∃U6:Nat,Kn ρ [(19,cR U6)]/\H r w ((ah sb [.slice iA (W D) ic,af (f+5+(o1+g+fw)),.int .i64 s] 84)::(ah br (aB (HA x one z p (decide (¬d&&&4=0)) d_ rem u y A B)) 81)::(wo,C l 5)::L)/\(U6=if dM d=true then(num (ag D (f+(5+o1+g)) fw)+(if fw=2 then 256 else 0))else p8 F)) ?_ ?_
 refine g_ 4 ?_;refine au J ?_ ?_<;>intro alv
 have E:dM d=true:=sL alv;refine g_ 4 ?_;exact aX h J Ld (ee (aJ ⟨aO 6,rem,az,h,(by rw[ao E];exact O5 (by rw[alu,sL (by rw[U4];exact aBS hd E)];rfl))⟩))
 have E:dM d=false:=I4 alv;exact a8 ⟨aO 1,bO,az,h,(by rw[q_,E];rfl)⟩
 rintro ρ w ⟨U6,⟨abn,rfl⟩,h,aB8⟩;have eK:(jF (D.drop f)).1≠0:=λe=>hV (by rw[g8,ala I O (by rw[e];decide),e]);have mQ:=aBR Q O' I (λe=>e rl) eK;rw[<-aB8]at mQ;obtain⟨mQ,xW⟩:=mQ;refine g_ 6 ?_;refine au J ?_ ?_<;>intro aK9
 exfalso;omega
 refine g_ 10 ?_;replace h:=h.zz [1] 0;refine g_ 3 ?_;rw[aBv]at h;refine iX (.bool true) ?_;intro w h;rw[aBw]at h;refine g_ 6 ?_;refine iX (.bool true) ?_;intro w h;rw[aBT]at h;refine g_ 8 ?_;refine ak (yd J J) ?_;refine g_ 2 ?_;refine cI ?_;intro w h;rw[aBU]at h;refine g_ 6 ?_;refine iX (bR 1) ?_;intro w h;rw[aBx]at h;refine g_ 6 ?_;refine iX (bR 4) ?_;intro w h;rw[aBy]at h;refine g_ 6 ?_;refine iX (bR 8) ?_;intro w h;rw[aBz]at h;refine g_ 6 ?_;refine iX (af 0) ?_;intro w h;rw[aBA]at h;refine g_ 8 ?_;replace h:=h.zz [2,1] 0;refine cJ J J J ?_;rw[aBV (wo:=wo) hwA]at h;refine(aAj h kB mI xW).mono ?_;rintro e w1 ⟨rfl,wo2,wc2,wv2,h,NU,aB9⟩;refine⟨_,J,?_⟩;refine g_ 7 ?_;refine iX (.slice none 0 0) ?_;intro w h;rw[aBW]at h;refine g_ 7 ?_;refine iX (.slice none 0 0) ?_;intro w h;rw[aBX]at h;refine g_ 7 ?_;refine iX (.slice none 0 0) ?_;intro w h;rw[aBY]at h;refine g_ 6 ?_;replace h:=h.zz [1,2,2] 0;exact⟨_,J,bG (bG ⟨J,f,_,_,_,d_,rem,_,_,_,_,_,_,wo2,wc2,wv2,(num (ag D (f+(5+o1+g)) fw)+(if fw=2 then 256 else 0)),U6,h,NU,aB9,Ct,I,h6,g8,O,(by rw[mQ,alu,Bool.not_not,show f+5+(o1+g+fw) -f=5+o1+g+fw by omega]),xW,O5,aB7,aB3⟩)⟩
variable {A F0:List aK}{bo jc:List UInt8}{ic:Nat}
def U7(D:List UInt8)(hp:Nat)(a:List UInt8)(v:Nat×List UInt8×Nat):Nat×List UInt8:=if v.1≠1 then(v.1,[])else DF D (hp+v.2.2) (a++v.2.1)
def alw{D a:List UInt8}{v:Nat×List UInt8×Nat}(h:v.1≠1):(U7 D hp a v).1=v.1:=by unfold U7;rw[ao h]
def alx{w m room:Nat}{E:List UInt8}: ∀f at_ s,(gp w m room E f at_ s).1=1->W (gp w m room E f at_ s).2.1.out<=room
 |0,at_,s,h=>by simp[gp]at h
 | f+1,at_,s,h=>by
  rw[Ih]at h ⊢;obtain⟨_,h,e⟩:=xk h Il;rw[e];clear e;obtain⟨_,h,e⟩:=xk h Il;rw[e];clear e;obtain⟨_,h,e⟩:=xk h Lb;rw[e];clear e;by_cases a:(iM w m E s (num (ag E at_ 3)/2 % 4) (num (ag E at_ 3)/8) (at_+3)).1≠1
  rw[ao a]at h;exact absurd h a
  rw[aj a]at h ⊢;obtain⟨c,h,e⟩:=xk h Lb;rw[e];clear e;by_cases b:num (ag E at_ 3) % 2=1
  rw[ao b];exact Mm c
  rw[aj b]at h ⊢;exact alx f _ _ h
def aB_{known sum:Bool}{size:Nat}{x:Nat×Fs×Nat}(h:(qJ E known size sum x).1=1):(qJ E known size sum x).2.1=x.2.1.out:=by
 unfold qJ at h ⊢;split at h
 rename_i b;exact absurd h b
 rename_i h1;rw[aj h1];split at h
 cases h
 rename_i h2;rw[aj h2];split at h
 rename_i a;rw[ao a];split at h
 cases h
 rename_i c;rw[aj c]
 rename_i a;rw[aj a]
def aly{p:Fr}{f at_:Nat}{s:Fs}{o:List UInt8}(h:p.V f at_ s=(1,o,k)):W o<=p.room:=by
 have h1:(p.V f at_ s).1=1:=(by rw[h]);have h2:=aB_ h1;have a:=alx _ _ _ (ak8 h1).1;have e:(p.V f at_ s).2.1=o:=(by rw[h]);rw[<-e];unfold Fr.V;unfold Fr.V at h2;rw[h2];exact a
def InF(D:List UInt8)(F:List aK)(x:dk)(m:List Nat)(o0 o1 o2:Option Nat)(b0 b1 b2:List Bl)(wd:List UInt8)(pos:Nat)(jc:List UInt8):Prop:=
 x.one=true/\ ∃hp f at_ p s a,UO F x m o0 o1 o2 b0 b1 b2 wd p s/\jc=a++s.out/\p.E=D.drop hp/\hp+at_=pos/\W D<hp+(f+at_)/\p.room+W a<=4194304/\p.aq<=131072/\DF D 0 []=U7 D hp a (p.V f at_ s)
def AL(D:List UInt8)(iA:Option Addr)(ic sb pos:Nat)(pr:Int)(ob eP hO o0 o1 o2 kO lO wo:Option Nat)(bv kv lv a:List Value)(cs:List dx)(m:List Nat)(b0 b1 b2:List Bl)(G:List aK):List aK:=
 (some sb,C [.slice iA (W D) ic,af (pos),.int .i64 pr] 84)::(ob,C (bv) 5)::(eP,C (dp cs) 227)::(hO,C (ar dG m) 174)::(o0,C (bP b0) 214)::(o1,C (bP b1) 214)::(o2,C (bP b2) 214)::(kO,C (kv) 5)::(lO,C (lv) 5)::(wo,C (a) 5)::G
def kM(D:List UInt8)(iA:Option Addr)(ic sb:Nat)(F0 A:List aK)(x:dk)(pos:Nat)(jc bo:List UInt8):Prop:=
 ∃(pr:Int) (ob eP hO o0 o1 o2 kO lO wo:Option Nat) (a kv lv od:List Value) (cs:List dx) (m:List Nat) (b0 b1 b2:List Bl) (wd:List UInt8) (G:List aK),
   A=AL D iA ic sb pos pr ob eP hO o0 o1 o2 kO lO wo (ar u8 bo++a) kv lv (ar u8 wd++od) cs m b0 b1 b2 G/\x.uj= .iface 58 (.pointer (some ⟨sb,0,none⟩))/\pos<=W D/\
   Ft x ob kO lO eP hO o0 o1 o2 (ar u8 bo++a) kv lv cs m b0 b1 b2/\abM x wo wd od/\x.bN=W bo/\W bo<=4194304/\
   ((x.iD=false/\(x.one=true\/pos<W D)/\W jc<=4194304/\DF D 0 []=DF D pos jc)\/(x.iD=true/\InF D (G++F0) x m o0 o1 o2 b0 b1 b2 wd pos jc))
def aB'{D:List UInt8}{iA:Option Addr}{pos:Nat}(h:H r w ((ah br (aB x) 81)::(A++L)))(hS:kM D iA ic sb F0 A x pos jc bo)(t:x.iD=true)(i_:Sub F0 L)(hG:Gl F0 aE aU)(hD:aY F0 (.slice iA (W D) ic) D)(kK:W D<=140737488355328)(hV:(DF D 0 []).1≠0):Calls PP 77 #[bL br] w λe w'=> ∃er,e= .returned er/\((er= .nilIface/\ ∃c u pos' out,H r w' ((ah br (aB c) 81)::(u++L))/\kM D iA ic sb F0 u c pos' (jc++out) out/\c.off=x.off/\pos+3<=pos')\/(Er aU er/\(DF D 0 []).1≠1/\ ∃Z,H r w' (Z++L))):=by
 obtain⟨pr,ob,eP,hO,o0,o1,o2,kO,lO,wo,vM,kv,lv,od,cs,m,b0,b1,b2,wd,G,rfl,v,lZ,hI,hW,jD,jL,i⟩:=hS;rcases i with i| ⟨_,y,hp,f,at_,p,s,yB,l,rfl,z,EL,hfu,pV,B,j⟩
 rw[t]at i;cases i.1
 have n:(p.V f at_ s).1≠0:=λe=>hV (by rw[j,alw (by rw[e];decide),e])
 cases f with
 |zero=>omega
 |succ f=>
 refine(aAI (F:=G++F0) (L:=G++L) h (SI i_) (hG.sub (yp G)) (hD.sub (yp G)) v kK z EL lZ hI hW l I B n).mono ?_;rintro e w1 ⟨er,rfl,hh⟩;refine⟨er,J,?_⟩;rcases hh with⟨rfl,c,pos',C,E,out,sp,K,M,N,O,P,Q,R,S,T,U,X,Y,z5,Fv,nf,mB,OV,G',h,Mp,U_,o,k,vj,n6,d⟩| ⟨Lh,cF,Z,h⟩
 refine a_ ⟨J,c,AL D iA ic sb pos' C E K N P R T X z5 nf (ar u8 out++sp) Y Fv (ar u8 mB++OV) M O Q S U (G'++G),pos',out,?_,?_,?_,I⟩
 rw[<-bV]at h;exact h
 have g:=k;unfold z9 at g;simp only[qO]at g;refine⟨C,E,K,N,P,R,T,X,z5,nf,sp,Y,Fv,OV,M,O,Q,S,U,mB,G'++G,J,g.1.trans v,n6,Mp,U_,o,?_,?_⟩
 rcases d with⟨_,b⟩| ⟨_,s',q,a,_⟩
 have:=aly b;rw[aF]at this;omega
 have:=a.ol;rw[q,aF]at this;omega
 rcases d with⟨xX,b⟩| ⟨fe,s',q,a,b⟩
 refine a_ ⟨xX,a_ (g.2.1.trans y),by have:=aly b;simp only[aF]at this ⊢;omega,?_⟩;rw[j,b];unfold U7;rw[aj (λe=>e J)];show DF D (hp+(pos'-hp)) _=_;rw[show hp+(pos'-hp)=pos' by omega,bV]
 refine bG ⟨fe.trans t,g.2.1.trans y,hp,f,pos'-hp,p,s',yB,?_,?_,z,I,I,pV,B,?_⟩
 rw[bV];exact a
 rw[q,bV]
 rw[j,b]
 unfold z9 at k;simp only[qO]at k;exact k.2.2
 refine bG ⟨Lh,by rw[j,alw cF];exact cF,Z++G,?_⟩;rw[bV];exact h
def aCb{D:List UInt8}{iA:Option Addr}{pos:Nat}(h:H r w ((ah br (aB x) 81)::(A++L)))(N:kM D iA ic sb F0 A x pos jc bo)(O:x.iD=false)(P:Sub F0 L)(Q:Gl F0 aE aU)(R:aY F0 (.slice iA (W D) ic) D)(S:W D<=140737488355328)(q:(DF D 0 []).1≠0):Calls PP 76 #[bL br] w λe w'=> ∃er,e= .returned er/\((er= .iface 199 (.pointer (some aE))/\DF D 0 []=(1,jc)/\ ∃Z,H r w' (Z++L))\/(Er aU er/\(DF D 0 []).1≠1/\ ∃Z,H r w' (Z++L))\/(er= .nilIface/\ ∃f v pos',H r w' ((ah br (aB f) 81)::(v++L))/\kM D iA ic sb F0 v f pos' jc bo/\f.iD=true/\f.off=x.off/\pos<=pos')):=by
 obtain⟨pr,ob,eP,hO,o0,o1,o2,kO,lO,wo,c,kv,lv,od,cs,m,b0,b1,b2,wd,G,rfl,y,T,d,U,V,X,g⟩:=N;rcases g with⟨_,Y,eX,i⟩|g;rotate_left
 rw[O]at g;cases g.1
 obtain⟨OW,UR,OX⟩:=U;obtain⟨Ky,Ff,hW3,o⟩:=OX;have h1:=((h.mv 10).mv 2).mv 2;have s8: ∀B:List aK,Sub F0 (B++(G++L)):=λB=>P.trans ((yp G).trans (yp B));have E:=s8 [(ob,C (ar u8 bo++c) 5),(eP,C (dp cs) 227),(hO,C (ar dG m) 174),(o0,C (bP b0) 214),(o1,C (bP b1) 214),(o2,C (bP b2) 214),(kO,C (kv) 5),(lO,C (lv) 5)];rw[i]at q;refine(aBZ (wo:=wo) (out:=jc) h1 (Q.sub E) (R.sub E) y S T OW (by rw[Ff,fg]) o Y q).mono ?_;rintro e w1 ⟨er,rfl,hh⟩;refine⟨er,J,?_⟩;rcases hh with⟨rfl,hd,Z,h⟩| ⟨Lh,cF,Z,h⟩| ⟨rfl,hp,pos',F,sm,d_,rem,z,sc,xl,xv,xb,xc,j,K,n,size,bO,h,dV,ig,td,vj,n6,p,Le,M,q_,O5,OK,CG⟩
 exact a_ ⟨J,i.trans hd,Z++[(ob,C (ar u8 bo++c) 5),(eP,C (dp cs) 227),(hO,C (ar dG m) 174),(o0,C (bP b0) 214),(o1,C (bP b1) 214),(o2,C (bP b2) 214),(kO,C (kv) 5),(lO,C (lv) 5)]++G,by rw[bV,bV];exact h⟩
 exact bG (a_ ⟨Lh,by rw[i];exact cF,Z++[(ob,C (ar u8 bo++c) 5),(eP,C (dp cs) 227),(hO,C (ar dG m) 174),(o0,C (bP b0) 214),(o1,C (bP b1) 214),(o2,C (bP b2) 214),(kO,C (kv) 5),(lO,C (lv) 5)]++G,by rw[bV,bV];exact h⟩)
 refine bG (bG ⟨J,WX (HY (HA x true z sc sm d_ rem xl xv xb xc) true 1 4 8 0 (fF (fF (fF x.st 0 (.slice none 0 0)) 1 (.slice none 0 0)) 2 (.slice none 0 0))) bO j 0 K 0,AL D iA ic sb pos' F ob eP hO o0 o1 o2 kO lO j (ar u8 bo++c) kv lv (ar u8 []++n) cs m b0 b1 b2 G,pos',?_,?_,J,J,?_⟩);rotate_left
 refine⟨F,ob,eP,hO,o0,o1,o2,kO,lO,j,c,kv,lv,n,cs,m,b0,b1,b2,[],G,J,y,n6,⟨d.b,d.k,d.l,d.u,d.s⟩,⟨J,J,by simp,by show([]++n).length=K*1;rw[List.nil_append,fg];exact dV,cj _,ig⟩,V,X,bG ⟨J,J,hp,W (D.drop hp)+1,pos'-hp,
   Fr.mk bO (if ¬byte (D.drop hp) 4&&&32=0 then 131072 else min 131072 bO) (4194304-W jc) (D.drop hp) (!d_) size sm,ve,jc,?_,?_,J,I,?_,by show 4194304-W jc+W jc<=4194304;omega,?_,?_⟩⟩
 exact⟨⟨J,⟨J,J,J⟩,⟨J,λk hk t ht=>by rcases(I:k=0\/k=1\/k=2)with rfl|rfl|rfl<;>cases ht⟩,⟨J,J,J⟩,by decide⟩,⟨J,q_⟩,⟨cj _,aW _,λ_=>rfl⟩,⟨[],J,a_ J⟩,(Bool.not_not d_).symm,λhk=>O5 (by cases d_<;>simp_all),OK,J,CG,by decide⟩
 show jc=jc++[];rw[dN]
 rw[cr];omega
 show(if _ then _ else _)<=_;split
 exact aW _
 exact Ql _ _
 rw[i,p,abX I,ak' I Le,akH (by rw[M]),M];rfl
 omega
 exact h.perm (((tF (l₁:=[(ob,C (ar u8 bo++c) 5),(eP,C (dp cs) 227),(hO,C (ar dG m) 174),(o0,C (bP b0) 214),(o1,C (bP b1) 214),(o2,C (bP b2) 214),(kO,C (kv) 5),(lO,C (lv) 5)]) (a:=(j,C n 5)) (l₂:=G++L)).symm.cons _).cons _)
variable {b:Bool}
def ab7{x:Operand}{er n:Value}{ok:Bool}(c:aL ρ x=er)(h1:ok=true->er= .nilIface)(h2:ok=false-> ∃a b,er= .iface a b)(d:n= .nilIface):run PP ρ (.binOp .neq 103 x (.const n) T') ty w= .ok (.value (.bool (!ok))) w:=by
 cases ok
 obtain⟨a,b,e⟩:=h2 J;exact J5 (c.trans e) d
 exact ye (c.trans (h1 J)) d
def Er.U'{e:Value}(h:Er aU e): ∃a b,e= .iface a b:=by
 rcases h with⟨b,rfl⟩|rfl
 exact⟨_,_,J⟩
 exact⟨_,_,J⟩
def ab8{P Q:Prop}(h:P\/Q): ∃ok:Bool,(ok=true->P)/\(ok=false->Q):=by
 rcases h with h|h
 exact⟨true,λ_=>h,λe=>by cases e⟩
 exact⟨false,λe=>(by cases e),λ_=>h⟩
def Va(h:(!b)=true):b=false:=by cases b<;>simp_all
def FE(h:(!b)=false):b=true:=by cases b<;>simp_all
def kM.bn{D:List UInt8}{iA:Option Addr}{pos:Nat}(h:kM D iA ic sb F0 A x pos jc bo):x.bN=W bo:=by
 obtain⟨_,_,_,_,_,_,_,_,_,_,_,_,_,_,_,_,_,_,_,_,_,_,_,_,_,_,h,_⟩:=h;exact h
def kM.bl{D:List UInt8}{iA:Option Addr}{pos:Nat}(h:kM D iA ic sb F0 A x pos jc bo):W bo<=4194304:=by
 obtain⟨_,_,_,_,_,_,_,_,_,_,_,_,_,_,_,_,_,_,_,_,_,_,_,_,_,_,_,h,_⟩:=h;exact h
def kM.pl{D:List UInt8}{iA:Option Addr}{pos:Nat}(h:kM D iA ic sb F0 A x pos jc bo):pos<=W D:=by
 obtain⟨_,_,_,_,_,_,_,_,_,_,_,_,_,_,_,_,_,_,_,_,_,_,_,h,_⟩:=h;exact h
def kM.tl{D:List UInt8}{iA:Option Addr}{pos:Nat}(h:kM D iA ic sb F0 A x pos jc bo):W jc<=8388608:=by
 obtain⟨_,_,_,_,_,_,_,_,_,_,_,_,_,_,_,_,_,_,_,_,_,_,_,_,_,_,_,_,a⟩:=h;rcases a with⟨_,_,h,_⟩| ⟨_,_,hp,f,at_,p,s,c,b,rfl,_,_,_,d,_⟩
 omega
 have:=b.ol;rw[aF];omega
def kM.alA{D:List UInt8}{iA:Option Addr}{pos:Nat}(h:kM D iA ic sb F0 A x pos jc bo):kM D iA ic sb F0 A {x with off:=n} pos jc bo:=by
 obtain⟨pr,ob,eP,hO,o0,o1,o2,kO,lO,wo,i,kv,lv,od,cs,m,b0,b1,b2,wd,G,hA,j,o,d,g,q,r,e⟩:=h;refine⟨pr,ob,eP,hO,o0,o1,o2,kO,lO,wo,i,kv,lv,od,cs,m,b0,b1,b2,wd,G,hA,j,o,⟨d.b,d.k,d.l,d.u,d.s⟩,⟨g.a,g.n,g.ok⟩,q,r,?_⟩;rcases e with e| ⟨h1,h2,hp,f,at_,p,s,t,c,e⟩
 exact a_ e
 exact bG ⟨h1,h2,hp,f,at_,p,s,t,⟨⟨c.rel.tr,c.rel.tb,c.rel.ok,c.rel.a,c.rel.bd⟩,c.wS,c.wl,c.pre,c.d_,c.rem,c.rm,c.sm,c.xi,c.ol⟩,e⟩
def aCd{D:List UInt8}{iA:Option Addr}{pos:Nat}(h:H r w ((ah br (aB x) 81)::(A++L)))(i:kM D iA ic sb F0 A x pos jc bo)(j:Sub F0 L)(k:Gl F0 aE aU)(l:aY F0 (.slice iA (W D) ic) D)(m:W D<=140737488355328)(n:(DF D 0 []).1≠0):Calls PP 67 #[bL br] w λe w'=> ∃er,e= .returned er/\((er= .nilIface/\ ∃d o pos' out,H r w' ((ah br (aB d) 81)::(o++L))/\kM D iA ic sb F0 o d pos' (jc++out) out/\d.off=x.off/\pos+3<=pos')\/(er= .iface 199 (.pointer (some aE))/\DF D 0 []=(1,jc)/\ ∃Z,H r w' (Z++L))\/(Er aU er/\(DF D 0 []).1≠1/\ ∃Z,H r w' (Z++L))):=by
 refine iu func67 ntmps67 [2] ?_;refine g_ 4 ?_;refine cW [(2,13)] (λρ w=> ∃a:dk,∃f:List aK,∃pp:Nat,Kn ρ []/\H r w ((ah br (aB a) 81)::(f++L))/\(kM D iA ic sb F0 f a pp jc bo)/\(a.iD=true)/\(a.off=x.off)/\(pos<=pp)) ?_ ?_
 refine g_ 6 ?_;refine ak (k8 J) (aJ (eY J ?_ ?_))<;>intro p
 refine g_ 3 ?_;refine d' J J (aH (aCb h i (Va p) j k l m n) ?_);rintro e v ⟨er,rfl,c⟩;refine(ab8 (Or.comm.1 (or_assoc.2 c))).elim λok g=>?_;have s:=g.1;have t:=g.2;clear c g;refine g_ 5 ?_;refine ak (ab7 (er:=er) J (λe=>(s e).1) (λe=>(t e).elim (λq=>Exists.intro _ ⟨_,q.1⟩) (λq=>q.1.U')) J) (aJ (eY J ?_ ?_))<;>intro u
 refine g_ 6 ?_;exact⟨_,J,(t (Va u)).elim (λq=>bG (a_ q)) (λq=>bG (bG q))⟩
 refine B9 (s (FE u)).2 λy z B b=>?_;have h:=b.1;exact a8 ⟨aO 10,y,z,B,az,h,b.2.1,b.2.2.1,b.2.2.2.1,b.2.2.2.2⟩
 exact a8 ⟨aO 5,x,A,pos,az,h,i,FE p,J,aW _⟩
 rintro ρ w ⟨a,f,pp,⟨P,rfl⟩,h,C,E,F,G⟩;refine g_ 3 ?_;refine d' J J (aH (aB' h C E j k l m n) ?_);rintro e v ⟨er,rfl,c⟩;refine g_ 3 ?_;exact⟨_,J,c.elim (λq=>a_ ⟨q.1,q.2.elim λK q=>q.elim λM q=>q.elim λN q=>q.elim λO q=>⟨K,M,N,O,q.1,q.2.1,q.2.2.1.trans F,aM (Nat.add_le_add_right G 3) q.2.2.2⟩⟩) (λq=>bG (bG q))⟩
def aCe{D:List UInt8}{iA:Option Addr}{pos:Nat}{dl:List UInt8}(h:H r w ((ah br (aB x) 81)::(A++L)))(t:kM D iA ic sb F0 A x pos jc bo)(u:jc=dl++bo.drop x.off)(v:x.off<=W bo)(y:Sub F0 L)(z:Gl F0 aE aU)(B:aY F0 (.slice iA (W D) ic) D)(C:W D<=140737488355328)(E:(DF D 0 []).1≠0):Calls PP 48 #[bL br] w λe w'=> ∃er,e= .returned er/\((er= .nilIface/\ ∃c l pos' m g,H r w' ((ah br (aB c) 81)::(l++L))/\kM D iA ic sb F0 l c pos' m g/\m=dl++g.drop c.off/\c.off<W g/\(pos+3<=pos'\/(pos'=pos/\g.drop c.off=bo.drop x.off)))\/(er= .iface 199 (.pointer (some aE))/\DF D 0 []=(1,dl)/\ ∃Z,H r w' (Z++L))\/(Er aU er/\(DF D 0 []).1≠1/\ ∃Z,H r w' (Z++L))):=by
 refine iu func48 ntmps48 [2] ?_;refine g_ 6 ?_;refine cw (σ:=dk×List aK×Nat×List UInt8×List UInt8) [(2,21)] (λ⟨a,d,pp,b,bb⟩ ρ w=>Kn ρ []/\H r w ((ah br (aB a) 81)::(d++L))/\(kM D iA ic sb F0 d a pp b bb)/\(b=dl++bb.drop a.off)/\(a.off<=W bb)/\(pos+3<=pp\/(pp=pos/\bb.drop a.off=bo.drop x.off))) (λ⟨a,d,pp,b,bb⟩=>W D-pp) (x,A,pos,jc,bo) ⟨az,h,t,u,v,(bG ⟨J,J⟩)⟩ ?_;rintro⟨a,d,pp,b,bb⟩ ρ w ⟨⟨M,rfl⟩,h,i,j,N,F⟩;have O:=i.bn;refine bY (bY (cm h [0,4,8,16,20,24,13,29,32,36] ?_));intro w h;refine aC 11 ?_;refine au J ?_ ?_<;>intro P
 refine g_ 6 ?_;refine d' J J (aH (aCd h i y z B C E) ?_);rintro e Q ⟨er,rfl,n⟩;refine(ab8 n).elim λok k=>?_;have o:=k.1;have p:=k.2;clear n k;refine g_ 5 ?_;refine ak (ab7 (er:=er) J (λe=>(o e).1) (λe=>(p e).elim (λq=>Exists.intro _ ⟨_,q.1⟩) (λq=>q.1.U')) J) (aJ (eY J ?_ ?_))<;>intro s
 refine g_ 6 ?_;exact⟨_,J,(p (Va s)).elim (λq=>bG (a_ ⟨q.1,by rw[q.2.1,j,yR I,dN],q.2.2⟩)) (λq=>bG (bG q))⟩
 refine lB (o (FE s)).2 λG K p1 o1 f=>?_;have h:=f.1;refine g_ 5 ?_;refine iX (af 0) ?_;intro w h;rw[aad]at h;exact aJ ⟨aO 19,(({G with off:=0},K,p1,b++o1,o1)),(by have:=f.2.2.2;have:=f.2.1.pl;dsimp only;omega),az,h,f.2.1.alA,(by rw[j,yR I,dN];rfl),cj _,(a_ (by have:=f.2.2.2;omega))⟩
 refine g_ 6 ?_;exact⟨_,J,a_ ⟨J,a,d,pp,b,bb,h,i,j,I,F⟩⟩
def H.alB{G:List aK}{e a:aK}(h:H r w (e::a::(G++F))):H r w (e::(G++a::F)):=h.perm (List.perm_middle.symm.cons e)
def kM.sl{D:List UInt8}{iA:Option Addr}{pos:Nat}(h:kM D iA ic sb F0 A x pos jc bo):aY A (.slice x.bA x.bN x.bC) bo:=by
 obtain⟨pr,ob,eP,hO,o0,o1,o2,kO,lO,wo,a,kv,lv,od,cs,m,b0,b1,b2,wd,G,rfl,i,j,d,k,f,l,n⟩:=h;obtain⟨h1,h2,g⟩:=d.b;rw[aF,cB]at h2;rw[h1,f]
 exact(aY.own (F:=[]) (T:=5) (ob:=ob) (c:=x.bC) (X:=bo) (sp:=a) ⟨by simp,by simp;omega,I,g⟩).sub (λe he=>by
   rcases jT.1 he with rfl
   exact aA bZ)
def aCf{bb:List UInt8}{off m:Nat}(hm:m=W bb):(bb.drop off).take n++bb.drop (off+min (m-off) n)=bb.drop off:=by
 subst hm;rw[<-kG]
 have e:(bb.drop off).take n=(bb.drop off).take (min (W bb-off) n):=by
  rcases Nat.le_total (W bb-off) n with h|h
  rw[l9 h,je (by rw[cr];omega),je (by rw[cr];omega)]
  rw[DL h]
 rw[e,uD]
def aCg{D dl:List UInt8}{iA:Option Addr}{b pos:Nat}{pl:List Value}(h:H r w ((ah br (aB x) 81)::(ah b (pl) 5)::(A++L)))(R:W pl=n)(S:n<=4194304)(C:kM D iA ic sb F0 A x pos jc bo)(E:jc=dl++bo.drop x.off)(G:x.off<=W bo)(K:Sub F0 L)(M:Gl F0 aE aU)(N:aY F0 (.slice iA (W D) ic) D)(O:W D<=140737488355328)(P:(DF D 0 []).1≠0):Calls PP 37 #[bL br,cK b n n] w λe w'=> ∃er k,e= .returned (.tuple #[af k,er])/\((er= .nilIface/\ ∃c o pos' p g X,H r w' ((ah br (aB c) 81)::(ah b (dm pl 0 (ar u8 X)) 5)::(o++L))/\kM D iA ic sb F0 o c pos' p g/\p=(dl++X)++g.drop c.off/\c.off<=W g/\k=W X/\k<=n/\(0<n->0<k)/\(pos+3<=pos'\/(pos'=pos/\bo.drop x.off=X++g.drop c.off)))\/(k=0/\(∃Z,H r w' ((ah b (pl) 5)::(Z++L)))/\((er= .iface 199 (.pointer (some aE))/\DF D 0 []=(1,dl))\/(Er aU er/\(DF D 0 []).1≠1)))):=by
 refine iI func37 ntmps37 [4,5] ?_;refine g_ 9 ?_;refine d' J J (aH (aCe (L:=(ah b (pl) 5)::L) h.alB C E G (K.trans (Sub.cons _ _)) M N O P) ?_);rintro e T ⟨er,rfl,s⟩;refine(ab8 s).elim λok j=>?_;have t:=j.1;have u:=j.2;clear s j;refine g_ 5 ?_;refine ak (ab7 (er:=er) J (λe=>(t e).1) (λe=>(u e).elim (λq=>Exists.intro _ ⟨_,q.1⟩) (λq=>q.1.U')) J) (aJ (eY J ?_ ?_))<;>intro v
 refine g_ 7 ?_;exact⟨_,0,J,(u (Va v)).elim (λq=>bG ⟨J,q.2.2.elim (λZ l=>⟨Z,l.grow⟩),a_ ⟨q.1,q.2.1⟩⟩) (λq=>bG ⟨J,q.2.2.elim (λZ l=>⟨Z,l.grow⟩),bG ⟨q.1,q.2.1⟩⟩)⟩
 refine afa ((t (FE v)).2) λa y pp Q bb d=>?_;have h:=d.1.G6;have f:=d.2.1;have z:=f.bn;have U:=f.bl;have V:=d.2.2.2.1;have Y:=f.sl.len;refine a8 (bY (cm h [0,4,8,12,20,24,28,17,33,36,43,44] ?_));intro w h;refine aC 9 ?_;refine aD J (jJ J J I I) (Hh (i:=1) (F:=y) (X:=bb.drop a.off) J h J J J (λ_=>rfl) (aY.drop f.sl I) (λe he=>aA (aA (oA _ he))) I J ?_);intro w h;dsimp only[bJ]at h;refine fG J (cO ?_);refine g_ 10 ?_;refine iX (af (a.off+min (a.bN-a.off) n)) ?_;intro w h;rw[aad]at h;refine g_ 8 ?_;have B:=aCf (off:=a.off) (n:=n) z;have m:min (a.bN-a.off) n=W ((bb.drop a.off).take n):=(by rw[fR,cr,Nat.min_comm,z]);exact⟨_,min (a.bN-a.off) n,J,a_ ⟨J,{a with off:=a.off+min (a.bN-a.off) n},y,pp,Q,bb,(bb.drop a.off).take n,h,f.alA,(by rw[bV];exact d.2.2.1.trans (cD (dl++ ·) B.symm)),(by show a.off+min (a.bN-a.off) n<=_;omega),m,I,I,d.2.2.2.2.elim a_ (λq=>bG ⟨q.1,q.2.symm.trans B.symm⟩)⟩⟩
variable {e1 e2:aK}{dl:List UInt8}{x:Operand}{er:Value}
def aCh(c:aL ρ x=er)(he:Er aU er)(d:aL ρ y= .iface 199 (.pointer (some aE)))(h:H r w L)(a:Gl L aE aU):run PP ρ (.binOp .eql 103 x y T') ty w= .ok (.value (.bool false)) w:=by
 rcases he with⟨b,rfl⟩|rfl
 exact atV c d an
 obtain⟨l,T,e⟩:=a.bU;obtain⟨l',T',f⟩:=a.bE;exact R4 c d h a.ne e f
def aCi{c:Value}(d:aL ρ x=er)(he:Er aU er)(f:c= .nilIface):run PP ρ (.binOp .eql 103 x (.const c) T') ty w= .ok (.value (.bool false)) w:=by
 obtain⟨a,b,e⟩:=he.U';exact Zq (d.trans e) f
def aCj(h:H r w F)(a:Gl F aE aU):Calls PP 36 #[.nilIface] w λe w'=>e= .returned (af 0)/\H r w' F:=by
 obtain⟨c,b⟩:=a.g0;obtain⟨i0,d⟩:=dw b;refine iu func36 ntmps36 [2] ?_;refine g_ 12 ?_;refine ak (ag4 J J) (ee (aJ (jv J ?_)));refine g_ 5 ?_;exact⟨J,h⟩
def aCk(h:H r w F)(a:Gl F aE aU):Calls PP 36 #[.iface 199 (.pointer (some aE))] w λe w'=>e= .returned (af 1)/\H r w' F:=by
 obtain⟨c,b⟩:=a.g0;obtain⟨i0,d⟩:=dw b;refine iu func36 ntmps36 [2] ?_;refine g_ 12 ?_;refine ak (Zq J J) (ee (aJ (gK J ?_)));refine g_ 3 ?_;refine ak (NA J J) (ee (aJ (jv J ?_)));refine g_ 5 ?_;exact⟨J,h⟩
def aCl(h:H r w F)(a:Gl F aE aU){er:Value}(b:Er aU er):Calls PP 36 #[er] w λe w'=>e= .returned (af 2)/\H r w' F:=by
 obtain⟨d,c⟩:=a.g0;obtain⟨i0,f⟩:=dw c;refine iu func36 ntmps36 [2] ?_;refine g_ 12 ?_;refine ak (aCi J b J) (ee (aJ (gK J ?_)));refine g_ 3 ?_;refine ak (aCh J b J h a) (ee (aJ (gK J ?_)));refine g_ 6 ?_;exact⟨J,h⟩
def alC(aE aU:Addr)(er:Value)(kk:Nat):Prop:=(er= .nilIface/\kk=0)\/(er= .iface 199 (.pointer (some aE))/\kk=1)\/(Er aU er/\kk=2)
def aCm{kk:Nat}(h:H r w F)(a:Gl F aE aU)(he:alC aE aU er kk):Calls PP 36 #[er] w λe w'=>e= .returned (af kk)/\H r w' F:=by
 rcases he with⟨rfl,rfl⟩| ⟨rfl,rfl⟩| ⟨he,rfl⟩
 exact aCj h a
 exact aCk h a
 exact aCl h a he
def H.aCn{G:List aK}{e:aK}(h:H r w (e::e1::(G++e2::F))):H r w (e1::e2::e::(G++F)):=
 ((h.perm ((List.perm_middle.cons e1).cons e)).mv 2).mv 2
def H.aCo{G:List aK}{e:aK}(h:H r w (e::e1::e2::(G++F))):H r w (e::e1::(G++e2::F)):=h.perm ((List.perm_middle.symm.cons e1).cons e)
def ab9(D:List UInt8)(iA:Option Addr)(ic sb br:Nat)(F0:List aK)(dl e:List UInt8)(pos kk k:Nat)(Y:List aK)(f:List Value):Prop:=
 (kk=0/\ ∃a c pos' d b X,Y=(some br,C (aB a) 81)::c/\kM D iA ic sb F0 c a pos' d b/\d=(dl++X)++b.drop a.off/\a.off<=W b/\k=W X/\0<k/\Rd f 0 (ar u8 X)/\(pos+3<=pos'\/(pos'=pos/\e=X++b.drop a.off)))\/
 (k=0/\kk=1/\DF D 0 []=(1,dl))\/(k=0/\kk=2/\(DF D 0 []).1≠1)
def aCp{l:List Value}{X:List Value}(h:W X<=W l):Rd (dm l 0 X) 0 X:=by
 rw[BY _ _ _ I,qi,List.nil_append];exact Rd.left _ _
def aCq{D:List UInt8}{iA:Option Addr}{pos:Nat}{f:Nat}{pl:List Value}{g:List UInt8}(q:W pl=4096)(l:(er= .nilIface/\ ∃a d pos' e b X,H r w ((ah br (aB a) 81)::(ah f (dm pl 0 (ar u8 X)) 5)::(d++e2::L))/\kM D iA ic sb F0 d a pos' e b/\e=(dl++X)++b.drop a.off/\a.off<=W b/\k=W X/\k<=4096/\(0<4096->0<k)/\(pos+3<=pos'\/(pos'=pos/\g=X++b.drop a.off)))\/(k=0/\(∃Z,H r w ((ah f (pl) 5)::(Z++e2::L)))/\((er= .iface 199 (.pointer (some aE))/\DF D 0 []=(1,dl))\/(Er aU er/\(DF D 0 []).1≠1)))): ∃i Y kk,H r w ((ah f i 5)::e2::(Y++L))/\k<=4096/\alC aE aU er kk/\ab9 D iA ic sb br F0 dl g pos kk k Y i:=by
 rcases l with⟨he,a,d,pos',e,b,X,h,h1,h2,c,m,n,o,p⟩| ⟨j,⟨Z,h⟩,h2⟩
 exact⟨_,_,0,h.aCn,n,a_ ⟨he,J⟩,a_ ⟨J,a,d,pos',e,b,X,J,h1,h2,c,m,o an,aCp (by rw[cB];omega),p⟩⟩
 rcases h2 with⟨h2,c⟩| ⟨h2,c⟩
 exact⟨_,Z,1,h.G6,I,bG (a_ ⟨h2,J⟩),bG (a_ ⟨j,J,c⟩)⟩
 exact⟨_,Z,2,h.G6,I,bG (bG ⟨h2,J⟩),bG (bG ⟨j,J,c⟩)⟩
def aCr{D:List UInt8}{iA:Option Addr}{pos:Nat}{x:dk}(h:H r w ((ah br (aB x) 81)::(A++L)))(o:kM D iA ic sb F0 A x pos jc bo)(p:jc=dl++bo.drop x.off)(s:x.off<=W bo)(g:Sub F0 L)(i:Gl F0 aE aU)(t:aY F0 (.slice iA (W D) ic) D)(u:W D<=140737488355328)(v:(DF D 0 []).1≠0):Calls PP 24 #[bL br,af 4096] w λe w'=> ∃k kk c Y d,e= .returned (.agg #[af k,cK c k 4096,af kk])/\H r w' ((ah c d 5)::(Y++L))/\k<=4096/\ab9 D iA ic sb br F0 dl (bo.drop x.off) pos kk k Y d:=by
 refine D9 (P:=PP) func24 43 ntmps24 4 64 [] J J (args:=[_,_]) J (bY (fD (eN h J ?_)));intro bs w h;refine g_ 5 ?_;refine ak (QD (a:=4096) (b:=0) (h1:=av.lit _) (h2:=av.lit _) J J) (aJ (gK J ?_));refine g_ 4 ?_;refine uK h J J J I I I J ?_;intro c w h;refine g_ 6 ?_;replace h:=h.zz [1,1,2] 0;have j:W (dD [Value.int .u8 ((0:Nat):Int)] 4096)=4096:=(by rw[D7];rfl);refine cJ J J J (aH (aCg (L:=(ah bs [af 0,.slice none 0 0,af 0] 64)::L) (n:=4096) h.aCo j an o p s (g.trans (Sub.cons _ _)) i t u v) ?_);rintro e y ⟨er,k,rfl,l⟩;have hu:=aCq (L:=L) (e2:=(ah bs [af 0,.slice none 0 0,af 0] 64)) (aE:=aE) (aU:=aU) j l;clear l;refine B9 (hu) λd Y kk q=>?_;have h:=q.1;have f:=q.2.2.1;have m:=q.2.1;refine g_ 7 ?_;refine cm h [0,4,8,12,16,20,24,28,35,36,43] ?_;intro w h;refine aC 4 ?_;refine aD J (Ao (b:=4096) (h2:=av.lit _) J J) (aD J (cG (Mx (a:=0) (h1:=av.lit _) J J) (I:max 0 (min k 4096)=k)) (aD J (mX J J m) (lx J (qU J J J (aH (aCm h (i.sub (g.trans ((yp Y).trans ((Sub.cons _ _).trans (Sub.cons _ _))))) f) ?_)))));rintro e y ⟨rfl,h⟩;refine aD J (xH (aqF _ _ _ _ _) J J J) (MF J h J J J J (by first|decide|exact aW _| (simp;done)|omega) J ?_);intro w h;(try dsimp only[dm,bJ]at h);refine cO (ju (⟨_,rX [_,_,_] h J ⟨J,J,J,trivial⟩ J,?_⟩));exact⟨k,kk,c,Y,d,J,(h.mv 1).tail,m,q.2.2.2⟩
def aCs{D:List UInt8}{iA:Option Addr}{f:List UInt8}{pos kk:Nat}{Y:List aK}{g:List Value}(h:ab9 D iA ic sb br F0 dl f pos kk k Y g): ∃X:List UInt8,k=W X/\Rd g 0 (ar u8 X)/\((kk=0/\0<k/\ ∃a d pos' e b,Y=(ah br (aB a) 81)::d/\kM D iA ic sb F0 d a pos' e b/\e=(dl++X)++b.drop a.off/\a.off<=W b/\(pos+3<=pos'\/(pos'=pos/\f=X++b.drop a.off)))\/(¬kk=0/\X=[]/\((decide (kk=1)=true/\DF D 0 []=(1,dl))\/(decide (kk=1)=false/\(DF D 0 []).1≠1)))):=by
 rcases h with⟨i,a,d,pos',e,b,X,h1,h2,c,j,l,m,n,o⟩| ⟨h1,rfl,c⟩| ⟨h1,rfl,c⟩
 exact⟨X,l,n,a_ ⟨i,m,a,d,pos',e,b,h1,h2,c,j,o⟩⟩
 exact⟨[],h1,trivial,bG ⟨by decide,J,a_ ⟨J,c⟩⟩⟩
 exact⟨[],h1,trivial,bG ⟨by decide,J,bG ⟨J,c⟩⟩⟩
def msr{p c a b:Nat}(h1:c<=P)(h2:b<=4194304)(d:0<k)(h:p+3<=c\/(c=p/\a=k+b)):(P-c)*4194305+b<(P-p)*4194305+a:=by
 rcases h with h| ⟨rfl,rfl⟩
 have:(P-p)*4194305=(P-c)*4194305+(c-p)*4194305:=(by rw[<-qQ];congr 1;omega);have e:4194305<=(c-p)*4194305:=Nat.le_mul_of_pos_left _ I;omega
 omega
def aCt{D:List UInt8}{iA:Option Addr}{pos:Nat}{x:dk}(h:H r w ((ah br (aB x) 81)::(A++L)))(B:kM D iA ic sb F0 A x pos jc bo)(E:jc=bo.drop x.off)(F:x.off<=W bo)(G:Sub F0 L)(K:Gl F0 aE aU)(M:aY F0 (.slice iA (W D) ic) D)(N:W D<=140737488355328)(O:(DF D 0 []).1≠0):Calls PP 17 #[bL br] w λe w'=> ∃ob out c sp ok Z,e= .returned (.tuple #[.slice (aI ob) (W out) c,.bool ok])/\H r w' ((ob,C (ar u8 out++sp) 5)::(Z++L))/\b8 ob (W out) c (ar u8 out) sp 1/\((ok=true/\DF D 0 []=(1,out))\/(ok=false/\(DF D 0 []).1≠1)):=by
 replace h:=(h.ghost (C (ar u8 []++[]) 5)).mv 1;dsimp only[dX]at h;refine iu func17 ntmps17 [2,3] ?_;refine g_ 10 ?_;refine cw (σ:=dk×List aK×Nat×List UInt8×List UInt8×List UInt8×Option Nat×Nat×List Value) [(2,18)] (λ⟨a,f,pp,g,bb,out,ob,c,sp⟩ ρ w=>Kn ρ [(4,.slice (aI ob) (W out) c)]/\H r w ((ah br (aB a) 81)::(ob,C (ar u8 out++sp) 5)::(f++L))/\(kM D iA ic sb F0 f a pp g bb)/\(g=out++bb.drop a.off)/\(a.off<=W bb)/\(b8 ob (W out) c (ar u8 out) sp 1)) (λ⟨a,f,pp,g,bb,out,ob,c,sp⟩=>(W D-pp)*4194305+W (bb.drop a.off)) (x,A,pos,jc,bo,[],none,0,[]) ⟨az,h,B,(by rw[E,List.nil_append]),F,J,J,aW _,λ_=>rfl⟩ ?_;rintro⟨a,f,pp,g,bb,out,ob,c,sp⟩ ρ w ⟨⟨sV,rfl⟩,h,p,s,P,Q⟩;refine g_ 4 ?_;have R:=p.tl;refine cJ (v1:=af 4096) J J J ((aCr (L:=(ob,C (ar u8 out++sp) 5)::L) h.alB p s P (G.trans (Sub.cons _ _)) K M N O).mono ?_);clear h;rintro e w1 S;refine aZ (S) (λk T=>aZ (T) (λkk U=>aZ (U) (λbp V=>aZ (V) (λY gN=>aZ (gN) (λpc i=>?_)))));have h:=i.2.1.G6;refine⟨_,i.1,?_⟩;have s6:=i.2.2.1;refine(aCs i.2.2.2).elim λX l=>?_;have b:=l.1;refine eN h J ?_;intro bT w h;refine rW h J J J J (by first|decide|exact aW _| (simp;done)|omega) J ?_;intro w h;(try dsimp only[dm,bJ]at h);refine g_ 6 ?_;refine me (ar u8 out) sp (ar u8 X) h 2 J J J Q (Src.slice (j:=1) (q2:=0) J l.2.1 (by rw[cB,fg];exact b.symm)) (by intro y hy;obtain⟨z,_,rfl⟩:=jS.1 hy;rfl) (by rw[s,aF]at R;omega) an J ?_;intro w m c2 n h t ig mi;dsimp only[bJ]at h;rw[<-gJ]at h t;have u:b8 m (W (out++X)) c2 (ar u8 (out++X)) n 1:=⟨by rw[cB,fg],t,by rw[aF,<-b];exact ig,mi⟩;refine g_ 8 ?_;refine au J ?_ ?_<;>intro v
 have d:=l.2.2.resolve_left (λz=>v z.1);refine bY (cm h [0,4,16,9,12,20] ?_);intro w h;refine aC 7 ?_;exact ju ⟨m,out++X,c2,n,_,Y,(by rw[aF,<-b];rfl),h.tail.tail,u,by rw[d.2.1,dN];exact d.2.2⟩
 have d:=l.2.2.resolve_right (λz=>z.1 (oB.1 v));have o:=d.2.1;refine afa (d.2.2) λx2 A2 p2 t2 b2 q=>?_;replace h:=h.tail.tail;rw[q.1]at h;replace h:=h.zz [1] 0;(try dsimp only[dX,List.cons_append]at h);exact a8 ⟨aO 12,(x2,A2,p2,t2,b2,out++X,m,c2,n),(msr q.2.1.pl (by have:=q.2.1.bl;rw[cr];omega) o (q.2.2.2.2.imp_right (λz=>⟨z.1,by rw[z.2,aF,b]⟩))),Kn.mk ⟨jw J (by rw[aF,b]) J,trivial⟩,h,q.2.1,q.2.2.1,q.2.2.2.1,u⟩
def Ir:dk:=⟨.nilIface,false,false,false,false,0,0,none,0,0,0,0,0,0,none,0,0,0,0,none,0,0,0,none,0,0,none,0,0,λ_=> .slice none 0 0,λ_=>0,λ_=> .slice none 0 0,λ_=>0,none,0,0,0,λ_=>0,λ_=>0,0⟩
def aCv{v:Value}(a:plain v=true)(h:H r w ((ah br (aB Ir) 81)::L)):Calls PP 25 #[bL br,v] w λe w'=>e= .returned (.tuple #[])/\H r w' ((ah br (aB {Ir with uj:=v}) 81)::L):=by
 refine iI func25 ntmps25 [] ?_;refine g_ 6 ?_;refine ir (v:=v) h J J J a J ?_;intro w h;dsimp only[bJ]at h;rw[avI]at h;refine g_ 6 ?_;refine iX (.bool false) ?_;intro w h;rw[avJ]at h;refine g_ 6 ?_;refine iX (.bool false) ?_;intro w h;rw[avK]at h;refine g_ 6 ?_;refine iX (.bool false) ?_;intro w h;rw[avL]at h;refine g_ 6 ?_;refine iX (.bool false) ?_;intro w h;rw[avM]at h;refine g_ 6 ?_;refine iX (cR 0) ?_;intro w h;rw[avN]at h;refine g_ 6 ?_;refine cI ?_;intro w h;rw[ahJ]at h;refine g_ 8 ?_;refine ak (mX (ad:=none) (len:=0) (cap:=0) (c:=0) (h1:=av.lit _) J J an) ?_;refine g_ 2 ?_;refine iX (.slice none 0 0) ?_;intro w h;rw[avO]at h;refine g_ 5 ?_;refine iX (af 0) ?_;intro w h;rw[aad]at h;exact aJ ⟨J,h⟩
def aCw{v:Value}(a:plain v=true)(h:H r w L):Calls PP 18 #[v] w λe w'=> ∃br,e= .returned (bL br)/\H r w' ((ah br (aB {Ir with uj:=v}) 81)::L):=by
 refine iu func18 ntmps18 [2] ?_;refine g_ 6 ?_;refine eN h J ?_;intro br w h;refine g_ 6 ?_;have h:H r w ((ah br (aB Ir) 81)::L):=h;refine cJ J J J (aH (aCv a h) ?_);rintro e b ⟨rfl,h⟩;refine g_ 7 ?_;exact⟨_,J,h⟩
def aCx{ad:Option Addr}{c:Nat}(h:H r w L):Calls PP 19 #[.slice ad n c] w λe w'=> ∃sb,e= .returned (bL sb)/\H r w' ((ah sb [.slice ad n c,af 0,.int .i64 (-1)] 84)::L):=by
 refine iu func19 ntmps19 [2] ?_;refine g_ 7 ?_;refine ak (xH (v1:=af 0) (aqH _ _ _ _ _) J J J) (tL h J J J ?_);intro bs w h;refine g_ 3 ?_;exact⟨_,J,h⟩
def aCy{D:List UInt8}{iA:Option Addr}(a:0<W D)(h:H r w ((ah br (aB {Ir with uj:= .iface 58 (bL sb)}) 81)::(ah sb [.slice iA (W D) ic,af 0,.int .i64 pr] 84)::L)): ∃A,H r w ((ah br (aB {Ir with uj:= .iface 58 (bL sb)}) 81)::(A++L))/\kM D iA ic sb F0 A {Ir with uj:= .iface 58 (bL sb)} 0 [] []:=by
 refine⟨AL D iA ic sb 0 pr none none none none none none none none none (ar u8 []++[]) [] [] (ar u8 []++[]) [] [] [] [] [] [],?_,?_⟩
 exact(((((((((((h.ghost (C (ar u8 []++[]) 5)).ghost (C [] 5)).ghost (C [] 5)).ghost (C (bP []) 214)).ghost (C (bP []) 214)).ghost (C (bP []) 214)).ghost (C (ar dG []) 174)).ghost (C (dp []) 227)).ghost (C (ar u8 []++[]) 5)).mv 10).mv 10)
 refine⟨pr,none,none,none,none,none,none,none,none,none,[],[],[],[],[],[],[],[],[],[],[],J,J,cj _,?_,?_,J,cj _,a_ ⟨J,bG a,cj _,J⟩⟩
 exact⟨⟨J,J,λ_=>rfl⟩,⟨J,J,aW _,λ_=>rfl⟩,⟨J,J,λ_=>rfl⟩,⟨J,a_ J⟩,⟨J,aW _,cj _,λ_=>rfl⟩,⟨0,0,J,aW _,a_ J⟩,⟨0,0,J,aW _,a_ J⟩,0,0,J,aW _,a_ J⟩
 exact⟨J,J,J,J,aW _,λ_=>rfl⟩
def ab_{D:List UInt8}{iA:Option Addr}(h:H r w L)(f:Gl L aE aU)(g:aY L (.slice iA (W D) ic) D)(i:W D<=140737488355328)(a:(mx D).1≠0):Calls PP 10 #[.slice iA (W D) ic] w λe w'=> ∃ob out c sp ok Z,e= .returned (.tuple #[.slice (aI ob) (W out) c,.bool ok])/\H r w' ((ob,C (ar u8 out++sp) 5)::(Z++L))/\b8 ob (W out) c (ar u8 out) sp 1/\((ok=true/\mx D=(1,out))\/(ok=false/\(mx D).1≠1)):=by
 have b:0<W D:=by
  rcases pd (W D) with e|e
  exact absurd (by unfold mx;rw[ao e]) a
  exact e
 have j:mx D=DF D 0 []:=(by unfold mx;rw[aj I];rfl);rw[j]at a ⊢;refine iu func10 ntmps10 [2,3] ?_;refine g_ 8 ?_;refine d' J J (aH (aCx h) ?_);rintro e d ⟨sb,rfl,h⟩;refine ak (atU J) (d' J J (aH (aCw J h) ?_));rintro e d ⟨br,rfl,h⟩;refine(aCy (F0:=L) b h).elim λA hA=>?_;refine d' J J ((aCt hA.1 hA.2 J (aW _) aP f g i a).mono ?_);clear h;rintro e d hh;refine aZ (hh) (λob k=>aZ (k) (λout l=>aZ (l) (λc m=>aZ (m) (λsp n=>aZ (n) (λok o=>aZ (o) (λZ q=>?_))))));have h:=q.2.1;refine⟨_,q.1,?_⟩;refine g_ 6 ?_;exact⟨ob,out,c,sp,ok,Z,J,h,q.2.2⟩
variable {f:FuncId}
def Is(X:List UInt8):ByteArray:=(X.map λx:UInt8=>(x.toNat:Int)).foldl (λr n=>r.push (bS n.toNat)) ByteArray.empty
def foldl_push(X:List UInt8): ∀s:ByteArray,((X.map λx:UInt8=>(x.toNat:Int)).foldl (λr n=>r.push (bS n.toNat)) s).data.toList=s.data.toList++X:=by
 induction X with
 |nil=>intro s;simp
 | cons x X a=>
   intro s
   rw[DM,Mf,a]
   simp[ByteArray.push]
def aCz(X:List UInt8):(Is X).toList=X:=by
 rw[ByteArray.toList_eq];unfold Is;rw[foldl_push];rfl
section
variable {P:Program}{ρ:Env}{x y:Operand}{ty:TypeId}{w:World}{r:fT}{L:List aK}{T T' E:TypeId}
def ab'{v:Value}[hu:cu P T (.slice E)] [he:cu P E (.int .u8)] [hd:cu P T' .string](h:H r w L)(j:aL ρ x=v)(k:aY L v X):run P ρ (.convert T T' x) ty w= .ok (.value (.string (Is X))) w:=by
 obtain⟨ad,n,c,rfl,f,p,g⟩:=k
 have key:(convert T T' (.slice ad n c)).run P w= .ok (.string (Is X)) w:=by
  cases ad with
  | none=>
    have d:X=[]:=by
      rcases pd (W X) with e|e
      . exact k7.1 e
      . obtain⟨b,q,l,T,e2,_⟩:=g I;cases e2
    subst d
    simp[convert,run_underlying hu.eq,run_underlying hd.eq,run_underlying he.eq,Conv.bytesToString,Sem.run_pure];rfl
  | some a=>
    rw[run_convert_bytes_string w T T' E a n c hu.eq he.eq hd.eq]
    unfold Is
    refine run_bytesToString w a n c _ ?_
    rw[F3]
    rcases pd (W X) with e|e
    . have d:X=[]:=k7.1 e
      subst d
      have m:n=0:=f
      subst m
      simp[loadCells,loadCellsFrom]
    . obtain⟨b,q,l,T,e2,hm,o⟩:=g I
      cases e2
      obtain⟨i,hi⟩:=IU hm
      exact D4 h hi o (by rw[cB];exact f.symm)
 simp[run,execOp,j,key]
def alD{Y:List UInt8}(a:aL ρ x= .string (Is X))(b:aL ρ y= .string (Is Y)):run P ρ (.binOp .eql T x y T') ty w= .ok (.value (.bool (decide (X=Y)))) w:=by
 have e:(X==Y)=decide (X=Y):=(by by_cases h:X=Y<;>simp[h]);simp[run,execOp,a,b,eqGuard,binOp,Op.stringOp,aCz,e,Sem.run_pure]
end
section
variable {P:Program}{n:Nat}{K:ia}{ρ:Env}{w:World}{all:Array Oper}{rest:List Oper}{d:Option Nat}{ty:TypeId}{pos:String}{aV:Array Edge}{g t:Nat}{want:Bool}
def aCA[Body P f] {ts:Array TypeId} (a:(all[g]?).bind (·.dst)=some t) (b:Nat.blt t n=true) (c:ρ t= .bool want) (hd:bH n d=true)
 (h:Calls P f #[] w λe w'=> ∃v,e= .returned v/\O P n all rest K (fU ρ d v) w'):
 O P n all ({dst:=d,op:= .call {callee:= .value (.func f),args:= #[],argTypes:=ts},type:=ty,pos:=pos,after:=aV,guard:=some (g,want)}::rest) K ρ w:=Xy a b c (by simp) hd h
def aCB[Body P f] {x0:Operand} {v0:Value} {ts:Array TypeId} (a:(all[g]?).bind (·.dst)=some t) (b:Nat.blt t n=true) (c:ρ t= .bool want) (i:aL ρ x0=v0) (hd:bH n d=true)
 (h:Calls P f #[v0] w λe w'=> ∃v,e= .returned v/\O P n all rest K (fU ρ d v) w'):
 O P n all ({dst:=d,op:= .call {callee:= .value (.func f),args:= #[x0],argTypes:=ts},type:=ty,pos:=pos,after:=aV,guard:=some (g,want)}::rest) K ρ w:=Xy a b c (by simp[i]) hd h
def xm[Body P f] {x0 a:Operand} {v0 v1:Value} {ts:Array TypeId} (b:(all[g]?).bind (·.dst)=some t) (c:Nat.blt t n=true) (i:ρ t= .bool want) (j:aL ρ x0=v0) (h1:aL ρ a=v1) (hd:bH n d=true)
 (h:Calls P f #[v0,v1] w λe w'=> ∃v,e= .returned v/\O P n all rest K (fU ρ d v) w'):
 O P n all ({dst:=d,op:= .call {callee:= .value (.func f),args:= #[x0,a],argTypes:=ts},type:=ty,pos:=pos,after:=aV,guard:=some (g,want)}::rest) K ρ w:=Xy b c i (by simp[j,h1]) hd h
end
def aca{a b:Value}{A B:List UInt8}(h:H r w F)(hA:aY F a A)(c:aY F b B):Calls PP 11 #[a,b] w λe w'=>e= .returned (.bool (decide (A=B)))/\H r w' F:=by
 refine iI func11 ntmps11 [4] ?_;refine g_ 7 ?_;refine ak (ab' h J hA) (dg (ak (ab' h J c) (ak (alD J J) ?_)));refine g_ 3 ?_;exact⟨J,h⟩
def Dl{P:Program}{op:Op}{w':World}{k:IntKind}{a b:Int}(e:a=b)(h:run P ρ op ty w= .ok (.value (.int k a)) w'):run P ρ op ty w= .ok (.value (.int k b)) w':=by rw[h,e]
def alF:List UInt8:=[40,181,47,253,32,2,17,0,0,104,105]
def aCC:mx alF=(1,[104,105]):=by decide+kernel
def H.exZ{e a:aK}{Z:List aK}(h:H r w (e::(Z++a::L))): ∃b,H r w (b++L):=⟨e::(Z++[a]),by simpa using h⟩
def acb(h:H r w L)(d:Gl L aE aU):Calls PP 5 #[] w λe w'=>e= .returned (.bool true)/\ ∃Z,H r w' (Z++L):=by
 have a:=aCC;refine rU (P:=PP) func5 14 ntmps5 [0] J J (args:=[]) J ?_;refine g_ 6 ?_;refine uJ (v:=λb=>cK b 11 11) (λw=>B7 (u:=λb=>cK b 11 11) (λw=>aq3 (40) (181) (47) (253) (32) (2) (17) (0) (0) (104) (105) w) J) h J ?_;intro bd w h;refine d' J J ((ab_ (D:=alF) (iA:=some ⟨bd,0,none⟩) (ic:=11) h (d.sub (Sub.cons _ _)) ⟨_,_,_,J,J,aW _,λ_=>⟨bd,0,_,_,J,fQ ..,Rd.self _⟩⟩ an (by rw[a];decide)).mono ?_);clear h;rintro e o f;refine aZ (f) (λob g=>aZ (g) (λout i=>aZ (i) (λc j=>aZ (j) (λsp k=>aZ (k) (λok l=>aZ (l) (λZ q=>?_))))));have h:=q.2.1
 have m:ok=true:=by
  rcases q.2.2.2 with z|z
  exact z.1
  exact absurd (by rw[a]) z.2
 have n:out=[104,105]:=by
  rcases q.2.2.2 with z|z
  rw[a]at z;exact(cD Prod.snd z.2).symm
  exact absurd (by rw[a]) z.2
 refine⟨_,(by rw[q.1,m]),?_⟩;refine g_ 11 ?_;refine dI J J J (ab' h J (aY.own q.2.2.1)) J (dI J J J (alD (X:=out) (Y:=[104,105]) J J) J ?_);refine g_ 4 ?_;exact⟨by rw[n];rfl,h.exZ⟩
variable {Z:List aK}{N:List Int}{l:List Value}{c:Nat}{ad:Option Addr}
def alG{v b c:Nat}{d:Option Addr}(h1:(mx E).1=v)(h2:v≠1->H r w F)(f:v=1-> ∃out ob co sp,mx E=(1,out)/\d=aI ob/\b=W out/\c=co/\b8 ob (W out) co (out.map u8) sp 1/\H r w ((ob,C (ar u8 out++sp) 5)::F)): ∃o l,H r w ((o,C l 5)::F)/\(v=1-> ∃out,mx E=(1,out)/\aY [(o,C l 5)] (.slice d b c) out):=by
 by_cases a:v=1
 obtain⟨out,ob,co,sp,e1,e2,g,i,j,h⟩:=f a;refine⟨ob,_,h,λ_=>⟨out,e1,?_⟩⟩;rw[e2,g,i];exact aY.own j
 exact⟨none,[],(h2 a).ghost _,λe=>absurd e a⟩
def aY.in1{o:Option Nat}{T:TT}{v:Value}(h:aY [(o,C l T)] v X)(hm:(o,C l T)∈L):aY L v X:=
 h.sub (λe he=>by rcases jT.1 he with rfl;exact hm)
def alH{db:Nat}{a:List UInt8}(hm:(ah db (ar u8 a) 5)∈F)(d:n<=W a)(b:n<=c):aY F (cK db (W (ag a 0 n)) c) (ag a 0 n):=by
 have:=aY.ag (n:=n) (c:=c) (q:=0) (ad:=some ⟨db,0,none⟩) hm (λ_=>rfl) I b;rw[dK I];exact this
def alI{out:List UInt8}{v:Nat}{ok:Bool}(a:(mx E).1=v)(h:(ok=true/\mx E=(1,out))\/(ok=false/\(mx E).1≠1)):ok=decide (v=1):=by
 rcases h with⟨h1,h2⟩| ⟨h1,h2⟩
 rw[h1,<-a,h2];rfl
 rw[h1,I4 (by rw[<-a];exact h2)]
def H.aCE{Y:List aK}{a b:aK}(h:H r w (Y++(e1::e2::(Z++(a::b::L))))): ∃c,H r w (c++L):=⟨Y++(e1::e2::(Z++[a,b])),by simpa using h⟩
def H.aCF(h:H r w (Z++(A++L))): ∃a,H r w (a++L):=⟨Z++A,by simpa using h⟩
def og(F:List aK)(v:Value)(N:List Int):Prop:= ∃ad n c,v= .slice ad n c/\n=W N/\n<=c/\(0<W N-> ∃b q l T,ad=some ⟨b,q,none⟩/\(some b,C l T)∈F/\Rd l q (N.map i64))/\ ∀i,-9223372036854775808<=aa N i 0/\aa N i 0<=9223372036854775807
def og.sub{a:List aK}{v:Value}(h:og F v N)(hs:Sub F a):og a v N:=by
 obtain⟨ad,n,c,h1,h2,d,e,f⟩:=h;refine⟨ad,n,c,h1,h2,d,λg=>?_,f⟩;obtain⟨b,q,l,T,e1,e2,i⟩:=e g;exact⟨b,q,l,T,e1,hs _ e2,i⟩
def Vc{X:List Int}(h:Rd l q (X.map i64))(hi:i<W X):l[q+i]? =some (i64 (aa X i 0)):=by
 rw[h.get i (by rw[cB];exact hi)];exact y_ hi
def Vd(Q:List UInt8->List UInt8->Prop):Prop:= ∀(r:fT) (w:World) (F:List aK) (d f:Value) (T:List UInt8) (N:List Int),H r w F->aY F d T->og F f N->W T<=1048576->W N<=2147483647->
 Calls PP 6 #[d,f] w λe w'=> ∃b a n c,e= .returned (.slice (some ⟨b,0,none⟩) n c)/\H r w' ((some b,C (ar u8 a) 5)::F)/\0<n/\n<=W a/\n<=c/\n<=1099511627776/\Q T (ag a 0 n)
def alL(h:og F (.slice ad n c) N)(a:0<W N): ∃b q l T,ad=some ⟨b,q,none⟩/\(ah b l T)∈F/\Rd l q (N.map i64):=by
 obtain⟨_,_,_,e1,e2,e,d,_⟩:=h;cases e1;exact d a
def alM{v:Value}(h:og F v N)(i:Nat): -9223372036854775808<=aa N i 0/\aa N i 0<=9223372036854775807:=by
 obtain⟨_,_,_,_,_,_,_,h⟩:=h;exact h i
def alN(h:aY F (.slice ad n c) X)(d:0<W X): ∃b q l T,ad=some ⟨b,q,none⟩/\(ah b l T)∈F/\Rd l q (X.map u8):=by
 obtain⟨_,_,_,e1,e2,e,a⟩:=h;cases e1;exact a I
def aCJ{P:Program}{op:Op}{w':World}(h:run P ρ op ty w= .ok (.value (.bool b)) w')(e:b=true):run P ρ op ty w= .ok (.value (.bool true)) w':=by rw[h,e]
def aCK{ta C:Option Addr}{tn tc cn cc:Nat}{T:List UInt8}(K:Vd (λT D=>(mx D).1=0\/mx D=(1,T)))(h:H r w L)(i:Gl L aE aU)(j:aY L (.slice ta tn tc) T)(hN:og L (.slice C cn cc) N):Calls PP 4 #[.slice ta tn tc,.slice C cn cc] w λe w'=>e= .returned (.bool true)/\ ∃Z,H r w' (Z++L):=by
 have Y:=j.len;have M:cn=W N:=(by obtain⟨_,_,_,e1,e2,_⟩:=hN;cases e1;exact e2);refine iI func4 ntmps4 [4] ?_;refine g_ 4 ?_;refine cW [(4,4),(9,16)] (λρ w=>Kn ρ []/\H r w (L)/\(cn<=2147483647)) ?_ ?_
 refine g_ 6 ?_;refine eM (t:=12) J (λO=>?_) (λO=>?_)
 refine g_ 5 ?_;refine jv J ?_;refine g_ 5 ?_;exact⟨J,[],h⟩
 refine g_ 5 ?_;refine au J ?_ ?_<;>intro Ra
 refine g_ 5 ?_;exact⟨J,[],h⟩
 exact a8 ⟨aS,az,h,I⟩
 rintro ρ w ⟨⟨sV,rfl⟩,h,jV⟩;refine g_ 7 ?_;refine au J ?_ ?_<;>intro JO
 refine bY (fD (Jk J (aH (acb h i) ?_)));rintro e a ⟨rfl,m,h⟩;refine g_ 3 ?_;exact⟨J,m,h⟩
 refine g_ 5 ?_;refine cJ J J J ((K _ _ _ _ _ _ _ h j hN I I).mono ?_);clear h;rintro e a hh;refine aZ (hh) (λdb d=>aZ (d) (λk f=>aZ (f) (λn g=>aZ (g) (λc q=>?_))));refine⟨_,q.1,?_⟩;have h:=q.2.1;have P:=dK (D:=k) (q:=0) (n:=n) (by have:=q.2.2.2.1;omega);have ku:=q.2.2.1;have u:=q.2.2.2.1;refine g_ 5 ?_;refine d' J J ((ag0 (db:=db) (q:=0) (D:=k) h bZ (λ_=>rfl) I q.2.2.2.2.1 q.2.2.2.2.2.1).mono ?_);clear h;rintro e a hh;refine aZ (hh) (λv d=>aZ (d) (λmu f=>aZ (f) (λnv g=>aZ (g) (λcv x=>aZ (x) (λae y=>aZ (y) (λne Q=>aZ (Q) (λce p=>?_)))))));refine⟨_,p.1,?_⟩;refine aZ (alG p.2.1 p.2.2.1 p.2.2.2) (λo d=>aZ (d) (λoL pp=>?_));have h:=pp.1;refine eN h J ?_;intro br w h;refine cI ?_;intro w h;refine g_ 8 ?_;refine au J ?_ ?_<;>intro R
 refine bY (fD (Jk J (aH (acb h (i.sub aP)) ?_)));rintro e a ⟨rfl,m,h⟩;refine g_ 3 ?_;exact⟨J,H.aCF (A:=[_,_,_]) h⟩
 refine g_ 4 ?_;have l:=q.2.2.2.2.2.2.resolve_left (λz=>R (p.2.1.symm.trans z));have B:v=1:=(by rw[<-p.2.1,l]);have S:(mx (ag k 0 n)).1≠0:=(by rw[l];exact Nat.one_ne_zero);refine(pp.2 B).elim λU E=>?_;have V:U=T:=cD Prod.snd (E.1.symm.trans l);refine d' J J ?_;rw[show Value.slice (some ⟨db,0,none⟩) n c=cK db (W (ag k 0 n)) c from by rw[P]];refine(ab_ h (i.sub aP) (alH (aA (aA bZ)) u q.2.2.2.2.1) I S).mono ?_;clear h;rintro e a hh;refine aZ (hh) (λob d=>aZ (d) (λout f=>aZ (f) (λco g=>aZ (g) (λsp x=>aZ (x) (λok y=>aZ (y) (λZ s=>?_))))));have h:=s.2.1;have F:ok=true:=(alI p.2.1 s.2.2.2).trans (sL B)
 have X:out=T:=by
  rcases s.2.2.2 with z|z
  exact cD Prod.snd (z.2.symm.trans l)
  rw[F]at z;cases z.1
 refine⟨_,(by rw[s.1,F]),?_⟩;replace h:=H.G6 (G:=Z) h;refine g_ 10 ?_;refine ak (aCJ (Ms (b:=1) (h2:=av.lit _) J J) (sL B)) ?_;refine g_ 4 ?_;refine xm J J J J J J ((aca h (E.2.in1 (aA (aA (fM _ bZ)))) (j.sub aP)).mono ?_);rintro e a ⟨rfl,h⟩;refine⟨.bool true,(by rw[sL V]),?_⟩;refine g_ 7 ?_;refine xm J J J J J J ((aca h (aY.own s.2.2.1) (j.sub aP)).mono ?_);rintro e a ⟨rfl,h⟩;refine⟨.bool true,(by rw[sL X]),?_⟩;refine g_ 2 ?_;refine aCA J J J J (aH (acb h (i.sub aP)) ?_);rintro e a ⟨rfl,m,h⟩;refine g_ 4 ?_;exact⟨J,h.aCE⟩
end Go.Z
