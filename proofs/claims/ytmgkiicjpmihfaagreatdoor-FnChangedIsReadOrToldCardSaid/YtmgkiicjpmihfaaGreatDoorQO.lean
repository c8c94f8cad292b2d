/- Part 15 of the proof. -/
import Derived.Test.YtmgkiicjpmihfaaGreatDoorQN
set_option linter.all false
set_option maxRecDepth 20000
set_option maxHeartbeats 400000000
namespace Go.Z
open Go Go.Proofs
variable {F:List aD}{S X:List UInt8}{a b:Nat}{ob:Option Nat}{r:dQ}{w:World}
section
variable {P:Program}{n:Nat}{K:gw}{ρ:Env}{all:Array Oper}{rest:List Oper}{d:Option Nat}{ty:TypeId}{pos:String}{aN:Array Edge}
variable {r:dQ}{w:World}{L:List aD}{x y z:Operand}{b q i:Nat}{l:List Value}{T T':TypeId}{v:Value}
theorem aE5{T2:TypeId}{zs:List Value}{eD size:Nat}[hu:bO P T (.slice T')] [hs:Sz P T' size] [hz:Zr P T' zs] [hb:By P T' eD] [j_:bO P T2 (.int .i64)](rD:zs.length=size){ob:Option Nat}{xs sp:List Value}{nn c m:Nat}(h:H r w L)(hi:L[i]? =some (ob,C (xs++sp) T'))(eK:xs.length=nn*size)(fL:(xs++sp).length=c*size)(uZ:nn<=c)(uU:ob=none->c=0)(ia:0<size)(Z3: ∀v∈zs,plain v=true)(eT:(2*(nn+m)+1000)*eD<=281474976710656)(We:nn+m<=281474976710656)(p:Value->Prop)(vC: ∀v∈sp,p v)(nz: ∀v∈zs,p v): ∃w' bH c' dm,(Builtin.append_ #[T,T2] ty #[.slice (aB ob) nn c,R m]).run P w= .ok (.slice (aB bH) (nn+m) c') w'/\H r w' (L.set i (bH,C (xs++dj zs m++dm) T'))/\(xs++dj zs m++dm).length=c'*size/\nn+m<=c'/\(bH=none->c'=0)/\ ∀v∈dm,p v:=by
 obtain⟨t,t1,t2⟩:=hb.bytes w;have e2:=hs.size w;have fF: ∀v∈dj zs m,plain v=true:=λv hv=>Z3 v (RU hv I);have W:(dj zs m).length=m*size:=(by rw[CU,rD]);have nT:i<L.length:=(sf.1 hi).1;have nr:IntKind.i64.wrap ((m:Nat):Int)=(m:Int):=th .i64 m az;have pA: ¬((281474976710656:Int)<(m:Int)*(eD:Int)):=(by have h3:m*eD<=(2*(nn+m)+1000)*eD:=sj eD I;have h4:((m*eD:Nat):Int)=(m:Int)*(eD:Int):=(by simp);omega);have nt: ¬((m:Int)<0):=I
 have su: ∀w':World,(if m*size=0 then(pure #[]:Sem (Array Value))else do pure (Builtin.zeroCells (<-zeroValue T').cells m)).run P w'= .ok (dj zs m).toArray w':=by
  intro w';obtain⟨zv,z1,z2⟩:=hz.zero w';by_cases fk:m*size=0
  rw[ai fk];have:dj zs m=[]:=kq.1 (by rw[W,fk]);rw[this];simp
  rw[ag fk];have sE:(Builtin.zeroCells zv.cells m)=⟨dj zs m⟩:=(by rw[z2];apply EX.1;simp[Builtin.zeroCells,dj,CC,se]);simp[z1,sE]
 by_cases jD:nn+m<=c
 have hle:nn*size+(dj zs m).length<=(xs++sp).length:=(by have:(nn+m)*size<=c*size:=sj _ jD;rw[qH]at this;omega)
 cases ob with
 | none=>
   have hc:=uU J
   subst hc
   obtain rfl:nn=0:=I
   obtain rfl:m=0:=I
   have hy:dj zs 0=[]:=kq.1 (by rw[W];omega)
   refine⟨w,none,0,sp,?_,?_,by rw[hy];simpa using fL,aR _,λ_=>rfl,vC⟩
   . simp[Builtin.append_,underlying,program,Sem.run,hu.eq,j_.eq,e2,t1,t2,asInt,asIntOf,aB,show IntKind.i64.wrap 0=0 from J]
   . rw[hy,dP,Ip hi];exact h
 | some b=>
   obtain⟨w',s1,s2,_,_⟩:=CS (P:=P) (dj zs m) w L (xs++sp) (nn*size) 0 h hi fF I
   refine⟨w',some b,c,sp.drop (dj zs m).length,?_,?_,?_,jD,(λe=>by cases e),λv hv=>vC v (List.mem_of_mem_drop hv)⟩
   . have:=su w
     simp[Builtin.append_,underlying,program,Sem.run,hu.eq,j_.eq,e2,jD,t1,t2,asInt,asIntOf,nr,nt,pA,aB,add_plain]
     by_cases fk:m*size=0
     . have hy:dj zs m=[]:=kq.1 (by rw[W];exact fk)
       rw[hy]at s1
       simp[fk,s1]
     . have jE: ¬(m*size=0):=fk
       rw[ag jE]at this
       simp at this
       obtain⟨zv,z1,z2⟩:=hz.zero w
       simp[z1]at this
       simp[fk,z1,this,s1]
   . have e5:cT (xs++sp) (nn*size+0) (dj zs m)=xs++dj zs m++sp.drop (dj zs m).length:=by
       rw[kU,AQ _ _ _ hle,<-eK]
       simp[EY]
     rw[e5]at s2;exact s2
   . simp only[aF,bV]at fL hle ⊢;omega
 have jt:c<nn+m:=I;have AR: ¬((281474976710656:Nat)<Builtin.nextslicecap (nn+m) c*eD):=(by have:=sj eD (PA jt);omega);have Fb: ¬((9223372036854775807:Int)<(nn:Int)+(m:Int)):=I;obtain⟨w1,mU⟩: ∃w1:World,w1=w.drew:=⟨_,J⟩;have h':H r w1 L:=(by rw[mU];exact h.drew);have xP:=su w1;obtain⟨zv,z1,z2⟩:=hz.zero w1;obtain⟨t',AS,AT⟩:=hb.bytes w1;obtain⟨iZ,xQ⟩: ∃iZ,iZ=(Question.appendCap (nn+m) c T').cut (w.tape w.drawn (Question.appendCap (nn+m) c T')):=⟨_,J⟩;have np:nn+m<=iZ:=(by rw[xQ];exact PB _ _ _ _);have oI: ∀k,(askRoom k).run P w1= .ok () w1:=λk=>(by unfold askRoom;split<;>simp[mark,Sem.run])
 have hold:(Builtin.firstCells size nn (.slice (aB ob) nn c)).run P w1= .ok xs.toArray w1:=by
  cases ob with
  | none=>
    have hc:=uU J
    have : xs = [] := kq.1 (by rw[eK]; have:nn=0:=I; subst this;simp)
    subst this;simp[Builtin.firstCells,aB]
  | some b=>
    simp only[Builtin.firstCells,aB]
    refine CR h' hi ?_ eK
    exact Rd.of λj hj=>by rw[im,ir hj]
 have sE:(Builtin.zeroCells zv.cells (iZ- (nn+m)))=⟨dj zs (iZ- (nn+m))⟩:=(by rw[z2];apply EX.1;simp[Builtin.zeroCells,dj,CC,se]);have Fc:(Question.appendCap (nn+m) c T').forced=false:=rfl;refine⟨w1.alloc (C (xs++dj zs m++dj zs (iZ- (nn+m))) T'),some w1.heap.size,iZ,dj zs (iZ- (nn+m)),?_,(h'.alloc _).replace nT,?_,np,(λe=>by cases e),λv hv=>nz v (RU hv I)⟩
 simp[Builtin.append_,underlying,program,Sem.run,hu.eq,j_.eq,e2,jD,t1,t2,asInt,asIntOf,nr,nt,pA,AR,Fb,choose,Fc];simp only[<-xQ,show({w with drawn:=w.drawn+1}:World)=w1 from mU.symm,show w.drew=w1 from mU.symm];by_cases fk:m*size=0
 have hy:dj zs m=[]:=kq.1 (by rw[W];exact fk);simp[C,AS,AT,oI,hold,fk,z1,sE,hy,newRow,newObj,Sem.run,show aB (some w1.heap.size)=some ⟨w1.heap.size,0,none⟩from J]
 have jE: ¬(m*size=0):=fk;rw[ag jE]at xP;simp[z1]at xP;simp[C,AS,AT,oI,hold,fk,z1,xP,sE,newRow,newObj,Sem.run,show aB (some w1.heap.size)=some ⟨w1.heap.size,0,none⟩from J]
 rw[aF,aF,W,CU,rD,eK,<-qH,<-qH];congr 1;omega
theorem aE6 [hu:bO P T (.slice 5)] [hs:Sz P 5 1] [hz:Zr P 5 [gR 0]] [hb:By P 5 1]{T2:TypeId} [j_:bO P T2 (.int .i64)]{ob:Option Nat}{X S:List UInt8}{c m:Nat}(h:H r w L)(i:Nat)(hx:Env.ev ρ x= .slice (aB ob) X.length c)(hy:Env.ev ρ y=R m)(hi:L[i]? =some (EB ob X S))(hB:BB ob X S c)(eT:X.length+m<=70368744177664)(hd:aV n d=true)(hk: ∀w' bH c' S',H r w' (L.set i (EB bH (X++List.replicate m 0) S'))->BB bH (X++List.replicate m 0) S' c'->O P n all rest K (Env.put ρ d (.slice (aB bH) (X++List.replicate m 0).length c')) w'):O P n all ({dst:=d,op:= .call {callee:= .builtin .append,args:= #[x,y],argTypes:= #[T,T2]},type:=ty,pos:=pos,after:=aN,guard:=none}::rest) K ρ w:=by
 have ly:=hB.ok
 obtain⟨w',bH,c',dm,W,h2,h3,h4,h5,h6⟩:=aE5 (P:=P) (ty:=ty) (T:=T) (T2:=T2) (T':=5) (zs:=[gR 0]) (size:=1) (eD:=1) (m:=m) (xs:=List.map u8 X) (sp:=List.map u8 S) J h (by rw[hi];simp;rfl) ly.1 ly.2.1 ly.2.2.1 ly.2.2.2 aj
   (by intro v hv;rw[je.1 hv];rfl) I I (λv=> ∃x:UInt8,v=u8 x) (by intro v hv;obtain⟨z,_,rfl⟩:=jd.1 hv;exact⟨z,J⟩) (by intro v hv;exact⟨0,je.1 hv⟩)
 obtain⟨S',rfl⟩:=bytesOf h6;have ez:dj [Value.int .u8 ((0:Nat):Int)] m=List.map u8 (List.replicate m 0):=(by rw[CT,vX];rfl);rw[ez]at h2 h3;have:=hk w' bH c' S' (by rw[<-f_,<-f_]at h2;exact h2) ⟨by simpa using h3,h5⟩;rw[aF,dR]at this;exact gf (CV hx hy W) hd this
end
theorem U3(i:Nat)(hb:b<2^i)(ha:a % 2^i=0):a|||b=a+b:=by
 have W:=v7 hb (a/2^i);have h2:=K7 a (2^i);rw[ha,kU]at h2;rw[h2]at W;exact W.symm
theorem aE7{P:Program}{ρ:Env}{x y z:Operand}{ty:TypeId}{k:IntKind}{u v t:Int}{c:Nat}(hx:Env.ev ρ x= .int k u)(hy:Env.ev ρ y= .int k v)(hz:Env.ev ρ z= .int k t) [W:ao u a] [h2:ao v b] [h3:ao t c]{ts:Array TypeId}:run P ρ (.call {callee:= .builtin .min,args:= #[x,y,z],argTypes:=ts}) ty w= .ok (.value (.int k ((min (min a b) c:Nat):Int))) w:=by
 simp[run,execOp,resolve,invoke,builtin,Builtin.min_,Builtin.min2,hx,hy,hz,W.eq,h2.eq,h3.eq,List.foldlM];split<;>split<;>omega
inductive Cy(X:List UInt8)(cJ:Nat):Nat->Option (List Nat)->(Nat->Option Tb)->Nat->Nat->Nat->List UInt8->Prop
 |nil:Cy X cJ 0 none (λ_=>none) 1 4 8 []
 |step {A n a b c a' b' c':Nat} {lo oC:Option (List Nat)} {tO rq:Nat->Option Tb} {D B:List UInt8}:Cy X cJ A lo tO a b c D->n<=131072->n<=cJ->A+n<=X.length->ER X cJ A n 0 lo oC tO rq a b c a' b' c' B->Cy X cJ (A+n) oC rq a' b' c' (D++B)
def amU(X:List UInt8)(cJ:Nat)(D:List UInt8):Prop:=
 (∃lo tO a b c D0,Cy X cJ X.length lo tO a b c D0/\D=D0++cu 1 3)\/
 (∃A n lo oC tO rq a b c a' b' c' D0 B,Cy X cJ A lo tO a b c D0/\n<=131072/\n<=cJ/\A+n=X.length/\ER X cJ A n 1 lo oC tO rq a b c a' b' c' B/\D=D0++B)
def amV(sg len cJ:Nat)(wd:List UInt8):Prop:=
 (sg=1/\wd=[]/\cJ=len)\/(sg=0/\ ∃lg mo,lg<=10/\mo<=7/\len<=2^(10+lg)/\cJ=2^(10+lg)+2^(10+lg)/8*mo/\cJ<=8388608/\wd=[UInt8.ofNat (lg*8+mo)])
def amW(T D:List UInt8):Prop:=
 ∃f sg v sm id cJ wd DB sb,f<=3/\sg<=1/\v<=1/\sm<=1/\id<=3/\amV sg T.length cJ wd/\((f=1->256<=T.length/\T.length<=65791)/\(f=0->sg=1->T.length<=255))/\amU T cJ DB/\
   ((sm=1/\sb=cu (lD T % 4294967296) 4)\/(sm=0/\sb=[]))/\
   D=cu 4247762216 4++[UInt8.ofNat (f*2^6+sg*2^5+v*2^4+sm*2^2+id)]++wd++List.replicate ([0,1,2,4].getD id 0) 0++cu (if [sg,2,4,8].getD f 0=2 then T.length-256 else T.length) ([sg,2,4,8].getD f 0)++DB++sb
theorem gO.HH{G:List aD}{v:Value}{l:List Nat}(h:gO (G++(EB ob X S::F)) v (l.map R)):gO (G++F) v (l.map R):=by
 obtain⟨ad,n,c,e1,e2,e3,e4⟩:=h;refine⟨ad,n,c,e1,e2,e3,λh0=>?_⟩;obtain⟨b,q,l',T,f1,f2,f3⟩:=e4 h0;refine⟨b,q,l',T,f1,?_,f3⟩;rcases nL.1 f2 with z|z
 exact ni _ z
 rcases mR.1 z with z|z
 exfalso;simp only[EB,pS,C,Obj.cells.injEq,VK]at z;have hl:0<l.length:=(by rw[bX]at e2;omega);have W:=nd f3 hl;rw[z.2.1,kK]at W;obtain⟨y,_,h2⟩:=O8.1 W;simp only[u8,R,Value.int.injEq]at h2;exact absurd h2.1 aj
 exact fe _ z
theorem xB.HH{G:List aD}{Y:List UInt8}{x:Wr}{lo:Option (List Nat)}{tO:Nat->Option Tb}(h:xB (G++(EB ob Y S::F)) x X lo tO)(hT:aP (G++F) (.slice x.ta x.tn x.tc) X):xB (G++F) x X lo tO:=by
 refine⟨hT,?_,λk hk=>⟨?_,(h.tb k hk).2⟩,h.seen,h.cJ,h.a1,h.a,h.b,h.c⟩
 have:=h.ln
 cases lo with
 |none=>exact this
 |some l=>exact⟨this.1,this.2.1,this.2.2.1.HH,this.2.2.2⟩
 have:=(h.tb k hk).1
 cases kg:tO k with
 |none=>rw[kg]at this;exact this
 |some t=>rw[kg]at this;exact lI.HH this
theorem H.aE8{q a b m e:aD}{G:List aD}(h:H r w (q::a::b::m::(G++(e::F)))):H r w (q::e::a::b::m::(G++F)):=by
 refine h.perm (List.Perm.cons q ?_);have W:(G++(e::F)).Perm (e::(G++F)):=si;exact(((W.cons m).cons b).cons a).trans (((List.Perm.swap ..).cons b).cons a|>.trans (((List.Perm.swap ..).cons a).trans (.swap ..)))
theorem H.acu{r:dQ}{w:World}: ∀{Z F:List aD},H r w (Z++F)->H r w F
 | [],_,h=>h
 |_::Z,_,h=>H.acu (Z:=Z) h.tail
theorem H.aE9{e:aD}{Z:List aD}(h:H r w (e::(Z++F))):H r w (e::F):=
 H.acu (Z:=Z) (h.perm List.perm_middle.symm)
variable {c lc ln n s:Nat}{p:Nat->Value}{la:Option Addr}{x:Wr}
theorem aE_:(aT x)[0+0]? =some (.pointer (some ⟨x.cb,0,none⟩)):=rfl
theorem aE':(aT x)[0+1]? =some (.slice x.ta x.tn x.tc):=rfl
theorem U4:(aT x)[0+2]? =some (R x.at_):=rfl
theorem amX:(aT x).set 2 (R n)=aT (HM x n):=rfl
theorem aFa:(aT (WU x la ln lc p a b c s))[0+2]? =some (R x.at_):=rfl
theorem aFb:(aT (WU x la ln lc p a b c s))[0+3]? =some (R x.cJ):=rfl
theorem aFc{P:Program}{ρ:Env}{op:Op}{ty:TypeId}{w':World}{a b:Option Addr}(h:run P ρ op ty w= .ok (.value (.slice a n c)) w')(e:a=b):run P ρ op ty w= .ok (.value (.slice b n c)) w':=by rw[h,e]
theorem aFd{P:List UInt8}{j:Nat}(h:0<n/\ ∀i,i<j->P.getD i 0=P.getD 0 0)(h2:(P.getD j 0).toNat=(P.getD 0 0).toNat):0<n/\ ∀i,i<j+1->P.getD i 0=P.getD 0 0:=⟨h.1,λi hi=>by
 rcases vY.1 hi with hh|rfl
 . exact h.2 i hh
 . exact aE4 h2⟩
theorem amY{p:Prop}(h:p:=by have qm:ER X x.cJ x.at_ size (bif last then 1 else 0) lo lo tO tO x.a x.b x.c x.a x.b x.c (cu (size*8+2+en) 3++[P.getD 0 0]):=(by rw[Bv];unfold ER;rw[hPe];exact Or.inl ⟨J,J,J,J,J,Or.inr ⟨ia,amZ.2,J⟩⟩);exact⟨dX,mo,[],oz,_,SZ,cz,HM x (x.at_+size),lo,tO,J,s9,I,oP,gJ,hS.at_ aJ,qm,by rw[aF,eP];simp only[ek,fE];omega,h⟩):p:=h
theorem am0{p:Prop}(h:p:=by intro bz w h;refine Kj (X:=cu (size*8+2+en) 3) (Y:=[P.getD 0 0]) (F:=[(af bz [u8 (P.getD 0 0)] 5)]) J h 1 (gi J (eP _ _).symm) J J j4 Hy wi (by rw[eP];simp only[ek,fE];omega) J ?_;intro w oz cz SZ h s9;dsimp only[List.set]at h;refine eY J (cm (iG ?_));replace h:=h.tail;(try dsimp only[dB]at h);exact amY):p:=h
theorem aFe{L:List aD}{wb size:Nat}{last:Bool}{mo:Obj}{lo:Option (List Nat)}{tO:Nat->Option Tb}{nn nc at_:Nat}{na:Option Addr}{N:List Int}(h:H r w ((af wb (aT x) 49)::(some x.cb,C [.slice na nn nc,R at_] 38)::(some x.mb,mo)::L))(hN:nG L (.slice na nn nc) N)(jg:at_<=1152921503000000000)(oP:ou 2147483647 mo)(hS:xB L x X lo tO)(hX:X.length<=1048577)(NZ:x.at_+size<=X.length)(amP:size<=131072):Calls PP 14 #[aW wb,R size,.bool last] w λe w'=> ∃at' EK G ob B S c x' oC rq,e= .returned (.slice (aB ob) (List.length B) c)/\BB ob B S c/\at'<=at_+20*size+2010/\ou 2147483647 EK/\(x'.cb=x.cb/\x'.mb=x.mb/\x'.ta=x.ta/\x'.tn=x.tn/\x'.tc=x.tc/\x'.cJ=x.cJ/\x'.at_=x.at_+size)/\xB (G++L) x' X oC rq/\ER X x.cJ x.at_ size (bif last then 1 else 0) lo oC tO rq x.a x.b x.c x'.a x'.b x'.c B/\List.length B<=131100/\H r w' (EB ob B S::(af wb (aT x') 49)::(some x.cb,C [.slice na nn nc,R at'] 38)::(some x.mb,EK)::(G++L)):=by
 have hT:=hS.txt;have IU:=hT.len.1;have Oi:=hT.len.2;have vx:=hS.cJ;have hP0:aP L (.slice (cut x.ta x.tc x.at_ 1) size (x.tc-x.at_)) ((X.drop x.at_).take size):=(hT.drop I).take I;have aFf:((X.drop x.at_).take size).length=size:=(by rw[gk,bV];omega);refine cg ((X.drop x.at_).take size) λP hPe=>?_;rw[hPe]at hP0 aFf;refine cg (cut x.ta x.tc x.at_ 1) λpa hpa=>?_;have hP:=hP0;rw[hpa]at hP;refine cg (bif last then(1:Nat)else 0) λen Bv=>?_;have am1:en<=1:=(by rw[<-Bv];cases last<;>decide);refine mW Tryz.func14 Tryz.ntmps14 [6] ?_;refine V 5 ?_;refine bL h [0,4,8,16,20,24,32,36,40,48,13,29,45,52,56,60] ?_;intro w h;refine av 10 ?_;refine aK J h J aE' (aK J h J U4 (aK J h J U4 ?_));refine av 1 ?_;refine aw J (aFc (yu x.at_ size J J J I) hpa) (eY J (cm ?_));refine V 4 ?_;refine cD [(8,8),(31,31)] (λρ w=>Kn ρ [(8,R en)]/\H r w ((af wb (aT x) 49)::(some x.cb,C [.slice na nn nc,R at_] 38)::(some x.mb,mo)::L)) ?_ ?_
 refine V 4 ?_;refine eA J ?_ ?_<;>intro sJ
 refine V 3 ?_;exact⟨aH 2,Kn.mk ⟨(gy (by rw[<-Bv,sJ];rfl)),trivial⟩,h⟩
 exact aQ ⟨aH 1,Kn.mk ⟨(gy (by rw[<-Bv,sJ];rfl)),trivial⟩,h⟩
 rintro ρ w ⟨⟨KE,rfl⟩,h⟩;refine V 14 ?_;refine bQ (σ:=Nat×Bool) [(9,9),(11,11),(36,48)] (λ⟨j,sm⟩ ρ w=>Kn ρ [(36,R j),(9,.bool sm)]/\H r w ((af wb (aT x) 49)::(some x.cb,C [.slice na nn nc,R at_] 38)::(some x.mb,mo)::L)/\(j<=size)/\(sm=true->0<size/\ ∀i,i<j->P.getD i 0=P.getD 0 0)) (λ⟨j,sm⟩=>size-j) (0,decide (0<size)) ⟨aq,h,I,(λe=>⟨tf e,λi hi=>absurd hi (nP _)⟩)⟩ ?_;rintro⟨j,sm⟩ ρ w ⟨⟨KF,rfl⟩,h,hj,zG⟩;refine V 5 ?_;refine an J ?_ ?_<;>intro BC
 refine kC (hP.eH I) λpb pq lp Tp q1=>?_;refine fx q1.2.1 λip qC=>(aQ (a9 (jB [(9,9),(11,11),(38,47)] (λρ w=> ∃f2:Bool,Kn ρ [(9,.bool f2)]/\H r w ((af wb (aT x) 49)::(some x.cb,C [.slice na nn nc,R at_] 38)::(some x.mb,mo)::L)/\(f2=true->0<size/\ ∀i,i<j+1->P.getD i 0=P.getD 0 0)) ?_ ?_)))
 refine a9 (eS (ah (cI J J q1.1 I) (aO h J (jy q1.2.2 I) ?_)));refine V 5 ?_;refine we (t:=41) J (λU5=>?_) (λU5=>?_)
 refine V 2 ?_;refine dn J J J (cI (a:=0) (W:=ao.lit _) J J q1.1 I) J (dn J J J (run_load h J (jy q1.2.2 I)) J ?_);refine V 4 ?_;exact⟨aM,decide ((P.getD j 0).toNat=(P.getD 0 0).toNat),aq,h,(λe=>aFd (zG U5) (tf e))⟩
 refine V 8 ?_;exact⟨aM,false,aq,h,(λe=>by cases e)⟩
 rintro ρ w ⟨f2,⟨KG,rfl⟩,h,ab2⟩;refine V 4 ?_;exact⟨aH 4,(j+1,f2),cw,aq,h,I,ab2⟩
 have ej:j=size:=I;rw[ej]at zG;refine V 6 ?_;refine aO h J aE_ ?_;replace h:=h.zz [2,1,2] 0;refine b_ (v1:=R 4) J J J (aA (kI (n:=4) (at_:=at_) h (hN.sub aJ) I aj) ?_);rintro e w1 ⟨ov,dX,rfl,me,yV,h⟩;refine V 3 ?_;refine cD [(54,58)] (λρ w=> ∃bv:Bool,Kn ρ [(58,.bool bv)]/\H r w ((af wb (aT x) 49)::(some x.cb,C [.slice na nn nc,R dX] 38)::(some x.mb,mo)::L)/\(bv=true->sm=true)) ?_ ?_
 refine V 4 ?_;refine d' (t:=56) J (λaFg=>?_) (λaFg=>?_)
 refine V 3 ?_;replace h:=h.zz [2,1,2] 0;exact⟨aM,sm,aq,h,(λe=>e)⟩
 refine V 3 ?_;replace h:=h.zz [2,1,2] 0;exact⟨aM,false,aq,h,(λe=>by cases e)⟩
 rintro ρ w ⟨bv,⟨KH,rfl⟩,h,qX⟩;refine eA J ?_ ?_<;>intro DN
 . have amZ:=zG (qX DN);have ia:=amZ.1;refine kC (hP.eH I) λpb pq lp Tp q1=>?_;refine fx q1.2.1 λip qC=>?_;refine V 5 ?_;refine aO h J U4 ?_;refine V 4 ?_;refine gU (R (x.at_+size)) ?_;intro w h;rw[amX]at h;refine aC (a9 (wk h (cL [0,4,8,12,16,20,28,32] (.fork (cL [27,37,42,47,48] .nil) (cL [37] (.fork (cL [27,42,47,48] .nil) (cL [42,27,47,48] .nil))))) ?_));intro w h;refine kA J (aw J (dN (b:=3) (h2:=ao.lit _) J J aj az) ?_);refine aw J (bZ (eI (b:=2) (h2:=ao.lit _) J J az aj) (U2 (t:=2) aj)) ?_;refine kA J (aw J (bZ (eI J J az az) (amT am1 2 J aj)) ?_);refine av 2 ?_;refine aw J (cI (a:=0) (W:=ao.lit _) J J q1.1 I) (gg ?_ ?_)
   . refine kL (v1:=R 3) J J J J (aA (qE (x:=size*8+2+en) (k:=3) h I aj) ?_);rintro e w1 ⟨nK,lS,lT,rfl,j4,h⟩;refine aK J h J (jy q1.2.2 I) (ka J J (kB _) h ?_);exact am0
   refine aK J h J (jy q1.2.2 I) (gg ?_ ?_)
   . refine kL (v1:=R 3) J J J J (aA (qE (x:=size*8+2+en) (k:=3) h I aj) ?_);rintro e w1 ⟨nK,lS,lT,rfl,j4,h⟩;refine ka J J (kB _) h ?_;exact am0
   refine ka J J (kB _) h ?_;intro bz w h;refine kL (v1:=R 3) J J J J (aA (qE (x:=size*8+2+en) (k:=3) h I aj) ?_);rintro e w1 ⟨nK,lS,lT,rfl,j4,h⟩;refine Kj (X:=cu (size*8+2+en) 3) (Y:=[P.getD 0 0]) (F:=[(af bz [u8 (P.getD 0 0)] 5)]) J h 0 (gi J (eP _ _).symm) J J j4 Hy wi (by rw[eP];simp only[ek,fE];omega) J ?_;intro w oz cz SZ h s9;dsimp only[List.set]at h;refine eY J (cm (iG ?_));replace h:=h.zz [4,4,4,3,4] 1;exact amY
 refine aQ (cD [(6,6),(13,15),(79,123)] (λρ w=> ∃fU:Nat,∃U6:Obj,∃G4:List aD,Kn ρ []/\H r w ((af wb (aT x) 49)::(some x.cb,C [.slice na nn nc,R fU] 38)::(some x.mb,U6)::(G4++L))/\(fU<=at_+20*size+2005)/\(ou 2147483647 U6)) ?_ ?_)
 refine V 5 ?_;refine an J ?_ ?_<;>intro ava
 refine V 4 ?_;refine ah (iK [_,_,_,_,_,_,_,_,_,_,_,_,_] h J gJ J) (eh h J ?_);intro bv w h;refine qP h J J J hS.pl (by first|decide|exact aR _|exact ff J| (simp;done)|omega) J ?_;intro w h;(try dsimp only[cT,List.set]at h);refine V 6 ?_;replace h:=h.zz [3,3,3] 0;refine b_ J J J ?_;replace h:H r _ ((af wb (aT x) 49)::(some x.cb,C [.slice na nn nc,R dX] 38)::(some x.mb,mo)::((af bv (aT x) 49)::L)):=h;refine(aEX (X:=X) (lo:=lo) (tO:=tO) (pn:=size) h (hN.sub (Sub.cons _ _)) I oP (hT.sub (Sub.cons _ _)) hX NZ amP hS.seen hS.cJ hS.a1 hS.a hS.b hS.c (hS.ln.sub (Sub.cons _ _)) (λk hk=>⟨(hS.tb k hk).1.sub (Sub.cons _ _),(hS.tb k hk).2⟩)).mono ?_;rintro e w1 ⟨iX,xr,Cw,HN,o3,Bc,S3,c3,Uz,UA,UB,p3,a3,b3,c4,lo3,tO3,rfl,xe,sT,BV,UZ,OC,am2,U7,aJS,aFh,h⟩;refine⟨_,J,?_⟩;refine fx (fe HN (e_ (a:=(af bv (aT x) 49)) (l:=L))) λiv Dp=>?_;refine V 9 ?_;refine aO h J aFb (ah (zh (a:=131072) (W:=ao.lit _) J J) ?_);refine V 2 ?_;refine an J ?_ ?_<;>intro I1
 . have tS:Bc.length<=131072:=aI I1 (O6 _ _);refine V 5 ?_;refine aO h J aFa ?_;refine V 4 ?_;refine gU (R (x.at_+size)) ?_;intro w h;refine V 5 ?_;refine ah (dN (b:=3) (h2:=ao.lit _) J J aj az) ?_;refine ah (bZ (eI (b:=4) (h2:=ao.lit _) J J az aj) (U2 (t:=4) aj)) ?_;refine cM (ah (bZ (eI J J az az) (amT am1 4 J aj)) ?_);refine V 1 ?_;refine b_ (v1:=R 3) J J J (aA (qE (x:=Bc.length*8+4+en) (k:=3) h I aj) ?_);rintro e w1 ⟨nK,lS,lT,rfl,j4,h⟩;refine cM (lk (X:=cu (Bc.length*8+4+en) 3) (Y:=Bc) (F:=[EB o3 Bc S3]) h 0 (gi J (eP _ _).symm) J J j4 (xe.sl) wi (by rw[eP];omega) J ?_);intro w oz cz SZ h s9;dsimp only[List.set]at h;refine V 3 ?_;replace h:=h.zz [4,4,4,3,4] 1;have qm:ER X x.cJ x.at_ size (bif last then 1 else 0) lo lo3 tO tO3 x.a x.b x.c a3 b3 c4 (cu (Bc.length*8+4+en) 3++Bc):=(by rw[Bv];exact Or.inr ⟨Bc,aFh,I1,J⟩);have hSub:Sub (HN++((af bv (aT x) 49)::L)) ((HN++[(af bv (aT x) 49)])++L):=λz hz=>(by rw[cF];exact hz);replace h:H r w (EB oz (cu (Bc.length*8+4+en) 3++Bc) SZ::(af wb (aT (HM (WU x Uz UA UB p3 a3 b3 c4 Cw) (x.at_+size))) 49)::(some x.cb,C [.slice na nn nc,R iX] 38)::(some x.mb,xr)::((HN++[(af bv (aT x) 49)])++L)):=(by rw[cF];exact h);exact⟨iX,xr,HN++[(af bv (aT x) 49)],oz,_,SZ,cz,HM (WU x Uz UA UB p3 a3 b3 c4 Cw) (x.at_+size),lo3,tO3,J,s9,I,BV,gJ,⟨hT.sub (w7 _),amS (OC.sub hSub),λk hk=>⟨by have:=(am2 k hk).1.sub hSub;rcases(I:k=0\/k=1\/k=2)with rfl|rfl|rfl<;>exact this,(am2 k hk).2⟩,UZ,vx,U7.1,U7.2.1,U7.2.2.1,U7.2.2.2⟩,qm,by rw[aF,eP];omega,h⟩
 refine V 12 ?_;refine ah (iK [_,_,_,_,_,_,_,_,_,_,_,_,_] h J gJ J) (nk_ J (qP h J J J hS.pl (by first|decide|exact aR _|exact ff J| (simp;done)|omega) J ?_));intro w h;(try dsimp only[cT,List.set]at h);refine V 6 ?_;refine gU (.pointer (some ⟨x.cb,0,none⟩)) ?_;intro w h;replace h:H r w ((af wb (aT x) 49)::(some x.cb,C [.slice na nn nc,R iX] 38)::(some x.mb,xr)::((HN++[(af bv (aT x) 49)])++L)):=(by rw[cF];exact h.tail);exact aC ⟨aH 33,iX,xr,HN++[(af bv (aT x) 49)],aq,h,I,BV⟩
 exact aQ ⟨aH 2,dX,mo,[],aq,h,I,oP⟩
 rintro ρ w ⟨fU,U6,G4,⟨Ou,rfl⟩,h,uD,aFi⟩;refine V 5 ?_;refine aO h J U4 ?_;refine V 4 ?_;refine gU (R (x.at_+size)) ?_;intro w h;rw[amX]at h;refine V 4 ?_;refine ah (dN (b:=3) (h2:=ao.lit _) J J aj az) ?_;refine cM (ah (bZ (eI J J az az) (show size*2^3|||en=size*8+0+en from(U2 I).trans I)) ?_);refine V 1 ?_;refine b_ (v1:=R 3) J J J (aA (qE (x:=size*8+0+en) (k:=3) h I aj) ?_);rintro e w1 ⟨nK,lS,lT,rfl,j4,h⟩;refine cM (lk (X:=cu (size*8+0+en) 3) (Y:=P) (F:=L) h 0 (gi J (eP _ _).symm) J J j4 hP (λe he=>by repeat first|exact fe _ he|apply mu) (by rw[eP];omega) J ?_);intro w oz cz SZ h s9;dsimp only[List.set]at h;refine V 3 ?_;have qm:ER X x.cJ x.at_ size (bif last then 1 else 0) lo lo tO tO x.a x.b x.c x.a x.b x.c (cu (size*8+0+en) 3++P):=(by rw[Bv];unfold ER;rw[hPe];exact Or.inl ⟨J,J,J,J,J,Or.inl J⟩);exact⟨fU,U6,G4,oz,_,SZ,cz,HM x (x.at_+size),lo,tO,J,s9,I,aFi,gJ,hS.at_ (w7 _),qm,by rw[aF,eP];omega,h⟩
variable {T:List UInt8}{cb f lg mb sg tc tn cJ:Nat}{ta:Option Addr}{p:Prop}
def XW(cb mb:Nat)(ta:Option Addr)(tn tc cJ:Nat):Wr:=⟨cb,ta,tn,tc,0,cJ,none,0,0,.pointer none,.pointer none,.pointer none,1,4,8,mb,0⟩
theorem am3:(aT (XW cb mb ta tn tc cJ)).set 3 (R n)=aT (XW cb mb ta tn tc n):=rfl
theorem aFj(h:aP F (.slice ta tn tc) T)(hw:cJ<=1099511627776):xB F (XW cb mb ta tn tc cJ) T none (λ_=>none):=
 ⟨h,J,λk hk=>⟨by rcases(I:k=0\/k=1\/k=2)with rfl|rfl|rfl<;>rfl,λt ht=>by cases ht⟩,bP _,hw,aR _,(by decide:1<=1099511627776),(by decide:4<=1099511627776),(by decide:8<=1099511627776)⟩
theorem aFk{B:Nat}:ou B (.map #[] 0):=⟨#[],0,J,λe he=>by cases he⟩
theorem aFl(hs:sg<=1)(hf:f<=3):[sg,2,4,8].getD f 0=2↔f=1:=by
 rcases(I:f=0\/f=1\/f=2\/f=3)with rfl|rfl|rfl|rfl
 show sg=2↔0=1;omega
 exact⟨λ_=>rfl,λ_=>rfl⟩
 show 4=2↔2=1;omega
 show 8=2↔3=1;omega
theorem aFm(hs:sg<=1):[sg,2,4,8].getD f 0<=8:=FH f ⟨I,by decide,by decide,by decide⟩
theorem aFn{A HD:List UInt8}{nv fz g:Nat}(h:A++cu nv fz=HD)(W:nv=if fz=2 then a else b)(h2:g=fz):HD=A++cu (if g=2 then a else b) g:=by
 subst h2;subst W;exact h.symm
theorem acv(h:lg<=10):2^(10+lg)<=1048576:=aI (show 2^(10+lg)<=2^20 from dp aj I) aj
theorem am4{lg:Nat}:1024<=2^(10+lg):=show 2^10<=2^(10+lg)from dp aj I
theorem aFo(h:2^(10+lg)<n)(hn:n<=1048576):lg<10:=by
 rcases dh lg 10 with e|e
 exact e
 have:2^20<=2^(10+lg):=dp aj I;have h2:(2:Nat)^20=1048576:=aj;omega
theorem U9(h:p:=by refine dn J J J (uW J) J ?_;refine V 2 ?_;exact⟨aM,false,aq,h,(λe=>by cases e),(λ_=>I)⟩):p:=h
theorem acw(h:p:=by refine V 3 ?_;refine dn J J J (sw J) J ?_;refine V 2 ?_;exact⟨aM,decide (255<tn),aq,h,(λ_=>I),(λe=>by have e9:=Vf e;omega)⟩):p:=h
theorem am5(h:p:=by refine fT J J J J (fT J J J J ?_);refine V 2 ?_;refine fT J J J J (fT J J J J (fT J J J J ?_));refine V 3 ?_;exact⟨aM,true,aq,h,(λ_=>I),(λe=>by cases e)⟩):p:=h
theorem acx(h:p:=by refine V 2 ?_;refine dn J J J (uW J) J ?_;refine V 4 ?_;exact U9):p:=h
theorem aFp{na:Option Addr}{nn nc:Nat}{N:List Int}(h:H r w F)(hT:aP F (.slice ta tn tc) T)(hN:nG F (.slice na nn nc) N)(NX:T.length<=1048576):Calls PP 6 #[.slice ta tn tc,.slice na nn nc] w λe w'=> ∃ob B S c,e= .returned (.slice (aB ob) (List.length B) c)/\BB ob B S c/\0<List.length B/\List.length B<=1099511627776/\amW T B/\H r w' (EB ob B S::F):=by
 have IU:=hT.len.1;have Oi:=hT.len.2;refine gS Tryz.func6 Tryz.ntmps6 [4] ?_;refine V 7 ?_;refine ah (Fe (ao4 _ _ _) J) (sB h J J J ?_);intro bC w h;refine V 5 ?_;refine b_ (v1:=R 2) J J J (aA (kI (n:=2) (at_:=0) h (hN.sub aJ) I I) ?_);rintro e w1 ⟨sg,gF,rfl,jX,abn,h⟩;refine cM (b_ (v1:=R 2) J J J (aA (kI (n:=2) (at_:=gF) h (hN.sub aJ) I I) ?_));rintro e w1 ⟨sm,dX,rfl,zG,yV,h⟩;refine cM (b_ (v1:=R 4) J J J (aA (kI (n:=4) (at_:=dX) h (hN.sub aJ) I I) ?_));rintro e w1 ⟨id,iX,rfl,hid,sT,h⟩;refine cM (b_ (v1:=R 4) J J J (aA (kI (n:=4) (at_:=iX) h (hN.sub aJ) I I) ?_));rintro e w1 ⟨f0,fU,rfl,WI,uD,h⟩;refine V 8 ?_;refine Iu J J J J (tw _ _ _ _) h ?_;intro bs w h;refine V 4 ?_;refine bQ (σ:=Nat) [(9,9),(32,66)] (λf ρ w=>Kn ρ [(9,R f)]/\H r w ((af bs [R sg,R 2,R 4,R 8] 3)::(af bC [.slice na nn nc,R fU] 38)::F)/\(f<=3)) (λf=>3-f) (f0) ⟨aq,h,I⟩ ?_;rintro f ρ w ⟨⟨KE,rfl⟩,h,hf⟩;have ia:=aFl (sg:=sg) (f:=f) I hf;have U_:=sR (a:=sg) (b:=2) (c:=4) (d:=8) (f:=f) I;refine cg ([sg,2,4,8].getD f 0) λfz U'=>?_;rw[U']at ia U_;refine a9 (cD [(32,63)] (λρ w=> ∃bv:Bool,Kn ρ [(63,.bool bv)]/\H r w ((af bs [R sg,R 2,R 4,R 8] 3)::(af bC [.slice na nn nc,R fU] 38)::F)/\(bv=true->f<=1)/\(bv=false->((f=1->256<=T.length/\T.length<=65791)/\(f=0->sg=1->T.length<=255)))) ?_ ?_)
 refine V 4 ?_;refine d' (t:=34) J (λaFq=>?_) (λaFq=>?_)
 refine V 2 ?_;refine dn J J J (js J J J I) J (dn J J J (run_load h J U_) J ?_);refine V 3 ?_;refine d' (t:=41) J (λU5=>?_) (λU5=>?_)
 refine V 4 ?_;refine d' (t:=45) J (λaFr=>?_) (λaFr=>?_)
 refine V 3 ?_;refine dn J J J (sw J) J ?_;refine V 5 ?_;exact am5
 refine V 3 ?_;refine dn J J J (uW J) J ?_;refine V 2 ?_;refine d' (t:=51) J (λaFs=>?_) (λaFs=>?_)
 refine V 3 ?_;exact am5
 refine V 3 ?_;refine d' (t:=54) J (λHv=>?_) (λHv=>?_)
 refine V 2 ?_;refine dn J J J (sw J) J ?_;refine V 1 ?_;refine d' (t:=58) J (λOF=>?_) (λOF=>?_)
 exact acw
 refine V 3 ?_;exact U9
 exact acx
 refine V 4 ?_;refine fT J J J J (fT J J J J (fT J J J J ?_));refine V 6 ?_;refine d' (t:=54) J (λHv=>?_) (λHv=>?_)
 refine V 2 ?_;refine dn J J J (sw J) J ?_;refine V 1 ?_;refine d' (t:=58) J (λOF=>?_) (λOF=>?_)
 exact acw
 refine V 3 ?_;exact U9
 exact acx
 refine V 11 ?_;refine fT J J J J (fT J J J J (fT J J J J ?_));refine V 6 ?_;refine d' (t:=54) J (λHv=>?_) (λHv=>?_)
 refine V 2 ?_;refine dn J J J (sw J) J ?_;refine V 1 ?_;refine d' (t:=58) J (λOF=>?_) (λOF=>?_)
 exact acw
 refine V 3 ?_;exact U9
 exact acx
 rintro ρ w ⟨bv,⟨KF,rfl⟩,h,qX,zx⟩;refine eA J ?_ ?_<;>intro Fk
 have p6:=qX Fk;refine V 5 ?_;refine ah (AK (b:=4) (h2:=ao.lit _) J J aj) ?_;exact dI (aC ⟨aH 5,(f+1) % 4,cw,aq,h,I⟩)
 have dd:=zx Fk;have aJT:fz<=8:=(by rw[<-U'];exact aFm I);refine V 3 ?_;refine b_ (v0:=cy 4247762216) (v1:=R 4) J J J (aA (qE (x:=4247762216) (k:=4) h I I) ?_);rintro e w1 ⟨nK,lS,lT,rfl,j4,h⟩;refine cM (ah (dN (b:=6) (h2:=ao.lit _) J J aj az) ?_);refine cM (ah (dN (b:=5) (h2:=ao.lit _) J J aj az) ?_);refine ah (bZ (eI J J az az) (U3 6 I I)) (cM ?_);replace h:=h.zz [1,1,2] 0;refine b_ (v1:=R 2) J J J (aA (kI (n:=2) (at_:=fU) h (hN.sub aJ) I I) ?_);rintro e w1 ⟨v,jL,rfl,hv,Hw,h⟩;refine ah (dN (b:=4) (h2:=ao.lit _) J J aj az) ?_;refine ah (bZ (eI J J az az) (U3 5 I I)) (cM (ah (dN (b:=2) (h2:=ao.lit _) J J aj az) ?_));refine ah (bZ (eI J J az az) (U3 4 I I)) (cM (ah (bZ (eI J J az az) (U3 2 I I)) ?_));refine V 1 ?_;refine kX J (kB _) h ?_;intro bz w h;have hz:C [Value.int .u8 (((f*2^6+sg*2^5+v*2^4+sm*2^2+id):Nat):Int)] 5=C [u8 (UInt8.ofNat (f*2^6+sg*2^5+v*2^4+sm*2^2+id))] 5:=(by rw[xp,mw (show(f*2^6+sg*2^5+v*2^4+sm*2^2+id)<aG .u8+1 by simp only[aG];omega)]);rw[hz]at h;replace h:=h.zz [3,2,2,3] 0;refine lk (X:=cu 4247762216 4) (Y:=[UInt8.ofNat (f*2^6+sg*2^5+v*2^4+sm*2^2+id)]) (F:=[(af bz [u8 (UInt8.ofNat (f*2^6+sg*2^5+v*2^4+sm*2^2+id))] 5)]) h 0 (gi J (eP _ _).symm) J J j4 Hy wi (by rw[eP];simp only[ek,fE];omega) J ?_;intro w o1 c1 S1 h z7;dsimp only[List.set]at h;have dE:(cu 4247762216 4++[UInt8.ofNat (f*2^6+sg*2^5+v*2^4+sm*2^2+id)]).length=5:=(by rw[aF,eP];rfl);replace h:=h.zz [1] 1;refine V 8 ?_;refine ah (wg (v0:=R 1) (v1:=R 4) (v2:=R 8) (Lp _ _ _) J J J) (tq (v:=λb=> .map (some b)) (λw=>aBj) h J ?_);intro bM w h;refine ah (PC (ao5 _ _ _ _ _ _ _ _ _) J J J J J) (sB h J J J ?_);intro bW w h;replace h:H r w ((af bW (aT (XW bC bM ta tn tc (tn))) 49)::(some bM,(Obj.map #[] 0))::EB o1 (cu 4247762216 4++[UInt8.ofNat (f*2^6+sg*2^5+v*2^4+sm*2^2+id)]) S1::(af bC [.slice na nn nc,R jL] 38)::(af bs [R sg,R 2,R 4,R 8] 3)::F):=h;refine dI (aC (cD [(11,11),(13,14),(93,147)] (λρ w=> ∃at8 cJ:Nat,∃wd:List UInt8,∃o3:Option Nat,∃S3:List UInt8,∃c3:Nat,Kn ρ [(11,.slice (aB o3) (List.length ((cu 4247762216 4++[UInt8.ofNat (f*2^6+sg*2^5+v*2^4+sm*2^2+id)])++wd)) c3)]/\H r w (EB o3 ((cu 4247762216 4++[UInt8.ofNat (f*2^6+sg*2^5+v*2^4+sm*2^2+id)])++wd) S3::(af bW (aT (XW bC bM ta tn tc (cJ))) 49)::(af bC [.slice na nn nc,R at8] 38)::(some bM,(Obj.map #[] 0))::(af bs [R sg,R 2,R 4,R 8] 3)::F)/\(at8<=100)/\(amV sg T.length cJ wd)/\(BB o3 ((cu 4247762216 4++[UInt8.ofNat (f*2^6+sg*2^5+v*2^4+sm*2^2+id)])++wd) S3 c3)) ?_ ?_))
 refine a9 (eS ?_);replace h:=h.zz [4,2,4,3,4] 0;refine V 3 ?_;refine an J ?_ ?_<;>intro I1
 . refine V 3 ?_;replace h:=h.zz [4,4,3,3,4] 0;refine b_ (v1:=R 4) J J J (aA (kI (n:=4) (at_:=jL) h (hN.sub aJ) I I) ?_);rintro e w1 ⟨lg0,lV,rfl,Rw,Om,h⟩;refine V 4 ?_;replace h:=h.zz [2,2] 0;refine bQ (σ:=Nat) [(13,13),(97,104)] (λlg ρ w=>Kn ρ [(13,R lg)]/\H r w (EB o1 ((cu 4247762216 4++[UInt8.ofNat (f*2^6+sg*2^5+v*2^4+sm*2^2+id)])) S1::(af bW (aT (XW bC bM ta tn tc (tn))) 49)::(af bC [.slice na nn nc,R lV] 38)::(some bM,(Obj.map #[] 0))::(af bs [R sg,R 2,R 4,R 8] 3)::F)/\(lg<=10)) (λlg=>10-lg) (lg0) ⟨aq,h,I⟩ ?_;rintro lg ρ w ⟨⟨KG,rfl⟩,h,py⟩;refine V 5 ?_;refine ah (gn J J dw (aI (acv py) aj)) ?_;refine V 4 ?_;refine an J ?_ ?_<;>intro Bp
   have aJU:=aFo Bp I;refine V 7 ?_;exact⟨aH 9,lg+1,cw,aq,h,I⟩
   refine V 6 ?_;refine ah (gn J J dw (aI (acv py) aj)) ?_;refine V 2 ?_;refine gU (R (2^(10+lg))) ?_;intro w h;rw[am3]at h;refine V 4 ?_;replace h:=h.zz [4,4,3,3,4] 0;refine b_ (v1:=R 8) J J J (aA (kI (n:=8) (at_:=lV) h (hN.sub aJ) I I) ?_);rintro e w1 ⟨mo0,ru,rfl,aJV,acq,h⟩;have DT:=acv py;have hpt:= @am4 lg;refine cg (2^(10+lg)) λpw acy=>?_;rw[acy]at DT hpt h;refine dI (aC (cD [(14,14),(113,125)] (λρ w=> ∃sd:Nat,Kn ρ [(14,R sd)]/\H r w (EB o1 ((cu 4247762216 4++[UInt8.ofNat (f*2^6+sg*2^5+v*2^4+sm*2^2+id)])) S1::(af bW (aT (XW bC bM ta tn tc (pw))) 49)::(af bC [.slice na nn nc,R ru] 38)::(some bM,(Obj.map #[] 0))::(af bs [R sg,R 2,R 4,R 8] 3)::F)/\(sd<=7)/\(pw+pw/8*sd<=8388608)) ?_ ?_))
   refine a9 (bL h [0,4,8,16,20,24,36,13,29,32,40,44,48] ?_);intro w h;refine av 7 ?_;refine aK J h J (show(aT (XW bC bM ta tn tc pw))[0+3]? =some (R pw)from J) (aK J h J (show(aT (XW bC bM ta tn tc pw))[0+3]? =some (R pw)from J) (aw J (mT (b:=8) (h2:=ao.lit _) J J aj az) ?_));refine aw J (AJ J J (aI (sr (j6 pw 8) (I:mo0<=7)) az)) (aw J (d_ J J (by have:=sr (j6 pw 8) (I:mo0<=7);simp only[aG];omega)) ?_);refine av 2 ?_;refine an J ?_ ?_<;>intro X8
   refine V 3 ?_;replace h:=h.zz [4,4,2,4,4] 0;exact⟨aH 14,0,aq,h,I,(by rw[Vy];omega)⟩
   refine aQ ?_;replace h:=h.zz [4,4,2,4,4] 0;exact⟨aH 13,mo0,aq,h,I,I⟩
   rintro ρ w ⟨sd,⟨KH,rfl⟩,h,aFt,wG⟩;refine a9 (bL h [0,4,8,16,20,24,36,13,29,32,40,44,48,52,59] ?_);intro w h;refine av 7 ?_;refine aK J h J (show(aT (XW bC bM ta tn tc pw))[0+3]? =some (R pw)from J) (aK J h J (show(aT (XW bC bM ta tn tc pw))[0+3]? =some (R pw)from J) (aw J (mT (b:=8) (h2:=ao.lit _) J J aj az) ?_));refine aw J (AJ J J (aI (sr (j6 pw 8) (I:sd<=7)) az)) ?_;refine av 3 ?_;refine gU (R (pw+pw/8*sd)) ?_;intro w h;rw[am3]at h;refine cm ?_;refine V 3 ?_;refine ah (dN (b:=3) (h2:=ao.lit _) J J aj az) ?_;refine cM (ah (bZ (eI J J az az) (show lg*2^3|||sd=lg*8+sd from U2 I)) ?_);refine V 1 ?_;refine kX J (kB _) h ?_;intro bz w h;have hz:C [Value.int .u8 (((lg*8+sd):Nat):Int)] 5=C [u8 (UInt8.ofNat (lg*8+sd))] 5:=(by rw[xp,mw (show(lg*8+sd)<aG .u8+1 by simp only[aG];omega)]);rw[hz]at h;replace h:=h.zz [5,5,5,5,4,5] 0;refine lk (X:=(cu 4247762216 4++[UInt8.ofNat (f*2^6+sg*2^5+v*2^4+sm*2^2+id)])) (Y:=[UInt8.ofNat (lg*8+sd)]) (F:=[(af bz [u8 (UInt8.ofNat (lg*8+sd))] 5)]) h 0 J J J z7 Hy wi (by rw[dE];simp only[ek,fE];omega) J ?_;intro w o2 c2 S2 h rY;dsimp only[List.set]at h;replace h:=h.zz [1] 1;exact dI (aC ⟨aH 47,ru,pw+pw/8*sd,[UInt8.ofNat (lg*8+sd)],o2,S2,c2,aq,h,I,Or.inr ⟨I1,lg,sd,py,aFt,by rw[acy];omega,by rw[acy],I,J⟩,rY⟩)
 have h0:=h;clear h;have h:H r w (EB o1 ((cu 4247762216 4++[UInt8.ofNat (f*2^6+sg*2^5+v*2^4+sm*2^2+id)])++[]) S1::(af bW (aT (XW bC bM ta tn tc (tn))) 49)::(af bC [.slice na nn nc,R jL] 38)::(some bM,(Obj.map #[] 0))::(af bs [R sg,R 2,R 4,R 8] 3)::F):=(by rw[dP];exact h0);exact aQ ⟨aH 2,jL,tn,[],o1,S1,c1,Kn.mk ⟨(gi J (by rw[dP])),trivial⟩,h,I,Or.inl ⟨I,J,IU⟩,(by rw[dP];exact z7)⟩
 rintro ρ w ⟨at8,cJ,wd,o3,S3,c3,⟨Ou,rfl⟩,h,acr,Ku,xe⟩
 have kh:wd.length<=1/\cJ<=8388608/\(0<tn->0<cJ):=by
  rcases Ku with⟨_,e1,e2⟩| ⟨_,lg,mo,_,_,_,e2,e3,e1⟩
  rw[e1];exact⟨bP _,I,I⟩
  rw[e1];refine⟨aR _,e3,λ_=>?_⟩;have:= @am4 lg;omega
 have kZ:((cu 4247762216 4++[UInt8.ofNat (f*2^6+sg*2^5+v*2^4+sm*2^2+id)])++wd).length<=6:=(by rw[aF,dE];omega);refine V 3 ?_;refine Iu J J J J (tw _ _ _ _) h ?_;intro bz w h;have aJW:[0,1,2,4].getD id 0<=4:=FH id ⟨by decide,by decide,by decide,by decide⟩;refine V 2 ?_;refine aO h J (sR (a:=0) (b:=1) (c:=2) (d:=4) I) (aE6 (X:=(cu 4247762216 4++[UInt8.ofNat (f*2^6+sg*2^5+v*2^4+sm*2^2+id)])++wd) (m:=[0,1,2,4].getD id 0) h 1 J J J xe I J ?_);intro w o4 c4 S4 h hB4;dsimp only[List.set]at h;replace h:=h.tail;refine V 9 ?_;refine cD [(15,15),(157,163)] (λρ w=> ∃nv:Nat,Kn ρ [(15,cy nv)]/\H r w (EB o4 ((cu 4247762216 4++[UInt8.ofNat (f*2^6+sg*2^5+v*2^4+sm*2^2+id)])++wd++List.replicate ([0,1,2,4].getD id 0) 0) S4::(af bW (aT (XW bC bM ta tn tc (cJ))) 49)::(af bC [.slice na nn nc,R at8] 38)::(some bM,(Obj.map #[] 0))::(af bs [R sg,R 2,R 4,R 8] 3)::F)/\(nv=(if fz=2 then T.length-256 else T.length))/\(nv<=1048576)) ?_ ?_
 refine V 5 ?_;refine aO h J U_ ?_;refine V 2 ?_;refine an J ?_ ?_<;>intro am6
 refine V 5 ?_;exact⟨aH 8,tn-256,aq,h,(by rw[ai am6];omega),I⟩
 exact aQ ⟨aH 5,tn,aq,h,(by rw[ag am6];omega),I⟩
 rintro ρ w ⟨nv,⟨ab3,rfl⟩,h,D6,aJX⟩;refine V 7 ?_;refine aO h J U_ (b_ J J J (aA (qE (x:=nv) (k:=fz) h I I) ?_));rintro e w1 ⟨nK,lS,lT,rfl,j4,h⟩;have hl4:((cu 4247762216 4++[UInt8.ofNat (f*2^6+sg*2^5+v*2^4+sm*2^2+id)])++wd++List.replicate ([0,1,2,4].getD id 0) 0).length<=10:=(by rw[aF,dR];omega);have hl5:((cu 4247762216 4++[UInt8.ofNat (f*2^6+sg*2^5+v*2^4+sm*2^2+id)])++wd++List.replicate ([0,1,2,4].getD id 0) 0++cu nv fz).length<=18:=(by rw[aF,eP];omega);refine lk (X:=(cu 4247762216 4++[UInt8.ofNat (f*2^6+sg*2^5+v*2^4+sm*2^2+id)])++wd++List.replicate ([0,1,2,4].getD id 0) 0) (Y:=cu nv fz) (F:=[EB nK (cu nv fz) lS]) h 1 J (gi J (eP _ _).symm) J hB4 (j4.sl) wi (by rw[eP];omega) J ?_;intro w o5 c5 S5 h Ad;dsimp only[List.set]at h;replace h:=h.tail;have hl6:5<=((cu 4247762216 4++[UInt8.ofNat (f*2^6+sg*2^5+v*2^4+sm*2^2+id)])++wd++List.replicate ([0,1,2,4].getD id 0) 0++cu nv fz).length:=(by rw[aF,aF,aF,dE];omega);refine cg ((cu 4247762216 4++[UInt8.ofNat (f*2^6+sg*2^5+v*2^4+sm*2^2+id)])++wd++List.replicate ([0,1,2,4].getD id 0) 0++cu nv fz) λHD hHD=>?_;rw[hHD]at h Ad hl5 hl6;have hHE:=aFn hHD D6 U';refine V 3 ?_;refine jB [(11,11),(16,18),(172,227)] (λρ w=> ∃uv:Option Nat,∃DF HL:List UInt8,∃OE HK:Nat,∃OG:Obj,∃my:Wr,∃Cx:List aD,Kn ρ [(11,.slice (aB uv) (List.length (HD++DF)) OE)]/\H r w (EB uv (HD++DF) HL::(af bW (aT my) 49)::(af bC [.slice na nn nc,R HK] 38)::(some bM,OG)::(Cx++((af bs [R sg,R 2,R 4,R 8] 3)::F)))/\(amU T cJ DF)/\(BB uv (HD++DF) HL OE)/\(DF.length<=137500000100)) ?_ ?_
 . refine bQ (σ:=Wr×Nat×Obj×List aD×Option Nat×List UInt8×List UInt8×Nat×Option (List Nat)×(Nat->Option Tb)) [(11,11),(16,18),(172,227)] (λ⟨x,dX,jA,G,ob,DB,SB,cb,lo,tO⟩ ρ w=>Kn ρ [(11,.slice (aB ob) (List.length (HD++DB)) cb)]/\H r w (EB ob (HD++DB) SB::(af bW (aT x) 49)::(af bC [.slice na nn nc,R dX] 38)::(some bM,jA)::(G++((af bs [R sg,R 2,R 4,R 8] 3)::F)))/\((x.cb=bC/\x.mb=bM/\x.ta=ta/\x.tn=tn/\x.tc=tc/\x.cJ=cJ))/\(Cy T cJ x.at_ lo tO x.a x.b x.c DB)/\(x.at_<=tn)/\(xB (G++((af bs [R sg,R 2,R 4,R 8] 3)::F)) x T lo tO)/\(ou 2147483647 jA)/\(dX<=100+3000*x.at_)/\(BB ob (HD++DB) SB cb)/\(DB.length<=131100*x.at_)) (λ⟨x,dX,jA,G,ob,DB,SB,cb,lo,tO⟩=>tn-x.at_) (XW bC bM ta tn tc cJ,at8,.map #[] 0,[],o5,[],S5,c5,none,λ_=>none) ⟨(Kn.mk ⟨(gi J (by rw[dP,hHD])),trivial⟩),(by rw[dP];exact h),gJ,Cy.nil,(bP _),(aFj (hT.sub (Sub.cons _ _)) I),aFk,(aI acr (mS _ _)),(by rw[dP];exact Ad),(bP _)⟩ ?_;rintro⟨x,dX,jA,G,ob,DB,SB,cb,lo,tO⟩ ρ w ⟨⟨aEJ,rfl⟩,h,hx,hBS,hxa,Cz,s_,yV,Kx,jP⟩;refine cg (min (min (tn-x.at_) 131072) x.cJ) λs0 zH=>?_;have eZ:s0<=tn-x.at_/\s0<=131072/\s0<=cJ/\(x.at_<tn->0<s0):=(by have:=hx.2.2.2.2.2;omega);refine ze (a9 (bL h [0,4,8,12,16,28,32,36,21,24,41,44,48] ?_));intro w h;refine av 8 ?_;refine aK J h J (show(aT x)[0+2]? =some (R x.at_)from J) (aw J (iz J J hxa az) (aK J h J (show(aT x)[0+3]? =some (R x.cJ)from J) (aw J (bZ (aE7 (b:=131072) (h2:=ao.lit _) J J J) zH) (eY J (cm (cD [(16,17),(184,196)] (λρ w=> ∃fU sz:Nat,Kn ρ [(16,R sz)]/\H r w (EB ob (HD++DB) SB::(af bW (aT x) 49)::(af bC [.slice na nn nc,R fU] 38)::(some bM,jA)::(G++((af bs [R sg,R 2,R 4,R 8] 3)::F)))/\(fU<=dX+2)/\(sz<=s0/\(0<s0->0<sz))) ?_ ?_))))))
   . refine V 3 ?_;replace h:=h.zz [3,2,2,3] 0;refine b_ (v1:=R 3) J J J (aA (kI (n:=3) (at_:=dX) h (hN.sub aJ) I I) ?_);rintro e w1 ⟨kv,iX,rfl,hkv,sT,h⟩;refine V 7 ?_;refine an J ?_ ?_<;>intro atx
     . refine V 3 ?_;refine AX J J J (kM _ _ _) h ?_;intro bz w h;refine V 2 ?_;refine aO h J (l9 (a:=1) (b:=40) (c:=4000) I) ?_;have h40:[1,40,4000].getD kv 0<=4000:=(by rcases(I:kv=0\/kv=1\/kv=2)with rfl|rfl|rfl<;>decide);replace h:=h.zz [4,4,4,4] 0;refine b_ J J J (aA (kI (n:=[1,40,4000].getD kv 0) (at_:=iX) h (hN.sub aJ) I I) ?_);rintro e w1 ⟨ov,aFu,rfl,me,aJY,h⟩;refine V 1 ?_;refine ah (zh J J) (dI (aC ?_));replace h:=h.zz [3,1,3,3,4] 1;exact⟨aH 15,aFu,min s0 (1+ov),aq,h,I,I⟩
     refine aQ ?_;replace h:=h.zz [3,1,3,3] 0;exact⟨aH 5,iX,s0,aq,h,I,I⟩
   rintro ρ w ⟨fU,sz,⟨aEK,rfl⟩,h,uD,aJZ⟩;refine cD [(18,18),(197,210)] (λρ w=> ∃lV:Nat,∃Va:Bool,Kn ρ [(18,.bool Va)]/\H r w (EB ob (HD++DB) SB::(af bW (aT x) 49)::(af bC [.slice na nn nc,R lV] 38)::(some bM,jA)::(G++((af bs [R sg,R 2,R 4,R 8] 3)::F)))/\(lV<=fU+1)/\(Va=true->x.at_+sz=tn)) ?_ ?_
   refine V 4 ?_;refine aO h J (show(aT x)[0+2]? =some (R x.at_)from J) ?_;refine V 6 ?_;refine d' (t:=206) J (λam7=>?_) (λam7=>?_)
   . refine V 1 ?_;replace h:=h.zz [3,2,2,3] 0;refine yT (v1:=R 4) J J J J J J (aA (kI (n:=4) (at_:=fU) h (hN.sub aJ) I I) ?_);rintro e w1 ⟨ow,aFv,rfl,how,aJ0,h⟩;refine V 4 ?_;replace h:=h.zz [3,1,3,3] 0;exact⟨aM,aFv,decide (0<ow),aq,h,I,(λ_=>am7)⟩
   refine V 6 ?_;exact⟨aM,fU,false,aq,h,I,(λe=>by cases e)⟩
   rintro ρ w ⟨lV,Va,⟨aEQ,rfl⟩,h,Om,aFw⟩;refine V 6 ?_;replace h:=h.zz [3,3,3] 0;refine ee J J J J ?_;rw[<-hx.1,<-hx.2.1]at h;refine(aFe (X:=T) (size:=sz) (last:=Va) (lo:=lo) (tO:=tO) h (hN.sub aJ) I s_ ⟨by rw[hx.2.2.1,hx.2.2.2.1,hx.2.2.2.2.1];exact hT.sub aJ,Cz.ln.sub (Sub.cons _ _),λk hk=>⟨(Cz.tb k hk).1.sub (Sub.cons _ _),(Cz.tb k hk).2⟩,Cz.seen,Cz.cJ,Cz.a1,Cz.a,Cz.b,Cz.c⟩ I I I).mono ?_;rintro e w1 ⟨ru,mo7,Gn,o8,Bb,S8,c8,x7,lo7,tO7,rfl,OD,acq,aFx,rZ,aFy,OH,aJ1,h⟩;refine⟨_,J,?_⟩;rw[hx.1,hx.2.1]at h;have wP:(x7.cb=bC/\x7.mb=bM/\x7.ta=ta/\x7.tn=tn/\x7.tc=tc/\x7.cJ=cJ):=⟨rZ.1.trans hx.1,rZ.2.1.trans hx.2.1,rZ.2.2.1.trans hx.2.2.1,rZ.2.2.2.1.trans hx.2.2.2.1,rZ.2.2.2.2.1.trans hx.2.2.2.2.1,rZ.2.2.2.2.2.1.trans hx.2.2.2.2.2⟩;have am8:=rZ.2.2.2.2.2.2;have am9:=aFy.HH (by rw[wP.2.2.1,wP.2.2.2.1,wP.2.2.2.2.1];exact hT.sub aJ);rw[<-cF Gn G ((af bs [R sg,R 2,R 4,R 8] 3)::F)]at am9;replace h:=h.aE8;rw[<-cF Gn G ((af bs [R sg,R 2,R 4,R 8] 3)::F)]at h;rw[hx.2.2.2.2.2]at OH;have aJ2:DB.length<=137500000000:=I;refine lk (X:=HD++DB) (Y:=Bb) (F:=[EB o8 Bb S8]) h 1 J J J Kx (OD.sl) wi (by rw[aF];omega) J ?_;intro w o9 c9 S9 h oW;dsimp only[List.set]at h;replace h:=h.tail;rw[cF HD DB Bb]at h oW;have ela:(HD++DB++Bb).length=(HD++(DB++Bb)).length:=(by rw[cF]);have aJ3:(DB++Bb).length<=131100*(x.at_+1):=(by rw[aF];omega);refine V 7 ?_;refine eA J ?_ ?_<;>intro FP
   have ajW:=aFw FP;rw[FP]at OH;exact iy ⟨aH 24,o9,DB++Bb,S9,c9,ru,mo7,x7,Gn++G,Kn.mk ⟨(gi J ela),trivial⟩,h,Or.inr ⟨_,_,_,_,_,_,_,_,_,_,_,_,_,_,hBS,I,I,I,OH,J⟩,oW,I⟩
   rw[FP]at OH;have am_:Cy T cJ x7.at_ lo7 tO7 x7.a x7.b x7.c (DB++Bb):=(by rw[am8];exact Cy.step hBS I I I OH);have aJ4:131100*(x.at_+1)<=137500000000:=I;refine V 6 ?_;refine aO h J (show(aT x7)[0+2]? =some (R x7.at_)from J) ?_;refine V 4 ?_;refine an J ?_ ?_<;>intro aJ5
   . refine V 3 ?_;refine b_ (v0:=cy 1) (v1:=R 3) J J J (aA (qE (x:=1) (k:=3) h I I) ?_);rintro e w1 ⟨nK,lS,lT,rfl,j4,h⟩;refine lk (X:=HD++(DB++Bb)) (Y:=cu 1 3) (F:=[EB nK (cu 1 3) lS]) h 1 (gi J ela) (gi J (eP _ _).symm) J oW (j4.sl) wi (by rw[aF,eP];omega) J ?_;intro w o11 c11 S11 h U1;dsimp only[List.set]at h;replace h:=h.tail;rw[cF HD]at h U1;have elb:(HD++(DB++Bb)++cu 1 3).length=(HD++((DB++Bb)++cu 1 3)).length:=(by rw[cF]);refine V 3 ?_;exact⟨aH 35,o11,(DB++Bb)++cu 1 3,S11,c11,ru,mo7,x7,Gn++G,Kn.mk ⟨(gi J elb),trivial⟩,h,Or.inl ⟨_,_,_,_,_,_,((I:x7.at_=T.length)▸am_),J⟩,U1,(by rw[aF,eP];omega)⟩
   have aFz:ru<=100+3000*x7.at_:=I;have aFA:(DB++Bb).length<=131100*x7.at_:=(by rw[am8];omega);exact aQ ⟨aH 30,(x7,ru,mo7,Gn++G,o9,DB++Bb,S9,c9,lo7,tO7),cw,Kn.mk ⟨(gi J ela),trivial⟩,h,wP,am_,I,am9,aFx,aFz,oW,aFA⟩
 rintro ρ w ⟨uv,DF,HL,OE,HK,OG,my,Cx,⟨aJ6,rfl⟩,h,hBF,U0,hDF⟩;refine cD [(11,11),(228,235)] (λρ w=> ∃sb:List UInt8,∃gj:Option Nat,∃Vb:List UInt8,∃Vc:Nat,Kn ρ [(11,.slice (aB gj) (List.length (HD++DF++sb)) Vc)]/\H r w (EB gj (HD++DF++sb) Vb::(af bW (aT my) 49)::(af bC [.slice na nn nc,R HK] 38)::(some bM,OG)::(Cx++((af bs [R sg,R 2,R 4,R 8] 3)::F)))/\((sm=1/\sb=cu (lD T % 4294967296) 4)\/(sm=0/\sb=[]))/\(BB gj (HD++DF++sb) Vb Vc)) ?_ ?_
 refine V 5 ?_;refine an J ?_ ?_<;>intro aFB
 . refine V 3 ?_;refine dJ J J (aA (aDT (X:=T) h (hT.sub aJ) (ar (e_ (a:=(af bW (aT my) 49)))) I) ?_);rintro e w1 ⟨rfl,h⟩;have hxm:=dH (lD T) (show 0<4294967296 by decide);refine V 1 ?_;refine b_ (v1:=R 4) J J J (aA (qE (x:=lD T % 4294967296) (k:=4) h I I) ?_);rintro e w1 ⟨nK,lS,lT,rfl,j4,h⟩;refine lk (X:=HD++DF) (Y:=cu (lD T % 4294967296) 4) (F:=[EB nK (cu (lD T % 4294967296) 4) lS]) h 1 J (gi J (eP _ _).symm) J U0 (j4.sl) wi (by rw[aF,eP];omega) J ?_;intro w o12 c12 S12 h aFC;dsimp only[List.set]at h;replace h:=h.tail;exact dI (aC ⟨aH 9,cu (lD T % 4294967296) 4,o12,S12,c12,aq,h,Or.inl ⟨aFB,J⟩,aFC⟩)
 have h0:=h;clear h;have h:H r w (EB uv (HD++DF++[]) HL::(af bW (aT my) 49)::(af bC [.slice na nn nc,R HK] 38)::(some bM,OG)::(Cx++((af bs [R sg,R 2,R 4,R 8] 3)::F))):=(by rw[dP];exact h0);exact aQ ⟨aH 2,[],uv,HL,OE,Kn.mk ⟨(gi J (by rw[dP])),trivial⟩,h,Or.inr ⟨I,J⟩,(by rw[dP];exact U0)⟩
 rintro ρ w ⟨sb,gj,Vb,Vc,⟨aJ7,rfl⟩,h,Hx,aFD⟩;refine V 6 ?_
 have a8:sb.length<=4:=by
  rcases Hx with⟨_,e⟩| ⟨_,e⟩
  rw[e,eP];exact aR _
  rw[e];exact bP _
 refine⟨gj,_,Vb,Vc,J,aFD,by rw[aF,aF];omega,by rw[aF,aF];omega,⟨f,sg,v,sm,id,cJ,wd,DF,sb,hf,I,I,I,I,Ku,dd,hBF,Hx,?_⟩,(H.aE9 (Z:=[(af bW (aT my) 49),(af bC [.slice na nn nc,R HK] 38),(some bM,OG)]++(Cx++[(af bs [R sg,R 2,R 4,R 8] 3)])) (by simpa using h))⟩;exact b8 (λz=>z++DF++sb) hHE
end Go.Z
