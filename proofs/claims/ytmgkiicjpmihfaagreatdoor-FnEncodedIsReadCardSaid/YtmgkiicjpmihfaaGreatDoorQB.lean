/- Part 2 of the proof. -/
import Derived.KernelRfl
import Derived.Test.YtmgkiicjpmihfaaGreatDoorProg
import Derived.Test.YtmgkiicjpmihfaaGreatDoorQA
set_option linter.all false
set_option maxRecDepth 20000
set_option maxHeartbeats 400000000
open List renaming length -> W, getD -> aa, map -> ar, replicate -> aT, set -> bJ, range -> cL
open UInt8 renaming ofNat -> bS
open Or renaming inl -> a_, inr -> bG
open Go.Z.Env renaming ev -> aL, put -> fU
namespace Go.Z
open Go Go.Proofs Tryz
section
variable {zs:List Value}{fh c2 m size:Nat}{op:Op}{ord:Ot}{E2 T2:TypeId}{sv u xv:Value}{w':World}
variable {P:Program}{n:Nat}{K:ia}{ρ:Env}{all:Array Oper}{rest:List Oper}{d:Option Nat}{ty:TypeId}{pos:String}{aV:Array Edge}
variable {r:fT}{w:World}{L:List aK}{x y z:Operand}{b q i:Nat}{l:List Value}{T T':TypeId}{v:Value}
class Zr(P:Program)(T:TypeId)(zs:outParam (List Value)):Prop where
 zero: ∀w,∃v,(zeroValue T).run P w= .ok v w/\v.cells=⟨zs⟩
class By(P:Program)(T:TypeId)(m:outParam Nat):Prop where
 bytes: ∀w,∃t,(typeInfo T).run P w= .ok t w/\t.bytes=m
def aex[a:Zr P T zs]:run P ρ (.alloc T) ty w= .ok (.value (.pointer (some ⟨w.heap.size,0,none⟩))) (w.alloc (C zs T)):=by
 obtain⟨v,h1,h2⟩:=a.zero w;simp[C,run,execOp,Instr.alloc,h1,newVar,newRow,newObj,Sem.run,h2]
def aqx(a:aL ρ x=u){zs:List Value}(hu:u.cells=⟨zs⟩):run P ρ (.box T x) ty w= .ok (.value (.pointer (some ⟨w.heap.size,0,none⟩))) (w.alloc (C zs T)):=by
 simp[C,run,execOp,Instr.box,newVar,newRow,newObj,Sem.run,a,hu]
section
variable (hd:bH n d=true)
def eN[c:Zr P T zs](h:H r w L)(hd:bH n d=true)(a: ∀b w',H r w' ((some b,C zs T)::L)->O P n all rest K (fU ρ d (.pointer (some ⟨b,0,none⟩))) w'):O P n all ({dst:=d,op:= .alloc T,type:=ty,pos:=pos,after:=aV,guard:=none}::rest) K ρ w:=
 gQ aex hd (a _ _ (h.alloc _))
def tL(h:H r w L)(a:aL ρ x=u)(hu:u.cells=⟨zs⟩)(hd:bH n d=true)(c: ∀b w',H r w' ((some b,C zs T)::L)->O P n all rest K (fU ρ d (.pointer (some ⟨b,0,none⟩))) w'):O P n all ({dst:=d,op:= .box T x,type:=ty,pos:=pos,after:=aV,guard:=none}::rest) K ρ w:=
 gQ (aqx a hu) hd (c _ _ (h.alloc _))
def aey[c:Zr P T zs](hi:all[m]? =some {dst:=d,op:= .alloc T,type:=ty,pos:=pos,after:=aV,guard:=none})(h:H r w L)(hd:bH n d=true)(a: ∀b w',H r w' ((some b,C zs T)::L)->D P n all ord K (fU ρ d (.pointer (some ⟨b,0,none⟩))) w'):D P n all (.cons (m,.g) ord) K ρ w:=
 Xq hi aex (ft.alloc _ _) hd (a _ _ (h.alloc _))
end
def uJ{v:Nat->Value}{o:Obj}(a: ∀w,run P ρ op ty w= .ok (.value (v w.heap.size)) (w.alloc o))(h:H r w L)(hd:bH n d=true)(c: ∀b w',H r w' ((some b,o)::L)->O P n all rest K (fU ρ d (v b)) w'):O P n all ({dst:=d,op:=op,type:=ty,pos:=pos,after:=aV,guard:=none}::rest) K ρ w:=
 gQ (a w) hd (c _ _ (h.alloc _))
def QO{v:Nat->Value}{o:Obj}(hi:all[m]? =some {dst:=d,op:=op,type:=ty,pos:=pos,after:=aV,guard:=none})(a: ∀w,run P ρ op ty w= .ok (.value (v w.heap.size)) (w.alloc o))(h:H r w L)(hd:bH n d=true)(c: ∀b w',H r w' ((some b,o)::L)->D P n all ord K (fU ρ d (v b)) w'):D P n all (.cons (m,.g) ord) K ρ w:=
 Xq hi (a w) (ft.alloc _ _) hd (c _ _ (h.alloc _))
def dD(zs:List Value)(n:Nat):List Value:=(cL (n*W zs)).map λi=>(zs[i % W zs]?).getD default
def D6(z:Value)(n:Nat):dD [z] n=aT n z:=by
 apply nR;intro j;simp only[dD,dL,eW,il,fg,kP,List.getElem?_range',rK];by_cases a:j<n
 simp[a,IX]
 simp[a]
def D7(zs:List Value)(n:Nat):W (dD zs n)=n*W zs:=by simp[dD]
def run_makeSlice{s:Nat}[hu:cu P T (.slice T')] [hs:Sz P T' s] [r:Zr P T' zs] [hb:By P T' fh]{u d:Int}{k k':IntKind}{a c:Nat}(e:aL ρ x= .int k u)(f:aL ρ y= .int k' d) [h1:av u a] [h2:av d c](g:W zs=s)(B:a<=c)(D:fh*c<=281474976710656)(E:c<=281474976710656):run P ρ (.makeSlice T x y) ty w= .ok (.value (.slice (some ⟨w.heap.size,0,none⟩) a c)) (w.alloc (C (dD zs c) T')):=by
 obtain⟨t,t1,t2⟩:=hb.bytes w;obtain⟨h,v,z⟩:=r.zero w;have e2:=hs.size w;have j:=uF .i64 a (by simp[aN];omega);have l:=uF .i64 c (by simp[aN];omega);have m: ¬((c:Int)<0):=I;have n: ¬((281474976710656:Int)<(fh:Int)*(c:Int)):=(by have:(fh:Int)*(c:Int)=((fh*c:Nat):Int):=(by simp);rw[this];omega);have o: ¬((a:Int)<0):=I;have p: ¬((c:Int)<(a:Int)):=I;have q:(askRoom (c*fh)).run P w= .ok () w:=(by unfold askRoom;split<;>simp[mark,Sem.run]);by_cases b:c*s=0
 have:dD zs c=[]:=k7.1 (by rw[D7,g,b]);simp[run,execOp,e,f,h1.eq,h2.eq,Instr.makeSlice,underlying,program,Sem.run,hu.eq,asInt,asIntOf,t1,t2,j,l,m,n,o,p,q,e2,b,newRow,newObj,this];exact cD (λa=>w.alloc (Obj.cells a T')) (by apply Array.ext<;>simp)
 have A:((Array.range (c*s)).map λi=>h.cells[i % h.cells.size]!)=⟨dD zs c⟩:=(by rw[z];apply FY.1;simp[dD,g,DN,tD]);simp[run,execOp,e,f,h1.eq,h2.eq,Instr.makeSlice,underlying,program,Sem.run,hu.eq,asInt,asIntOf,t1,t2,j,l,m,n,o,p,q,e2,b,newRow,newObj,v];simp only[A,C]
def H.replace{e:aK}{i:Nat}(h:H r w (e::L))(hi:i<W L):H r w (L.set i e):=by
 have hp:L=L.take i++L[i]::L.drop (i+1):=(by simp);have hs:L.set i e=L.take i++e::L.drop (i+1):=List.set_eq_take_append_cons_drop▸(by simp[hi]);rw[hs];have h1:H r w (L[i]::(L.take i++e::L.drop (i+1))):=(by refine h.perm ?_;have h2:(e::L).Perm (e::(L[i]::(L.take i++L.drop (i+1)))):=(by refine List.Perm.cons _ ?_;(conv=>lhs;rw[hp]);exact tF);refine h2.trans ((List.Perm.swap _ _ _).trans (List.Perm.cons _ ?_));exact List.perm_middle.symm);exact h1.tail
def aez: ∀(k a c:Nat),c<=a->Builtin.growBy a k c<=2*a+1000
 |0,a,c,h=>by simp[Builtin.growBy];omega
 | k+1,a,c,h=>by
  simp only[Builtin.growBy];split
  omega
  by_cases h2:c+(c+768)/4<=a
  exact aez k a _ h2
  cases k with
  |zero=>simp[Builtin.growBy];omega
  |succ k=>simp only[Builtin.growBy];rw[ao I];omega
def QS{a c:Nat}(h:c<a):Builtin.nextslicecap a c<=2*a+1000:=by
 unfold Builtin.nextslicecap;split
 omega
 split
 omega
 exact aez 4 a c I
def QT(a t:Nat)(o:Nat)(T:TypeId):a<=(Question.appendCap a o T).cut t:=by simp[Question.cut]
structure Src(P:Program)(r:fT)(L:List aK)(size m:Nat)(v:Value)(ys:List Value):Prop where
 len: ∀w,(Builtin.lenOf v).run P w= .ok m w
 cells: ∀w,H r w L->(Builtin.firstCells size m v).run P w= .ok ys.toArray w
 size:W ys=m*size
def Src.slice{j b2 q2:Nat}{a:List Value}{T2:TT}{ys:List Value}(c:L[j]? =some (some b2,C a T2))(d:Rd a q2 ys)(b:W ys=m*size):Src P r L size m (.slice (some ⟨b2,q2,none⟩) m c2) ys:=
 ⟨λw=>by simp[Builtin.lenOf],λw h=>by simp only[Builtin.firstCells];exact D4 h c d b,b⟩
def Src.nil{a:Option Addr}:Src P r L size 0 (.slice a 0 c2) []:=
 ⟨λw=>by simp[Builtin.lenOf],λw h=>by cases a<;>simp[Builtin.firstCells,loadCells,loadCellsFrom],by simp⟩
def Jo{L:List aK}{i:Nat}{e:aK}(hi:L[i]? =some e):L.set i e=L:=by
 apply nR;intro k;rw[vV];split
 rename_i a;subst a;rw[ao (qP.1 hi).1];exact hi.symm
 rfl
def XC[hu:cu P T (.slice T')] [hs:Sz P T' size] [D:Zr P T' zs] [hb:By P T' fh] [n:cu P T2 (.slice E2)](E:W zs=size){ob:Option Nat}{xs sp ys:List Value}{nn c m:Nat}{xv:Value}(h:H r w L)(hi:L[i]? =some (ob,C (xs++sp) T'))(f:W xs=nn*size)(u:W (xs++sp)=c*size)(wu:nn<=c)(x:ob=none->c=0)(gv:0<size)(g:Src P r L size m xv ys)(F: ∀v∈ys,plain v=true)(fx:(2*(nn+m)+1000)*fh<=281474976710656)(XD:nn+m<=281474976710656): ∃w' o c' y,(Builtin.append_ #[T,T2] ty #[.slice (aI ob) nn c,xv]).run P w= .ok (.slice (aI o) (nn+m) c') w'/\H r w' (L.set i (o,C (xs++ys++y) T'))/\W (xs++ys++y)=c'*size/\nn+m<=c'/\(o=none->c'=0):=by
 obtain⟨t,t1,t2⟩:=hb.bytes w;have e2:=hs.size w;have p:=g.len w;have z:=g.cells w h;have h1:=g.size;have G:i<W L:=(qP.1 hi).1;by_cases l:nn+m<=c
 have hle:nn*size+W ys<=W (xs++sp):=(by have:(nn+m)*size<=c*size:=rL _ l;rw[qQ]at this;omega)
 cases ob with
 | none=>
   have A:=x J
   subst A
   obtain rfl:nn=0:=by omega
   obtain rfl:m=0:=by omega
   have K:ys=[]:=k7.1 I
   subst K
   refine⟨w,none,0,sp,?_,?_,by simpa using u,aW _,λ_=>rfl⟩
   . simp[Builtin.append_,underlying,program,Sem.run,hu.eq,n.eq,e2,p,z,aI]
   . rw[dN,Jo hi];exact h
 | some b=>
   obtain⟨w',s1,s2,_,_⟩:=D5 (P:=P) ys w L (xs++sp) (nn*size) 0 h hi F I
   refine⟨w',some b,c,sp.drop (W ys),?_,?_,?_,l,λe=>by cases e⟩
   . simp[Builtin.append_,underlying,program,Sem.run,hu.eq,n.eq,e2,p,l,z,aI,add_plain,s1]
   . have M:dm (xs++sp) (nn*size+0) ys=xs++ys++sp.drop (W ys):=by
       rw[kN,BY _ _ _ hle,<-f]
       simp[FZ]
     rw[M]at s2;exact s2
   . simp only[aF,cr]at u hle ⊢;omega
 have N:c<nn+m:=I;have O: ¬((281474976710656:Nat)<Builtin.nextslicecap (nn+m) c*fh):=(by have:=rL fh (QS N);omega);have Q: ¬((9223372036854775807:Int)<(nn:Int)+(m:Int)):=I;obtain⟨a,q⟩: ∃a:World,a=w.drew:=⟨_,J⟩;have s:H r a L:=(by rw[q];exact h.drew);have R:=g.cells a s;obtain⟨S,U,V⟩:=D.zero a;obtain⟨t',X,Y⟩:=hb.bytes a;obtain⟨d,B⟩: ∃d,d=(Question.appendCap (nn+m) c T').cut (w.tape w.drawn (Question.appendCap (nn+m) c T')):=⟨_,J⟩;have Z:nn+m<=d:=(by rw[B];exact QT _ _ _ _);have pV: ∀k,(askRoom k).run P a= .ok () a:=λk=>(by unfold askRoom;split<;>simp[mark,Sem.run])
 have hold:(Builtin.firstCells size nn (.slice (aI ob) nn c)).run P a= .ok xs.toArray a:=by
  cases ob with
  | none=>
    have A:=x J
    have : xs = [] := k7.1 (by rw[f]; have:nn=0:=(by omega); subst this;simp)
    subst this;simp[Builtin.firstCells,aI]
  | some b=>
    simp only[Builtin.firstCells,aI]
    refine D4 s hi ?_ f
    exact Rd.of λj hj=>by rw[il,gP hj]
 have tN:(Builtin.zeroCells S.cells (d- (nn+m)))=⟨dD zs (d- (nn+m))⟩:=(by rw[V];apply FY.1;simp[Builtin.zeroCells,dD,DN,tD]);have Gi:(Question.appendCap (nn+m) c T').forced=false:=rfl;refine⟨a.alloc (C (xs++ys++dD zs (d- (nn+m))) T'),some a.heap.size,d,dD zs (d- (nn+m)),?_,(s.alloc _).replace G,?_,Z,λe=>by cases e⟩
 simp[Builtin.append_,underlying,program,Sem.run,hu.eq,n.eq,e2,p,l,t1,t2,O,Q,choose,Gi];simp only[<-B,show({w with drawn:=w.drawn+1}:World)=a from q.symm,show w.drew=a from q.symm];simp[C,X,Y,pV,hold,R,U,tN,newRow,newObj,Sem.run,show aI (some a.heap.size)=some ⟨a.heap.size,0,none⟩from J]
 rw[aF,aF,D7,E,f,h1,<-qQ,<-qQ];congr 1;omega
def D8(a:aL ρ x=sv)(b:aL ρ y=xv)(c:(Builtin.append_ #[T,T2] ty #[sv,xv]).run P w= .ok u w'):run P ρ (.call {callee:= .builtin .append,args:= #[x,y],argTypes:= #[T,T2]}) ty w= .ok (.value u) w':=by
 simp[run,execOp,resolve,invoke,builtin,a,b,c]
def me[hu:cu P T (.slice T')] [hs:Sz P T' size] [t:Zr P T' zs] [hb:By P T' fh] [u:cu P T2 (.slice E2)]{ob:Option Nat}{nn c m:Nat}{xv:Value}(xs sp ys:List Value)(h:H r w L)(i:Nat)(g:aL ρ x= .slice (aI ob) nn c)(j:aL ρ y=xv)(hi:L[i]? =some (ob,C (xs++sp) T'))(hlen:W xs=nn*size/\W (xs++sp)=c*size/\nn<=c/\(ob=none->c=0))(k:Src P r L size m xv ys)(l: ∀v∈ys,plain v=true)(e:(2*(nn+m)+1000)*fh<=281474976710656/\nn+m<=281474976710656)(f:W zs=size/\0<size)(hd:bH n d=true)(o: ∀w' a c' b,H r w' (L.set i (a,C (xs++ys++b) T'))->W (xs++ys++b)=c'*size->nn+m<=c'->(a=none->c'=0)->O P n all rest K (fU ρ d (.slice (aI a) (nn+m) c')) w'):O P n all ({dst:=d,op:= .call {callee:= .builtin .append,args:= #[x,y],argTypes:= #[T,T2]},type:=ty,pos:=pos,after:=aV,guard:=none}::rest) K ρ w:=by
 obtain⟨w',a,c',b,h1,h2,p,q,s⟩:=XC (P:=P) (ty:=ty) (T:=T) (T2:=T2) f.1 h hi hlen.1 hlen.2.1 hlen.2.2.1 hlen.2.2.2 f.2 k l e.1 e.2;exact gQ (D8 g j h1) hd (o w' a c' b h2 p q s)
def nU{ord:Ot}{j:Nat}[hu:cu P T (.slice T')] [hs:Sz P T' size] [z:Zr P T' zs] [hb:By P T' fh] [A:cu P T2 (.slice E2)]
   {ob:Option Nat} {nn c m:Nat} {xv:Value} (xs sp ys:List Value) (g:all[j]? =some {dst:=d,op:= .call {callee:= .builtin .append,args:= #[x,y],argTypes:= #[T,T2]},type:=ty,pos:=pos,after:=aV,guard:=none})
   (h:H r w L) (i:Nat) (k:aL ρ x= .slice (aI ob) nn c) (l:aL ρ y=xv) (hi:L[i]? =some (ob,C (xs++sp) T'))
   (hlen:W xs=nn*size/\W (xs++sp)=c*size/\nn<=c/\(ob=none->c=0)) (o:Src P r L size m xv ys) (p: ∀v∈ys,plain v=true) (e:(2*(nn+m)+1000)*fh<=281474976710656/\nn+m<=281474976710656)
   (f:W zs=size/\0<size) (hd:bH n d=true)
   (q: ∀w' a c' b,H r w' (L.set i (a,C (xs++ys++b) T'))->W (xs++ys++b)=c'*size->nn+m<=c'->(a=none->c'=0)->D P n all ord K (fU ρ d (.slice (aI a) (nn+m) c')) w'):
   D P n all (.cons (j,.h) ord) K ρ w:=by
 obtain⟨w',a,c',b,h1,h2,s,t,u⟩:=XC (P:=P) (ty:=ty) (T:=T) (T2:=T2) f.1 h hi hlen.1 hlen.2.1 hlen.2.2.1 hlen.2.2.2 f.2 o p e.1 e.2
 exact Mw g (D8 k l h1) hd (q w' a c' b h2 s t u)
def aeA(a:aL ρ x=sv)(b:aL ρ y=xv)(c:(Builtin.copy_ #[T,T2] ty #[sv,xv]).run P w= .ok u w'):run P ρ (.call {callee:= .builtin .copy,args:= #[x,y],argTypes:= #[T,T2]}) ty w= .ok (.value u) w':=by
 simp[run,execOp,resolve,invoke,builtin,a,b,c]
end
section
variable {zs:List Value}{fh i0 i1 i2 i3 i4 i5 m s:Nat}{x0 x1 x2 x3 x4 x5:Operand}{ord:Ot}{u v1 v2 v3 v4 v5:Value}
variable {P:Program}{n:Nat}{K:ia}{ρ:Env}{all:Array Oper}{rest:List Oper}{d:Option Nat}{ty:TypeId}{pos:String}{aV:Array Edge}
variable {r:fT}{w:World}{L:List aK}{x y z:Operand}{b q i:Nat}{l:List Value}{T T':TypeId}{v:Value}
def Jp(hb: ∀w,(Instr.build T #[]).run P w= .ok u w):run P ρ (.build T #[]) ty w= .ok (.value u) w:=by
 simp[run,execOp,hb w]
def Gj{v0:Value}(hb: ∀w,(Instr.build T #[(i0,v0)]).run P w= .ok u w)(a:aL ρ x0=v0):run P ρ (.build T #[(i0,x0)]) ty w= .ok (.value u) w:=by
 simp[run,execOp,a,hb w]
def ME{v0:Value}{u:Nat->Value}{o:Obj}(hb: ∀w,(Instr.buildSlice T m #[(i0,v0)]).run P w= .ok (u w.heap.size) (w.alloc o))(a:aL ρ x0=v0):run P ρ (.buildSlice T m #[(i0,x0)]) ty w= .ok (.value (u w.heap.size)) (w.alloc o):=by
 simp[run,execOp,a,hb w]
def At{v0:Value}(hb: ∀w,(Instr.build T #[(i0,v0),(i1,v1)]).run P w= .ok u w)(a:aL ρ x0=v0)(h1:aL ρ x1=v1):run P ρ (.build T #[(i0,x0),(i1,x1)]) ty w= .ok (.value u) w:=by
 simp[run,execOp,a,h1,hb w]
def aqy{v0:Value}{u:Nat->Value}{o:Obj}(hb: ∀w,(Instr.buildSlice T m #[(i0,v0),(i1,v1)]).run P w= .ok (u w.heap.size) (w.alloc o))(a:aL ρ x0=v0)(h1:aL ρ x1=v1):run P ρ (.buildSlice T m #[(i0,x0),(i1,x1)]) ty w= .ok (.value (u w.heap.size)) (w.alloc o):=by
 simp[run,execOp,a,h1,hb w]
def xH{v0:Value}(hb: ∀w,(Instr.build T #[(i0,v0),(i1,v1),(i2,v2)]).run P w= .ok u w)(a:aL ρ x0=v0)(h1:aL ρ x1=v1)(h2:aL ρ x2=v2):run P ρ (.build T #[(i0,x0),(i1,x1),(i2,x2)]) ty w= .ok (.value u) w:=by
 simp[run,execOp,a,h1,h2,hb w]
def aeB{v0:Value}{u:Nat->Value}{o:Obj}(hb: ∀w,(Instr.buildSlice T m #[(i0,v0),(i1,v1),(i2,v2)]).run P w= .ok (u w.heap.size) (w.alloc o))(a:aL ρ x0=v0)(h1:aL ρ x1=v1)(h2:aL ρ x2=v2):run P ρ (.buildSlice T m #[(i0,x0),(i1,x1),(i2,x2)]) ty w= .ok (.value (u w.heap.size)) (w.alloc o):=by
 simp[run,execOp,a,h1,h2,hb w]
def aeC{v0:Value}(hb: ∀w,(Instr.build T #[(i0,v0),(i1,v1),(i2,v2),(i3,v3)]).run P w= .ok u w)(a:aL ρ x0=v0)(h1:aL ρ x1=v1)(h2:aL ρ x2=v2)(b:aL ρ x3=v3):run P ρ (.build T #[(i0,x0),(i1,x1),(i2,x2),(i3,x3)]) ty w= .ok (.value u) w:=by
 simp[run,execOp,a,h1,h2,b,hb w]
def aeD{v0:Value}{u:Nat->Value}{o:Obj}(hb: ∀w,(Instr.buildSlice T m #[(i0,v0),(i1,v1),(i2,v2),(i3,v3)]).run P w= .ok (u w.heap.size) (w.alloc o))(a:aL ρ x0=v0)(h1:aL ρ x1=v1)(h2:aL ρ x2=v2)(b:aL ρ x3=v3):run P ρ (.buildSlice T m #[(i0,x0),(i1,x1),(i2,x2),(i3,x3)]) ty w= .ok (.value (u w.heap.size)) (w.alloc o):=by
 simp[run,execOp,a,h1,h2,b,hb w]
def QU{v0:Value}(hb: ∀w,(Instr.build T #[(i0,v0),(i1,v1),(i2,v2),(i3,v3),(i4,v4)]).run P w= .ok u w)(a:aL ρ x0=v0)(h1:aL ρ x1=v1)(h2:aL ρ x2=v2)(b:aL ρ x3=v3)(c:aL ρ x4=v4):run P ρ (.build T #[(i0,x0),(i1,x1),(i2,x2),(i3,x3),(i4,x4)]) ty w= .ok (.value u) w:=by
 simp[run,execOp,a,h1,h2,b,c,hb w]
def aqz{v0:Value}(hb: ∀w,(Instr.build T #[(i0,v0),(i1,v1),(i2,v2),(i3,v3),(i4,v4),(i5,v5)]).run P w= .ok u w)(a:aL ρ x0=v0)(h1:aL ρ x1=v1)(h2:aL ρ x2=v2)(b:aL ρ x3=v3)(c:aL ρ x4=v4)(d:aL ρ x5=v5):run P ρ (.build T #[(i0,x0),(i1,x1),(i2,x2),(i3,x3),(i4,x4),(i5,x5)]) ty w= .ok (.value u) w:=by
 simp[run,execOp,a,h1,h2,b,c,d,hb w]
def aqA{v0:Value}{u:Nat->Value}{o:Obj}(hb: ∀w,(Instr.buildSlice T m #[(i0,v0),(i1,v1),(i2,v2),(i3,v3),(i4,v4),(i5,v5)]).run P w= .ok (u w.heap.size) (w.alloc o))(a:aL ρ x0=v0)(h1:aL ρ x1=v1)(h2:aL ρ x2=v2)(b:aL ρ x3=v3)(c:aL ρ x4=v4)(d:aL ρ x5=v5):run P ρ (.buildSlice T m #[(i0,x0),(i1,x1),(i2,x2),(i3,x3),(i4,x4),(i5,x5)]) ty w= .ok (.value (u w.heap.size)) (w.alloc o):=by
 simp[run,execOp,a,h1,h2,b,c,d,hb w]
def aeE{len:Nat}[hu:cu P T (.array len T')] [h1:One P T']{cs:List Value}{k:IntKind}{u:Int}{a:Nat}(b:aL ρ x= .agg ⟨cs⟩)(c:aL ρ y= .int k u) [h2:av u a](d:a<len)(e:cs[a]? =some v):run P ρ (.index T x y) ty w= .ok (.value v) w:=by
 have f:=h1.agg w;have e2:=h1.size w;simp[run,execOp,b,c,h2.eq,Instr.index,asIntOf,underlying,program,Sem.run,hu.eq,d,e2,part,f,e]
def aeF{T':TypeId}[h1:mc P T' s]{vs:List Value}(h:H r w L)(a:aL ρ x= .pointer (some ⟨b,q,none⟩)) [hb:Has L b l T i](c:aL ρ y= .agg ⟨vs⟩)(d:W vs=s)(e:vs.all plain=true)(g:q+s<=W l): ∃w',run P ρ (.store T' x y) ty w= .ok .skip w'/\H r w' (L.set i (some b,C (dm l q vs) T)):=by
 obtain⟨w',s1,s2,_,_⟩:=D5 (P:=P) vs w L l q 0 h hb.at_ (λv f=>vW.1 e v f) I;refine⟨w',?_,by simpa using s2⟩;have hs:=h1.size w;simp[run,execOp,a,c,Instr.storeAt,Instr.sureAddr,storeVar,Value.cells,hs,d,s1]
def rW{T':TypeId}[h1:mc P T' s]{vs:List Value}(h:H r w L)(a:aL ρ x= .pointer (some ⟨b,q,none⟩)) [hb:Has L b l T i](c:aL ρ y= .agg ⟨vs⟩)(e:W vs=s)(f:vs.all plain=true)(g:q+s<=W l)(hd:bH n d=true)(j: ∀w',H r w' (L.set i (some b,C (dm l q vs) T))->O P n all rest K (fU ρ d undef) w'):O P n all ({dst:=d,op:= .store T' x y,type:=ty,pos:=pos,after:=aV,guard:=none}::rest) K ρ w:=by
 obtain⟨w',h1,h2⟩:=aeF (P:=P) (T':=T') (ty:=ty) h a c e f g;exact adW h1 hd (j w' h2)
def MF{T':TypeId}[h1:mc P T' s]{vs:List Value}(hi:all[m]? =some {dst:=d,op:= .store T' x y,type:=ty,pos:=pos,after:=aV,guard:=none})(h:H r w L)(a:aL ρ x= .pointer (some ⟨b,q,none⟩)) [hb:Has L b l T i](c:aL ρ y= .agg ⟨vs⟩)(e:W vs=s)(f:vs.all plain=true)(g:q+s<=W l)(hd:bH n d=true)(j: ∀w',H r w' (L.set i (some b,C (dm l q vs) T))->D P n all ord K (fU ρ d undef) w'):D P n all (.cons (m,.h) ord) K ρ w:=by
 obtain⟨w',h1,h2⟩:=aeF (P:=P) (T':=T') (ty:=ty) h a c e f g;exact Xr hi h1 hd (j w' h2)
def uK[hu:cu P T (.slice T')] [hs:Sz P T' s] [p:Zr P T' zs] [hb:By P T' fh]{u e:Int}{k k':IntKind}{a c:Nat}(h:H r w L)(f:aL ρ x= .int k u)(g:aL ρ y= .int k' e) [h1:av u a] [h2:av e c](i:W zs=s)(j:a<=c)(l:fh*c<=281474976710656)(m:c<=281474976710656)(hd:bH n d=true)(o: ∀b w',H r w' ((some b,C (dD zs c) T')::L)->O P n all rest K (fU ρ d (.slice (some ⟨b,0,none⟩) a c)) w'):O P n all ({dst:=d,op:= .makeSlice T x y,type:=ty,pos:=pos,after:=aV,guard:=none}::rest) K ρ w:=
 gQ (run_makeSlice f g i j l m) hd (o _ _ (h.alloc _))
def aeG[hu:cu P T (.slice T')] [hs:Sz P T' s] [t:Zr P T' zs] [hb:By P T' fh]{u e:Int}{k k':IntKind}{a c:Nat}(hi:all[m]? =some {dst:=d,op:= .makeSlice T x y,type:=ty,pos:=pos,after:=aV,guard:=none})(h:H r w L)(f:aL ρ x= .int k u)(i:aL ρ y= .int k' e) [h1:av u a] [h2:av e c](j:W zs=s)(l:a<=c)(o:fh*c<=281474976710656)(p:c<=281474976710656)(hd:bH n d=true)(q: ∀b w',H r w' ((some b,C (dD zs c) T')::L)->D P n all ord K (fU ρ d (.slice (some ⟨b,0,none⟩) a c)) w'):D P n all (.cons (m,.g) ord) K ρ w:=
 Xq hi (run_makeSlice f i j l o p) (ft.alloc _ _) hd (q _ _ (h.alloc _))
end
section
variable {P:Program}{n:Nat}{ρ:Env}{w:World}{K:ia}{r:fT}{L:List aK}{b q i:Nat}{l:List Value}{T:TypeId}
def B7{ty:TypeId}{m:Nat}{u:Nat->Value}{o:Obj}{a:List (Nat×Operand)}{vs:List (Nat×Value)}(hb: ∀w,(Instr.buildSlice T m vs.toArray).run P w= .ok (u w.heap.size) (w.alloc o))(he:a.map (λp=>(p.1,aL ρ p.2))=vs):run P ρ (.buildSlice T m a.toArray) ty w= .ok (.value (u w.heap.size)) (w.alloc o):=by
 subst he;simp[run,execOp,hb w]
def Jq(P:Program)(T:TypeId)(v:Value)(w:World)(vs:List Value):Prop:=
 (do loadVar T (<-asAddr v):Sem Value).run P w= .ok (.agg vs.toArray) w
def rX{T:TT}{T':TypeId}{s:Nat}[h1:mc P T' s](vs:List Value)(h:H r w L){v:Value}(a:v= .pointer (some ⟨b,q,none⟩)) [hb:Has L b l T i](c:Rd l q vs)(d:W vs=s):Jq P T' v w vs:=by
 have e:=h1.agg w;have hs:=h1.size w;have:=D4 (P:=P) h hb.at_ c d;subst a;simp[Jq,asAddr,loadVar,e,hs,this]
def QV:List Value->Value
 | [v]=>v
 |vs=> .tuple vs.toArray
def aqB(P:Program)(a:Nat)(T:TypeId)(ts:List Nat)(R:Ending->World->Prop):ia:=fun
 | .normal,ρ,w=> ∃vs,Jq P T (ρ a) w vs/\R (.returned (QV (.agg vs.toArray::ts.map ρ))) w
 | .ret,ρ,w=> ∃vs,Jq P T (ρ a) w vs/\R (.returned (QV (.agg vs.toArray::ts.map ρ))) w
 |_,_,_=>False
def aeH(fn:Func)(a:Nat)(T:TypeId)(ts:List Nat)(h:fn.results=(ResultVar.cell a T::ts.map ResultVar.tmp).toArray)(tmps:Array Value){vs:List Value}(b:Jq P T (tmps.getD a undef) w vs):(results fn tmps).run P w= .ok (QV (.agg vs.toArray::ts.map (λt=>tmps.getD t undef))) w:=by
 simp only[results,h,List.mapM_toArray,List.mapM_cons];rw[aei _ (λt=>tmps.getD t undef) (λ_=>rfl)];simp only[Jq]at b;simp at b ⊢
 cases c:(asAddr (tmps[a]?.getD undef)).run P w with
 | ok u d=>
   simp only[c]at b ⊢
   simp only[Result.andThen]at b ⊢
   rw[b]
   cases ts with
   |nil=>rfl
   |cons y l=>simp[QV]
 |_=>simp[c,Result.andThen]at b
def D9{f:FuncId}{fn:Func}(k:P.funcs[f]? =some fn)(n:Nat)(l:fn.ntmps=n)(a:Nat)(T:TypeId)(ts:List Nat)(i:fn.results=(ResultVar.cell a T::ts.map ResultVar.tmp).toArray){c:Code}(hb:fn.body=some c){args:List Value}(m:Nat.ble (W args) n=true){R:Ending->World->Prop}(h:Z_ P n c (aqB P a T ts R) (DZ args) w):Calls P f args.toArray w R:=by
 subst l;unfold Z_ at h;have o:W args<=fn.ntmps:=(by simpa using m);refine calls_of_wp k hb (wp_mono (h _ ?_ J ?_) ?_)
 simp;omega
 funext t;simp only[mF,DZ,tD,Array.getElem?_append,WK,List.getElem?_toArray];by_cases j:t<W args
 simp[j]
 simp only[j,if_false];have:args[t]? =none:=gB I;simp only[bX,this,Option.getD_none,Array.getElem?_replicate];split<;>rfl
 rintro e a' w' ⟨p,q2,b⟩
 cases e with
 |normal=>obtain⟨vs,d,g⟩:=b;exact⟨q2,_,aeH fn a T ts i a'.tmps d,g⟩
 |ret=>obtain⟨vs,d,g⟩:=b;exact⟨q2,_,aeH fn a T ts i a'.tmps d,g⟩
 |_=>exact b.elim
end
noncomputable abbrev PP:Program:=Tryz.prog
instance :cu PP 2 (.int .i64):=⟨underlying2⟩
instance :One PP 2:=⟨isAgg2,sizeOf2⟩
instance :Sz PP 3 1:=⟨sizeOf3⟩
instance :cu PP 3 (.int .i64):=⟨underlying3⟩
instance :One PP 3:=⟨isAgg3,sizeOf3⟩
instance :Sz PP 4 1:=⟨sizeOf4⟩
instance :One PP 4:=⟨isAgg4,sizeOf4⟩
instance :Sz PP 5 1:=⟨sizeOf5⟩
instance :cu PP 5 (.int .u8):=⟨underlying5⟩
instance :One PP 5:=⟨isAgg5,sizeOf5⟩
instance :cu PP 9 .string:=⟨underlying9⟩
instance :Sz PP 22 1:=⟨sizeOf22⟩
instance :cu PP 22 (.slice 5):=⟨underlying22⟩
instance :One PP 22:=⟨isAgg22,sizeOf22⟩
instance :Sz PP 23 1:=⟨sizeOf23⟩
instance :cu PP 23 (.slice 3):=⟨underlying23⟩
instance :One PP 23:=⟨isAgg23,sizeOf23⟩
instance :One PP 36:=⟨isAgg36,sizeOf36⟩
instance :Sz PP 41 1:=⟨sizeOf41⟩
instance :cu PP 41 (.int .u64):=⟨underlying41⟩
instance :One PP 41:=⟨isAgg41,sizeOf41⟩
instance :cu PP 42 (.int .u64):=⟨underlying42⟩
instance :cu PP 44 (.array 3 3):=⟨underlying44⟩
instance :cu PP 45 (.map 3 3):=⟨underlying45⟩
instance :One PP 45:=⟨isAgg45,sizeOf45⟩
instance :Sz PP 46 1:=⟨sizeOf46⟩
instance :cu PP 46 (.pointer 124):=⟨underlying46⟩
instance :One PP 46:=⟨isAgg46,sizeOf46⟩
instance :cu PP 47 (.array 3 46):=⟨underlying47⟩
instance :Sz PP 51 1:=⟨sizeOf51⟩
instance :cu PP 51 (.int .u32):=⟨underlying51⟩
instance :One PP 51:=⟨isAgg51,sizeOf51⟩
instance :One PP 56:=⟨isAgg56,sizeOf56⟩
instance :One PP 67:=⟨isAgg67,sizeOf67⟩
instance :cu PP 68 (.slice 174):=⟨underlying68⟩
instance :One PP 68:=⟨isAgg68,sizeOf68⟩
instance :Sz PP 71 1:=⟨sizeOf71⟩
instance :cu PP 71 (.slice 214):=⟨underlying71⟩
instance :One PP 71:=⟨isAgg71,sizeOf71⟩
instance :cu PP 72 (.array 3 71):=⟨underlying72⟩
instance :cu PP 73 (.array 3 5):=⟨underlying73⟩
instance :cu PP 74 (.array 16 5):=⟨underlying74⟩
instance :cu PP 75 (.slice 227):=⟨underlying75⟩
instance :One PP 75:=⟨isAgg75,sizeOf75⟩
instance :cu PP 76 (.array 4 41):=⟨underlying76⟩
instance :cu PP 77 (.array 32 5):=⟨underlying77⟩
instance :cu PP 85 (.slice 90):=⟨underlying85⟩
instance :Sz PP 90 3:=⟨sizeOf90⟩
instance :cu PP 99 (.pointer 146):=⟨underlying99⟩
instance :One PP 99:=⟨isAgg99,sizeOf99⟩
instance :One PP 103:=⟨isAgg103,sizeOf103⟩
instance :cu PP 110 (.array 256 3):=⟨underlying110⟩
instance :cu PP 112 (.array 3 23):=⟨underlying112⟩
instance :cu PP 118 (.slice 4):=⟨underlying118⟩
instance :One PP 118:=⟨isAgg118,sizeOf118⟩
instance :cu PP 122 (.slice 126):=⟨underlying122⟩
instance :One PP 122:=⟨isAgg122,sizeOf122⟩
instance :Sz PP 126 3:=⟨sizeOf126⟩
instance :cu PP 135 (.array 4 22):=⟨underlying135⟩
instance :cu PP 170 (.array 2 3):=⟨underlying170⟩
instance :Sz PP 174 1:=⟨sizeOf174⟩
instance :cu PP 174 (.int .u16):=⟨underlying174⟩
instance :One PP 174:=⟨isAgg174,sizeOf174⟩
instance :cu PP 193 (.slice 5):=⟨underlying193⟩
instance :One PP 193:=⟨isAgg193,sizeOf193⟩
instance :Sz PP 214 4:=⟨sizeOf214⟩
instance :One PP 220:=⟨isAgg220,sizeOf220⟩
instance :Sz PP 222 5:=⟨sizeOf222⟩
instance :cu PP 223 (.array 3 222):=⟨underlying223⟩
instance :Sz PP 227 3:=⟨sizeOf227⟩
instance :cu PP 233 (.array 256 5):=⟨underlying233⟩
instance :cu PP 235 (.array 13 51):=⟨underlying235⟩
instance :Sz PP 245 1:=⟨sizeOf245⟩
instance :cu PP 245 (.int .i16):=⟨underlying245⟩
instance :One PP 245:=⟨isAgg245,sizeOf245⟩
instance :cu PP 246 (.array 256 245):=⟨underlying246⟩
instance :cu PP 248 (.slice 245):=⟨underlying248⟩
instance :cu PP 249 (.slice 51):=⟨underlying249⟩
instance :One PP 249:=⟨isAgg249,sizeOf249⟩
instance :cu PP 251 (.array 256 174):=⟨underlying251⟩
instance :cU PP 30 0 0:=⟨λ_ _=>by kernel_rfl⟩
instance :cU PP 30 1 1:=⟨λ_ _=>by kernel_rfl⟩
instance :cU PP 30 2 2:=⟨λ_ _=>by kernel_rfl⟩
instance :cU PP 38 0 0:=⟨λ_ _=>by kernel_rfl⟩
instance :cU PP 38 1 1:=⟨λ_ _=>by kernel_rfl⟩
instance :cU PP 49 0 0:=⟨λ_ _=>by kernel_rfl⟩
instance :cU PP 49 1 1:=⟨λ_ _=>by kernel_rfl⟩
instance :cU PP 49 2 2:=⟨λ_ _=>by kernel_rfl⟩
instance :cU PP 49 3 3:=⟨λ_ _=>by kernel_rfl⟩
instance :cU PP 49 4 4:=⟨λ_ _=>by kernel_rfl⟩
instance :cU PP 49 5 5:=⟨λ_ _=>by kernel_rfl⟩
instance :cU PP 49 6 8:=⟨λ_ _=>by kernel_rfl⟩
instance :cU PP 49 7 11:=⟨λ_ _=>by kernel_rfl⟩
instance :cU PP 49 8 12:=⟨λ_ _=>by kernel_rfl⟩
instance :cU PP 64 1 1:=⟨λ_ _=>by kernel_rfl⟩
instance :cU PP 64 2 2:=⟨λ_ _=>by kernel_rfl⟩
instance :cU PP 70 0 0:=⟨λ_ _=>by kernel_rfl⟩
instance :cU PP 70 1 1:=⟨λ_ _=>by kernel_rfl⟩
instance :cU PP 70 2 2:=⟨λ_ _=>by kernel_rfl⟩
instance :cU PP 79 0 0:=⟨λ_ _=>by kernel_rfl⟩
instance :cU PP 79 1 1:=⟨λ_ _=>by kernel_rfl⟩
instance :cU PP 79 2 5:=⟨λ_ _=>by kernel_rfl⟩
instance :cU PP 79 3 37:=⟨λ_ _=>by kernel_rfl⟩
instance :cU PP 81 0 0:=⟨λ_ _=>by kernel_rfl⟩
instance :cU PP 81 1 1:=⟨λ_ _=>by kernel_rfl⟩
instance :cU PP 81 2 2:=⟨λ_ _=>by kernel_rfl⟩
instance :cU PP 81 3 3:=⟨λ_ _=>by kernel_rfl⟩
instance :cU PP 81 4 4:=⟨λ_ _=>by kernel_rfl⟩
instance :cU PP 81 5 5:=⟨λ_ _=>by kernel_rfl⟩
instance :cU PP 81 6 6:=⟨λ_ _=>by kernel_rfl⟩
instance :cU PP 81 7 7:=⟨λ_ _=>by kernel_rfl⟩
instance :cU PP 81 8 8:=⟨λ_ _=>by kernel_rfl⟩
instance :cU PP 81 9 9:=⟨λ_ _=>by kernel_rfl⟩
instance :cU PP 81 10 10:=⟨λ_ _=>by kernel_rfl⟩
instance :cU PP 81 11 11:=⟨λ_ _=>by kernel_rfl⟩
instance :cU PP 81 12 12:=⟨λ_ _=>by kernel_rfl⟩
instance :cU PP 81 13 13:=⟨λ_ _=>by kernel_rfl⟩
instance :cU PP 81 14 14:=⟨λ_ _=>by kernel_rfl⟩
instance :cU PP 81 15 17:=⟨λ_ _=>by kernel_rfl⟩
instance :cU PP 81 16 18:=⟨λ_ _=>by kernel_rfl⟩
instance :cU PP 81 17 19:=⟨λ_ _=>by kernel_rfl⟩
instance :cU PP 81 18 22:=⟨λ_ _=>by kernel_rfl⟩
instance :cU PP 81 19 25:=⟨λ_ _=>by kernel_rfl⟩
instance :cU PP 81 20 28:=⟨λ_ _=>by kernel_rfl⟩
instance :cU PP 81 21 44:=⟨λ_ _=>by kernel_rfl⟩
instance :cU PP 81 22 45:=⟨λ_ _=>by kernel_rfl⟩
instance :cU PP 84 0 0:=⟨λ_ _=>by kernel_rfl⟩
instance :cU PP 84 1 1:=⟨λ_ _=>by kernel_rfl⟩
instance :cU PP 84 2 2:=⟨λ_ _=>by kernel_rfl⟩
instance :cU PP 90 0 0:=⟨λ_ _=>by kernel_rfl⟩
instance :cU PP 90 1 1:=⟨λ_ _=>by kernel_rfl⟩
instance :cU PP 90 2 2:=⟨λ_ _=>by kernel_rfl⟩
instance :cU PP 95 0 0:=⟨λ_ _=>by kernel_rfl⟩
instance :cU PP 95 1 1:=⟨λ_ _=>by kernel_rfl⟩
instance :cU PP 95 2 2:=⟨λ_ _=>by kernel_rfl⟩
instance :cU PP 95 3 3:=⟨λ_ _=>by kernel_rfl⟩
instance :cU PP 101 0 0:=⟨λ_ _=>by kernel_rfl⟩
instance :cU PP 101 1 1:=⟨λ_ _=>by kernel_rfl⟩
instance :cU PP 101 2 2:=⟨λ_ _=>by kernel_rfl⟩
instance :cU PP 101 3 3:=⟨λ_ _=>by kernel_rfl⟩
instance :cU PP 101 4 4:=⟨λ_ _=>by kernel_rfl⟩
instance :cU PP 101 5 7:=⟨λ_ _=>by kernel_rfl⟩
instance :cU PP 120 0 0:=⟨λ_ _=>by kernel_rfl⟩
instance :cU PP 124 0 0:=⟨λ_ _=>by kernel_rfl⟩
instance :cU PP 124 1 1:=⟨λ_ _=>by kernel_rfl⟩
instance :cU PP 126 0 0:=⟨λ_ _=>by kernel_rfl⟩
instance :cU PP 126 1 1:=⟨λ_ _=>by kernel_rfl⟩
instance :cU PP 126 2 2:=⟨λ_ _=>by kernel_rfl⟩
instance :cU PP 146 0 0:=⟨λ_ _=>by kernel_rfl⟩
instance :cU PP 146 1 1:=⟨λ_ _=>by kernel_rfl⟩
instance :cU PP 146 2 2:=⟨λ_ _=>by kernel_rfl⟩
instance :cU PP 155 0 0:=⟨λ_ _=>by kernel_rfl⟩
instance :cU PP 155 1 1:=⟨λ_ _=>by kernel_rfl⟩
instance :cU PP 159 0 0:=⟨λ_ _=>by kernel_rfl⟩
instance :cU PP 167 0 0:=⟨λ_ _=>by kernel_rfl⟩
instance :cU PP 167 1 1:=⟨λ_ _=>by kernel_rfl⟩
instance :cU PP 167 2 2:=⟨λ_ _=>by kernel_rfl⟩
instance :cU PP 207 0 0:=⟨λ_ _=>by kernel_rfl⟩
instance :cU PP 207 1 1:=⟨λ_ _=>by kernel_rfl⟩
instance :cU PP 207 2 2:=⟨λ_ _=>by kernel_rfl⟩
instance :cU PP 207 3 3:=⟨λ_ _=>by kernel_rfl⟩
instance :cU PP 207 4 4:=⟨λ_ _=>by kernel_rfl⟩
instance :cU PP 207 5 5:=⟨λ_ _=>by kernel_rfl⟩
instance :cU PP 214 0 0:=⟨λ_ _=>by kernel_rfl⟩
instance :cU PP 214 1 1:=⟨λ_ _=>by kernel_rfl⟩
instance :cU PP 214 2 2:=⟨λ_ _=>by kernel_rfl⟩
instance :cU PP 214 3 3:=⟨λ_ _=>by kernel_rfl⟩
instance :cU PP 222 0 0:=⟨λ_ _=>by kernel_rfl⟩
instance :cU PP 222 1 1:=⟨λ_ _=>by kernel_rfl⟩
instance :cU PP 222 2 2:=⟨λ_ _=>by kernel_rfl⟩
instance :cU PP 222 3 3:=⟨λ_ _=>by kernel_rfl⟩
instance :cU PP 222 4 4:=⟨λ_ _=>by kernel_rfl⟩
instance :cU PP 227 0 0:=⟨λ_ _=>by kernel_rfl⟩
instance :cU PP 227 1 1:=⟨λ_ _=>by kernel_rfl⟩
instance :cU PP 227 2 2:=⟨λ_ _=>by kernel_rfl⟩
instance :cU PP 242 0 0:=⟨λ_ _=>by kernel_rfl⟩
instance :cU PP 242 1 1:=⟨λ_ _=>by kernel_rfl⟩
instance :cU PP 242 2 2:=⟨λ_ _=>by kernel_rfl⟩
instance :cU PP 242 3 3:=⟨λ_ _=>by kernel_rfl⟩
instance :cU PP 242 4 4:=⟨λ_ _=>by kernel_rfl⟩
instance :Body PP 5:=⟨call5⟩
instance :Body PP 6:=⟨call6⟩
instance :Body PP 9:=⟨call9⟩
instance :Body PP 10:=⟨call10⟩
instance :Body PP 11:=⟨call11⟩
instance :Body PP 12:=⟨call12⟩
instance :Body PP 13:=⟨call13⟩
instance :Body PP 14:=⟨call14⟩
instance :Body PP 15:=⟨call15⟩
instance :Body PP 16:=⟨call16⟩
instance :Body PP 17:=⟨call17⟩
instance :Body PP 18:=⟨call18⟩
instance :Body PP 19:=⟨call19⟩
instance :Body PP 20:=⟨call20⟩
instance :Body PP 21:=⟨call21⟩
instance :Body PP 22:=⟨call22⟩
instance :Body PP 23:=⟨call23⟩
instance :Body PP 24:=⟨call24⟩
instance :Body PP 25:=⟨call25⟩
instance :Body PP 26:=⟨call26⟩
instance :Body PP 27:=⟨call27⟩
instance :Body PP 28:=⟨call28⟩
instance :Body PP 29:=⟨call29⟩
instance :Body PP 30:=⟨call30⟩
instance :Body PP 31:=⟨call31⟩
instance :Body PP 32:=⟨call32⟩
instance :Body PP 33:=⟨call33⟩
instance :Body PP 34:=⟨call34⟩
instance :Body PP 36:=⟨call36⟩
instance :Body PP 37:=⟨call37⟩
instance :Body PP 38:=⟨call38⟩
instance :Body PP 39:=⟨call39⟩
instance :Body PP 40:=⟨call40⟩
instance :Body PP 41:=⟨call41⟩
instance :Body PP 42:=⟨call42⟩
instance :Body PP 43:=⟨call43⟩
instance :Body PP 44:=⟨call44⟩
instance :Body PP 45:=⟨call45⟩
instance :Body PP 46:=⟨call46⟩
instance :Body PP 47:=⟨call47⟩
instance :Body PP 48:=⟨call48⟩
instance :Body PP 49:=⟨call49⟩
instance :Body PP 50:=⟨call50⟩
instance :Body PP 51:=⟨call51⟩
instance :Body PP 52:=⟨call52⟩
instance :Body PP 53:=⟨call53⟩
instance :Body PP 54:=⟨call54⟩
instance :Body PP 55:=⟨call55⟩
instance :Body PP 56:=⟨call56⟩
instance :Body PP 57:=⟨call57⟩
instance :Body PP 58:=⟨call58⟩
instance :Body PP 59:=⟨call59⟩
instance :Body PP 60:=⟨call60⟩
instance :Body PP 61:=⟨call61⟩
instance :Body PP 62:=⟨call62⟩
instance :Body PP 63:=⟨call63⟩
instance :Body PP 64:=⟨call64⟩
instance :Body PP 65:=⟨call65⟩
instance :Body PP 66:=⟨call66⟩
instance :Body PP 67:=⟨call67⟩
instance :Body PP 68:=⟨call68⟩
instance :Body PP 69:=⟨call69⟩
instance :Body PP 70:=⟨call70⟩
instance :Body PP 71:=⟨call71⟩
instance :Body PP 72:=⟨call72⟩
instance :Body PP 73:=⟨call73⟩
instance :Body PP 74:=⟨call74⟩
instance :Body PP 75:=⟨call75⟩
instance :Body PP 76:=⟨call76⟩
instance :Body PP 77:=⟨call77⟩
instance :Body PP 78:=⟨call78⟩
instance :Body PP 79:=⟨call79⟩
instance :Body PP 80:=⟨call80⟩
instance :Body PP 81:=⟨call81⟩
instance :Body PP 82:=⟨call82⟩
instance :Body PP 83:=⟨call83⟩
instance :Body PP 84:=⟨call84⟩
instance :Body PP 85:=⟨call85⟩
instance :Body PP 86:=⟨call86⟩
instance :Body PP 87:=⟨call87⟩
instance :Body PP 88:=⟨call88⟩
instance :Body PP 89:=⟨call89⟩
instance :Body PP 90:=⟨call90⟩
instance :Body PP 91:=⟨call91⟩
instance :Body PP 92:=⟨call92⟩
instance :Body PP 93:=⟨call93⟩
instance :Body PP 94:=⟨call94⟩
instance :Body PP 95:=⟨call95⟩
instance :Body PP 97:=⟨call97⟩
instance :Body PP 98:=⟨call98⟩
instance :Body PP 99:=⟨call99⟩
instance :Body PP 100:=⟨call100⟩
instance :Body PP 101:=⟨call101⟩
instance :Body PP 102:=⟨call102⟩
instance :Body PP 103:=⟨call103⟩
instance :Body PP 104:=⟨call104⟩
instance :Body PP 105:=⟨call105⟩
instance :Body PP 106:=⟨call106⟩
instance :Body PP 107:=⟨call107⟩
instance :Body PP 108:=⟨call108⟩
instance :Body PP 109:=⟨call109⟩
instance :Body PP 110:=⟨call110⟩
instance :Body PP 111:=⟨call111⟩
instance :Body PP 112:=⟨call112⟩
instance :Body PP 113:=⟨call113⟩
instance :Body PP 114:=⟨call114⟩
instance :Body PP 115:=⟨call115⟩
instance :Body PP 116:=⟨call116⟩
instance :Body PP 117:=⟨call117⟩
instance :Body PP 118:=⟨call118⟩
instance :Body PP 119:=⟨call119⟩
instance :Body PP 120:=⟨call120⟩
instance :Body PP 121:=⟨call121⟩
instance :Body PP 122:=⟨call122⟩
instance :Body PP 123:=⟨call123⟩
instance :Body PP 124:=⟨call124⟩
instance :Body PP 125:=⟨call125⟩
instance :Body PP 126:=⟨call126⟩
instance :Body PP 127:=⟨call127⟩
instance :Body PP 128:=⟨call128⟩
instance :Body PP 129:=⟨call129⟩
instance :Body PP 130:=⟨call130⟩
instance :Body PP 131:=⟨call131⟩
instance :Body PP 132:=⟨call132⟩
instance :Body PP 133:=⟨call133⟩
instance :Body PP 134:=⟨call134⟩
instance :Body PP 135:=⟨call135⟩
instance :Body PP 152:=⟨call152⟩
instance :Body PP 153:=⟨call153⟩
instance :mc PP 30 3:=⟨isAgg30,sizeOf30⟩
instance :mc PP 44 3:=⟨isAgg44,sizeOf44⟩
instance :mc PP 49 13:=⟨isAgg49,sizeOf49⟩
instance :mc PP 64 3:=⟨isAgg64,sizeOf64⟩
instance :mc PP 76 4:=⟨isAgg76,sizeOf76⟩
instance :mc PP 90 3:=⟨isAgg90,sizeOf90⟩
instance :mc PP 95 4:=⟨isAgg95,sizeOf95⟩
instance :mc PP 101 10:=⟨isAgg101,sizeOf101⟩
instance :mc PP 112 3:=⟨isAgg112,sizeOf112⟩
instance :mc PP 124 2:=⟨isAgg124,sizeOf124⟩
instance :mc PP 126 3:=⟨isAgg126,sizeOf126⟩
instance :mc PP 135 4:=⟨isAgg135,sizeOf135⟩
instance :mc PP 155 2:=⟨isAgg155,sizeOf155⟩
instance :mc PP 170 2:=⟨isAgg170,sizeOf170⟩
instance :mc PP 207 6:=⟨isAgg207,sizeOf207⟩
instance :mc PP 214 4:=⟨isAgg214,sizeOf214⟩
instance :mc PP 223 15:=⟨isAgg223,sizeOf223⟩
instance :mc PP 227 3:=⟨isAgg227,sizeOf227⟩
instance :mc PP 242 5:=⟨isAgg242,sizeOf242⟩
instance :Zr PP 3 [.int .i64 ((0:Nat):Int)]:=⟨λw=>⟨_,zeroValue3 w,J⟩⟩
instance :Zr PP 4 [.bool false]:=⟨λw=>⟨_,zeroValue4 w,J⟩⟩
instance :Zr PP 5 [.int .u8 ((0:Nat):Int)]:=⟨λw=>⟨_,zeroValue5 w,J⟩⟩
instance :Zr PP 30 [.slice none 0 0,.int .i64 ((0:Nat):Int),.slice none 0 0]:=⟨λw=>⟨_,zeroValue30 w,J⟩⟩
instance :Zr PP 44 [.int .i64 ((0:Nat):Int),.int .i64 ((0:Nat):Int),.int .i64 ((0:Nat):Int)]:=⟨λw=>⟨_,zeroValue44 w,J⟩⟩
instance :Zr PP 49 [.pointer none,.slice none 0 0,.int .i64 ((0:Nat):Int),.int .i64 ((0:Nat):Int),.slice none 0 0,.pointer none,.pointer none,.pointer none,.int .i64 ((0:Nat):Int),.int .i64 ((0:Nat):Int),.int .i64 ((0:Nat):Int),.map none,.int .i64 ((0:Nat):Int)]:=⟨λw=>⟨_,zeroValue49 w,J⟩⟩
instance :Zr PP 51 [.int .u32 ((0:Nat):Int)]:=⟨λw=>⟨_,zeroValue51 w,J⟩⟩
instance :Zr PP 64 [.int .i64 ((0:Nat):Int),.slice none 0 0,.int .i64 ((0:Nat):Int)]:=⟨λw=>⟨_,zeroValue64 w,J⟩⟩
instance :Zr PP 68 [.slice none 0 0]:=⟨λw=>⟨_,zeroValue68 w,J⟩⟩
instance :Zr PP 76 [.int .u64 ((0:Nat):Int),.int .u64 ((0:Nat):Int),.int .u64 ((0:Nat):Int),.int .u64 ((0:Nat):Int)]:=⟨λw=>⟨_,zeroValue76 w,J⟩⟩
instance :Zr PP 81 [.nilIface,.bool false,.bool false,.bool false,.bool false,.int .u64 ((0:Nat):Int),.int .i64 ((0:Nat):Int),.slice none 0 0,.int .i64 ((0:Nat):Int),.int .u32 ((0:Nat):Int),.int .u32 ((0:Nat):Int),.int .u32 ((0:Nat):Int),.slice none 0 0,.int .i64 ((0:Nat):Int),.int .i64 ((0:Nat):Int),.slice none 0 0,.int .i64 ((0:Nat):Int),.slice none 0 0,.slice none 0 0,.slice none 0 0,.slice none 0 0,.slice none 0 0,.int .u8 ((0:Nat):Int),.int .u8 ((0:Nat):Int),.int .u8 ((0:Nat):Int),.slice none 0 0,.slice none 0 0,.slice none 0 0,.int .u8 ((0:Nat):Int),.int .u8 ((0:Nat):Int),.int .u8 ((0:Nat):Int),.int .u8 ((0:Nat):Int),.int .u8 ((0:Nat):Int),.int .u8 ((0:Nat):Int),.int .u8 ((0:Nat):Int),.int .u8 ((0:Nat):Int),.int .u8 ((0:Nat):Int),.int .u8 ((0:Nat):Int),.int .u8 ((0:Nat):Int),.int .u8 ((0:Nat):Int),.int .u8 ((0:Nat):Int),.int .u8 ((0:Nat):Int),.int .u8 ((0:Nat):Int),.int .u8 ((0:Nat):Int),.slice none 0 0,.int .u64 ((0:Nat):Int),.int .u64 ((0:Nat):Int),.int .u64 ((0:Nat):Int),.int .u64 ((0:Nat):Int),.int .u64 ((0:Nat):Int),.int .u8 ((0:Nat):Int),.int .u8 ((0:Nat):Int),.int .u8 ((0:Nat):Int),.int .u8 ((0:Nat):Int),.int .u8 ((0:Nat):Int),.int .u8 ((0:Nat):Int),.int .u8 ((0:Nat):Int),.int .u8 ((0:Nat):Int),.int .u8 ((0:Nat):Int),.int .u8 ((0:Nat):Int),.int .u8 ((0:Nat):Int),.int .u8 ((0:Nat):Int),.int .u8 ((0:Nat):Int),.int .u8 ((0:Nat):Int),.int .u8 ((0:Nat):Int),.int .u8 ((0:Nat):Int),.int .u8 ((0:Nat):Int),.int .u8 ((0:Nat):Int),.int .u8 ((0:Nat):Int),.int .u8 ((0:Nat):Int),.int .u8 ((0:Nat):Int),.int .u8 ((0:Nat):Int),.int .u8 ((0:Nat):Int),.int .u8 ((0:Nat):Int),.int .u8 ((0:Nat):Int),.int .u8 ((0:Nat):Int),.int .u8 ((0:Nat):Int),.int .u8 ((0:Nat):Int),.int .u8 ((0:Nat):Int),.int .u8 ((0:Nat):Int),.int .u8 ((0:Nat):Int),.int .u8 ((0:Nat):Int),.int .i64 ((0:Nat):Int)]:=⟨λw=>⟨.agg #[.nilIface,.bool false,.bool false,.bool false,.bool false,.int .u64 ((0:Nat):Int),.int .i64 ((0:Nat):Int),.slice none 0 0,.int .i64 ((0:Nat):Int),.int .u32 ((0:Nat):Int),.int .u32 ((0:Nat):Int),.int .u32 ((0:Nat):Int),.slice none 0 0,.int .i64 ((0:Nat):Int),.int .i64 ((0:Nat):Int),.slice none 0 0,.int .i64 ((0:Nat):Int),.slice none 0 0,.slice none 0 0,.slice none 0 0,.slice none 0 0,.slice none 0 0,.int .u8 ((0:Nat):Int),.int .u8 ((0:Nat):Int),.int .u8 ((0:Nat):Int),.slice none 0 0,.slice none 0 0,.slice none 0 0,.int .u8 ((0:Nat):Int),.int .u8 ((0:Nat):Int),.int .u8 ((0:Nat):Int),.int .u8 ((0:Nat):Int),.int .u8 ((0:Nat):Int),.int .u8 ((0:Nat):Int),.int .u8 ((0:Nat):Int),.int .u8 ((0:Nat):Int),.int .u8 ((0:Nat):Int),.int .u8 ((0:Nat):Int),.int .u8 ((0:Nat):Int),.int .u8 ((0:Nat):Int),.int .u8 ((0:Nat):Int),.int .u8 ((0:Nat):Int),.int .u8 ((0:Nat):Int),.int .u8 ((0:Nat):Int),.slice none 0 0,.int .u64 ((0:Nat):Int),.int .u64 ((0:Nat):Int),.int .u64 ((0:Nat):Int),.int .u64 ((0:Nat):Int),.int .u64 ((0:Nat):Int),.int .u8 ((0:Nat):Int),.int .u8 ((0:Nat):Int),.int .u8 ((0:Nat):Int),.int .u8 ((0:Nat):Int),.int .u8 ((0:Nat):Int),.int .u8 ((0:Nat):Int),.int .u8 ((0:Nat):Int),.int .u8 ((0:Nat):Int),.int .u8 ((0:Nat):Int),.int .u8 ((0:Nat):Int),.int .u8 ((0:Nat):Int),.int .u8 ((0:Nat):Int),.int .u8 ((0:Nat):Int),.int .u8 ((0:Nat):Int),.int .u8 ((0:Nat):Int),.int .u8 ((0:Nat):Int),.int .u8 ((0:Nat):Int),.int .u8 ((0:Nat):Int),.int .u8 ((0:Nat):Int),.int .u8 ((0:Nat):Int),.int .u8 ((0:Nat):Int),.int .u8 ((0:Nat):Int),.int .u8 ((0:Nat):Int),.int .u8 ((0:Nat):Int),.int .u8 ((0:Nat):Int),.int .u8 ((0:Nat):Int),.int .u8 ((0:Nat):Int),.int .u8 ((0:Nat):Int),.int .u8 ((0:Nat):Int),.int .u8 ((0:Nat):Int),.int .u8 ((0:Nat):Int),.int .u8 ((0:Nat):Int),.int .i64 ((0:Nat):Int)],by kernel_rfl,J⟩⟩
instance :Zr PP 90 [.int .i64 ((0:Nat):Int),.int .i64 ((0:Nat):Int),.int .i64 ((0:Nat):Int)]:=⟨λw=>⟨_,zeroValue90 w,J⟩⟩
instance :Zr PP 95 [.int .i64 ((0:Nat):Int),.int .i64 ((0:Nat):Int),.bool false,.bool false]:=⟨λw=>⟨_,zeroValue95 w,J⟩⟩
instance :Zr PP 101 [.slice none 0 0,.int .i64 ((0:Nat):Int),.int .i64 ((0:Nat):Int),.pointer none,.pointer none,.pointer none,.pointer none,.int .i64 ((0:Nat):Int),.int .i64 ((0:Nat):Int),.int .i64 ((0:Nat):Int)]:=⟨λw=>⟨_,zeroValue101 w,J⟩⟩
instance :Zr PP 110 (aT 256 (.int .i64 ((0:Nat):Int))):=⟨λw=>⟨.agg ⟨aT 256 (.int .i64 ((0:Nat):Int))⟩,by kernel_rfl,J⟩⟩
instance :Zr PP 112 [.slice none 0 0,.slice none 0 0,.slice none 0 0]:=⟨λw=>⟨_,zeroValue112 w,J⟩⟩
instance :Zr PP 124 [.slice none 0 0,.int .i64 ((0:Nat):Int)]:=⟨λw=>⟨_,zeroValue124 w,J⟩⟩
instance :Zr PP 126 [.int .i64 ((0:Nat):Int),.int .i64 ((0:Nat):Int),.int .i64 ((0:Nat):Int)]:=⟨λw=>⟨_,zeroValue126 w,J⟩⟩
instance :Zr PP 135 [.slice none 0 0,.slice none 0 0,.slice none 0 0,.slice none 0 0]:=⟨λw=>⟨_,zeroValue135 w,J⟩⟩
instance :Zr PP 155 [.slice none 0 0,.int .i64 ((0:Nat):Int)]:=⟨λw=>⟨_,zeroValue155 w,J⟩⟩
instance :Zr PP 170 [.int .i64 ((0:Nat):Int),.int .i64 ((0:Nat):Int)]:=⟨λw=>⟨_,zeroValue170 w,J⟩⟩
instance :Zr PP 174 [.int .u16 ((0:Nat):Int)]:=⟨λw=>⟨_,zeroValue174 w,J⟩⟩
instance :Zr PP 207 [.pointer none,.slice none 0 0,.int .u32 ((0:Nat):Int),.int .u32 ((0:Nat):Int),.int .u32 ((0:Nat):Int),.int .u32 ((0:Nat):Int)]:=⟨λw=>⟨_,zeroValue207 w,J⟩⟩
instance :Zr PP 214 [.int .u32 ((0:Nat):Int),.int .u8 ((0:Nat):Int),.int .u8 ((0:Nat):Int),.int .u16 ((0:Nat):Int)]:=⟨λw=>⟨_,zeroValue214 w,J⟩⟩
instance :Zr PP 223 [.slice none 0 0,.int .i64 ((0:Nat):Int),.int .i64 ((0:Nat):Int),.int .i64 ((0:Nat):Int),.nilFunc,.slice none 0 0,.int .i64 ((0:Nat):Int),.int .i64 ((0:Nat):Int),.int .i64 ((0:Nat):Int),.nilFunc,.slice none 0 0,.int .i64 ((0:Nat):Int),.int .i64 ((0:Nat):Int),.int .i64 ((0:Nat):Int),.nilFunc]:=⟨λw=>⟨_,zeroValue223 w,J⟩⟩
instance :Zr PP 227 [.int .u8 ((0:Nat):Int),.int .u8 ((0:Nat):Int),.int .u16 ((0:Nat):Int)]:=⟨λw=>⟨_,zeroValue227 w,J⟩⟩
instance :Zr PP 233 (aT 256 (.int .u8 ((0:Nat):Int))):=⟨λw=>⟨.agg ⟨aT 256 (.int .u8 ((0:Nat):Int))⟩,by kernel_rfl,J⟩⟩
instance :Zr PP 235 [.int .u32 ((0:Nat):Int),.int .u32 ((0:Nat):Int),.int .u32 ((0:Nat):Int),.int .u32 ((0:Nat):Int),.int .u32 ((0:Nat):Int),.int .u32 ((0:Nat):Int),.int .u32 ((0:Nat):Int),.int .u32 ((0:Nat):Int),.int .u32 ((0:Nat):Int),.int .u32 ((0:Nat):Int),.int .u32 ((0:Nat):Int),.int .u32 ((0:Nat):Int),.int .u32 ((0:Nat):Int)]:=⟨λw=>⟨_,zeroValue235 w,J⟩⟩
instance :Zr PP 242 [.pointer none,.slice none 0 0,.int .u32 ((0:Nat):Int),.int .u32 ((0:Nat):Int),.int .u32 ((0:Nat):Int)]:=⟨λw=>⟨_,zeroValue242 w,J⟩⟩
instance :Zr PP 246 (aT 256 (.int .i16 ((0:Nat):Int))):=⟨λw=>⟨.agg ⟨aT 256 (.int .i16 ((0:Nat):Int))⟩,by kernel_rfl,J⟩⟩
instance :Zr PP 251 (aT 256 (.int .u16 ((0:Nat):Int))):=⟨λw=>⟨.agg ⟨aT 256 (.int .u16 ((0:Nat):Int))⟩,by kernel_rfl,J⟩⟩
instance :By PP 3 8:=⟨λw=>⟨_,typeInfo3 w,J⟩⟩
instance :By PP 4 1:=⟨λw=>⟨_,typeInfo4 w,J⟩⟩
instance :By PP 5 1:=⟨λw=>⟨_,typeInfo5 w,J⟩⟩
instance :By PP 90 24:=⟨λw=>⟨_,typeInfo90 w,J⟩⟩
instance :By PP 126 24:=⟨λw=>⟨_,typeInfo126 w,J⟩⟩
instance :By PP 174 2:=⟨λw=>⟨_,typeInfo174 w,J⟩⟩
instance :By PP 214 8:=⟨λw=>⟨_,typeInfo214 w,J⟩⟩
instance :By PP 227 4:=⟨λw=>⟨_,typeInfo227 w,J⟩⟩
def aqC(x1:Int)(w:World):(Instr.build 30 #[(1,(.int .i64 x1))]).run PP w= .ok (.agg #[.slice none 0 0,.int .i64 x1,.slice none 0 0]) w:=by kernel_rfl
def aqD(a:Option Addr)(b:Nat)(c:Nat)(w:World):(Instr.build 38 #[(0,(.slice a b c))]).run PP w= .ok (.agg #[.slice a b c,.int .i64 ((0:Nat):Int)]) w:=by kernel_rfl
def MG(x0:Int)(x1:Int)(x2:Int)(w:World):(Instr.build 44 #[(0,(.int .i64 x0)),(1,(.int .i64 x1)),(2,(.int .i64 x2))]).run PP w= .ok (.agg #[.int .i64 x0,.int .i64 x1,.int .i64 x2]) w:=by kernel_rfl
def aqE(x0:Option Addr)(d:Option Addr)(e:Nat)(f:Nat)(x3:Int)(a:Int)(b:Int)(c:Int)(g:Option Nat)(w:World):(Instr.build 49 #[(0,(.pointer x0)),(1,(.slice d e f)),(3,(.int .i64 x3)),(6,(.agg #[.int .i64 a,.int .i64 b,.int .i64 c])),(7,(.map g))]).run PP w= .ok (.agg #[.pointer x0,.slice d e f,.int .i64 ((0:Nat):Int),.int .i64 x3,.slice none 0 0,.pointer none,.pointer none,.pointer none,.int .i64 a,.int .i64 b,.int .i64 c,.map g,.int .i64 ((0:Nat):Int)]) w:=by kernel_rfl
def aqF(x0:Int)(a:Option Addr)(b:Nat)(c:Nat)(x2:Int)(w:World):(Instr.build 64 #[(0,(.int .i64 x0)),(1,(.slice a b c)),(2,(.int .i64 x2))]).run PP w= .ok (.agg #[.int .i64 x0,.slice a b c,.int .i64 x2]) w:=by kernel_rfl
def aqG(x0:Int)(x1:Int)(x2:Int)(x3:Int)(w:World):(Instr.build 76 #[(0,(.int .u64 x0)),(1,(.int .u64 x1)),(2,(.int .u64 x2)),(3,(.int .u64 x3))]).run PP w= .ok (.agg #[.int .u64 x0,.int .u64 x1,.int .u64 x2,.int .u64 x3]) w:=by kernel_rfl
def aqH(a:Option Addr)(b:Nat)(c:Nat)(x1:Int)(x2:Int)(w:World):(Instr.build 84 #[(0,(.slice a b c)),(1,(.int .i64 x1)),(2,(.int .i64 x2))]).run PP w= .ok (.agg #[.slice a b c,.int .i64 x1,.int .i64 x2]) w:=by kernel_rfl
def aqI(x0:Int)(x1:Int)(x2:Int)(w:World):(Instr.build 90 #[(0,(.int .i64 x0)),(1,(.int .i64 x1)),(2,(.int .i64 x2))]).run PP w= .ok (.agg #[.int .i64 x0,.int .i64 x1,.int .i64 x2]) w:=by kernel_rfl
def aqJ(x3:Bool)(x2:Bool)(w:World):(Instr.build 95 #[(3,(.bool x3)),(2,(.bool x2))]).run PP w= .ok (.agg #[.int .i64 ((0:Nat):Int),.int .i64 ((0:Nat):Int),.bool x2,.bool x3]) w:=by kernel_rfl
def aqK(x1:Int)(x2:Int)(a:Int)(b:Int)(c:Int)(w:World):(Instr.build 101 #[(1,(.int .i64 x1)),(2,(.int .i64 x2)),(5,(.agg #[.int .i64 a,.int .i64 b,.int .i64 c]))]).run PP w= .ok (.agg #[.slice none 0 0,.int .i64 x1,.int .i64 x2,.pointer none,.pointer none,.pointer none,.pointer none,.int .i64 a,.int .i64 b,.int .i64 c]) w:=by kernel_rfl
def aqL(a:Int)(b:Int)(c:Int)(w:World):(Instr.build 101 #[(5,(.agg #[.int .i64 a,.int .i64 b,.int .i64 c]))]).run PP w= .ok (.agg #[.slice none 0 0,.int .i64 ((0:Nat):Int),.int .i64 ((0:Nat):Int),.pointer none,.pointer none,.pointer none,.pointer none,.int .i64 a,.int .i64 b,.int .i64 c]) w:=by kernel_rfl
def aqM(w:World):(Instr.build 112 #[]).run PP w= .ok (.agg #[.slice none 0 0,.slice none 0 0,.slice none 0 0]) w:=by kernel_rfl
def XE(w:World):(Instr.build 120 #[]).run PP w= .ok (.agg #[.slice none 0 0]) w:=by kernel_rfl
def aeL(a:Option Addr)(b:Nat)(c:Nat)(x1:Int)(w:World):(Instr.build 124 #[(0,(.slice a b c)),(1,(.int .i64 x1))]).run PP w= .ok (.agg #[.slice a b c,.int .i64 x1]) w:=by kernel_rfl
def aqN(x0:Int)(w:World):(Instr.build 126 #[(0,(.int .i64 x0))]).run PP w= .ok (.agg #[.int .i64 x0,.int .i64 ((0:Nat):Int),.int .i64 ((0:Nat):Int)]) w:=by kernel_rfl
def aqO(x0:Int)(x1:Int)(w:World):(Instr.build 126 #[(0,(.int .i64 x0)),(1,(.int .i64 x1))]).run PP w= .ok (.agg #[.int .i64 x0,.int .i64 x1,.int .i64 ((0:Nat):Int)]) w:=by kernel_rfl
def aqP(x2:Int)(w:World):(Instr.build 146 #[(2,(.int .i64 x2))]).run PP w= .ok (.agg #[.slice none 0 0,.slice none 0 0,.int .i64 x2]) w:=by kernel_rfl
def aqQ(a:Option Addr)(b:Nat)(c:Nat)(x1:Int)(w:World):(Instr.build 155 #[(0,(.slice a b c)),(1,(.int .i64 x1))]).run PP w= .ok (.agg #[.slice a b c,.int .i64 x1]) w:=by kernel_rfl
def aqR(w:World):(Instr.build 159 #[]).run PP w= .ok (.agg #[.slice none 0 0]) w:=by kernel_rfl
def aqS(a:Option Addr)(b:Nat)(c:Nat)(w:World):(Instr.build 167 #[(0,(.slice a b c))]).run PP w= .ok (.agg #[.slice a b c,.int .i64 ((0:Nat):Int),.bool false]) w:=by kernel_rfl
def aqT(x0:Int)(x1:Int)(w:World):(Instr.build 170 #[(0,(.int .i64 x0)),(1,(.int .i64 x1))]).run PP w= .ok (.agg #[.int .i64 x0,.int .i64 x1]) w:=by kernel_rfl
def aqU(x0:Int)(a:TypeId)(b:Value)(w:World):(Instr.build 184 #[(0,(.int .i64 x0)),(1,(.iface a b))]).run PP w= .ok (.agg #[.int .i64 x0,.iface a b]) w:=by kernel_rfl
def aqV(x0:ByteArray)(w:World):(Instr.build 201 #[(0,(.string x0))]).run PP w= .ok (.agg #[.string x0]) w:=by kernel_rfl
def aqW(w:World):(Instr.build 207 #[]).run PP w= .ok (.agg #[.pointer none,.slice none 0 0,.int .u32 ((0:Nat):Int),.int .u32 ((0:Nat):Int),.int .u32 ((0:Nat):Int),.int .u32 ((0:Nat):Int)]) w:=by kernel_rfl
def aqX(x0:Option Addr)(a:Option Addr)(b:Nat)(c:Nat)(x2:Int)(x3:Int)(x4:Int)(x5:Int)(w:World):(Instr.build 207 #[(0,(.pointer x0)),(1,(.slice a b c)),(2,(.int .u32 x2)),(3,(.int .u32 x3)),(4,(.int .u32 x4)),(5,(.int .u32 x5))]).run PP w= .ok (.agg #[.pointer x0,.slice a b c,.int .u32 x2,.int .u32 x3,.int .u32 x4,.int .u32 x5]) w:=by kernel_rfl
def aqY(x0:Int)(x1:Int)(x2:Int)(x3:Int)(w:World):(Instr.build 214 #[(0,(.int .u32 x0)),(1,(.int .u8 x1)),(2,(.int .u8 x2)),(3,(.int .u16 x3))]).run PP w= .ok (.agg #[.int .u32 x0,.int .u8 x1,.int .u8 x2,.int .u16 x3]) w:=by kernel_rfl
def XF(x2:Int)(x3:Int)(w:World):(Instr.build 214 #[(2,(.int .u8 x2)),(3,(.int .u16 x3))]).run PP w= .ok (.agg #[.int .u32 ((0:Nat):Int),.int .u8 ((0:Nat):Int),.int .u8 x2,.int .u16 x3]) w:=by kernel_rfl
def XG(d:Option Addr)(e:Nat)(f:Nat)(x1:Int)(x2:Int)(x3:Int)(a:Fn)(b:Array Value)(c:Array Value)(w:World):(Instr.build 222 #[(0,(.slice d e f)),(1,(.int .i64 x1)),(2,(.int .i64 x2)),(3,(.int .i64 x3)),(4,(.func a b c))]).run PP w= .ok (.agg #[.slice d e f,.int .i64 x1,.int .i64 x2,.int .i64 x3,.func a b c]) w:=by kernel_rfl
def aqZ(a:Option Addr)(b:Nat)(c:Nat)(A:Int)(B:Int)(d:Int)(e:Fn)(f:Array Value)(g:Array Value)(h:Option Addr)(i:Nat)(j:Nat)(k:Int)(l:Int)(m:Int)(n:Fn)(o:Array Value)(p:Array Value)(q:Option Addr)(r:Nat)(s:Nat)(t:Int)(u:Int)(v:Int)(x:Fn)(y:Array Value)(z:Array Value)(w:World):(Instr.build 223 #[(0,(.agg #[.slice a b c,.int .i64 A,.int .i64 B,.int .i64 d,.func e f g])),(1,(.agg #[.slice h i j,.int .i64 k,.int .i64 l,.int .i64 m,.func n o p])),(2,(.agg #[.slice q r s,.int .i64 t,.int .i64 u,.int .i64 v,.func x y z]))]).run PP w= .ok (.agg #[.slice a b c,.int .i64 A,.int .i64 B,.int .i64 d,.func e f g,.slice h i j,.int .i64 k,.int .i64 l,.int .i64 m,.func n o p,.slice q r s,.int .i64 t,.int .i64 u,.int .i64 v,.func x y z]) w:=by kernel_rfl
def aq0(x0:Int)(x1:Int)(x2:Int)(w:World):(Instr.build 227 #[(0,(.int .u8 x0)),(1,(.int .u8 x1)),(2,(.int .u16 x2))]).run PP w= .ok (.agg #[.int .u8 x0,.int .u8 x1,.int .u16 x2]) w:=by kernel_rfl
def aq1(x0:Option Addr)(a:Option Addr)(b:Nat)(c:Nat)(x2:Int)(w:World):(Instr.build 242 #[(0,(.pointer x0)),(1,(.slice a b c)),(2,(.int .u32 x2))]).run PP w= .ok (.agg #[.pointer x0,.slice a b c,.int .u32 x2,.int .u32 ((0:Nat):Int),.int .u32 ((0:Nat):Int)]) w:=by kernel_rfl
def ly(x0:Int)(w:World):(Instr.buildSlice 22 1 #[(0,(.int .u8 x0))]).run PP w= .ok (.slice (some ⟨w.heap.size,0,none⟩) 1 1) (w.alloc (C [.int .u8 x0] 5)):=by kernel_rfl
def aq2(x0:Int)(x1:Int)(w:World):(Instr.buildSlice 22 2 #[(0,(.int .u8 x0)),(1,(.int .u8 x1))]).run PP w= .ok (.slice (some ⟨w.heap.size,0,none⟩) 2 2) (w.alloc (C [.int .u8 x0,.int .u8 x1] 5)):=by kernel_rfl
def aq3(x0:Int)(x1:Int)(x2:Int)(x3:Int)(x4:Int)(x5:Int)(a:Int)(b:Int)(c:Int)(d:Int)(e:Int)(w:World):(Instr.buildSlice 22 11 #[(0,(.int .u8 x0)),(1,(.int .u8 x1)),(2,(.int .u8 x2)),(3,(.int .u8 x3)),(4,(.int .u8 x4)),(5,(.int .u8 x5)),(6,(.int .u8 a)),(7,(.int .u8 b)),(8,(.int .u8 c)),(9,(.int .u8 d)),(10,(.int .u8 e))]).run PP w= .ok (.slice (some ⟨w.heap.size,0,none⟩) 11 11) (w.alloc (C [.int .u8 x0,.int .u8 x1,.int .u8 x2,.int .u8 x3,.int .u8 x4,.int .u8 x5,.int .u8 a,.int .u8 b,.int .u8 c,.int .u8 d,.int .u8 e] 5)):=by kernel_rfl
def mH(x0:Int)(w:World):(Instr.buildSlice 23 1 #[(0,(.int .i64 x0))]).run PP w= .ok (.slice (some ⟨w.heap.size,0,none⟩) 1 1) (w.alloc (C [.int .i64 x0] 3)):=by kernel_rfl
def lX(x0:Int)(x1:Int)(x2:Int)(w:World):(Instr.buildSlice 23 3 #[(0,(.int .i64 x0)),(1,(.int .i64 x1)),(2,(.int .i64 x2))]).run PP w= .ok (.slice (some ⟨w.heap.size,0,none⟩) 3 3) (w.alloc (C [.int .i64 x0,.int .i64 x1,.int .i64 x2] 3)):=by kernel_rfl
def uL(x0:Int)(x1:Int)(x2:Int)(x3:Int)(w:World):(Instr.buildSlice 23 4 #[(0,(.int .i64 x0)),(1,(.int .i64 x1)),(2,(.int .i64 x2)),(3,(.int .i64 x3))]).run PP w= .ok (.slice (some ⟨w.heap.size,0,none⟩) 4 4) (w.alloc (C [.int .i64 x0,.int .i64 x1,.int .i64 x2,.int .i64 x3] 3)):=by kernel_rfl
def aq4(x0:Int)(x1:Int)(x2:Int)(x3:Int)(x4:Int)(x5:Int)(w:World):(Instr.buildSlice 23 6 #[(0,(.int .i64 x0)),(1,(.int .i64 x1)),(2,(.int .i64 x2)),(3,(.int .i64 x3)),(4,(.int .i64 x4)),(5,(.int .i64 x5))]).run PP w= .ok (.slice (some ⟨w.heap.size,0,none⟩) 6 6) (w.alloc (C [.int .i64 x0,.int .i64 x1,.int .i64 x2,.int .i64 x3,.int .i64 x4,.int .i64 x5] 3)):=by kernel_rfl
def aq5(x0:Int)(x1:Int)(x2:Int)(x3:Int)(x4:Int)(x5:Int)(a:Int)(b:Int)(c:Int)(d:Int)(e:Int)(f:Int)(g:Int)(h:Int)(i:Int)(j:Int)(k:Int)(l:Int)(m:Int)(n:Int)(w:World):(Instr.buildSlice 23 20 #[(0,(.int .i64 x0)),(1,(.int .i64 x1)),(2,(.int .i64 x2)),(3,(.int .i64 x3)),(4,(.int .i64 x4)),(5,(.int .i64 x5)),(6,(.int .i64 a)),(7,(.int .i64 b)),(8,(.int .i64 c)),(9,(.int .i64 d)),(10,(.int .i64 e)),(11,(.int .i64 f)),(12,(.int .i64 g)),(13,(.int .i64 h)),(14,(.int .i64 i)),(15,(.int .i64 j)),(16,(.int .i64 k)),(17,(.int .i64 l)),(18,(.int .i64 m)),(19,(.int .i64 n))]).run PP w= .ok (.slice (some ⟨w.heap.size,0,none⟩) 20 20) (w.alloc (C [.int .i64 x0,.int .i64 x1,.int .i64 x2,.int .i64 x3,.int .i64 x4,.int .i64 x5,.int .i64 a,.int .i64 b,.int .i64 c,.int .i64 d,.int .i64 e,.int .i64 f,.int .i64 g,.int .i64 h,.int .i64 i,.int .i64 j,.int .i64 k,.int .i64 l,.int .i64 m,.int .i64 n] 3)):=by kernel_rfl
def aq6(x0:Int)(x1:Int)(x2:Int)(x3:Int)(x4:Int)(x5:Int)(a:Int)(b:Int)(c:Int)(d:Int)(e:Int)(f:Int)(g:Int)(h:Int)(i:Int)(j:Int)(k:Int)(l:Int)(m:Int)(n:Int)(o:Int)(w:World):(Instr.buildSlice 23 21 #[(0,(.int .i64 x0)),(1,(.int .i64 x1)),(2,(.int .i64 x2)),(3,(.int .i64 x3)),(4,(.int .i64 x4)),(5,(.int .i64 x5)),(6,(.int .i64 a)),(7,(.int .i64 b)),(8,(.int .i64 c)),(9,(.int .i64 d)),(10,(.int .i64 e)),(11,(.int .i64 f)),(12,(.int .i64 g)),(13,(.int .i64 h)),(14,(.int .i64 i)),(15,(.int .i64 j)),(16,(.int .i64 k)),(17,(.int .i64 l)),(18,(.int .i64 m)),(19,(.int .i64 n)),(20,(.int .i64 o))]).run PP w= .ok (.slice (some ⟨w.heap.size,0,none⟩) 21 21) (w.alloc (C [.int .i64 x0,.int .i64 x1,.int .i64 x2,.int .i64 x3,.int .i64 x4,.int .i64 x5,.int .i64 a,.int .i64 b,.int .i64 c,.int .i64 d,.int .i64 e,.int .i64 f,.int .i64 g,.int .i64 h,.int .i64 i,.int .i64 j,.int .i64 k,.int .i64 l,.int .i64 m,.int .i64 n,.int .i64 o] 3)):=by kernel_rfl
def aq7(x0:Int)(x1:Int)(x2:Int)(x3:Int)(x4:Int)(x5:Int)(a:Int)(b:Int)(c:Int)(d:Int)(e:Int)(f:Int)(g:Int)(h:Int)(i:Int)(j:Int)(k:Int)(l:Int)(m:Int)(n:Int)(o:Int)(p:Int)(q:Int)(r:Int)(s:Int)(t:Int)(u:Int)(v:Int)(x:Int)(w:World):(Instr.buildSlice 23 29 #[(0,(.int .i64 x0)),(1,(.int .i64 x1)),(2,(.int .i64 x2)),(3,(.int .i64 x3)),(4,(.int .i64 x4)),(5,(.int .i64 x5)),(6,(.int .i64 a)),(7,(.int .i64 b)),(8,(.int .i64 c)),(9,(.int .i64 d)),(10,(.int .i64 e)),(11,(.int .i64 f)),(12,(.int .i64 g)),(13,(.int .i64 h)),(14,(.int .i64 i)),(15,(.int .i64 j)),(16,(.int .i64 k)),(17,(.int .i64 l)),(18,(.int .i64 m)),(19,(.int .i64 n)),(20,(.int .i64 o)),(21,(.int .i64 p)),(22,(.int .i64 q)),(23,(.int .i64 r)),(24,(.int .i64 s)),(25,(.int .i64 t)),(26,(.int .i64 u)),(27,(.int .i64 v)),(28,(.int .i64 x))]).run PP w= .ok (.slice (some ⟨w.heap.size,0,none⟩) 29 29) (w.alloc (C [.int .i64 x0,.int .i64 x1,.int .i64 x2,.int .i64 x3,.int .i64 x4,.int .i64 x5,.int .i64 a,.int .i64 b,.int .i64 c,.int .i64 d,.int .i64 e,.int .i64 f,.int .i64 g,.int .i64 h,.int .i64 i,.int .i64 j,.int .i64 k,.int .i64 l,.int .i64 m,.int .i64 n,.int .i64 o,.int .i64 p,.int .i64 q,.int .i64 r,.int .i64 s,.int .i64 t,.int .i64 u,.int .i64 v,.int .i64 x] 3)):=by kernel_rfl
def aq8(x0:Int)(x1:Int)(x2:Int)(x3:Int)(x4:Int)(x5:Int)(a:Int)(b:Int)(c:Int)(d:Int)(e:Int)(f:Int)(g:Int)(h:Int)(i:Int)(j:Int)(k:Int)(l:Int)(m:Int)(n:Int)(o:Int)(p:Int)(q:Int)(r:Int)(s:Int)(t:Int)(u:Int)(v:Int)(x:Int)(y:Int)(z:Int)(A:Int)(B:Int)(D:Int)(E:Int)(F:Int)(w:World):(Instr.buildSlice 23 36 #[(0,(.int .i64 x0)),(1,(.int .i64 x1)),(2,(.int .i64 x2)),(3,(.int .i64 x3)),(4,(.int .i64 x4)),(5,(.int .i64 x5)),(6,(.int .i64 a)),(7,(.int .i64 b)),(8,(.int .i64 c)),(9,(.int .i64 d)),(10,(.int .i64 e)),(11,(.int .i64 f)),(12,(.int .i64 g)),(13,(.int .i64 h)),(14,(.int .i64 i)),(15,(.int .i64 j)),(16,(.int .i64 k)),(17,(.int .i64 l)),(18,(.int .i64 m)),(19,(.int .i64 n)),(20,(.int .i64 o)),(21,(.int .i64 p)),(22,(.int .i64 q)),(23,(.int .i64 r)),(24,(.int .i64 s)),(25,(.int .i64 t)),(26,(.int .i64 u)),(27,(.int .i64 v)),(28,(.int .i64 x)),(29,(.int .i64 y)),(30,(.int .i64 z)),(31,(.int .i64 A)),(32,(.int .i64 B)),(33,(.int .i64 D)),(34,(.int .i64 E)),(35,(.int .i64 F))]).run PP w= .ok (.slice (some ⟨w.heap.size,0,none⟩) 36 36) (w.alloc (C [.int .i64 x0,.int .i64 x1,.int .i64 x2,.int .i64 x3,.int .i64 x4,.int .i64 x5,.int .i64 a,.int .i64 b,.int .i64 c,.int .i64 d,.int .i64 e,.int .i64 f,.int .i64 g,.int .i64 h,.int .i64 i,.int .i64 j,.int .i64 k,.int .i64 l,.int .i64 m,.int .i64 n,.int .i64 o,.int .i64 p,.int .i64 q,.int .i64 r,.int .i64 s,.int .i64 t,.int .i64 u,.int .i64 v,.int .i64 x,.int .i64 y,.int .i64 z,.int .i64 A,.int .i64 B,.int .i64 D,.int .i64 E,.int .i64 F] 3)):=by kernel_rfl
def aq9(x0:Int)(x1:Int)(x2:Int)(x3:Int)(x4:Int)(x5:Int)(r:Int)(s:Int)(t:Int)(u:Int)(v:Int)(x:Int)(y:Int)(z:Int)(A:Int)(B:Int)(D:Int)(E:Int)(F:Int)(G:Int)(H:Int)(I:Int)(J:Int)(K:Int)(L:Int)(M:Int)(N:Int)(O:Int)(P:Int)(Q:Int)(R:Int)(S:Int)(T:Int)(U:Int)(V:Int)(W:Int)(a:Int)(b:Int)(c:Int)(d:Int)(e:Int)(f:Int)(g:Int)(h:Int)(i:Int)(j:Int)(k:Int)(l:Int)(m:Int)(n:Int)(o:Int)(p:Int)(q:Int)(w:World):(Instr.buildSlice 23 53 #[(0,(.int .i64 x0)),(1,(.int .i64 x1)),(2,(.int .i64 x2)),(3,(.int .i64 x3)),(4,(.int .i64 x4)),(5,(.int .i64 x5)),(6,(.int .i64 r)),(7,(.int .i64 s)),(8,(.int .i64 t)),(9,(.int .i64 u)),(10,(.int .i64 v)),(11,(.int .i64 x)),(12,(.int .i64 y)),(13,(.int .i64 z)),(14,(.int .i64 A)),(15,(.int .i64 B)),(16,(.int .i64 D)),(17,(.int .i64 E)),(18,(.int .i64 F)),(19,(.int .i64 G)),(20,(.int .i64 H)),(21,(.int .i64 I)),(22,(.int .i64 J)),(23,(.int .i64 K)),(24,(.int .i64 L)),(25,(.int .i64 M)),(26,(.int .i64 N)),(27,(.int .i64 O)),(28,(.int .i64 P)),(29,(.int .i64 Q)),(30,(.int .i64 R)),(31,(.int .i64 S)),(32,(.int .i64 T)),(33,(.int .i64 U)),(34,(.int .i64 V)),(35,(.int .i64 W)),(36,(.int .i64 a)),(37,(.int .i64 b)),(38,(.int .i64 c)),(39,(.int .i64 d)),(40,(.int .i64 e)),(41,(.int .i64 f)),(42,(.int .i64 g)),(43,(.int .i64 h)),(44,(.int .i64 i)),(45,(.int .i64 j)),(46,(.int .i64 k)),(47,(.int .i64 l)),(48,(.int .i64 m)),(49,(.int .i64 n)),(50,(.int .i64 o)),(51,(.int .i64 p)),(52,(.int .i64 q))]).run PP w= .ok (.slice (some ⟨w.heap.size,0,none⟩) 53 53) (w.alloc (C [.int .i64 x0,.int .i64 x1,.int .i64 x2,.int .i64 x3,.int .i64 x4,.int .i64 x5,.int .i64 r,.int .i64 s,.int .i64 t,.int .i64 u,.int .i64 v,.int .i64 x,.int .i64 y,.int .i64 z,.int .i64 A,.int .i64 B,.int .i64 D,.int .i64 E,.int .i64 F,.int .i64 G,.int .i64 H,.int .i64 I,.int .i64 J,.int .i64 K,.int .i64 L,.int .i64 M,.int .i64 N,.int .i64 O,.int .i64 P,.int .i64 Q,.int .i64 R,.int .i64 S,.int .i64 T,.int .i64 U,.int .i64 V,.int .i64 W,.int .i64 a,.int .i64 b,.int .i64 c,.int .i64 d,.int .i64 e,.int .i64 f,.int .i64 g,.int .i64 h,.int .i64 i,.int .i64 j,.int .i64 k,.int .i64 l,.int .i64 m,.int .i64 n,.int .i64 o,.int .i64 p,.int .i64 q] 3)):=by kernel_rfl
def aq_(a:Int)(b:Int)(c:Int)(w:World):(Instr.buildSlice 75 1 #[(0,(.agg #[.int .u8 a,.int .u8 b,.int .u16 c]))]).run PP w= .ok (.slice (some ⟨w.heap.size,0,none⟩) 1 1) (w.alloc (C [.int .u8 a,.int .u8 b,.int .u16 c] 227)):=by kernel_rfl
def aq'(a:Int)(b:Int)(c:Int)(w:World):(Instr.buildSlice 85 1 #[(0,(.agg #[.int .i64 a,.int .i64 b,.int .i64 c]))]).run PP w= .ok (.slice (some ⟨w.heap.size,0,none⟩) 1 1) (w.alloc (C [.int .i64 a,.int .i64 b,.int .i64 c] 90)):=by kernel_rfl
def ae'(x0:Bool)(w:World):(Instr.buildSlice 118 1 #[(0,(.bool x0))]).run PP w= .ok (.slice (some ⟨w.heap.size,0,none⟩) 1 1) (w.alloc (C [.bool x0] 4)):=by kernel_rfl
def ara(a:Int)(b:Int)(c:Int)(w:World):(Instr.buildSlice 122 1 #[(0,(.agg #[.int .i64 a,.int .i64 b,.int .i64 c]))]).run PP w= .ok (.slice (some ⟨w.heap.size,0,none⟩) 1 1) (w.alloc (C [.int .i64 a,.int .i64 b,.int .i64 c] 126)):=by kernel_rfl
def XH:PP.follows .mixedOrders=true:=by kernel_rfl
def iG{p:Prop}(h:p:=by repeat' first|exact trivial|exact J|apply And.intro):p:=h
def Jr{p:Prop}(h:p:=by repeat' first|exact trivial|exact J|exact λ_=>rfl|exact λe=>(MR e hS).elim|apply And.intro):p:=h
def az{ρ:Env}{l:List (Nat×Value)}(h:QL ρ l:=by repeat' first|exact trivial|exact J|apply And.intro):Kn ρ l:= .mk h
def cQ{p:Prop}(h:p:=by first|omega| (dsimp only;omega)):p:=h
def an{p:Prop}(h:p:=by decide):p:=h
def dQ{p:Prop}(h:p:=by simp only[IntKind.bits];omega):p:=h
def aP{p:Prop}(h:p:=by intro _ hh;repeat first|exact hh|apply nq|apply fM):p:=h
def xI{p:Prop}(h:p:=by intro e he;rcases jT.1 he with rfl;repeat first|exact fQ .. |apply nq):p:=h
def iu{f:FuncId}{fn:Func}{n:Nat}{w:World}{c:Code}{a0:Value}{R:Ending->World->Prop}(a:PP.funcs[f]? =some fn)(b:fn.ntmps=n)(rs:List Nat)(h:Z_ PP n c (Mz rs R) (DZ [a0]) w)(d:fn.results=(rs.map ResultVar.tmp).toArray:=by exact J)(hb:fn.body=some c:=by exact J)(hs:Nat.ble 1 n=true:=by exact J):Calls PP f #[a0] w R:=rU a n b rs d hb (args:=[a0]) hs h
def iI{f:FuncId}{fn:Func}{n:Nat}{w:World}{c:Code}{a0 a1:Value}{R:Ending->World->Prop}(a:PP.funcs[f]? =some fn)(b:fn.ntmps=n)(rs:List Nat)(h:Z_ PP n c (Mz rs R) (DZ [a0,a1]) w)(d:fn.results=(rs.map ResultVar.tmp).toArray:=by exact J)(hb:fn.body=some c:=by exact J)(hs:Nat.ble 2 n=true:=by exact J):Calls PP f #[a0,a1] w R:=rU a n b rs d hb (args:=[a0,a1]) hs h
def nV{f:FuncId}{fn:Func}{n:Nat}{w:World}{c:Code}{a0 a1 a2:Value}{R:Ending->World->Prop}(a:PP.funcs[f]? =some fn)(b:fn.ntmps=n)(rs:List Nat)(h:Z_ PP n c (Mz rs R) (DZ [a0,a1,a2]) w)(d:fn.results=(rs.map ResultVar.tmp).toArray:=by exact J)(hb:fn.body=some c:=by exact J)(hs:Nat.ble 3 n=true:=by exact J):Calls PP f #[a0,a1,a2] w R:=rU a n b rs d hb (args:=[a0,a1,a2]) hs h
def xJ{f:FuncId}{fn:Func}{n:Nat}{w:World}{c:Code}{a0 a1 a2 a:Value}{R:Ending->World->Prop}(b:PP.funcs[f]? =some fn)(d:fn.ntmps=n)(rs:List Nat)(h:Z_ PP n c (Mz rs R) (DZ [a0,a1,a2,a]) w)(e:fn.results=(rs.map ResultVar.tmp).toArray:=by exact J)(hb:fn.body=some c:=by exact J)(hs:Nat.ble 4 n=true:=by exact J):Calls PP f #[a0,a1,a2,a] w R:=rU b n d rs e hb (args:=[a0,a1,a2,a]) hs h
def B8{α β:Type}{q:α->β->Prop}{p:Prop}(h: ∃a b,q a b)(k: ∀a b,q a b->p):p:=h.elim λa h=>h.elim λb h=>k a b h
def B9{α β d:Type}{q:α->β->d->Prop}{p:Prop}(h: ∃a b c,q a b c)(k: ∀a b c,q a b c->p):p:=h.elim λa h=>B8 h (k a)
def lB{α β e f:Type}{q:α->β->e->f->Prop}{p:Prop}(h: ∃a b c d,q a b c d)(k: ∀a b c d,q a b c d->p):p:=h.elim λa h=>B9 h (k a)
def afa{α β f g i:Type}{q:α->β->f->g->i->Prop}{p:Prop}(h: ∃a b c d e,q a b c d e)(k: ∀a b c d e,q a b c d e->p):p:=h.elim λa h=>lB h (k a)
def cM{α:Type}(a:α){p:Prop}(k: ∀b,a=b->p):p:=k a J
def gg{F:List aK}{b:Nat}{l:List Value}{T:TT}(h:(some b,C l T)∈F){p:Prop}(k: ∀i,Has F b l T i->p):p:=by
 obtain⟨i,hi,e⟩:=DO h;exact k i ⟨by rw[gW hi,e]⟩
def Rt.out{e:Ending}{k:Value->Prop}(h:Rt e k): ∃v,e= .returned v/\k v:=by
 (cases e<;>first|exact⟨_,J,h⟩|exact h.elim)
def aH{P:Program}{f:FuncId}{vs:Array Value}{w:World}{R:Ending->World->Prop}{Q:World->Value->Prop}(h:Calls P f vs w R)(k: ∀e w',R e w'->Rt e (Q w')):
 Calls P f vs w λe w'=> ∃v,e= .returned v/\Q w' v:=h.mono λe w' q=>(k e w' q).out
def QW:List Nat->Ot
 | []=> .nil
 |x::l=> .cons (x/4,match x % 4 with|0=> .p|1=> .c|2=> .g|_=> .h) (QW l)
def de:List Nat->Ot->Ot
 | [],o=>o
 |x::l,o=> .cons (x/4,match x % 4 with|0=> .p|1=> .c|2=> .g|_=> .h) (de l o)
def QX:List Nat->List aK->List aK
 | [],L=>L
 |i::c,L=>QX c (dX i L)
def H.dr{r:fT}{w:World}{L:List aK}: ∀{t:Nat},H r w L->H r w (L.drop t)
 |0,h=>h
 | t+1,h=>by
  cases L with
  |nil=>exact h
  |cons e L=>exact H.dr (t:=t) h.tail
def H.z{r:fT}{w:World}: ∀{L:List aK} (h:H r w L) (c:List Nat) (t:Nat),H r w ((QX c L).drop t)
 |_,h,[],_=>h.dr
 |_,h,i::c,t=>(h.mv i).z c t
def H.zz{r:fT}{w:World}{L L':List aK}(h:H r w L)(c:List Nat)(t:Nat)(a:L'=(QX c L).drop t:=by(first|dsimp only[QX,dX,List.drop]|skip)<;>exact J):H r w L':=a▸h.z c t
section
variable {P:Program}{n:Nat}{K:ia}{ρ:Env}{all ops:Array Oper}{rest:List Oper}{ord:Ot}{d:Option Nat}{ty:TypeId}{pos:String}{aV:Array Edge}{r:fT}{w:World}{L L':List aK}{x y:Operand}{b q i m i0 i1 i2 i3 j0:Nat}{l:List Value}{T T' T0:TypeId}{u v:Value}
theorem cm(h:H r w L)(l:List Nat){id:Nat}(a: ∀w',H r w' L->D PP n ops (QW l) K ρ w')(b:Je ops (QW l)=true:=by decide+kernel):Z_ PP n (.region id ops true) K ρ w:=aem h (QW l) XH b a
theorem xK(h:H r w L)(o:Ot){id:Nat}(a: ∀w',H r w' L->D PP n ops o K ρ w')(b:Je ops o=true:=by decide+kernel):Z_ PP n (.region id ops true) K ρ w:=aem h o XH b a
def arb{m:Nat}{q:Bx}{x0 x1 x2 x3:Operand}{a b c e:Int}{a0 a1 a2 f:Nat}(g:aL ρ x0= .int .u32 a)(h1:aL ρ x1= .int .u8 b)(h2:aL ρ x2= .int .u8 c)(h:aL ρ x3= .int .u16 e)(i:av a a0)(j:av b a1)(l:av c a2)(k3:av e f)(hd:bH n d=true)(o:G m q (O PP n all rest K (fU ρ d (.agg #[bR a0,iW a1,iW a2,D3 f])) w)):G (m+1) q (O PP n all ({dst:=d,op:= .build 214 #[(0,x0),(1,x1),(2,x2),(3,x3)],type:=ty,pos:=pos,after:=aV,guard:=none}::rest) K ρ w):=
 Gs (λk=>gQ (aeC (aqY _ _ _ _) (g.trans (by rw[i.eq])) (h1.trans (by rw[j.eq])) (h2.trans (by rw[l.eq])) (h.trans (by rw[k3.eq]))) hd k) o
def XJ (m:Nat) {p q:Prop} (k:q) (h:G m (.mk q) p:=by
 repeat(first
  |exact G0
  | (apply arb;exact J;exact J;exact J;exact J;(first|exact iN|exact dO _);(first|exact iN|exact dO _);(first|exact iN|exact dO _);(first|exact iN|exact dO _);exact J))):p:=G1 h k
def Sp(p:Prop)(r:fT)(L':List aK)(X:World->Prop):Prop:=(∀w',H r w' L'->X w')->p
def arc(h:H r w L)(h1:One P T')(a:aL ρ x= .pointer (some ⟨b,q,none⟩))(hb:Has L b l T0 i)(c:l[q]? =some u)(e:aL ρ y=v)(f:plain v=true)(hd:bH n d=true)(g:L'=L.set i (some b,C (l.set q v) T0)):
 Sp (O P n all ({dst:=d,op:= .store T' x y,type:=ty,pos:=pos,after:=aV,guard:=none}::rest) K ρ w) r L' (λw'=>O P n all rest K (fU ρ d undef) w'):=λk=>ir h a c e f hd (g▸k)
def ard(hi:ops[i0]? =some {dst:=d,op:= .store T' x y,type:=ty,pos:=pos,after:=aV,guard:=none})(h:H r w L)(h1:One P T')(a:aL ρ x= .pointer (some ⟨b,q,none⟩))(hb:Has L b l T0 i)(c:l[q]? =some u)(e:aL ρ y=v)(f:plain v=true)(hd:bH n d=true)(g:L'=L.set i (some b,C (l.set q v) T0)):
 Sp (D P n ops (.cons (i0,.h) ord) K ρ w) r L' (λw'=>D P n ops ord K (fU ρ d undef) w'):=λk=>xF hi h a c e f hd (g▸k)
def are{vs:List Value}{s:Nat}(h:H r w L)(h1:mc P T' s)(a:aL ρ x= .pointer (some ⟨b,q,none⟩))(hb:Has L b l T0 i)(c:aL ρ y= .agg ⟨vs⟩)(e:W vs=s)(f:vs.all plain=true)(g:q+s<=W l)(hd:bH n d=true)(j:L'=L.set i (some b,C (dm l q vs) T0)):
 Sp (O P n all ({dst:=d,op:= .store T' x y,type:=ty,pos:=pos,after:=aV,guard:=none}::rest) K ρ w) r L' (λw'=>O P n all rest K (fU ρ d undef) w'):=λk=>rW h a c e f g hd (j▸k)
theorem iA{P:Program}{t:TypeId}{s:Nat} [h:mc P t s]:mc P t s:=h
def arh{p:Prop}{X:World->Prop}(h:Sp p r L' X)(k: ∀w',H r w' L'->X w'):p:=h k
attribute [irreducible] Sp
def cI {p:Prop} {X:World->Prop} (k: ∀w',H r w' L'->X w') (s:Sp p r L' X:=by
 first
 | (apply arc;exact h;exact iO;exact J;exact iH;exact J;(first|exact(rfl:_=Value.int _ _)|exact(rfl:_=Value.slice _ _ _)|exact(rfl:_=Value.pointer _)|exact(rfl:_=Value.bool _)|exact J);exact J;exact J;(first|dsimp only[bJ]|skip)<;>exact J)
 | (apply are;exact h;exact iA;exact J;exact iH;exact J;exact J;exact J;(first|decide|exact aW _|exact fS J| (simp;done)|omega);exact J;(first|dsimp only[dm,bJ]|skip)<;>exact J)
 | (apply ard;exact J;exact h;exact iO;exact J;exact iH;exact J;(first|exact(rfl:_=Value.int _ _)|exact(rfl:_=Value.slice _ _ _)|exact(rfl:_=Value.pointer _)|exact(rfl:_=Value.bool _)|exact J);exact J;exact J;(first|dsimp only[bJ]|skip)<;>exact J)):p:=arh s k
def Js(p:Prop)(r:fT)(L':List aK)(X:World->Prop)(v:Value)(l:List Value)(q:Nat)(u:Value):Prop:=l[q]? =some u->(∀w',H r w' L'->X w')->p
def afb(h:H r w L)(h1:One P T')(a:aL ρ x= .pointer (some ⟨b,q,none⟩))(hb:Has L b l T0 i)(c:aL ρ y=v)(e:plain v=true)(hd:bH n d=true)(f:L'=L.set i (some b,C (l.set q v) T0)):
 Js (O P n all ({dst:=d,op:= .store T' x y,type:=ty,pos:=pos,after:=aV,guard:=none}::rest) K ρ w) r L' (λw'=>O P n all rest K (fU ρ d undef) w') v l q u:=λg k=>ir h a g c e hd (f▸k)
def afc(hi:ops[i0]? =some {dst:=d,op:= .store T' x y,type:=ty,pos:=pos,after:=aV,guard:=none})(h:H r w L)(h1:One P T')(a:aL ρ x= .pointer (some ⟨b,q,none⟩))(hb:Has L b l T0 i)(c:aL ρ y=v)(e:plain v=true)(hd:bH n d=true)(f:L'=L.set i (some b,C (l.set q v) T0)):
 Js (D P n ops (.cons (i0,.h) ord) K ρ w) r L' (λw'=>D P n ops ord K (fU ρ d undef) w') v l q u:=λg k=>xF hi h a g c e hd (f▸k)
def afd{p:Prop}{X:World->Prop}(h:Js p r L' X v l q u)(a:l[q]? =some u)(k: ∀w',H r w' L'->X w'):p:=h a k
attribute [irreducible] Js
def dt {p:Prop} {X:World->Prop} (v:Value) (a:l[q]? =some u) (k: ∀w',H r w' L'->X w') (s:Js p r L' X v l q u:=by
 first
 | (apply afb;exact h;exact iO;exact J;exact iH;exact J;exact J;exact J;(first|dsimp only[bJ]|skip)<;>exact J)
 | (apply afc;exact J;exact h;exact iO;exact J;exact iH;exact J;exact J;exact J;(first|dsimp only[bJ]|skip)<;>exact J)):p:=afd s a k
def iX {p:Prop} {X:World->Prop} (v:Value) (k: ∀w',H r w' L'->X w') (s:Js p r L' X v l q u/\l[q]? =some u:=by
 apply And.intro
 first
 | (apply afb;exact h;exact iO;exact J;exact iH;exact J;exact J;exact J;(first|dsimp only[bJ]|skip)<;>exact J)
 | (apply afc;exact J;exact h;exact iO;exact J;exact iH;exact J;exact J;exact J;(first|dsimp only[bJ]|skip)<;>exact J)
 exact J):p:=afd s.1 s.2 k
abbrev xL(m:Nat):Nat->Value:=λb=> .slice (some ⟨b,0,none⟩) m m
variable {x0 x1 x2 x3:Operand}{v0 v1 v2 v3:Value}{o:Obj}
def mf(a:aL ρ x0=v0)(hb: ∀w,(Instr.buildSlice T m #[(i0,v0)]).run P w= .ok (.slice (some ⟨w.heap.size,0,none⟩) m m) (w.alloc o))(h:H r w L)(c: ∀b w',H r w' ((some b,o)::L)->O P n all rest K (fU ρ d (.slice (some ⟨b,0,none⟩) m m)) w')(hd:bH n d=true:=by rfl):O P n all ({dst:=d,op:= .buildSlice T m #[(i0,x0)],type:=ty,pos:=pos,after:=aV,guard:=none}::rest) K ρ w:=
 uJ (v:=xL m) (λ_=>ME (u:=xL m) hb a) h hd c
def ld(hi:ops[j0]? =some {dst:=d,op:= .buildSlice T m #[(i0,x0)],type:=ty,pos:=pos,after:=aV,guard:=none})(a:aL ρ x0=v0)(hb: ∀w,(Instr.buildSlice T m #[(i0,v0)]).run P w= .ok (.slice (some ⟨w.heap.size,0,none⟩) m m) (w.alloc o))(h:H r w L)(c: ∀b w',H r w' ((some b,o)::L)->D P n ops ord K (fU ρ d (.slice (some ⟨b,0,none⟩) m m)) w')(hd:bH n d=true:=by rfl):D P n ops (.cons (j0,.g) ord) K ρ w:=
 QO (v:=xL m) hi (λ_=>ME (u:=xL m) hb a) h hd c
def B_(a:aL ρ x0=v0)(h1:aL ρ x1=v1)(h2:aL ρ x2=v2)(hb: ∀w,(Instr.buildSlice T m #[(i0,v0),(i1,v1),(i2,v2)]).run P w= .ok (.slice (some ⟨w.heap.size,0,none⟩) m m) (w.alloc o))(h:H r w L)(c: ∀b w',H r w' ((some b,o)::L)->O P n all rest K (fU ρ d (.slice (some ⟨b,0,none⟩) m m)) w')(hd:bH n d=true:=by rfl):O P n all ({dst:=d,op:= .buildSlice T m #[(i0,x0),(i1,x1),(i2,x2)],type:=ty,pos:=pos,after:=aV,guard:=none}::rest) K ρ w:=
 uJ (v:=xL m) (λ_=>aeB (u:=xL m) hb a h1 h2) h hd c
def qo(hi:ops[j0]? =some {dst:=d,op:= .buildSlice T m #[(i0,x0),(i1,x1),(i2,x2)],type:=ty,pos:=pos,after:=aV,guard:=none})(a:aL ρ x0=v0)(h1:aL ρ x1=v1)(h2:aL ρ x2=v2)(hb: ∀w,(Instr.buildSlice T m #[(i0,v0),(i1,v1),(i2,v2)]).run P w= .ok (.slice (some ⟨w.heap.size,0,none⟩) m m) (w.alloc o))(h:H r w L)(c: ∀b w',H r w' ((some b,o)::L)->D P n ops ord K (fU ρ d (.slice (some ⟨b,0,none⟩) m m)) w')(hd:bH n d=true:=by rfl):D P n ops (.cons (j0,.g) ord) K ρ w:=
 QO (v:=xL m) hi (λ_=>aeB (u:=xL m) hb a h1 h2) h hd c
def Jt(a:aL ρ x0=v0)(h1:aL ρ x1=v1)(h2:aL ρ x2=v2)(c:aL ρ x3=v3)(hb: ∀w,(Instr.buildSlice T m #[(i0,v0),(i1,v1),(i2,v2),(i3,v3)]).run P w= .ok (.slice (some ⟨w.heap.size,0,none⟩) m m) (w.alloc o))(h:H r w L)(e: ∀b w',H r w' ((some b,o)::L)->O P n all rest K (fU ρ d (.slice (some ⟨b,0,none⟩) m m)) w')(hd:bH n d=true:=by rfl):O P n all ({dst:=d,op:= .buildSlice T m #[(i0,x0),(i1,x1),(i2,x2),(i3,x3)],type:=ty,pos:=pos,after:=aV,guard:=none}::rest) K ρ w:=
 uJ (v:=xL m) (λ_=>aeD (u:=xL m) hb a h1 h2 c) h hd e
def Eh(hi:ops[j0]? =some {dst:=d,op:= .buildSlice T m #[(i0,x0),(i1,x1),(i2,x2),(i3,x3)],type:=ty,pos:=pos,after:=aV,guard:=none})(a:aL ρ x0=v0)(h1:aL ρ x1=v1)(h2:aL ρ x2=v2)(c:aL ρ x3=v3)(hb: ∀w,(Instr.buildSlice T m #[(i0,v0),(i1,v1),(i2,v2),(i3,v3)]).run P w= .ok (.slice (some ⟨w.heap.size,0,none⟩) m m) (w.alloc o))(h:H r w L)(e: ∀b w',H r w' ((some b,o)::L)->D P n ops ord K (fU ρ d (.slice (some ⟨b,0,none⟩) m m)) w')(hd:bH n d=true:=by rfl):D P n ops (.cons (j0,.g) ord) K ρ w:=
 QO (v:=xL m) hi (λ_=>aeD (u:=xL m) hb a h1 h2 c) h hd e
end
end Go.Z
