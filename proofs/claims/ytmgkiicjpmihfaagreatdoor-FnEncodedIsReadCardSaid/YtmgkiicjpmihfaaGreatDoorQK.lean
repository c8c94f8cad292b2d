/- Part 11 of the proof. -/
import Derived.MapKept
import Derived.WalkSpells
import Derived.Test.YtmgkiicjpmihfaaGreatDoorQJ
set_option linter.all false
set_option maxRecDepth 20000
set_option maxHeartbeats 400000000
open List renaming length -> W, getD -> aa, map -> ar, replicate -> aT, set -> bJ, range -> cL
open UInt8 renaming ofNat -> bS
open Or renaming inl -> a_, inr -> bG
open Go.Z.Env renaming ev -> aL, put -> fU
namespace Go.Z
open Go Go.Proofs Tryz
variable {es:Array MapEntry}{S X:List UInt8}{c:Nat}{ob:Option Nat}
def Lk(B:Nat)(es:Array MapEntry):Prop:= ∀e∈es.toList,(∃k:Int,e.key= .int .i64 k)/\ ∃x:Nat,e.val=af x/\x<=B
def pM(B:Nat)(o:Obj):Prop:= ∃es a,o= .map es a/\Lk B es
section
variable {P:Program}{ρ:Env}{x y z:Operand}{ty:TypeId}{w:World}{r:fT}{L:List aK}{T kt et:TypeId}{mb i B n:Nat}{o:Obj}{k:Int}
def acf [hu:cu P T (.slice et)]{ad:Option Addr}{n c:Nat}{v:Value}(a:aL ρ x= .slice ad n c)(b:v= .slice none 0 0):run P ρ (.binOp .eql T x (.const v) kt) ty w= .ok (.value (.bool ad.isNone)) w:=by
 subst b;have e:=Go.Lib.run_equalIn_slice_nil (P:=P) (w:=w) 9999 T et ad n c 0 0 hu.eq;have h:(binOp .eql T (.slice ad n c) (.slice none 0 0)).run P w= .ok (.bool ad.isNone) w:=(by simp only[binOp];simp[Op.equal,Op.maxDepth,e]);simp only[run,execOp,a];simp[eqGuard,aL,h]
def Ll [hu:cu P T (.slice et)]{ad:Option Addr}{n c:Nat}{v:Value}(a:aL ρ x= .slice ad n c)(b:v= .slice none 0 0):run P ρ (.binOp .neq T x (.const v) kt) ty w= .ok (.value (.bool (!ad.isNone))) w:=by
 subst b;have h:=run_neq_slice_nil_any (P:=P) w T et ad n c 0 0 hu.eq;simp only[run,execOp,a];simp[eqGuard,aL,h]
def alQ{k:Int}(h:Lk B es):(Instr.findNow (.int .i64) (.int .i64 k) es.toList 0=some none)\/ ∃j e,Instr.findNow (.int .i64) (.int .i64 k) es.toList 0=some (some (j,e.val))/\es.toList[j]? =some e/\e.key= .int .i64 k:=by
 have a:MapKept.IsKey (.int .i64) (.int .i64 k):=rfl;rcases MapKept.findNow_spec a es.toList 0 (λx b=>by obtain⟨⟨k',e⟩,_⟩:=h x b;rw[e];exact J)with⟨h1,_⟩| ⟨j,e,h1,h2,c⟩
 exact .inl h1
 exact .inr ⟨j,e,by simpa using h1,h2,c⟩
def aCL [hu:cu P T (.map kt et)] [a:cu P kt (.int .i64)](h:H r w L)(hi:L[i]? =some (some mb,o))(m:pM B o)(n:(zeroValue et).run P w= .ok (af 0) w)(f:aL ρ x= .map (some mb))(g:aL ρ y= .int .i64 k): ∃v ok,v<=B/\run P ρ (.lookup T x y true) ty w= .ok (.value (.tuple #[af v,.bool ok])) w:=by
 obtain⟨es,s,rfl,l⟩:=m;have hb:=h.fp mb _ (vU hi);have h1:=MapKept.run_getObj_map (P:=P) hb;have h2:=MapKept.run_checkKey (P:=P) (w:=w) a.eq (show MapKept.IsKey (.int .i64) (.int .i64 k)from J) es.isEmpty 9999;rcases alQ (k:=k) l with b| ⟨j,e,b,p,t⟩
 have c:=MapKept.run_findKey (P:=P) (w:=w) a.eq b;refine⟨0,false,cj _,?_⟩;simp only[run,execOp,f,g];simp[Instr.lookup,run_underlying hu.eq,h1,h2,c,n]
 obtain⟨_,v,q,d⟩:=l e (vU p);have c:=MapKept.run_findKey (P:=P) (w:=w) a.eq b;refine⟨v,true,d,?_⟩;simp only[run,execOp,f,g];simp[Instr.lookup,run_underlying hu.eq,h1,h2,c,q]
def aCM{a v:Nat}(h:Lk B es)(b:v<=B):Lk B (es.push {key:= .int .i64 k,val:=af v,born:=a}):=by
 intro e he;simp only[Array.toList_push,oX,jT]at he;rcases he with he|rfl
 exact h e he
 exact⟨⟨k,J⟩,v,J,b⟩
def aCN{j v:Nat}{kv:Value}(a: ∃k':Int,kv= .int .i64 k')(h:Lk B es)(d:v<=B):Lk B (es.modify j λe=>{e with key:=kv,val:=af v}):=by
 intro e he;obtain⟨i,hi⟩:=IU he;have h1:(es.modify j λe=>{e with key:=kv,val:=af v})[i]? =some e:=(by rw[<-W6];exact hi);rw[WH]at h1;by_cases b:j=i
 rw[ao b]at h1
 cases c:es[i]? with
 |none=>rw[c]at h1;cases h1
 | some e2=>
   rw[c]at h1
   have:=xC h1
   rw[<-this]
   exact⟨a,v,J,d⟩
 rw[aj b]at h1;exact h e (vU (by rw[W6];exact h1))
def aCO [hu:cu P T (.map kt et)] [d:cu P kt (.int .i64)]{v:Nat}(h:H r w L)(hi:L[i]? =some (some mb,o))(u:pM B o)(n:aL ρ x= .map (some mb))(p:aL ρ y= .int .i64 k)(q:aL ρ z=af v)(s:v<=B): ∃o' w',pM B o'/\H r w' (L.set i (some mb,o'))/\run P ρ (.mapUpdate T x y z) ty w= .ok .skip w':=by
 obtain⟨es,c,rfl,f⟩:=u;have hb:=h.fp mb _ (vU hi);have h1:=MapKept.run_getObj_map (P:=P) hb;have h2:=MapKept.run_checkKey (P:=P) (w:=w) d.eq (show MapKept.IsKey (.int .i64) (.int .i64 k)from J) false 9999;have t: ∀o':Obj,H r {w with heap:=w.heap.setIfInBounds mb o'} (L.set i (some mb,o')):=λo'=>(by obtain⟨a,b⟩:=MapKept.heap_set (o':=o') hb;exact h.fF hi J a (λk' A _=>b k' A));rcases alQ (k:=k) f with g| ⟨j,e,g,C,D⟩
 have l:=MapKept.run_findKey (P:=P) (w:=w) d.eq g;have m:=MapKept.run_setObj_map (P:=P) (.map (es.push {key:= .int .i64 k,val:=af v,born:=c}) (c+1)) hb;refine⟨.map (es.push {key:= .int .i64 k,val:=af v,born:=c}) (c+1),_,⟨_,_,J,aCM f s⟩,t _,?_⟩;simp only[run,execOp,n,p,q];simp[Instr.mapUpdate,run_underlying hu.eq,h1,h2,l,m]
 have l:=MapKept.run_findKey (P:=P) (w:=w) d.eq g;have E:((es[j]?).map (·.key)).getD (.int .i64 k)= .int .i64 k:=(by rw[<-W6,C];exact D);have F:(Instr.keyThatStays (.int .i64 k) (.int .i64 k)).run P w= .ok (.int .i64 k) w:=(by simp[Instr.keyThatStays,Instr.sameBits]);have m:=MapKept.run_setObj_map (P:=P) (.map (es.modify j λe=>{e with key:= .int .i64 k,val:=af v}) c) hb;refine⟨.map (es.modify j λe=>{e with key:= .int .i64 k,val:=af v}) c,_,⟨_,_,J,aCN (j:=j) (kv:= .int .i64 k) ⟨k,J⟩ f s⟩,t _,?_⟩;simp only[run,execOp,n,p,q];simp[Instr.mapUpdate,run_underlying hu.eq,h1,h2,l,E,F,m]
def aCP:run P ρ (.makeMap T none) ty w= .ok (.value (.map (some w.heap.size))) (w.alloc (.map #[] 0)):=by
 simp[run,execOp,Instr.makeMap,newObj,Sem.run]
end
section
variable {P:Program}{n:Nat}{K:ia}{ρ:Env}{all:Array Oper}{rest:List Oper}{d:Option Nat}{ty:TypeId}{pos:String}{aV:Array Edge}
variable {r:fT}{w:World}{L:List aK}{x y:Operand}{b q i:Nat}{l:List Value}{T T':TypeId}{v:Value}
def aCQ{T2 G:TypeId}{zs:List Value}{fh size:Nat}[hu:cu P T (.slice T')] [hs:Sz P T' size] [K:Zr P T' zs] [hb:By P T' fh] [n:cu P T2 (.slice G)](M:W zs=size){ob:Option Nat}{xs sp ys:List Value}{nn c m:Nat}{xv:Value}(h:H r w L)(hi:L[i]? =some (ob,C (xs++sp) T'))(f:W xs=nn*size)(z:W (xs++sp)=c*size)(wu:nn<=c)(A:ob=none->c=0)(gv:0<size)(g:Src P r L size m xv ys)(N: ∀v∈ys,plain v=true)(fx:(2*(nn+m)+1000)*fh<=281474976710656)(XD:nn+m<=281474976710656)(p:Value->Prop)(B: ∀v∈sp,p v)(O: ∀v∈zs,p v): ∃w' o c' q,(Builtin.append_ #[T,T2] ty #[.slice (aI ob) nn c,xv]).run P w= .ok (.slice (aI o) (nn+m) c') w'/\H r w' (L.set i (o,C (xs++ys++q) T'))/\W (xs++ys++q)=c'*size/\nn+m<=c'/\(o=none->c'=0)/\ ∀v∈q,p v:=by
 obtain⟨t,t1,t2⟩:=hb.bytes w;have e2:=hs.size w;have s:=g.len w;have D:=g.cells w h;have h1:=g.size;have Q:i<W L:=(qP.1 hi).1;by_cases l:nn+m<=c
 have hle:nn*size+W ys<=W (xs++sp):=(by have:(nn+m)*size<=c*size:=rL _ l;rw[qQ]at this;omega)
 cases ob with
 | none=>
   have E:=A J
   subst E
   obtain rfl:nn=0:=I
   obtain rfl:m=0:=I
   have R:ys=[]:=k7.1 I
   subst R
   refine⟨w,none,0,sp,?_,?_,by simpa using z,aW _,λ_=>rfl,B⟩
   . simp[Builtin.append_,underlying,program,Sem.run,hu.eq,n.eq,e2,s,D,aI]
   . rw[dN,Jo hi];exact h
 | some b=>
   obtain⟨w',s1,s2,_,_⟩:=D5 (P:=P) ys w L (xs++sp) (nn*size) 0 h hi N I
   refine⟨w',some b,c,sp.drop (W ys),?_,?_,?_,l,(λe=>by cases e),λv u=>B v (List.mem_of_mem_drop u)⟩
   . simp[Builtin.append_,underlying,program,Sem.run,hu.eq,n.eq,e2,s,l,D,aI,add_plain,s1]
   . have S:dm (xs++sp) (nn*size+0) ys=xs++ys++sp.drop (W ys):=by
       rw[kN,BY _ _ _ hle,<-f]
       simp[FZ]
     rw[S]at s2;exact s2
   . simp only[aF,cr]at z hle ⊢;omega
 have U:c<nn+m:=I;have V: ¬((281474976710656:Nat)<Builtin.nextslicecap (nn+m) c*fh):=(by have:=rL fh (QS U);omega);have X: ¬((9223372036854775807:Int)<(nn:Int)+(m:Int)):=I;obtain⟨a,x⟩: ∃a:World,a=w.drew:=⟨_,J⟩;have y:H r a L:=(by rw[x];exact h.drew);have Y:=g.cells a y;obtain⟨Z,z1,z2⟩:=K.zero a;obtain⟨t',B4,B6⟩:=hb.bytes a;obtain⟨d,F⟩: ∃d,d=(Question.appendCap (nn+m) c T').cut (w.tape w.drawn (Question.appendCap (nn+m) c T')):=⟨_,J⟩;have oC:nn+m<=d:=(by rw[F];exact QT _ _ _ _);have pV: ∀k,(askRoom k).run P a= .ok () a:=λk=>(by unfold askRoom;split<;>simp[mark,Sem.run])
 have hold:(Builtin.firstCells size nn (.slice (aI ob) nn c)).run P a= .ok xs.toArray a:=by
  cases ob with
  | none=>
    have E:=A J
    have : xs = [] := k7.1 (by rw[f]; have:nn=0:=I; subst this;simp)
    subst this;simp[Builtin.firstCells,aI]
  | some b=>
    simp only[Builtin.firstCells,aI]
    refine D4 y hi ?_ f
    exact Rd.of λj hj=>by rw[il,gP hj]
 have tN:(Builtin.zeroCells Z.cells (d- (nn+m)))=⟨dD zs (d- (nn+m))⟩:=(by rw[z2];apply FY.1;simp[Builtin.zeroCells,dD,DN,tD]);have Gi:(Question.appendCap (nn+m) c T').forced=false:=rfl;refine⟨a.alloc (C (xs++ys++dD zs (d- (nn+m))) T'),some a.heap.size,d,dD zs (d- (nn+m)),?_,(y.alloc _).replace Q,?_,oC,(λe=>by cases e),λv u=>O v (TA u I)⟩
 simp[Builtin.append_,underlying,program,Sem.run,hu.eq,n.eq,e2,s,l,t1,t2,V,X,choose,Gi];simp only[<-F,show({w with drawn:=w.drawn+1}:World)=a from x.symm,show w.drew=a from x.symm];simp[C,B4,B6,pV,hold,Y,z1,tN,newRow,newObj,Sem.run,show aI (some a.heap.size)=some ⟨a.heap.size,0,none⟩from J]
 rw[aF,aF,D7,M,f,h1,<-qQ,<-qQ];congr 1;omega
def BB(ob:Option Nat)(X S:List UInt8)(c:Nat):Prop:=W (X++S)=c/\(ob=none->c=0)
abbrev EB(ob:Option Nat)(X S:List UInt8):aK:=(ob,C (ar u8 (X++S)) 5)
def BB.ok(h:BB ob X S c):b8 ob (W X) c (ar u8 X) (ar u8 S) 1:=
 ⟨by simp,by simp[<-h.1],by rw[<-h.1];simp,h.2⟩
def BB.sl{F:List aK}(h:BB ob X S c):aY (EB ob X S::F) (.slice (aI ob) (W X) c) X:=by
 have:=aY.own (F:=F) (T:=5) h.ok;rw[<-gJ]at this;exact this
def bytesOf{l:List Value}(h: ∀v∈l,∃x:UInt8,v=u8 x): ∃S:List UInt8,l=S.map u8:=by
 induction l with
 |nil=>exact⟨[],J⟩
 | cons v l a=>
   obtain⟨S,b⟩:=a (λv c=>h v (aA c))
   obtain⟨x,d⟩:=h v bZ
   exact⟨x::S,by rw[d,b];rfl⟩
theorem alR [hu:cu P T (.slice 5)] [hs:Sz P 5 1] [t:Zr P 5 [iW 0]] [hb:By P 5 1]{T2 k:TypeId} [u:cu P T2 (.slice k)]{ob:Option Nat}{X S Y:List UInt8}{c:Nat}{xv:Value}{F:List aK}(h:H r w L)(hi:L[i]? =some (EB ob X S))(l:BB ob X S c)(g:aY F xv Y)(o:Sub F L)(y:W X+W Y<=70368744177664): ∃w' a c' d,(Builtin.append_ #[T,T2] ty #[.slice (aI ob) (W X) c,xv]).run P w= .ok (.slice (aI a) (W (X++Y)) c') w'/\H r w' (L.set i (EB a (X++Y) d))/\BB a (X++Y) d c':=by
 have e:=l.ok
 have f:xv=xv/\Src P r L 1 (W Y) xv (Y.map u8):=⟨J,by
   obtain⟨ad,n,c2,rfl,p,A,j⟩:=id g
   subst p
   exact q9 g o⟩
 obtain⟨w',a,c',B,h1,h2,j,C,q,s⟩:=aCQ (P:=P) (ty:=ty) (T:=T) (T2:=T2) (T':=5) (zs:=[iW 0]) (size:=1) (fh:=1) (m:=W Y) (xv:=xv) (xs:=ar u8 X) (sp:=ar u8 S) (ys:=ar u8 Y) J h (by rw[hi];simp;rfl) e.1 e.2.1 e.2.2.1 e.2.2.2 an f.2
   (by intro v b;obtain⟨z,_,rfl⟩:=jS.1 b;rfl) I I (λv=> ∃x:UInt8,v=u8 x) (by intro v b;obtain⟨z,_,rfl⟩:=jS.1 b;exact⟨z,J⟩)
   (by intro v b;exact⟨0,jT.1 b⟩)
 obtain⟨d,rfl⟩:=bytesOf s;refine⟨w',a,c',d,by rw[aF];exact h1,by rw[<-gJ,<-gJ]at h2;exact h2,by simpa using j,q⟩
def mC [hu:cu P T (.slice 5)] [hs:Sz P 5 1] [q:Zr P 5 [iW 0]] [hb:By P 5 1]{T2 e:TypeId} [s:cu P T2 (.slice e)]{ob:Option Nat}{X S Y:List UInt8}{c:Nat}{xv:Value}{F:List aK}(h:H r w L)(i:Nat)(f:aL ρ x= .slice (aI ob) (W X) c)(g:aL ρ y=xv)(hi:L[i]? =some (EB ob X S))(j:BB ob X S c)(k:aY F xv Y)(l:Sub F L)(m:W X+W Y<=70368744177664)(hd:bH n d=true)(o: ∀w' a c' b,H r w' (L.set i (EB a (X++Y) b))->BB a (X++Y) b c'->O P n all rest K (fU ρ d (.slice (aI a) (W (X++Y)) c')) w'):O P n all ({dst:=d,op:= .call {callee:= .builtin .append,args:= #[x,y],argTypes:= #[T,T2]},type:=ty,pos:=pos,after:=aV,guard:=none}::rest) K ρ w:=by
 obtain⟨w',a,c',b,h1,h2,p⟩:=alR (P:=P) (ty:=ty) (T:=T) (T2:=T2) h hi j k l m;exact gQ (D8 f g h1) hd (o w' a c' b h2 p)
def Ln{ord:Ot}{j:Nat}[hu:cu P T (.slice 5)] [hs:Sz P 5 1] [t:Zr P 5 [iW 0]] [hb:By P 5 1] {T2 e:TypeId} [u:cu P T2 (.slice e)] {ob:Option Nat} {X S Y:List UInt8} {c:Nat} {xv:Value} {F:List aK}
   (f:all[j]? =some {dst:=d,op:= .call {callee:= .builtin .append,args:= #[x,y],argTypes:= #[T,T2]},type:=ty,pos:=pos,after:=aV,guard:=none})
   (h:H r w L) (i:Nat) (g:aL ρ x= .slice (aI ob) (W X) c) (k:aL ρ y=xv) (hi:L[i]? =some (EB ob X S)) (l:BB ob X S c) (m:aY F xv Y) (o:Sub F L) (p:W X+W Y<=70368744177664) (hd:bH n d=true)
   (q: ∀w' a c' b,H r w' (L.set i (EB a (X++Y) b))->BB a (X++Y) b c'->D P n all ord K (fU ρ d (.slice (aI a) (W (X++Y)) c')) w'):D P n all (.cons (j,.h) ord) K ρ w:=by
 obtain⟨w',a,c',b,h1,h2,s⟩:=alR (P:=P) (ty:=ty) (T:=T) (T2:=T2) h hi l m o p
 exact Mw f (D8 g k h1) hd (q w' a c' b h2 s)
end
section
variable {P:Program}{n i:Nat}{K:ia}{ρ:Env}{w:World}{ops:Array Oper}{rest:Ot}{d:Option Nat}{op:Op}{ty:TypeId}{pos:String}{aV:Array Edge}
def sF{g t:Nat}{want:Bool}{k:Kd}(hi:ops[i]? =some {dst:=d,op:=op,type:=ty,pos:=pos,after:=aV,guard:=some (g,want)})(f:(ops[g]?).bind (·.dst)=some t)(j:Nat.blt t n=true)(l:ρ t=undef)(hd:bH n d=true)(h:D P n ops rest K (fU ρ d undef) w):D P n ops (.cons (i,k) rest) K ρ w:=by
 refine atf λa h1 h2 e=>?_;have m:yielded ops a.tmps g=none:=(by have o:t<a.tmps.size:=(by rw[h1];simpa [FT] using j);have c:mF a t=undef:=(by rw[e];exact l);have:a.tmps[t]? =some undef:=(by simp only[mF,tD]at c;simp[o]at c ⊢;exact c);simp[yielded,f,this,undef]);have hw:Region.wanted ({dst:=d,op:=op,type:=ty,pos:=pos,after:=aV,guard:=some (g,want)}:Oper) (yielded ops a.tmps)=false:=(by simp only[Region.wanted,m];rfl);have b:=agQ h (a:=a.put d undef) (by rw[size_put,h1]) (by rw[pe,h2]) (by rw[pf a d undef (by rw[h1];exact hd),e]);refine⟨_,hi,?_⟩;cases k
 exact⟨undef,.inr ⟨hw,J⟩,b⟩
 exact⟨undef,.inr ⟨hw,J⟩,b⟩
 exact .inr ⟨hw,b⟩
 exact .inr ⟨hw,b⟩
end
def bQ(N k:Nat):List UInt8:=(cL k).map λi=>bS (N/256^i)
def cY(N k:Nat):W (bQ N k)=k:=by simp[bQ]
def acg{N k i:Nat}(h:i<k):(aa (bQ N k) i 0).toNat=N/256^i % 256:=by
 simp[bQ,bX,h]
def ach(N k:Nat):bQ N (k+1)=bQ N k++[bS (N/256^k)]:=by
 simp[bQ,pR]
def Aa(N:Nat): ∀k,num (bQ N k)=N % 256^k
 |0=>by simp[bQ,num,IX]
 |k+1=>by rw[ach,Cb,Aa N k,cY];show N % 256^k+256^k*((bS (N/256^k)).toNat+256*0)=_;rw[Ak,show(256:Nat)^(k+1)=256^k*256 from J,@Me (256^k) 256 N];rfl
def jd:List Bool->Nat:=List.foldl (λa b=>2*a+b.toNat) 0
def aCR(l:List Bool): ∀a,l.foldl (λa b=>2*a+b.toNat) a=a*2^W l+jd l:=by
 induction l with
 |nil=>intro a;simp[jd]
 | cons b l c=>
   intro a
   rw[Mf,c]
   show _=a*2^(W l+1)+l.foldl (λa b=>2*a+b.toNat) (2*0+b.toNat)
   rw[c (2*0+b.toNat),jI]
   simp only[Qv,il,qQ,<-fL]
   congr 2
   rw[im 2 a,sK,im (2^W l) 2]
def Pc(a b:List Bool):jd (a++b)=jd a*2^W b+jd b:=by
 unfold jd;rw[Qc];exact aCR b _
def alS(a:List Bool)(b:Bool):jd (a++[b])=2*jd a+b.toNat:=by
 rw[Pc];simp[jd];omega
def Pd: ∀l:List Bool,jd l<2^W l:=by
 intro l
 induction l with
 |nil=>simp[jd]
 | cons b l a=>
   rw[show b::l=[b]++l from J,Pc]
   have:jd [b]<=1:=by cases b<;>simp[jd]
   rw[aF,h_]
   have h2:jd [b]*2^W l<=1*2^W l:=rL _ this
   simp only[dL,eW]
   omega
def cT(v n:Nat):List Bool:=(cL n).map λi=>decide (v/2^(n-1-i) % 2=1)
def vN(v n:Nat):W (cT v n)=n:=by simp[cT]
def eD(v n:Nat):List Bool:=(cL n).map λi=>decide (v/2^i % 2=1)
def oT(v n:Nat):W (eD v n)=n:=by simp[eD]
def ng:List Bool->Nat
 | []=>0
 |b::l=>b.toNat+2*ng l
def kX(l:List Bool):List UInt8:=bQ (2^W l+jd l) (W l/8+1)
def rD(l:List Bool):List UInt8:=bQ (ng l) ((W l+7)/8)
def Dm(l:List Bool):W (kX l)=W l/8+1:=cY _ _
def Iu(l:List Bool):W (rD l)=(W l+7)/8:=cY _ _
def aCS{N m k:Nat}(d:k/8<m)(f:N/2^k % 2=0):(bQ N m).set (k/8) (bS ((aa (bQ N m) (k/8) 0).toNat|||2^(k % 8)))=bQ (N+2^k) m:=by
 have g:N+2^k=N|||2^k:=by
  have h:N=2^(k+1)*(N/2^(k+1))+N % 2^k:=(by have h1:=DT N (2^(k+1));have h2:N % 2^(k+1)=N % 2^k:=(by rw[QY,f];simp);omega);have l:N % 2^k<2^k:=dY _ (eA _);apply Qk;intro i;rw[W7,W8];have e2:N+2^k=2^(k+1)*(N/2^(k+1))+(2^k*1+N % 2^k):=I;have hb:(2^k*1+N % 2^k)<2^(k+1):=(by rw[jI];omega);have n:N % 2^k<2^(k+1):=(by rw[jI];omega);rw[e2,W9 _ hb];(conv=>rhs;rw[h,W9 _ n]);by_cases hi:i<k+1
  rw[ao hi,ao hi,W9 _ l];by_cases c:i<k
  rw[ao c];simp;omega
  have:i=k:=I;subst this;rw[aj I];simp
  rw[aj hi,aj hi];simp;omega
 rw[g];apply nR;intro i;rw[vV];by_cases hi:i<m
 have a: ∀M,(bQ M m)[i]? =some (bS (M/256^i)):=λM=>(by simp[bQ,hi]);rw[a,a];have hN: ∀M i,bS (M/256^i)=bS (M>>>(8*i)):=λM i=>(by rw[I3,Ju]);by_cases e:k/8=i
 rw[ao e,cY,ao d];congr 1;rw[acg I,e];apply Mo.1;simp only[Ak];rw[show(256:Nat)=2^8 from J,<-Mc,<-I3,<-I3,Nat.shiftRight_or_distrib];apply Qk;intro j;simp only[Nat.testBit_mod_two_pow,W7,WV,W8];by_cases b:j<8
 simp only[b,decide_true,Bool.true_and];congr 1;apply decide_eq_decide.2;omega
 simp[b]
 rw[aj e];congr 1;apply Mo.1;simp only[Ak];rw[show(256:Nat)=2^8 from J,<-Mc,<-I3,<-I3,Nat.shiftRight_or_distrib];apply Qk;intro j;simp only[Nat.testBit_mod_two_pow,W7,WV,W8];by_cases b:j<8
 have: ¬k=8*i+j:=I;simp[b,this]
 simp[b]
 have a: ∀M,(bQ M m)[i]? =none:=λM=>gB (by rw[cY];omega);rw[a,a];split
 rw[cY,aj I]
 rfl
variable {bits:List Bool}{L:List aK}{sp:List Value}{bb i j k n:Nat}{r:fT}{w:World}
def yC:u8 (bS n)=iW (n % (aN .u8+1)):=by unfold u8;rw[Ak];rfl
def gS{a:Option Addr}{b:Nat}{v:Value}(d:v= .slice a n c)(h:n=b):v= .slice a b c:=by rw[d,h]
def lR{cb nn nc at_:Nat}{a:Option Addr}{N:List Int}(h:H r w ((ah cb [.slice a nn nc,af at_] 38)::L))(hN:og L (.slice a nn nc) N)(z:at_<=4611686018427387904)(A:n<=4611686018427387904):Calls PP 12 #[bL cb,af n] w λe w'=> ∃v at',e= .returned (af v)/\v<=n-1/\at'<=at_+1/\H r w' ((ah cb [.slice a nn nc,af at'] 38)::L):=by
 have j:nn=W N:=(by obtain⟨_,_,_,l,e2,_⟩:=hN;cases l;exact e2);refine iI func12 ntmps12 [4] ?_;refine g_ 4 ?_;refine cW [(4,4),(6,15)] (λρ w=>Kn ρ []/\H r w ((ah cb [.slice a nn nc,af at_] 38)::L)/\(0<nn)/\(2<=n)) ?_ ?_
 refine g_ 9 ?_;refine eM (t:=12) J (λm=>?_) (λm=>?_)
 refine g_ 4 ?_;refine jv J ?_;refine g_ 5 ?_;exact⟨0,at_,J,cj _,Nat.le_succ _,h⟩
 refine g_ 4 ?_;refine au J ?_ ?_<;>intro B
 refine g_ 5 ?_;exact⟨0,at_,J,cj _,Nat.le_succ _,h⟩
 exact a8 ⟨aS,az,h,I,I⟩
 rintro ρ w ⟨⟨C,rfl⟩,h,c,D⟩;refine lB (alL hN (I:0<W N)) λE F G K b=>?_;refine gg b.2.1 λip M=>?_;have o:=dY at_ c;have p:=alM hN (at_ % nn);refine cM (aa N (at_ % nn) 0) λx d=>?_;rw[d]at p;have q:((n:Nat):Int)≠0:=I;have s:=Int.lt_tmod_of_pos x (I:0<((n:Nat):Int));have u:=Int.tmod_lt_of_pos x (I:0<((n:Nat):Int));refine cM (x.tmod ((n:Nat):Int)) λy f=>?_;rw[f]at s u;have g:=Vc b.2.2 (i:=at_ % nn) I;rw[d]at g;refine bY (cm h [0,4,8,16,20,24,32,36,40,64,13,29,45,48,52,56,61,68,72] ?_);intro w h;refine aC 14 ?_;refine aD J (BR J J c) (aD J (da J J b.1 o) (aQ J h J g (aD J (Dl f (ad6 J J q)) (fG J (cO ?_)))));refine g_ 9 ?_;refine cI ?_;intro w h;refine aJ (cW [(5,5),(41,45)] (λρ w=> ∃k:Nat,Kn ρ [(5,af k)]/\H r w ((ah cb [.slice a nn nc,af (at_+1)] 38)::L)/\(k<n)) ?_ ?_)
 refine g_ 3 ?_;refine ak (rR (v:=0) J J) (aJ (au J ?_ ?_))<;>intro O
 refine g_ 3 ?_;exact ak (Jb J J I I) (ee (aJ ⟨aO 6,((y+((n:Nat):Int)).toNat),(Kn.mk ⟨(int_eq (I:y+((n:Nat):Int)=_)),trivial⟩),h,I⟩))
 exact a8 ⟨aO 2,y.toNat,Kn.mk ⟨(int_eq (I:y=_)),trivial⟩,h,I⟩
 rintro ρ w ⟨k,⟨P,rfl⟩,h,Q⟩;refine g_ 6 ?_;exact⟨k,at_+1,J,I,aW _,h⟩
def rE{x:Nat}(h:H r w L)(l:x<=18446744073709551615)(m:k<=8):Calls PP 13 #[cR x,af k] w λe w'=> ∃ob S c,e= .returned (.slice (aI ob) k c)/\BB ob (bQ x k) S c/\H r w' (EB ob (bQ x k) S::L):=by
 replace h:=h.ghost (C (ar u8 (bQ x 0++[])) 5);refine iI func13 ntmps13 [4] ?_;refine g_ 15 ?_;refine cw (σ:=Nat×Option Nat×List UInt8×Nat) [(0,0),(5,5),(7,16)] (λ⟨i,ob,S,c⟩ ρ w=>Kn ρ [(7,af i),(5,.slice (aI ob) (W (bQ x i)) c),(0,cR (x/256^i))]/\H r w (EB ob (bQ x i) S::L)/\(i<=k)/\(BB ob (bQ x i) S c)) (λ⟨i,ob,S,c⟩=>k-i) (0,none,[],0) ⟨(Kn.mk ⟨J,J,(int_eq (by rw[F8,Nat.div_one])),trivial⟩),h,I,J,λ_=>rfl⟩ ?_;rintro⟨i,ob,S,c⟩ ρ w ⟨⟨n,rfl⟩,h,hi,a⟩;have o:x/256^i<=x:=k6 _ _;have b:=cY x i;refine g_ 5 ?_;refine au J ?_ ?_<;>intro p
 refine g_ 7 ?_;refine ak (DX J J) (mf J (ly _) h ?_);intro d w h;refine mC (X:=bQ x i) (Y:=[bS (x/256^i)]) (F:=[(ah d [iW (x/256^i % (aN .u8+1))] 5)]) h 1 J J J a ⟨_,_,_,J,J,aW _,λ_=>⟨d,0,_,_,J,fQ ..,by rw[yC];rfl,trivial⟩⟩ (λe he=>by rcases jT.1 he with rfl;exact fQ ..) (by rw[b];simp only[dL,eW];omega) J ?_;intro w g c2 S2 h f;dsimp only[bJ]at h;rw[<-ach]at h f;have j:W (bQ x i++[bS (x/256^i)])=W (bQ x (i+1)):=(by rw[ach]);replace h:=h.tail;refine g_ 11 ?_;exact⟨aO 12,(i+1,g,S2,c2),cQ,Kn.mk ⟨J,gS J j,(int_eq (by rw[jI,rM];rfl)),trivial⟩,h,I,f⟩
 refine g_ 7 ?_;obtain rfl:i=k:=I;exact⟨ob,S,c,cD Ending.returned (gS J b),a,h⟩
abbrev bl(b:Bool):Value:= .bool b
def alT{v:Nat}(h:j<n):(cT v n).take (j+1)=(cT v n).take j++[decide (v/2^(n-1-j) % 2=1)]:=by
 rw[lY _ false j (by rw[vN];exact h)];congr 1;simp[cT,bX,h]
def alU{v:Nat}(h:j<n):(eD v n).take (j+1)=(eD v n).take j++[decide (v/2^j % 2=1)]:=by
 rw[lY _ false j (by rw[oT];exact h)];congr 1;simp[eD,bX,h]
def Iv{v:Nat}(h:H r w ((ah bb [.slice (aI ob) (W (bits)) c] 120)::(ob,C (ar bl (bits)++sp) 4)::L))(p:b8 ob (W (bits)) c (ar bl (bits)) sp 1)(z:n<=64)(A:v<=4611686018427387904)(B:W bits<=1099511627776):Calls PP 43 #[bL bb,af v,af n] w λe w'=> ∃f c' k,e= .returned (.tuple #[])/\b8 f (W (bits++cT v n)) c' (ar bl (bits++cT v n)) k 1/\H r w' ((ah bb [.slice (aI f) (W (bits++cT v n)) c'] 120)::(f,C (ar bl (bits++cT v n)++k) 4)::L):=by
 refine nV func43 ntmps43 [] ?_;refine g_ 3 ?_;refine ak (pU J J I I) ?_;refine g_ 3 ?_;refine cw (σ:=Nat×Option Nat×Nat×List Value) [(6,6),(9,26)] (λ⟨j,a,c1,d⟩ ρ w=>Kn ρ [(6,.int .i64 (((n:Nat):Int) -1- ((j:Nat):Int)))]/\H r w ((ah bb [.slice (aI a) (W (bits++(cT v n).take (j))) c1] 120)::(a,C (ar bl (bits++(cT v n).take (j))++d) 4)::L)/\(j<=n)/\(b8 a (W (bits++(cT v n).take (j))) c1 (ar bl (bits++(cT v n).take (j))) d 1)) (λ⟨j,a,c1,d⟩=>n-j) (0,ob,c,sp) ⟨(Kn.mk ⟨(int_eq I),trivial⟩),(by simpa using h),I,(by simpa using p)⟩ ?_;rintro⟨j,a,c1,d⟩ ρ w ⟨⟨D,rfl⟩,h,E,g⟩;have q:W ((cT v n).take j)=j:=(by rw[fR,vN];omega);refine g_ 4 ?_;refine ak (Am (v:=0) J J) (aJ (au J ?_ ?_))<;>intro F
 refine g_ 3 ?_;refine cm h [0,4,8,12,20,24,28,32,36,17,42,47,48,52,59] ?_;intro w h;refine aC 6 ?_;refine aD J (qT (b:=n-1-j) (h2:=⟨I⟩) J J aG) ?_;refine aD J (cG (kJ (n:=1) J J (aM (k6 _ _) aG) an) (show v/2^(n-1-j) % 2^1=v/2^(n-1-j) % 2 from J)) ?_;refine aC 2 ?_;refine ld J J (ae' _) h ?_;intro G w h;refine nU (ar bl (bits++(cT v n).take (j))) d [bl (decide (v/2^(n-1-j) % 2=1))] J h 2 J J J g (Src.slice (j:=0) (q2:=0) J ⟨J,trivial⟩ J) (by intro x l;simp at l;subst l;rfl) (by rw[aF,q];omega) an J ?_;intro w i c2 m h o s t;dsimp only[bJ]at h;have eb:ar bl (bits++(cT v n).take (j))++[bl (decide (v/2^(n-1-j) % 2=1))]=ar bl (bits++(cT v n).take (j+1)):=(by rw[alT I,gJ,gJ,gJ,bV];rfl);rw[eb]at h o;have el:(W (bits++(cT v n).take (j)))+1=W (bits++(cT v n).take (j+1)):=(by rw[alT I];simp only[aF,dL,eW];omega);have u:b8 i (W (bits++(cT v n).take (j+1))) c2 (ar bl (bits++(cT v n).take (j+1))) m 1:=⟨by rw[cB,fg],o,by rw[<-el];exact s,t⟩;replace h:=h.tail;refine aC 2 ?_;refine xF (v:= .slice (aI i) (W (bits++(cT v n).take (j+1))) c2) J h J J (gS J el) J J ?_;intro w h;dsimp only[bJ]at h;exact cO (fD (dg (ak (pU J J I I) (ee (aJ ⟨aO 20,(j+1,i,c2,m),cQ,Kn.mk ⟨(int_eq I),trivial⟩,h,I,u⟩)))))
 refine jl ?_;have y:j=n:=I;rw[y,je (by rw[vN];exact aW _)]at h g;exact⟨a,c1,d,J,g,h⟩
def Lq{v:Nat}(h:H r w ((ah bb [.slice (aI ob) (W (bits)) c] 159)::(ob,C (ar bl (bits)++sp) 4)::L))(o:b8 ob (W (bits)) c (ar bl (bits)) sp 1)(y:n<=64)(z:v<=4611686018427387904)(A:W bits<=1099511627776):Calls PP 69 #[bL bb,af v,af n] w λe w'=> ∃d c' i,e= .returned (.tuple #[])/\b8 d (W (bits++eD v n)) c' (ar bl (bits++eD v n)) i 1/\H r w' ((ah bb [.slice (aI d) (W (bits++eD v n)) c'] 159)::(d,C (ar bl (bits++eD v n)++i) 4)::L):=by
 refine nV func69 ntmps69 [] ?_;refine g_ 6 ?_;refine cw (σ:=Nat×Option Nat×Nat×List Value) [(6,6),(8,25)] (λ⟨j,a,c1,b⟩ ρ w=>Kn ρ [(8,af j)]/\H r w ((ah bb [.slice (aI a) (W (bits++(eD v n).take (j))) c1] 159)::(a,C (ar bl (bits++(eD v n).take (j))++b) 4)::L)/\(j<=n)/\(b8 a (W (bits++(eD v n).take (j))) c1 (ar bl (bits++(eD v n).take (j))) b 1)) (λ⟨j,a,c1,b⟩=>n-j) (0,ob,c,sp) ⟨az,(by simpa using h),I,(by simpa using o)⟩ ?_;rintro⟨j,a,c1,b⟩ ρ w ⟨⟨B,rfl⟩,h,D,f⟩;have p:W ((eD v n).take j)=j:=(by rw[fR,oT];omega);refine g_ 5 ?_;refine au J ?_ ?_<;>intro E
 refine g_ 8 ?_;refine cm h [0,4,8,12,20,24,28,32,36,17,42,47,48,52,59] ?_;intro w h;refine aC 7 ?_;refine aD J (cG (kJ (n:=1) J J (aM (k6 _ _) aG) an) (show v/2^(j) % 2^1=v/2^(j) % 2 from J)) ?_;refine aC 2 ?_;refine ld J J (ae' _) h ?_;intro F w h;refine nU (ar bl (bits++(eD v n).take (j))) b [bl (decide (v/2^(j) % 2=1))] J h 2 J J J f (Src.slice (j:=0) (q2:=0) J ⟨J,trivial⟩ J) (by intro x k;simp at k;subst k;rfl) (by rw[aF,p];omega) an J ?_;intro w g c2 l h m q s;dsimp only[bJ]at h;have eb:ar bl (bits++(eD v n).take (j))++[bl (decide (v/2^(j) % 2=1))]=ar bl (bits++(eD v n).take (j+1)):=(by rw[alU I,gJ,gJ,gJ,bV];rfl);rw[eb]at h m;have el:(W (bits++(eD v n).take (j)))+1=W (bits++(eD v n).take (j+1)):=(by rw[alU I];simp only[aF,dL,eW];omega);have t:b8 g (W (bits++(eD v n).take (j+1))) c2 (ar bl (bits++(eD v n).take (j+1))) l 1:=⟨by rw[cB,fg],m,by rw[<-el];exact q,s⟩;replace h:=h.tail;refine aC 2 ?_;refine xF (v:= .slice (aI g) (W (bits++(eD v n).take (j+1))) c2) J h J J (gS J el) J J ?_;intro w h;dsimp only[bJ]at h;refine cO ?_;refine g_ 4 ?_;exact⟨aO 20,(j+1,g,c2,l),cQ,az,h,I,t⟩
 refine jl ?_;have u:j=n:=I;rw[u,je (by rw[oT];exact aW _)]at h f;exact⟨a,c1,b,J,f,h⟩
def aCT(n:Nat):bQ 0 n=aT n 0:=by
 apply nR;intro i;by_cases h:i<n
 simp[bQ,h]
 rw[gB (by rw[cY];omega),gB (by simp;omega)]
def alV(n:Nat):dD [Value.int .u8 ((0:Nat):Int)] n=ar u8 (bQ 0 n):=by
 rw[D6,aCT,xz];rfl
def Iw{n:Nat}:2^(n % 8)<=128:=aM (dF an (I:n % 8<=7)) an
def aCU{x:UInt8}{n:Nat}:x.toNat|||1*2^(n % 8)<256:=by
 have h1:=x.toNat_lt;have h2:= @Iw n;exact Nat.or_lt_two_pow (n:=8) h1 I
def aci{N m:Nat}(a:k/8<m)(b:N/2^k % 2=0):(ar u8 (bQ N m)).set (k/8) (.int .u8 (((aa (bQ N m) (k/8) 0).toNat|||1*2^(k % 8):Nat):Int))=ar u8 (bQ (N+2^k) m):=by
 have e:Value.int .u8 (((aa (bQ N m) (k/8) 0).toNat|||1*2^(k % 8):Nat):Int)=u8 (bS ((aa (bQ N m) (k/8) 0).toNat|||2^(k % 8))):=(by have:= @aCU (aa (bQ N m) (k/8) 0) k;rw[rN]at this ⊢;rw[yC];exact int_eq (cD Int.ofNat (iV this).symm));rw[e,<-aCS a b,kH]
def uw(bits:List Bool)(i:Nat):Nat:=2^W bits+jd (bits.take i)*2^(W bits-i)
def aCV(bits:List Bool):uw bits 0=2^W bits:=by simp[uw,jd]
def aCW(bits:List Bool):uw bits (W bits)=2^W bits+jd bits:=by simp[uw]
def aCX(h:i<W bits):uw bits i/2^(W bits-1-i) % 2=0:=by
 unfold uw;have a:2^(W bits-i)=2^(W bits-1-i)*2:=(by rw[<-jI];congr 1;omega);have e2:2^W bits=2^(W bits-1-i)*(2^i*2):=(by rw[<-jI,<-h_];congr 1;omega);rw[a,e2,im (jd _),sK,<-yO,Nat.mul_div_cancel_left _ (eA _)];omega
def aCY(h:i<W bits)(hb:aa bits i false=true):uw bits i+2^(W bits-1-i)=uw bits (i+1):=by
 unfold uw;rw[lY _ false i h,hb,alS];have a:2^(W bits-i)=2*2^(W bits-1-i):=(by rw[<-xu];congr 1;omega);rw[show W bits- (i+1)=W bits-1-i by omega,a];simp only[Bool.toNat_true,qQ,rN];rw[<-sK,im (jd _) 2];omega
def aCZ(h:i<W bits)(hb:aa bits i false=false):uw bits i=uw bits (i+1):=by
 unfold uw;rw[lY _ false i h,hb,alS];have a:2^(W bits-i)=2*2^(W bits-1-i):=(by rw[<-xu];congr 1;omega);rw[show W bits- (i+1)=W bits-1-i by omega,a];simp only[Bool.toNat_false,kN];rw[<-sK,im (jd _) 2]
def Ix{size:Nat}{xs:List Value}(h:b8 ob n c xs sp size)(a:0<n): ∃b,ob=some b:=by
 cases ob with
 |none=>have h1:=h.2.2.2 J;have h2:=h.2.2.1;omega
 |some b=>exact⟨b,J⟩
def alW(h:i<W bits):(ar bl bits++sp)[i]? =some (bl (aa bits i false)):=by
 rw[gP (by rw[cB];exact h)];simp[h]
def acj(h:H r w ((ah bb [.slice (aI ob) (W (bits)) c] 120)::(ob,C (ar bl (bits)++sp) 4)::L))(f:b8 ob (W (bits)) c (ar bl (bits)) sp 1)(k:W bits<=1099511627776):Calls PP 44 #[bL bb] w λe w'=> ∃bd,e= .returned (cK bd (W (kX bits)) (W (kX bits)))/\H r w' (EB (some bd) (kX bits) []::L):=by
 refine iu func44 ntmps44 [2] ?_;refine g_ 16 ?_;refine ak (nS (b:=8) (h2:=av.lit _) J J an aG) ?_;refine g_ 1 ?_;refine uK h J J J I I I J ?_;intro bd w h;rw[alV]at h;refine g_ 3 ?_;refine cm h [0,4,8,12,20,24,28,17,32,36,43] ?_;intro w h;replace h:=h.zz [2,2,2] 0;refine aC 2 ?_;refine aD J (nS (b:=8) (h2:=av.lit _) J J an aG) ?_;refine aC 2 ?_;refine aD J (BR (b:=8) (h2:=av.lit _) J J an) ?_;refine aD J (eB (a:=1) (h1:=av.lit _) J J dQ (by rw[rN];exact aM Iw an)) ?_;refine aQ J h J (gX (by rw[cY];omega)) ?_;refine aD J (fq J J (dT _ an) (by rw[rN];exact aM Iw an)) ?_;refine aC 1 ?_;refine xF (v:=iW ((aa (bQ (0) (W bits/8+1)) ((W bits)/8) 0).toNat|||1*2^((W bits) % 8))) J h J (gX (by rw[cY];omega)) J J J ?_;intro w h;dsimp only[bJ]at h;rw[aci I (by rw[Nat.zero_div]),il]at h;refine cO ?_;refine g_ 11 ?_;refine cw (σ:=Nat) [(5,7),(32,52)] (λi ρ w=>Kn ρ [(32,af i)]/\H r w ((ah bd (ar u8 (bQ (uw bits i) (W bits/8+1))) 5)::(ah bb [.slice (aI ob) (W (bits)) c] 120)::(ob,C (ar bl (bits)++sp) 4)::L)/\(i<=W bits)) (λi=>W bits-i) (0) ⟨az,(by rw[aCV];exact h),I⟩ ?_;rintro i ρ w ⟨⟨l,rfl⟩,h,hi⟩;refine g_ 5 ?_;refine au J ?_ ?_<;>intro m
 refine(Ix f I).elim λb0 g=>?_;subst g;refine a8 (bY (kp [(5,7),(34,51)] (λρ w=>Kn ρ []/\H r w ((ah bd (ar u8 (bQ (uw bits (i+1)) (W bits/8+1))) 5)::(ah bb [.slice (aI (some b0)) (W (bits)) c] 120)::((some b0),C (ar bl (bits)++sp) 4)::L)) ?_ ?_))
 refine g_ 4 ?_;refine aX h J (alW I) ?_;refine g_ 15 ?_;refine eY J ?_ ?_<;>intro d
 refine cm h [0,4,8,12,20,24,28,17,32,36,43] ?_;intro w h;refine aC 2 ?_;refine aD J (nS (b:=8) (h2:=av.lit _) J J an aG) ?_;refine aC 2 ?_;refine aD J (BR (b:=8) (h2:=av.lit _) J J an) ?_;refine aD J (eB (a:=1) (h1:=av.lit _) J J dQ (by rw[rN];exact aM Iw an)) ?_;refine aQ J h J (gX (by rw[cY];omega)) ?_;refine aD J (fq J J (dT _ an) (by rw[rN];exact aM Iw an)) ?_;refine aC 1 ?_;refine xF (v:=iW ((aa (bQ (uw bits i) (W bits/8+1)) ((W bits-1-i)/8) 0).toNat|||1*2^((W bits-1-i) % 8))) J h J (gX (by rw[cY];omega)) J J J ?_;intro w h;dsimp only[bJ]at h;rw[aci I (aCX I),aCY I d]at h;exact cO ⟨aO 22,az,h⟩
 refine a8 (⟨aO 11,?_⟩);rw[aCZ I d]at h;exact⟨az,h⟩
 rintro ρ w ⟨⟨n,rfl⟩,h⟩;refine g_ 4 ?_;exact⟨aO 4,i+1,cQ,az,h,I⟩
 refine g_ 7 ?_;have j:i=W bits:=I;rw[j,aCW]at h;refine⟨bd,cD Ending.returned (jw J (Dm _).symm (Dm _).symm),?_⟩;have e:ar u8 (bQ (2^W bits+jd bits) (W bits/8+1))=ar u8 (kX bits++[]):=(by rw[dN];rfl);rw[e]at h;exact(((h.mv 1).tail).mv 1).tail
variable {to:Int}{cs:List dx}{F:List aK}{S:List Nat}{Y:List Value}{sym:Nat}{ad:Option Addr}{p:Prop}
def ux(c:dx)(to:Int):Prop:=(c.base:Int)<=to/\to<((c.base+2^c.bits:Nat):Int)
def Bw(cs:List dx)(sym:Nat)(to:Int)(n:Nat)(k:Int):Prop:=
 (k= -1/\ ∀i,i<n->(aa cs i default).sym=sym->0<=to/\ ¬ux (aa cs i default) to)\/(∃i:Nat,k=(i:Int)/\i<n/\(aa cs i default).sym=sym/\(0<=to->ux (aa cs i default) to)/\(to<0-> ∀j,j<n->(aa cs j default).sym=sym->(aa cs j default).bits<=(aa cs i default).bits))
def aC0{k:Int}(hb:Bw cs sym to n k)(hs:(aa cs n default).sym=sym)(h:0<=to->ux (aa cs n default) to)(h2:to<0->k<0\/(aa cs k.toNat default).bits<(aa cs n default).bits):Bw cs sym to (n+1) (n:Int):=
 bG ⟨n,J,F_ _,hs,h,λb j g c=>by
   rcases dq j n with a|a
   . rcases hb with⟨h1,d⟩| ⟨i,h1,d,l,m,f⟩
     . have:=(d j a c).1;omega
     . have o:=f b j a c
       rcases h2 b with e|e
       . omega
       . rw[h1,Qz]at e;omega
   . have:j=n:=I
     subst this;exact aW _⟩
def alX{k:Int}(hb:Bw cs sym to n k)(h:(aa cs n default).sym=sym->(0<=to/\ ¬ux (aa cs n default) to)\/(to<0/\0<=k/\(aa cs n default).bits<=(aa cs k.toNat default).bits)):Bw cs sym to (n+1) k:=by
 rcases hb with⟨h1,h2⟩| ⟨i,h1,h2,e,f,b⟩
 refine a_ ⟨h1,λi hi hs=>?_⟩;rcases dq i n with a|a
 exact h2 i a hs
 have:i=n:=I;subst this;rcases h hs with b|b
 exact b
 omega
 refine bG ⟨i,h1,I,e,f,λg j l d=>?_⟩;rcases dq j n with a|a
 exact b g j a d
 have:j=n:=I;subst this;rcases h d with c|c
 omega
 rw[h1,Qz]at c;exact c.2.2
def alY{k:Int}(hb:Bw cs sym to n k)(h: ¬k<0):k.toNat<n:=by
 rcases hb with⟨h1,h2⟩| ⟨i,h1,h2,a,b,_⟩
 omega
 omega
def ack(h:p:=by refine g_ 4 ?_;replace h:=h.tail;(try dsimp only[dX]at h);exact⟨aS,(i:Int),Kn.mk ⟨J,trivial⟩,h,aC0 hb (oB.1 p6) (λh0=>by unfold ux;rw[hp];first|omega|exact absurd h0 I) (λh0=>by first| (left;omega)| (right;omega))⟩):p:=h
def acm(h:p:=by replace h:=h.tail;(try dsimp only[dX]at h);exact⟨aS,k,Kn.mk ⟨J,trivial⟩,h,alX hb (λhs=>by unfold ux;rw[hp];first|exact absurd hs p6| (left;omega)| (right;omega))⟩):p:=h
def alZ(h:p:=by refine sF J J J J J (sF J J J J J (sF J J J J J (sF J J J J J (sF J J J J J (sF J J J J J (sF J J J J J (sF J J J J J ?_)))))));refine aC 3 ?_;refine jv J ?_;exact ack):p:=h
def al0(h:p:=by refine aC 8 ?_;refine dz J J J J (λw=>wk J) J ?_;refine aC 2 ?_;refine gK J (a8 ?_);exact acm):p:=h
def acn{cb d lg:Nat}(h:H r w F)(hm:(ah cb (gC cs) 126)∈F)(z:W cs<=65536)(o: ∀i,i<W cs->(aa cs i default).bits<=9/\(aa cs i default).base<=65536)(A: -1<=to/\to<=4294967296):Calls PP 42 #[.agg #[cK cb (W cs) d,af lg],af sym,.int .i64 to] w λe w'=> ∃k,e= .returned (.int .i64 k)/\Bw cs sym to (W cs) k/\H r w' F:=by
 refine gg hm λic q=>(nV func42 ntmps42 [6] ?_);refine bY (fD (tL h J J J ?_));intro n w h;refine g_ 15 ?_;refine cw (σ:=Nat×Int) [(7,9),(13,56)] (λ⟨i,k⟩ ρ w=>Kn ρ [(13,af i),(7,.int .i64 k)]/\H r w ((ah n [cK cb (W cs) d,af lg] 124)::F)/\(i<=W cs)/\(Bw cs sym to i k)) (λ⟨i,k⟩=>W cs-i) (0,-1) ⟨(Kn.mk ⟨J,J,trivial⟩),h,I,(a_ ⟨J,λi hi=>absurd hi (ma _)⟩)⟩ ?_;rintro⟨i,k⟩ ρ w ⟨⟨B,rfl⟩,h,hi,hb⟩;refine g_ 5 ?_;refine au J ?_ ?_<;>intro C
 have s:=o i I;refine cM (2^(aa cs i default).bits) λp hp=>?_;have D:p<=512:=(by rw[<-hp];exact aM (dF an s.1) an);refine a8 (bY (kp [(7,9),(15,55)] (λρ w=> ∃c:Int,Kn ρ [(7,.int .i64 c)]/\H r w ((ah n [cK cb (W cs) d,af lg] 124)::F)/\(Bw cs sym to (i+1) c)) ?_ ?_))
 refine g_ 3 ?_;refine ak (lu J J J I) (ak (jx (wy (aa cs i default)) h J (Re I) J) (eN h J ?_));intro E w h;refine ee (cI ?_);intro w h;refine g_ 9 ?_;refine au J ?_ ?_<;>intro p6
 refine jl ?_;replace h:=h.tail;(try dsimp only[dX]at h);exact⟨aO 10,k,Kn.mk ⟨J,trivial⟩,h,alX hb (λhs=>by unfold ux;rw[hp];first|exact absurd hs p6| (left;omega)| (right;omega))⟩
 refine a8 (bY (cm h [0,4,8,12,16,20,24,32,40,29,37,44,48,53,56,60,64,68,72,76,81,84,88,92,96,104,101,109,112,116,120,124,128] ?_));intro w h;refine lx J (aD J (rR (v:=0) J J) (lx J (BU (t:=24) J (λf=>?_) (λf=>?_))))
 refine dz J J J J (λw=>run_move) J (dz J J J J (λw=>rR (v:=0) J J) J (dz J J J J (λw=>run_move) J (BU (t:=27) J (λg=>?_) (λg=>?_))))
 refine aC 9 ?_;refine dz J J J J (λw=>tJ J) J ?_;refine aC 7 ?_;exact alZ
 refine dz J J J J (λw=>pg J) J (dz J J J J (λw=>pg J) J (dz J J J J (λw=>run_move) J (qk J J J J (λw b=>run_load (h.keeps b) J J) J (qk J J J J (λw b=>run_load (h.keeps b) J J) J (dz J J J J (λw=>lu (a:=k.toNat) (h1:=⟨I⟩) J J J (by have:=alY hb g;omega)) J ?_)))));refine dz J J J J (λw=>pg J) J (qk J J J J (λw b=>run_load (h.keeps b) J (Rf (j:=1) (by have:=alY hb g;omega) an)) J ?_);refine dz J J J J (λw=>Mr J J) J (dz J J J J (λw=>wk J) J ?_);refine aC 2 ?_;refine BU (t:=39) J (λl=>?_) (λl=>?_)
 refine aC 5 ?_;exact alZ
 refine dz J J J J (λw=>run_move) J (dz J J J J (λw=>pg J) J (qk J J J J (λw b=>run_load (h.keeps b) J J) J (dz J J J J (λw=>Am J J) J (dz J J J J (λw=>run_move) J (BU (t:=44) J (λm=>?_) (λm=>?_))))))
 refine dz J J J J (λw=>run_move) J (dz J J J J (λw=>pg J) J (dz J J J J (λw=>pg J) J (qk J J J J (λw b=>run_load (h.keeps b) J J) J (qk J J J J (λw b=>run_load (h.keeps b) J J) J (dz J J J J (λw=>cG (gY J J dQ (by rw[hp];simp only[aN];omega)) hp) J ?_)))));refine dz J J J J (λw=>eR J J aG) J (dz J J J J (λw=>rR J J) J (dz J J J J (λw=>tJ J) J ?_));refine aC 2 ?_;refine au J ?_ ?_<;>intro u
 exact ack
 refine a8 ?_;exact acm
 exact al0
 refine aC 3 ?_;refine sF J J J J J (sF J J J J J (sF J J J J J (sF J J J J J (sF J J J J J (sF J J J J J (sF J J J J J (sF J J J J J (sF J J J J J ?_))))))));refine aC 3 ?_;refine dz J J J J (λw=>run_move) J (dz J J J J (λw=>pg J) J (qk J J J J (λw b=>run_load (h.keeps b) J J) J (dz J J J J (λw=>Am J J) J (dz J J J J (λw=>run_move) J (BU (t:=44) J (λm=>?_) (λm=>?_))))))
 refine dz J J J J (λw=>run_move) J (dz J J J J (λw=>pg J) J (dz J J J J (λw=>pg J) J (qk J J J J (λw b=>run_load (h.keeps b) J J) J (qk J J J J (λw b=>run_load (h.keeps b) J J) J (dz J J J J (λw=>cG (gY J J dQ (by rw[hp];simp only[aN];omega)) hp) J ?_)))));refine dz J J J J (λw=>eR J J aG) J (dz J J J J (λw=>rR J J) J (dz J J J J (λw=>tJ J) J ?_));refine aC 2 ?_;refine au J ?_ ?_<;>intro u
 exact ack
 refine a8 ?_;exact acm
 exact al0
 rintro ρ w ⟨c,⟨x,rfl⟩,h,y⟩;refine g_ 4 ?_;exact⟨aO 4,(i+1,c),cQ,Kn.mk ⟨J,J,trivial⟩,h,I,y⟩
 refine g_ 7 ?_;obtain rfl:i=W cs:=I;exact⟨k,J,hb,h.tail⟩
def aC3(a:k<=2):(cE k).1<=52/\(cE k).2<=9:=by
 rcases(I:k=0\/k=1\/k=2)with rfl|rfl|rfl<;>decide
def aC4{a a' b b' c c':Value}(h1:a=a')(h2:b=b')(d:c=c'):Value.tuple #[a,b,c]= .tuple #[a',b',c']:=by rw[h1,h2,d]
def aC5(a:1<=c)(h:c<=(cE k).1+1):k=1->c-1<=31:=λe=>by subst e;have:(cE 1).1=31:=rfl;omega
def aC6(a:1<=c)(h:c<=(cE k).1+1):k=0->c-1<=35:=λe=>by subst e;have:(cE 0).1=35:=rfl;omega
def aC7(a:1<=c)(h:c<=(cE k).1+1):k=2->c-1<=52:=λe=>by subst e;have:(cE 2).1=52:=rfl;omega
def aC8{kind:Nat}(h:H r w F)(a:kind<=2)(g:(codeF kind 0).1<=n)(k:n<=1099511627776):Calls PP 40 #[af kind,af n] w λe w'=> ∃c,e= .returned (.tuple #[af c,af (n- (codeF kind c).1),af (codeF kind c).2])/\c<=(cE kind).1/\(codeF kind c).1<=n/\(c<(cE kind).1->n<(codeF kind (c+1)).1)/\H r w' F:=by
 have l:=aC3 a;refine iI func40 ntmps40 [4,5,6] ?_;refine g_ 9 ?_;refine d' J J (aH (Q' a) ?_);rintro e i ⟨rfl,rfl⟩;refine g_ 13 ?_;refine cw (σ:=Nat) [(4,6),(9,11),(18,35)] (λc1 ρ w=>Kn ρ [(9,.int .i64 (((c1:Nat):Int) -1))]/\H r w (F)/\(c1<=(cE kind).1+1)/\(c1<=(cE kind).1->n<(codeF kind c1).1)) (λc1=>c1) ((cE kind).1+1) ⟨(Kn.mk ⟨(int_eq I),trivial⟩),h,(aW _),(λe=>absurd e I)⟩ ?_;rintro c1 ρ w ⟨⟨j,rfl⟩,h,b,f⟩;refine g_ 4 ?_;refine ak (Am (v:=0) J J) (aJ (au J ?_ ?_))<;>intro m
 refine g_ 7 ?_;refine cJ (v0:=af kind) (v1:=af (c1-1)) J (int_eq I) J (aH (afy h a (aC5 I b) (aC6 I b) (aC7 I b)) ?_);rintro e i ⟨rfl,h⟩;refine g_ 12 ?_;refine au J ?_ ?_<;>intro d
 refine g_ 5 ?_;refine ak (jm J J d aG) ?_;refine g_ 6 ?_;exact⟨c1-1,cD Ending.returned (aC4 (int_eq I) J J),I,d,λe=>by have:=f I;rw[show c1-1+1=c1 by omega];exact this,h⟩
 refine g_ 3 ?_;exact ak (pU (v:=1) J J I I) (ee (aJ ⟨aO 16,c1-1,cQ,Kn.mk ⟨(int_eq I),trivial⟩,h,I,(λ_=>Nat.not_le.1 d)⟩))
 refine g_ 8 ?_;exfalso;obtain rfl:c1=0:=I;exact absurd (f (cj _)) (BN.2 g)
def iQ(F:List aK)(v:Value)(Y:List Value):Prop:= ∃ad n c,v= .slice ad n c/\n=W Y/\n<=c/\(0<n-> ∃b q l T,ad=some ⟨b,q,none⟩/\(some b,C l T)∈F/\Rd l q Y)
def iQ.sub{a:List aK}{v:Value}(h:iQ F v Y)(hs:Sub F a):iQ a v Y:=by
 obtain⟨ad,n,c,h1,h2,d,e⟩:=h;refine⟨ad,n,c,h1,h2,d,λf=>?_⟩;obtain⟨b,q,l,T,g,e2,i⟩:=e f;exact⟨b,q,l,T,g,hs _ e2,i⟩
def iQ.len(h:iQ F (.slice ad n c) Y):n=W Y/\n<=c:=by
 obtain⟨_,_,_,e,h1,h2,_⟩:=h;cases e;exact⟨h1,h2⟩
def iQ.fp(h:iQ F (.slice ad n c) Y)(d:0<W Y): ∃b q l T,ad=some ⟨b,q,none⟩/\(ah b l T)∈F/\Rd l q Y:=by
 obtain⟨_,_,_,e,h1,h2,a⟩:=h;cases e;exact a I
def iQ.own{T:TT}(h:b8 ob (W Y) c Y sp 1):iQ ((ob,C (Y++sp) T)::F) (.slice (aI ob) (W Y) c) Y:=by
 refine⟨aI ob,_,c,J,J,h.2.2.1,λa=>?_⟩;obtain⟨b,rfl⟩:=Ix h a;exact⟨b,0,_,_,J,fQ ..,Rd.left _ _⟩
def om{l:List Value}{q:Nat}(h:Rd l q (S.map af))(hi:i<W S):l[q+i]? =some (af (aa S i 0)):=by
 rw[h.get i (by rw[cB];exact hi)];exact kq hi
def al1(t:Tb):Prop:=W t.cells<=65536/\ ∀i,i<W t.cells->(t.cells.getD i default).bits<=9/\(t.cells.getD i default).base<=65536
def Bz(t:Tb)(s:Nat):Prop:= ∃i,i<W t.cells/\(t.cells.getD i default).sym=s
def aC_{k:Int}(hb:Bw cs sym (-1) (W cs) k)(h: ¬k<0): ∃i,i<W cs/\(aa cs i default).sym=sym:=by
 rcases hb with⟨h1,_⟩| ⟨i,h1,h2,a,_,_⟩
 omega
 exact⟨i,h2,a⟩
def aC'{v:Value}(h:H r w F):Calls PP 55 #[.pointer none,v] w λe w'=>e= .returned (.bool false)/\H r w' F:=by
 refine iI func55 ntmps55 [4] ?_;refine g_ 8 ?_;refine ak (Ys J J) (aJ (jv J ?_));refine g_ 5 ?_;exact⟨J,h⟩
def al2{p:Value}{t:Tb}(h:H r w F)(l:mN F p t)(hb:al1 t)(f:iQ F (.slice ad n c) (S.map af))(A:n<=1099511627776):Calls PP 55 #[p,.slice ad n c] w λe w'=> ∃b,e= .returned (.bool b)/\(b=true-> ∀s,s∈S->Bz t s)/\H r w' F:=by
 obtain⟨tb,cb,rfl,m,o⟩:=l;obtain⟨i1,B⟩:=dw m;have q:=f.len;rw[cB]at q;refine iI func55 ntmps55 [4] ?_;refine g_ 8 ?_;refine ak (Ys J J) (aJ (gK J ?_));refine g_ 9 ?_;refine cw (σ:=Nat) [(4,4),(6,6),(11,21)] (λi ρ w=>Kn ρ [(11,af i)]/\H r w (F)/\(i<=n)/\(∀j,j<i->Bz t (aa S j 0))) (λi=>n-i) (0) ⟨az,h,I,(λj a=>absurd a (ma _))⟩ ?_;rintro i ρ w ⟨⟨u,rfl⟩,h,hi,g⟩;refine g_ 5 ?_;refine au J ?_ ?_<;>intro C
 refine lB (f.fp (show 0<W (S.map af) by rw[cB];omega)) λD E G K d=>?_;refine gg d.2.1 λip L=>?_;refine g_ 5 ?_;refine ak (da J J d.1 I) (aX h J (om d.2.2 I) ?_);refine g_ 6 ?_;refine ak (jx [_,_] h J ⟨J,J,trivial⟩ J) (dg (eS J J J J (aH (acn (to:= -1) h o hb.1 hb.2 an) ?_)));rintro e M ⟨k,rfl,x,h⟩;refine ak (rR (v:=0) J J) (aJ (au J ?_ ?_))<;>intro y
 refine g_ 5 ?_;exact⟨false,J,(λe=>by cases e),h⟩
 refine g_ 5 ?_;exact⟨aO 12,i+1,cQ,az,h,I,(λj a=>by rcases xB.1 a with z|rfl;exact g j z;exact aC_ x y)⟩
 refine g_ 6 ?_;exact⟨true,J,(λ_ s hs=>by obtain⟨j,a,rfl⟩:=DO hs;have:=g j I;rw[bX,gW a]at this;exact this),h⟩
structure Wr where
 cb:Nat
 ta:Option Addr
 tn:Nat
 tc:Nat
 at_:Nat
 bO:Nat
 la:Option Addr
 ln:Nat
 lc:Nat
 p0:Value
 p1:Value
 p2:Value
 a:Nat
 b:Nat
 c:Nat
 mb:Nat
 seen:Nat
def bj(x:Wr):List Value:=[.pointer (some ⟨x.cb,0,none⟩),.slice x.ta x.tn x.tc,af x.at_,af x.bO,.slice x.la x.ln x.lc,x.p0,x.p1,x.p2,af x.a,af x.b,af x.c,.map (some x.mb),af x.seen]
def WOf(x:Wr)(a b c:Nat):Wr:={x with a:=a,b:=b,c:=c}
section
variable {x:Wr}{n a b c:Nat}{v:Value}{ad:Option Addr}
def al3:(((bj x).set 8 (af a)).set 9 (af b)).set 10 (af c)=bj (WOf x a b c):=rfl
end
def aDb{wb cy:Nat}{none:Bool}{x:Wr}{nn nc at_:Nat}{i:Option Addr}{N:List Int}(h:H r w ((ah wb (bj x) 49)::(some x.cb,C [.slice i nn nc,af at_] 38)::L))(hN:og L (.slice i nn nc) N)(y:at_<=2305843009213693952)(z:1<=cy)(A:cy<=1099511627776)(k:1<=x.a)(l:x.a<=1099511627776):Calls PP 27 #[.pointer (some ⟨wb,0,Option.none⟩),af cy,.bool none] w λe w'=> ∃v at' b' c',e= .returned (af v)/\1<=v/\v<=cy+3/\mY v none x.a x.b x.c=(cy,b',c')/\at'<=at_+3/\H r w' ((ah wb (bj (WOf x cy b' c')) 49)::(some x.cb,C [.slice i nn nc,af at'] 38)::L):=by
 refine nV func27 ntmps27 [6] ?_;refine g_ 10 ?_;refine cw (σ:=Nat×Nat) [(6,36)] (λ⟨v,d⟩ ρ w=>Kn ρ [(7,af v)]/\H r w ((ah wb (bj x) 49)::(some x.cb,C [.slice i nn nc,af d] 38)::L)/\(1<=v)/\(v<=4)/\(d+1<=at_+v)) (λ⟨v,d⟩=>4-v) (1,at_) ⟨az,h,I,I,I⟩ ?_;rintro⟨v,d⟩ ρ w ⟨⟨m,rfl⟩,h,j,o,p⟩;refine g_ 6 ?_;refine au J ?_ ?_<;>intro B
 refine a8 (bY (kp [(6,6),(8,8),(13,36)] (λρ w=> ∃f:Nat,Kn ρ []/\H r w ((ah wb (bj x) 49)::(some x.cb,C [.slice i nn nc,af f] 38)::L)/\(f+1<=at_+(v+1))) ?_ ?_))
 refine g_ 5 ?_;refine ak (jx [_,_,_] h J ⟨J,J,J,trivial⟩ J) (ak (Gj (aqL _ _ _) J) (eN h J ?_));intro bs w h;refine cI ?_;intro w h;refine g_ 5 ?_;refine eS J J J J (aH (afA h j I k l) ?_);rintro e q ⟨a',b',c',s,rfl,h⟩;refine g_ 3 ?_;refine eM (t:=23) J (λg=>?_) (λg=>?_)
 refine g_ 4 ?_;replace h:=h.zz [1,1,2] 0;refine xm (v1:=af 8) J J J J J J (aH (lR (n:=8) (at_:=d) h (hN.sub aP) I an) ?_);rintro e q ⟨D,f,rfl,E,F,h⟩;refine g_ 3 ?_;refine au J ?_ ?_<;>intro G
 refine g_ 4 ?_;refine ak (jx [_,_,_] h J ⟨J,J,J,trivial⟩ J) ?_;refine g_ 2 ?_;refine rW h J J J J (fS J) J ?_;intro w h;(try dsimp only[dm,bJ]at h);rw[al3]at h;refine g_ 7 ?_;replace h:=h.zz [2,2] 1;exact⟨v,f,b',c',J,j,I,by rw[s,<-g],I,g▸h⟩
 refine a8 ?_;replace h:=h.zz [2,2] 1;exact⟨aS,f,az,h,I⟩
 refine g_ 8 ?_;refine gK J (a8 ?_);replace h:=h.tail;(try dsimp only[dX]at h);exact⟨aS,d,az,h,I⟩
 rintro ρ w ⟨f,⟨u,rfl⟩,h,K⟩;refine g_ 5 ?_;exact⟨aO 6,(v+1,f),cQ,az,h,I,I,I⟩
 refine jl (bY (cm h [0,4,8,12,16,20,28,32,36,40,25,45,48,52,56,63] ?_));intro w h;refine aC 12 ?_;refine aD J (xH (MG _ _ _) J J J) ?_;refine aC 2 ?_;refine MF J h J J J J (fS J) J ?_;intro w h;(try dsimp only[dm,bJ]at h);rw[al3]at h;refine cO ?_;refine g_ 7 ?_;exact⟨cy+3,d,x.a,x.b,J,I,aW _,by unfold mY;rw[ao I];rfl,I,h⟩
variable {l:List Int}{f:Nat}
def yD(n:Nat):Nat:=n.log2+1
def lT(left v:Nat):List Bool:=
 if v<2^yD (left+1) -1- (left+1)then eD v (yD (left+1) -1)
 else if v<2^(yD (left+1) -1)then eD v (yD (left+1))
 else eD (v+(2^yD (left+1) -1- (left+1))) (yD (left+1))
def oU:Nat->Nat->List Bool
 |0,_=> []
 |f+1,z=>if 3<=z then eD 3 2++oU f (z-3)else eD z 2
def j6:List Int->Nat
 | []=>0
 |p::l=>if p=0 then j6 l+1 else 0
def al4: ∀l:List Int,j6 l<=W l
 | []=>aW _
 | p::l=>by
  unfold j6;split
  have:=al4 l;simp only[dL];omega
  exact cj _
def al5: ∀(l:List Int) (z:Nat),(∀j,j<z->aa l j 1=0)->(W l<=z\/aa l z 1≠0)->z<=W l->j6 l=z
 | [],z,_,_,a=>by simp at a;subst a;rfl
 | p::l,0,_,h2,_=>by
  unfold j6;rcases h2 with h2|h2
  simp at h2
  rw[aj (by simpa using h2)]
 |p::l,z+1,h1,h2,a=>by unfold j6;have b:=h1 0 (F7 _);rw[ao (by simpa using b),al5 l z (λj c=>by have:=h1 (j+1) I;simpa using this) (h2.imp (λh=>by simpa using h) (λh=>by simpa using h)) (by simpa using a)]
def fK(p:Int):Nat:=if p= -1 then 1 else p.toNat
def BA:Nat->Nat->List Int->List Bool
 |0,_,_=> []
 |_+1,_,[]=> []
 |f+1,left,p::l=>lT left (p+1).toNat++(if p=0 then oU (W l) (j6 l)++BA f left (l.drop (j6 l))else BA f (left-fK p) l)
def acq: ∀(f g left:Nat) (l:List Int),W l<=f->W l<=g->BA f left l=BA g left l
 |0,0,_,_,_,_=>rfl
 |0,g+1,left,l,h,_=>by have:l=[]:=k7.1 I;subst this;rfl
 |f+1,0,left,l,_,h=>by have:l=[]:=k7.1 I;subst this;rfl
 |f+1,g+1,left,[],_,_=>rfl
 |f+1,g+1,left,p::l,h1,h2=>by simp only[dL]at h1 h2;unfold BA;rw[acq f g left (l.drop (j6 l)) (by rw[cr];omega) (by rw[cr];omega),acq f g (left-fK p) l I I]
def kh(left:Nat)(l:List Int):List Bool:=BA (W l) left l
def al6{left:Nat}{p:Int}(h:p≠0):kh left (p::l)=lT left (p+1).toNat++kh (left-fK p) l:=by
 unfold kh;simp only[dL];(conv=>lhs;unfold BA);rw[aj h]
def al7{left:Nat}:kh left (0::l)=lT left 1++(oU (W l) (j6 l)++kh left (l.drop (j6 l))):=by
 unfold kh;simp only[dL];(conv=>lhs;unfold BA);rw[ao J];have e:=acq (W l) (W (l.drop (j6 l))) left (l.drop (j6 l)) (by rw[cr];omega) (aW _);rw[e];rfl
def drop_cons(h:i<W l):l.drop i=aa l i 0::l.drop (i+1):=by
 rw[List.drop_eq_getElem_cons h];simp[h]
def aDe{z:Nat}(h:3<=z)(a:z<=f):oU f z=eD 3 2++oU (f-1) (z-3):=by
 cases f with
 |zero=>omega
 |succ f=>rw[oU,ao h];rfl
def aDf{z:Nat}(h:z<3)(a:0<f):oU f z=eD z 2:=by
 cases f with
 |zero=>omega
 |succ f=>rw[oU,aj I]
def acr: ∀(f g z:Nat),z<f->z<g->oU f z=oU g z
 |0,_,_,h,_=>by omega
 |_,0,_,_,h=>by omega
 | f+1,g+1,z,h1,h2=>by
  unfold oU;split
  rw[acr f g (z-3) I I]
  rfl
def Pe: ∀a b:List Bool,ng (a++b)=ng a+2^W a*ng b
 | [],b=>by simp[ng]
 |x::a,b=>by simp only[List.cons_append,ng,Pe a b,dL,jI];rw[yO,<-sK,im 2 (2^W a)];omega
def acs: ∀l:List Bool,ng l<2^W l
 | []=>by simp[ng]
 |b::l=>by have:=acs l;have:b.toNat<=1:=(by cases b<;>simp);simp only[ng,dL,jI];omega
def aDg{l:List Bool}(h:i<W l):ng (l.take i)/2^i % 2=0:=by
 have:=acs (l.take i);rw[fR,l9 I]at this;rw[yN this]
def aDh{l:List Bool}(h:i<W l)(hb:aa l i false=true):ng (l.take i)+2^i=ng (l.take (i+1)):=by
 rw[lY _ false i h,hb,Pe,fR,l9 I];simp[ng]
def aDi{l:List Bool}(h:i<W l)(hb:aa l i false=false):ng (l.take i)=ng (l.take (i+1)):=by
 rw[lY _ false i h,hb,Pe];simp[ng]
def aDj{m:Nat}(hm:0<m)(h1:2^(n-1)<=m)(h2:m<2^n):yD m=n:=by
 unfold yD;have a:n≠0:=λe=>(by subst e;simp at h2;omega);have b:n-1<=m.log2:=(I5 I).2 h1;have e2:m.log2<n:=(qR I).2 h2;omega
def al8(h:i<W l):wt (l.take i)+fK (aa l i 0)<=wt l/\wt (l.take (i+1))=wt (l.take i)+fK (aa l i 0):=by
 have e:wt (l.take (i+1))=wt (l.take i)+fK (aa l i 0):=(by rw[lY l 0 i h,Cm];rfl);refine⟨?_,e⟩;rw[<-e];(conv=>rhs;rw[<-uD (i+1) l,Cm]);exact lV _ _
def aDk{l:Nat}(h:0<(l+1)/2^n)(b:l<=512):n<=9/\2^n<=l+1:=by
 have h1:2^n<=l+1:=by
  rcases dq (l+1) (2^n)with a|a
  rw[yN a]at h;omega
  exact a
 refine⟨?_,h1⟩;rcases dq 9 n with a|a
 have:2^10<=2^n:=dF an a;omega
 exact a
def aDl{l:Nat}(h: ¬0<(l+1)/2^n):l+1<2^n:=by
 rcases dq (l+1) (2^n)with a|a
 exact a
 exact absurd (Qi a (eA n)) h
def al9{p:Int}(h: -1<=p):max p (-p)=((fK p:Nat):Int):=by
 unfold fK;split<;>omega
def al_{l:List Int}: ∀{z:Nat},(∀j,j<z->aa l j 1=0)->z<=W l->wt (l.take z)=0
 |0,_,_=>by simp[wt]
 |z+1,h,a=>by have h1:=h z (F_ _);rw[lY l 0 z I,Cm,al_ (λj b=>h j I) I];have e:aa l z 0=0:=(by rw[bX,gW I]at h1 ⊢;exact h1);rw[e];rfl
def acu{d:Int}:aa (l.drop i) j d=aa l (i+j) d:=by
 rw[bX,nQ,bX]
def acv(h:i<W l){d:Int}:aa l i d=aa l i 0:=by
 rw[bX,bX,gW h];rfl
def al'{left v:Nat}(a:left<=512):W (lT left v)<=10:=by
 have b:(left+1).log2<10:=(qR I).2 I;have hb:yD (left+1)<=10:=(by unfold yD;omega);unfold lT;split
 rw[oT];omega
 split<;>rw[oT]<;>omega
def ama{sa:Option Addr}{sc log:Nat}{P:List Int}(h:H r w F)(hP:iQ F (.slice sa (W P) sc) (P.map i64))(JK:5<=log/\log<=9)(mM: ∀i,-1<=aa P i 0)(Z:wt P=2^log)(It:W P<=256)(xU:aa P (W P-1) 0≠0):Calls PP 60 #[.slice sa (W P) sc,af log] w λe w'=> ∃bd,e= .returned (cK bd (W (rD (eD (log-5) 4++kh (2^log) P))) (W (rD (eD (log-5) 4++kh (2^log) P))))/\H r w' (EB (some bd) (rD (eD (log-5) 4++kh (2^log) P)) []::F):=by
 refine cM (eD (log-5) 4++kh (2^log) P) λR hR=>?_;rw[hR];have EU:2^log<=512:=aM (dF an JK.2) an;refine cM (2^log) λZ_ hW=>?_;rw[hW]at hR Z EU;replace h:=h.ghost (C (ar bl []++[]) 4);refine iI func60 ntmps60 [4] ?_;refine g_ 6 ?_;refine ak (Jp aqR) (tL h J J J ?_);intro bb w h;refine g_ 6 ?_;refine ak (jm (b:=5) (h2:=av.lit _) J J JK.1 aG) (eS (v2:=af 4) J J J J (aH (Lq (bits:=[]) (ob:=none) (c:=0) (sp:=[]) h ⟨J,J,aW _,λ_=>rfl⟩ an I (cj _)) ?_));rintro e y ⟨cf,c1,cg,rfl,fi,h⟩;refine g_ 4 ?_;refine ak (cG (gY J J dQ (by rw[hW];simp only[aN];omega)) hW) ?_;refine g_ 8 ?_;refine cw (σ:=Nat×Nat×List Bool×Option Nat×Nat×List Value) [(6,12),(24,112)] (λ⟨i,left,B,ob,c,sp⟩ ρ w=>Kn ρ [(7,af i),(6,af left)]/\H r w ((ah bb [.slice (aI ob) (W (B)) c] 159)::(ob,C (ar bl (B)++sp) 4)::F)/\(b8 ob (W (B)) c (ar bl (B)) sp 1)/\(i<=W P)/\(B++kh left (P.drop i)=R)/\(left+wt (P.take i)=Z_)/\(W B<=4+12*i)) (λ⟨i,left,B,ob,c,sp⟩=>W P-i) (0,Z_,[]++eD (log-5) 4,cf,c1,cg) ⟨az,h,fi,I,hR,J,(by rw[List.nil_append,oT];omega)⟩ ?_;rintro⟨i,left,B,ob,c,sp⟩ ρ w ⟨⟨Uk,rfl⟩,h,A,hi,o,hw,HH⟩;refine g_ 8 ?_;refine au J ?_ ?_<;>intro sT
 refine lB (hP.fp (show 0<W (P.map i64) by rw[cB];omega)) λpb pq lp Tp D=>?_;refine gg D.2.1 λip rC=>?_;have aDm:=al8 sT;have Bf:=mM i;have Q:=drop_cons sT;refine cM (aa P i 0) λp hp=>?_;have nJ:=Vc D.2.2 sT;rw[hp]at aDm Bf Q nJ;have aK':left<=Z_:=I;have fX:p<=left:=(by have:p<=((fK p:Nat):Int):=(by unfold fK;split<;>omega);omega);refine cM ((p+1).toNat) λv hv=>?_;have Fb:p+1=((v:Nat):Int):=I;have vm:v<=left+1:=I;refine a8 (bY (kp [(6,12),(30,112)] (λρ w=> ∃i2 E:Nat,∃g:List Bool,∃G:Option Nat,∃S:Nat,∃T:List Value,Kn ρ [(7,af i2),(6,af E)]/\H r w ((ah bb [.slice (aI G) (W (g)) S] 159)::(G,C (ar bl (g)++T) 4)::F)/\(b8 G (W (g)) S (ar bl (g)) T 1)/\(g++kh E (P.drop (i2+1))=R)/\(E+wt (P.take (i2+1))=Z_)/\(i<=i2/\i2+1<=W P)/\(W g<=4+12*(i2+1))) ?_ ?_))
 refine g_ 4 ?_;refine ak (da J J D.1 I) (aX h J nJ ?_);refine g_ 5 ?_;refine ak (Dl Fb (Jb (v:=1) J J I I)) ?_;refine g_ 5 ?_;refine cw (σ:=Nat) [(10,10),(36,42)] (λn ρ w=>Kn ρ [(10,af n)]/\H r w ((ah bb [.slice (aI ob) (W (B)) c] 159)::(ob,C (ar bl (B)++sp) 4)::F)/\(n<=10)/\(n=0\/2^(n-1)<=left+1)) (λn=>11-n) (0) ⟨az,h,I,(a_ J)⟩ ?_;rintro n ρ w ⟨⟨abn,rfl⟩,h,aDn,ja⟩;refine g_ 9 ?_;refine au J ?_ ?_<;>intro MW
 have h9:=aDk MW I;refine g_ 7 ?_;exact⟨aO 8,n+1,cQ,az,h,I,bG h9.2⟩
 have Pf:=aDl MW
 have iZ:1<=n:=by
  rcases pd n with e|e
  subst e;rw[F8]at Pf;omega
  exact e
 have jD:yD (left+1)=n:=aDj (F7 _) (ja.resolve_left I) Pf;have af4:2^n<=1024:=aM (dF an aDn) an;have M7:2^(n-1)<=1024:=aM (dF an (I:n-1<=10)) an;have KI:lT left v=if v<2^n-1- (left+1)then eD v (n-1)else if v<2^(n-1)then eD v n else eD (v+(2^n-1- (left+1))) n:=(by unfold lT;rw[jD]);have bF:= @al' left v I;refine g_ 4 ?_;refine ak (gY J J dQ (aM af4 an)) ?_;refine g_ 7 ?_;refine kp [(49,73)] (λρ w=> ∃d:Option Nat,∃q:Nat,∃s:List Value,Kn ρ []/\H r w ((ah bb [.slice (aI d) (W (B++lT left v)) q] 159)::(d,C (ar bl (B++lT left v)++s) 4)::F)/\(b8 d (W (B++lT left v)) q (ar bl (B++lT left v)) s 1)) ?_ ?_
 refine g_ 7 ?_;refine au J ?_ ?_<;>intro Ox
 refine g_ 4 ?_;refine ak (jm (b:=1) (h2:=av.lit _) J J iZ aG) (eS J J J J (aH (Lq h A I I I) ?_));rintro e y ⟨K,c2,L,rfl,k,h⟩;refine aJ (⟨aO 9,?_⟩);have M:eD v (n-1)=lT left v:=(by rw[KI,ao Ox]);rw[M]at h k;exact⟨K,c2,L,az,h,k⟩
 refine g_ 4 ?_;refine ak (jm (b:=1) (h2:=av.lit _) J J iZ aG) (ak (gY J J dQ (aM M7 an)) ?_);refine g_ 3 ?_;refine au J ?_ ?_<;>intro ua
 refine g_ 4 ?_;refine eS J J J J (aH (Lq h A I I I) ?_);rintro e y ⟨K,c2,L,rfl,k,h⟩;refine aJ (⟨aO 14,?_⟩);have M:eD v n=lT left v:=(by rw[KI,aj Ox,ao ua]);rw[M]at h k;exact⟨K,c2,L,az,h,k⟩
 refine g_ 6 ?_;refine eS J J J J (aH (Lq h A I I I) ?_);rintro e y ⟨K,c2,L,rfl,k,h⟩;refine aJ (⟨aO 16,?_⟩);have M:eD (v+(2^n-1- (left+1))) n=lT left v:=(by rw[KI,aj Ox,aj ua]);rw[M]at h k;exact⟨K,c2,L,az,h,k⟩
 rintro ρ w ⟨d,q,s,⟨aC9,rfl⟩,h,mP⟩;refine g_ 5 ?_;refine ak (Xm J I I) (ak (Dl (al9 Bf) (Xv J J)) ?_);refine g_ 7 ?_;refine ak (Xj (v:=0) J J) (aJ (au J ?_ ?_))<;>intro Nx
 have m_:(B++lT left v)++kh (left-fK p) (P.drop (i+1))=R:=(by rw[bV,<-hv,<-al6 Nx,<-Q];exact o);exact jl ⟨aO 32,i,left-fK p,B++lT left v,d,q,s,az,h,mP,m_,I,I,(by rw[aF];omega)⟩
 have td:p=0:=oB.1 Nx;have ha0:fK p=0:=(by rw[td];rfl);have gA:v=1:=I;have Kc:(B++lT left v)++(oU (W (P.drop (i+1))) (j6 (P.drop (i+1)))++kh left ((P.drop (i+1)).drop (j6 (P.drop (i+1)))))=R:=(by rw[bV,gA,<-al7];rw[td]at Q;rw[<-Q];exact o)
 have pt:i+1<W P:=by
  rcases dq (i+1) (W P) with e|e
  exact e
  exact absurd (by rw[show W P-1=i by omega,hp,td]) xU
 have kV:W (P.drop (i+1))=W P- (i+1):=cr;refine g_ 6 ?_;refine kp [(12,12),(82,100)] (λρ w=> ∃z:Nat,Kn ρ [(12,af z)]/\H r w ((ah bb [.slice (aI d) (W (B++lT left v)) q] 159)::(d,C (ar bl (B++lT left v)++s) 4)::F)/\(j6 (P.drop (i+1))=z)/\(i+1+z<W P)/\(∀j,j<z->aa P (i+1+j) 0=0)) ?_ ?_
 refine cw (σ:=Nat) [(12,12),(82,100)] (λz ρ w=>Kn ρ [(12,af z)]/\H r w ((ah bb [.slice (aI d) (W (B++lT left v)) q] 159)::(d,C (ar bl (B++lT left v)++s) 4)::F)/\(∀j,j<z->aa P (i+1+j) 0=0)/\(i+1+z<=W P)) (λz=>W P-z) (0) ⟨az,h,(λj m=>absurd m (ma _)),I⟩ ?_;rintro z ρ w ⟨⟨aDa,rfl⟩,h,U,NB⟩;refine g_ 11 ?_;refine eM (t:=89) J (λV=>?_) (λV=>?_)
 refine g_ 5 ?_;refine dI J J J (da J J D.1 I) J (dI J J J (run_load h J (Vc D.2.2 (i:=i+1+z) V)) J (dI J J J (Mt (v:=0) J J) J ?_));refine g_ 2 ?_;refine au J ?_ ?_<;>intro N
 have hzz:=N;refine g_ 7 ?_;exact⟨aS,z+1,cQ,az,h,(λj m=>by rcases xB.1 m with hh|rfl;exact U j hh;exact hzz),I⟩
 exact jl ⟨aS,z,az,h,al5 _ z (λj m=>by rw[acu,acv I];exact U j m) (bG (by rw[acu,acv V];exact N)) (by rw[kV];omega),V,U⟩
 refine g_ 10 ?_;refine gK J (jl (⟨aS,?_⟩));exfalso;have UF:0<z:=I;have:=U (z-1) I;rw[show i+1+(z-1)=W P-1 by omega]at this;exact xU this
 rintro ρ w ⟨z,⟨aDc,rfl⟩,h,hzd,aLa,w9⟩;rw[hzd]at Kc;rw[acr (W (P.drop (i+1))) (z+1) z (by rw[kV];omega) (F_ _),<-bV,kG]at Kc;have K9:wt (P.take (i+z+1))=wt (P.take (i+1)):=(by rw[show i+z+1=(i+1)+z by omega,Qm,Cm,al_ (l:=P.drop (i+1)) (z:=z) (λj m=>by rw[acu,acv I];exact w9 j m) (by rw[kV];omega),kN]);refine g_ 9 ?_;refine cw (σ:=Nat×List Bool×Option Nat×Nat×List Value) [(12,12),(104,109)] (λ⟨zz,f,O,X,Y⟩ ρ w=>Kn ρ [(12,af zz)]/\H r w ((ah bb [.slice (aI O) (W (f)) X] 159)::(O,C (ar bl (f)++Y) 4)::F)/\(b8 O (W (f)) X (ar bl (f)) Y 1)/\(f++oU (zz+1) zz=(B++lT left v)++oU (z+1) z)/\(zz<=z)/\(W f+zz<=W B+10+z)) (λ⟨zz,f,O,X,Y⟩=>zz) (z,B++lT left v,d,q,s) ⟨az,h,mP,J,(aW _),(by rw[aF];omega)⟩ ?_;rintro⟨zz,f,O,X,Y⟩ ρ w ⟨⟨aDd,rfl⟩,h,s6,vp,aLb,yv⟩;refine g_ 6 ?_;refine au J ?_ ?_<;>intro AV
 refine g_ 5 ?_;refine eS (v1:=af 3) (v2:=af 2) J J J J (aH (Lq h s6 I I I) ?_);rintro e y ⟨FF,c6,u,rfl,x,h⟩;refine g_ 3 ?_;exact ak (jm (b:=3) (h2:=av.lit _) J J AV aG) (ee (aJ ⟨aO 7,(zz-3,f++eD 3 2,FF,c6,u),cQ,az,h,x,(by rw[bV,acr (zz-3+1) (zz+1-1) (zz-3) I I,<-aDe AV I];exact vp),I,(by rw[aF,oT];omega)⟩))
 refine g_ 4 ?_;refine eS (v2:=af 2) J J J J (aH (Lq h s6 I I I) ?_);rintro e y ⟨FF,c6,u,rfl,x,h⟩;exact aJ ⟨aO 44,i+z,left-fK p,f++eD zz 2,FF,c6,u,az,h,x,(by rw[ha0,F1,show i+z+1=i+1+z by omega,<-Kc,<-vp,aDf I (F7 _)]),(by rw[K9];omega),I,(by rw[aF,oT];omega)⟩
 rintro ρ w ⟨i2,E,g,G,S,T,⟨Pg,rfl⟩,h,ue,hR5,hw5,hi5,Be⟩;refine g_ 5 ?_;exact⟨aO 8,(i2+1,E,g,G,S,T),cQ,az,h,ue,I,hR5,hw5,I⟩
 have hiP:i=W P:=I;have hBR:B=R:=(by rw[<-o,hiP,List.drop_length];exact(dN B).symm);rw[hBR]at h A HH;refine g_ 9 ?_;refine ak (nS (b:=8) (h2:=av.lit _) J J an aG) ?_;refine uK h J J J I I I J ?_;intro bd w h;rw[alV]at h;refine g_ 5 ?_;replace h:=h.zz [2,2,2] 0;refine g_ 8 ?_;refine cw (σ:=Nat) [(14,15),(126,142)] (λj ρ w=>Kn ρ [(126,af j)]/\H r w ((ah bd (ar u8 (bQ (ng (R.take j)) ((W R+7)/8))) 5)::(ah bb [.slice (aI ob) (W (R)) c] 159)::(ob,C (ar bl (R)++sp) 4)::F)/\(j<=W R)) (λj=>W R-j) (0) ⟨az,h,I⟩ ?_;rintro j ρ w ⟨⟨Ph,rfl⟩,h,m⟩;refine g_ 5 ?_;refine au J ?_ ?_<;>intro akF
 refine(Ix A I).elim λb0 e0=>?_;subst e0;refine a8 (bY (kp [(14,15),(128,141)] (λρ w=>Kn ρ []/\H r w ((ah bd (ar u8 (bQ (ng (R.take (j+1))) ((W R+7)/8))) 5)::(ah bb [.slice (aI (some b0)) (W (R)) c] 159)::((some b0),C (ar bl (R)++sp) 4)::F)) ?_ ?_))
 refine g_ 4 ?_;refine aX h J (alW I) ?_;refine g_ 7 ?_;refine eY J ?_ ?_<;>intro Kg
 refine cm h [0,4,8,12,20,24,28,17,32,36,43] ?_;intro w h;refine aC 2 ?_;refine aD J (nS (b:=8) (h2:=av.lit _) J J an aG) ?_;refine aC 2 ?_;refine aD J (BR (b:=8) (h2:=av.lit _) J J an) ?_;refine aD J (eB (a:=1) (h1:=av.lit _) J J dQ (by rw[rN];exact aM Iw an)) ?_;refine aQ J h J (gX (by rw[cY];omega)) ?_;refine aD J (fq J J (dT _ an) (by rw[rN];exact aM Iw an)) ?_;refine aC 1 ?_;refine xF (v:=iW ((aa (bQ (ng (R.take j)) ((W R+7)/8)) (j/8) 0).toNat|||1*2^(j % 8))) J h J (gX (by rw[cY];omega)) J J J ?_;intro w h;dsimp only[bJ]at h;rw[aci I (aDg I),aDh I Kg]at h;exact cO ⟨aO 17,az,h⟩
 refine a8 (⟨aO 6,?_⟩);rw[aDi I Kg]at h;exact⟨az,h⟩
 rintro ρ w ⟨⟨Pj,rfl⟩,h⟩;refine g_ 4 ?_;exact⟨aO 4,j+1,cQ,az,h,I⟩
 refine g_ 7 ?_;have ej:j=W R:=I;rw[ej,je (aW _)]at h;refine⟨bd,cD Ending.returned (jw J (Iu _).symm (Iu _).symm),?_⟩;have e:ar u8 (bQ (ng R) ((W R+7)/8))=ar u8 (rD R++[]):=(by rw[dN];rfl);rw[e]at h;exact(((h.mv 1).tail).mv 1).tail
variable {A:List Nat}{M log:Nat}
def oV:List Int->Nat
 | []=>0
 |p::l=>(if p=0 then 0 else 1)+oV l
def amc: ∀{l:List Int},(∀j,-1<=aa l j 0)->oV l<=wt l
 | [],_=>aW _
 | p::l,h=>by
  have h1:= @amc l (λj=>by have:=h (j+1);simpa using this);have h2:=h 0;rw[pS]at h2;show(if p=0 then 0 else 1)+oV l<=fK p+wt l;split
  omega
  have:1<=fK p:=(by unfold fK;split<;>omega);omega
def Vh: ∀{l:List Int} {i:Nat},(∀j,-1<=aa l j 0)->fK (aa l i 0)+oV l<=wt l+1
 | [],i,_=>by simp[oV,wt,fK]
 |p::l,0,h=>by have h1:= @amc l (λj=>by have:=h (j+1);simpa using this);rw[pS];show fK p+((if p=0 then 0 else 1)+oV l)<=fK p+wt l+1;split<;>omega
 | p::l,i+1,h=>by
  have h1:= @Vh l i (λj=>by have:=h (j+1);simpa using this);have h2:=h 0;rw[pS]at h2;rw[qh];show fK (aa l i 0)+((if p=0 then 0 else 1)+oV l)<=fK p+wt l+1;split
  omega
  have:1<=fK p:=(by unfold fK;split<;>omega);omega
def Vi: ∀{l:List Int} {i:Nat} {x:Int},i<W l->wt (l.set i x)+fK (aa l i 0)=wt l+fK x
 |p::l,0,x,_=>by show fK x+wt l+fK p=fK p+wt l+fK x;omega
 |p::l,i+1,x,h=>by have:= @Vi l i x (by simpa using h);rw[qh];show fK p+wt (l.set i x)+fK (aa l i 0)=fK p+wt l+fK x;omega
def acw: ∀{l:List Int} {i:Nat} {x:Int},i<W l->oV (l.set i x)+(if aa l i 0=0 then 0 else 1)=oV l+(if x=0 then 0 else 1)
 |p::l,0,x,_=>by show(if x=0 then 0 else 1)+oV l+(if p=0 then 0 else 1)=(if p=0 then 0 else 1)+oV l+(if x=0 then 0 else 1);omega
 |p::l,i+1,x,h=>by have:= @acw l i x (by simpa using h);rw[qh];show(if p=0 then 0 else 1)+oV (l.set i x)+(if aa l i 0=0 then 0 else 1)=(if p=0 then 0 else 1)+oV l+(if x=0 then 0 else 1);omega
structure xo(S:List Nat)(M log:Nat)(P:List Int):Prop where
 lo: ∀i,-1<=aa P i 0
 sum:wt P=2^log
 len:W P<=M
 JD:0<W P
 last:aa P (W P-1) 0≠0
 sym: ∀s,s∈S->aa P s 0≠0
 lt: ∀i,fK (aa P i 0)<2^log
def aDo{v:Nat}(h:i<W A):(ar af A++sp).set i (af v)=ar af (A.set i v)++sp:=by
 rw[Mh _ _ (by rw[cB];exact h),kH]
def FG(h:i<W A):(ar af A++sp)[i]? =some (af (aa A i 0)):=by
 rw[gP (by rw[cB];exact h)];exact kq h
def amd:aa (A++[0]) j 0=aa A j 0:=by
 rcases dq j (W A) with h|h
 rw[bX,gP h,<-bX]
 have a:aa A j 0=0:=(by rw[bX,gB h];rfl);rw[a,bX,l_ h];cases j-W A<;>rfl
def aDp(n:Nat):dD [Value.int .i64 ((0:Nat):Int)] n=ar i64 (aT n 0):=by
 rw[D6,xz];rfl
def aDq:aa (aT n (0:Int)) j 0=0:=by
 rw[bX,rK];split<;>rfl
def ame:wt (aT n 0)=0:=Yl n
def amf: ∀{n:Nat},oV (aT n 0)=0
 |0=>rfl
 |n+1=>by rw[DQ,oV,amf];rfl
def aDr{size len:Nat}(h:n<=len)(a:0<len):n*size/len<=size:=by
 have:n*size<=len*size:=rL _ h;exact Nat.div_le_of_le_mul this
def amg:fK ((n:Nat):Int)=n:=by unfold fK;rw[aj I];rfl
def acx{p:Int}(h:0<=p):((fK p:Nat):Int)=p:=by unfold fK;split<;>omega
def xo.neg{t:Nat}{P:List Int}(h:xo S M log P)(b:t<W P)(h1:aa P t 0=1):xo S M log (P.set t (-1)):=by
 have a: ∀j,aa (P.set t (-1)) j 0=if t=j then-1 else aa P j 0:=λj=>by
  rw[e_];by_cases e:t=j
  rw[ao ⟨e,b⟩,ao e]
  rw[aj (λz=>e z.1),aj e]
 have a1:fK (-1)=1:=rfl;have a2:fK 1=1:=rfl;refine⟨λj=>?_,?_,by rw[dW];exact h.len,by rw[dW];exact h.JD,?_,λs hs=>?_,λj=>?_⟩
 rw[a];split
 exact Qx _
 exact h.lo j
 have:= @Vi P t (-1) b;rw[h1,a1,a2]at this;rw[<-h.sum];omega
 rw[dW,a];split
 decide
 exact h.last
 rw[a];split
 decide
 exact h.sym s hs
 rw[a];by_cases e:t=j
 subst e;rw[ao J,a1];have:=h.lt t;rw[h1,a2]at this;exact this
 rw[aj e];exact h.lt j
def aDs{a:List Nat}{g:Nat}{O:List Int}{left:Int}(b: ∀t,0<=aa O t 0)(h: ∀t,t<W O->(aa O t 0=0↔aa a t 0=0))(hlen:W O=W a)(o:W a<=M)(p:0<=left)(hw:left+((wt O:Nat):Int)=((2^log:Nat):Int))(q:2<=oV O)(d:g<W O)(r:0<aa a (W a-1) 0)(l: ∀s,s∈S->s<W a/\0<aa a s 0):xo S M log (O.set g (aa O g 0+left)):=by
 have m: ∀j,aa (O.set g (aa O g 0+left)) j 0=if g=j then aa O g 0+left else aa O j 0:=λj=>by
  rw[e_];by_cases e:g=j
  rw[ao ⟨e,d⟩,ao e]
  rw[aj (λz=>e z.1),aj e]
 have f: ∀j,aa O j 0<=aa (O.set g (aa O g 0+left)) j 0:=λj=>by
  rw[m];by_cases e:g=j
  subst e;rw[ao J];omega
  rw[aj e];exact Qx _
 have i: ∀j,0<=aa (O.set g (aa O g 0+left)) j 0:=λj=>Int.le_trans (b j) (f j);have u:= @Vi O g (aa O g 0+left) d;have v:=acx (b g);have e2:=acx (show 0<=aa O g 0+left by have:=b g;omega);have c:= @acw O g (aa O g 0+left) d
 have w:2<=oV (O.set g (aa O g 0+left)):=by
  by_cases e:aa O g 0=0
  rw[ao e]at c;split at c<;>omega
  rw[aj e]at c;rw[aj (by have:=b g;omega)]at c;omega
 have k:wt (O.set g (aa O g 0+left))=2^log:=I;refine⟨λj=>by have:=i j;omega,k,by rw[dW];omega,by rw[dW];omega,?_,λs hs=>?_,λj=>?_⟩
 have h1:=(not_congr (h (W O-1) I)).2 (by rw[hlen];omega);have h2:=f (W O-1);have n:=b (W O-1);rw[dW];omega
 have h1:=l s hs;have h2:=(not_congr (h s I)).2 I;have n:=f s;have x:=b s;omega
 have:= @Vh (O.set g (aa O g 0+left)) j (λt=>by have:=i t;omega);rw[k]at this;omega
def acy{wb sc:Nat}{x:Wr}{sa:Option Addr}{nn nc at_:Nat}{f:Option Addr}{N:List Int}(h:H r w ((ah wb (bj x) 49)::(some x.cb,C [.slice f nn nc,af at_] 38)::L))(hN:og L (.slice f nn nc) N)(jU:at_<=2305843009213693952)(hS:iQ L (.slice sa (W S) sc) (S.map af))(JK:5<=log/\log<=9)(hM:M<=256)(Dn: ∀s,s∈S->s<M)(vK:W S<=2147483648):Calls PP 58 #[bL wb,.slice sa (W S) sc,af log] w λe w'=> ∃at',at'<=at_+256/\((e= .returned (.slice none 0 0)/\H r w' ((ah wb (bj x) 49)::(some x.cb,C [.slice f nn nc,af at'] 38)::L))\/(∃bd P,e= .returned (cK bd (W P) (W P))/\xo S M log P/\H r w' ((ah bd (ar i64 P) 3)::(ah wb (bj x) 49)::(some x.cb,C [.slice f nn nc,af at'] 38)::L))):=by
 have EU:2^log<=512:=aM (dF an JK.2) an;refine cM (2^log) λK Q=>?_;rw[Q]at EU;have aDt: ∀j,j<W S->aa S j 0<M:=λj l=>(by rw[bX,gW l];exact Dn _ (Ai l));replace h:=h.ghost (C (ar af []++[]) 3);refine nV func58 ntmps58 [6] ?_;refine g_ 16 ?_;refine cw (σ:=Nat×List Nat×Option Nat×Nat×List Value) [(7,7),(9,9),(21,38)] (λ⟨i,d,o,V,p⟩ ρ w=>Kn ρ [(21,af i),(7,.slice (aI o) (W d) V)]/\H r w ((o,C (ar af (d)++p) 3)::(ah wb (bj x) 49)::(some x.cb,C [.slice f nn nc,af at_] 38)::L)/\(b8 o (W (d)) V (ar af (d)) p 1)/\(i<=W S)/\(∀j,j<i->aa S j 0<W d/\0<aa d (aa S j 0) 0)/\(∀j,aa d j 0<=i)/\(W d=0\/0<aa d (W d-1) 0)/\(W d<=M)) (λ⟨i,d,o,V,p⟩=>W S-i) (0,[],none,0,[]) ⟨az,h,⟨J,J,aW _,λ_=>rfl⟩,I,(λj l=>absurd l (ma _)),(λj=>aW _),(a_ J),(cj _)⟩ ?_;rintro⟨i,d,o,V,p⟩ ρ w ⟨⟨Pg,rfl⟩,h,hk,hi,Bv,hle,mK,AP⟩;refine g_ 5 ?_;refine au J ?_ ?_<;>intro Ej
 refine lB (hS.fp (show 0<W (S.map af) by rw[cB];omega)) λpb pq lp Tp q1=>?_;refine gg q1.2.1 λip rC=>(cM (aa S i 0) λs hs=>?_);have hsM:=aDt i Ej;have R:=om q1.2.2 Ej;rw[hs]at hsM R;refine g_ 5 ?_;refine ak (da J J q1.1 I) (aX h J R ?_);refine g_ 4 ?_;refine cw (σ:=List Nat×Option Nat×Nat×List Value) [(7,7),(25,31)] (λ⟨c,X,T,q⟩ ρ w=>Kn ρ [(7,.slice (aI X) (W c) T)]/\H r w ((X,C (ar af (c)++q) 3)::(ah wb (bj x) 49)::(some x.cb,C [.slice f nn nc,af at_] 38)::L)/\(b8 X (W (c)) T (ar af (c)) q 1)/\(∀j,j<i->aa S j 0<W c/\0<aa c (aa S j 0) 0)/\(∀j,aa c j 0<=i)/\((0<W c/\0<aa c (W c-1) 0)\/W c<=s+1)/\(W c<=M)) (λ⟨c,X,T,q⟩=>s+1-W c) (d,o,V,p) ⟨az,h,hk,Bv,hle,(mK.elim (λe=>bG I) (λe=>by rcases pd (W d) with e2|e2;exact bG I;exact a_ ⟨e2,e⟩)),AP⟩ ?_;rintro⟨c,X,T,q⟩ ρ w ⟨⟨Ph,rfl⟩,h,cS,Y,A,aDu,AQ⟩;refine g_ 8 ?_;refine au J ?_ ?_<;>intro AS
 refine g_ 4 ?_;refine mf J (mH _) h ?_;intro bz w h;refine me (ar af c) q [af 0] h 1 J J J cS (Src.slice (j:=0) (q2:=0) J ⟨J,trivial⟩ J) (by intro y hy;simp at hy;subst hy;rfl) I an J ?_;intro w Z kc4 ami h dV ig mi;dsimp only[bJ]at h;have eb:ar af c++[af 0]=ar af (c++[0]):=(by rw[gJ];rfl);rw[eb]at h dV;have s6:b8 Z (W (c++[0])) kc4 (ar af (c++[0])) ami 1:=⟨by rw[cB,fg],dV,by rw[aF];exact ig,mi⟩;replace h:=h.tail;exact ee (aJ ⟨aO 8,(c++[0],Z,kc4,ami),(by show s+1- W (c++[0])<s+1-W c;rw[aF];simp only[dL,eW];omega),Kn.mk ⟨(gS J (by rw[aF];rfl)),trivial⟩,h,s6,(λj l=>by have:=Y j l;rw[aF,amd];exact⟨I,this.2⟩),(λj=>by rw[amd];exact A j),bG (by rw[aF];simp only[dL,eW];omega),(by rw[aF];simp only[dL,eW];omega)⟩)
 have B:s<W c:=I;refine(Ix cS I).elim λb0 e0=>?_;subst e0;have jh:=A s;refine g_ 4 ?_;refine ak (j8 J J J B) (aX h J (FG B) ?_);refine g_ 1 ?_;refine ak (j8 J J J B) (dt (af (aa c s 0+1)) (FG B) ?_);intro w h;rw[aDo B]at h;have mP:b8 (some b0) (W (c.set s (aa c s 0+1))) T (ar af (c.set s (aa c s 0+1))) q 1:=(by obtain⟨x1,x2,x3,x4⟩:=cS;rw[aF,cB]at x2;exact⟨by rw[cB,fg],by rw[aF,cB,dW];exact x2,by rw[dW];exact x3,x4⟩)
 have U: ∀j,aa (c.set s (aa c s 0+1)) j 0=if s=j then aa c s 0+1 else aa c j 0:=λj=>by
  rw[e_];by_cases e:s=j
  rw[ao ⟨e,B⟩,ao e]
  rw[aj (λz=>e z.1),aj e]
 have aDv: ∀j,j<i+1->aa S j 0<W (c.set s (aa c s 0+1))/\0<aa (c.set s (aa c s 0+1)) (aa S j 0) 0:=λj l=>by
  rw[dW,U];rcases xB.1 l with hh|rfl
  have:=Y j hh;refine⟨this.1,?_⟩;split<;>omega
  rw[hs,ao J];exact⟨B,F7 _⟩
 have Ty: ∀j,aa (c.set s (aa c s 0+1)) j 0<=i+1:=λj=>(by rw[U];have:=A j;split<;>omega)
 have aDw:0<aa (c.set s (aa c s 0+1)) (W (c.set s (aa c s 0+1))-1) 0:=by
  rw[dW,U];rcases aDu with e|e
  split<;>omega
  rw[ao I];exact F7 _
 refine g_ 5 ?_;exact⟨aO 18,(i+1,c.set s (aa c s 0+1),some b0,T,q),cQ,Kn.mk ⟨J,(gS J (by rw[dW])),trivial⟩,h,mP,I,aDv,Ty,bG aDw,(by rw[dW];exact AQ)⟩
 have hiS:i=W S:=I;rw[hiS]at Bv hle;refine jl (bY (cm h [0,4,8,12,16,20,24] ?_));intro w h;refine lx J (aD J (cG (gY J J dQ (by rw[Q];simp only[aN];omega)) Q) ?_);refine lx J (aD J (cG (gY J J dQ (by rw[Q];simp only[aN];omega)) Q) ?_);refine fG J (aD J (As 0 J (av.lit _).eq) (fG J (cO ?_)));refine g_ 8 ?_;refine uK h J J J I I I J ?_;intro bd w h;rw[aDp]at h;refine g_ 5 ?_;replace h:=h.zz [3,3,3,3] 0;refine g_ 5 ?_;refine cw (σ:=Nat×List Int×Nat×Int×Nat) [(11,13),(15,16),(48,84)] (λ⟨j,O,u,left,g⟩ ρ w=>Kn ρ [(48,af j),(11,af u),(12,.int .i64 left),(13,af g)]/\H r w ((ah bd (ar i64 (O)) 3)::(o,C (ar af (d)++p) 3)::(ah wb (bj x) 49)::(some x.cb,C [.slice f nn nc,af at_] 38)::L)/\(j<=W d)/\(W O=W d)/\(∀t,0<=aa O t 0/\(j<=t->aa O t 0=0)/\(t<j->(aa O t 0=0↔aa d t 0=0)))/\(left+((wt O:Nat):Int)=((K:Nat):Int))/\(wt O<=512*j)/\(oV O=u)/\(g=0\/g<j)) (λ⟨j,O,u,left,g⟩=>W d-j) (0,aT (W d) 0,0,((K:Nat):Int),0) ⟨az,h,I,(dS),(λt=>by rw[aDq];exact⟨Qx _,λ_=>rfl,λe=>absurd e (ma _)⟩),(by rw[ame];simp),(by rw[ame];exact cj _),amf,(a_ J)⟩ ?_;rintro⟨j,O,u,left,g⟩ ρ w ⟨⟨Pj,rfl⟩,h,l,Pl,m,hlw,hwO,hu,hg⟩;refine g_ 5 ?_;refine au J ?_ ?_<;>intro Cl
 refine(Ix hk (I:0<W d)).elim λb0 e0=>?_;subst e0;have Iz:=hle j;have E:=(m j).2.1 (aW _);refine a8 (bY (kp [(11,13),(15,16),(50,83)] (λρ w=> ∃k:List Int,∃u2:Nat,∃l2:Int,∃g2:Nat,Kn ρ [(11,af u2),(12,.int .i64 l2),(13,af g2)]/\H r w ((ah bd (ar i64 (k)) 3)::((some b0),C (ar af (d)++p) 3)::(ah wb (bj x) 49)::(some x.cb,C [.slice f nn nc,af at_] 38)::L)/\(W k=W d)/\(∀t,0<=aa k t 0/\(j+1<=t->aa k t 0=0)/\(t<j+1->(aa k t 0=0↔aa d t 0=0)))/\(l2+((wt k:Nat):Int)=((K:Nat):Int))/\(wt k<=512*(j+1))/\(oV k=u2)/\(g2=0\/g2<j+1)) ?_ ?_))
 refine g_ 3 ?_;refine ak (j8 J J J Cl) (aX h J (FG Cl) ?_);refine g_ 9 ?_;refine au J ?_ ?_<;>intro HP
 exact jl ⟨aO 7,O,u,left,g,az,h,Pl,(λt=>by have:=m t;refine⟨this.1,λe=>this.2.1 I,λe=>?_⟩;rcases xB.1 e with hh|rfl;exact this.2.2 hh;exact⟨λ_=>HP,λ_=>E⟩),hlw,I,hu,I⟩
 have yq:0<W S:=I;have NV:=aDr (size:=K) Iz yq;have mL:aa d j 0*K<=2147483648*512:=tG I EU;refine cM (max 1 (aa d j 0*K/W S/2)) λy hy=>?_;have yt:1<=y/\y<=512:=I;have amj:= @Vi O j ((y:Nat):Int) I;rw[E,amg]at amj;have aDx:fK (0:Int)=0:=rfl;rw[aDx]at amj;have Ou:= @acw O j ((y:Nat):Int) I;rw[E,ao J,aj (I: ¬((y:Nat):Int)=0)]at Ou;have xe:oV (O.set j ((y:Nat):Int))=u+1:=I;have NL:oV O<=wt O+1:=(by have:= @Vh O (W O) (λt=>by have:=(m t).1;omega);omega)
 have U: ∀t,aa (O.set j ((y:Nat):Int)) t 0=if j=t then((y:Nat):Int)else aa O t 0:=λt=>by
  rw[e_];by_cases e:j=t
  rw[ao ⟨e,I⟩,ao e]
  rw[aj (λz=>e z.1),aj e]
 have hO3: ∀t,0<=aa (O.set j ((y:Nat):Int)) t 0/\(j+1<=t->aa (O.set j ((y:Nat):Int)) t 0=0)/\(t<j+1->(aa (O.set j ((y:Nat):Int)) t 0=0↔aa d t 0=0)):=λt=>by
  rw[U];have h0:=m t;by_cases e:j=t
  subst e;rw[ao J];exact⟨I,λz=>by omega,λ_=>⟨λz=>by omega,λz=>absurd z HP⟩⟩
  rw[aj e];exact⟨h0.1,λz=>h0.2.1 I,λz=>h0.2.2 I⟩
 refine g_ 16 ?_;refine ak (nS J J yq aG) (ak (nS (b:=2) (h2:=av.lit _) J J an aG) ?_);refine ak (cG (Mx (a:=1) (h1:=av.lit _) J J) hy) (ak (j8 J J J Cl) (ir (v:=i64 ((y:Nat):Int)) h J (y_ I) J J J ?_));intro w h;dsimp only[bJ]at h;rw[<-kH]at h;have R:=y_ (D:=O.set j ((y:Nat):Int)) (i:=j) (by rw[dW];omega);rw[U,ao J]at R;have aDy:=y_ (D:=O.set j ((y:Nat):Int)) (i:=g) (by rw[dW];omega);refine g_ 6 ?_;refine ak (j8 J J J Cl) (aX h J R (ak (pU J J I I) ?_));refine g_ 3 ?_;refine cm h [0,4,8,16,20,24,13,29,32] ?_;intro w h;refine aC 2 ?_;refine aD J (j8 J J J Cl) ?_;refine aC 3 ?_;refine aQ J h J R (aQ J h J aDy (aD J (Am J J) (cO (au J ?_ ?_))))<;>intro Nl
 refine g_ 4 ?_;exact⟨aO 40,(O.set j ((y:Nat):Int)),u+1,(left- ((y:Nat):Int)),j,az,h,(by rw[dW];exact Pl),hO3,I,I,xe,I⟩
 exact a8 ⟨aO 38,(O.set j ((y:Nat):Int)),u+1,(left- ((y:Nat):Int)),g,az,h,(by rw[dW];exact Pl),hO3,I,I,xe,I⟩
 rintro ρ w ⟨k,u2,l2,g2,⟨Vj,rfl⟩,h,aDz,TF,aDA,aDB,lb,ka⟩;refine g_ 4 ?_;exact⟨aO 4,(j+1,k,u2,l2,g2),cQ,az,h,I,aDz,TF,aDA,aDB,lb,ka⟩
 have hOg: ∀t,aa O t 0<=200000:=λt=>(by have h1:= @Vh O t (λz=>by have:=(m z).1;omega);have h2:=acx (m t).1;omega);refine jl (cW [(6,6),(85,90)] (λρ w=>Kn ρ []/\H r w ((ah bd (ar i64 (O)) 3)::(o,C (ar af (d)++p) 3)::(ah wb (bj x) 49)::(some x.cb,C [.slice f nn nc,af at_] 38)::L)/\(2<=u)/\(0<=left)) ?_ ?_)
 refine g_ 5 ?_;refine eM (t:=87) J (λaDC=>?_) (λaDC=>?_)
 refine g_ 4 ?_;refine jv J ?_;refine g_ 5 ?_;exact⟨at_,lV _ _,a_ ⟨J,h.tail.tail⟩⟩
 refine g_ 1 ?_;refine dI J J J (rR (v:=0) J J) J ?_;refine g_ 2 ?_;refine au J ?_ ?_<;>intro aAN
 refine g_ 5 ?_;exact⟨at_,lV _ _,a_ ⟨J,h.tail.tail⟩⟩
 exact a8 ⟨aS,az,h,I,I⟩
 rintro ρ w ⟨⟨Vk,rfl⟩,h,xe,mi⟩;have hjC:j=W d:=I;have hOz: ∀t,t<W O->(aa O t 0=0↔aa d t 0=0):=λt ht=>(m t).2.2 I
 have hC0:0<W d:=by
  rcases pd (W d) with e|e
  have:O=[]:=k7.1 I;rw[this]at hu;have:oV []=0:=rfl;omega
  exact e
 have j_:g<W O:=I;have qK:=aDs (S:=S) (M:=M) (log:=log) (g:=g) (left:=left) (λt=>(m t).1) hOz Pl AP mi (by rw[Q];exact hlw) I j_ (mK.resolve_left I) (λs hs=>by obtain⟨t,ht,rfl⟩:=DO hs;have:=Bv t ht;rw[bX,gW ht]at this;exact this);have hgO:=(m g).1;have hgg:=hOg g;refine g_ 5 ?_;refine aX h J (y_ j_) (dg (ak (Jb J J I I) ?_));refine g_ 1 ?_;refine dt (i64 (aa O g 0+left)) (y_ j_) ?_;intro w h;rw[<-kH]at h;have It:W (O.set g (aa O g 0+left))=W d:=(by rw[dW];exact Pl);refine g_ 9 ?_;refine cw (σ:=Nat×List Int×Nat) [(17,18),(100,118)] (λ⟨t,P,F⟩ ρ w=>Kn ρ [(100,af t)]/\H r w ((ah bd (ar i64 (P)) 3)::(ah wb (bj x) 49)::(some x.cb,C [.slice f nn nc,af F] 38)::L)/\(t<=W d)/\(xo S M log P)/\(W P=W d)/\(F<=at_+t)) (λ⟨t,P,F⟩=>W d-t) (0,O.set g (aa O g 0+left),at_) ⟨az,(h.mv 1).tail,I,qK,It,I⟩ ?_;rintro⟨t,P,F⟩ ρ w ⟨⟨Vl,rfl⟩,h,ht,Vm,G,aco⟩;refine g_ 5 ?_;refine au J ?_ ?_<;>intro RT
 refine a8 (bY (kp [(17,18),(102,117)] (λρ w=> ∃P2:List Int,∃eI:Nat,Kn ρ []/\H r w ((ah bd (ar i64 (P2)) 3)::(ah wb (bj x) 49)::(some x.cb,C [.slice f nn nc,af eI] 38)::L)/\(xo S M log P2)/\(W P2=W d)/\(eI<=at_+(t+1))) ?_ ?_))
 refine g_ 4 ?_;refine aX h J (y_ I) ?_;refine g_ 6 ?_;refine ak (Mt (v:=1) J J) (dg (eM (t:=107) J (λamk=>?_) (λamk=>?_)))
 refine g_ 4 ?_;replace h:=h.zz [1,1,2] 0;refine xm (v1:=af 2) J J J J J J (aH (lR (n:=2) (at_:=F) h (hN.sub aP) I an) ?_);rintro e w1 ⟨ov,jG,rfl,nd,uf,h⟩;refine g_ 3 ?_;refine au J ?_ ?_<;>intro aLc
 refine g_ 4 ?_;refine ir (v:=i64 (-1)) h J (y_ I) J J J ?_;intro w h;dsimp only[bJ]at h;rw[<-kH]at h;refine aJ ?_;replace h:=h.zz [2,2] 0;exact⟨aS,P.set t (-1),jG,az,h,Vm.neg I amk,(by rw[dW];exact G),I⟩
 refine a8 ?_;replace h:=h.zz [2,2] 0;exact⟨aS,P,jG,az,h,Vm,G,I⟩
 refine g_ 8 ?_;exact gK J (a8 ⟨aS,P,F,az,h,Vm,G,I⟩)
 rintro ρ w ⟨P2,eI,⟨acB,rfl⟩,h,aDD,aDE,Ab⟩;refine g_ 4 ?_;exact⟨aO 4,(t+1,P2,eI),cQ,az,h,I,aDD,aDE,I⟩
 refine g_ 7 ?_;exact⟨F,I,bG ⟨bd,P,cD Ending.returned (jw J I I),Vm,h⟩⟩
variable {Cs:List Nat}
def dj(Cs:List Nat)(j:Nat):List Nat:=(cL j).filter λs=>decide (0<aa Cs s 0)
def Lt(h:0<aa Cs j 0):dj Cs (j+1)=dj Cs j++[j]:=by
 simp only[dj,pR,QA,List.filter_cons,List.filter_nil];rw[ao (by simpa using h)]
def Lu(h: ¬0<aa Cs j 0):dj Cs (j+1)=dj Cs j:=by
 simp only[dj,pR,QA,List.filter_cons,List.filter_nil];rw[aj (by simpa using h),dN]
def Lv{s:Nat}:s∈dj Cs j↔s<j/\0<aa Cs s 0:=by simp[dj]
def aml(Cs:List Nat)(j:Nat):(dj Cs j).Pairwise (· < ·):=List.pairwise_lt_range.filter _
def Vn(Cs:List Nat)(j:Nat):W (dj Cs j)<=j:=by
 have:=List.length_filter_le (λs=>decide (0<aa Cs s 0)) (cL j);rw[BM]at this;exact this
def pO(n:Nat):Nat:=if n=0 then 0 else 2^(11-n)
def kr:List Nat->Nat
 | []=>0
 |n::l=>pO n+kr l
def amm: ∀n,kr (aT n 0)=0
 |0=>rfl
 |n+1=>by rw[DQ,kr,amm n];rfl
def amn: ∀{l:List Nat} {i x:Nat},i<W l->kr (l.set i x)+pO (aa l i 0)=kr l+pO x
 |p::l,0,x,_=>by show pO x+kr l+pO p=pO p+kr l+pO x;omega
 |p::l,i+1,x,h=>by have:= @amn l i x (by simpa using h);rw[qh];show pO p+kr (l.set i x)+pO (aa l i 0)=pO p+kr l+pO x;omega
structure Pm(Cs l:List Nat):Prop where
 len:W l<=W Cs
 Lw:2<=W l
 last:0<aa l (W l-1) 0
 used: ∀s,0<aa l s 0↔0<aa Cs s 0
 le: ∀s,aa l s 0<=11
 acC:kr l=2048
 two: ∃s,s+1<W l/\0<aa l s 0
def ll(l:List Nat)(n:Nat):Nat->Nat
 |0=>0
 |i+1=>ll l n i+(if aa l i 0=n then 1 else 0)
def acD(l:List Nat)(n:Nat): ∀i,ll l n i<=i
 |0=>aW _
 |i+1=>by have:=acD l n i;unfold ll;split<;>omega
def lvl(l:List Nat)(aq:Nat):Nat->Nat
 |0=>0
 |k+1=>lvl l aq k+ll l (aq-k) (W l)*2^k
def amo(l:List Nat)(aq:Nat): ∀k,k<=11->lvl l aq k<=W l*2048*k
 |0,_=>aW _
 |k+1,h=>by have h1:=amo l aq k I;have h2:=acD l (aq-k) (W l);have a:2^k<=2048:=aM (dF an (I:k<=11)) an;have b:ll l (aq-k) (W l)*2^k<=W l*2048:=tG h2 a;unfold lvl;rw[Qu];omega
def FJ(l:List Nat)(aq s:Nat):Nat:=lvl l aq (aq-aa l s 0)+ll l (aa l s 0) s*2^(aq-aa l s 0)
def dy:List Nat->Nat
 | []=>0
 |n::l=>max n (dy l)
def amp(l:List Nat)(n:Nat):dy (l++[n])=max (dy l) n:=by
 induction l with
 |nil=>simp[dy]
 |cons a l b=>simp only[List.cons_append,dy,b];omega
def Ly{l:List Nat}{b:Nat}(h: ∀s,aa l s 0<=b):dy l<=b:=by
 induction l with
 |nil=>exact cj _
 | cons a l c=>
   have d:=h 0
   have:=c (λs=>by have:=h (s+1);simpa using this)
   simp only[pS]at d
   simp only[dy];omega
def BC: ∀{l:List Nat} {s:Nat},aa l s 0<=dy l
 | [],s=>by simp
 |a::l,0=>by simp only[pS,dy];omega
 |a::l,s+1=>by have:= @BC l s;simp only[qh,dy];omega
structure FK(l Cd:List Nat):Prop where
 len:W Cd=W l
 code: ∀s,s<W l->0<aa l s 0->aa Cd s 0=FJ l (dy l) s/2^(dy l-aa l s 0)
variable {Cd U l:List Nat}{m:Nat}
def Vo(n:Nat):dD [Value.int .i64 ((0:Nat):Int)] n=ar af (aT n 0):=by
 rw[D6,xz]
def amq:aa (aT n 0) j 0=0:=by
 rw[bX,rK];split<;>rfl
structure LI(U Li:List Nat)(i m K:Nat):Prop where
 len:W Li=m
 z: ∀s,0<aa Li s 0↔s∈U.take i
 le: ∀s,aa Li s 0<=11
 k:kr Li=K
def LI.zero:LI U (aT m 0) 0 m 0:=
 ⟨dS,λs=>by rw[amq];simp,λs=>by rw[amq];exact cj _,amm m⟩
def aDF{s:Nat}(h:i<W U):s∈U.take (i+1)↔s∈U.take i\/s=aa U i 0:=by
 rw[lY U 0 i h];simp
def LI.step{Li:List Nat}{K x:Nat}(h:LI U Li i m K)(c:U.Pairwise (· < ·))(hi:i<W U)(hp:aa U i 0<m)(d:0<x)(f:x<=11):LI U (Li.set (aa U i 0) x) (i+1) m (K+pO x):=by
 have a:aa U i 0<W Li:=(by rw[h.len];exact hp);have g:aa U i 0 ∉ U.take i:=λhm=>(by obtain⟨j,l,e⟩:=DO hm;rw[fR]at l;rw[List.getElem_take]at e;have:=W_.1 c j i I hi I;rw[e,bX,gW hi]at this;exact vT _ this)
 have n:aa Li (aa U i 0) 0=0:=by
  rcases pd (aa Li (aa U i 0) 0)with e|e
  exact e
  exact absurd ((h.z _).1 e) g
 have b: ∀s,aa (Li.set (aa U i 0) x) s 0=if aa U i 0=s then x else aa Li s 0:=λs=>by
  rw[e_];by_cases e:aa U i 0=s
  rw[ao ⟨e,a⟩,ao e]
  rw[aj (λz=>e z.1),aj e]
 refine⟨by rw[dW];exact h.len,λs=>?_,λs=>?_,?_⟩
 rw[b,aDF hi];by_cases e:aa U i 0=s
 rw[ao e];exact⟨λ_=>bG e.symm,λ_=>d⟩
 rw[aj e,h.z];exact⟨a_,λz=>z.resolve_right (λe2=>e e2.symm)⟩
 rw[b];split
 exact f
 exact h.le s
 have:= @amn Li (aa U i 0) x a;have o:pO 0=0:=rfl;rw[n,o]at this;rw[<-h.k];omega
def aDG(a:U.Pairwise (· < ·)){i:Nat}(hi:i<W U):aa U i 0<=aa U (W U-1) 0:=by
 rw[bX,gW hi,bX,gW (I:W U-1<W U)];rcases dq i (W U-1)with h|h
 exact BJ (W_.1 a i (W U-1) hi I h)
 have:i=W U-1:=I;subst this;exact aW _
def aDH(a:U.Pairwise (· < ·))(h2:2<=W U):aa U 0 0<aa U (W U-1) 0:=by
 rw[bX,gW (I:0<W U),bX,gW (I:W U-1<W U)];exact W_.1 a 0 (W U-1) I I I
def aDI{L:List Nat}(h2:2<=W (dj Cs (W Cs)))(h:LI (dj Cs (W Cs)) L (W (dj Cs (W Cs))) (aa (dj Cs (W Cs)) (W (dj Cs (W Cs))-1) 0+1) 2048):Pm Cs L:=by
 have d:=aml Cs (W Cs);have hm: ∀i,i<W (dj Cs (W Cs))->aa (dj Cs (W Cs)) i 0∈dj Cs (W Cs):=λi hi=>(by rw[bX,gW hi];exact Ai hi);have a: ∀s,0<aa L s 0↔s∈dj Cs (W Cs):=λs=>(by rw[h.z,BL]);have c:=hm _ (I:W (dj Cs (W Cs))-1<W (dj Cs (W Cs)));have f:=hm 0 I;have j:=aDH d h2;have g:=(Lv.1 c).1;refine⟨by rw[h.len];exact g,by rw[h.len];omega,by rw[h.len];exact(a _).2 c,λs=>?_,h.le,h.k,_,by rw[h.len];omega,(a _).2 f⟩;rw[a,Lv];refine⟨λe=>e.2,λe=>⟨?_,e⟩⟩;rcases dq s (W Cs) with b|b
 exact b
 rw[bX,gB b]at e;exact absurd e (vT 0)
def KA(n i:Nat):Nat:=if i<n then 2048-2^(11-i)else 2048
def aDJ(a:2<=n)(b:n<=12)(hi:i<n):KA n i+pO (min (i+1) (n-1))=KA n (i+1):=by
 unfold KA pO;rw[ao hi,aj I];have hp:2^(11-i)<=2048:=aM (dF an (I:11-i<=11)) an;by_cases h:i+1<n
 rw[ao h,l9 I];have e:2^(11-i)=2*2^(11- (i+1)):=(by rw[<-xu];congr 1;omega);omega
 rw[aj h,DL I,show n-1=i by omega];omega
def KB(m k i:Nat):Nat:=2^(11-m)*(i+min i k)
def aDK(hm:2<=m)(a:m<=8)(h:i<k):KB m k i+pO (m-1)=KB m k (i+1):=by
 unfold KB pO;rw[aj I,show 11- (m-1)=11-m+1 by omega,jI,l9 I,l9 I,<-yO];congr 1;omega
def aDL(hm:1<=m)(h: ¬i<k):KB m k i+pO m=KB m k (i+1):=by
 unfold KB pO;rw[aj I,DL I,DL I];have:i+1+k=(i+k)+1:=I;rw[this,Qu]
def aDM(hm:m<=8)(h:n<=2^m)(h2:2^m<=2*n):KB m (2^m-n) n=2048:=by
 unfold KB;rw[DL I,show n+(2^m-n)=2^m by omega,<-h_,show 11-m+m=11 by omega]
def Lz{v:Nat}:(ar af A).set i (af v)=ar af (A.set i v):=by rw[kH]
def amr(h:2^m<256):m+1<=8:=by
 rcases dq m 8 with a|a
 exact a
 have:2^8<=2^m:=dF an a;omega
def LI.aDN(h:0<n):LI U (aT m 0) 0 m (KA n 0):=by
 have:KA n 0=0:=(by unfold KA;rw[ao h]);rw[this];exact LI.zero
def LI.aDO{a:Nat}:LI U (aT m 0) 0 m (KB a k 0):=by
 have:KB a k 0=0:=(by unfold KB;simp);rw[this];exact LI.zero
def ams(h:p:=by exact⟨bd,Li,cD Ending.returned (jw J xp.len.symm xp.len.symm),KP Li h2 xp,(h.mv 1).tail⟩):p:=h
def amt{T:Option Addr}{U:Nat}{acE:Bool}(h:H r w F)(hC:iQ F (.slice T (W Cs) U) (Cs.map af))(hCl:W Cs<=256)(hCb: ∀s,aa Cs s 0<=4611686018427387904)(h2:2<=W (dj Cs (W Cs))):Calls PP 49 #[.slice T (W Cs) U,.bool acE] w λe w'=> ∃bd l,e= .returned (cK bd (W l) (W l))/\Pm Cs l/\H r w' ((ah bd (ar af l) 3)::F):=by
 have NL:=Vn Cs (W Cs);refine lB (hC.fp (show 0<W (Cs.map af) by rw[cB];omega)) λpb pq lp Tp L=>?_;refine gg L.2.1 λip rC=>?_;replace h:=h.ghost (C (ar af (dj Cs 0)++[]) 3);refine iI func49 ntmps49 [4] ?_;refine g_ 16 ?_;refine cw (σ:=Nat×Option Nat×Nat×List Value) [(5,7),(17,28)] (λ⟨j,n,o,c⟩ ρ w=>Kn ρ [(17,af j),(5,.slice (aI n) (W (dj Cs j)) o)]/\H r w ((n,C (ar af (dj Cs (j))++c) 3)::F)/\(j<=W Cs)/\(b8 n (W (dj Cs (j))) o (ar af (dj Cs (j))) c 1)) (λ⟨j,n,o,c⟩=>W Cs-j) (0,none,0,[]) ⟨az,h,I,J,J,aW _,λ_=>rfl⟩ ?_;rintro⟨j,n,o,c⟩ ρ w ⟨⟨Pg,rfl⟩,h,hj,M⟩;refine g_ 5 ?_;refine au J ?_ ?_<;>intro N
 have aLd:=Vn Cs j;refine a8 (bY (kp [(5,7),(19,27)] (λρ w=> ∃p:Option Nat,∃z:Nat,∃B:List Value,Kn ρ [(5,.slice (aI p) (W (dj Cs (j+1))) z)]/\H r w ((p,C (ar af (dj Cs (j+1))++B) 3)::F)/\(b8 p (W (dj Cs (j+1))) z (ar af (dj Cs (j+1))) B 1)) ?_ ?_))
 refine g_ 3 ?_;refine ak (da J J L.1 I) (aX h J (om L.2.2 N) ?_);refine g_ 8 ?_;refine au J ?_ ?_<;>intro q
 refine g_ 3 ?_;refine mf J (mH _) h ?_;intro bz w h;refine me (ar af (dj Cs j)) c [af j] h 1 J J J M (Src.slice (j:=0) (q2:=0) J ⟨J,trivial⟩ J) (by intro y V;simp at V;subst V;rfl) I an J ?_;intro w X Y Z h dV ig mi;dsimp only[bJ]at h;have eb:ar af (dj Cs j)++[af j]=ar af (dj Cs (j+1)):=(by rw[Lt q,gJ];rfl);rw[eb]at h dV;have el:(W (dj Cs j))+1=W (dj Cs (j+1)):=(by rw[Lt q,aF];rfl);have mP:b8 X (W (dj Cs (j+1))) Y (ar af (dj Cs (j+1))) Z 1:=⟨by rw[cB,fg],dV,by rw[<-el];exact ig,mi⟩;replace h:=h.tail;exact ee (aJ ⟨aO 12,X,Y,Z,Kn.mk ⟨(gS J el),trivial⟩,h,mP⟩)
 refine a8 (⟨aO 7,?_⟩);have eu:dj Cs j=dj Cs (j+1):=(Lu q).symm;rw[eu]at h;exact⟨n,o,c,Kn.mk ⟨(gS J (by rw[Lu q])),trivial⟩,h,(by rw[Lu q];exact M)⟩
 rintro ρ w ⟨p,z,B,⟨Ph,rfl⟩,h,cS⟩;refine g_ 4 ?_;exact⟨aO 4,(j+1,p,z,B),cQ,az,h,I,cS⟩
 obtain rfl:j=W Cs:=I;have E:=aml Cs (W Cs);have LA: ∀i,i<W (dj Cs (W Cs))->aa (dj Cs (W Cs)) i 0<W Cs:=λi hi=>(by have:aa (dj Cs (W Cs)) i 0∈dj Cs (W Cs):=(by rw[bX,gW hi];exact Ai hi);exact(Lv.1 this).1);have d: ∀i,i<W (dj Cs (W Cs))->aa (dj Cs (W Cs)) i 0<=aa (dj Cs (W Cs)) (W (dj Cs (W Cs))-1) 0:=λi hi=>aDG E hi;have KP: ∀O,2<=W (dj Cs (W Cs))->LI (dj Cs (W Cs)) O (W (dj Cs (W Cs))) (aa (dj Cs (W Cs)) (W (dj Cs (W Cs))-1) 0+1) 2048->Pm Cs O:=λO a b=>aDI a b;refine(Ix M I).elim λb0 e0=>?_;subst e0;refine cM (aa (dj Cs (W Cs)) (W (dj Cs (W Cs))-1) 0) λlast xU=>?_;have zy:=LA (W (dj Cs (W Cs))-1) I;rw[xU]at d KP zy;have u:=FG (A:=dj Cs (W Cs)) (sp:=c) (i:=W (dj Cs (W Cs))-1) I;rw[xU]at u;refine g_ 8 ?_;refine aX h J u ?_;refine g_ 1 ?_;refine uK h J J J I I I J ?_;intro bd w h;rw[Vo]at h;refine g_ 4 ?_;replace h:=h.zz [1,1] 0;refine g_ 4 ?_;refine cW [(4,4),(10,11),(39,60)] (λρ w=>Kn ρ []/\H r w ((ah bd (ar af (aT (last+1) 0)) 3)::(ah b0 (ar af (dj Cs (W Cs))++c) 3)::F)) ?_ ?_
 refine g_ 4 ?_;refine xG (t:=40) J (λZy=>?_) (λZy=>?_)
 refine g_ 4 ?_;refine au J ?_ ?_<;>intro EZ
 refine g_ 8 ?_;refine cw (σ:=Nat×List Nat) [(10,11),(46,59)] (λ⟨i,Li⟩ ρ w=>Kn ρ [(46,af i)]/\H r w ((ah bd (ar af (Li)) 3)::(ah b0 (ar af (dj Cs (W Cs))++c) 3)::F)/\(i<=W (dj Cs (W Cs)))/\(LI (dj Cs (W Cs)) Li i (last+1) (KA (W (dj Cs (W Cs))) i))) (λ⟨i,Li⟩=>W (dj Cs (W Cs))-i) (0,aT (last+1) 0) ⟨az,h,I,(LI.aDN I)⟩ ?_;rintro⟨i,Li⟩ ρ w ⟨⟨Vj,rfl⟩,h,hi,xp⟩;refine g_ 5 ?_;refine au J ?_ ?_<;>intro u5
 have zH:=EZ;have uI:=d i I;have f:=FG (A:=(dj Cs (W Cs))) (sp:=c) (i:=i) I;refine g_ 7 ?_;refine aX h J f ?_;refine g_ 10 ?_;refine ak (Ao J J) ?_;refine g_ 1 ?_;refine ir (v:=af (min (i+1) (W (dj Cs (W Cs))-1))) h J (kq (by rw[xp.len];omega)) J J J ?_;intro w h;dsimp only[bJ]at h;rw[Lz]at h;refine g_ 5 ?_;exact⟨aO 17,(i+1,Li.set (aa (dj Cs (W Cs)) i 0) (min (i+1) (W (dj Cs (W Cs))-1))),cQ,az,h,I,aDJ h2 zH I▸xp.step E I I I I⟩
 refine g_ 7 ?_;obtain rfl:i=W (dj Cs (W Cs)):=I;have hK:KA (W (dj Cs (W Cs))) (W (dj Cs (W Cs)))=2048:=(by unfold KA;rw[aj (vT _)]);rw[hK]at xp;exact ams
 exact a8 ⟨aS,az,h⟩
 refine g_ 4 ?_;exact gK J (a8 ⟨aS,az,h⟩)
 rintro ρ w ⟨⟨Pj,rfl⟩,h⟩;have x:W (dj Cs (W Cs))<=256:=I;refine g_ 6 ?_;refine cw (σ:=Nat) [(12,12),(61,66)] (λm ρ w=>Kn ρ [(12,af m)]/\H r w ((ah bd (ar af (aT (last+1) 0)) 3)::(ah b0 (ar af (dj Cs (W Cs))++c) 3)::F)/\(m=0\/2^(m-1)<W (dj Cs (W Cs)))/\(m<=8)) (λm=>9-m) (0) ⟨az,h,(a_ J),(cj _)⟩ ?_;rintro m ρ w ⟨⟨Vk,rfl⟩,h,hm,g⟩;refine g_ 4 ?_;refine ak (gY J J dQ (aM (dF an g) an)) ?_;refine g_ 3 ?_;refine au J ?_ ?_<;>intro G
 refine g_ 7 ?_;exact⟨aO 7,m+1,(by have:=amr (qN G x);omega),az,h,bG G,amr (qN G x)⟩
 have jW:1<=m:=by
  rcases pd m with e|e
  subst e;rw[F8]at G;omega
  exact e
 have u_:=hm.resolve_left I;have lH:2^m<=2*W (dj Cs (W Cs)):=(by have:2^m=2*2^(m-1):=(by rw[<-xu];congr 1;omega);omega);have P:2^m<=256:=aM (dF an g) an;refine g_ 9 ?_;refine cw (σ:=Nat×List Nat) [(13,14),(69,90)] (λ⟨i,Li⟩ ρ w=>Kn ρ [(69,af i)]/\H r w ((ah bd (ar af (Li)) 3)::(ah b0 (ar af (dj Cs (W Cs))++c) 3)::F)/\(i<=W (dj Cs (W Cs)))/\(LI (dj Cs (W Cs)) Li i (last+1) (KB m (2^m- W (dj Cs (W Cs))) i))) (λ⟨i,Li⟩=>W (dj Cs (W Cs))-i) (0,aT (last+1) 0) ⟨az,h,I,LI.aDO⟩ ?_;rintro⟨i,Li⟩ ρ w ⟨⟨Vl,rfl⟩,h,hi,xp⟩;refine g_ 5 ?_;refine au J ?_ ?_<;>intro GB
 have uI:=d i I;have f:=FG (A:=(dj Cs (W Cs))) (sp:=c) (i:=i) I;refine a8 (bY (kp [(13,14),(71,89)] (λρ w=> ∃K:List Nat,Kn ρ []/\H r w ((ah bd (ar af (K)) 3)::(ah b0 (ar af (dj Cs (W Cs))++c) 3)::F)/\(LI (dj Cs (W Cs)) K (i+1) (last+1) (KB m (2^m- W (dj Cs (W Cs))) (i+1)))) ?_ ?_))
 refine g_ 4 ?_;refine aX h J f ?_;refine g_ 9 ?_;refine ir (v:=af (m)) h J (kq (by rw[xp.len];omega)) J J J ?_;intro w h;dsimp only[bJ]at h;rw[Lz]at h;have Q:=kq (D:=Li.set (aa (dj Cs (W Cs)) i 0) m) (i:=aa (dj Cs (W Cs)) i 0) (by rw[dW,xp.len];omega);rw[e_,ao ⟨J,by rw[xp.len];omega⟩]at Q;refine g_ 5 ?_;refine ak (gY J J dQ (aM P an)) ?_;refine g_ 4 ?_;refine au J ?_ ?_<;>intro k
 have R:2<=m:=by
  rcases dq m 2 with e|e
  obtain rfl:m=1:=I;rw[DR]at k;omega
  exact e
 refine g_ 4 ?_;refine aX h J Q (ak (jm (b:=1) (h2:=av.lit _) J J jW aG) ?_);refine g_ 1 ?_;refine dt (af (m-1)) Q ?_;intro w h;rw[Lz,Mi]at h;exact aJ ⟨aO 23,Li.set (aa (dj Cs (W Cs)) i 0) (m-1),az,h,aDK R I k▸xp.step E I I I I⟩
 exact a8 ⟨aO 16,Li.set (aa (dj Cs (W Cs)) i 0) m,az,h,aDL jW k▸xp.step E I I I I⟩
 rintro ρ w ⟨K,⟨acB,rfl⟩,h,S⟩;refine g_ 4 ?_;exact⟨aO 4,(i+1,K),cQ,az,h,I,S⟩
 refine g_ 7 ?_;obtain rfl:i=W (dj Cs (W Cs)):=I;rw[aDM g I lH]at xp;exact ams
def yE(l:List Nat)(m n i:Nat)(Cd:List Nat):Prop:=W Cd=W l/\ ∀s,s<W l->(n<aa l s 0\/(aa l s 0=n/\s<i))->aa Cd s 0=FJ l m s/2^(m-aa l s 0)
def yE.set(h:yE l m n i Cd)(hi:i<W l)(a:aa l i 0=n):yE l m n (i+1) (Cd.set i ((lvl l m (m-n)+ll l n i*2^(m-n))/2^(m-n))):=by
 refine⟨by rw[dW];exact h.1,λs hs b=>?_⟩;rw[e_];by_cases e:i=s
 subst e;rw[ao ⟨J,by rw[h.1];exact hi⟩];unfold FJ;rw[a]
 rw[aj (λz=>e z.1)];exact h.2 s hs (b.imp_right (λz=>⟨z.1,I⟩))
def yE.skip(h:yE l m n i Cd)(a: ¬aa l i 0=n):yE l m n (i+1) Cd:=
 ⟨h.1,λs hs b=>h.2 s hs (b.imp_right (λz=>⟨z.1,by rcases xB.1 z.2 with e|rfl;exact e;exact absurd z.1 a⟩))⟩
def yE.next(h:yE l m n (W l) Cd)(a:0<n):yE l m (n-1) 0 Cd:=
 ⟨h.1,λs hs b=>h.2 s hs I⟩
def aDQ(h:aa l i 0=n):ll l n (i+1)=ll l n i+1:=by
 (conv=>lhs;unfold ll);rw[ao h]
def aDR(h: ¬aa l i 0=n):ll l n (i+1)=ll l n i:=by
 (conv=>lhs;unfold ll);rw[aj h,kN]
def aDS(h:aa l i 0=n):lvl l m (m-n)+ll l n i*2^(m-n)+2^(m-n)=lvl l m (m-n)+ll l n (i+1)*2^(m-n):=by
 rw[aDQ h,vY,fL]
def aDT(a:0<n)(h:n<=m):lvl l m (m-n)+ll l n (W l)*2^(m-n)=lvl l m (m- (n-1)):=by
 have e:m- (n-1)=(m-n)+1:=I;rw[e];(conv=>rhs;unfold lvl);rw[show m- (m-n)=n by omega]
def amw{l:List Nat}{n m i:Nat}(b:W l<=256)(hi:i<=W l)(hm:m<=11):lvl l m (m-n)+ll l n i*2^(m-n)<=10000000/\2^(m-n)<=2048:=by
 have h1:=amo l m (m-n) I;have h2:=acD l n i;have a:2^(m-n)<=2048:=aM (dF an (I:m-n<=11)) an;have c:ll l n i*2^(m-n)<=256*2048:=tG I a;have d:W l*2048*(m-n)<=256*2048*11:=tG (rL _ b) I;exact⟨I,a⟩
def amx{P:Program}{ρ:Env}{x y:Operand}{T T' ty:TypeId}{a:Nat}(e:a=m)(b:aL ρ x=af a)(c:aL ρ y=af n)(h:n<=m)(d:m<=aN .i64):run P ρ (.binOp .sub T x y T') ty w= .ok (.value (af (m-n))) w:=by
 subst e;exact jm b c h d
def aDU{la:Option Addr}{lc:Nat}(h:H r w F)(u:iQ F (.slice la (W l) lc) (l.map af))(x:W l<=256)(hb: ∀s,aa l s 0<=11)(D:0<W l):Calls PP 51 #[.slice la (W l) lc] w λe w'=> ∃bd Cd,e= .returned (cK bd (W l) (W l))/\FK l Cd/\H r w' ((ah bd (ar af Cd) 3)::F):=by
 refine lB (u.fp (show 0<W (l.map af) by rw[cB];omega)) λE G K L c=>?_;refine gg c.2.1 λip M=>?_;have q:=Ly hb;refine iu func51 ntmps51 [2] ?_;refine g_ 16 ?_;refine cw (σ:=Nat) [(3,3),(5,5),(13,20)] (λi ρ w=>Kn ρ [(13,af i),(3,af (dy (l.take i)))]/\H r w (F)/\(i<=W l)) (λi=>W l-i) (0) ⟨az,h,I⟩ ?_;rintro i ρ w ⟨⟨y,rfl⟩,h,hi⟩;refine g_ 5 ?_;refine au J ?_ ?_<;>intro N
 refine g_ 5 ?_;refine ak (da J J c.1 I) (aX h J (om c.2.2 I) ?_);refine g_ 5 ?_;refine ak (Mx J J) ?_;refine g_ 6 ?_;exact⟨aO 10,i+1,cQ,Kn.mk ⟨J,(int_eq (by rw[lY l 0 i I,amp])),trivial⟩,h,I⟩
 have f:dy (l.take i)=dy l:=(by rw[je I]);refine cM (dy l) λm hm=>?_;rw[hm]at q f;refine g_ 5 ?_;refine uK h J J J I I I J ?_;intro bd w h;rw[Vo]at h;refine g_ 13 ?_;refine cw (σ:=Nat×List Nat) [(7,10),(25,53)] (λ⟨n,Cd⟩ ρ w=>Kn ρ [(8,af n),(7,af (lvl l m (m-n)))]/\H r w ((ah bd (ar af (Cd)) 3)::F)/\(n<=m)/\(yE l m n 0 Cd)) (λ⟨n,Cd⟩=>n) (m,aT (W l) 0) ⟨(Kn.mk ⟨(int_eq (cD Int.ofNat f)),(int_eq (by rw[vX];rfl)),trivial⟩),h,(aW _),dS,λs hs O=>by have:= @BC l s;omega⟩ ?_;rintro⟨n,Cd⟩ ρ w ⟨⟨z,rfl⟩,h,k,a⟩;refine g_ 6 ?_;refine au J ?_ ?_<;>intro o
 . refine g_ 10 ?_;refine cw (σ:=Nat×List Nat) [(7,7),(9,10),(31,53)] (λ⟨i,C3⟩ ρ w=>Kn ρ [(31,af i),(7,af (lvl l m (m-n)+ll l n i*2^(m-n)))]/\H r w ((ah bd (ar af (C3)) 3)::F)/\(i<=W l)/\(yE l m n i C3)) (λ⟨i,C3⟩=>W l-i) (0,Cd) ⟨(Kn.mk ⟨J,(int_eq (by simp[ll])),trivial⟩),h,I,a⟩ ?_;rintro⟨i,C3⟩ ρ w ⟨⟨A,rfl⟩,h,hi,d⟩;refine g_ 5 ?_;refine au J ?_ ?_<;>intro P
   have B:= @amw l n m i x hi q;refine a8 (bY (kp [(7,7),(9,10),(33,52)] (λρ w=> ∃g:List Nat,Kn ρ [(7,af (lvl l m (m-n)+ll l n (i+1)*2^(m-n)))]/\H r w ((ah bd (ar af (g)) 3)::F)/\(yE l m n (i+1) g)) ?_ ?_))
   refine g_ 3 ?_;refine ak (da J J c.1 I) (aX h J (om c.2.2 I) ?_);refine g_ 9 ?_;refine au J ?_ ?_<;>intro j
   refine g_ 7 ?_;refine ak (amx f J J k aG) ?_;refine g_ 2 ?_;refine ir (v:=af ((lvl l m (m-n)+ll l n i*2^(m-n))/2^(m-n))) h J (kq (by rw[d.1];omega)) J J J ?_;intro w h;dsimp only[bJ]at h;rw[Lz]at h;refine g_ 5 ?_;refine ak (amx f J J k aG) (ak (gY J J dQ (aM B.2 an)) ?_);refine g_ 3 ?_;exact⟨aO 24,C3.set i ((lvl l m (m-n)+ll l n i*2^(m-n))/2^(m-n)),Kn.mk ⟨(int_eq (cD Int.ofNat (aDS j))),trivial⟩,h,d.set I j⟩
   exact a8 ⟨aO 8,C3,Kn.mk ⟨(int_eq (by rw[aDR j])),trivial⟩,h,d.skip j⟩
   rintro ρ w ⟨g,⟨C,rfl⟩,h,p⟩;refine g_ 4 ?_;exact⟨aO 4,(i+1,g),cQ,az,h,I,p⟩
   have t:i=W l:=I;rw[t]at d;refine g_ 3 ?_;exact ak (jm (b:=1) (h2:=av.lit _) J J o aG) (ee (aJ ⟨aO 10,(n-1,C3),cQ,Kn.mk ⟨J,(int_eq (cD Int.ofNat (by rw[t];exact aDT o k))),trivial⟩,h,I,d.next o⟩))
 refine g_ 7 ?_;obtain rfl:n=0:=I;exact⟨bd,Cd,J,⟨a.1,λs hs hp=>by rw[hm];exact a.2 s hs (a_ hp)⟩,h⟩
def amy{wb:Nat}{x:Wr}{ta sa:Option Addr}{tc sc:Nat}{T:List UInt8}(h:H r w F)(u:(ah wb (bj x) 49)∈F)(p:iQ F (.slice x.la x.ln x.lc) (l.map af))(v:iQ F (.slice sa (W Cd) sc) (Cd.map af))(z:aY F (.slice ta (W T) tc) T)(A:W Cd=W l)(Z:W T<=2147483648)(B: ∀i,i<W T->(aa T i 0).toNat<W l)(D: ∀s,aa l s 0<=11)(E: ∀i,i<W T->aa Cd (aa T i 0).toNat 0<=10000000):Calls PP 52 #[bL wb,.slice ta (W T) tc,.slice sa (W Cd) sc] w λe w'=> ∃bd,e= .returned (cK bd (W (kX (T.flatMap λy=>cT (aa Cd y.toNat 0) (aa l y.toNat 0)))) (W (kX (T.flatMap λy=>cT (aa Cd y.toNat 0) (aa l y.toNat 0)))))/\H r w' (EB (some bd) (kX (T.flatMap λy=>cT (aa Cd y.toNat 0) (aa l y.toNat 0))) []::F):=by
 refine gg u λiw G=>(cM (λk=>(T.take k).flatMap λy=>cT (aa Cd y.toNat 0) (aa l y.toNat 0)) λa d=>?_);have f:a 0=[]:=(by rw[<-d];rfl);have q: ∀k,k<W T->a (k+1)=a k++cT (aa Cd (aa T k 0).toNat 0) (aa l (aa T k 0).toNat 0):=λk b=>(by rw[<-d];simp only[];rw[lY T 0 k b,I9];simp);have g:(T.flatMap λy=>cT (aa Cd y.toNat 0) (aa l y.toNat 0))=a (W T):=(by rw[<-d];simp only[];rw[BL]);rw[g];replace h:=h.ghost (C (ar bl (a 0)++[]) 4);refine nV func52 ntmps52 [6] ?_;refine g_ 6 ?_;refine ak (Jp XE) (tL h J J J ?_);intro bb w h;have K:H r w ((ah bb [.slice (aI none) (W (a 0)) 0] 120)::(none,C (ar bl (a 0)++[]) 4)::F):=(by rw[f]at h ⊢;exact h);replace h:=K;refine g_ 10 ?_;refine cw (σ:=Nat×Option Nat×Nat×List Value) [(9,9),(14,31)] (λ⟨i,ob,c,sp⟩ ρ w=>Kn ρ [(14,af i)]/\H r w ((ah bb [.slice (aI ob) (W (a i)) c] 120)::(ob,C (ar bl (a i)++sp) 4)::F)/\(i<=W T)/\(b8 ob (W (a i)) c (ar bl (a i)) sp 1)/\(W (a i)<=11*i)) (λ⟨i,ob,c,sp⟩=>W T-i) (0,none,0,[]) ⟨az,h,I,(by rw[f];exact⟨J,J,aW _,λ_=>rfl⟩),(by rw[f];exact cj _)⟩ ?_;rintro⟨i,ob,c,sp⟩ ρ w ⟨⟨L,rfl⟩,h,hi,b,jL⟩;refine g_ 5 ?_;refine au J ?_ ?_<;>intro JN
 refine lB (alN z I) λvb vq lv Tv q2=>?_;refine gg q2.2.1 λiv Ex=>?_;have CG:=B i I;refine lB (p.fp (show 0<W (l.map af) by rw[cB];omega)) λpb pq lp Tp j=>?_;refine gg j.2.1 λip rC=>?_;refine lB (v.fp (show 0<W (Cd.map af) by rw[cB];omega)) λM N O P m=>?_;refine gg m.2.1 λQ R=>?_;have n:=p.len;rw[cB]at n;have S:=D (aa T i 0).toNat;have U:=E i I;have o:=q i I;refine g_ 5 ?_;refine ak (da J J q2.1 I) (aX h J (kf q2.2.2 I) (ee (aJ (cm h [0,4,8,12,20,24,28,36,17,33,40,45,51] ?_))));intro w h;refine aC 3 ?_;refine aD J (da J J m.1 I) ?_;refine aC 4 ?_;refine aQ J h J (om m.2.2 I) ?_;refine aC 1 ?_;refine aD J (da J J j.1 I) (aQ J h J (om j.2.2 I) (Ar J J J J J ((Iv h b I I I).mono ?_)));rintro e V ⟨X,c2,Y,rfl,t,h⟩;rw[<-o]at h t;refine⟨_,J,?_⟩;refine cO ?_;refine g_ 4 ?_;exact⟨aO 19,(i+1,X,c2,Y),cQ,az,h,I,t,(by rw[q i I,aF,vN];omega)⟩
 refine g_ 4 ?_;refine d' J J ?_;obtain rfl:i=W T:=I;refine(acj h b I).mono ?_;rintro e V ⟨bd,rfl,h⟩;refine⟨_,J,?_⟩;refine g_ 3 ?_;exact⟨bd,J,h⟩
section
variable {size high log:Nat}{ex:List Nat}{cs:List dx}{shares:List Int}
def amz(a:5<=log/\log<=9)(b:W cs=2^log): ∀{K k:Nat},k<K->K<=2^log->pos (2^log) k<high->(aa (lG (2^log) high ex cs K) (pos (2^log) k) default).sym=aa ex (jB (2^log) high k) 0
 |0,k,h,_,_=>absurd h (ma _)
 | K+1,k,h,f,hp=>by
  rw[lG];rcases dq k K with c|c
  have d:=amz a b c I hp;split
  rw[e_,aj]
  exact d
  rintro⟨e,_⟩;have:=Ri a (k:=K) (k':=k) I I e;omega
  exact d
  have e:k=K:=I;subst e;rw[ao hp,e_,ao ⟨J,by rw[M3,b];exact wz (eA _)⟩]
def amA: ∀K,((cL K).filter λk=>decide (pos size k<high)).map (jB size high)=cL (jB size high K)
 |0=>rfl
 | K+1=>by
  rw[pR,QA,gJ,amA K,jB];by_cases h:pos size K<high
  rw[ao h,pR];simp[h]
  rw[aj h];simp[h]
def amB: ∀(n m:Nat),m<=n->(cL n).filter (λi=>decide (i<m))=cL m
 | 0, m, h => by have:m=0:=I; subst this;rfl
 | n+1,m,h=>by
   rw[pR,QA]
   rcases dq n m with b|b
   . have e:m=n+1:=I
     subst e
     rw[List.filter_eq_self.2 (λa c=>by have:=oY.1 c;simp;omega),pR];simp
   . rw[amB n m b]
     have: ¬n<m:=I
     simp[this]
def aD1: ∀(l:List Nat) (s:Nat),(cL (W l)).countP (λj=>decide (aa l j 0=s))=l.countP (λx=>decide (x=s)):=by
 intro l s
 have:l=(cL (W l)).map (λj=>aa l j 0):=by
  apply nR;intro i;by_cases h:i<W l
  simp[h]
  rw[gB I,gB (by simp;omega)]
 (conv=>rhs;rw[this,Qg]);rfl
def amC{s:Nat}: ∀i,(fE shares i).countP (λx=>decide (x=s))=if s<i then(aa shares s 0).toNat else 0
 |0=>rfl
 | i+1=>by
  rw[fE,Qe,amC i,List.countP_replicate];by_cases h:s=i
  subst h;simp
  have: ¬i=s:=λe=>h e.symm;have a:(if decide (i=s)=true then(aa shares i 0).toNat else 0)=0:=aj (by simp[this]);rw[a,kN];by_cases h2:s<i
  rw[ao h2,ao I]
  rw[aj h2,aj I]
def Dr(shares:List Int)(log x:Nat):Nat:=(aa (spread shares log) x default).sym
def vO(shares:List Int)(log s i:Nat):Nat:=(cL i).countP (λx=>decide (Dr shares log x=s))
def amD(shares:List Int)(log s i:Nat):vO shares log s (i+1)=vO shares log s i+(if Dr shares log i=s then 1 else 0):=by
 unfold vO;rw[pR,Qe];simp[Qf]
def amE(h:iy shares log){s:Nat}(hs:s<W shares):vO shares log s (Go.Z.high shares log)=(aa shares s 0).toNat:=by
 have b:=h.wB;have hp:(((cL (2^log)).filter λk=>decide (pos (2^log) k<Go.Z.high shares log)).map (pos (2^log))).Perm (cL (Go.Z.high shares log)):=(by have h1:=(afI h.mJ).filter (λx=>decide (x<Go.Z.high shares log));rw[amB _ _ b,List.filter_map]at h1;exact h1);unfold vO;rw[<-hp.countP_eq,Qg]
 have c:((cL (2^log)).filter λk=>decide (pos (2^log) k<Go.Z.high shares log)).countP ((λx=>decide (Dr shares log x=s))∘pos (2^log))=
     ((cL (2^log)).filter λk=>decide (pos (2^log) k<Go.Z.high shares log)).countP ((λj=>decide (aa (fE shares (W shares)) j 0=s))∘jB (2^log) (Go.Z.high shares log)):=by
   apply List.countP_congr
   intro k a
   rw[P',oY]at a
   have d:pos (2^log) k<Go.Z.high shares log:=tE a.2
   have:=amz (high:=Go.Z.high shares log) (ex:=fE shares (W shares)) (cs:=top (2^log) log shares (aT (2^log) default) (W shares)) h.mJ (by rw[zt];simp) a.1 (aW _) d
   show decide (Dr shares log (pos (2^log) k)=s)=true↔decide (aa (fE shares (W shares)) (jB (2^log) (Go.Z.high shares log) k) 0=s)=true
   unfold Dr spread
   rw[this]
 rw[c,<-Qg,amA,M1 h.mJ b,h.Rj,aD1,amC,ao hs]
def acI{n s c:Nat}: ∀{i:Nat},c<vO shares log s i-> ∃x,x<i/\Dr shares log x=s/\vO shares log s x=c
 |0,h=>absurd h (ma _)
 | i+1,h=>by
  rw[amD]at h;rcases dq c (vO shares log s i)with a|a
  obtain⟨x,h1,h2,b⟩:=acI (n:=n) a;exact⟨x,I,h2,b⟩
  by_cases e:Dr shares log i=s
  rw[ao e]at h;exact⟨i,F_ _,e,I⟩
  rw[aj e]at h;omega
def amF(h:iy shares log){s:Nat}(hs:s<W shares): ∀i,i<=Go.Z.high shares log->aa (fin log shares (spread shares log) i).1 s 0=aa shares s 0+((vO shares log s i:Nat):Int)
 |0,_=>by simp[fin,vO]
 | i+1,hi=>by
  have b:=amF h hs i I;have c:(aa (fin log shares (spread shares log) i).2 i default)=aa (spread shares log) i default:=Ay (aW _);rw[fin];simp only;rw[c,e_,amD];have d:=(Ax log shares (spread shares log) i).1;by_cases e:Dr shares log i=s
  have a:(aa (spread shares log) i default).sym=s:=e;rw[ao ⟨a,by rw[a,d];exact hs⟩,ao e,a,b];omega
  have a: ¬(aa (spread shares log) i default).sym=s:=e;rw[aj (λz=>a z.1),aj e,b,kN]
def amG{x:Nat}{cs:List dx}: ∀{i:Nat},x<i->aa (fin log shares cs i).2 x default=aa (fin log shares cs (x+1)).2 x default
 |0,h=>absurd h (ma _)
 | i+1,h=>by
  rcases dq x i with a|a
  . rw[<-amG a];(conv=>lhs;rw[fin]);simp only;rw[e_,aj I]
  have:x=i:=I;subst this;rfl
def amH(h:iy shares log){x:Nat}(a:x<Go.Z.high shares log){s:Nat}(hs:Dr shares log x=s)(b:s<W shares):aa (dn shares log) x default=⟨s,iJ log (aa shares s 0+((vO shares log s x:Nat):Int)).toNat,(aa shares s 0+((vO shares log s x:Nat):Int)).toNat*2^iJ log (aa shares s 0+((vO shares log s x:Nat):Int)).toNat-2^log⟩:=by
 unfold dn;rw[amG a,fin];simp only;have c:(aa (fin log shares (spread shares log) x).2 x default)=aa (spread shares log) x default:=Ay (aW _);have d:x<W (fin log shares (spread shares log) x).2:=(by rw[(Ax _ _ _ _).2,M5];exact qN a h.wB);have e:(aa (spread shares log) x default).sym=s:=hs;rw[c,e_,ao ⟨J,d⟩,e,amF h b x I]
def acJ{s:Nat}(h:aa shares s 0= -1):neg shares (s+1)=neg shares s+1:=by
 (conv=>lhs;unfold neg);rw[ao h]
def amI{size:Nat}{cs:List dx}: ∀{i s:Nat},s<i->aa shares s 0= -1->i<=W shares->neg shares i<=size->W cs=size->aa (top size log shares cs i) (size-neg shares (s+1)) default=⟨s,log,0⟩
 |0,s,h,_,_,_,_=>absurd h (ma _)
 | i+1,s,h,hs,hi,d,a=>by
  have h1:= @Aw shares (s+1) (i+1) I;have f:= @Aw shares i (i+1) I;have g:=acJ hs;rw[top];rcases dq s i with b|b
  have c:=amI (size:=size) (cs:=cs) b hs I I a;have h2:= @Aw shares (s+1) i I;by_cases e:aa shares i 0= -1
  have e2:=acJ e;rw[ao e,e_,aj I];exact c
  rw[aj e];exact c
  have:s=i:=I;subst this;rw[ao hs,e_,ao ⟨J,by rw[zt,a];omega⟩]
def amJ(h:iy shares log){s:Nat}(b:s<W shares)(hs:aa shares s 0= -1):2^log-neg shares (s+1)<2^log/\aa (dn shares log) (2^log-neg shares (s+1)) default=⟨s,log,0⟩:=by
 have h1:= @Aw shares (s+1) (W shares) I;have c:=acJ hs;have d:=h.sum;have a:Go.Z.high shares log<=2^log-neg shares (s+1):=(by unfold Go.Z.high;omega);refine⟨I,?_⟩;unfold dn;rw[Ay a];unfold spread;rw[M4 a];exact amI b hs (aW _) I (by simp)
def aD2{T b:Nat}(a:T≠0)(hb:b<=T.log2):(T/2^b).log2=T.log2-b:=by
 have h1:=F2 a;have h2:= @yQ T;have hd:T/2^b≠0:=(by have:2^b<=T:=aM (dF an hb) h1;have:=Qi this (eA b);omega);have c:2^(T.log2-b)<=T/2^b:=(by rw[I6 (eA b),<-h_,Nat.sub_add_cancel hb];exact h1);have e2:T/2^b<2^(T.log2-b+1):=(by rw[Qn (eA b),<-h_,show T.log2-b+1+b=T.log2+1 by omega];exact h2);have a1:=(I5 hd).2 c;have a2:=(qR hd).2 e2;omega
def amK{p:Nat}(hp:0<p): ∀(k T:Nat),p<=T->T<2^(k+1)*p-> ∃b,b<=k/\p<=T/2^b/\T/2^b<2*p
 |0,T,h1,h2=>⟨0,aW _,by simpa using h1,by simpa using h2⟩
 | k+1,T,h1,h2=>by
  by_cases h:T<2*p
  exact⟨0,cj _,by simpa using h1,by simpa using h⟩
  have a:p<=T/2:=I;have c:T/2<2^(k+1)*p:=(by have e:2^(k+1+1)*p=2*(2^(k+1)*p):=(by rw[jI,im (2^(k+1)) 2,sK]);omega);obtain⟨b,hb,d,f⟩:=amK hp k (T/2) a c;refine⟨b+1,I,?_,?_⟩
  rw[xu,<-rM];exact d
  rw[xu,<-rM];exact f
def aD3(h:iy shares log){s:Nat}(d:s<W shares)(hs:aa shares s 0≠0){to:Nat}(o:to<2^log): ∃i,i<W (dn shares log)/\(aa (dn shares log) i default).sym=s/\(aa (dn shares log) i default).base<=to/\to<(aa (dn shares log) i default).base+2^(aa (dn shares log) i default).bits:=by
 have v:=h.lo s;by_cases q:aa shares s 0= -1
 obtain⟨h1,h2⟩:=amJ h d q;exact⟨_,by rw[xQ];exact h1,by rw[h2],by rw[h2];exact cj _,by rw[h2];simpa using o⟩
 obtain⟨p,hp⟩: ∃p:Nat,aa shares s 0=(p:Int):=⟨(aa shares s 0).toNat,I⟩;have j:0<p:=I;have k:=h.hi s;have w:p<=2^log:=(by rw[hp]at k;exact_mod_cast k);have l:(to+2^log).log2=log:=(by have y:=(I5 (show to+2^log≠0 by have:=eA log;omega)).2 (I:2^log<=to+2^log);have e2:=(qR (show to+2^log≠0 by have:=eA log;omega)).2 (show to+2^log<2^(log+1) by rw[jI];omega);omega)
 obtain⟨b,hb,h1,h2⟩:=amK j log (to+2^log) I (by
   have e:2^(log+1)*1<=2^(log+1)*p:=yP _ j
   have:2^(log+1)=2*2^log:=by rw[jI,im]
   omega)
 obtain⟨x,m,f,g⟩:=acI (n:=0) (shares:=shares) (log:=log) (s:=s) (c:=(to+2^log)/2^b-p) (i:=Go.Z.high shares log) (by rw[amE h d,hp,Qz];omega);have a:=amH h m f d;have r:(aa shares s 0+((vO shares log s x:Nat):Int)).toNat=(to+2^log)/2^b:=(by rw[hp,g];omega);have t:iJ log ((to+2^log)/2^b)=b:=(by unfold iJ;rw[aD2 (by have:=eA log;omega) (by rw[l];exact hb),l];omega);rw[r,t]at a;have u:=DT (to+2^log) (2^b);have z:=dY (to+2^log) (eA b);rw[im]at u;refine⟨x,by rw[xQ];exact qN m h.wB,by rw[a],?_,?_⟩
 rw[a];dsimp only;omega
 rw[a];dsimp only;omega
end
end Go.Z
