/- Part 2 of the proof. -/
import Derived.KernelRfl
import Derived.Test.YtmgkiicjpmihfaaGreatDoorProg
import Derived.Test.YtmgkiicjpmihfaaGreatDoorQA
set_option linter.all false
set_option maxRecDepth 20000
set_option maxHeartbeats 400000000
namespace Go.Z
open Go
section
variable {cap s:Nat}{ad:Option Addr}
variable {P:Program}{n:Nat}{K:gw}{ρ:Env}{all:Array Oper}{rest:List Oper}{d:Option Nat}{ty:TypeId}{pos:String}{aN:Array Edge}
variable {r:dQ}{w:World}{L:List aD}{x y z:Operand}{b q i:Nat}{l:List Value}{T T':TypeId}{v:Value}
def aB:Option Nat->Option Addr
 |some b=>some ⟨b,0,none⟩
 |none=>none
def cut(ad:Option Addr)(cap l s:Nat):Option Addr:=if cap=l then ad else ad.map (·.add (l*s))
theorem eg{l:Nat}(h:ad=some ⟨b,q,none⟩)(bY:cap≠l):cut ad cap l 1=some ⟨b,q+l,none⟩:=by
 subst h;simp[cut,bY,add_plain]
theorem sx{l:Nat}(h:ad=some ⟨b,0,none⟩)(bY:cap≠l):cut ad cap l 1=some ⟨b,l,none⟩:=by
 subst h;simp[cut,bY,add_plain]
theorem add_zero'(a:Addr):a.add 0=a:=by simp[Addr.add]
theorem aoX(ad:Option Addr)(cap s:Nat):cut ad cap 0 s=ad:=by
 unfold cut;split
 rfl
 cases ad<;>simp[add_zero']
theorem Wc{T':TypeId}[hu:bO P T (.slice T')]{s:Nat} [hs:Sz P T' s]{ad:Option Addr}{len cap:Nat}{lo hi:Option Operand}{a c:Nat}(hx:Env.ev ρ x= .slice ad len cap)(hl:match lo with|none=>a=0|some o=> ∃k,Env.ev ρ o= .int k (a:Int))(hh:match hi with|none=>c=len|some o=> ∃k,Env.ev ρ o= .int k (c:Int))(W:a<=c)(h2:c<=cap):run P ρ (.slice T x lo hi none) ty w= .ok (.value (.slice (cut ad cap a s) (c-a) (cap-a))) w:=by
 have e2:=hs.size w;have e3: ∀k:IntKind,(Instr.sliceBound (.int k (a:Int)) c .sliceB).run P w= .ok a w:=λk=>(by simp[Instr.sliceBound,asIntOf,W]);have e4: ∀k:IntKind,(Instr.sliceBound (.int k (c:Int)) cap .sliceAcap).run P w= .ok c w:=λk=>(by simp[Instr.sliceBound,asIntOf,h2])
 cases lo with
 | none=>
   simp only at hl;subst hl
   cases hi with
   | none=>
     simp only at hh;subst hh
     simp[run,execOp,hx,Instr.sliceAt,Instr.slice,Instr.sliceBounds,underlying,program,Sem.run,hu.eq,e2,cut]
   | some o=>
     obtain⟨k,hk⟩:=hh
     simp[run,execOp,hx,hk,Instr.sliceAt,Instr.slice,Instr.sliceBounds,underlying,program,Sem.run,hu.eq,e2,e4,cut]
 | some o=>
   obtain⟨k,hk⟩:=hl
   cases hi with
   | none=>
     simp only at hh;subst hh
     simp[run,execOp,hx,hk,Instr.sliceAt,Instr.slice,Instr.sliceBounds,underlying,program,Sem.run,hu.eq,e2,e3,cut]
   | some o'=>
     obtain⟨k',rA⟩:=hh
     simp[run,execOp,hx,hk,rA,Instr.sliceAt,Instr.slice,Instr.sliceBounds,underlying,program,Sem.run,hu.eq,e2,e3,e4,cut]
theorem lX{T':TypeId}[hu:bO P T (.slice T')]{s:Nat} [hs:Sz P T' s]{ad:Option Addr}{len cap:Nat}{u:Int}{k:IntKind}{c:Nat}(hx:Env.ev ρ x= .slice ad len cap)(hy:Env.ev ρ y= .int k u) [W:ao u c](h2:c<=cap):run P ρ (.slice T x none (some y) none) ty w= .ok (.value (.slice ad c cap)) w:=by
 have:=Wc (P:=P) (ρ:=ρ) (T:=T) (ty:=ty) (w:=w) (lo:=none) (hi:=some y) (a:=0) (c:=c) hx J ⟨k,by rw[hy,W.eq]⟩ (bP _) h2;rw[this,aoX];simp
theorem iY{T':TypeId}[hu:bO P T (.slice T')]{s:Nat} [hs:Sz P T' s]{ad:Option Addr}{len cap:Nat}{u:Int}{k:IntKind}{a:Nat}(hx:Env.ev ρ x= .slice ad len cap)(hy:Env.ev ρ y= .int k u) [W:ao u a](h2:a<=len)(h3:len<=cap):run P ρ (.slice T x (some y) none none) ty w= .ok (.value (.slice (cut ad cap a s) (len-a) (cap-a))) w:=
 Wc hx ⟨k,by rw[hy,W.eq]⟩ J h2 h3
theorem uX{T':TypeId}[hu:bO P T (.slice T')]{s:Nat} [hs:Sz P T' s]{ad:Option Addr}{len cap:Nat}{u u':Int}{k k':IntKind}{a c:Nat}(hx:Env.ev ρ x= .slice ad len cap)(hy:Env.ev ρ y= .int k u)(hz:Env.ev ρ z= .int k' u') [W:ao u a] [h2:ao u' c](h3:a<=c)(h4:c<=cap):run P ρ (.slice T x (some y) (some z) none) ty w= .ok (.value (.slice (cut ad cap a s) (c-a) (cap-a))) w:=
 Wc hx ⟨k,by rw[hy,W.eq]⟩ ⟨k',by rw[hz,h2.eq]⟩ h3 h4
theorem Ll{len:Nat}[hu:bO P T (.array len T')] [hs:Sz P T' s](hx:Env.ev ρ x= .pointer (some ⟨b,q,none⟩)):run P ρ (.slice T x none none none) ty w= .ok (.value (.slice (some ⟨b,q,none⟩) len len)) w:=by
 have e2:=hs.size w;simp[run,execOp,hx,Instr.sliceAt,Instr.sureAddr,Instr.sliceBounds,underlying,program,Sem.run,hu.eq,e2,add_plain]
theorem uY{len:Nat}[hu:bO P T (.array len T')] [hs:Sz P T' s]{u:Int}{k:IntKind}{c:Nat}(hx:Env.ev ρ x= .pointer (some ⟨b,q,none⟩))(hy:Env.ev ρ y= .int k u) [W:ao u c](h2:c<=len):run P ρ (.slice T x none (some y) none) ty w= .ok (.value (.slice (some ⟨b,q,none⟩) c len)) w:=by
 have e2:=hs.size w;have e4:(Instr.sliceBound (.int k (c:Int)) len .sliceAlen).run P w= .ok c w:=(by simp[Instr.sliceBound,asIntOf,h2]);simp[run,execOp,hx,hy,W.eq,Instr.sliceAt,Instr.sureAddr,Instr.sliceBounds,underlying,program,Sem.run,hu.eq,e2,e4,add_plain]
theorem Io{len:Nat}[hu:bO P T (.array len T')] [hs:Sz P T' s]{u:Int}{k:IntKind}{a:Nat}(hx:Env.ev ρ x= .pointer (some ⟨b,q,none⟩))(hy:Env.ev ρ y= .int k u) [W:ao u a](h2:a<len):run P ρ (.slice T x (some y) none none) ty w= .ok (.value (.slice (some ⟨b,q+a*s,none⟩) (len-a) (len-a))) w:=by
 have e2:=hs.size w;have e3:(Instr.sliceBound (.int k (a:Int)) len .sliceB).run P w= .ok a w:=(by simp[Instr.sliceBound,asIntOf];omega);have: ¬len=a:=I;simp[run,execOp,hx,hy,W.eq,Instr.sliceAt,Instr.sureAddr,Instr.sliceBounds,underlying,program,Sem.run,hu.eq,e2,e3,this,add_plain]
def Rd(l:List Value)(q:Nat):List Value->Prop
 | []=>True
 |v::vs=>l[q]? =some v/\Rd l (q+1) vs
theorem Rd.get: ∀{vs:List Value} {q:Nat},Rd l q vs-> ∀j,j<vs.length->l[q+j]? =vs[j]?
 | [],_,_,j,hj=>by simp at hj
 |v::vs,q,h,0,_=>by simpa using h.1
 |v::vs,q,h,j+1,hj=>by have:=Rd.get h.2 j (by simpa using hj);simpa [gQ,Ay 1 j] using this
theorem Rd.of: ∀{vs:List Value} {q:Nat},(∀j,j<vs.length->l[q+j]? =vs[j]?)->Rd l q vs
 | [],_,_=>trivial
 |v::vs,q,h=>⟨by simpa using h 0 (by simp),Rd.of λj hj=>by have:=h (j+1) (by simpa using hj);simpa [gQ,Ay 1 j] using this⟩
theorem Rd.self(l:List Value):Rd l 0 l:=Rd.of λj _=>by rw[im]
theorem iJ{a a':Option Addr}{n n' c c':Nat}(W:a=a')(h2:n=n')(h3:c=c'):Value.slice a n c=Value.slice a' n' c':=by rw[W,h2,h3]
theorem Rd.slice{m:Nat}(h:q+m<=l.length):Rd l q ((l.drop q).take m):=by
 refine Rd.of λj hj=>?_;simp at hj;rw[pT,ai I,oE]
theorem ac_{P:Program}{w:World}{a:Addr}: ∀(m i:Nat) (acc:Array Value) (vs:List Value),vs.length=m->(∀j,j<m->w.cell? (a.add (i+j))=vs[j]?)->(loadCellsFrom a i m acc).run P w= .ok (acc++vs.toArray) w
 |0,_,acc,vs,hl,_=>by have:vs=[]:=kq.1 hl;subst this;simp[loadCellsFrom]
 | m+1,i,acc,vs,hl,h=>by
  cases vs with
  |nil=>simp at hl
  | cons v vs=>
    have h0:=h 0 I
    simp only[kU,List.getElem?_cons_zero]at h0
    have ih:=ac_ (P:=P) (w:=w) (a:=a) m (i+1) (acc.push v) vs (by simpa using hl) (λj hj=>by
      have:=h (j+1) I
      simpa [gQ,Ay 1 j] using this)
    simp only[loadCellsFrom]
    simp[load,Sem.run,h0,ih]
theorem CR{T:TT}(h:H r w L)(hi:L[i]? =some (some b,C l T)){vs:List Value}(hv:Rd l q vs){m:Nat}(hm:vs.length=m):(loadCells ⟨b,q,none⟩ m).run P w= .ok vs.toArray w:=by
 unfold loadCells;rw[ac_ m 0 #[] vs hm (λj hj=>?_)]
 simp
 rw[add_plain,im];have:=hv.get j I;have cP:j<vs.length:=I;rw[h.cell hi (this.trans (gv cP))];exact(gv cP).symm
class kV(P:Program)(T:TypeId)(s:outParam Nat):Prop where
 agg: ∀w,(isAgg T).run P w= .ok true w
 size: ∀w,(sizeOf T).run P w= .ok s w
theorem iK{T:TT}{T':TypeId}[W:kV P T' s](vs:List Value)(h:H r w L)(hx:Env.ev ρ x= .pointer (some ⟨b,q,none⟩)) [hb:Has L b l T i](hv:Rd l q vs)(hl:vs.length=s):run P ρ (.load T' x) ty w= .ok (.value (.agg vs.toArray)) w:=by
 have ha:=W.agg w;have hs:=W.size w;have:=CR (P:=P) h hb.at_ hv hl;simp[run,execOp,hx,Instr.loadAt,Instr.sureAddr,loadVar,ha,hs,this]
def cT(l:List Value)(q:Nat):List Value->List Value
 | []=>l
 |v::vs=>cT (l.set q v) (q+1) vs
theorem Lm: ∀(vs:List Value) (l:List Value) (q:Nat),(cT l q vs).length=l.length
 | [],_,_=>rfl
 |v::vs,l,q=>by rw[cT,Lm];simp
theorem Pw: ∀(vs:List Value) (l:List Value) (q j:Nat),(cT l q vs)[j]? =if q<=j/\j<q+vs.length/\j<l.length then vs[j-q]? else l[j]?
 | [],l,q,j=>by rw[cT,ag (λh=>by have W:=h.1;have h2:=h.2.1;simp only[fE]at h2;omega)]
 | v::vs,l,q,j=>by
  rw[cT,Pw vs (l.set q v) (q+1) j];simp only[dD,ek];by_cases W:j=q
  subst W;rw[ag I];by_cases h2:j<l.length
  rw[ai ⟨aR _,by omega,h2⟩];simp[h2]
  rw[ag I];simp[h2]
  by_cases h2:q+1<=j/\j<q+1+vs.length/\j<l.length
  rw[ai h2,ai I];have:j-q=(j- (q+1))+1:=I;rw[this];simp
  rw[ag h2,ag I];rw[Az (λe=>W e.symm)]
theorem AQ(vs l:List Value)(q:Nat)(h:q+vs.length<=l.length):cT l q vs=l.take q++vs++l.drop (q+vs.length):=by
 apply oF;intro j;rw[Pw,cF,Vo];simp only[gk,mx (show q<=l.length by omega)];by_cases W:j<q
 rw[ag I,ai W];simp[W]
 rw[ag W,Vo];by_cases h2:j-q<vs.length
 rw[ai I,ai h2]
 rw[ag I,ag h2,oE];congr 1;omega
theorem CS: ∀(vs:List Value) (w:World) (L:List aD) (l:List Value) (q j:Nat),H r w L->L[i]? =some (some b,C l T)->(∀v∈vs,plain v=true)->q+j+vs.length<=l.length-> ∃w',(storeCells ⟨b,q,none⟩ vs j).run P w= .ok () w'/\H r w' (L.set i (some b,C (cT l (q+j) vs) T))/\w'.heap.size=w.heap.size/\w'.drawn=w.drawn
 | [],w,L,l,q,j,h,hi,_,_=>by
  refine⟨w,by simp[storeCells],?_,J,J⟩;simp only[cT];have nT:i<L.length:=(sf.1 hi).1
  have e:L.set i (some b,C l T)=L:=by
   apply oF;intro k;rw[uK];split
   rename_i e;subst e;exact hi.symm
   rfl
  rw[e];exact h
 | v::vs,w,L,l,q,j,h,hi,hp,hl=>by
  simp only[ek]at hl;have cP:q+j<l.length:=I;have hc:=h.cell hi (gv cP);have hf:=h.free hi (q+j);have h':=h.store hi (q:=q+j) v;have nT:i<L.length:=(sf.1 hi).1;obtain⟨w',e1,e2,e3,e4⟩:=CS vs (w.setCell ⟨b,q+j,none⟩ v) _ (l.set (q+j) v) q (j+1) h' (by simp[nT]) (λu hu=>hp u (ar hu)) (by simp;omega);refine⟨w',?_,?_,by rw[e3];simp[World.setCell],by rw[e4];rfl⟩
  have hv:=hp v bF;simp only[storeCells];have e5:(store ((⟨b,q,none⟩:Addr).add j) v).run P w= .ok () (w.setCell ⟨b,q+j,none⟩ v):=(by rw[add_plain];cases v<;>simp[plain]at hv<;>simp[store,Sem.run,hc,hf]);simp[e5,e1]
  simpa [cT,gQ] using e2
end
section
variable {zs:List Value}{eD c2 m size:Nat}{op:Op}{ord:Ot}{E2 T2:TypeId}{sv u xv:Value}{w':World}
variable {P:Program}{n:Nat}{K:gw}{ρ:Env}{all:Array Oper}{rest:List Oper}{d:Option Nat}{ty:TypeId}{pos:String}{aN:Array Edge}
variable {r:dQ}{w:World}{L:List aD}{x y z:Operand}{b q i:Nat}{l:List Value}{T T':TypeId}{v:Value}
class Zr(P:Program)(T:TypeId)(zs:outParam (List Value)):Prop where
 zero: ∀w,∃v,(zeroValue T).run P w= .ok v w/\v.cells=⟨zs⟩
class By(P:Program)(T:TypeId)(m:outParam Nat):Prop where
 bytes: ∀w,∃t,(typeInfo T).run P w= .ok t w/\t.bytes=m
theorem ac'[hz:Zr P T zs]:run P ρ (.alloc T) ty w= .ok (.value (.pointer (some ⟨w.heap.size,0,none⟩))) (w.alloc (C zs T)):=by
 obtain⟨v,W,h2⟩:=hz.zero w;simp[C,run,execOp,Instr.alloc,W,newVar,newRow,newObj,Sem.run,h2]
theorem aoY(hx:Env.ev ρ x=u){zs:List Value}(hu:u.cells=⟨zs⟩):run P ρ (.box T x) ty w= .ok (.value (.pointer (some ⟨w.heap.size,0,none⟩))) (w.alloc (C zs T)):=by
 simp[C,run,execOp,Instr.box,newVar,newRow,newObj,Sem.run,hx,hu]
section
variable (hd:aV n d=true)
theorem eh[hz:Zr P T zs](h:H r w L)(hd:aV n d=true)(hk: ∀b w',H r w' ((some b,C zs T)::L)->O P n all rest K (Env.put ρ d (.pointer (some ⟨b,0,none⟩))) w'):O P n all ({dst:=d,op:= .alloc T,type:=ty,pos:=pos,after:=aN,guard:=none}::rest) K ρ w:=
 gf ac' hd (hk _ _ (h.alloc _))
theorem sB(h:H r w L)(hx:Env.ev ρ x=u)(hu:u.cells=⟨zs⟩)(hd:aV n d=true)(hk: ∀b w',H r w' ((some b,C zs T)::L)->O P n all rest K (Env.put ρ d (.pointer (some ⟨b,0,none⟩))) w'):O P n all ({dst:=d,op:= .box T x,type:=ty,pos:=pos,after:=aN,guard:=none}::rest) K ρ w:=
 gf (aoY hx hu) hd (hk _ _ (h.alloc _))
theorem ada[hz:Zr P T zs](hi:all[m]? =some {dst:=d,op:= .alloc T,type:=ty,pos:=pos,after:=aN,guard:=none})(h:H r w L)(hd:aV n d=true)(hk: ∀b w',H r w' ((some b,C zs T)::L)->D P n all ord K (Env.put ρ d (.pointer (some ⟨b,0,none⟩))) w'):D P n all (.cons (m,.g) ord) K ρ w:=
 V1 hi ac' (eJ.alloc _ _) hd (hk _ _ (h.alloc _))
end
theorem tq{v:Nat->Value}{o:Obj}(hr: ∀w,run P ρ op ty w= .ok (.value (v w.heap.size)) (w.alloc o))(h:H r w L)(hd:aV n d=true)(hk: ∀b w',H r w' ((some b,o)::L)->O P n all rest K (Env.put ρ d (v b)) w'):O P n all ({dst:=d,op:=op,type:=ty,pos:=pos,after:=aN,guard:=none}::rest) K ρ w:=
 gf (hr w) hd (hk _ _ (h.alloc _))
theorem Px{v:Nat->Value}{o:Obj}(hi:all[m]? =some {dst:=d,op:=op,type:=ty,pos:=pos,after:=aN,guard:=none})(hr: ∀w,run P ρ op ty w= .ok (.value (v w.heap.size)) (w.alloc o))(h:H r w L)(hd:aV n d=true)(hk: ∀b w',H r w' ((some b,o)::L)->D P n all ord K (Env.put ρ d (v b)) w'):D P n all (.cons (m,.g) ord) K ρ w:=
 V1 hi (hr w) (eJ.alloc _ _) hd (hk _ _ (h.alloc _))
def dj(zs:List Value)(n:Nat):List Value:=(List.range (n*zs.length)).map λi=>(zs[i % zs.length]?).getD default
theorem CT(z:Value)(n:Nat):dj [z] n=List.replicate n z:=by
 apply oF;intro j;simp only[dj,ek,fE,im,eC,kK,List.getElem?_range',uM];by_cases hj:j<n
 simp[hj,Nat.mod_one]
 simp[hj]
theorem CU(zs:List Value)(n:Nat):(dj zs n).length=n*zs.length:=by simp[dj]
theorem run_makeSlice{s:Nat}[hu:bO P T (.slice T')] [hs:Sz P T' s] [hz:Zr P T' zs] [hb:By P T' eD]{u u':Int}{k k':IntKind}{a c:Nat}(hx:Env.ev ρ x= .int k u)(hy:Env.ev ρ y= .int k' u') [W:ao u a] [h2:ao u' c](rD:zs.length=s)(Py:a<=c)(hc:eD*c<=281474976710656)(Pz:c<=281474976710656):run P ρ (.makeSlice T x y) ty w= .ok (.value (.slice (some ⟨w.heap.size,0,none⟩) a c)) (w.alloc (C (dj zs c) T')):=by
 obtain⟨t,t1,t2⟩:=hb.bytes w;obtain⟨zv,z1,z2⟩:=hz.zero w;have e2:=hs.size w;have wa:=th .i64 a (by simp[aG];omega);have wc:=th .i64 c (by simp[aG];omega);have n1: ¬((c:Int)<0):=I;have n2: ¬((281474976710656:Int)<(eD:Int)*(c:Int)):=(by have:(eD:Int)*(c:Int)=((eD*c:Nat):Int):=(by simp);rw[this];omega);have n3: ¬((a:Int)<0):=I;have n4: ¬((c:Int)<(a:Int)):=I;have oI:(askRoom (c*eD)).run P w= .ok () w:=(by unfold askRoom;split<;>simp[mark,Sem.run]);by_cases h0:c*s=0
 have:dj zs c=[]:=kq.1 (by rw[CU,rD,h0]);simp[run,execOp,hx,hy,W.eq,h2.eq,Instr.makeSlice,underlying,program,Sem.run,hu.eq,asInt,asIntOf,t1,t2,wa,wc,n1,n2,n3,n4,oI,e2,h0,newRow,newObj,this];exact b8 (λa=>w.alloc (Obj.cells a T')) (by apply Array.ext<;>simp)
 have e5:((Array.range (c*s)).map λi=>zv.cells[i % zv.cells.size]!)=⟨dj zs c⟩:=(by rw[z2];apply EX.1;simp[dj,rD,CC,se]);simp[run,execOp,hx,hy,W.eq,h2.eq,Instr.makeSlice,underlying,program,Sem.run,hu.eq,asInt,asIntOf,t1,t2,wa,wc,n1,n2,n3,n4,oI,e2,h0,newRow,newObj,z1];simp only[e5,C]
theorem H.replace{e:aD}{i:Nat}(h:H r w (e::L))(hi:i<L.length):H r w (L.set i e):=by
 have hp:L=L.take i++L[i]::L.drop (i+1):=(by simp);have hs:L.set i e=L.take i++e::L.drop (i+1):=List.set_eq_take_append_cons_drop▸(by simp[hi]);rw[hs];have W:H r w (L[i]::(L.take i++e::L.drop (i+1))):=(by refine h.perm ?_;have h2:(e::L).Perm (e::(L[i]::(L.take i++L.drop (i+1)))):=(by refine List.Perm.cons _ ?_;(conv=>lhs;rw[hp]);exact si);refine h2.trans ((List.Perm.swap _ _ _).trans (List.Perm.cons _ ?_));exact List.perm_middle.symm);exact W.tail
theorem adb: ∀(k sD c:Nat),c<=sD->Builtin.growBy sD k c<=2*sD+1000
 |0,sD,c,h=>by simp[Builtin.growBy];omega
 | k+1,sD,c,h=>by
  simp only[Builtin.growBy];split
  omega
  by_cases h2:c+(c+768)/4<=sD
  exact adb k sD _ h2
  cases k with
  |zero=>simp[Builtin.growBy];omega
  |succ k=>simp only[Builtin.growBy];rw[ai I];omega
theorem PA{sD c:Nat}(h:c<sD):Builtin.nextslicecap sD c<=2*sD+1000:=by
 unfold Builtin.nextslicecap;split
 omega
 split
 omega
 exact adb 4 sD c I
theorem PB(sD t:Nat)(o:Nat)(T:TypeId):sD<=(Question.appendCap sD o T).cut t:=by simp[Question.cut]
structure Src(P:Program)(r:dQ)(L:List aD)(size m:Nat)(v:Value)(ys:List Value):Prop where
 len: ∀w,(Builtin.lenOf v).run P w= .ok m w
 cells: ∀w,H r w L->(Builtin.firstCells size m v).run P w= .ok ys.toArray w
 size:ys.length=m*size
theorem Src.slice{j b2 q2:Nat}{l2:List Value}{T2:TT}{ys:List Value}(hj:L[j]? =some (some b2,C l2 T2))(hr:Rd l2 q2 ys)(hl:ys.length=m*size):Src P r L size m (.slice (some ⟨b2,q2,none⟩) m c2) ys:=
 ⟨λw=>by simp[Builtin.lenOf],λw h=>by simp only[Builtin.firstCells];exact CR h hj hr hl,hl⟩
theorem Src.nil{a:Option Addr}:Src P r L size 0 (.slice a 0 c2) []:=
 ⟨λw=>by simp[Builtin.lenOf],λw h=>by cases a<;>simp[Builtin.firstCells,loadCells,loadCellsFrom],by simp⟩
theorem Ip{L:List aD}{i:Nat}{e:aD}(hi:L[i]? =some e):L.set i e=L:=by
 apply oF;intro k;rw[uK];split
 rename_i e';subst e';rw[ai (sf.1 hi).1];exact hi.symm
 rfl
theorem Wd[hu:bO P T (.slice T')] [hs:Sz P T' size] [hz:Zr P T' zs] [hb:By P T' eD] [j_:bO P T2 (.slice E2)](rD:zs.length=size){ob:Option Nat}{xs sp ys:List Value}{nn c m:Nat}{xv:Value}(h:H r w L)(hi:L[i]? =some (ob,C (xs++sp) T'))(eK:xs.length=nn*size)(fL:(xs++sp).length=c*size)(uZ:nn<=c)(uU:ob=none->c=0)(ia:0<size)(qO:Src P r L size m xv ys)(fF: ∀v∈ys,plain v=true)(eT:(2*(nn+m)+1000)*eD<=281474976710656)(We:nn+m<=281474976710656): ∃w' bH c' dm,(Builtin.append_ #[T,T2] ty #[.slice (aB ob) nn c,xv]).run P w= .ok (.slice (aB bH) (nn+m) c') w'/\H r w' (L.set i (bH,C (xs++ys++dm) T'))/\(xs++ys++dm).length=c'*size/\nn+m<=c'/\(bH=none->c'=0):=by
 obtain⟨t,t1,t2⟩:=hb.bytes w;have e2:=hs.size w;have e3:=qO.len w;have e4:=qO.cells w h;have W:=qO.size;have nT:i<L.length:=(sf.1 hi).1;by_cases jD:nn+m<=c
 have hle:nn*size+ys.length<=(xs++sp).length:=(by have:(nn+m)*size<=c*size:=sj _ jD;rw[qH]at this;omega)
 cases ob with
 | none=>
   have hc:=uU J
   subst hc
   obtain rfl:nn=0:=by omega
   obtain rfl:m=0:=by omega
   have hy:ys=[]:=kq.1 I
   subst hy
   refine⟨w,none,0,sp,?_,?_,by simpa using fL,aR _,λ_=>rfl⟩
   . simp[Builtin.append_,underlying,program,Sem.run,hu.eq,j_.eq,e2,e3,e4,aB]
   . rw[dP,Ip hi];exact h
 | some b=>
   obtain⟨w',s1,s2,_,_⟩:=CS (P:=P) ys w L (xs++sp) (nn*size) 0 h hi fF I
   refine⟨w',some b,c,sp.drop ys.length,?_,?_,?_,jD,λe=>by cases e⟩
   . simp[Builtin.append_,underlying,program,Sem.run,hu.eq,j_.eq,e2,e3,jD,e4,aB,add_plain,s1]
   . have e5:cT (xs++sp) (nn*size+0) ys=xs++ys++sp.drop ys.length:=by
       rw[kU,AQ _ _ _ hle,<-eK]
       simp[EY]
     rw[e5]at s2;exact s2
   . simp only[aF,bV]at fL hle ⊢;omega
 have jt:c<nn+m:=I;have AR: ¬((281474976710656:Nat)<Builtin.nextslicecap (nn+m) c*eD):=(by have:=sj eD (PA jt);omega);have Fb: ¬((9223372036854775807:Int)<(nn:Int)+(m:Int)):=I;obtain⟨w1,mU⟩: ∃w1:World,w1=w.drew:=⟨_,J⟩;have h':H r w1 L:=(by rw[mU];exact h.drew);have xP:=qO.cells w1 h';obtain⟨zv,z1,z2⟩:=hz.zero w1;obtain⟨t',AS,AT⟩:=hb.bytes w1;obtain⟨iZ,xQ⟩: ∃iZ,iZ=(Question.appendCap (nn+m) c T').cut (w.tape w.drawn (Question.appendCap (nn+m) c T')):=⟨_,J⟩;have np:nn+m<=iZ:=(by rw[xQ];exact PB _ _ _ _);have oI: ∀k,(askRoom k).run P w1= .ok () w1:=λk=>(by unfold askRoom;split<;>simp[mark,Sem.run])
 have hold:(Builtin.firstCells size nn (.slice (aB ob) nn c)).run P w1= .ok xs.toArray w1:=by
  cases ob with
  | none=>
    have hc:=uU J
    have : xs = [] := kq.1 (by rw[eK]; have:nn=0:=(by omega); subst this;simp)
    subst this;simp[Builtin.firstCells,aB]
  | some b=>
    simp only[Builtin.firstCells,aB]
    refine CR h' hi ?_ eK
    exact Rd.of λj hj=>by rw[im,ir hj]
 have sE:(Builtin.zeroCells zv.cells (iZ- (nn+m)))=⟨dj zs (iZ- (nn+m))⟩:=(by rw[z2];apply EX.1;simp[Builtin.zeroCells,dj,CC,se]);have Fc:(Question.appendCap (nn+m) c T').forced=false:=rfl;refine⟨w1.alloc (C (xs++ys++dj zs (iZ- (nn+m))) T'),some w1.heap.size,iZ,dj zs (iZ- (nn+m)),?_,(h'.alloc _).replace nT,?_,np,λe=>by cases e⟩
 simp[Builtin.append_,underlying,program,Sem.run,hu.eq,j_.eq,e2,e3,jD,t1,t2,AR,Fb,choose,Fc];simp only[<-xQ,show({w with drawn:=w.drawn+1}:World)=w1 from mU.symm,show w.drew=w1 from mU.symm];simp[C,AS,AT,oI,hold,xP,z1,sE,newRow,newObj,Sem.run,show aB (some w1.heap.size)=some ⟨w1.heap.size,0,none⟩from J]
 rw[aF,aF,CU,rD,eK,W,<-qH,<-qH];congr 1;omega
theorem CV(hx:Env.ev ρ x=sv)(hy:Env.ev ρ y=xv)(hr:(Builtin.append_ #[T,T2] ty #[sv,xv]).run P w= .ok u w'):run P ρ (.call {callee:= .builtin .append,args:= #[x,y],argTypes:= #[T,T2]}) ty w= .ok (.value u) w':=by
 simp[run,execOp,resolve,invoke,builtin,hx,hy,hr]
theorem kW[hu:bO P T (.slice T')] [hs:Sz P T' size] [hz:Zr P T' zs] [hb:By P T' eD] [j_:bO P T2 (.slice E2)]{ob:Option Nat}{nn c m:Nat}{xv:Value}(xs sp ys:List Value)(h:H r w L)(i:Nat)(hx:Env.ev ρ x= .slice (aB ob) nn c)(hy:Env.ev ρ y=xv)(hi:L[i]? =some (ob,C (xs++sp) T'))(hlen:xs.length=nn*size/\(xs++sp).length=c*size/\nn<=c/\(ob=none->c=0))(qO:Src P r L size m xv ys)(fF: ∀v∈ys,plain v=true)(eT:(2*(nn+m)+1000)*eD<=281474976710656/\nn+m<=281474976710656)(ly:zs.length=size/\0<size)(hd:aV n d=true)(hk: ∀w' bH c' dm,H r w' (L.set i (bH,C (xs++ys++dm) T'))->(xs++ys++dm).length=c'*size->nn+m<=c'->(bH=none->c'=0)->O P n all rest K (Env.put ρ d (.slice (aB bH) (nn+m) c')) w'):O P n all ({dst:=d,op:= .call {callee:= .builtin .append,args:= #[x,y],argTypes:= #[T,T2]},type:=ty,pos:=pos,after:=aN,guard:=none}::rest) K ρ w:=by
 obtain⟨w',bH,c',dm,W,h2,h3,h4,h5⟩:=Wd (P:=P) (ty:=ty) (T:=T) (T2:=T2) ly.1 h hi hlen.1 hlen.2.1 hlen.2.2.1 hlen.2.2.2 ly.2 qO fF eT.1 eT.2;exact gf (CV hx hy W) hd (hk w' bH c' dm h2 h3 h4 h5)
theorem mV{ord:Ot}{j:Nat}[hu:bO P T (.slice T')] [hs:Sz P T' size] [hz:Zr P T' zs] [hb:By P T' eD] [j_:bO P T2 (.slice E2)]
   {ob:Option Nat} {nn c m:Nat} {xv:Value} (xs sp ys:List Value) (hj:all[j]? =some {dst:=d,op:= .call {callee:= .builtin .append,args:= #[x,y],argTypes:= #[T,T2]},type:=ty,pos:=pos,after:=aN,guard:=none})
   (h:H r w L) (i:Nat) (hx:Env.ev ρ x= .slice (aB ob) nn c) (hy:Env.ev ρ y=xv) (hi:L[i]? =some (ob,C (xs++sp) T'))
   (hlen:xs.length=nn*size/\(xs++sp).length=c*size/\nn<=c/\(ob=none->c=0)) (qO:Src P r L size m xv ys) (fF: ∀v∈ys,plain v=true) (eT:(2*(nn+m)+1000)*eD<=281474976710656/\nn+m<=281474976710656)
   (ly:zs.length=size/\0<size) (hd:aV n d=true)
   (hk: ∀w' bH c' dm,H r w' (L.set i (bH,C (xs++ys++dm) T'))->(xs++ys++dm).length=c'*size->nn+m<=c'->(bH=none->c'=0)->D P n all ord K (Env.put ρ d (.slice (aB bH) (nn+m) c')) w'):
   D P n all (.cons (j,.h) ord) K ρ w:=by
 obtain⟨w',bH,c',dm,W,h2,h3,h4,h5⟩:=Wd (P:=P) (ty:=ty) (T:=T) (T2:=T2) ly.1 h hi hlen.1 hlen.2.1 hlen.2.2.1 hlen.2.2.2 ly.2 qO fF eT.1 eT.2
 exact Le hj (CV hx hy W) hd (hk w' bH c' dm h2 h3 h4 h5)
theorem ade(hx:Env.ev ρ x=sv)(hy:Env.ev ρ y=xv)(hr:(Builtin.copy_ #[T,T2] ty #[sv,xv]).run P w= .ok u w'):run P ρ (.call {callee:= .builtin .copy,args:= #[x,y],argTypes:= #[T,T2]}) ty w= .ok (.value u) w':=by
 simp[run,execOp,resolve,invoke,builtin,hx,hy,hr]
end
section
variable {zs:List Value}{eD i0 i1 i2 i3 i4 i5 m s:Nat}{x0 x1 x2 x3 x4 x5:Operand}{ord:Ot}{u v1 v2 v3 v4 v5:Value}
variable {P:Program}{n:Nat}{K:gw}{ρ:Env}{all:Array Oper}{rest:List Oper}{d:Option Nat}{ty:TypeId}{pos:String}{aN:Array Edge}
variable {r:dQ}{w:World}{L:List aD}{x y z:Operand}{b q i:Nat}{l:List Value}{T T':TypeId}{v:Value}
theorem Iq(hb: ∀w,(Instr.build T #[]).run P w= .ok u w):run P ρ (.build T #[]) ty w= .ok (.value u) w:=by
 simp[run,execOp,hb w]
theorem Fe{v0:Value}(hb: ∀w,(Instr.build T #[(i0,v0)]).run P w= .ok u w)(h0:Env.ev ρ x0=v0):run P ρ (.build T #[(i0,x0)]) ty w= .ok (.value u) w:=by
 simp[run,execOp,h0,hb w]
theorem Ln{v0:Value}{u:Nat->Value}{o:Obj}(hb: ∀w,(Instr.buildSlice T m #[(i0,v0)]).run P w= .ok (u w.heap.size) (w.alloc o))(h0:Env.ev ρ x0=v0):run P ρ (.buildSlice T m #[(i0,x0)]) ty w= .ok (.value (u w.heap.size)) (w.alloc o):=by
 simp[run,execOp,h0,hb w]
theorem zm{v0:Value}(hb: ∀w,(Instr.build T #[(i0,v0),(i1,v1)]).run P w= .ok u w)(h0:Env.ev ρ x0=v0)(W:Env.ev ρ x1=v1):run P ρ (.build T #[(i0,x0),(i1,x1)]) ty w= .ok (.value u) w:=by
 simp[run,execOp,h0,W,hb w]
theorem aoZ{v0:Value}{u:Nat->Value}{o:Obj}(hb: ∀w,(Instr.buildSlice T m #[(i0,v0),(i1,v1)]).run P w= .ok (u w.heap.size) (w.alloc o))(h0:Env.ev ρ x0=v0)(W:Env.ev ρ x1=v1):run P ρ (.buildSlice T m #[(i0,x0),(i1,x1)]) ty w= .ok (.value (u w.heap.size)) (w.alloc o):=by
 simp[run,execOp,h0,W,hb w]
theorem wg{v0:Value}(hb: ∀w,(Instr.build T #[(i0,v0),(i1,v1),(i2,v2)]).run P w= .ok u w)(h0:Env.ev ρ x0=v0)(W:Env.ev ρ x1=v1)(h2:Env.ev ρ x2=v2):run P ρ (.build T #[(i0,x0),(i1,x1),(i2,x2)]) ty w= .ok (.value u) w:=by
 simp[run,execOp,h0,W,h2,hb w]
theorem adf{v0:Value}{u:Nat->Value}{o:Obj}(hb: ∀w,(Instr.buildSlice T m #[(i0,v0),(i1,v1),(i2,v2)]).run P w= .ok (u w.heap.size) (w.alloc o))(h0:Env.ev ρ x0=v0)(W:Env.ev ρ x1=v1)(h2:Env.ev ρ x2=v2):run P ρ (.buildSlice T m #[(i0,x0),(i1,x1),(i2,x2)]) ty w= .ok (.value (u w.heap.size)) (w.alloc o):=by
 simp[run,execOp,h0,W,h2,hb w]
theorem adg{v0:Value}(hb: ∀w,(Instr.build T #[(i0,v0),(i1,v1),(i2,v2),(i3,v3)]).run P w= .ok u w)(h0:Env.ev ρ x0=v0)(W:Env.ev ρ x1=v1)(h2:Env.ev ρ x2=v2)(h3:Env.ev ρ x3=v3):run P ρ (.build T #[(i0,x0),(i1,x1),(i2,x2),(i3,x3)]) ty w= .ok (.value u) w:=by
 simp[run,execOp,h0,W,h2,h3,hb w]
theorem adh{v0:Value}{u:Nat->Value}{o:Obj}(hb: ∀w,(Instr.buildSlice T m #[(i0,v0),(i1,v1),(i2,v2),(i3,v3)]).run P w= .ok (u w.heap.size) (w.alloc o))(h0:Env.ev ρ x0=v0)(W:Env.ev ρ x1=v1)(h2:Env.ev ρ x2=v2)(h3:Env.ev ρ x3=v3):run P ρ (.buildSlice T m #[(i0,x0),(i1,x1),(i2,x2),(i3,x3)]) ty w= .ok (.value (u w.heap.size)) (w.alloc o):=by
 simp[run,execOp,h0,W,h2,h3,hb w]
theorem PC{v0:Value}(hb: ∀w,(Instr.build T #[(i0,v0),(i1,v1),(i2,v2),(i3,v3),(i4,v4)]).run P w= .ok u w)(h0:Env.ev ρ x0=v0)(W:Env.ev ρ x1=v1)(h2:Env.ev ρ x2=v2)(h3:Env.ev ρ x3=v3)(h4:Env.ev ρ x4=v4):run P ρ (.build T #[(i0,x0),(i1,x1),(i2,x2),(i3,x3),(i4,x4)]) ty w= .ok (.value u) w:=by
 simp[run,execOp,h0,W,h2,h3,h4,hb w]
theorem ao0{v0:Value}(hb: ∀w,(Instr.build T #[(i0,v0),(i1,v1),(i2,v2),(i3,v3),(i4,v4),(i5,v5)]).run P w= .ok u w)(h0:Env.ev ρ x0=v0)(W:Env.ev ρ x1=v1)(h2:Env.ev ρ x2=v2)(h3:Env.ev ρ x3=v3)(h4:Env.ev ρ x4=v4)(h5:Env.ev ρ x5=v5):run P ρ (.build T #[(i0,x0),(i1,x1),(i2,x2),(i3,x3),(i4,x4),(i5,x5)]) ty w= .ok (.value u) w:=by
 simp[run,execOp,h0,W,h2,h3,h4,h5,hb w]
theorem ao1{v0:Value}{u:Nat->Value}{o:Obj}(hb: ∀w,(Instr.buildSlice T m #[(i0,v0),(i1,v1),(i2,v2),(i3,v3),(i4,v4),(i5,v5)]).run P w= .ok (u w.heap.size) (w.alloc o))(h0:Env.ev ρ x0=v0)(W:Env.ev ρ x1=v1)(h2:Env.ev ρ x2=v2)(h3:Env.ev ρ x3=v3)(h4:Env.ev ρ x4=v4)(h5:Env.ev ρ x5=v5):run P ρ (.buildSlice T m #[(i0,x0),(i1,x1),(i2,x2),(i3,x3),(i4,x4),(i5,x5)]) ty w= .ok (.value (u w.heap.size)) (w.alloc o):=by
 simp[run,execOp,h0,W,h2,h3,h4,h5,hb w]
theorem adj{len:Nat}[hu:bO P T (.array len T')] [W:One P T']{cs:List Value}{k:IntKind}{u:Int}{a:Nat}(hx:Env.ev ρ x= .agg ⟨cs⟩)(hy:Env.ev ρ y= .int k u) [h2:ao u a](cP:a<len)(hv:cs[a]? =some v):run P ρ (.index T x y) ty w= .ok (.value v) w:=by
 have e1:=W.agg w;have e2:=W.size w;simp[run,execOp,hx,hy,h2.eq,Instr.index,asIntOf,underlying,program,Sem.run,hu.eq,cP,e2,part,e1,hv]
theorem adk{T':TypeId}[W:kV P T' s]{vs:List Value}(h:H r w L)(hx:Env.ev ρ x= .pointer (some ⟨b,q,none⟩)) [hb:Has L b l T i](hy:Env.ev ρ y= .agg ⟨vs⟩)(hl:vs.length=s)(fF:vs.all plain=true)(hq:q+s<=l.length): ∃w',run P ρ (.store T' x y) ty w= .ok .skip w'/\H r w' (L.set i (some b,C (cT l q vs) T)):=by
 obtain⟨w',s1,s2,_,_⟩:=CS (P:=P) vs w L l q 0 h hb.at_ (λv hv=>uL.1 fF v hv) I;refine⟨w',?_,by simpa using s2⟩;have hs:=W.size w;simp[run,execOp,hx,hy,Instr.storeAt,Instr.sureAddr,storeVar,Value.cells,hs,hl,s1]
theorem qP{T':TypeId}[W:kV P T' s]{vs:List Value}(h:H r w L)(hx:Env.ev ρ x= .pointer (some ⟨b,q,none⟩)) [hb:Has L b l T i](hy:Env.ev ρ y= .agg ⟨vs⟩)(hl:vs.length=s)(fF:vs.all plain=true)(hq:q+s<=l.length)(hd:aV n d=true)(hk: ∀w',H r w' (L.set i (some b,C (cT l q vs) T))->O P n all rest K (Env.put ρ d undef) w'):O P n all ({dst:=d,op:= .store T' x y,type:=ty,pos:=pos,after:=aN,guard:=none}::rest) K ρ w:=by
 obtain⟨w',W,h2⟩:=adk (P:=P) (T':=T') (ty:=ty) h hx hy hl fF hq;exact acE W hd (hk w' h2)
theorem Lo{T':TypeId}[W:kV P T' s]{vs:List Value}(hi:all[m]? =some {dst:=d,op:= .store T' x y,type:=ty,pos:=pos,after:=aN,guard:=none})(h:H r w L)(hx:Env.ev ρ x= .pointer (some ⟨b,q,none⟩)) [hb:Has L b l T i](hy:Env.ev ρ y= .agg ⟨vs⟩)(hl:vs.length=s)(fF:vs.all plain=true)(hq:q+s<=l.length)(hd:aV n d=true)(hk: ∀w',H r w' (L.set i (some b,C (cT l q vs) T))->D P n all ord K (Env.put ρ d undef) w'):D P n all (.cons (m,.h) ord) K ρ w:=by
 obtain⟨w',W,h2⟩:=adk (P:=P) (T':=T') (ty:=ty) h hx hy hl fF hq;exact V2 hi W hd (hk w' h2)
theorem tu[hu:bO P T (.slice T')] [hs:Sz P T' s] [hz:Zr P T' zs] [hb:By P T' eD]{u u':Int}{k k':IntKind}{a c:Nat}(h:H r w L)(hx:Env.ev ρ x= .int k u)(hy:Env.ev ρ y= .int k' u') [W:ao u a] [h2:ao u' c](rD:zs.length=s)(Py:a<=c)(hc:eD*c<=281474976710656)(Pz:c<=281474976710656)(hd:aV n d=true)(hk: ∀b w',H r w' ((some b,C (dj zs c) T')::L)->O P n all rest K (Env.put ρ d (.slice (some ⟨b,0,none⟩) a c)) w'):O P n all ({dst:=d,op:= .makeSlice T x y,type:=ty,pos:=pos,after:=aN,guard:=none}::rest) K ρ w:=
 gf (run_makeSlice hx hy rD Py hc Pz) hd (hk _ _ (h.alloc _))
theorem adl[hu:bO P T (.slice T')] [hs:Sz P T' s] [hz:Zr P T' zs] [hb:By P T' eD]{u u':Int}{k k':IntKind}{a c:Nat}(hi:all[m]? =some {dst:=d,op:= .makeSlice T x y,type:=ty,pos:=pos,after:=aN,guard:=none})(h:H r w L)(hx:Env.ev ρ x= .int k u)(hy:Env.ev ρ y= .int k' u') [W:ao u a] [h2:ao u' c](rD:zs.length=s)(Py:a<=c)(hc:eD*c<=281474976710656)(Pz:c<=281474976710656)(hd:aV n d=true)(hk: ∀b w',H r w' ((some b,C (dj zs c) T')::L)->D P n all ord K (Env.put ρ d (.slice (some ⟨b,0,none⟩) a c)) w'):D P n all (.cons (m,.g) ord) K ρ w:=
 V1 hi (run_makeSlice hx hy rD Py hc Pz) (eJ.alloc _ _) hd (hk _ _ (h.alloc _))
end
section
variable {P:Program}{n:Nat}{ρ:Env}{w:World}{K:gw}{r:dQ}{L:List aD}{b q i:Nat}{l:List Value}{T:TypeId}
theorem AU{ty:TypeId}{m:Nat}{u:Nat->Value}{o:Obj}{ps:List (Nat×Operand)}{vs:List (Nat×Value)}(hb: ∀w,(Instr.buildSlice T m vs.toArray).run P w= .ok (u w.heap.size) (w.alloc o))(he:ps.map (λp=>(p.1,Env.ev ρ p.2))=vs):run P ρ (.buildSlice T m ps.toArray) ty w= .ok (.value (u w.heap.size)) (w.alloc o):=by
 subst he;simp[run,execOp,hb w]
def Ir(P:Program)(T:TypeId)(v:Value)(w:World)(vs:List Value):Prop:=
 (do loadVar T (<-asAddr v):Sem Value).run P w= .ok (.agg vs.toArray) w
theorem qQ{T:TT}{T':TypeId}{s:Nat}[W:kV P T' s](vs:List Value)(h:H r w L){v:Value}(hx:v= .pointer (some ⟨b,q,none⟩)) [hb:Has L b l T i](hv:Rd l q vs)(hl:vs.length=s):Ir P T' v w vs:=by
 have ha:=W.agg w;have hs:=W.size w;have:=CR (P:=P) h hb.at_ hv hl;subst hx;simp[Ir,asAddr,loadVar,ha,hs,this]
def PD:List Value->Value
 | [v]=>v
 |vs=> .tuple vs.toArray
def ao2(P:Program)(a:Nat)(T:TypeId)(ts:List Nat)(Z9:Ending->World->Prop):gw:=fun
 | .normal,ρ,w=> ∃vs,Ir P T (ρ a) w vs/\Z9 (.returned (PD (.agg vs.toArray::ts.map ρ))) w
 | .ret,ρ,w=> ∃vs,Ir P T (ρ a) w vs/\Z9 (.returned (PD (.agg vs.toArray::ts.map ρ))) w
 |_,_,_=>False
theorem adm(fn:Func)(a:Nat)(T:TypeId)(ts:List Nat)(h:fn.results=(ResultVar.cell a T::ts.map ResultVar.tmp).toArray)(tmps:Array Value){vs:List Value}(hc:Ir P T (tmps.getD a undef) w vs):(results fn tmps).run P w= .ok (PD (.agg vs.toArray::ts.map (λt=>tmps.getD t undef))) w:=by
 simp only[results,h,List.mapM_toArray,List.mapM_cons];rw[acW _ (λt=>tmps.getD t undef) (λ_=>rfl)];simp only[Ir]at hc;simp at hc ⊢
 cases hX:(asAddr (tmps[a]?.getD undef)).run P w with
 | ok u w1=>
   simp only[hX]at hc ⊢
   simp only[Result.andThen]at hc ⊢
   rw[hc]
   cases ts with
   |nil=>rfl
   |cons y l=>simp[PD]
 |_=>simp[hX,Result.andThen]at hc
theorem CW{f:FuncId}{fn:Func}(hf:P.funcs[f]? =some fn)(n:Nat)(hn:fn.ntmps=n)(a:Nat)(T:TypeId)(ts:List Nat)(hr:fn.results=(ResultVar.cell a T::ts.map ResultVar.tmp).toArray){c:Code}(hb:fn.body=some c){args:List Value}(ia:Nat.ble args.length n=true){Z9:Ending->World->Prop}(h:Z_ P n c (ao2 P a T ts Z9) (CN args) w):Calls P f args.toArray w Z9:=by
 subst hn;unfold Z_ at h;have anC:args.length<=fn.ntmps:=(by simpa using ia);refine calls_of_wp hf hb (wp_mono (h _ ?_ J ?_) ?_)
 simp;omega
 funext t;simp only[lx,CN,se,Array.getElem?_append,Vl,List.getElem?_toArray];by_cases ht:t<args.length
 simp[ht]
 simp only[ht,if_false];have:args[t]? =none:=gP I;simp only[bS,this,Option.getD_none,Array.getElem?_replicate];split<;>rfl
 rintro e a' w' ⟨q1,q2,q3⟩
 cases e with
 |normal=>obtain⟨vs,hc,q4⟩:=q3;exact⟨q2,_,adm fn a T ts hr a'.tmps hc,q4⟩
 |ret=>obtain⟨vs,hc,q4⟩:=q3;exact⟨q2,_,adm fn a T ts hr a'.tmps hc,q4⟩
 |_=>exact q3.elim
end
end Go.Z
namespace Go.Z
open Go Go.Proofs
noncomputable abbrev PP:Program:=Tryz.prog
instance :bO PP 2 (.int .i64):=⟨Tryz.underlying2⟩
instance :One PP 2:=⟨Tryz.isAgg2,Tryz.sizeOf2⟩
instance :Sz PP 3 1:=⟨Tryz.sizeOf3⟩
instance :bO PP 3 (.int .i64):=⟨Tryz.underlying3⟩
instance :One PP 3:=⟨Tryz.isAgg3,Tryz.sizeOf3⟩
instance :Sz PP 4 1:=⟨Tryz.sizeOf4⟩
instance :bO PP 4 .bool:=⟨Tryz.underlying4⟩
instance :One PP 4:=⟨Tryz.isAgg4,Tryz.sizeOf4⟩
instance :Sz PP 5 1:=⟨Tryz.sizeOf5⟩
instance :bO PP 5 (.int .u8):=⟨Tryz.underlying5⟩
instance :One PP 5:=⟨Tryz.isAgg5,Tryz.sizeOf5⟩
instance :bO PP 9 .string:=⟨Tryz.underlying9⟩
instance :Sz PP 22 1:=⟨Tryz.sizeOf22⟩
instance :bO PP 22 (.slice 5):=⟨Tryz.underlying22⟩
instance :One PP 22:=⟨Tryz.isAgg22,Tryz.sizeOf22⟩
instance :Sz PP 23 1:=⟨Tryz.sizeOf23⟩
instance :bO PP 23 (.slice 3):=⟨Tryz.underlying23⟩
instance :One PP 23:=⟨Tryz.isAgg23,Tryz.sizeOf23⟩
instance :One PP 36:=⟨Tryz.isAgg36,Tryz.sizeOf36⟩
instance :Sz PP 41 1:=⟨Tryz.sizeOf41⟩
instance :bO PP 41 (.int .u64):=⟨Tryz.underlying41⟩
instance :One PP 41:=⟨Tryz.isAgg41,Tryz.sizeOf41⟩
instance :bO PP 42 (.int .u64):=⟨Tryz.underlying42⟩
instance :bO PP 44 (.array 3 3):=⟨Tryz.underlying44⟩
instance :bO PP 45 (.map 3 3):=⟨Tryz.underlying45⟩
instance :One PP 45:=⟨Tryz.isAgg45,Tryz.sizeOf45⟩
instance :Sz PP 46 1:=⟨Tryz.sizeOf46⟩
instance :bO PP 46 (.pointer 124):=⟨Tryz.underlying46⟩
instance :One PP 46:=⟨Tryz.isAgg46,Tryz.sizeOf46⟩
instance :bO PP 47 (.array 3 46):=⟨Tryz.underlying47⟩
instance :Sz PP 51 1:=⟨Tryz.sizeOf51⟩
instance :bO PP 51 (.int .u32):=⟨Tryz.underlying51⟩
instance :One PP 51:=⟨Tryz.isAgg51,Tryz.sizeOf51⟩
instance :One PP 56:=⟨Tryz.isAgg56,Tryz.sizeOf56⟩
instance :One PP 67:=⟨Tryz.isAgg67,Tryz.sizeOf67⟩
instance :bO PP 68 (.slice 174):=⟨Tryz.underlying68⟩
instance :One PP 68:=⟨Tryz.isAgg68,Tryz.sizeOf68⟩
instance :Sz PP 71 1:=⟨Tryz.sizeOf71⟩
instance :bO PP 71 (.slice 214):=⟨Tryz.underlying71⟩
instance :One PP 71:=⟨Tryz.isAgg71,Tryz.sizeOf71⟩
instance :bO PP 72 (.array 3 71):=⟨Tryz.underlying72⟩
instance :bO PP 73 (.array 3 5):=⟨Tryz.underlying73⟩
instance :bO PP 74 (.array 16 5):=⟨Tryz.underlying74⟩
instance :bO PP 75 (.slice 227):=⟨Tryz.underlying75⟩
instance :One PP 75:=⟨Tryz.isAgg75,Tryz.sizeOf75⟩
instance :bO PP 76 (.array 4 41):=⟨Tryz.underlying76⟩
instance :bO PP 77 (.array 32 5):=⟨Tryz.underlying77⟩
instance :bO PP 85 (.slice 90):=⟨Tryz.underlying85⟩
instance :Sz PP 90 3:=⟨Tryz.sizeOf90⟩
instance :bO PP 99 (.pointer 146):=⟨Tryz.underlying99⟩
instance :One PP 99:=⟨Tryz.isAgg99,Tryz.sizeOf99⟩
instance :One PP 103:=⟨Tryz.isAgg103,Tryz.sizeOf103⟩
instance :bO PP 110 (.array 256 3):=⟨Tryz.underlying110⟩
instance :bO PP 112 (.array 3 23):=⟨Tryz.underlying112⟩
instance :bO PP 118 (.slice 4):=⟨Tryz.underlying118⟩
instance :One PP 118:=⟨Tryz.isAgg118,Tryz.sizeOf118⟩
instance :bO PP 122 (.slice 126):=⟨Tryz.underlying122⟩
instance :One PP 122:=⟨Tryz.isAgg122,Tryz.sizeOf122⟩
instance :Sz PP 126 3:=⟨Tryz.sizeOf126⟩
instance :bO PP 135 (.array 4 22):=⟨Tryz.underlying135⟩
instance :bO PP 170 (.array 2 3):=⟨Tryz.underlying170⟩
instance :Sz PP 174 1:=⟨Tryz.sizeOf174⟩
instance :bO PP 174 (.int .u16):=⟨Tryz.underlying174⟩
instance :One PP 174:=⟨Tryz.isAgg174,Tryz.sizeOf174⟩
instance :bO PP 193 (.slice 5):=⟨Tryz.underlying193⟩
instance :One PP 193:=⟨Tryz.isAgg193,Tryz.sizeOf193⟩
instance :Sz PP 214 4:=⟨Tryz.sizeOf214⟩
instance :One PP 220:=⟨Tryz.isAgg220,Tryz.sizeOf220⟩
instance :Sz PP 222 5:=⟨Tryz.sizeOf222⟩
instance :bO PP 223 (.array 3 222):=⟨Tryz.underlying223⟩
instance :Sz PP 227 3:=⟨Tryz.sizeOf227⟩
instance :bO PP 233 (.array 256 5):=⟨Tryz.underlying233⟩
instance :bO PP 235 (.array 13 51):=⟨Tryz.underlying235⟩
instance :Sz PP 245 1:=⟨Tryz.sizeOf245⟩
instance :bO PP 245 (.int .i16):=⟨Tryz.underlying245⟩
instance :One PP 245:=⟨Tryz.isAgg245,Tryz.sizeOf245⟩
instance :bO PP 246 (.array 256 245):=⟨Tryz.underlying246⟩
instance :bO PP 248 (.slice 245):=⟨Tryz.underlying248⟩
instance :bO PP 249 (.slice 51):=⟨Tryz.underlying249⟩
instance :One PP 249:=⟨Tryz.isAgg249,Tryz.sizeOf249⟩
instance :bO PP 251 (.array 256 174):=⟨Tryz.underlying251⟩
instance :cB PP 30 0 0:=⟨λ_ _=>by kernel_rfl⟩
instance :cB PP 30 1 1:=⟨λ_ _=>by kernel_rfl⟩
instance :cB PP 30 2 2:=⟨λ_ _=>by kernel_rfl⟩
instance :cB PP 38 0 0:=⟨λ_ _=>by kernel_rfl⟩
instance :cB PP 38 1 1:=⟨λ_ _=>by kernel_rfl⟩
instance :cB PP 49 0 0:=⟨λ_ _=>by kernel_rfl⟩
instance :cB PP 49 1 1:=⟨λ_ _=>by kernel_rfl⟩
instance :cB PP 49 2 2:=⟨λ_ _=>by kernel_rfl⟩
instance :cB PP 49 3 3:=⟨λ_ _=>by kernel_rfl⟩
instance :cB PP 49 4 4:=⟨λ_ _=>by kernel_rfl⟩
instance :cB PP 49 5 5:=⟨λ_ _=>by kernel_rfl⟩
instance :cB PP 49 6 8:=⟨λ_ _=>by kernel_rfl⟩
instance :cB PP 49 7 11:=⟨λ_ _=>by kernel_rfl⟩
instance :cB PP 49 8 12:=⟨λ_ _=>by kernel_rfl⟩
instance :cB PP 64 1 1:=⟨λ_ _=>by kernel_rfl⟩
instance :cB PP 64 2 2:=⟨λ_ _=>by kernel_rfl⟩
instance :cB PP 70 0 0:=⟨λ_ _=>by kernel_rfl⟩
instance :cB PP 70 1 1:=⟨λ_ _=>by kernel_rfl⟩
instance :cB PP 70 2 2:=⟨λ_ _=>by kernel_rfl⟩
instance :cB PP 79 0 0:=⟨λ_ _=>by kernel_rfl⟩
instance :cB PP 79 1 1:=⟨λ_ _=>by kernel_rfl⟩
instance :cB PP 79 2 5:=⟨λ_ _=>by kernel_rfl⟩
instance :cB PP 79 3 37:=⟨λ_ _=>by kernel_rfl⟩
instance :cB PP 81 0 0:=⟨λ_ _=>by kernel_rfl⟩
instance :cB PP 81 1 1:=⟨λ_ _=>by kernel_rfl⟩
instance :cB PP 81 2 2:=⟨λ_ _=>by kernel_rfl⟩
instance :cB PP 81 3 3:=⟨λ_ _=>by kernel_rfl⟩
instance :cB PP 81 4 4:=⟨λ_ _=>by kernel_rfl⟩
instance :cB PP 81 5 5:=⟨λ_ _=>by kernel_rfl⟩
instance :cB PP 81 6 6:=⟨λ_ _=>by kernel_rfl⟩
instance :cB PP 81 7 7:=⟨λ_ _=>by kernel_rfl⟩
instance :cB PP 81 8 8:=⟨λ_ _=>by kernel_rfl⟩
instance :cB PP 81 9 9:=⟨λ_ _=>by kernel_rfl⟩
instance :cB PP 81 10 10:=⟨λ_ _=>by kernel_rfl⟩
instance :cB PP 81 11 11:=⟨λ_ _=>by kernel_rfl⟩
instance :cB PP 81 12 12:=⟨λ_ _=>by kernel_rfl⟩
instance :cB PP 81 13 13:=⟨λ_ _=>by kernel_rfl⟩
instance :cB PP 81 14 14:=⟨λ_ _=>by kernel_rfl⟩
instance :cB PP 81 15 17:=⟨λ_ _=>by kernel_rfl⟩
instance :cB PP 81 16 18:=⟨λ_ _=>by kernel_rfl⟩
instance :cB PP 81 17 19:=⟨λ_ _=>by kernel_rfl⟩
instance :cB PP 81 18 22:=⟨λ_ _=>by kernel_rfl⟩
instance :cB PP 81 19 25:=⟨λ_ _=>by kernel_rfl⟩
instance :cB PP 81 20 28:=⟨λ_ _=>by kernel_rfl⟩
instance :cB PP 81 21 44:=⟨λ_ _=>by kernel_rfl⟩
instance :cB PP 81 22 45:=⟨λ_ _=>by kernel_rfl⟩
instance :cB PP 84 0 0:=⟨λ_ _=>by kernel_rfl⟩
instance :cB PP 84 1 1:=⟨λ_ _=>by kernel_rfl⟩
instance :cB PP 84 2 2:=⟨λ_ _=>by kernel_rfl⟩
instance :cB PP 90 0 0:=⟨λ_ _=>by kernel_rfl⟩
instance :cB PP 90 1 1:=⟨λ_ _=>by kernel_rfl⟩
instance :cB PP 90 2 2:=⟨λ_ _=>by kernel_rfl⟩
instance :cB PP 95 0 0:=⟨λ_ _=>by kernel_rfl⟩
instance :cB PP 95 1 1:=⟨λ_ _=>by kernel_rfl⟩
instance :cB PP 95 2 2:=⟨λ_ _=>by kernel_rfl⟩
instance :cB PP 95 3 3:=⟨λ_ _=>by kernel_rfl⟩
instance :cB PP 101 0 0:=⟨λ_ _=>by kernel_rfl⟩
instance :cB PP 101 1 1:=⟨λ_ _=>by kernel_rfl⟩
instance :cB PP 101 2 2:=⟨λ_ _=>by kernel_rfl⟩
instance :cB PP 101 3 3:=⟨λ_ _=>by kernel_rfl⟩
instance :cB PP 101 4 4:=⟨λ_ _=>by kernel_rfl⟩
instance :cB PP 101 5 7:=⟨λ_ _=>by kernel_rfl⟩
instance :cB PP 120 0 0:=⟨λ_ _=>by kernel_rfl⟩
instance :cB PP 124 0 0:=⟨λ_ _=>by kernel_rfl⟩
instance :cB PP 124 1 1:=⟨λ_ _=>by kernel_rfl⟩
instance :cB PP 126 0 0:=⟨λ_ _=>by kernel_rfl⟩
instance :cB PP 126 1 1:=⟨λ_ _=>by kernel_rfl⟩
instance :cB PP 126 2 2:=⟨λ_ _=>by kernel_rfl⟩
instance :cB PP 146 0 0:=⟨λ_ _=>by kernel_rfl⟩
instance :cB PP 146 1 1:=⟨λ_ _=>by kernel_rfl⟩
instance :cB PP 146 2 2:=⟨λ_ _=>by kernel_rfl⟩
instance :cB PP 155 0 0:=⟨λ_ _=>by kernel_rfl⟩
instance :cB PP 155 1 1:=⟨λ_ _=>by kernel_rfl⟩
instance :cB PP 159 0 0:=⟨λ_ _=>by kernel_rfl⟩
instance :cB PP 167 0 0:=⟨λ_ _=>by kernel_rfl⟩
instance :cB PP 167 1 1:=⟨λ_ _=>by kernel_rfl⟩
instance :cB PP 167 2 2:=⟨λ_ _=>by kernel_rfl⟩
instance :cB PP 207 0 0:=⟨λ_ _=>by kernel_rfl⟩
instance :cB PP 207 1 1:=⟨λ_ _=>by kernel_rfl⟩
instance :cB PP 207 2 2:=⟨λ_ _=>by kernel_rfl⟩
instance :cB PP 207 3 3:=⟨λ_ _=>by kernel_rfl⟩
instance :cB PP 207 4 4:=⟨λ_ _=>by kernel_rfl⟩
instance :cB PP 207 5 5:=⟨λ_ _=>by kernel_rfl⟩
instance :cB PP 214 0 0:=⟨λ_ _=>by kernel_rfl⟩
instance :cB PP 214 1 1:=⟨λ_ _=>by kernel_rfl⟩
instance :cB PP 214 2 2:=⟨λ_ _=>by kernel_rfl⟩
instance :cB PP 214 3 3:=⟨λ_ _=>by kernel_rfl⟩
instance :cB PP 222 0 0:=⟨λ_ _=>by kernel_rfl⟩
instance :cB PP 222 1 1:=⟨λ_ _=>by kernel_rfl⟩
instance :cB PP 222 2 2:=⟨λ_ _=>by kernel_rfl⟩
instance :cB PP 222 3 3:=⟨λ_ _=>by kernel_rfl⟩
instance :cB PP 222 4 4:=⟨λ_ _=>by kernel_rfl⟩
instance :cB PP 227 0 0:=⟨λ_ _=>by kernel_rfl⟩
instance :cB PP 227 1 1:=⟨λ_ _=>by kernel_rfl⟩
instance :cB PP 227 2 2:=⟨λ_ _=>by kernel_rfl⟩
instance :cB PP 242 0 0:=⟨λ_ _=>by kernel_rfl⟩
instance :cB PP 242 1 1:=⟨λ_ _=>by kernel_rfl⟩
instance :cB PP 242 2 2:=⟨λ_ _=>by kernel_rfl⟩
instance :cB PP 242 3 3:=⟨λ_ _=>by kernel_rfl⟩
instance :cB PP 242 4 4:=⟨λ_ _=>by kernel_rfl⟩
instance :Body PP 5:=⟨Tryz.call5⟩
instance :Body PP 6:=⟨Tryz.call6⟩
instance :Body PP 7:=⟨Tryz.call7⟩
instance :Body PP 8:=⟨Tryz.call8⟩
instance :Body PP 9:=⟨Tryz.call9⟩
instance :Body PP 10:=⟨Tryz.call10⟩
instance :Body PP 11:=⟨Tryz.call11⟩
instance :Body PP 12:=⟨Tryz.call12⟩
instance :Body PP 13:=⟨Tryz.call13⟩
instance :Body PP 14:=⟨Tryz.call14⟩
instance :Body PP 15:=⟨Tryz.call15⟩
instance :Body PP 16:=⟨Tryz.call16⟩
instance :Body PP 17:=⟨Tryz.call17⟩
instance :Body PP 18:=⟨Tryz.call18⟩
instance :Body PP 19:=⟨Tryz.call19⟩
instance :Body PP 20:=⟨Tryz.call20⟩
instance :Body PP 21:=⟨Tryz.call21⟩
instance :Body PP 22:=⟨Tryz.call22⟩
instance :Body PP 23:=⟨Tryz.call23⟩
instance :Body PP 24:=⟨Tryz.call24⟩
instance :Body PP 25:=⟨Tryz.call25⟩
instance :Body PP 26:=⟨Tryz.call26⟩
instance :Body PP 27:=⟨Tryz.call27⟩
instance :Body PP 28:=⟨Tryz.call28⟩
instance :Body PP 29:=⟨Tryz.call29⟩
instance :Body PP 30:=⟨Tryz.call30⟩
instance :Body PP 31:=⟨Tryz.call31⟩
instance :Body PP 32:=⟨Tryz.call32⟩
instance :Body PP 33:=⟨Tryz.call33⟩
instance :Body PP 34:=⟨Tryz.call34⟩
instance :Body PP 36:=⟨Tryz.call36⟩
instance :Body PP 37:=⟨Tryz.call37⟩
instance :Body PP 38:=⟨Tryz.call38⟩
instance :Body PP 39:=⟨Tryz.call39⟩
instance :Body PP 40:=⟨Tryz.call40⟩
instance :Body PP 41:=⟨Tryz.call41⟩
instance :Body PP 42:=⟨Tryz.call42⟩
instance :Body PP 43:=⟨Tryz.call43⟩
instance :Body PP 44:=⟨Tryz.call44⟩
instance :Body PP 45:=⟨Tryz.call45⟩
instance :Body PP 46:=⟨Tryz.call46⟩
instance :Body PP 47:=⟨Tryz.call47⟩
instance :Body PP 48:=⟨Tryz.call48⟩
instance :Body PP 49:=⟨Tryz.call49⟩
instance :Body PP 50:=⟨Tryz.call50⟩
instance :Body PP 51:=⟨Tryz.call51⟩
instance :Body PP 52:=⟨Tryz.call52⟩
instance :Body PP 53:=⟨Tryz.call53⟩
instance :Body PP 54:=⟨Tryz.call54⟩
instance :Body PP 55:=⟨Tryz.call55⟩
instance :Body PP 56:=⟨Tryz.call56⟩
instance :Body PP 57:=⟨Tryz.call57⟩
instance :Body PP 58:=⟨Tryz.call58⟩
instance :Body PP 59:=⟨Tryz.call59⟩
instance :Body PP 60:=⟨Tryz.call60⟩
instance :Body PP 61:=⟨Tryz.call61⟩
instance :Body PP 62:=⟨Tryz.call62⟩
instance :Body PP 63:=⟨Tryz.call63⟩
instance :Body PP 64:=⟨Tryz.call64⟩
instance :Body PP 65:=⟨Tryz.call65⟩
instance :Body PP 66:=⟨Tryz.call66⟩
instance :Body PP 67:=⟨Tryz.call67⟩
instance :Body PP 68:=⟨Tryz.call68⟩
instance :Body PP 69:=⟨Tryz.call69⟩
instance :Body PP 70:=⟨Tryz.call70⟩
instance :Body PP 71:=⟨Tryz.call71⟩
instance :Body PP 72:=⟨Tryz.call72⟩
instance :Body PP 73:=⟨Tryz.call73⟩
instance :Body PP 74:=⟨Tryz.call74⟩
instance :Body PP 75:=⟨Tryz.call75⟩
instance :Body PP 76:=⟨Tryz.call76⟩
instance :Body PP 77:=⟨Tryz.call77⟩
instance :Body PP 78:=⟨Tryz.call78⟩
instance :Body PP 79:=⟨Tryz.call79⟩
instance :Body PP 80:=⟨Tryz.call80⟩
instance :Body PP 81:=⟨Tryz.call81⟩
instance :Body PP 82:=⟨Tryz.call82⟩
instance :Body PP 83:=⟨Tryz.call83⟩
instance :Body PP 84:=⟨Tryz.call84⟩
instance :Body PP 85:=⟨Tryz.call85⟩
instance :Body PP 86:=⟨Tryz.call86⟩
instance :Body PP 87:=⟨Tryz.call87⟩
instance :Body PP 88:=⟨Tryz.call88⟩
instance :Body PP 89:=⟨Tryz.call89⟩
instance :Body PP 90:=⟨Tryz.call90⟩
instance :Body PP 91:=⟨Tryz.call91⟩
instance :Body PP 92:=⟨Tryz.call92⟩
instance :Body PP 93:=⟨Tryz.call93⟩
instance :Body PP 94:=⟨Tryz.call94⟩
instance :Body PP 95:=⟨Tryz.call95⟩
instance :Body PP 97:=⟨Tryz.call97⟩
instance :Body PP 98:=⟨Tryz.call98⟩
instance :Body PP 99:=⟨Tryz.call99⟩
instance :Body PP 100:=⟨Tryz.call100⟩
instance :Body PP 101:=⟨Tryz.call101⟩
instance :Body PP 102:=⟨Tryz.call102⟩
instance :Body PP 103:=⟨Tryz.call103⟩
instance :Body PP 104:=⟨Tryz.call104⟩
instance :Body PP 105:=⟨Tryz.call105⟩
instance :Body PP 106:=⟨Tryz.call106⟩
instance :Body PP 107:=⟨Tryz.call107⟩
instance :Body PP 108:=⟨Tryz.call108⟩
instance :Body PP 109:=⟨Tryz.call109⟩
instance :Body PP 110:=⟨Tryz.call110⟩
instance :Body PP 111:=⟨Tryz.call111⟩
instance :Body PP 112:=⟨Tryz.call112⟩
instance :Body PP 113:=⟨Tryz.call113⟩
instance :Body PP 114:=⟨Tryz.call114⟩
instance :Body PP 115:=⟨Tryz.call115⟩
instance :Body PP 116:=⟨Tryz.call116⟩
instance :Body PP 117:=⟨Tryz.call117⟩
instance :Body PP 118:=⟨Tryz.call118⟩
instance :Body PP 119:=⟨Tryz.call119⟩
instance :Body PP 120:=⟨Tryz.call120⟩
instance :Body PP 121:=⟨Tryz.call121⟩
instance :Body PP 122:=⟨Tryz.call122⟩
instance :Body PP 123:=⟨Tryz.call123⟩
instance :Body PP 124:=⟨Tryz.call124⟩
instance :Body PP 125:=⟨Tryz.call125⟩
instance :Body PP 126:=⟨Tryz.call126⟩
instance :Body PP 127:=⟨Tryz.call127⟩
instance :Body PP 128:=⟨Tryz.call128⟩
instance :Body PP 129:=⟨Tryz.call129⟩
instance :Body PP 130:=⟨Tryz.call130⟩
instance :Body PP 131:=⟨Tryz.call131⟩
instance :Body PP 132:=⟨Tryz.call132⟩
instance :Body PP 133:=⟨Tryz.call133⟩
instance :Body PP 134:=⟨Tryz.call134⟩
instance :Body PP 135:=⟨Tryz.call135⟩
instance :Body PP 152:=⟨Tryz.call152⟩
instance :Body PP 153:=⟨Tryz.call153⟩
instance :kV PP 30 3:=⟨Tryz.isAgg30,Tryz.sizeOf30⟩
instance :kV PP 44 3:=⟨Tryz.isAgg44,Tryz.sizeOf44⟩
instance :kV PP 49 13:=⟨Tryz.isAgg49,Tryz.sizeOf49⟩
instance :kV PP 64 3:=⟨Tryz.isAgg64,Tryz.sizeOf64⟩
instance :kV PP 76 4:=⟨Tryz.isAgg76,Tryz.sizeOf76⟩
instance :kV PP 90 3:=⟨Tryz.isAgg90,Tryz.sizeOf90⟩
instance :kV PP 95 4:=⟨Tryz.isAgg95,Tryz.sizeOf95⟩
instance :kV PP 101 10:=⟨Tryz.isAgg101,Tryz.sizeOf101⟩
instance :kV PP 112 3:=⟨Tryz.isAgg112,Tryz.sizeOf112⟩
instance :kV PP 124 2:=⟨Tryz.isAgg124,Tryz.sizeOf124⟩
instance :kV PP 126 3:=⟨Tryz.isAgg126,Tryz.sizeOf126⟩
instance :kV PP 135 4:=⟨Tryz.isAgg135,Tryz.sizeOf135⟩
instance :kV PP 155 2:=⟨Tryz.isAgg155,Tryz.sizeOf155⟩
instance :kV PP 170 2:=⟨Tryz.isAgg170,Tryz.sizeOf170⟩
instance :kV PP 207 6:=⟨Tryz.isAgg207,Tryz.sizeOf207⟩
instance :kV PP 214 4:=⟨Tryz.isAgg214,Tryz.sizeOf214⟩
instance :kV PP 223 15:=⟨Tryz.isAgg223,Tryz.sizeOf223⟩
instance :kV PP 227 3:=⟨Tryz.isAgg227,Tryz.sizeOf227⟩
instance :kV PP 242 5:=⟨Tryz.isAgg242,Tryz.sizeOf242⟩
instance :Zr PP 3 [.int .i64 ((0:Nat):Int)]:=⟨λw=>⟨_,Tryz.zeroValue3 w,J⟩⟩
instance :Zr PP 4 [.bool false]:=⟨λw=>⟨_,Tryz.zeroValue4 w,J⟩⟩
instance :Zr PP 5 [.int .u8 ((0:Nat):Int)]:=⟨λw=>⟨_,Tryz.zeroValue5 w,J⟩⟩
instance :Zr PP 30 [.slice none 0 0,.int .i64 ((0:Nat):Int),.slice none 0 0]:=⟨λw=>⟨_,Tryz.zeroValue30 w,J⟩⟩
instance :Zr PP 44 [.int .i64 ((0:Nat):Int),.int .i64 ((0:Nat):Int),.int .i64 ((0:Nat):Int)]:=⟨λw=>⟨_,Tryz.zeroValue44 w,J⟩⟩
instance :Zr PP 49 [.pointer none,.slice none 0 0,.int .i64 ((0:Nat):Int),.int .i64 ((0:Nat):Int),.slice none 0 0,.pointer none,.pointer none,.pointer none,.int .i64 ((0:Nat):Int),.int .i64 ((0:Nat):Int),.int .i64 ((0:Nat):Int),.map none,.int .i64 ((0:Nat):Int)]:=⟨λw=>⟨_,Tryz.zeroValue49 w,J⟩⟩
instance :Zr PP 51 [.int .u32 ((0:Nat):Int)]:=⟨λw=>⟨_,Tryz.zeroValue51 w,J⟩⟩
instance :Zr PP 64 [.int .i64 ((0:Nat):Int),.slice none 0 0,.int .i64 ((0:Nat):Int)]:=⟨λw=>⟨_,Tryz.zeroValue64 w,J⟩⟩
instance :Zr PP 68 [.slice none 0 0]:=⟨λw=>⟨_,Tryz.zeroValue68 w,J⟩⟩
instance :Zr PP 76 [.int .u64 ((0:Nat):Int),.int .u64 ((0:Nat):Int),.int .u64 ((0:Nat):Int),.int .u64 ((0:Nat):Int)]:=⟨λw=>⟨_,Tryz.zeroValue76 w,J⟩⟩
instance :Zr PP 81 [.nilIface,.bool false,.bool false,.bool false,.bool false,.int .u64 ((0:Nat):Int),.int .i64 ((0:Nat):Int),.slice none 0 0,.int .i64 ((0:Nat):Int),.int .u32 ((0:Nat):Int),.int .u32 ((0:Nat):Int),.int .u32 ((0:Nat):Int),.slice none 0 0,.int .i64 ((0:Nat):Int),.int .i64 ((0:Nat):Int),.slice none 0 0,.int .i64 ((0:Nat):Int),.slice none 0 0,.slice none 0 0,.slice none 0 0,.slice none 0 0,.slice none 0 0,.int .u8 ((0:Nat):Int),.int .u8 ((0:Nat):Int),.int .u8 ((0:Nat):Int),.slice none 0 0,.slice none 0 0,.slice none 0 0,.int .u8 ((0:Nat):Int),.int .u8 ((0:Nat):Int),.int .u8 ((0:Nat):Int),.int .u8 ((0:Nat):Int),.int .u8 ((0:Nat):Int),.int .u8 ((0:Nat):Int),.int .u8 ((0:Nat):Int),.int .u8 ((0:Nat):Int),.int .u8 ((0:Nat):Int),.int .u8 ((0:Nat):Int),.int .u8 ((0:Nat):Int),.int .u8 ((0:Nat):Int),.int .u8 ((0:Nat):Int),.int .u8 ((0:Nat):Int),.int .u8 ((0:Nat):Int),.int .u8 ((0:Nat):Int),.slice none 0 0,.int .u64 ((0:Nat):Int),.int .u64 ((0:Nat):Int),.int .u64 ((0:Nat):Int),.int .u64 ((0:Nat):Int),.int .u64 ((0:Nat):Int),.int .u8 ((0:Nat):Int),.int .u8 ((0:Nat):Int),.int .u8 ((0:Nat):Int),.int .u8 ((0:Nat):Int),.int .u8 ((0:Nat):Int),.int .u8 ((0:Nat):Int),.int .u8 ((0:Nat):Int),.int .u8 ((0:Nat):Int),.int .u8 ((0:Nat):Int),.int .u8 ((0:Nat):Int),.int .u8 ((0:Nat):Int),.int .u8 ((0:Nat):Int),.int .u8 ((0:Nat):Int),.int .u8 ((0:Nat):Int),.int .u8 ((0:Nat):Int),.int .u8 ((0:Nat):Int),.int .u8 ((0:Nat):Int),.int .u8 ((0:Nat):Int),.int .u8 ((0:Nat):Int),.int .u8 ((0:Nat):Int),.int .u8 ((0:Nat):Int),.int .u8 ((0:Nat):Int),.int .u8 ((0:Nat):Int),.int .u8 ((0:Nat):Int),.int .u8 ((0:Nat):Int),.int .u8 ((0:Nat):Int),.int .u8 ((0:Nat):Int),.int .u8 ((0:Nat):Int),.int .u8 ((0:Nat):Int),.int .u8 ((0:Nat):Int),.int .u8 ((0:Nat):Int),.int .u8 ((0:Nat):Int),.int .i64 ((0:Nat):Int)]:=⟨λw=>⟨.agg #[.nilIface,.bool false,.bool false,.bool false,.bool false,.int .u64 ((0:Nat):Int),.int .i64 ((0:Nat):Int),.slice none 0 0,.int .i64 ((0:Nat):Int),.int .u32 ((0:Nat):Int),.int .u32 ((0:Nat):Int),.int .u32 ((0:Nat):Int),.slice none 0 0,.int .i64 ((0:Nat):Int),.int .i64 ((0:Nat):Int),.slice none 0 0,.int .i64 ((0:Nat):Int),.slice none 0 0,.slice none 0 0,.slice none 0 0,.slice none 0 0,.slice none 0 0,.int .u8 ((0:Nat):Int),.int .u8 ((0:Nat):Int),.int .u8 ((0:Nat):Int),.slice none 0 0,.slice none 0 0,.slice none 0 0,.int .u8 ((0:Nat):Int),.int .u8 ((0:Nat):Int),.int .u8 ((0:Nat):Int),.int .u8 ((0:Nat):Int),.int .u8 ((0:Nat):Int),.int .u8 ((0:Nat):Int),.int .u8 ((0:Nat):Int),.int .u8 ((0:Nat):Int),.int .u8 ((0:Nat):Int),.int .u8 ((0:Nat):Int),.int .u8 ((0:Nat):Int),.int .u8 ((0:Nat):Int),.int .u8 ((0:Nat):Int),.int .u8 ((0:Nat):Int),.int .u8 ((0:Nat):Int),.int .u8 ((0:Nat):Int),.slice none 0 0,.int .u64 ((0:Nat):Int),.int .u64 ((0:Nat):Int),.int .u64 ((0:Nat):Int),.int .u64 ((0:Nat):Int),.int .u64 ((0:Nat):Int),.int .u8 ((0:Nat):Int),.int .u8 ((0:Nat):Int),.int .u8 ((0:Nat):Int),.int .u8 ((0:Nat):Int),.int .u8 ((0:Nat):Int),.int .u8 ((0:Nat):Int),.int .u8 ((0:Nat):Int),.int .u8 ((0:Nat):Int),.int .u8 ((0:Nat):Int),.int .u8 ((0:Nat):Int),.int .u8 ((0:Nat):Int),.int .u8 ((0:Nat):Int),.int .u8 ((0:Nat):Int),.int .u8 ((0:Nat):Int),.int .u8 ((0:Nat):Int),.int .u8 ((0:Nat):Int),.int .u8 ((0:Nat):Int),.int .u8 ((0:Nat):Int),.int .u8 ((0:Nat):Int),.int .u8 ((0:Nat):Int),.int .u8 ((0:Nat):Int),.int .u8 ((0:Nat):Int),.int .u8 ((0:Nat):Int),.int .u8 ((0:Nat):Int),.int .u8 ((0:Nat):Int),.int .u8 ((0:Nat):Int),.int .u8 ((0:Nat):Int),.int .u8 ((0:Nat):Int),.int .u8 ((0:Nat):Int),.int .u8 ((0:Nat):Int),.int .u8 ((0:Nat):Int),.int .u8 ((0:Nat):Int),.int .i64 ((0:Nat):Int)],by kernel_rfl,J⟩⟩
instance :Zr PP 90 [.int .i64 ((0:Nat):Int),.int .i64 ((0:Nat):Int),.int .i64 ((0:Nat):Int)]:=⟨λw=>⟨_,Tryz.zeroValue90 w,J⟩⟩
instance :Zr PP 95 [.int .i64 ((0:Nat):Int),.int .i64 ((0:Nat):Int),.bool false,.bool false]:=⟨λw=>⟨_,Tryz.zeroValue95 w,J⟩⟩
instance :Zr PP 101 [.slice none 0 0,.int .i64 ((0:Nat):Int),.int .i64 ((0:Nat):Int),.pointer none,.pointer none,.pointer none,.pointer none,.int .i64 ((0:Nat):Int),.int .i64 ((0:Nat):Int),.int .i64 ((0:Nat):Int)]:=⟨λw=>⟨_,Tryz.zeroValue101 w,J⟩⟩
instance :Zr PP 110 (List.replicate 256 (.int .i64 ((0:Nat):Int))):=⟨λw=>⟨.agg ⟨List.replicate 256 (.int .i64 ((0:Nat):Int))⟩,by kernel_rfl,J⟩⟩
instance :Zr PP 112 [.slice none 0 0,.slice none 0 0,.slice none 0 0]:=⟨λw=>⟨_,Tryz.zeroValue112 w,J⟩⟩
instance :Zr PP 124 [.slice none 0 0,.int .i64 ((0:Nat):Int)]:=⟨λw=>⟨_,Tryz.zeroValue124 w,J⟩⟩
instance :Zr PP 126 [.int .i64 ((0:Nat):Int),.int .i64 ((0:Nat):Int),.int .i64 ((0:Nat):Int)]:=⟨λw=>⟨_,Tryz.zeroValue126 w,J⟩⟩
instance :Zr PP 135 [.slice none 0 0,.slice none 0 0,.slice none 0 0,.slice none 0 0]:=⟨λw=>⟨_,Tryz.zeroValue135 w,J⟩⟩
instance :Zr PP 155 [.slice none 0 0,.int .i64 ((0:Nat):Int)]:=⟨λw=>⟨_,Tryz.zeroValue155 w,J⟩⟩
instance :Zr PP 170 [.int .i64 ((0:Nat):Int),.int .i64 ((0:Nat):Int)]:=⟨λw=>⟨_,Tryz.zeroValue170 w,J⟩⟩
instance :Zr PP 174 [.int .u16 ((0:Nat):Int)]:=⟨λw=>⟨_,Tryz.zeroValue174 w,J⟩⟩
instance :Zr PP 207 [.pointer none,.slice none 0 0,.int .u32 ((0:Nat):Int),.int .u32 ((0:Nat):Int),.int .u32 ((0:Nat):Int),.int .u32 ((0:Nat):Int)]:=⟨λw=>⟨_,Tryz.zeroValue207 w,J⟩⟩
instance :Zr PP 214 [.int .u32 ((0:Nat):Int),.int .u8 ((0:Nat):Int),.int .u8 ((0:Nat):Int),.int .u16 ((0:Nat):Int)]:=⟨λw=>⟨_,Tryz.zeroValue214 w,J⟩⟩
instance :Zr PP 223 [.slice none 0 0,.int .i64 ((0:Nat):Int),.int .i64 ((0:Nat):Int),.int .i64 ((0:Nat):Int),.nilFunc,.slice none 0 0,.int .i64 ((0:Nat):Int),.int .i64 ((0:Nat):Int),.int .i64 ((0:Nat):Int),.nilFunc,.slice none 0 0,.int .i64 ((0:Nat):Int),.int .i64 ((0:Nat):Int),.int .i64 ((0:Nat):Int),.nilFunc]:=⟨λw=>⟨_,Tryz.zeroValue223 w,J⟩⟩
instance :Zr PP 227 [.int .u8 ((0:Nat):Int),.int .u8 ((0:Nat):Int),.int .u16 ((0:Nat):Int)]:=⟨λw=>⟨_,Tryz.zeroValue227 w,J⟩⟩
instance :Zr PP 233 (List.replicate 256 (.int .u8 ((0:Nat):Int))):=⟨λw=>⟨.agg ⟨List.replicate 256 (.int .u8 ((0:Nat):Int))⟩,by kernel_rfl,J⟩⟩
instance :Zr PP 235 [.int .u32 ((0:Nat):Int),.int .u32 ((0:Nat):Int),.int .u32 ((0:Nat):Int),.int .u32 ((0:Nat):Int),.int .u32 ((0:Nat):Int),.int .u32 ((0:Nat):Int),.int .u32 ((0:Nat):Int),.int .u32 ((0:Nat):Int),.int .u32 ((0:Nat):Int),.int .u32 ((0:Nat):Int),.int .u32 ((0:Nat):Int),.int .u32 ((0:Nat):Int),.int .u32 ((0:Nat):Int)]:=⟨λw=>⟨_,Tryz.zeroValue235 w,J⟩⟩
instance :Zr PP 242 [.pointer none,.slice none 0 0,.int .u32 ((0:Nat):Int),.int .u32 ((0:Nat):Int),.int .u32 ((0:Nat):Int)]:=⟨λw=>⟨_,Tryz.zeroValue242 w,J⟩⟩
instance :Zr PP 246 (List.replicate 256 (.int .i16 ((0:Nat):Int))):=⟨λw=>⟨.agg ⟨List.replicate 256 (.int .i16 ((0:Nat):Int))⟩,by kernel_rfl,J⟩⟩
instance :Zr PP 251 (List.replicate 256 (.int .u16 ((0:Nat):Int))):=⟨λw=>⟨.agg ⟨List.replicate 256 (.int .u16 ((0:Nat):Int))⟩,by kernel_rfl,J⟩⟩
instance :By PP 3 8:=⟨λw=>⟨_,Tryz.typeInfo3 w,J⟩⟩
instance :By PP 4 1:=⟨λw=>⟨_,Tryz.typeInfo4 w,J⟩⟩
instance :By PP 5 1:=⟨λw=>⟨_,Tryz.typeInfo5 w,J⟩⟩
instance :By PP 90 24:=⟨λw=>⟨_,Tryz.typeInfo90 w,J⟩⟩
instance :By PP 126 24:=⟨λw=>⟨_,Tryz.typeInfo126 w,J⟩⟩
instance :By PP 174 2:=⟨λw=>⟨_,Tryz.typeInfo174 w,J⟩⟩
instance :By PP 214 8:=⟨λw=>⟨_,Tryz.typeInfo214 w,J⟩⟩
instance :By PP 227 4:=⟨λw=>⟨_,Tryz.typeInfo227 w,J⟩⟩
theorem ao3(x1:Int)(w:World):(Instr.build 30 #[(1,(.int .i64 x1))]).run PP w= .ok (.agg #[.slice none 0 0,.int .i64 x1,.slice none 0 0]) w:=by kernel_rfl
theorem ao4(qR:Option Addr)(qS:Nat)(qT:Nat)(w:World):(Instr.build 38 #[(0,(.slice qR qS qT))]).run PP w= .ok (.agg #[.slice qR qS qT,.int .i64 ((0:Nat):Int)]) w:=by kernel_rfl
theorem Lp(x0:Int)(x1:Int)(x2:Int)(w:World):(Instr.build 44 #[(0,(.int .i64 x0)),(1,(.int .i64 x1)),(2,(.int .i64 x2))]).run PP w= .ok (.agg #[.int .i64 x0,.int .i64 x1,.int .i64 x2]) w:=by kernel_rfl
theorem ao5(x0:Option Addr)(xR:Option Addr)(xS:Nat)(xT:Nat)(x3:Int)(adn:Int)(ado:Int)(adp:Int)(x7:Option Nat)(w:World):(Instr.build 49 #[(0,(.pointer x0)),(1,(.slice xR xS xT)),(3,(.int .i64 x3)),(6,(.agg #[.int .i64 adn,.int .i64 ado,.int .i64 adp])),(7,(.map x7))]).run PP w= .ok (.agg #[.pointer x0,.slice xR xS xT,.int .i64 ((0:Nat):Int),.int .i64 x3,.slice none 0 0,.pointer none,.pointer none,.pointer none,.int .i64 adn,.int .i64 ado,.int .i64 adp,.map x7,.int .i64 ((0:Nat):Int)]) w:=by kernel_rfl
theorem ao6(x0:Int)(xR:Option Addr)(xS:Nat)(xT:Nat)(x2:Int)(w:World):(Instr.build 64 #[(0,(.int .i64 x0)),(1,(.slice xR xS xT)),(2,(.int .i64 x2))]).run PP w= .ok (.agg #[.int .i64 x0,.slice xR xS xT,.int .i64 x2]) w:=by kernel_rfl
theorem ao7(x0:Int)(x1:Int)(x2:Int)(x3:Int)(w:World):(Instr.build 76 #[(0,(.int .u64 x0)),(1,(.int .u64 x1)),(2,(.int .u64 x2)),(3,(.int .u64 x3))]).run PP w= .ok (.agg #[.int .u64 x0,.int .u64 x1,.int .u64 x2,.int .u64 x3]) w:=by kernel_rfl
theorem ao8(qR:Option Addr)(qS:Nat)(qT:Nat)(x1:Int)(x2:Int)(w:World):(Instr.build 84 #[(0,(.slice qR qS qT)),(1,(.int .i64 x1)),(2,(.int .i64 x2))]).run PP w= .ok (.agg #[.slice qR qS qT,.int .i64 x1,.int .i64 x2]) w:=by kernel_rfl
theorem ao9(x0:Int)(x1:Int)(x2:Int)(w:World):(Instr.build 90 #[(0,(.int .i64 x0)),(1,(.int .i64 x1)),(2,(.int .i64 x2))]).run PP w= .ok (.agg #[.int .i64 x0,.int .i64 x1,.int .i64 x2]) w:=by kernel_rfl
theorem ao_(x3:Bool)(x2:Bool)(w:World):(Instr.build 95 #[(3,(.bool x3)),(2,(.bool x2))]).run PP w= .ok (.agg #[.int .i64 ((0:Nat):Int),.int .i64 ((0:Nat):Int),.bool x2,.bool x3]) w:=by kernel_rfl
theorem ao'(x1:Int)(x2:Int)(Lq:Int)(Lr:Int)(Ls:Int)(w:World):(Instr.build 101 #[(1,(.int .i64 x1)),(2,(.int .i64 x2)),(5,(.agg #[.int .i64 Lq,.int .i64 Lr,.int .i64 Ls]))]).run PP w= .ok (.agg #[.slice none 0 0,.int .i64 x1,.int .i64 x2,.pointer none,.pointer none,.pointer none,.pointer none,.int .i64 Lq,.int .i64 Lr,.int .i64 Ls]) w:=by kernel_rfl
theorem apa(Lq:Int)(Lr:Int)(Ls:Int)(w:World):(Instr.build 101 #[(5,(.agg #[.int .i64 Lq,.int .i64 Lr,.int .i64 Ls]))]).run PP w= .ok (.agg #[.slice none 0 0,.int .i64 ((0:Nat):Int),.int .i64 ((0:Nat):Int),.pointer none,.pointer none,.pointer none,.pointer none,.int .i64 Lq,.int .i64 Lr,.int .i64 Ls]) w:=by kernel_rfl
theorem apb(w:World):(Instr.build 112 #[]).run PP w= .ok (.agg #[.slice none 0 0,.slice none 0 0,.slice none 0 0]) w:=by kernel_rfl
theorem Wf(w:World):(Instr.build 120 #[]).run PP w= .ok (.agg #[.slice none 0 0]) w:=by kernel_rfl
theorem adq(qR:Option Addr)(qS:Nat)(qT:Nat)(x1:Int)(w:World):(Instr.build 124 #[(0,(.slice qR qS qT)),(1,(.int .i64 x1))]).run PP w= .ok (.agg #[.slice qR qS qT,.int .i64 x1]) w:=by kernel_rfl
theorem apc(x0:Int)(w:World):(Instr.build 126 #[(0,(.int .i64 x0))]).run PP w= .ok (.agg #[.int .i64 x0,.int .i64 ((0:Nat):Int),.int .i64 ((0:Nat):Int)]) w:=by kernel_rfl
theorem apd(x0:Int)(x1:Int)(w:World):(Instr.build 126 #[(0,(.int .i64 x0)),(1,(.int .i64 x1))]).run PP w= .ok (.agg #[.int .i64 x0,.int .i64 x1,.int .i64 ((0:Nat):Int)]) w:=by kernel_rfl
theorem ape(x2:Int)(w:World):(Instr.build 146 #[(2,(.int .i64 x2))]).run PP w= .ok (.agg #[.slice none 0 0,.slice none 0 0,.int .i64 x2]) w:=by kernel_rfl
theorem apf(qR:Option Addr)(qS:Nat)(qT:Nat)(x1:Int)(w:World):(Instr.build 155 #[(0,(.slice qR qS qT)),(1,(.int .i64 x1))]).run PP w= .ok (.agg #[.slice qR qS qT,.int .i64 x1]) w:=by kernel_rfl
theorem apg(w:World):(Instr.build 159 #[]).run PP w= .ok (.agg #[.slice none 0 0]) w:=by kernel_rfl
theorem aph(qR:Option Addr)(qS:Nat)(qT:Nat)(w:World):(Instr.build 167 #[(0,(.slice qR qS qT))]).run PP w= .ok (.agg #[.slice qR qS qT,.int .i64 ((0:Nat):Int),.bool false]) w:=by kernel_rfl
theorem api(x0:Int)(x1:Int)(w:World):(Instr.build 170 #[(0,(.int .i64 x0)),(1,(.int .i64 x1))]).run PP w= .ok (.agg #[.int .i64 x0,.int .i64 x1]) w:=by kernel_rfl
theorem apj(x0:Int)(x1t:TypeId)(x1v:Value)(w:World):(Instr.build 184 #[(0,(.int .i64 x0)),(1,(.iface x1t x1v))]).run PP w= .ok (.agg #[.int .i64 x0,.iface x1t x1v]) w:=by kernel_rfl
theorem apk(x0:ByteArray)(w:World):(Instr.build 201 #[(0,(.string x0))]).run PP w= .ok (.agg #[.string x0]) w:=by kernel_rfl
theorem apl(w:World):(Instr.build 207 #[]).run PP w= .ok (.agg #[.pointer none,.slice none 0 0,.int .u32 ((0:Nat):Int),.int .u32 ((0:Nat):Int),.int .u32 ((0:Nat):Int),.int .u32 ((0:Nat):Int)]) w:=by kernel_rfl
theorem apm(x0:Option Addr)(xR:Option Addr)(xS:Nat)(xT:Nat)(x2:Int)(x3:Int)(x4:Int)(x5:Int)(w:World):(Instr.build 207 #[(0,(.pointer x0)),(1,(.slice xR xS xT)),(2,(.int .u32 x2)),(3,(.int .u32 x3)),(4,(.int .u32 x4)),(5,(.int .u32 x5))]).run PP w= .ok (.agg #[.pointer x0,.slice xR xS xT,.int .u32 x2,.int .u32 x3,.int .u32 x4,.int .u32 x5]) w:=by kernel_rfl
theorem apn(x0:Int)(x1:Int)(x2:Int)(x3:Int)(w:World):(Instr.build 214 #[(0,(.int .u32 x0)),(1,(.int .u8 x1)),(2,(.int .u8 x2)),(3,(.int .u16 x3))]).run PP w= .ok (.agg #[.int .u32 x0,.int .u8 x1,.int .u8 x2,.int .u16 x3]) w:=by kernel_rfl
theorem Wg(x2:Int)(x3:Int)(w:World):(Instr.build 214 #[(2,(.int .u8 x2)),(3,(.int .u16 x3))]).run PP w= .ok (.agg #[.int .u32 ((0:Nat):Int),.int .u8 ((0:Nat):Int),.int .u8 x2,.int .u16 x3]) w:=by kernel_rfl
theorem Wh(qR:Option Addr)(qS:Nat)(qT:Nat)(x1:Int)(x2:Int)(x3:Int)(x4f:Fn)(x4g:Array Value)(x4h:Array Value)(w:World):(Instr.build 222 #[(0,(.slice qR qS qT)),(1,(.int .i64 x1)),(2,(.int .i64 x2)),(3,(.int .i64 x3)),(4,(.func x4f x4g x4h))]).run PP w= .ok (.agg #[.slice qR qS qT,.int .i64 x1,.int .i64 x2,.int .i64 x3,.func x4f x4g x4h]) w:=by kernel_rfl
theorem apo(adr:Option Addr)(ads:Nat)(adu:Nat)(xU:Int)(xV:Int)(adw:Int)(adx:Fn)(ady:Array Value)(adz:Array Value)(adA:Option Addr)(adB:Nat)(adC:Nat)(adD:Int)(adE:Int)(adF:Int)(adG:Fn)(adH:Array Value)(adI:Array Value)(adJ:Option Addr)(adK:Nat)(adL:Nat)(adM:Int)(adN:Int)(adP:Int)(adQ:Fn)(adR:Array Value)(adS:Array Value)(w:World):(Instr.build 223 #[(0,(.agg #[.slice adr ads adu,.int .i64 xU,.int .i64 xV,.int .i64 adw,.func adx ady adz])),(1,(.agg #[.slice adA adB adC,.int .i64 adD,.int .i64 adE,.int .i64 adF,.func adG adH adI])),(2,(.agg #[.slice adJ adK adL,.int .i64 adM,.int .i64 adN,.int .i64 adP,.func adQ adR adS]))]).run PP w= .ok (.agg #[.slice adr ads adu,.int .i64 xU,.int .i64 xV,.int .i64 adw,.func adx ady adz,.slice adA adB adC,.int .i64 adD,.int .i64 adE,.int .i64 adF,.func adG adH adI,.slice adJ adK adL,.int .i64 adM,.int .i64 adN,.int .i64 adP,.func adQ adR adS]) w:=by kernel_rfl
theorem apq(x0:Int)(x1:Int)(x2:Int)(w:World):(Instr.build 227 #[(0,(.int .u8 x0)),(1,(.int .u8 x1)),(2,(.int .u16 x2))]).run PP w= .ok (.agg #[.int .u8 x0,.int .u8 x1,.int .u16 x2]) w:=by kernel_rfl
theorem apr(x0:Option Addr)(xR:Option Addr)(xS:Nat)(xT:Nat)(x2:Int)(w:World):(Instr.build 242 #[(0,(.pointer x0)),(1,(.slice xR xS xT)),(2,(.int .u32 x2))]).run PP w= .ok (.agg #[.pointer x0,.slice xR xS xT,.int .u32 x2,.int .u32 ((0:Nat):Int),.int .u32 ((0:Nat):Int)]) w:=by kernel_rfl
theorem kB(x0:Int)(w:World):(Instr.buildSlice 22 1 #[(0,(.int .u8 x0))]).run PP w= .ok (.slice (some ⟨w.heap.size,0,none⟩) 1 1) (w.alloc (C [.int .u8 x0] 5)):=by kernel_rfl
theorem aps(x0:Int)(x1:Int)(w:World):(Instr.buildSlice 22 2 #[(0,(.int .u8 x0)),(1,(.int .u8 x1))]).run PP w= .ok (.slice (some ⟨w.heap.size,0,none⟩) 2 2) (w.alloc (C [.int .u8 x0,.int .u8 x1] 5)):=by kernel_rfl
theorem apt(x0:Int)(x1:Int)(x2:Int)(x3:Int)(x4:Int)(x5:Int)(x6:Int)(x7:Int)(x8:Int)(x9:Int)(my:Int)(w:World):(Instr.buildSlice 22 11 #[(0,(.int .u8 x0)),(1,(.int .u8 x1)),(2,(.int .u8 x2)),(3,(.int .u8 x3)),(4,(.int .u8 x4)),(5,(.int .u8 x5)),(6,(.int .u8 x6)),(7,(.int .u8 x7)),(8,(.int .u8 x8)),(9,(.int .u8 x9)),(10,(.int .u8 my))]).run PP w= .ok (.slice (some ⟨w.heap.size,0,none⟩) 11 11) (w.alloc (C [.int .u8 x0,.int .u8 x1,.int .u8 x2,.int .u8 x3,.int .u8 x4,.int .u8 x5,.int .u8 x6,.int .u8 x7,.int .u8 x8,.int .u8 x9,.int .u8 my] 5)):=by kernel_rfl
theorem lB(x0:Int)(w:World):(Instr.buildSlice 23 1 #[(0,(.int .i64 x0))]).run PP w= .ok (.slice (some ⟨w.heap.size,0,none⟩) 1 1) (w.alloc (C [.int .i64 x0] 3)):=by kernel_rfl
theorem kM(x0:Int)(x1:Int)(x2:Int)(w:World):(Instr.buildSlice 23 3 #[(0,(.int .i64 x0)),(1,(.int .i64 x1)),(2,(.int .i64 x2))]).run PP w= .ok (.slice (some ⟨w.heap.size,0,none⟩) 3 3) (w.alloc (C [.int .i64 x0,.int .i64 x1,.int .i64 x2] 3)):=by kernel_rfl
theorem tw(x0:Int)(x1:Int)(x2:Int)(x3:Int)(w:World):(Instr.buildSlice 23 4 #[(0,(.int .i64 x0)),(1,(.int .i64 x1)),(2,(.int .i64 x2)),(3,(.int .i64 x3))]).run PP w= .ok (.slice (some ⟨w.heap.size,0,none⟩) 4 4) (w.alloc (C [.int .i64 x0,.int .i64 x1,.int .i64 x2,.int .i64 x3] 3)):=by kernel_rfl
theorem apu(x0:Int)(x1:Int)(x2:Int)(x3:Int)(x4:Int)(x5:Int)(w:World):(Instr.buildSlice 23 6 #[(0,(.int .i64 x0)),(1,(.int .i64 x1)),(2,(.int .i64 x2)),(3,(.int .i64 x3)),(4,(.int .i64 x4)),(5,(.int .i64 x5))]).run PP w= .ok (.slice (some ⟨w.heap.size,0,none⟩) 6 6) (w.alloc (C [.int .i64 x0,.int .i64 x1,.int .i64 x2,.int .i64 x3,.int .i64 x4,.int .i64 x5] 3)):=by kernel_rfl
theorem apv(x0:Int)(x1:Int)(x2:Int)(x3:Int)(x4:Int)(x5:Int)(x6:Int)(x7:Int)(x8:Int)(x9:Int)(my:Int)(tx:Int)(tA:Int)(tB:Int)(tC:Int)(tD:Int)(tE:Int)(tF:Int)(tG:Int)(tH:Int)(w:World):(Instr.buildSlice 23 20 #[(0,(.int .i64 x0)),(1,(.int .i64 x1)),(2,(.int .i64 x2)),(3,(.int .i64 x3)),(4,(.int .i64 x4)),(5,(.int .i64 x5)),(6,(.int .i64 x6)),(7,(.int .i64 x7)),(8,(.int .i64 x8)),(9,(.int .i64 x9)),(10,(.int .i64 my)),(11,(.int .i64 tx)),(12,(.int .i64 tA)),(13,(.int .i64 tB)),(14,(.int .i64 tC)),(15,(.int .i64 tD)),(16,(.int .i64 tE)),(17,(.int .i64 tF)),(18,(.int .i64 tG)),(19,(.int .i64 tH))]).run PP w= .ok (.slice (some ⟨w.heap.size,0,none⟩) 20 20) (w.alloc (C [.int .i64 x0,.int .i64 x1,.int .i64 x2,.int .i64 x3,.int .i64 x4,.int .i64 x5,.int .i64 x6,.int .i64 x7,.int .i64 x8,.int .i64 x9,.int .i64 my,.int .i64 tx,.int .i64 tA,.int .i64 tB,.int .i64 tC,.int .i64 tD,.int .i64 tE,.int .i64 tF,.int .i64 tG,.int .i64 tH] 3)):=by kernel_rfl
theorem apw(x0:Int)(x1:Int)(x2:Int)(x3:Int)(x4:Int)(x5:Int)(x6:Int)(x7:Int)(x8:Int)(x9:Int)(my:Int)(tx:Int)(tA:Int)(tB:Int)(tC:Int)(tD:Int)(tE:Int)(tF:Int)(tG:Int)(tH:Int)(xW:Int)(w:World):(Instr.buildSlice 23 21 #[(0,(.int .i64 x0)),(1,(.int .i64 x1)),(2,(.int .i64 x2)),(3,(.int .i64 x3)),(4,(.int .i64 x4)),(5,(.int .i64 x5)),(6,(.int .i64 x6)),(7,(.int .i64 x7)),(8,(.int .i64 x8)),(9,(.int .i64 x9)),(10,(.int .i64 my)),(11,(.int .i64 tx)),(12,(.int .i64 tA)),(13,(.int .i64 tB)),(14,(.int .i64 tC)),(15,(.int .i64 tD)),(16,(.int .i64 tE)),(17,(.int .i64 tF)),(18,(.int .i64 tG)),(19,(.int .i64 tH)),(20,(.int .i64 xW))]).run PP w= .ok (.slice (some ⟨w.heap.size,0,none⟩) 21 21) (w.alloc (C [.int .i64 x0,.int .i64 x1,.int .i64 x2,.int .i64 x3,.int .i64 x4,.int .i64 x5,.int .i64 x6,.int .i64 x7,.int .i64 x8,.int .i64 x9,.int .i64 my,.int .i64 tx,.int .i64 tA,.int .i64 tB,.int .i64 tC,.int .i64 tD,.int .i64 tE,.int .i64 tF,.int .i64 tG,.int .i64 tH,.int .i64 xW] 3)):=by kernel_rfl
theorem apx(x0:Int)(x1:Int)(x2:Int)(x3:Int)(x4:Int)(x5:Int)(x6:Int)(x7:Int)(x8:Int)(x9:Int)(my:Int)(tx:Int)(tA:Int)(tB:Int)(tC:Int)(tD:Int)(tE:Int)(tF:Int)(tG:Int)(tH:Int)(xW:Int)(CX:Int)(CY:Int)(CZ:Int)(C5:Int)(C6:Int)(C7:Int)(C8:Int)(C9:Int)(w:World):(Instr.buildSlice 23 29 #[(0,(.int .i64 x0)),(1,(.int .i64 x1)),(2,(.int .i64 x2)),(3,(.int .i64 x3)),(4,(.int .i64 x4)),(5,(.int .i64 x5)),(6,(.int .i64 x6)),(7,(.int .i64 x7)),(8,(.int .i64 x8)),(9,(.int .i64 x9)),(10,(.int .i64 my)),(11,(.int .i64 tx)),(12,(.int .i64 tA)),(13,(.int .i64 tB)),(14,(.int .i64 tC)),(15,(.int .i64 tD)),(16,(.int .i64 tE)),(17,(.int .i64 tF)),(18,(.int .i64 tG)),(19,(.int .i64 tH)),(20,(.int .i64 xW)),(21,(.int .i64 CX)),(22,(.int .i64 CY)),(23,(.int .i64 CZ)),(24,(.int .i64 C5)),(25,(.int .i64 C6)),(26,(.int .i64 C7)),(27,(.int .i64 C8)),(28,(.int .i64 C9))]).run PP w= .ok (.slice (some ⟨w.heap.size,0,none⟩) 29 29) (w.alloc (C [.int .i64 x0,.int .i64 x1,.int .i64 x2,.int .i64 x3,.int .i64 x4,.int .i64 x5,.int .i64 x6,.int .i64 x7,.int .i64 x8,.int .i64 x9,.int .i64 my,.int .i64 tx,.int .i64 tA,.int .i64 tB,.int .i64 tC,.int .i64 tD,.int .i64 tE,.int .i64 tF,.int .i64 tG,.int .i64 tH,.int .i64 xW,.int .i64 CX,.int .i64 CY,.int .i64 CZ,.int .i64 C5,.int .i64 C6,.int .i64 C7,.int .i64 C8,.int .i64 C9] 3)):=by kernel_rfl
theorem apy(x0:Int)(x1:Int)(x2:Int)(x3:Int)(x4:Int)(x5:Int)(x6:Int)(x7:Int)(x8:Int)(x9:Int)(my:Int)(tx:Int)(tA:Int)(tB:Int)(tC:Int)(tD:Int)(tE:Int)(tF:Int)(tG:Int)(tH:Int)(xW:Int)(CX:Int)(CY:Int)(CZ:Int)(C5:Int)(C6:Int)(C7:Int)(C8:Int)(C9:Int)(Lt:Int)(Lu:Int)(Lv:Int)(Lw:Int)(Ly:Int)(Lz:Int)(LA:Int)(w:World):(Instr.buildSlice 23 36 #[(0,(.int .i64 x0)),(1,(.int .i64 x1)),(2,(.int .i64 x2)),(3,(.int .i64 x3)),(4,(.int .i64 x4)),(5,(.int .i64 x5)),(6,(.int .i64 x6)),(7,(.int .i64 x7)),(8,(.int .i64 x8)),(9,(.int .i64 x9)),(10,(.int .i64 my)),(11,(.int .i64 tx)),(12,(.int .i64 tA)),(13,(.int .i64 tB)),(14,(.int .i64 tC)),(15,(.int .i64 tD)),(16,(.int .i64 tE)),(17,(.int .i64 tF)),(18,(.int .i64 tG)),(19,(.int .i64 tH)),(20,(.int .i64 xW)),(21,(.int .i64 CX)),(22,(.int .i64 CY)),(23,(.int .i64 CZ)),(24,(.int .i64 C5)),(25,(.int .i64 C6)),(26,(.int .i64 C7)),(27,(.int .i64 C8)),(28,(.int .i64 C9)),(29,(.int .i64 Lt)),(30,(.int .i64 Lu)),(31,(.int .i64 Lv)),(32,(.int .i64 Lw)),(33,(.int .i64 Ly)),(34,(.int .i64 Lz)),(35,(.int .i64 LA))]).run PP w= .ok (.slice (some ⟨w.heap.size,0,none⟩) 36 36) (w.alloc (C [.int .i64 x0,.int .i64 x1,.int .i64 x2,.int .i64 x3,.int .i64 x4,.int .i64 x5,.int .i64 x6,.int .i64 x7,.int .i64 x8,.int .i64 x9,.int .i64 my,.int .i64 tx,.int .i64 tA,.int .i64 tB,.int .i64 tC,.int .i64 tD,.int .i64 tE,.int .i64 tF,.int .i64 tG,.int .i64 tH,.int .i64 xW,.int .i64 CX,.int .i64 CY,.int .i64 CZ,.int .i64 C5,.int .i64 C6,.int .i64 C7,.int .i64 C8,.int .i64 C9,.int .i64 Lt,.int .i64 Lu,.int .i64 Lv,.int .i64 Lw,.int .i64 Ly,.int .i64 Lz,.int .i64 LA] 3)):=by kernel_rfl
theorem apz(x0:Int)(x1:Int)(x2:Int)(x3:Int)(x4:Int)(x5:Int)(x6:Int)(x7:Int)(x8:Int)(x9:Int)(my:Int)(tx:Int)(tA:Int)(tB:Int)(tC:Int)(tD:Int)(tE:Int)(tF:Int)(tG:Int)(tH:Int)(xW:Int)(CX:Int)(CY:Int)(CZ:Int)(C5:Int)(C6:Int)(C7:Int)(C8:Int)(C9:Int)(Lt:Int)(Lu:Int)(Lv:Int)(Lw:Int)(Ly:Int)(Lz:Int)(LA:Int)(x36:Int)(x37:Int)(x38:Int)(x39:Int)(x40:Int)(x41:Int)(x42:Int)(x43:Int)(x44:Int)(x45:Int)(x46:Int)(x47:Int)(x48:Int)(x49:Int)(x50:Int)(x51:Int)(x52:Int)(w:World):(Instr.buildSlice 23 53 #[(0,(.int .i64 x0)),(1,(.int .i64 x1)),(2,(.int .i64 x2)),(3,(.int .i64 x3)),(4,(.int .i64 x4)),(5,(.int .i64 x5)),(6,(.int .i64 x6)),(7,(.int .i64 x7)),(8,(.int .i64 x8)),(9,(.int .i64 x9)),(10,(.int .i64 my)),(11,(.int .i64 tx)),(12,(.int .i64 tA)),(13,(.int .i64 tB)),(14,(.int .i64 tC)),(15,(.int .i64 tD)),(16,(.int .i64 tE)),(17,(.int .i64 tF)),(18,(.int .i64 tG)),(19,(.int .i64 tH)),(20,(.int .i64 xW)),(21,(.int .i64 CX)),(22,(.int .i64 CY)),(23,(.int .i64 CZ)),(24,(.int .i64 C5)),(25,(.int .i64 C6)),(26,(.int .i64 C7)),(27,(.int .i64 C8)),(28,(.int .i64 C9)),(29,(.int .i64 Lt)),(30,(.int .i64 Lu)),(31,(.int .i64 Lv)),(32,(.int .i64 Lw)),(33,(.int .i64 Ly)),(34,(.int .i64 Lz)),(35,(.int .i64 LA)),(36,(.int .i64 x36)),(37,(.int .i64 x37)),(38,(.int .i64 x38)),(39,(.int .i64 x39)),(40,(.int .i64 x40)),(41,(.int .i64 x41)),(42,(.int .i64 x42)),(43,(.int .i64 x43)),(44,(.int .i64 x44)),(45,(.int .i64 x45)),(46,(.int .i64 x46)),(47,(.int .i64 x47)),(48,(.int .i64 x48)),(49,(.int .i64 x49)),(50,(.int .i64 x50)),(51,(.int .i64 x51)),(52,(.int .i64 x52))]).run PP w= .ok (.slice (some ⟨w.heap.size,0,none⟩) 53 53) (w.alloc (C [.int .i64 x0,.int .i64 x1,.int .i64 x2,.int .i64 x3,.int .i64 x4,.int .i64 x5,.int .i64 x6,.int .i64 x7,.int .i64 x8,.int .i64 x9,.int .i64 my,.int .i64 tx,.int .i64 tA,.int .i64 tB,.int .i64 tC,.int .i64 tD,.int .i64 tE,.int .i64 tF,.int .i64 tG,.int .i64 tH,.int .i64 xW,.int .i64 CX,.int .i64 CY,.int .i64 CZ,.int .i64 C5,.int .i64 C6,.int .i64 C7,.int .i64 C8,.int .i64 C9,.int .i64 Lt,.int .i64 Lu,.int .i64 Lv,.int .i64 Lw,.int .i64 Ly,.int .i64 Lz,.int .i64 LA,.int .i64 x36,.int .i64 x37,.int .i64 x38,.int .i64 x39,.int .i64 x40,.int .i64 x41,.int .i64 x42,.int .i64 x43,.int .i64 x44,.int .i64 x45,.int .i64 x46,.int .i64 x47,.int .i64 x48,.int .i64 x49,.int .i64 x50,.int .i64 x51,.int .i64 x52] 3)):=by kernel_rfl
theorem apA(C_:Int)(xU:Int)(xV:Int)(w:World):(Instr.buildSlice 75 1 #[(0,(.agg #[.int .u8 C_,.int .u8 xU,.int .u16 xV]))]).run PP w= .ok (.slice (some ⟨w.heap.size,0,none⟩) 1 1) (w.alloc (C [.int .u8 C_,.int .u8 xU,.int .u16 xV] 227)):=by kernel_rfl
theorem apB(C_:Int)(xU:Int)(xV:Int)(w:World):(Instr.buildSlice 85 1 #[(0,(.agg #[.int .i64 C_,.int .i64 xU,.int .i64 xV]))]).run PP w= .ok (.slice (some ⟨w.heap.size,0,none⟩) 1 1) (w.alloc (C [.int .i64 C_,.int .i64 xU,.int .i64 xV] 90)):=by kernel_rfl
theorem adT(x0:Bool)(w:World):(Instr.buildSlice 118 1 #[(0,(.bool x0))]).run PP w= .ok (.slice (some ⟨w.heap.size,0,none⟩) 1 1) (w.alloc (C [.bool x0] 4)):=by kernel_rfl
theorem apC(C_:Int)(xU:Int)(xV:Int)(w:World):(Instr.buildSlice 122 1 #[(0,(.agg #[.int .i64 C_,.int .i64 xU,.int .i64 xV]))]).run PP w= .ok (.slice (some ⟨w.heap.size,0,none⟩) 1 1) (w.alloc (C [.int .i64 C_,.int .i64 xU,.int .i64 xV] 126)):=by kernel_rfl
theorem Wi:PP.follows .mixedOrders=true:=by kernel_rfl
end Go.Z
namespace Go.Z
open Go
theorem gJ{p:Prop}(h:p:=by repeat' first|exact trivial|exact J|apply And.intro):p:=h
theorem Is{p:Prop}(h:p:=by repeat' first|exact trivial|exact J|exact λ_=>rfl|exact λe=>(LB e hS).elim|apply And.intro):p:=h
theorem aq{ρ:Env}{l:List (Nat×Value)}(h:Pu ρ l:=by repeat' first|exact trivial|exact J|apply And.intro):Kn ρ l:= .mk h
theorem cw{p:Prop}(h:p:=by first|omega| (dsimp only;omega)):p:=h
theorem aj{p:Prop}(h:p:=by decide):p:=h
theorem dw{p:Prop}(h:p:=by simp only[IntKind.bits];omega):p:=h
theorem aJ{p:Prop}(h:p:=by intro _ hh;repeat first|exact hh|apply mu|apply fe):p:=h
theorem wi{p:Prop}(h:p:=by intro e he;rcases je.1 he with rfl;repeat first|exact e_ .. |apply mu):p:=h
theorem gD{f:FuncId}{fn:Func}{n:Nat}{w:World}{c:Code}{a0:Value}{Z9:Ending->World->Prop}(hf:PP.funcs[f]? =some fn)(hn:fn.ntmps=n)(rs:List Nat)(h:Z_ PP n c (Lh rs Z9) (CN [a0]) w)(hr:fn.results=(rs.map ResultVar.tmp).toArray:=by exact J)(hb:fn.body=some c:=by exact J)(hs:Nat.ble 1 n=true:=by exact J):Calls PP f #[a0] w Z9:=qN hf n hn rs hr hb (args:=[a0]) hs h
theorem gS{f:FuncId}{fn:Func}{n:Nat}{w:World}{c:Code}{a0 a1:Value}{Z9:Ending->World->Prop}(hf:PP.funcs[f]? =some fn)(hn:fn.ntmps=n)(rs:List Nat)(h:Z_ PP n c (Lh rs Z9) (CN [a0,a1]) w)(hr:fn.results=(rs.map ResultVar.tmp).toArray:=by exact J)(hb:fn.body=some c:=by exact J)(hs:Nat.ble 2 n=true:=by exact J):Calls PP f #[a0,a1] w Z9:=qN hf n hn rs hr hb (args:=[a0,a1]) hs h
theorem mW{f:FuncId}{fn:Func}{n:Nat}{w:World}{c:Code}{a0 a1 a2:Value}{Z9:Ending->World->Prop}(hf:PP.funcs[f]? =some fn)(hn:fn.ntmps=n)(rs:List Nat)(h:Z_ PP n c (Lh rs Z9) (CN [a0,a1,a2]) w)(hr:fn.results=(rs.map ResultVar.tmp).toArray:=by exact J)(hb:fn.body=some c:=by exact J)(hs:Nat.ble 3 n=true:=by exact J):Calls PP f #[a0,a1,a2] w Z9:=qN hf n hn rs hr hb (args:=[a0,a1,a2]) hs h
theorem wj{f:FuncId}{fn:Func}{n:Nat}{w:World}{c:Code}{a0 a1 a2 a3:Value}{Z9:Ending->World->Prop}(hf:PP.funcs[f]? =some fn)(hn:fn.ntmps=n)(rs:List Nat)(h:Z_ PP n c (Lh rs Z9) (CN [a0,a1,a2,a3]) w)(hr:fn.results=(rs.map ResultVar.tmp).toArray:=by exact J)(hb:fn.body=some c:=by exact J)(hs:Nat.ble 4 n=true:=by exact J):Calls PP f #[a0,a1,a2,a3] w Z9:=qN hf n hn rs hr hb (args:=[a0,a1,a2,a3]) hs h
theorem AV{α β:Type}{q:α->β->Prop}{p:Prop}(h: ∃a b,q a b)(k: ∀a b,q a b->p):p:=h.elim λa h=>h.elim λb h=>k a b h
theorem AW{α β γ:Type}{q:α->β->γ->Prop}{p:Prop}(h: ∃a b c,q a b c)(k: ∀a b c,q a b c->p):p:=h.elim λa h=>AV h (k a)
theorem kC{α β γ δ:Type}{q:α->β->γ->δ->Prop}{p:Prop}(h: ∃a b c d,q a b c d)(k: ∀a b c d,q a b c d->p):p:=h.elim λa h=>AW h (k a)
theorem adU{α β γ δ ε:Type}{q:α->β->γ->δ->ε->Prop}{p:Prop}(h: ∃a b c d e,q a b c d e)(k: ∀a b c d e,q a b c d e->p):p:=h.elim λa h=>kC h (k a)
theorem cg{α:Type}(a:α){p:Prop}(k: ∀b,a=b->p):p:=k a J
theorem fx{F:List aD}{b:Nat}{l:List Value}{T:TT}(h:(some b,C l T)∈F){p:Prop}(k: ∀i,Has F b l T i->p):p:=by
 obtain⟨i,hi,e⟩:=CD h;exact k i ⟨by rw[gv hi,e]⟩
theorem Rt.out{e:Ending}{k:Value->Prop}(h:Rt e k): ∃v,e= .returned v/\k v:=by
 (cases e<;>first|exact⟨_,J,h⟩|exact h.elim)
theorem aA{P:Program}{f:FuncId}{vs:Array Value}{w:World}{Z9:Ending->World->Prop}{Q:World->Value->Prop}(h:Calls P f vs w Z9)(k: ∀e w',Z9 e w'->Rt e (Q w')):
 Calls P f vs w λe w'=> ∃v,e= .returned v/\Q w' v:=h.mono λe w' q=>(k e w' q).out
def PE:List Nat->Ot
 | []=> .nil
 |x::l=> .cons (x/4,match x % 4 with|0=> .p|1=> .c|2=> .g|_=> .h) (PE l)
def cL:List Nat->Ot->Ot
 | [],o=>o
 |x::l,o=> .cons (x/4,match x % 4 with|0=> .p|1=> .c|2=> .g|_=> .h) (cL l o)
def PF:List Nat->List aD->List aD
 | [],L=>L
 |i::c,L=>PF c (dB i L)
theorem H.dr{r:dQ}{w:World}{L:List aD}: ∀{t:Nat},H r w L->H r w (L.drop t)
 |0,h=>h
 | t+1,h=>by
  cases L with
  |nil=>exact h
  |cons e L=>exact H.dr (t:=t) h.tail
theorem H.z{r:dQ}{w:World}: ∀{L:List aD} (h:H r w L) (c:List Nat) (t:Nat),H r w ((PF c L).drop t)
 |_,h,[],_=>h.dr
 |_,h,i::c,t=>(h.mv i).z c t
theorem H.zz{r:dQ}{w:World}{L L':List aD}(h:H r w L)(c:List Nat)(t:Nat)(hL:L'=(PF c L).drop t:=by(first|dsimp only[PF,dB,List.drop]|skip)<;>exact J):H r w L':=hL▸h.z c t
section
variable {P:Program}{n:Nat}{K:gw}{ρ:Env}{all ops:Array Oper}{rest:List Oper}{ord:Ot}{d:Option Nat}{ty:TypeId}{pos:String}{aN:Array Edge}{r:dQ}{w:World}{L L':List aD}{x y:Operand}{b q i m i0 i1 i2 i3 j0:Nat}{l:List Value}{T T' T0:TypeId}{u v:Value}
theorem bL(h:H r w L)(l:List Nat){id:Nat}(hk: ∀w',H r w' L->D PP n ops (PE l) K ρ w')(hB:Ic ops (PE l)=true:=by decide+kernel):Z_ PP n (.region id ops true) K ρ w:=ac0 h (PE l) Wi hB hk
theorem wk(h:H r w L)(o:Ot){id:Nat}(hk: ∀w',H r w' L->D PP n ops o K ρ w')(hB:Ic ops o=true:=by decide+kernel):Z_ PP n (.region id ops true) K ρ w:=ac0 h o Wi hB hk
theorem apD{m:Nat}{q:Bx}{x0 x1 x2 x3:Operand}{u0 u1 u2 u3:Int}{a0 a1 a2 a3:Nat}(h0:Env.ev ρ x0= .int .u32 u0)(W:Env.ev ρ x1= .int .u8 u1)(h2:Env.ev ρ x2= .int .u8 u2)(h3:Env.ev ρ x3= .int .u16 u3)(k0:ao u0 a0)(k1:ao u1 a1)(k2:ao u2 a2)(k3:ao u3 a3)(hd:aV n d=true)(gx:G m q (O PP n all rest K (Env.put ρ d (.agg #[aZ a0,gR a1,gR a2,CQ a3])) w)):G (m+1) q (O PP n all ({dst:=d,op:= .build 214 #[(0,x0),(1,x1),(2,x2),(3,x3)],type:=ty,pos:=pos,after:=aN,guard:=none}::rest) K ρ w):=
 Gs (λk=>gf (adg (apn _ _ _ _) (h0.trans (by rw[k0.eq])) (W.trans (by rw[k1.eq])) (h2.trans (by rw[k2.eq])) (h3.trans (by rw[k3.eq]))) hd k) gx
theorem Wj (m:Nat) {p q:Prop} (k:q) (h:G m (.mk q) p:=by
 repeat(first
  |exact G0
  | (apply apD;exact J;exact J;exact J;exact J;(first|exact iN|exact dq _);(first|exact iN|exact dq _);(first|exact iN|exact dq _);(first|exact iN|exact dq _);exact J))):p:=G1 h k
def Sp(p:Prop)(r:dQ)(L':List aD)(X:World->Prop):Prop:=(∀w',H r w' L'->X w')->p
theorem apE(h:H r w L)(W:One P T')(hx:Env.ev ρ x= .pointer (some ⟨b,q,none⟩))(hb:Has L b l T0 i)(hq:l[q]? =some u)(hy:Env.ev ρ y=v)(hv:plain v=true)(hd:aV n d=true)(hL:L'=L.set i (some b,C (l.set q v) T0)):
 Sp (O P n all ({dst:=d,op:= .store T' x y,type:=ty,pos:=pos,after:=aN,guard:=none}::rest) K ρ w) r L' (λw'=>O P n all rest K (Env.put ρ d undef) w'):=λk=>gC h hx hq hy hv hd (hL▸k)
theorem apF(hi:ops[i0]? =some {dst:=d,op:= .store T' x y,type:=ty,pos:=pos,after:=aN,guard:=none})(h:H r w L)(W:One P T')(hx:Env.ev ρ x= .pointer (some ⟨b,q,none⟩))(hb:Has L b l T0 i)(hq:l[q]? =some u)(hy:Env.ev ρ y=v)(hv:plain v=true)(hd:aV n d=true)(hL:L'=L.set i (some b,C (l.set q v) T0)):
 Sp (D P n ops (.cons (i0,.h) ord) K ρ w) r L' (λw'=>D P n ops ord K (Env.put ρ d undef) w'):=λk=>v_ hi h hx hq hy hv hd (hL▸k)
theorem apG{vs:List Value}{s:Nat}(h:H r w L)(W:kV P T' s)(hx:Env.ev ρ x= .pointer (some ⟨b,q,none⟩))(hb:Has L b l T0 i)(hy:Env.ev ρ y= .agg ⟨vs⟩)(hl:vs.length=s)(fF:vs.all plain=true)(hq:q+s<=l.length)(hd:aV n d=true)(hL:L'=L.set i (some b,C (cT l q vs) T0)):
 Sp (O P n all ({dst:=d,op:= .store T' x y,type:=ty,pos:=pos,after:=aN,guard:=none}::rest) K ρ w) r L' (λw'=>O P n all rest K (Env.put ρ d undef) w'):=λk=>qP h hx hy hl fF hq hd (hL▸k)
theorem iA{P:Program}{t:TypeId}{s:Nat} [h:kV P t s]:kV P t s:=h
theorem apH{p:Prop}{X:World->Prop}(h:Sp p r L' X)(k: ∀w',H r w' L'->X w'):p:=h k
attribute [irreducible] Sp
theorem b7 {p:Prop} {X:World->Prop} (k: ∀w',H r w' L'->X w') (s:Sp p r L' X:=by
 first
 | (apply apE;exact h;exact iO;exact J;exact iH;exact J;(first|exact(rfl:_=Value.int _ _)|exact(rfl:_=Value.slice _ _ _)|exact(rfl:_=Value.pointer _)|exact(rfl:_=Value.bool _)|exact J);exact J;exact J;(first|dsimp only[List.set]|skip)<;>exact J)
 | (apply apG;exact h;exact iA;exact J;exact iH;exact J;exact J;exact J;(first|decide|exact aR _|exact ff J| (simp;done)|omega);exact J;(first|dsimp only[cT,List.set]|skip)<;>exact J)
 | (apply apF;exact J;exact h;exact iO;exact J;exact iH;exact J;(first|exact(rfl:_=Value.int _ _)|exact(rfl:_=Value.slice _ _ _)|exact(rfl:_=Value.pointer _)|exact(rfl:_=Value.bool _)|exact J);exact J;exact J;(first|dsimp only[List.set]|skip)<;>exact J)):p:=apH s k
def It(p:Prop)(r:dQ)(L':List aD)(X:World->Prop)(v:Value)(l:List Value)(q:Nat)(u:Value):Prop:=l[q]? =some u->(∀w',H r w' L'->X w')->p
theorem adV(h:H r w L)(W:One P T')(hx:Env.ev ρ x= .pointer (some ⟨b,q,none⟩))(hb:Has L b l T0 i)(hy:Env.ev ρ y=v)(hv:plain v=true)(hd:aV n d=true)(hL:L'=L.set i (some b,C (l.set q v) T0)):
 It (O P n all ({dst:=d,op:= .store T' x y,type:=ty,pos:=pos,after:=aN,guard:=none}::rest) K ρ w) r L' (λw'=>O P n all rest K (Env.put ρ d undef) w') v l q u:=λhq k=>gC h hx hq hy hv hd (hL▸k)
theorem adW(hi:ops[i0]? =some {dst:=d,op:= .store T' x y,type:=ty,pos:=pos,after:=aN,guard:=none})(h:H r w L)(W:One P T')(hx:Env.ev ρ x= .pointer (some ⟨b,q,none⟩))(hb:Has L b l T0 i)(hy:Env.ev ρ y=v)(hv:plain v=true)(hd:aV n d=true)(hL:L'=L.set i (some b,C (l.set q v) T0)):
 It (D P n ops (.cons (i0,.h) ord) K ρ w) r L' (λw'=>D P n ops ord K (Env.put ρ d undef) w') v l q u:=λhq k=>v_ hi h hx hq hy hv hd (hL▸k)
theorem adX{p:Prop}{X:World->Prop}(h:It p r L' X v l q u)(hq:l[q]? =some u)(k: ∀w',H r w' L'->X w'):p:=h hq k
attribute [irreducible] It
theorem cV {p:Prop} {X:World->Prop} (v:Value) (hq:l[q]? =some u) (k: ∀w',H r w' L'->X w') (s:It p r L' X v l q u:=by
 first
 | (apply adV;exact h;exact iO;exact J;exact iH;exact J;exact J;exact J;(first|dsimp only[List.set]|skip)<;>exact J)
 | (apply adW;exact J;exact h;exact iO;exact J;exact iH;exact J;exact J;exact J;(first|dsimp only[List.set]|skip)<;>exact J)):p:=adX s hq k
theorem gU {p:Prop} {X:World->Prop} (v:Value) (k: ∀w',H r w' L'->X w') (s:It p r L' X v l q u/\l[q]? =some u:=by
 apply And.intro
 first
 | (apply adV;exact h;exact iO;exact J;exact iH;exact J;exact J;exact J;(first|dsimp only[List.set]|skip)<;>exact J)
 | (apply adW;exact J;exact h;exact iO;exact J;exact iH;exact J;exact J;exact J;(first|dsimp only[List.set]|skip)<;>exact J)
 exact J):p:=adX s.1 s.2 k
abbrev wm(m:Nat):Nat->Value:=λb=> .slice (some ⟨b,0,none⟩) m m
variable {x0 x1 x2 x3:Operand}{v0 v1 v2 v3:Value}{o:Obj}
theorem kX(h0:Env.ev ρ x0=v0)(hb: ∀w,(Instr.buildSlice T m #[(i0,v0)]).run P w= .ok (.slice (some ⟨w.heap.size,0,none⟩) m m) (w.alloc o))(h:H r w L)(hk: ∀b w',H r w' ((some b,o)::L)->O P n all rest K (Env.put ρ d (.slice (some ⟨b,0,none⟩) m m)) w')(hd:aV n d=true:=by rfl):O P n all ({dst:=d,op:= .buildSlice T m #[(i0,x0)],type:=ty,pos:=pos,after:=aN,guard:=none}::rest) K ρ w:=
 tq (v:=wm m) (λ_=>Ln (u:=wm m) hb h0) h hd hk
theorem ka(hi:ops[j0]? =some {dst:=d,op:= .buildSlice T m #[(i0,x0)],type:=ty,pos:=pos,after:=aN,guard:=none})(h0:Env.ev ρ x0=v0)(hb: ∀w,(Instr.buildSlice T m #[(i0,v0)]).run P w= .ok (.slice (some ⟨w.heap.size,0,none⟩) m m) (w.alloc o))(h:H r w L)(hk: ∀b w',H r w' ((some b,o)::L)->D P n ops ord K (Env.put ρ d (.slice (some ⟨b,0,none⟩) m m)) w')(hd:aV n d=true:=by rfl):D P n ops (.cons (j0,.g) ord) K ρ w:=
 Px (v:=wm m) hi (λ_=>Ln (u:=wm m) hb h0) h hd hk
theorem AX(h0:Env.ev ρ x0=v0)(W:Env.ev ρ x1=v1)(h2:Env.ev ρ x2=v2)(hb: ∀w,(Instr.buildSlice T m #[(i0,v0),(i1,v1),(i2,v2)]).run P w= .ok (.slice (some ⟨w.heap.size,0,none⟩) m m) (w.alloc o))(h:H r w L)(hk: ∀b w',H r w' ((some b,o)::L)->O P n all rest K (Env.put ρ d (.slice (some ⟨b,0,none⟩) m m)) w')(hd:aV n d=true:=by rfl):O P n all ({dst:=d,op:= .buildSlice T m #[(i0,x0),(i1,x1),(i2,x2)],type:=ty,pos:=pos,after:=aN,guard:=none}::rest) K ρ w:=
 tq (v:=wm m) (λ_=>adf (u:=wm m) hb h0 W h2) h hd hk
theorem pf(hi:ops[j0]? =some {dst:=d,op:= .buildSlice T m #[(i0,x0),(i1,x1),(i2,x2)],type:=ty,pos:=pos,after:=aN,guard:=none})(h0:Env.ev ρ x0=v0)(W:Env.ev ρ x1=v1)(h2:Env.ev ρ x2=v2)(hb: ∀w,(Instr.buildSlice T m #[(i0,v0),(i1,v1),(i2,v2)]).run P w= .ok (.slice (some ⟨w.heap.size,0,none⟩) m m) (w.alloc o))(h:H r w L)(hk: ∀b w',H r w' ((some b,o)::L)->D P n ops ord K (Env.put ρ d (.slice (some ⟨b,0,none⟩) m m)) w')(hd:aV n d=true:=by rfl):D P n ops (.cons (j0,.g) ord) K ρ w:=
 Px (v:=wm m) hi (λ_=>adf (u:=wm m) hb h0 W h2) h hd hk
theorem Iu(h0:Env.ev ρ x0=v0)(W:Env.ev ρ x1=v1)(h2:Env.ev ρ x2=v2)(h3:Env.ev ρ x3=v3)(hb: ∀w,(Instr.buildSlice T m #[(i0,v0),(i1,v1),(i2,v2),(i3,v3)]).run P w= .ok (.slice (some ⟨w.heap.size,0,none⟩) m m) (w.alloc o))(h:H r w L)(hk: ∀b w',H r w' ((some b,o)::L)->O P n all rest K (Env.put ρ d (.slice (some ⟨b,0,none⟩) m m)) w')(hd:aV n d=true:=by rfl):O P n all ({dst:=d,op:= .buildSlice T m #[(i0,x0),(i1,x1),(i2,x2),(i3,x3)],type:=ty,pos:=pos,after:=aN,guard:=none}::rest) K ρ w:=
 tq (v:=wm m) (λ_=>adh (u:=wm m) hb h0 W h2 h3) h hd hk
theorem C'(hi:ops[j0]? =some {dst:=d,op:= .buildSlice T m #[(i0,x0),(i1,x1),(i2,x2),(i3,x3)],type:=ty,pos:=pos,after:=aN,guard:=none})(h0:Env.ev ρ x0=v0)(W:Env.ev ρ x1=v1)(h2:Env.ev ρ x2=v2)(h3:Env.ev ρ x3=v3)(hb: ∀w,(Instr.buildSlice T m #[(i0,v0),(i1,v1),(i2,v2),(i3,v3)]).run P w= .ok (.slice (some ⟨w.heap.size,0,none⟩) m m) (w.alloc o))(h:H r w L)(hk: ∀b w',H r w' ((some b,o)::L)->D P n ops ord K (Env.put ρ d (.slice (some ⟨b,0,none⟩) m m)) w')(hd:aV n d=true:=by rfl):D P n ops (.cons (j0,.g) ord) K ρ w:=
 Px (v:=wm m) hi (λ_=>adh (u:=wm m) hb h0 W h2 h3) h hd hk
end
end Go.Z
