/- Part 1 of the proof. -/
import Derived.Deep.Quiet
import Derived.WalkKit
set_option linter.all false
set_option maxRecDepth 20000
set_option maxHeartbeats 400000000
open List renaming length -> W, getD -> aa, map -> ar, replicate -> aT, set -> bJ, range -> cL
open UInt8 renaming ofNat -> bS
open Or renaming inl -> a_, inr -> bG
namespace Go.Z
open Go
abbrev aj:=@if_neg
abbrev ao:=@if_pos
abbrev aF:=@List.length_append
abbrev aM:=@Nat.le_trans
abbrev aW:=@Nat.le_refl
abbrev aZ:=@Exists.elim
abbrev bV:=@List.append_assoc
abbrev bX:=@List.getD_eq_getElem?_getD
abbrev cj:=@Nat.zero_le
abbrev cr:=@List.length_drop
abbrev cB:=@List.length_map
abbrev cD:=@congrArg
abbrev dq:=@Nat.lt_or_ge
abbrev dF:=@Nat.pow_le_pow_right
abbrev dL:=@List.length_cons
abbrev dN:=@List.append_nil
abbrev dS:=@List.length_replicate
abbrev dW:=@List.length_set
abbrev dY:=@Nat.mod_lt
abbrev eA:=@Nat.two_pow_pos
abbrev eW:=@List.length_nil
abbrev fg:=@Nat.mul_one
abbrev fL:=@Nat.add_assoc
abbrev fM:=@List.mem_append_right
abbrev fQ:=@List.mem_cons_self
abbrev fR:=@List.length_take
abbrev fS:=@Nat.le_of_ble_eq_true
abbrev gB:=@List.getElem?_eq_none
abbrev gJ:=@List.map_append
abbrev gP:=@List.getElem?_append_left
abbrev gW:=@List.getElem?_eq_getElem
abbrev h_:=@Nat.pow_add
abbrev il:=@Nat.zero_add
abbrev im:=@Nat.mul_comm
abbrev iV:=@Nat.mod_eq_of_lt
abbrev je:=@List.take_of_length_le
abbrev jI:=@Nat.pow_succ
abbrev jS:=@List.mem_map
abbrev jT:=@List.mem_singleton
abbrev kG:=@List.drop_drop
abbrev kH:=@List.map_set
abbrev kN:=@Nat.add_zero
abbrev kP:=@List.getElem?_map
abbrev k6:=@Nat.div_le_self
abbrev k7:=@List.length_eq_zero_iff
abbrev lV:=@Nat.le_add_right
abbrev l9:=@Nat.min_eq_left
abbrev l_:=@List.getElem?_append_right
abbrev ma:=@Nat.not_lt_zero
abbrev nq:=@List.mem_cons_of_mem
abbrev nP:=@List.mem_cons
abbrev nQ:=@List.getElem?_drop
abbrev nR:=@List.ext_getElem?
abbrev oA:=@List.mem_append_left
abbrev oB:=@Decidable.not_not
abbrev oX:=@List.mem_append
abbrev oY:=@List.mem_range
abbrev oZ:=@Bool.and_eq_true
abbrev pd:=@Nat.eq_zero_or_pos
abbrev pR:=@List.range_succ
abbrev pS:=@List.getD_cons_zero
abbrev qg:=@List.getElem?_take
abbrev qh:=@List.getD_cons_succ
abbrev qi:=@List.take_zero
abbrev qN:=@Nat.lt_of_lt_of_le
abbrev qO:=@Prod.mk.injEq
abbrev qP:=@List.getElem?_eq_some_iff
abbrev qQ:=@Nat.add_mul
abbrev qR:=@Nat.log2_lt
abbrev rK:=@List.getElem?_replicate
abbrev rL:=@Nat.mul_le_mul_right
abbrev rM:=@Nat.div_div_eq_div_mul
abbrev rN:=@Nat.one_mul
abbrev rO:=@Option.bind_some
abbrev sK:=@Nat.mul_assoc
abbrev sL:=@decide_eq_true
abbrev tD:=@Array.getD_eq_getD_getElem?
abbrev tE:=@of_decide_eq_true
abbrev tF:=@List.perm_middle
abbrev tG:=@Nat.mul_le_mul
abbrev tH:=@Nat.add_sub_cancel_left
abbrev uC:=@Nat.add_comm
abbrev uD:=@List.take_append_drop
abbrev uE:=@Option.map_some
abbrev vT:=@Nat.lt_irrefl
abbrev vU:=@List.mem_of_getElem?
abbrev vV:=@List.getElem?_set
abbrev vW:=@List.all_eq_true
abbrev vX:=@Nat.sub_self
abbrev vY:=@Nat.succ_mul
abbrev vZ:=@Nat.sub_le
abbrev xu:=@Nat.pow_succ'
abbrev xy:=@Nat.lt_of_not_le
abbrev xz:=@List.map_replicate
abbrev xA:=@List.drop_zero
abbrev xB:=@Nat.lt_succ_iff_lt_or_eq
abbrev xC:=@Option.some.inj
abbrev xD:=@Nat.two_pow_add_eq_or_of_lt
abbrev yN:=@Nat.div_eq_of_lt
abbrev yO:=@Nat.mul_add
abbrev yP:=@Nat.mul_le_mul_left
abbrev yQ:=@Nat.lt_log2_self
abbrev yR:=@List.drop_of_length_le
abbrev yS:=@Nat.add_sub_cancel
abbrev Ah:=@List.getElem?_range
abbrev Ai:=@List.getElem_mem
abbrev Aj:=@List.drop_append_of_le_length
abbrev Ak:=@UInt8.toNat_ofNat'
abbrev BI:=@List.getElem?_set_ne
abbrev BJ:=@Nat.le_of_lt
abbrev BK:=@List.flatMap_cons
abbrev BL:=@List.take_length
abbrev BM:=@List.length_range
abbrev BN:=@Nat.not_lt
abbrev DK:=@List.filterMap_cons
abbrev DL:=@Nat.min_eq_right
abbrev DM:=@List.map_cons
abbrev DN:=@Array.getElem!_eq_getD
abbrev DO:=@List.getElem_of_mem
abbrev DP:=@List.replicate_succ'
abbrev DQ:=@List.replicate_succ
abbrev DR:=@Nat.pow_one
abbrev DT:=@Nat.div_add_mod
abbrev FT:=@Nat.blt_eq
abbrev FU:=@if_true
abbrev FV:=@Array.getElem?_eq_none
abbrev FW:=@Bool.or_eq_true
abbrev FY:=@Array.toList_inj
abbrev FZ:=@List.drop_append
abbrev F1:=@Nat.sub_zero
abbrev F2:=@Nat.log2_self_le
abbrev F3:=@List.map_map
abbrev F4:=@List.map_nil
abbrev F5:=@List.replicate_append_replicate
abbrev F6:=@Nat.and_two_pow_sub_one_eq_mod
abbrev F7:=@Nat.succ_pos
abbrev F8:=@Nat.pow_zero
abbrev F9:=@Classical.not_not
abbrev F_:=@Nat.lt_succ_self
abbrev IU:=@List.getElem?_of_mem
abbrev IV:=@Bool.not_eq_true'
abbrev IW:=@beq_iff_eq
abbrev IX:=@Nat.mod_one
abbrev IY:=@List.drop_take
abbrev IZ:=@List.set_append_right
abbrev I0:=@Nat.log2_eq_iff
abbrev I1:=@List.length_singleton
abbrev I2:=@List.replicate_zero
abbrev I3:=@Nat.shiftRight_eq_div_pow
abbrev I4:=@decide_eq_false
abbrev I5:=@Nat.le_log2
abbrev I6:=@Nat.le_div_iff_mul_le
abbrev I7:=@Nat.lt_succ_of_le
abbrev I8:=@Nat.pow_dvd_pow
abbrev I9:=@List.flatMap_append
abbrev I_:=@List.map_congr_left
abbrev L_:=@List.mem_filterMap
abbrev Ma:=@Nat.xor_lt_two_pow
abbrev Mb:=@List.any_eq_true
abbrev Mc:=@Nat.pow_mul
abbrev Md:=@Nat.mod_mul_right_div_self
abbrev Me:=@Nat.mod_mul
abbrev Mf:=@List.foldl_cons
abbrev Mg:=@List.take_take
abbrev Mh:=@List.set_append_left
abbrev Mi:=@List.set_set
abbrev Mj:=@Nat.pow_lt_pow_iff_right
abbrev Ml:=@Nat.le_of_lt_succ
abbrev Mm:=@Nat.le_of_not_lt
abbrev Mo:=@UInt8.toNat_inj
abbrev P8:=@cond_false
abbrev P9:=@List.nodup_append
abbrev P_:=@Option.some.injEq
abbrev P':=@List.mem_filter
abbrev Qa:=@Array.getElem?_eq_some_iff
abbrev Qb:=@Nat.or_comm
abbrev Qc:=@List.foldl_append
abbrev Qd:=@List.foldl_nil
abbrev Qe:=@List.countP_append
abbrev Qf:=@List.countP_cons
abbrev Qg:=@List.countP_map
abbrev Qh:=@List.mem_replicate
abbrev Qi:=@Nat.div_pos
abbrev Qj:=@Nat.lt_trans
abbrev Qk:=@Nat.eq_of_testBit_eq
abbrev Ql:=@Nat.min_le_left
abbrev Qm:=@List.take_add
abbrev Qn:=@Nat.div_lt_iff_lt_mul
abbrev Qo:=@Option.map_eq_some_iff
abbrev Qp:=@Nat.add_le_add_left
abbrev Qq:=@Nat.add_mul_div_left
abbrev Qr:=@Nat.mod_mod_of_dvd
abbrev Qt:=@Nat.add_mul_mod_self_left
abbrev Qu:=@Nat.mul_succ
abbrev Qv:=@Nat.mul_zero
abbrev Qw:=@Nat.dvd_refl
abbrev Qx:=@Int.le_refl
abbrev Qy:=@List.drop_left'
abbrev Qz:=@Int.toNat_natCast
abbrev QA:=@List.filter_append
abbrev WB:=@Nat.eq_of_beq_eq_true
abbrev WC:=@of_decide_eq_false
abbrev WE:=@List.nodup_cons
abbrev WG:=@Nat.ne_of_lt
abbrev WH:=@Array.getElem?_modify
abbrev WI:=@List.eq_nil_iff_forall_not_mem
abbrev WJ:=@Array.all_eq_true_iff_forall_mem
abbrev WK:=@List.size_toArray
abbrev WL:=@List.all_cons
abbrev WM:=@Nat.and_le_right
abbrev WN:=@List.getElem?_append
abbrev WO:=@List.nodup_range
abbrev WQ:=@Nat.lt_of_le_of_lt
abbrev WR:=@List.map_take
abbrev WS:=@List.map_drop
abbrev WT:=@Nat.min_le_right
abbrev WV:=@Nat.testBit_shiftRight
abbrev WW:=@Option.ne_none_iff_exists'
abbrev WY:=@List.take_append_of_le_length
abbrev WZ:=@List.Perm.append_left
abbrev W4:=@List.range_zero
abbrev W5:=@List.take_left'
abbrev W6:=@Array.getElem?_toList
abbrev W7:=@Nat.testBit_or
abbrev W8:=@Nat.testBit_two_pow
abbrev W9:=@Nat.testBit_two_pow_mul_add
abbrev W_:=@List.pairwise_iff_getElem
abbrev Xa:=@Array.mk.injEq
def J{α:Sort _}{a:α}:a=a:=rfl
variable {c x y:Code}{id:Nat}{w':World}
abbrev Env:=Nat->Value
def Env.set(ρ:Env)(d:Nat)(v:Value):Env:=λt=>bif Nat.beq t d then v else ρ t
def Env.put(ρ:Env):Option Nat->Value->Env
 |some d,v=>Env.set ρ d v
 |none,_=>ρ
def Env.ev(ρ:Env):Operand->Value
 | .tmp t=>ρ t
 | .const v=>v
 | .global g=> .pointer (some ⟨g,0,none⟩)
 | .func f=> .func (.func f) #[] #[]
def mF(a:Act):Env:=λt=>a.tmps.getD t undef
def qS(a:Act):a.eval=Env.ev (mF a):=by
 funext x;cases x<;>rfl
def bH(n:Nat):Option Nat->Bool
 |some d=>Nat.blt d n
 |none=>true
def I'{a b:Nat}(h: ¬a=b):Nat.beq a b=false:=by
 cases hb:Nat.beq a b with
 |false=>rfl
 |true=>exact absurd (WB hb) h
def size_put(a:Act)(d:Option Nat)(v:Value):(a.put d v).tmps.size=a.tmps.size:=by
 cases d<;>simp[Act.put]
def pe(a:Act)(d:Option Nat)(v:Value):(a.put d v).defers=a.defers:=by
 cases d<;>simp[Act.put]
def pf(a:Act)(d:Option Nat)(v:Value)(h:bH a.tmps.size d=true):mF (a.put d v)=Env.put (mF a) d v:=by
 cases d with
 |none=>rfl
 | some d=>
   funext t
   have hd:d<a.tmps.size:=by simpa [bH,FT] using h
   simp only[mF,Act.put,Env.put,Env.set,tD]
   by_cases e:t=d
   . subst e;simp[hd]
   . simp[I' e,Array.getElem?_setIfInBounds_ne (Ne.symm e)]
abbrev ia:=Exit->Env->World->Prop
def up(n:Nat)(K:ia):Exit->Act->World->Prop:=λe a w=>a.tmps.size=n/\a.defers=[]/\K e (mF a) w
def Z_(P:Program)(n:Nat)(c:Code)(K:ia)(ρ:Env)(w:World):Prop:=
 ∀a:Act,a.tmps.size=n->a.defers=[]->mF a=ρ->c.wp P (up n K) a w
def O(P:Program)(n:Nat)(all:Array Oper)(l:List Oper)(K:ia)(ρ:Env)(w:World):Prop:=
 ∀a:Act,a.tmps.size=n->a.defers=[]->mF a=ρ->wpList P all (up n K) l a w
def xE(next:Env->World->Prop)(K:ia):ia:=fun
 | .normal,ρ,w=>next ρ w
 |e,ρ,w=>K e ρ w
def Ga(id:Nat)(K:ia):ia:=fun
 | .exit a,ρ,w=>bif Nat.beq a id then K .normal ρ w else K (.exit a) ρ w
 |e,ρ,w=>K e ρ w
section
variable {P:Program}{n:Nat}{K K':ia}{ρ:Env}{w:World}
def Z_.mono(h:Z_ P n c K ρ w)(b: ∀e ρ w,K e ρ w->K' e ρ w):Z_ P n c K' ρ w:=
 λa h1 h2 d=>wp_mono (h a h1 h2 d) λ_ _ _ ⟨f,q2,g⟩=>⟨f,q2,b _ _ _ g⟩
def bY(h:Z_ P n x (xE (Z_ P n y K) K) ρ w):Z_ P n (.seq x y) K ρ w:=by
 intro a h1 h2 d;refine wp_seq (wp_mono (h a h1 h2 d) ?_);rintro e a' w' ⟨b,q2,c⟩;(cases e<;>first|exact c a' b q2 J|exact⟨b,q2,c⟩)
def aoV(M:Env->World->Prop){x y:Code}(h:Z_ P n x (xE M K) ρ w)(hm: ∀ρ w,M ρ w->Z_ P n y K ρ w):Z_ P n (.seq x y) K ρ w:=
 bY (h.mono λe ρ w q=>by cases e<;>first|exact hm _ _ q|exact q)
def a8(h:K .normal ρ w):Z_ P n .skip K ρ w:=λa h1 h2 b=>wp_skip ⟨h1,h2,by rw[b];exact h⟩
def ju(h:K .ret ρ w):Z_ P n .ret K ρ w:=λa h1 h2 b=>wp_ret ⟨h1,h2,by rw[b];exact h⟩
theorem jl(h:K (.exit id) ρ w):Z_ P n (.exit id) K ρ w:=λa h1 h2 b=>wp_exit ⟨h1,h2,by rw[b];exact h⟩
theorem aoW(h:K (.goto id) ρ w):Z_ P n (.goto id) K ρ w:=λa h1 h2 b=>wp_goto ⟨h1,h2,by rw[b];exact h⟩
theorem Al(h:Z_ P n c (Ga id K) ρ w):Z_ P n (.block id c) K ρ w:=by
 intro a h1 h2 f;refine wp_block (wp_mono (h a h1 h2 f) ?_);rintro e a' w' ⟨d,q2,b⟩
 cases e with
 | exit g=>
   simp only[Exit.inBlock]
   by_cases e:g=id
   . subst e;simp only[Ga,Nat.beq_refl,cond_true]at b;simp only[FU];exact⟨d,q2,b⟩
   . have:=I' e
     simp only[Ga,this,P8]at b;simp only[aj e];exact⟨d,q2,b⟩
 |_=>exact⟨d,q2,b⟩
theorem aoX(M:Env->World->Prop)(h:Z_ P n c (Ga id (xE M K)) ρ w)(hm: ∀ρ w,M ρ w->K .normal ρ w):Z_ P n (.block id c) K ρ w:=
 Al (h.mono λe ρ w q=>by
   cases e with
   | exit a=>
     simp only[Ga]at q ⊢
     cases hb:Nat.beq a id
     . rw[hb]at q;exact q
     . rw[hb]at q;exact hm _ _ q
   |normal=>exact hm _ _ q
   |_=>exact q)
def eY{c:Operand}{t:Bool}(d:Env.ev ρ c= .bool t)(f:t=true->Z_ P n x K ρ w)(g:t=false->Z_ P n y K ρ w):Z_ P n (.cond c x y) K ρ w:=by
 intro a h1 h2 b;refine wp_cond_split (t:=t) (by rw[qS,b];exact d) (λe=>f e a h1 h2 b) (λe=>g e a h1 h2 b)
def au{c:Operand}{p:Prop}[Decidable p](a:Env.ev ρ c= .bool (decide p))(b:p->Z_ P n x K ρ w)(d: ¬p->Z_ P n y K ρ w):Z_ P n (.cond c x y) K ρ w:=
 eY a (λh=>b (tE h)) (λh=>d (WC h))
def jv{c:Operand}(a:Env.ev ρ c= .bool true)(b:Z_ P n x K ρ w):Z_ P n (.cond c x y) K ρ w:=
 eY a (λ_=>b) (λh=>by cases h)
def gK{c:Operand}(a:Env.ev ρ c= .bool false)(b:Z_ P n y K ρ w):Z_ P n (.cond c x y) K ρ w:=
 eY a (λh=>by cases h) (λ_=>b)
theorem aoY{σ:Type}(Z9:σ->Env->World->Prop)(m:σ->Nat)(s:σ)(h:Z9 s ρ w)(round: ∀s ρ w,Z9 s ρ w->Z_ P n c (xE (λb7 w'=> ∃p,m p<m s/\Z9 p b7 w') K) ρ w):Z_ P n (.loop c) K ρ w:=by
 intro a h1 h2 q b k cs
 have key: ∀j s a w,m s=j->a.tmps.size=n->a.defers=[]->Z9 s (mF a) w->
     ∃e a' w',up n K e a' w'/\Arrives P (lone (b.at a (.code c:: .inLoop c::k)) cs w) b k cs e a' w':=by
   intro j
   induction j using Nat.strongRecOn with
   | _ j r=>
     intro s a w t h1 h2 u
     obtain⟨e,f,g,⟨i,q2,o⟩,d⟩:=round s _ w u a h1 h2 J b (.inLoop c::k) cs
     cases e with
     | normal=>
       obtain⟨p,v,y⟩:=o
       obtain⟨z,A,B,C,D⟩:=r (m p) (t▸v) p f g J i q2 y
       exact⟨z,A,B,C,.of_steps (Steps.trans d (.one step_inLoop)) D⟩
     |exit id=>exact⟨_,f,g,⟨i,q2,o⟩,.pass (x:= .inLoop c) J (λ_ _=> .inl (by simp)) d⟩
     |goto l=>exact⟨_,f,g,⟨i,q2,o⟩,.pass (x:= .inLoop c) J (λ_ _=> .inl (by simp)) d⟩
     |ret=>exact⟨_,f,g,⟨i,q2,o⟩,.pass (x:= .inLoop c) J (λ_ _=> .inl (by simp)) d⟩
     |panic ch=>exact⟨_,f,g,⟨i,q2,o⟩,.pass (x:= .inLoop c) J (λ_ _=> .inl (by simp)) d⟩
     |outgrown=>exact⟨_,f,g,⟨i,q2,o⟩,.pass (x:= .inLoop c) J (λ_ _=> .inl (by simp)) d⟩
 obtain⟨e,a',w',E,d⟩:=key _ s a w J h1 h2 (q▸h);exact⟨e,a',w',E,.of_steps (.one step_loop) d⟩
theorem fD{l:List Oper}(h:O P n l.toArray l K ρ w):Z_ P n (.region id l.toArray false) K ρ w:=
 λa h1 h2 b=>wp_region_lit (h a h1 h2 b)
def aJ{all:Array Oper}(h:K .normal ρ w):O P n all [] K ρ w:=λa h1 h2 b=>wpList_nil ⟨h1,h2,by rw[b];exact h⟩
variable {all:Array Oper}{rest:List Oper}{d:Option Nat}{op:Op}{ty:TypeId}{pos:String}{aV:Array Edge}
abbrev run(P:Program)(ρ:Env)(op:Op)(ty:TypeId)(w:World):Result Next:=(execOp (Env.ev ρ) {dst:=none,op:=op,type:=ty,pos:= "",after:= #[],guard:=none}).run P w
def rQ(ev:Operand->Value)(o:Oper):execOp ev o=execOp ev {dst:=none,op:=o.op,type:=o.type,pos:= "",after:= #[],guard:=none}:=by
 cases o;rfl
def gQ{v:Value}(b:run P ρ op ty w= .ok (.value v) w')(hd:bH n d=true)(h:O P n all rest K (Env.put ρ d v) w'):O P n all ({dst:=d,op:=op,type:=ty,pos:=pos,after:=aV,guard:=none}::rest) K ρ w:=by
 intro a h1 h2 c;refine wpList_step λK' e=>?_;simp only[Region.wanted,FU,Oper.wp];rw[qS,c,rQ];simp only[run]at b;rw[b];refine e _ _ (h _ (by rw[size_put,h1]) (by rw[pe,h2]) ?_);rw[pf a d v (by rw[h1];exact hd),c]
def adW(b:run P ρ op ty w= .ok .skip w')(hd:bH n d=true)(h:O P n all rest K (Env.put ρ d undef) w'):O P n all ({dst:=d,op:=op,type:=ty,pos:=pos,after:=aV,guard:=none}::rest) K ρ w:=by
 intro a h1 h2 c;refine wpList_step λK' e=>?_;simp only[Region.wanted,FU,Oper.wp];rw[qS,c,rQ];simp only[run]at b;rw[b];refine e _ _ (h _ (by rw[size_put,h1]) (by rw[pe,h2]) ?_);rw[pf a d undef (by rw[h1];exact hd),c]
def Mq{f:FuncId}{args:Array Value}(b:run P ρ op ty w= .ok (.enter f args) w')(hd:bH n d=true)(h:Calls P f args w' λe c=> ∃v,e= .returned v/\O P n all rest K (Env.put ρ d v) c):O P n all ({dst:=d,op:=op,type:=ty,pos:=pos,after:=aV,guard:=none}::rest) K ρ w:=by
 intro a h1 h2 g;refine wpList_step λK' i=>?_;simp only[Region.wanted,FU,Oper.wp];rw[qS,g,rQ];simp only[run]at b;rw[b];refine h.mono ?_;rintro e c ⟨v,rfl,j⟩;refine i _ _ (j _ (by rw[size_put,h1]) (by rw[pe,h2]) ?_);rw[pf a d v (by rw[h1];exact hd),g]
end
attribute [irreducible] Z_ O
section
variable {i:Nat}{o':Obj}
abbrev fT:=(Nat->Question->Nat)×Os×Array (Nat×ByteArray)
def DU(w:World):fT:=(w.tape,w.os,w.output)
abbrev aK:=Option Nat×Obj
abbrev TT:=TypeId×(Nat×Nat)
instance aIh:Coe TypeId TT:=⟨λn=>(n,(0,0))⟩
instance aIi(n:Nat):OfNat TT n:=⟨(n,(0,0))⟩
def C(l:List Value)(T:TT):Obj:=Obj.cells ⟨l⟩ T.1 T.2
structure H(r:fT)(w:World)(L:List aK):Prop where
 rest:DU w=r
 nodup:(L.filterMap (·.1)).Nodup
 fp: ∀b o,(some b,o)∈L->w.heap[b]? =some o
variable {r:fT}{w:World}{L L':List aK}{b:Nat}{l:List Value}{T:TT}{o:Obj}
def H.perm(h:H r w L)(hp:L.Perm L'):H r w L':=
 ⟨h.rest,(hp.filterMap _).nodup_iff.1 h.nodup,λb o hm=>h.fp b o (hp.mem_iff.2 hm)⟩
def dX{α:Type}:Nat->List α->List α
 |0,l=>l
 |_,[]=> []
 | i+1,x::l=>match dX i l with
   | []=> [x]
   |y::l'=>y::x::l'
def adX{α:Type}: ∀(i:Nat) (l:List α),l.Perm (dX i l)
 |0,l=> .refl _
 |i+1,[]=> .refl _
 | i+1,x::l=>by
  have h:=adX i l;simp only[dX];split
  . rename_i e;rw[e]at h;exact h.cons x
  rename_i y l' e;rw[e]at h;exact(h.cons x).trans (.swap _ _ _)
def H.mv(h:H r w L)(i:Nat):H r w (dX i L):=h.perm (adX i L)
def H.tail{e:aK}(h:H r w (e::L)):H r w L:=
 ⟨h.rest,by have:=h.nodup;cases he:e.1<;>simp[DK,he]at this<;>first|exact this|exact this.2,λb o hm=>h.fp b o (nq _ hm)⟩
def H.ghost(h:H r w L)(o:Obj):H r w ((none,o)::L):=
 ⟨h.rest,by simpa [DK] using h.nodup,λb o' hm=>by
   rcases nP.1 hm with e|hm
   . cases e
   . exact h.fp b o' hm⟩
def H.lt(h:H r w L)(hm:(some b,o)∈L):b<w.heap.size:=by
 have:=h.fp b o hm;rcases dq b w.heap.size with a|a
 . exact a
 rw[FV a]at this;cases this
def H.drew(h:H r w L):H r {w with drawn:=w.drawn+1} L:=⟨h.rest,h.nodup,h.fp⟩
def H.alloc(h:H r w L)(o:Obj):H r (w.alloc o) ((some w.heap.size,o)::L):=by
 refine⟨h.rest,?_,λb o' hm=>?_⟩
 . simp only[DK];refine WE.2 ⟨λhm=>?_,h.nodup⟩;obtain⟨⟨b,o'⟩,hm,e⟩:=L_.1 hm;simp only at e;subst e;exact vT _ (h.lt hm)
 rcases nP.1 hm with e|hm
 . cases e;show(w.heap.push o)[w.heap.size]? =some o;simp
 have:=h.lt hm;have e2:=h.fp b o' hm;show(w.heap.push o)[b]? =some o';rw[Array.getElem?_push,aj (WG this)];exact e2
def adY: ∀{L:List aK} {i j:Nat} {b:Nat} {o o':Obj},(L.filterMap (·.1)).Nodup->L[i]? =some (some b,o)->L[j]? =some (some b,o')->i=j
 | [],_,_,_,_,_,_,h,_=>by simp at h
 | (k,x)::L,i,j,b,o,o',c,hi,a=>by
  have d:(L.filterMap (·.1)).Nodup:=(by(cases k<;>simp[DK]at c<;>first|exact c|exact c.2));have f: ∀{q:Obj} {m:Nat},L[m]? =some (some b,q)->k≠some b:=(by intro q m hm e;subst e;simp only[DK,WE]at c;exact c.1 (L_.2 ⟨(some b,q),vU hm,J⟩))
  cases i with
  | zero=>
    cases j with
    |zero=>rfl
    |succ j=>simp at hi a;exact absurd hi.1 (f a)
  | succ i=>
    cases j with
    |zero=>simp at hi a;exact absurd a.1 (f hi)
    |succ j=>simp at hi a;rw[adY d hi a]
def aoZ{L:List aK}{k:Option Nat}{o:Obj}(hi:L[i]? =some (k,o)):(L.set i (k,o')).filterMap (·.1)=L.filterMap (·.1):=by
 induction L generalizing i with
 |nil=>simp at hi
 | cons x L a=>
   cases i with
   |zero=>simp at hi;subst hi;simp[DK]
   |succ i=>simp at hi;simp only[List.set_cons_succ,DK];rw[a hi]
def H.fF{o:Obj}(h:H r w L)(hi:L[i]? =some (some b,o))(d:DU w'=DU w)(hb:w'.heap[b]? =some o')(f: ∀k,k≠b->k<w.heap.size->w'.heap[k]? =w.heap[k]?):H r w' (L.set i (some b,o')):=by
 refine⟨d.trans h.rest,by rw[aoZ hi];exact h.nodup,λk q hm=>?_⟩;obtain⟨j,a⟩:=IU hm;rw[vV]at a;by_cases e:i=j
 . subst e;rw[ao J]at a;split at a
   . cases a;exact hb
   cases a
 rw[aj e]at a;have c:=vU a;have g:k≠b:=λl=>e (by subst l;exact adY h.nodup hi a);rw[f k g (h.lt c)];exact h.fp k q c
def ao0(w:World)(a:Addr)(u:Value)(k:Nat)(h:k≠a.block):(w.setCell a u).heap[k]? =w.heap[k]? :=by
 simp only[World.setCell,WH];rw[aj (Ne.symm h)]
def H.store(h:H r w L){i:Nat}(hi:L[i]? =some (some b,C l T)){q:Nat}(v:Value):H r (w.setCell ⟨b,q,none⟩ v) (L.set i (some b,C (l.set q v) T)):=by
 have hb:=h.fp b _ (vU hi);refine h.fF hi J ?_ (λk a _=>ao0 _ _ _ _ a);simp[World.setCell,WH,hb,C]
class Has(L:List aK)(b:Nat)(l:outParam (List Value))(T:outParam TT)(i:outParam Nat):Prop where
 at_:L[i]? =some (some b,C l T)
instance Has.head(b:Nat)(l:List Value)(T:TT)(L:List aK):Has ((some b,C l T)::L) b l T 0:=⟨J⟩
instance (priority:=low) Has.tail(e:aK)(L:List aK)(b:Nat)(l:List Value)(T:TT)(i:Nat) [h:Has L b l T i]:Has (e::L) b l T (i+1):=⟨by simpa using h.at_⟩
def H.cell(h:H r w L){i:Nat}(hi:L[i]? =some (some b,C l T)){q:Nat}{v:Value}(a:l[q]? =some v):w.cell? ⟨b,q,none⟩=some v:=by
 have hb:=h.fp b _ (vU hi);simp[World.cell?,hb,a,C]
def H.free{T:TypeId}(h:H r w L){i:Nat}(hi:L[i]? =some (some b,C l T))(q:Nat):w.frozen? ⟨b,q,none⟩=false:=by
 have hb:=h.fp b _ (vU hi);simp[World.frozen?,hb,C]
class cu(P:Program)(T:TypeId)(d:outParam TypeDesc):Prop where
 eq:P.underlying T=some d
class One(P:Program)(T:TypeId):Prop where
 agg: ∀w,(isAgg T).run P w= .ok false w
 size: ∀w,(sizeOf T).run P w= .ok 1 w
class cU(P:Program)(T:TypeId)(f:Nat)(off:outParam Nat):Prop where
 at_: ∀(a:Addr) (w:World),(Instr.fieldAt T (.pointer (some a)) f).run P w= .ok (.pointer (some (a.add off))) w
class Body(P:Program)(f:FuncId):Prop where
 run: ∀(args:Array Value) (w:World),(callFunc f args).run P w= .ok (.enter f args) w
section
variable {P:Program}{n:Nat}{K:ia}{ρ:Env}{all:Array Oper}{rest:List Oper}{d:Option Nat}{ty:TypeId}{pos:String}{aV:Array Edge}
def v_{x:Operand}{a:Addr}(b:Env.ev ρ x= .pointer (some a)):run P ρ (.nilCheck x) ty w= .ok (.value (.pointer (some a))) w:=by
 simp[run,execOp,b]
def add_plain(b q k:Nat):(⟨b,q,none⟩:Addr).add k=⟨b,q+k,none⟩:=by
 unfold Addr.add;split
 . subst k;rfl
 rfl
def pg{T:TypeId}{f k:Nat}[a:cU P T f k]{x:Operand}{b q:Nat}(c:Env.ev ρ x= .pointer (some ⟨b,q,none⟩)):run P ρ (.fieldAddr T x f) ty w= .ok (.value (.pointer (some ⟨b,q+k,none⟩))) w:=by
 have:=a.at_ ⟨b,q,none⟩ w;rw[add_plain]at this;simp[run,execOp,c,this]
def run_load{T':TypeId}[h1:One P T']{x:Operand}{b q i:Nat}{l:List Value}{T:TT}{v:Value}(h:H r w L)(a:Env.ev ρ x= .pointer (some ⟨b,q,none⟩)) [hb:Has L b l T i](c:l[q]? =some v):run P ρ (.load T' x) ty w= .ok (.value v) w:=by
 have d:=h.cell hb.at_ c;have e:=h1.agg w;simp[run,execOp,a,Instr.loadAt,Instr.sureAddr,loadVar,e,load,Sem.run,d]
end
end
section
variable {t:Bool}{c:Operand}{p:Prop}{ds:TypeDesc}
def aN:IntKind->Nat
 | .i8=>127| .i16=>32767| .i32=>2147483647| .i64=>9223372036854775807
 | .u8=>255| .u16=>65535| .u32=>4294967295| .u64=>18446744073709551615
def uF(k:IntKind)(a:Nat)(h:a<=aN k):k.wrap (a:Int)=(a:Int):=by
 cases k<;>simp[aN]at h<;>simp[IntKind.wrap,IntKind.bits,IntKind.signed]<;>omega
def wrap_i64(x:Int)(a: -9223372036854775808<=x)(h:x<=9223372036854775807):IntKind.i64.wrap x=x:=by
 simp[IntKind.wrap,IntKind.bits,IntKind.signed];omega
def BP:IntKind->Bool
 | .u8| .u16| .u32| .u64=>true
 |_=>false
def QC(k:IntKind)(a:Nat)(h:BP k=true):k.wrap (a:Int)=((a % (aN k+1):Nat):Int):=by
 cases k<;>simp[BP]at h<;>simp[IntKind.wrap,IntKind.bits,IntKind.signed,aN]
def adZ(k:IntKind)(a b:Nat)(hb:b<=aN k+1)(h:BP k=true):k.wrap ((a:Int) -b)=(((a+(aN k+1) -b) % (aN k+1):Nat):Int):=by
 cases k<;>simp[BP]at h<;>simp[IntKind.wrap,IntKind.bits,IntKind.signed,aN]at* <;>omega
class av(x:Int)(a:outParam Nat):Prop where
 eq:x=(a:Int)
instance av.cast(a:Nat):av (a:Int) a:=⟨J⟩
instance av.lit(a:Nat):av (OfNat.ofNat a:Int) a:=⟨J⟩
variable {P:Program}{ρ:Env}{ty:TypeId}{w:World}{x y:Operand}{k:IntKind}{T T':TypeId}{u v:Int}{a b:Nat}
def ad5(op:BinOp)(t:TypeId)(x y:Operand)(k k':IntKind)(u v:Int):(eqGuard op t x y (.int k u) (.int k' v)).run P w= .ok () w:=by
 unfold eqGuard;split<;>simp
def lr(op:BinOp)(a:Env.ev ρ x= .int k u)(b:Env.ev ρ y= .int k v):run P ρ (.binOp op T x y T') ty w=(do let z<-binOp op T (.int k u) (.int k v);pure (Next.value z)).run P w:=by
 simp only[run,execOp,a,b];simp[ad5]
def eR(c:Env.ev ρ x= .int k u)(d:Env.ev ρ y= .int k v) [h1:av u a] [h2:av v b](hb:a+b<=aN k):run P ρ (.binOp .add T x y T') ty w= .ok (.value (.int k ((a+b:Nat):Int))) w:=by
 rw[lr _ c d,h1.eq,h2.eq];have:=uF k (a+b) hb;simp only[Int.natCast_add]at this ⊢;simp[binOp,Op.intArith,this]
def qj(c:Env.ev ρ x= .int k u)(d:Env.ev ρ y= .int k v) [h1:av u a] [h2:av v b](hu:BP k=true):run P ρ (.binOp .add T x y T') ty w= .ok (.value (.int k (((a+b) % (aN k+1):Nat):Int))) w:=by
 rw[lr _ c d,h1.eq,h2.eq,<-QC k _ hu];simp[binOp,Op.intArith,Int.natCast_add]
def jm(c:Env.ev ρ x= .int k u)(d:Env.ev ρ y= .int k v) [h1:av u a] [h2:av v b](hb:b<=a)(e:a<=aN k):run P ρ (.binOp .sub T x y T') ty w= .ok (.value (.int k ((a-b:Nat):Int))) w:=by
 rw[lr _ c d,h1.eq,h2.eq];have:=uF k (a-b) (by omega);rw[Int.ofNat_sub hb]at this ⊢;simp[binOp,Op.intArith,this]
def ao1(c:Env.ev ρ x= .int k u)(d:Env.ev ρ y= .int k v) [h1:av u a] [h2:av v b](hb:b<=aN k+1)(hu:BP k=true):run P ρ (.binOp .sub T x y T') ty w= .ok (.value (.int k (((a+(aN k+1) -b) % (aN k+1):Nat):Int))) w:=by
 rw[lr _ c d,h1.eq,h2.eq,<-adZ k _ _ hb hu];simp[binOp,Op.intArith]
def BQ(c:Env.ev ρ x= .int k u)(d:Env.ev ρ y= .int k v) [h1:av u a] [h2:av v b](hb:a*b<=aN k):run P ρ (.binOp .mul T x y T') ty w= .ok (.value (.int k ((a*b:Nat):Int))) w:=by
 rw[lr _ c d,h1.eq,h2.eq];have:=uF k (a*b) hb;simp only[Int.natCast_mul]at this ⊢;simp[binOp,Op.intArith,this]
def pT(c:Env.ev ρ x= .int k u)(d:Env.ev ρ y= .int k v) [h1:av u a] [h2:av v b](hu:BP k=true):run P ρ (.binOp .mul T x y T') ty w= .ok (.value (.int k (((a*b) % (aN k+1):Nat):Int))) w:=by
 rw[lr _ c d,h1.eq,h2.eq,<-QC k _ hu];simp[binOp,Op.intArith,Int.natCast_mul]
def Jb(a:Env.ev ρ x= .int .i64 u)(b:Env.ev ρ y= .int .i64 v)(c: -9223372036854775808<=u+v)(hb:u+v<=9223372036854775807):run P ρ (.binOp .add T x y T') ty w= .ok (.value (.int .i64 (u+v))) w:=by
 rw[lr _ a b];simp[binOp,Op.intArith,wrap_i64 _ c hb]
def pU(a:Env.ev ρ x= .int .i64 u)(b:Env.ev ρ y= .int .i64 v)(c: -9223372036854775808<=u-v)(hb:u-v<=9223372036854775807):run P ρ (.binOp .sub T x y T') ty w= .ok (.value (.int .i64 (u-v))) w:=by
 rw[lr _ a b];simp[binOp,Op.intArith,wrap_i64 _ c hb]
def nS(c:Env.ev ρ x= .int k u)(d:Env.ev ρ y= .int k v) [h1:av u a] [h2:av v b](hb:0<b)(f:a<=aN k):run P ρ (.binOp .quo T x y T') ty w= .ok (.value (.int k ((a/b:Nat):Int))) w:=by
 rw[lr _ c d,h1.eq,h2.eq];have g: ¬(b=0):=(by omega);have:=uF k (a/b) (aM (k6 a b) f);have e:(a:Int).tdiv (b:Int)=((a/b:Nat):Int):=(by simp[Int.tdiv]);simp only[Int.natCast_ediv]at this e ⊢;simp[binOp,Op.intDiv,g,e,this]
def BR(c:Env.ev ρ x= .int k u)(d:Env.ev ρ y= .int k v) [h1:av u a] [h2:av v b](hb:0<b):run P ρ (.binOp .rem T x y T') ty w= .ok (.value (.int k ((a % b:Nat):Int))) w:=by
 rw[lr _ c d,h1.eq,h2.eq];have f: ¬(b=0):=(by omega);have e:(a:Int).tmod (b:Int)=((a % b:Nat):Int):=(by simp[Int.tmod]);simp[binOp,Op.intDiv,f,e]
def ad6(a:Env.ev ρ x= .int k u)(b:Env.ev ρ y= .int k v)(c:v≠0):run P ρ (.binOp .rem T x y T') ty w= .ok (.value (.int k (u.tmod v))) w:=by
 rw[lr _ a b];simp[binOp,Op.intDiv,c]
def QD(c:Env.ev ρ x= .int k u)(d:Env.ev ρ y= .int k v) [h1:av u a] [h2:av v b]:run P ρ (.binOp .lss T x y T') ty w= .ok (.value (.bool (decide (a<b)))) w:=by
 rw[lr _ c d,h1.eq,h2.eq];simp[binOp,Op.intCmp]
def Xg(c:Env.ev ρ x= .int k u)(d:Env.ev ρ y= .int k v) [h1:av u a] [h2:av v b]:run P ρ (.binOp .leq T x y T') ty w= .ok (.value (.bool (decide (a<=b)))) w:=by
 rw[lr _ c d,h1.eq,h2.eq];simp[binOp,Op.intCmp]
def Mr(c:Env.ev ρ x= .int k u)(d:Env.ev ρ y= .int k v) [h1:av u a] [h2:av v b]:run P ρ (.binOp .gtr T x y T') ty w= .ok (.value (.bool (decide (b<a)))) w:=by
 rw[lr _ c d,h1.eq,h2.eq];simp[binOp,Op.intCmp]
def Xh(c:Env.ev ρ x= .int k u)(d:Env.ev ρ y= .int k v) [h1:av u a] [h2:av v b]:run P ρ (.binOp .geq T x y T') ty w= .ok (.value (.bool (decide (b<=a)))) w:=by
 rw[lr _ c d,h1.eq,h2.eq];simp[binOp,Op.intCmp]
def Ms(c:Env.ev ρ x= .int k u)(d:Env.ev ρ y= .int k v) [h1:av u a] [h2:av v b]:run P ρ (.binOp .eql T x y T') ty w= .ok (.value (.bool (decide (a=b)))) w:=by
 rw[lr _ c d,h1.eq,h2.eq];have e:((a:Int)==(b:Int))=decide (a=b):=(by by_cases h:a=b<;>simp[h]<;>omega);simp[binOp,Op.intCmp,e]
def Jc(c:Env.ev ρ x= .int k u)(d:Env.ev ρ y= .int k v) [h1:av u a] [h2:av v b]:run P ρ (.binOp .neq T x y T') ty w= .ok (.value (.bool (decide (¬a=b)))) w:=by
 rw[lr _ c d,h1.eq,h2.eq];have e:((a:Int) !=(b:Int))=decide (¬a=b):=(by by_cases h:a=b<;>simp[h]<;>omega);simp[binOp,Op.intCmp,e]
def rR(a:Env.ev ρ x= .int k u)(b:Env.ev ρ y= .int k v):run P ρ (.binOp .lss T x y T') ty w= .ok (.value (.bool (decide (u<v)))) w:=by
 rw[lr _ a b];simp[binOp,Op.intCmp]
def aIj(a:Env.ev ρ x= .int k u)(b:Env.ev ρ y= .int k v):run P ρ (.binOp .leq T x y T') ty w= .ok (.value (.bool (decide (u<=v)))) w:=by
 rw[lr _ a b];simp[binOp,Op.intCmp]
def Xi(a:Env.ev ρ x= .int k u)(b:Env.ev ρ y= .int k v):run P ρ (.binOp .gtr T x y T') ty w= .ok (.value (.bool (decide (v<u)))) w:=by
 rw[lr _ a b];simp[binOp,Op.intCmp]
def Am(a:Env.ev ρ x= .int k u)(b:Env.ev ρ y= .int k v):run P ρ (.binOp .geq T x y T') ty w= .ok (.value (.bool (decide (v<=u)))) w:=by
 rw[lr _ a b];simp[binOp,Op.intCmp]
def Mt(a:Env.ev ρ x= .int k u)(b:Env.ev ρ y= .int k v):run P ρ (.binOp .eql T x y T') ty w= .ok (.value (.bool (decide (u=v)))) w:=by
 rw[lr _ a b];have e:(u==v)=decide (u=v):=(by by_cases h:u=v<;>simp[h]);simp[binOp,Op.intCmp,e]
def Xj(a:Env.ev ρ x= .int k u)(b:Env.ev ρ y= .int k v):run P ρ (.binOp .neq T x y T') ty w= .ok (.value (.bool (decide (¬u=v)))) w:=by
 rw[lr _ a b];have e:(u !=v)=decide (¬u=v):=(by by_cases h:u=v<;>simp[h]);simp[binOp,Op.intCmp,e]
def DV(k:IntKind)(a:Nat)(h:a<=aN k):a<2^k.bits:=by
 cases k<;>simp[aN]at h<;>simp[IntKind.bits]<;>omega
def ao2(k:IntKind)(a b:Nat)(h:a<=aN k):a&&&b<=aN k:=aM Nat.and_le_left h
def Mu(k:IntKind)(a b:Nat)(h:a<=aN k)(c:b<=aN k):a|||b<=aN k:=by
 have: ∀m:Nat,aN k+1=2^m->a|||b<=aN k:=λm hm=>(by have h1:a<2^m:=(by omega);have h2:b<2^m:=(by omega);have:=Nat.or_lt_two_pow h1 h2;omega);cases k
 . exact this 7 J
 . exact this 15 J
 . exact this 31 J
 . exact this 63 J
 . exact this 8 J
 . exact this 16 J
 . exact this 32 J
 exact this 64 J
def ao3(k:IntKind)(a b:Nat)(h:a<=aN k)(c:b<=aN k):a^^^b<=aN k:=by
 have: ∀m:Nat,aN k+1=2^m->a^^^b<=aN k:=λm hm=>(by have h1:a<2^m:=(by omega);have h2:b<2^m:=(by omega);have:=Ma h1 h2;omega);cases k
 . exact this 7 J
 . exact this 15 J
 . exact this 31 J
 . exact this 63 J
 . exact this 8 J
 . exact this 16 J
 . exact this 32 J
 exact this 64 J
def yT(d:Env.ev ρ x= .int k u)(e:Env.ev ρ y= .int k v) [h1:av u a] [h2:av v b](c:a<=aN k)(hb:b<=aN k):run P ρ (.binOp .and T x y T') ty w= .ok (.value (.int k ((a&&&b:Nat):Int))) w:=by
 rw[lr _ d e,h1.eq,h2.eq];have:=uF k (a&&&b) (ao2 k a b c);simp[binOp,Op.intBits,BitVec.toNat_and,iV (DV k a c),iV (DV k b hb),this]
def fq(d:Env.ev ρ x= .int k u)(e:Env.ev ρ y= .int k v) [h1:av u a] [h2:av v b](c:a<=aN k)(hb:b<=aN k):run P ρ (.binOp .or T x y T') ty w= .ok (.value (.int k ((a|||b:Nat):Int))) w:=by
 rw[lr _ d e,h1.eq,h2.eq];have:=uF k (a|||b) (Mu k a b c hb);simp[binOp,Op.intBits,BitVec.toNat_or,iV (DV k a c),iV (DV k b hb),this]
def uG(d:Env.ev ρ x= .int k u)(e:Env.ev ρ y= .int k v) [h1:av u a] [h2:av v b](c:a<=aN k)(hb:b<=aN k):run P ρ (.binOp .xor T x y T') ty w= .ok (.value (.int k ((a^^^b:Nat):Int))) w:=by
 rw[lr _ d e,h1.eq,h2.eq];have:=uF k (a^^^b) (ao3 k a b c hb);simp[binOp,Op.intBits,BitVec.toNat_xor,iV (DV k a c),iV (DV k b hb),this]
variable {k':IntKind}
def Xk(op:BinOp)(b:Env.ev ρ x= .int k u)(c:Env.ev ρ y= .int k' v)(a:op= .shl\/op= .shr):run P ρ (.binOp op T x y T') ty w=(do let z<-Op.shift op k u k' v;pure (Next.value z)).run P w:=by
 rcases a with rfl|rfl<;>simp only[run,execOp,b,c]<;>simp[ad5,binOp]
def qT(f:Env.ev ρ x= .int k u)(g:Env.ev ρ y= .int k' v) [h1:av u a] [h2:av v b](h:a<=aN k):run P ρ (.binOp .shr T x y T') ty w= .ok (.value (.int k ((a/2^b:Nat):Int))) w:=by
 rw[Xk _ f g (.inr J),h1.eq,h2.eq];have i: ¬((b:Int)<0):=(by omega)
 have e:(a:Int).fdiv (2^min b k.bits)=((a/2^b:Nat):Int):=by
  have c:=DV k a h;have j:(a:Int).fdiv (2^min b k.bits)=((a/2^min b k.bits:Nat):Int):=(by have:=Int.natCast_ediv a (2^min b k.bits);rw[this,Int.fdiv_eq_ediv_of_nonneg _ (by exact_mod_cast cj _)];norm_cast);rw[j];by_cases hb:b<=k.bits
  . rw[l9 hb]
  have d:k.bits<=b:=(by omega);rw[DL d,yN c,yN (qN c (dF (by omega) d))]
 simp[Op.shift,i,e]
def eB(c:Env.ev ρ x= .int k u)(d:Env.ev ρ y= .int k' v) [h1:av u a] [h2:av v b](f:b<=k.bits)(hb:a*2^b<=aN k):run P ρ (.binOp .shl T x y T') ty w= .ok (.value (.int k ((a*2^b:Nat):Int))) w:=by
 rw[Xk _ c d (.inl J),h1.eq,h2.eq];have g: ¬((b:Int)<0):=(by omega);have:=uF k (a*2^b) hb;have e:((a*2^b:Nat):Int)=(a:Int)*2^b:=(by simp);rw[e]at this ⊢;simp[Op.shift,g,l9 f,this]
def DW(c:Env.ev ρ x= .int k u)(d:Env.ev ρ y= .int k' v) [h1:av u a] [h2:av v b](e:b<=k.bits)(hu:BP k=true):run P ρ (.binOp .shl T x y T') ty w= .ok (.value (.int k ((a*2^b % (aN k+1):Nat):Int))) w:=by
 rw[Xk _ c d (.inl J),h1.eq,h2.eq,<-QC k _ hu];have f: ¬((b:Int)<0):=(by omega);simp[Op.shift,f,l9 e]
def eZ[hs:cu P T ds] [b:cu P T' (.int k)](c:Env.ev ρ x= .int k' u) [h1:av u a](d:a<=aN k):run P ρ (.convert T T' x) ty w= .ok (.value (.int k (a:Int))) w:=by
 simp[run,execOp,c,convert,underlying,program,Sem.run,hs.eq,b.eq,Conv.intToInt,h1.eq,uF k a d]
def DX[hs:cu P T ds] [b:cu P T' (.int k)](c:Env.ev ρ x= .int k' u) [h1:av u a](hu:BP k=true):run P ρ (.convert T T' x) ty w= .ok (.value (.int k ((a % (aN k+1):Nat):Int))) w:=by
 simp[run,execOp,c,convert,underlying,program,Sem.run,hs.eq,b.eq,Conv.intToInt,h1.eq,QC k a hu]
def ad7[hs:cu P T ds] [a:cu P T' (.int k)](b:Env.ev ρ x= .int k' u):run P ρ (.convert T T' x) ty w= .ok (.value (.int k (k.wrap u))) w:=by
 simp[run,execOp,b,convert,underlying,program,Sem.run,hs.eq,a.eq,Conv.intToInt]
def k8(a:Env.ev ρ x= .bool t):run P ρ (.unOp .not T x) ty w= .ok (.value (.bool (!t))) w:=by
 simp[run,execOp,a,Op.unary]
def Xl[Decidable p](a:Env.ev ρ x= .bool (decide p)):run P ρ (.unOp .not T x) ty w= .ok (.value (.bool (decide (¬p)))) w:=by
 rw[k8 a];by_cases h:p<;>simp[h]
def Xm(a:Env.ev ρ x= .int .i64 u)(b: -9223372036854775807<=u)(hb:u<=9223372036854775807):run P ρ (.unOp .neg T x) ty w= .ok (.value (.int .i64 (-u))) w:=by
 simp[run,execOp,a,Op.unary,Op.intArith,wrap_i64 (-u) (by omega) (by omega)]
def ao4{va vb:Value}(a:Env.ev ρ c= .bool t)(b:Env.ev ρ x=va)(d:Env.ev ρ y=vb):run P ρ (.pick c x y) ty w= .ok (.value (if t then va else vb)) w:=by
 cases t<;>simp[run,execOp,a,b,d,asBool]
def aIk{q s:Prop}[Decidable p] [Decidable q] [Decidable s](a:Env.ev ρ c= .bool (decide p))(b:Env.ev ρ x= .bool (decide q))(d:Env.ev ρ y= .bool (decide s)):run P ρ (.pick c x y) ty w= .ok (.value (.bool (decide ((p/\q)\/(¬p/\s))))) w:=by
 rw[ao4 a b d];by_cases h:p<;>simp[h]
def int_eq{k:IntKind}{u v:Int}(h:u=v):Value.int k u=Value.int k v:=by rw[h]
end
variable {c:Act->World->Prop}{args:Array Value}{b want:Bool}{f:FuncId}{L:List aK}{i t:Nat}{oi oj:Oper}{r:fT}{w w0 w1:World}{S:World->Prop}
structure ft(w w':World):Prop where
 rest:DU w'=DU w
 size:w.heap.size<=w'.heap.size
 fp: ∀k,k<w.heap.size->w'.heap[k]? =w.heap[k]?
def ft.refl(w:World):ft w w:=⟨J,aW _,λ_ _=>rfl⟩
def ft.trans{a b c:World}(h:ft a b)(d:ft b c):ft a c:=
 ⟨d.rest.trans h.rest,aM h.size d.size,λk e=>(d.fp k (qN e h.size)).trans (h.fp k e)⟩
def H.keeps(h:H r w L)(a:ft w w'):H r w' L:=
 ⟨a.rest.trans h.rest,h.nodup,λb o hm=>(a.fp b (h.lt hm)).trans (h.fp b o hm)⟩
def ft.alloc(w:World)(o:Obj):ft w (w.alloc o):=by
 refine⟨J,?_,λk a=>?_⟩
 . show w.heap.size<=(w.heap.push o).size;simp
 show(w.heap.push o)[k]? =_;rw[Array.getElem?_push,aj (WG a)]
def H.full(h:H r w L): ∃g,H r w (L++g)/\ ∀w',H r w' (L++g)->ft w w':=by
 refine⟨((cL w.heap.size).filter λb=>!(L.filterMap (·.1)).contains b).map λb=>(some b,w.heap.getD b default),⟨h.rest,?_,λb o hm=>?_⟩,λw' d=>?_⟩
 . rw[List.filterMap_append,P9];refine⟨h.nodup,?_,λa l b hb e=>?_⟩
   . rw[List.filterMap_map];have:((λx:aK=>x.1)∘λb=>(some b,w.heap.getD b default))=λb=>some b:=rfl;rw[this];simp only[List.filterMap_some];exact List.nodup_range.filter _
   subst e;obtain⟨x,m,e⟩:=L_.1 hb;obtain⟨y,f,rfl⟩:=jS.1 m;simp only[P_]at e;subst e;have:=(P'.1 f).2;simp only[IV,List.contains_eq_mem,decide_eq_false_iff_not]at this;exact this l
 . rcases oX.1 hm with hm|hm
   . exact h.fp b o hm
   obtain⟨y,f,e⟩:=jS.1 hm;simp only[qO,P_]at e;obtain⟨rfl,rfl⟩:=e;have c:=oY.1 (P'.1 f).1;simp[c]
 have hb: ∀k,k<w.heap.size->w'.heap[k]? =w.heap[k]? :=λk i=>by
  by_cases j:k∈L.filterMap (·.1)
  . obtain⟨⟨k',o⟩,hm,e⟩:=L_.1 j;simp only at e;subst e;rw[d.fp k o (oX.2 (.inl hm)),h.fp k o hm]
  have hm:((some k,w.heap.getD k default):aK)∈L++(((cL w.heap.size).filter λb=>!(L.filterMap (·.1)).contains b).map λb=>((some b,w.heap.getD b default):aK)):=(by refine oX.2 (.inr (jS.2 ⟨k,P'.2 ⟨oY.2 i,?_⟩,J⟩));simp only[IV,List.contains_eq_mem,decide_eq_false_iff_not];exact j);rw[d.fp k _ hm];simp[i]
 refine⟨d.rest.trans h.rest.symm,?_,hb⟩;rcases dq w'.heap.size w.heap.size with c|n
 . have:=hb w'.heap.size c;rw[FV (aW _)]at this;simp[c]at this
 exact n
inductive Kd|p|c|g|h
 deriving DecidableEq
section
variable {P:Program}{ops:Array Oper}{Q:Exit->Act->World->Prop}{a:Act}{w:World}
def yl(P:Program)(ops:Array Oper)(S:World->Prop)(o:Oper)(v:Value)(a:Act):Prop:=
 (Region.wanted o (yielded ops a.tmps)=true/\ ∀w',S w'->(execOp a.eval o).run P w'= .ok (.value v) w')\/
 (Region.wanted o (yielded ops a.tmps)=false/\v=undef)
def yU(P:Program)(ops:Array Oper)(k:Kd)(o:Oper)(cont:Act->World->Prop)(a:Act)(w:World):Prop:=
 (Region.wanted o (yielded ops a.tmps)=true/\
   ((∃v w1,(execOp a.eval o).run P w= .ok (.value v) w1/\(k≠ .h->ft w w1)/\cont (a.put o.dst v) w1)\/
    (∃w1,(execOp a.eval o).run P w= .ok .skip w1/\(k≠ .h->ft w w1)/\cont (a.put o.dst undef) w1)\/
    (∃f args w0,(execOp a.eval o).run P w= .ok (.enter f args) w0/\Calls P f args w0 λe w1=> ∃v,e= .returned v/\(k≠ .h->ft w w1)/\cont (a.put o.dst v) w1)))\/
 (Region.wanted o (yielded ops a.tmps)=false/\cont (a.put o.dst undef) w)
inductive Ot
 |nil
 |cons (x:Nat×Kd) (t:Ot)
 |fork (s t:Ot)
def Ot.kQ:Ot->List (Nat×Kd)
 | .nil=> []
 | .cons x t=>x::t.kQ
 | .fork s _=>s.kQ
def Ot.yV:Ot->List Nat
 | .nil=> []
 | .cons x _=> [x.1]
 | .fork s t=>s.yV++t.yV
def Ot.del(j:Nat):Ot->Ot
 | .nil=> .nil
 | .cons x t=>if x.1=j then t else .cons x (t.del j)
 | .fork s t=>if j∈s.yV then s.del j else t.del j
def uH(P:Program)(ops:Array Oper)(Q:Exit->Act->World->Prop):Ot->Act->World->Prop
 | .nil,a,w=>Q .normal a w
 | .fork s t,a,w=>uH P ops Q s a w/\uH P ops Q t a w
 | .cons (i,k) rest,a,w=> ∃o,ops[i]? =some o/\match k with
   | .p=> ∃v,yl P ops (λ_=>True) o v a/\uH P ops Q rest (a.put o.dst v) w
   | .c=> ∃v,yl P ops (ft w) o v a/\uH P ops Q rest (a.put o.dst v) w
   |k=>yU P ops k o (uH P ops Q rest) a w
def QE{k:Kd}{o:Oper}{c':Act->World->Prop}(h:yU P ops k o c a w)(d: ∀v w1,(k≠ .h->ft w w1)->c (a.put o.dst v) w1->c' (a.put o.dst v) w1):yU P ops k o c' a w:=by
 rcases h with⟨hw,⟨v,w1,h1,h2,b⟩| ⟨w1,h1,h2,b⟩| ⟨f,args,w0,h1,h2⟩⟩| ⟨hw,b⟩
 . exact .inl ⟨hw,.inl ⟨v,w1,h1,h2,d _ _ h2 b⟩⟩
 . exact .inl ⟨hw,.inr (.inl ⟨w1,h1,h2,d _ _ h2 b⟩)⟩
 . exact .inl ⟨hw,.inr (.inr ⟨f,args,w0,h1,h2.mono λe w1 ⟨v,g,e2,i⟩=>⟨v,g,e2,d _ _ e2 i⟩⟩)⟩
 exact .inr ⟨hw,d _ _ (λ_=>ft.refl _) b⟩
def ad8{k:Kd}{o:Oper}(hi:ops[i]? =some o)(h:yU P ops k o c a w):wpOp P ops Q i c a w:=by
 unfold wpOp;simp only[hi];rcases h with⟨hw,h⟩| ⟨hw,h⟩
 . rw[ao hw];refine .inl ?_;unfold Oper.wp;rcases h with⟨v,w1,h1,_,b⟩| ⟨w1,h1,_,b⟩| ⟨f,args,w0,h1,h2⟩
   . rw[h1];exact b
   . rw[h1];exact b
   rw[h1];refine h2.mono ?_;rintro e w1 ⟨v,rfl,_,b⟩;exact b
 rw[aj (by simp[hw])];exact h
def ad9{k:Kd}{o:Oper}{v:Value}(h:yl P ops S o v a)(hs:S w)(b:c (a.put o.dst v) w):yU P ops k o c a w:=by
 rcases h with⟨hw,h⟩| ⟨hw,rfl⟩
 . exact .inl ⟨hw,.inl ⟨v,w,h w hs,λ_=>ft.refl _,b⟩⟩
 exact .inr ⟨hw,b⟩
def ad_(ops:Array Oper):Prop:= ∀(j:Nat) (o:Oper) cs b,ops[j]? =some o->o.op≠ .select cs b
def aea{k:Kd}{v:Value}(l: ∀cs b,oj.op≠ .select cs b)(m:oi.apart ops oj=true)(h:yU P ops k oj c (a.put oi.dst v) w):yU P ops k oj (λa' w1=>c (a'.put oi.dst v) w1) a w:=by
 obtain⟨h1,h2,q⟩:=Oper.apart_spec m;have n:=execOp_put (ops:=ops) oj l a oi.dst v h1;have e2:=wanted_put (ops:=ops) oj a oi.dst v h1;have i: ∀u,(a.put oi.dst v).put oj.dst u=(a.put oj.dst u).put oi.dst v:=λu=>Act.put_comm a v u h2;unfold yU at*;rw[n,e2]at h;rcases h with⟨hw,⟨u,w1,g,q2,d⟩| ⟨w1,g,q2,d⟩| ⟨f,args,w0,g,q2⟩⟩| ⟨hw,d⟩
 . exact .inl ⟨hw,.inl ⟨u,w1,g,q2,by rw[i]at d;exact d⟩⟩
 . exact .inl ⟨hw,.inr (.inl ⟨w1,g,q2,by rw[i]at d;exact d⟩)⟩
 . exact .inl ⟨hw,.inr (.inr ⟨f,args,w0,g,q2.mono λe w1 ⟨u,o,p,j⟩=>⟨u,o,p,by rw[i]at j;exact j⟩⟩)⟩
 exact .inr ⟨hw,by rw[i]at d;exact d⟩
def aeb{c:World->Prop}{v u:Value}(e: ∀cs b,oi.op≠ .select cs b)(f:oi.apart ops oj=true)(g: ∀w,c w->S w)(h:yl P ops S oi v a):yl P ops c oi v (a.put oj.dst u):=by
 obtain⟨h1,h2,d⟩:=Oper.apart_spec f;have i:=execOp_put (ops:=ops) oi e a oj.dst u d;have e2:=wanted_put (ops:=ops) oi a oj.dst u d;unfold yl at*;rw[i,e2];rcases h with⟨hw,h⟩|h
 . exact .inl ⟨hw,λw' j=>h w' (g w' j)⟩
 exact .inr h
def waits(ops:Array Oper)(j i:Nat):Bool:=
 match ops[j]? with
 |some oj=>oj.after.any λe=>Region.binds .any e&&e.on==i
 |none=>false
def we(ops:Array Oper):Nat->Nat->Nat->Bool
 |0,_,_=>false
 | f+1,j,i=>match ops[j]? with
   |some oj=>(oj.after.any λe=>Region.binds .any e&&e.on==i)|| (oj.after.any λe=>Region.binds .any e&&we ops f e.on i)
   |none=>false
def Xn(ops:Array Oper)(x y:Nat×Kd):Bool:=
 !waits ops x.1 y.1&&x.1 !=y.1&&
 (match x.2 with
  | .p=>waits ops y.1 x.1|| (match ops[x.1]?,ops[y.1]? with|some a,some b=>a.apart ops b|_,_=>false)
  | .c=>(waits ops y.1 x.1|| (match ops[x.1]?,ops[y.1]? with|some a,some b=>a.apart ops b|_,_=>false))&&(y.2 != .h||we ops 9 y.1 x.1)
  |_=>we ops 9 y.1 x.1)
def Xo(s t:List (Nat×Kd)):Bool:=W s==W t&&s.all (λx=>t.contains x)&&t.all (λx=>s.contains x)
def aec(ops:Array Oper)(hs:List Nat)(l:List (Nat×Kd)):Bool:=l.all λy=>hs.contains y.1||l.any λx=>we ops 9 y.1 x.1
def wg(ops:Array Oper):Bool->Ot->Bool
 |_,.nil=>true
 |f,.cons x t=>!waits ops x.1 x.1&&t.kQ.all (λy=>!waits ops x.1 y.1&&x.1 !=y.1)&&(f||t.kQ.all (Xn ops x))&&wg ops false t
 |f,.fork s t=>wg ops true s&&wg ops true t&&Xo s.kQ t.kQ&&(f||aec ops (s.yV++t.yV) s.kQ)
def Je(ops:Array Oper)(ord:Ot):Bool:=
 Region.noSelect ops&&ops.all (λo=>o.after.all λe=>Nat.blt e.on ops.size)&&(cL ops.size).all (λi=>ord.kQ.any (·.1==i))&&ord.kQ.all (λx=>Nat.blt x.1 ops.size)&&(W ord.kQ==ops.size)&&wg ops false ord
structure St(ops:Array Oper)(l:List (Nat×Kd))(listed:Array Bool):Prop where
 size:listed.size=ops.size
 left: ∀i,listed.getD i true=false↔ ∃k,(i,k)∈l
 down: ∀(j:Nat) (oj:Oper),ops[j]? =some oj->listed.getD j false=true-> ∀e∈oj.after,Region.binds .any e=true->listed.getD e.on false=true
 aed: ∀(j:Nat) (oj:Oper),ops[j]? =some oj-> ∀e∈oj.after,e.on<ops.size
def ao5{s t:List (Nat×Kd)}(h:Xo s t=true):W s=W t/\ ∀x,x∈s↔x∈t:=by
 simp only[Xo,oZ,IW,vW,List.contains_iff_mem]at h;exact⟨h.1.1,λx=>⟨h.1.2 x,h.2 x⟩⟩
def aee: ∀(t:Ot) (f:Bool),wg ops f t=true->t.kQ≠ []-> ∃x,x∈t.kQ/\ ∀y∈t.kQ,waits ops x.1 y.1=false
 | .nil,_,_,h=>absurd J h
 | .cons x t,f,h,_=>by
  simp only[wg,oZ,IV,vW]at h;refine⟨x,fQ ..,λy a=>?_⟩;rcases nP.1 a with rfl|a
  . exact h.1.1.1
  exact(h.1.1.2 y a).1
 | .fork s t,f,h,b=>by simp only[wg,oZ]at h;exact aee s true h.1.1.1 b
def swapT(C:ad_ ops){j:Nat}{k:Kd}{oj:Oper}(n:ops[j]? =some oj): ∀(t:Ot) (f:Bool),wg ops f t=true->(f=true->j∈t.yV)->(j,k)∈t.kQ->(∀x∈t.kQ,∀g,we ops g j x.1=false)->wg ops false (t.del j)=true/\(∀y,y∈(t.del j).kQ↔y∈t.kQ/\y.1≠j)/\W (t.del j).kQ+1=W t.kQ/\ ∀a w,uH P ops Q t a w->yU P ops k oj (uH P ops Q (t.del j)) a w
 | .nil,_,_,_,hm,_=>by cases hm
 | .fork s t,f,h,I,hm,B=>by
  simp only[wg,oZ,FW]at h;obtain⟨⟨⟨h1,h2⟩,K⟩,r⟩:=h;obtain⟨V,e2⟩:=ao5 K
  have X:j∈s.yV++t.yV:=by
   rcases r with r|r
   . exact I r
   simp only[aec,vW]at r;have:=r _ hm;simp only[FW,List.contains_iff_mem,Mb]at this;rcases this with d| ⟨x,D,d⟩
   . exact d
   rw[B x D]at d;cases d
  by_cases hs:j∈s.yV
  . obtain⟨g1,g2,G,g4⟩:=swapT C n s true h1 (λ_=>hs) hm B;have z:(Ot.fork s t).del j=s.del j:=ao hs;rw[z];exact⟨g1,g2,G,λa w hw=>g4 a w hw.1⟩
  have Y:j∈t.yV:=by
   rcases oX.1 X with q|q
   . exact absurd q hs
   exact q
  obtain⟨g1,g2,G,g4⟩:=swapT C n t true h2 (λ_=>Y) ((e2 _).1 hm) (λx D=>B x ((e2 x).2 D));have z:(Ot.fork s t).del j=t.del j:=aj hs;rw[z];exact⟨g1,λy=>(g2 y).trans (and_congr (e2 y).symm Iff.rfl),G.trans V.symm,λa w hw=>g4 a w hw.2⟩
 | .cons x t,f,h,I,hm,B=>by
  simp only[wg,oZ,FW,IV,bne_iff_ne,vW]at h;obtain⟨⟨⟨h1,h2⟩,K⟩,r⟩:=h;obtain⟨i,A⟩:=x;by_cases e:i=j
  . subst e;have z:(Ot.cons (i,A) t).del i=t:=ao J;have E: ∀y∈t.kQ,y.1≠i:=λy l e=>(h2 y l).2 e.symm
    have L:k=A:=by
     rcases nP.1 hm with q|q
     . cases q;rfl
     exact absurd J (E _ q)
    subst L;rw[z];refine⟨r,λy=>⟨λl=>⟨nq _ l,E y l⟩,λ⟨l,Z⟩=>?_⟩,J,λa w hw=>?_⟩
    . rcases nP.1 l with rfl|l
      . exact absurd J Z
      exact l
    obtain⟨o,N,hw⟩:=hw;rw[n]at N;cases N
    cases k with
    |p=>obtain⟨v,m,q2⟩:=hw;exact ad9 m trivial q2
    |c=>obtain⟨v,m,q2⟩:=hw;exact ad9 m (ft.refl w) q2
    |g=>exact hw
    |h=>exact hw
  have z:(Ot.cons (i,A) t).del j= .cons (i,A) (t.del j):=aj e
  have Jf:f=false:=by
   cases f with
   |false=>rfl
   |true=>have:=I J;simp only[Ot.yV,jT]at this;exact absurd this.symm e
  subst Jf
  have F:(j,k)∈t.kQ:=by
   rcases nP.1 hm with q|q
   . cases q;exact absurd J e
   exact q
  have O: ∀y∈t.kQ,Xn ops (i,A) y=true:=by
   rcases K with q|q
   . cases q
   exact q
  obtain⟨g1,g2,G,g4⟩:=swapT C n t false r (λq=>by cases q) F (λx D=>B x (nq _ D));have hp:=O _ F;have H: ∀g,we ops g j i=false:=B (i,A) (fQ ..)
  have R:waits ops j i=false:=by
   cases hw:waits ops j i with
   |false=>rfl
   | true=>
     have:=H 1
     simp only[waits,n]at hw
     simp only[we,n,hw,Bool.true_or]at this
     cases this
  simp only[Xn,oZ]at hp;rw[z];refine⟨?_,?_,?_,?_⟩
  . simp only[wg,oZ,FW,IV,bne_iff_ne,vW];exact⟨⟨⟨h1,λy l=>h2 y ((g2 y).1 l).1⟩,.inr λy l=>O y ((g2 y).1 l).1⟩,g1⟩
  . intro y;simp only[Ot.kQ,nP,g2];constructor
    . rintro(rfl| ⟨m,q2⟩)
      . exact⟨.inl J,e⟩
      exact⟨.inr m,q2⟩
    rintro⟨rfl|m,q2⟩
    . exact .inl J
    exact .inr ⟨m,q2⟩
  . simp only[Ot.kQ,dL];omega
  intro a w hw;obtain⟨oi,hi,hw⟩:=hw;have S:=λcs b=>C i oi cs b hi;have T:=λcs b=>C j oj cs b n
  cases A with
  | p=>
    have U:oi.apart ops oj=true:=by
      have d:=hp.2;simp only[R,hi,n,Bool.false_or]at d;exact d
    obtain⟨v,m,q2⟩:=hw
    refine QE (aea T U (g4 (a.put oi.dst v) w q2)) λu w1 _ M=>?_
    exact⟨oi,hi,v,aeb S U (λ_ _=>trivial) m,M⟩
  | c=>
    have d:=hp.2
    simp only[R,hi,n,Bool.false_or,oZ,H,Bool.or_false,bne_iff_ne,ne_eq]at d
    obtain⟨v,m,q2⟩:=hw
    refine QE (aea T d.1 (g4 (a.put oi.dst v) w q2)) λu w1 L M=>?_
    exact⟨oi,hi,v,aeb S d.1 (λw' yW=>(L d.2).trans yW) m,M⟩
  |g=>have:=hp.2;simp only[H]at this;cases this
  |h=>have:=hp.2;simp only[H]at this;cases this
def getD_or{listed:Array Bool}(hi:i<listed.size):listed.getD i false=true\/listed.getD i true=false:=by
 simp[hi]
def aef{listed:Array Bool}(down: ∀(j:Nat) (oj:Oper),ops[j]? =some oj->listed.getD j false=true-> ∀e∈oj.after,Region.binds .any e=true->listed.getD e.on false=true): ∀(f j i:Nat) (oj:Oper),ops[j]? =some oj->(∀e∈oj.after,Region.binds .any e=true->listed.getD e.on false=true)->we ops f j i=true->listed.getD i false=true
 |0,_,_,_,_,_,h=>by simp[we]at h
 | f+1,j,i,oj,d,b,h=>by
  simp only[we,d,FW,Array.any_eq_true',oZ,IW]at h;rcases h with⟨e,he,hb,rfl⟩| ⟨e,he,hb,hd⟩
  . exact b e he hb
  have g:=b e he hb
  cases a:ops[e.on]? with
  |none=>cases f<;>simp[we,a]at hd
  |some c=>exact aef down f e.on i c a (down e.on c a g) hd
def aeg(y:ad_ ops): ∀(n:Nat) (t:Ot) (listed:Array Bool) (a:Act) (w:World),W t.kQ=n->wg ops false t=true->St ops t.kQ listed->uH P ops Q t a w->wpAny P .any ops Q n listed a w
 | 0,t,listed,a,w,hlen,o,st,h=>by
  have he:t.kQ=[]:=k7.1 hlen
  have C: ∀t:Ot,t.kQ=[]->uH P ops Q t a w->Q .normal a w:=by
   intro t
   induction t with
   |nil=>exact λ_ h=>h
   |cons x t _=>intro e;cases e
   |fork s t D _=>exact λe h=>D e h.1
  refine⟨?_,C t he h⟩;refine WI.2 λj p=>?_;obtain⟨d,_⟩:=mem_ready.1 p;obtain⟨k,l⟩:=(st.left j).1 d;rw[he]at l;cases l
 | n+1,t,listed,a,w,hlen,o,st,h=>by
  constructor
  . intro E;exfalso;obtain⟨⟨i,k⟩,r,F⟩:=aee t false o (by intro e;rw[e]at hlen;simp at hlen);have d:=(st.left i).2 ⟨k,r⟩
    have u:i<ops.size:=by
     rcases dq i ops.size with b|b
     . exact b
     simp[FV,b,st.size]at d
    have hi:ops[i]? =some ops[i]:=(by simp[u])
    have:i∈Region.ready .any ops listed:=by
     refine mem_ready.2 ⟨d,ops[i],hi,λe he hb=>?_⟩;rcases getD_or (listed:=listed) (i:=e.on) (by rw[st.size];exact st.aed i _ hi e he)with h1|h1
     . exact h1
     exfalso;obtain⟨k',c⟩:=(st.left e.on).1 h1;have hw:waits ops i e.on=true:=(by simp only[waits,hi,Array.any_eq_true',oZ,IW];exact⟨e,he,hb,J⟩);rw[F _ c]at hw;cases hw
    rw[E]at this;cases this
  intro j p;obtain⟨d,oj,f,z⟩:=mem_ready.1 p;obtain⟨k,l⟩:=(st.left j).1 d
  have G: ∀x∈t.kQ,∀g,we ops g j x.1=false:=by
   intro x r g;have m:listed.getD x.1 true=false:=(st.left x.1).2 ⟨x.2,r⟩
   cases hd:we ops g j x.1 with
   |false=>rfl
   | true=>
     have:=aef st.down g j x.1 oj f z hd
     exfalso
     have u:x.1<listed.size:=by
       rcases dq x.1 listed.size with b|b
       . exact b
       . simp[FV b]at m
     simp[u]at this m
     rw[this]at m;cases m
  obtain⟨g1,g2,K,g4⟩:=swapT (P:=P) (Q:=Q) y f t false o (λq=>by cases q) l G;refine ad8 f (QE (g4 a w h) λv w1 _ H=>?_);have I:j<listed.size:=(by rw[st.size];exact(Qa.1 f).1);refine aeg y n (t.del j) _ _ _ (by omega) g1 ⟨by simp[st.size],λi=>?_,λi oi hi A e he hb=>?_,st.aed⟩ H
  . by_cases e:j=i
    . subst e;constructor
      . intro h;simp[I]at h
      rintro⟨k',c⟩;exact absurd J ((g2 _).1 c).2
    rw[getD_set_ne true e,st.left i];constructor
    . rintro⟨k',c⟩;exact⟨k',(g2 _).2 ⟨c,λq=>e q.symm⟩⟩
    rintro⟨k',c⟩;exact⟨k',((g2 _).1 c).1⟩
  by_cases B:j=i
  . subst B;rw[f]at hi;cases hi;exact getD_set_true (z e he hb)
  rw[getD_set_ne false B]at A;exact getD_set_true (st.down i oi hi A e he hb)
theorem ao6(ord:Ot)(hm:P.follows .mixedOrders=true)(g:Je ops ord=true)(h:uH P ops Q ord a {w with drawn:=w.drawn+1}):(Code.region id ops true).wp P Q a w:=by
 simp only[Je,oZ,IW]at g;obtain⟨⟨⟨⟨⟨b1,b2⟩,m⟩,n⟩,p⟩,q⟩:=g;have r: ∀x∈ord.kQ,x.1<ops.size:=λx f=>(by have:=vW.1 n x f;simpa [FT] using this);have s: ∀i,i<ops.size-> ∃k,(i,k)∈ord.kQ:=λi hi=>(by have:=vW.1 m i (oY.2 hi);obtain⟨x,f,e⟩:=Mb.1 this;simp only[IW]at e;exact⟨x.2,by rw[<-e];exact f⟩);refine wp_region_any hm (aeg (λj o cs b d=>Region.noSelect_spec b1 j o cs b d) ops.size ord _ _ _ p q ⟨by simp,λi=>?_,λj oj d l=>?_,λj oj d e he=>?_⟩ h)
 . constructor
   . intro hi;refine s i ?_;rcases dq i ops.size with c|c
     . exact c
     simp[FV,c]at hi
   rintro⟨k,t⟩;have:=r _ t;simp[this]
 . have:(Array.replicate ops.size false).getD j false=false:=(by rcases dq j ops.size with c|c<;>simp[c]);rw[this]at l;cases l
 have:=WJ.1 b2 oj (Array.mem_of_getElem? d);have:=WJ.1 this e he;simpa [FT] using this
variable {n:Nat}{K:ia}{ρ:Env}
def D(P:Program)(n:Nat)(ops:Array Oper)(ord:Ot)(K:ia)(ρ:Env)(w:World):Prop:=
 ∀a:Act,a.tmps.size=n->a.defers=[]->mF a=ρ->uH P ops (up n K) ord a w
theorem ao7(ord:Ot)(hm:P.follows .mixedOrders=true)(b:Je ops ord=true)(h:D P n ops ord K ρ {w with drawn:=w.drawn+1}):Z_ P n (.region id ops true) K ρ w:=by
 unfold Z_;exact λa h1 h2 c=>ao6 ord hm b (h a h1 h2 c)
def gR{s t:Ot}(hs:D P n ops s K ρ w)(c:D P n ops t K ρ w):D P n ops (.fork s t) K ρ w:=λa h1 h2 b=>⟨hs a h1 h2 b,c a h1 h2 b⟩
def cO(h:K .normal ρ w):D P n ops .nil K ρ w:=λa h1 h2 b=>⟨h1,h2,by rw[b];exact h⟩
variable {i:Nat}{rest:Ot}{d:Option Nat}{op:Op}{ty:TypeId}{pos:String}{aV:Array Edge}{v:Value}
def k9(hi:ops[i]? =some {dst:=d,op:=op,type:=ty,pos:=pos,after:=aV,guard:=none})(c: ∀w',run P ρ op ty w'= .ok (.value v) w')(hd:bH n d=true)(h:D P n ops rest K (Env.put ρ d v) w):D P n ops (.cons (i,.p) rest) K ρ w:=by
 intro a h1 h2 b;refine⟨_,hi,v,.inl ⟨by simp[Region.wanted],λw' _=>?_⟩,h _ (by rw[size_put,h1]) (by rw[pe,h2]) (by rw[pf a d v (by rw[h1];exact hd),b])⟩;rw[qS,b,rQ];exact c w'
def yZ(hi:ops[i]? =some {dst:=d,op:=op,type:=ty,pos:=pos,after:=aV,guard:=none})(e: ∀w',ft w w'->run P ρ op ty w'= .ok (.value v) w')(hd:bH n d=true)(h:D P n ops rest K (Env.put ρ d v) w):D P n ops (.cons (i,.c) rest) K ρ w:=by
 intro a h1 h2 b;refine⟨_,hi,v,.inl ⟨by simp[Region.wanted],λw' f=>?_⟩,h _ (by rw[size_put,h1]) (by rw[pe,h2]) (by rw[pf a d v (by rw[h1];exact hd),b])⟩;rw[qS,b,rQ];exact e w' f
def Gd{k:Kd}{o:Oper}(b:k= .g\/k= .h)(hi:ops[i]? =some o)(h: ∀a:Act,a.tmps.size=n->a.defers=[]->mF a=ρ->yU P ops k o (uH P ops (up n K) rest) a w):D P n ops (.cons (i,k) rest) K ρ w:=by
 intro a h1 h2 c;refine⟨o,hi,?_⟩;rcases b with rfl|rfl<;>exact h a h1 h2 c
def Xq(hi:ops[i]? =some {dst:=d,op:=op,type:=ty,pos:=pos,after:=aV,guard:=none})(c:run P ρ op ty w= .ok (.value v) w1)(e:ft w w1)(hd:bH n d=true)(h:D P n ops rest K (Env.put ρ d v) w1):D P n ops (.cons (i,.g) rest) K ρ w:=
 Gd (.inl J) hi λa h1 h2 b=> .inl ⟨by simp[Region.wanted],.inl ⟨v,w1,by rw[qS,b,rQ];exact c,λ_=>e,
   h _ (by rw[size_put,h1]) (by rw[pe,h2]) (by rw[pf a d v (by rw[h1];exact hd),b])⟩⟩
def Mw(hi:ops[i]? =some {dst:=d,op:=op,type:=ty,pos:=pos,after:=aV,guard:=none})(c:run P ρ op ty w= .ok (.value v) w1)(hd:bH n d=true)(h:D P n ops rest K (Env.put ρ d v) w1):D P n ops (.cons (i,.h) rest) K ρ w:=
 Gd (.inr J) hi λa h1 h2 b=> .inl ⟨by simp[Region.wanted],.inl ⟨v,w1,by rw[qS,b,rQ];exact c,λe=>absurd J e,
   h _ (by rw[size_put,h1]) (by rw[pe,h2]) (by rw[pf a d v (by rw[h1];exact hd),b])⟩⟩
def Xr(hi:ops[i]? =some {dst:=d,op:=op,type:=ty,pos:=pos,after:=aV,guard:=none})(c:run P ρ op ty w= .ok .skip w1)(hd:bH n d=true)(h:D P n ops rest K (Env.put ρ d undef) w1):D P n ops (.cons (i,.h) rest) K ρ w:=
 Gd (.inr J) hi λa h1 h2 b=> .inl ⟨by simp[Region.wanted],.inr (.inl ⟨w1,by rw[qS,b,rQ];exact c,λe=>absurd J e,
   h _ (by rw[size_put,h1]) (by rw[pe,h2]) (by rw[pf a d undef (by rw[h1];exact hd),b])⟩)⟩
def ao8(hi:ops[i]? =some {dst:=d,op:=op,type:=ty,pos:=pos,after:=aV,guard:=none})(c:run P ρ op ty w= .ok (.enter f args) w0)(hd:bH n d=true)(h:Calls P f args w0 λe w1=> ∃v,e= .returned v/\ft w w1/\D P n ops rest K (Env.put ρ d v) w1):D P n ops (.cons (i,.g) rest) K ρ w:=
 Gd (.inl J) hi λa h1 h2 b=> .inl ⟨by simp[Region.wanted],.inr (.inr ⟨f,args,w0,by rw[qS,b,rQ];exact c,h.mono λe w1 ⟨v,j,e2,k⟩=>⟨v,j,λ_=>e2,
   k _ (by rw[size_put,h1]) (by rw[pe,h2]) (by rw[pf a d v (by rw[h1];exact hd),b])⟩⟩)⟩
def Xs(hi:ops[i]? =some {dst:=d,op:=op,type:=ty,pos:=pos,after:=aV,guard:=none})(c:run P ρ op ty w= .ok (.enter f args) w0)(hd:bH n d=true)(h:Calls P f args w0 λe w1=> ∃v,e= .returned v/\D P n ops rest K (Env.put ρ d v) w1):D P n ops (.cons (i,.h) rest) K ρ w:=
 Gd (.inr J) hi λa h1 h2 b=> .inl ⟨by simp[Region.wanted],.inr (.inr ⟨f,args,w0,by rw[qS,b,rQ];exact c,h.mono λe w1 ⟨v,g,j⟩=>⟨v,g,λe=>absurd J e,
   j _ (by rw[size_put,h1]) (by rw[pe,h2]) (by rw[pf a d v (by rw[h1];exact hd),b])⟩⟩)⟩
def Xt{a:Act}{j:Nat}(d:(ops[j]?).bind (·.dst)=some t)(e:Nat.blt t a.tmps.size=true)(c:mF a t= .bool b):yielded ops a.tmps j=some b:=by
 have f:t<a.tmps.size:=(by simpa [FT] using e);have:a.tmps[t]? =some (.bool b):=(by simp only[mF,tD]at c;simp[f]at c ⊢;exact c);simp[yielded,d,this]
def ao9{g:Nat}{k:Kd}(hi:ops[i]? =some {dst:=d,op:=op,type:=ty,pos:=pos,after:=aV,guard:=some (g,want)})(f:(ops[g]?).bind (·.dst)=some t)(j:Nat.blt t n=true)(l:ρ t= .bool b)(hb:(b==want)=false)(hd:bH n d=true)(h:D P n ops rest K (Env.put ρ d undef) w):D P n ops (.cons (i,k) rest) K ρ w:=by
 intro a h1 h2 e;have hw:Region.wanted ({dst:=d,op:=op,type:=ty,pos:=pos,after:=aV,guard:=some (g,want)}:Oper) (yielded ops a.tmps)=false:=(by simp only[Region.wanted,Xt f (by rw[h1];exact j) (by rw[e];exact l)];cases b<;>cases want<;>simp at hb ⊢);have c:=h (a.put d undef) (by rw[size_put,h1]) (by rw[pe,h2]) (by rw[pf a d undef (by rw[h1];exact hd),e]);refine⟨_,hi,?_⟩;cases k
 . exact⟨undef,.inr ⟨hw,J⟩,c⟩
 . exact⟨undef,.inr ⟨hw,J⟩,c⟩
 . exact .inr ⟨hw,c⟩
 exact .inr ⟨hw,c⟩
def Jh{a:Act}{g:Nat}(b:(ops[g]?).bind (·.dst)=some t)(c:Nat.blt t a.tmps.size=true)(e:mF a t= .bool want):Region.wanted ({dst:=d,op:=op,type:=ty,pos:=pos,after:=aV,guard:=some (g,want)}:Oper) (yielded ops a.tmps)=true:=by
 simp only[Region.wanted,Xt b c e];simp
def dz{g:Nat}(hi:ops[i]? =some {dst:=d,op:=op,type:=ty,pos:=pos,after:=aV,guard:=some (g,want)})(c:(ops[g]?).bind (·.dst)=some t)(e:Nat.blt t n=true)(f:ρ t= .bool want)(j: ∀w',run P ρ op ty w'= .ok (.value v) w')(hd:bH n d=true)(h:D P n ops rest K (Env.put ρ d v) w):D P n ops (.cons (i,.p) rest) K ρ w:=by
 intro a h1 h2 b;refine⟨_,hi,v,.inl ⟨Jh c (by rw[h1];exact e) (by rw[b];exact f),λw' _=>?_⟩,h _ (by rw[size_put,h1]) (by rw[pe,h2]) (by rw[pf a d v (by rw[h1];exact hd),b])⟩;rw[qS,b,rQ];exact j w'
def qk{g:Nat}(hi:ops[i]? =some {dst:=d,op:=op,type:=ty,pos:=pos,after:=aV,guard:=some (g,want)})(e:(ops[g]?).bind (·.dst)=some t)(f:Nat.blt t n=true)(j:ρ t= .bool want)(k: ∀w',ft w w'->run P ρ op ty w'= .ok (.value v) w')(hd:bH n d=true)(h:D P n ops rest K (Env.put ρ d v) w):D P n ops (.cons (i,.c) rest) K ρ w:=by
 intro a h1 h2 b;refine⟨_,hi,v,.inl ⟨Jh e (by rw[h1];exact f) (by rw[b];exact j),λw' l=>?_⟩,h _ (by rw[size_put,h1]) (by rw[pe,h2]) (by rw[pf a d v (by rw[h1];exact hd),b])⟩;rw[qS,b,rQ];exact k w' l
def ao_{g:Nat}(hi:ops[i]? =some {dst:=d,op:=op,type:=ty,pos:=pos,after:=aV,guard:=some (g,want)})(c:(ops[g]?).bind (·.dst)=some t)(j:Nat.blt t n=true)(k:ρ t= .bool want)(l:run P ρ op ty w= .ok (.enter f args) w0)(hd:bH n d=true)(h:Calls P f args w0 λe w1=> ∃v,e= .returned v/\ft w w1/\D P n ops rest K (Env.put ρ d v) w1):D P n ops (.cons (i,.g) rest) K ρ w:=
 Gd (.inl J) hi λa h1 h2 b=> .inl ⟨Jh c (by rw[h1];exact j) (by rw[b];exact k),.inr (.inr ⟨f,args,w0,by rw[qS,b,rQ];exact l,h.mono λe w1 ⟨v,m,e2,o⟩=>⟨v,m,λ_=>e2,
   o _ (by rw[size_put,h1]) (by rw[pe,h2]) (by rw[pf a d v (by rw[h1];exact hd),b])⟩⟩)⟩
end
attribute [irreducible] D
section
variable {ops:Array Oper}{u:Int}{k:IntKind}{a m:Nat}
variable {P:Program}{n:Nat}{K:ia}{ρ:Env}{all:Array Oper}{rest:List Oper}{d:Option Nat}{ty:TypeId}{pos:String}{aV:Array Edge}
variable {r:fT}{w:World}{L:List aK}{x y:Operand}{b q i:Nat}{l:List Value}{T T':TypeId}{v:Value}
def plain:Value->Bool
 | .agg _| .tuple _=>false
 |_=>true
def ao'{a:Addr}(b:plain v=true){u:Value}(c:w.cell? a=some u)(d:w.frozen? a=false):(storeCells a [v]).run P w= .ok () (w.setCell a v):=by
 have e:a.add 0=a:=(by simp[Addr.add]);cases v<;>simp[plain]at b<;>simp[storeCells,store,Sem.run,e,c,d]
def apa(a:plain v=true):v.cells= #[v]:=by cases v<;>simp[plain]at a<;>rfl
def run_store [h1:One P T'](h:H r w L)(c:Env.ev ρ x= .pointer (some ⟨b,q,none⟩)) [hb:Has L b l T i]{u:Value}(d:l[q]? =some u)(e:Env.ev ρ y=v)(a:plain v=true):run P ρ (.store T' x y) ty w= .ok .skip (w.setCell ⟨b,q,none⟩ v):=by
 have f:=h.cell hb.at_ d;have g:=h.free hb.at_ q;have hs:=h1.size w;have:=ao' (P:=P) a f g;simp[run,execOp,c,e,Instr.storeAt,Instr.sureAddr,storeVar,apa a,hs,this]
def ir [One P T'](h:H r w L)(a:Env.ev ρ x= .pointer (some ⟨b,q,none⟩)) [hb:Has L b l T i]{u:Value}(c:l[q]? =some u)(e:Env.ev ρ y=v)(f:plain v=true)(hd:bH n d=true)(g: ∀w',H r w' (L.set i (some b,C (l.set q v) T))->O P n all rest K (Env.put ρ d undef) w'):O P n all ({dst:=d,op:= .store T' x y,type:=ty,pos:=pos,after:=aV,guard:=none}::rest) K ρ w:=
 adW (run_store h a c e f) hd (g _ (h.store hb.at_ v))
def xF{rest:Ot}[One P T'](hi:ops[m]? =some {dst:=d,op:= .store T' x y,type:=ty,pos:=pos,after:=aV,guard:=none})(h:H r w L)(a:Env.ev ρ x= .pointer (some ⟨b,q,none⟩)) [hb:Has L b l T i]{u:Value}(c:l[q]? =some u)(e:Env.ev ρ y=v)(f:plain v=true)(hd:bH n d=true)(g: ∀w',H r w' (L.set i (some b,C (l.set q v) T))->D P n ops rest K (Env.put ρ d undef) w'):D P n ops (.cons (m,.h) rest) K ρ w:=
 Xr hi (run_store h a c e f) hd (g _ (h.store hb.at_ v))
class Sz(P:Program)(T:TypeId)(s:outParam Nat):Prop where
 size: ∀w,(sizeOf T).run P w= .ok s w
def QI [hu:cu P T (.slice T')]{s:Nat} [hs:Sz P T' s]{ad:Option Addr}{len cap:Nat}{k:IntKind}{u:Int}{a:Nat}(c:Env.ev ρ x= .slice ad len cap)(d:Env.ev ρ y= .int k u) [h1:av u a](e:ad=some ⟨b,q,none⟩)(f:a<len):run P ρ (.indexAddr T x y) ty w= .ok (.value (.pointer (some ⟨b,q+a*s,none⟩))) w:=by
 subst e;have g:(0:Int)<=(a:Int)/\(a:Int)<(len:Int):=(by omega);have e2:=hs.size w;simp[run,execOp,c,d,h1.eq,Instr.indexAt,asIntOf,underlying,program,Sem.run,hu.eq,f,e2,add_plain]
def Xu{len s:Nat}[hu:cu P T (.array len T')] [hs:Sz P T' s]{k:IntKind}{u:Int}{a:Nat}(c:Env.ev ρ x= .pointer (some ⟨b,q,none⟩))(d:Env.ev ρ y= .int k u) [h1:av u a](e:a<len):run P ρ (.indexAddr T x y) ty w= .ok (.value (.pointer (some ⟨b,q+a*s,none⟩))) w:=by
 have e2:=hs.size w;simp[run,execOp,c,d,h1.eq,Instr.indexAt,Instr.sureAddr,asIntOf,underlying,program,Sem.run,hu.eq,e,e2,add_plain]
def DY [hu:cu P T (.slice T')]{ad:Option Addr}{len cap:Nat}(a:Env.ev ρ x= .slice ad len cap):run P ρ (.call {callee:= .builtin .len,args:= #[x],argTypes:= #[T]}) ty w= .ok (.value (.int .i64 (len:Int))) w:=by
 simp[run,execOp,resolve,invoke,builtin,Builtin.len_,a,underlying,program,Sem.run,hu.eq,goInt]
def Ge [hu:cu P T (.slice T')]{ad:Option Addr}{len cap:Nat}(a:Env.ev ρ x= .slice ad len cap):run P ρ (.call {callee:= .builtin .cap,args:= #[x],argTypes:= #[T]}) ty w= .ok (.value (.int .i64 (cap:Int))) w:=by
 simp[run,execOp,resolve,invoke,builtin,Builtin.cap_,a,underlying,program,Sem.run,hu.eq,goInt]
def Ao{v:Int}{b:Nat}(c:Env.ev ρ x= .int k u)(d:Env.ev ρ y= .int k v) [h1:av u a] [h2:av v b]{ts:Array TypeId}:run P ρ (.call {callee:= .builtin .min,args:= #[x,y],argTypes:=ts}) ty w= .ok (.value (.int k ((min a b:Nat):Int))) w:=by
 simp[run,execOp,resolve,invoke,builtin,Builtin.min_,Builtin.min2,c,d,h1.eq,h2.eq,List.foldlM];split<;>omega
def Mx{v:Int}{b:Nat}(c:Env.ev ρ x= .int k u)(d:Env.ev ρ y= .int k v) [h1:av u a] [h2:av v b]{ts:Array TypeId}:run P ρ (.call {callee:= .builtin .max,args:= #[x,y],argTypes:=ts}) ty w= .ok (.value (.int k ((max a b:Nat):Int))) w:=by
 simp[run,execOp,resolve,invoke,builtin,Builtin.max_,Builtin.max2,c,d,h1.eq,h2.eq,List.foldlM];split<;>omega
def aIl{v:Int}(a:Env.ev ρ x= .int k u)(b:Env.ev ρ y= .int k v){ts:Array TypeId}:run P ρ (.call {callee:= .builtin .min,args:= #[x,y],argTypes:=ts}) ty w= .ok (.value (.int k (min u v))) w:=by
 simp[run,execOp,resolve,invoke,builtin,Builtin.min_,Builtin.min2,a,b,List.foldlM];split<;>omega
def Xv{v:Int}(a:Env.ev ρ x= .int k u)(b:Env.ev ρ y= .int k v){ts:Array TypeId}:run P ρ (.call {callee:= .builtin .max,args:= #[x,y],argTypes:=ts}) ty w= .ok (.value (.int k (max u v))) w:=by
 simp[run,execOp,resolve,invoke,builtin,Builtin.max_,Builtin.max2,a,b,List.foldlM];split<;>omega
def aeh{vs:Array Value}{k:Nat}(a:Env.ev ρ x= .tuple vs)(b:vs[k]? =some v):run P ρ (.extract x k) ty w= .ok (.value v) w:=by
 simp[run,execOp,a,Instr.extract,b]
def Ji[a:Body P f]{args:Array Operand}{ts:Array TypeId}:run P ρ (.call {callee:= .value (.func f),args:=args,argTypes:=ts}) ty w= .ok (.enter f (args.map (Env.ev ρ))) w:=by
 have:=a.run (args.map (Env.ev ρ)) w;simp[run,execOp,resolve,invoke,Env.ev,Deferred.ofValue];simpa using this
def Gf[Body P f]{args:Array Operand}{ts:Array TypeId}{vs:Array Value}(a:args.map (Env.ev ρ)=vs)(hd:bH n d=true)(h:Calls P f vs w λe w'=> ∃v,e= .returned v/\O P n all rest K (Env.put ρ d v) w'):O P n all ({dst:=d,op:= .call {callee:= .value (.func f),args:=args,argTypes:=ts},type:=ty,pos:=pos,after:=aV,guard:=none}::rest) K ρ w:=
 Mq Ji hd (a▸h)
def My{rest:Ot}[Body P f]{args:Array Operand}{ts:Array TypeId}{vs:Array Value}(hi:ops[m]? =some {dst:=d,op:= .call {callee:= .value (.func f),args:=args,argTypes:=ts},type:=ty,pos:=pos,after:=aV,guard:=none})(a:args.map (Env.ev ρ)=vs)(hd:bH n d=true)(h:Calls P f vs w λe w'=> ∃v,e= .returned v/\D P n ops rest K (Env.put ρ d v) w'):D P n ops (.cons (m,.h) rest) K ρ w:=
 Xs hi Ji hd (a▸h)
def Xw{rest:Ot}[Body P f]{args:Array Operand}{ts:Array TypeId}{vs:Array Value}(hi:ops[m]? =some {dst:=d,op:= .call {callee:= .value (.func f),args:=args,argTypes:=ts},type:=ty,pos:=pos,after:=aV,guard:=none})(a:args.map (Env.ev ρ)=vs)(hd:bH n d=true)(h:Calls P f vs w λe w'=> ∃v,e= .returned v/\ft w w'/\D P n ops rest K (Env.put ρ d v) w'):D P n ops (.cons (m,.g) rest) K ρ w:=
 ao8 hi Ji hd (a▸h)
def DZ(args:List Value):Env:=λt=>aa args t undef
def Xx(rs:List Nat)(ρ:Env):Value:=match rs with
 | [t]=>ρ t
 |ts=> .tuple (ts.map ρ).toArray
def Mz(rs:List Nat)(R:Ending->World->Prop):ia:=fun
 | .normal,ρ,w=>R (.returned (Xx rs ρ)) w
 | .ret,ρ,w=>R (.returned (Xx rs ρ)) w
 |_,_,_=>False
def aei(g:ResultVar->Sem Value)(f:Nat->Value)(a: ∀t,g (.tmp t)=pure (f t))(l:List Nat):List.mapM g (l.map ResultVar.tmp)=pure (l.map f):=by
 induction l with
 |nil=>rfl
 |cons x l b=>simp only[DM,List.mapM_cons,b,a];rfl
def aej(fn:Func)(rs:List Nat)(h:fn.results=(rs.map ResultVar.tmp).toArray)(tmps:Array Value):(results fn tmps).run P w= .ok (Xx rs (λt=>tmps.getD t undef)) w:=by
 simp only[results,h,List.mapM_toArray];rw[aei _ (λt=>tmps.getD t undef) (λ_=>rfl)]
 cases rs with
 |nil=>rfl
 | cons x l=>
   cases l with
   |nil=>rfl
   | cons y l=>
     refine cD (λv=>Result.ok v w) ?_
     show(if h:((x::y::l).map λt=>tmps.getD t undef).toArray.size=1 then _ else _)=_
     rw[dif_neg (by simp)];rfl
def rU{fn:Func}(i:P.funcs[f]? =some fn)(n:Nat)(j:fn.ntmps=n)(rs:List Nat)(d:fn.results=(rs.map ResultVar.tmp).toArray){c:Code}(hb:fn.body=some c){args:List Value}(k:Nat.ble (W args) n=true){R:Ending->World->Prop}(h:Z_ P n c (Mz rs R) (DZ args) w):Calls P f args.toArray w R:=by
 subst j;unfold Z_ at h;have l:W args<=fn.ntmps:=(by simpa using k);refine calls_of_wp i hb (wp_mono (h _ ?_ J ?_) ?_)
 . simp;omega
 . funext t;simp only[mF,DZ,tD,Array.getElem?_append,WK,List.getElem?_toArray];by_cases g:t<W args
   . simp[g]
   simp only[g,if_false];have:args[t]? =none:=gB (by omega);simp only[bX,this,Option.getD_none,Array.getElem?_replicate];split<;>rfl
 rintro e a w' ⟨m,q2,b⟩
 cases e with
 |normal=>exact⟨q2,_,aej fn rs d a.tmps,b⟩
 |ret=>exact⟨q2,_,aej fn rs d a.tmps,b⟩
 |_=>exact b.elim
end
variable {c:Code}{u:Int}{k:IntKind}{ds es:List (Nat×Nat)}{d m:Nat}{x:Operand}{P:Program}{p:Prop}{ty:TypeId}
def sO:List (Nat×Nat)->Nat->Bool
 | [],_=>false
 | (a,b)::l,t=>(Nat.ble a t&&Nat.ble t b)||sO l t
def dP(b7 ρ:Env)(ds:List (Nat×Nat)):Prop:= ∀t,sO ds t=false->b7 t=ρ t
def ql(ds:List (Nat×Nat))(b7 ρ:Env):Env:=λt=>bif sO ds t then b7 t else ρ t
def dP.refl(ρ:Env)(ds:List (Nat×Nat)):dP ρ ρ ds:=λ_ _=>rfl
def dP.mix(ds:List (Nat×Nat))(b7 ρ:Env):dP (ql ds b7 ρ) ρ ds:=λt h=>by simp[ql,h]
def dP.set{b7 ρ:Env}{v:Value}(hd:sO ds d=true)(h:dP b7 ρ ds):dP (Env.set b7 d v) ρ ds:=λt a=>by
 simp only[Env.set];rw[I' (λe=>by subst e;rw[hd]at a;cases a)];exact h t a
def dP.put{b7 ρ:Env}{v:Value}(hd:sO ds d=true)(h:dP b7 ρ ds):dP (Env.put b7 (some d) v) ρ ds:=dP.set hd h
def dP.QJ{b7 ρ:Env}{v:Value}(h:dP b7 ρ ds):dP (Env.put b7 none v) ρ ds:=h
def MA(es ds:List (Nat×Nat)):Bool:=es.all λe=>ds.any λd=>Nat.ble d.1 e.1&&Nat.ble e.2 d.2
def apc(h:MA es ds=true){t:Nat}(a:sO es t=true):sO ds t=true:=by
 induction es with
 |nil=>simp[sO]at a
 | cons e es c=>
   obtain⟨g,e2⟩:=e
   simp only[MA,WL,oZ]at h
   simp only[sO,FW,oZ]at a
   rcases a with a|a
   . obtain⟨d,hd,f⟩:=Mb.1 h.1
     simp only[oZ,Nat.ble_eq]at f a
     clear c h
     induction ds with
     |nil=>cases hd
     | cons x xs b=>
       obtain⟨i,j⟩:=x
       simp only[sO,FW,oZ,Nat.ble_eq]
       rcases nP.1 hd with rfl|hd
       . left;simp only at f;omega
       . right;exact b hd
   . exact c (by simpa [MA] using h.2) a
def dP.aek{mW b7 ρ:Env}(hs:MA es ds=true)(h:dP b7 ρ ds):dP (ql es mW b7) ρ ds:=λt a=>by
 have:sO es t=false:=by
  cases e:sO es t with
  |false=>rfl
  |true=>rw[apc hs e]at a;cases a
 simp only[ql,this];exact h t a
def dP.Jj{b7 ρ:Env}(h:dP b7 ρ ds):ql ds b7 ρ=b7:=by
 funext t
 cases e:sO ds t with
 |true=>simp[ql,e]
 |false=>simp[ql,e,h t e]
def Env.QK(ρ:Env):List (Nat×Value)->Env
 | []=>ρ
 | (t,v)::l=>Env.set (Env.QK ρ l) t v
def QL(ρ:Env):List (Nat×Value)->Prop
 | []=>True
 | (t,v)::l=>ρ t=v/\QL ρ l
def Env.BS{ρ:Env}{v:Value}(h:ρ t=v):Env.set ρ t v=ρ:=by
 funext i;simp only[Env.set];by_cases e:i=t
 . subst e;simp[h]
 rw[I' e];rfl
def Env.known{ρ:Env}: ∀{l:List (Nat×Value)},QL ρ l->Env.QK ρ l=ρ
 | [],_=>rfl
 | (t,v)::l,h=>by simp only[Env.QK];rw[Env.known h.2,Env.BS h.1]
def Kn(ρ:Env)(l:List (Nat×Value)):Prop:= ∃a,ρ=Env.QK a l
def Kn.mk{ρ:Env}{l:List (Nat×Value)}(h:QL ρ l):Kn ρ l:=⟨ρ,(Env.known h).symm⟩
section
variable {P:Program}{n:Nat}{K:ia}{ρ:Env}{w:World}
def cW(ds:List (Nat×Nat))(M:Env->World->Prop){x y:Code}(h:Z_ P n x (xE (λb7 w'=>dP b7 ρ ds/\M b7 w') K) ρ w)(hm: ∀b7 w',M b7 w'->Z_ P n y K (ql ds b7 ρ) w'):Z_ P n (.seq x y) K ρ w:=
 aoV _ h λb7 w' ⟨a,b⟩=>by rw[<-a.Jj];exact hm b7 w' b
theorem kp(ds:List (Nat×Nat))(M:Env->World->Prop)(h:Z_ P n c (Ga id (xE (λb7 w'=>dP b7 ρ ds/\M b7 w') K)) ρ w)(hm: ∀b7 w',M b7 w'->K .normal (ql ds b7 ρ) w'):Z_ P n (.block id c) K ρ w:=
 aoX _ h λb7 w' ⟨a,b⟩=>by rw[<-a.Jj];exact hm b7 w' b
def cw{σ:Type}(ds:List (Nat×Nat))(Z9:σ->Env->World->Prop)(m:σ->Nat)(s:σ)(h:Z9 s ρ w)(round: ∀s b7 w',Z9 s b7 w'->Z_ P n c (xE (λb d=>dP b ρ ds/\ ∃a,m a<m s/\Z9 a b d) K) (ql ds b7 ρ) w'):Z_ P n (.loop c) K ρ w:=by
 refine aoY (λs b7 w'=>dP b7 ρ ds/\Z9 s b7 w') m s ⟨dP.refl _ _,h⟩ λs b7 w' ⟨f,g⟩=>?_;have:=round s b7 w' g;rw[f.Jj]at this;refine this.mono λe b d q=>?_
 cases e with
 |normal=>obtain⟨i,a,q2,j⟩:=q;exact⟨a,q2,i,j⟩
 |_=>exact q
variable {all:Array Oper}{rest:List Oper}{d:Option Nat}{op:Op}{ty:TypeId}{pos:String}{aV:Array Edge}
def eM[Decidable p]{l:List Oper}(a:ρ t= .bool (decide p))(h1:p->O P n all l K (Env.set ρ t (.bool true)) w)(h2: ¬p->O P n all l K (Env.set ρ t (.bool false)) w):O P n all l K ρ w:=by
 by_cases hp:p
 . have:=h1 hp;rwa [Env.BS (by rw[a];simp[hp])]at this
 have:=h2 hp;rwa [Env.BS (by rw[a];simp[hp])]at this
def xG{p:Bool}{l:List Oper}(a:ρ t= .bool p)(h1:p=true->O P n all l K (Env.set ρ t (.bool true)) w)(h2:p=false->O P n all l K (Env.set ρ t (.bool false)) w):O P n all l K ρ w:=by
 cases p
 . have:=h2 J;rwa [Env.BS a]at this
 have:=h1 J;rwa [Env.BS a]at this
def BU[Decidable p]{ord:Ot}(a:ρ t= .bool (decide p))(h1:p->D P n all ord K (Env.set ρ t (.bool true)) w)(h2: ¬p->D P n all ord K (Env.set ρ t (.bool false)) w):D P n all ord K ρ w:=by
 by_cases hp:p
 . have:=h1 hp;rwa [Env.BS (by rw[a];simp[hp])]at this
 have:=h2 hp;rwa [Env.BS (by rw[a];simp[hp])]at this
def ael{g:Nat}(e:(all[g]?).bind (·.dst)=some t)(f:Nat.blt t n=true)(i:ρ t= .bool b)(hb:(b==want)=false)(hd:bH n d=true)(h:O P n all rest K (Env.put ρ d undef) w):O P n all ({dst:=d,op:=op,type:=ty,pos:=pos,after:=aV,guard:=some (g,want)}::rest) K ρ w:=by
 unfold O at*;intro a h1 h2 c;have hw:Region.wanted ({dst:=d,op:=op,type:=ty,pos:=pos,after:=aV,guard:=some (g,want)}:Oper) (yielded all a.tmps)=false:=(by simp only[Region.wanted,Xt e (by rw[h1];exact f) (by rw[c];exact i)];cases b<;>cases want<;>simp at hb ⊢);refine wpList_step λK' j=>?_;rw[aj (by simp[hw])];exact j _ _ (h (a.put d undef) (by rw[size_put,h1]) (by rw[pe,h2]) (by rw[pf a d undef (by rw[h1];exact hd),c]))
def dI{g:Nat}{v:Value}(e:(all[g]?).bind (·.dst)=some t)(f:Nat.blt t n=true)(i:ρ t= .bool want)(c:run P ρ op ty w= .ok (.value v) w')(hd:bH n d=true)(h:O P n all rest K (Env.put ρ d v) w'):O P n all ({dst:=d,op:=op,type:=ty,pos:=pos,after:=aV,guard:=some (g,want)}::rest) K ρ w:=by
 unfold O at*;intro a h1 h2 b;have hw:Region.wanted ({dst:=d,op:=op,type:=ty,pos:=pos,after:=aV,guard:=some (g,want)}:Oper) (yielded all a.tmps)=true:=Jh e (by rw[h1];exact f) (by rw[b];exact i);refine wpList_step λK' j=>?_;rw[ao hw];simp only[Oper.wp];rw[qS,b,rQ];simp only[run]at c;rw[c];exact j _ _ (h (a.put d v) (by rw[size_put,h1]) (by rw[pe,h2]) (by rw[pf a d v (by rw[h1];exact hd),b]))
def Xy{g:Nat}[Body P f]{args:Array Operand}{ts:Array TypeId}{vs:Array Value}(i:(all[g]?).bind (·.dst)=some t)(j:Nat.blt t n=true)(k:ρ t= .bool want)(l:args.map (Env.ev ρ)=vs)(hd:bH n d=true)(h:Calls P f vs w λe w'=> ∃v,e= .returned v/\O P n all rest K (Env.put ρ d v) w'):O P n all ({dst:=d,op:= .call {callee:= .value (.func f),args:=args,argTypes:=ts},type:=ty,pos:=pos,after:=aV,guard:=some (g,want)}::rest) K ρ w:=by
 unfold O at*;intro a h1 h2 b;have hw:Region.wanted ({dst:=d,op:= .call {callee:= .value (.func f),args:=args,argTypes:=ts},type:=ty,pos:=pos,after:=aV,guard:=some (g,want)}:Oper) (yielded all a.tmps)=true:=Jh i (by rw[h1];exact j) (by rw[b];exact k);refine wpList_step λK' m=>?_;rw[ao hw];simp only[Oper.wp];rw[qS,b,rQ];have c:=Ji (P:=P) (ρ:=ρ) (ty:=ty) (w:=w) (f:=f) (args:=args) (ts:=ts);simp only[run]at c;rw[c];refine(l▸h).mono ?_;rintro e p ⟨v,rfl,o⟩;exact m _ _ (o (a.put d v) (by rw[size_put,h1]) (by rw[pe,h2]) (by rw[pf a d v (by rw[h1];exact hd),b]))
def Jk[Body P f] {ts:Array TypeId} (hd:bH n d=true)
 (h:Calls P f #[] w λe w'=> ∃v,e= .returned v/\O P n all rest K (Env.put ρ d v) w'):
 O P n all ({dst:=d,op:= .call {callee:= .value (.func f),args:= #[],argTypes:=ts},type:=ty,pos:=pos,after:=aV,guard:=none}::rest) K ρ w:=Gf (by simp) hd h
def d'[Body P f] {x0:Operand} {v0:Value} {ts:Array TypeId} (a:Env.ev ρ x0=v0) (hd:bH n d=true)
 (h:Calls P f #[v0] w λe w'=> ∃v,e= .returned v/\O P n all rest K (Env.put ρ d v) w'):
 O P n all ({dst:=d,op:= .call {callee:= .value (.func f),args:= #[x0],argTypes:=ts},type:=ty,pos:=pos,after:=aV,guard:=none}::rest) K ρ w:=Gf (by simp[a]) hd h
def qU{ord:Ot}[Body P f] {x0:Operand} {v0:Value} {ts:Array TypeId} (hi:all[m]? =some {dst:=d,op:= .call {callee:= .value (.func f),args:= #[x0],argTypes:=ts},type:=ty,pos:=pos,after:=aV,guard:=none}) (a:Env.ev ρ x0=v0) (hd:bH n d=true)
 (h:Calls P f #[v0] w λe w'=> ∃v,e= .returned v/\D P n all ord K (Env.put ρ d v) w'):
 D P n all (.cons (m,.h) ord) K ρ w:=My hi (by simp[a]) hd h
def BV{ord:Ot}[Body P f] {x0:Operand} {v0:Value} {ts:Array TypeId} (hi:all[m]? =some {dst:=d,op:= .call {callee:= .value (.func f),args:= #[x0],argTypes:=ts},type:=ty,pos:=pos,after:=aV,guard:=none}) (a:Env.ev ρ x0=v0) (hd:bH n d=true)
 (h:Calls P f #[v0] w λe w'=> ∃v,e= .returned v/\ft w w'/\D P n all ord K (Env.put ρ d v) w'):
 D P n all (.cons (m,.g) ord) K ρ w:=Xw hi (by simp[a]) hd h
def cJ[Body P f] {x0 a:Operand} {v0 v1:Value} {ts:Array TypeId} (b:Env.ev ρ x0=v0) (h1:Env.ev ρ a=v1) (hd:bH n d=true)
 (h:Calls P f #[v0,v1] w λe w'=> ∃v,e= .returned v/\O P n all rest K (Env.put ρ d v) w'):
 O P n all ({dst:=d,op:= .call {callee:= .value (.func f),args:= #[x0,a],argTypes:=ts},type:=ty,pos:=pos,after:=aV,guard:=none}::rest) K ρ w:=Gf (by simp[b,h1]) hd h
def lW{ord:Ot}[Body P f] {x0 a:Operand} {v0 v1:Value} {ts:Array TypeId} (hi:all[m]? =some {dst:=d,op:= .call {callee:= .value (.func f),args:= #[x0,a],argTypes:=ts},type:=ty,pos:=pos,after:=aV,guard:=none}) (b:Env.ev ρ x0=v0) (h1:Env.ev ρ a=v1) (hd:bH n d=true)
 (h:Calls P f #[v0,v1] w λe w'=> ∃v,e= .returned v/\D P n all ord K (Env.put ρ d v) w'):
 D P n all (.cons (m,.h) ord) K ρ w:=My hi (by simp[b,h1]) hd h
def BW{ord:Ot}[Body P f] {x0 a:Operand} {v0 v1:Value} {ts:Array TypeId} (hi:all[m]? =some {dst:=d,op:= .call {callee:= .value (.func f),args:= #[x0,a],argTypes:=ts},type:=ty,pos:=pos,after:=aV,guard:=none}) (b:Env.ev ρ x0=v0) (h1:Env.ev ρ a=v1) (hd:bH n d=true)
 (h:Calls P f #[v0,v1] w λe w'=> ∃v,e= .returned v/\ft w w'/\D P n all ord K (Env.put ρ d v) w'):
 D P n all (.cons (m,.g) ord) K ρ w:=Xw hi (by simp[b,h1]) hd h
def eS[Body P f] {x0 a b:Operand} {v0 v1 v2:Value} {ts:Array TypeId} (c:Env.ev ρ x0=v0) (h1:Env.ev ρ a=v1) (h2:Env.ev ρ b=v2) (hd:bH n d=true)
 (h:Calls P f #[v0,v1,v2] w λe w'=> ∃v,e= .returned v/\O P n all rest K (Env.put ρ d v) w'):
 O P n all ({dst:=d,op:= .call {callee:= .value (.func f),args:= #[x0,a,b],argTypes:=ts},type:=ty,pos:=pos,after:=aV,guard:=none}::rest) K ρ w:=Gf (by simp[c,h1,h2]) hd h
def Ar{ord:Ot}[Body P f] {x0 a b:Operand} {v0 v1 v2:Value} {ts:Array TypeId} (hi:all[m]? =some {dst:=d,op:= .call {callee:= .value (.func f),args:= #[x0,a,b],argTypes:=ts},type:=ty,pos:=pos,after:=aV,guard:=none}) (c:Env.ev ρ x0=v0) (h1:Env.ev ρ a=v1) (h2:Env.ev ρ b=v2) (hd:bH n d=true)
 (h:Calls P f #[v0,v1,v2] w λe w'=> ∃v,e= .returned v/\D P n all ord K (Env.put ρ d v) w'):
 D P n all (.cons (m,.h) ord) K ρ w:=My hi (by simp[c,h1,h2]) hd h
def D1{ord:Ot}[Body P f] {x0 a b:Operand} {v0 v1 v2:Value} {ts:Array TypeId} (hi:all[m]? =some {dst:=d,op:= .call {callee:= .value (.func f),args:= #[x0,a,b],argTypes:=ts},type:=ty,pos:=pos,after:=aV,guard:=none}) (c:Env.ev ρ x0=v0) (h1:Env.ev ρ a=v1) (h2:Env.ev ρ b=v2) (hd:bH n d=true)
 (h:Calls P f #[v0,v1,v2] w λe w'=> ∃v,e= .returned v/\ft w w'/\D P n all ord K (Env.put ρ d v) w'):
 D P n all (.cons (m,.g) ord) K ρ w:=Xw hi (by simp[c,h1,h2]) hd h
def wj[Body P f] {x0 a b c:Operand} {v0 v1 v2 v3:Value} {ts:Array TypeId} (g:Env.ev ρ x0=v0) (h1:Env.ev ρ a=v1) (h2:Env.ev ρ b=v2) (i:Env.ev ρ c=v3) (hd:bH n d=true)
 (h:Calls P f #[v0,v1,v2,v3] w λe w'=> ∃v,e= .returned v/\O P n all rest K (Env.put ρ d v) w'):
 O P n all ({dst:=d,op:= .call {callee:= .value (.func f),args:= #[x0,a,b,c],argTypes:=ts},type:=ty,pos:=pos,after:=aV,guard:=none}::rest) K ρ w:=Gf (by simp[g,h1,h2,i]) hd h
def apd{ord:Ot}[Body P f] {x0 a b c:Operand} {v0 v1 v2 v3:Value} {ts:Array TypeId} (hi:all[m]? =some {dst:=d,op:= .call {callee:= .value (.func f),args:= #[x0,a,b,c],argTypes:=ts},type:=ty,pos:=pos,after:=aV,guard:=none}) (g:Env.ev ρ x0=v0) (h1:Env.ev ρ a=v1) (h2:Env.ev ρ b=v2) (i:Env.ev ρ c=v3) (hd:bH n d=true)
 (h:Calls P f #[v0,v1,v2,v3] w λe w'=> ∃v,e= .returned v/\D P n all ord K (Env.put ρ d v) w'):
 D P n all (.cons (m,.h) ord) K ρ w:=My hi (by simp[g,h1,h2,i]) hd h
def D2[Body P f] {x0 a b c g:Operand} {v0 v1 v2 v3 v4:Value} {ts:Array TypeId} (i:Env.ev ρ x0=v0) (h1:Env.ev ρ a=v1) (h2:Env.ev ρ b=v2) (j:Env.ev ρ c=v3) (k:Env.ev ρ g=v4) (hd:bH n d=true)
 (h:Calls P f #[v0,v1,v2,v3,v4] w λe w'=> ∃v,e= .returned v/\O P n all rest K (Env.put ρ d v) w'):
 O P n all ({dst:=d,op:= .call {callee:= .value (.func f),args:= #[x0,a,b,c,g],argTypes:=ts},type:=ty,pos:=pos,after:=aV,guard:=none}::rest) K ρ w:=Gf (by simp[i,h1,h2,j,k]) hd h
def Xz[Body P f] {x0 a b c g i:Operand} {v0 v1 v2 v3 v4 j:Value} {ts:Array TypeId} (k:Env.ev ρ x0=v0) (h1:Env.ev ρ a=v1) (h2:Env.ev ρ b=v2) (l:Env.ev ρ c=v3) (m:Env.ev ρ g=v4) (o:Env.ev ρ i=j) (hd:bH n d=true)
 (h:Calls P f #[v0,v1,v2,v3,v4,j] w λe w'=> ∃v,e= .returned v/\O P n all rest K (Env.put ρ d v) w'):
 O P n all ({dst:=d,op:= .call {callee:= .value (.func f),args:= #[x0,a,b,c,g,i],argTypes:=ts},type:=ty,pos:=pos,after:=aV,guard:=none}::rest) K ρ w:=Gf (by simp[k,h1,h2,l,m,o]) hd h
def ape{ord:Ot}[Body P f] {x0 a b c g i:Operand} {v0 v1 v2 v3 v4 j:Value} {ts:Array TypeId} (hi:all[m]? =some {dst:=d,op:= .call {callee:= .value (.func f),args:= #[x0,a,b,c,g,i],argTypes:=ts},type:=ty,pos:=pos,after:=aV,guard:=none}) (k:Env.ev ρ x0=v0) (h1:Env.ev ρ a=v1) (h2:Env.ev ρ b=v2) (l:Env.ev ρ c=v3) (o:Env.ev ρ g=v4) (p:Env.ev ρ i=j) (hd:bH n d=true)
 (h:Calls P f #[v0,v1,v2,v3,v4,j] w λe w'=> ∃v,e= .returned v/\D P n all ord K (Env.put ρ d v) w'):
 D P n all (.cons (m,.h) ord) K ρ w:=My hi (by simp[k,h1,h2,l,o,p]) hd h
theorem aem(h:H r w L) {ops:Array Oper} {id:Nat} (ord:Ot) (hm:P.follows .mixedOrders=true) (a:Je ops ord=true)
 (b: ∀w',H r w' L->D P n ops ord K ρ w'):Z_ P n (.region id ops true) K ρ w:=ao7 ord hm a (b _ h.drew)
end
def run_move{ρ:Env}:run P ρ (.move x) ty w= .ok (.value (Env.ev ρ x)) w:=rfl
def run_assign{ρ:Env}:run P ρ (.assign x) ty w= .ok (.value (Env.ev ρ x)) w:=rfl
def QM{ρ:Env}(a:Nat)(b:Env.ev ρ x= .int k u)(hu:u=(a:Int)):run P ρ (.move x) ty w= .ok (.value (.int k (a:Int))) w:=by
 rw[run_move,b,hu]
def As{ρ:Env}(a:Nat)(b:Env.ev ρ x= .int k u)(hu:u=(a:Int)):run P ρ (.assign x) ty w= .ok (.value (.int k (a:Int))) w:=by
 rw[run_assign,b,hu]
section
variable {P:Program}{ρ:Env}{x y c:Operand}{ty:TypeId}{w:World}{r:fT}{L:List aK}{b q i:Nat}{l:List Value}{T T':TypeId}{va vb:Value}
def tJ(a:Env.ev ρ c= .bool true):run P ρ (.pick c x y) ty w= .ok (.value (Env.ev ρ x)) w:=by
 simp[run,execOp,a,asBool]
def wk(a:Env.ev ρ c= .bool false):run P ρ (.pick c x y) ty w= .ok (.value (Env.ev ρ y)) w:=by
 simp[run,execOp,a,asBool]
abbrev u8(x:UInt8):Value:= .int .u8 (x.toNat:Int)
abbrev i64(x:Int):Value:= .int .i64 x
def gX{D:List UInt8}{i:Nat}(h:i<W D):(D.map u8)[i]? =some (u8 (aa D i 0)):=by
 simp[h]
def y_{D:List Int}{i:Nat}(h:i<W D):(D.map i64)[i]? =some (i64 (aa D i 0)):=by
 simp[h]
def j8 [hu:cu P T (.slice T')] [hs:Sz P T' 1]{ad:Option Addr}{len cap:Nat}{k:IntKind}{u:Int}{a:Nat}(c:Env.ev ρ x= .slice ad len cap)(d:Env.ev ρ y= .int k u) [h1:av u a](e:ad=some ⟨b,0,none⟩)(f:a<len):run P ρ (.indexAddr T x y) ty w= .ok (.value (.pointer (some ⟨b,a,none⟩))) w:=by
 rw[QI c d e f];simp
def da [hu:cu P T (.slice T')] [hs:Sz P T' 1]{ad:Option Addr}{len cap:Nat}{k:IntKind}{u:Int}{a:Nat}(c:Env.ev ρ x= .slice ad len cap)(d:Env.ev ρ y= .int k u) [h1:av u a](e:ad=some ⟨b,q,none⟩)(f:a<len):run P ρ (.indexAddr T x y) ty w= .ok (.value (.pointer (some ⟨b,q+a,none⟩))) w:=by
 rw[QI c d e f];simp
def lu [hu:cu P T (.slice T')]{s:Nat} [hs:Sz P T' s]{ad:Option Addr}{len cap:Nat}{k:IntKind}{u:Int}{a:Nat}(c:Env.ev ρ x= .slice ad len cap)(d:Env.ev ρ y= .int k u) [h1:av u a](e:ad=some ⟨b,0,none⟩)(f:a<len):run P ρ (.indexAddr T x y) ty w= .ok (.value (.pointer (some ⟨b,a*s,none⟩))) w:=by
 rw[QI c d e f];simp
def oD{len:Nat}[hu:cu P T (.array len T')] [hs:Sz P T' 1]{k:IntKind}{u:Int}{a:Nat}(c:Env.ev ρ x= .pointer (some ⟨b,q,none⟩))(d:Env.ev ρ y= .int k u) [h1:av u a](e:a<len):run P ρ (.indexAddr T x y) ty w= .ok (.value (.pointer (some ⟨b,q+a,none⟩))) w:=by
 rw[Xu c d e];simp
def MB{len:Nat}[hu:cu P T (.array len T')] [hs:Sz P T' 1]{k:IntKind}{u:Int}{a:Nat}(c:Env.ev ρ x= .pointer (some ⟨b,0,none⟩))(d:Env.ev ρ y= .int k u) [h1:av u a](e:a<len):run P ρ (.indexAddr T x y) ty w= .ok (.value (.pointer (some ⟨b,a,none⟩))) w:=by
 rw[Xu c d e];simp
abbrev cR(x:Nat):Value:= .int .u64 (x:Int)
def Gg{D:List Nat}{i:Nat}(h:i<W D):(D.map cR)[i]? =some (cR (aa D i 0)):=by
 simp[h]
abbrev af(x:Nat):Value:= .int .i64 (x:Int)
def kq{D:List Nat}{i:Nat}(h:i<W D):(D.map af)[i]? =some (af (aa D i 0)):=by
 simp[h]
def dT(x:UInt8)(h:255<=aN k):x.toNat<=aN k:=by have:=x.toNat_lt;omega
def Jl{a b:Nat}(h:a=b):Ending.returned (.int k (a:Int))= .returned (.int k (b:Int)):=by rw[h]
def toNat_le(x:UInt8):x.toNat<=255:=by have:=x.toNat_lt;omega
end
def I{p:Prop}(h:p:=by omega):p:=h
def aG{p:Prop}(h:p:=by simp only[aN];omega):p:=h
def k_{p:Prop}(h:p:=by first| (simp only[aN];omega)|exact dT _ (by decide)|exact aM (k6 _ _) (by first| (simp only[aN];omega)|exact dT _ (by decide))|exact aM WM (by first| (simp only[aN];omega)|exact dT _ (by decide))|exact aM Nat.and_le_left (by first| (simp only[aN];omega)|exact dT _ (by decide))|exact Mu _ _ _ (by first| (simp only[aN];omega)|exact dT _ (by decide)) (by first| (simp only[aN];omega)|exact dT _ (by decide))):p:=h
def aA{α:Type}{a b:α}{l:List α}(h:a∈l):a∈b::l:=nq _ h
def bZ{α:Type}{a:α}{l:List α}:a∈a::l:=fQ ..
section
variable {P:Program}{n i:Nat}{K:ia}{ρ:Env}{w w':World}{all ops:Array Oper}{rest:List Oper}{ord:Ot}{d:Option Nat}{op:Op}{ty:TypeId}{pos:String}{aV:Array Edge}{v:Value}{x:Operand}{b q:Nat}{r:fT}{L:List aK}
def ak(a:run P ρ op ty w= .ok (.value v) w')(h:O P n all rest K (Env.put ρ d v) w')(hd:bH n d=true:=by rfl):O P n all ({dst:=d,op:=op,type:=ty,pos:=pos,after:=aV,guard:=none}::rest) K ρ w:=gQ a hd h
def dg(h:O P n all rest K (Env.put ρ d (Env.ev ρ x)) w)(hd:bH n d=true:=by rfl):O P n all ({dst:=d,op:= .move x,type:=ty,pos:=pos,after:=aV,guard:=none}::rest) K ρ w:=gQ run_move hd h
def ee(h:O P n all rest K (Env.put ρ d (Env.ev ρ x)) w)(hd:bH n d=true:=by rfl):O P n all ({dst:=d,op:= .assign x,type:=ty,pos:=pos,after:=aV,guard:=none}::rest) K ρ w:=gQ run_assign hd h
def aIm{k:IntKind}{u:Int}(a:Nat)(h:O P n all rest K (Env.put ρ d (.int k (a:Int))) w)(hu:u=(a:Int):=by exact(av.lit _).eq)(b:Env.ev ρ x= .int k u:=by rfl)(hd:bH n d=true:=by rfl):O P n all ({dst:=d,op:= .move x,type:=ty,pos:=pos,after:=aV,guard:=none}::rest) K ρ w:=gQ (QM a b hu) hd h
def aIn{k:IntKind}{u:Int}(a:Nat)(h:O P n all rest K (Env.put ρ d (.int k (a:Int))) w)(hu:u=(a:Int):=by exact(av.lit _).eq)(b:Env.ev ρ x= .int k u:=by rfl)(hd:bH n d=true:=by rfl):O P n all ({dst:=d,op:= .assign x,type:=ty,pos:=pos,after:=aV,guard:=none}::rest) K ρ w:=gQ (As a b hu) hd h
def qm{T:TypeId}{f k:Nat} [cU P T f k](a:Env.ev ρ x= .pointer (some ⟨b,q,none⟩))(h:O P n all rest K (Env.put ρ d (.pointer (some ⟨b,q+k,none⟩))) w)(hd:bH n d=true:=by rfl):O P n all ({dst:=d,op:= .fieldAddr T x f,type:=ty,pos:=pos,after:=aV,guard:=none}::rest) K ρ w:=gQ (pg a) hd h
def nk_{a:Addr}(b:Env.ev ρ x= .pointer (some a))(h:O P n all rest K (Env.put ρ d (.pointer (some a))) w)(hd:bH n d=true:=by rfl):O P n all ({dst:=d,op:= .nilCheck x,type:=ty,pos:=pos,after:=aV,guard:=none}::rest) K ρ w:=gQ (v_ b) hd h
def aX{T':TypeId} [One P T']{j:Nat}{l:List Value}{T:TT}(h:H r w L)(a:Env.ev ρ x= .pointer (some ⟨b,q,none⟩)) [Has L b l T j](c:l[q]? =some v)(e:O P n all rest K (Env.put ρ d v) w)(hd:bH n d=true:=by rfl):O P n all ({dst:=d,op:= .load T' x,type:=ty,pos:=pos,after:=aV,guard:=none}::rest) K ρ w:=gQ (run_load h a c) hd e
def aD(hi:ops[i]? =some {dst:=d,op:=op,type:=ty,pos:=pos,after:=aV,guard:=none})(a: ∀{w'},run P ρ op ty w'= .ok (.value v) w')(h:D P n ops ord K (Env.put ρ d v) w)(hd:bH n d=true:=by rfl):D P n ops (.cons (i,.p) ord) K ρ w:=k9 hi (λ_=>a) hd h
def lx(hi:ops[i]? =some {dst:=d,op:= .move x,type:=ty,pos:=pos,after:=aV,guard:=none})(h:D P n ops ord K (Env.put ρ d (Env.ev ρ x)) w)(hd:bH n d=true:=by rfl):D P n ops (.cons (i,.p) ord) K ρ w:=k9 hi (λ_=>run_move) hd h
def fG(hi:ops[i]? =some {dst:=d,op:= .assign x,type:=ty,pos:=pos,after:=aV,guard:=none})(h:D P n ops ord K (Env.put ρ d (Env.ev ρ x)) w)(hd:bH n d=true:=by rfl):D P n ops (.cons (i,.p) ord) K ρ w:=k9 hi (λ_=>run_assign) hd h
def XA{T:TypeId}{f k:Nat} [cU P T f k](hi:ops[i]? =some {dst:=d,op:= .fieldAddr T x f,type:=ty,pos:=pos,after:=aV,guard:=none})(a:Env.ev ρ x= .pointer (some ⟨b,q,none⟩))(h:D P n ops ord K (Env.put ρ d (.pointer (some ⟨b,q+k,none⟩))) w)(hd:bH n d=true:=by rfl):D P n ops (.cons (i,.p) ord) K ρ w:=k9 hi (λ_=>pg a) hd h
def aen{a:Addr}(hi:ops[i]? =some {dst:=d,op:= .nilCheck x,type:=ty,pos:=pos,after:=aV,guard:=none})(b:Env.ev ρ x= .pointer (some a))(h:D P n ops ord K (Env.put ρ d (.pointer (some a))) w)(hd:bH n d=true:=by rfl):D P n ops (.cons (i,.p) ord) K ρ w:=k9 hi (λ_=>v_ b) hd h
def aQ{T':TypeId} [One P T']{j:Nat}{l:List Value}{T:TT}(hi:ops[i]? =some {dst:=d,op:= .load T' x,type:=ty,pos:=pos,after:=aV,guard:=none})(h:H r w L)(e:Env.ev ρ x= .pointer (some ⟨b,q,none⟩)) [Has L b l T j](f:l[q]? =some v)(a:D P n ops ord K (Env.put ρ d v) w)(hd:bH n d=true:=by rfl):D P n ops (.cons (i,.c) ord) K ρ w:=yZ hi (λ_ a=>run_load (h.keeps a) e f) hd a
def oF_{g t:Nat}{want b:Bool}(a:(all[g]?).bind (·.dst)=some t)(c:Nat.blt t n=true)(e:ρ t= .bool b)(h:O P n all rest K (Env.put ρ d undef) w)(hb:(b==want)=false:=by rfl)(hd:bH n d=true:=by rfl):O P n all ({dst:=d,op:=op,type:=ty,pos:=pos,after:=aV,guard:=some (g,want)}::rest) K ρ w:=ael a c e hb hd h
def sq{c e:Code}(h:Z_ P n c (xE (Z_ P n e K) K) ρ w):Z_ P n (.seq c e) K ρ w:=bY h
def aS{b7:Env}{ds:List (Nat×Nat)}(h:dP b7 ρ ds:=by repeat(first|with_reducible exact dP.mix _ _ _|with_reducible exact dP.refl _ _|refine dP.put J ?_|refine dP.QJ ?_|refine dP.set J ?_|refine dP.aek J ?_)):dP b7 ρ ds:=h
def Ag(_:Nat)(b7 ρ:Env)(ds:List (Nat×Nat)):Prop:=dP b7 ρ ds
section
variable {m d:Nat}{v:Value}{mW b7 ρ:Env}{es ds:List (Nat×Nat)}
def apf:Ag 0 ρ ρ ds:=dP.refl _ _
def apg:Ag 0 (ql ds b7 ρ) ρ ds:=dP.mix _ _ _
def aph(h:Ag m b7 ρ ds)(hd:sO ds d=true):Ag (m+1) (Env.put b7 (some d) v) ρ ds:=dP.put hd h
def api(h:Ag m b7 ρ ds)(hd:sO ds d=true):Ag (m+1) (Env.set b7 d v) ρ ds:=dP.set hd h
def apj(h:Ag m b7 ρ ds):Ag (m+1) (Env.put b7 none v) ρ ds:=h
def apk(h:Ag m b7 ρ ds)(hs:MA es ds=true):Ag (m+1) (ql es mW b7) ρ ds:=dP.aek hs h
def Ag1(h:Ag m b7 ρ ds):dP b7 ρ ds:=h
attribute [irreducible] Ag
def aO(m:Nat)(h:Ag m b7 ρ ds:=by repeat(first| ((with_reducible apply aph);rotate_left;exact J)| (with_reducible apply apj)| ((with_reducible apply apk);rotate_left;exact J)| ((with_reducible apply api);rotate_left;exact J)|exact apf|exact apg)):dP b7 ρ ds:=Ag1 h
end
abbrev ah(b:Nat)(l:List Value)(T:TT):aK:=(some b,C l T)
abbrev bL(b:Nat):Value:= .pointer (some ⟨b,0,none⟩)
abbrev cK(b n c:Nat):Value:= .slice (some ⟨b,0,none⟩) n c
abbrev iW(n:Nat):Value:= .int .u8 ((n:Nat):Int)
abbrev D3(n:Nat):Value:= .int .u16 ((n:Nat):Int)
abbrev bR(n:Nat):Value:= .int .u32 ((n:Nat):Int)
theorem iN{x:Int}{a:Nat} [h:av x a]:av x a:=h
theorem iU{P:Program}{t:TypeId}{d:TypeDesc} [h:cu P t d]:cu P t d:=h
theorem iF{P:Program}{t:TypeId}{f o:Nat} [h:cU P t f o]:cU P t f o:=h
theorem iS{P:Program}{t:TypeId}{s:Nat} [h:Sz P t s]:Sz P t s:=h
theorem iO{P:Program}{t:TypeId} [h:One P t]:One P t:=h
theorem iH{L:List aK}{b:Nat}{l:List Value}{T:TT}{i:Nat} [h:Has L b l T i]:Has L b l T i:=h
def Rt:Ending->(Value->Prop)->Prop
 | .returned v,k=>k v
 |_,_=>False
inductive Bx|mk (p:Prop)
def Bx.o:Bx->Prop
 | .mk p=>p
def G(_:Nat)(q:Bx)(p:Prop):Prop:=q.o->p
theorem G0{p:Prop}:G 0 (.mk p) p:=id
def Gs{m:Nat}{q:Bx}{p s:Prop}(f:s->p)(x:G m q s):G (m+1) q p:=λk=>f (x k)
def Gt{m:Nat}{q:Bx}{p s:Prop}(f:s->p)(x:G m q s):G m q p:=λk=>f (x k)
def G1{m:Nat}{p q:Prop}(h:G m (.mk q) p)(k:q):p:=h k
attribute [irreducible] G
section
variable {P:Program}{n:Nat}{all ops:Array Oper}{rest:List Oper}{ord:Ot}{K:ia}{ρ:Env}{w:World}{d:Option Nat}{op:Op}{ty:TypeId}{pos:String}{aV:Array Edge}{i0:Nat}
def Ds(P:Program)(n:Nat)(ops:Array Oper)(o:Oper)(i:Nat)(k:Kd)(ord:Ot)(K:ia)(ρ:Env)(w:World):Prop:=ops[i]? =some o->D P n ops (.cons (i,k) ord) K ρ w
def Og(P:Program)(n:Nat)(all:Array Oper)(o:Oper)(g0:Nat)(want:Bool)(t:Nat)(a:Bool)(rest:List Oper)(K:ia)(ρ:Env)(w:World):Prop:=(all[g0]?).bind (·.dst)=some t->Nat.blt t n=true->ρ t= .bool a->O P n all (o::rest) K ρ w
variable {x y c0:Operand}{T T':TypeId}{k k':IntKind}{u v:Int}{a b q0 j len cap f:Nat}{l:List Value}{tt:TT}{ad:Option Addr}{Jm:Addr}{vs:Array Value}{val:Value}{ds:TypeDesc}{m:Nat}{q:Bx}{r:fT}{L:List aK}
def aeo{v:Value}{k:Value->Prop}(a:G m q (k v)):G m q (Rt (.returned v) k):=a
def aep{x y:Code}(a:G m q (Z_ P n x (xE (Z_ P n y K) K) ρ w)):G (m+1) q (Z_ P n (.seq x y) K ρ w):=Gs bY a
theorem aeq{id:Nat}{l:List Oper}(a:G m q (O P n l.toArray l K ρ w)):G (m+1) q (Z_ P n (.region id l.toArray false) K ρ w):=Gs fD a
theorem aer{id:Nat}{c:Code}(a:G m q (Z_ P n c (Ga id K) ρ w)):G (m+1) q (Z_ P n (.block id c) K ρ w):=Gs Al a
def aes(a:G m q (K .normal ρ w)):G (m+1) q (Z_ P n .skip K ρ w):=Gs a8 a
def apl{y:Code}(a:G m q (Z_ P n y K ρ w)):G (m+1) q (Z_ P n .skip (xE (Z_ P n y K) K) ρ w):=Gs (λk=>a8 k) a
def aet(a:G m q (K .ret ρ w)):G (m+1) q (Z_ P n .ret K ρ w):=Gs ju a
theorem aeu{id:Nat}(a:G m q (K (.exit id) ρ w)):G (m+1) q (Z_ P n (.exit id) K ρ w):=Gs jl a
def aev(a:G m q (K .normal ρ w)):G (m+1) q (O P n all [] K ρ w):=Gs aJ a
def apm{y:Code}(a:G m q (Z_ P n y K ρ w)):G (m+1) q (O P n all [] (xE (Z_ P n y K) K) ρ w):=Gs (λk=>aJ k) a
def apn(a:G m q (K .normal ρ w)):G (m+1) q (D P n ops .nil K ρ w):=Gs cO a
def aIo{y:Code}(a:G m q (Z_ P n y K ρ w)):G (m+1) q (D P n ops .nil (xE (Z_ P n y K) K) ρ w):=Gs (λk=>cO k) a
def apo{o:Oper}{a:Kd}(hi:ops[i0]? =some o)(b:G m q (Ds P n ops o i0 a ord K ρ w)):G m q (D P n ops (.cons (i0,a) ord) K ρ w):=Gt (λk=>k hi) b
def apq{g0 t:Nat}{want a:Bool}{b:Kd}(c:(ops[g0]?).bind (·.dst)=some t)(e:Nat.blt t n=true)(gc:ρ t= .bool a)(ge:(a==want)=false)(f:bH n d=true)(g:G m q (D P n ops ord K (Env.put ρ d undef) w)):G (m+1) q (Ds P n ops {dst:=d,op:=op,type:=ty,pos:=pos,after:=aV,guard:=some (g0,want)} i0 b ord K ρ w):=Gs (λh hi=>ao9 hi c e gc ge f h) g
def apr(a:bH n d=true)(b:G m q (O P n all rest K (Env.put ρ d (Env.ev ρ x)) w)):G (m+1) q (O P n all ({dst:=d,op:= .move x,type:=ty,pos:=pos,after:=aV,guard:=none}::rest) K ρ w):=Gs (λc=>gQ (run_move) a c) b
def aps(a:bH n d=true)(b:G m q (D P n ops ord K (Env.put ρ d (Env.ev ρ x)) w)):G (m+1) q (Ds P n ops {dst:=d,op:= .move x,type:=ty,pos:=pos,after:=aV,guard:=none} i0 .p ord K ρ w):=Gs (λc hi=>k9 hi (λw=>run_move) a c) b
def apt(a:bH n d=true)(b:G m q (O P n all rest K (Env.put ρ d (Env.ev ρ x)) w)):G (m+1) q (O P n all ({dst:=d,op:= .assign x,type:=ty,pos:=pos,after:=aV,guard:=none}::rest) K ρ w):=Gs (λc=>gQ (run_assign) a c) b
def apu(a:bH n d=true)(b:G m q (D P n ops ord K (Env.put ρ d (Env.ev ρ x)) w)):G (m+1) q (Ds P n ops {dst:=d,op:= .assign x,type:=ty,pos:=pos,after:=aV,guard:=none} i0 .p ord K ρ w):=Gs (λc hi=>k9 hi (λw=>run_assign) a c) b
def apv(g0:Env.ev ρ x= .pointer (some Jm))(a:bH n d=true)(b:G m q (O P n all rest K (Env.put ρ d (.pointer (some Jm))) w)):G (m+1) q (O P n all ({dst:=d,op:= .nilCheck x,type:=ty,pos:=pos,after:=aV,guard:=none}::rest) K ρ w):=Gs (λc=>gQ (v_ g0) a c) b
def apw(g0:Env.ev ρ x= .pointer (some Jm))(a:bH n d=true)(b:G m q (D P n ops ord K (Env.put ρ d (.pointer (some Jm))) w)):G (m+1) q (Ds P n ops {dst:=d,op:= .nilCheck x,type:=ty,pos:=pos,after:=aV,guard:=none} i0 .p ord K ρ w):=Gs (λc hi=>k9 hi (λw=>v_ g0) a c) b
def apx(g0:cU P T f j)(g1:Env.ev ρ x= .pointer (some ⟨b,q0,none⟩))(a:bH n d=true)(c:G m q (O P n all rest K (Env.put ρ d (.pointer (some ⟨b,q0+j,none⟩))) w)):G (m+1) q (O P n all ({dst:=d,op:= .fieldAddr T x f,type:=ty,pos:=pos,after:=aV,guard:=none}::rest) K ρ w):=Gs (λe=>gQ (pg g1) a e) c
def apy(g0:cU P T f j)(g1:Env.ev ρ x= .pointer (some ⟨b,q0,none⟩))(a:bH n d=true)(c:G m q (D P n ops ord K (Env.put ρ d (.pointer (some ⟨b,q0+j,none⟩))) w)):G (m+1) q (Ds P n ops {dst:=d,op:= .fieldAddr T x f,type:=ty,pos:=pos,after:=aV,guard:=none} i0 .p ord K ρ w):=Gs (λe hi=>k9 hi (λw=>pg g1) a e) c
def apz(g0:One P T')(g1:H r w L)(g2:Env.ev ρ x= .pointer (some ⟨b,q0,none⟩))(f:Has L b l tt j)(g4:l[q0]? =some val)(a:bH n d=true)(c:G m q (O P n all rest K (Env.put ρ d (val)) w)):G (m+1) q (O P n all ({dst:=d,op:= .load T' x,type:=ty,pos:=pos,after:=aV,guard:=none}::rest) K ρ w):=Gs (λe=>gQ (run_load g1 g2 g4) a e) c
def apA(g0:One P T')(g1:H r w L)(g2:Env.ev ρ x= .pointer (some ⟨b,q0,none⟩))(h:Has L b l tt j)(g4:l[q0]? =some val)(a:bH n d=true)(e:G m q (D P n ops ord K (Env.put ρ d (val)) w)):G (m+1) q (Ds P n ops {dst:=d,op:= .load T' x,type:=ty,pos:=pos,after:=aV,guard:=none} i0 .c ord K ρ w):=Gs (λf hi=>yZ hi (λ_ g=>run_load (g1.keeps g) g2 g4) a f) e
def apB(g0:Env.ev ρ x= .int k u)(g1:Env.ev ρ y= .int k v)(g2:av u a)(g:av v b)(g4:a+b<=aN k)(c:bH n d=true)(e:G m q (O P n all rest K (Env.put ρ d (.int k ((a+b:Nat):Int))) w)):G (m+1) q (O P n all ({dst:=d,op:= .binOp .add T x y T',type:=ty,pos:=pos,after:=aV,guard:=none}::rest) K ρ w):=Gs (λf=>gQ (eR g0 g1 g4) c f) e
def apC(g0:Env.ev ρ x= .int k u)(g1:Env.ev ρ y= .int k v)(g2:av u a)(g:av v b)(g4:a+b<=aN k)(c:bH n d=true)(e:G m q (D P n ops ord K (Env.put ρ d (.int k ((a+b:Nat):Int))) w)):G (m+1) q (Ds P n ops {dst:=d,op:= .binOp .add T x y T',type:=ty,pos:=pos,after:=aV,guard:=none} i0 .p ord K ρ w):=Gs (λf hi=>k9 hi (λw=>eR g0 g1 g4) c f) e
def apD(g0:Env.ev ρ x= .int k u)(g1:Env.ev ρ y= .int k v)(g2:av u a)(g:av v b)(c:bH n d=true)(e:G m q (O P n all rest K (Env.put ρ d (.bool (decide (a<b)))) w)):G (m+1) q (O P n all ({dst:=d,op:= .binOp .lss T x y T',type:=ty,pos:=pos,after:=aV,guard:=none}::rest) K ρ w):=Gs (λf=>gQ (QD g0 g1) c f) e
def apE(g0:Env.ev ρ x= .int k u)(g1:Env.ev ρ y= .int k v)(g2:av u a)(g:av v b)(c:bH n d=true)(e:G m q (D P n ops ord K (Env.put ρ d (.bool (decide (a<b)))) w)):G (m+1) q (Ds P n ops {dst:=d,op:= .binOp .lss T x y T',type:=ty,pos:=pos,after:=aV,guard:=none} i0 .p ord K ρ w):=Gs (λf hi=>k9 hi (λw=>QD g0 g1) c f) e
def apF(g0:Env.ev ρ x= .int k u)(g1:Env.ev ρ y= .int k v)(g2:av u a)(g:av v b)(c:bH n d=true)(e:G m q (O P n all rest K (Env.put ρ d (.bool (decide (a=b)))) w)):G (m+1) q (O P n all ({dst:=d,op:= .binOp .eql T x y T',type:=ty,pos:=pos,after:=aV,guard:=none}::rest) K ρ w):=Gs (λf=>gQ (Ms g0 g1) c f) e
def apG(g0:Env.ev ρ x= .int k u)(g1:Env.ev ρ y= .int k v)(g2:av u a)(g:av v b)(c:bH n d=true)(e:G m q (D P n ops ord K (Env.put ρ d (.bool (decide (a=b)))) w)):G (m+1) q (Ds P n ops {dst:=d,op:= .binOp .eql T x y T',type:=ty,pos:=pos,after:=aV,guard:=none} i0 .p ord K ρ w):=Gs (λf hi=>k9 hi (λw=>Ms g0 g1) c f) e
def apH(g0:cu P T (.slice T'))(g1:Env.ev ρ x= .slice ad len cap)(a:bH n d=true)(b:G m q (O P n all rest K (Env.put ρ d (.int .i64 (len:Int))) w)):G (m+1) q (O P n all ({dst:=d,op:= .call {callee:= .builtin .len,args:= #[x],argTypes:= #[T]},type:=ty,pos:=pos,after:=aV,guard:=none}::rest) K ρ w):=Gs (λc=>gQ (DY g1) a c) b
def apI(g0:cu P T (.slice T'))(g1:Env.ev ρ x= .slice ad len cap)(a:bH n d=true)(b:G m q (D P n ops ord K (Env.put ρ d (.int .i64 (len:Int))) w)):G (m+1) q (Ds P n ops {dst:=d,op:= .call {callee:= .builtin .len,args:= #[x],argTypes:= #[T]},type:=ty,pos:=pos,after:=aV,guard:=none} i0 .p ord K ρ w):=Gs (λc hi=>k9 hi (λw=>DY g1) a c) b
def apJ(g0:Env.ev ρ x= .tuple vs)(g1:vs[j]? =some val)(a:bH n d=true)(b:G m q (O P n all rest K (Env.put ρ d (val)) w)):G (m+1) q (O P n all ({dst:=d,op:= .extract x j,type:=ty,pos:=pos,after:=aV,guard:=none}::rest) K ρ w):=Gs (λc=>gQ (aeh g0 g1) a c) b
def apK(g0:Env.ev ρ x= .tuple vs)(g1:vs[j]? =some val)(a:bH n d=true)(b:G m q (D P n ops ord K (Env.put ρ d (val)) w)):G (m+1) q (Ds P n ops {dst:=d,op:= .extract x j,type:=ty,pos:=pos,after:=aV,guard:=none} i0 .p ord K ρ w):=Gs (λc hi=>k9 hi (λw=>aeh g0 g1) a c) b
def apL(g0:cu P T ds)(g1:cu P T' (.int k))(g2:Env.ev ρ x= .int k' u)(f:av u a)(g4:a<=aN k)(b:bH n d=true)(c:G m q (O P n all rest K (Env.put ρ d (.int k (a:Int))) w)):G (m+1) q (O P n all ({dst:=d,op:= .convert T T' x,type:=ty,pos:=pos,after:=aV,guard:=none}::rest) K ρ w):=Gs (λe=>gQ (eZ g2 g4) b e) c
def apM(g0:cu P T ds)(g1:cu P T' (.int k))(g2:Env.ev ρ x= .int k' u)(f:av u a)(g4:a<=aN k)(b:bH n d=true)(c:G m q (D P n ops ord K (Env.put ρ d (.int k (a:Int))) w)):G (m+1) q (Ds P n ops {dst:=d,op:= .convert T T' x,type:=ty,pos:=pos,after:=aV,guard:=none} i0 .p ord K ρ w):=Gs (λe hi=>k9 hi (λw=>eZ g2 g4) b e) c
def apN(g0:Env.ev ρ x= .int k u)(g1:Env.ev ρ y= .int k v)(g2:av u a)(g:av v b)(c:bH n d=true)(e:G m q (O P n all rest K (Env.put ρ d (.bool (decide (b<a)))) w)):G (m+1) q (O P n all ({dst:=d,op:= .binOp .gtr T x y T',type:=ty,pos:=pos,after:=aV,guard:=none}::rest) K ρ w):=Gs (λf=>gQ (Mr g0 g1) c f) e
def apO(g0:Env.ev ρ x= .int k u)(g1:Env.ev ρ y= .int k v)(g2:av u a)(g:av v b)(c:bH n d=true)(e:G m q (D P n ops ord K (Env.put ρ d (.bool (decide (b<a)))) w)):G (m+1) q (Ds P n ops {dst:=d,op:= .binOp .gtr T x y T',type:=ty,pos:=pos,after:=aV,guard:=none} i0 .p ord K ρ w):=Gs (λf hi=>k9 hi (λw=>Mr g0 g1) c f) e
def apP(g0:Env.ev ρ x= .int k u)(g1:Env.ev ρ y= .int k v)(g2:av u a)(g:av v b)(c:bH n d=true)(e:G m q (O P n all rest K (Env.put ρ d (.bool (decide (b<=a)))) w)):G (m+1) q (O P n all ({dst:=d,op:= .binOp .geq T x y T',type:=ty,pos:=pos,after:=aV,guard:=none}::rest) K ρ w):=Gs (λf=>gQ (Xh g0 g1) c f) e
def apQ(g0:Env.ev ρ x= .int k u)(g1:Env.ev ρ y= .int k v)(g2:av u a)(g:av v b)(c:bH n d=true)(e:G m q (D P n ops ord K (Env.put ρ d (.bool (decide (b<=a)))) w)):G (m+1) q (Ds P n ops {dst:=d,op:= .binOp .geq T x y T',type:=ty,pos:=pos,after:=aV,guard:=none} i0 .p ord K ρ w):=Gs (λf hi=>k9 hi (λw=>Xh g0 g1) c f) e
def apR(g0:Env.ev ρ x= .int k u)(g1:Env.ev ρ y= .int k v)(g2:av u a)(g:av v b)(c:bH n d=true)(e:G m q (O P n all rest K (Env.put ρ d (.bool (decide (a<=b)))) w)):G (m+1) q (O P n all ({dst:=d,op:= .binOp .leq T x y T',type:=ty,pos:=pos,after:=aV,guard:=none}::rest) K ρ w):=Gs (λf=>gQ (Xg g0 g1) c f) e
def apS(g0:Env.ev ρ x= .int k u)(g1:Env.ev ρ y= .int k v)(g2:av u a)(g:av v b)(c:bH n d=true)(e:G m q (D P n ops ord K (Env.put ρ d (.bool (decide (a<=b)))) w)):G (m+1) q (Ds P n ops {dst:=d,op:= .binOp .leq T x y T',type:=ty,pos:=pos,after:=aV,guard:=none} i0 .p ord K ρ w):=Gs (λf hi=>k9 hi (λw=>Xg g0 g1) c f) e
def apT(g0:Env.ev ρ x= .int k u)(g1:Env.ev ρ y= .int k v)(g2:av u a)(g:av v b)(c:bH n d=true)(e:G m q (O P n all rest K (Env.put ρ d (.bool (decide (¬a=b)))) w)):G (m+1) q (O P n all ({dst:=d,op:= .binOp .neq T x y T',type:=ty,pos:=pos,after:=aV,guard:=none}::rest) K ρ w):=Gs (λf=>gQ (Jc g0 g1) c f) e
def apU(g0:Env.ev ρ x= .int k u)(g1:Env.ev ρ y= .int k v)(g2:av u a)(g:av v b)(c:bH n d=true)(e:G m q (D P n ops ord K (Env.put ρ d (.bool (decide (¬a=b)))) w)):G (m+1) q (Ds P n ops {dst:=d,op:= .binOp .neq T x y T',type:=ty,pos:=pos,after:=aV,guard:=none} i0 .p ord K ρ w):=Gs (λf hi=>k9 hi (λw=>Jc g0 g1) c f) e
def apV(g0:Env.ev ρ x= .int k u)(g1:Env.ev ρ y= .int k v)(g2:av u a)(g:av v b)(g4:b<=a)(g5:a<=aN k)(c:bH n d=true)(e:G m q (O P n all rest K (Env.put ρ d (.int k ((a-b:Nat):Int))) w)):G (m+1) q (O P n all ({dst:=d,op:= .binOp .sub T x y T',type:=ty,pos:=pos,after:=aV,guard:=none}::rest) K ρ w):=Gs (λf=>gQ (jm g0 g1 g4 g5) c f) e
def apW(g0:Env.ev ρ x= .int k u)(g1:Env.ev ρ y= .int k v)(g2:av u a)(g:av v b)(g4:b<=a)(g5:a<=aN k)(c:bH n d=true)(e:G m q (D P n ops ord K (Env.put ρ d (.int k ((a-b:Nat):Int))) w)):G (m+1) q (Ds P n ops {dst:=d,op:= .binOp .sub T x y T',type:=ty,pos:=pos,after:=aV,guard:=none} i0 .p ord K ρ w):=Gs (λf hi=>k9 hi (λw=>jm g0 g1 g4 g5) c f) e
def apX(g0:cu P T (.slice T'))(g1:Sz P T' 1)(g2:Env.ev ρ x= .slice ad len cap)(c:Env.ev ρ y= .int k u)(g4:av u a)(g5:ad=some ⟨b,0,none⟩)(e:a<len)(f:bH n d=true)(g:G m q (O P n all rest K (Env.put ρ d (.pointer (some ⟨b,a,none⟩))) w)):G (m+1) q (O P n all ({dst:=d,op:= .indexAddr T x y,type:=ty,pos:=pos,after:=aV,guard:=none}::rest) K ρ w):=Gs (λh=>gQ (j8 g2 c g5 e) f h) g
def apY(g0:cu P T (.slice T'))(g1:Sz P T' 1)(g2:Env.ev ρ x= .slice ad len cap)(c:Env.ev ρ y= .int k u)(g4:av u a)(g5:ad=some ⟨b,0,none⟩)(e:a<len)(f:bH n d=true)(g:G m q (D P n ops ord K (Env.put ρ d (.pointer (some ⟨b,a,none⟩))) w)):G (m+1) q (Ds P n ops {dst:=d,op:= .indexAddr T x y,type:=ty,pos:=pos,after:=aV,guard:=none} i0 .p ord K ρ w):=Gs (λh hi=>k9 hi (λw=>j8 g2 c g5 e) f h) g
def apZ(g0:cu P T (.array len T'))(g1:Sz P T' 1)(g2:Env.ev ρ x= .pointer (some ⟨b,0,none⟩))(c:Env.ev ρ y= .int k u)(g4:av u a)(g5:a<len)(e:bH n d=true)(f:G m q (O P n all rest K (Env.put ρ d (.pointer (some ⟨b,a,none⟩))) w)):G (m+1) q (O P n all ({dst:=d,op:= .indexAddr T x y,type:=ty,pos:=pos,after:=aV,guard:=none}::rest) K ρ w):=Gs (λg=>gQ (MB g2 c g5) e g) f
def ap0(g0:cu P T (.array len T'))(g1:Sz P T' 1)(g2:Env.ev ρ x= .pointer (some ⟨b,0,none⟩))(c:Env.ev ρ y= .int k u)(g4:av u a)(g5:a<len)(e:bH n d=true)(f:G m q (D P n ops ord K (Env.put ρ d (.pointer (some ⟨b,a,none⟩))) w)):G (m+1) q (Ds P n ops {dst:=d,op:= .indexAddr T x y,type:=ty,pos:=pos,after:=aV,guard:=none} i0 .p ord K ρ w):=Gs (λg hi=>k9 hi (λw=>MB g2 c g5) e g) f
def ap1(g0:cu P T (.array len T'))(g1:Sz P T' 1)(g2:Env.ev ρ x= .pointer (some ⟨b,q0,none⟩))(c:Env.ev ρ y= .int k u)(g4:av u a)(g5:a<len)(e:bH n d=true)(f:G m q (O P n all rest K (Env.put ρ d (.pointer (some ⟨b,q0+a,none⟩))) w)):G (m+1) q (O P n all ({dst:=d,op:= .indexAddr T x y,type:=ty,pos:=pos,after:=aV,guard:=none}::rest) K ρ w):=Gs (λg=>gQ (oD g2 c g5) e g) f
def ap2(g0:cu P T (.array len T'))(g1:Sz P T' 1)(g2:Env.ev ρ x= .pointer (some ⟨b,q0,none⟩))(c:Env.ev ρ y= .int k u)(g4:av u a)(g5:a<len)(e:bH n d=true)(f:G m q (D P n ops ord K (Env.put ρ d (.pointer (some ⟨b,q0+a,none⟩))) w)):G (m+1) q (Ds P n ops {dst:=d,op:= .indexAddr T x y,type:=ty,pos:=pos,after:=aV,guard:=none} i0 .p ord K ρ w):=Gs (λg hi=>k9 hi (λw=>oD g2 c g5) e g) f
def ap3(g0:Env.ev ρ c0= .bool true)(a:bH n d=true)(b:G m q (O P n all rest K (Env.put ρ d (Env.ev ρ x)) w)):G (m+1) q (O P n all ({dst:=d,op:= .pick c0 x y,type:=ty,pos:=pos,after:=aV,guard:=none}::rest) K ρ w):=Gs (λc=>gQ (tJ g0) a c) b
def ap4(g0:Env.ev ρ c0= .bool true)(a:bH n d=true)(b:G m q (D P n ops ord K (Env.put ρ d (Env.ev ρ x)) w)):G (m+1) q (Ds P n ops {dst:=d,op:= .pick c0 x y,type:=ty,pos:=pos,after:=aV,guard:=none} i0 .p ord K ρ w):=Gs (λc hi=>k9 hi (λw=>tJ g0) a c) b
def ap5(g0:Env.ev ρ c0= .bool false)(a:bH n d=true)(b:G m q (O P n all rest K (Env.put ρ d (Env.ev ρ y)) w)):G (m+1) q (O P n all ({dst:=d,op:= .pick c0 x y,type:=ty,pos:=pos,after:=aV,guard:=none}::rest) K ρ w):=Gs (λc=>gQ (wk g0) a c) b
def ap6(g0:Env.ev ρ c0= .bool false)(a:bH n d=true)(b:G m q (D P n ops ord K (Env.put ρ d (Env.ev ρ y)) w)):G (m+1) q (Ds P n ops {dst:=d,op:= .pick c0 x y,type:=ty,pos:=pos,after:=aV,guard:=none} i0 .p ord K ρ w):=Gs (λc hi=>k9 hi (λw=>wk g0) a c) b
def ap7(g0:Env.ev ρ x= .int k u)(g1:Env.ev ρ y= .int k v)(g2:av u a)(g:av v b)(g4:a*b<=aN k)(c:bH n d=true)(e:G m q (O P n all rest K (Env.put ρ d (.int k ((a*b:Nat):Int))) w)):G (m+1) q (O P n all ({dst:=d,op:= .binOp .mul T x y T',type:=ty,pos:=pos,after:=aV,guard:=none}::rest) K ρ w):=Gs (λf=>gQ (BQ g0 g1 g4) c f) e
def ap8(g0:Env.ev ρ x= .int k u)(g1:Env.ev ρ y= .int k v)(g2:av u a)(g:av v b)(g4:a*b<=aN k)(c:bH n d=true)(e:G m q (D P n ops ord K (Env.put ρ d (.int k ((a*b:Nat):Int))) w)):G (m+1) q (Ds P n ops {dst:=d,op:= .binOp .mul T x y T',type:=ty,pos:=pos,after:=aV,guard:=none} i0 .p ord K ρ w):=Gs (λf hi=>k9 hi (λw=>BQ g0 g1 g4) c f) e
def ap9(g0:Env.ev ρ x= .int k u)(g1:Env.ev ρ y= .int k' v)(g2:av u a)(g:av v b)(g4:a<=aN k)(c:bH n d=true)(e:G m q (O P n all rest K (Env.put ρ d (.int k ((a/2^b:Nat):Int))) w)):G (m+1) q (O P n all ({dst:=d,op:= .binOp .shr T x y T',type:=ty,pos:=pos,after:=aV,guard:=none}::rest) K ρ w):=Gs (λf=>gQ (qT g0 g1 g4) c f) e
def ap_(g0:Env.ev ρ x= .int k u)(g1:Env.ev ρ y= .int k' v)(g2:av u a)(g:av v b)(g4:a<=aN k)(c:bH n d=true)(e:G m q (D P n ops ord K (Env.put ρ d (.int k ((a/2^b:Nat):Int))) w)):G (m+1) q (Ds P n ops {dst:=d,op:= .binOp .shr T x y T',type:=ty,pos:=pos,after:=aV,guard:=none} i0 .p ord K ρ w):=Gs (λf hi=>k9 hi (λw=>qT g0 g1 g4) c f) e
def ap'(g0:Env.ev ρ x= .int k u)(g1:Env.ev ρ y= .int k v)(g2:av u a)(g:av v b)(g4:a<=aN k)(g5:b<=aN k)(c:bH n d=true)(e:G m q (O P n all rest K (Env.put ρ d (.int k ((a&&&b:Nat):Int))) w)):G (m+1) q (O P n all ({dst:=d,op:= .binOp .and T x y T',type:=ty,pos:=pos,after:=aV,guard:=none}::rest) K ρ w):=Gs (λf=>gQ (yT g0 g1 g4 g5) c f) e
def aqa(g0:Env.ev ρ x= .int k u)(g1:Env.ev ρ y= .int k v)(g2:av u a)(g:av v b)(g4:a<=aN k)(g5:b<=aN k)(c:bH n d=true)(e:G m q (D P n ops ord K (Env.put ρ d (.int k ((a&&&b:Nat):Int))) w)):G (m+1) q (Ds P n ops {dst:=d,op:= .binOp .and T x y T',type:=ty,pos:=pos,after:=aV,guard:=none} i0 .p ord K ρ w):=Gs (λf hi=>k9 hi (λw=>yT g0 g1 g4 g5) c f) e
def aqb(g0:av v a)(b:bH n d=true)(c:G m q (O P n all rest K (Env.put ρ d (.int k (a:Int))) w)):G (m+1) q (O P n all ({dst:=d,op:= .move (.const (.int k v)),type:=ty,pos:=pos,after:=aV,guard:=none}::rest) K ρ w):=Gs (λe=>gQ (QM a J g0.eq) b e) c
def aqc(g0:av v a)(b:bH n d=true)(c:G m q (D P n ops ord K (Env.put ρ d (.int k (a:Int))) w)):G (m+1) q (Ds P n ops {dst:=d,op:= .move (.const (.int k v)),type:=ty,pos:=pos,after:=aV,guard:=none} i0 .p ord K ρ w):=Gs (λe hi=>k9 hi (λw=>QM a J g0.eq) b e) c
def aqd(g0:av v a)(b:bH n d=true)(c:G m q (O P n all rest K (Env.put ρ d (.int k (a:Int))) w)):G (m+1) q (O P n all ({dst:=d,op:= .assign (.const (.int k v)),type:=ty,pos:=pos,after:=aV,guard:=none}::rest) K ρ w):=Gs (λe=>gQ (As a J g0.eq) b e) c
def aqe(g0:av v a)(b:bH n d=true)(c:G m q (D P n ops ord K (Env.put ρ d (.int k (a:Int))) w)):G (m+1) q (Ds P n ops {dst:=d,op:= .assign (.const (.int k v)),type:=ty,pos:=pos,after:=aV,guard:=none} i0 .p ord K ρ w):=Gs (λe hi=>k9 hi (λw=>As a J g0.eq) b e) c
def aqf{g0 t:Nat}{want a:Bool}(b:(all[g0]?).bind (·.dst)=some t)(c:Nat.blt t n=true)(gc:ρ t= .bool a)(e:G m q (Og P n all {dst:=d,op:=op,type:=ty,pos:=pos,after:=aV,guard:=some (g0,want)} g0 want t a rest K ρ w)):G m q (O P n all ({dst:=d,op:=op,type:=ty,pos:=pos,after:=aV,guard:=some (g0,want)}::rest) K ρ w):=Gt (λf=>f b c gc) e
def aqg{g0 t:Nat}{want a:Bool}(ge:(a==want)=false)(b:bH n d=true)(c:G m q (O P n all rest K (Env.put ρ d undef) w)):G (m+1) q (Og P n all {dst:=d,op:=op,type:=ty,pos:=pos,after:=aV,guard:=some (g0,want)} g0 want t a rest K ρ w):=Gs (λe f g gc=>ael f g gc ge b e) c
def aqh{a t:Nat}{want:Bool}(b:bH n d=true)(c:G m q (O P n all rest K (Env.put ρ d (Env.ev ρ x)) w)):G (m+1) q (Og P n all {dst:=d,op:= .move x,type:=ty,pos:=pos,after:=aV,guard:=some (a,want)} a want t want rest K ρ w):=Gs (λe f g gc=>dI f g gc (run_move) b e) c
def aqi{a t:Nat}{want:Bool}(g0:Env.ev ρ x= .pointer (some Jm))(b:bH n d=true)(c:G m q (O P n all rest K (Env.put ρ d (.pointer (some Jm))) w)):G (m+1) q (Og P n all {dst:=d,op:= .nilCheck x,type:=ty,pos:=pos,after:=aV,guard:=some (a,want)} a want t want rest K ρ w):=Gs (λe f g gc=>dI f g gc (v_ g0) b e) c
def aqj{a t:Nat}{want:Bool}(g0:cU P T f j)(g1:Env.ev ρ x= .pointer (some ⟨b,q0,none⟩))(c:bH n d=true)(e:G m q (O P n all rest K (Env.put ρ d (.pointer (some ⟨b,q0+j,none⟩))) w)):G (m+1) q (Og P n all {dst:=d,op:= .fieldAddr T x f,type:=ty,pos:=pos,after:=aV,guard:=some (a,want)} a want t want rest K ρ w):=Gs (λg h i gc=>dI h i gc (pg g1) c g) e
def aqk{a t:Nat}{want:Bool}(g0:One P T')(g1:H r w L)(g2:Env.ev ρ x= .pointer (some ⟨b,q0,none⟩))(i:Has L b l tt j)(g4:l[q0]? =some val)(c:bH n d=true)(e:G m q (O P n all rest K (Env.put ρ d (val)) w)):G (m+1) q (Og P n all {dst:=d,op:= .load T' x,type:=ty,pos:=pos,after:=aV,guard:=some (a,want)} a want t want rest K ρ w):=Gs (λf g h gc=>dI g h gc (run_load g1 g2 g4) c f) e
def aql{c t:Nat}{want:Bool}(g0:Env.ev ρ x= .int k u)(g1:Env.ev ρ y= .int k v)(g2:av u a)(j:av v b)(g4:a+b<=aN k)(e:bH n d=true)(f:G m q (O P n all rest K (Env.put ρ d (.int k ((a+b:Nat):Int))) w)):G (m+1) q (Og P n all {dst:=d,op:= .binOp .add T x y T',type:=ty,pos:=pos,after:=aV,guard:=some (c,want)} c want t want rest K ρ w):=Gs (λg h i gc=>dI h i gc (eR g0 g1 g4) e g) f
def aqm{c t:Nat}{want:Bool}(g0:Env.ev ρ x= .int k u)(g1:Env.ev ρ y= .int k v)(g2:av u a)(j:av v b)(e:bH n d=true)(f:G m q (O P n all rest K (Env.put ρ d (.bool (decide (a<b)))) w)):G (m+1) q (Og P n all {dst:=d,op:= .binOp .lss T x y T',type:=ty,pos:=pos,after:=aV,guard:=some (c,want)} c want t want rest K ρ w):=Gs (λg h i gc=>dI h i gc (QD g0 g1) e g) f
def aqn{c t:Nat}{want:Bool}(g0:Env.ev ρ x= .int k u)(g1:Env.ev ρ y= .int k v)(g2:av u a)(j:av v b)(e:bH n d=true)(f:G m q (O P n all rest K (Env.put ρ d (.bool (decide (a=b)))) w)):G (m+1) q (Og P n all {dst:=d,op:= .binOp .eql T x y T',type:=ty,pos:=pos,after:=aV,guard:=some (c,want)} c want t want rest K ρ w):=Gs (λg h i gc=>dI h i gc (Ms g0 g1) e g) f
def aqo{a t:Nat}{want:Bool}(g0:cu P T (.slice T'))(g1:Env.ev ρ x= .slice ad len cap)(b:bH n d=true)(c:G m q (O P n all rest K (Env.put ρ d (.int .i64 (len:Int))) w)):G (m+1) q (Og P n all {dst:=d,op:= .call {callee:= .builtin .len,args:= #[x],argTypes:= #[T]},type:=ty,pos:=pos,after:=aV,guard:=some (a,want)} a want t want rest K ρ w):=Gs (λe f g gc=>dI f g gc (DY g1) b e) c
def aqp{b t:Nat}{want:Bool}(g0:cu P T ds)(g1:cu P T' (.int k))(g2:Env.ev ρ x= .int k' u)(i:av u a)(g4:a<=aN k)(c:bH n d=true)(e:G m q (O P n all rest K (Env.put ρ d (.int k (a:Int))) w)):G (m+1) q (Og P n all {dst:=d,op:= .convert T T' x,type:=ty,pos:=pos,after:=aV,guard:=some (b,want)} b want t want rest K ρ w):=Gs (λf g h gc=>dI g h gc (eZ g2 g4) c f) e
def aqq{c t:Nat}{want:Bool}(g0:Env.ev ρ x= .int k u)(g1:Env.ev ρ y= .int k v)(g2:av u a)(j:av v b)(e:bH n d=true)(f:G m q (O P n all rest K (Env.put ρ d (.bool (decide (b<a)))) w)):G (m+1) q (Og P n all {dst:=d,op:= .binOp .gtr T x y T',type:=ty,pos:=pos,after:=aV,guard:=some (c,want)} c want t want rest K ρ w):=Gs (λg h i gc=>dI h i gc (Mr g0 g1) e g) f
def aqr{c t:Nat}{want:Bool}(g0:Env.ev ρ x= .int k u)(g1:Env.ev ρ y= .int k v)(g2:av u a)(j:av v b)(e:bH n d=true)(f:G m q (O P n all rest K (Env.put ρ d (.bool (decide (b<=a)))) w)):G (m+1) q (Og P n all {dst:=d,op:= .binOp .geq T x y T',type:=ty,pos:=pos,after:=aV,guard:=some (c,want)} c want t want rest K ρ w):=Gs (λg h i gc=>dI h i gc (Xh g0 g1) e g) f
def aqs{c t:Nat}{want:Bool}(g0:Env.ev ρ x= .int k u)(g1:Env.ev ρ y= .int k v)(g2:av u a)(j:av v b)(e:bH n d=true)(f:G m q (O P n all rest K (Env.put ρ d (.bool (decide (a<=b)))) w)):G (m+1) q (Og P n all {dst:=d,op:= .binOp .leq T x y T',type:=ty,pos:=pos,after:=aV,guard:=some (c,want)} c want t want rest K ρ w):=Gs (λg h i gc=>dI h i gc (Xg g0 g1) e g) f
def aqt{c t:Nat}{want:Bool}(g0:Env.ev ρ x= .int k u)(g1:Env.ev ρ y= .int k v)(g2:av u a)(j:av v b)(e:bH n d=true)(f:G m q (O P n all rest K (Env.put ρ d (.bool (decide (¬a=b)))) w)):G (m+1) q (Og P n all {dst:=d,op:= .binOp .neq T x y T',type:=ty,pos:=pos,after:=aV,guard:=some (c,want)} c want t want rest K ρ w):=Gs (λg h i gc=>dI h i gc (Jc g0 g1) e g) f
def aqu{c t:Nat}{want:Bool}(g0:Env.ev ρ x= .int k u)(g1:Env.ev ρ y= .int k v)(g2:av u a)(j:av v b)(g4:b<=a)(g5:a<=aN k)(e:bH n d=true)(f:G m q (O P n all rest K (Env.put ρ d (.int k ((a-b:Nat):Int))) w)):G (m+1) q (Og P n all {dst:=d,op:= .binOp .sub T x y T',type:=ty,pos:=pos,after:=aV,guard:=some (c,want)} c want t want rest K ρ w):=Gs (λg h i gc=>dI h i gc (jm g0 g1 g4 g5) e g) f
def aqv{c t:Nat}{want:Bool}(g0:cu P T (.slice T'))(g1:Sz P T' 1)(g2:Env.ev ρ x= .slice ad len cap)(e:Env.ev ρ y= .int k u)(g4:av u a)(g5:ad=some ⟨b,0,none⟩)(f:a<len)(g:bH n d=true)(h:G m q (O P n all rest K (Env.put ρ d (.pointer (some ⟨b,a,none⟩))) w)):G (m+1) q (Og P n all {dst:=d,op:= .indexAddr T x y,type:=ty,pos:=pos,after:=aV,guard:=some (c,want)} c want t want rest K ρ w):=Gs (λi j l gc=>dI j l gc (j8 g2 e g5 f) g i) h
end
attribute [irreducible] Ds Og
end
theorem dO(a:Nat):av (@OfNat.ofNat Int a instOfNat) (@OfNat.ofNat Nat a (instOfNatNat a)):=⟨J⟩
def g_ (m:Nat) {p q:Prop} (k:q) (h:G m (.mk q) p:=by
 repeat(first
  |exact G0
  | ((with_reducible apply aqb);(first|exact iN|exact dO _);exact J)
  | ((with_reducible apply apr);exact J)
  | (with_reducible apply aep)
  | (with_reducible apply apm)
  | (with_reducible apply aeq)
  | (with_reducible apply aev)
  | ((with_reducible apply apv);exact J;exact J)
  | ((with_reducible apply apx);exact iF;exact J;exact J)
  | ((with_reducible apply apz);exact iO;exact h;exact J;exact iH;exact J;exact J)
  | ((with_reducible apply apB);exact J;exact J;(first|exact iN|exact dO _);(first|exact iN|exact dO _);exact k_;exact J)
  | ((with_reducible apply aqd);(first|exact iN|exact dO _);exact J)
  | ((with_reducible apply apt);exact J)
  | (with_reducible apply aeo)
  | (with_reducible apply apl)
  | (with_reducible apply aes)
  | (with_reducible apply aer)
  | (with_reducible apply aet)
  | (with_reducible apply aeu)
  | ((with_reducible apply apD);exact J;exact J;(first|exact iN|exact dO _);(first|exact iN|exact dO _);exact J)
  | ((with_reducible apply apF);exact J;exact J;(first|exact iN|exact dO _);(first|exact iN|exact dO _);exact J)
  | ((with_reducible apply apH);exact iU;exact J;exact J)
  | ((with_reducible apply apJ);exact J;exact J;exact J)
  | ((with_reducible apply apL);exact iU;exact iU;exact J;(first|exact iN|exact dO _);exact k_;exact J)
  | ((with_reducible apply apN);exact J;exact J;(first|exact iN|exact dO _);(first|exact iN|exact dO _);exact J)
  | ((with_reducible apply apP);exact J;exact J;(first|exact iN|exact dO _);(first|exact iN|exact dO _);exact J)
  | ((with_reducible apply apR);exact J;exact J;(first|exact iN|exact dO _);(first|exact iN|exact dO _);exact J)
  | ((with_reducible apply apT);exact J;exact J;(first|exact iN|exact dO _);(first|exact iN|exact dO _);exact J)
  | ((with_reducible apply apV);exact J;exact J;(first|exact iN|exact dO _);(first|exact iN|exact dO _);exact I;exact k_;exact J)
  | ((with_reducible apply apX);exact iU;exact iS;exact J;exact J;(first|exact iN|exact dO _);exact J;exact I;exact J)
  | ((with_reducible apply apZ);exact iU;exact iS;exact J;exact J;(first|exact iN|exact dO _);exact I;exact J)
  | ((with_reducible apply ap1);exact iU;exact iS;exact J;exact J;(first|exact iN|exact dO _);exact I;exact J)
  | ((with_reducible apply ap3);exact J;exact J)
  | ((with_reducible apply ap5);exact J;exact J)
  | ((with_reducible apply ap7);exact J;exact J;(first|exact iN|exact dO _);(first|exact iN|exact dO _);exact k_;exact J)
  | ((with_reducible apply ap9);exact J;exact J;(first|exact iN|exact dO _);(first|exact iN|exact dO _);exact k_;exact J)
  | ((with_reducible apply ap');exact J;exact J;(first|exact iN|exact dO _);(first|exact iN|exact dO _);exact k_;exact k_;exact J)
  | ((with_reducible apply aqf);exact J;exact J;exact J;first| ((with_reducible apply aqg);exact J;exact J)| ((with_reducible apply aqh);exact J)| ((with_reducible apply aqi);exact J;exact J)| ((with_reducible apply aqj);exact iF;exact J;exact J)| ((with_reducible apply aqk);exact iO;exact h;exact J;exact iH;exact J;exact J)| ((with_reducible apply aql);exact J;exact J;(first|exact iN|exact dO _);(first|exact iN|exact dO _);exact k_;exact J)| ((with_reducible apply aqm);exact J;exact J;(first|exact iN|exact dO _);(first|exact iN|exact dO _);exact J)| ((with_reducible apply aqn);exact J;exact J;(first|exact iN|exact dO _);(first|exact iN|exact dO _);exact J)| ((with_reducible apply aqo);exact iU;exact J;exact J)| ((with_reducible apply aqp);exact iU;exact iU;exact J;(first|exact iN|exact dO _);exact k_;exact J)| ((with_reducible apply aqq);exact J;exact J;(first|exact iN|exact dO _);(first|exact iN|exact dO _);exact J)| ((with_reducible apply aqr);exact J;exact J;(first|exact iN|exact dO _);(first|exact iN|exact dO _);exact J)| ((with_reducible apply aqs);exact J;exact J;(first|exact iN|exact dO _);(first|exact iN|exact dO _);exact J)| ((with_reducible apply aqt);exact J;exact J;(first|exact iN|exact dO _);(first|exact iN|exact dO _);exact J)| ((with_reducible apply aqu);exact J;exact J;(first|exact iN|exact dO _);(first|exact iN|exact dO _);exact I;exact k_;exact J)| ((with_reducible apply aqv);exact iU;exact iS;exact J;exact J;(first|exact iN|exact dO _);exact J;exact I;exact J))
  |apply aep
  |apply aeq
  |apply aev
  |apply aes
  |apply aer
  |apply aet
  |apply aeu)):p:=G1 h k
def aC (m:Nat) {p q:Prop} (k:q) (h:G m (.mk q) p:=by
 repeat(first
  |exact G0
  | (apply apo;exact J;first| (apply aqc;(first|exact iN|exact dO _);exact J)| (apply aqe;(first|exact iN|exact dO _);exact J)| (apply aps;exact J)| (apply apu;exact J)| (apply apw;exact J;exact J)| (apply apy;exact iF;exact J;exact J)| (apply apA;exact iO;exact h;exact J;exact iH;exact J;exact J)| (apply apC;exact J;exact J;(first|exact iN|exact dO _);(first|exact iN|exact dO _);exact k_;exact J)| (apply apE;exact J;exact J;(first|exact iN|exact dO _);(first|exact iN|exact dO _);exact J)| (apply apG;exact J;exact J;(first|exact iN|exact dO _);(first|exact iN|exact dO _);exact J)| (apply apI;exact iU;exact J;exact J)| (apply apK;exact J;exact J;exact J)| (apply apM;exact iU;exact iU;exact J;(first|exact iN|exact dO _);exact k_;exact J)| (apply apO;exact J;exact J;(first|exact iN|exact dO _);(first|exact iN|exact dO _);exact J)| (apply apQ;exact J;exact J;(first|exact iN|exact dO _);(first|exact iN|exact dO _);exact J)| (apply apS;exact J;exact J;(first|exact iN|exact dO _);(first|exact iN|exact dO _);exact J)| (apply apU;exact J;exact J;(first|exact iN|exact dO _);(first|exact iN|exact dO _);exact J)| (apply apW;exact J;exact J;(first|exact iN|exact dO _);(first|exact iN|exact dO _);exact I;exact k_;exact J)| (apply apY;exact iU;exact iS;exact J;exact J;(first|exact iN|exact dO _);exact J;exact I;exact J)| (apply ap0;exact iU;exact iS;exact J;exact J;(first|exact iN|exact dO _);exact I;exact J)| (apply ap2;exact iU;exact iS;exact J;exact J;(first|exact iN|exact dO _);exact I;exact J)| (apply ap4;exact J;exact J)| (apply ap6;exact J;exact J)| (apply ap8;exact J;exact J;(first|exact iN|exact dO _);(first|exact iN|exact dO _);exact k_;exact J)| (apply ap_;exact J;exact J;(first|exact iN|exact dO _);(first|exact iN|exact dO _);exact k_;exact J)| (apply aqa;exact J;exact J;(first|exact iN|exact dO _);(first|exact iN|exact dO _);exact k_;exact k_;exact J)| (apply apq;exact J;exact J;exact J;exact J;exact J))
  |apply apn
  |apply aeo)):p:=G1 h k
section
variable {cap s:Nat}{ad:Option Addr}
variable {P:Program}{n:Nat}{K:ia}{ρ:Env}{all:Array Oper}{rest:List Oper}{d:Option Nat}{ty:TypeId}{pos:String}{aV:Array Edge}
variable {r:fT}{w:World}{L:List aK}{x y z:Operand}{b q i:Nat}{l:List Value}{T T':TypeId}{v:Value}
def aI:Option Nat->Option Addr
 |some b=>some ⟨b,0,none⟩
 |none=>none
def cut(ad:Option Addr)(cap l s:Nat):Option Addr:=if cap=l then ad else ad.map (·.add (l*s))
def eU{l:Nat}(h:ad=some ⟨b,q,none⟩)(a:cap≠l):cut ad cap l 1=some ⟨b,q+l,none⟩:=by
 subst h;simp[cut,a,add_plain]
def tK{l:Nat}(h:ad=some ⟨b,0,none⟩)(a:cap≠l):cut ad cap l 1=some ⟨b,l,none⟩:=by
 subst h;simp[cut,a,add_plain]
def add_zero'(a:Addr):a.add 0=a:=by simp[Addr.add]
def aqw(ad:Option Addr)(cap s:Nat):cut ad cap 0 s=ad:=by
 unfold cut;split
 rfl
 cases ad<;>simp[add_zero']
def XB{T':TypeId}[hu:cu P T (.slice T')]{s:Nat} [hs:Sz P T' s]{ad:Option Addr}{len cap:Nat}{lo hi:Option Operand}{a c:Nat}(d:Env.ev ρ x= .slice ad len cap)(f:match lo with|none=>a=0|some o=> ∃k,Env.ev ρ o= .int k (a:Int))(b:match hi with|none=>c=len|some o=> ∃k,Env.ev ρ o= .int k (c:Int))(h1:a<=c)(h2:c<=cap):run P ρ (.slice T x lo hi none) ty w= .ok (.value (.slice (cut ad cap a s) (c-a) (cap-a))) w:=by
 have e2:=hs.size w;have g: ∀k:IntKind,(Instr.sliceBound (.int k (a:Int)) c .sliceB).run P w= .ok a w:=λk=>(by simp[Instr.sliceBound,asIntOf,h1]);have h: ∀k:IntKind,(Instr.sliceBound (.int k (c:Int)) cap .sliceAcap).run P w= .ok c w:=λk=>(by simp[Instr.sliceBound,asIntOf,h2])
 cases lo with
 | none=>
   simp only at f;subst f
   cases hi with
   | none=>
     simp only at b;subst b
     simp[run,execOp,d,Instr.sliceAt,Instr.slice,Instr.sliceBounds,underlying,program,Sem.run,hu.eq,e2,cut]
   | some o=>
     obtain⟨k,e⟩:=b
     simp[run,execOp,d,e,Instr.sliceAt,Instr.slice,Instr.sliceBounds,underlying,program,Sem.run,hu.eq,e2,h,cut]
 | some o=>
   obtain⟨k,e⟩:=f
   cases hi with
   | none=>
     simp only at b;subst b
     simp[run,execOp,d,e,Instr.sliceAt,Instr.slice,Instr.sliceBounds,underlying,program,Sem.run,hu.eq,e2,g,cut]
   | some o'=>
     obtain⟨k',i⟩:=b
     simp[run,execOp,d,e,i,Instr.sliceAt,Instr.slice,Instr.sliceBounds,underlying,program,Sem.run,hu.eq,e2,g,h,cut]
def mX{T':TypeId}[hu:cu P T (.slice T')]{s:Nat} [hs:Sz P T' s]{ad:Option Addr}{len cap:Nat}{u:Int}{k:IntKind}{c:Nat}(b:Env.ev ρ x= .slice ad len cap)(d:Env.ev ρ y= .int k u) [h1:av u c](h2:c<=cap):run P ρ (.slice T x none (some y) none) ty w= .ok (.value (.slice ad c cap)) w:=by
 have:=XB (P:=P) (ρ:=ρ) (T:=T) (ty:=ty) (w:=w) (lo:=none) (hi:=some y) (a:=0) (c:=c) b J ⟨k,by rw[d,h1.eq]⟩ (cj _) h2;rw[this,aqw];simp
def jJ{T':TypeId}[hu:cu P T (.slice T')]{s:Nat} [hs:Sz P T' s]{ad:Option Addr}{len cap:Nat}{u:Int}{k:IntKind}{a:Nat}(b:Env.ev ρ x= .slice ad len cap)(c:Env.ev ρ y= .int k u) [h1:av u a](h2:a<=len)(d:len<=cap):run P ρ (.slice T x (some y) none none) ty w= .ok (.value (.slice (cut ad cap a s) (len-a) (cap-a))) w:=
 XB b ⟨k,by rw[c,h1.eq]⟩ J h2 d
def wm{T':TypeId}[hu:cu P T (.slice T')]{s:Nat} [hs:Sz P T' s]{ad:Option Addr}{len cap:Nat}{u b:Int}{k k':IntKind}{a c:Nat}(d:Env.ev ρ x= .slice ad len cap)(e:Env.ev ρ y= .int k u)(f:Env.ev ρ z= .int k' b) [h1:av u a] [h2:av b c](g:a<=c)(h:c<=cap):run P ρ (.slice T x (some y) (some z) none) ty w= .ok (.value (.slice (cut ad cap a s) (c-a) (cap-a))) w:=
 XB d ⟨k,by rw[e,h1.eq]⟩ ⟨k',by rw[f,h2.eq]⟩ g h
def MC{len:Nat}[hu:cu P T (.array len T')] [hs:Sz P T' s](a:Env.ev ρ x= .pointer (some ⟨b,q,none⟩)):run P ρ (.slice T x none none none) ty w= .ok (.value (.slice (some ⟨b,q,none⟩) len len)) w:=by
 have e2:=hs.size w;simp[run,execOp,a,Instr.sliceAt,Instr.sureAddr,Instr.sliceBounds,underlying,program,Sem.run,hu.eq,e2,add_plain]
def wq{len:Nat}[hu:cu P T (.array len T')] [hs:Sz P T' s]{u:Int}{k:IntKind}{c:Nat}(a:Env.ev ρ x= .pointer (some ⟨b,q,none⟩))(d:Env.ev ρ y= .int k u) [h1:av u c](h2:c<=len):run P ρ (.slice T x none (some y) none) ty w= .ok (.value (.slice (some ⟨b,q,none⟩) c len)) w:=by
 have e2:=hs.size w;have e:(Instr.sliceBound (.int k (c:Int)) len .sliceAlen).run P w= .ok c w:=(by simp[Instr.sliceBound,asIntOf,h2]);simp[run,execOp,a,d,h1.eq,Instr.sliceAt,Instr.sureAddr,Instr.sliceBounds,underlying,program,Sem.run,hu.eq,e2,e,add_plain]
def Jn{len:Nat}[hu:cu P T (.array len T')] [hs:Sz P T' s]{u:Int}{k:IntKind}{a:Nat}(c:Env.ev ρ x= .pointer (some ⟨b,q,none⟩))(d:Env.ev ρ y= .int k u) [h1:av u a](h2:a<len):run P ρ (.slice T x (some y) none none) ty w= .ok (.value (.slice (some ⟨b,q+a*s,none⟩) (len-a) (len-a))) w:=by
 have e2:=hs.size w;have e:(Instr.sliceBound (.int k (a:Int)) len .sliceB).run P w= .ok a w:=(by simp[Instr.sliceBound,asIntOf];omega);have: ¬len=a:=I;simp[run,execOp,c,d,h1.eq,Instr.sliceAt,Instr.sureAddr,Instr.sliceBounds,underlying,program,Sem.run,hu.eq,e2,e,this,add_plain]
def Rd(l:List Value)(q:Nat):List Value->Prop
 | []=>True
 |v::vs=>l[q]? =some v/\Rd l (q+1) vs
def Rd.get: ∀{vs:List Value} {q:Nat},Rd l q vs-> ∀j,j<W vs->l[q+j]? =vs[j]?
 | [],_,_,j,a=>by simp at a
 |v::vs,q,h,0,_=>by simpa using h.1
 |v::vs,q,h,j+1,a=>by have:=Rd.get h.2 j (by simpa using a);simpa [fL,uC 1 j] using this
def Rd.of: ∀{vs:List Value} {q:Nat},(∀j,j<W vs->l[q+j]? =vs[j]?)->Rd l q vs
 | [],_,_=>trivial
 |v::vs,q,h=>⟨by simpa using h 0 (by simp),Rd.of λj a=>by have:=h (j+1) (by simpa using a);simpa [fL,uC 1 j] using this⟩
def Rd.self(l:List Value):Rd l 0 l:=Rd.of λj _=>by rw[il]
def jw{a a':Option Addr}{n b c c':Nat}(h1:a=a')(h2:n=b)(d:c=c'):Value.slice a n c=Value.slice a' b c':=by rw[h1,h2,d]
def Rd.slice{m:Nat}(h:q+m<=W l):Rd l q ((l.drop q).take m):=by
 refine Rd.of λj a=>?_;simp at a;rw[qg,ao I,nQ]
def aew{P:Program}{w:World}{a:Addr}: ∀(m i:Nat) (acc:Array Value) (vs:List Value),W vs=m->(∀j,j<m->w.cell? (a.add (i+j))=vs[j]?)->(loadCellsFrom a i m acc).run P w= .ok (acc++vs.toArray) w
 |0,_,acc,vs,b,_=>by have:vs=[]:=k7.1 b;subst this;simp[loadCellsFrom]
 | m+1,i,acc,vs,b,h=>by
  cases vs with
  |nil=>simp at b
  | cons v vs=>
    have c:=h 0 I
    simp only[kN,List.getElem?_cons_zero]at c
    have d:=aew (P:=P) (w:=w) (a:=a) m (i+1) (acc.push v) vs (by simpa using b) (λj e=>by
      have:=h (j+1) I
      simpa [fL,uC 1 j] using this)
    simp only[loadCellsFrom]
    simp[load,Sem.run,c,d]
def D4{T:TT}(h:H r w L)(hi:L[i]? =some (some b,C l T)){vs:List Value}(c:Rd l q vs){m:Nat}(hm:W vs=m):(loadCells ⟨b,q,none⟩ m).run P w= .ok vs.toArray w:=by
 unfold loadCells;rw[aew m 0 #[] vs hm (λj d=>?_)]
 simp
 rw[add_plain,il];have:=c.get j I;have a:j<W vs:=I;rw[h.cell hi (this.trans (gW a))];exact(gW a).symm
class mc(P:Program)(T:TypeId)(s:outParam Nat):Prop where
 agg: ∀w,(isAgg T).run P w= .ok true w
 size: ∀w,(sizeOf T).run P w= .ok s w
def jx{T:TT}{T':TypeId}[h1:mc P T' s](vs:List Value)(h:H r w L)(a:Env.ev ρ x= .pointer (some ⟨b,q,none⟩)) [hb:Has L b l T i](c:Rd l q vs)(d:W vs=s):run P ρ (.load T' x) ty w= .ok (.value (.agg vs.toArray)) w:=by
 have e:=h1.agg w;have hs:=h1.size w;have:=D4 (P:=P) h hb.at_ c d;simp[run,execOp,a,Instr.loadAt,Instr.sureAddr,loadVar,e,hs,this]
def dm(l:List Value)(q:Nat):List Value->List Value
 | []=>l
 |v::vs=>dm (l.set q v) (q+1) vs
def MD: ∀(vs:List Value) (l:List Value) (q:Nat),W (dm l q vs)=W l
 | [],_,_=>rfl
 |v::vs,l,q=>by rw[dm,MD];simp
def QN: ∀(vs:List Value) (l:List Value) (q j:Nat),(dm l q vs)[j]? =if q<=j/\j<q+W vs/\j<W l then vs[j-q]? else l[j]?
 | [],l,q,j=>by rw[dm,aj (λh=>by have h1:=h.1;have h2:=h.2.1;simp only[eW]at h2;omega)]
 | v::vs,l,q,j=>by
  rw[dm,QN vs (l.set q v) (q+1) j];simp only[dW,dL];by_cases h1:j=q
  subst h1;rw[aj I];by_cases h2:j<W l
  rw[ao ⟨aW _,by omega,h2⟩];simp[h2]
  rw[aj I];simp[h2]
  by_cases h2:q+1<=j/\j<q+1+W vs/\j<W l
  rw[ao h2,ao I];have:j-q=(j- (q+1))+1:=I;rw[this];simp
  rw[aj h2,aj I];rw[BI (λe=>h1 e.symm)]
def BY(vs l:List Value)(q:Nat)(h:q+W vs<=W l):dm l q vs=l.take q++vs++l.drop (q+W vs):=by
 apply nR;intro j;rw[QN,bV,WN];simp only[fR,l9 (show q<=W l by omega)];by_cases h1:j<q
 rw[aj I,ao h1];simp[h1]
 rw[aj h1,WN];by_cases h2:j-q<W vs
 rw[ao I,ao h2]
 rw[aj I,aj h2,nQ];congr 1;omega
def D5: ∀(vs:List Value) (w:World) (L:List aK) (l:List Value) (q j:Nat),H r w L->L[i]? =some (some b,C l T)->(∀v∈vs,plain v=true)->q+j+W vs<=W l-> ∃w',(storeCells ⟨b,q,none⟩ vs j).run P w= .ok () w'/\H r w' (L.set i (some b,C (dm l (q+j) vs) T))/\w'.heap.size=w.heap.size/\w'.drawn=w.drawn
 | [],w,L,l,q,j,h,hi,_,_=>by
  refine⟨w,by simp[storeCells],?_,J,J⟩;simp only[dm];have a:i<W L:=(qP.1 hi).1
  have e:L.set i (some b,C l T)=L:=by
   apply nR;intro k;rw[vV];split
   rename_i e;subst e;exact hi.symm
   rfl
  rw[e];exact h
 | v::vs,w,L,l,q,j,h,hi,hp,c=>by
  simp only[dL]at c;have d:q+j<W l:=I;have f:=h.cell hi (gW d);have g:=h.free hi (q+j);have m:=h.store hi (q:=q+j) v;have a:i<W L:=(qP.1 hi).1;obtain⟨w',n,e2,o,p⟩:=D5 vs (w.setCell ⟨b,q+j,none⟩ v) _ (l.set (q+j) v) q (j+1) m (by simp[a]) (λu hu=>hp u (aA hu)) (by simp;omega);refine⟨w',?_,?_,by rw[o];simp[World.setCell],by rw[p];rfl⟩
  have s:=hp v bZ;simp only[storeCells];have t:(store ((⟨b,q,none⟩:Addr).add j) v).run P w= .ok () (w.setCell ⟨b,q+j,none⟩ v):=(by rw[add_plain];cases v<;>simp[plain]at s<;>simp[store,Sem.run,f,g]);simp[t,n]
  simpa [dm,fL] using e2
end
end Go.Z
