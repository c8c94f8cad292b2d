/- Part 1 of the proof. -/
import Derived.Deep.Quiet
import Derived.WalkKit
set_option linter.all false
set_option maxRecDepth 20000
set_option maxHeartbeats 400000000
namespace Go.Z
open Go
abbrev ag:=@if_neg
abbrev ai:=@if_pos
abbrev aF:=@List.length_append
abbrev aI:=@Nat.le_trans
abbrev aR:=@Nat.le_refl
abbrev aY:=@Exists.elim
abbrev bP:=@Nat.zero_le
abbrev bS:=@List.getD_eq_getElem?_getD
abbrev bV:=@List.length_drop
abbrev bX:=@List.length_map
abbrev b8:=@congrArg
abbrev cF:=@List.append_assoc
abbrev dh:=@Nat.lt_or_ge
abbrev dp:=@Nat.pow_le_pow_right
abbrev dD:=@List.length_set
abbrev dH:=@Nat.mod_lt
abbrev dP:=@List.append_nil
abbrev dR:=@List.length_replicate
abbrev ek:=@List.length_cons
abbrev ep:=@Nat.two_pow_pos
abbrev eC:=@Nat.mul_one
abbrev e_:=@List.mem_cons_self
abbrev fe:=@List.mem_append_right
abbrev ff:=@Nat.le_of_ble_eq_true
abbrev fE:=@List.length_nil
abbrev f_:=@List.map_append
abbrev gk:=@List.length_take
abbrev gv:=@List.getElem?_eq_getElem
abbrev gP:=@List.getElem?_eq_none
abbrev gQ:=@Nat.add_assoc
abbrev im:=@Nat.zero_add
abbrev ir:=@List.getElem?_append_left
abbrev iu:=@Nat.mul_comm
abbrev jd:=@List.mem_map
abbrev je:=@List.mem_singleton
abbrev jf:=@List.take_of_length_le
abbrev jM:=@List.map_set
abbrev jT:=@Nat.pow_succ
abbrev j6:=@Nat.div_le_self
abbrev j7:=@List.drop_drop
abbrev kq:=@List.length_eq_zero_iff
abbrev ks:=@Nat.pow_add
abbrev kK:=@List.getElem?_map
abbrev kU:=@Nat.add_zero
abbrev mu:=@List.mem_cons_of_mem
abbrev mw:=@Nat.mod_eq_of_lt
abbrev mx:=@Nat.min_eq_left
abbrev mR:=@List.mem_cons
abbrev mS:=@Nat.le_add_right
abbrev ni:=@List.mem_append_left
abbrev nj:=@Decidable.not_not
abbrev nL:=@List.mem_append
abbrev nM:=@Bool.and_eq_true
abbrev nN:=@List.getElem?_append_right
abbrev nO:=@Nat.eq_zero_or_pos
abbrev nP:=@Nat.not_lt_zero
abbrev oE:=@List.getElem?_drop
abbrev oF:=@List.ext_getElem?
abbrev oX:=@List.mem_range
abbrev pS:=@Prod.mk.injEq
abbrev pT:=@List.getElem?_take
abbrev pU:=@List.range_succ
abbrev pV:=@List.take_zero
abbrev qH:=@Nat.add_mul
abbrev qI:=@Nat.log2_lt
abbrev ry:=@Nat.lt_of_lt_of_le
abbrev rz:=@Nat.one_mul
abbrev se:=@Array.getD_eq_getD_getElem?
abbrev sf:=@List.getElem?_eq_some_iff
abbrev si:=@List.perm_middle
abbrev sj:=@Nat.mul_le_mul_right
abbrev sk:=@Nat.div_div_eq_div_mul
abbrev sr:=@Nat.mul_le_mul
abbrev ss:=@Option.bind_some
abbrev tf:=@of_decide_eq_true
abbrev tg:=@Nat.mul_assoc
abbrev uJ:=@List.mem_of_getElem?
abbrev uK:=@List.getElem?_set
abbrev uL:=@List.all_eq_true
abbrev uM:=@List.getElem?_replicate
abbrev uN:=@Option.map_some
abbrev uO:=@Nat.add_sub_cancel_left
abbrev vU:=@Nat.succ_mul
abbrev vV:=@Nat.sub_le
abbrev vW:=@Nat.lt_of_not_le
abbrev vX:=@List.map_replicate
abbrev vY:=@Nat.lt_succ_iff_lt_or_eq
abbrev vZ:=@Option.some.inj
abbrev v7:=@Nat.two_pow_add_eq_or_of_lt
abbrev xC:=@Nat.lt_irrefl
abbrev xD:=@List.take_append_drop
abbrev xE:=@Nat.mul_le_mul_left
abbrev xF:=@decide_eq_true
abbrev xG:=@List.drop_of_length_le
abbrev y':=@List.getD_cons_succ
abbrev za:=@List.getElem_mem
abbrev zb:=@Nat.lt_log2_self
abbrev zc:=@Nat.add_sub_cancel
abbrev zd:=@List.drop_append_of_le_length
abbrev Ay:=@Nat.add_comm
abbrev Az:=@List.getElem?_set_ne
abbrev AB:=@Nat.le_of_lt
abbrev AD:=@List.getElem?_range
abbrev AE:=@Nat.sub_self
abbrev AF:=@List.getD_cons_zero
abbrev AG:=@List.length_range
abbrev CA:=@List.filterMap_cons
abbrev CB:=@Nat.div_eq_of_lt
abbrev CC:=@Array.getElem!_eq_getD
abbrev CD:=@List.getElem_of_mem
abbrev CE:=@List.replicate_succ'
abbrev CF:=@Nat.pow_one
abbrev CG:=@List.drop_zero
abbrev CH:=@Nat.not_lt
abbrev ES:=@Nat.blt_eq
abbrev ET:=@Array.getElem?_eq_none
abbrev EU:=@Nat.min_eq_right
abbrev EV:=@Bool.or_eq_true
abbrev EW:=@List.map_cons
abbrev EX:=@Array.toList_inj
abbrev EY:=@List.drop_append
abbrev EZ:=@Nat.pow_succ'
abbrev E0:=@List.flatMap_cons
abbrev E4:=@List.map_nil
abbrev E5:=@Nat.and_two_pow_sub_one_eq_mod
abbrev E6:=@Classical.not_not
abbrev E7:=@Nat.lt_succ_self
abbrev HO:=@if_true
abbrev HP:=@List.getElem?_of_mem
abbrev HQ:=@Bool.not_eq_true'
abbrev HR:=@beq_iff_eq
abbrev HS:=@List.drop_take
abbrev HT:=@List.set_append_right
abbrev HU:=@Nat.log2_self_le
abbrev HV:=@List.map_map
abbrev HW:=@List.replicate_succ
abbrev HX:=@List.replicate_append_replicate
abbrev HZ:=@List.length_singleton
abbrev H0:=@List.replicate_zero
abbrev H2:=@Nat.shiftRight_eq_div_pow
abbrev H3:=@decide_eq_false
abbrev H4:=@Nat.le_log2
abbrev H5:=@Nat.le_div_iff_mul_le
abbrev H6:=@Nat.succ_pos
abbrev H7:=@Nat.lt_succ_of_le
abbrev KQ:=@List.mem_filterMap
abbrev KR:=@Nat.xor_lt_two_pow
abbrev KS:=@List.any_eq_true
abbrev KT:=@Nat.mul_add
abbrev KU:=@Nat.pow_mul
abbrev KV:=@List.foldl_cons
abbrev KW:=@List.take_take
abbrev KX:=@Nat.sub_zero
abbrev KY:=@List.set_append_left
abbrev KZ:=@List.set_set
abbrev K0:=@Nat.pow_lt_pow_iff_right
abbrev K1:=@List.take_length
abbrev K2:=@Nat.le_of_lt_succ
abbrev K3:=@Nat.le_of_not_lt
abbrev K4:=@Nat.pow_dvd_pow
abbrev K5:=@Nat.pow_zero
abbrev K6:=@List.flatMap_append
abbrev K7:=@Nat.div_add_mod
abbrev K8:=@UInt8.toNat_inj
abbrev OL:=@cond_false
abbrev OM:=@List.nodup_append
abbrev ON:=@Option.some.injEq
abbrev OO:=@List.mem_filter
abbrev OP:=@Array.getElem?_eq_some_iff
abbrev OQ:=@Nat.mod_mul_right_div_self
abbrev OR:=@Nat.mod_mul
abbrev OS:=@Nat.or_comm
abbrev OT:=@List.foldl_append
abbrev OU:=@List.foldl_nil
abbrev OV:=@List.countP_append
abbrev OW:=@List.countP_cons
abbrev OX:=@List.countP_map
abbrev OY:=@List.mem_replicate
abbrev OZ:=@Nat.div_pos
abbrev O0:=@Nat.lt_trans
abbrev O5:=@Nat.eq_of_testBit_eq
abbrev O6:=@Nat.min_le_left
abbrev O7:=@Nat.div_lt_iff_lt_mul
abbrev O8:=@Option.map_eq_some_iff
abbrev O9:=@Nat.add_le_add_left
abbrev O_:=@Nat.add_mul_div_left
abbrev O':=@Nat.mod_mod_of_dvd
abbrev Pa:=@Nat.add_mul_mod_self_left
abbrev Pb:=@Nat.mul_succ
abbrev Pc:=@Nat.dvd_refl
abbrev Pd:=@Int.le_refl
abbrev Pe:=@List.drop_left'
abbrev Pf:=@UInt8.toNat_ofNat'
abbrev Pg:=@List.filter_append
abbrev Ve:=@Nat.eq_of_beq_eq_true
abbrev Vf:=@of_decide_eq_false
abbrev Vg:=@List.nodup_cons
abbrev Vh:=@Nat.ne_of_lt
abbrev Vi:=@Array.getElem?_modify
abbrev Vj:=@List.eq_nil_iff_forall_not_mem
abbrev Vk:=@Array.all_eq_true_iff_forall_mem
abbrev Vl:=@List.size_toArray
abbrev Vm:=@List.all_cons
abbrev Vn:=@Nat.and_le_right
abbrev Vo:=@List.getElem?_append
abbrev Vp:=@List.nodup_range
abbrev Vq:=@Nat.log2_eq_iff
abbrev Vr:=@Nat.lt_of_le_of_lt
abbrev Vs:=@List.map_take
abbrev Vt:=@List.map_drop
abbrev Vu:=@Nat.min_le_right
abbrev Vv:=@Nat.testBit_shiftRight
abbrev Vw:=@List.take_add
abbrev Vx:=@Option.ne_none_iff_exists'
abbrev Vy:=@Nat.mul_zero
abbrev Vz:=@List.take_append_of_le_length
abbrev VA:=@List.map_congr_left
abbrev VB:=@List.Perm.append_left
abbrev VC:=@List.range_zero
abbrev VD:=@List.take_left'
abbrev VE:=@Array.getElem?_toList
abbrev VF:=@Nat.testBit_or
abbrev VG:=@Nat.testBit_two_pow
abbrev VH:=@Nat.testBit_two_pow_mul_add
abbrev VI:=@Int.toNat_natCast
abbrev VJ:=@List.pairwise_iff_getElem
abbrev VK:=@Array.mk.injEq
theorem J{α:Sort _}{a:α}:a=a:=rfl
variable {c x y:Code}{id:Nat}{w':World}
abbrev Env:=Nat->Value
def Env.set(ρ:Env)(d:Nat)(v:Value):Env:=λt=>bif Nat.beq t d then v else ρ t
def Env.put(ρ:Env):Option Nat->Value->Env
 |some d,v=>Env.set ρ d v
 |none,_=>ρ
def Env.ev(ρ:Env):Operand->Value
 | .tmp t=>ρ t
 | .const v=>v
 | .global g=> .pointer (some ⟨g,0,none⟩)
 | .func f=> .func (.func f) #[] #[]
def lx(a:Act):Env:=λt=>a.tmps.getD t undef
theorem pW(a:Act):a.eval=Env.ev (lx a):=by
 funext x;cases x<;>rfl
def aV(n:Nat):Option Nat->Bool
 |some d=>Nat.blt d n
 |none=>true
theorem H8{a b:Nat}(h: ¬a=b):Nat.beq a b=false:=by
 cases hb:Nat.beq a b with
 |false=>rfl
 |true=>exact absurd (Ve hb) h
theorem size_put(a:Act)(d:Option Nat)(v:Value):(a.put d v).tmps.size=a.tmps.size:=by
 cases d<;>simp[Act.put]
theorem nQ(a:Act)(d:Option Nat)(v:Value):(a.put d v).defers=a.defers:=by
 cases d<;>simp[Act.put]
theorem nR(a:Act)(d:Option Nat)(v:Value)(h:aV a.tmps.size d=true):lx (a.put d v)=Env.put (lx a) d v:=by
 cases d with
 |none=>rfl
 | some d=>
   funext t
   have hd:d<a.tmps.size:=by simpa [aV,ES] using h
   simp only[lx,Act.put,Env.put,Env.set,se]
   by_cases e:t=d
   . subst e;simp[hd]
   . simp[H8 e,Array.getElem?_setIfInBounds_ne (Ne.symm e)]
abbrev gw:=Exit->Env->World->Prop
def up(n:Nat)(K:gw):Exit->Act->World->Prop:=λe a w=>a.tmps.size=n/\a.defers=[]/\K e (lx a) w
def Z_(P:Program)(n:Nat)(c:Code)(K:gw)(ρ:Env)(w:World):Prop:=
 ∀a:Act,a.tmps.size=n->a.defers=[]->lx a=ρ->c.wp P (up n K) a w
def O(P:Program)(n:Nat)(all:Array Oper)(l:List Oper)(K:gw)(ρ:Env)(w:World):Prop:=
 ∀a:Act,a.tmps.size=n->a.defers=[]->lx a=ρ->wpList P all (up n K) l a w
def v8(next:Env->World->Prop)(K:gw):gw:=fun
 | .normal,ρ,w=>next ρ w
 |e,ρ,w=>K e ρ w
def E8(id:Nat)(K:gw):gw:=fun
 | .exit H9,ρ,w=>bif Nat.beq H9 id then K .normal ρ w else K (.exit H9) ρ w
 |e,ρ,w=>K e ρ w
section
variable {P:Program}{n:Nat}{K K':gw}{ρ:Env}{w:World}
theorem Z_.mono(h:Z_ P n c K ρ w)(hk: ∀e ρ w,K e ρ w->K' e ρ w):Z_ P n c K' ρ w:=
 λa W h2 h3=>wp_mono (h a W h2 h3) λ_ _ _ ⟨q1,q2,q3⟩=>⟨q1,q2,hk _ _ _ q3⟩
theorem a9(h:Z_ P n x (v8 (Z_ P n y K) K) ρ w):Z_ P n (.seq x y) K ρ w:=by
 intro a W h2 h3;refine wp_seq (wp_mono (h a W h2 h3) ?_);rintro e a' w' ⟨q1,q2,q3⟩;(cases e<;>first|exact q3 a' q1 q2 J|exact⟨q1,q2,q3⟩)
theorem anj(M:Env->World->Prop){x y:Code}(h:Z_ P n x (v8 M K) ρ w)(hm: ∀ρ w,M ρ w->Z_ P n y K ρ w):Z_ P n (.seq x y) K ρ w:=
 a9 (h.mono λe ρ w q=>by cases e<;>first|exact hm _ _ q|exact q)
theorem aQ(h:K .normal ρ w):Z_ P n .skip K ρ w:=λa W h2 h3=>wp_skip ⟨W,h2,by rw[h3];exact h⟩
theorem iG(h:K .ret ρ w):Z_ P n .ret K ρ w:=λa W h2 h3=>wp_ret ⟨W,h2,by rw[h3];exact h⟩
theorem iy(h:K (.exit id) ρ w):Z_ P n (.exit id) K ρ w:=λa W h2 h3=>wp_exit ⟨W,h2,by rw[h3];exact h⟩
theorem ank(h:K (.goto id) ρ w):Z_ P n (.goto id) K ρ w:=λa W h2 h3=>wp_goto ⟨W,h2,by rw[h3];exact h⟩
theorem ze(h:Z_ P n c (E8 id K) ρ w):Z_ P n (.block id c) K ρ w:=by
 intro a W h2 h3;refine wp_block (wp_mono (h a W h2 h3) ?_);rintro e a' w' ⟨q1,q2,q3⟩
 cases e with
 | exit H9=>
   simp only[Exit.inBlock]
   by_cases e:H9=id
   . subst e;simp only[E8,Nat.beq_refl,cond_true]at q3;simp only[HO];exact⟨q1,q2,q3⟩
   . have:=H8 e
     simp only[E8,this,OL]at q3;simp only[ag e];exact⟨q1,q2,q3⟩
 |_=>exact⟨q1,q2,q3⟩
theorem anl(M:Env->World->Prop)(h:Z_ P n c (E8 id (v8 M K)) ρ w)(hm: ∀ρ w,M ρ w->K .normal ρ w):Z_ P n (.block id c) K ρ w:=
 ze (h.mono λe ρ w q=>by
   cases e with
   | exit H9=>
     simp only[E8]at q ⊢
     cases hb:Nat.beq H9 id
     . rw[hb]at q;exact q
     . rw[hb]at q;exact hm _ _ q
   |normal=>exact hm _ _ q
   |_=>exact q)
theorem eA{c:Operand}{t:Bool}(hc:Env.ev ρ c= .bool t)(ht:t=true->Z_ P n x K ρ w)(hf:t=false->Z_ P n y K ρ w):Z_ P n (.cond c x y) K ρ w:=by
 intro a W h2 h3;refine wp_cond_split (t:=t) (by rw[pW,h3];exact hc) (λe=>ht e a W h2 h3) (λe=>hf e a W h2 h3)
theorem an{c:Operand}{p:Prop}[Decidable p](hc:Env.ev ρ c= .bool (decide p))(ht:p->Z_ P n x K ρ w)(hf: ¬p->Z_ P n y K ρ w):Z_ P n (.cond c x y) K ρ w:=
 eA hc (λh=>ht (tf h)) (λh=>hf (Vf h))
theorem iI{c:Operand}(hc:Env.ev ρ c= .bool true)(ht:Z_ P n x K ρ w):Z_ P n (.cond c x y) K ρ w:=
 eA hc (λ_=>ht) (λh=>by cases h)
theorem fV{c:Operand}(hc:Env.ev ρ c= .bool false)(ht:Z_ P n y K ρ w):Z_ P n (.cond c x y) K ρ w:=
 eA hc (λh=>by cases h) (λ_=>ht)
theorem anm{σ:Type}(Z7:σ->Env->World->Prop)(m:σ->Nat)(s:σ)(h:Z7 s ρ w)(round: ∀s ρ w,Z7 s ρ w->Z_ P n c (v8 (λbj w'=> ∃s',m s'<m s/\Z7 s' bj w') K) ρ w):Z_ P n (.loop c) K ρ w:=by
 intro a W h2 h3 b k cs
 have key: ∀j s a w,m s=j->a.tmps.size=n->a.defers=[]->Z7 s (lx a) w->
     ∃e a' w',up n K e a' w'/\Arrives P (lone (b.at a (.code c:: .inLoop c::k)) cs w) b k cs e a' w':=by
   intro j
   induction j using Nat.strongRecOn with
   | _ j ih=>
     intro s a w hj W h2 hI
     obtain⟨e,uP,uQ,⟨q1,q2,q3⟩,qJ⟩:=round s _ w hI a W h2 J b (.inLoop c::k) cs
     cases e with
     | normal=>
       obtain⟨s',cP,K9⟩:=q3
       obtain⟨VL,VM,VN,VO,VP⟩:=ih (m s') (hj▸cP) s' uP uQ J q1 q2 K9
       exact⟨VL,VM,VN,VO,.of_steps (Steps.trans qJ (.one step_inLoop)) VP⟩
     |exit id=>exact⟨_,uP,uQ,⟨q1,q2,q3⟩,.pass (x:= .inLoop c) J (λ_ _=> .inl (by simp)) qJ⟩
     |goto l=>exact⟨_,uP,uQ,⟨q1,q2,q3⟩,.pass (x:= .inLoop c) J (λ_ _=> .inl (by simp)) qJ⟩
     |ret=>exact⟨_,uP,uQ,⟨q1,q2,q3⟩,.pass (x:= .inLoop c) J (λ_ _=> .inl (by simp)) qJ⟩
     |panic ch=>exact⟨_,uP,uQ,⟨q1,q2,q3⟩,.pass (x:= .inLoop c) J (λ_ _=> .inl (by simp)) qJ⟩
     |outgrown=>exact⟨_,uP,uQ,⟨q1,q2,q3⟩,.pass (x:= .inLoop c) J (λ_ _=> .inl (by simp)) qJ⟩
 obtain⟨e,a',w',hq,qJ⟩:=key _ s a w J W h2 (h3▸h);exact⟨e,a',w',hq,.of_steps (.one step_loop) qJ⟩
theorem eS{l:List Oper}(h:O P n l.toArray l K ρ w):Z_ P n (.region id l.toArray false) K ρ w:=
 λa W h2 h3=>wp_region_lit (h a W h2 h3)
theorem aC{all:Array Oper}(h:K .normal ρ w):O P n all [] K ρ w:=λa W h2 h3=>wpList_nil ⟨W,h2,by rw[h3];exact h⟩
variable {all:Array Oper}{rest:List Oper}{d:Option Nat}{op:Op}{ty:TypeId}{pos:String}{aN:Array Edge}
abbrev run(P:Program)(ρ:Env)(op:Op)(ty:TypeId)(w:World):Result Next:=(execOp (Env.ev ρ) {dst:=none,op:=op,type:=ty,pos:= "",after:= #[],guard:=none}).run P w
theorem qK(ev:Operand->Value)(o:Oper):execOp ev o=execOp ev {dst:=none,op:=o.op,type:=o.type,pos:= "",after:= #[],guard:=none}:=by
 cases o;rfl
theorem gf{v:Value}(hr:run P ρ op ty w= .ok (.value v) w')(hd:aV n d=true)(h:O P n all rest K (Env.put ρ d v) w'):O P n all ({dst:=d,op:=op,type:=ty,pos:=pos,after:=aN,guard:=none}::rest) K ρ w:=by
 intro a W h2 h3;refine wpList_step λK' hK=>?_;simp only[Region.wanted,HO,Oper.wp];rw[pW,h3,qK];simp only[run]at hr;rw[hr];refine hK _ _ (h _ (by rw[size_put,W]) (by rw[nQ,h2]) ?_);rw[nR a d v (by rw[W];exact hd),h3]
theorem acE(hr:run P ρ op ty w= .ok .skip w')(hd:aV n d=true)(h:O P n all rest K (Env.put ρ d undef) w'):O P n all ({dst:=d,op:=op,type:=ty,pos:=pos,after:=aN,guard:=none}::rest) K ρ w:=by
 intro a W h2 h3;refine wpList_step λK' hK=>?_;simp only[Region.wanted,HO,Oper.wp];rw[pW,h3,qK];simp only[run]at hr;rw[hr];refine hK _ _ (h _ (by rw[size_put,W]) (by rw[nQ,h2]) ?_);rw[nR a d undef (by rw[W];exact hd),h3]
theorem K_{f:FuncId}{args:Array Value}(hr:run P ρ op ty w= .ok (.enter f args) w')(hd:aV n d=true)(h:Calls P f args w' λe AH=> ∃v,e= .returned v/\O P n all rest K (Env.put ρ d v) AH):O P n all ({dst:=d,op:=op,type:=ty,pos:=pos,after:=aN,guard:=none}::rest) K ρ w:=by
 intro a W h2 h3;refine wpList_step λK' hK=>?_;simp only[Region.wanted,HO,Oper.wp];rw[pW,h3,qK];simp only[run]at hr;rw[hr];refine h.mono ?_;rintro e AH ⟨v,rfl,h'⟩;refine hK _ _ (h' _ (by rw[size_put,W]) (by rw[nQ,h2]) ?_);rw[nR a d v (by rw[W];exact hd),h3]
end
attribute [irreducible] Z_ O
section
variable {i:Nat}{o':Obj}
abbrev dQ:=(Nat->Question->Nat)×Os×Array (Nat×ByteArray)
def CI(w:World):dQ:=(w.tape,w.os,w.output)
abbrev aD:=Option Nat×Obj
abbrev TT:=TypeId×(Nat×Nat)
instance aF4:Coe TypeId TT:=⟨λn=>(n,(0,0))⟩
instance aF5(n:Nat):OfNat TT n:=⟨(n,(0,0))⟩
def C(l:List Value)(T:TT):Obj:=Obj.cells ⟨l⟩ T.1 T.2
structure H(r:dQ)(w:World)(L:List aD):Prop where
 rest:CI w=r
 nodup:(L.filterMap (·.1)).Nodup
 eH: ∀b o,(some b,o)∈L->w.heap[b]? =some o
variable {r:dQ}{w:World}{L L':List aD}{b:Nat}{l:List Value}{T:TT}{o:Obj}
theorem H.perm(h:H r w L)(hp:L.Perm L'):H r w L':=
 ⟨h.rest,(hp.filterMap _).nodup_iff.1 h.nodup,λb o hm=>h.eH b o (hp.mem_iff.2 hm)⟩
def dB{α:Type}:Nat->List α->List α
 |0,l=>l
 |_,[]=> []
 | i+1,x::l=>match dB i l with
   | []=> [x]
   |y::l'=>y::x::l'
theorem acF{α:Type}: ∀(i:Nat) (l:List α),l.Perm (dB i l)
 |0,l=> .refl _
 |i+1,[]=> .refl _
 | i+1,x::l=>by
  have h:=acF i l;simp only[dB];split
  . rename_i e;rw[e]at h;exact h.cons x
  rename_i y l' e;rw[e]at h;exact(h.cons x).trans (.swap _ _ _)
theorem H.mv(h:H r w L)(i:Nat):H r w (dB i L):=h.perm (acF i L)
theorem H.tail{e:aD}(h:H r w (e::L)):H r w L:=
 ⟨h.rest,by have:=h.nodup;cases he:e.1<;>simp[CA,he]at this<;>first|exact this|exact this.2,λb o hm=>h.eH b o (mu _ hm)⟩
theorem H.ghost(h:H r w L)(o:Obj):H r w ((none,o)::L):=
 ⟨h.rest,by simpa [CA] using h.nodup,λb o' hm=>by
   rcases mR.1 hm with e|hm
   . cases e
   . exact h.eH b o' hm⟩
theorem H.lt(h:H r w L)(hm:(some b,o)∈L):b<w.heap.size:=by
 have:=h.eH b o hm;rcases dh b w.heap.size with h'|h'
 . exact h'
 rw[ET h']at this;cases this
theorem H.drew(h:H r w L):H r {w with drawn:=w.drawn+1} L:=⟨h.rest,h.nodup,h.eH⟩
theorem H.alloc(h:H r w L)(o:Obj):H r (w.alloc o) ((some w.heap.size,o)::L):=by
 refine⟨h.rest,?_,λb o' hm=>?_⟩
 . simp only[CA];refine Vg.2 ⟨λhm=>?_,h.nodup⟩;obtain⟨⟨b,o'⟩,hm,e⟩:=KQ.1 hm;simp only at e;subst e;exact xC _ (h.lt hm)
 rcases mR.1 hm with e|hm
 . cases e;show(w.heap.push o)[w.heap.size]? =some o;simp
 have:=h.lt hm;have e2:=h.eH b o' hm;show(w.heap.push o)[b]? =some o';rw[Array.getElem?_push,ag (Vh this)];exact e2
theorem acG: ∀{L:List aD} {i j:Nat} {b:Nat} {o o':Obj},(L.filterMap (·.1)).Nodup->L[i]? =some (some b,o)->L[j]? =some (some b,o')->i=j
 | [],_,_,_,_,_,_,h,_=>by simp at h
 | (k,x)::L,i,j,b,o,o',hn,hi,hj=>by
  have hn':(L.filterMap (·.1)).Nodup:=(by(cases k<;>simp[CA]at hn<;>first|exact hn|exact hn.2));have hk: ∀{q:Obj} {m:Nat},L[m]? =some (some b,q)->k≠some b:=(by intro q m hm e;subst e;simp only[CA,Vg]at hn;exact hn.1 (KQ.2 ⟨(some b,q),uJ hm,J⟩))
  cases i with
  | zero=>
    cases j with
    |zero=>rfl
    |succ j=>simp at hi hj;exact absurd hi.1 (hk hj)
  | succ i=>
    cases j with
    |zero=>simp at hi hj;exact absurd hj.1 (hk hi)
    |succ j=>simp at hi hj;rw[acG hn' hi hj]
theorem ann{L:List aD}{k:Option Nat}{o:Obj}(hi:L[i]? =some (k,o)):(L.set i (k,o')).filterMap (·.1)=L.filterMap (·.1):=by
 induction L generalizing i with
 |nil=>simp at hi
 | cons x L ih=>
   cases i with
   |zero=>simp at hi;subst hi;simp[CA]
   |succ i=>simp at hi;simp only[List.set_cons_succ,CA];rw[ih hi]
theorem H.eX{o:Obj}(h:H r w L)(hi:L[i]? =some (some b,o))(hr:CI w'=CI w)(hb:w'.heap[b]? =some o')(ho: ∀k,k≠b->k<w.heap.size->w'.heap[k]? =w.heap[k]?):H r w' (L.set i (some b,o')):=by
 refine⟨hr.trans h.rest,by rw[ann hi];exact h.nodup,λk q hm=>?_⟩;obtain⟨j,hj⟩:=HP hm;rw[uK]at hj;by_cases e:i=j
 . subst e;rw[ai J]at hj;split at hj
   . cases hj;exact hb
   cases hj
 rw[ag e]at hj;have Ph:=uJ hj;have bY:k≠b:=λe'=>e (by subst e';exact acG h.nodup hi hj);rw[ho k bY (h.lt Ph)];exact h.eH k q Ph
theorem ano(w:World)(a:Addr)(u:Value)(k:Nat)(h:k≠a.block):(w.setCell a u).heap[k]? =w.heap[k]? :=by
 simp only[World.setCell,Vi];rw[ag (Ne.symm h)]
theorem H.store(h:H r w L){i:Nat}(hi:L[i]? =some (some b,C l T)){q:Nat}(v:Value):H r (w.setCell ⟨b,q,none⟩ v) (L.set i (some b,C (l.set q v) T)):=by
 have hb:=h.eH b _ (uJ hi);refine h.eX hi J ?_ (λk hk _=>ano _ _ _ _ hk);simp[World.setCell,Vi,hb,C]
class Has(L:List aD)(b:Nat)(l:outParam (List Value))(T:outParam TT)(i:outParam Nat):Prop where
 at_:L[i]? =some (some b,C l T)
instance Has.head(b:Nat)(l:List Value)(T:TT)(L:List aD):Has ((some b,C l T)::L) b l T 0:=⟨J⟩
instance (priority:=low) Has.tail(e:aD)(L:List aD)(b:Nat)(l:List Value)(T:TT)(i:Nat) [h:Has L b l T i]:Has (e::L) b l T (i+1):=⟨by simpa using h.at_⟩
theorem H.cell(h:H r w L){i:Nat}(hi:L[i]? =some (some b,C l T)){q:Nat}{v:Value}(hv:l[q]? =some v):w.cell? ⟨b,q,none⟩=some v:=by
 have hb:=h.eH b _ (uJ hi);simp[World.cell?,hb,hv,C]
theorem H.free{T:TypeId}(h:H r w L){i:Nat}(hi:L[i]? =some (some b,C l T))(q:Nat):w.frozen? ⟨b,q,none⟩=false:=by
 have hb:=h.eH b _ (uJ hi);simp[World.frozen?,hb,C]
class bO(P:Program)(T:TypeId)(d:outParam TypeDesc):Prop where
 eq:P.underlying T=some d
class One(P:Program)(T:TypeId):Prop where
 agg: ∀w,(isAgg T).run P w= .ok false w
 size: ∀w,(sizeOf T).run P w= .ok 1 w
class cB(P:Program)(T:TypeId)(f:Nat)(off:outParam Nat):Prop where
 at_: ∀(a:Addr) (w:World),(Instr.fieldAt T (.pointer (some a)) f).run P w= .ok (.pointer (some (a.add off))) w
class Body(P:Program)(f:FuncId):Prop where
 run: ∀(args:Array Value) (w:World),(callFunc f args).run P w= .ok (.enter f args) w
section
variable {P:Program}{n:Nat}{K:gw}{ρ:Env}{all:Array Oper}{rest:List Oper}{d:Option Nat}{ty:TypeId}{pos:String}{aN:Array Edge}
theorem uR{x:Operand}{a:Addr}(hx:Env.ev ρ x= .pointer (some a)):run P ρ (.nilCheck x) ty w= .ok (.value (.pointer (some a))) w:=by
 simp[run,execOp,hx]
theorem add_plain(b q k:Nat):(⟨b,q,none⟩:Addr).add k=⟨b,q+k,none⟩:=by
 unfold Addr.add;split
 . subst k;rfl
 rfl
theorem nS{T:TypeId}{f k:Nat}[ho:cB P T f k]{x:Operand}{b q:Nat}(hx:Env.ev ρ x= .pointer (some ⟨b,q,none⟩)):run P ρ (.fieldAddr T x f) ty w= .ok (.value (.pointer (some ⟨b,q+k,none⟩))) w:=by
 have:=ho.at_ ⟨b,q,none⟩ w;rw[add_plain]at this;simp[run,execOp,hx,this]
theorem run_load{T':TypeId}[W:One P T']{x:Operand}{b q i:Nat}{l:List Value}{T:TT}{v:Value}(h:H r w L)(hx:Env.ev ρ x= .pointer (some ⟨b,q,none⟩)) [hb:Has L b l T i](hv:l[q]? =some v):run P ρ (.load T' x) ty w= .ok (.value v) w:=by
 have hc:=h.cell hb.at_ hv;have ha:=W.agg w;simp[run,execOp,hx,Instr.loadAt,Instr.sureAddr,loadVar,ha,load,Sem.run,hc]
end
end
section
variable {t:Bool}{c:Operand}{p:Prop}{ds:TypeDesc}
def aG:IntKind->Nat
 | .i8=>127| .i16=>32767| .i32=>2147483647| .i64=>9223372036854775807
 | .u8=>255| .u16=>65535| .u32=>4294967295| .u64=>18446744073709551615
theorem th(k:IntKind)(a:Nat)(h:a<=aG k):k.wrap (a:Int)=(a:Int):=by
 cases k<;>simp[aG]at h<;>simp[IntKind.wrap,IntKind.bits,IntKind.signed]<;>omega
theorem wrap_i64(x:Int)(h0: -9223372036854775808<=x)(h:x<=9223372036854775807):IntKind.i64.wrap x=x:=by
 simp[IntKind.wrap,IntKind.bits,IntKind.signed];omega
def AI:IntKind->Bool
 | .u8| .u16| .u32| .u64=>true
 |_=>false
theorem Pj(k:IntKind)(a:Nat)(h:AI k=true):k.wrap (a:Int)=((a % (aG k+1):Nat):Int):=by
 cases k<;>simp[AI]at h<;>simp[IntKind.wrap,IntKind.bits,IntKind.signed,aG]
theorem acH(k:IntKind)(a b:Nat)(hb:b<=aG k+1)(h:AI k=true):k.wrap ((a:Int) -b)=(((a+(aG k+1) -b) % (aG k+1):Nat):Int):=by
 cases k<;>simp[AI]at h<;>simp[IntKind.wrap,IntKind.bits,IntKind.signed,aG]at* <;>omega
class ao(x:Int)(a:outParam Nat):Prop where
 eq:x=(a:Int)
instance ao.cast(a:Nat):ao (a:Int) a:=⟨J⟩
instance ao.lit(a:Nat):ao (OfNat.ofNat a:Int) a:=⟨J⟩
variable {P:Program}{ρ:Env}{ty:TypeId}{w:World}{x y:Operand}{k:IntKind}{T T':TypeId}{u v:Int}{a b:Nat}
theorem acI(op:BinOp)(t:TypeId)(x y:Operand)(k k':IntKind)(u v:Int):(eqGuard op t x y (.int k u) (.int k' v)).run P w= .ok () w:=by
 unfold eqGuard;split<;>simp
theorem ku(op:BinOp)(hx:Env.ev ρ x= .int k u)(hy:Env.ev ρ y= .int k v):run P ρ (.binOp op T x y T') ty w=(do let z<-binOp op T (.int k u) (.int k v);pure (Next.value z)).run P w:=by
 simp only[run,execOp,hx,hy];simp[acI]
theorem d_(hx:Env.ev ρ x= .int k u)(hy:Env.ev ρ y= .int k v) [W:ao u a] [h2:ao v b](hb:a+b<=aG k):run P ρ (.binOp .add T x y T') ty w= .ok (.value (.int k ((a+b:Nat):Int))) w:=by
 rw[ku _ hx hy,W.eq,h2.eq];have:=th k (a+b) hb;simp only[Int.natCast_add]at this ⊢;simp[binOp,Op.intArith,this]
theorem oY(hx:Env.ev ρ x= .int k u)(hy:Env.ev ρ y= .int k v) [W:ao u a] [h2:ao v b](hu:AI k=true):run P ρ (.binOp .add T x y T') ty w= .ok (.value (.int k (((a+b) % (aG k+1):Nat):Int))) w:=by
 rw[ku _ hx hy,W.eq,h2.eq,<-Pj k _ hu];simp[binOp,Op.intArith,Int.natCast_add]
theorem iz(hx:Env.ev ρ x= .int k u)(hy:Env.ev ρ y= .int k v) [W:ao u a] [h2:ao v b](hb:b<=a)(ha:a<=aG k):run P ρ (.binOp .sub T x y T') ty w= .ok (.value (.int k ((a-b:Nat):Int))) w:=by
 rw[ku _ hx hy,W.eq,h2.eq];have:=th k (a-b) (by omega);rw[Int.ofNat_sub hb]at this ⊢;simp[binOp,Op.intArith,this]
theorem anp(hx:Env.ev ρ x= .int k u)(hy:Env.ev ρ y= .int k v) [W:ao u a] [h2:ao v b](hb:b<=aG k+1)(hu:AI k=true):run P ρ (.binOp .sub T x y T') ty w= .ok (.value (.int k (((a+(aG k+1) -b) % (aG k+1):Nat):Int))) w:=by
 rw[ku _ hx hy,W.eq,h2.eq,<-acH k _ _ hb hu];simp[binOp,Op.intArith]
theorem AJ(hx:Env.ev ρ x= .int k u)(hy:Env.ev ρ y= .int k v) [W:ao u a] [h2:ao v b](hb:a*b<=aG k):run P ρ (.binOp .mul T x y T') ty w= .ok (.value (.int k ((a*b:Nat):Int))) w:=by
 rw[ku _ hx hy,W.eq,h2.eq];have:=th k (a*b) hb;simp only[Int.natCast_mul]at this ⊢;simp[binOp,Op.intArith,this]
theorem oG(hx:Env.ev ρ x= .int k u)(hy:Env.ev ρ y= .int k v) [W:ao u a] [h2:ao v b](hu:AI k=true):run P ρ (.binOp .mul T x y T') ty w= .ok (.value (.int k (((a*b) % (aG k+1):Nat):Int))) w:=by
 rw[ku _ hx hy,W.eq,h2.eq,<-Pj k _ hu];simp[binOp,Op.intArith,Int.natCast_mul]
theorem H_(hx:Env.ev ρ x= .int .i64 u)(hy:Env.ev ρ y= .int .i64 v)(h0: -9223372036854775808<=u+v)(hb:u+v<=9223372036854775807):run P ρ (.binOp .add T x y T') ty w= .ok (.value (.int .i64 (u+v))) w:=by
 rw[ku _ hx hy];simp[binOp,Op.intArith,wrap_i64 _ h0 hb]
theorem oH(hx:Env.ev ρ x= .int .i64 u)(hy:Env.ev ρ y= .int .i64 v)(h0: -9223372036854775808<=u-v)(hb:u-v<=9223372036854775807):run P ρ (.binOp .sub T x y T') ty w= .ok (.value (.int .i64 (u-v))) w:=by
 rw[ku _ hx hy];simp[binOp,Op.intArith,wrap_i64 _ h0 hb]
theorem mT(hx:Env.ev ρ x= .int k u)(hy:Env.ev ρ y= .int k v) [W:ao u a] [h2:ao v b](hb:0<b)(ha:a<=aG k):run P ρ (.binOp .quo T x y T') ty w= .ok (.value (.int k ((a/b:Nat):Int))) w:=by
 rw[ku _ hx hy,W.eq,h2.eq];have bY: ¬(b=0):=(by omega);have:=th k (a/b) (aI (j6 a b) ha);have e:(a:Int).tdiv (b:Int)=((a/b:Nat):Int):=(by simp[Int.tdiv]);simp only[Int.natCast_ediv]at this e ⊢;simp[binOp,Op.intDiv,bY,e,this]
theorem AK(hx:Env.ev ρ x= .int k u)(hy:Env.ev ρ y= .int k v) [W:ao u a] [h2:ao v b](hb:0<b):run P ρ (.binOp .rem T x y T') ty w= .ok (.value (.int k ((a % b:Nat):Int))) w:=by
 rw[ku _ hx hy,W.eq,h2.eq];have bY: ¬(b=0):=(by omega);have e:(a:Int).tmod (b:Int)=((a % b:Nat):Int):=(by simp[Int.tmod]);simp[binOp,Op.intDiv,bY,e]
theorem acJ(hx:Env.ev ρ x= .int k u)(hy:Env.ev ρ y= .int k v)(bY:v≠0):run P ρ (.binOp .rem T x y T') ty w= .ok (.value (.int k (u.tmod v))) w:=by
 rw[ku _ hx hy];simp[binOp,Op.intDiv,bY]
theorem Pk(hx:Env.ev ρ x= .int k u)(hy:Env.ev ρ y= .int k v) [W:ao u a] [h2:ao v b]:run P ρ (.binOp .lss T x y T') ty w= .ok (.value (.bool (decide (a<b)))) w:=by
 rw[ku _ hx hy,W.eq,h2.eq];simp[binOp,Op.intCmp]
theorem VQ(hx:Env.ev ρ x= .int k u)(hy:Env.ev ρ y= .int k v) [W:ao u a] [h2:ao v b]:run P ρ (.binOp .leq T x y T') ty w= .ok (.value (.bool (decide (a<=b)))) w:=by
 rw[ku _ hx hy,W.eq,h2.eq];simp[binOp,Op.intCmp]
theorem La(hx:Env.ev ρ x= .int k u)(hy:Env.ev ρ y= .int k v) [W:ao u a] [h2:ao v b]:run P ρ (.binOp .gtr T x y T') ty w= .ok (.value (.bool (decide (b<a)))) w:=by
 rw[ku _ hx hy,W.eq,h2.eq];simp[binOp,Op.intCmp]
theorem VR(hx:Env.ev ρ x= .int k u)(hy:Env.ev ρ y= .int k v) [W:ao u a] [h2:ao v b]:run P ρ (.binOp .geq T x y T') ty w= .ok (.value (.bool (decide (b<=a)))) w:=by
 rw[ku _ hx hy,W.eq,h2.eq];simp[binOp,Op.intCmp]
theorem Pl(hx:Env.ev ρ x= .int k u)(hy:Env.ev ρ y= .int k v) [W:ao u a] [h2:ao v b]:run P ρ (.binOp .eql T x y T') ty w= .ok (.value (.bool (decide (a=b)))) w:=by
 rw[ku _ hx hy,W.eq,h2.eq];have e:((a:Int)==(b:Int))=decide (a=b):=(by by_cases h:a=b<;>simp[h]<;>omega);simp[binOp,Op.intCmp,e]
theorem Ia(hx:Env.ev ρ x= .int k u)(hy:Env.ev ρ y= .int k v) [W:ao u a] [h2:ao v b]:run P ρ (.binOp .neq T x y T') ty w= .ok (.value (.bool (decide (¬a=b)))) w:=by
 rw[ku _ hx hy,W.eq,h2.eq];have e:((a:Int) !=(b:Int))=decide (¬a=b):=(by by_cases h:a=b<;>simp[h]<;>omega);simp[binOp,Op.intCmp,e]
theorem qL(hx:Env.ev ρ x= .int k u)(hy:Env.ev ρ y= .int k v):run P ρ (.binOp .lss T x y T') ty w= .ok (.value (.bool (decide (u<v)))) w:=by
 rw[ku _ hx hy];simp[binOp,Op.intCmp]
theorem aF6(hx:Env.ev ρ x= .int k u)(hy:Env.ev ρ y= .int k v):run P ρ (.binOp .leq T x y T') ty w= .ok (.value (.bool (decide (u<=v)))) w:=by
 rw[ku _ hx hy];simp[binOp,Op.intCmp]
theorem VS(hx:Env.ev ρ x= .int k u)(hy:Env.ev ρ y= .int k v):run P ρ (.binOp .gtr T x y T') ty w= .ok (.value (.bool (decide (v<u)))) w:=by
 rw[ku _ hx hy];simp[binOp,Op.intCmp]
theorem zf(hx:Env.ev ρ x= .int k u)(hy:Env.ev ρ y= .int k v):run P ρ (.binOp .geq T x y T') ty w= .ok (.value (.bool (decide (v<=u)))) w:=by
 rw[ku _ hx hy];simp[binOp,Op.intCmp]
theorem Lb(hx:Env.ev ρ x= .int k u)(hy:Env.ev ρ y= .int k v):run P ρ (.binOp .eql T x y T') ty w= .ok (.value (.bool (decide (u=v)))) w:=by
 rw[ku _ hx hy];have e:(u==v)=decide (u=v):=(by by_cases h:u=v<;>simp[h]);simp[binOp,Op.intCmp,e]
theorem VT(hx:Env.ev ρ x= .int k u)(hy:Env.ev ρ y= .int k v):run P ρ (.binOp .neq T x y T') ty w= .ok (.value (.bool (decide (¬u=v)))) w:=by
 rw[ku _ hx hy];have e:(u !=v)=decide (¬u=v):=(by by_cases h:u=v<;>simp[h]);simp[binOp,Op.intCmp,e]
theorem CJ(k:IntKind)(a:Nat)(h:a<=aG k):a<2^k.bits:=by
 cases k<;>simp[aG]at h<;>simp[IntKind.bits]<;>omega
theorem anq(k:IntKind)(a b:Nat)(h:a<=aG k):a&&&b<=aG k:=aI Nat.and_le_left h
theorem Lc(k:IntKind)(a b:Nat)(h:a<=aG k)(h':b<=aG k):a|||b<=aG k:=by
 have: ∀m:Nat,aG k+1=2^m->a|||b<=aG k:=λm hm=>(by have W:a<2^m:=(by omega);have h2:b<2^m:=(by omega);have:=Nat.or_lt_two_pow W h2;omega);cases k
 . exact this 7 J
 . exact this 15 J
 . exact this 31 J
 . exact this 63 J
 . exact this 8 J
 . exact this 16 J
 . exact this 32 J
 exact this 64 J
theorem anr(k:IntKind)(a b:Nat)(h:a<=aG k)(h':b<=aG k):a^^^b<=aG k:=by
 have: ∀m:Nat,aG k+1=2^m->a^^^b<=aG k:=λm hm=>(by have W:a<2^m:=(by omega);have h2:b<2^m:=(by omega);have:=KR W h2;omega);cases k
 . exact this 7 J
 . exact this 15 J
 . exact this 31 J
 . exact this 63 J
 . exact this 8 J
 . exact this 16 J
 . exact this 32 J
 exact this 64 J
theorem xH(hx:Env.ev ρ x= .int k u)(hy:Env.ev ρ y= .int k v) [W:ao u a] [h2:ao v b](ha:a<=aG k)(hb:b<=aG k):run P ρ (.binOp .and T x y T') ty w= .ok (.value (.int k ((a&&&b:Nat):Int))) w:=by
 rw[ku _ hx hy,W.eq,h2.eq];have:=th k (a&&&b) (anq k a b ha);simp[binOp,Op.intBits,BitVec.toNat_and,mw (CJ k a ha),mw (CJ k b hb),this]
theorem eI(hx:Env.ev ρ x= .int k u)(hy:Env.ev ρ y= .int k v) [W:ao u a] [h2:ao v b](ha:a<=aG k)(hb:b<=aG k):run P ρ (.binOp .or T x y T') ty w= .ok (.value (.int k ((a|||b:Nat):Int))) w:=by
 rw[ku _ hx hy,W.eq,h2.eq];have:=th k (a|||b) (Lc k a b ha hb);simp[binOp,Op.intBits,BitVec.toNat_or,mw (CJ k a ha),mw (CJ k b hb),this]
theorem tj(hx:Env.ev ρ x= .int k u)(hy:Env.ev ρ y= .int k v) [W:ao u a] [h2:ao v b](ha:a<=aG k)(hb:b<=aG k):run P ρ (.binOp .xor T x y T') ty w= .ok (.value (.int k ((a^^^b:Nat):Int))) w:=by
 rw[ku _ hx hy,W.eq,h2.eq];have:=th k (a^^^b) (anr k a b ha hb);simp[binOp,Op.intBits,BitVec.toNat_xor,mw (CJ k a ha),mw (CJ k b hb),this]
variable {k':IntKind}
theorem VU(op:BinOp)(hx:Env.ev ρ x= .int k u)(hy:Env.ev ρ y= .int k' v)(hop:op= .shl\/op= .shr):run P ρ (.binOp op T x y T') ty w=(do let z<-Op.shift op k u k' v;pure (Next.value z)).run P w:=by
 rcases hop with rfl|rfl<;>simp only[run,execOp,hx,hy]<;>simp[acI,binOp]
theorem pX(hx:Env.ev ρ x= .int k u)(hy:Env.ev ρ y= .int k' v) [W:ao u a] [h2:ao v b](ha:a<=aG k):run P ρ (.binOp .shr T x y T') ty w= .ok (.value (.int k ((a/2^b:Nat):Int))) w:=by
 rw[VU _ hx hy (.inr J),W.eq,h2.eq];have hn: ¬((b:Int)<0):=(by omega)
 have e:(a:Int).fdiv (2^min b k.bits)=((a/2^b:Nat):Int):=by
  have cP:=CJ k a ha;have h3:(a:Int).fdiv (2^min b k.bits)=((a/2^min b k.bits:Nat):Int):=(by have:=Int.natCast_ediv a (2^min b k.bits);rw[this,Int.fdiv_eq_ediv_of_nonneg _ (by exact_mod_cast bP _)];norm_cast);rw[h3];by_cases hb:b<=k.bits
  . rw[mx hb]
  have h4:k.bits<=b:=(by omega);rw[EU h4,CB cP,CB (ry cP (dp (by omega) h4))]
 simp[Op.shift,hn,e]
theorem dN(hx:Env.ev ρ x= .int k u)(hy:Env.ev ρ y= .int k' v) [W:ao u a] [h2:ao v b](Ib:b<=k.bits)(hb:a*2^b<=aG k):run P ρ (.binOp .shl T x y T') ty w= .ok (.value (.int k ((a*2^b:Nat):Int))) w:=by
 rw[VU _ hx hy (.inl J),W.eq,h2.eq];have hn: ¬((b:Int)<0):=(by omega);have:=th k (a*2^b) hb;have e:((a*2^b:Nat):Int)=(a:Int)*2^b:=(by simp);rw[e]at this ⊢;simp[Op.shift,hn,mx Ib,this]
theorem CK(hx:Env.ev ρ x= .int k u)(hy:Env.ev ρ y= .int k' v) [W:ao u a] [h2:ao v b](Ib:b<=k.bits)(hu:AI k=true):run P ρ (.binOp .shl T x y T') ty w= .ok (.value (.int k ((a*2^b % (aG k+1):Nat):Int))) w:=by
 rw[VU _ hx hy (.inl J),W.eq,h2.eq,<-Pj k _ hu];have hn: ¬((b:Int)<0):=(by omega);simp[Op.shift,hn,mx Ib]
theorem eB[hs:bO P T ds] [ht:bO P T' (.int k)](hx:Env.ev ρ x= .int k' u) [W:ao u a](ha:a<=aG k):run P ρ (.convert T T' x) ty w= .ok (.value (.int k (a:Int))) w:=by
 simp[run,execOp,hx,convert,underlying,program,Sem.run,hs.eq,ht.eq,Conv.intToInt,W.eq,th k a ha]
theorem CL[hs:bO P T ds] [ht:bO P T' (.int k)](hx:Env.ev ρ x= .int k' u) [W:ao u a](hu:AI k=true):run P ρ (.convert T T' x) ty w= .ok (.value (.int k ((a % (aG k+1):Nat):Int))) w:=by
 simp[run,execOp,hx,convert,underlying,program,Sem.run,hs.eq,ht.eq,Conv.intToInt,W.eq,Pj k a hu]
theorem acK[hs:bO P T ds] [ht:bO P T' (.int k)](hx:Env.ev ρ x= .int k' u):run P ρ (.convert T T' x) ty w= .ok (.value (.int k (k.wrap u))) w:=by
 simp[run,execOp,hx,convert,underlying,program,Sem.run,hs.eq,ht.eq,Conv.intToInt]
theorem j8(hx:Env.ev ρ x= .bool t):run P ρ (.unOp .not T x) ty w= .ok (.value (.bool (!t))) w:=by
 simp[run,execOp,hx,Op.unary]
theorem VW[Decidable p](hx:Env.ev ρ x= .bool (decide p)):run P ρ (.unOp .not T x) ty w= .ok (.value (.bool (decide (¬p)))) w:=by
 rw[j8 hx];by_cases h:p<;>simp[h]
theorem VX(hx:Env.ev ρ x= .int .i64 u)(h0: -9223372036854775807<=u)(hb:u<=9223372036854775807):run P ρ (.unOp .neg T x) ty w= .ok (.value (.int .i64 (-u))) w:=by
 simp[run,execOp,hx,Op.unary,Op.intArith,wrap_i64 (-u) (by omega) (by omega)]
theorem ans{va vb:Value}(hc:Env.ev ρ c= .bool t)(hx:Env.ev ρ x=va)(hy:Env.ev ρ y=vb):run P ρ (.pick c x y) ty w= .ok (.value (if t then va else vb)) w:=by
 cases t<;>simp[run,execOp,hc,hx,hy,asBool]
theorem aF7{q s:Prop}[Decidable p] [Decidable q] [Decidable s](hc:Env.ev ρ c= .bool (decide p))(hx:Env.ev ρ x= .bool (decide q))(hy:Env.ev ρ y= .bool (decide s)):run P ρ (.pick c x y) ty w= .ok (.value (.bool (decide ((p/\q)\/(¬p/\s))))) w:=by
 rw[ans hc hx hy];by_cases h:p<;>simp[h]
theorem int_eq{k:IntKind}{u v:Int}(h:u=v):Value.int k u=Value.int k v:=by rw[h]
end
variable {c:Act->World->Prop}{args:Array Value}{b want:Bool}{f:FuncId}{L:List aD}{i t:Nat}{oi oj:Oper}{r:dQ}{w w0 w1:World}{S:World->Prop}
structure eJ(w w':World):Prop where
 rest:CI w'=CI w
 size:w.heap.size<=w'.heap.size
 eH: ∀k,k<w.heap.size->w'.heap[k]? =w.heap[k]?
theorem eJ.refl(w:World):eJ w w:=⟨J,aR _,λ_ _=>rfl⟩
theorem eJ.trans{a b c:World}(h:eJ a b)(h':eJ b c):eJ a c:=
 ⟨h'.rest.trans h.rest,aI h.size h'.size,λk hk=>(h'.eH k (ry hk h.size)).trans (h.eH k hk)⟩
theorem H.keeps(h:H r w L)(hk:eJ w w'):H r w' L:=
 ⟨hk.rest.trans h.rest,h.nodup,λb o hm=>(hk.eH b (h.lt hm)).trans (h.eH b o hm)⟩
theorem eJ.alloc(w:World)(o:Obj):eJ w (w.alloc o):=by
 refine⟨J,?_,λk hk=>?_⟩
 . show w.heap.size<=(w.heap.push o).size;simp
 show(w.heap.push o)[k]? =_;rw[Array.getElem?_push,ag (Vh hk)]
theorem H.full(h:H r w L): ∃F',H r w (L++F')/\ ∀w',H r w' (L++F')->eJ w w':=by
 refine⟨((List.range w.heap.size).filter λb=>!(L.filterMap (·.1)).contains b).map λb=>(some b,w.heap.getD b default),⟨h.rest,?_,λb o hm=>?_⟩,λw' h'=>?_⟩
 . rw[List.filterMap_append,OM];refine⟨h.nodup,?_,λa ha b hb e=>?_⟩
   . rw[List.filterMap_map];have:((λx:aD=>x.1)∘λb=>(some b,w.heap.getD b default))=λb=>some b:=rfl;rw[this];simp only[List.filterMap_some];exact List.nodup_range.filter _
   subst e;obtain⟨x,hx,e⟩:=KQ.1 hb;obtain⟨y,hy,rfl⟩:=jd.1 hx;simp only[ON]at e;subst e;have:=(OO.1 hy).2;simp only[HQ,List.contains_eq_mem,decide_eq_false_iff_not]at this;exact this ha
 . rcases nL.1 hm with hm|hm
   . exact h.eH b o hm
   obtain⟨y,hy,e⟩:=jd.1 hm;simp only[pS,ON]at e;obtain⟨rfl,rfl⟩:=e;have cP:=oX.1 (OO.1 hy).1;simp[cP]
 have hb: ∀k,k<w.heap.size->w'.heap[k]? =w.heap[k]? :=λk hk=>by
  by_cases hc:k∈L.filterMap (·.1)
  . obtain⟨⟨k',o⟩,hm,e⟩:=KQ.1 hc;simp only at e;subst e;rw[h'.eH k o (nL.2 (.inl hm)),h.eH k o hm]
  have hm:((some k,w.heap.getD k default):aD)∈L++(((List.range w.heap.size).filter λb=>!(L.filterMap (·.1)).contains b).map λb=>((some b,w.heap.getD b default):aD)):=(by refine nL.2 (.inr (jd.2 ⟨k,OO.2 ⟨oX.2 hk,?_⟩,J⟩));simp only[HQ,List.contains_eq_mem,decide_eq_false_iff_not];exact hc);rw[h'.eH k _ hm];simp[hk]
 refine⟨h'.rest.trans h.rest.symm,?_,hb⟩;rcases dh w'.heap.size w.heap.size with cP|np
 . have:=hb w'.heap.size cP;rw[ET (aR _)]at this;simp[cP]at this
 exact np
inductive Kd|p|c|g|h
 deriving DecidableEq
section
variable {P:Program}{ops:Array Oper}{Q:Exit->Act->World->Prop}{a:Act}{w:World}
def yl(P:Program)(ops:Array Oper)(S:World->Prop)(o:Oper)(v:Value)(a:Act):Prop:=
 (Region.wanted o (yielded ops a.tmps)=true/\ ∀w',S w'->(execOp a.eval o).run P w'= .ok (.value v) w')\/
 (Region.wanted o (yielded ops a.tmps)=false/\v=undef)
def xI(P:Program)(ops:Array Oper)(k:Kd)(o:Oper)(cont:Act->World->Prop)(a:Act)(w:World):Prop:=
 (Region.wanted o (yielded ops a.tmps)=true/\
   ((∃v w1,(execOp a.eval o).run P w= .ok (.value v) w1/\(k≠ .h->eJ w w1)/\cont (a.put o.dst v) w1)\/
    (∃w1,(execOp a.eval o).run P w= .ok .skip w1/\(k≠ .h->eJ w w1)/\cont (a.put o.dst undef) w1)\/
    (∃f args w0,(execOp a.eval o).run P w= .ok (.enter f args) w0/\Calls P f args w0 λe w1=> ∃v,e= .returned v/\(k≠ .h->eJ w w1)/\cont (a.put o.dst v) w1)))\/
 (Region.wanted o (yielded ops a.tmps)=false/\cont (a.put o.dst undef) w)
inductive Ot
 |nil
 |cons (x:Nat×Kd) (t:Ot)
 |fork (s t:Ot)
def Ot.jU:Ot->List (Nat×Kd)
 | .nil=> []
 | .cons x t=>x::t.jU
 | .fork s _=>s.jU
def Ot.xJ:Ot->List Nat
 | .nil=> []
 | .cons x _=> [x.1]
 | .fork s t=>s.xJ++t.xJ
def Ot.del(j:Nat):Ot->Ot
 | .nil=> .nil
 | .cons x t=>if x.1=j then t else .cons x (t.del j)
 | .fork s t=>if j∈s.xJ then s.del j else t.del j
def tk(P:Program)(ops:Array Oper)(Q:Exit->Act->World->Prop):Ot->Act->World->Prop
 | .nil,a,w=>Q .normal a w
 | .fork s t,a,w=>tk P ops Q s a w/\tk P ops Q t a w
 | .cons (i,k) rest,a,w=> ∃o,ops[i]? =some o/\match k with
   | .p=> ∃v,yl P ops (λ_=>True) o v a/\tk P ops Q rest (a.put o.dst v) w
   | .c=> ∃v,yl P ops (eJ w) o v a/\tk P ops Q rest (a.put o.dst v) w
   |k=>xI P ops k o (tk P ops Q rest) a w
theorem Pm{k:Kd}{o:Oper}{c':Act->World->Prop}(h:xI P ops k o c a w)(hc: ∀v w1,(k≠ .h->eJ w w1)->c (a.put o.dst v) w1->c' (a.put o.dst v) w1):xI P ops k o c' a w:=by
 rcases h with⟨hw,⟨v,w1,W,h2,h3⟩| ⟨w1,W,h2,h3⟩| ⟨f,args,w0,W,h2⟩⟩| ⟨hw,h3⟩
 . exact .inl ⟨hw,.inl ⟨v,w1,W,h2,hc _ _ h2 h3⟩⟩
 . exact .inl ⟨hw,.inr (.inl ⟨w1,W,h2,hc _ _ h2 h3⟩)⟩
 . exact .inl ⟨hw,.inr (.inr ⟨f,args,w0,W,h2.mono λe w1 ⟨v,e1,e2,e3⟩=>⟨v,e1,e2,hc _ _ e2 e3⟩⟩)⟩
 exact .inr ⟨hw,hc _ _ (λ_=>eJ.refl _) h3⟩
theorem acL{k:Kd}{o:Oper}(hi:ops[i]? =some o)(h:xI P ops k o c a w):wpOp P ops Q i c a w:=by
 unfold wpOp;simp only[hi];rcases h with⟨hw,h⟩| ⟨hw,h⟩
 . rw[ai hw];refine .inl ?_;unfold Oper.wp;rcases h with⟨v,w1,W,_,h3⟩| ⟨w1,W,_,h3⟩| ⟨f,args,w0,W,h2⟩
   . rw[W];exact h3
   . rw[W];exact h3
   rw[W];refine h2.mono ?_;rintro e w1 ⟨v,rfl,_,h3⟩;exact h3
 rw[ag (by simp[hw])];exact h
theorem acM{k:Kd}{o:Oper}{v:Value}(h:yl P ops S o v a)(hs:S w)(hc:c (a.put o.dst v) w):xI P ops k o c a w:=by
 rcases h with⟨hw,h⟩| ⟨hw,rfl⟩
 . exact .inl ⟨hw,.inl ⟨v,w,h w hs,λ_=>eJ.refl _,hc⟩⟩
 exact .inr ⟨hw,hc⟩
def acN(ops:Array Oper):Prop:= ∀(j:Nat) (o:Oper) cs b,ops[j]? =some o->o.op≠ .select cs b
theorem acO{k:Kd}{v:Value}(Pn: ∀cs b,oj.op≠ .select cs b)(su:oi.apart ops oj=true)(h:xI P ops k oj c (a.put oi.dst v) w):xI P ops k oj (λa' w1=>c (a'.put oi.dst v) w1) a w:=by
 obtain⟨W,h2,h3⟩:=Oper.apart_spec su;have e1:=execOp_put (ops:=ops) oj Pn a oi.dst v W;have e2:=wanted_put (ops:=ops) oj a oi.dst v W;have e3: ∀u,(a.put oi.dst v).put oj.dst u=(a.put oj.dst u).put oi.dst v:=λu=>Act.put_comm a v u h2;unfold xI at*;rw[e1,e2]at h;rcases h with⟨hw,⟨u,w1,q1,q2,q3⟩| ⟨w1,q1,q2,q3⟩| ⟨f,args,w0,q1,q2⟩⟩| ⟨hw,q3⟩
 . exact .inl ⟨hw,.inl ⟨u,w1,q1,q2,by rw[e3]at q3;exact q3⟩⟩
 . exact .inl ⟨hw,.inr (.inl ⟨w1,q1,q2,by rw[e3]at q3;exact q3⟩)⟩
 . exact .inl ⟨hw,.inr (.inr ⟨f,args,w0,q1,q2.mono λe w1 ⟨u,z1,z2,z3⟩=>⟨u,z1,z2,by rw[e3]at z3;exact z3⟩⟩)⟩
 exact .inr ⟨hw,by rw[e3]at q3;exact q3⟩
theorem acP{S':World->Prop}{v u:Value}(tm: ∀cs b,oi.op≠ .select cs b)(su:oi.apart ops oj=true)(hS: ∀w,S' w->S w)(h:yl P ops S oi v a):yl P ops S' oi v (a.put oj.dst u):=by
 obtain⟨W,h2,h3⟩:=Oper.apart_spec su;have e1:=execOp_put (ops:=ops) oi tm a oj.dst u h3;have e2:=wanted_put (ops:=ops) oi a oj.dst u h3;unfold yl at*;rw[e1,e2];rcases h with⟨hw,h⟩|h
 . exact .inl ⟨hw,λw' xK=>h w' (hS w' xK)⟩
 exact .inr h
def waits(ops:Array Oper)(j i:Nat):Bool:=
 match ops[j]? with
 |some oj=>oj.after.any λe=>Region.binds .any e&&e.on==i
 |none=>false
def uS(ops:Array Oper):Nat->Nat->Nat->Bool
 |0,_,_=>false
 | f+1,j,i=>match ops[j]? with
   |some oj=>(oj.after.any λe=>Region.binds .any e&&e.on==i)|| (oj.after.any λe=>Region.binds .any e&&uS ops f e.on i)
   |none=>false
def VY(ops:Array Oper)(x y:Nat×Kd):Bool:=
 !waits ops x.1 y.1&&x.1 !=y.1&&
 (match x.2 with
  | .p=>waits ops y.1 x.1|| (match ops[x.1]?,ops[y.1]? with|some ox,some oy=>ox.apart ops oy|_,_=>false)
  | .c=>(waits ops y.1 x.1|| (match ops[x.1]?,ops[y.1]? with|some ox,some oy=>ox.apart ops oy|_,_=>false))&&(y.2 != .h||uS ops 9 y.1 x.1)
  |_=>uS ops 9 y.1 x.1)
def VZ(s t:List (Nat×Kd)):Bool:=s.length==t.length&&s.all (λx=>t.contains x)&&t.all (λx=>s.contains x)
def acQ(ops:Array Oper)(hs:List Nat)(l:List (Nat×Kd)):Bool:=l.all λy=>hs.contains y.1||l.any λx=>uS ops 9 y.1 x.1
def uT(ops:Array Oper):Bool->Ot->Bool
 |_,.nil=>true
 |f,.cons x t=>!waits ops x.1 x.1&&t.jU.all (λy=>!waits ops x.1 y.1&&x.1 !=y.1)&&(f||t.jU.all (VY ops x))&&uT ops false t
 |f,.fork s t=>uT ops true s&&uT ops true t&&VZ s.jU t.jU&&(f||acQ ops (s.xJ++t.xJ) s.jU)
def Ic(ops:Array Oper)(ord:Ot):Bool:=
 Region.noSelect ops&&ops.all (λo=>o.after.all λe=>Nat.blt e.on ops.size)&&(List.range ops.size).all (λi=>ord.jU.any (·.1==i))&&ord.jU.all (λx=>Nat.blt x.1 ops.size)&&(ord.jU.length==ops.size)&&uT ops false ord
structure St(ops:Array Oper)(l:List (Nat×Kd))(listed:Array Bool):Prop where
 size:listed.size=ops.size
 left: ∀i,listed.getD i true=false↔ ∃k,(i,k)∈l
 down: ∀(j:Nat) (oj:Oper),ops[j]? =some oj->listed.getD j false=true-> ∀e∈oj.after,Region.binds .any e=true->listed.getD e.on false=true
 acR: ∀(j:Nat) (oj:Oper),ops[j]? =some oj-> ∀e∈oj.after,e.on<ops.size
theorem ant{s t:List (Nat×Kd)}(h:VZ s t=true):s.length=t.length/\ ∀x,x∈s↔x∈t:=by
 simp only[VZ,nM,HR,uL,List.contains_iff_mem]at h;exact⟨h.1.1,λx=>⟨h.1.2 x,h.2 x⟩⟩
theorem acS: ∀(t:Ot) (f:Bool),uT ops f t=true->t.jU≠ []-> ∃x,x∈t.jU/\ ∀y∈t.jU,waits ops x.1 y.1=false
 | .nil,_,_,h=>absurd J h
 | .cons x t,f,h,_=>by
  simp only[uT,nM,HQ,uL]at h;refine⟨x,e_ ..,λy hy=>?_⟩;rcases mR.1 hy with rfl|hy
  . exact h.1.1.1
  exact(h.1.1.2 y hy).1
 | .fork s t,f,h,bY=>by simp only[uT,nM]at h;exact acS s true h.1.1.1 bY
theorem swapT(hn:acN ops){j:Nat}{k:Kd}{oj:Oper}(hj:ops[j]? =some oj): ∀(t:Ot) (f:Bool),uT ops f t=true->(f=true->j∈t.xJ)->(j,k)∈t.jU->(∀x∈t.jU,∀g,uS ops g j x.1=false)->uT ops false (t.del j)=true/\(∀y,y∈(t.del j).jU↔y∈t.jU/\y.1≠j)/\(t.del j).jU.length+1=t.jU.length/\ ∀a w,tk P ops Q t a w->xI P ops k oj (tk P ops Q (t.del j)) a w
 | .nil,_,_,_,hm,_=>by cases hm
 | .fork s t,f,h,hf,hm,xL=>by
  simp only[uT,nM,EV]at h;obtain⟨⟨⟨W,h2⟩,h3⟩,h4⟩:=h;obtain⟨e1,e2⟩:=ant h3
  have hh:j∈s.xJ++t.xJ:=by
   rcases h4 with h4|h4
   . exact hf h4
   simp only[acQ,uL]at h4;have:=h4 _ hm;simp only[EV,List.contains_iff_mem,KS]at this;rcases this with h5| ⟨x,hx,h5⟩
   . exact h5
   rw[xL x hx]at h5;cases h5
  by_cases hs:j∈s.xJ
  . obtain⟨g1,g2,g3,g4⟩:=swapT hn hj s true W (λ_=>hs) hm xL;have ed:(Ot.fork s t).del j=s.del j:=ai hs;rw[ed];exact⟨g1,g2,g3,λa w hw=>g4 a w hw.1⟩
  have ht:j∈t.xJ:=by
   rcases nL.1 hh with q|q
   . exact absurd q hs
   exact q
  obtain⟨g1,g2,g3,g4⟩:=swapT hn hj t true h2 (λ_=>ht) ((e2 _).1 hm) (λx hx=>xL x ((e2 x).2 hx));have ed:(Ot.fork s t).del j=t.del j:=ag hs;rw[ed];exact⟨g1,λy=>(g2 y).trans (and_congr (e2 y).symm Iff.rfl),g3.trans e1.symm,λa w hw=>g4 a w hw.2⟩
 | .cons x t,f,h,hf,hm,xL=>by
  simp only[uT,nM,EV,HQ,bne_iff_ne,uL]at h;obtain⟨⟨⟨W,h2⟩,h3⟩,h4⟩:=h;obtain⟨i,ki⟩:=x;by_cases e:i=j
  . subst e;have ed:(Ot.cons (i,ki) t).del i=t:=ai J;have hni: ∀y∈t.jU,y.1≠i:=λy hy e=>(h2 y hy).2 e.symm
    have hk:k=ki:=by
     rcases mR.1 hm with q|q
     . cases q;rfl
     exact absurd J (hni _ q)
    subst hk;rw[ed];refine⟨h4,λy=>⟨λhy=>⟨mu _ hy,hni y hy⟩,λ⟨hy,bY⟩=>?_⟩,J,λa w hw=>?_⟩
    . rcases mR.1 hy with rfl|hy
      . exact absurd J bY
      exact hy
    obtain⟨o,ho,hw⟩:=hw;rw[hj]at ho;cases ho
    cases k with
    |p=>obtain⟨v,q1,q2⟩:=hw;exact acM q1 trivial q2
    |c=>obtain⟨v,q1,q2⟩:=hw;exact acM q1 (eJ.refl w) q2
    |g=>exact hw
    |h=>exact hw
  have ed:(Ot.cons (i,ki) t).del j= .cons (i,ki) (t.del j):=ag e
  have Ie:f=false:=by
   cases f with
   |false=>rfl
   |true=>have:=hf J;simp only[Ot.xJ,je]at this;exact absurd this.symm e
  subst Ie
  have hmt:(j,k)∈t.jU:=by
   rcases mR.1 hm with q|q
   . cases q;exact absurd J e
   exact q
  have V0: ∀y∈t.jU,VY ops (i,ki) y=true:=by
   rcases h3 with q|q
   . cases q
   exact q
  obtain⟨g1,g2,g3,g4⟩:=swapT hn hj t false h4 (λq=>by cases q) hmt (λx hx=>xL x (mu _ hx));have hp:=V0 _ hmt;have Po: ∀g,uS ops g j i=false:=xL (i,ki) (e_ ..)
  have Ig:waits ops j i=false:=by
   cases hw:waits ops j i with
   |false=>rfl
   | true=>
     have:=Po 1
     simp only[waits,hj]at hw
     simp only[uS,hj,hw,Bool.true_or]at this
     cases this
  simp only[VY,nM]at hp;rw[ed];refine⟨?_,?_,?_,?_⟩
  . simp only[uT,nM,EV,HQ,bne_iff_ne,uL];exact⟨⟨⟨W,λy hy=>h2 y ((g2 y).1 hy).1⟩,.inr λy hy=>V0 y ((g2 y).1 hy).1⟩,g1⟩
  . intro y;simp only[Ot.jU,mR,g2];constructor
    . rintro(rfl| ⟨q1,q2⟩)
      . exact⟨.inl J,e⟩
      exact⟨.inr q1,q2⟩
    rintro⟨rfl|q1,q2⟩
    . exact .inl J
    exact .inr ⟨q1,q2⟩
  . simp only[Ot.jU,ek];omega
  intro a w hw;obtain⟨oi,hi,hw⟩:=hw;have tm:=λcs b=>hn i oi cs b hi;have Pn:=λcs b=>hn j oj cs b hj
  cases ki with
  | p=>
    have su:oi.apart ops oj=true:=by
      have h5:=hp.2;simp only[Ig,hi,hj,Bool.false_or]at h5;exact h5
    obtain⟨v,q1,q2⟩:=hw
    refine Pm (acO Pn su (g4 (a.put oi.dst v) w q2)) λu w1 _ hc=>?_
    exact⟨oi,hi,v,acP tm su (λ_ _=>trivial) q1,hc⟩
  | c=>
    have h5:=hp.2
    simp only[Ig,hi,hj,Bool.false_or,nM,Po,Bool.or_false,bne_iff_ne,ne_eq]at h5
    obtain⟨v,q1,q2⟩:=hw
    refine Pm (acO Pn h5.1 (g4 (a.put oi.dst v) w q2)) λu w1 hk hc=>?_
    exact⟨oi,hi,v,acP tm h5.1 (λw' xK=>(hk h5.2).trans xK) q1,hc⟩
  |g=>have:=hp.2;simp only[Po]at this;cases this
  |h=>have:=hp.2;simp only[Po]at this;cases this
theorem getD_or{listed:Array Bool}(hi:i<listed.size):listed.getD i false=true\/listed.getD i true=false:=by
 simp[hi]
theorem acT{listed:Array Bool}(down: ∀(j:Nat) (oj:Oper),ops[j]? =some oj->listed.getD j false=true-> ∀e∈oj.after,Region.binds .any e=true->listed.getD e.on false=true): ∀(f j i:Nat) (oj:Oper),ops[j]? =some oj->(∀e∈oj.after,Region.binds .any e=true->listed.getD e.on false=true)->uS ops f j i=true->listed.getD i false=true
 |0,_,_,_,_,_,h=>by simp[uS]at h
 | f+1,j,i,oj,hj,jr,h=>by
  simp only[uS,hj,EV,Array.any_eq_true',nM,HR]at h;rcases h with⟨e,he,hb,rfl⟩| ⟨e,he,hb,hd⟩
  . exact jr e he hb
  have hl:=jr e he hb
  cases ho:ops[e.on]? with
  |none=>cases f<;>simp[uS,ho]at hd
  |some oe=>exact acT down f e.on i oe ho (down e.on oe ho hl) hd
theorem acU(hn:acN ops): ∀(n:Nat) (t:Ot) (listed:Array Bool) (a:Act) (w:World),t.jU.length=n->uT ops false t=true->St ops t.jU listed->tk P ops Q t a w->wpAny P .any ops Q n listed a w
 | 0,t,listed,a,w,hlen,cS,st,h=>by
  have he:t.jU=[]:=kq.1 hlen
  have uU: ∀t:Ot,t.jU=[]->tk P ops Q t a w->Q .normal a w:=by
   intro t
   induction t with
   |nil=>exact λ_ h=>h
   |cons x t _=>intro e;cases e
   |fork s t ih _=>exact λe h=>ih e h.1
  refine⟨?_,uU t he h⟩;refine Vj.2 λj hj=>?_;obtain⟨h0,_⟩:=mem_ready.1 hj;obtain⟨k,hk⟩:=(st.left j).1 h0;rw[he]at hk;cases hk
 | n+1,t,listed,a,w,hlen,cS,st,h=>by
  constructor
  . intro hr;exfalso;obtain⟨⟨i,k⟩,hx,Ld⟩:=acS t false cS (by intro e;rw[e]at hlen;simp at hlen);have h0:=(st.left i).2 ⟨k,hx⟩
    have cP:i<ops.size:=by
     rcases dh i ops.size with h'|h'
     . exact h'
     simp[ET,h',st.size]at h0
    have hi:ops[i]? =some ops[i]:=(by simp[cP])
    have:i∈Region.ready .any ops listed:=by
     refine mem_ready.2 ⟨h0,ops[i],hi,λe he hb=>?_⟩;rcases getD_or (listed:=listed) (i:=e.on) (by rw[st.size];exact st.acR i _ hi e he)with W|W
     . exact W
     exfalso;obtain⟨k',rA⟩:=(st.left e.on).1 W;have hw:waits ops i e.on=true:=(by simp only[waits,hi,Array.any_eq_true',nM,HR];exact⟨e,he,hb,J⟩);rw[Ld _ rA]at hw;cases hw
    rw[hr]at this;cases this
  intro j hj;obtain⟨h0,oj,xM,jr⟩:=mem_ready.1 hj;obtain⟨k,hk⟩:=(st.left j).1 h0
  have xL: ∀x∈t.jU,∀g,uS ops g j x.1=false:=by
   intro x hx g;have Pp:listed.getD x.1 true=false:=(st.left x.1).2 ⟨x.2,hx⟩
   cases hd:uS ops g j x.1 with
   |false=>rfl
   | true=>
     have:=acT st.down g j x.1 oj xM jr hd
     exfalso
     have cP:x.1<listed.size:=by
       rcases dh x.1 listed.size with h'|h'
       . exact h'
       . simp[ET h']at Pp
     simp[cP]at this Pp
     rw[this]at Pp;cases Pp
  obtain⟨g1,g2,g3,g4⟩:=swapT (P:=P) (Q:=Q) hn xM t false cS (λq=>by cases q) hk xL;refine acL xM (Pm (g4 a w h) λv w1 _ hc=>?_);have zg:j<listed.size:=(by rw[st.size];exact(OP.1 xM).1);refine acU hn n (t.del j) _ _ _ (by omega) g1 ⟨by simp[st.size],λi=>?_,λi oi hi hl e he hb=>?_,st.acR⟩ hc
  . by_cases e:j=i
    . subst e;constructor
      . intro h;simp[zg]at h
      rintro⟨k',rA⟩;exact absurd J ((g2 _).1 rA).2
    rw[getD_set_ne true e,st.left i];constructor
    . rintro⟨k',rA⟩;exact⟨k',(g2 _).2 ⟨rA,λq=>e q.symm⟩⟩
    rintro⟨k',rA⟩;exact⟨k',((g2 _).1 rA).1⟩
  by_cases e1:j=i
  . subst e1;rw[xM]at hi;cases hi;exact getD_set_true (jr e he hb)
  rw[getD_set_ne false e1]at hl;exact getD_set_true (st.down i oi hi hl e he hb)
theorem anu(ord:Ot)(hm:P.follows .mixedOrders=true)(hB:Ic ops ord=true)(h:tk P ops Q ord a {w with drawn:=w.drawn+1}):(Code.region id ops true).wp P Q a w:=by
 simp only[Ic,nM,HR]at hB;obtain⟨⟨⟨⟨⟨b1,b2⟩,b3⟩,b4⟩,b6⟩,b5⟩:=hB;have cP: ∀x∈ord.jU,x.1<ops.size:=λx hx=>(by have:=uL.1 b4 x hx;simpa [ES] using this);have jr: ∀i,i<ops.size-> ∃k,(i,k)∈ord.jU:=λi hi=>(by have:=uL.1 b3 i (oX.2 hi);obtain⟨x,hx,e⟩:=KS.1 this;simp only[HR]at e;exact⟨x.2,by rw[<-e];exact hx⟩);refine wp_region_any hm (acU (λj o cs b hj=>Region.noSelect_spec b1 j o cs b hj) ops.size ord _ _ _ b6 b5 ⟨by simp,λi=>?_,λj oj hj hl=>?_,λj oj hj e he=>?_⟩ h)
 . constructor
   . intro hi;refine jr i ?_;rcases dh i ops.size with h'|h'
     . exact h'
     simp[ET,h']at hi
   rintro⟨k,hk⟩;have:=cP _ hk;simp[this]
 . have:(Array.replicate ops.size false).getD j false=false:=(by rcases dh j ops.size with h'|h'<;>simp[h']);rw[this]at hl;cases hl
 have:=Vk.1 b2 oj (Array.mem_of_getElem? hj);have:=Vk.1 this e he;simpa [ES] using this
variable {n:Nat}{K:gw}{ρ:Env}
def D(P:Program)(n:Nat)(ops:Array Oper)(ord:Ot)(K:gw)(ρ:Env)(w:World):Prop:=
 ∀a:Act,a.tmps.size=n->a.defers=[]->lx a=ρ->tk P ops (up n K) ord a w
theorem anv(ord:Ot)(hm:P.follows .mixedOrders=true)(hB:Ic ops ord=true)(h:D P n ops ord K ρ {w with drawn:=w.drawn+1}):Z_ P n (.region id ops true) K ρ w:=by
 unfold Z_;exact λa W h2 h3=>anu ord hm hB (h a W h2 h3)
theorem gg{s t:Ot}(hs:D P n ops s K ρ w)(ht:D P n ops t K ρ w):D P n ops (.fork s t) K ρ w:=λa W h2 h3=>⟨hs a W h2 h3,ht a W h2 h3⟩
theorem cm(h:K .normal ρ w):D P n ops .nil K ρ w:=λa W h2 h3=>⟨W,h2,by rw[h3];exact h⟩
variable {i:Nat}{rest:Ot}{d:Option Nat}{op:Op}{ty:TypeId}{pos:String}{aN:Array Edge}{v:Value}
theorem j9(hi:ops[i]? =some {dst:=d,op:=op,type:=ty,pos:=pos,after:=aN,guard:=none})(hr: ∀w',run P ρ op ty w'= .ok (.value v) w')(hd:aV n d=true)(h:D P n ops rest K (Env.put ρ d v) w):D P n ops (.cons (i,.p) rest) K ρ w:=by
 intro a W h2 h3;refine⟨_,hi,v,.inl ⟨by simp[Region.wanted],λw' _=>?_⟩,h _ (by rw[size_put,W]) (by rw[nQ,h2]) (by rw[nR a d v (by rw[W];exact hd),h3])⟩;rw[pW,h3,qK];exact hr w'
theorem xN(hi:ops[i]? =some {dst:=d,op:=op,type:=ty,pos:=pos,after:=aN,guard:=none})(hr: ∀w',eJ w w'->run P ρ op ty w'= .ok (.value v) w')(hd:aV n d=true)(h:D P n ops rest K (Env.put ρ d v) w):D P n ops (.cons (i,.c) rest) K ρ w:=by
 intro a W h2 h3;refine⟨_,hi,v,.inl ⟨by simp[Region.wanted],λw' xK=>?_⟩,h _ (by rw[size_put,W]) (by rw[nQ,h2]) (by rw[nR a d v (by rw[W];exact hd),h3])⟩;rw[pW,h3,qK];exact hr w' xK
theorem E9{k:Kd}{o:Oper}(hk:k= .g\/k= .h)(hi:ops[i]? =some o)(h: ∀a:Act,a.tmps.size=n->a.defers=[]->lx a=ρ->xI P ops k o (tk P ops (up n K) rest) a w):D P n ops (.cons (i,k) rest) K ρ w:=by
 intro a W h2 h3;refine⟨o,hi,?_⟩;rcases hk with rfl|rfl<;>exact h a W h2 h3
theorem V1(hi:ops[i]? =some {dst:=d,op:=op,type:=ty,pos:=pos,after:=aN,guard:=none})(hr:run P ρ op ty w= .ok (.value v) w1)(hk:eJ w w1)(hd:aV n d=true)(h:D P n ops rest K (Env.put ρ d v) w1):D P n ops (.cons (i,.g) rest) K ρ w:=
 E9 (.inl J) hi λa W h2 h3=> .inl ⟨by simp[Region.wanted],.inl ⟨v,w1,by rw[pW,h3,qK];exact hr,λ_=>hk,
   h _ (by rw[size_put,W]) (by rw[nQ,h2]) (by rw[nR a d v (by rw[W];exact hd),h3])⟩⟩
theorem Le(hi:ops[i]? =some {dst:=d,op:=op,type:=ty,pos:=pos,after:=aN,guard:=none})(hr:run P ρ op ty w= .ok (.value v) w1)(hd:aV n d=true)(h:D P n ops rest K (Env.put ρ d v) w1):D P n ops (.cons (i,.h) rest) K ρ w:=
 E9 (.inr J) hi λa W h2 h3=> .inl ⟨by simp[Region.wanted],.inl ⟨v,w1,by rw[pW,h3,qK];exact hr,λe=>absurd J e,
   h _ (by rw[size_put,W]) (by rw[nQ,h2]) (by rw[nR a d v (by rw[W];exact hd),h3])⟩⟩
theorem V2(hi:ops[i]? =some {dst:=d,op:=op,type:=ty,pos:=pos,after:=aN,guard:=none})(hr:run P ρ op ty w= .ok .skip w1)(hd:aV n d=true)(h:D P n ops rest K (Env.put ρ d undef) w1):D P n ops (.cons (i,.h) rest) K ρ w:=
 E9 (.inr J) hi λa W h2 h3=> .inl ⟨by simp[Region.wanted],.inr (.inl ⟨w1,by rw[pW,h3,qK];exact hr,λe=>absurd J e,
   h _ (by rw[size_put,W]) (by rw[nQ,h2]) (by rw[nR a d undef (by rw[W];exact hd),h3])⟩)⟩
theorem anw(hi:ops[i]? =some {dst:=d,op:=op,type:=ty,pos:=pos,after:=aN,guard:=none})(hr:run P ρ op ty w= .ok (.enter f args) w0)(hd:aV n d=true)(h:Calls P f args w0 λe w1=> ∃v,e= .returned v/\eJ w w1/\D P n ops rest K (Env.put ρ d v) w1):D P n ops (.cons (i,.g) rest) K ρ w:=
 E9 (.inl J) hi λa W h2 h3=> .inl ⟨by simp[Region.wanted],.inr (.inr ⟨f,args,w0,by rw[pW,h3,qK];exact hr,h.mono λe w1 ⟨v,e1,e2,e3⟩=>⟨v,e1,λ_=>e2,
   e3 _ (by rw[size_put,W]) (by rw[nQ,h2]) (by rw[nR a d v (by rw[W];exact hd),h3])⟩⟩)⟩
theorem V5(hi:ops[i]? =some {dst:=d,op:=op,type:=ty,pos:=pos,after:=aN,guard:=none})(hr:run P ρ op ty w= .ok (.enter f args) w0)(hd:aV n d=true)(h:Calls P f args w0 λe w1=> ∃v,e= .returned v/\D P n ops rest K (Env.put ρ d v) w1):D P n ops (.cons (i,.h) rest) K ρ w:=
 E9 (.inr J) hi λa W h2 h3=> .inl ⟨by simp[Region.wanted],.inr (.inr ⟨f,args,w0,by rw[pW,h3,qK];exact hr,h.mono λe w1 ⟨v,e1,e3⟩=>⟨v,e1,λe=>absurd J e,
   e3 _ (by rw[size_put,W]) (by rw[nQ,h2]) (by rw[nR a d v (by rw[W];exact hd),h3])⟩⟩)⟩
theorem V6{a:Act}{j:Nat}(hj:(ops[j]?).bind (·.dst)=some t)(ht:Nat.blt t a.tmps.size=true)(hv:lx a t= .bool b):yielded ops a.tmps j=some b:=by
 have qM:t<a.tmps.size:=(by simpa [ES] using ht);have:a.tmps[t]? =some (.bool b):=(by simp only[lx,se]at hv;simp[qM]at hv ⊢;exact hv);simp[yielded,hj,this]
theorem anx{g:Nat}{k:Kd}(hi:ops[i]? =some {dst:=d,op:=op,type:=ty,pos:=pos,after:=aN,guard:=some (g,want)})(hg:(ops[g]?).bind (·.dst)=some t)(ht:Nat.blt t n=true)(hv:ρ t= .bool b)(hb:(b==want)=false)(hd:aV n d=true)(h:D P n ops rest K (Env.put ρ d undef) w):D P n ops (.cons (i,k) rest) K ρ w:=by
 intro a W h2 h3;have hw:Region.wanted ({dst:=d,op:=op,type:=ty,pos:=pos,after:=aN,guard:=some (g,want)}:Oper) (yielded ops a.tmps)=false:=(by simp only[Region.wanted,V6 hg (by rw[W];exact ht) (by rw[h3];exact hv)];cases b<;>cases want<;>simp at hb ⊢);have h':=h (a.put d undef) (by rw[size_put,W]) (by rw[nQ,h2]) (by rw[nR a d undef (by rw[W];exact hd),h3]);refine⟨_,hi,?_⟩;cases k
 . exact⟨undef,.inr ⟨hw,J⟩,h'⟩
 . exact⟨undef,.inr ⟨hw,J⟩,h'⟩
 . exact .inr ⟨hw,h'⟩
 exact .inr ⟨hw,h'⟩
theorem Ih{a:Act}{g:Nat}(hg:(ops[g]?).bind (·.dst)=some t)(ht:Nat.blt t a.tmps.size=true)(hv:lx a t= .bool want):Region.wanted ({dst:=d,op:=op,type:=ty,pos:=pos,after:=aN,guard:=some (g,want)}:Oper) (yielded ops a.tmps)=true:=by
 simp only[Region.wanted,V6 hg ht hv];simp
theorem cZ{g:Nat}(hi:ops[i]? =some {dst:=d,op:=op,type:=ty,pos:=pos,after:=aN,guard:=some (g,want)})(hg:(ops[g]?).bind (·.dst)=some t)(ht:Nat.blt t n=true)(hv:ρ t= .bool want)(hr: ∀w',run P ρ op ty w'= .ok (.value v) w')(hd:aV n d=true)(h:D P n ops rest K (Env.put ρ d v) w):D P n ops (.cons (i,.p) rest) K ρ w:=by
 intro a W h2 h3;refine⟨_,hi,v,.inl ⟨Ih hg (by rw[W];exact ht) (by rw[h3];exact hv),λw' _=>?_⟩,h _ (by rw[size_put,W]) (by rw[nQ,h2]) (by rw[nR a d v (by rw[W];exact hd),h3])⟩;rw[pW,h3,qK];exact hr w'
theorem oZ{g:Nat}(hi:ops[i]? =some {dst:=d,op:=op,type:=ty,pos:=pos,after:=aN,guard:=some (g,want)})(hg:(ops[g]?).bind (·.dst)=some t)(ht:Nat.blt t n=true)(hv:ρ t= .bool want)(hr: ∀w',eJ w w'->run P ρ op ty w'= .ok (.value v) w')(hd:aV n d=true)(h:D P n ops rest K (Env.put ρ d v) w):D P n ops (.cons (i,.c) rest) K ρ w:=by
 intro a W h2 h3;refine⟨_,hi,v,.inl ⟨Ih hg (by rw[W];exact ht) (by rw[h3];exact hv),λw' xK=>?_⟩,h _ (by rw[size_put,W]) (by rw[nQ,h2]) (by rw[nR a d v (by rw[W];exact hd),h3])⟩;rw[pW,h3,qK];exact hr w' xK
theorem anz{g:Nat}(hi:ops[i]? =some {dst:=d,op:=op,type:=ty,pos:=pos,after:=aN,guard:=some (g,want)})(hg:(ops[g]?).bind (·.dst)=some t)(ht:Nat.blt t n=true)(hv:ρ t= .bool want)(hr:run P ρ op ty w= .ok (.enter f args) w0)(hd:aV n d=true)(h:Calls P f args w0 λe w1=> ∃v,e= .returned v/\eJ w w1/\D P n ops rest K (Env.put ρ d v) w1):D P n ops (.cons (i,.g) rest) K ρ w:=
 E9 (.inl J) hi λa W h2 h3=> .inl ⟨Ih hg (by rw[W];exact ht) (by rw[h3];exact hv),.inr (.inr ⟨f,args,w0,by rw[pW,h3,qK];exact hr,h.mono λe w1 ⟨v,e1,e2,e3⟩=>⟨v,e1,λ_=>e2,
   e3 _ (by rw[size_put,W]) (by rw[nQ,h2]) (by rw[nR a d v (by rw[W];exact hd),h3])⟩⟩)⟩
end
attribute [irreducible] D
section
variable {ops:Array Oper}{u:Int}{k:IntKind}{a m:Nat}
variable {P:Program}{n:Nat}{K:gw}{ρ:Env}{all:Array Oper}{rest:List Oper}{d:Option Nat}{ty:TypeId}{pos:String}{aN:Array Edge}
variable {r:dQ}{w:World}{L:List aD}{x y:Operand}{b q i:Nat}{l:List Value}{T T':TypeId}{v:Value}
def plain:Value->Bool
 | .agg _| .tuple _=>false
 |_=>true
theorem anA{a:Addr}(hv:plain v=true){u:Value}(hc:w.cell? a=some u)(hf:w.frozen? a=false):(storeCells a [v]).run P w= .ok () (w.setCell a v):=by
 have ha:a.add 0=a:=(by simp[Addr.add]);cases v<;>simp[plain]at hv<;>simp[storeCells,store,Sem.run,ha,hc,hf]
theorem anB(hv:plain v=true):v.cells= #[v]:=by cases v<;>simp[plain]at hv<;>rfl
theorem run_store [W:One P T'](h:H r w L)(hx:Env.ev ρ x= .pointer (some ⟨b,q,none⟩)) [hb:Has L b l T i]{u:Value}(hq:l[q]? =some u)(hy:Env.ev ρ y=v)(hv:plain v=true):run P ρ (.store T' x y) ty w= .ok .skip (w.setCell ⟨b,q,none⟩ v):=by
 have hc:=h.cell hb.at_ hq;have hf:=h.free hb.at_ q;have hs:=W.size w;have:=anA (P:=P) hv hc hf;simp[run,execOp,hx,hy,Instr.storeAt,Instr.sureAddr,storeVar,anB hv,hs,this]
theorem gC [One P T'](h:H r w L)(hx:Env.ev ρ x= .pointer (some ⟨b,q,none⟩)) [hb:Has L b l T i]{u:Value}(hq:l[q]? =some u)(hy:Env.ev ρ y=v)(hv:plain v=true)(hd:aV n d=true)(hk: ∀w',H r w' (L.set i (some b,C (l.set q v) T))->O P n all rest K (Env.put ρ d undef) w'):O P n all ({dst:=d,op:= .store T' x y,type:=ty,pos:=pos,after:=aN,guard:=none}::rest) K ρ w:=
 acE (run_store h hx hq hy hv) hd (hk _ (h.store hb.at_ v))
theorem v_{rest:Ot}[One P T'](hi:ops[m]? =some {dst:=d,op:= .store T' x y,type:=ty,pos:=pos,after:=aN,guard:=none})(h:H r w L)(hx:Env.ev ρ x= .pointer (some ⟨b,q,none⟩)) [hb:Has L b l T i]{u:Value}(hq:l[q]? =some u)(hy:Env.ev ρ y=v)(hv:plain v=true)(hd:aV n d=true)(hk: ∀w',H r w' (L.set i (some b,C (l.set q v) T))->D P n ops rest K (Env.put ρ d undef) w'):D P n ops (.cons (m,.h) rest) K ρ w:=
 V2 hi (run_store h hx hq hy hv) hd (hk _ (h.store hb.at_ v))
class Sz(P:Program)(T:TypeId)(s:outParam Nat):Prop where
 size: ∀w,(sizeOf T).run P w= .ok s w
theorem Pq [hu:bO P T (.slice T')]{s:Nat} [hs:Sz P T' s]{ad:Option Addr}{len cap:Nat}{k:IntKind}{u:Int}{a:Nat}(hx:Env.ev ρ x= .slice ad len cap)(hy:Env.ev ρ y= .int k u) [W:ao u a](ha:ad=some ⟨b,q,none⟩)(cP:a<len):run P ρ (.indexAddr T x y) ty w= .ok (.value (.pointer (some ⟨b,q+a*s,none⟩))) w:=by
 subst ha;have e1:(0:Int)<=(a:Int)/\(a:Int)<(len:Int):=(by omega);have e2:=hs.size w;simp[run,execOp,hx,hy,W.eq,Instr.indexAt,asIntOf,underlying,program,Sem.run,hu.eq,cP,e2,add_plain]
theorem V7{len s:Nat}[hu:bO P T (.array len T')] [hs:Sz P T' s]{k:IntKind}{u:Int}{a:Nat}(hx:Env.ev ρ x= .pointer (some ⟨b,q,none⟩))(hy:Env.ev ρ y= .int k u) [W:ao u a](cP:a<len):run P ρ (.indexAddr T x y) ty w= .ok (.value (.pointer (some ⟨b,q+a*s,none⟩))) w:=by
 have e2:=hs.size w;simp[run,execOp,hx,hy,W.eq,Instr.indexAt,Instr.sureAddr,asIntOf,underlying,program,Sem.run,hu.eq,cP,e2,add_plain]
theorem CM [hu:bO P T (.slice T')]{ad:Option Addr}{len cap:Nat}(hx:Env.ev ρ x= .slice ad len cap):run P ρ (.call {callee:= .builtin .len,args:= #[x],argTypes:= #[T]}) ty w= .ok (.value (.int .i64 (len:Int))) w:=by
 simp[run,execOp,resolve,invoke,builtin,Builtin.len_,hx,underlying,program,Sem.run,hu.eq,goInt]
theorem E_ [hu:bO P T (.slice T')]{ad:Option Addr}{len cap:Nat}(hx:Env.ev ρ x= .slice ad len cap):run P ρ (.call {callee:= .builtin .cap,args:= #[x],argTypes:= #[T]}) ty w= .ok (.value (.int .i64 (cap:Int))) w:=by
 simp[run,execOp,resolve,invoke,builtin,Builtin.cap_,hx,underlying,program,Sem.run,hu.eq,goInt]
theorem zh{v:Int}{b:Nat}(hx:Env.ev ρ x= .int k u)(hy:Env.ev ρ y= .int k v) [W:ao u a] [h2:ao v b]{ts:Array TypeId}:run P ρ (.call {callee:= .builtin .min,args:= #[x,y],argTypes:=ts}) ty w= .ok (.value (.int k ((min a b:Nat):Int))) w:=by
 simp[run,execOp,resolve,invoke,builtin,Builtin.min_,Builtin.min2,hx,hy,W.eq,h2.eq,List.foldlM];split<;>omega
theorem Lf{v:Int}{b:Nat}(hx:Env.ev ρ x= .int k u)(hy:Env.ev ρ y= .int k v) [W:ao u a] [h2:ao v b]{ts:Array TypeId}:run P ρ (.call {callee:= .builtin .max,args:= #[x,y],argTypes:=ts}) ty w= .ok (.value (.int k ((max a b:Nat):Int))) w:=by
 simp[run,execOp,resolve,invoke,builtin,Builtin.max_,Builtin.max2,hx,hy,W.eq,h2.eq,List.foldlM];split<;>omega
theorem aF8{v:Int}(hx:Env.ev ρ x= .int k u)(hy:Env.ev ρ y= .int k v){ts:Array TypeId}:run P ρ (.call {callee:= .builtin .min,args:= #[x,y],argTypes:=ts}) ty w= .ok (.value (.int k (min u v))) w:=by
 simp[run,execOp,resolve,invoke,builtin,Builtin.min_,Builtin.min2,hx,hy,List.foldlM];split<;>omega
theorem V8{v:Int}(hx:Env.ev ρ x= .int k u)(hy:Env.ev ρ y= .int k v){ts:Array TypeId}:run P ρ (.call {callee:= .builtin .max,args:= #[x,y],argTypes:=ts}) ty w= .ok (.value (.int k (max u v))) w:=by
 simp[run,execOp,resolve,invoke,builtin,Builtin.max_,Builtin.max2,hx,hy,List.foldlM];split<;>omega
theorem acV{vs:Array Value}{k:Nat}(hx:Env.ev ρ x= .tuple vs)(hv:vs[k]? =some v):run P ρ (.extract x k) ty w= .ok (.value v) w:=by
 simp[run,execOp,hx,Instr.extract,hv]
theorem Ii[hf:Body P f]{args:Array Operand}{ts:Array TypeId}:run P ρ (.call {callee:= .value (.func f),args:=args,argTypes:=ts}) ty w= .ok (.enter f (args.map (Env.ev ρ))) w:=by
 have:=hf.run (args.map (Env.ev ρ)) w;simp[run,execOp,resolve,invoke,Env.ev,Deferred.ofValue];simpa using this
theorem E'[Body P f]{args:Array Operand}{ts:Array TypeId}{vs:Array Value}(ha:args.map (Env.ev ρ)=vs)(hd:aV n d=true)(h:Calls P f vs w λe w'=> ∃v,e= .returned v/\O P n all rest K (Env.put ρ d v) w'):O P n all ({dst:=d,op:= .call {callee:= .value (.func f),args:=args,argTypes:=ts},type:=ty,pos:=pos,after:=aN,guard:=none}::rest) K ρ w:=
 K_ Ii hd (ha▸h)
theorem Lg{rest:Ot}[Body P f]{args:Array Operand}{ts:Array TypeId}{vs:Array Value}(hi:ops[m]? =some {dst:=d,op:= .call {callee:= .value (.func f),args:=args,argTypes:=ts},type:=ty,pos:=pos,after:=aN,guard:=none})(ha:args.map (Env.ev ρ)=vs)(hd:aV n d=true)(h:Calls P f vs w λe w'=> ∃v,e= .returned v/\D P n ops rest K (Env.put ρ d v) w'):D P n ops (.cons (m,.h) rest) K ρ w:=
 V5 hi Ii hd (ha▸h)
theorem V9{rest:Ot}[Body P f]{args:Array Operand}{ts:Array TypeId}{vs:Array Value}(hi:ops[m]? =some {dst:=d,op:= .call {callee:= .value (.func f),args:=args,argTypes:=ts},type:=ty,pos:=pos,after:=aN,guard:=none})(ha:args.map (Env.ev ρ)=vs)(hd:aV n d=true)(h:Calls P f vs w λe w'=> ∃v,e= .returned v/\eJ w w'/\D P n ops rest K (Env.put ρ d v) w'):D P n ops (.cons (m,.g) rest) K ρ w:=
 anw hi Ii hd (ha▸h)
def CN(args:List Value):Env:=λt=>args.getD t undef
def V_(rs:List Nat)(ρ:Env):Value:=match rs with
 | [t]=>ρ t
 |ts=> .tuple (ts.map ρ).toArray
def Lh(rs:List Nat)(Z9:Ending->World->Prop):gw:=fun
 | .normal,ρ,w=>Z9 (.returned (V_ rs ρ)) w
 | .ret,ρ,w=>Z9 (.returned (V_ rs ρ)) w
 |_,_,_=>False
theorem acW(g:ResultVar->Sem Value)(f:Nat->Value)(hg: ∀t,g (.tmp t)=pure (f t))(l:List Nat):List.mapM g (l.map ResultVar.tmp)=pure (l.map f):=by
 induction l with
 |nil=>rfl
 |cons x l ih=>simp only[EW,List.mapM_cons,ih,hg];rfl
theorem acX(fn:Func)(rs:List Nat)(h:fn.results=(rs.map ResultVar.tmp).toArray)(tmps:Array Value):(results fn tmps).run P w= .ok (V_ rs (λt=>tmps.getD t undef)) w:=by
 simp only[results,h,List.mapM_toArray];rw[acW _ (λt=>tmps.getD t undef) (λ_=>rfl)]
 cases rs with
 |nil=>rfl
 | cons x l=>
   cases l with
   |nil=>rfl
   | cons y l=>
     refine b8 (λv=>Result.ok v w) ?_
     show(if h:((x::y::l).map λt=>tmps.getD t undef).toArray.size=1 then _ else _)=_
     rw[dif_neg (by simp)];rfl
theorem qN{fn:Func}(hf:P.funcs[f]? =some fn)(n:Nat)(hn:fn.ntmps=n)(rs:List Nat)(hr:fn.results=(rs.map ResultVar.tmp).toArray){c:Code}(hb:fn.body=some c){args:List Value}(ia:Nat.ble args.length n=true){Z9:Ending->World->Prop}(h:Z_ P n c (Lh rs Z9) (CN args) w):Calls P f args.toArray w Z9:=by
 subst hn;unfold Z_ at h;have anC:args.length<=fn.ntmps:=(by simpa using ia);refine calls_of_wp hf hb (wp_mono (h _ ?_ J ?_) ?_)
 . simp;omega
 . funext t;simp only[lx,CN,se,Array.getElem?_append,Vl,List.getElem?_toArray];by_cases ht:t<args.length
   . simp[ht]
   simp only[ht,if_false];have:args[t]? =none:=gP (by omega);simp only[bS,this,Option.getD_none,Array.getElem?_replicate];split<;>rfl
 rintro e a w' ⟨q1,q2,q3⟩
 cases e with
 |normal=>exact⟨q2,_,acX fn rs hr a.tmps,q3⟩
 |ret=>exact⟨q2,_,acX fn rs hr a.tmps,q3⟩
 |_=>exact q3.elim
end
variable {c:Code}{u:Int}{k:IntKind}{ds es:List (Nat×Nat)}{d m:Nat}{x:Operand}{P:Program}{p:Prop}{ty:TypeId}
def rC:List (Nat×Nat)->Nat->Bool
 | [],_=>false
 | (a,b)::l,t=>(Nat.ble a t&&Nat.ble t b)||rC l t
def du(bj ρ:Env)(ds:List (Nat×Nat)):Prop:= ∀t,rC ds t=false->bj t=ρ t
def pd(ds:List (Nat×Nat))(bj ρ:Env):Env:=λt=>bif rC ds t then bj t else ρ t
theorem du.refl(ρ:Env)(ds:List (Nat×Nat)):du ρ ρ ds:=λ_ _=>rfl
theorem du.mix(ds:List (Nat×Nat))(bj ρ:Env):du (pd ds bj ρ) ρ ds:=λt h=>by simp[pd,h]
theorem du.set{bj ρ:Env}{v:Value}(hd:rC ds d=true)(h:du bj ρ ds):du (Env.set bj d v) ρ ds:=λt ht=>by
 simp only[Env.set];rw[H8 (λe=>by subst e;rw[hd]at ht;cases ht)];exact h t ht
theorem du.put{bj ρ:Env}{v:Value}(hd:rC ds d=true)(h:du bj ρ ds):du (Env.put bj (some d) v) ρ ds:=du.set hd h
theorem du.Pr{bj ρ:Env}{v:Value}(h:du bj ρ ds):du (Env.put bj none v) ρ ds:=h
def Lj(es ds:List (Nat×Nat)):Bool:=es.all λe=>ds.any λd=>Nat.ble d.1 e.1&&Nat.ble e.2 d.2
theorem anD(h:Lj es ds=true){t:Nat}(ht:rC es t=true):rC ds t=true:=by
 induction es with
 |nil=>simp[rC]at ht
 | cons e es ih=>
   obtain⟨e1,e2⟩:=e
   simp only[Lj,Vm,nM]at h
   simp only[rC,EV,nM]at ht
   rcases ht with ht|ht
   . obtain⟨d,hd,hh⟩:=KS.1 h.1
     simp only[nM,Nat.ble_eq]at hh ht
     clear ih h
     induction ds with
     |nil=>cases hd
     | cons x xs ihx=>
       obtain⟨x1,x2⟩:=x
       simp only[rC,EV,nM,Nat.ble_eq]
       rcases mR.1 hd with rfl|hd
       . left;simp only at hh;omega
       . right;exact ihx hd
   . exact ih (by simpa [Lj] using h.2) ht
theorem du.acY{lW bj ρ:Env}(hs:Lj es ds=true)(h:du bj ρ ds):du (pd es lW bj) ρ ds:=λt ht=>by
 have:rC es t=false:=by
  cases e:rC es t with
  |false=>rfl
  |true=>rw[anD hs e]at ht;cases ht
 simp only[pd,this];exact h t ht
theorem du.Ij{bj ρ:Env}(h:du bj ρ ds):pd ds bj ρ=bj:=by
 funext t
 cases e:rC ds t with
 |true=>simp[pd,e]
 |false=>simp[pd,e,h t e]
def Env.Pt(ρ:Env):List (Nat×Value)->Env
 | []=>ρ
 | (t,v)::l=>Env.set (Env.Pt ρ l) t v
def Pu(ρ:Env):List (Nat×Value)->Prop
 | []=>True
 | (t,v)::l=>ρ t=v/\Pu ρ l
theorem Env.AM{ρ:Env}{v:Value}(h:ρ t=v):Env.set ρ t v=ρ:=by
 funext i;simp only[Env.set];by_cases e:i=t
 . subst e;simp[h]
 rw[H8 e];rfl
theorem Env.known{ρ:Env}: ∀{l:List (Nat×Value)},Pu ρ l->Env.Pt ρ l=ρ
 | [],_=>rfl
 | (t,v)::l,h=>by simp only[Env.Pt];rw[Env.known h.2,Env.AM h.1]
def Kn(ρ:Env)(l:List (Nat×Value)):Prop:= ∃zi,ρ=Env.Pt zi l
theorem Kn.mk{ρ:Env}{l:List (Nat×Value)}(h:Pu ρ l):Kn ρ l:=⟨ρ,(Env.known h).symm⟩
section
variable {P:Program}{n:Nat}{K:gw}{ρ:Env}{w:World}
theorem cD(ds:List (Nat×Nat))(M:Env->World->Prop){x y:Code}(h:Z_ P n x (v8 (λbj w'=>du bj ρ ds/\M bj w') K) ρ w)(hm: ∀bj w',M bj w'->Z_ P n y K (pd ds bj ρ) w'):Z_ P n (.seq x y) K ρ w:=
 anj _ h λbj w' ⟨ha,hM⟩=>by rw[<-ha.Ij];exact hm bj w' hM
theorem jB(ds:List (Nat×Nat))(M:Env->World->Prop)(h:Z_ P n c (E8 id (v8 (λbj w'=>du bj ρ ds/\M bj w') K)) ρ w)(hm: ∀bj w',M bj w'->K .normal (pd ds bj ρ) w'):Z_ P n (.block id c) K ρ w:=
 anl _ h λbj w' ⟨ha,hM⟩=>by rw[<-ha.Ij];exact hm bj w' hM
theorem bQ{σ:Type}(ds:List (Nat×Nat))(Z7:σ->Env->World->Prop)(m:σ->Nat)(s:σ)(h:Z7 s ρ w)(round: ∀s bj w',Z7 s bj w'->Z_ P n c (v8 (λzj AH=>du zj ρ ds/\ ∃s',m s'<m s/\Z7 s' zj AH) K) (pd ds bj ρ) w'):Z_ P n (.loop c) K ρ w:=by
 refine anm (λs bj w'=>du bj ρ ds/\Z7 s bj w') m s ⟨du.refl _ _,h⟩ λs bj w' ⟨ha,hI⟩=>?_;have:=round s bj w' hI;rw[ha.Ij]at this;refine this.mono λe zj AH q=>?_
 cases e with
 |normal=>obtain⟨q1,s',q2,q3⟩:=q;exact⟨s',q2,q1,q3⟩
 |_=>exact q
variable {all:Array Oper}{rest:List Oper}{d:Option Nat}{op:Op}{ty:TypeId}{pos:String}{aN:Array Edge}
theorem d'[Decidable p]{l:List Oper}(ht:ρ t= .bool (decide p))(W:p->O P n all l K (Env.set ρ t (.bool true)) w)(h2: ¬p->O P n all l K (Env.set ρ t (.bool false)) w):O P n all l K ρ w:=by
 by_cases hp:p
 . have:=W hp;rwa [Env.AM (by rw[ht];simp[hp])]at this
 have:=h2 hp;rwa [Env.AM (by rw[ht];simp[hp])]at this
theorem we{p:Bool}{l:List Oper}(ht:ρ t= .bool p)(W:p=true->O P n all l K (Env.set ρ t (.bool true)) w)(h2:p=false->O P n all l K (Env.set ρ t (.bool false)) w):O P n all l K ρ w:=by
 cases p
 . have:=h2 J;rwa [Env.AM ht]at this
 have:=W J;rwa [Env.AM ht]at this
theorem AN[Decidable p]{ord:Ot}(ht:ρ t= .bool (decide p))(W:p->D P n all ord K (Env.set ρ t (.bool true)) w)(h2: ¬p->D P n all ord K (Env.set ρ t (.bool false)) w):D P n all ord K ρ w:=by
 by_cases hp:p
 . have:=W hp;rwa [Env.AM (by rw[ht];simp[hp])]at this
 have:=h2 hp;rwa [Env.AM (by rw[ht];simp[hp])]at this
theorem acZ{g:Nat}(hg:(all[g]?).bind (·.dst)=some t)(ht:Nat.blt t n=true)(hv:ρ t= .bool b)(hb:(b==want)=false)(hd:aV n d=true)(h:O P n all rest K (Env.put ρ d undef) w):O P n all ({dst:=d,op:=op,type:=ty,pos:=pos,after:=aN,guard:=some (g,want)}::rest) K ρ w:=by
 unfold O at*;intro a W h2 h3;have hw:Region.wanted ({dst:=d,op:=op,type:=ty,pos:=pos,after:=aN,guard:=some (g,want)}:Oper) (yielded all a.tmps)=false:=(by simp only[Region.wanted,V6 hg (by rw[W];exact ht) (by rw[h3];exact hv)];cases b<;>cases want<;>simp at hb ⊢);refine wpList_step λK' hK=>?_;rw[ag (by simp[hw])];exact hK _ _ (h (a.put d undef) (by rw[size_put,W]) (by rw[nQ,h2]) (by rw[nR a d undef (by rw[W];exact hd),h3]))
theorem dn{g:Nat}{v:Value}(hg:(all[g]?).bind (·.dst)=some t)(ht:Nat.blt t n=true)(hv:ρ t= .bool want)(hr:run P ρ op ty w= .ok (.value v) w')(hd:aV n d=true)(h:O P n all rest K (Env.put ρ d v) w'):O P n all ({dst:=d,op:=op,type:=ty,pos:=pos,after:=aN,guard:=some (g,want)}::rest) K ρ w:=by
 unfold O at*;intro a W h2 h3;have hw:Region.wanted ({dst:=d,op:=op,type:=ty,pos:=pos,after:=aN,guard:=some (g,want)}:Oper) (yielded all a.tmps)=true:=Ih hg (by rw[W];exact ht) (by rw[h3];exact hv);refine wpList_step λK' hK=>?_;rw[ai hw];simp only[Oper.wp];rw[pW,h3,qK];simp only[run]at hr;rw[hr];exact hK _ _ (h (a.put d v) (by rw[size_put,W]) (by rw[nQ,h2]) (by rw[nR a d v (by rw[W];exact hd),h3]))
theorem V'{g:Nat}[Body P f]{args:Array Operand}{ts:Array TypeId}{vs:Array Value}(hg:(all[g]?).bind (·.dst)=some t)(ht:Nat.blt t n=true)(hv:ρ t= .bool want)(ha:args.map (Env.ev ρ)=vs)(hd:aV n d=true)(h:Calls P f vs w λe w'=> ∃v,e= .returned v/\O P n all rest K (Env.put ρ d v) w'):O P n all ({dst:=d,op:= .call {callee:= .value (.func f),args:=args,argTypes:=ts},type:=ty,pos:=pos,after:=aN,guard:=some (g,want)}::rest) K ρ w:=by
 unfold O at*;intro a W h2 h3;have hw:Region.wanted ({dst:=d,op:= .call {callee:= .value (.func f),args:=args,argTypes:=ts},type:=ty,pos:=pos,after:=aN,guard:=some (g,want)}:Oper) (yielded all a.tmps)=true:=Ih hg (by rw[W];exact ht) (by rw[h3];exact hv);refine wpList_step λK' hK=>?_;rw[ai hw];simp only[Oper.wp];rw[pW,h3,qK];have hr:=Ii (P:=P) (ρ:=ρ) (ty:=ty) (w:=w) (f:=f) (args:=args) (ts:=ts);simp only[run]at hr;rw[hr];refine(ha▸h).mono ?_;rintro e AH ⟨v,rfl,h'⟩;exact hK _ _ (h' (a.put d v) (by rw[size_put,W]) (by rw[nQ,h2]) (by rw[nR a d v (by rw[W];exact hd),h3]))
theorem Ik[Body P f] {ts:Array TypeId} (hd:aV n d=true)
 (h:Calls P f #[] w λe w'=> ∃v,e= .returned v/\O P n all rest K (Env.put ρ d v) w'):
 O P n all ({dst:=d,op:= .call {callee:= .value (.func f),args:= #[],argTypes:=ts},type:=ty,pos:=pos,after:=aN,guard:=none}::rest) K ρ w:=E' (by simp) hd h
theorem dJ[Body P f] {x0:Operand} {v0:Value} {ts:Array TypeId} (h0:Env.ev ρ x0=v0) (hd:aV n d=true)
 (h:Calls P f #[v0] w λe w'=> ∃v,e= .returned v/\O P n all rest K (Env.put ρ d v) w'):
 O P n all ({dst:=d,op:= .call {callee:= .value (.func f),args:= #[x0],argTypes:=ts},type:=ty,pos:=pos,after:=aN,guard:=none}::rest) K ρ w:=E' (by simp[h0]) hd h
theorem pY{ord:Ot}[Body P f] {x0:Operand} {v0:Value} {ts:Array TypeId} (hi:all[m]? =some {dst:=d,op:= .call {callee:= .value (.func f),args:= #[x0],argTypes:=ts},type:=ty,pos:=pos,after:=aN,guard:=none}) (h0:Env.ev ρ x0=v0) (hd:aV n d=true)
 (h:Calls P f #[v0] w λe w'=> ∃v,e= .returned v/\D P n all ord K (Env.put ρ d v) w'):
 D P n all (.cons (m,.h) ord) K ρ w:=Lg hi (by simp[h0]) hd h
theorem AO{ord:Ot}[Body P f] {x0:Operand} {v0:Value} {ts:Array TypeId} (hi:all[m]? =some {dst:=d,op:= .call {callee:= .value (.func f),args:= #[x0],argTypes:=ts},type:=ty,pos:=pos,after:=aN,guard:=none}) (h0:Env.ev ρ x0=v0) (hd:aV n d=true)
 (h:Calls P f #[v0] w λe w'=> ∃v,e= .returned v/\eJ w w'/\D P n all ord K (Env.put ρ d v) w'):
 D P n all (.cons (m,.g) ord) K ρ w:=V9 hi (by simp[h0]) hd h
theorem b_[Body P f] {x0 x1:Operand} {v0 v1:Value} {ts:Array TypeId} (h0:Env.ev ρ x0=v0) (W:Env.ev ρ x1=v1) (hd:aV n d=true)
 (h:Calls P f #[v0,v1] w λe w'=> ∃v,e= .returned v/\O P n all rest K (Env.put ρ d v) w'):
 O P n all ({dst:=d,op:= .call {callee:= .value (.func f),args:= #[x0,x1],argTypes:=ts},type:=ty,pos:=pos,after:=aN,guard:=none}::rest) K ρ w:=E' (by simp[h0,W]) hd h
theorem kL{ord:Ot}[Body P f] {x0 x1:Operand} {v0 v1:Value} {ts:Array TypeId} (hi:all[m]? =some {dst:=d,op:= .call {callee:= .value (.func f),args:= #[x0,x1],argTypes:=ts},type:=ty,pos:=pos,after:=aN,guard:=none}) (h0:Env.ev ρ x0=v0) (W:Env.ev ρ x1=v1) (hd:aV n d=true)
 (h:Calls P f #[v0,v1] w λe w'=> ∃v,e= .returned v/\D P n all ord K (Env.put ρ d v) w'):
 D P n all (.cons (m,.h) ord) K ρ w:=Lg hi (by simp[h0,W]) hd h
theorem AP{ord:Ot}[Body P f] {x0 x1:Operand} {v0 v1:Value} {ts:Array TypeId} (hi:all[m]? =some {dst:=d,op:= .call {callee:= .value (.func f),args:= #[x0,x1],argTypes:=ts},type:=ty,pos:=pos,after:=aN,guard:=none}) (h0:Env.ev ρ x0=v0) (W:Env.ev ρ x1=v1) (hd:aV n d=true)
 (h:Calls P f #[v0,v1] w λe w'=> ∃v,e= .returned v/\eJ w w'/\D P n all ord K (Env.put ρ d v) w'):
 D P n all (.cons (m,.g) ord) K ρ w:=V9 hi (by simp[h0,W]) hd h
theorem ee[Body P f] {x0 x1 x2:Operand} {v0 v1 v2:Value} {ts:Array TypeId} (h0:Env.ev ρ x0=v0) (W:Env.ev ρ x1=v1) (h2:Env.ev ρ x2=v2) (hd:aV n d=true)
 (h:Calls P f #[v0,v1,v2] w λe w'=> ∃v,e= .returned v/\O P n all rest K (Env.put ρ d v) w'):
 O P n all ({dst:=d,op:= .call {callee:= .value (.func f),args:= #[x0,x1,x2],argTypes:=ts},type:=ty,pos:=pos,after:=aN,guard:=none}::rest) K ρ w:=E' (by simp[h0,W,h2]) hd h
theorem zk{ord:Ot}[Body P f] {x0 x1 x2:Operand} {v0 v1 v2:Value} {ts:Array TypeId} (hi:all[m]? =some {dst:=d,op:= .call {callee:= .value (.func f),args:= #[x0,x1,x2],argTypes:=ts},type:=ty,pos:=pos,after:=aN,guard:=none}) (h0:Env.ev ρ x0=v0) (W:Env.ev ρ x1=v1) (h2:Env.ev ρ x2=v2) (hd:aV n d=true)
 (h:Calls P f #[v0,v1,v2] w λe w'=> ∃v,e= .returned v/\D P n all ord K (Env.put ρ d v) w'):
 D P n all (.cons (m,.h) ord) K ρ w:=Lg hi (by simp[h0,W,h2]) hd h
theorem CO{ord:Ot}[Body P f] {x0 x1 x2:Operand} {v0 v1 v2:Value} {ts:Array TypeId} (hi:all[m]? =some {dst:=d,op:= .call {callee:= .value (.func f),args:= #[x0,x1,x2],argTypes:=ts},type:=ty,pos:=pos,after:=aN,guard:=none}) (h0:Env.ev ρ x0=v0) (W:Env.ev ρ x1=v1) (h2:Env.ev ρ x2=v2) (hd:aV n d=true)
 (h:Calls P f #[v0,v1,v2] w λe w'=> ∃v,e= .returned v/\eJ w w'/\D P n all ord K (Env.put ρ d v) w'):
 D P n all (.cons (m,.g) ord) K ρ w:=V9 hi (by simp[h0,W,h2]) hd h
theorem uV[Body P f] {x0 x1 x2 x3:Operand} {v0 v1 v2 v3:Value} {ts:Array TypeId} (h0:Env.ev ρ x0=v0) (W:Env.ev ρ x1=v1) (h2:Env.ev ρ x2=v2) (h3:Env.ev ρ x3=v3) (hd:aV n d=true)
 (h:Calls P f #[v0,v1,v2,v3] w λe w'=> ∃v,e= .returned v/\O P n all rest K (Env.put ρ d v) w'):
 O P n all ({dst:=d,op:= .call {callee:= .value (.func f),args:= #[x0,x1,x2,x3],argTypes:=ts},type:=ty,pos:=pos,after:=aN,guard:=none}::rest) K ρ w:=E' (by simp[h0,W,h2,h3]) hd h
theorem anE{ord:Ot}[Body P f] {x0 x1 x2 x3:Operand} {v0 v1 v2 v3:Value} {ts:Array TypeId} (hi:all[m]? =some {dst:=d,op:= .call {callee:= .value (.func f),args:= #[x0,x1,x2,x3],argTypes:=ts},type:=ty,pos:=pos,after:=aN,guard:=none}) (h0:Env.ev ρ x0=v0) (W:Env.ev ρ x1=v1) (h2:Env.ev ρ x2=v2) (h3:Env.ev ρ x3=v3) (hd:aV n d=true)
 (h:Calls P f #[v0,v1,v2,v3] w λe w'=> ∃v,e= .returned v/\D P n all ord K (Env.put ρ d v) w'):
 D P n all (.cons (m,.h) ord) K ρ w:=Lg hi (by simp[h0,W,h2,h3]) hd h
theorem CP[Body P f] {x0 x1 x2 x3 x4:Operand} {v0 v1 v2 v3 v4:Value} {ts:Array TypeId} (h0:Env.ev ρ x0=v0) (W:Env.ev ρ x1=v1) (h2:Env.ev ρ x2=v2) (h3:Env.ev ρ x3=v3) (h4:Env.ev ρ x4=v4) (hd:aV n d=true)
 (h:Calls P f #[v0,v1,v2,v3,v4] w λe w'=> ∃v,e= .returned v/\O P n all rest K (Env.put ρ d v) w'):
 O P n all ({dst:=d,op:= .call {callee:= .value (.func f),args:= #[x0,x1,x2,x3,x4],argTypes:=ts},type:=ty,pos:=pos,after:=aN,guard:=none}::rest) K ρ w:=E' (by simp[h0,W,h2,h3,h4]) hd h
theorem Wa[Body P f] {x0 x1 x2 x3 x4 x5:Operand} {v0 v1 v2 v3 v4 v5:Value} {ts:Array TypeId} (h0:Env.ev ρ x0=v0) (W:Env.ev ρ x1=v1) (h2:Env.ev ρ x2=v2) (h3:Env.ev ρ x3=v3) (h4:Env.ev ρ x4=v4) (h5:Env.ev ρ x5=v5) (hd:aV n d=true)
 (h:Calls P f #[v0,v1,v2,v3,v4,v5] w λe w'=> ∃v,e= .returned v/\O P n all rest K (Env.put ρ d v) w'):
 O P n all ({dst:=d,op:= .call {callee:= .value (.func f),args:= #[x0,x1,x2,x3,x4,x5],argTypes:=ts},type:=ty,pos:=pos,after:=aN,guard:=none}::rest) K ρ w:=E' (by simp[h0,W,h2,h3,h4,h5]) hd h
theorem anF{ord:Ot}[Body P f] {x0 x1 x2 x3 x4 x5:Operand} {v0 v1 v2 v3 v4 v5:Value} {ts:Array TypeId} (hi:all[m]? =some {dst:=d,op:= .call {callee:= .value (.func f),args:= #[x0,x1,x2,x3,x4,x5],argTypes:=ts},type:=ty,pos:=pos,after:=aN,guard:=none}) (h0:Env.ev ρ x0=v0) (W:Env.ev ρ x1=v1) (h2:Env.ev ρ x2=v2) (h3:Env.ev ρ x3=v3) (h4:Env.ev ρ x4=v4) (h5:Env.ev ρ x5=v5) (hd:aV n d=true)
 (h:Calls P f #[v0,v1,v2,v3,v4,v5] w λe w'=> ∃v,e= .returned v/\D P n all ord K (Env.put ρ d v) w'):
 D P n all (.cons (m,.h) ord) K ρ w:=Lg hi (by simp[h0,W,h2,h3,h4,h5]) hd h
theorem ac0(h:H r w L) {ops:Array Oper} {id:Nat} (ord:Ot) (hm:P.follows .mixedOrders=true) (hB:Ic ops ord=true)
 (hk: ∀w',H r w' L->D P n ops ord K ρ w'):Z_ P n (.region id ops true) K ρ w:=anv ord hm hB (hk _ h.drew)
end
theorem run_move{ρ:Env}:run P ρ (.move x) ty w= .ok (.value (Env.ev ρ x)) w:=rfl
theorem run_assign{ρ:Env}:run P ρ (.assign x) ty w= .ok (.value (Env.ev ρ x)) w:=rfl
theorem Pv{ρ:Env}(a:Nat)(hx:Env.ev ρ x= .int k u)(hu:u=(a:Int)):run P ρ (.move x) ty w= .ok (.value (.int k (a:Int))) w:=by
 rw[run_move,hx,hu]
theorem zl{ρ:Env}(a:Nat)(hx:Env.ev ρ x= .int k u)(hu:u=(a:Int)):run P ρ (.assign x) ty w= .ok (.value (.int k (a:Int))) w:=by
 rw[run_assign,hx,hu]
section
variable {P:Program}{ρ:Env}{x y c:Operand}{ty:TypeId}{w:World}{r:dQ}{L:List aD}{b q i:Nat}{l:List Value}{T T':TypeId}{va vb:Value}
theorem sw(hc:Env.ev ρ c= .bool true):run P ρ (.pick c x y) ty w= .ok (.value (Env.ev ρ x)) w:=by
 simp[run,execOp,hc,asBool]
theorem uW(hc:Env.ev ρ c= .bool false):run P ρ (.pick c x y) ty w= .ok (.value (Env.ev ρ y)) w:=by
 simp[run,execOp,hc,asBool]
abbrev u8(x:UInt8):Value:= .int .u8 (x.toNat:Int)
abbrev i64(x:Int):Value:= .int .i64 x
theorem gl{D:List UInt8}{i:Nat}(h:i<D.length):(D.map u8)[i]? =some (u8 (D.getD i 0)):=by
 simp[h]
theorem xO{D:List Int}{i:Nat}(h:i<D.length):(D.map i64)[i]? =some (i64 (D.getD i 0)):=by
 simp[h]
theorem js [hu:bO P T (.slice T')] [hs:Sz P T' 1]{ad:Option Addr}{len cap:Nat}{k:IntKind}{u:Int}{a:Nat}(hx:Env.ev ρ x= .slice ad len cap)(hy:Env.ev ρ y= .int k u) [W:ao u a](ha:ad=some ⟨b,0,none⟩)(cP:a<len):run P ρ (.indexAddr T x y) ty w= .ok (.value (.pointer (some ⟨b,a,none⟩))) w:=by
 rw[Pq hx hy ha cP];simp
theorem cI [hu:bO P T (.slice T')] [hs:Sz P T' 1]{ad:Option Addr}{len cap:Nat}{k:IntKind}{u:Int}{a:Nat}(hx:Env.ev ρ x= .slice ad len cap)(hy:Env.ev ρ y= .int k u) [W:ao u a](ha:ad=some ⟨b,q,none⟩)(cP:a<len):run P ρ (.indexAddr T x y) ty w= .ok (.value (.pointer (some ⟨b,q+a,none⟩))) w:=by
 rw[Pq hx hy ha cP];simp
theorem ky [hu:bO P T (.slice T')]{s:Nat} [hs:Sz P T' s]{ad:Option Addr}{len cap:Nat}{k:IntKind}{u:Int}{a:Nat}(hx:Env.ev ρ x= .slice ad len cap)(hy:Env.ev ρ y= .int k u) [W:ao u a](ha:ad=some ⟨b,0,none⟩)(cP:a<len):run P ρ (.indexAddr T x y) ty w= .ok (.value (.pointer (some ⟨b,a*s,none⟩))) w:=by
 rw[Pq hx hy ha cP];simp
theorem nq{len:Nat}[hu:bO P T (.array len T')] [hs:Sz P T' 1]{k:IntKind}{u:Int}{a:Nat}(hx:Env.ev ρ x= .pointer (some ⟨b,q,none⟩))(hy:Env.ev ρ y= .int k u) [W:ao u a](cP:a<len):run P ρ (.indexAddr T x y) ty w= .ok (.value (.pointer (some ⟨b,q+a,none⟩))) w:=by
 rw[V7 hx hy cP];simp
theorem Lk{len:Nat}[hu:bO P T (.array len T')] [hs:Sz P T' 1]{k:IntKind}{u:Int}{a:Nat}(hx:Env.ev ρ x= .pointer (some ⟨b,0,none⟩))(hy:Env.ev ρ y= .int k u) [W:ao u a](cP:a<len):run P ρ (.indexAddr T x y) ty w= .ok (.value (.pointer (some ⟨b,a,none⟩))) w:=by
 rw[V7 hx hy cP];simp
abbrev cy(x:Nat):Value:= .int .u64 (x:Int)
theorem Fa{D:List Nat}{i:Nat}(h:i<D.length):(D.map cy)[i]? =some (cy (D.getD i 0)):=by
 simp[h]
abbrev R(x:Nat):Value:= .int .i64 (x:Int)
theorem jC{D:List Nat}{i:Nat}(h:i<D.length):(D.map R)[i]? =some (R (D.getD i 0)):=by
 simp[h]
theorem dz(x:UInt8)(h:255<=aG k):x.toNat<=aG k:=by have:=x.toNat_lt;omega
theorem Il{a b:Nat}(h:a=b):Ending.returned (.int k (a:Int))= .returned (.int k (b:Int)):=by rw[h]
theorem toNat_le(x:UInt8):x.toNat<=255:=by have:=x.toNat_lt;omega
end
theorem I{p:Prop}(h:p:=by omega):p:=h
theorem az{p:Prop}(h:p:=by simp only[aG];omega):p:=h
theorem k_{p:Prop}(h:p:=by first| (simp only[aG];omega)|exact dz _ (by decide)|exact aI (j6 _ _) (by first| (simp only[aG];omega)|exact dz _ (by decide))|exact aI Vn (by first| (simp only[aG];omega)|exact dz _ (by decide))|exact aI Nat.and_le_left (by first| (simp only[aG];omega)|exact dz _ (by decide))|exact Lc _ _ _ (by first| (simp only[aG];omega)|exact dz _ (by decide)) (by first| (simp only[aG];omega)|exact dz _ (by decide))):p:=h
theorem ar{α:Type}{a b:α}{l:List α}(h:a∈l):a∈b::l:=mu _ h
theorem bF{α:Type}{a:α}{l:List α}:a∈a::l:=e_ ..
section
variable {P:Program}{n i:Nat}{K:gw}{ρ:Env}{w w':World}{all ops:Array Oper}{rest:List Oper}{ord:Ot}{d:Option Nat}{op:Op}{ty:TypeId}{pos:String}{aN:Array Edge}{v:Value}{x:Operand}{b q:Nat}{r:dQ}{L:List aD}
theorem ah(hr:run P ρ op ty w= .ok (.value v) w')(h:O P n all rest K (Env.put ρ d v) w')(hd:aV n d=true:=by rfl):O P n all ({dst:=d,op:=op,type:=ty,pos:=pos,after:=aN,guard:=none}::rest) K ρ w:=gf hr hd h
theorem cM(h:O P n all rest K (Env.put ρ d (Env.ev ρ x)) w)(hd:aV n d=true:=by rfl):O P n all ({dst:=d,op:= .move x,type:=ty,pos:=pos,after:=aN,guard:=none}::rest) K ρ w:=gf run_move hd h
theorem dI(h:O P n all rest K (Env.put ρ d (Env.ev ρ x)) w)(hd:aV n d=true:=by rfl):O P n all ({dst:=d,op:= .assign x,type:=ty,pos:=pos,after:=aN,guard:=none}::rest) K ρ w:=gf run_assign hd h
theorem aF9{k:IntKind}{u:Int}(a:Nat)(h:O P n all rest K (Env.put ρ d (.int k (a:Int))) w)(hu:u=(a:Int):=by exact(ao.lit _).eq)(hx:Env.ev ρ x= .int k u:=by rfl)(hd:aV n d=true:=by rfl):O P n all ({dst:=d,op:= .move x,type:=ty,pos:=pos,after:=aN,guard:=none}::rest) K ρ w:=gf (Pv a hx hu) hd h
theorem aF_{k:IntKind}{u:Int}(a:Nat)(h:O P n all rest K (Env.put ρ d (.int k (a:Int))) w)(hu:u=(a:Int):=by exact(ao.lit _).eq)(hx:Env.ev ρ x= .int k u:=by rfl)(hd:aV n d=true:=by rfl):O P n all ({dst:=d,op:= .assign x,type:=ty,pos:=pos,after:=aN,guard:=none}::rest) K ρ w:=gf (zl a hx hu) hd h
theorem pe{T:TypeId}{f k:Nat} [cB P T f k](hx:Env.ev ρ x= .pointer (some ⟨b,q,none⟩))(h:O P n all rest K (Env.put ρ d (.pointer (some ⟨b,q+k,none⟩))) w)(hd:aV n d=true:=by rfl):O P n all ({dst:=d,op:= .fieldAddr T x f,type:=ty,pos:=pos,after:=aN,guard:=none}::rest) K ρ w:=gf (nS hx) hd h
theorem nk_{a:Addr}(hx:Env.ev ρ x= .pointer (some a))(h:O P n all rest K (Env.put ρ d (.pointer (some a))) w)(hd:aV n d=true:=by rfl):O P n all ({dst:=d,op:= .nilCheck x,type:=ty,pos:=pos,after:=aN,guard:=none}::rest) K ρ w:=gf (uR hx) hd h
theorem aO{T':TypeId} [One P T']{j:Nat}{l:List Value}{T:TT}(h:H r w L)(hx:Env.ev ρ x= .pointer (some ⟨b,q,none⟩)) [Has L b l T j](hv:l[q]? =some v)(hk:O P n all rest K (Env.put ρ d v) w)(hd:aV n d=true:=by rfl):O P n all ({dst:=d,op:= .load T' x,type:=ty,pos:=pos,after:=aN,guard:=none}::rest) K ρ w:=gf (run_load h hx hv) hd hk
theorem aw(hi:ops[i]? =some {dst:=d,op:=op,type:=ty,pos:=pos,after:=aN,guard:=none})(hr: ∀{w'},run P ρ op ty w'= .ok (.value v) w')(h:D P n ops ord K (Env.put ρ d v) w)(hd:aV n d=true:=by rfl):D P n ops (.cons (i,.p) ord) K ρ w:=j9 hi (λ_=>hr) hd h
theorem kA(hi:ops[i]? =some {dst:=d,op:= .move x,type:=ty,pos:=pos,after:=aN,guard:=none})(h:D P n ops ord K (Env.put ρ d (Env.ev ρ x)) w)(hd:aV n d=true:=by rfl):D P n ops (.cons (i,.p) ord) K ρ w:=j9 hi (λ_=>run_move) hd h
theorem eY(hi:ops[i]? =some {dst:=d,op:= .assign x,type:=ty,pos:=pos,after:=aN,guard:=none})(h:D P n ops ord K (Env.put ρ d (Env.ev ρ x)) w)(hd:aV n d=true:=by rfl):D P n ops (.cons (i,.p) ord) K ρ w:=j9 hi (λ_=>run_assign) hd h
theorem Wb{T:TypeId}{f k:Nat} [cB P T f k](hi:ops[i]? =some {dst:=d,op:= .fieldAddr T x f,type:=ty,pos:=pos,after:=aN,guard:=none})(hx:Env.ev ρ x= .pointer (some ⟨b,q,none⟩))(h:D P n ops ord K (Env.put ρ d (.pointer (some ⟨b,q+k,none⟩))) w)(hd:aV n d=true:=by rfl):D P n ops (.cons (i,.p) ord) K ρ w:=j9 hi (λ_=>nS hx) hd h
theorem ac1{a:Addr}(hi:ops[i]? =some {dst:=d,op:= .nilCheck x,type:=ty,pos:=pos,after:=aN,guard:=none})(hx:Env.ev ρ x= .pointer (some a))(h:D P n ops ord K (Env.put ρ d (.pointer (some a))) w)(hd:aV n d=true:=by rfl):D P n ops (.cons (i,.p) ord) K ρ w:=j9 hi (λ_=>uR hx) hd h
theorem aK{T':TypeId} [One P T']{j:Nat}{l:List Value}{T:TT}(hi:ops[i]? =some {dst:=d,op:= .load T' x,type:=ty,pos:=pos,after:=aN,guard:=none})(h:H r w L)(hx:Env.ev ρ x= .pointer (some ⟨b,q,none⟩)) [Has L b l T j](hv:l[q]? =some v)(hk:D P n ops ord K (Env.put ρ d v) w)(hd:aV n d=true:=by rfl):D P n ops (.cons (i,.c) ord) K ρ w:=xN hi (λ_ hk=>run_load (h.keeps hk) hx hv) hd hk
theorem oF_{g t:Nat}{want b:Bool}(hg:(all[g]?).bind (·.dst)=some t)(ht:Nat.blt t n=true)(hv:ρ t= .bool b)(h:O P n all rest K (Env.put ρ d undef) w)(hb:(b==want)=false:=by rfl)(hd:aV n d=true:=by rfl):O P n all ({dst:=d,op:=op,type:=ty,pos:=pos,after:=aN,guard:=some (g,want)}::rest) K ρ w:=acZ hg ht hv hb hd h
theorem sq{c e:Code}(h:Z_ P n c (v8 (Z_ P n e K) K) ρ w):Z_ P n (.seq c e) K ρ w:=a9 h
theorem aM{bj:Env}{ds:List (Nat×Nat)}(h:du bj ρ ds:=by repeat(first|with_reducible exact du.mix _ _ _|with_reducible exact du.refl _ _|refine du.put J ?_|refine du.Pr ?_|refine du.set J ?_|refine du.acY J ?_)):du bj ρ ds:=h
def Ag(_:Nat)(bj ρ:Env)(ds:List (Nat×Nat)):Prop:=du bj ρ ds
section
variable {m d:Nat}{v:Value}{lW bj ρ:Env}{es ds:List (Nat×Nat)}
theorem anG:Ag 0 ρ ρ ds:=du.refl _ _
theorem anH:Ag 0 (pd ds bj ρ) ρ ds:=du.mix _ _ _
theorem anI(h:Ag m bj ρ ds)(hd:rC ds d=true):Ag (m+1) (Env.put bj (some d) v) ρ ds:=du.put hd h
theorem anJ(h:Ag m bj ρ ds)(hd:rC ds d=true):Ag (m+1) (Env.set bj d v) ρ ds:=du.set hd h
theorem anK(h:Ag m bj ρ ds):Ag (m+1) (Env.put bj none v) ρ ds:=h
theorem anL(h:Ag m bj ρ ds)(hs:Lj es ds=true):Ag (m+1) (pd es lW bj) ρ ds:=du.acY hs h
theorem Ag1(h:Ag m bj ρ ds):du bj ρ ds:=h
attribute [irreducible] Ag
theorem aH(m:Nat)(h:Ag m bj ρ ds:=by repeat(first| ((with_reducible apply anI);rotate_left;exact J)| (with_reducible apply anK)| ((with_reducible apply anL);rotate_left;exact J)| ((with_reducible apply anJ);rotate_left;exact J)|exact anG|exact anH)):du bj ρ ds:=Ag1 h
end
abbrev af(b:Nat)(l:List Value)(T:TT):aD:=(some b,C l T)
abbrev aW(b:Nat):Value:= .pointer (some ⟨b,0,none⟩)
abbrev cf(b n c:Nat):Value:= .slice (some ⟨b,0,none⟩) n c
abbrev gR(n:Nat):Value:= .int .u8 ((n:Nat):Int)
abbrev CQ(n:Nat):Value:= .int .u16 ((n:Nat):Int)
abbrev aZ(n:Nat):Value:= .int .u32 ((n:Nat):Int)
theorem iN{x:Int}{a:Nat} [h:ao x a]:ao x a:=h
theorem iU{P:Program}{t:TypeId}{d:TypeDesc} [h:bO P t d]:bO P t d:=h
theorem iF{P:Program}{t:TypeId}{f o:Nat} [h:cB P t f o]:cB P t f o:=h
theorem iS{P:Program}{t:TypeId}{s:Nat} [h:Sz P t s]:Sz P t s:=h
theorem iO{P:Program}{t:TypeId} [h:One P t]:One P t:=h
theorem iH{L:List aD}{b:Nat}{l:List Value}{T:TT}{i:Nat} [h:Has L b l T i]:Has L b l T i:=h
def Rt:Ending->(Value->Prop)->Prop
 | .returned v,k=>k v
 |_,_=>False
inductive Bx|mk (p:Prop)
def Bx.o:Bx->Prop
 | .mk p=>p
def G(_:Nat)(q:Bx)(p:Prop):Prop:=q.o->p
theorem G0{p:Prop}:G 0 (.mk p) p:=id
theorem Gs{m:Nat}{q:Bx}{p s:Prop}(f:s->p)(x:G m q s):G (m+1) q p:=λk=>f (x k)
theorem Gt{m:Nat}{q:Bx}{p s:Prop}(f:s->p)(x:G m q s):G m q p:=λk=>f (x k)
theorem G1{m:Nat}{p q:Prop}(h:G m (.mk q) p)(k:q):p:=h k
attribute [irreducible] G
section
variable {P:Program}{n:Nat}{all ops:Array Oper}{rest:List Oper}{ord:Ot}{K:gw}{ρ:Env}{w:World}{d:Option Nat}{op:Op}{ty:TypeId}{pos:String}{aN:Array Edge}{i0:Nat}
def Ds(P:Program)(n:Nat)(ops:Array Oper)(o:Oper)(i:Nat)(k:Kd)(ord:Ot)(K:gw)(ρ:Env)(w:World):Prop:=ops[i]? =some o->D P n ops (.cons (i,k) ord) K ρ w
def Og(P:Program)(n:Nat)(all:Array Oper)(o:Oper)(g0:Nat)(want:Bool)(t:Nat)(tv:Bool)(rest:List Oper)(K:gw)(ρ:Env)(w:World):Prop:=(all[g0]?).bind (·.dst)=some t->Nat.blt t n=true->ρ t= .bool tv->O P n all (o::rest) K ρ w
variable {x y c0:Operand}{T T':TypeId}{k k':IntKind}{u v:Int}{a b q0 j len cap f:Nat}{l:List Value}{tt:TT}{ad:Option Addr}{Im:Addr}{vs:Array Value}{val:Value}{ds:TypeDesc}{m:Nat}{q:Bx}{r:dQ}{L:List aD}
theorem ac2{v:Value}{k:Value->Prop}(gx:G m q (k v)):G m q (Rt (.returned v) k):=gx
theorem ac3{x y:Code}(gx:G m q (Z_ P n x (v8 (Z_ P n y K) K) ρ w)):G (m+1) q (Z_ P n (.seq x y) K ρ w):=Gs a9 gx
theorem ac4{id:Nat}{l:List Oper}(gx:G m q (O P n l.toArray l K ρ w)):G (m+1) q (Z_ P n (.region id l.toArray false) K ρ w):=Gs eS gx
theorem ac5{id:Nat}{c:Code}(gx:G m q (Z_ P n c (E8 id K) ρ w)):G (m+1) q (Z_ P n (.block id c) K ρ w):=Gs ze gx
theorem ac6(gx:G m q (K .normal ρ w)):G (m+1) q (Z_ P n .skip K ρ w):=Gs aQ gx
theorem anM{y:Code}(gx:G m q (Z_ P n y K ρ w)):G (m+1) q (Z_ P n .skip (v8 (Z_ P n y K) K) ρ w):=Gs (λk=>aQ k) gx
theorem ac7(gx:G m q (K .ret ρ w)):G (m+1) q (Z_ P n .ret K ρ w):=Gs iG gx
theorem ac8{id:Nat}(gx:G m q (K (.exit id) ρ w)):G (m+1) q (Z_ P n (.exit id) K ρ w):=Gs iy gx
theorem ac9(gx:G m q (K .normal ρ w)):G (m+1) q (O P n all [] K ρ w):=Gs aC gx
theorem anN{y:Code}(gx:G m q (Z_ P n y K ρ w)):G (m+1) q (O P n all [] (v8 (Z_ P n y K) K) ρ w):=Gs (λk=>aC k) gx
theorem anO(gx:G m q (K .normal ρ w)):G (m+1) q (D P n ops .nil K ρ w):=Gs cm gx
theorem aF'{y:Code}(gx:G m q (Z_ P n y K ρ w)):G (m+1) q (D P n ops .nil (v8 (Z_ P n y K) K) ρ w):=Gs (λk=>cm k) gx
theorem anP{o:Oper}{kd:Kd}(hi:ops[i0]? =some o)(gx:G m q (Ds P n ops o i0 kd ord K ρ w)):G m q (D P n ops (.cons (i0,kd) ord) K ρ w):=Gt (λk=>k hi) gx
theorem anQ{g0 t:Nat}{want tv:Bool}{kd:Kd}(ga:(ops[g0]?).bind (·.dst)=some t)(gb:Nat.blt t n=true)(gc:ρ t= .bool tv)(ge:(tv==want)=false)(gd:aV n d=true)(gx:G m q (D P n ops ord K (Env.put ρ d undef) w)):G (m+1) q (Ds P n ops {dst:=d,op:=op,type:=ty,pos:=pos,after:=aN,guard:=some (g0,want)} i0 kd ord K ρ w):=Gs (λk0 hi=>anx hi ga gb gc ge gd k0) gx
theorem anR(gd:aV n d=true)(gx:G m q (O P n all rest K (Env.put ρ d (Env.ev ρ x)) w)):G (m+1) q (O P n all ({dst:=d,op:= .move x,type:=ty,pos:=pos,after:=aN,guard:=none}::rest) K ρ w):=Gs (λk0=>gf (run_move) gd k0) gx
theorem anS(gd:aV n d=true)(gx:G m q (D P n ops ord K (Env.put ρ d (Env.ev ρ x)) w)):G (m+1) q (Ds P n ops {dst:=d,op:= .move x,type:=ty,pos:=pos,after:=aN,guard:=none} i0 .p ord K ρ w):=Gs (λk0 hi=>j9 hi (λw=>run_move) gd k0) gx
theorem anT(gd:aV n d=true)(gx:G m q (O P n all rest K (Env.put ρ d (Env.ev ρ x)) w)):G (m+1) q (O P n all ({dst:=d,op:= .assign x,type:=ty,pos:=pos,after:=aN,guard:=none}::rest) K ρ w):=Gs (λk0=>gf (run_assign) gd k0) gx
theorem anU(gd:aV n d=true)(gx:G m q (D P n ops ord K (Env.put ρ d (Env.ev ρ x)) w)):G (m+1) q (Ds P n ops {dst:=d,op:= .assign x,type:=ty,pos:=pos,after:=aN,guard:=none} i0 .p ord K ρ w):=Gs (λk0 hi=>j9 hi (λw=>run_assign) gd k0) gx
theorem anV(g0:Env.ev ρ x= .pointer (some Im))(gd:aV n d=true)(gx:G m q (O P n all rest K (Env.put ρ d (.pointer (some Im))) w)):G (m+1) q (O P n all ({dst:=d,op:= .nilCheck x,type:=ty,pos:=pos,after:=aN,guard:=none}::rest) K ρ w):=Gs (λk0=>gf (uR g0) gd k0) gx
theorem anW(g0:Env.ev ρ x= .pointer (some Im))(gd:aV n d=true)(gx:G m q (D P n ops ord K (Env.put ρ d (.pointer (some Im))) w)):G (m+1) q (Ds P n ops {dst:=d,op:= .nilCheck x,type:=ty,pos:=pos,after:=aN,guard:=none} i0 .p ord K ρ w):=Gs (λk0 hi=>j9 hi (λw=>uR g0) gd k0) gx
theorem anX(g0:cB P T f j)(g1:Env.ev ρ x= .pointer (some ⟨b,q0,none⟩))(gd:aV n d=true)(gx:G m q (O P n all rest K (Env.put ρ d (.pointer (some ⟨b,q0+j,none⟩))) w)):G (m+1) q (O P n all ({dst:=d,op:= .fieldAddr T x f,type:=ty,pos:=pos,after:=aN,guard:=none}::rest) K ρ w):=Gs (λk0=>gf (nS g1) gd k0) gx
theorem anY(g0:cB P T f j)(g1:Env.ev ρ x= .pointer (some ⟨b,q0,none⟩))(gd:aV n d=true)(gx:G m q (D P n ops ord K (Env.put ρ d (.pointer (some ⟨b,q0+j,none⟩))) w)):G (m+1) q (Ds P n ops {dst:=d,op:= .fieldAddr T x f,type:=ty,pos:=pos,after:=aN,guard:=none} i0 .p ord K ρ w):=Gs (λk0 hi=>j9 hi (λw=>nS g1) gd k0) gx
theorem anZ(g0:One P T')(g1:H r w L)(g2:Env.ev ρ x= .pointer (some ⟨b,q0,none⟩))(g3:Has L b l tt j)(g4:l[q0]? =some val)(gd:aV n d=true)(gx:G m q (O P n all rest K (Env.put ρ d (val)) w)):G (m+1) q (O P n all ({dst:=d,op:= .load T' x,type:=ty,pos:=pos,after:=aN,guard:=none}::rest) K ρ w):=Gs (λk0=>gf (run_load g1 g2 g4) gd k0) gx
theorem an0(g0:One P T')(g1:H r w L)(g2:Env.ev ρ x= .pointer (some ⟨b,q0,none⟩))(g3:Has L b l tt j)(g4:l[q0]? =some val)(gd:aV n d=true)(gx:G m q (D P n ops ord K (Env.put ρ d (val)) w)):G (m+1) q (Ds P n ops {dst:=d,op:= .load T' x,type:=ty,pos:=pos,after:=aN,guard:=none} i0 .c ord K ρ w):=Gs (λk0 hi=>xN hi (λ_ hk=>run_load (g1.keeps hk) g2 g4) gd k0) gx
theorem an1(g0:Env.ev ρ x= .int k u)(g1:Env.ev ρ y= .int k v)(g2:ao u a)(g3:ao v b)(g4:a+b<=aG k)(gd:aV n d=true)(gx:G m q (O P n all rest K (Env.put ρ d (.int k ((a+b:Nat):Int))) w)):G (m+1) q (O P n all ({dst:=d,op:= .binOp .add T x y T',type:=ty,pos:=pos,after:=aN,guard:=none}::rest) K ρ w):=Gs (λk0=>gf (d_ g0 g1 g4) gd k0) gx
theorem an2(g0:Env.ev ρ x= .int k u)(g1:Env.ev ρ y= .int k v)(g2:ao u a)(g3:ao v b)(g4:a+b<=aG k)(gd:aV n d=true)(gx:G m q (D P n ops ord K (Env.put ρ d (.int k ((a+b:Nat):Int))) w)):G (m+1) q (Ds P n ops {dst:=d,op:= .binOp .add T x y T',type:=ty,pos:=pos,after:=aN,guard:=none} i0 .p ord K ρ w):=Gs (λk0 hi=>j9 hi (λw=>d_ g0 g1 g4) gd k0) gx
theorem an3(g0:Env.ev ρ x= .int k u)(g1:Env.ev ρ y= .int k v)(g2:ao u a)(g3:ao v b)(gd:aV n d=true)(gx:G m q (O P n all rest K (Env.put ρ d (.bool (decide (a<b)))) w)):G (m+1) q (O P n all ({dst:=d,op:= .binOp .lss T x y T',type:=ty,pos:=pos,after:=aN,guard:=none}::rest) K ρ w):=Gs (λk0=>gf (Pk g0 g1) gd k0) gx
theorem an4(g0:Env.ev ρ x= .int k u)(g1:Env.ev ρ y= .int k v)(g2:ao u a)(g3:ao v b)(gd:aV n d=true)(gx:G m q (D P n ops ord K (Env.put ρ d (.bool (decide (a<b)))) w)):G (m+1) q (Ds P n ops {dst:=d,op:= .binOp .lss T x y T',type:=ty,pos:=pos,after:=aN,guard:=none} i0 .p ord K ρ w):=Gs (λk0 hi=>j9 hi (λw=>Pk g0 g1) gd k0) gx
theorem an5(g0:Env.ev ρ x= .int k u)(g1:Env.ev ρ y= .int k v)(g2:ao u a)(g3:ao v b)(gd:aV n d=true)(gx:G m q (O P n all rest K (Env.put ρ d (.bool (decide (a=b)))) w)):G (m+1) q (O P n all ({dst:=d,op:= .binOp .eql T x y T',type:=ty,pos:=pos,after:=aN,guard:=none}::rest) K ρ w):=Gs (λk0=>gf (Pl g0 g1) gd k0) gx
theorem an6(g0:Env.ev ρ x= .int k u)(g1:Env.ev ρ y= .int k v)(g2:ao u a)(g3:ao v b)(gd:aV n d=true)(gx:G m q (D P n ops ord K (Env.put ρ d (.bool (decide (a=b)))) w)):G (m+1) q (Ds P n ops {dst:=d,op:= .binOp .eql T x y T',type:=ty,pos:=pos,after:=aN,guard:=none} i0 .p ord K ρ w):=Gs (λk0 hi=>j9 hi (λw=>Pl g0 g1) gd k0) gx
theorem an7(g0:bO P T (.slice T'))(g1:Env.ev ρ x= .slice ad len cap)(gd:aV n d=true)(gx:G m q (O P n all rest K (Env.put ρ d (.int .i64 (len:Int))) w)):G (m+1) q (O P n all ({dst:=d,op:= .call {callee:= .builtin .len,args:= #[x],argTypes:= #[T]},type:=ty,pos:=pos,after:=aN,guard:=none}::rest) K ρ w):=Gs (λk0=>gf (CM g1) gd k0) gx
theorem an8(g0:bO P T (.slice T'))(g1:Env.ev ρ x= .slice ad len cap)(gd:aV n d=true)(gx:G m q (D P n ops ord K (Env.put ρ d (.int .i64 (len:Int))) w)):G (m+1) q (Ds P n ops {dst:=d,op:= .call {callee:= .builtin .len,args:= #[x],argTypes:= #[T]},type:=ty,pos:=pos,after:=aN,guard:=none} i0 .p ord K ρ w):=Gs (λk0 hi=>j9 hi (λw=>CM g1) gd k0) gx
theorem an9(g0:Env.ev ρ x= .tuple vs)(g1:vs[j]? =some val)(gd:aV n d=true)(gx:G m q (O P n all rest K (Env.put ρ d (val)) w)):G (m+1) q (O P n all ({dst:=d,op:= .extract x j,type:=ty,pos:=pos,after:=aN,guard:=none}::rest) K ρ w):=Gs (λk0=>gf (acV g0 g1) gd k0) gx
theorem an'(g0:Env.ev ρ x= .tuple vs)(g1:vs[j]? =some val)(gd:aV n d=true)(gx:G m q (D P n ops ord K (Env.put ρ d (val)) w)):G (m+1) q (Ds P n ops {dst:=d,op:= .extract x j,type:=ty,pos:=pos,after:=aN,guard:=none} i0 .p ord K ρ w):=Gs (λk0 hi=>j9 hi (λw=>acV g0 g1) gd k0) gx
theorem aoa(g0:bO P T ds)(g1:bO P T' (.int k))(g2:Env.ev ρ x= .int k' u)(g3:ao u a)(g4:a<=aG k)(gd:aV n d=true)(gx:G m q (O P n all rest K (Env.put ρ d (.int k (a:Int))) w)):G (m+1) q (O P n all ({dst:=d,op:= .convert T T' x,type:=ty,pos:=pos,after:=aN,guard:=none}::rest) K ρ w):=Gs (λk0=>gf (eB g2 g4) gd k0) gx
theorem aob(g0:bO P T ds)(g1:bO P T' (.int k))(g2:Env.ev ρ x= .int k' u)(g3:ao u a)(g4:a<=aG k)(gd:aV n d=true)(gx:G m q (D P n ops ord K (Env.put ρ d (.int k (a:Int))) w)):G (m+1) q (Ds P n ops {dst:=d,op:= .convert T T' x,type:=ty,pos:=pos,after:=aN,guard:=none} i0 .p ord K ρ w):=Gs (λk0 hi=>j9 hi (λw=>eB g2 g4) gd k0) gx
theorem aoc(g0:Env.ev ρ x= .int k u)(g1:Env.ev ρ y= .int k v)(g2:ao u a)(g3:ao v b)(gd:aV n d=true)(gx:G m q (O P n all rest K (Env.put ρ d (.bool (decide (b<a)))) w)):G (m+1) q (O P n all ({dst:=d,op:= .binOp .gtr T x y T',type:=ty,pos:=pos,after:=aN,guard:=none}::rest) K ρ w):=Gs (λk0=>gf (La g0 g1) gd k0) gx
theorem aod(g0:Env.ev ρ x= .int k u)(g1:Env.ev ρ y= .int k v)(g2:ao u a)(g3:ao v b)(gd:aV n d=true)(gx:G m q (D P n ops ord K (Env.put ρ d (.bool (decide (b<a)))) w)):G (m+1) q (Ds P n ops {dst:=d,op:= .binOp .gtr T x y T',type:=ty,pos:=pos,after:=aN,guard:=none} i0 .p ord K ρ w):=Gs (λk0 hi=>j9 hi (λw=>La g0 g1) gd k0) gx
theorem aoe(g0:Env.ev ρ x= .int k u)(g1:Env.ev ρ y= .int k v)(g2:ao u a)(g3:ao v b)(gd:aV n d=true)(gx:G m q (O P n all rest K (Env.put ρ d (.bool (decide (b<=a)))) w)):G (m+1) q (O P n all ({dst:=d,op:= .binOp .geq T x y T',type:=ty,pos:=pos,after:=aN,guard:=none}::rest) K ρ w):=Gs (λk0=>gf (VR g0 g1) gd k0) gx
theorem aof(g0:Env.ev ρ x= .int k u)(g1:Env.ev ρ y= .int k v)(g2:ao u a)(g3:ao v b)(gd:aV n d=true)(gx:G m q (D P n ops ord K (Env.put ρ d (.bool (decide (b<=a)))) w)):G (m+1) q (Ds P n ops {dst:=d,op:= .binOp .geq T x y T',type:=ty,pos:=pos,after:=aN,guard:=none} i0 .p ord K ρ w):=Gs (λk0 hi=>j9 hi (λw=>VR g0 g1) gd k0) gx
theorem aog(g0:Env.ev ρ x= .int k u)(g1:Env.ev ρ y= .int k v)(g2:ao u a)(g3:ao v b)(gd:aV n d=true)(gx:G m q (O P n all rest K (Env.put ρ d (.bool (decide (a<=b)))) w)):G (m+1) q (O P n all ({dst:=d,op:= .binOp .leq T x y T',type:=ty,pos:=pos,after:=aN,guard:=none}::rest) K ρ w):=Gs (λk0=>gf (VQ g0 g1) gd k0) gx
theorem aoh(g0:Env.ev ρ x= .int k u)(g1:Env.ev ρ y= .int k v)(g2:ao u a)(g3:ao v b)(gd:aV n d=true)(gx:G m q (D P n ops ord K (Env.put ρ d (.bool (decide (a<=b)))) w)):G (m+1) q (Ds P n ops {dst:=d,op:= .binOp .leq T x y T',type:=ty,pos:=pos,after:=aN,guard:=none} i0 .p ord K ρ w):=Gs (λk0 hi=>j9 hi (λw=>VQ g0 g1) gd k0) gx
theorem aoi(g0:Env.ev ρ x= .int k u)(g1:Env.ev ρ y= .int k v)(g2:ao u a)(g3:ao v b)(gd:aV n d=true)(gx:G m q (O P n all rest K (Env.put ρ d (.bool (decide (¬a=b)))) w)):G (m+1) q (O P n all ({dst:=d,op:= .binOp .neq T x y T',type:=ty,pos:=pos,after:=aN,guard:=none}::rest) K ρ w):=Gs (λk0=>gf (Ia g0 g1) gd k0) gx
theorem aoj(g0:Env.ev ρ x= .int k u)(g1:Env.ev ρ y= .int k v)(g2:ao u a)(g3:ao v b)(gd:aV n d=true)(gx:G m q (D P n ops ord K (Env.put ρ d (.bool (decide (¬a=b)))) w)):G (m+1) q (Ds P n ops {dst:=d,op:= .binOp .neq T x y T',type:=ty,pos:=pos,after:=aN,guard:=none} i0 .p ord K ρ w):=Gs (λk0 hi=>j9 hi (λw=>Ia g0 g1) gd k0) gx
theorem aok(g0:Env.ev ρ x= .int k u)(g1:Env.ev ρ y= .int k v)(g2:ao u a)(g3:ao v b)(g4:b<=a)(g5:a<=aG k)(gd:aV n d=true)(gx:G m q (O P n all rest K (Env.put ρ d (.int k ((a-b:Nat):Int))) w)):G (m+1) q (O P n all ({dst:=d,op:= .binOp .sub T x y T',type:=ty,pos:=pos,after:=aN,guard:=none}::rest) K ρ w):=Gs (λk0=>gf (iz g0 g1 g4 g5) gd k0) gx
theorem aol(g0:Env.ev ρ x= .int k u)(g1:Env.ev ρ y= .int k v)(g2:ao u a)(g3:ao v b)(g4:b<=a)(g5:a<=aG k)(gd:aV n d=true)(gx:G m q (D P n ops ord K (Env.put ρ d (.int k ((a-b:Nat):Int))) w)):G (m+1) q (Ds P n ops {dst:=d,op:= .binOp .sub T x y T',type:=ty,pos:=pos,after:=aN,guard:=none} i0 .p ord K ρ w):=Gs (λk0 hi=>j9 hi (λw=>iz g0 g1 g4 g5) gd k0) gx
theorem aom(g0:bO P T (.slice T'))(g1:Sz P T' 1)(g2:Env.ev ρ x= .slice ad len cap)(g3:Env.ev ρ y= .int k u)(g4:ao u a)(g5:ad=some ⟨b,0,none⟩)(g6:a<len)(gd:aV n d=true)(gx:G m q (O P n all rest K (Env.put ρ d (.pointer (some ⟨b,a,none⟩))) w)):G (m+1) q (O P n all ({dst:=d,op:= .indexAddr T x y,type:=ty,pos:=pos,after:=aN,guard:=none}::rest) K ρ w):=Gs (λk0=>gf (js g2 g3 g5 g6) gd k0) gx
theorem aon(g0:bO P T (.slice T'))(g1:Sz P T' 1)(g2:Env.ev ρ x= .slice ad len cap)(g3:Env.ev ρ y= .int k u)(g4:ao u a)(g5:ad=some ⟨b,0,none⟩)(g6:a<len)(gd:aV n d=true)(gx:G m q (D P n ops ord K (Env.put ρ d (.pointer (some ⟨b,a,none⟩))) w)):G (m+1) q (Ds P n ops {dst:=d,op:= .indexAddr T x y,type:=ty,pos:=pos,after:=aN,guard:=none} i0 .p ord K ρ w):=Gs (λk0 hi=>j9 hi (λw=>js g2 g3 g5 g6) gd k0) gx
theorem aoo(g0:bO P T (.array len T'))(g1:Sz P T' 1)(g2:Env.ev ρ x= .pointer (some ⟨b,0,none⟩))(g3:Env.ev ρ y= .int k u)(g4:ao u a)(g5:a<len)(gd:aV n d=true)(gx:G m q (O P n all rest K (Env.put ρ d (.pointer (some ⟨b,a,none⟩))) w)):G (m+1) q (O P n all ({dst:=d,op:= .indexAddr T x y,type:=ty,pos:=pos,after:=aN,guard:=none}::rest) K ρ w):=Gs (λk0=>gf (Lk g2 g3 g5) gd k0) gx
theorem aop(g0:bO P T (.array len T'))(g1:Sz P T' 1)(g2:Env.ev ρ x= .pointer (some ⟨b,0,none⟩))(g3:Env.ev ρ y= .int k u)(g4:ao u a)(g5:a<len)(gd:aV n d=true)(gx:G m q (D P n ops ord K (Env.put ρ d (.pointer (some ⟨b,a,none⟩))) w)):G (m+1) q (Ds P n ops {dst:=d,op:= .indexAddr T x y,type:=ty,pos:=pos,after:=aN,guard:=none} i0 .p ord K ρ w):=Gs (λk0 hi=>j9 hi (λw=>Lk g2 g3 g5) gd k0) gx
theorem aoq(g0:bO P T (.array len T'))(g1:Sz P T' 1)(g2:Env.ev ρ x= .pointer (some ⟨b,q0,none⟩))(g3:Env.ev ρ y= .int k u)(g4:ao u a)(g5:a<len)(gd:aV n d=true)(gx:G m q (O P n all rest K (Env.put ρ d (.pointer (some ⟨b,q0+a,none⟩))) w)):G (m+1) q (O P n all ({dst:=d,op:= .indexAddr T x y,type:=ty,pos:=pos,after:=aN,guard:=none}::rest) K ρ w):=Gs (λk0=>gf (nq g2 g3 g5) gd k0) gx
theorem aor(g0:bO P T (.array len T'))(g1:Sz P T' 1)(g2:Env.ev ρ x= .pointer (some ⟨b,q0,none⟩))(g3:Env.ev ρ y= .int k u)(g4:ao u a)(g5:a<len)(gd:aV n d=true)(gx:G m q (D P n ops ord K (Env.put ρ d (.pointer (some ⟨b,q0+a,none⟩))) w)):G (m+1) q (Ds P n ops {dst:=d,op:= .indexAddr T x y,type:=ty,pos:=pos,after:=aN,guard:=none} i0 .p ord K ρ w):=Gs (λk0 hi=>j9 hi (λw=>nq g2 g3 g5) gd k0) gx
theorem aos(g0:Env.ev ρ c0= .bool true)(gd:aV n d=true)(gx:G m q (O P n all rest K (Env.put ρ d (Env.ev ρ x)) w)):G (m+1) q (O P n all ({dst:=d,op:= .pick c0 x y,type:=ty,pos:=pos,after:=aN,guard:=none}::rest) K ρ w):=Gs (λk0=>gf (sw g0) gd k0) gx
theorem aot(g0:Env.ev ρ c0= .bool true)(gd:aV n d=true)(gx:G m q (D P n ops ord K (Env.put ρ d (Env.ev ρ x)) w)):G (m+1) q (Ds P n ops {dst:=d,op:= .pick c0 x y,type:=ty,pos:=pos,after:=aN,guard:=none} i0 .p ord K ρ w):=Gs (λk0 hi=>j9 hi (λw=>sw g0) gd k0) gx
theorem aou(g0:Env.ev ρ c0= .bool false)(gd:aV n d=true)(gx:G m q (O P n all rest K (Env.put ρ d (Env.ev ρ y)) w)):G (m+1) q (O P n all ({dst:=d,op:= .pick c0 x y,type:=ty,pos:=pos,after:=aN,guard:=none}::rest) K ρ w):=Gs (λk0=>gf (uW g0) gd k0) gx
theorem aov(g0:Env.ev ρ c0= .bool false)(gd:aV n d=true)(gx:G m q (D P n ops ord K (Env.put ρ d (Env.ev ρ y)) w)):G (m+1) q (Ds P n ops {dst:=d,op:= .pick c0 x y,type:=ty,pos:=pos,after:=aN,guard:=none} i0 .p ord K ρ w):=Gs (λk0 hi=>j9 hi (λw=>uW g0) gd k0) gx
theorem aow(g0:Env.ev ρ x= .int k u)(g1:Env.ev ρ y= .int k v)(g2:ao u a)(g3:ao v b)(g4:a*b<=aG k)(gd:aV n d=true)(gx:G m q (O P n all rest K (Env.put ρ d (.int k ((a*b:Nat):Int))) w)):G (m+1) q (O P n all ({dst:=d,op:= .binOp .mul T x y T',type:=ty,pos:=pos,after:=aN,guard:=none}::rest) K ρ w):=Gs (λk0=>gf (AJ g0 g1 g4) gd k0) gx
theorem aox(g0:Env.ev ρ x= .int k u)(g1:Env.ev ρ y= .int k v)(g2:ao u a)(g3:ao v b)(g4:a*b<=aG k)(gd:aV n d=true)(gx:G m q (D P n ops ord K (Env.put ρ d (.int k ((a*b:Nat):Int))) w)):G (m+1) q (Ds P n ops {dst:=d,op:= .binOp .mul T x y T',type:=ty,pos:=pos,after:=aN,guard:=none} i0 .p ord K ρ w):=Gs (λk0 hi=>j9 hi (λw=>AJ g0 g1 g4) gd k0) gx
theorem aoy(g0:Env.ev ρ x= .int k u)(g1:Env.ev ρ y= .int k' v)(g2:ao u a)(g3:ao v b)(g4:a<=aG k)(gd:aV n d=true)(gx:G m q (O P n all rest K (Env.put ρ d (.int k ((a/2^b:Nat):Int))) w)):G (m+1) q (O P n all ({dst:=d,op:= .binOp .shr T x y T',type:=ty,pos:=pos,after:=aN,guard:=none}::rest) K ρ w):=Gs (λk0=>gf (pX g0 g1 g4) gd k0) gx
theorem aoz(g0:Env.ev ρ x= .int k u)(g1:Env.ev ρ y= .int k' v)(g2:ao u a)(g3:ao v b)(g4:a<=aG k)(gd:aV n d=true)(gx:G m q (D P n ops ord K (Env.put ρ d (.int k ((a/2^b:Nat):Int))) w)):G (m+1) q (Ds P n ops {dst:=d,op:= .binOp .shr T x y T',type:=ty,pos:=pos,after:=aN,guard:=none} i0 .p ord K ρ w):=Gs (λk0 hi=>j9 hi (λw=>pX g0 g1 g4) gd k0) gx
theorem aoA(g0:Env.ev ρ x= .int k u)(g1:Env.ev ρ y= .int k v)(g2:ao u a)(g3:ao v b)(g4:a<=aG k)(g5:b<=aG k)(gd:aV n d=true)(gx:G m q (O P n all rest K (Env.put ρ d (.int k ((a&&&b:Nat):Int))) w)):G (m+1) q (O P n all ({dst:=d,op:= .binOp .and T x y T',type:=ty,pos:=pos,after:=aN,guard:=none}::rest) K ρ w):=Gs (λk0=>gf (xH g0 g1 g4 g5) gd k0) gx
theorem aoB(g0:Env.ev ρ x= .int k u)(g1:Env.ev ρ y= .int k v)(g2:ao u a)(g3:ao v b)(g4:a<=aG k)(g5:b<=aG k)(gd:aV n d=true)(gx:G m q (D P n ops ord K (Env.put ρ d (.int k ((a&&&b:Nat):Int))) w)):G (m+1) q (Ds P n ops {dst:=d,op:= .binOp .and T x y T',type:=ty,pos:=pos,after:=aN,guard:=none} i0 .p ord K ρ w):=Gs (λk0 hi=>j9 hi (λw=>xH g0 g1 g4 g5) gd k0) gx
theorem aoC(g0:ao v a)(gd:aV n d=true)(gx:G m q (O P n all rest K (Env.put ρ d (.int k (a:Int))) w)):G (m+1) q (O P n all ({dst:=d,op:= .move (.const (.int k v)),type:=ty,pos:=pos,after:=aN,guard:=none}::rest) K ρ w):=Gs (λk0=>gf (Pv a J g0.eq) gd k0) gx
theorem aoD(g0:ao v a)(gd:aV n d=true)(gx:G m q (D P n ops ord K (Env.put ρ d (.int k (a:Int))) w)):G (m+1) q (Ds P n ops {dst:=d,op:= .move (.const (.int k v)),type:=ty,pos:=pos,after:=aN,guard:=none} i0 .p ord K ρ w):=Gs (λk0 hi=>j9 hi (λw=>Pv a J g0.eq) gd k0) gx
theorem aoE(g0:ao v a)(gd:aV n d=true)(gx:G m q (O P n all rest K (Env.put ρ d (.int k (a:Int))) w)):G (m+1) q (O P n all ({dst:=d,op:= .assign (.const (.int k v)),type:=ty,pos:=pos,after:=aN,guard:=none}::rest) K ρ w):=Gs (λk0=>gf (zl a J g0.eq) gd k0) gx
theorem aoF(g0:ao v a)(gd:aV n d=true)(gx:G m q (D P n ops ord K (Env.put ρ d (.int k (a:Int))) w)):G (m+1) q (Ds P n ops {dst:=d,op:= .assign (.const (.int k v)),type:=ty,pos:=pos,after:=aN,guard:=none} i0 .p ord K ρ w):=Gs (λk0 hi=>j9 hi (λw=>zl a J g0.eq) gd k0) gx
theorem aoG{g0 t:Nat}{want tv:Bool}(ga:(all[g0]?).bind (·.dst)=some t)(gb:Nat.blt t n=true)(gc:ρ t= .bool tv)(gx:G m q (Og P n all {dst:=d,op:=op,type:=ty,pos:=pos,after:=aN,guard:=some (g0,want)} g0 want t tv rest K ρ w)):G m q (O P n all ({dst:=d,op:=op,type:=ty,pos:=pos,after:=aN,guard:=some (g0,want)}::rest) K ρ w):=Gt (λk0=>k0 ga gb gc) gx
theorem aoH{g0 t:Nat}{want tv:Bool}(ge:(tv==want)=false)(gd:aV n d=true)(gx:G m q (O P n all rest K (Env.put ρ d undef) w)):G (m+1) q (Og P n all {dst:=d,op:=op,type:=ty,pos:=pos,after:=aN,guard:=some (g0,want)} g0 want t tv rest K ρ w):=Gs (λk0 ga gb gc=>acZ ga gb gc ge gd k0) gx
theorem aoI{gu t:Nat}{want:Bool}(gd:aV n d=true)(gx:G m q (O P n all rest K (Env.put ρ d (Env.ev ρ x)) w)):G (m+1) q (Og P n all {dst:=d,op:= .move x,type:=ty,pos:=pos,after:=aN,guard:=some (gu,want)} gu want t want rest K ρ w):=Gs (λk0 ga gb gc=>dn ga gb gc (run_move) gd k0) gx
theorem aoJ{gu t:Nat}{want:Bool}(g0:Env.ev ρ x= .pointer (some Im))(gd:aV n d=true)(gx:G m q (O P n all rest K (Env.put ρ d (.pointer (some Im))) w)):G (m+1) q (Og P n all {dst:=d,op:= .nilCheck x,type:=ty,pos:=pos,after:=aN,guard:=some (gu,want)} gu want t want rest K ρ w):=Gs (λk0 ga gb gc=>dn ga gb gc (uR g0) gd k0) gx
theorem aoK{gu t:Nat}{want:Bool}(g0:cB P T f j)(g1:Env.ev ρ x= .pointer (some ⟨b,q0,none⟩))(gd:aV n d=true)(gx:G m q (O P n all rest K (Env.put ρ d (.pointer (some ⟨b,q0+j,none⟩))) w)):G (m+1) q (Og P n all {dst:=d,op:= .fieldAddr T x f,type:=ty,pos:=pos,after:=aN,guard:=some (gu,want)} gu want t want rest K ρ w):=Gs (λk0 ga gb gc=>dn ga gb gc (nS g1) gd k0) gx
theorem aoL{gu t:Nat}{want:Bool}(g0:One P T')(g1:H r w L)(g2:Env.ev ρ x= .pointer (some ⟨b,q0,none⟩))(g3:Has L b l tt j)(g4:l[q0]? =some val)(gd:aV n d=true)(gx:G m q (O P n all rest K (Env.put ρ d (val)) w)):G (m+1) q (Og P n all {dst:=d,op:= .load T' x,type:=ty,pos:=pos,after:=aN,guard:=some (gu,want)} gu want t want rest K ρ w):=Gs (λk0 ga gb gc=>dn ga gb gc (run_load g1 g2 g4) gd k0) gx
theorem aoM{gu t:Nat}{want:Bool}(g0:Env.ev ρ x= .int k u)(g1:Env.ev ρ y= .int k v)(g2:ao u a)(g3:ao v b)(g4:a+b<=aG k)(gd:aV n d=true)(gx:G m q (O P n all rest K (Env.put ρ d (.int k ((a+b:Nat):Int))) w)):G (m+1) q (Og P n all {dst:=d,op:= .binOp .add T x y T',type:=ty,pos:=pos,after:=aN,guard:=some (gu,want)} gu want t want rest K ρ w):=Gs (λk0 ga gb gc=>dn ga gb gc (d_ g0 g1 g4) gd k0) gx
theorem aoN{gu t:Nat}{want:Bool}(g0:Env.ev ρ x= .int k u)(g1:Env.ev ρ y= .int k v)(g2:ao u a)(g3:ao v b)(gd:aV n d=true)(gx:G m q (O P n all rest K (Env.put ρ d (.bool (decide (a<b)))) w)):G (m+1) q (Og P n all {dst:=d,op:= .binOp .lss T x y T',type:=ty,pos:=pos,after:=aN,guard:=some (gu,want)} gu want t want rest K ρ w):=Gs (λk0 ga gb gc=>dn ga gb gc (Pk g0 g1) gd k0) gx
theorem aoO{gu t:Nat}{want:Bool}(g0:Env.ev ρ x= .int k u)(g1:Env.ev ρ y= .int k v)(g2:ao u a)(g3:ao v b)(gd:aV n d=true)(gx:G m q (O P n all rest K (Env.put ρ d (.bool (decide (a=b)))) w)):G (m+1) q (Og P n all {dst:=d,op:= .binOp .eql T x y T',type:=ty,pos:=pos,after:=aN,guard:=some (gu,want)} gu want t want rest K ρ w):=Gs (λk0 ga gb gc=>dn ga gb gc (Pl g0 g1) gd k0) gx
theorem aoP{gu t:Nat}{want:Bool}(g0:bO P T (.slice T'))(g1:Env.ev ρ x= .slice ad len cap)(gd:aV n d=true)(gx:G m q (O P n all rest K (Env.put ρ d (.int .i64 (len:Int))) w)):G (m+1) q (Og P n all {dst:=d,op:= .call {callee:= .builtin .len,args:= #[x],argTypes:= #[T]},type:=ty,pos:=pos,after:=aN,guard:=some (gu,want)} gu want t want rest K ρ w):=Gs (λk0 ga gb gc=>dn ga gb gc (CM g1) gd k0) gx
theorem aoQ{gu t:Nat}{want:Bool}(g0:bO P T ds)(g1:bO P T' (.int k))(g2:Env.ev ρ x= .int k' u)(g3:ao u a)(g4:a<=aG k)(gd:aV n d=true)(gx:G m q (O P n all rest K (Env.put ρ d (.int k (a:Int))) w)):G (m+1) q (Og P n all {dst:=d,op:= .convert T T' x,type:=ty,pos:=pos,after:=aN,guard:=some (gu,want)} gu want t want rest K ρ w):=Gs (λk0 ga gb gc=>dn ga gb gc (eB g2 g4) gd k0) gx
theorem aoR{gu t:Nat}{want:Bool}(g0:Env.ev ρ x= .int k u)(g1:Env.ev ρ y= .int k v)(g2:ao u a)(g3:ao v b)(gd:aV n d=true)(gx:G m q (O P n all rest K (Env.put ρ d (.bool (decide (b<a)))) w)):G (m+1) q (Og P n all {dst:=d,op:= .binOp .gtr T x y T',type:=ty,pos:=pos,after:=aN,guard:=some (gu,want)} gu want t want rest K ρ w):=Gs (λk0 ga gb gc=>dn ga gb gc (La g0 g1) gd k0) gx
theorem aoS{gu t:Nat}{want:Bool}(g0:Env.ev ρ x= .int k u)(g1:Env.ev ρ y= .int k v)(g2:ao u a)(g3:ao v b)(gd:aV n d=true)(gx:G m q (O P n all rest K (Env.put ρ d (.bool (decide (b<=a)))) w)):G (m+1) q (Og P n all {dst:=d,op:= .binOp .geq T x y T',type:=ty,pos:=pos,after:=aN,guard:=some (gu,want)} gu want t want rest K ρ w):=Gs (λk0 ga gb gc=>dn ga gb gc (VR g0 g1) gd k0) gx
theorem aoT{gu t:Nat}{want:Bool}(g0:Env.ev ρ x= .int k u)(g1:Env.ev ρ y= .int k v)(g2:ao u a)(g3:ao v b)(gd:aV n d=true)(gx:G m q (O P n all rest K (Env.put ρ d (.bool (decide (a<=b)))) w)):G (m+1) q (Og P n all {dst:=d,op:= .binOp .leq T x y T',type:=ty,pos:=pos,after:=aN,guard:=some (gu,want)} gu want t want rest K ρ w):=Gs (λk0 ga gb gc=>dn ga gb gc (VQ g0 g1) gd k0) gx
theorem aoU{gu t:Nat}{want:Bool}(g0:Env.ev ρ x= .int k u)(g1:Env.ev ρ y= .int k v)(g2:ao u a)(g3:ao v b)(gd:aV n d=true)(gx:G m q (O P n all rest K (Env.put ρ d (.bool (decide (¬a=b)))) w)):G (m+1) q (Og P n all {dst:=d,op:= .binOp .neq T x y T',type:=ty,pos:=pos,after:=aN,guard:=some (gu,want)} gu want t want rest K ρ w):=Gs (λk0 ga gb gc=>dn ga gb gc (Ia g0 g1) gd k0) gx
theorem aoV{gu t:Nat}{want:Bool}(g0:Env.ev ρ x= .int k u)(g1:Env.ev ρ y= .int k v)(g2:ao u a)(g3:ao v b)(g4:b<=a)(g5:a<=aG k)(gd:aV n d=true)(gx:G m q (O P n all rest K (Env.put ρ d (.int k ((a-b:Nat):Int))) w)):G (m+1) q (Og P n all {dst:=d,op:= .binOp .sub T x y T',type:=ty,pos:=pos,after:=aN,guard:=some (gu,want)} gu want t want rest K ρ w):=Gs (λk0 ga gb gc=>dn ga gb gc (iz g0 g1 g4 g5) gd k0) gx
theorem aoW{gu t:Nat}{want:Bool}(g0:bO P T (.slice T'))(g1:Sz P T' 1)(g2:Env.ev ρ x= .slice ad len cap)(g3:Env.ev ρ y= .int k u)(g4:ao u a)(g5:ad=some ⟨b,0,none⟩)(g6:a<len)(gd:aV n d=true)(gx:G m q (O P n all rest K (Env.put ρ d (.pointer (some ⟨b,a,none⟩))) w)):G (m+1) q (Og P n all {dst:=d,op:= .indexAddr T x y,type:=ty,pos:=pos,after:=aN,guard:=some (gu,want)} gu want t want rest K ρ w):=Gs (λk0 ga gb gc=>dn ga gb gc (js g2 g3 g5 g6) gd k0) gx
end
attribute [irreducible] Ds Og
end
theorem dq(a:Nat):ao (@OfNat.ofNat Int a instOfNat) (@OfNat.ofNat Nat a (instOfNatNat a)):=⟨J⟩
theorem V (m:Nat) {p q:Prop} (k:q) (h:G m (.mk q) p:=by
 repeat(first
  |exact G0
  | ((with_reducible apply aoC);(first|exact iN|exact dq _);exact J)
  | ((with_reducible apply anR);exact J)
  | (with_reducible apply ac3)
  | (with_reducible apply anN)
  | (with_reducible apply ac4)
  | (with_reducible apply ac9)
  | ((with_reducible apply anV);exact J;exact J)
  | ((with_reducible apply anX);exact iF;exact J;exact J)
  | ((with_reducible apply anZ);exact iO;exact h;exact J;exact iH;exact J;exact J)
  | ((with_reducible apply an1);exact J;exact J;(first|exact iN|exact dq _);(first|exact iN|exact dq _);exact k_;exact J)
  | ((with_reducible apply aoE);(first|exact iN|exact dq _);exact J)
  | ((with_reducible apply anT);exact J)
  | (with_reducible apply ac2)
  | (with_reducible apply anM)
  | (with_reducible apply ac6)
  | (with_reducible apply ac5)
  | (with_reducible apply ac7)
  | (with_reducible apply ac8)
  | ((with_reducible apply an3);exact J;exact J;(first|exact iN|exact dq _);(first|exact iN|exact dq _);exact J)
  | ((with_reducible apply an5);exact J;exact J;(first|exact iN|exact dq _);(first|exact iN|exact dq _);exact J)
  | ((with_reducible apply an7);exact iU;exact J;exact J)
  | ((with_reducible apply an9);exact J;exact J;exact J)
  | ((with_reducible apply aoa);exact iU;exact iU;exact J;(first|exact iN|exact dq _);exact k_;exact J)
  | ((with_reducible apply aoc);exact J;exact J;(first|exact iN|exact dq _);(first|exact iN|exact dq _);exact J)
  | ((with_reducible apply aoe);exact J;exact J;(first|exact iN|exact dq _);(first|exact iN|exact dq _);exact J)
  | ((with_reducible apply aog);exact J;exact J;(first|exact iN|exact dq _);(first|exact iN|exact dq _);exact J)
  | ((with_reducible apply aoi);exact J;exact J;(first|exact iN|exact dq _);(first|exact iN|exact dq _);exact J)
  | ((with_reducible apply aok);exact J;exact J;(first|exact iN|exact dq _);(first|exact iN|exact dq _);exact I;exact k_;exact J)
  | ((with_reducible apply aom);exact iU;exact iS;exact J;exact J;(first|exact iN|exact dq _);exact J;exact I;exact J)
  | ((with_reducible apply aoo);exact iU;exact iS;exact J;exact J;(first|exact iN|exact dq _);exact I;exact J)
  | ((with_reducible apply aoq);exact iU;exact iS;exact J;exact J;(first|exact iN|exact dq _);exact I;exact J)
  | ((with_reducible apply aos);exact J;exact J)
  | ((with_reducible apply aou);exact J;exact J)
  | ((with_reducible apply aow);exact J;exact J;(first|exact iN|exact dq _);(first|exact iN|exact dq _);exact k_;exact J)
  | ((with_reducible apply aoy);exact J;exact J;(first|exact iN|exact dq _);(first|exact iN|exact dq _);exact k_;exact J)
  | ((with_reducible apply aoA);exact J;exact J;(first|exact iN|exact dq _);(first|exact iN|exact dq _);exact k_;exact k_;exact J)
  | ((with_reducible apply aoG);exact J;exact J;exact J;first| ((with_reducible apply aoH);exact J;exact J)| ((with_reducible apply aoI);exact J)| ((with_reducible apply aoJ);exact J;exact J)| ((with_reducible apply aoK);exact iF;exact J;exact J)| ((with_reducible apply aoL);exact iO;exact h;exact J;exact iH;exact J;exact J)| ((with_reducible apply aoM);exact J;exact J;(first|exact iN|exact dq _);(first|exact iN|exact dq _);exact k_;exact J)| ((with_reducible apply aoN);exact J;exact J;(first|exact iN|exact dq _);(first|exact iN|exact dq _);exact J)| ((with_reducible apply aoO);exact J;exact J;(first|exact iN|exact dq _);(first|exact iN|exact dq _);exact J)| ((with_reducible apply aoP);exact iU;exact J;exact J)| ((with_reducible apply aoQ);exact iU;exact iU;exact J;(first|exact iN|exact dq _);exact k_;exact J)| ((with_reducible apply aoR);exact J;exact J;(first|exact iN|exact dq _);(first|exact iN|exact dq _);exact J)| ((with_reducible apply aoS);exact J;exact J;(first|exact iN|exact dq _);(first|exact iN|exact dq _);exact J)| ((with_reducible apply aoT);exact J;exact J;(first|exact iN|exact dq _);(first|exact iN|exact dq _);exact J)| ((with_reducible apply aoU);exact J;exact J;(first|exact iN|exact dq _);(first|exact iN|exact dq _);exact J)| ((with_reducible apply aoV);exact J;exact J;(first|exact iN|exact dq _);(first|exact iN|exact dq _);exact I;exact k_;exact J)| ((with_reducible apply aoW);exact iU;exact iS;exact J;exact J;(first|exact iN|exact dq _);exact J;exact I;exact J))
  |apply ac3
  |apply ac4
  |apply ac9
  |apply ac6
  |apply ac5
  |apply ac7
  |apply ac8)):p:=G1 h k
theorem av (m:Nat) {p q:Prop} (k:q) (h:G m (.mk q) p:=by
 repeat(first
  |exact G0
  | (apply anP;exact J;first| (apply aoD;(first|exact iN|exact dq _);exact J)| (apply aoF;(first|exact iN|exact dq _);exact J)| (apply anS;exact J)| (apply anU;exact J)| (apply anW;exact J;exact J)| (apply anY;exact iF;exact J;exact J)| (apply an0;exact iO;exact h;exact J;exact iH;exact J;exact J)| (apply an2;exact J;exact J;(first|exact iN|exact dq _);(first|exact iN|exact dq _);exact k_;exact J)| (apply an4;exact J;exact J;(first|exact iN|exact dq _);(first|exact iN|exact dq _);exact J)| (apply an6;exact J;exact J;(first|exact iN|exact dq _);(first|exact iN|exact dq _);exact J)| (apply an8;exact iU;exact J;exact J)| (apply an';exact J;exact J;exact J)| (apply aob;exact iU;exact iU;exact J;(first|exact iN|exact dq _);exact k_;exact J)| (apply aod;exact J;exact J;(first|exact iN|exact dq _);(first|exact iN|exact dq _);exact J)| (apply aof;exact J;exact J;(first|exact iN|exact dq _);(first|exact iN|exact dq _);exact J)| (apply aoh;exact J;exact J;(first|exact iN|exact dq _);(first|exact iN|exact dq _);exact J)| (apply aoj;exact J;exact J;(first|exact iN|exact dq _);(first|exact iN|exact dq _);exact J)| (apply aol;exact J;exact J;(first|exact iN|exact dq _);(first|exact iN|exact dq _);exact I;exact k_;exact J)| (apply aon;exact iU;exact iS;exact J;exact J;(first|exact iN|exact dq _);exact J;exact I;exact J)| (apply aop;exact iU;exact iS;exact J;exact J;(first|exact iN|exact dq _);exact I;exact J)| (apply aor;exact iU;exact iS;exact J;exact J;(first|exact iN|exact dq _);exact I;exact J)| (apply aot;exact J;exact J)| (apply aov;exact J;exact J)| (apply aox;exact J;exact J;(first|exact iN|exact dq _);(first|exact iN|exact dq _);exact k_;exact J)| (apply aoz;exact J;exact J;(first|exact iN|exact dq _);(first|exact iN|exact dq _);exact k_;exact J)| (apply aoB;exact J;exact J;(first|exact iN|exact dq _);(first|exact iN|exact dq _);exact k_;exact k_;exact J)| (apply anQ;exact J;exact J;exact J;exact J;exact J))
  |apply anO
  |apply ac2)):p:=G1 h k
end Go.Z
