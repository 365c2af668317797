import PyProof.Rows.All
import Wide.All
import OpenK.AllK
import Wide.FinOn
import Lean
import PySem.Challenge.RW_ta0098_02
set_option Elab.async false
open PySem PySem.W PyProof.Rows PySem.SeqAt
set_option maxRecDepth 100000
set_option genSizeOf false
set_option linter.all false
set_option tactic.hygienic false
set_option genInjectivity false
set_option bootstrap.genMatcherCode false
namespace Mine.Internal
abbrev Haa:=@Int.natCast_nonneg
abbrev Hab:=@Int.le_of_eq
abbrev Hac:=@Nat.le_refl
abbrev Had:=@Int.le_natAbs
abbrev Hae:=@Int.mul_fdiv_add_fmod
abbrev Haf:=@Int.le_antisymm
abbrev Hag:=@Nat.le_trans
abbrev Hah:=@Nat.le_of_not_lt
abbrev Hai:=@Heap.get?_push_of_some
abbrev Haj:=@Heap.lt_size
abbrev Hak:=@Nat.lt_of_le_of_lt
abbrev Hal:=@Nat.le_add_right
abbrev Ham:=@Nat.le_antisymm
abbrev Han:=@Nat.le_of_eq
abbrev Hao:=@Nat.lt_irrefl
abbrev Hap:=@Nat.zero_le
abbrev Haq:=@Int.ne_of_gt
abbrev Har:=@Nat.lt_of_lt_of_le
abbrev Has:=@List.mem_of_getElem?
abbrev Hat:=@Nat.not_le_of_lt
abbrev Hau:=@wpAny_pure
abbrev Hav:=@wpAny_truthy_bool
abbrev Haw:=@Nat.le_succ
abbrev Hax:=@Nat.succ_le_succ
abbrev Hay:=@Nat.add_le_add_left
abbrev Haz:=@Nat.le_of_lt
abbrev Ha0:=@Nat.ble_eq_true_of_le
abbrev Ha1:=@Nat.not_lt_of_le
abbrev Ha2:=@Nat.pow_le_pow_right
abbrev Ha3:=@Nat.ne_of_gt
abbrev Ha4:=@wpAny_mono
abbrev Ha5:=@wpAny_bindName
abbrev Ha6:=@wpAny_bind
abbrev Ha7:=@wpAny_holding
abbrev Ha8:=@wpAny_standAt
abbrev Ha9:=@Nat.ne_of_lt
abbrev Hba:=@Nat.le_of_succ_le
abbrev Hbb:=@Nat.lt_of_le_of_ne
abbrev Hbc:=@Nat.add_le_add_right
abbrev Hbd:=@Nat.mul_le_mul_left
abbrev Hbe:=@Calls.spliced_nil
abbrev Hbf:=@Calls.spliced_cons
abbrev Hbg:=@Calls.Name_function_global
abbrev Hbh:=@Calls.loadGlobal_builtin
abbrev Hbi:=@wpAny_Call_NameR
abbrev Hbj:=@Nat.lt_succ_self
abbrev Hbk:=@wpAny_newObj_type
abbrev Hbl:=@Nat.sub_le
abbrev Hbm:=@Calls.loadGlobal_global
abbrev Hbn:=@Calls.callWith_function
abbrev Hbo:=@Calls.callWith_builtin
abbrev Hbp:=@wpAny_Constant_bool
abbrev Hbq:=@wpAny_Call_method_lateS
abbrev Hbr:=@wpAny_Constant_int
abbrev Hbs:=@wpAny_BinOp
abbrev Hbt:=@wpAny_Assign_Name
abbrev Hbu:=@wpAny_Return_some
abbrev Hbv:=@wpAny_execs_nil
abbrev Hbw:=@wpAny_isTrue_Compare1
abbrev Hbx:=@wpAny_execs_cons
abbrev Hby:=@seg_bind_wrap
abbrev Hbz:=@seg_execs_cons
abbrev Hb0:=@seg_execs_nil
abbrev Hb1:=@Int.fmod_nonneg_of_pos
abbrev Hb2:=@Int.fmod_lt_of_pos
abbrev Hb3:=@Nat.sub_add_cancel
abbrev Hb4:=@Nat.eq_of_beq_eq_true
abbrev Hb5:=@eq_of_beq
abbrev Hb6:=@congrArg
abbrev Hb7:=@Heap.get?_push_size
abbrev Hb8:=@List.size_toArray
abbrev Hb9:=@Bool.or_eq_true
abbrev Hca:=@Bool.false_ne_true
abbrev Hcb:=@Bool.not_eq_true'
abbrev Hcc:=@List.getElem?_eq_getElem
abbrev Hcd:=@Bool.and_eq_true
abbrev Hce:=@Array.length_toList
abbrev Hcf:=@List.flatten_cons
abbrev Hcg:=@Array.getElem?_eq_getElem
abbrev Hch:=@List.not_mem_nil
abbrev Hci:=@List.length_cons
abbrev Hcj:=@builtinLookup_eq_fast
abbrev Hck:=@decide_eq_false_iff_not
abbrev Hcl:=@beq_self_eq_true
abbrev Hcm:=@Nat.beq_refl
abbrev Hcn:=@Int.natAbs_natCast
abbrev Hco:=@Nat.mul_comm
abbrev Hcp:=@List.length_map
abbrev Hcq:=@List.lookup_cons
abbrev Hcr:=@List.map_cons
abbrev Hcs:=@List.getD_eq_getElem?_getD
abbrev Hct:=@List.length_append
abbrev Hcu:=@Option.some.inj
abbrev Hcv:=@List.drop_eq_getElem_cons
abbrev Hcw:=@List.append_nil
abbrev Hcx:=@Heap.size_push
abbrev Hcy:=@of_decide_eq_true
abbrev Hcz:=@List.append_assoc
abbrev Hc0:=@Int.toNat_natCast
abbrev Hc1:=@Int.fdiv_eq_ediv_of_nonneg
abbrev Hc2:=@List.take_of_length_le
abbrev Hc3:=@List.drop_of_length_le
abbrev Hc4:=@List.length_reverse
abbrev Hc5:=@typeLookup_type
abbrev Hc6:=@List.getElem?_toArray
abbrev Hc7:=@Int.pow_zero
theorem bLe{n m:Nat}(h:Nat.ble n m=true):n<=m:=Nat.le_of_ble_eq_true h
theorem jO{m n:Nat}(h:m<=n):(m:Int)<=(n:Int):=Int.ofNat_le.mpr h
theorem jC{α:Type _}{a b:α}{l:List α}(h:a∈b::l):a=b\/a∈l:=List.mem_cons.mp h
theorem jR{m n:Nat}(h:m<n):m∈List.range n:=List.mem_range.mpr h
theorem jE{α:Type _}{l:List α}(h:l.isEmpty=true):l=[]:=List.isEmpty_iff.mp h
theorem bAll{α:Type _}{p:α->Bool}{l:List α}(h:l.all p=true):∀x∈l,p x=true:=List.all_eq_true.mp h
noncomputable def q2:Program:={PySem.Challenge.pw_ta0098_02 with main:={PySem.Challenge.pw_ta0098_02.main with body:=[0,1,2,3,4,5,6,7,8,9,10,11,12,13,14,17,18,19,24,25,26,27,28,29,30,31,32,33].filterMap λi=>PySem.Challenge.pw_ta0098_02.main.body[i]?}}
noncomputable def loose2:List Str:=["_twin_re_1","_twin_re_2","tspecials","_name_disallowed_re","_value_disallowed_re","_formatparam"]
noncomputable def Zbx:Array Nat:=#[14,10,4,1,1,22,0,31,16,127,0,13,7,22,0,31,16,127,0,1]
noncomputable def Zby:Array Nat:=#[14,14,4,1,1,9,4294966783,0,0,2147483648,0,0,0,0,0,13,11,9,4294966783,0,0,2147483648,0,0,0,0,0,1]
noncomputable def Zaf:Array Nat:=#[14,9,4,1,2,16,10,16,13,0,7,7,16,13,16,10,15,18,5,16,10,15,13,11,16,13,5,5,0,16,10,1,15,2,0,1]
noncomputable def Zau:Array Nat:=#[14,4,0,1,1,6,1,16,46,1]
noncomputable def reO(src:Str)(t:Nat)(fl:Int)(u:Nat)(ct:Addr):Obj:={cls:=.type "re.Pattern",data:=.fields #[.str src t,.int fl u,.int 0 0,.none,.none,.ref ct,.int 0 0]}
noncomputable def ctO(code:Array Nat):Obj:={cls:=.type "tuple",data:=.seq (code.map λ(n:Nat)=>rawInt (n:Int)) 0}
noncomputable def reYf(s:Shared):List (Option Addr×Option Obj×Option Obj):=([("_twin_re_1",106,105),("_twin_re_2",111,110),("_name_disallowed_re",128,127),("_value_disallowed_re",133,132)]:List (Str×Addr×Addr)).map λ(p:Str×Addr×Addr)=>(classAt s.heap p.1,s.heap.get? p.2.1,s.heap.get? p.2.2)
noncomputable def reYa(_:World):List (Option Addr×Option Obj×Option Obj):=[(some 106,some (reO ⟨#[40,63,109,41,94,92,46]⟩ 408 40 421 105),some (ctO Zau)),(some 111,some (reO ⟨#[40,63,58,92,114,92,110,124,92,110,124,92,114,40,63,33,92,110,41,41]⟩ 424 32 463 110),some (ctO Zaf)),
 (some 128,some (reO ⟨#[91,92,120,48,48,45,92,120,49,70,92,120,55,70,93]⟩ 511 32 534 127),some (ctO Zbx)),(some 133,some (reO ⟨#[91,92,120,48,48,45,92,120,48,56,92,120,48,65,45,92,120,49,70,92,120,55,70,93]⟩ 537 32 568 132),some (ctO Zby))]
noncomputable def obs2(s:Shared):List (Option Addr×Option Obj×Option Obj)×Bool×Option Addr:=(reYf s,(s.heap.get? sysModules).isSome,classAt s.heap "Headers")
noncomputable def val2(w:World):List (Option Addr×Option Obj×Option Obj)×Bool×Option Addr:=(reYa w,true,some 262)
set_option maxHeartbeats 4000000 in
set_option maxRecDepth 100000 in
theorem said2:OpenLaw.wellSaid PySem.Challenge.rw_ta0098_02=true:=by
 unfold OpenLaw.wellSaid OpenRow.wellSaid OpenRow.partSaid looksOpen
 repeat' (with_reducible refine look_both ?_ ?_)
 all_goals decide+kernel
set_option maxHeartbeats 4000000 in
set_option maxRecDepth 100000 in
theorem left2:LeftO PySem.Challenge.rw_ta0098_02.row.toRowW.prog q2 loose2 (λs=>xlAt q2 [] s&&recOk (RowW.records (PySem.Challenge.rw_ta0098_02.row.toRowW)) s) obs2 val2 3678:=λw=>by kernel_rfl
inductive LA where
 |v (i:Nat)|k (n:Nat)|a (x y:LA)|m (n:Nat) (x:LA)|l (x:LA) (n:Nat)
inductive LZ where
 |v (i:Nat)|k (n:Int)|a (x y:LZ)|s (x y:LZ)|g (x:LZ)|m (n:Int) (x:LZ)|l (x:LZ) (n:Int)|u (x:LA)
noncomputable def LA.d(c:List Nat):LA->Nat
 | .v i=>c.getD i 0
 | .k n=>n
 | .a x y=>x.d c+y.d c
 | .m n x=>n*x.d c
 | .l x n=>x.d c*n
noncomputable def LZ.d(c:List Int)(e:List Nat):LZ->Int
 | .v i=>c.getD i 0
 | .k n=>n
 | .a x y=>x.d c e+y.d c e
 | .s x y=>x.d c e-y.d c e
 | .g x=> -x.d c e
 | .m n x=>n*x.d c e
 | .l x n=>x.d c e*n
 | .u x=>((x.d e:Nat):Int)
noncomputable def LA.addV(n:Int):Nat->List Int->List Int
 |0,[]=>[n]
 |0,x::r=>(x+n)::r
 |i+1,[]=>0::addV n i []
 |i+1,x::r=>x::addV n i r
structure LS where
 z:List Int
 t:List Int
 k:Int
noncomputable def LA.add(n:Int):LA->LS->LS
 | .v i,p=>⟨p.z,addV n i p.t,p.k⟩
 | .k c,p=>⟨p.z,p.t,p.k+n*c⟩
 | .a x y,p=>x.add n (y.add n p)
 | .m c x,p=>x.add (n*c) p
 | .l x c,p=>x.add (n*c) p
noncomputable def LZ.add(n:Int):LZ->LS->LS
 | .v i,p=>⟨LA.addV n i p.z,p.t,p.k⟩
 | .k c,p=>⟨p.z,p.t,p.k+n*c⟩
 | .a x y,p=>x.add n (y.add n p)
 | .s x y,p=>x.add n (y.add (-n) p)
 | .g x,p=>x.add (-n) p
 | .m c x,p=>x.add (n*c) p
 | .l x c,p=>x.add (n*c) p
 | .u x,p=>x.add n p
noncomputable def LA.dot:List Int->List Int->Int
 |[],_=>0
 |_::_,[]=>0
 |x::r,y::c=>x*y+dot r c
noncomputable def LA.nat:List Nat->List Int
 |[]=>[]
 |x::r=>(x:Int)::nat r
noncomputable def LS.e(c:List Int)(e:List Nat)(p:LS):Int:=LA.dot p.z c+LA.dot p.t (LA.nat e)+p.k
theorem LA.dot_addV(n:Int):∀i r c,dot (addV n i r) c=dot r c+n*c.getD i 0
 |0,[],[]=>(Int.mul_zero n).symm.trans (Int.zero_add _).symm
 |0,[],y::c=>(Int.add_zero _).trans (Int.zero_add _).symm
 |0,x::r,[]=>(Int.mul_zero n).symm.trans (Int.zero_add _).symm
 |0,x::r,y::c=>(Hb6 (· +dot r c) (Int.add_mul x n y)).trans (Int.add_right_comm _ _ _)
 |i+1,[],[]=>(Int.mul_zero n).symm.trans (Int.zero_add _).symm
 |i+1,[],y::c=>(Hb6 (· +_) (Int.zero_mul y)).trans ((Int.zero_add _).trans (dot_addV n i [] c))
 |i+1,x::r,[]=>(Int.mul_zero n).symm.trans (Int.zero_add _).symm
 |i+1,x::r,y::c=>(Hb6 (x*y+ ·) (dot_addV n i r c)).trans (Int.add_assoc _ _ _).symm
theorem LA.nat_get:∀(e:List Nat) i,(nat e).getD i 0=((e.getD i 0:Nat):Int)
 |[],_=>rfl
 |_::_,0=>rfl
 |_::r,i+1=>nat_get r i
theorem LA.sum2{p u v n x y:Int}(h:p=u+n*y):p+n*x=u+n*(x+y):=
 (Hb6 (· +n*x) h).trans ((Int.add_right_comm _ _ _).trans ((Int.add_assoc _ _ _).trans (Hb6 (u+ ·) (Int.mul_add n x y).symm)))
theorem LA.mulR{u n q x:Int}:u+n*q*x=u+n*(x*q):=Hb6 (u+ ·) ((Int.mul_assoc n q x).trans (Hb6 (n* ·) (Int.mul_comm q x)))
theorem LA.mulL{u n q x:Int}:u+n*q*x=u+n*(q*x):=Hb6 (u+ ·) (Int.mul_assoc n q x)
theorem LA.e_add(c:List Int)(e:List Nat)(t:LA):∀(n:Int) (p:LS),(t.add n p).e c e=p.e c e+n*((t.d e:Nat):Int):=by
 induction t with
 |v i=>exact λn p=>(Hb6 (λz=>dot p.z c+z+p.k) (dot_addV n i p.t (nat e))).trans ((Hb6 (λz=>dot p.z c+(dot p.t (nat e)+n*z)+p.k) (nat_get e i)).trans ((Hb6 (· +p.k) (Int.add_assoc _ _ _).symm).trans (Int.add_right_comm _ _ _)))
 |k q=>exact λn p=>(Int.add_assoc _ _ _).symm
 |a x y hx hy=>exact λn p=>(hx n _).trans (LA.sum2 (v:=0) (hy n p))
 |m q x hx=>exact λn p=>(hx _ p).trans LA.mulL
 |l x q hx=>exact λn p=>(hx _ p).trans LA.mulR
theorem LZ.e_add(c:List Int)(e:List Nat)(t:LZ):∀(n:Int) (p:LS),(t.add n p).e c e=p.e c e+n*t.d c e:=by
 induction t with
 |v i=>exact λn p=>(Hb6 (· +LA.dot p.t (LA.nat e)+p.k) (LA.dot_addV n i p.z c)).trans ((Hb6 (· +p.k) (Int.add_right_comm _ _ _)).trans (Int.add_right_comm _ _ _))
 |k q=>exact λn p=>(Int.add_assoc _ _ _).symm
 |a x y hx hy=>exact λn p=>(hx n _).trans (LA.sum2 (v:=0) (hy n p))
 |s x y hx hy=>exact λn p=>(hx n _).trans ((LA.sum2 (v:=0) ((hy (-n) p).trans (Hb6 (p.e c e+ ·) ((Int.neg_mul n _).trans (Int.mul_neg n _).symm)))).trans (Hb6 (p.e c e+n* ·) (Int.sub_eq_add_neg).symm))
 |g x hx=>exact λn p=>(hx _ p).trans (Hb6 (p.e c e+ ·) ((Int.neg_mul n _).trans (Int.mul_neg n _).symm))
 |m q x hx=>exact λn p=>(hx _ p).trans LA.mulL
 |l x q hx=>exact λn p=>(hx _ p).trans LA.mulR
 |u x=>exact LA.e_add c e x
noncomputable def LA.z0:List Int->Bool
 |[]=>true
 |x::r=>decide (x=0)&&z0 r
noncomputable def LA.p0:List Int->Bool
 |[]=>true
 |x::r=>decide (0<=x)&&p0 r
theorem LA.z0_dot:∀(c r:List Int),z0 r=true->dot r c=0
 |_,[],_=>rfl
 |[],_::_,_=>rfl
 |y::c,x::r,h=>
  have h:=(Hcd _ _).mp h
  (Hb6 (· *y+dot r c) (Hcy h.1)).trans ((Hb6 (· +dot r c) (Int.zero_mul y)).trans ((Int.zero_add _).trans (z0_dot c r h.2)))
theorem LA.p0_dot:∀(c:List Nat) (r:List Int),p0 r=true->0<=dot r (nat c)
 |_,[],_=>Int.le_refl 0
 |[],_::_,_=>Int.le_refl 0
 |y::c,x::r,h=>
  have h:=(Hcd _ _).mp h
  Int.add_nonneg (Int.mul_nonneg (Hcy h.1) (Haa y)) (p0_dot c r h.2)
noncomputable def LS.no(p:LS):Bool:=LA.z0 p.z&&(LA.p0 p.t&&decide (0<p.k))
theorem LS.no_e(c:List Int)(e:List Nat)(p:LS)(h:p.no=true):0<p.e c e:=
 have h:=(Hcd _ _).mp h;have h':=(Hcd _ _).mp h.2
 Int.add_pos_of_nonneg_of_pos (Int.add_nonneg (Hab (LA.z0_dot c _ h.1).symm) (LA.p0_dot e _ h'.1)) (Hcy h'.2)
theorem LS.one{q a d:Int}{n:Nat}{x y:Int}(hq:q=a+(-(n:Int))*y)(hd:d=q+n*x)(ha:a<=0)(h:x<=y):d<=0:=
 have h1:(n:Int)*x<=n*y:=Int.mul_le_mul_of_nonneg_left h (Haa n);have h2:q=a-n*y:=hq.trans ((Hb6 (a+ ·) (Int.neg_mul _ _)).trans Int.sub_eq_add_neg.symm)
 Int.le_trans (Hab (hd.trans (Hb6 (· +_) h2))) (Int.le_trans (Int.add_le_add_left h1 _) (Int.le_trans (Hab (Int.sub_add_cancel a _)) ha))
noncomputable def LZ.ok:List (Nat×LZ×LZ)->LS->Bool
 |[],p=>p.no
 |(n,x,y)::r,p=>ok r (x.add n (y.add (-(n:Int)) p))
noncomputable def LZ.D(c:List Int)(e:List Nat)(g:Prop):List (Nat×LZ×LZ)->Prop
 |[]=>g
 |(_,x,y)::r=>x.d c e<=y.d c e->D c e g r
noncomputable def LA.ok:List (Nat×LA×LA)->LS->Bool
 |[],p=>p.no
 |(n,x,y)::r,p=>ok r (x.add n (y.add (-(n:Int)) p))
noncomputable def LA.D(c:List Nat)(g:Prop):List (Nat×LA×LA)->Prop
 |[]=>g
 |(_,x,y)::r=>x.d c<=y.d c->D c g r
theorem LZ.ok_D(c:List Int)(e:List Nat)(g:Prop):∀l p,ok l p=true->(¬g->p.e c e<=0)->D c e g l
 |[],p,h,hg=>Classical.byContradiction λhn=>Int.not_lt.mpr (hg hn) (p.no_e c e h)
 |(n,x,y)::r,p,h,hg=>λh1=>ok_D c e g r _ h λhn=>LS.one (y.e_add c e _ p) (x.e_add c e _ _) (hg hn) h1
theorem LA.ok_D(e:List Nat)(g:Prop):∀l p,ok l p=true->(¬g->p.e [] e<=0)->D e g l
 |[],p,h,hg=>Classical.byContradiction λhn=>Int.not_lt.mpr (hg hn) (p.no_e [] e h)
 |(n,x,y)::r,p,h,hg=>λh1=>ok_D e g r _ h λhn=>LS.one (y.e_add [] e _ p) (x.e_add [] e _ _) (hg hn) (jO h1)
noncomputable def LZ.G(x y:LZ)(l:List (Nat×LZ×LZ)):Bool:=ok l (y.add 1 (x.add (-1) ⟨[],[],1⟩))
noncomputable def LA.G(x y:LA)(l:List (Nat×LA×LA)):Bool:=ok l (y.add 1 (x.add (-1) ⟨[],[],1⟩))
theorem LS.start{c e}{q d x y:Int}(hq:q=LS.e c e ⟨[],[],1⟩ + -1*x)(hd:d=q+1*y)(h:y<x):d<=0:=by
 subst hd hq;show(0+0+1)+ -1*x+1*y<=0;rw[Int.one_mul,Int.neg_one_mul,Int.add_right_comm,Int.add_comm _ y];exact Int.sub_nonpos_of_le h
theorem li(c:List Int)(e:List Nat)(x y:LZ)(l:List (Nat×LZ×LZ))(h:LZ.G x y l=true):LZ.D c e (x.d c e<=y.d c e) l:=
 LZ.ok_D c e _ l _ h λhn=>LS.start (x.e_add c e _ _) (y.e_add c e _ _) (Int.not_le.mp hn)
theorem ln(e:List Nat)(x y:LA)(l:List (Nat×LA×LA))(h:LA.G x y l=true):LA.D e (x.d e<=y.d e) l:=
 LA.ok_D e _ l _ h λhn=>LS.start (x.e_add [] e _ _) (y.e_add [] e _ _) (Int.ofNat_lt.mpr (Nat.lt_of_not_le hn))
theorem lg(g:Nat)(e:List Nat)(x y:LA)(l:List (Nat×LA×LA))(h:LA.ok l (y.add (g+1) (x.add (-(g+1)) ⟨[],[],g+1⟩))=true):LA.D e (x.d e<=y.d e) l:=
 LA.ok_D e _ l _ h λhn=>by
  have h1:(g+1:Int)*((y.d e:Nat)+1)<=(g+1)*(x.d e:Nat):=Int.mul_le_mul_of_nonneg_left (jO (Nat.lt_of_not_le hn)) (Haa (g+1));rw[LA.e_add,LA.e_add];rw[Int.mul_add,Int.mul_one]at h1;show(0+0+(g+1:Int))+ -(g+1)*(x.d e:Nat)+(g+1)*(y.d e:Nat)<=0;rw[Int.neg_mul,Int.add_right_comm,Int.zero_add,Int.zero_add,Int.add_comm _ ((g+1:Int)*(y.d e:Nat))];exact Int.sub_nonpos_of_le h1
theorem ln1{a:Nat}(x y l)(h:LA.G x y l=true):LA.D [a] (x.d [a]<=y.d [a]) l:=ln _ x y l h
theorem ln2{a b:Nat}(x y l)(h:LA.G x y l=true):LA.D [a,b] (x.d [a,b]<=y.d [a,b]) l:=ln _ x y l h
theorem ln3{a b c:Nat}(x y l)(h:LA.G x y l=true):LA.D [a,b,c] (x.d [a,b,c]<=y.d [a,b,c]) l:=ln _ x y l h
theorem ln4{a b c d:Nat}(x y l)(h:LA.G x y l=true):LA.D [a,b,c,d] (x.d [a,b,c,d]<=y.d [a,b,c,d]) l:=ln _ x y l h
theorem ln5{a b c d e:Nat}(x y l)(h:LA.G x y l=true):LA.D [a,b,c,d,e] (x.d [a,b,c,d,e]<=y.d [a,b,c,d,e]) l:=ln _ x y l h
theorem ln6{a b c d e f:Nat}(x y l)(h:LA.G x y l=true):LA.D [a,b,c,d,e,f] (x.d [a,b,c,d,e,f]<=y.d [a,b,c,d,e,f]) l:=ln _ x y l h
theorem ln7{a b c d e f g:Nat}(x y l)(h:LA.G x y l=true):LA.D [a,b,c,d,e,f,g] (x.d [a,b,c,d,e,f,g]<=y.d [a,b,c,d,e,f,g]) l:=ln _ x y l h
theorem Zcu{a b:Nat}:a<=a-b+b:=Nat.le_add_of_sub_le (Hac _)
theorem Yak{a:Int}{n:Nat}(h1:a<=n)(h2: -a<=n):a.natAbs<=n:=match a with
 | .ofNat _=>Int.ofNat_le.mp h1
 | .negSucc _=>Int.ofNat_le.mp h2
theorem absS{a:Int}{n:Nat}(h1:a<n)(h2: -a<n):a.natAbs<n:=match a with
 | .ofNat _=>Int.ofNat_lt.mp h1
 | .negSucc _=>Int.ofNat_lt.mp h2
theorem Zd0{a:Int}: -a<=(a.natAbs:Int):=Int.natAbs_neg a▸Had
noncomputable def ps(n i:Nat):Pos:=⟨n/2^(36*i+26)%1024,n/2^(36*i+18)%256,n/2^(36*i+8)%1024,n/2^(36*i)%256⟩
noncomputable def Zbp(i:Nat):Pos:=ps 1230198454819247698158952751442041650295801925073523577581029707660727661741982171111167527910539034946555664537205058390829007841081301027062008089119210386175434584316120128054081786609367853272408261432560219831533575007861704427842501987375155116263768341033378681103 i
noncomputable def Zhc(i:Nat):Pos:=ps 12151727621951806564025592154016930243959535740161991181664400103397560180574326087116278937659412118762459659208835253454994441110929198622205360609540707116426493704970110961044671563659974440096199645967 i
noncomputable def Zb4(i:Nat):Pos:=ps 2150308188853242244607132531418884218721138427611224947451882994311671882396742825795223557484025434018582281792470294516762253725003901619685839795017768400831326309050982407252529115484106548963476975039043203977601615717786756616187173262196124392336160890181585712660468853025339646212986218084253223269990046314216100084981525005008063932529821625159371132956834641600469062379639956184761095224264877766024087237285262612244683623809329277717970007853092623373 i
noncomputable def Zp2(i:Nat):Pos:=ps 293604780655620273635859657794774833367579335955767629865426342835573473775284657808451502225240626276630549 i
noncomputable def Zbn(i:Nat):Pos:=ps 60964417927937003655801499379807432283567993987170547440287211391412734756445424992088722907925579659585744474366194525208395795630846214959354045703947126475548024603747831100506026620462267031485803501532414927935875384277951922943512681866030263833013847319511562290633926389302646521942194621399306423508146063707949218207715851239184189676831676852374400655918015805949135119222443319592221668597784043841375457599099186661731471562183337221131413225589361870260961038855 i
noncomputable def Zel(i:Nat):Pos:=ps 1871716521059379205278648018483911863668455175615654640254447870602079666620795304812673646012133035625931316947342742013909996600496564040996835002042354281784168965591874355474317425409018584674627888913246129682944887228826441730387809068027408550714884140255875953317397740362314432913932 i
noncomputable def Zcp(i:Nat):Pos:=ps 3142012442993333588283122629215828649037279535496575032421154447513588253664673020818290807738286137636262077080254160691573731696126240438412871955901699683858961797470702270114628606586977748115345676686818349219531963298915808081805286963904230663291917308341968287321039007439151348224971706772815850459807792270015974326041782475189533450742720141876924256574201001803392944708654697965936186820031239955254294913858616834567796938854084640032904126226387293240444379701580771433239284840067109919765387818438843554060287829110099289356 i
noncomputable def Zq5(i:Nat):Pos:=ps 8986154423307998777292455727469937664490323003339181832349877230835836686309502985446507866123636958863143709239687223 i
noncomputable def Zea(i:Nat):Pos:=ps 74645975384951328374294248685492643733210214356509309590653969518603437815613470560209690440039611293661866816350107956571662755950486924626207298987608143041016630784274960629155172013697667794625806938667896676318237732935927799523613851455357991628491623135408616714569103827857573828256783445772312442741990689811442888288063194993644322371606285605182056183266890658787665079589155852 i
noncomputable def stX{α:Type}(z:α)(st:Stmt)(fa:List Expr->Expr->α)(fg:Expr->Operator->Expr->α)(fe:Expr->α)(fi:Expr->List Stmt->List Stmt->α)(ff:Expr->Expr->List Stmt->List Stmt->α)(fr:Option Expr->α)(fd:Arguments->Scope->α):α:=
 Stmt.casesOn (motive_2:=λ_=>α) st (λ_ a _ _ _ _ s _ _ _=>fd a s) (λ_ _ _ _ _ _ _ _ _ _=>z) (λ_ _ _ _ _ _ _ _ _ _ _=>z) (λv _=>fr v) (λ_ _=>z) (λt v _=>fa t v) (λ_ _ _ _ _ _ _=>z) (λt o v _=>fg t o v) (λ_ _ _ _ _=>z) (λt i b e _=>ff t i b e) (λ_ _ _ _ _=>z)
  (λ_ _ _ _=>z) (λc a b _=>fi c a b) (λ_ _ _=>z) (λ_ _ _=>z) (λ_ _ _=>z) (λ_ _ _=>z) (λ_ _ _ _ _=>z) (λ_ _ _ _ _=>z) (λ_ _ _=>z) (λ_ _=>z) (λ_ _ _ _=>z) (λ_ _=>z) (λ_ _=>z) (λv _=>fe v) (λ_=>z) (λ_=>z) (λ_=>z)
noncomputable def subB(st:Stmt):List Stmt:=stX [] st (λ_ _=>[]) (λ_ _ _=>[]) (λ_=>[]) (λ_ b _=>b) (λ_ _ b _=>b) (λ_=>[]) (λ_ _=>[])
noncomputable def stAt(l:List Stmt)(i:Nat):List Stmt:=match l[i]? with
 |some s=>subB s
 |none=>[]
noncomputable def Zzr(o:Option Stmt):Option (Arguments×Scope):=o.bind λst=>stX none st (λ_ _=>none) (λ_ _ _=>none) (λ_=>none) (λ_ _ _=>none) (λ_ _ _ _=>none) (λ_=>none) (λa s=>some (a,s))
theorem nS{α:Type}{a:α}{P:Prop}(h:(none:Option α)=some a):P:=nomatch h
theorem bF{P:Prop}(h:false=true):P:=nomatch h
theorem bT{P:Prop}(h:true=false):P:=nomatch h
theorem sI{α:Type}{a b:α}(h:some a=some b):a=b:=Hcu h
theorem Zaa{a b:Bool}(h:(a&&b)=true):a=true/\b=true:=(Hcd _ _).mp h
inductive E12{α:Sort _}(p q:α->Prop):Prop
 |mk (x:α) (h:p x) (k:q x)
inductive E21{α β:Sort _}(p:α->β->Prop):Prop
 |mk (x:α) (y:β) (h:p x y)
inductive E22{α β:Sort _}(p q:α->β->Prop):Prop
 |mk (x:α) (y:β) (h:p x y) (k:q x y)
inductive E23{α β:Sort _}(p q r:α->β->Prop):Prop
 |mk (x:α) (y:β) (h:p x y) (k:q x y) (l:r x y)
inductive E32{α β γ:Sort _}(p q:α->β->γ->Prop):Prop
 |mk (x:α) (y:β) (z:γ) (h:p x y z) (k:q x y z)
inductive E42{α β γ δ:Sort _}(p q:α->β->γ->δ->Prop):Prop
 |mk (x:α) (y:β) (z:γ) (u:δ) (h:p x y z u) (k:q x y z u)
noncomputable def Zac{α β:Type}(o:Option α)(f:α->Option β):Option β:=match o with
 |none=>none
 |some x=>f x
theorem obS{α β:Type}{o:Option α}{f:α->Option β}{d:β}(h:Zac o f=some d):E12 (λx=>o=some x) λx=>f x=some d:=by
 cases o with
 |none=>exact nS h
 |some x=>exact⟨x,rfl,h⟩
theorem Zd1{α β:Type}{o:Option α}{f:α->Option β}{x:α}(h:o=some x):Zac o f=f x:=by rw[h];rfl
noncomputable def Zas{α:Type}(b:Bool)(o:Option α):Option α:=match b with
 |true=>o
 |false=>none
theorem Zaj{α:Type}{b:Bool}{o:Option α}{d:α}(h:Zas b o=some d):b=true/\o=some d:=by
 cases b with
 |false=>exact nS h
 |true=>exact⟨rfl,h⟩
theorem Ziq{α β:Type}{o:Option α}{f:α->β}{d:β}(h:o.map f=some d):E12 (λx=>o=some x) λx=>f x=d:=by
 cases o with
 |none=>exact nS h
 |some x=>exact⟨x,rfl,sI h⟩
theorem Zfq{a b:Nat}(h:¬a=b):Nat.beq a b=false:=by
 cases q:Nat.beq a b with
 |false=>rfl
 |true=>exact absurd (Hb4 q) h
noncomputable def bI{α:Type}(b:Bool)(x y:α):α:=match b with
 |true=>x
 |false=>y
noncomputable def oE{α β:Type}(o:Option α)(z:β)(f:α->β):β:=match o with
 |none=>z
 |some x=>f x
theorem biT{α:Type}{b:Bool}{x y:α}(h:b=true):bI b x y=x:=by rw[h];rfl
theorem biF{α:Type}{b:Bool}{x y:α}(h:b=false):bI b x y=y:=by rw[h];rfl
theorem bleF{a b:Nat}(h:b<a):Nat.ble a b=false:=Bool.eq_false_iff.mpr λq=>Hat h (bLe q)
noncomputable def F1{α:Type}(_:α):Bool:=false
noncomputable def F2{α β:Type}(_:α)(_:β):Bool:=false
noncomputable def F3{α β γ:Type}(_:α)(_:β)(_:γ):Bool:=false
noncomputable def F4{α β γ δ:Type}(_:α)(_:β)(_:γ)(_:δ):Bool:=false
theorem b3{α β:Sort _}{Q:α->β->Prop}{P:Prop}:∀a b,Q a b->false=true->P:=λ_ _ _ h=>bF h
theorem b4{α β γ:Sort _}{Q:α->β->γ->Prop}{P:Prop}:∀a b c,Q a b c->false=true->P:=λ_ _ _ _ h=>bF h
theorem b5{α β γ δ:Sort _}{Q:α->β->γ->δ->Prop}{P:Prop}:∀a b c d,Q a b c d->false=true->P:=λ_ _ _ _ _ h=>bF h
theorem b6{α β γ δ ε:Sort _}{Q:α->β->γ->δ->ε->Prop}{P:Prop}:∀a b c d e,Q a b c d e->false=true->P:=λ_ _ _ _ _ _ h=>bF h
theorem iL{α:Type}[BEq α][LawfulBEq α]{l:List α}{x:α}(h:l.contains x=true):x∈l:=List.contains_iff_mem.mp h
structure Sg where
 v:Nat->Int
 t:Nat->List Nat
 tp:∀n,((t n).all λc=>Nat.ble 32 c&&Nat.blt c 127)=true/\(t n).length<1000000
 prog:Program
 w:World
inductive PX where
 |k (i:Int)
 |v (n:Nat)
 |add (a b:PX)
 |mul (a b:PX)
noncomputable def PX.ev(σ:Sg):PX->Int
 | .k i=>i
 | .v n=>σ.v n
 | .add a b=>a.ev σ+b.ev σ
 | .mul a b=>a.ev σ*b.ev σ
noncomputable def Zoa(a b:PX):PX:=match a,b with
 | .k i,.k j=>.k (i+j)
 |a,b=>.add a b
noncomputable def Zlb(a b:PX):PX:=match a,b with
 | .k i,.k j=>.k (i*j)
 |a,b=>.mul a b
noncomputable def Zyp(a:PX):PX:=match a with
 | .k i=>.k (-i)
 |a=>.mul (.k (-1)) a
theorem Zis(σ:Sg)(a b:PX):(Zoa a b).ev σ=a.ev σ+b.ev σ:=by
 cases a with
 |k i=>cases b<;>rfl
 |_=>rfl
theorem Zoc(σ:Sg)(a b:PX):(Zlb a b).ev σ=a.ev σ*b.ev σ:=by
 cases a with
 |k i=>cases b<;>rfl
 |_=>rfl
theorem Zod(σ:Sg)(a:PX):(Zyp a).ev σ= -a.ev σ:=by
 cases a with
 |k i=>rfl
 |_=>exact Int.neg_one_mul _
noncomputable def addO(c:Int)(a b:Option Int):Option Int:=Zac a λx=>Zac b λy=>some ((x+y).fmod c)
noncomputable def mulO(c:Int)(a b:Option Int):Option Int:=match a with
 |some x=>(match b with
  |some y=>some ((x*y).fmod c)
  |none=>Zas (x==0) (some 0))
 |none=>Zac b λy=>Zas (y==0) (some 0)
noncomputable def Zp1(c:Int):PX->Option Int
 | .k i=>some (i.fmod c)
 | .v _=>none
 | .add a b=>addO c (Zp1 c a) (Zp1 c b)
 | .mul a b=>mulO c (Zp1 c a) (Zp1 c b)
theorem Zhp(a c:Int):c ∣ a-a.fmod c:=⟨a.fdiv c,by have:=Hae a c;exact(Haf (li [_,_,_] [] (.s (.v 2) (.v 1)) (.v 0) [(1,.v 2,.a (.v 0) (.v 1))] rfl (Hab this.symm)) (li [_,_,_] [] (.v 0) (.s (.v 2) (.v 1)) [(1,.a (.v 0) (.v 1),.v 2)] rfl (Hab this)))⟩
theorem Zjp{a b c:Int}(h:c ∣ a-b):a.fmod c=b.fmod c:=by
 obtain⟨q,hq⟩:=h;have e:a=b+c*q:=(Haf (li [_,_,_] [] (.v 0) (.a (.v 1) (.v 2)) [(1,.s (.v 0) (.v 1),.v 2)] rfl (Hab hq)) (li [_,_,_] [] (.a (.v 1) (.v 2)) (.v 0) [(1,.v 2,.s (.v 0) (.v 1))] rfl (Hab hq.symm)));rw[e,Int.add_mul_fmod_self_left]
theorem Yal{c A B x y:Int}(ea:A.fmod c=x)(eb:B.fmod c=y):(A+B).fmod c=(x+y).fmod c:=by
 refine Zjp ?_
 have this:=Int.dvd_add (Zhp A c) (Zhp B c);rw[ea,eb]at this;rw[show A+B-(x+y)=(A-x)+(B-y)from(Haf (li [_,_,_,_] [] (.s (.a (.v 0) (.v 1)) (.a (.v 2) (.v 3))) (.a (.s (.v 0) (.v 2)) (.s (.v 1) (.v 3))) [] rfl) (li [_,_,_,_] [] (.a (.s (.v 0) (.v 2)) (.s (.v 1) (.v 3))) (.s (.a (.v 0) (.v 1)) (.a (.v 2) (.v 3))) [] rfl))];exact this
theorem Zzy{c A B:Int}(ea:A.fmod c=0):(A*B).fmod c=0:=Int.fmod_eq_zero_of_dvd (Int.dvd_trans (Int.dvd_of_fmod_eq_zero ea) (Int.dvd_mul_right A B))
theorem Ycq{c A B x y:Int}(ea:A.fmod c=x)(eb:B.fmod c=y):(A*B).fmod c=(x*y).fmod c:=by
 refine Zjp ?_
 have ha:=Zhp A c;have hb:=Zhp B c;rw[ea]at ha;rw[eb]at hb;have e:A*B-x*y=(A-x)*B+x*(B-y):=by
  rw[Int.sub_mul,Int.mul_sub];exact(Haf (li [_,_,_] [] (.s (.v 0) (.v 1)) (.a (.s (.v 0) (.v 2)) (.s (.v 2) (.v 1))) [] rfl) (li [_,_,_] [] (.a (.s (.v 0) (.v 2)) (.s (.v 2) (.v 1))) (.s (.v 0) (.v 1)) [] rfl))
 rw[e];exact Int.dvd_add (Int.dvd_trans ha (Int.dvd_mul_right _ _)) (Int.dvd_trans hb (Int.dvd_mul_left _ _))
theorem Zob(σ:Sg)(c:Int)(p:PX):∀r:Int,Zp1 c p=some r->(p.ev σ).fmod c=r:=by
 induction p with
 |k i=>exact λr h=>sI h
 |v _=>exact λr h=>nS h
 |add a b ia ib=>
  intro r h;obtain⟨x,ha,h⟩:=obS (show addO c (Zp1 c a) (Zp1 c b)=some r from h);obtain⟨y,hb,h⟩:=obS h;rw[←sI h];exact Yal (ia x ha) (ib y hb)
 |mul a b ia ib=>
  intro r;show mulO c (Zp1 c a) (Zp1 c b)=some r->(a.ev σ*b.ev σ).fmod c=r
  revert ia ib
  generalize Zp1 c a=u
  generalize Zp1 c b=v
  intro ia ib h;cases u with
  |some x=>
   cases v with
   |some y=>exact sI h▸Ycq (ia x rfl) (ib y rfl)
   |none=>
    obtain⟨h0,h⟩:=Zaj (show Zas (x==0) (some 0)=some r from h);exact sI h▸Zzy (Hb5 h0▸ia x rfl)
  |none=>
   obtain⟨y,hy,h⟩:=obS (show Zac v _=some r from h);obtain⟨h0,h⟩:=Zaj h;exact sI h▸Int.mul_comm _ _▸Zzy (Hb5 h0▸ib y hy)
noncomputable def Yj7(c:Int):PX->Option PX
 | .k i=>some (.k (i.fdiv c))
 | .add (.mul (.k m) q) (.k r)=>Zas (m.fmod c==0) (some (.add (.mul (.k (m.fdiv c)) q) (.k (r.fdiv c))))
 |_=>none
theorem Yc3{c m u r:Int}(hc:c≠0)(h0:m.fmod c=0):(m*u+r).fdiv c=m.fdiv c*u+r.fdiv c:=by
 have hm:=Hae m c;rw[h0,Int.add_zero]at hm;have e:m*u+r=r+c*(m.fdiv c*u):=by rw[←Int.mul_assoc,hm];exact Int.add_comm _ _
 rw[e,Int.add_mul_fdiv_left _ _ hc];exact Int.add_comm _ _
theorem Zur(σ:Sg)(c:Int)(hc:c≠0)(p q:PX)(h:Yj7 c p=some q):(p.ev σ).fdiv c=q.ev σ:=by
 cases p with
 |k i=>exact sI h▸rfl
 |add a b=>
  cases a with
  |mul u v=>
   cases u with
   |k m=>
    cases b with
    |k r=>
     obtain⟨h0,h⟩:=Zaj (show Zas (m.fmod c==0) (some (.add (.mul (.k (m.fdiv c)) v) (.k (r.fdiv c))))=some q from h);exact sI h▸Yc3 hc (Hb5 h0)
    |_=>exact nS h
   |_=>exact nS h
  |_=>exact nS h
 |_=>exact nS h
noncomputable def Zp0(B:Nat):PX->Nat
 | .k i=>i.natAbs
 | .v _=>B
 | .add a b=>Zp0 B a+Zp0 B b
 | .mul a b=>Zp0 B a*Zp0 B b
theorem Zfh(σ:Sg)(B:Nat)(h:∀n,(σ.v n).natAbs<=B):∀p:PX,(p.ev σ).natAbs<=Zp0 B p
 | .k _=>Hac _
 | .v n=>h n
 | .add a b=>Hag (Int.natAbs_add_le _ _) (Nat.add_le_add (Zfh σ B h a) (Zfh σ B h b))
 | .mul a b=>by
  show(a.ev σ*b.ev σ).natAbs<=_;rw[Int.natAbs_mul];exact Nat.mul_le_mul (Zfh σ B h a) (Zfh σ B h b)
set_option genInjectivity true in
inductive D where
 |none
 |bool (b:Bool)
 |int (p:PX)
 |str (s:List Nat)
 |tup (ds:List D)
 |lst (ds:List D)
 |hdr (ds:List D)
 |opq
 |sym (n:Nat)
mutual
inductive M where
 |c (d:D)
 |n (x:Nat)
 |lst (es:List M)
 |tup (es:List M)
 |bin (o:Operator) (a b:M)
 |neg (a:M)
 |cmp (a:M) (os:List (CmpOp×M))
 |bop (o:BoolOp) (es:List M)
 |ite (t a b:M)
 |idx (a i:M)
 |sl (a:M) (lo hi:Option M)
 |call (f:Nat) (as:List M)
 |bi (b:Nat) (as:List M)
 |me (m:Nat) (o:M) (as:List M)
 |comp (e:M) (cs:List Cl)
 |bor (a:M)
inductive Cl where
 |mk (t:List Nat) (uni:Bool) (k:Nat) (it:List M) (ifs:List M)
end
noncomputable def onB{α:Type}(d:D)(f:Bool->Option α):Option α:=match d with
 | .bool b=>f b
 |_=>none
noncomputable def onI{α:Type}(d:D)(f:PX->Option α):Option α:=match d with
 | .int p=>f p
 |_=>none
noncomputable def onS{α:Type}(d:D)(f:List Nat->Option α):Option α:=match d with
 | .str s=>f s
 |_=>none
noncomputable def onT{α:Type}(d:D)(f:List D->Option α):Option α:=match d with
 | .tup l=>f l
 |_=>none
noncomputable def onL{α:Type}(d:D)(f:List D->Option α):Option α:=match d with
 | .lst l=>f l
 |_=>none
noncomputable def onY{α:Type}(d:D)(f:Nat->Option α):Option α:=match d with
 | .sym n=>f n
 |_=>none
noncomputable def onP{α:Type}(p:PX)(f:Int->Option α):Option α:=match p with
 | .k i=>f i
 |_=>none
noncomputable def onK{α:Type}(d:D)(f:Int->Option α):Option α:=onI d λp=>onP p f
noncomputable def onN{α:Type}(i:Int)(f:Nat->Option α):Option α:=match i with
 | .ofNat n=>f n
 |_=>none
section
variable {α:Type} {d:D} {r:α}
theorem onBS{f:Bool->Option α}(h:onB d f=some r):E12 (λp=>d= .bool p) λp=>f p=some r:=by cases d<;>first|exact nS h|exact⟨_,rfl,h⟩
theorem Zk8{f:PX->Option α}(h:onI d f=some r):E12 (λp=>d= .int p) λp=>f p=some r:=by cases d<;>first|exact nS h|exact⟨_,rfl,h⟩
theorem Zgb{f:List Nat->Option α}(h:onS d f=some r):E12 (λp=>d= .str p) λp=>f p=some r:=by cases d<;>first|exact nS h|exact⟨_,rfl,h⟩
theorem Yd5{f:List D->Option α}(h:onT d f=some r):E12 (λp=>d= .tup p) λp=>f p=some r:=by cases d<;>first|exact nS h|exact⟨_,rfl,h⟩
theorem Zn8{f:List D->Option α}(h:onL d f=some r):E12 (λp=>d= .lst p) λp=>f p=some r:=by cases d<;>first|exact nS h|exact⟨_,rfl,h⟩
theorem Yj5{f:Nat->Option α}(h:onY d f=some r):E12 (λp=>d= .sym p) λp=>f p=some r:=by cases d<;>first|exact nS h|exact⟨_,rfl,h⟩
theorem Yh1{p:PX}{f:Int->Option α}(h:onP p f=some r):E12 (λi=>p= .k i) λi=>f i=some r:=by cases p<;>first|exact nS h|exact⟨_,rfl,h⟩
theorem Zgr{f:Int->Option α}(h:onK d f=some r):E12 (λi=>d= .int (.k i)) λi=>f i=some r:=by
 obtain⟨p,h1,h⟩:=Zk8 h;obtain⟨i,h2,h⟩:=Yh1 h;exact⟨i,by rw[h1,h2],h⟩
theorem Yd4{i:Int}{f:Nat->Option α}(h:onN i f=some r):E12 (λn:Nat=>i=n) λn=>f n=some r:=by cases i<;>first|exact nS h|exact⟨_,rfl,h⟩
end
noncomputable def Zd8{α β:Type}(f:α->Option β):List α->Option (List β)
 |[]=>some []
 |a::r=>Zac (f a) λb=>Zac (Zd8 f r) λbs=>some (b::bs)
theorem Zf2{α β:Type}{f:α->Option β}{a:α}{l:List α}{ds:List β}(h:Zd8 f (a::l)=some ds):E23 (λy _=>f a=some y) (λ_ ys=>Zd8 f l=some ys) λy ys=>ds=y::ys:=by
 obtain⟨y,h1,h⟩:=obS h;obtain⟨ys,h2,h⟩:=obS h;exact⟨y,ys,h1,h2,(sI h).symm⟩
theorem Zdb{α β:Type}{f:α->Option β}{a:α}{ds:List β}(h:Zd8 f [a]=some ds):E12 (λy=>f a=some y) λy=>ds=[y]:=by
 obtain⟨y,ys,h1,h2,h3⟩:=Zf2 h;exact⟨y,h1,by rw[h3,←sI h2]⟩
theorem Zk4{α β:Type}{f:α->Option β}{a b:α}{ds:List β}(h:Zd8 f [a,b]=some ds):E23 (λy _=>f a=some y) (λ_ z=>f b=some z) λy z=>ds=[y,z]:=by
 obtain⟨y,ys,h1,h2,h3⟩:=Zf2 h;obtain⟨z,h4,h5⟩:=Zdb h2;exact⟨y,z,h1,h4,by rw[h3,h5]⟩
noncomputable def Zjc{α β:Type}(f:α->Option (List β)):List α->Option (List β)
 |[]=>some []
 |a::r=>Zac (f a) λb=>Zac (Zjc f r) λbs=>some (b++bs)
noncomputable def eqN:List Nat->List Nat->Bool
 |[],s=>(match s with|[]=>true|_=>false)
 |a::r,s=>(match s with|[]=>false|b::s=>Nat.beq a b&&eqN r s)
theorem Zdw{a:List Nat}:∀{b:List Nat},eqN a b=true↔a=b:=by
 induction a with
 |nil=>intro b;cases b with
  |nil=>exact⟨λ_=>rfl,λ_=>rfl⟩
  |cons _ _=>exact⟨λh=>bF h,λh=>nomatch h⟩
 |cons x r ih=>intro b;cases b with
  |nil=>exact⟨λh=>bF h,λh=>nomatch h⟩
  |cons y s=>exact⟨λh=>Hb4 (Zaa h).1▸ih.mp (Zaa h).2▸rfl,λh=>(Hcd _ _).mpr (by injection h with h1 h2;exact⟨h1▸Hcm _,ih.mpr h2⟩)⟩
noncomputable def ieq(i j:Int):Bool:=match i with
 | .ofNat a=>(match j with| .ofNat b=>Nat.beq a b|_=>false)
 | .negSucc a=>(match j with| .negSucc b=>Nat.beq a b|_=>false)
theorem Zdh{a b:Int}:ieq a b=true↔a=b:=by
 constructor
 ·intro h;cases a<;>cases b<;>first|exact bF h|exact Hb6 _ (Hb4 h)
 ·rintro rfl;cases a<;>exact Hcm _
noncomputable def Ziu:PX->PX->Bool
 | .k i,b=>(match b with| .k j=>ieq i j|_=>false)
 | .v m,b=>(match b with| .v n=>Nat.beq m n|_=>false)
 | .add x y,b=>(match b with| .add u v=>Ziu x u&&Ziu y v|_=>false)
 | .mul x y,b=>(match b with| .mul u v=>Ziu x u&&Ziu y v|_=>false)
theorem Zf6{a:PX}:∀{b:PX},Ziu a b=true->a=b:=by
 induction a with
 |k i=>intro b h;cases b<;>first|exact bF h|exact Hb6 _ (Zdh.mp h)
 |v m=>intro b h;cases b<;>first|exact bF h|exact Hb6 _ (Hb4 h)
 |add x y h1 h2=>intro b h;cases b<;>first|exact bF h|exact h1 (Zaa h).1▸h2 (Zaa h).2▸rfl
 |mul x y h1 h2=>intro b h;cases b<;>first|exact bF h|exact h1 (Zaa h).1▸h2 (Zaa h).2▸rfl
noncomputable def peq(a b:PX):Option Bool:=match Ziu a b with
 |true=>some true
 |false=>onP a λi=>onP b λj=>some (ieq i j)
theorem Yb7{i j:Int}:ieq i j=decide (i=j):=by
 rw[Bool.eq_iff_iff,Zdh,decide_eq_true_iff]
theorem Zz3(σ:Sg){a b:PX}{r:Bool}(h:peq a b=some r):r=decide (a.ev σ=b.ev σ):=by
 unfold peq at h;cases q:Ziu a b with
 |true=>rw[q]at h;rw[←sI h,Zf6 q,decide_eq_true rfl]
 |false=>
  rw[q]at h;obtain⟨i,ha,h⟩:=Yh1 h;obtain⟨j,hb,h⟩:=Yh1 h;rw[ha,hb];exact(sI h).symm.trans Yb7
noncomputable def eqL(f:D->D->Option Bool):List D->List D->Option Bool
 |[],b=>(match b with|[]=>some true|_=>none)
 |a::r,b=>(match b with
  |[]=>none
  |c::s=>Zac (f a c) λx=>Zac (eqL f r s) λy=>some (x&&y))
noncomputable def Zzn:D->Option Bool
 | .none=>some true
 | .lst _=>some false
 | .tup _=>some false
 | .int _=>some false
 |_=>none
noncomputable def Zpx(d:D)(o:Option Bool):Option Bool:=match d with
 | .none=>some false
 |_=>o
noncomputable def eqS(f:D->D->Option Bool)(a b:D):Option Bool:=match a with
 | .none=>Zzn b
 | .bool x=>onB b λy=>some (x==y)
 | .int p=>Zpx b (onI b λq=>peq p q)
 | .str x=>onS b λy=>some (eqN x y)
 | .sym x=>onY b λy=>Zas (Nat.beq x y) (some true)
 | .tup x=>Zpx b (onT b λy=>eqL f x y)
 | .lst x=>Zpx b (onL b λy=>match Nat.beq x.length y.length with
  |true=>eqL f x y
  |false=>some false)
 |_=>none
noncomputable def Yht:Nat->D->D->Option Bool
 |0=>λ_ _=>none
 |n+1=>eqS (Yht n)
theorem Zgt{d:D}{o:Option Bool}{r:Bool}(h:Zpx d o=some r):(d= .none/\r=false)\/o=some r:=by
 cases d<;>first|exact .inr h|exact .inl ⟨rfl,(sI h).symm⟩
theorem Zs3{d:D}{r:Bool}(h:Zzn d=some r):(d= .none/\r=true)\/(r=false/\((∃p,d= .int p)\/(∃l,d= .tup l)\/∃l,d= .lst l)):=by
 cases d with
 |none=>exact .inl ⟨rfl,(sI h).symm⟩
 |int p=>exact .inr ⟨(sI h).symm,.inl ⟨_,rfl⟩⟩
 |tup p=>exact .inr ⟨(sI h).symm,.inr (.inl ⟨_,rfl⟩)⟩
 |lst p=>exact .inr ⟨(sI h).symm,.inr (.inr ⟨_,rfl⟩)⟩
 |_=>exact nS h
noncomputable def eqD(a b:D):Option Bool:=Yht 9 a b
noncomputable def lim:Nat:=1000000
noncomputable def small{α:Type}(l:List α):Bool:=Nat.ble l.length lim
noncomputable def ne0{α:Type}:List α->Bool
 |[]=>false
 |_::_=>true
noncomputable def Zeu:D->Option Bool
 | .none=>some false
 | .bool b=>some b
 | .int p=>onP p λi=>some (!ieq i 0)
 | .str s=>Zas (small s) (some (ne0 s))
 | .lst ds=>Zas (small ds) (some (ne0 ds))
 |_=>none
noncomputable def scalar:D->Bool
 | .tup _=>false
 | .lst _=>false
 | .hdr _=>false
 |_=>true
noncomputable def lk{α:Type}(x:Nat):List (Nat×α)->Option α
 |[]=>none
 |(y,d)::r=>match Nat.beq x y with
  |true=>some d
  |false=>lk x r
noncomputable def toI(i:Int)(n:Nat):Option Nat:=match i with
 | .ofNat a=>Zas (Nat.blt a n&&Nat.ble n 1000000) (some a)
 | .negSucc a=>Zas (Nat.blt a n&&Nat.ble n 1000000) (some (n-(a+1)))
noncomputable def Zts{α:Type}:List α->Nat->Option α
 |[],_=>none
 |a::r,n=>(match n with
  |0=>some a
  |n+1=>Zts r n)
theorem Zig{α:Type}:∀(l:List α) (n:Nat),Zts l n=l[n]?
 |[],_=>rfl
 |_::_,0=>rfl
 |_::r,n+1=>Zig r n
noncomputable def rep{α:Type}(l:List α):Nat->List α
 |0=>[]
 |n+1=>l++rep l n
noncomputable def fits(p:PX):Bool:=Nat.blt (Zp0 (2^1000) p) (2^60000)
noncomputable def Zm8(p:PX):Nat->PX
 |0=>.k 1
 |n+1=>Zlb (Zm8 p n) p
noncomputable def lt'(c:Int):Bool:=match c with
 | .ofNat n=>Nat.blt 0 n&&Nat.blt n 1000001
 |_=>false
noncomputable def addD(a b:D):Option D:=match a with
 | .int p=>onI b λq=>some (.int (Zoa p q))
 | .str x=>onS b λy=>Zas (small x&&small y) (some (.str (x++y)))
 | .lst x=>onL b λy=>Zas (small x&&small y) (some (.lst (x++y)))
 | .tup x=>onT b λy=>Zas (small x&&small y) (some (.tup (x++y)))
 |_=>none
noncomputable def mulD(a b:D):Option D:=match a with
 | .int p=>onI b λq=>Zas (fits p&&fits q) (some (.int (Zlb p q)))
 | .str x=>onK b λn=>Zas (Nat.ble n.natAbs 1000&&Nat.ble x.length 1000) (some (.str (rep x n.toNat)))
 |_=>none
noncomputable def Yhq(o:Operator)(a b:D):Option D:=match o with
 | .Add=>addD a b
 | .Sub=>onI a λp=>onI b λq=>some (.int (Zoa p (Zyp q)))
 | .Mult=>mulD a b
 | .FloorDiv=>onI a λp=>onK b λc=>Zas (lt' c) (Zac (Yj7 c p) λq=>some (.int q))
 | .Mod=>onI a λp=>onK b λc=>Zas (lt' c) (Zac (Zp1 c p) λr=>some (.int (.k r)))
 | .RShift=>onI a λp=>onK b λc=>onN c λn=>Zac (Yj7 ((2^n:Nat):Int) p) λq=>some (.int q)
 | .BitAnd=>onI a λp=>onK b λc=>match ieq c 1 with
  |true=>Zac (Zp1 2 p) λr=>some (.int (.k r))
  |false=>Zas (ieq c 7) (Zac (Zp1 8 p) λr=>some (.int (.k r)))
 | .Pow=>onI a λp=>onK b λc=>onN c λn=>Zas (fits p&&Nat.ble n 20) (some (.int (Zm8 p n)))
 |_=>none
noncomputable def ilt:Int->Int->Bool
 | .ofNat a,.ofNat b=>Nat.blt a b
 | .ofNat _,.negSucc _=>false
 | .negSucc _,.ofNat _=>true
 | .negSucc a,.negSucc b=>Nat.blt b a
theorem Zkx{a b:Int}:ilt a b=true↔a<b:=PySem.W.Z.ltB_iff a b
noncomputable def isC:D->Option (Option Bool)
 | .none=>some none
 | .bool b=>some (some b)
 |_=>none
noncomputable def isU:D->Bool
 | .opq=>true
 |_=>false
noncomputable def isD(a b:D):Option Bool:=match isC a with
 |some x=>(match isC b with
  |some y=>some (x==y)
  |none=>Zas (!isU b) (some false))
 |none=>Zac (isC b) λ_=>Zas (!isU a) (some false)
mutual
noncomputable def gr:D->Bool
 | .none=>true
 | .bool _=>true
 | .int p=>(match p with| .k _=>true|_=>false)
 | .str _=>true
 | .tup ds=>grL ds
 | .lst ds=>grL ds
 |_=>false
noncomputable def grL:List D->Bool
 |[]=>true
 |d::r=>gr d&&grL r
end
noncomputable def inL(a:D):List D->Option Bool
 |[]=>some false
 |b::r=>Zac (eqD b a) λx=>Zac (inL a r) λy=>some (x||y)
noncomputable def Ycx:List D->Bool
 |[]=>true
 |d::r=>(match d with
  | .tup _=>true
  | .lst _=>true
  | .int _=>true
  |_=>false)&&Ycx r
noncomputable def inD(a:D)(ds:List D):Option Bool:=match grL ds with
 |true=>inL a ds
 |false=>(match a with
  | .none=>Zas (Ycx ds) (some false)
  |_=>none)
noncomputable def Zwi(c:Nat):List Nat->Bool
 |[]=>false
 |x::r=>Nat.beq x c||Zwi c r
noncomputable def has1(a:D)(s:List Nat):Option Bool:=onS a λx=>match x with
 |[c]=>some (Zwi c s)
 |_=>none
noncomputable def Yj0(a b:D):Option Bool:=match b with
 | .lst ds=>inD a ds
 | .str s=>has1 a s
 |_=>none
noncomputable def Ye8(f:Int->Int->Bool)(a b:D):Option Bool:=onK a λi=>onK b λj=>some (f i j)
noncomputable def Yhs(o:CmpOp)(a b:D):Option Bool:=match o with
 | .Lt=>Ye8 ilt a b
 | .LtE=>Ye8 (λi j=>!ilt j i) a b
 | .Gt=>Ye8 (λi j=>ilt j i) a b
 | .GtE=>Ye8 (λi j=>!ilt i j) a b
 | .Eq=>eqD a b
 | .NotEq=>(eqD a b).map (!·)
 | .Is=>isD a b
 | .IsNot=>(isD a b).map (!·)
 | .In=>Yj0 a b
 | .NotIn=>(Yj0 a b).map (!·)
noncomputable def Yf0(a i:D):Option D:=onK i λk=>match a with
 | .lst ds=>Zac (toI k ds.length) λn=>Zts ds n
 | .tup ds=>Zac (toI k ds.length) λn=>Zts ds n
 | .str s=>Zac (toI k s.length) λn=>Zac (Zts s n) λc=>some (.str [c])
 |_=>none
noncomputable def Zuo(o:Option D)(d:Nat):Option Nat:=match o with
 |none=>some d
 |some x=>onK x λi=>onN i λn=>some n
noncomputable def slN{α:Type}(l:List α)(lo hi:Nat):List α:=(l.drop lo).take (hi-lo)
noncomputable def slD(a:D)(lo hi:Option D):Option D:=Zac (Zuo lo 0) λx=>match a with
 | .lst ds=>Zac (Zuo hi ds.length) λy=>Zas (small ds) (some (.lst (slN ds x y)))
 | .str s=>(match hi with
  |none=>Zas (small s&&Nat.ble x s.length) (some (.str (s.drop x)))
  |some h=>onK h λi=>onN i λy=>Zas (small s&&(Nat.ble x y&&Nat.ble y s.length)) (some (.str (slN s x y))))
 |_=>none
noncomputable def Zsd(i:Int):D:=.int (.k i)
noncomputable def Ze8(lo st:Int):Nat->List D
 |0=>[]
 |n+1=>Zsd lo::Ze8 (lo+st) st n
noncomputable def Yc5(l:List D):Option (Int×Int×Nat):=match l with
 |[]=>none
 |a::r=>onK a λi=>match r with
  |[]=>Zas (Nat.blt i.natAbs 1000000) (some (0,1,i.toNat))
  |b::r=>onK b λj=>Zas (Nat.blt j.natAbs 1000000) (match r with
   |[]=>some (i,1,(j-i).toNat)
   |c::r=>onK c λk=>Zas (ieq k (-1)) (match r with
    |[]=>some (i, -1,(i-j).toNat)
    |_=>none))
noncomputable def Zza:List D->List D->List D
 |[],_=>[]
 |a::r,l=>(match l with
  |[]=>[]
  |b::s=>.tup [a,b]::Zza r s)
noncomputable def seqD(d:D):Option (List D):=match d with
 | .lst l=>Zas (small l) (some l)
 | .tup l=>Zas (small l) (some l)
 | .str s=>Zas (small s) (some (s.map λc=>.str [c]))
 |_=>none
noncomputable def Zff(ds:List D):Option D:=match ds with
 |[]=>none
 |d::r=>(match r with
  |[]=>some d
  |_=>none)
theorem Ztv{ds:List D}{d:D}(h:Zff ds=some d):ds=[d]:=by
 cases ds with
 |nil=>exact nS h
 |cons a r=>cases r with
  |nil=>rw[sI h]
  |cons _ _=>exact nS h
noncomputable def Zmc(k:Nat)(ds:List D):Option (List D):=match k with
 |0=>Zac (Zff ds) seqD
 |1=>Zac (Yc5 ds) λr=>Zas (Nat.ble r.2.2 1000&&Nat.blt r.1.natAbs 1000000) (some (Ze8 r.1 r.2.1 r.2.2))
 |_=>none
noncomputable def bindL:List Nat->List D->List (Nat×D)->Option (List (Nat×D))
 |[],ds,ρ=>(match ds with|[]=>some ρ|_=>none)
 |x::t,ds,ρ=>(match ds with|d::ds=>bindL t ds ((x,d)::ρ)|[]=>none)
noncomputable def Zhb(t:List Nat)(uni:Bool)(d:D)(ρ:List (Nat×D)):Option (List (Nat×D)):=match uni with
 |true=>(match t with|[x]=>some ((x,d)::ρ)|_=>none)
 |false=>(match d with
  | .tup ds=>bindL t ds ρ
  | .lst ds=>bindL t ds ρ
  |_=>none)
noncomputable def Zft(n:Nat):Nat->List Nat
 |0=>[]
 |f+1=>bI (Nat.blt n 10) [n+48] (Zft (n/10) f++[n%10+48])
noncomputable def strD(i:Int):List Nat:=match i with
 | .ofNat n=>Zft n 30
 | .negSucc n=>45::Zft (n+1) 30
noncomputable def Zg3:List D->Option (List (List Nat))
 |[]=>some []
 |d::r=>onS d λs=>Zac (Zg3 r) λl=>some (s::l)
noncomputable def Zem(sep:List Nat):List (List Nat)->List Nat
 |[]=>[]
 |x::r=>(match r with
  |[]=>x
  |y::t=>x++(sep++Zem sep (y::t)))
noncomputable def Zxr(c:Nat):List Nat->Nat->Option Nat
 |[],_=>none
 |x::r,i=>bI (Nat.beq x c) (some i) (Zxr c r (i+1))
noncomputable def Ybn(a:D):List D->Nat->Option Nat
 |[],_=>none
 |b::r,i=>Zac (eqD b a) λx=>match x with
  |true=>some i
  |false=>Ybn a r (i+1)
noncomputable def upC(c:Nat):Nat:=if Nat.ble 97 c&&Nat.ble c 122 then c-32 else c
noncomputable def loC(c:Nat):Nat:=if Nat.ble 65 c&&Nat.ble c 90 then c+32 else c
noncomputable def Zc4(s:List Nat):Bool:=s.all λc=>Nat.blt c 128
noncomputable def pre:List Nat->List Nat->Option (List Nat)
 |[],s=>some s
 |a::p,s=>(match s with
  |b::s=>Zas (Nat.beq a b) (pre p s)
  |[]=>none)
noncomputable def Zfa(sep:List Nat):Nat->List Nat->List Nat->List (List Nat)
 |0,_,acc=>[acc.reverse]
 |_+1,[],acc=>[acc.reverse]
 |f+1,c::s,acc=>match pre sep (c::s)with
  |some r=>acc.reverse::Zfa sep f r []
  |none=>Zfa sep f s (c::acc)
noncomputable def ltN:List Nat->List Nat->Bool
 |[],[]=>false
 |[],_::_=>true
 |_::_,[]=>false
 |a::r,b::t=>Nat.blt a b||(Nat.beq a b&&ltN r t)
noncomputable def Yd3(a:List Nat):List (List Nat)->List (List Nat)
 |[]=>[a]
 |b::r=>bI (ltN b a) (b::Yd3 a r) (a::b::r)
noncomputable def Zlg:List (List Nat)->List (List Nat)
 |[]=>[]
 |a::r=>Yd3 a (Zlg r)
noncomputable def lenD(d:D):Option D:=match d with
 | .lst l=>Zas (small l) (some (Zsd l.length))
 | .tup l=>Zas (small l) (some (Zsd l.length))
 | .str l=>Zas (small l) (some (Zsd l.length))
 |_=>none
noncomputable def dmD(l:List D):Option D:=match l with
 |[]=>none
 |a::r=>onK a λi=>Zac (Zff r) λb=>onK b λj=>Zas (!ieq j 0&&Nat.blt j.natAbs (2^8000)) (some (.tup [.int (.k (i.fdiv j)),.int (.k (i.fmod j))]))
noncomputable def biD(b:Nat)(as:List D):Option D:=match b with
 |0=>Zac (Zff as) lenD
 |2=>Zac (Zff as) λd=>onK d λi=>Zas (Nat.blt i.natAbs 10000000000) (some (.str (strD i)))
 |8=>dmD as
 |7=>Zac (Zff as) λd=>onL d λl=>Zas (Nat.blt l.length 64) (Zac (Zg3 l) λls=>some (.lst ((Zlg ls).map .str)))
 |_=>none
noncomputable def Yjw(sep:List Nat)(l:List D):Option D:=Zac (Zg3 l) λls=>Zas (small l&&(small sep&&Nat.ble (Zem sep ls).length lim)) (some (.str (Zem sep ls)))
noncomputable def Yg8(s sep:List Nat):Option D:=match sep with
 |[]=>none
 |a::sep=>Zas (small s&&(small sep&&Zc4 (a::sep))) (some (.lst ((Zfa (a::sep) (s.length+1) s []).map .str)))
noncomputable def idx1(s x:List Nat):Option D:=match x with
 |[c]=>Zas (small s) ((Zxr c s 0).map λ(n:Nat)=>Zsd n)
 |_=>none
noncomputable def meD(m:Nat)(o:D)(as:List D):Option D:=match m with
 |0=>onS o λsep=>Zac (Zff as) λd=>onL d (Yjw sep)
 |1=>onS o λs=>Zac (Zff as) λd=>onS d (Yg8 s)
 |2=>onS o λs=>(match as with|[]=>Zas (Zc4 s&&small s) (some (.str (s.map upC)))|_=>none)
 |3=>onS o λs=>(match as with|[]=>Zas (Zc4 s&&small s) (some (.str (s.map loC)))|_=>none)
 |4=>onL o λl=>Zac (Zff as) λa=>Zas (small l&&grL l) (Zac (inL a l) λb=>Zas b ((Ybn a l 0).map λ(n:Nat)=>Zsd n))
 |5=>onS o λs=>Zac (Zff as) λd=>onS d (idx1 s)
 |_=>none
noncomputable def Yj6{α β:Type}(f:α->Option β):Option α->Option (Option β)
 |none=>some none
 |some a=>(f a).map some
noncomputable def Zv6(f:M->Option D):List M->Option Bool
 |[]=>some true
 |m::r=>Zac (f m) λd=>Zac (Zeu d) λb=>match b with
  |true=>Zv6 f r
  |false=>some false
noncomputable def Yhr(f:M->Option D)(Zt2:Bool):List M->Option D
 |[]=>none
 |m::r=>(match r with
  |[]=>f m
  |_=>Zac (f m) λd=>Zac (Zeu d) λt=>match t==Zt2 with
   |true=>Yhr f Zt2 r
   |false=>some d)
noncomputable def cmpO(f:M->Option D)(a:D):List (CmpOp×M)->Option D
 |[]=>none
 |om::r=>Zac (f om.2) λb=>Zac (Yhs om.1 a b) λt=>(match r with
  |[]=>some (.bool t)
  |_::_=>none)
noncomputable def Zal:List Cl->List Nat
 |[]=>[]
 | .mk t _ _ _ _::r=>t++Zal r
noncomputable def Zri(x:Nat):List Nat->Bool
 |[]=>false
 |y::r=>Nat.beq x y||Zri x r
noncomputable def Zak(ts:List Nat):List (Nat×D)->List (Nat×D)
 |[]=>[]
 |e::r=>bI (Zri e.1 ts) (Zak ts r) (e::Zak ts r)
noncomputable def Zlm(f:List (Nat×D)->M->Option D)(k:List (Nat×D)->Option (List D))(t:List Nat)(uni:Bool)(ifs:List M)(ρ:List (Nat×D))(d:D):Option (List D):=
 Zac (Zhb t uni d ρ) λρ'=>Zac (Zv6 (f ρ') ifs) λb=>match b with
  |false=>some []
  |true=>k ρ'
noncomputable def Zwh(f:List (Nat×D)->M->Option D)(e:M):List Cl->List (Nat×D)->Option (List D)
 |[],ρ=>(f ρ e).map λd=>[d]
 | .mk t uni k it ifs::r,ρ=>Zac (Zd8 (f ρ) it) λds=>Zac (Zmc k ds) λitems=>Zjc (Zlm f (Zwh f e r) t uni ifs ρ) items
noncomputable def meX(C:Nat->List D->Option D)(k:Nat)(x:D)(ds:List D):Option D:=match x with
 | .hdr es=>C (1000+k) (.hdr es::ds)
 |x=>meD k x ds
noncomputable def ev(C:Nat->List D->Option D):Nat->List (Nat×D)->List (Nat×D)->M->Option D
 |0,_,_,_=>none
 |n+1,ρ,ρ2,m=>match m with
  | .c d=>some d
  | .n x=>lk x ρ
  | .lst es=>(Zd8 (ev C n ρ ρ2) es).map .lst
  | .tup es=>(Zd8 (ev C n ρ ρ2) es).map .tup
  | .bin o a b=>Zac (ev C n ρ ρ2 a) λx=>Zac (ev C n ρ ρ2 b) λy=>Yhq o x y
  | .neg a=>Zac (ev C n ρ ρ2 a) λx=>onI x λp=>some (.int (Zyp p))
  | .cmp a os=>Zac (ev C n ρ ρ2 a) λx=>cmpO (ev C n ρ ρ2) x os
  | .bop o es=>Yhr (ev C n ρ ρ2) (match o with| .And=>true| .Or=>false) es
  | .ite t a b=>Zac (ev C n ρ ρ2 t) λx=>Zac (Zeu x) λb'=>match b' with
   |true=>ev C n ρ ρ2 a
   |false=>ev C n ρ ρ2 b
  | .idx a i=>Zac (ev C n ρ ρ2 a) λx=>Zac (ev C n ρ ρ2 i) λy=>Yf0 x y
  | .sl a lo hi=>Zac (ev C n ρ ρ2 a) λx=>Zac (Yj6 (ev C n ρ ρ2) lo) λl=>Zac (Yj6 (ev C n ρ ρ2) hi) λh=>slD x l h
  | .call f as=>Zac (Zd8 (ev C n ρ ρ2) as) λds=>C f ds
  | .bi b as=>Zac (Zd8 (ev C n ρ ρ2) as) λds=>biD b ds
  | .me k o as=>Zac (ev C n ρ ρ2 o) λx=>Zac (Zd8 (ev C n ρ ρ2) as) λds=>meX C k x ds
  | .comp e cs=>(match cs with
   |[]=>none
   | .mk t uni k it ifs::r=>Zac (Zd8 (ev C n ρ ρ2) it) λds=>Zac (Zmc k ds) λitems=>
    Zac (Zjc (Zlm (λρ'=>ev C n ρ' (Zak (t++Zal r) ρ2)) (Zwh (λρ'=>ev C n ρ' (Zak (t++Zal r) ρ2)) e r) t uni ifs (Zak (t++Zal r) ρ)) items) λds=>Zas (small ds) (some (.lst ds)))
  | .bor a=>Zac (ev C n (ρ++ρ2) [] a) λd=>Zas (scalar d) (some d)
noncomputable abbrev Zcv(its:Array Value)(n:Nat):Obj:={cls:=.type "tuple",data:=.seq its n}
noncomputable abbrev Za3(its:Array Value)(n:Nat):Obj:={cls:=.type "list",data:=.seq its n}
noncomputable def Ztm:Data->Bool
 | .fields _=>true
 |_=>false
noncomputable def Yj3:Value->Bool
 | .none=>true
 |_=>false
noncomputable def Zb0(o:Obj):Bool:=Yj3 o.cls&&Ztm o.data
theorem Za0{o:Obj}(h:Ztm o.data=false):Zb0 o=false:=by
 rw[Zb0,h,Bool.and_false]
theorem Zhw{o:Obj}{fd:FuncData}(h:o.data= .func fd):Zb0 o=false:=Za0 (by rw[h];rfl)
structure Zeb(C:Addr)(o od:Obj)(x dx b:Addr):Prop where
 cls:o.cls= .ref C
 data:∀c,o.data≠.cls c
 dict:o.dict=some dx
 apart:dx≠x
 dcls:od.cls= .type "dict"
 ddict:od.dict=none
 names:∃es ep,od.data= .dict es ep/\StrKeys es/\UniqKeys es/\∀name,nsFind es name=if name=("_headers":Str)then some (.ref b)else none
theorem Zeb.tab{C:Addr}{o od:Obj}{x dx b:Addr}(h:Zeb C o od x dx b):Zb0 o=false/\Zb0 od=false:=by
 unfold Zb0;rw[h.cls,h.dcls];exact⟨rfl,rfl⟩
mutual
inductive Rd(σ:Sg)(N:Addr->Prop)(h:Heap):Value->D->Prop
 |opq {v:Value}:Rd σ N h v .opq
 |sym {x:Str} {t:Tok} {n:Nat}:x.cps.toList=σ.t n->Rd σ N h (.str x t) (.sym n)
 |none:Rd σ N h .none .none
 |bool (b:Bool):Rd σ N h (.bool b) (.bool b)
 |int {i:Int} {t:Tok} {p:PX}:p.ev σ=i->Rd σ N h (.int i t) (.int p)
 |str {x:Str} {t:Tok} {s:List Nat}:x.cps.toList=s->Rd σ N h (.str x t) (.str s)
 |tup {a:Addr} {vs:List Value} {n:Nat} {ds:List D}:¬N a->h.get? a=some (Zcv vs.toArray n)->RdL σ N h vs ds->Rd σ N h (.ref a) (.tup ds)
 |lst {a:Addr} {vs:List Value} {n:Nat} {ds:List D}:¬N a->h.get? a=some (Za3 vs.toArray n)->RdL σ N h vs ds->Rd σ N h (.ref a) (.lst ds)
 |hdr {x dx b:Addr} {o od:Obj} {vs:List Value} {n:Nat} {ds:List D}:¬N x->¬N dx->¬N b->h.get? x=some o->h.get? dx=some od->Zeb (σ.v 999).toNat o od x dx b->h.get? b=some (Za3 vs.toArray n)->RdL σ N h vs ds->Rd σ N h (.ref x) (.hdr ds)
inductive RdL(σ:Sg)(N:Addr->Prop)(h:Heap):List Value->List D->Prop
 |nil:RdL σ N h [] []
 |cons {v:Value} {d:D} {vs:List Value} {ds:List D}:Rd σ N h v d->RdL σ N h vs ds->RdL σ N h (v::vs) (d::ds)
end
variable {σ:Sg} {N N':Addr->Prop} {h h':Heap}
noncomputable def Zdk(N N':Addr->Prop)(h h':Heap):Prop:=∀a o,¬N a->h.get? a=some o->Zb0 o=false->¬N' a/\h'.get? a=some o
theorem Rd.mono(k:Zdk N N' h h'){v:Value}{d:D}(r:Rd σ N h v d):Rd σ N' h' v d:=
 Rd.rec (motive_1:=λv d _=>Rd σ N' h' v d) (motive_2:=λvs ds _=>RdL σ N' h' vs ds) .opq .sym .none .bool .int .str (λn e _ r=>.tup (k _ _ n e rfl).1 (k _ _ n e rfl).2 r) (λn e _ r=>.lst (k _ _ n e rfl).1 (k _ _ n e rfl).2 r)
  (λn1 n2 n3 e1 e2 ho e3 _ r=>.hdr (k _ _ n1 e1 ho.tab.1).1 (k _ _ n2 e2 ho.tab.2).1 (k _ _ n3 e3 rfl).1 (k _ _ n1 e1 ho.tab.1).2 (k _ _ n2 e2 ho.tab.2).2 ho (k _ _ n3 e3 rfl).2 r) .nil (λ_ _ x r=>.cons x r) r
theorem RdL.ind{P:List Value->List D->Prop}(hn:P [] [])(hc:∀v d vs ds,Rd σ N h v d->RdL σ N h vs ds->P vs ds->P (v::vs) (d::ds)){vs:List Value}{ds:List D}(r:RdL σ N h vs ds):P vs ds:=
 RdL.rec (motive_1:=λ_ _ _=>True) (motive_2:=λvs ds _=>P vs ds) trivial (λ_=>trivial) trivial (λ_=>trivial) (λ_=>trivial) (λ_=>trivial) (λ_ _ _ _=>trivial) (λ_ _ _ _=>trivial) (λ_ _ _ _ _ _ _ _ _=>trivial) hn (λx r _ p=>hc _ _ _ _ x r p) r
theorem RdL.mono(k:Zdk N N' h h'){vs:List Value}{ds:List D}(r:RdL σ N h vs ds):RdL σ N' h' vs ds:=r.ind .nil λ_ _ _ _ x _ q=>.cons (x.mono k) q
inductive RdTx(v:Value)(s:List Nat):Prop
 |mk (x:Str) (t:Tok) (hv:v= .str x t) (e:x.cps.toList=s)
inductive RdSq(σ:Sg)(N:Addr->Prop)(h:Heap)(v:Value)(ds:List D)(mk:Array Value->Nat->Obj):Prop
 |mk (a:Addr) (vs:List Value) (n:Nat) (hv:v= .ref a) (hn:¬N a) (g:h.get? a=some (mk vs.toArray n)) (rs:RdL σ N h vs ds)
inductive RdHd(σ:Sg)(N:Addr->Prop)(h:Heap)(v:Value)(ds:List D):Prop
 |mk (x dx b:Addr) (o od:Obj) (vs:List Value) (n:Nat) (hv:v= .ref x) (n1:¬N x) (n2:¬N dx) (n3:¬N b) (e1:h.get? x=some o) (e2:h.get? dx=some od) (ho:Zeb (σ.v 999).toNat o od x dx b) (e3:h.get? b=some (Za3 vs.toArray n)) (rs:RdL σ N h vs ds)
noncomputable def RdI(σ:Sg)(N:Addr->Prop)(h:Heap)(v:Value):D->Prop
 | .opq=>True
 | .sym n=>RdTx v (σ.t n)
 | .none=>v= .none
 | .bool b=>v= .bool b
 | .int p=>∃t,v= .int (p.ev σ) t
 | .str s=>RdTx v s
 | .tup ds=>RdSq σ N h v ds Zcv
 | .lst ds=>RdSq σ N h v ds Za3
 | .hdr ds=>RdHd σ N h v ds
theorem Rd.inv{v:Value}{d:D}(r:Rd σ N h v d):RdI σ N h v d:=
 Rd.rec (motive_1:=λv d _=>RdI σ N h v d) (motive_2:=λ_ _ _=>True) trivial (λe=>⟨_,_,rfl,e⟩) rfl (λ_=>rfl) (λ{_ t _} e=>e▸⟨t,rfl⟩) (λe=>⟨_,_,rfl,e⟩) (λn e r _=>⟨_,_,_,rfl,n,e,r⟩) (λn e r _=>⟨_,_,_,rfl,n,e,r⟩)
  (λn1 n2 n3 e1 e2 ho e3 r _=>⟨_,_,_,_,_,_,_,rfl,n1,n2,n3,e1,e2,ho,e3,r⟩) trivial (λ_ _ _ _=>trivial) r
noncomputable def vk:Value->Nat
 | .none=>0
 | .bool _=>1
 | .int _ _=>2
 | .str _ _=>3
 | .ref _=>4
 |_=>5
noncomputable def dk:D->Nat
 | .none=>0
 | .bool _=>1
 | .int _=>2
 | .str _=>3
 | .sym _=>3
 | .opq=>6
 |_=>4
theorem Rd.kind{v:Value}{d:D}(r:Rd σ N h v d):isU d=false->vk v=dk d:=
 Rd.rec (motive_1:=λv d _=>isU d=false->vk v=dk d) (motive_2:=λ_ _ _=>True) (λh=>bF h.symm) (λ_ _=>rfl) (λ_=>rfl) (λ_ _=>rfl) (λ_ _=>rfl) (λ_ _=>rfl) (λ_ _ _ _ _=>rfl) (λ_ _ _ _ _=>rfl) (λ_ _ _ _ _ _ _ _ _ _=>rfl)
  trivial (λ_ _ _ _=>trivial) r
theorem kne{P:Prop}{a b:Nat}(h:a=b)(hn:Nat.beq a b=false):P:=absurd h (Nat.ne_of_beq_eq_false hn)
theorem Rd.inv'{v:Value}{d d':D}(r:Rd σ N h v d)(e:d=d'):RdI σ N h v d':=e▸r.inv
theorem Rd.intE{v:Value}{p:PX}(r:Rd σ N h v (.int p)):E22 (λi t=>v= .int i t) λi _=>p.ev σ=i:=by
 obtain⟨t,e⟩:=r.inv;exact⟨_,t,e,rfl⟩
noncomputable def RdLI(σ:Sg)(N:Addr->Prop)(h:Heap)(vs:List Value):List D->Prop
 |[]=>vs=[]
 |d::ds=>E23 (λv ws=>vs=v::ws) (λv _=>Rd σ N h v d) λ_ ws=>RdL σ N h ws ds
theorem RdL.inv{vs:List Value}{ds:List D}(r:RdL σ N h vs ds):RdLI σ N h vs ds:=r.ind (P:=RdLI σ N h) rfl λ_ _ _ _ x r _=>⟨_,_,rfl,x,r⟩
theorem RdL.two{vs:List Value}{a b:D}(r:RdL σ N h vs [a,b]):E23 (λv w=>vs=[v,w]) (λv _=>Rd σ N h v a) λ_ w=>Rd σ N h w b:=by
 obtain⟨v,ws,e,h1,r⟩:=r.inv;obtain⟨w,ws',e',h2,r⟩:=r.inv;exact⟨v,w,by rw[e,e',show ws'=[]from r.inv],h1,h2⟩
theorem RdL.one{vs:List Value}{a:D}(r:RdL σ N h vs [a]):E12 (λv=>vs=[v]) λv=>Rd σ N h v a:=by
 obtain⟨v,ws,e,h1,r⟩:=r.inv;exact⟨v,by rw[e,show ws=[]from r.inv],h1⟩
theorem RdL.length{vs:List Value}{ds:List D}(r:RdL σ N h vs ds):vs.length=ds.length:=r.ind (P:=λvs ds=>vs.length=ds.length) rfl λ_ _ _ _ _ _ e=>Hb6 Nat.succ e
theorem RdL.append{vs ws:List Value}{ds es:List D}(r:RdL σ N h vs ds)(s:RdL σ N h ws es):RdL σ N h (vs++ws) (ds++es):=r.ind (P:=λvs ds=>RdL σ N h (vs++ws) (ds++es)) s λ_ _ _ _ x _ q=>.cons x q
theorem RdL.get{vs:List Value}{ds:List D}{i:Nat}{d:D}(r:RdL σ N h vs ds):ds[i]?=some d->E12 (λv=>vs[i]?=some v) λv=>Rd σ N h v d:=
 r.ind (P:=λvs ds=>∀i:Nat,ds[i]?=some d->E12 (λv=>vs[i]?=some v) λv=>Rd σ N h v d) (λ_ e=>nS e) (λv _ vs _ x _ ih i=>match i with
  |0=>λe=>⟨v,rfl,sI e▸x⟩
  |i+1=>λe=>ih i e) i
theorem RdL.getV{vs:List Value}{ds:List D}{i:Nat}{v:Value}(r:RdL σ N h vs ds):vs[i]?=some v->E12 (λd=>ds[i]?=some d) λd=>Rd σ N h v d:=
 r.ind (P:=λvs ds=>∀i:Nat,vs[i]?=some v->E12 (λd=>ds[i]?=some d) λd=>Rd σ N h v d) (λ_ e=>nS e) (λ_ d _ _ x _ ih i=>match i with
  |0=>λe=>⟨d,rfl,sI e▸x⟩
  |i+1=>λe=>ih i e) i
theorem RdL.drop(n:Nat){vs:List Value}{ds:List D}(r:RdL σ N h vs ds):RdL σ N h (vs.drop n) (ds.drop n):=
 r.ind (P:=λvs ds=>∀n,RdL σ N h (vs.drop n) (ds.drop n)) (λn=>by rw[List.drop_nil,List.drop_nil];exact .nil) (λ_ _ _ _ x r ih n=>match n with
  |0=>.cons x r
  |n+1=>ih n) n
theorem RdL.take(n:Nat){vs:List Value}{ds:List D}(r:RdL σ N h vs ds):RdL σ N h (vs.take n) (ds.take n):=
 r.ind (P:=λvs ds=>∀n,RdL σ N h (vs.take n) (ds.take n)) (λn=>by rw[List.take_nil,List.take_nil];exact .nil) (λ_ _ _ _ x _ ih n=>match n with
  |0=>.nil
  |n+1=>.cons x (ih n)) n
theorem Rd.scalar{v:Value}{d:D}(r:Rd σ N h v d):Internal.scalar d=true->Rd σ N' h' v d:=
 Rd.rec (motive_1:=λv d _=>Internal.scalar d=true->Rd σ N' h' v d) (motive_2:=λ_ _ _=>True) (λ_=>.opq) (λe _=>.sym e) (λ_=>.none) (λb _=>.bool b) (λe _=>.int e) (λe _=>.str e) (λ_ _ _ _=>bF) (λ_ _ _ _=>bF) (λ_ _ _ _ _ _ _ _ _=>bF)
  trivial (λ_ _ _ _=>trivial) r
noncomputable def Zng:Value->Bool
 | .type s=>s=="code"
 |_=>false
noncomputable def Yjv:Value->Bool
 | .str _ _=>true
 |_=>false
noncomputable def Zzq:Data->Bool
 | .fields vs=>oE (vs[1]?:Option Value) false Yjv
 |_=>false
noncomputable def Zjb(o:Obj):Bool:=Zzq o.data&&Zng o.cls
theorem Zci{o:Obj}(h:Zzq o.data=false):Zjb o=false:=by rw[Zjb,h];rfl
theorem Zki{o:Obj}{vs:Array Value}{q:Str}{t:Tok}(d:o.data= .fields vs)(cc:Zng o.cls=true)(v:vs[1]?=some (.str q t)):Zjb o=true:=by
 rw[Zjb,d,cc,Bool.and_true];show oE _ _ _=_;rw[v];rfl
noncomputable def Zi6(h:Heap)(cd:Value)(q:Str):Prop:=∃c o vs t,cd= .ref c/\h.get? c=some o/\Zng o.cls=true/\o.data= .fields vs/\vs[1]?=some (.str q t)
theorem Zi6.rec'{h:Heap}{cd:Value}{q:Str}(x:Zi6 h cd q):h.CodeRec cd q:=by
 obtain⟨c,o,vs,t,a,b,_,r⟩:=x;exact⟨c,o,vs,t,a,b,r⟩
noncomputable def Za9(h:Heap)(a:Addr):Prop:=∀o,h.get? a=some o->Zjb o=false
theorem Za9.of{h:Heap}{a:Addr}{o:Obj}(e:h.get? a=some o)(c:Zjb o=false):Za9 h a:=λo' e'=>by rw[e]at e';cases e';exact c
theorem Za9.absurd{h:Heap}{a:Addr}{o:Obj}{p:Prop}(n:Za9 h a)(c:Zjb o=true)(e:h.get? a=some o):p:=by rw[n o e]at c;cases c
theorem Za9.ns{h:Heap}{a:Addr}{m:Str->Option Value}(x:h.Ns a m):Za9 h a:=by
 obtain⟨o,es,ep,e,d,_⟩:=x;exact .of e (Zci (by rw[d];rfl))
theorem Za9.cell{h:Heap}{a:Addr}{v:Option Value}(x:h.IsCell a v):Za9 h a:=by
 obtain⟨o,e,d⟩:=x;exact .of e (Zci (by rw[d];rfl))
theorem Za9.lst{h:Heap}{a:Addr}{vs:Array Value}(x:h.PlainList a vs):Za9 h a:=by
 obtain⟨n,e⟩:=x;exact .of e rfl
noncomputable def Zms(n:Nat):Str:=if n=36 then "_int2digits.<locals>.inner" else if n=39 then "_int2digits.<locals>.inner" else if n=51 then "_digits2int.<locals>.inner" else if n=54 then "_digits2int.<locals>.inner" else "?"
noncomputable def Zfb(h:Heap)(b:Addr):Prop:=∃ps:Array Value,h.get? b=some (tabObj ps)/\TriplesOk ps.toList/\∀pos cv,codeAmong pos ps.toList=some cv->Zi6 h cv (Zms pos.line)
theorem Zfb.keep{h h':Heap}{b:Addr}(x:Zfb h b)(kc:∀c o,Zjb o=true->h.get? c=some o->h'.get? c=some o)(kt:∀o,h.get? b=some o->h'.get? b=some o):Zfb h' b:=by
 obtain⟨ps,e,r,q⟩:=x;refine⟨ps,kt _ e,r,λpos cv hc=>?_⟩
 obtain⟨c,o,vs,t,e1,e2,cc,d,v⟩:=q pos cv hc;exact⟨c,o,vs,t,e1,kc c o (Zki d cc v) e2,cc,d,v⟩
class Zj8(P:Array GenState->Prop):Prop where
 keep:∀G G':Array GenState,P G->(∀(i:Nat) (st:GenState),G[i]?=some st->G'[i]?=some st)->(∀(i:Nat) (st:GenState),G.size<=i->G'[i]?=some st->st.bare=true)->P G'
instance:Zj8 AllBare:=⟨λG G' h k b y hy=>by
 obtain⟨i,hi,e⟩:=Array.mem_iff_getElem.mp hy;have e':G'[i]?=some y:=by rw[Hcg hi,e]
 by_cases q:i<G.size
 ·have:=k i G[i] (Hcg q);rw[e']at this;cases this;exact h _ (Array.getElem_mem q)
 ·exact b i y (Hah q) e'⟩
instance Zj8.at{i:Nat}{st:GenState}:Zj8 (λG=>G[i]?=some st):=⟨λ_ _ h k _=>k _ _ h⟩
structure Ext(T:Addr->Prop)(s s':Shared):Prop where
 keep:∀b o,¬T b->s.heap.get? b=some o->s'.heap.get? b=some o
 keep2:∀b o,s.heap.get? b=some o->Zb0 o=false->s'.heap.get? b=some o
 tab:∀b,T b->Zfb s.heap b->Zfb s'.heap b
 gens:∀{P:Array GenState->Prop} [Zj8 P],P s.gens->P s'.gens
 os:s'.os=s.os
variable {T:Addr->Prop} {s s' s'':Shared}
theorem Ext.refl:Ext T s s:=⟨λ_ _ _ e=>e,λ_ _ e _=>e,λ_ _ e=>e,λe=>e,rfl⟩
theorem Ext.trans(x:Ext T s s')(y:Ext T s' s''):Ext T s s'':=
 ⟨λb o n e=>y.keep b o n (x.keep b o n e),λb o e n=>y.keep2 b o (x.keep2 b o e n) n,λb t e=>y.tab b t (x.tab b t e),λe=>y.gens (x.gens e),y.os.trans x.os⟩
theorem Ext.of_keeps{h':Heap}{tk:Nat}(k:∀b o,s.heap.get? b=some o->h'.get? b=some o):Ext T s {s with heap:=h',toks:=tk}:=
 ⟨λb o _ e=>k b o e,λb o e _=>k b o e,λb _ t=>t.keep (λc o _ e=>k c o e) (λo e=>k _ o e),λe=>e,rfl⟩
theorem Ext.toks{tk:Nat}:Ext T s {s with toks:=tk}:=.of_keeps (λ_ _ e=>e)
theorem Ext.push{o:Obj}{tk:Nat}:Ext T s {s with heap:=s.heap.push o,toks:=tk}:=
 .of_keeps (λ_ _ e=>Hai o e)
noncomputable def Occ(h:Heap)(a:Addr):Prop:=∃o,h.get? a=some o/\Zb0 o=false
theorem Occ.ext{a:Addr}(x:Ext T s s')(n:Occ s.heap a):Occ s'.heap a:=by
 obtain⟨o,e,t⟩:=n;exact⟨o,x.keep2 a o e t,t⟩
theorem Occ.lt{h:Heap}{a:Addr}(n:Occ h a):a<h.objs.size:=by
 obtain⟨_,e,_⟩:=n;exact Haj e
theorem Zag{o:Obj}(h:∃T,o.cls= .type T):Zb0 o=false:=by
 obtain⟨T,e⟩:=h;rw[Zb0,e];rfl
theorem Ext.fits{N:Addr->Prop}(x:Ext T s s'):Zdk N N s.heap s'.heap:=λa o n e c=>⟨n,x.keep2 a o e c⟩
theorem Ext.ns{a:Addr}{m:Str->Option Value}(x:Ext T s s')(n:s.heap.Ns a m):s'.heap.Ns a m:=by
 obtain⟨o,es,ep,e,d,r⟩:=n;exact⟨o,es,ep,x.keep2 a o e (Za0 (by rw[d];rfl)),d,r⟩
theorem Ext.cell{a:Addr}{v:Option Value}(x:Ext T s s')(n:s.heap.IsCell a v):s'.heap.IsCell a v:=by
 obtain⟨o,e,d⟩:=n;exact⟨o,x.keep2 a o e (Za0 (by rw[d];rfl)),d⟩
theorem Ext.nolimit(x:Ext T s s')(n:s.heap.NoLimit):s'.heap.NoLimit:=by
 obtain⟨mc,a,r⟩:=n;exact⟨mc,x.ns a,r⟩
noncomputable def Zam(env:Env)(h:Heap)(x:Str)(v:Value):Prop:=
 (env.kindOf x=some .local/\∃m,h.Ns env.locals m/\m x=some v)∨
 ((env.kindOf x=some .cell\/env.kindOf x=some .free)/\(x==("__classdict__":Str))=false/\∃c,env.cells.lookup x=some c/\h.IsCell c (some v))
theorem Zam.ext{T:Addr->Prop}{s s':Shared}{env:Env}{x:Str}{v:Value}(y:Ext T s s')(h:Zam env s.heap x v):Zam env s'.heap x v:=by
 rcases h with⟨h1,m,h2,h3⟩|⟨h1,h2,c,h3,h4⟩
 ·exact .inl ⟨h1,m,y.ns h2,h3⟩
 ·exact .inr ⟨h1,h2,c,h3,y.cell h4⟩
theorem Zam.load{M:Model}{A:Around}{E:Value->Shared->Prop}{s:Shared}{env:Env}{x:Str}{v:Value}{pos:Pos}{Q:Value->Shared->Prop}(hk:env.scope.kind= .function)
  (hd:(x==("__debug__":Str))=false)(h:Zam env s.heap x v)(q:Q v s):wpAny M A (eval (.Name x pos) env) Q E s:=by
 refine wpAny_Name ?_ hd
 rcases h with⟨h1,m,h2,h3⟩|⟨h1|h1,h2,c,h3,h4⟩
 ·exact wpAny_loadName_local hk h1 h2 h3 q
 ·exact wpAny_loadName_cell hk h1 h3 h4 q
 ·exact wpAny_loadName_free hk h1 h3 h4 q h2
noncomputable def Zi4:Option NameKind->Bool
 |some .local=>true
 |some .cell=>true
 |some .free=>true
 |_=>false
noncomputable def Zbs(σ:Sg)(nm:Nat->Str)(N:Addr->Prop)(env:Env)(h:Heap)(ρ:List (Nat×D)):Prop:=
 ∀x d,lk x ρ=some d->Zi4 (env.kindOf (nm x))=true->∃v,Zam env h (nm x) v/\Rd σ N h v d
theorem Zbs.ext{T:Addr->Prop}{σ:Sg}{nm:Nat->Str}{N:Addr->Prop}{s s':Shared}{env:Env}{ρ:List (Nat×D)}(y:Ext T s s')(h:Zbs σ nm N env s.heap ρ):Zbs σ nm N env s'.heap ρ:=λx d e k=>by
 obtain⟨v,h1,h2⟩:=h x d e k;exact⟨v,h1.ext y,h2.mono y.fits⟩
structure Zcg(env:Env)(sc:List (Str×NameKind)):Prop where
 kind:env.scope.kind= .function
 names:env.scope.names=sc
 glob:env.globals=mainGlobals
 bui:env.builtins=builtinsNs
 cells:∀x,(sc.lookup x=some .cell\/sc.lookup x=some .free)->∃c,env.cells.lookup x=some c
theorem Zcg.kindOf{env:Env}{sc:List (Str×NameKind)}(h:Zcg env sc)(x:Str):env.kindOf x=sc.lookup x:=by
 unfold Env.kindOf;rw[h.names]
theorem Zkp{f:D->D->Option Bool}{xs:List D}:∀{ys:List D} {r:Bool},eqL f xs ys=some r->
  xs.length=ys.length/\∃e:Nat->Bool,(∀j x y,xs[j]?=some x->ys[j]?=some y->f x y=some (e j))/\r=(List.range xs.length).all e:=by
 induction xs with
 |nil=>
  intro ys r h;cases ys with
  |nil=>exact⟨rfl,λ_=>true,λj x y e=>nS e,(sI h).symm⟩
  |cons _ _=>exact nS h
 |cons a xs ih=>
  intro ys r h;cases ys with
  |nil=>exact nS h
  |cons b ys=>
   obtain⟨r0,h0,h⟩:=obS h;obtain⟨r1,h1,h⟩:=obS h;obtain⟨hl,e,he,hr1⟩:=ih h1;refine⟨Hb6 Nat.succ hl,λj=>match j with|0=>r0|j+1=>e j,λj x y=>?_,?_⟩
   ·cases j with
    |zero=>exact λhx hy=>sI hx▸sI hy▸h0
    |succ j=>exact λhx hy=>he j x y hx hy
   ·rw[Hci,List.range_succ_eq_map,List.all_cons,List.all_map,←sI h,hr1];rfl
variable {A:Around}
theorem Zv8{vs ws:List Value}{n m:Nat}{o:Option Obj}(e1:o=some (Zcv vs.toArray n))(e2:o=some (Zcv ws.toArray m)):vs=ws:=by
 have q:=Hb6 Obj.data (sI (e1.symm.trans e2))
 injection q with q
 exact Hb6 Array.toList q
theorem Zua{vs ws:List Value}{n m:Nat}{o:Option Obj}(e1:o=some (Za3 vs.toArray n))(e2:o=some (Za3 ws.toArray m)):vs=ws:=by
 have q:=Hb6 Obj.data (sI (e1.symm.trans e2))
 injection q with q
 exact Hb6 Array.toList q
theorem Zv9{P:Prop}{vs ws:List Value}{n m:Nat}{o:Option Obj}(e1:o=some (Zcv vs.toArray n))(e2:o=some (Za3 ws.toArray m)):P:=
 absurd (Value.type.inj (Hb6 Obj.cls (sI (e1.symm.trans e2)))) (by decide)
theorem Zca{a b:Addr}(h:Value.ref a= .ref b):a=b:=Value.ref.inj h
theorem Zvt{x y:Str}{t u:Tok}(h:Value.str x t= .str y u):x=y:=(Value.str.inj h).1
theorem Zt1{x y:Int}{t u:Tok}(h:Value.int x t= .int y u):x=y:=(Value.int.inj h).1
theorem Zo0{x y:Bool}(h:Value.bool x= .bool y):x=y:=Value.bool.inj h
theorem Zp7{h:Heap}{f:D->D->Option Bool}(ih:∀{v:Value} {x y:D} {r:Bool},f x y=some r->Rd σ N h v x->Rd σ N h v y->r=true){vs:List Value}{xs ys:List D}{r:Bool}(rx:RdL σ N h vs xs)(ry:RdL σ N h vs ys)(e:eqL f xs ys=some r):r=true:=by
 obtain⟨_,f',hf,hr⟩:=Zkp e;rw[hr,List.all_eq_true];intro j hj;have hj:=Hcc (List.mem_range.mp hj);obtain⟨v,hv,h1⟩:=rx.get hj;obtain⟨d,hd,h2⟩:=ry.getV hv;exact ih (hf j _ _ hj hd) h1 h2
theorem Zo8{h:Heap}{f:D->D->Option Bool}(ih:∀{v:Value} {x y:D} {r:Bool},f x y=some r->Rd σ N h v x->Rd σ N h v y->r=true){v:Value}{x y:D}{r:Bool}(e:eqS f x y=some r)(hx:Rd σ N h v x)(hy:Rd σ N h v y):r=true:=by
 have hx:=hx.inv;cases x with
 |none=>
  rcases Zs3 e with⟨_,h⟩|⟨_,⟨_,hd⟩|⟨_,hd⟩|⟨_,hd⟩⟩
  ·exact h
  ·obtain⟨_,hy⟩:=(hy.inv' hd);exact nomatch hx.symm.trans hy
  ·obtain⟨_,_,_,hy,_⟩:=(hy.inv' hd);exact nomatch hx.symm.trans hy
  ·obtain⟨_,_,_,hy,_⟩:=(hy.inv' hd);exact nomatch hx.symm.trans hy
 |bool b=>
  obtain⟨c,hd,e⟩:=onBS e;rw[←sI e,Zo0 (hx.symm.trans (hy.inv' hd))];exact Hcl c
 |int p=>
  obtain⟨t,hx⟩:=hx;rcases Zgt e with⟨hd,_⟩|e
  ·exact nomatch hx.symm.trans (hy.inv' hd)
  obtain⟨q,hd,e⟩:=Zk8 e;obtain⟨u,hy⟩:=(hy.inv' hd);rw[Zz3 σ e,Zt1 (hx.symm.trans hy),decide_eq_true rfl]
 |str a=>
  obtain⟨c,hd,e⟩:=Zgb e;obtain⟨x1,t1,hx,h1⟩:=hx;obtain⟨x2,t2,hy,h2⟩:=(hy.inv' hd);rw[←sI e];exact Zdw.mpr (h1.symm.trans (Zvt (hx.symm.trans hy)▸h2))
 |sym a=>
  obtain⟨c,hd,e⟩:=Yj5 e;exact(sI (Zaj e).2).symm
 |tup a=>
  obtain⟨x1,vs,n1,hv1,_,g1,r1⟩:=hx;rcases Zgt e with⟨hd,_⟩|e
  ·exact nomatch hv1.symm.trans (hy.inv' hd)
  obtain⟨c,hd,e⟩:=Yd5 e;obtain⟨x2,ws,n2,hv2,_,g2,r2⟩:=(hy.inv' hd);exact Zp7 ih r1 (Zv8 g1 (Zca (hv1.symm.trans hv2)▸g2)▸r2) e
 |lst a=>
  obtain⟨x1,vs,n1,hv1,_,g1,r1⟩:=hx;rcases Zgt e with⟨hd,_⟩|e
  ·exact nomatch hv1.symm.trans (hy.inv' hd)
  obtain⟨c,hd,e⟩:=Zn8 e;obtain⟨x2,ws,n2,hv2,_,g2,r2⟩:=(hy.inv' hd);have r2:=Zua g1 (Zca (hv1.symm.trans hv2)▸g2)▸r2;rw[←r1.length,←r2.length,Hcm]at e;exact Zp7 ih r1 r2 e
 |_=>exact nS e
theorem Ybh{h:Heap}(n:Nat):∀{v:Value} {x y:D} {r:Bool},Yht n x y=some r->Rd σ N h v x->Rd σ N h v y->r=true:=by
 induction n with
 |zero=>exact λe=>nS e
 |succ n ih=>exact Zo8 ih
theorem Rd.isList{h:Heap}{a:Addr}{ds:List D}(r:Rd σ N h (.ref a) (.lst ds)):∃vs:List Value,h.IsList a vs.toArray/\RdL σ N h vs ds:=by
 obtain⟨x,vs,n,e,_,g,r⟩:=r.inv;rw[←Zca e]at g;exact⟨vs,⟨_,g,rfl,_,rfl⟩,r⟩
theorem Yhg{x y:Str}:(x==y)=eqN x.cps.toList y.cps.toList:=by
 rw[Bool.eq_iff_iff,beq_iff_eq,Zdw];exact⟨λh=>by rw[h],λh=>Hb6 Str.mk (Array.toList_inj.mp h)⟩
theorem Yju{i j:Int}:(i==j)=decide (i=j):=by
 rw[Bool.eq_iff_iff,beq_iff_eq,decide_eq_true_iff]
structure Eqs(A:Around)(s:Shared)(a b:Value)(r:Bool):Prop where
 rc:RcAt A s a b r
 ne:RcNeAt A s a b (!r)
 eq:EqAt A s a b r
theorem Eqs.none_none:Eqs A s .none .none true:=⟨RcAt.none_none,RcNeAt.none_none,EqAt.same _⟩
theorem Eqs.none_int(i:Int)(t:Tok):Eqs A s .none (.int i t) false:=⟨RcAt.none_int _ _,RcNeAt.none_int _ _,EqAt.none_int _ _⟩
theorem Eqs.int_none(i:Int)(t:Tok):Eqs A s (.int i t) .none false:=⟨RcAt.int_none _ _,RcNeAt.int_none _ _,EqAt.int_none _ _⟩
theorem Eqs.none_tup{l:Addr}{vs:Array Value}{n:Nat}(g:s.heap.get? l=some (Zcv vs n))(hu:A.units<cLine):Eqs A s .none (.ref l) false:=⟨RcAt.none_tuple ⟨_,g,rfl,_,rfl⟩ hu,RcNeAt.none_tuple ⟨_,g,rfl,_,rfl⟩ hu,EqAt.none_tuple ⟨_,g,rfl,_,rfl⟩ hu⟩
theorem Eqs.none_lst{l:Addr}{vs:Array Value}{n:Nat}(g:s.heap.get? l=some (Za3 vs n))(hu:A.units<cLine):Eqs A s .none (.ref l) false:=⟨RcAt.none_list ⟨_,g,rfl,_,rfl⟩ hu,RcNeAt.none_list ⟨_,g,rfl,_,rfl⟩ hu,EqAt.none_list ⟨_,g,rfl,_,rfl⟩ hu⟩
theorem Eqs.tup_none{l:Addr}{vs:Array Value}{n:Nat}(g:s.heap.get? l=some (Zcv vs n))(hu:A.units<cLine):Eqs A s (.ref l) .none false:=⟨RcAt.tuple_none ⟨_,g,rfl,_,rfl⟩ hu,RcNeAt.tuple_none ⟨_,g,rfl,_,rfl⟩ hu,EqAt.tuple_none ⟨_,g,rfl,_,rfl⟩ hu⟩
theorem Eqs.lst_none{l:Addr}{vs:Array Value}{n:Nat}(g:s.heap.get? l=some (Za3 vs n))(hu:A.units<cLine):Eqs A s (.ref l) .none false:=⟨RcAt.list_none ⟨_,g,rfl,_,rfl⟩ hu,RcNeAt.list_none ⟨_,g,rfl,_,rfl⟩ hu,EqAt.list_none ⟨_,g,rfl,_,rfl⟩ hu⟩
theorem Eqs.bools(x y:Bool):Eqs A s (.bool x) (.bool y) (x==y):=⟨RcAt.bool_bool _ _,RcNeAt.bool_bool _ _,EqAt.bool_bool _ _⟩
theorem Eqs.ints(i j:Int)(t u:Tok):Eqs A s (.int i t) (.int j u) (i==j):=⟨RcAt.int_int _ _ _ _,RcNeAt.int_int _ _ _ _,EqAt.int_int _ _ _ _⟩
theorem Eqs.strs(x y:Str)(t u:Tok):Eqs A s (.str x t) (.str y u) (x==y):=⟨RcAt.str_str _ _ _ _,RcNeAt.str_str _ _ _ _,EqAt.str_str _ _ _ _⟩
theorem Eqs.refs{l l':Addr}{r:Bool}(same:l=l'->r=true)(rc:RcAt A s (.ref l) (.ref l') r)(ne:RcNeAt A s (.ref l) (.ref l') (!r)):Eqs A s (.ref l) (.ref l') r:=by
 refine⟨rc,ne,?_⟩
 by_cases q:l=l'
 ·rw[same q,q];exact EqAt.same _
 ·exact EqAt.of_refs q rc
theorem Zo9{A:Around}{f:D->D->Option Bool}(ih:∀{a b:Value} {x y:D} {r:Bool},f x y=some r->Rd σ N s.heap a x->Rd σ N s.heap b y->EqAt A s a b r){vs ws:List Value}{xs ys:List D}{e:Nat->Bool}(rx:RdL σ N s.heap vs xs)(ry:RdL σ N s.heap ws ys)
  (hf:∀j x y,xs[j]?=some x->ys[j]?=some y->f x y=some (e j)):∀j (h1:j<vs.toArray.size) (h2:j<ws.toArray.size),EqAt A s vs.toArray[j] ws.toArray[j] (e j):=by
 intro j h1 h2;obtain⟨d1,e1,q1⟩:=rx.getV (Hcc h1);obtain⟨d2,e2,q2⟩:=ry.getV (Hcc h2);exact ih (hf j d1 d2 e1 e2) q1 q2
theorem Yfl{A:Around}{f:D->D->Option Bool}(hu0:A.units<cLine)(is:∀{v:Value} {x y:D} {r:Bool},f x y=some r->Rd σ N s.heap v x->Rd σ N s.heap v y->r=true)
  (ih:∀{a b:Value} {x y:D} {r:Bool},f x y=some r->Rd σ N s.heap a x->Rd σ N s.heap b y->EqAt A.in1 s a b r){a b:Value}{x y:D}{r:Bool}(e:eqS f x y=some r)(hx:Rd σ N s.heap a x)(hy:Rd σ N s.heap b y):Eqs A s a b r:=by
 have same:=λ(q:a=b)=>Zo8 is e hx (q▸hy)
 have hx:=hx.inv;cases x with
 |none=>
  rcases Zs3 e with⟨hd,hr⟩|⟨hr,⟨_,hd⟩|⟨_,hd⟩|⟨_,hd⟩⟩
  ·rw[show a=_ from hx,show b=_ from(hy.inv' hd),hr];exact .none_none
  ·obtain⟨_,hy⟩:=(hy.inv' hd);rw[show a=_ from hx,hy,hr];exact .none_int _ _
  ·obtain⟨_,_,_,hy,_,g,_⟩:=(hy.inv' hd);rw[show a=_ from hx,hy,hr];exact .none_tup g hu0
  ·obtain⟨_,_,_,hy,_,g,_⟩:=(hy.inv' hd);rw[show a=_ from hx,hy,hr];exact .none_lst g hu0
 |bool c=>
  obtain⟨c',hd,e⟩:=onBS e;rw[show a=_ from hx,show b=_ from(hy.inv' hd),←sI e];exact .bools _ _
 |int p=>
  obtain⟨t,hx⟩:=hx;rcases Zgt e with⟨hd,hr⟩|e
  ·rw[hx,show b=_ from(hy.inv' hd),hr];exact .int_none _ _
  obtain⟨q,hd,e⟩:=Zk8 e;obtain⟨u,hy⟩:=(hy.inv' hd);rw[hx,hy,Zz3 σ e,←Yju];exact .ints _ _ _ _
 |str l=>
  obtain⟨l',hd,e⟩:=Zgb e;obtain⟨_,_,hx,h1⟩:=hx;obtain⟨_,_,hy,h2⟩:=(hy.inv' hd);rw[hx,hy,←sI e,←h1,←h2,←Yhg];exact .strs _ _ _ _
 |sym l=>
  obtain⟨l',hd,e⟩:=Yj5 e;obtain⟨_,_,hx,h1⟩:=hx;obtain⟨_,_,hy,h2⟩:=(hy.inv' hd);obtain⟨hb,e⟩:=Zaj e;rw[←Hb4 hb,←h1]at h2;rw[hx,hy,←sI e,←Zdw.mpr h2,←Yhg,BEq.comm];exact .strs _ _ _ _
 |tup l=>
  obtain⟨x1,vs,n1,hv1,_,g1,r1⟩:=hx;rcases Zgt e with⟨hd,hr⟩|e
  ·rw[hv1,show b=_ from(hy.inv' hd),hr];exact .tup_none g1 hu0
  obtain⟨c,hd,e⟩:=Yd5 e;obtain⟨x2,ws,n2,hv2,_,g2,r2⟩:=(hy.inv' hd);obtain⟨hl,f',hf,hr⟩:=Zkp e;have el:=Zo9 ih r1 r2 hf;have rc:=RcAt.tuples ⟨_,g1,rfl,_,rfl⟩ ⟨_,g2,rfl,_,rfl⟩ hu0 el;have rn:=RcNeAt.tuples ⟨_,g1,rfl,_,rfl⟩ ⟨_,g2,rfl,_,rfl⟩ hu0 el;rw[Hb8,Hb8,r1.length,r2.length,hl,Nat.min_self,Hcl,Bool.and_true,←hl,←hr]at rc rn;rw[hv1,hv2]at same ⊢;exact .refs (λq=>same (Hb6 _ q)) rc rn
 |lst l=>
  obtain⟨x1,vs,n1,hv1,_,g1,r1⟩:=hx;rcases Zgt e with⟨hd,hr⟩|e
  ·rw[hv1,show b=_ from(hy.inv' hd),hr];exact .lst_none g1 hu0
  obtain⟨c,hd,e⟩:=Zn8 e;obtain⟨x2,ws,n2,hv2,_,g2,r2⟩:=(hy.inv' hd);rw[hv1,hv2]at same ⊢;have hz:vs.toArray.size=l.length:=r1.length;have hz2:ws.toArray.size=c.length:=r2.length;cases hb:Nat.beq l.length c.length with
  |true=>
   rw[hb]at e;obtain⟨hl,f',hf,hr⟩:=Zkp e;have el:=Zo9 ih r1 r2 hf;have rc:=RcAt.lists ⟨_,g1,rfl,_,rfl⟩ ⟨_,g2,rfl,_,rfl⟩ (hz.trans (hl.trans hz2.symm)) hu0 el;have rn:=RcNeAt.lists ⟨_,g1,rfl,_,rfl⟩ ⟨_,g2,rfl,_,rfl⟩ (hz.trans (hl.trans hz2.symm)) hu0 el;rw[hz,←hr]at rc rn;exact .refs (λq=>same (Hb6 _ q)) rc rn
  |false=>
   rw[hb]at e;have hne:(vs.toArray.size != ws.toArray.size)=true:=by rw[hz,hz2,bne_iff_ne];exact Nat.ne_of_beq_eq_false hb
   rw[←sI e]at same ⊢;exact .refs (λq=>same (Hb6 _ q)) (RcAt.lists_lengths ⟨_,g1,rfl,_,rfl⟩ ⟨_,g2,rfl,_,rfl⟩ hne hu0) (RcNeAt.lists_lengths ⟨_,g1,rfl,_,rfl⟩ ⟨_,g2,rfl,_,rfl⟩ hne hu0)
 |_=>exact nS e
theorem Zxj(n:Nat):∀{A:Around} {a b:Value} {x y:D} {r:Bool},A.units+n<cLine->Yht n x y=some r->Rd σ N s.heap a x->Rd σ N s.heap b y->Eqs A s a b r:=by
 induction n with
 |zero=>exact λ_ e=>nS e
 |succ n ih=>exact λhu e hx hy=>Yfl (Hak (Hal _ _) hu) (λe=>Ybh n e) (λe h1 h2=>(ih (by show _+1+n<cLine;rw[Nat.add_assoc,Nat.add_comm 1];exact hu) e h1 h2).eq) e hx hy
theorem Zay{α:Type}{l:List α}(h:small l=true):l.length<=1000000:=bLe h
noncomputable abbrev Zd9(T:Addr->Prop)(σ:Sg)(N:Addr->Prop)(s:Shared)(d:D)(Q:Value->Shared->Prop):Prop:=
 ∀v s',Ext T s s'->Rd σ N s'.heap v d->Q v s'
variable {prog:Program} {w:World} {E Q:Value->Shared->Prop}
theorem Zid{p:PX}(hσ:∀n,(σ.v n).natAbs<=2^1000)(h:fits p=true):Builtin.Int.intBits (p.ev σ)<=60000:=by
 have h1:Zp0 (2^1000) p<2^60000:=bLe h;have h2:=Zfh σ (2^1000) hσ p;have h3:=Hak h2 h1;unfold Builtin.Int.intBits;split
 ·exact(by decide)
 ·rename_i hz;have hn:(p.ev σ).natAbs≠0:=by simpa using hz
  have:=(Nat.log2_lt hn).mpr h3;exact this
theorem Zpi{p q:PX}(hσ:∀n,(σ.v n).natAbs<=2^1000)(hp:fits p=true)(hq:fits q=true):IntMulOk (p.ev σ) (q.ev σ):=by
 have h1:=Zid hσ hp;have h2:=Zid hσ hq;unfold IntMulOk;have:Builtin.Int.intTooBig (Builtin.Int.intBits (p.ev σ)+Builtin.Int.intBits (q.ev σ))=false:=by
  unfold Builtin.Int.intTooBig;simp only[Hck];have:bitsLine=134217728:=by decide
  omega
 rw[this];simp
theorem Zuw(p:PX):∀n,(Zm8 p n).ev σ=(p.ev σ)^n
 |0=>(Hc7 _).symm
 |n+1=>by
  show(Zlb (Zm8 p n) p).ev σ=_;rw[Zoc,Zuw p n,Int.pow_succ]
theorem Zub{c:Int}(h:lt' c=true):0<c/\c<1000001:=by
 cases c with
 |ofNat n=>exact⟨Int.ofNat_lt.mpr (bLe (Zaa h).1),Int.ofNat_lt.mpr (bLe (Zaa h).2)⟩
 |negSucc n=>exact bF h
theorem Zz5{α:Type}(l:List α):∀n,(List.replicate n l).flatten=rep l n
 |0=>rfl
 |n+1=>by rw[List.replicate_succ,Hcf,Zz5 l n];rfl
theorem Zpk(a:Array Nat):∀(l:List (Array Nat)) (acc:Array Nat),(l.foldl (·++·) acc).toList=acc.toList++(l.map (·.toList)).flatten
 |[],acc=>by simp
 |b::r,acc=>by
  rw[List.foldl_cons,Zpk a r,Array.toList_append,Hcr,Hcf,Hcz]
theorem Ycs(x:Str)(n:Int):(Txt.mul x n).cps.toList=rep x.cps.toList n.toNat:=by
 unfold Txt.mul;split
 ·rename_i h;have:n.toNat=0:=(Ham (Han (Int.toNat_eq_zero.mpr (li [_] [] (.v 0) (.k 0) [(1,.a (.v 0) (.k 1),.k 1)] rfl h))) (ln1 (.k 0) (.v 0) [] rfl));rw[this];rfl
 ·split
  ·rename_i h1 h2;rcases(Hb9 _ _).mp h2 with h|h
   ·have:n=1:=by simpa using h
    subst this;show _=x.cps.toList++[];rw[Hcw]
   ·have hz:x.cps.toList=[]:=by
     have:x.cps.size=0:=by simpa[Str.length]using h
     exact List.length_eq_zero_iff.mp (by simpa using this)
    rw[hz]
    clear h1 h2 h
    generalize n.toNat=k
    induction k with
    |zero=>rfl
    |succ k ih=>exact ih
  ·show(List.foldl (·++·) (#[]:Array Nat) _).toList=_;rw[Zpk x.cps];rw[List.map_replicate,Zz5];rfl
theorem Zge(x y:Str):(x++y).cps.toList=x.cps.toList++y.cps.toList:=by
 show(x.cps++y.cps).toList=_;rw[Array.toList_append]
theorem Zm6{x:Str}{l:List Nat}(h:x.cps.toList=l):x.length=l.length:=by rw[←h];simp[Str.length]
theorem Ydt{t b:Addr}{vs ws:List Value}{n n2:Nat}(ho:s.heap.get? t=some (Zcv vs.toArray n))(ho2:s.heap.get? b=some (Zcv ws.toArray n2))
  (h0:vs=[]->Q (.ref b) s)(h1:vs≠[]->ws=[]->Q (.ref t) s)
  (h2:Q (.ref s.heap.objs.size) {s with heap:=s.heap.push (Zcv (vs++ws).toArray 0)})
  (hsz:vs.length+ws.length<=sizeLine):wpAny (model prog w) A (binaryOp .Add (.ref t) (.ref b)) Q E s:=by
 have e:vs.toArray++ws.toArray=(vs++ws).toArray:=by simp
 by_cases hv:vs=[]
 ·exact concat_meets ⟨_,ho,rfl⟩ ⟨_,ho2,rfl⟩ noFill_tuple_add seq_tuple_add PySem.F.slot_tuple_add PySem.F.entry_tuple_add (PySem.F.args_tuple_add_2 _ _)
   (tuple_addW0 t b vs.toArray ws.toArray n n2 none none #[] #[] (by simp[hv])) ⟨ho,ho2,h0 hv⟩
 ·by_cases hw:ws=[]
  ·exact concat_meets ⟨_,ho,rfl⟩ ⟨_,ho2,rfl⟩ noFill_tuple_add seq_tuple_add PySem.F.slot_tuple_add PySem.F.entry_tuple_add (PySem.F.args_tuple_add_2 _ _)
    (tuple_addW1 t b vs.toArray ws.toArray n n2 none none #[] #[] (by simpa using hv) (by simp[hw])) ⟨ho,ho2,h1 hv hw⟩
  ·refine concat_meets ⟨_,ho,rfl⟩ ⟨_,ho2,rfl⟩ noFill_tuple_add seq_tuple_add PySem.F.slot_tuple_add PySem.F.entry_tuple_add (PySem.F.args_tuple_add_2 _ _)
    (tuple_addW2 t b vs.toArray ws.toArray n n2 none none #[] #[] (by simpa using hv) (by simpa using hw) (by rw[Hb8,Hb8];exact hsz)) ⟨ho,ho2,?_⟩
   rw[e];exact h2
theorem Zj9{p:PX}{i:Int}{t:Tok}(q:Zd9 T σ N s (.int p) Q)(e:p.ev σ=i):Q (.int i t) {s with toks:=s.toks+1}:=q _ _ .toks (.int e)
theorem noN(hN:∀a,N a->Occ s.heap a):¬N s.heap.objs.size:=λh=>Hao _ (hN _ h).lt
theorem Zn0{α β:Type}{x:List α}{y:List β}(h:(small x&&small y)=true):x.length+y.length<=sizeLine:=
 Hag (Nat.add_le_add (Zay (Zaa h).1) (Zay (Zaa h).2)) (by rw[sizeLine_eq];decide)
theorem Yam{a b:Value}{x y z:D}(hN:∀a,N a->Occ s.heap a)(h:addD x y=some z)(ha:Rd σ N s.heap a x)(hb:Rd σ N s.heap b y)(q:Zd9 T σ N s z Q):wpAny (model prog w) A (binaryOp .Add a b) Q E s:=by
 have ha:=ha.inv;cases x with
 |int p=>
  obtain⟨r,hd,h⟩:=Zk8 h;obtain⟨t,ha⟩:=ha;obtain⟨u,hb⟩:=hb.inv' hd;rw[ha,hb];exact PySem.P.add_int (Zj9 (sI h▸q) (Zis σ p r))
 |str x=>
  obtain⟨r,hd,h⟩:=Zgb h;obtain⟨hs,h⟩:=Zaj h;obtain⟨_,_,ha,e1⟩:=ha;obtain⟨_,_,hb,e2⟩:=hb.inv' hd;rw[ha,hb];exact PySem.SB.add (λt' k=>q _ _ .toks (sI h▸.str (by rw[Zge,e1,e2]))) (by rw[Zm6 e1,Zm6 e2];exact Zn0 hs)
 |lst x=>
  obtain⟨r,hd,h⟩:=Zn8 h;obtain⟨hs,h⟩:=Zaj h;obtain⟨_,_,_,ha,_,g1,r1⟩:=ha;obtain⟨_,_,_,hb,_,g2,r2⟩:=hb.inv' hd;rw[ha,hb];refine PySem.P.add_list g1 g2 (q _ _ .push (sI h▸.lst (noN hN) (n:=0) (by rw[Hb7 _ rfl,List.append_toArray]) ?_)) (by rw[Hb8,Hb8,r1.length,r2.length];exact Zn0 hs)
  exact(r1.append r2).mono (Ext.fits (T:=T) .push)
 |tup x=>
  obtain⟨r,hd,h⟩:=Yd5 h;obtain⟨hs,h⟩:=Zaj h;obtain⟨_,vs,_,ha,n1,g1,r1⟩:=ha;obtain⟨_,ws,_,hb,n2,g2,r2⟩:=hb.inv' hd;rw[ha,hb];have rr:=r1.append r2;rw[←sI h]at q;refine Ydt g1 g2 (λhv=>q _ _ .refl (.tup n2 g2 ?_)) (λ_ hw=>q _ _ .refl (.tup n1 g1 ?_)) (q _ _ .push (.tup (noN hN) (n:=0) (Hb7 _ rfl) (rr.mono (Ext.fits (T:=T) .push)))) (by rw[r1.length,r2.length];exact Zn0 hs)
  ·rw[hv]at rr;exact rr
  ·rw[hw,Hcw]at rr;exact rr
 |_=>exact nS h
theorem Zwq{n:Int}{k:Nat}(h:n.natAbs<=k):n.toNat<=k:=by
 cases n with
 |ofNat a=>exact h
 |negSucc a=>exact Hap _
theorem Yap{n:Int}(h:n.natAbs<=1000):¬n< -(2^63)/\¬2^63-1<n:=⟨(Int.not_lt.mpr (li [_] [_] (.k (-(2^63))) (.v 0) [(1,.u (.v 0),.u (.k 1000)),(1,.g (.v 0),.u (.v 0))] rfl (jO h) Zd0)),(Int.not_lt.mpr (li [_] [_] (.v 0) (.k ((2^63)-1)) [(1,.u (.v 0),.u (.k 1000)),(1,.v 0,.u (.v 0))] rfl (jO h) Had))⟩
theorem Yet{n:Int}{l:Nat}(h3:0<n)(hm:l*n.toNat<=1000*1000):(l:Int)*n<=2^63-1:=by
 have:n=(n.toNat:Int):=(Haf (Int.self_le_toNat _) (Hab (Int.toNat_of_nonneg (li [_] [] (.k 0) (.v 0) [(1,.a (.k 0) (.k 1),.v 0)] rfl h3))));rw[this,←Int.natCast_mul];exact(li [] [_] (.u (.v 0)) (.k ((2^63)-1)) [(1,.u (.v 0),.u (.k (1000*1000)))] rfl (jO hm))
theorem Yem{c:Int}(h:0<c/\c<1000001):c.natAbs<1000001:=(absS (li [_] [] (.a (.v 0) (.k 1)) (.u (.k 1000001)) [(1,.a (.v 0) (.k 1),.k 1000001)] rfl h.2) (li [_] [] (.a (.g (.v 0)) (.k 1)) (.u (.k 1000001)) [(1,.a (.k 0) (.k 1),.v 0)] rfl h.1))
theorem Yev{a n:Nat}(h:a*n<=60000*20):(a:Int)*(n:Int)<=1200000:=by rw[←Int.natCast_mul];exact(li [] [_] (.u (.v 0)) (.k 1200000) [(1,.u (.v 0),.u (.k (60000*20)))] rfl (jO h))
theorem Ycr{a b:Value}{x y z:D}(hσ:∀n,(σ.v n).natAbs<=2^1000)(h:mulD x y=some z)(ha:Rd σ N s.heap a x)(hb:Rd σ N s.heap b y)(q:Zd9 T σ N s z Q):wpAny (model prog w) A (binaryOp .Mult a b) Q E s:=by
 have ha:=ha.inv;cases x with
 |int p=>
  obtain⟨r,hd,h⟩:=Zk8 h;obtain⟨hf,h⟩:=Zaj h;obtain⟨t,ha⟩:=ha;obtain⟨u,hb⟩:=hb.inv' hd;rw[ha,hb];exact PySem.P.mul_int (Zj9 (sI h▸q) (Zoc σ p r)) (Zpi hσ (Zaa hf).1 (Zaa hf).2)
 |str x=>
  obtain⟨n,hd,h⟩:=Zgr h;obtain⟨hs,h⟩:=Zaj h;obtain⟨_,_,ha,e1⟩:=ha;obtain⟨u,hb⟩:=hb.inv' hd;have h1:n.natAbs<=1000:=bLe (Zaa hs).1;have h2:x.length<=1000:=bLe (Zaa hs).2;have hm:x.length*n.toNat<=1000*1000:=Nat.mul_le_mul h2 (Zwq h1);rw[ha,hb];refine PySem.SB.mul ⟨?_,λh3 _=>?_,λh3 _=>?_⟩ (λt' k=>q _ _ .toks (sI h▸.str (by rw[Ycs,e1];rfl)))
  ·rw[Bool.or_eq_false_iff,Hck,Hck];exact Yap h1
  ·rw[Zm6 e1];have h3:0<n:=Int.not_lt.mp h3;exact Int.not_lt.mpr (Int.le_ediv_of_mul_le h3 (Yet h3 hm))
  ·rw[Zm6 e1];exact decide_eq_false (Nat.not_lt.mpr (Hag hm (by rw[sizeLine_eq];decide)))
 |_=>exact nS h
theorem Zzg{o:Operator}{a b:Value}{x y z:D}(hσ:∀n,(σ.v n).natAbs<=2^1000)(hN:∀a,N a->Occ s.heap a)(h:Yhq o x y=some z)(ha:Rd σ N s.heap a x)(hb:Rd σ N s.heap b y)
  (q:Zd9 T σ N s z Q):wpAny (model prog w) A (binaryOp o a b) Q E s:=by
 cases o with
 |Add=>exact Yam hN h ha hb q
 |Mult=>exact Ycr hσ h ha hb q
 |Sub=>
  obtain⟨p,h1,h⟩:=Zk8 h;obtain⟨r,h2,h⟩:=Zk8 h;obtain⟨t,ha⟩:=ha.inv' h1;obtain⟨u,hb⟩:=hb.inv' h2;rw[ha,hb];exact PyProof.Rows.sub_int (Zj9 (sI h▸q) (by rw[Zis,Zod,Int.sub_eq_add_neg]))
 |FloorDiv=>
  obtain⟨p,h1,h⟩:=Zk8 h;obtain⟨c,h2,h⟩:=Zgr h;obtain⟨hc,h⟩:=Zaj h;obtain⟨r,hr,h⟩:=obS h;obtain⟨t,ha⟩:=ha.inv' h1;obtain⟨u,hb⟩:=hb.inv' h2;have hp:=Zub hc;have h0:c≠0:=Haq hp.1;rw[ha,hb];exact PyProof.Rows.floordiv_int h0 (Zj9 (sI h▸q) (Zur σ c h0 _ _ hr).symm) (.inl (PyProof.noPylong_small (Har (Yem hp) (by decide))))
 |Mod=>
  obtain⟨p,h1,h⟩:=Zk8 h;obtain⟨c,h2,h⟩:=Zgr h;obtain⟨hc,h⟩:=Zaj h;obtain⟨r,hr,h⟩:=obS h;obtain⟨t,ha⟩:=ha.inv' h1;obtain⟨u,hb⟩:=hb.inv' h2;rw[ha,hb];exact PyProof.Rows.mod_int' (Haq (Zub hc).1) (Zj9 (p:=.k r) (sI h▸q) (Zob σ c _ _ hr).symm)
 |RShift=>
  obtain⟨p,h1,h⟩:=Zk8 h;obtain⟨c,h2,h⟩:=Zgr h;obtain⟨n,hc,h⟩:=Yd4 h;obtain⟨r,hr,h⟩:=obS h;obtain⟨t,ha⟩:=ha.inv' h1;obtain⟨u,hb⟩:=hb.inv' h2;rw[ha,hb];refine PyProof.Rows.rshift_int (by show 0<=c;rw[hc];exact Haa n) (Zj9 (sI h▸q) ?_)
  rw[←Zur σ ((2^n:Nat):Int) (Haq (Int.natCast_pos.mpr (Nat.pow_pos (by exact(by decide))))) _ _ hr]
  show _=Int.fdiv _ (2^c.toNat);rw[Int.natCast_pow,hc];rfl
 |BitAnd=>
  obtain⟨p,h1,h⟩:=Zk8 h;obtain⟨c,h2,h⟩:=Zgr h;obtain⟨t,ha⟩:=ha.inv' h1;obtain⟨u,hb⟩:=hb.inv' h2;rw[ha,hb];cases hc:ieq c 1 with
  |true=>
   rw[hc]at h;obtain⟨r,hr,h⟩:=obS h;rw[Zdh.mp hc];exact PyProof.Rows.and_int (Zj9 (p:=.k r) (sI h▸q) (by rw[show(PX.k 1).ev σ=1 from rfl,PyProof.Rows.bitAnd_m1,←Int.fmod_eq_emod_of_nonneg _ (by exact(by decide)),Zob σ 2 _ _ hr];rfl))
  |false=>
   rw[hc]at h;obtain⟨hc,h⟩:=Zaj h;obtain⟨r,hr,h⟩:=obS h;rw[Zdh.mp hc];exact PyProof.Rows.and_int (Zj9 (p:=.k r) (sI h▸q) (by rw[show(PX.k 7).ev σ=7 from rfl,PyProof.Rows.bitAnd_m3,←Int.fmod_eq_emod_of_nonneg _ (by exact(by decide)),Zob σ 8 _ _ hr];rfl))
 |Pow=>
  obtain⟨p,h1,h⟩:=Zk8 h;obtain⟨c,h2,h⟩:=Zgr h;obtain⟨n,hc,h⟩:=Yd4 h;obtain⟨hf,h⟩:=Zaj h;obtain⟨t,ha⟩:=ha.inv' h1;obtain⟨u,hb⟩:=hb.inv' h2;rw[ha,hb];have hm:(Builtin.Int.intBits (p.ev σ))*n<=60000*20:=Nat.mul_le_mul (Zid hσ (Zaa hf).1) (bLe (Zaa hf).2);rw[hc];exact PyProof.Rows.pow_int (Haa n) (Int.le_trans (Yev hm) (by decide)) (Zj9 (sI h▸q) (by rw[Zuw];rfl))
 |_=>exact nS h
set_option tactic.hygienic true in
theorem Zwa:(∀{v:Value} {d:D},Rd σ N h v d->∀e,Rd σ N h v e->gr d=true->gr e=true->d=e)/\∀{vs:List Value} {ds:List D},RdL σ N h vs ds->∀es,RdL σ N h vs es->grL ds=true->grL es=true->ds=es:=by
 have none:∀e,Rd σ N h .none e->gr e=true->D.none=e:=λe r g=>by
  cases e<;>first|rfl|exact bF g|exact kne (r.kind rfl) rfl
 have bool:∀b e,Rd σ N h (.bool b) e->gr e=true->D.bool b=e:=λb e r g=>by
  cases e<;>first|exact bF g|exact Hb6 _ (Zo0 r.inv)|exact kne (r.kind rfl) rfl
 have int:∀i t p e,p.ev σ=i->Rd σ N h (.int i t) e->gr (.int p)=true->gr e=true->D.int p=e:=λi t p e h1 r g1 g=>by
  cases e<;>first|exact bF g|exact kne (r.kind rfl) rfl|skip
  rename_i p';obtain⟨_,q⟩:=r.inv;have q:=h1.trans (Zt1 q);cases p<;>first|exact bF g1|(cases p'<;>first|exact bF g|exact Hb6 (λi=>D.int (.k i)) q)
 have str:∀x t s e,x.cps.toList=s->Rd σ N h (.str x t) e->gr e=true->D.str s=e:=λx t s e h1 r g=>by
  cases e<;>first|exact bF g|exact kne (r.kind rfl) rfl|skip
  obtain⟨_,_,q,q2⟩:=r.inv;exact Hb6 D.str (h1.symm.trans (Zvt q▸q2))
 have ref:∀a e,Rd σ N h (.ref a) e->gr e=true->(∃es vs n,e= .tup es/\h.get? a=some (Zcv (List.toArray vs) n)/\RdL σ N h vs es)\/∃es vs n,e= .lst es/\h.get? a=some (Za3 (List.toArray vs) n)/\RdL σ N h vs es:=λa e r g=>by
  cases e<;>first|exact bF g|exact kne (r.kind rfl) rfl|(obtain⟨_,vs,n,q,_,q2,q3⟩:=r.inv;first|exact .inl ⟨_,vs,n,rfl,Zca q▸q2,q3⟩|exact .inr ⟨_,vs,n,rfl,Zca q▸q2,q3⟩)
 have all:∀{vs:List Value} {ds:List D},RdL σ N h vs ds->∀es,RdL σ N h vs es->grL ds=true->grL es=true->ds=es:=
  λ{vs ds} r=>RdL.rec (motive_1:=λv d _=>∀e,Rd σ N h v e->gr d=true->gr e=true->d=e) (motive_2:=λvs ds _=>∀es,RdL σ N h vs es->grL ds=true->grL es=true->ds=es)
   (λ_ _ g=>bF g) (λ_ _ _ g=>bF g) (λe r _ g=>none e r g) (λb e r _ g=>bool b e r g) (λe1 e r g1 g=>int _ _ _ e e1 r g1 g) (λe1 e r _ g=>str _ _ _ e e1 r g)
   (λ_ g1 _ ih e r gd ge=>by
    rcases ref _ e r ge with⟨es,vs,n,he,g2,r2⟩|⟨es,vs,n,he,g2,r2⟩
    ·rw[he]at ge ⊢;exact Hb6 _ (ih es (Zv8 g1 g2▸r2) gd ge)
    ·exact Zv9 g1 g2)
   (λ_ g1 _ ih e r gd ge=>by
    rcases ref _ e r ge with⟨es,vs,n,he,g2,r2⟩|⟨es,vs,n,he,g2,r2⟩
    ·exact Zv9 g2 g1
    ·rw[he]at ge ⊢;exact Hb6 _ (ih es (Zua g1 g2▸r2) gd ge))
   (λ_ _ _ _ _ _ _ _ _ _ _ g=>bF g)
   (λes r _ _=>by cases es with|nil=>rfl|cons _ _=>obtain⟨_,_,q,_⟩:=r.inv;exact nomatch q)
   (λ{v d vs ds} _ _ ih1 ih2 es r g1 g2=>by
    cases es with
    |nil=>exact nomatch r.inv
    |cons e es=>
     obtain⟨v',vs',q,r1,r2⟩:=r.inv
     injection q with q1 q2
     rw[←q1]at r1;rw[←q2]at r2;rw[ih1 e r1 (Zaa g1).1 (Zaa g2).1,ih2 es r2 (Zaa g1).2 (Zaa g2).2]) r
 refine⟨λ{v d} r e r' g1 g2=>?_,all⟩
 have:=all (.cons r .nil) [e] (.cons r' .nil) (show(gr d&&true)=true by rw[g1];rfl) (show(gr e&&true)=true by rw[g2];rfl)
 injection this
theorem uniq{v:Value}{d e:D}(r:Rd σ N h v d)(r':Rd σ N h v e)(g1:gr d=true)(g2:gr e=true):d=e:=Zwa.1 r e r' g1 g2
theorem Ztu{ds:List D}{d:D}(h:grL ds=true)(hm:d∈ds):gr d=true:=by
 induction ds with
 |nil=>exact nomatch hm
 |cons b r ih=>
  rcases jC hm with q|hm
  ·rw[q];exact(Zaa h).1
  ·exact ih (Zaa h).2 hm
noncomputable def Ycc(σ:Sg)(N:Addr->Prop)(h:Heap)(a:D)(y:Value):Bool:=@decide (∃d,gr d=true/\Rd σ N h y d/\eqD d a=some true) (Classical.propDecidable _)
theorem Znv{a d:D}{y:Value}{r:Bool}(hg:gr d=true)(hy:Rd σ N s.heap y d)(e:eqD d a=some r):Ycc σ N s.heap a y=r:=by
 unfold Ycc;cases r with
 |true=>exact @decide_eq_true _ (Classical.propDecidable _) ⟨d,hg,hy,e⟩
 |false=>
  refine @decide_eq_false _ (Classical.propDecidable _) ?_
  rintro⟨d',hg',hy',e'⟩
  rw[uniq hy' hy hg' hg,e]at e';cases e'
theorem Zoz(hu:A.units+10<cLine):A.in1.units+9<cLine:=by show A.units+1+9<cLine;rw[Nat.add_assoc];exact hu
theorem Zt3{a:D}{x:Value}{vs:List Value}{ds:List D}(hu:A.units+10<cLine)(hd:grL ds=true)(rs:RdL σ N s.heap vs ds)(hx:Rd σ N s.heap x a)(hk:∀d∈ds,∃r,eqD d a=some r):
  ∀y,y∈vs.toArray->EqAt A.in1 s y x (Ycc σ N s.heap a y):=by
 intro y hy;obtain⟨j,hj⟩:=List.getElem?_of_mem (show y∈vs by simpa using hy)
 obtain⟨d,hd1,hr⟩:=rs.getV hj;have hm:=Has hd1;obtain⟨r,hr2⟩:=hk d hm;rw[Znv (Ztu hd hm) hr hr2];exact(Zxj 9 (Zoz hu) hr2 hr hx).eq
theorem Zpo{a:D}{ds:List D}:∀{r:Bool},inL a ds=some r->∀d∈ds,∃r,eqD d a=some r:=by
 induction ds with
 |nil=>exact λ_ _ hd=>nomatch hd
 |cons b ds ih=>
  intro r h d hd;obtain⟨x,e,h⟩:=obS h;obtain⟨y,e2,h⟩:=obS h;rcases jC hd with q|hd
  ·exact⟨_,q▸e⟩
  ·exact ih e2 d hd
theorem Yb9{a:D}{vs:List Value}{ds:List D}(rs:RdL σ N s.heap vs ds):∀{r:Bool},grL ds=true->inL a ds=some r->vs.any (Ycc σ N s.heap a)=r:=
 rs.ind (P:=λvs ds=>∀{r:Bool},grL ds=true->inL a ds=some r->vs.any (Ycc σ N s.heap a)=r) (λ_ h=>sI h) λv d vs ds x _ ih r hg h=>by
  obtain⟨x',e,h⟩:=obS h;obtain⟨y,e2,h⟩:=obS h;rw[List.any_cons,Znv (Zaa hg).1 x e,ih (Zaa hg).2 e2];exact sI h
theorem Zrl{ds:List D}(h:Ycx ds=true):∀d∈ds,eqD d .none=some false:=by
 induction ds with
 |nil=>exact λ_ hd=>nomatch hd
 |cons b r ih=>
  intro d hd;rcases jC hd with q|hd
  ·rw[q];have h:=(Zaa h).1;cases b<;>first|rfl|exact bF h
  ·exact ih (Zaa h).2 d hd
theorem Yf2{a:D}{x:Value}{l:Addr}{ds:List D}{r:Bool}(hu:A.units+10<cLine)(hx:Rd σ N s.heap x a)(hl:Rd σ N s.heap (.ref l) (.lst ds))(h:inD a ds=some r):
  ∃(e:Value->Bool) (items:Array Value),s.heap.IsList l items/\(∀y,y∈items->EqAt A.in1 s y x (e y))/\items.any e=r:=by
 obtain⟨vs,h1,rs⟩:=hl.isList;unfold inD at h;cases hg:grL ds with
 |true=>
  rw[hg]at h;exact⟨_,_,h1,Zt3 hu hg rs hx (Zpo h),(List.any_toArray ..).trans (Yb9 rs hg h)⟩
 |false=>
  rw[hg]at h;cases a with
  |none=>
   obtain⟨hg,h⟩:=Zaj h;refine⟨λ_=>false,_,h1,λy hy=>?_,by rw[←sI h,List.any_toArray];exact List.any_eq_false.mpr λ_ _=>Hca⟩
   obtain⟨j,hj⟩:=List.getElem?_of_mem (List.mem_toArray.mp hy);obtain⟨d,hd1,hr⟩:=rs.getV hj;exact(Zxj 9 (Zoz hu) (Zrl hg _ (Has hd1)) hr hx).eq
  |_=>exact nS h
theorem Zkv{c:Nat}:∀{l:List Nat},Zwi c l=true↔∃i:Nat,l[i]?=some c
 |[]=>⟨λh=>bF h,λ⟨_,h⟩=>nS h⟩
 |x::r=>by
  rw[show Zwi c (x::r)=(Nat.beq x c||Zwi c r)from rfl,Hb9,Zkv]
  constructor
  ·rintro(h|⟨i,h⟩)
   ·exact⟨0,by rw[Hb4 h];rfl⟩
   ·exact⟨i+1,by simpa using h⟩
  ·rintro⟨i,h⟩
   cases i with
   |zero=>
    have h:some x=some c:=h;cases h;exact .inl (Hcm _)
   |succ i=>exact .inr ⟨i,by simpa using h⟩
theorem Zl1{x y:Str}{c:Nat}{s:List Nat}(hy:y.cps.toList=[c])(hx:x.cps.toList=s):Txt.contains x y=Zwi c s:=by
 have e:y=⟨#[c]⟩:=by
  cases y with|mk a=>
  congr 1
  exact Array.toList_inj.mp hy
 subst e;unfold Txt.contains;rcases StrLaws.occ_head x ⟨#[c]⟩ 1 (by decide)with⟨g1,g2⟩|⟨i,r,g1,g2,g3⟩
 ·rw[g1];cases h:Zwi c s with
  |false=>rfl
  |true=>
   obtain⟨i,hi⟩:=Zkv.mp h;rw[←hx]at hi;have:=(StrLaws.subAt_one x c i).mpr hi;exact absurd ⟨this.1,this.2⟩ (g2 i)
 ·rw[g1];have hi:=(StrLaws.subAt_one x c i).mp ⟨g2.1,g2.2⟩;rw[hx]at hi;rw[Zkv.mpr ⟨i,hi⟩];rfl
noncomputable def optV:Option Bool->Value
 |none=>.none
 |some b=>.bool b
theorem Zkz{a:Value}{x:D}{c:Option Bool}(ha:Rd σ N s.heap a x)(e:isC x=some c):a=optV c:=by
 have hr:=ha.inv;cases x<;>first|exact nS e|(rw[←sI e];exact hr)
theorem Zpp{a:Value}{x:D}(ha:Rd σ N s.heap a x)(e:isC x=none)(hu:(!isU x)=true):2<=vk a/\vk a<=4:=by
 rw[ha.kind (by rw[Hcb]at hu;exact hu)]
 cases x<;>first|exact nS e.symm|exact bF hu|exact⟨bLe rfl,bLe rfl⟩
theorem Zqh{a:Value}(h:2<=vk a/\vk a<=4):(∃i t,a= .int i t)\/(∃x t,a= .str x t)\/∃l,a= .ref l:=by
 cases a<;>first|exact .inl ⟨_,_,rfl⟩|exact .inr (.inl ⟨_,_,rfl⟩)|exact .inr (.inr ⟨_,rfl⟩)|exact absurd h.1 (Hat (bLe rfl))|exact absurd h.2 (Hat (bLe rfl))
set_option tactic.hygienic true in
theorem Zpq{x y:D}{a b:Value}{r:Bool}(h:isD x y=some r)(ha:Rd σ N s.heap a x)(hb:Rd σ N s.heap b y):plainIs a b=true/\(a==b)=r:=by
 unfold isD at h;cases hx:isC x with
 |some c=>
  rw[hx]at h;rw[Zkz ha hx];cases hy:isC y with
  |some c'=>
   rw[hy]at h;rw[Zkz hb hy,←sI h];cases c<;>cases c'<;>first|exact⟨rfl,rfl⟩|(rename_i p q;cases p<;>cases q<;>exact⟨rfl,rfl⟩)|(rename_i p;cases p<;>exact⟨rfl,rfl⟩)
  |none=>
   rw[hy]at h;obtain⟨hu,h⟩:=Zaj h;rw[←sI h];rcases Zqh (Zpp hb hy hu)with⟨_,_,e⟩|⟨_,_,e⟩|⟨_,e⟩<;>(rw[e];cases c<;>exact⟨rfl,rfl⟩)
 |none=>
  rw[hx]at h;obtain⟨c,hy,h⟩:=obS h;obtain⟨hu,h⟩:=Zaj h;rw[Zkz hb hy,←sI h];rcases Zqh (Zpp ha hx hu)with⟨_,_,e⟩|⟨_,_,e⟩|⟨_,e⟩<;>(rw[e];cases c<;>exact⟨rfl,rfl⟩)
theorem Zw2{f:Int->Int->Bool}{x y:D}{a b:Value}{r:Bool}(h:Ye8 f x y=some r)(ha:Rd σ N s.heap a x)(hb:Rd σ N s.heap b y):∃i t j u,a= .int i t/\b= .int j u/\f i j=r:=by
 obtain⟨i,h1,h⟩:=Zgr h;obtain⟨j,h2,h⟩:=Zgr h;obtain⟨t,ha⟩:=ha.inv' h1;obtain⟨u,hb⟩:=hb.inv' h2;exact⟨i,t,j,u,ha,hb,sI h⟩
theorem Zzv{i j:Int}:decide (i<j)=ilt i j:=by rw[Bool.eq_iff_iff,decide_eq_true_iff,Zkx]
theorem Zzu{i j:Int}:decide (i<=j)= !ilt j i:=by rw[Bool.eq_iff_iff,decide_eq_true_iff,Hcb,←Bool.not_eq_true,Zkx,Int.not_lt]
theorem Zzw{a b:Value}{x y:D}{r:Bool}(hu:A.units+10<cLine)(h:Yj0 x y=some r)(ha:Rd σ N s.heap a x)(hb:Rd σ N s.heap b y):
  (Q (.bool r) s->wpAny (model prog w) A (compareOp .In a b) Q E s)/\(Q (.bool (!r)) s->wpAny (model prog w) A (compareOp .NotIn a b) Q E s):=by
 have hbi:=hb.inv;cases y with
 |lst ds=>
  obtain⟨l,_,_,hl,_⟩:=hbi;rw[hl]at hb ⊢;obtain⟨e,items,h1,h2,h3⟩:=Yf2 hu ha hb h;exact⟨λq=>in_listAt e h1 h2 (by rw[h3];exact q),λq=>notIn_listAt e h1 h2 (by rw[h3];exact q)⟩
 |str s=>
  obtain⟨c,hd,h⟩:=Zgb h;obtain⟨_,_,ha,e1⟩:=ha.inv' hd;obtain⟨_,_,hb,e2⟩:=hbi;cases c with
  |nil=>exact nS h
  |cons c l=>cases l with
   |nil=>
    have e:=Zl1 e1 e2;rw[ha,hb,←sI h];exact⟨λq=>PySem.SB.contains (by rw[e];exact q),λq=>PySem.SB.notContains (by rw[e];exact q)⟩
   |cons _ _=>exact nS h
 |_=>exact nS h
theorem Zso{o:CmpOp}{a b:Value}{x y:D}{r:Bool}(hu:A.units+10<cLine)(h:Yhs o x y=some r)(ha:Rd σ N s.heap a x)(hb:Rd σ N s.heap b y)
  (q:Q (.bool r) s):wpAny (model prog w) A (compareOp o a b) Q E s:=by
 have hu9:A.units+9<cLine:=Nat.lt_of_succ_lt hu;cases o with
 |Lt=>
  obtain⟨i,t,j,u,e1,e2,e⟩:=Zw2 h ha hb;rw[←e]at q;rw[e1,e2];exact PySem.P.lt_int (by rw[Zzv];exact q)
 |LtE=>
  obtain⟨i,t,j,u,e1,e2,e⟩:=Zw2 h ha hb;rw[←e]at q;rw[e1,e2];exact PySem.P.le_int (by rw[Zzu];exact q)
 |Gt=>
  obtain⟨i,t,j,u,e1,e2,e⟩:=Zw2 h ha hb;rw[←e]at q;rw[e1,e2];exact PySem.P.gt_int (by rw[show decide (i>j)=_ from Zzv];exact q)
 |GtE=>
  obtain⟨i,t,j,u,e1,e2,e⟩:=Zw2 h ha hb;rw[←e]at q;rw[e1,e2];exact PySem.P.ge_int (by rw[show decide (i≥j)=_ from Zzu];exact q)
 |Eq=>exact(Zxj 9 hu9 h ha hb).rc prog w E Q q
 |NotEq=>
  obtain⟨r',e,h⟩:=Ziq h;exact(Zxj 9 hu9 e ha hb).ne prog w E Q (h▸q)
 |Is=>
  obtain⟨h1,h2⟩:=Zpq h ha hb;exact wpAny_is_plain h1 (by rw[h2];exact q)
 |IsNot=>
  obtain⟨r',e,h⟩:=Ziq h;obtain⟨h1,h2⟩:=Zpq e ha hb;exact wpAny_isNot_plain h1 (by rw[h2];exact h▸q)
 |In=>exact(Zzw hu h ha hb).1 q
 |NotIn=>
  obtain⟨r',e,h⟩:=Ziq h;exact(Zzw hu e ha hb).2 (h▸q)
theorem Znc{n:Nat}(h:n<=1000000):(n:Int)<2^63:=(li [] [_] (.a (.u (.v 0)) (.k 1)) (.k (2^63)) [(1,.u (.v 0),.u (.k 1000000))] rfl (jO h))
theorem Yct{α:Type}(l:List α):((l.length:Int) != 0)=ne0 l:=by
 cases l with
 |nil=>rfl
 |cons a r=>exact bne_iff_ne.mpr (Haq (Int.natCast_pos.mpr (Nat.succ_pos _)))
theorem Zll{a:Value}{x:D}{r:Bool}{Q:Bool->Shared->Prop}(h:Zeu x=some r)(ha:Rd σ N s.heap a x)(q:∀tk,Q r {s with toks:=tk}):wpAny (model prog w) A (truthy a) Q E s:=by
 have q0:Q r s:=q s.toks;have ha:=ha.inv;cases x with
 |none=>rw[show a=_ from ha];exact Hau (sI h▸q0)
 |bool b=>rw[show a=_ from ha];exact Hav (sI h▸q0)
 |int p=>
  obtain⟨i,hp,h⟩:=Yh1 h;obtain⟨t,ha⟩:=ha;have:(p.ev σ != (0:Int))=r:=by
   rw[hp,←sI h,Bool.eq_iff_iff,bne_iff_ne,Hcb,←Bool.not_eq_true,Zdh];rfl
  rw[ha];exact PySem.P.truthy_int (by rw[this];exact q0)
 |str l=>
  obtain⟨hs,h⟩:=Zaj h;obtain⟨x,t,ha,e⟩:=ha;rw[ha];exact PySem.P.truthy_str (by rw[Zm6 e];exact Int.not_le.mpr (Znc (Zay hs))) (by rw[Zm6 e,Yct,sI h];exact q _)
 |lst l=>
  obtain⟨hs,h⟩:=Zaj h;obtain⟨_,vs,n,ha,_,g,rs⟩:=ha;rw[ha];refine wpAny_truthy_list ⟨_,g,rfl,_,rfl⟩ (by rw[Hb8,rs.length];exact Znc (Zay hs)) ?_
  rw[←sI h]at q;have hl:=rs.length;cases l<;>cases vs<;>first|exact q _|exact nomatch hl
 |_=>exact nS h
theorem Zlk{k:Int}{n m:Nat}(h:toI k n=some m):n<=1000000/\m<n/\((0<=k/\m=k.toNat/\k<n)\/(k<0/\-(n:Int)<=k/\m=(k+n).toNat)):=by
 cases k with
 |ofNat a=>
  obtain⟨hc,h⟩:=Zaj h;have h1:a<n:=bLe (Zaa hc).1;exact⟨bLe (Zaa hc).2,sI h▸h1,.inl ⟨Haa _,(sI h).symm,Int.ofNat_lt.mpr h1⟩⟩
 |negSucc a=>
  obtain⟨hc,h⟩:=Zaj h;have h1:a<n:=bLe (Zaa hc).1;have h:=sI h;exact⟨bLe (Zaa hc).2,(ln4 (.a (.v 3) (.k 1)) (.v 1) [(1,.v 3,.v 2),(1,.a (.v 2) (.a (.v 0) (.k 1)),.v 1)] rfl (Han h.symm) (Han (Hb3 h1))),.inr ⟨Int.negSucc_lt_zero a,Int.neg_le_neg (jO h1),h.symm.trans (Hb6 Int.toNat (Int.subNatNat_of_le h1)).symm⟩⟩
theorem Zva{k:Int}{n m:Nat}(h:toI k n=some m):seqIndex? k n=some m:=by
 obtain⟨_,_,⟨p1,p2,p3⟩|⟨p1,p2,p3⟩⟩:=Zlk h
 ·rw[p2];exact StrLaws.seqIndex_nonneg p1 p3
 ·rw[p3];exact StrLaws.seqIndex_neg p1 p2
theorem Zlj{k:Int}{n m:Nat}(h:toI k n=some m): -(2^63)<=k/\k<2^63:=by
 obtain⟨h1,_,⟨p1,_,p3⟩|⟨p1,p2,_⟩⟩:=Zlk h
 ·exact⟨Int.le_trans (by decide) p1,Int.lt_trans p3 (Znc h1)⟩
 ·exact⟨Int.le_trans (Int.neg_le_neg (Int.le_of_lt (Znc h1))) p2,Int.lt_trans p1 (by decide)⟩
theorem Yf1{a i:Value}{x y z:D}(h:Yf0 x y=some z)(ha:Rd σ N s.heap a x)(hi:Rd σ N s.heap i y)(q:Zd9 T σ N s z Q):wpAny (model prog w) A (getItem a i) Q E s:=by
 obtain⟨k,hk,h⟩:=Zgr h;obtain⟨u,hi⟩:=hi.inv' hk;rw[hi];have ha:=ha.inv;cases x with
 |lst ds=>
  obtain⟨m,hm,h⟩:=obS h;obtain⟨_,vs,n1,ha,_,g,rs⟩:=ha;rw[Zig]at h;obtain⟨v,hv,hr⟩:=rs.get h;have hf:=Zlj hm;obtain⟨h1,h2,h3⟩:=Zlk hm;rw[ha];rcases h3 with⟨p1,p2,p3⟩|⟨p1,p2,p3⟩
  ·exact wpAny_getItem_list (x:=v) ⟨_,g,rfl,_,rfl⟩ p1 hf.2 ((Hc6 ..).trans (p2▸hv)) (q _ _ .refl hr)
  ·exact wpAny_getItem_list_neg (x:=v) ⟨_,g,rfl,_,rfl⟩ p1 (by rw[Hb8,rs.length];exact p2) hf.1 (by rw[Hb8,rs.length];exact(Hc6 ..).trans (p3▸hv)) (q _ _ .refl hr)
 |tup ds=>
  obtain⟨m,hm,h⟩:=obS h;obtain⟨_,vs,n1,ha,_,g,rs⟩:=ha;rw[Zig]at h;obtain⟨v,hv,hr⟩:=rs.get h;have hf:=Zlj hm;rw[ha];exact PySem.P.getItem_tuple g hf.1 hf.2 (k:=m) (by rw[Hb8,rs.length];exact Zva hm) ((Hc6 ..).trans hv) (q _ _ .refl hr)
 |str cs=>
  obtain⟨m,hm,h⟩:=obS h;obtain⟨c,hc,h⟩:=obS h;obtain⟨x,t,ha,e1⟩:=ha;rw[Zig]at hc;have hf:=Zlj hm;have hat:Txt.charAt x k=some c:=by
   unfold Txt.charAt;rw[Zm6 e1,Zva hm];rw[←e1]at hc;exact Array.getElem?_toList.symm.trans hc
  rw[ha];refine PySem.SB.getItem ?_ (show(Txt.charAt x k).isSome=true by rw[hat];rfl) (q _ _ .toks (sI h▸.str ?_))
  ·unfold fitsSsize;rw[Hcb,Bool.or_eq_false_iff,Hck,Hck];exact⟨Int.not_lt.mpr hf.1,Int.not_le.mpr hf.2⟩
  ·show(Txt.item x k).cps.toList=_;unfold Txt.item;rw[hat];rfl
 |_=>exact nS h
theorem Zyq{p:List Nat}:∀{l r:List Nat},pre p l=some r->l=p++r:=by
 induction p with
 |nil=>exact λh=>sI h
 |cons a p ih=>
  intro l r h;cases l with
  |nil=>exact nS h
  |cons b l=>
   obtain⟨e,h⟩:=Zaj h;rw[Hb4 e,ih h];rfl
theorem Yg0{p:List Nat}(r:List Nat):pre p (p++r)=some r:=by
 induction p with
 |nil=>rfl
 |cons a p ih=>
  show Zas (Nat.beq a a) (pre p (p++r))=some r;rw[Hcm,ih];rfl
theorem Zgy(sep:List Nat)(f:Nat)(acc:List Nat):Zfa sep f [] acc=[acc.reverse]:=by cases f<;>rfl
theorem Zi1(sep:List Nat)(f c:Nat)(s acc:List Nat):Zfa sep (f+1) (c::s) acc=match pre sep (c::s)with
 |some r=>acc.reverse::Zfa sep f r []
 |none=>Zfa sep f s (c::acc):=rfl
theorem Zhx{l:List Nat}{free k m:Nat}(hl:l.length=m)(h:m<=k):(l.drop free).take (k-free)=l.drop free:=
 Hc2 (by rw[List.length_drop,hl];exact Nat.sub_le_sub_right h _)
open StrLaws Builtin Builtin.Str in
theorem Zvp(x sub:Str)(hw:1<=sub.length)(n:Nat):∀(i:Nat),i+n=x.length+1->∀(arr:Array Nat) (free fuel:Nat),free<=x.length->arr.size<=i->n<=fuel->
  ∃cuts,(forIn (List.range' i n) (arr,free) (occBody x sub x.length (x.length+1))).run.fst.toList=arr.toList++cuts∧
   (partsFrom x sub.length free cuts).map (·.cps.toList)=Zfa sub.cps.toList fuel (x.cps.toList.drop (max i free)) (((x.cps.toList.drop free).take (max i free-free)).reverse):=by
 have hx:x.cps.toList.length=x.length:=rfl;have hsl:sub.cps.toList.length=sub.length:=rfl
 induction n with
 |zero=>
  intro i hi arr free fuel hf _ _;have hi:i=x.length+1:=hi;have hl:x.length<=i:=hi▸Haw _;refine⟨[],(Hcw _).symm,?_⟩
  rw[Nat.max_eq_left (Hag hf hl),Hc3 (show x.cps.toList.length<=i from hl),Zgy,List.reverse_reverse,Zhx hx hl];show[(strSub x free x.length).cps.toList]=_;rw[strSub_toList,Zhx hx (Hac _)]
 |succ n ih=>
  intro i hi arr free fuel hf ha hfu;have hi':i+1+n=x.length+1:=(Nat.succ_add_eq_add_succ i n).trans hi;have hil0:i<=x.length:=Nat.le_of_succ_le_succ (Hag (Hal (i+1) n) (Han hi'));have has:arr.size<=i+1:=Nat.le_succ_of_le ha;rw[List.range'_succ,List.forIn_cons];unfold occBody;cases fuel with
  |zero=>exact absurd hfu (Nat.not_succ_le_zero _)
  |succ fuel=>
  have hfu':n<=fuel:=Nat.le_of_succ_le_succ hfu;by_cases hfi:free<=i
  ·rw[Nat.max_eq_left hfi];by_cases hc:i+sub.length<=x.length/\subAt x sub i=true
   ·rw[if_pos ⟨⟨⟨(show arr.size<x.length+1 from Nat.lt_succ_of_le (Hag ha hil0)),hfi⟩,hc.1⟩,hc.2⟩];obtain⟨cuts,h1,h2⟩:=ih (i+1) hi' (arr.push i) (i+sub.length) fuel hc.1 (by rw[Array.size_push];exact Hax ha) hfu'
    refine⟨i::cuts,?_,?_⟩
    ·refine Eq.trans h1 ?_
     rw[Array.toList_push,Hcz];rfl
    ·rw[Nat.max_eq_right (Hay hw i),Nat.sub_self]at h2;show(strSub x free i).cps.toList::(partsFrom x sub.length (i+sub.length) cuts).map (·.cps.toList)=_;rw[h2,strSub_toList];have hs:=hc.2;rw[subAt_eq,beq_iff_eq]at hs;have hp:pre sub.cps.toList (x.cps.toList.drop i)=some (x.cps.toList.drop (i+sub.length)):=by
      have e:x.cps.toList.drop i=sub.cps.toList++x.cps.toList.drop (i+sub.length):=by
       rw[←hs,←List.drop_drop,List.take_append_drop]
      rw[e];exact Yg0 _
     obtain⟨c,r,hcr⟩:=List.exists_cons_of_length_pos (l:=x.cps.toList.drop i) (by rw[List.length_drop,hx];exact Nat.sub_pos_of_lt (Har (Nat.lt_add_of_pos_right hw) hc.1))
     rw[hcr]at hp ⊢;rw[Zi1,hp,List.take_zero,List.reverse_nil,List.reverse_reverse]
   ·rw[if_neg (λh=>hc ⟨h.1.2,h.2⟩)]
    obtain⟨cuts,h1,h2⟩:=ih (i+1) hi' arr free fuel hf has hfu';refine⟨cuts,h1,?_⟩
    rw[Nat.max_eq_left (Nat.le_succ_of_le hfi)]at h2;rw[h2];by_cases hil:i<x.length
    ·have hd:x.cps.toList.drop i=x.cps.toList[i]::x.cps.toList.drop (i+1):=Hcv hil;have hp:pre sub.cps.toList (x.cps.toList.drop i)=none:=by
      cases q:pre sub.cps.toList (x.cps.toList.drop i)with
      |none=>rfl
      |some r=>
       have e:=Zyq q;refine absurd ⟨?_,?_⟩ hc
       ·have:=Hb6 List.length e;rw[List.length_drop,Hct,hx,hsl]at this;rw[Nat.add_comm];exact Nat.add_le_of_le_sub hil0 (this▸Hal _ _)
       ·rw[subAt_eq,e,beq_iff_eq,List.take_append_of_le_length (Han hsl.symm),Hc2 (Han hsl)]
     rw[hd]at hp ⊢;rw[Zi1,hp,Nat.succ_sub hfi,List.take_add_one,List.getElem?_drop,Nat.add_sub_cancel' hfi,Hcc (show i<x.cps.toList.length from hil),List.reverse_append]
     rfl
    ·have hl:x.length<=i:=Hah hil;rw[Hc3 (show x.cps.toList.length<=i+1 from Nat.le_succ_of_le hl),Hc3 (show x.cps.toList.length<=i from hl),Zgy,Zgy,Zhx hx (Nat.le_succ_of_le hl),Zhx hx hl]
  ·rw[if_neg (λh=>hfi h.1.1.2)]
   obtain⟨cuts,h1,h2⟩:=ih (i+1) hi' arr free (fuel+1) hf has (Nat.le_succ_of_le hfu');refine⟨cuts,h1,?_⟩
   have hlt:=Nat.lt_of_not_le hfi;rw[h2,Nat.max_eq_right hlt,Nat.max_eq_right (Haz hlt)]
theorem Zx3{y:Str}(ha:Zc4 y.cps.toList=true):Builtin.Str.strKind y=1:=by
 unfold Builtin.Str.strKind;rw[if_pos];rw[Array.all_eq_true'];intro c hc;exact decide_eq_true (Har (bLe (bAll ha c (Array.mem_toList_iff.mpr hc))) (by decide))
theorem Zx4(x:Str):¬Builtin.Str.strKind x<1:=by
 unfold Builtin.Str.strKind;split
 ·decide
 ·split<;>decide
open StrLaws Builtin.Str in
theorem Zvq(x y:Str)(hy:1<=y.length)(ha:Zc4 y.cps.toList=true):(Txt.split x y).map (·.cps.toList)=Zfa y.cps.toList (x.length+1) x.cps.toList []:=by
 have main:(partsBetween x (occurrences x y 0 x.length (x.length+1)) y.length).map (·.cps.toList)=Zfa y.cps.toList (x.length+1) x.cps.toList []:=by
  obtain⟨cuts,h1,h2⟩:=Zvp x y hy (x.length+1) 0 (Nat.zero_add _) #[] 0 (x.length+1) (Hap _) (Hac _) (Hac _);rw[occ_eq,partsBetween_eq,Nat.sub_zero,h1];exact h2
 have one:occurrences x y 0 x.length (x.length+1)=[]->[x]=partsBetween x (occurrences x y 0 x.length (x.length+1)) y.length:=by
  intro e;rw[e,partsBetween_eq];show[x]=[strSub x 0 x.length];rw[sub_whole]
 unfold Txt.split;split
 ·rename_i h;have hl:x.length<y.length:=by
   rcases(Hb9 _ _).mp h with h|h
   ·exact Hcy h
   ·exact absurd (Hcy h) (Zx3 ha▸Zx4 x)
  rw[one ?_,main];rcases occ_head x y (x.length+1) (Nat.succ_pos _)with⟨h,_⟩|⟨i,r,_,h,_⟩
  ·exact h
  ·exact absurd (Hag (Nat.le_add_left _ _) h.1) (Hat hl)
 ·split
  ·rename_i h;rw[one (jE h),main]
  ·exact main
theorem Zk0(sep:Str):∀(l:List Str),(Txt.join sep l).cps.toList=Zem sep.cps.toList (l.map (·.cps.toList)):=by
 intro l;unfold Txt.join;rw[StrLaws.glued_eq_join]
 induction l with
 |nil=>rfl
 |cons a r ih=>
  cases r with
  |nil=>rfl
  |cons b r=>
   show(a++sep++Str.join sep (b::r)).cps.toList=_;rw[Zge,Zge,ih];show _=a.cps.toList++(sep.cps.toList++_);rw[Hcz]
   rfl
theorem Zkd{s:List Nat}(h:Zc4 s=true):∀c∈s,c<128:=λc hc=>bLe (bAll h c hc)
theorem Zsb{a b c:Nat}{α:Type}{x y:α}:(if Nat.ble a c&&Nat.ble c b then x else y)=if a<=c/\c<=b then x else y:=by
 refine ite_congr (propext ⟨λh=>⟨bLe (Zaa h).1,bLe (Zaa h).2⟩,λh=>(Hcd _ _).mpr ⟨Ha0 h.1,Ha0 h.2⟩⟩) (λ_=>rfl) λ_=>rfl
theorem Yhm(c:Nat):upC c=up1 c:=Zsb
theorem Yge(c:Nat):loC c=lo1 c:=Zsb
theorem Zxf:∀d,d<10->d+48=(Nat.digitChar d).toNat:=by decide
theorem Znj{n:Nat}(hn:n<10):[n+48]=(Nat.toDigits 10 n).map Char.toNat:=by rw[Nat.toDigits_of_lt_base hn,Zxf n hn];rfl
theorem digS{n f:Nat}(h:Nat.blt n 10=true):Zft n (f+1)=[n+48]:=biT h
theorem digL{n f:Nat}(h:Nat.blt n 10=false):Zft n (f+1)=Zft (n/10) f++[n%10+48]:=biF h
theorem Zl6(f:Nat):∀n:Nat,n<10^(f+1)->Zft n (f+1)=(Nat.toDigits 10 n).map Char.toNat:=by
 induction f with
 |zero=>
  intro n h;exact(digS (Ha0 h)).trans (Znj h)
 |succ f ih=>
  intro n h;by_cases hn:n<10
  ·exact(digS (Ha0 hn)).trans (Znj hn)
  ·have hm:n%10<10:=Nat.mod_lt n (by decide)
   have t:Nat.toDigits 10 (n/10)++Nat.toDigits 10 (n%10)=Nat.toDigits 10 (10*(n/10)+n%10):=Nat.toDigits_append_toDigits (by decide) (Nat.div_pos (Hah hn) (by decide)) hm
   rw[Nat.div_add_mod]at t;rw[digL (Bool.not_eq_true _▸λq=>hn (bLe q)),←t,List.map_append,ih (n/10) (Nat.div_lt_of_lt_mul (by rw[Hco];exact h)),Znj hm]
theorem Ydo(i:Int)(h:i.natAbs<10000000000):(Str.ofString (toString i)).cps.toList=strD i:=by
 rw[signs_ofString];cases i with
 |ofNat n=>
  show(Nat.repr n).toList.map Char.toNat=Zft n 30;rw[Nat.toList_repr,Zl6 29 n (Har h (by decide))]
 |negSucc n=>
  show("-"++Nat.repr (n+1)).toList.map Char.toNat=45::Zft (n+1) 30;rw[String.toList_append,List.map_append,Nat.toList_repr,Zl6 29 (n+1) (Har h (by decide))]
  rfl
theorem Zq9(c:Nat)(s:List Nat):∀(i n:Nat),Zxr c s i=some n->∃m,n=i+m/\s[m]?=some c/\∀k,k<m->s[k]?≠some c:=by
 induction s with
 |nil=>exact λ_ _ h=>nS h
 |cons x r ih=>
  intro i n h;have h:bI (Nat.beq x c) (some i) (Zxr c r (i+1))=some n:=h;cases e:Nat.beq x c with
  |true=>
   rw[e]at h;exact⟨0,(sI h).symm,by rw[Hb4 e];rfl,λk hk=>absurd hk (Nat.not_lt_zero _)⟩
  |false=>
   rw[e]at h;obtain⟨m,h1,h2,h3⟩:=ih (i+1) n h;refine⟨m+1,h1.trans (Nat.succ_add_eq_add_succ i m),h2,λk hk=>?_⟩
   cases k with
   |zero=>exact λq=>bF (e.symm.trans (Hcu q▸Hcm _))
   |succ k=>exact h3 k (Nat.lt_of_succ_lt_succ hk)
theorem Zuc:∀(a b:List Nat),ltN a b=true↔a<b
 |[],[]=>⟨λh=>bF h,λh=>nomatch h⟩
 |[],b::t=>⟨λ_=>List.nil_lt_cons b t,λ_=>rfl⟩
 |_::_,[]=>⟨λh=>bF h,λh=>nomatch h⟩
 |a::r,b::t=>by
  rw[List.cons_lt_cons_iff,←Zuc r t];rw[show ltN (a::r) (b::t)=(Nat.blt a b||(Nat.beq a b&&ltN r t))from rfl,Hb9,Hcd,Nat.beq_eq]
  constructor
  ·rintro(h|h)
   ·exact .inl (bLe h)
   ·exact .inr h
  ·rintro(h|h)
   ·exact .inl (Ha0 h)
   ·exact .inr h
theorem Ycn{a b:List Nat}:ltN a b=false↔b<=a:=by
 rw[←Bool.not_eq_true,Zuc];exact List.not_lt
theorem Zzt{a b:List Nat}{r:List (List Nat)}:Yd3 a (b::r)=bI (ltN b a) (b::Yd3 a r) (a::b::r):=rfl
theorem Zii(a:List Nat):∀l,(Yd3 a l).Perm (a::l)
 |[]=>.refl _
 |b::r=>by
  rw[Zzt];cases ltN b a with
  |true=>exact(List.Perm.cons b (Zii a r)).trans (List.Perm.swap a b r)
  |false=>exact .refl _
theorem Zj5:∀l,(Zlg l).Perm l
 |[]=>.refl _
 |a::r=>(Zii a (Zlg r)).trans (.cons a (Zj5 r))
theorem Zt0(a:List Nat):∀l:List (List Nat),l.Pairwise (·<=·)->(Yd3 a l).Pairwise (·<=·)
 |[],_=>List.pairwise_singleton _ a
 |b::r,h=>by
  obtain⟨h1,h2⟩:=List.pairwise_cons.mp h;rw[Zzt];cases q:ltN b a with
  |true=>
   have hlt:=(Zuc b a).mp q;refine List.pairwise_cons.mpr ⟨λc hc=>?_,Zt0 a r h2⟩
   rcases jC ((Zii a r).mem_iff.mp hc)with rfl|hc
   ·exact List.le_of_lt hlt
   ·exact h1 c hc
  |false=>
   have hle:=Ycn.mp q;refine List.pairwise_cons.mpr ⟨λc hc=>?_,h⟩
   rcases jC hc with rfl|hc
   ·exact hle
   ·exact List.le_trans hle (h1 c hc)
theorem Zqa:∀l:List (List Nat),(Zlg l).Pairwise (·<=·)
 |[]=>.nil
 |a::r=>Zt0 a _ (Zqa r)
theorem Zj1:∀(r:List Str) (p:Str),risingS p r=true->(p::r).Pairwise λa b=>a.cps.toList<=b.cps.toList
 |[],p,_=>by simp
 |x::r,p,h=>by
  unfold risingS at h;have h:=Zaa h;have ih:=Zj1 r x h.2;have h1:p.cps.toList<=x.cps.toList:=by
   have:=h.1;rw[ltCps_eq]at this;exact List.not_lt.mp (by simpa using this)
  refine List.pairwise_cons.mpr ⟨λc hc=>?_,ih⟩
  rcases jC hc with rfl|hc
  ·exact h1
  ·exact List.le_trans h1 ((List.pairwise_cons.mp ih).1 c hc)
theorem Zmz{ss ss':List Str}(p:ss'.Perm ss)(h:sortedS ss'=true):ss'.map (·.cps.toList)=Zlg (ss.map (·.cps.toList)):=by
 have pw:ss'.Pairwise λa b=>a.cps.toList<=b.cps.toList:=by
  cases ss' with
  |nil=>exact .nil
  |cons x r=>exact Zj1 r x h
 refine List.Perm.eq_of_pairwise (le:=λa b=>a<=b) (λa b _ _ h1 h2=>List.le_antisymm h1 h2) (List.pairwise_map.mpr pw) (Zqa _) ((p.map _).trans (Zj5 _).symm)
noncomputable def Zeg:Nat->Str
 |0=>"len"
 |1=>"sum"
 |2=>"str"
 |3=>"int"
 |4=>"chr"
 |5=>"range"
 |6=>"zip"
 |7=>"sorted"
 |8=>"divmod"
 |9=>"reversed"
 |_=>"?"
noncomputable def Zqu:Nat->Value
 |0=>.builtin "len"
 |1=>.builtin "sum"
 |2=>.type "str"
 |3=>.type "int"
 |4=>.builtin "chr"
 |5=>.type "range"
 |6=>.type "zip"
 |7=>.builtin "sorted"
 |8=>.builtin "divmod"
 |9=>.type "reversed"
 |_=>.none
theorem Yau{P:Nat->Prop}(h0:P 0)(h1:P 1)(h2:P 2)(h3:P 3)(h4:P 4)(h5:P 5)(h6:P 6)(h7:P 7)(h8:P 8)(h9:P 9):∀b,b<10->P b:=by
 intro b hb;rcases b with _|_|_|_|_|_|_|_|_|_|b
 ·exact h0
 ·exact h1
 ·exact h2
 ·exact h3
 ·exact h4
 ·exact h5
 ·exact h6
 ·exact h7
 ·exact h8
 ·exact h9
 ·exact absurd hb (Ha1 (Nat.le_add_left _ _))
theorem Ye0:∀b,b<10->bootBuiltins (Zeg b)=some (Zqu b):=
 Yau (by decide+kernel) (by decide+kernel) (by decide+kernel) (by decide+kernel) (by decide+kernel) (by decide+kernel) (by decide+kernel) (by decide+kernel) (by decide+kernel) (by decide+kernel)
noncomputable def Zf3:Nat->Str
 |0=>"join"
 |1=>"split"
 |2=>"upper"
 |3=>"lower"
 |4=>"index"
 |5=>"index"
 |6=>"get_all"
 |7=>"keys"
 |_=>"?"
theorem Zvz{vs:List Value}{l:List D}(rs:RdL σ N s.heap vs l):∀{ls:List (List Nat)},Zg3 l=some ls->∃l':List (Str×Tok),vs=strValues l'/\(l'.map (·.1)).map (·.cps.toList)=ls:=
 rs.ind (P:=λvs l=>∀{ls:List (List Nat)},Zg3 l=some ls->∃l':List (Str×Tok),vs=strValues l'/\(l'.map (·.1)).map (·.cps.toList)=ls) (λh=>⟨[],rfl,sI h⟩) λv x vs l hx _ ih ls h=>by
  obtain⟨c,hc,h⟩:=Zgb h;obtain⟨r,hr,h⟩:=obS h;obtain⟨y,t,hv,e⟩:=hx.inv' hc;obtain⟨l',h1,h2⟩:=ih hr;exact⟨(y,t)::l',by rw[hv,h1];rfl,by rw[Hcr,Hcr,h2,e];exact sI h⟩
theorem Yc7{h:Heap}(l':List (Str×Tok)):RdL σ N h (strValues l') (((l'.map (·.1)).map (·.cps.toList)).map .str):=by
 induction l' with
 |nil=>exact .nil
 |cons a r ih=>exact .cons (.str rfl) ih
theorem Zrv(l':List (Str×Tok)):StrsAre (strValues l') (l'.map (·.1)):=by
 induction l' with
 |nil=>exact .nil
 |cons a r ih=>exact .cons a.1 a.2 ih
theorem Zj0{vs:List Value}{ss:List Str}{h:Heap}(r:StrsAre vs ss):RdL σ N h vs ((ss.map (·.cps.toList)).map .str):=by
 induction r with
 |nil=>exact .nil
 |cons _ _ _ ih=>exact .cons (.str rfl) ih
theorem Zn9{vs:List Value}{ds:List D}{d:D}(rs:RdL σ N s.heap vs ds)(h:Zff ds=some d):E12 (λv=>vs=[v]) λv=>Rd σ N s.heap v d:=by
 rw[Ztv h]at rs;exact rs.one
theorem Yci{v:Value}{x d:D}(h:lenD x=some d)(r:Rd σ N s.heap v x)(q:Zd9 T σ N s d Q):wpAny (model prog w) A (call (Zqu 0) [v]) Q E s:=by
 have r:=r.inv;cases x with
 |lst l=>
  obtain⟨hs,h⟩:=Zaj h;obtain⟨_,vs,_,hv,_,g,rs⟩:=r;rw[hv];exact PyProof.Rows.len_list ⟨_,g,rfl,_,rfl⟩ (by rw[Hb8,rs.length];exact Znc (Zay hs)) (q _ _ .toks (sI h▸.int (Hb6 Nat.cast rs.length.symm)))
 |tup l=>
  obtain⟨hs,h⟩:=Zaj h;obtain⟨_,vs,_,hv,_,g,rs⟩:=r;rw[hv];exact PySem.P.len_tuple g (by rw[Hb8,rs.length];exact Int.not_le.mpr (Znc (Zay hs))) (q _ _ .toks (sI h▸.int (Hb6 Nat.cast rs.length.symm)))
 |str l=>
  obtain⟨hs,h⟩:=Zaj h;obtain⟨x,t,hv,e⟩:=r;rw[hv];exact PySem.P.len_str (by rw[Zm6 e];exact Int.not_le.mpr (Znc (Zay hs))) (q _ _ .toks (sI h▸.int (Hb6 Nat.cast (Zm6 e).symm)))
 |_=>exact nS h
theorem Ye6{n:Nat}(h:n<10000000000):n.log2<40:=by
 by_cases hz:n=0
 ·rw[hz];decide
 ·exact(Nat.log2_lt hz).mpr (Nat.lt_trans h (by decide))
theorem Yjd{b:Nat}{vs:List Value}{ds:List D}{d:D}(hh:A.handled=none)(hN:∀a,N a->Occ s.heap a)(h:biD b ds=some d)(rs:RdL σ N s.heap vs ds)(q:Zd9 T σ N s d Q):wpAny (model prog w) A (call (Zqu b) vs) Q E s:=by
 rcases b with _|_|_|_|_|_|_|_|_|b
 ·obtain⟨x,hx,h⟩:=obS h;obtain⟨v,hv,r⟩:=Zn9 rs hx;rw[hv];exact Yci h r q
 ·exact nS h
 ·obtain⟨x,hx,h⟩:=obS h;obtain⟨v,hv,r⟩:=Zn9 rs hx;obtain⟨i,hi,h⟩:=Zgr h;obtain⟨hs,h⟩:=Zaj h;obtain⟨t,hv'⟩:=r.inv' hi;have hlt:i.natAbs<10000000000:=bLe hs;rw[hv,hv'];exact PySem.P.str_of_int (Nat.lt_trans (Ye6 hlt) (by decide)) (q _ _ .toks (sI h▸.str (Ydo i hlt)))
 ·exact nS h
 ·exact nS h
 ·exact nS h
 ·exact nS h
 ·obtain⟨x,hx,h⟩:=obS h;obtain⟨v,hv,r⟩:=Zn9 rs hx;obtain⟨l,hl,h⟩:=Zn8 h;obtain⟨hs,h⟩:=Zaj h;obtain⟨ls,hls,h⟩:=obS h;obtain⟨a,vs0,_,hv',_,g,rs0⟩:=r.inv' hl;obtain⟨l',hv0,hl0⟩:=Zvz rs0 hls;rw[hv,hv'];refine sorted_strs ⟨_,g,rfl,_,rfl⟩ (hv0▸Zrv l') (by rw[rs0.length];exact bLe hs) λout ss' a1 a2 a3=>?_
  obtain⟨e,he⟩:=sortedAll_at s.heap _ out;refine q _ _ (.of_keeps (tk:=s.toks) λb o eb=>sortedAll_old eb) (sI h▸.lst (vs:=out.toList) (n:=e) (λhn=>absurd (hN _ hn).lt (Nat.not_lt.mpr (Haw _))) he ?_)
  have:=Zj0 (σ:=σ) (N:=N) (h:=sortedAll s.heap vs0 out) a1;rw[Zmz a2 a3,hl0]at this;exact this
 ·cases ds with
  |nil=>exact nS h
  |cons x ds=>
   obtain⟨i,hi,h⟩:=Zgr h;obtain⟨y,hy,h⟩:=obS h;obtain⟨j,hj,h⟩:=Zgr h;obtain⟨hs,h⟩:=Zaj h;rw[Ztv hy]at rs;obtain⟨v,w',hv,r1,r2⟩:=rs.two;obtain⟨t,h1⟩:=r1.inv' hi;obtain⟨u,h2⟩:=r2.inv' hj;have hj0:j≠0:=λe=>by
    have:=(Zaa hs).1;rw[Zdh.mpr e]at this;exact bF this
   have hp:j.natAbs<2^8000:=bLe (Zaa hs).2;rw[hv,h1,h2];exact divmod_int hj0 (q _ _ (.push (tk:=s.toks+1+1)) (sI h▸.tup (vs:=[.int (i.fdiv j) s.toks,.int (i.fmod j) (s.toks+1)]) (n:=0) (noN hN) (Hb7 _ rfl) (.cons (.int rfl) (.cons (.int rfl) .nil)))) (.inl (PyProof.noPylong_of_log2 ((Nat.log2_lt (Int.natAbs_ne_zero.mpr hj0)).mpr (Har hp (Ha2 (by decide) (by decide))))))
 ·exact nS h
theorem Ycf{sep x y:List Nat}{t:List (List Nat)}:Zem sep (x::y::t)=x++(sep++Zem sep (y::t)):=rfl
theorem Zps(sep:List Nat):∀ls:List (List Nat),(ls.map List.length).sum+ls.length*sep.length<=(Zem sep ls).length+sep.length
 |[]=>Hay (Nat.zero_mul sep.length▸Hap _) 0
 |[x]=>by show x.length+0+1*sep.length<=x.length+sep.length;rw[Nat.one_mul];exact Hac _
 |x::y::r=>by
  have ih:=Zps sep (y::r);rw[Ycf];simp only[Hcr,List.sum_cons,Hci,Hct]at ih ⊢;have e:(r.length+1+1)*sep.length=(r.length+1)*sep.length+sep.length:=by rw[Nat.succ_mul (r.length+1)]
  exact(ln7 (.a (.a (.v 6) (.a (.v 0) (.v 1))) (.v 5)) (.a (.a (.v 6) (.a (.v 4) (.v 3))) (.v 4)) [(1,.a (.a (.v 0) (.v 1)) (.v 2),.a (.v 3) (.v 4)),(1,.v 5,.a (.v 2) (.v 4))] rfl ih (Han e))
theorem Yac{x:Str}{l:List Nat}{f:Nat->Nat}(e:x.cps.toList=l)(hs:small l=true):Builtin.Str.tooLong (Str.mk (x.cps.map f)).length=false:=by
 unfold Builtin.Str.tooLong;rw[Hck,Nat.not_lt];show(x.cps.map f).size<=_;rw[Array.size_map];exact Hag (Han (Zm6 e)) (Hag (Zay hs) (by rw[sizeLine_eq];decide))
theorem Ygg{m:Nat}{ov:Value}{x z:D}{pos:Pos}(h:meD m x []=some z)(ho:Rd σ N s.heap ov x)(q:Zd9 T σ N s z Q):MethodOnS prog w A E (Zf3 m) ov pos [] Q s:=by
 rcases m with _|_|_|_|_|_|m
 ·obtain⟨_,_,h⟩:=Zgb h;exact nS h
 ·obtain⟨_,_,h⟩:=Zgb h;exact nS h
 ·obtain⟨l,hl,h⟩:=Zgb h;obtain⟨hs,h⟩:=Zaj h;obtain⟨x,t,hv,e⟩:=ho.inv' hl;have hu:=upper_ascii (x:=x) (by rw[e];exact Zkd (Zaa hs).1)
  rw[hv];refine PySem.SB.upper (by rw[hu];exact Yac e (Zaa hs).2) (q _ _ .toks (sI h▸.str ?_))
  rw[hu];show(x.cps.map up1).toList=_;rw[Array.toList_map,e];exact List.map_congr_left λc _=>(Yhm c).symm
 ·obtain⟨l,hl,h⟩:=Zgb h;obtain⟨hs,h⟩:=Zaj h;obtain⟨x,t,hv,e⟩:=ho.inv' hl;have hu:=lower_ascii (x:=x) (by rw[e];exact Zkd (Zaa hs).1)
  rw[hv];refine PySem.SB.lower (by rw[hu];exact Yac e (Zaa hs).2) (q _ _ .toks (sI h▸.str ?_))
  rw[hu];show(x.cps.map lo1).toList=_;rw[Array.toList_map,e];exact List.map_congr_left λc _=>(Yge c).symm
 ·obtain⟨_,_,h⟩:=Zn8 h;exact nS h
 ·obtain⟨_,_,h⟩:=Zgb h;exact nS h
 ·exact nS h
open StrLaws Builtin.Str in
theorem Zy1{x y:Str}{t u:Tok}(hy:1<=y.length)(hx:x.length<=sizeLine)(hn:(partsBetween x (occurrences x y 0 x.length (x.length+1)) y.length).length<=sizeLine)
  (hq:∀l:List (Str×Tok),l.map (·.1)=Txt.split x y->∀tk,Q (.ref s.heap.objs.size) {s with heap:=s.heap.push (Za3 (strValues l).toArray 0),toks:=tk}):
  ∃S,Meets (Builtin.«str.split» ⟨[.str x t,.str y u],[]⟩) S/\S A (wants Q E) s:=by
 have hy0:(y.length==0)=false:=by rw[beq_eq_false_iff_ne];exact(Ha3 (ln1 (.a (.k 0) (.k 1)) (.v 0) [(1,.k 1,.v 0)] rfl hy))
 cases h1:(decide (x.length<y.length)||decide (Builtin.Str.strKind x<Builtin.Str.strKind y))
 ·cases hf:(occurrences x y 0 x.length (x.length+1)).isEmpty
  ·refine⟨_,meets_str_split_sep x y t u h1 hy0 hf hx hn,?_⟩
   show wants Q E _ {s with toks:=_,heap:=s.heap.push {cls:=.type "list",data:=.seq (strsFrom s.toks (partsBetween x (occurrences x y 0 x.length (x.length+1)) y.length)).toArray}}
   rw[strsFrom_eq];exact hq (numbered s.toks _) ((numbered_texts _ _).trans ((if_neg (ne_true_of_eq_false h1)).trans (if_neg (ne_true_of_eq_false hf))).symm) _
  ·exact⟨_,meets_str_split_not_found x y t u h1 hy0 hf,hq [(x,t)] ((if_neg (ne_true_of_eq_false h1)).trans (if_pos hf)).symm _⟩
 ·exact⟨_,meets_str_split_cannot_occur x y t u h1,hq [(x,t)] (if_pos h1).symm _⟩
theorem Zra{a:D}{ds:List D}:∀{i n:Nat},Ybn a ds i=some n->∃m,n=i+m/\m<ds.length/\(∃d,ds[m]?=some d/\eqD d a=some true)/\∀k,k<m->∃d,ds[k]?=some d/\eqD d a=some false:=by
 induction ds with
 |nil=>exact λh=>nS h
 |cons b r ih=>
  intro i n h;obtain⟨x,e,h⟩:=obS h;cases x with
  |true=>exact⟨0,(sI h).symm,Nat.succ_pos _,⟨b,rfl,e⟩,λk hk=>absurd hk (Nat.not_lt_zero _)⟩
  |false=>
   obtain⟨m,h1,h2,h3,h4⟩:=ih h;refine⟨m+1,h1.trans (Nat.succ_add_eq_add_succ i m),Nat.succ_lt_succ h2,h3,λk hk=>?_⟩
   cases k with
   |zero=>exact⟨b,rfl,e⟩
   |succ k=>exact h4 k (Nat.lt_of_succ_lt_succ hk)
theorem Yf9{sep:Str}{l:List (Str×Tok)}{sl:List Nat}{ls:List (List Nat)}(e:sep.cps.toList=sl)(h2:(l.map (·.1)).map (·.cps.toList)=ls)(hl:(Zem sl ls).length<=1000000)(hs:sl.length<=1000000):JoinOk sep (l.map (·.1)):=by
 unfold JoinOk;rw[StrLaws.joinTotal];have hj:=Zps sl ls;have e1:((l.map (·.1)).map (·.length)).sum=(ls.map List.length).sum:=by rw[←h2,List.map_map,List.map_map,List.map_map];rfl
 have e2:(l.map (·.1)).length=ls.length:=by rw[←h2];simp
 rw[e1,e2,Zm6 e];unfold Builtin.Str.tooLong;rw[Hcb,Hck,sizeLine_eq];exact(Ha1 (ln4 (.a (.v 2) (.v 3)) (.k 16777216) [(1,.v 0,.k 1000000),(1,.v 1,.k 1000000),(1,.a (.v 2) (.v 3),.a (.v 0) (.v 1))] rfl hl hs hj))
theorem Yin{m l:Nat}(h:m<l)(hl:l<=1000000):(m:Int)<2^63-1:=(li [] [_,_] (.a (.u (.v 0)) (.k 1)) (.k ((2^63)-1)) [(1,.u (.a (.v 0) (.k 1)),.u (.v 1)),(1,.u (.v 1),.u (.k 1000000))] rfl (jO h) (jO hl))
theorem Zuq(x:Str)(k:Nat)(cuts:List Nat):∀a:Nat,(StrLaws.partsFrom x k a cuts).length=cuts.length+1:=by
 induction cuts with
 |nil=>exact λ_=>rfl
 |cons c r ih=>exact λa=>Hb6 Nat.succ (ih (c+k))
theorem Yc1{y:Str}{c:Nat}(h:y.cps.toList=[c]):y=⟨#[c]⟩:=Hb6 Str.mk (Array.toList_inj.mp h)
theorem Ybo{x:Str}{c m:Nat}(f2:x.cps.toList[m]?=some c)(f3:∀k,k<m->x.cps.toList[k]?≠some c):∃r,Builtin.Str.occurrences x ⟨#[c]⟩ 0 x.length 1=m::r:=by
 have hm:=(StrLaws.subAt_one x c m).mpr f2;rcases StrLaws.occ_head x ⟨#[c]⟩ 1 (Nat.succ_pos _)with⟨_,g2⟩|⟨i,r,g1,g2,g3⟩
 ·exact absurd ⟨hm.1,hm.2⟩ (g2 m)
 ·have hi:=(StrLaws.subAt_one x c i).mp ⟨g2.1,g2.2⟩;rcases Nat.lt_trichotomy i m with hlt|heq|hgt
  ·exact absurd hi (f3 i hlt)
  ·exact⟨r,heq▸g1⟩
  ·exact absurd ⟨hm.1,hm.2⟩ (g3 m hgt)
theorem Ygh{m:Nat}{ov:Value}{x y z:D}{pos:Pos}{a:Sem Value}(hN:∀a,N a->Occ s.heap a)(hu:A.units+10<cLine)(harg:wpAny (model prog w) A a (λv s'1=>Ext T s s'1/\Rd σ N s'1.heap v y) E s)(h:meD m x [y]=some z)(ho:Rd σ N s.heap ov x)(q:Zd9 T σ N s z Q):
  MethodOnS prog w A E (Zf3 m) ov pos [(false,a)] Q s:=by
 rcases m with _|_|_|_|_|_|m
 ·obtain⟨sep,hl,h⟩:=Zgb h;obtain⟨l,hy,h⟩:=Zn8 h;obtain⟨ls,hls,h⟩:=obS h;obtain⟨hs,h⟩:=Zaj h;obtain⟨x,t,hv,e⟩:=ho.inv' hl;have hs:=(Zaa hs).2;rw[hv];refine PySem.SB.join (Ha4 harg (λv s'1 h'1=>?_) λ_ _ e=>e)
  obtain⟨hx,hr⟩:=h'1;obtain⟨b,vs,n,hv,_,g,rs⟩:=hr.inv' hy;obtain⟨l',hv2,h2⟩:=Zvz rs hls;rw[hv2]at g;exact⟨b,l',hv,⟨_,g,rfl,_,rfl⟩,_,rfl,Yf9 e h2 (bLe (Zaa hs).2) (Zay (Zaa hs).1),λt' k=>q _ _ (hx.trans .toks) (sI h▸.str (by rw[Zk0,e,h2]))⟩
 ·obtain⟨cs,hl,h⟩:=Zgb h;obtain⟨sep,hy,h⟩:=Zgb h;obtain⟨x,t,hv,e⟩:=ho.inv' hl;cases sep with
  |nil=>exact nS h
  |cons c sep=>
  obtain⟨hs,h⟩:=Zaj h;have hs2:=(Zaa (Zaa hs).2).2;rw[hv];refine⟨"str",_,PySem.F.plainAttrs_str,PySem.F.slot_str_split,PySem.F.type_str_split,typeIs_str _ _ _,(λ_ e=>nomatch e),
   method1_meets PySem.F.slot_str_split PySem.F.entry_str_split (Ha4 harg (λv s'1 h'1=>?_) λ_ _ e=>e)⟩
  obtain⟨hx,hr⟩:=h'1;obtain⟨y,u,hv2,e2⟩:=hr.inv' hy;have hy:1<=y.length:=by rw[Zm6 e2];exact Nat.succ_pos _
  have hxl:x.length<=1000000:=by rw[Zm6 e];exact Zay (Zaa hs).1
  have hb:(1000000+2:Nat)<=sizeLine:=by rw[sizeLine_eq];decide
  rw[hv2];refine⟨typeIs_str _ _ _,PySem.F.args_str_split_2 _ _,Zy1 hy (Hag hxl (Hag (Hal _ 2) hb)) ?_ λl hl tk=>?_⟩
  ·rw[StrLaws.partsBetween_eq,Zuq];exact Hag (Hax (Hag (StrLaws.occ_length_le x y 0 x.length (x.length+1)) (Hax hxl))) hb
  ·have hsp:=Zvq x y hy (by rw[e2];exact hs2)
   rw[e,e2,Zm6 e]at hsp;refine q _ _ (hx.trans .push) (sI h▸.lst (λhn=>Hao _ ((hN _ hn).ext hx).lt) (n:=0) (Hb7 _ rfl) ?_)
   rw[←hsp,←hl];exact Yc7 _
 ·obtain⟨_,_,h⟩:=Zgb h;exact nS h
 ·obtain⟨_,_,h⟩:=Zgb h;exact nS h
 ·obtain⟨ds,hl,h⟩:=Zn8 h;obtain⟨hs,h⟩:=Zaj h;obtain⟨b,hin,h⟩:=obS h;obtain⟨_,h⟩:=Zaj h;obtain⟨n,hf,h⟩:=Ziq h;obtain⟨m,hm,f2,⟨d,f3,f4⟩,f5⟩:=Zra hf;rw[Nat.zero_add]at hm;obtain⟨l,vs,ep,hv,_,g,rs⟩:=ho.inv' hl;have hlen:=rs.length;have hsm:=Zay (Zaa hs).1;rw[hv];refine⟨"list",_,PySem.F.plainAttrs_list,PySem.F.slot_list_index,PySem.F.type_list_index,⟨_,g,rfl⟩,(λa e=>Zca e▸⟨_,g,rfl⟩),
   method1_meets PySem.F.slot_list_index PySem.F.entry_list_index (Ha4 harg (λv s'1 h'1=>?_) λ_ _ e=>e)⟩
  obtain⟨hx,hr⟩:=h'1;have g1:=hx.keep2 _ _ g rfl;have rs1:=rs.mono hx.fits (h':=s'1.heap);have val:∀k (hk:k<vs.toArray.size) (b:Bool),(∃d,ds[k]?=some d/\eqD d y=some b)->Ycc σ N s'1.heap y vs.toArray[k]=b:=by
   rintro k hk b ⟨d,e1,e2⟩
   obtain⟨u,hu1,hu2⟩:=rs1.get e1;rw[show vs.toArray[k]=u from sI ((Hcc hk).symm.trans hu1)];exact Znv (Ztu (Zaa hs).2 (Has e1)) hu2 e2
  exact⟨⟨_,g1,rfl⟩,PySem.F.args_list_index_2 _ _,_,list_indexAt l vs.toArray ep none #[] v (Ycc σ N s'1.heap y) m (by rw[Hb8,hlen];exact f2) (Yin f2 hsm) (val m _ true ⟨d,f3,f4⟩) (λm hm hlt=>val m hm false (f5 m hlt)),
   g1,Zt3 hu (Zaa hs).2 rs1 hr (Zpo hin),q _ _ (hx.trans .toks) (h▸.int (Hb6 Nat.cast hm))⟩
 ·obtain⟨cs,hl,h⟩:=Zgb h;obtain⟨sep,hy,h⟩:=Zgb h;obtain⟨x,t,hv,e⟩:=ho.inv' hl;cases sep with
  |nil=>exact nS h
  |cons c r=>cases r with
   |cons _ _=>exact nS h
   |nil=>
    obtain⟨hs,h⟩:=Zaj h;obtain⟨n,hf,h⟩:=Ziq h;obtain⟨m,hm,f2,f3⟩:=Zq9 c cs 0 n hf;rw[←e]at f2 f3;obtain⟨r,g1⟩:=Ybo f2 f3;rw[hv];refine PySem.SB.index (Ha4 harg (λv s'1 h'1=>?_) λ_ _ e=>e)
    obtain⟨hx,hr⟩:=h'1;obtain⟨y,u,hv2,e2⟩:=hr.inv' hy;exact⟨_,u,hv2.trans (Hb6 (λy=>Value.str y u) (Yc1 e2)),m,r,g1,q _ _ (hx.trans .toks) (h▸.int (Hb6 Nat.cast (hm.trans (Nat.zero_add m))))⟩
 ·exact nS h
noncomputable def exE(e:Expr)(a0:Str->Pos->Bool)(a1:Const->Nat->Pos->Bool)(a2:List Expr->Pos->Bool)(a3:List Expr->Nat->Pos->Bool)(a4:Expr->Operator->Expr->Pos->Bool)(a5:UnaryOp->Expr->Pos->Bool)(a6:Expr->List CmpOp->List Expr->Pos->Bool)(a7:BoolOp->List Expr->Pos->Bool)(a8:Expr->Expr->Expr->Pos->Bool)(a9:Expr->Expr->Pos->Bool)(a10:Option Expr->Option Expr->Option Expr->Pos->Bool)(a11:Expr->List Expr->List Keyword->Pos->Bool)(a12:Expr->Str->Pos->Bool)(a13:Expr->List Comprehension->Scope->Pos->Bool):Bool:=
 Expr.casesOn (motive_1:=λ_=>Bool) e a7 F3 a4 a5 F4 a8 F3 F3 a13 F4 (λ_=>F4) F4 F2 F2 F2 a6 a11 F4 F2 a1 a12 a9 F2 a0 a2 a3 a10
theorem Zbr{e:Expr}{a0:Str->Pos->Bool}{a1:Const->Nat->Pos->Bool}{a2:List Expr->Pos->Bool}{a3:List Expr->Nat->Pos->Bool}{a4:Expr->Operator->Expr->Pos->Bool}{a5:UnaryOp->Expr->Pos->Bool}{a6:Expr->List CmpOp->List Expr->Pos->Bool}{a7:BoolOp->List Expr->Pos->Bool}{a8:Expr->Expr->Expr->Pos->Bool}{a9:Expr->Expr->Pos->Bool}{a10:Option Expr->Option Expr->Option Expr->Pos->Bool}{a11:Expr->List Expr->List Keyword->Pos->Bool}{a12:Expr->Str->Pos->Bool}{a13:Expr->List Comprehension->Scope->Pos->Bool}{P:Prop}(h:exE e a0 a1 a2 a3 a4 a5 a6 a7 a8 a9 a10 a11 a12 a13=true)(h0:∀x y,e= .Name x y->a0 x y=true->P)(h1:∀x y z,e= .Constant x y z->a1 x y z=true->P)(h2:∀x y,e= .List x y->a2 x y=true->P)(h3:∀x y z,e= .Tuple x y z->a3 x y z=true->P)(h4:∀x y z w,e= .BinOp x y z w->a4 x y z w=true->P)(h5:∀x y z,e= .UnaryOp x y z->a5 x y z=true->P)(h6:∀x y z w,e= .Compare x y z w->a6 x y z w=true->P)(h7:∀x y z,e= .BoolOp x y z->a7 x y z=true->P)(h8:∀x y z w,e= .IfExp x y z w->a8 x y z w=true->P)(h9:∀x y z,e= .Subscript x y z->a9 x y z=true->P)(h10:∀x y z w,e= .Slice x y z w->a10 x y z w=true->P)(h11:∀x y z w,e= .Call x y z w->a11 x y z w=true->P)(h12:∀x y z,e= .Attribute x y z->a12 x y z=true->P)(h13:∀x y z w,e= .ListComp x y z w->a13 x y z w=true->P):P:=by
 refine(λe'=>?_:∀e',e=e'->exE e' a0 a1 a2 a3 a4 a5 a6 a7 a8 a9 a10 a11 a12 a13=true->P) e rfl h
 cases e' with
 |Name x y=>exact h0 x y
 |Constant x y z=>exact h1 x y z
 |List x y=>exact h2 x y
 |Tuple x y z=>exact h3 x y z
 |BinOp x y z w=>exact h4 x y z w
 |UnaryOp x y z=>exact h5 x y z
 |Compare x y z w=>exact h6 x y z w
 |BoolOp x y z=>exact h7 x y z
 |IfExp x y z w=>exact h8 x y z w
 |Subscript x y z=>exact h9 x y z
 |Slice x y z w=>exact h10 x y z w
 |Call x y z w=>exact h11 x y z w
 |Attribute x y z=>exact h12 x y z
 |ListComp x y z w=>exact h13 x y z w
 |_=>exact λ_=>bF
variable {e:Expr}
noncomputable def Zbt(e:Expr)(f:Str->Bool):Bool:=exE e (λx _=>f x) F3 F2 F3 F4 F3 F4 F3 F4 F3 F4 F4 F3 F4
theorem Zbf{f:Str->Bool}(h:Zbt e f=true):E22 (λx y=>e= .Name x y) λx _=>f x=true:=Zbr h (λx y q h=>⟨x,y,q,h⟩) b4 b3 b4 b5 b4 b5 b4 b5 b4 b5 b5 b4 b5
noncomputable def Zno(e:Expr)(f:Const->Bool):Bool:=exE e F2 (λx _ _=>f x) F2 F3 F4 F3 F4 F3 F4 F3 F4 F4 F3 F4
theorem Zpd{f:Const->Bool}(h:Zno e f=true):E32 (λx y z=>e= .Constant x y z) λx _ _=>f x=true:=Zbr h b3 (λx y z q h=>⟨x,y,z,q,h⟩) b3 b4 b5 b4 b5 b4 b5 b4 b5 b5 b4 b5
noncomputable def Ztf(e:Expr)(f:List Expr->Bool):Bool:=exE e F2 F3 (λx _=>f x) F3 F4 F3 F4 F3 F4 F3 F4 F4 F3 F4
theorem Znp{f:List Expr->Bool}(h:Ztf e f=true):E22 (λx y=>e= .List x y) λx _=>f x=true:=Zbr h b3 b4 (λx y q h=>⟨x,y,q,h⟩) b4 b5 b4 b5 b4 b5 b4 b5 b5 b4 b5
noncomputable def Zdg(e:Expr)(f:List Expr->Bool):Bool:=exE e F2 F3 F2 (λx _ _=>f x) F4 F3 F4 F3 F4 F3 F4 F4 F3 F4
theorem Zdx{f:List Expr->Bool}(h:Zdg e f=true):E32 (λx y z=>e= .Tuple x y z) λx _ _=>f x=true:=Zbr h b3 b4 b3 (λx y z q h=>⟨x,y,z,q,h⟩) b5 b4 b5 b4 b5 b4 b5 b5 b4 b5
noncomputable def Zs9(e:Expr)(f:Expr->Operator->Expr->Bool):Bool:=exE e F2 F3 F2 F3 (λx y z _=>f x y z) F3 F4 F3 F4 F3 F4 F4 F3 F4
theorem Zpb{f:Expr->Operator->Expr->Bool}(h:Zs9 e f=true):E42 (λx y z w=>e= .BinOp x y z w) λx y z _=>f x y z=true:=Zbr h b3 b4 b3 b4 (λx y z w q h=>⟨x,y,z,w,q,h⟩) b4 b5 b4 b5 b4 b5 b5 b4 b5
noncomputable def Yjo(e:Expr)(f:UnaryOp->Expr->Bool):Bool:=exE e F2 F3 F2 F3 F4 (λx y _=>f x y) F4 F3 F4 F3 F4 F4 F3 F4
theorem Yfo{f:UnaryOp->Expr->Bool}(h:Yjo e f=true):E32 (λx y z=>e= .UnaryOp x y z) λx y _=>f x y=true:=Zbr h b3 b4 b3 b4 b5 (λx y z q h=>⟨x,y,z,q,h⟩) b5 b4 b5 b4 b5 b5 b4 b5
noncomputable def Ybl(e:Expr)(f:Expr->List CmpOp->List Expr->Bool):Bool:=exE e F2 F3 F2 F3 F4 F3 (λx y z _=>f x y z) F3 F4 F3 F4 F4 F3 F4
theorem Ztc{f:Expr->List CmpOp->List Expr->Bool}(h:Ybl e f=true):E42 (λx y z w=>e= .Compare x y z w) λx y z _=>f x y z=true:=Zbr h b3 b4 b3 b4 b5 b4 (λx y z w q h=>⟨x,y,z,w,q,h⟩) b4 b5 b4 b5 b5 b4 b5
noncomputable def Ybk(e:Expr)(f:BoolOp->List Expr->Bool):Bool:=exE e F2 F3 F2 F3 F4 F3 F4 (λx y _=>f x y) F4 F3 F4 F4 F3 F4
theorem Zta{f:BoolOp->List Expr->Bool}(h:Ybk e f=true):E32 (λx y z=>e= .BoolOp x y z) λx y _=>f x y=true:=Zbr h b3 b4 b3 b4 b5 b4 b5 (λx y z q h=>⟨x,y,z,q,h⟩) b5 b4 b5 b5 b4 b5
noncomputable def exIf(e:Expr)(f:Expr->Expr->Expr->Bool):Bool:=exE e F2 F3 F2 F3 F4 F3 F4 F3 (λx y z _=>f x y z) F3 F4 F4 F3 F4
theorem Yfn{f:Expr->Expr->Expr->Bool}(h:exIf e f=true):E42 (λx y z w=>e= .IfExp x y z w) λx y z _=>f x y z=true:=Zbr h b3 b4 b3 b4 b5 b4 b5 b4 (λx y z w q h=>⟨x,y,z,w,q,h⟩) b4 b5 b5 b4 b5
noncomputable def Zxo(e:Expr)(f:Expr->Expr->Bool):Bool:=exE e F2 F3 F2 F3 F4 F3 F4 F3 F4 (λx y _=>f x y) F4 F4 F3 F4
theorem Ztj{f:Expr->Expr->Bool}(h:Zxo e f=true):E32 (λx y z=>e= .Subscript x y z) λx y _=>f x y=true:=Zbr h b3 b4 b3 b4 b5 b4 b5 b4 b5 (λx y z q h=>⟨x,y,z,q,h⟩) b5 b5 b4 b5
noncomputable def Zti(e:Expr)(f:Option Expr->Option Expr->Option Expr->Bool):Bool:=exE e F2 F3 F2 F3 F4 F3 F4 F3 F4 F3 (λx y z _=>f x y z) F4 F3 F4
theorem Zxn{f:Option Expr->Option Expr->Option Expr->Bool}(h:Zti e f=true):E42 (λx y z w=>e= .Slice x y z w) λx y z _=>f x y z=true:=Zbr h b3 b4 b3 b4 b5 b4 b5 b4 b5 b4 (λx y z w q h=>⟨x,y,z,w,q,h⟩) b5 b4 b5
noncomputable def Zpc(e:Expr)(f:Expr->List Expr->List Keyword->Pos->Bool):Bool:=exE e F2 F3 F2 F3 F4 F3 F4 F3 F4 F3 F4 f F3 F4
theorem Ztb{f:Expr->List Expr->List Keyword->Pos->Bool}(h:Zpc e f=true):E42 (λx y z w=>e= .Call x y z w) λx y z w=>f x y z w=true:=Zbr h b3 b4 b3 b4 b5 b4 b5 b4 b5 b4 b5 (λx y z w q h=>⟨x,y,z,w,q,h⟩) b4 b5
noncomputable def Zs7(e:Expr)(f:Expr->Str->Pos->Bool):Bool:=exE e F2 F3 F2 F3 F4 F3 F4 F3 F4 F3 F4 F4 f F4
theorem Zs8{f:Expr->Str->Pos->Bool}(h:Zs7 e f=true):E32 (λx y z=>e= .Attribute x y z) λx y z=>f x y z=true:=Zbr h b3 b4 b3 b4 b5 b4 b5 b4 b5 b4 b5 b5 (λx y z q h=>⟨x,y,z,q,h⟩) b5
noncomputable def Ztd(e:Expr)(f:Expr->List Comprehension->Scope->Bool):Bool:=exE e F2 F3 F2 F3 F4 F3 F4 F3 F4 F3 F4 F4 F3 (λx y z _=>f x y z)
theorem Zte{f:Expr->List Comprehension->Scope->Bool}(h:Ztd e f=true):E42 (λx y z w=>e= .ListComp x y z w) λx y z _=>f x y z=true:=Zbr h b3 b4 b3 b4 b5 b4 b5 b4 b5 b4 b5 b5 b4 (λx y z w q h=>⟨x,y,z,w,q,h⟩)
noncomputable def Zum(e:Expr):Bool:=exE e (λ_ _=>true) (λ_ _ _=>true) (λ_ _=>true) (λ_ _ _=>true) (λ_ _ _ _=>true) (λ_ _ _=>true) (λ_ _ _ _=>true) (λ_ _ _=>true) (λ_ _ _ _=>true) (λ_ _ _=>true) F4 (λ_ _ _ _=>true) (λ_ _ _=>true) (λ_ _ _ _=>true)
noncomputable def Zh9(e:Expr)(f:Str->List Expr->Bool):Bool:=Zpc e λg xs kws _=>kws.isEmpty&&Zbt g λid=>f id xs
theorem Zey{e:Expr}{f:Str->List Expr->Bool}(h:Zh9 e f=true):E42 (λid q xs p=>e= .Call (.Name id q) xs [] p) λid _ xs _=>f id xs=true:=by
 obtain⟨g,xs,kws,p,he,h⟩:=Ztb h;obtain⟨id,q,hg,h2⟩:=Zbf (Zaa h).2;exact⟨id,q,xs,p,by rw[he,hg,jE (Zaa h).1],h2⟩
noncomputable def Zb1(e:Expr):Bool:=!Zpc e λf xs kws _=>kws.isEmpty&&(xs.isEmpty&&Zbt f λ_=>true)
noncomputable def Ztg(e:Expr)(f:Expr->Str->List Expr->List Keyword->Bool):Bool:=Zpc e λg xs kws p=>Zs7 g λv name ap=>ap.endLine==p.line&&(Zb1 v&&f v name xs kws)
inductive Yd8(e:Expr)(f:Expr->Str->List Expr->List Keyword->Bool):Prop
 |mk (v:Expr) (name:Str) (ap:Pos) (xs:List Expr) (kws:List Keyword) (p:Pos) (he:e= .Call (.Attribute v name ap) xs kws p) (hl:(ap.endLine==p.line)=true) (hp:Zb1 v=true) (h:f v name xs kws=true)
theorem Zth{e:Expr}{f:Expr->Str->List Expr->List Keyword->Bool}(h:Ztg e f=true):Yd8 e f:=by
 obtain⟨g,xs,kws,p,he,h⟩:=Ztb h;obtain⟨v,name,ap,hg,h⟩:=Zs8 h;exact⟨v,name,ap,xs,kws,p,by rw[he,hg],(Zaa h).1,(Zaa (Zaa h).2).1,(Zaa (Zaa h).2).2⟩
noncomputable def Zia(e:Expr)(f:Expr->Str->List Expr->Bool):Bool:=Ztg e λv name xs kws=>kws.isEmpty&&f v name xs
inductive Yaf(e:Expr)(f:Expr->Str->List Expr->Bool):Prop
 |mk (v:Expr) (name:Str) (ap:Pos) (xs:List Expr) (p:Pos) (he:e= .Call (.Attribute v name ap) xs [] p) (hl:(ap.endLine==p.line)=true) (hp:Zb1 v=true) (h:f v name xs=true)
theorem Zhm{e:Expr}{f:Expr->Str->List Expr->Bool}(h:Zia e f=true):Yaf e f:=by
 obtain⟨v,name,ap,xs,kws,p,he,h1,h2,h⟩:=Zth h;exact⟨v,name,ap,xs,p,by rw[he,jE (Zaa h).1],h1,h2,(Zaa h).2⟩
noncomputable def on1{α:Type}(l:List α)(f:α->Bool):Bool:=match l with
 |[]=>false
 |a::r=>r.isEmpty&&f a
noncomputable def on2{α:Type}(l:List α)(f:α->α->Bool):Bool:=match l with
 |[]=>false
 |a::r=>on1 r (f a)
theorem Zmo{α:Type}{l:List α}{f:α->Bool}(h:on1 l f=true):E12 (λa=>l=[a]) λa=>f a=true:=by
 cases l with
 |nil=>exact bF h
 |cons a r=>exact⟨a,by rw[jE (Zaa h).1],(Zaa h).2⟩
theorem Zz1{α:Type}{l:List α}{f:α->α->Bool}(h:on2 l f=true):E22 (λa b=>l=[a,b]) λa b=>f a b=true:=by
 cases l with
 |nil=>exact bF h
 |cons a r=>
  obtain⟨b,e,h⟩:=Zmo h;exact⟨a,b,by rw[e],h⟩
noncomputable def okL{α β:Type}(f:α->β->Bool):List α->List β->Bool
 |[],b=>b.isEmpty
 |a::r,b=>(match b with
  |[]=>false
  |c::s=>f a c&&okL f r s)
theorem Zd2{α β:Type}{f:α->β->Bool}{a:α}{r:List α}{bs:List β}(h:okL f (a::r) bs=true):E23 (λb s=>bs=b::s) (λb _=>f a b=true) λ_ s=>okL f r s=true:=by
 cases bs with
 |nil=>exact bF h
 |cons b s=>exact⟨b,s,rfl,(Zaa h).1,(Zaa h).2⟩
theorem Zio{α β:Type}{f:α->β->Bool}{bs:List β}(h:okL f [] bs=true):bs=[]:=jE h
theorem Zcz{α β:Type}{f:α->β->Bool}{as:List α}{b:β}{s:List β}(h:okL f as (b::s)=true):E23 (λa r=>as=a::r) (λa _=>f a b=true) λ_ r=>okL f r s=true:=by
 cases as with
 |nil=>exact bF h
 |cons a r=>exact⟨a,r,rfl,(Zaa h).1,(Zaa h).2⟩
theorem Zdc{α β:Type}{f:α->β->Bool}{as:List α}(h:okL f as []=true):as=[]:=by
 cases as with
 |nil=>rfl
 |cons a r=>exact bF h
noncomputable def okO{α β:Type}(f:α->β->Bool)(o:Option α)(p:Option β):Bool:=match o with
 |none=>p.isNone
 |some a=>(match p with
  |none=>false
  |some b=>f a b)
noncomputable def Ycz(f:Expr->M->Bool):List CmpOp->List Expr->List (CmpOp×M)->Bool
 |[],es,ms=>es.isEmpty&&ms.isEmpty
 |o::os,es,ms=>(match es with
  |[]=>false
  |e::es=>(match ms with
   |[]=>false
   |m::r=>o==m.1&&(f e m.2&&Ycz f os es r)))
theorem Ze2{f:Expr->M->Bool}{ops:List CmpOp}{es:List Expr}(h:Ycz f ops es []=true):ops=[]/\es=[]:=by
 cases ops with
 |nil=>exact⟨rfl,jE (Zaa h).1⟩
 |cons o ops=>cases es<;>exact bF h
inductive OkOs(f:Expr->M->Bool)(ops:List CmpOp)(es:List Expr)(m:CmpOp×M)(r:List (CmpOp×M)):Prop
 |mk (ops':List CmpOp) (e:Expr) (es':List Expr) (h1:ops=m.1::ops') (h2:es=e::es') (h3:f e m.2=true) (h4:Ycz f ops' es' r=true)
theorem Zip{f:Expr->M->Bool}{ops:List CmpOp}{es:List Expr}{m:CmpOp×M}{r:List (CmpOp×M)}(h:Ycz f ops es (m::r)=true):OkOs f ops es m r:=by
 cases ops with
 |nil=>exact bF (Zaa h).2
 |cons o ops=>
  cases es with
  |nil=>exact bF h
  |cons e es=>exact⟨ops,e,es,by rw[Hb5 (Zaa h).1],rfl,(Zaa (Zaa h).2).1,(Zaa (Zaa h).2).2⟩
noncomputable def tOk(nm:Nat->Str)(sc:List (Str×NameKind))(id:Str)(x:Nat):Bool:=id==nm x&&(sc.lookup id==some .local||sc.lookup id==some .cell)
noncomputable def Zbc(nm:Nat->Str)(sc:List (Str×NameKind))(e:Expr)(xs:List Nat)(uni:Bool):Bool:=match uni with
 |true=>Zbt e λid=>on1 xs λx=>tOk nm sc id x
 |false=>Zdg e λes=>okL (λe x=>Zbt e λid=>tOk nm sc id x) es xs
noncomputable def Ze5(sc:List (Str×NameKind))(ns:List (Str×NameKind)):List (Str×NameKind):=
 ns.map λ(n,k)=>if k==.free&&sc.lookup n==some .cell then(n,.cell)else(n,k)
noncomputable def Zeq(sc:List (Str×NameKind)):List (Str×NameKind)->Bool
 |[]=>true
 |(n,k)::r=>(k != .free||sc.lookup n==some .cell||sc.lookup n==some .free)&& !(r.any λp=>p.1==n)&&n != ("__classdict__":Str)&&Zeq sc r
noncomputable def Zef(okE:Expr->M->Bool)(sc:List (Str×NameKind))(name:Str)(e:Expr)(ms:List M):Bool:=Zh9 e λid as=>id==name&&(sc.lookup id==some .globalImplicit&&okL okE as ms)
noncomputable def Zmd(okE:Expr->M->Bool)(sc:List (Str×NameKind))(k:Nat)(ms:List M)(e:Expr):Bool:=match k with
 |0=>on1 ms λm=>okE e m
 |1=>Zef okE sc "range" e ms
 |_=>false
noncomputable def Yji(okE:List (Str×NameKind)->Expr->M->Bool)(nm:Nat->Str)(sc scI:List (Str×NameKind))(g:Comprehension)(c:Cl):Bool:=match c with
 | .mk t' uni k it' ifs'=>g.is_async==0&&(Zbc nm scI g.target t' uni&&(Zmd (okE sc) sc k it' g.iter&&okL (okE scI) g.ifs ifs'))
noncomputable def Ya3(okE:List (Str×NameKind)->Expr->M->Bool)(nm:Nat->Str)(scI:List (Str×NameKind))(gs:List Comprehension)(cs:List Cl):Bool:=okL (Yji okE nm scI scI) gs cs
noncomputable def Za6:List Nat->Bool
 |[]=>true
 |x::r=>!(r.any λy=>Nat.beq x y)&&Za6 r
noncomputable def okC(d:D)(c:Const):Bool:=match c with
 | .int j=>(match d with| .int p=>(match p with| .k i=>ieq i j|_=>false)|_=>false)
 | .str x=>(match d with| .str s=>eqN x.cps.toList s|_=>false)
 | .bool b'=>(match d with| .bool b=>b==b'|_=>false)
 | .none=>(match d with| .none=>true|_=>false)
 |_=>false
noncomputable def okX(okE:Expr->M->Bool)(sc:List (Str×NameKind))(f:Nat)(as:List M)(e:Expr):Bool:=
 match Nat.beq f 900 with
 |true=>on1 as λa=>Zs7 e λv name _=>name==("_headers":Str)&&(Zb1 v&&okE v a)
 |false=>match Nat.beq f 903 with
 |true=>on2 as λa b=>Zs9 e λl o r=>o==.Mod&&(okE l a&&okE r b)
 |false=>match Nat.beq f 904 with
 |true=>on1 as λa=>Yjo e λu x=>(match u with| .Invert=>true|_=>false)&&okE x a
 |false=>match Nat.beq f 905 with
 |true=>on1 as λa=>Zia e λv name xs=>name==("bit_length":Str)&&(xs.isEmpty&&okE v a)
 |false=>match Nat.beq f 906 with
 |true=>on2 as λa b=>Zs9 e λl o r=>o==.LShift&&(okE l a&&okE r b)
 |false=>match Nat.beq f 908 with
 |true=>as.isEmpty&&Zbt e λid=>id==("_DIV_LIMIT":Str)&&sc.lookup id==some .globalImplicit
 |false=>on2 as λa b=>Ztg e λv name xs kws=>name==("_convert_string_type":Str)&&(okE v a&&(on1 xs (λx=>okE x b)&&on1 kws λk=>k.arg==some ("name":Str)&&Zno k.value λc=>match c with
  | .bool bb=>Nat.beq f (cond bb 901 902)
  |_=>false))
noncomputable def okCp(okE:List (Str×NameKind)->Expr->M->Bool)(nm:Nat->Str)(sc:List (Str×NameKind))(e:M)(cs:List Cl)(elt:Expr)(gens:List Comprehension)(scope:Scope):Bool:=match cs with
 |[]=>false
 |c::r=>(match gens with
  |[]=>false
  |g::gs=>scope.kind==.function&&(Zeq sc scope.names&&(Za6 (Zal (c::r))&&(Yji okE nm sc (Ze5 sc scope.names) g c&&(Ya3 okE nm (Ze5 sc scope.names) gs r&&(okE (Ze5 sc scope.names) elt e&&
    (((Zal (c::r)).all λx=>(scope.names.lookup (nm x)==some .local||scope.names.lookup (nm x)==some .cell))&&
    scope.names.all λp=>!(p.2==.local||p.2==.cell)||p.1==(".0":Str)||(Zal (c::r)).any λx=>nm x==p.1)))))))
noncomputable def Zut(m:M):Bool:=!([(M.cmp (.n 0) []).ctorIdx,(M.bop .And []).ctorIdx,(M.ite (.n 0) (.n 0) (.n 0)).ctorIdx,(M.bor (.n 0)).ctorIdx].any λi=>Nat.beq m.ctorIdx i)
noncomputable def Zus(e:Expr):Bool:=exE e (λ_ _=>true) (λ_ _ _=>true) (λ_ _=>true) (λ_ _ _=>true) (λ_ _ _ _=>true) (λu _ _=>match u with| .Not=>false|_=>true) F4 F3 F4 (λ_ _ _=>true) F4 (λ_ _ _ _=>true) (λ_ _ _=>true) (λ_ _ _ _=>true)
noncomputable def okK(m:M)(e:Expr):Bool:=Zum e&&(!Zut m||Zus e)
noncomputable def okE(nm:Nat->Str)(fn:Nat->Str):Nat->List (Str×NameKind)->Expr->M->Bool
 |0,_,_,_=>false
 |n+1,sc,e,m=>okK m e&&match m with
  | .c d=>Zno e λc=>okC d c
  | .n x=>Zbt e λid=>id==nm x&&(Zi4 (sc.lookup id)&&id != ("__debug__":Str))
  | .lst es=>Ztf e λxs=>Nat.ble es.length 1000&&okL (okE nm fn n sc) xs es
  | .tup es=>Zdg e λxs=>Nat.ble es.length 1000&&okL (okE nm fn n sc) xs es
  | .bin o a b=>Zs9 e λl o' r=>o==o'&&(okE nm fn n sc l a&&okE nm fn n sc r b)
  | .neg a=>Yjo e λu x=>(match u with| .USub=>true|_=>false)&&okE nm fn n sc x a
  | .cmp a os=>Ybl e λl ops rs=>okE nm fn n sc l a&&Ycz (okE nm fn n sc) ops rs os
  | .bop o es=>Ybk e λo' xs=>o==o'&&okL (okE nm fn n sc) xs es
  | .ite t a b=>exIf e λt' a' b'=>okE nm fn n sc t' t&&(okE nm fn n sc a' a&&okE nm fn n sc b' b)
  | .idx a i=>Zxo e λv s=>okE nm fn n sc v a&&okE nm fn n sc s i
  | .sl a lo hi=>Zxo e λv s=>okE nm fn n sc v a&&Zti s λl h st=>st.isNone&&(okO (okE nm fn n sc) l lo&&okO (okE nm fn n sc) h hi)
  | .call f as=>(match Nat.blt f 900 with
   |true=>Zh9 e λid xs=>id==fn f&&(sc.lookup id==some .globalImplicit&&(id != ("__debug__":Str)&&okL (okE nm fn n sc) xs as))
   |false=>okX (okE nm fn n sc) sc f as e)
  | .bi b as=>(Nat.blt b 5||(Nat.beq b 7||Nat.beq b 8))&&Zef (okE nm fn n sc) sc (Zeg b) e as
  | .me k o as=>Zia e λv name xs=>name==Zf3 k&&(Nat.ble as.length 1&&(okE nm fn n sc v o&&okL (okE nm fn n sc) xs as))
  | .comp e' cs=>Ztd e λelt gens scope=>okCp (okE nm fn n) nm sc e' cs elt gens scope
  | .bor a=>okE nm fn n sc e a
theorem Zyk{nm fn:Nat->Str}{sc:List (Str×NameKind)}{e:Expr}{m:M}:∀{fo:Nat},okE nm fn fo sc e m=true->Zum e=true
 |0=>λh=>bF h
 |_+1=>λh=>(Zaa (Zaa h).1).1
theorem Zgq{nm fn:Nat->Str}{sc:List (Str×NameKind)}{e e':Expr}{m:M}{fo:Nat}{P:Prop}(h:okE nm fn fo sc e m=true)(q:e=e')(k:Zum e'=false):P:=by
 have:=Zyk h;rw[q,k]at this;exact bF this
structure Upd(T W:Addr->Prop)(s s':Shared):Prop where
 keep:∀b o,¬T b->¬W b->s.heap.get? b=some o->s'.heap.get? b=some o
 keep2:∀b o,¬W b->s.heap.get? b=some o->Zb0 o=false->s'.heap.get? b=some o
 occ:∀b,Occ s.heap b->Occ s'.heap b
 tab:∀b,T b->Zfb s.heap b->Zfb s'.heap b
 gens:∀{P:Array GenState->Prop} [Zj8 P],P s.gens->P s'.gens
 os:s'.os=s.os
variable {W W':Addr->Prop}
theorem Upd.refl:Upd T W s s:=⟨λ_ _ _ _ e=>e,λ_ _ _ e _=>e,λ_ e=>e,λ_ _ e=>e,λe=>e,rfl⟩
theorem Upd.trans(x:Upd T W s s')(y:Upd T W s' s''):Upd T W s s'':=
 ⟨λb o n m e=>y.keep b o n m (x.keep b o n m e),λb o m e n=>y.keep2 b o m (x.keep2 b o m e n) n,λb e=>y.occ b (x.occ b e),λb t e=>y.tab b t (x.tab b t e),λe=>y.gens (x.gens e),y.os.trans x.os⟩
theorem Upd.mono(x:Upd T W s s')(h:∀a,W a->W' a):Upd T W' s s':=
 ⟨λb o n m e=>x.keep b o n (λq=>m (h b q)) e,λb o m e n=>x.keep2 b o (λq=>m (h b q)) e n,x.occ,x.tab,x.gens,x.os⟩
theorem Ext.upd(x:Ext T s s'):Upd T W s s':=⟨λb o n _ e=>x.keep b o n e,λb o _ e n=>x.keep2 b o e n,λ_ e=>e.ext x,x.tab,x.gens,x.os⟩
theorem Upd.ext(x:Upd T W s s')(h:∀a,W a->s.heap.get? a=none):Ext T s s':=
 ⟨λb o n e=>x.keep b o n (λq=>by rw[h b q]at e;cases e) e,λb o e n=>x.keep2 b o (λq=>by rw[h b q]at e;cases e) e n,x.tab,x.gens,x.os⟩
theorem Upd.fits(x:Upd T W s s')(h:∀a,W a->N a):Zdk N N s.heap s'.heap:=λa o n e c=>⟨n,x.keep2 a o (λq=>n (h a q)) e c⟩
theorem Upd.of_but{a:Addr}{h':Heap}{tk:Nat}(hs:Heap.SameBut a s.heap h')(ho:Occ h' a)(ht:¬T a)(hc:Za9 s.heap a):Upd T (·=a) s {s with heap:=h',toks:=tk}:=
 ⟨λb o _ n e=>(hs.2 b n).trans e,λb o n e _=>(hs.2 b n).trans e,λb ⟨o,e,t⟩=>by
  by_cases q:b=a
  ·rw[q];exact ho
  ·exact⟨o,(hs.2 b q).trans e,t⟩,λb tb t=>t.keep (λc o co e=>(hs.2 c (λq=>(q▸hc).absurd co e)).trans e) (λo e=>(hs.2 b (λq=>ht (q▸tb))).trans e),λe=>e,rfl⟩
theorem Upd.ns{a:Addr}{m:Str->Option Value}(x:Upd T W s s')(n:s.heap.Ns a m)(h:¬W a):s'.heap.Ns a m:=by
 obtain⟨o,es,ep,e,d,r⟩:=n;exact⟨o,es,ep,x.keep2 a o h e (Za0 (by rw[d];rfl)),d,r⟩
theorem Upd.cell{a:Addr}{v:Option Value}(x:Upd T W s s')(n:s.heap.IsCell a v)(h:¬W a):s'.heap.IsCell a v:=by
 obtain⟨o,e,d⟩:=n;exact⟨o,x.keep2 a o h e (Za0 (by rw[d];rfl)),d⟩
structure Zcq(T W:Addr->Prop)(s s':Shared):Prop where
 keep:∀b o,¬T b->¬W b->s.heap.get? b=some o->s'.heap.get? b=some o
 keep2:∀b o,¬W b->s.heap.get? b=some o->Zb0 o=false->s'.heap.get? b=some o
 tab:∀b,T b->Zfb s.heap b->Zfb s'.heap b
 gens:∀{P:Array GenState->Prop} [Zj8 P],P s.gens->P s'.gens
 os:s'.os=s.os
theorem Upd.gone(x:Upd T W s s'):Zcq T W s s':=⟨x.keep,x.keep2,x.tab,x.gens,x.os⟩
theorem Zcq.trans(x:Zcq T W s s')(y:Zcq T W s' s''):Zcq T W s s'':=
 ⟨λb o n m e=>y.keep b o n m (x.keep b o n m e),λb o m e n=>y.keep2 b o m (x.keep2 b o m e n) n,λb t e=>y.tab b t (x.tab b t e),λe=>y.gens (x.gens e),y.os.trans x.os⟩
theorem Zcq.mono(x:Zcq T W s s')(h:∀a,W a->W' a):Zcq T W' s s':=
 ⟨λb o n m e=>x.keep b o n (λq=>m (h b q)) e,λb o m e n=>x.keep2 b o (λq=>m (h b q)) e n,x.tab,x.gens,x.os⟩
theorem Zcq.ext2{s0:Shared}(x:Ext T s0 s)(y:Zcq T W s s')(h:∀a,W a->s0.heap.get? a=none):Ext T s0 s':=
 ⟨λb o n e=>y.keep b o n (λq=>by rw[h b q]at e;cases e) (x.keep b o n e),λb o e n=>y.keep2 b o (λq=>by rw[h b q]at e;cases e) (x.keep2 b o e n) n,
  λb t e=>y.tab b t (x.tab b t e),λe=>y.gens (x.gens e),y.os.trans x.os⟩
theorem Zmm{h:Heap}{a:Addr}{m m':Str->Option Value}(x:h.Ns a m)(y:h.Ns a m'):m=m':=by
 obtain⟨o,es,ep,e,d,_,r⟩:=x;obtain⟨o',es',ep',e',d',_,r'⟩:=y;rw[e]at e';cases e';rw[d]at d';cases d'
 funext n
 rw[←r,←r']
theorem Zju{h:Heap}{a:Addr}{m:Str->Option Value}(x:h.Ns a m):Occ h a:=by
 obtain⟨o,es,ep,e,d,r⟩:=x;exact⟨o,e,Za0 (by rw[d];rfl)⟩
theorem Zfr{h:Heap}{a:Addr}{v:Option Value}(x:h.IsCell a v):Occ h a:=by
 obtain⟨o,e,d⟩:=x;exact⟨o,e,Za0 (by rw[d];rfl)⟩
theorem Zgp{h:Heap}{a c:Addr}{m:Str->Option Value}{v:Option Value}(x:h.Ns a m)(y:h.IsCell c v):c≠a:=by
 rintro rfl
 obtain⟨o,es,ep,e,d,r⟩:=x;obtain⟨o',e',d'⟩:=y;rw[e]at e';cases e';rw[d]at d';cases d'
structure Zbj(env:Env)(h:Heap):Prop where
 ns:∃m,h.Ns env.locals m
 cells:∀n c,(n,c)∈env.cells->∃v,h.IsCell c v
 apart:env.cells.Pairwise λx y=>x.2≠y.2
noncomputable def Zcw(env:Env)(x:Str)(a:Addr):Prop:=(env.kindOf x=some .local/\a=env.locals)\/(env.kindOf x=some .cell/\(x==("__classdict__":Str))=false/\env.cells.lookup x=some a)
section
variable {M:Model} {A:Around} {E:Value->Shared->Prop} {T:Addr->Prop} {s:Shared} {env:Env}
theorem Zbj.upd{W:Addr->Prop}{s':Shared}(sl:Zbj env s.heap)(u:Upd T W s s')(h1:¬W env.locals)(h2:∀n c,(n,c)∈env.cells->¬W c):Zbj env s'.heap:=
 ⟨let⟨m,n⟩:=sl.ns;⟨m,u.ns n h1⟩,λn c hm=>let⟨v,hc⟩:=sl.cells n c hm;⟨v,u.cell hc (h2 n c hm)⟩,sl.apart⟩
theorem Zlh{x:Str}{v:Value}{a:Addr}{Q:Unit->Shared->Prop}(hk:env.scope.kind= .function)(sl:Zbj env s.heap)(st:Zcw env x a)(ht:¬T a)
  (q:∀s',Upd T (·=a) s s'->Zbj env s'.heap->Zam env s'.heap x v->(∀y u,y≠x->Zam env s.heap y u->Zam env s'.heap y u)->Q () s'):wpAny M A (storeName env x v) Q E s:=by
 obtain⟨m,hn⟩:=sl.ns;rcases st with⟨hl,rfl⟩|⟨hl,hd,hc⟩
 ·refine wpAny_storeName_local hl hn (λh' hn' hs'=>?_) (by rw[hk];rfl)
  have cell':∀{c v},s.heap.IsCell c v->h'.IsCell c v:=λy=>y.sameBut hs' (Zgp hn y)
  refine q _ (.of_but hs' (Zju hn') ht (.ns hn)) ⟨⟨_,hn'⟩,λn c hm=>let⟨v,h⟩:=sl.cells n c hm;⟨v,cell' h⟩,sl.apart⟩ (.inl ⟨hl,_,hn',if_pos rfl⟩) ?_
  rintro y u hy (⟨h1,m',h2,h3⟩|⟨h1,h2,c,h3,h4⟩)
  ·rw[Zmm h2 hn]at h3;exact .inl ⟨h1,_,hn',by rw[if_neg hy];exact h3⟩
  ·exact .inr ⟨h1,h2,c,h3,cell' h4⟩
 ·have hm:=mem_of_lookup hc;obtain⟨v0,hv⟩:=sl.cells _ _ hm;refine wpAny_storeName_cell hk hl hc hv (λh' hc' hs'=>?_)
  have ns':=hn.sameBut hs' (Ne.symm (Zgp hn hv));refine q _ (.of_but (tk:=s.toks) hs' (Zfr hc') ht (.cell hv)) ⟨⟨_,ns'⟩,λn c hm'=>?_,sl.apart⟩ (.inr ⟨.inl hl,hd,a,hc,hc'⟩) ?_
  ·by_cases e:c=a
   ·subst e;exact⟨_,hc'⟩
   ·obtain⟨v,h⟩:=sl.cells n c hm';exact⟨v,h.sameBut hs' e⟩
  ·rintro y u hy (⟨h1,m',h2,h3⟩|⟨h1,h2,c,h3,h4⟩)
   ·exact .inl ⟨h1,m',h2.sameBut hs' (Ne.symm (Zgp h2 hv)),h3⟩
   ·refine .inr ⟨h1,h2,c,h3,h4.sameBut hs' λe=>hy (name_of_addr sl.apart (mem_of_lookup h3) (e▸hm))⟩
end
noncomputable def Inj(nm:Nat->Str):Prop:=∀x y,nm x=nm y->x=y
variable {nm:Nat->Str} {env:Env} {ρ:List (Nat×D)}
theorem Zav(x y:Nat)(d:D)(ρ:List (Nat×D)):lk x ((y,d)::ρ)=if x=y then some d else lk x ρ:=by
 show(match Nat.beq x y with|true=>some d|false=>lk x ρ)=_
 by_cases h:x=y
 ·rw[if_pos h,h,Hcm]
 ·rw[if_neg h];have:Nat.beq x y=false:=by
   cases q:Nat.beq x y with
   |false=>rfl
   |true=>exact absurd (Hb4 q) h
  rw[this]
theorem Zbs.store{x:Nat}{d:D}{v:Value}(hi:Inj nm)(h:Zbs σ nm N env s.heap ρ)(f:Zdk N N s.heap s'.heap)(hv:Zam env s'.heap (nm x) v)(hr:Rd σ N s'.heap v d)
  (ho:∀y u,y≠nm x->Zam env s.heap y u->Zam env s'.heap y u):Zbs σ nm N env s'.heap ((x,d)::ρ):=by
 intro y e hl hk;rw[Zav]at hl;by_cases hy:y=x
 ·rw[if_pos hy]at hl;cases hl;subst hy;exact⟨v,hv,hr⟩
 ·rw[if_neg hy]at hl;obtain⟨u,h1,h2⟩:=h y e hl hk;exact⟨u,ho _ u (λq=>hy (hi _ _ q)) h1,h2.mono f⟩
theorem Zam.upd{x:Str}{v:Value}(u:Upd T W s s')(h:Zam env s.heap x v)(h1:¬W env.locals)(h2:∀n c,(n,c)∈env.cells->¬W c):Zam env s'.heap x v:=by
 rcases h with⟨h3,m,h4,h5⟩|⟨h3,h4,c,h5,h6⟩
 ·exact .inl ⟨h3,m,u.ns h4 h1,h5⟩
 ·exact .inr ⟨h3,h4,c,h5,u.cell h6 (h2 _ _ (mem_of_lookup h5))⟩
theorem Zbs.upd(h:Zbs σ nm N env s.heap ρ)(u:Upd T W s s')(hw:∀a,W a->N a)(h1:¬W env.locals)(h2:∀n c,(n,c)∈env.cells->¬W c):Zbs σ nm N env s'.heap ρ:=by
 intro y e hl hk;obtain⟨v,h3,h4⟩:=h y e hl hk;exact⟨v,h3.upd u h1 h2,h4.mono (u.fits hw)⟩
variable {N2:Addr->Prop} {sc:List (Str×NameKind)} {ρ2:List (Nat×D)}
structure Rel(σ:Sg)(nm:Nat->Str)(N N2:Addr->Prop)(env:Env)(h:Heap)(ρ ρ2:List (Nat×D)):Prop where
 one:Zbs σ nm N env h ρ
 two:Zbs σ nm N2 env h (ρ++ρ2)
 sl:Zbj env h
theorem Zbj.ext{s':Shared}(sl:Zbj env s.heap)(x:Ext T s s'):Zbj env s'.heap:=sl.upd (x.upd (W:=λ_=>False)) (λh=>h) λ_ _ _ h=>h
theorem Zt5{x:Nat}{id:Str}(ok:Zcg env sc)(h:tOk nm sc id x=true):id=nm x/\(env.kindOf (nm x)=some .local\/env.kindOf (nm x)=some .cell):=by
 have e:=Hb5 (Zaa h).1;refine⟨e,?_⟩
 rw[ok.kindOf,←e];exact((Hb9 _ _).mp (Zaa h).2).imp Hb5 Hb5
noncomputable def Zlt(env:Env)(W:Addr->Prop)(T:Addr->Prop)(x:Str):Prop:=∃a,Zcw env x a/\W a/\¬T a
theorem Zvd{x:Nat}{d:D}{v:Value}{Q:Unit->Shared->Prop}(hk:env.scope.kind= .function)(hi:Inj nm)(sl:Zbj env s.heap)(hs:Zlt env W T (nm x))(rel:Rel σ nm N N2 env s.heap ρ ρ2)(hW:∀a,W a->N2 a)(hs2:∀a,N2 a->N a)
  (hr:Rd σ N s.heap v d)(q:∀s',Upd T W s s'->Zbj env s'.heap->Rel σ nm N N2 env s'.heap ((x,d)::ρ) ρ2->Q () s'):wpAny (model prog w) A (bindName env (nm x) v) Q E s:=by
 obtain⟨a,st,wa,ta⟩:=hs;refine Ha5 (Zlh hk sl st ta λs' u sl' hv ho=>?_)
 have f1:Zdk N N s.heap s'.heap:=u.fits λb q=>q▸hs2 _ (hW _ wa)
 have f2:Zdk N2 N2 s.heap s'.heap:=u.fits λb q=>q▸hW _ wa
 have hr':=hr.mono f1;refine q s' (u.mono λb q=>q▸wa) sl' ⟨rel.one.store hi f1 hv hr' ho,rel.two.store hi f2 hv (hr'.mono λa o n e c=>⟨λq=>n (hs2 a q),e⟩) ho,sl'⟩
theorem Zdl{x:Nat}{xs:List Nat}{ds:List D}{ρ ρ':List (Nat×D)}(h:bindL (x::xs) ds ρ=some ρ'):∃d r,ds=d::r/\bindL xs r ((x,d)::ρ)=some ρ':=by
 cases ds with
 |nil=>exact nS h
 |cons d r=>exact⟨d,r,rfl,h⟩
theorem Zeh{ds:List D}{ρ ρ':List (Nat×D)}(h:bindL [] ds ρ=some ρ'):ds=[]/\ρ=ρ':=by
 cases ds with
 |nil=>exact⟨rfl,sI h⟩
 |cons _ _=>exact nS h
theorem Zrz{M:Model}{A:Around}{E:Value->Shared->Prop}{Q:Unit->Shared->Prop}{s:Shared}{t:Value->Sem Unit}{ts:List (Value->Sem Unit)}{x:Value}{xs:List Value}(h:wpAny M A (holding xs (t x)) (λ_ s'=>wpAny M A (assignInOrder ts xs) Q E s') E s):wpAny M A (assignInOrder (t::ts) (x::xs)) Q E s:=Ha6 h
theorem Zyy(ok:Zcg env sc)(hi:Inj nm)(hW:∀a,W a->N2 a)(hs2:∀a,N2 a->N a)(es:List Expr):∀(xs:List Nat) (vs:List Value) (ds:List D) (ρ ρ':List (Nat×D)) (s:Shared) (Q:Unit->Shared->Prop),
  okL (λe x=>Zbt e λid=>tOk nm sc id x) es xs=true->(∀x∈xs,Zlt env W T (nm x))->
  bindL xs ds ρ=some ρ'->RdL σ N s.heap vs ds->Zbj env s.heap->Rel σ nm N N2 env s.heap ρ ρ2->
  (∀s',Upd T W s s'->Zbj env s'.heap->Rel σ nm N N2 env s'.heap ρ' ρ2->Q () s')->wpAny (model prog w) A (assignInOrder ((assignEach es env).map (·.2)) vs) Q E s:=by
 induction es with
 |nil=>
  intro xs vs ds ρ ρ' s Q hok _ hb rs sl rel q;rw[Zio hok]at hb;obtain⟨h1,h2⟩:=Zeh hb;rw[h1]at rs;rw[show vs=[]from rs.inv];exact Hau (q s .refl sl (h2▸rel))
 |cons e es ih=>
  intro xs vs ds ρ ρ' s Q hok hst hb rs sl rel q;obtain⟨x,xs,rfl,h1,h2⟩:=Zd2 hok;obtain⟨d,ds,rfl,hb⟩:=Zdl hb;obtain⟨v,vs,rfl,hr,rs2⟩:=rs.inv;obtain⟨id,pos,rfl,h1⟩:=Zbf h1;rw[(Zt5 ok h1).1];show wpAny _ A (assignInOrder (assign (.Name (nm x) pos) env::(assignEach es env).map (·.2)) (_::_)) Q E s;refine Zrz (Ha7 (Ha6 (Ha8 (Zvd ok.kind hi sl (hst x (.head _)) rel hW hs2 hr λs' u sl' rel'=>?_))))
  exact ih xs _ ds _ ρ' s' Q h2 (λy hy=>hst y (.tail _ hy)) hb (rs2.mono (u.fits λa wa=>hs2 _ (hW _ wa))) sl' rel' λs'' u'=>q s'' (u.trans u')
theorem Zjt{nm:Nat->Str}{sc:List (Str×NameKind)}(es:List Expr):∀(xs:List Nat),okL (λe x=>Zbt e λid=>tOk nm sc id x) es xs=true->
  (assignEach es env).length=xs.length/\(assignEach es env).findIdx? (·.1)=none:=by
 induction es with
 |nil=>exact λxs h=>by rw[Zio h];exact⟨rfl,rfl⟩
 |cons e es ih=>
  intro xs h;obtain⟨x,xs,rfl,h1,h3⟩:=Zd2 h;obtain⟨id,pos,rfl,_⟩:=Zbf h1;obtain⟨h1,h2⟩:=ih xs h3;refine⟨Hb6 Nat.succ h1,?_⟩
  show((false,assign (.Name id pos) env)::assignEach es env).findIdx? (·.1)=none;rw[List.findIdx?_cons,h2];rfl
theorem Zc7{xs:List Nat}:∀{ds:List D} {ρ ρ':List (Nat×D)},bindL xs ds ρ=some ρ'->xs.length=ds.length:=by
 induction xs with
 |nil=>exact λh=>by rw[(Zeh h).1];rfl
 |cons x xs ih=>
  intro ds ρ ρ' h;obtain⟨d,r,e,h⟩:=Zdl h;rw[e];exact Hb6 Nat.succ (ih h)
theorem Zs0{it t:Addr}{items:Array Value}(hne:t≠it)(n:Nat):∀(i:Nat) (s:Shared) (Q:List Value->Shared->Prop),s.heap.IsListIter it t i->s.heap.IsList t items->i+n<=items.size->
  (∀h',h'.IsListIter it t (i+n)->Heap.SameBut it s.heap h'->Q ((items.toList.drop i).take n) {s with heap:=h'})->wpAny (model prog w) A (draw (.ref it) n) Q E s:=by
 induction n with
 |zero=>exact λi s Q hit _ _ hQ=>Hau (hQ s.heap hit (Heap.SameBut.refl ..))
 |succ n ih=>
  intro i s Q hit ht hle hQ;have e:i+1+n=i+(n+1):=Nat.succ_add_eq_add_succ i n;have hlt:i<items.size:=Har (Nat.lt_add_of_pos_right (Nat.succ_pos n)) hle;refine Ha6 (wpAny_pyNext_list_item hit ht (x:=items[i]) (Hcg hlt) λh'1 hit1 hs'1=>?_)
  refine Ha6 (Ha7 (ih (i+1) _ _ hit1 (ht.extBut hs'1.extBut hne) (e▸hle) λh'2 hit2 hs'2=>Hau ?_))
  have:=hQ h'2 (e▸hit2) (hs'1.trans hs'2);rw[Hcv (show i<items.toList.length from hlt),List.take_succ_cons]at this;exact this
theorem Zhg{t:Addr}{items:Array Value}{Q:List Value->Shared->Prop}(hh:A.handled=none)(ht:s.heap.IsList t items)
  (hQ:∀h',Heap.ExtBut s.heap.objs.size s.heap h'->Q items.toList {s with heap:=h'}):wpAny (model prog w) A (unpackItems (.ref t) items.size none) Q E s:=by
 have hlt:t≠s.heap.objs.size:=by obtain⟨o,ho,_⟩:=ht;exact Ha9 (Haj ho)
 unfold unpackItems;refine Ha6 ?_
 ·unfold notIterableAtAll;refine Ha6 (wpAny_specialOf ht.typeIs slot_list_iter.lookup ?_)
  refine Hau ?_
  simp only[Bool.false_eq_true,if_false];refine Ha6 (Ha7 (wpAny_pyIter_list ht ?_))
  refine Ha6 (Ha7 (Zs0 hlt items.size 0 _ _ ⟨_,Hb7 _ rfl,rfl,rfl⟩ (ht.push _) (Han (Nat.zero_add _)) λh'1 hit1 hs'1=>?_))
  have hall:List.take items.size (List.drop 0 items.toList)=items.toList:=Hc2 (Hac _);rw[hall];rw[if_neg (by simp)]
  have ht1:h'1.IsList t items:=(ht.push _).extBut hs'1.extBut hlt;refine Ha6 (Ha7 (wpAny_pyNext_list_end hh hit1 ht1 (by simp) λh'2 he2=>?_))
  simp only[Option.isSome_none,Bool.false_eq_true,if_false];refine Hau (hQ h'2 λb o hb e=>he2 b o hb (hs'1.extBut b o hb (Hai _ e)))
theorem Zi3{t:Addr}{items:Array Value}{targets:List (Bool×(Value->Sem Unit))}{Q:Unit->Shared->Prop}(hh:A.handled=none)(ht:s.heap.IsList t items)
  (hn:targets.length=items.size)(hstar:targets.findIdx? (·.1)=none)
  (h:∀h',Heap.ExtBut s.heap.objs.size s.heap h'->wpAny (model prog w) A (assignInOrder (targets.map (·.2)) items.toList) Q E {s with heap:=h'}):
  wpAny (model prog w) A (unpack (.ref t) targets) Q E s:=by
 unfold unpack;rw[hn,hstar];exact Ha6 (Ha7 (Zhg hh ht h))
theorem Zr7{t:Expr}{xs:List Nat}{uni:Bool}{d:D}{v:Value}{ρ':List (Nat×D)}{Q:Unit->Shared->Prop}(hh:A.handled=none)(ok:Zcg env sc)(hi:Inj nm)(sl:Zbj env s.heap)(hst:∀x∈xs,Zlt env W T (nm x))
  (rel:Rel σ nm N N2 env s.heap ρ ρ2)(hW:∀a,W a->N2 a)(hs2:∀a,N2 a->N a)(hr:Rd σ N s.heap v d)(ht:Zbc nm sc t xs uni=true)(hb:Zhb xs uni d ρ=some ρ')
  (q:∀s',Upd T W s s'->Zbj env s'.heap->Rel σ nm N N2 env s'.heap ρ' ρ2->Q () s'):wpAny (model prog w) A (assign t env v) Q E s:=by
 cases uni with
 |true=>
  obtain⟨id,pos,rfl,ht⟩:=Zbf ht;obtain⟨x,rfl,ht⟩:=Zmo ht;rw[(Zt5 ok ht).1];exact Ha6 (Ha8 (Zvd ok.kind hi sl (hst x (.head _)) rel hW hs2 hr (sI hb▸q)))
 |false=>
  obtain⟨es,k,pos,rfl,ht⟩:=Zdx ht;obtain⟨h1,h2⟩:=Zjt (env:=env) es xs ht;have fin:∀{vs:List Value} {ds:List D} {h':Heap},RdL σ N s.heap vs ds->bindL xs ds ρ=some ρ'->Heap.ExtBut s.heap.objs.size s.heap h'->wpAny (model prog w) A (assignInOrder ((assignEach es env).map (·.2)) vs) Q E {s with heap:=h'}:=λ{vs ds h'} rs hb hx=>by
   have x:Ext T s {s with heap:=h'}:=.of_keeps (tk:=s.toks) λb o e=>hx b o (Ha9 (Haj e)) e
   exact Zyy ok hi hW hs2 es xs _ ds ρ ρ' _ Q ht hst hb (rs.mono x.fits) (sl.ext x) ⟨rel.one.ext x,rel.two.ext x,rel.sl.ext x⟩ λs' u sl' rel'=>q s' (x.upd.trans u) sl' rel'
  have hr:=hr.inv;cases d with
  |tup ds=>
   obtain⟨_,vs,_,rfl,hn,g,rs⟩:=hr;exact Ha6 (Ha8 (wpAny_unpack_tuple hh ⟨_,g,rfl,_,rfl⟩ (by rw[h1,Zc7 hb,Hb8,rs.length]) h2 λh' hx=>fin rs hb hx))
  |lst ds=>
   obtain⟨_,vs,_,rfl,hn,g,rs⟩:=hr;exact Ha6 (Ha8 (Zi3 hh ⟨_,g,rfl,_,rfl⟩ (by rw[h1,Zc7 hb,Hb8,rs.length]) h2 λh' hx=>fin rs hb hx))
  |_=>exact nS hb
structure It(prog:Program)(w:World)(A:Around)(T:Addr->Prop)(σ:Sg)(N:Addr->Prop)(tgt:Expr)(it:Value)(own:Addr->Prop)(ds:List D)(St:Nat->Heap->Prop):Prop where
 mine:∀a,own a->N a
 frame:∀i (s s':Shared) (W:Addr->Prop),St i s.heap->Upd T W s s'->(∀a,W a->N a/\¬own a)->St i s'.heap
 next:∀i (s:Shared) (E:Value->Shared->Prop),St i s.heap->i<=ds.length->wpAny (model prog w) A (pyNext it) (λr s'1=>match r with
  |none=>i=ds.length/\Zcq T own s s'1
  |some v=>wpAny (model prog w) A (letOwnedTupleGo tgt it v) (λ_ s'2=>∃d,ds[i]?=some d/\Upd T own s s'2/\St (i+1) s'2.heap/\Rd σ N s'2.heap v d) E s'1) E s
 self:∀i (s:Shared) (Q:Value->Shared->Prop) (E:Value->Shared->Prop),St i s.heap->Q it s->wpAny (model prog w) A (pyIter it) Q E s
theorem It.of_walks{tgt:Expr}{I:Addr}{fp wr:List Addr}{n:Nat}{P:Nat->Value->Prop}{St:Nat->Heap->Prop}{ds:List D}{X:Heap->Prop}(Wk:Walks prog w A I fp wr n P St)
  (hwr:∀b∈wr,b=I)(hfp:∀b∈fp,b=I\/¬N b)(hI:N I)(hT:¬T I)(hn:ds.length=n)(hX:∀h h',Zdk N N h h'->X h->X h')(hoc:∀i h,St i h->Occ h I/\Za9 h I)
  (hP:∀i v h,i<n->P i v->X h->∃d,ds[i]?=some d/\Rd σ N h v d)
  (hgo:∀i (s:Shared) v (Q:Unit->Shared->Prop) E,St i s.heap->Q () s->wpAny (model prog w) A (letOwnedTupleGo tgt (.ref I) v) Q E s):
  It prog w A T σ N tgt (.ref I) (·=I) ds (λi h=>St i h/\X h/\(∀b∈fp,Occ h b)) where
 mine:=λa e=>e▸hI
 frame:=by
  rintro i s s' W ⟨h1,h2,h3⟩ u hW
  refine⟨Wk.frame i _ _ h1 λb hb o e=>?_,hX _ _ (u.fits λa wa=>(hW a wa).1) h2,λb hb=>u.occ b (h3 b hb)⟩
  obtain⟨o',e',t⟩:=h3 b hb;rw[e]at e';cases e';refine u.keep2 b o (λwb=>?_) e t
  rcases hfp b hb with rfl|hnb
  ·exact(hW _ wb).2 rfl
  ·exact hnb (hW b wb).1
 next:=by
  rintro i s E ⟨h1,h2,h3⟩ hi
  by_cases hlt:i<n
  ·refine Wk.item i s _ _ hlt h1 λv h' tk hPv hst hk=>?_
   have ho:=(hoc _ _ hst).1;have hnc:=(hoc _ _ h1).2;have u:Upd T (·=I) s {s with heap:=h',toks:=tk}:=by
    refine⟨λb o _ hb e=>hk b o (λm=>hb (hwr b m)) e,λb o hb e _=>hk b o (λm=>hb (hwr b m)) e,λb ⟨o,e,t⟩=>?_,λb tb t=>t.keep (λc o co e=>hk c o (λm=>(hwr c m▸hnc).absurd co e) e) (λo e=>hk b _ (λm=>hT (hwr b m▸tb)) e),λe=>e,rfl⟩
    by_cases q:b=I
    ·rw[q];exact ho
    ·exact⟨o,hk b o (λm=>q (hwr b m)) e,t⟩
   have hX':=hX _ _ (u.fits λa e=>e▸hI) h2
   obtain⟨d,hd,hr⟩:=hP i v h' hlt hPv hX';refine hgo (i+1) _ v _ _ hst ?_
   exact⟨d,hd,u,⟨hst,hX',λb hb=>u.occ b (h3 b hb)⟩,hr⟩
  ·obtain rfl:i=n:=Ham (hn▸hi) (Hah hlt);exact Wk.done s _ _ h1 λh' tk hk=>⟨hn.symm,λb o _ hb e=>hk b o (λm=>hb (hwr b m)) e,λb o hb e _=>hk b o (λm=>hb (hwr b m)) e,
    λb tb t=>t.keep (λc o co e=>hk c o (λm=>(hwr c m▸(hoc _ _ h1).2).absurd co e) e) (λo e=>hk b _ (λm=>hT (hwr b m▸tb)) e),λe=>e,rfl⟩
 self:=λi s Q E st q=>Wk.self i s Q E st.1 q
noncomputable def Zgu:List String:=["enumerate","zip","dict_itemiterator","dict_reverseitemiterator","odict_iterator","itertools.zip_longest","itertools.pairwise"]
set_option tactic.hygienic true in
theorem Zez{tgt:Expr}{I:Addr}{o:Obj}{n:String}{v:Value}{Q:Unit->Shared->Prop}(ho:s.heap.get? I=some o)(hc:o.cls= .type n)(hn:Zgu.contains n=false)(q:Q () s):
  wpAny (model prog w) A (letOwnedTupleGo tgt (.ref I) v) Q E s:=by
 have main:∀a,wpAny (model prog w) A (do
   let o ←load I
   match o.cls,o.data with
   | .type n,.fields vs=>
    if Zgu.contains n&&vs[0]?==some (rawInt a)then
     rule "for.unpacks-the-owned-tuple"
     updateField I 0 .none
   |_,_=>pure ()) Q E s:=by
  intro a;refine Ha6 (wpAny_load ho ?_)
  rw[hc];split
  ·rename_i m vs h1 h2;cases h1;rw[hn,Bool.false_and,if_neg Hca];exact Hau q
  ·exact Hau q
 unfold letOwnedTupleGo;cases tgt with
 |Tuple _ _ _=>cases v with
  |ref a=>exact main a
  |_=>exact Hau q
 |List _ _=>cases v with
  |ref a=>exact main a
  |_=>exact Hau q
 |_=>exact Hau q
noncomputable def Zcr(prog:Program)(w:World)(T:Addr->Prop)(σ:Sg)(N:Addr->Prop)(x:Value)(ds:List D)(s'1:Shared):Prop:=
 ∀(A:Around) (E:Value->Shared->Prop) (Q:Value->Shared->Prop),A.handled=none->
  (∀it s'2 I,Ext T s'1 s'2->s'1.heap.get? I=none->Occ s'2.heap I->
   (∀(A':Around) (tgt:Expr) (N':Addr->Prop),A'.handled=none->(∀a,N a->N' a)->N' I->Zdk N N' s'1.heap s'2.heap->∃St,It prog w A' T σ N' tgt it (·=I) ds St/\St 0 s'2.heap)->Q it s'2)->
  wpAny (model prog w) A (pyIter x) Q E s'1
theorem Zae{h:Heap}{a:Addr}(ha:h.objs.size<=a):h.get? a=none:=by
 cases e:h.get? a with
 |none=>rfl
 |some o=>exact absurd (Haj e) (Nat.not_lt.mpr ha)
theorem Zfz{a:Addr}{vs:List Value}{n:Nat}{ds:List D}(hT:∀a,T a->a<s.heap.objs.size)(hn:¬N a)(g:s.heap.get? a=some (Za3 vs.toArray n))(rs:RdL σ N s.heap vs ds):
  Zcr prog w T σ N (.ref a) ds s:=by
 intro A E Q hA q;refine wpAny_pyIter_list (items:=vs.toArray) ⟨_,g,rfl,n,rfl⟩ ?_
 have ha:a≠s.heap.objs.size:=Ha9 (Haj g);have hI:(s.heap.push {cls:=.type "list_iterator",data:=.fields #[.ref a,.int 0 0]}).get? s.heap.objs.size=some {cls:=.type "list_iterator",data:=.fields #[.ref a,.int 0 0]}:=Hb7 _ rfl;have hA:(s.heap.push {cls:=.type "list_iterator",data:=.fields #[.ref a,.int 0 0]}).get? a=some (Za3 vs.toArray n):=Hai _ g;refine q (.ref s.heap.objs.size) {s with heap:=s.heap.push {cls:=.type "list_iterator",data:=.fields #[.ref a,.int 0 0]}} s.heap.objs.size (.push (tk:=s.toks)) (Zae (Hac _)) ⟨_,hI,rfl⟩ ?_
 intro A' tgt N' hA' hNN hNI hf;have W:=Walks.list (prog:=prog) (w:=w) hA' s.heap.objs.size a ha vs.toArray;refine⟨_,It.of_walks (X:=λh=>RdL σ N' h vs ds) (tgt:=tgt) W (λb hb=>by simpa using hb) (λb hb=>?_) hNI (λht=>Hao _ (hT _ ht)) ?_ (λh h' f=>RdL.mono f) ?_ ?_ ?_,?_⟩
 ·rcases jC hb with rfl|hb
  ·exact .inl rfl
  ·cases List.mem_singleton.mp hb;exact .inr (hf _ _ hn g rfl).1
 ·rw[Hb8,rs.length]
 ·rintro i h ⟨⟨o,e,hc,hd⟩,_⟩
  exact⟨⟨o,e,Zag ⟨_,hc⟩⟩,.of e (Zci (by rw[hd];rfl))⟩
 ·intro i v h hi hp hr;obtain⟨d,h1,h2⟩:=hr.getV (v:=v) (i:=i) (by simpa using hp)
  exact⟨d,h1,h2⟩
 ·rintro i s' v Q' E' ⟨⟨o,e,hc,hd⟩,_⟩ hq
  exact Zez e hc (by decide) hq
 ·refine⟨⟨⟨_,hI,rfl,rfl⟩,⟨_,hA,rfl,n,rfl⟩⟩,rs.mono hf,λb hb=>?_⟩
  rcases jC hb with rfl|hb
  ·exact⟨_,hI,rfl⟩
  ·cases List.mem_singleton.mp hb;exact⟨_,hA,rfl⟩
theorem Zjf{a:Addr}{vs:List Value}{n:Nat}{ds:List D}(hT:∀a,T a->a<s.heap.objs.size)(hn:¬N a)(g:s.heap.get? a=some (Zcv vs.toArray n))(rs:RdL σ N s.heap vs ds):
  Zcr prog w T σ N (.ref a) ds s:=by
 intro A E Q hA q;refine wpAny_pyIter_tuple (items:=vs.toArray) ⟨_,g,rfl,n,rfl⟩ ?_
 have ha:a≠s.heap.objs.size:=Ha9 (Haj g);have hI:(s.heap.push {cls:=.type "tuple_iterator",data:=.fields #[.ref a,.int 0 0]}).get? s.heap.objs.size=some {cls:=.type "tuple_iterator",data:=.fields #[.ref a,.int 0 0]}:=Hb7 _ rfl;have hA:(s.heap.push {cls:=.type "tuple_iterator",data:=.fields #[.ref a,.int 0 0]}).get? a=some (Zcv vs.toArray n):=Hai _ g;refine q (.ref s.heap.objs.size) {s with heap:=s.heap.push {cls:=.type "tuple_iterator",data:=.fields #[.ref a,.int 0 0]}} s.heap.objs.size (.push (tk:=s.toks)) (Zae (Hac _)) ⟨_,hI,rfl⟩ ?_
 intro A' tgt N' hA' hNN hNI hf;have W:=Walks.tuple (prog:=prog) (w:=w) hA' s.heap.objs.size a ha vs.toArray;refine⟨_,It.of_walks (X:=λh=>RdL σ N' h vs ds) (tgt:=tgt) W (λb hb=>by simpa using hb) (λb hb=>?_) hNI (λht=>Hao _ (hT _ ht)) ?_ (λh h' f=>RdL.mono f) ?_ ?_ ?_,?_⟩
 ·rcases jC hb with rfl|hb
  ·exact .inl rfl
  ·cases List.mem_singleton.mp hb;exact .inr (hf _ _ hn g rfl).1
 ·rw[Hb8,rs.length]
 ·rintro i h ⟨⟨o,e,hc,hd⟩,_⟩
  exact⟨⟨o,e,Zag ⟨_,hc⟩⟩,.of e (Zci (by rw[hd];rfl))⟩
 ·intro i v h hi hp hr;obtain⟨d,h1,h2⟩:=hr.getV (v:=v) (i:=i) (by simpa using hp)
  exact⟨d,h1,h2⟩
 ·rintro i s' v Q' E' ⟨⟨o,e,hc,hd⟩,_⟩ hq
  exact Zez e hc (by decide) hq
 ·refine⟨⟨⟨_,hI,rfl,rfl⟩,⟨_,hA,rfl,n,rfl⟩⟩,rs.mono hf,λb hb=>?_⟩
  rcases jC hb with rfl|hb
  ·exact⟨_,hI,rfl⟩
  ·cases List.mem_singleton.mp hb;exact⟨_,hA,rfl⟩
theorem Zme{x:Str}{t:Tok}{cs:List Nat}(hT:∀a,T a->a<s.heap.objs.size)(hx:x.cps.toList=cs):Zcr prog w T σ N (.str x t) (cs.map λc=>D.str [c]) s:=by
 intro A E Q hA q;have main:∀(nm:String) (o:Obj),o.cls= .type nm->Zgu.contains nm=false->
   (∀(A':Around),A'.handled=none->Walks prog w A' s.heap.objs.size [s.heap.objs.size] [s.heap.objs.size] x.cps.size (SignAt x) (λi h=>h.IsStrIter s.heap.objs.size nm x t i))->
   (s.heap.push o).IsStrIter s.heap.objs.size nm x t 0->(s.heap.push o).get? s.heap.objs.size=some o->Q (.ref s.heap.objs.size) {s with heap:=s.heap.push o}:=by
  intro nm o hc ho hW h0 hI;refine q (.ref s.heap.objs.size) {s with heap:=s.heap.push o} s.heap.objs.size (.push (tk:=s.toks)) (Zae (Hac _)) ⟨_,hI,Zag ⟨_,hc⟩⟩ ?_
  intro A' tgt N' hA' hNN hNI hf;refine⟨_,It.of_walks (X:=λ_=>True) (tgt:=tgt) (hW A' hA') (λb hb=>by simpa using hb) (λb hb=>.inl (by simpa using hb)) hNI (λht=>Hao _ (hT _ ht)) ?_ (λ_ _ _ h=>h) ?_ ?_ ?_,?_⟩
  ·rw[←hx];simp
  ·rintro i h ⟨o,e,hc,hd⟩
   exact⟨⟨o,e,Zag ⟨_,hc⟩⟩,.of e (Zci (by rw[hd];rfl))⟩
  ·rintro i v h hi ⟨c,u,hc,rfl⟩ _
   refine⟨.str [c],?_,.str rfl⟩
   rw[List.getElem?_map,←hx,Array.getElem?_toList,hc]
   rfl
  ·rintro i s' v Q' E' ⟨o,e,hc,_⟩ hq
   exact Zez e hc ho hq
  ·refine⟨h0,trivial,λb hb=>?_⟩
   cases List.mem_singleton.mp hb;exact⟨_,hI,Zag ⟨_,hc⟩⟩
 cases ha:x.cps.all (· <128)
 ·exact wpAny_pyIter_wide ha (main _ _ rfl (by decide) (λA' hA=>Walks.strWide hA _ x t) ⟨_,Hb7 _ rfl,rfl,rfl⟩ (Hb7 _ rfl))
 ·exact wpAny_pyIter_ascii ha (main _ _ rfl (by decide) (λA' hA=>Walks.strAscii hA _ x t) ⟨_,Hb7 _ rfl,rfl,rfl⟩ (Hb7 _ rfl))
theorem Zjz:∀{n:Nat} {lo st:Int} {i:Nat},i<n->(Ze8 lo st n)[i]?=some (Zsd (lo+i*st))
 |n+1,lo,st,0,_=>by show some (Zsd lo)=_;rw[show((0:Nat):Int)=0 from rfl,Int.zero_mul,Int.add_zero]
 |n+1,lo,st,i+1,h=>by
  rw[show Ze8 lo st (n+1)=Zsd lo::Ze8 (lo+st) st n from rfl,List.getElem?_cons_succ,Zjz (show i<n from ln2 (.a (.v 0) (.k 1)) (.v 1) [(1,.a (.a (.v 0) (.k 1)) (.k 1),.a (.v 1) (.k 1))] rfl h)]
  congr 2
  push_cast
  rw[Int.add_mul];exact(Haf (li [_,_,_] [] (.a (.a (.v 0) (.v 1)) (.v 2)) (.a (.v 0) (.a (.v 2) (.m 1 (.v 1)))) [] rfl) (li [_,_,_] [] (.a (.v 0) (.a (.v 2) (.m 1 (.v 1)))) (.a (.a (.v 0) (.v 1)) (.v 2)) [] rfl))
theorem Zf7:∀{n:Nat} {lo st:Int},(Ze8 lo st n).length=n
 |0,_,_=>rfl
 |n+1,lo,st=>Hb6 Nat.succ Zf7
theorem Zje{r:Addr}{a b c:Int}{t u v:Tok}{n:Nat}(hT:∀a,T a->a<s.heap.objs.size)(hr:IsRange s.heap r a b c t u v)(hs:Builtin.Range.small a b c=true)(hn:Builtin.Range.rangeSize a b c=n):
  Zcr prog w T σ N (.ref r) (Ze8 a c n) s:=by
 intro A E Q hA q;refine wpAny_pyIter_range hr hs ?_
 rw[hn];have hI:(s.heap.push {cls:=.type "range_iterator",data:=.fields #[rawInt a,rawInt n,rawInt c]}).get? s.heap.objs.size=some {cls:=.type "range_iterator",data:=.fields #[rawInt a,rawInt n,rawInt c]}:=Hb7 _ rfl;refine q (.ref s.heap.objs.size) {s with heap:=s.heap.push {cls:=.type "range_iterator",data:=.fields #[rawInt a,rawInt n,rawInt c]}} s.heap.objs.size (.push (tk:=s.toks)) (Zae (Hac _)) ⟨_,hI,rfl⟩ ?_
 intro A' tgt N' hA' hNN hNI hf;have W:=Walks.range (prog:=prog) (w:=w) hA' s.heap.objs.size a c n;refine⟨_,It.of_walks (X:=λ_=>True) (tgt:=tgt) W (λb hb=>by simpa using hb) (λb hb=>.inl (by simpa using hb)) hNI (λht=>Hao _ (hT _ ht)) Zf7 (λ_ _ _ h=>h) ?_ ?_ ?_,?_⟩
 ·intro i h e;exact⟨⟨_,e,rfl⟩,.of e rfl⟩
 ·rintro i v h hi ⟨t,rfl⟩ _
  exact⟨_,Zjz hi,.int rfl⟩
 ·intro i s' v Q' E' e hq;exact Zez e rfl (by decide) hq
 ·refine⟨?_,trivial,λb hb=>?_⟩
  ·have e1:a+((0:Nat):Int)*c=a:=by simp
   have e2:(n:Int)-((0:Nat):Int)=n:=by simp
   rw[e1,e2];exact hI
  ·cases List.mem_singleton.mp hb;exact⟨_,hI,rfl⟩
noncomputable abbrev Yhk(ifs:List Expr)(env:Env):Sem Bool:=forIn ifs true λc r=>if r=true then do let ok ←isTrue c env (eval c env);pure (ForInStep.yield ok)else pure (ForInStep.yield r)
theorem Zjj{elt:Expr}{gens:List Comprehension}{scope:Scope}{pos:Pos}{depth:Nat}{it acc:Value}{target iter:Expr}{ifs:List Expr}{Q:Fin->Shared->Prop}
  (hg:gens[depth]?=some ⟨target,iter,ifs,0⟩)
  (hn:∀g,gens[depth+1]?=some g->g.is_async=0/\∀x,foldedSetIterable g.iter env x=pure x)
  (h:wpAny (model prog w) A (pyNext it) (λr s'1=>match r with
   |none=>Q (.done .next) s'1
   |some v=>wpAny (model prog w) A (letOwnedTupleGo target it v) (λ_ s'2=>wpAny (model prog w) A (assign target env v) (λ_ s3=>wpAny (model prog w) A (Yhk ifs env) (λok s4=>
     if ok=true then
      (match gens[depth+1]? with
      |none=>wpAny (model prog w) A (eval elt env) (λx s'5=>wpAny (model prog w) A (call (.builtin "list.append") [acc,x]) (λ_ s6=>Q (.again (.compLoop (.ListComp elt gens scope pos) depth it acc env)) s6) E s'5) E s4
      |some g=>wpAny (model prog w) A (eval g.iter env) (λx s'5=>wpAny (model prog w) A (pyIter x) (λit' s6=>
        wpAny (model prog w) A (runOwn (.compStart (.ListComp elt gens scope pos) (depth+1) it' acc env) env) (λ_ s7=>Q (.again (.compLoop (.ListComp elt gens scope pos) depth it acc env)) s7) E s6) E s'5) E s4)
     else Q (.again (.compLoop (.ListComp elt gens scope pos) depth it acc env)) s4) E s3) E s'2) E s'1) E s):
  wpAny (model prog w) A (compTurn (.ListComp elt gens scope pos) depth it acc env) Q E s:=by
 unfold compTurn;dsimp only;rw[hg];dsimp only;refine Ha6 (Ha8 (Ha6 ?_))
 refine Ha4 h (λr s'1 h'1=>?_) λ_ _ e=>e
 cases r with
 |none=>exact Hau h'1
 |some v=>
  refine Ha6 (Ha4 h'1 (λ_ s'2 h'2=>?_) λ_ _ e=>e)
  refine Ha6 (Ha4 h'2 (λ_ s3 h'3=>?_) λ_ _ e=>e)
  refine Ha6 (Ha4 h'3 (λok s4 h'4=>?_) λ_ _ e=>e)
  cases ok with
  |false=>exact Hau h'4
  |true=>
   cases hg':gens[depth+1]? with
   |none=>
    rw[hg']at h'4;refine Ha6 (Ha6 (Ha4 h'4 (λx s'5 h'5=>?_) λ_ _ e=>e))
    exact Ha6 (Ha4 h'5 (λ_ s6 h'6=>Hau (Hau h'6)) λ_ _ e=>e)
   |some g=>
    rw[hg']at h'4;obtain⟨ha,hf⟩:=hn g hg';refine Ha6 (Ha4 h'4 (λx s'5 h'5=>?_) λ_ _ e=>e)
    refine Ha6 (Ha8 ?_)
    have ha':(g.is_async != 0)=false:=by rw[ha];rfl
    rw[ha',if_neg Hca];refine Ha6 (wpAny_of_eq (hf x) ?_)
    rw[if_neg Hca];refine Ha6 (Ha7 (Ha4 h'5 (λit' s6 h'6=>?_) λ_ _ e=>e))
    exact Ha6 (Ha4 h'6 (λ_ s7 h'7=>Hau h'7) λ_ _ e=>e)
theorem Zco{elt:Expr}{gens:List Comprehension}{scope:Scope}{pos:Pos}{g:Comprehension}{depth:Nat}{it acc:Value}{R:Result->Shared->Prop}(hg:gens[depth]?=some g)(ha:g.is_async=0)
  (h0:codeAny (model prog w) A (.compLoop (.ListComp elt gens scope pos) depth it acc env) R s)
  (h:wpAny (model prog w) A (pyIter it) (λit' s'=>codeAny (model prog w) A (.compLoop (.ListComp elt gens scope pos) depth it' acc env) R s')
   (notedBy (model prog w) A env λx s'=>R (.error x) s') s):
  codeAny (model prog w) A (.compStart (.ListComp elt gens scope pos) depth it acc env) R s:=by
 refine codeAny_of_tree ?_
 show wpAny _ _ ((compStart (.ListComp elt gens scope pos) depth it acc env).onRaise (λx=>do noteFrame x env;standAt theWindowsPlace)) _ _ s
 rw[show A.under (Code.compStart (.ListComp elt gens scope pos) depth it acc env)=A from Around.under_of_weight rfl];refine wpAny_notedAt ?_
 unfold compStart;have hg':(clausesOf (.ListComp elt gens scope pos))[depth]?=some g:=hg;rw[hg'];have ha':¬((g.is_async != 0)=true):=by rw[ha];decide
 show wpAny _ _ (if(g.is_async != 0)=true then _ else _) _ _ s
 rw[if_neg ha'];refine Ha6 (wpAny_askSetting (wpAny_ite ?_))
 split
 ·exact Hau (And.intro rfl h0)
 ·exact Ha6 (wpAny_rule (Ha6 (Ha8 (Ha6 (Ha4 h (λit' s' h'=>Hau (And.intro rfl h')) λ_ _ x=>x)))))
noncomputable def Za2(env:Env):List (Str×NameKind)->List (Str×Addr)->List (Str×Addr)
 |[],acc=>acc
 |p::r,acc=>bI (p.2==.free) (oE (env.cells.lookup p.1) acc λc=>Za2 env r ((p.1,c)::acc)) (Za2 env r acc)
theorem Zev{env:Env}{n:Str}{k:NameKind}{r:List (Str×NameKind)}{acc:List (Str×Addr)}:Za2 env ((n,k)::r) acc=bI (k==.free) (oE (env.cells.lookup n) acc λc=>Za2 env r ((n,c)::acc)) (Za2 env r acc):=rfl
section
variable {M:Model} {A:Around} {E:Value->Shared->Prop} {s:Shared} {env:Env} {sc:List (Str×NameKind)}
theorem Zej(f:Str×NameKind->List (Str×Addr)->Sem (ForInStep (List (Str×Addr))))(hf:∀n k acc,f (n,k) acc=if k==.free then(do let c ←cellOf env n;pure (.yield ((n,c)::acc)))else pure (.yield acc)):
  ∀(names:List (Str×NameKind)) (acc:List (Str×Addr)),(∀n k,(n,k)∈names->k= .free->∃c,env.cells.lookup n=some c)->forIn names acc f=pure (Za2 env names acc)
 |[],acc,_=>rfl
 |(n,k)::r,acc,h=>by
  rw[List.forIn_cons,hf];rw[Zev];cases hk:k==.free with
  |false=>
   rw[if_neg Hca];show(pure _ >>= _)=_;rw[pure_bind];exact Zej f hf r acc λn' k' hm=>h n' k' (.tail _ hm)
  |true=>
   obtain⟨c,hc⟩:=h n k (.head _) (Hb5 hk);rw[if_pos rfl,hc];have:cellOf env n=pure c:=by unfold cellOf;rw[hc]
   rw[this,pure_bind];show(pure _ >>= _)=_;rw[pure_bind];exact Zej f hf r _ λn' k' hm=>h n' k' (.tail _ hm)
theorem Zfs{scope:Scope}(h:∀n k,(n,k)∈scope.names->k= .free->∃c,env.cells.lookup n=some c):closureFor scope env=pure (Za2 env scope.names []):=by
 unfold closureFor;show(forIn scope.names [] _ >>= _)=_;rw[Zej (env:=env) _ (λn k acc=>by cases hk:k==NameKind.free<;>simp[hk]) scope.names [] h]
 rfl
set_option tactic.hygienic true in
theorem Zew:∀(names:List (Str×NameKind)) (acc:List (Str×Addr)) (n:Str) (c:Addr),(n,c)∈Za2 env names acc->(n,c)∈acc\/(∃k,(n,k)∈names/\k= .free)/\env.cells.lookup n=some c
 |[],acc,n,c,h=>.inl h
 |(m,k)::r,acc,n,c,h=>by
  rw[Zev]at h;cases hk:k==.free with
  |false=>
   rw[hk]at h;rcases Zew r acc n c h with h|⟨⟨k',h1,h2⟩,h3⟩
   ·exact .inl h
   ·exact .inr ⟨⟨k',.tail _ h1,h2⟩,h3⟩
  |true=>
   rw[hk]at h;cases hc':env.cells.lookup m with
   |none=>rw[hc']at h;exact .inl h
   |some c'=>
    rw[hc']at h;rcases Zew r _ n c h with h|⟨⟨k',h1,h2⟩,h3⟩
    ·rcases jC h with e|h
     ·cases e;exact .inr ⟨⟨k,.head _,Hb5 hk⟩,hc'⟩
     ·exact .inl h
    ·exact .inr ⟨⟨k',.tail _ h1,h2⟩,h3⟩
theorem Zc2{scope:Scope}{globals:Addr}{cl:List (Str×Addr)}{qual:Str}{Q:Env->Shared->Prop}
  (hQ:Q {scope,locals:=s.heap.objs.size,globals,cells:=cellsFrom (s.heap.objs.size+1) scope.names cl,qual,func:=none,code:=env.code,frame:=env.frame,builtins:=env.builtins}
   {s with heap:=pushCells (s.heap.push {cls:=.type "dict",data:=.dict #[]}) scope.names}):
  wpAny M A (newFunctionEnv scope globals cl [] qual none .none (some env)) Q E s:=by
 simp only[newFunctionEnv,Option.isSome_some,if_true];refine Ha6 (wpAny_alloc ?_)
 refine Ha6 (wpAny_layCells _ (λname kind cells=>by cases hkc:kind==NameKind.cell<;>simp[hkc]) _ _ _ _ ?_)
 rw[show({s with heap:=s.heap.push {cls:=.type "dict",data:=.dict #[]}}:Shared).heap.objs.size=s.heap.objs.size+1 from Hcx ..]
 rw[List.forIn_nil];exact Ha6 (Hau (Hau hQ))
theorem Zdt:∀(names:List (Str×NameKind)) (k:Nat) (acc:List (Str×Addr)) (n:Str) (c:Addr),(n,c)∈cellsFrom k names acc->(n,c)∈acc\/((n,NameKind.cell)∈names/\k<=c)
 |[],k,acc,n,c,h=>.inl h
 |(m,kind)::r,k,acc,n,c,h=>by
  unfold cellsFrom at h;split at h
  ·rename_i hk;rcases Zdt r _ _ n c h with h|⟨h1,h2⟩
   ·rcases jC h with e|h
    ·cases e;rw[Hb5 hk];exact .inr ⟨.head _,Hac _⟩
    ·exact .inl h
   ·exact .inr ⟨.tail _ h1,Hba h2⟩
  ·rcases Zdt r k acc n c h with h|⟨h1,h2⟩
   ·exact .inl h
   ·exact .inr ⟨.tail _ h1,h2⟩
end
theorem Zda{sc:List (Str×NameKind)}{n:Str}:∀{ns:List (Str×NameKind)},(Ze5 sc ns).lookup n=(ns.lookup n).map λk=>if k==.free&&sc.lookup n==some .cell then .cell else k
 |[]=>rfl
 |(m,k)::r=>by
  have ih:=Zda (sc:=sc) (n:=n) (ns:=r);have hh:Ze5 sc ((m,k)::r)=(if k==.free&&sc.lookup m==some .cell then(m,.cell)else(m,k))::Ze5 sc r:=rfl
  rw[hh,Hcq];by_cases hc:(k==.free&&sc.lookup m==some .cell)=true
  ·rw[if_pos hc,Hcq];cases hn:n==m with
   |true=>
    cases Hb5 hn;show some NameKind.cell=some (if(k==.free&&sc.lookup n==some .cell)=true then .cell else k)
    rw[if_pos hc]
   |false=>exact ih
  ·rw[if_neg hc,Hcq];cases hn:n==m with
   |true=>
    cases Hb5 hn;show some k=some (if(k==.free&&sc.lookup n==some .cell)=true then .cell else k)
    rw[if_neg hc]
   |false=>exact ih
theorem Zba{sc:List (Str×NameKind)}:∀{ns:List (Str×NameKind)},Zeq sc ns=true->
  (∀n k,(n,k)∈ns->(k= .free->sc.lookup n=some .cell\/sc.lookup n=some .free)/\n≠("__classdict__":Str)/\ns.lookup n=some k)/\ns.Pairwise (λp q=>p.1≠q.1)
 |[],_=>⟨λ_ _ h=>(nomatch h),.nil⟩
 |(m,k)::r,h=>by
  have h:=Zaa h;have h1:=Zaa h.1;have h2:=Zaa h1.1;obtain⟨ih1,ih2⟩:=Zba (sc:=sc) (ns:=r) h.2;have hne:∀p∈r,m≠p.1:=by
   intro p hp e;have:=h2.2;simp only[Hcb,List.any_eq_false]at this;exact this p hp (by rw[e];exact Hcl _)
  refine⟨λn k' hm=>?_,List.pairwise_cons.mpr ⟨hne,ih2⟩⟩
  rcases jC hm with e|hm
  ·cases e;refine⟨λhk=>?_,by simpa using h1.2,by rw[Hcq,Hcl]⟩
   subst hk;rcases(Hb9 _ _).mp h2.1 with q|q
   ·rcases(Hb9 _ _).mp q with q|q
    ·cases q
    ·exact .inl (Hb5 q)
   ·exact .inr (Hb5 q)
  ·obtain⟨a,b,c⟩:=ih1 n k' hm;refine⟨a,b,?_⟩
   rw[Hcq];have:(n==m)=false:=by
    cases q:n==m with
    |false=>rfl
    |true=>exact absurd (Hb5 q).symm (hne _ hm)
   rw[this];exact c
theorem Za5{n:Str}:∀(names:List (Str×NameKind)) (k:Nat) (acc:List (Str×Addr)),(∀kd,(n,kd)∈names->kd≠.cell)->(cellsFrom k names acc).lookup n=acc.lookup n
 |[],_,_,_=>rfl
 |(m,kind)::r,k,acc,h=>by
  unfold cellsFrom;split
  ·rename_i hk;rw[Za5 r _ _ λkd hm=>h kd (.tail _ hm),Hcq]
   have:(n==m)=false:=by
    cases q:n==m with
    |false=>rfl
    |true=>exact absurd (Hb5 hk) (h kind (by rw[Hb5 q];exact .head _))
   rw[this]
  ·exact Za5 r _ _ λkd hm=>h kd (.tail _ hm)
theorem Zap{n:Str}:∀(names:List (Str×NameKind)) (k:Nat) (acc:List (Str×Addr)),names.Pairwise (λp q=>p.1≠q.1)->(n,NameKind.cell)∈names->∃c:Nat,(cellsFrom k names acc).lookup n=some c/\k<=c/\c<k+names.length
 |(m,kind)::r,k,acc,hp,hm=>by
  obtain⟨h1,h2⟩:=List.pairwise_cons.mp hp;unfold cellsFrom;rcases jC hm with e|hm
  ·cases e;rw[if_pos (show(NameKind.cell==NameKind.cell)=true from rfl),Za5 r _ _ λkd hm=>(h1 (n,kd) hm rfl).elim,Hcq,Hcl]
   exact⟨k,rfl,Hac _,by rw[Hci];exact(ln2 (.a (.v 0) (.k 1)) (.a (.v 0) (.a (.v 1) (.k 1))) [] rfl)⟩
  ·split
   ·obtain⟨c,h3,h4,h5⟩:=Zap r (k+1) ((m,k)::acc) h2 hm;exact⟨c,h3,(ln2 (.v 0) (.v 1) [(1,.a (.v 0) (.k 1),.v 1)] rfl h4),by rw[Hci];exact(ln3 (.a (.v 0) (.k 1)) (.a (.v 1) (.a (.v 2) (.k 1))) [(1,.a (.v 0) (.k 1),.a (.a (.v 1) (.k 1)) (.v 2))] rfl h5)⟩
   ·obtain⟨c,h3,h4,h5⟩:=Zap r k acc h2 hm;exact⟨c,h3,h4,by rw[Hci];exact(ln3 (.a (.v 0) (.k 1)) (.a (.v 1) (.a (.v 2) (.k 1))) [(1,.a (.v 0) (.k 1),.a (.v 1) (.v 2))] rfl h5)⟩
theorem Zb8{env:Env}{n:Str}:∀(names:List (Str×NameKind)) (acc:List (Str×Addr)),(∀kd,(n,kd)∈names->kd≠.free)->(∀m k,(m,k)∈names->k= .free->∃c,env.cells.lookup m=some c)->
  (Za2 env names acc).lookup n=acc.lookup n
 |[],_,_,_=>rfl
 |(m,kind)::r,acc,h,hf=>by
  rw[Zev];cases hk:kind==.free with
  |true=>
   obtain⟨c,hc⟩:=hf m kind (.head _) (Hb5 hk);rw[hc];show(Za2 env r ((m,c)::acc)).lookup n=_;rw[Zb8 r _ (λkd hm=>h kd (.tail _ hm)) λm' k' hm=>hf m' k' (.tail _ hm),Hcq]
   have:(n==m)=false:=by
    cases q:n==m with
    |false=>rfl
    |true=>exact absurd (Hb5 hk) (h kind (by rw[Hb5 q];exact .head _))
   rw[this]
  |false=>exact Zb8 r _ (λkd hm=>h kd (.tail _ hm)) λm' k' hm=>hf m' k' (.tail _ hm)
theorem Zdu{env:Env}{n:Str}{c:Addr}:∀(names:List (Str×NameKind)) (acc:List (Str×Addr)),names.Pairwise (λp q=>p.1≠q.1)->(n,NameKind.free)∈names->env.cells.lookup n=some c->
  (∀m k,(m,k)∈names->k= .free->∃c,env.cells.lookup m=some c)->(Za2 env names acc).lookup n=some c
 |(m,kind)::r,acc,hp,hm,hc,hf=>by
  obtain⟨h1,h2⟩:=List.pairwise_cons.mp hp;have hf':∀m k,(m,k)∈r->k= .free->∃c,env.cells.lookup m=some c:=λm' k' hm=>hf m' k' (.tail _ hm)
  rw[Zev];rcases jC hm with e|hm
  ·cases e;rw[hc];show(Za2 env r ((n,c)::acc)).lookup n=_;rw[Zb8 r _ (λkd hm=>(h1 (n,kd) hm rfl).elim) hf',Hcq,Hcl]
  ·cases hk:kind==.free with
   |true=>
    obtain⟨c',hc'⟩:=hf m kind (.head _) (Hb5 hk);rw[hc'];exact Zdu r _ h2 hm hc hf'
   |false=>exact Zdu r _ h2 hm hc hf'
theorem Zei{env:Env}(ha:env.cells.Pairwise λx y=>x.2≠y.2):∀(names:List (Str×NameKind)) (acc:List (Str×Addr)),names.Pairwise (λp q=>p.1≠q.1)->(acc.Pairwise λx y=>x.2≠y.2)->
  (∀n c,(n,c)∈acc->env.cells.lookup n=some c/\∀k,(n,k)∉names)->(Za2 env names acc).Pairwise λx y=>x.2≠y.2
 |[],_,_,h,_=>h
 |(m,kind)::r,acc,hp,h,hacc=>by
  obtain⟨h1,h2⟩:=List.pairwise_cons.mp hp;have hacc':∀n c,(n,c)∈acc->env.cells.lookup n=some c/\∀k,(n,k)∉r:=λn c hm=>⟨(hacc n c hm).1,λk hk=>(hacc n c hm).2 k (.tail _ hk)⟩
  rw[Zev];cases kind==.free with
  |true=>
   cases hc:env.cells.lookup m with
   |none=>exact h
   |some c=>
    refine Zei ha r _ h2 (List.pairwise_cons.mpr ⟨λp hpm e=>?_,h⟩) λn c' hm=>?_
    ·obtain⟨q1,q2⟩:=hacc p.1 p.2 hpm;have:=name_of_addr ha (mem_of_lookup hc) (e▸mem_of_lookup q1);exact q2 kind (this▸.head _)
    ·rcases jC hm with e|hm
     ·cases e;exact⟨hc,λk hk=>h1 _ hk rfl⟩
     ·exact hacc' n c' hm
  |false=>exact Zei ha r _ h2 h hacc'
theorem Zgg{h'0:Heap}:∀(names:List (Str×NameKind)) (h:Heap) (acc:List (Str×Addr)),(∀b o,h'0.get? b=some o->h.get? b=some o)->(∀n c,(n,c)∈acc->∃v,h.IsCell c v)->(acc.Pairwise λx y=>x.2≠y.2)->
  (∀n c,(n,c)∈cellsFrom h.objs.size names acc->∃v,(pushCells h names).IsCell c v)/\(cellsFrom h.objs.size names acc).Pairwise (λx y=>x.2≠y.2)
 |[],h,acc,_,h1,h2=>⟨h1,h2⟩
 |(m,kind)::r,h,acc,h0,h1,h2=>by
  unfold cellsFrom pushCells;split
  ·have:=Zgg r (h.push {cls:=.type "cell",data:=.cell none}) ((m,h.objs.size)::acc) (λb o e=>Hai _ (h0 b o e)) (λn c hm=>by
    rcases jC hm with e|hm
    ·cases e;exact⟨none,_,Hb7 _ rfl,rfl⟩
    ·obtain⟨v,hv⟩:=h1 n c hm;exact⟨v,hv.keeps λb o e=>Hai _ e⟩) (List.pairwise_cons.mpr ⟨λp hp e=>by
     obtain⟨v,hv⟩:=h1 p.1 p.2 hp;have:=hv.lt;have e':h.objs.size=p.2:=e;exact Hao _ (e'▸this),h2⟩)
   rwa [Hcx]at this
  ·exact Zgg r h acc h0 h1 h2
theorem Zd3:∀(names:List (Str×NameKind)) (h:Heap) (a:Nat),h.objs.size<=a->a<(pushCells h names).objs.size->Occ (pushCells h names) a
 |[],h,a,h1,h2=>absurd h2 (Nat.not_lt.mpr h1)
 |(m,kind)::r,h,a,h1,h2=>by
  unfold pushCells at h2 ⊢;split
  ·rename_i hk;rw[if_pos hk]at h2;by_cases e:a=h.objs.size
   ·subst e;exact⟨_,pushCells_keeps _ _ _ _ (Hb7 _ rfl),rfl⟩
   ·exact Zd3 r _ a (by rw[Hcx];exact(Hbb h1 (Ne.symm e))) h2
  ·rename_i hk;rw[if_neg hk]at h2;exact Zd3 r _ a h1 h2
noncomputable def Zc8(scope:Scope)(cl:List (Str×Addr))(C:Nat)(env:Env):Env:=
 {scope:=relabel scope env,locals:=C,globals:=env.globals,cells:=cellsFrom (C+1) scope.names cl,qual:=env.qual,func:=none,code:=env.code,frame:=env.frame,builtins:=env.builtins}
theorem Zk5{x:Nat}:∀{ts:List Nat},Zri x ts=true↔x∈ts
 |[]=>⟨λh=>bF h,λh=>nomatch h⟩
 |y::r=>by
  rw[show Zri x (y::r)=(Nat.beq x y||Zri x r)from rfl,Hb9,Zk5 (ts:=r),List.mem_cons]
  constructor
  ·rintro(h|h)
   ·exact .inl (Hb4 h)
   ·exact .inr h
  ·rintro(h|h)
   ·subst h;exact .inl (Hcm _)
   ·exact .inr h
theorem Zdz{x:Nat}{d:D}{ts:List Nat}:∀{ρ:List (Nat×D)},lk x (Zak ts ρ)=some d->x∉ts/\lk x ρ=some d
 |[],h=>by cases h
 |(y,e)::r,h=>by
  have h:lk x (bI (Zri y ts) (Zak ts r) ((y,e)::Zak ts r))=some d:=h;rw[Zav];cases hm:Zri y ts with
  |true=>
   rw[hm]at h;obtain⟨h1,h2⟩:=Zdz h;have:x≠y:=λq=>h1 (q▸Zk5.mp hm)
   rw[if_neg this];exact⟨h1,h2⟩
  |false=>
   rw[hm]at h;have h:lk x ((y,e)::Zak ts r)=some d:=h;rw[Zav]at h;by_cases q:x=y
   ·rw[if_pos q]at h ⊢;refine⟨λhx=>?_,h⟩
    rw[q]at hx;rw[Zk5.mpr hx]at hm;cases hm
   ·rw[if_neg q]at h ⊢;exact Zdz h
theorem Zk3{x:Nat}{ts:List Nat}{ρ:List (Nat×D)}(h:x∈ts):lk x (Zak ts ρ)=none:=by
 cases e:lk x (Zak ts ρ)with
 |none=>rfl
 |some d=>exact absurd h (Zdz e).1
theorem Zf0{x:Nat}{ρ ρ2:List (Nat×D)}:lk x (ρ++ρ2)=(lk x ρ).or (lk x ρ2):=by
 induction ρ with
 |nil=>rfl
 |cons p r ih=>
  obtain⟨y,d⟩:=p;rw[List.cons_append,Zav,Zav,ih];by_cases q:x=y
  ·rw[if_pos q,if_pos q];rfl
  ·rw[if_neg q,if_neg q]
theorem Zc9{ts:List Nat}:∀{ρ ρ2:List (Nat×D)},Zak ts (ρ++ρ2)=Zak ts ρ++Zak ts ρ2
 |[],_=>rfl
 |(x,d)::r,ρ2=>by
  show bI (Zri x ts) (Zak ts (r++ρ2)) ((x,d)::Zak ts (r++ρ2))=bI (Zri x ts) (Zak ts r) ((x,d)::Zak ts r)++Zak ts ρ2;cases Zri x ts with
  |true=>exact Zc9
  |false=>
   show(x,d)::Zak ts (r++ρ2)=(x,d)::(Zak ts r++Zak ts ρ2);rw[Zc9]
variable {scope:Scope} {ts:List Nat}
theorem Zo3(ok:Zcg env sc)(sl:Zbj env s.heap)(hk:scope.kind= .function)(hn:Zeq sc scope.names=true)
  (hts:(ts.all λx=>(scope.names.lookup (nm x)==some .local||scope.names.lookup (nm x)==some .cell))=true)
  (hown:(scope.names.all λp=>!(p.2==.local||p.2==.cell)||p.1==(".0":Str)||ts.any λx=>nm x==p.1)=true)(hi:Inj nm)(hdot:∀x,nm x≠(".0":Str)):
  closureFor scope env=pure (Za2 env scope.names [])∧
  (∀x∈scope.names,x.2= .local->scope.names.lookup x.1=some .local)∧
  Zcg (Zc8 scope (Za2 env scope.names []) s.heap.objs.size env) (Ze5 sc scope.names)∧
  Zbj (Zc8 scope (Za2 env scope.names []) s.heap.objs.size env) (pushCells (s.heap.push {cls:=.type "dict",data:=.dict #[]}) scope.names)∧
  (∀x∈ts,∃a,Zcw (Zc8 scope (Za2 env scope.names []) s.heap.objs.size env) (nm x) a/\s.heap.objs.size<=a/\a<(pushCells (s.heap.push {cls:=.type "dict",data:=.dict #[]}) scope.names).objs.size)∧
  (∀ρ N N',Zbs σ nm N env s.heap ρ->Zdk N N' s.heap (pushCells (s.heap.push {cls:=.type "dict",data:=.dict #[]}) scope.names)->
   Zbs σ nm N' (Zc8 scope (Za2 env scope.names []) s.heap.objs.size env) (pushCells (s.heap.push {cls:=.type "dict",data:=.dict #[]}) scope.names) (Zak ts ρ)):=by
 obtain⟨hspec,hpw⟩:=Zba hn;have hfree:∀n k,(n,k)∈scope.names->k= .free->∃c,env.cells.lookup n=some c:=λn k hm hf=>ok.cells n ((hspec n k hm).1 hf)
 have hkind:env.scope.kind= .function:=ok.kind;have hrel:(relabel scope env).names=Ze5 sc scope.names:=by
  show scope.names.map _=scope.names.map _
  congr 1
  funext p
  obtain⟨n,k⟩:=p;dsimp only;rw[ok.kindOf,hkind];cases(k==NameKind.free)<;>rfl
 generalize hcl:Za2 env scope.names []=cl
 have hclm:∀n c,(n,c)∈cl->(∃k,(n,k)∈scope.names/\k= .free)/\env.cells.lookup n=some c:=λn c hm=>by
  rw[←hcl]at hm;rcases Zew scope.names [] n c hm with h|h
  ·cases h
  ·exact h
 have hclp:cl.Pairwise λx y=>x.2≠y.2:=by
  rw[←hcl];exact Zei sl.apart scope.names [] hpw .nil (λn c hm=>nomatch hm)
 generalize hC:Zc8 scope cl s.heap.objs.size env=cenv
 generalize hh:pushCells (s.heap.push {cls:=.type "dict",data:=.dict #[]}) scope.names=h'
 have keep:∀b o,s.heap.get? b=some o->h'.get? b=some o:=λb o e=>by
  rw[←hh];exact pushCells_keeps _ _ _ _ (Hai _ e)
 have hsz1:(s.heap.push {cls:=.type "dict",data:=.dict #[]}).objs.size=s.heap.objs.size+1:=Hcx ..;obtain⟨hc1,hc2⟩:=Zgg (h'0:=s.heap) scope.names (s.heap.push {cls:=.type "dict",data:=.dict #[]}) cl (λb o e=>Hai _ e) (λn c hm=>by
  obtain⟨v,hv⟩:=sl.cells n c (mem_of_lookup (hclm n c hm).2);exact⟨v,hv.keeps λb o e=>Hai _ e⟩) hclp
 rw[hsz1]at hc1 hc2;have hcells:cenv.cells=cellsFrom (s.heap.objs.size+1) scope.names cl:=by rw[←hC];rfl
 have hloc:cenv.locals=s.heap.objs.size:=by rw[←hC];rfl
 have hkindOf:∀x,cenv.kindOf x=(Ze5 sc scope.names).lookup x:=λx=>by
  show cenv.scope.names.lookup x=_;rw[←hC];show(relabel scope env).names.lookup x=_;rw[hrel]
 have hns:h'.Ns s.heap.objs.size (λ_=>none):=by
  rw[←hh];exact(Heap.Ns.new s.heap (.type "dict")).keeps (pushCells_keeps _ _)
 have look:∀n k,scope.names.lookup n=some k->(k= .cell->∃c:Nat,cenv.cells.lookup n=some c/\s.heap.objs.size+1<=c)/\(k= .free->cenv.cells.lookup n=env.cells.lookup n):=by
  intro n k hl;have hm:=mem_of_lookup hl;rw[hcells];refine⟨λe=>?_,λe=>?_⟩
  ·subst e;obtain⟨c,h1,h2,_⟩:=Zap (n:=n) scope.names (s.heap.objs.size+1) cl hpw hm;exact⟨c,h1,h2⟩
  ·subst e;obtain⟨c,hc⟩:=hfree n _ hm rfl;rw[Za5 _ _ _ (λkd hkd e=>by
    have h1:=(hspec n kd hkd).2.2;rw[hl]at h1;cases h1;cases e),←hcl,Zdu scope.names [] hpw hm hc hfree,hc]
 have relL:∀x k,(Ze5 sc scope.names).lookup x=some k->∃k'0,scope.names.lookup x=some k'0/\(k=k'0\/(k'0= .free/\k= .cell)):=by
  intro x k h;rw[Zda]at h;cases q:scope.names.lookup x with
  |none=>rw[q]at h;cases h
  |some k'0=>
   rw[q]at h;refine⟨k'0,rfl,?_⟩
   have h:(if(k'0==NameKind.free&&sc.lookup x==some .cell)=true then NameKind.cell else k'0)=k:=Hcu h
   split at h
   ·rename_i hc;exact .inr ⟨Hb5 (Zaa hc).1,h.symm⟩
   ·exact .inl h.symm
 refine⟨hcl▸Zfs hfree,λx hx hl=>by
  have:=(hspec x.1 x.2 hx).2.2;rw[hl]at this;exact this,⟨?_,?_,?_,?_,?_⟩,⟨⟨_,hloc▸hns⟩,?_,?_⟩,?_,?_⟩
 ·rw[←hC];exact hk
 ·rw[←hC];exact hrel
 ·rw[←hC];exact ok.glob
 ·rw[←hC];exact ok.bui
 ·intro x hx;have:∃k,(Ze5 sc scope.names).lookup x=some k/\(k= .cell\/k= .free):=by
   rcases hx with h|h
   ·exact⟨_,h,.inl rfl⟩
   ·exact⟨_,h,.inr rfl⟩
  obtain⟨k,hl,hk'⟩:=this;obtain⟨k'0,h0,h1⟩:=relL x k hl;have free:k'0= .free->∃c,cenv.cells.lookup x=some c:=λe=>by
   obtain⟨c,hc⟩:=hfree x k'0 (mem_of_lookup h0) e;exact⟨c,((look x k'0 h0).2 e).trans hc⟩
  rcases h1 with rfl|⟨h1,_⟩
  ·rcases hk' with e|e
   ·obtain⟨c,hc,_⟩:=(look x k h0).1 e;exact⟨c,hc⟩
   ·exact free e
  ·exact free h1
 ·intro n c hm;rw[hcells]at hm;rw[←hh];exact hc1 n c hm
 ·rw[hcells];exact hc2
 ·intro x hx;have hx':=bAll hts x hx;have hdict:nm x≠("__classdict__":Str):=by
   rcases(Hb9 _ _).mp hx' with h|h
   ·exact(hspec _ _ (mem_of_lookup (Hb5 h))).2.1
   ·exact(hspec _ _ (mem_of_lookup (Hb5 h))).2.1
  rcases(Hb9 _ _).mp hx' with h|h
  ·have h:=Hb5 h;refine⟨s.heap.objs.size,.inl ⟨?_,hloc.symm⟩,Hac _,hns.lt⟩
   rw[hkindOf,Zda,h]
   rfl
  ·have h:=Hb5 h;obtain⟨c,hc,hle⟩:=(look _ _ h).1 rfl;obtain⟨v,hv⟩:=hc1 (nm x) c (by rw[←hcells];exact mem_of_lookup hc)
   rw[hh]at hv;refine⟨c,.inr ⟨?_,?_,hc⟩,Hba hle,hv.lt⟩
   ·rw[hkindOf,Zda,h]
    rfl
   ·cases q:(nm x==("__classdict__":Str))with
    |false=>rfl
    |true=>exact absurd (Hb5 q) hdict
 ·intro ρ N N' hr hf x d hl hkx;obtain⟨hx,hl'⟩:=Zdz hl;rw[hkindOf]at hkx;cases q:(Ze5 sc scope.names).lookup (nm x)with
  |none=>rw[q]at hkx;cases hkx
  |some k=>
   rw[q]at hkx;obtain⟨k'0,h0,h1⟩:=relL _ _ q;have hm:=mem_of_lookup h0;have notown:k'0≠.local/\k'0≠.cell:=by
    have h2:=bAll hown _ hm;have h2:=(Hb9 _ _).mp h2;rcases h2 with h2|h2
    ·rcases(Hb9 _ _).mp h2 with h2|h2
     ·constructor<;>(rintro rfl;cases h2)
     ·exact absurd (Hb5 h2) (hdot x)
    ·obtain⟨y,hy,hy'⟩:=List.any_eq_true.mp h2;exact absurd (hi _ _ (Hb5 hy')▸hy) hx
   have hfr:k'0= .free:=by
    rcases h1 with rfl|⟨h1,_⟩
    ·cases k with
     |«local»=>exact absurd rfl notown.1
     |cell=>exact absurd rfl notown.2
     |free=>rfl
     |_=>cases hkx
    ·exact h1
   subst hfr;obtain⟨hs1,hs2,_⟩:=hspec _ _ hm;have hout:Zi4 (env.kindOf (nm x))=true:=by
    rw[ok.kindOf];rcases hs1 rfl with e|e<;>rw[e]<;>rfl
   obtain⟨v,hv,hrd⟩:=hr x d hl' hout;refine⟨v,?_,hrd.mono hf⟩
   have hck:cenv.kindOf (nm x)=some .cell\/cenv.kindOf (nm x)=some .free:=by
    rw[hkindOf,q];rcases h1 with rfl|⟨_,rfl⟩
    ·exact .inr rfl
    ·exact .inl rfl
   rcases hv with⟨h3,_⟩|⟨h3,h4,c,h5,h6⟩
   ·rw[ok.kindOf]at h3;rcases hs1 rfl with e|e<;>(rw[e]at h3;cases h3)
   ·exact .inr ⟨hck,h4,c,((look _ _ h0).2 rfl).trans h5,h6.keeps keep⟩
structure Zb6(nm:Nat->Str):Prop where
 inj:Inj nm
 dot:∀x,nm x≠(".0":Str)
structure AOk(k:Nat)(A:Around):Prop where
 handled:A.handled=none
 depth:A.depth<=400+k
 units:A.units<=10*k+20
theorem AOk.room{k:Nat}{A:Around}(ha:AOk k A)(hk:k<=100):A.depth<recursionLimit:=
 Hak (Hag ha.depth (Hay hk 400)) (by decide)
theorem AOk.line{k:Nat}{A:Around}(ha:AOk k A)(hk:k<=100):A.units+10<cLine:=
 Hak (Hbc (Hag ha.units (Hbc (Hbd 10 hk) 20)) 10) (by decide)
structure Gl(h:Heap)(mg mb:Str->Option Value):Prop where
 g:h.Ns mainGlobals mg
 b:h.Ns builtinsNs mb
 free:∀b,b<10->mg (Zeg b)=none
 val:∀b,b<10->mb (Zeg b)=some (Zqu b)
structure Bs(T:Addr->Prop)(mg mb:Str->Option Value)(s0 s:Shared):Prop where
 ext:Ext T s0 s
 tabs:∀b,T b->Zfb s0.heap b
 gl:Gl s0.heap mg mb
variable {mg mb:Str->Option Value} {s0:Shared}
theorem Bs.step(h:Bs T mg mb s0 s)(x:Ext T s s'):Bs T mg mb s0 s':=⟨h.ext.trans x,h.tabs,h.gl⟩
theorem Bs.lt(h:Bs T mg mb s0 s):∀a,T a->a<s.heap.objs.size:=λa ha=>let⟨_,e,_⟩:=h.ext.tab a ha (h.tabs a ha);Haj e
theorem Bs.ng(h:Bs T mg mb s0 s):s.heap.Ns mainGlobals mg:=h.ext.ns h.gl.g
theorem Bs.nb(h:Bs T mg mb s0 s):s.heap.Ns builtinsNs mb:=h.ext.ns h.gl.b
theorem Bs.gone{W:Addr->Prop}(h:Bs T mg mb s0 s)(x:Zcq T W s s')(hw:∀a,W a->s0.heap.get? a=none):Bs T mg mb s0 s':=⟨Zcq.ext2 h.ext x hw,h.tabs,h.gl⟩
theorem Bs.upd{W:Addr->Prop}(h:Bs T mg mb s0 s)(x:Upd T W s s')(hw:∀a,W a->s0.heap.get? a=none):Bs T mg mb s0 s':=h.gone x.gone hw
noncomputable def Zr2(s0:Shared)(mg:Str->Option Value)(x:Str)(a:Addr):Prop:=mg x=some (.ref a)/\∃o fd,s0.heap.get? a=some o/\o.data= .func fd/\Zb0 o=false
structure Zd7(σ:Sg)(h:Heap)(x dx b:Addr):Prop where
 it:∃o od,h.get? x=some o/\h.get? dx=some od/\Zeb (σ.v 999).toNat o od x dx b
theorem Zd7.ext{T:Addr->Prop}{σ:Sg}{s s':Shared}{x dx b:Addr}(h:Zd7 σ s.heap x dx b)(e:Ext T s s'):Zd7 σ s'.heap x dx b:=
 let⟨o,od,h1,h2,h3⟩:=h.it;⟨o,od,e.keep2 _ _ h1 h3.tab.1,e.keep2 _ _ h2 h3.tab.2,h3⟩
noncomputable def Ydz(prog:Program)(w:World)(T:Addr->Prop)(σ:Sg)(s0:Shared)(name:Str)(f:Addr):Prop:=
 (∃o fd,s0.heap.get? f=some o/\o.data= .func fd/\Zb0 o=false)∧
 ∀(A:Around) (E:Value->Shared->Prop) (s:Shared) (x dx b:Addr) (pl:Sem Bool) (Q:Value×List Value->Shared->Prop),Ext T s0 s->Zd7 σ s.heap x dx b->Q (.ref f,[.ref x]) s->wpAny (model prog w) A (getMethod (.ref x) name pl) Q E s
noncomputable def Zdq(s:List Nat):Bool:=(s.all λc=>Nat.ble 32 c&&Nat.blt c 127)&&Nat.blt s.length 1000000
noncomputable def Yd7(prog:Program)(w:World)(T:Addr->Prop)(σ:Sg)(s0:Shared):Prop:=∀(A:Around) (E:Value->Shared->Prop) (s:Shared) (x dx b:Addr) (Q:Value->Shared->Prop),Ext T s0 s->Zd7 σ s.heap x dx b->(∀s',Ext T s s'->Q (.ref b) s')->wpAny (model prog w) A (getAttr (.ref x) "_headers" true) Q E s
noncomputable def Zqk(prog:Program)(w:World)(T:Addr->Prop)(σ:Sg)(mg mb:Str->Option Value)(s0:Shared)(k:Nat):Prop:=∃f,Ydz prog w T σ s0 "_convert_string_type" f∧
 ∀(A:Around) (E:Value->Shared->Prop) (N:Addr->Prop) (s:Shared) (sv:Value) (x:Str) (t:Tok) (b:Bool) (Q:Value->Shared->Prop),AOk k A->Bs T mg mb s0 s->(∀a,N a->Occ s.heap a)->Zdq x.cps.toList=true->x.cps.size<2^63->
   (∀s',Ext T s s'->Q (.str x t) s')->wpAny (model prog w) A (call (.ref f) [sv,.str x t] [((("name":Str)),.bool b)]) Q E s
section
variable (prog:Program) (w:World) (T:Addr->Prop) (σ:Sg) (mg mb:Str->Option Value) (s0:Shared) (nm fn:Nat->Str) (C:Nat->List D->Option D) (k:Nat)
noncomputable def Zwm(f:Nat)(ds:List D)(d:D):Prop:=match f with
 |900=>∃es,ds=[.hdr es]/\d= .lst es/\Yd7 prog w T σ s0
 |903=>∃p q r,ds=[.int p,.int q]/\d= .int r/\q.ev σ≠0/\r.ev σ=(p.ev σ).fmod (q.ev σ)
 |904=>∃p r,ds=[.int p]/\d= .int r/\r.ev σ= -(p.ev σ)-1
 |905=>∃p r,ds=[.int p]/\d= .int r/\r.ev σ=(Builtin.Int.intBits (p.ev σ):Int)
 |906=>∃p q r,ds=[.int p,.int q]/\d= .int r/\0<=q.ev σ/\(Builtin.Int.intBits (p.ev σ):Int)+q.ev σ<=2^27/\r.ev σ=p.ev σ*2^(q.ev σ).toNat
 |908=>∃r i t,ds=[]/\d= .int r/\mg "_DIV_LIMIT"=some (.int i t)/\r.ev σ=i
 |_=>∃es t,ds=[.hdr es,.str t]/\d= .str t/\Zdq t=true/\Zqk prog w T σ mg mb s0 k
noncomputable def Za1:Prop:=(∀f ds d,Nat.blt f 900=true->C f ds=some d->∃a,Zr2 s0 mg (fn f) a/\∀(A:Around) (E:Value->Shared->Prop) (N:Addr->Prop) (s:Shared) (vs:List Value) (Q:Value->Shared->Prop),AOk k A->Bs T mg mb s0 s->(∀a,N a->Occ s.heap a)->
 RdL σ N s.heap vs ds->Zd9 T σ N s d Q->wpAny (model prog w) A (call (.ref a) vs) Q E s)∧
 (∀f ds d,(Nat.ble 900 f&&Nat.blt f 1000)=true->C f ds=some d->Zwm prog w T σ mg mb s0 k f ds d)∧
 ∀m es ds d,C (1000+m) (.hdr es::ds)=some d->∃f,Ydz prog w T σ s0 (Zf3 m) f/\∀(A:Around) (E:Value->Shared->Prop) (N:Addr->Prop) (s:Shared) (x:Addr) (vs:List Value) (Q:Value->Shared->Prop),AOk k A->Bs T mg mb s0 s->(∀a,N a->Occ s.heap a)->
  Rd σ N s.heap (.ref x) (.hdr es)->RdL σ N s.heap vs ds->Zd9 T σ N s d Q->wpAny (model prog w) A (call (.ref f) (.ref x::vs)) Q E s
structure Cx(A:Around)(env:Env)(sc:List (Str×NameKind))(ρ ρ2:List (Nat×D))(N N2:Addr->Prop)(s:Shared):Prop where
 ha:AOk k A
 ok:Zcg env sc
 bs:Bs T mg mb s0 s
 rel:Rel σ nm N N2 env s.heap ρ ρ2
 hs2:∀a,N2 a->N a
 occ:∀a,N a->Occ s.heap a
noncomputable def Zaq(n:Nat):Prop:=∀{A:Around} {E:Value->Shared->Prop} {env:Env} {sc:List (Str×NameKind)} {ρ ρ2:List (Nat×D)} {N N2:Addr->Prop} {s:Shared} {e:Expr} {m:M} {d:D} {fo:Nat} {Q:Value->Shared->Prop},
 Cx T σ mg mb s0 nm k A env sc ρ ρ2 N N2 s->okE nm fn fo sc e m=true->ev C n ρ ρ2 m=some d->Zd9 T σ N s d Q->wpAny (model prog w) A (eval e env) Q E s
end
variable {fn:Nat->Str} {C:Nat->List D->Option D} {k n fo:Nat}
theorem Rel.ext{s':Shared}(h:Rel σ nm N N2 env s.heap ρ ρ2)(x:Ext T s s'):Rel σ nm N N2 env s'.heap ρ ρ2:=⟨h.one.ext x,h.two.ext x,h.sl.ext x⟩
theorem Cx.ext{s':Shared}(c:Cx T σ mg mb s0 nm k A env sc ρ ρ2 N N2 s)(x:Ext T s s'):Cx T σ mg mb s0 nm k A env sc ρ ρ2 N N2 s':=⟨c.ha,c.ok,c.bs.step x,c.rel.ext x,c.hs2,λa h=>(c.occ a h).ext x⟩
theorem Zbh{e:Expr}{m:M}{fo:Nat}(h:okE nm fn fo sc e m=true)(v:Expr)(p:Pos):e≠.Starred v p:=λq=>Zgq h q rfl
theorem Zad{e:Expr}{rest:List Expr}(h:∀v p,e≠.Starred v p):starEach (e::rest) env=(false,eval e env)::starEach rest env:=by
 cases e with
 |Starred v p=>exact absurd rfl (h v p)
 |_=>rfl
theorem Zee(hS:Zaq prog w T σ mg mb s0 nm fn C k n){pos:Pos}(es:List Expr):∀{ms:List M} {ds:List D} {s:Shared} {Q:List Value->Shared->Prop},Cx T σ mg mb s0 nm k A env sc ρ ρ2 N N2 s->
  okL (okE nm fn fo sc) es ms=true->Zd8 (ev C n ρ ρ2) ms=some ds->
  (∀vs s',Ext T s s'->RdL σ N s'.heap vs ds->Q vs s')->wpAny (model prog w) A (spliced (backTo pos (starEach es env))) Q E s:=by
 induction es with
 |nil=>
  intro ms ds s Q c hok hm q;rw[Zio hok]at hm;exact Hbe (q [] s .refl (sI hm▸.nil))
 |cons e es ih=>
  intro ms ds s Q c hok hm q;obtain⟨m,ms',e1,h1,h2⟩:=Zd2 hok;rw[e1]at hm;obtain⟨d,ds',h3,h4,h5⟩:=Zf2 hm;rw[Zad (Zbh h1)];exact Hbf (hS c h1 h3 λv s'1 x'1 r'1=>ih (c.ext x'1) h2 h4 λvs s'2 x'2 r'2=>q _ s'2 (x'1.trans x'2) (h5▸.cons (r'1.mono x'2.fits) r'2))
theorem Zbl(es:List Expr):∀(ms:List M),okL (okE nm fn fo sc) es ms=true->∀{pos:Pos},(backTo pos (starEach es env)).any (·.1)=false:=by
 induction es with
 |nil=>exact λ_ _ _=>rfl
 |cons e es ih=>
  intro ms h pos;obtain⟨m,ms',e1,h1,h2⟩:=Zd2 h;rw[Zad (Zbh h1)];exact ih ms' h2
theorem Zch{e:Expr}{es:List Expr}(h:∀v p,e≠.Starred v p){pos:Pos}{f:Value}{Q:Args->Shared->Prop}(hw:wpAny (model prog w) A (spliced (backTo pos (starEach (e::es) env))) (λvs s'=>Q ⟨vs,[]⟩ s') E s):
  wpAny (model prog w) A (evalArgs f true (backTo pos (starEach (e::es) env)) []) Q E s:=by
 rw[Zad h]at hw ⊢;exact Calls.evalArgs_plain hw
theorem Zbk{es:List Expr}{ms:List M}(h:okL (okE nm fn fo sc) es ms=true){pos:Pos}{f:Value}{Q:Args->Shared->Prop}(hw:wpAny (model prog w) A (spliced (backTo pos (starEach es env))) (λvs s'=>Q ⟨vs,[]⟩ s') E s):
  wpAny (model prog w) A (evalArgs f true (backTo pos (starEach es env)) []) Q E s:=by
 cases es with
 |nil=>
  unfold evalArgs;exact Ha6 (Ha4 hw (λvs s' h'=>Ha7 (Ha6 (Hau (Ha6 (Hau (Hau h')))))) λ_ _ x=>x)
 |cons e es=>
  obtain⟨m,ms',e1,h1,h2⟩:=Zd2 h;exact Zch (Zbh h1) hw
theorem Ybp{a:Int}(ha:a.natAbs<10^9): -9223372036854775808<=a/\a<9223372036854775808:=
 ⟨li [_] [_] (.k (-9223372036854775808)) (.v 0) [(1,.u (.a (.v 0) (.k 1)),.u (.k (10^9))),(1,.g (.v 0),.u (.v 0))] rfl (jO ha) Zd0,li [_] [_] (.a (.v 0) (.k 1)) (.k 9223372036854775808) [(1,.u (.a (.v 0) (.k 1)),.u (.k (10^9))),(1,.v 0,.u (.v 0))] rfl (jO ha) Had⟩
theorem Zoj{a b:Int}{c:Int}(hc:c=1\/c= -1)(ha:a.natAbs<10^9)(hb:b.natAbs<10^9):Builtin.Range.small a b c=true:=by
 rcases hc with rfl|rfl
 ·exact small_one (li [_] [_] (.k (-(2^62))) (.v 0) [(1,.u (.a (.v 0) (.k 1)),.u (.k (10^9))),(1,.g (.v 0),.u (.v 0))] rfl (jO ha) Zd0) (li [_] [_] (.a (.v 0) (.k 1)) (.k (2^62)) [(1,.u (.a (.v 0) (.k 1)),.u (.k (10^9))),(1,.v 0,.u (.v 0))] rfl (jO ha) Had) (li [_] [_] (.k (-(2^62))) (.v 0) [(1,.u (.a (.v 0) (.k 1)),.u (.k (10^9))),(1,.g (.v 0),.u (.v 0))] rfl (jO hb) Zd0) (li [_] [_] (.a (.v 0) (.k 1)) (.k (2^62)) [(1,.u (.a (.v 0) (.k 1)),.u (.k (10^9))),(1,.v 0,.u (.v 0))] rfl (jO hb) Had)
 ·unfold Builtin.Range.small Builtin.Range.rangeSize;simp only[Builtin.Range.rangeFitsLong,Hcd,Hb9,decide_eq_true_eq,beq_iff_eq];simp;refine⟨⟨⟨Ybp ha,Ybp hb⟩,?_⟩,.inr (Ybp hb)⟩
  split
  ·exact⟨li [_,_] [_,_] (.k (-9223372036854775808)) (.s (.v 0) (.v 1)) [(1,.u (.a (.v 0) (.k 1)),.u (.k (10^9))),(1,.u (.a (.v 1) (.k 1)),.u (.k (10^9))),(1,.g (.v 0),.u (.v 0)),(1,.v 1,.u (.v 1))] rfl (jO ha) (jO hb) Zd0 Had,
    li [_,_] [_,_] (.a (.s (.v 0) (.v 1)) (.k 1)) (.k 9223372036854775808) [(1,.u (.a (.v 0) (.k 1)),.u (.k (10^9))),(1,.u (.a (.v 1) (.k 1)),.u (.k (10^9))),(1,.v 0,.u (.v 0)),(1,.g (.v 1),.u (.v 1))] rfl (jO ha) (jO hb) Had Zd0⟩
  ·exact⟨by decide,by decide⟩
theorem Zvl{x y:Int}:(if x<y then y-x else 0)=((y-x).toNat:Int):=by
 by_cases h:x<y
 ·rw[if_pos h];exact(Int.toNat_of_nonneg (Int.sub_nonneg_of_le (Int.le_of_lt h))).symm
 ·rw[if_neg h];exact(Hb6 Nat.cast (Int.toNat_eq_zero.mpr (Int.sub_nonpos_of_le (Int.not_lt.mp h)))).symm
theorem Ziw(a b:Int):Builtin.Range.rangeSize a b 1=((b-a).toNat:Int):=(rangeSize_one a b).trans Zvl
theorem Zoi(a b:Int):Builtin.Range.rangeSize a b (-1)=((a-b).toNat:Int):=by
 refine Eq.trans ?_ Zvl
 unfold Builtin.Range.rangeSize;rw[if_neg (by decide)]
 show(if a>b then(a-b-1)/1+1 else 0)=_
 rw[Int.ediv_one,Int.sub_add_cancel]
theorem Zhz{f:Expr->M->Bool}{name:Str}{e:Expr}{ms:List M}(h:Zef f sc name e ms=true):∃q xs p,e= .Call (.Name name q) xs [] p/\sc.lookup name=some .globalImplicit/\okL f xs ms=true:=by
 obtain⟨id,q,xs,p,he,h⟩:=Zey h;have e1:=Hb5 (Zaa h).1;rw[e1]at he h;exact⟨q,xs,p,he,Hb5 (Zaa (Zaa h).2).1,(Zaa (Zaa h).2).2⟩
theorem Ybs{e:Expr}(h:∀a b c,e≠.Set a b c)(v:Env)(x:Value):foldedSetIterable e v x=pure x:=by
 cases e with
 |Set a b c=>exact absurd rfl (h a b c)
 |_=>rfl
theorem Ygu{e:Expr}{m:M}{fo:Nat}(h:okE nm fn fo sc e m=true):∀v x,foldedSetIterable e v x=pure x:=Ybs λ_ _ _ q=>Zgq h q rfl
theorem Zn4{e:Expr}{kk:Nat}{ms:List M}(h:Zmd (okE nm fn fo sc) sc kk ms e=true):∀v x,foldedSetIterable e v x=pure x:=by
 rcases kk with _|_|kk
 ·obtain⟨m,_,h⟩:=Zmo h;exact Ygu h
 ·obtain⟨q,xs,p,he,_⟩:=Zhz h;rw[he];exact λ_ _=>rfl
 ·exact bF h
theorem Rd.int'{h:Heap}{v:Value}{i:Int}(r:Rd σ N h v (.int (.k i))):∃t,v= .int i t:=r.inv
theorem Ziv{s:Shared}{items:List D}{Q:Value->Shared->Prop}(hT:∀a,T a->a<s.heap.objs.size)(q:∀x s'1,Ext T s s'1->Zcr prog w T σ N x items s'1->Q x s'1){o:Obj}{tk:Nat}{a b c:Int}{t u v:Tok}{m:Nat}
  (hr:IsRange (s.heap.push o) s.heap.objs.size a b c t u v)(hc:c=1\/c= -1)(ha:a.natAbs<1000000)(hb:b.natAbs<1000000)(hm:Builtin.Range.rangeSize a b c=m)(hi:items=Ze8 a c m):Q (.ref s.heap.objs.size) {s with heap:=s.heap.push o,toks:=tk}:=by
 rw[hi]at q;exact q _ _ .push (Zje (λx hx=>Har (hT x hx) (by show _<=(s.heap.push o).objs.size;rw[Hcx];exact Haw _)) hr (Zoj hc (Nat.lt_trans ha (by decide)) (Nat.lt_trans hb (by decide))) hm)
theorem Zrp{vs:List Value}{ds items:List D}{Q:Value->Shared->Prop}(hT:∀a,T a->a<s.heap.objs.size)(rs:RdL σ N s.heap vs ds)(h:Zmc 1 ds=some items)
  (q:∀x s'1,Ext T s s'1->Zcr prog w T σ N x items s'1->Q x s'1):wpAny (model prog w) A (call (.type "range") vs) Q E s:=by
 obtain⟨r,hr,h⟩:=obS h;obtain⟨hb,h⟩:=Zaj h;have hlo:r.1.natAbs<1000000:=bLe (Zaa hb).2;have hI:=(sI h).symm;cases ds with
 |nil=>exact nS hr
 |cons a ds=>
  obtain⟨i,ha,hr⟩:=Zgr hr;obtain⟨v,ws,hv,r1,rs⟩:=rs.inv;obtain⟨t,r1⟩:=r1.inv' ha;rw[hv,r1];cases ds with
  |nil=>
   obtain⟨hb,hr⟩:=Zaj hr;rw[←sI hr]at hI;rw[show ws=[]from rs.inv];exact call_range_1 (Ziv hT q (IsRange.new ..) (.inl rfl) (by decide) (bLe hb) (by rw[Ziw];exact Hb6 (λx:Int=>(x.toNat:Int)) (Int.sub_zero i)) hI)
  |cons b ds=>
   obtain⟨j,hb,hr⟩:=Zgr hr;obtain⟨hbb,hr⟩:=Zaj hr;have hbb:j.natAbs<1000000:=bLe hbb;obtain⟨v2,ws2,hv2,r2,rs⟩:=rs.inv;obtain⟨u,r2⟩:=r2.inv' hb;rw[hv2,r2];cases ds with
   |nil=>
    rw[←sI hr]at hI hlo;rw[show ws2=[]from rs.inv];exact call_range_2 (Ziv hT q (IsRange.new ..) (.inl rfl) hlo hbb (Ziw _ _) hI)
   |cons c ds=>
    obtain⟨l,hc,hr⟩:=Zgr hr;obtain⟨hl,hr⟩:=Zaj hr;obtain⟨v3,ws3,hv3,r3,rs⟩:=rs.inv;obtain⟨u',r3⟩:=r3.inv' hc;cases ds with
    |nil=>
     rw[←sI hr]at hI hlo;rw[hv3,r3,show ws3=[]from rs.inv,show(PX.k l).ev σ= -1 from Zdh.mp hl];exact call_range_3 (by decide) (Ziv hT q (IsRange.new ..) (.inr rfl) hlo hbb (Zoi _ _) hI)
    |cons _ _=>exact nS hr
theorem Zyx{v:Value}{d:D}{items:List D}(hT:∀a,T a->a<s.heap.objs.size)(r:Rd σ N s.heap v d)(h:seqD d=some items):Zcr prog w T σ N v items s:=by
 have r:=r.inv;cases d with
 |lst l=>
  obtain⟨a,vs,_,hv,hn,g,rs⟩:=r;rw[hv,←sI (Zaj h).2];exact Zfz hT hn g rs
 |tup l=>
  obtain⟨a,vs,_,hv,hn,g,rs⟩:=r;rw[hv,←sI (Zaj h).2];exact Zjf hT hn g rs
 |str l=>
  obtain⟨x,t,hv,e⟩:=r;rw[hv,←sI (Zaj h).2];exact Zme hT e
 |_=>exact nS h
theorem Zdf{b:Nat}{q:Pos}{Q:Value->Shared->Prop}(c:Cx T σ mg mb s0 nm k A env sc ρ ρ2 N N2 s)(hb:b<10)(hk:sc.lookup (Zeg b)=some .globalImplicit)(hd:(Zeg b==("__debug__":Str))=false)(h:Q (Zqu b) s):wpAny (model prog w) A (eval (.Name (Zeg b) q) env) Q E s:=
 Hbg c.ok.kind ((c.ok.kindOf _).trans hk) (Hbh (c.ok.glob▸c.bs.ng) (c.bs.gl.free b hb) (c.ok.bui▸c.bs.nb) (c.bs.gl.val b hb) h) hd
theorem Znw{kk:Nat}{ms:List M}{ds items:List D}{e:Expr}{Q:Value->Shared->Prop}(hS:Zaq prog w T σ mg mb s0 nm fn C k n)(c:Cx T σ mg mb s0 nm k A env sc ρ ρ2 N N2 s)
  (h:Zmd (okE nm fn fo sc) sc kk ms e=true)(hm:Zd8 (ev C n ρ ρ2) ms=some ds)(hi:Zmc kk ds=some items)
  (q:∀x s'1,Ext T s s'1->Zcr prog w T σ N x items s'1->Q x s'1):wpAny (model prog w) A (eval e env) Q E s:=by
 rcases kk with _|_|kk
 ·obtain⟨m,e1,h⟩:=Zmo h;rw[e1]at hm;obtain⟨d,hd,e2⟩:=Zdb hm;rw[e2]at hi;exact hS c h hd λv s'1 x'1 r'1=>q v s'1 x'1 (Zyx (c.bs.step x'1).lt r'1 hi)
 ·obtain⟨p,as,pos,he,hsc,h⟩:=Zhz h;rw[he];exact Hbi (Zdf (b:=5) c (by decide) hsc (by decide) (PySem.callWith_type (Zbl as ms h) (Zbk h (Zee hS as c h hm λvs s'1 x'1 r'1=>Zrp (c.bs.step x'1).lt r'1 hi λx s'2 x'2 it=>q x s'2 (x'1.trans x'2) it))))
 ·exact bF h
noncomputable def Zbg(prog:Program)(w:World)(T:Addr->Prop)(σ:Sg)(mg mb:Str->Option Value)(s0:Shared)(nm fn:Nat->Str)(C:Nat->List D->Option D)(k n:Nat):Prop:=
 ∀{A:Around} {E:Value->Shared->Prop} {env:Env} {sc:List (Str×NameKind)} {ρ ρ2:List (Nat×D)} {N N2:Addr->Prop} {s:Shared} {e:Expr} {m:M} {d:D} {t:Bool} {fo:Nat} {Q:Bool->Shared->Prop},
 Cx T σ mg mb s0 nm k A env sc ρ ρ2 N N2 s->okE nm fn fo sc e m=true->ev C n ρ ρ2 m=some d->Zeu d=some t->
 (∀s',Ext T s s'->Q t s')->wpAny (model prog w) A (isTrue e env (eval e env)) Q E s
theorem Zou{ifs:List Expr}{Q:Bool->Shared->Prop}(q:Q false s):
  wpAny (model prog w) A (forIn ifs false λc r=>if r=true then do let ok ←isTrue c env (eval c env);pure (ForInStep.yield ok)else pure (ForInStep.yield r)) Q E s:=by
 induction ifs with
 |nil=>exact Hau q
 |cons c r ih=>
  rw[List.forIn_cons];refine Ha6 ?_
  rw[if_neg Hca];exact Hau ih
theorem Zqd(hT:Zbg prog w T σ mg mb s0 nm fn C k n)(ifs:List Expr):∀{ms:List M} {b:Bool} {s:Shared} {Q:Bool->Shared->Prop},Cx T σ mg mb s0 nm k A env sc ρ ρ2 N N2 s->
  okL (okE nm fn fo sc) ifs ms=true->Zv6 (ev C n ρ ρ2) ms=some b->(∀s',Ext T s s'->Q b s')->wpAny (model prog w) A (Yhk ifs env) Q E s:=by
 induction ifs with
 |nil=>
  intro ms b s Q c hok hm q;rw[Zio hok]at hm;exact Hau (sI hm▸q s .refl)
 |cons e es ih=>
  intro ms b s Q c hok hm q;obtain⟨m,ms',e1,h1,h2⟩:=Zd2 hok;rw[e1]at hm;obtain⟨d,hd,hm⟩:=obS hm;obtain⟨t,ht,hm⟩:=obS hm;show wpAny _ _ (forIn (e::es) true _) _ _ _;rw[List.forIn_cons];refine Ha6 ?_
  rw[if_pos rfl];refine Ha6 (hT c h1 hd ht λs'1 x'1=>Hau ?_)
  cases t with
  |true=>exact ih (c.ext x'1) h2 hm λs'2 x'2=>q s'2 (x'1.trans x'2)
  |false=>exact Zou (sI hm▸q s'1 x'1)
theorem Zwt{x:Nat}(t:List Nat):∀(ds:List D) (ρ ρ':List (Nat×D)),bindL t ds ρ=some ρ'->x∉t->lk x ρ'=lk x ρ:=by
 induction t with
 |nil=>exact λds ρ ρ' h _=>by rw[(Zeh h).2]
 |cons y t ih=>
  intro ds ρ ρ' h hx;obtain⟨d,r,_,h⟩:=Zdl h;rw[ih r _ _ h (λq=>hx (.tail _ q)),Zav,if_neg (λ(q:x=y)=>hx (q▸.head _))]
theorem Ye3{t:List Nat}{uni:Bool}{d:D}{ρ ρ':List (Nat×D)}(h:Zhb t uni d ρ=some ρ'):(∃x,t=[x]/\ρ'=(x,d)::ρ)\/∃ds,bindL t ds ρ=some ρ':=by
 cases uni with
 |true=>
  cases t with
  |nil=>exact nS h
  |cons x r=>cases r with
   |nil=>exact .inl ⟨x,rfl,(sI h).symm⟩
   |cons _ _=>exact nS h
 |false=>cases d<;>first|exact nS h|exact .inr ⟨_,h⟩
theorem Zke{t:List Nat}{uni:Bool}{d:D}{ρ ρ':List (Nat×D)}{x:Nat}(h:Zhb t uni d ρ=some ρ')(hx:x∉t):lk x ρ'=lk x ρ:=by
 rcases Ye3 h with⟨y,e,e2⟩|⟨ds,h⟩
 ·rw[e2,Zav,if_neg (λq=>hx (e▸List.mem_singleton.mpr q))]
 ·exact Zwt _ _ _ _ h hx
theorem Zbs.less{env:Env}{h:Heap}{ρ ρ':List (Nat×D)}(r:Zbs σ nm N env h ρ')(hl:∀x d,lk x ρ=some d->lk x ρ'=some d):Zbs σ nm N env h ρ:=λx d e kx=>r x d (hl x d e) kx
theorem Rel.less{env:Env}{h:Heap}{ρ ρ' ρ2:List (Nat×D)}{t:List Nat}{uni:Bool}{d:D}(r:Rel σ nm N N2 env h ρ' ρ2)(hb:Zhb t uni d ρ=some ρ')(hn:∀x∈t,lk x (ρ++ρ2)=none):Rel σ nm N N2 env h ρ ρ2:=by
 refine⟨r.one.less λx e hx=>?_,r.two.less λx e hx=>?_,r.sl⟩
 ·rw[Zke hb λhm=>?_]
  ·exact hx
  ·have:=hn x hm;rw[Zf0,hx]at this;exact nS this.symm
 ·have hm:x∉t:=λhm=>nS ((hn x hm).symm.trans hx)
  rw[Zf0]at hx ⊢;rw[Zke hb hm];exact hx
theorem Rel.upd{W:Addr->Prop}{s':Shared}(h:Rel σ nm N N2 env s.heap ρ ρ2)(u:Upd T W s s')(hw:∀a,W a->N2 a)(hs2:∀a,N2 a->N a)(h1:¬W env.locals)(h2:∀n c,(n,c)∈env.cells->¬W c):Rel σ nm N N2 env s'.heap ρ ρ2:=
 ⟨h.one.upd u (λa q=>hs2 a (hw a q)) h1 h2,h.two.upd u hw h1 h2,h.sl.upd u h1 h2⟩
theorem Zwb{W:Addr->Prop}{s'1 mid s':Shared}{I:Addr}(x:Ext T s s'1)(u:Upd T (λa=>W a\/a=I) s'1 mid)(g:Zcq T (·=I) mid s')(hI:s.heap.get? I=none):Upd T W s s':=by
 have ne:∀b o,s.heap.get? b=some o->b≠I:=λb o e q=>by rw[q,hI]at e;cases e
 refine⟨λb o ht hw e=>?_,λb o hw e t=>?_,λb ho=>?_,λb t e=>g.tab b t (u.tab b t (x.tab b t e)),λe=>g.gens (u.gens (x.gens e)),g.os.trans (u.os.trans x.os)⟩
 ·exact g.keep b o ht (ne b o e) (u.keep b o ht (λq=>q.elim hw (ne b o e)) (x.keep b o ht e))
 ·exact g.keep2 b o (ne b o e) (u.keep2 b o (λq=>q.elim hw (ne b o e)) (x.keep2 b o e t) t) t
 ·obtain⟨o'1,e'1,t'1⟩:=id ho;obtain⟨o,e,t⟩:=u.occ b (ho.ext x);exact⟨o,g.keep2 b o (ne b _ e'1) e t,t⟩
theorem Za8{W:Addr->Prop}{s':Shared}{D:Addr}{vs:Array Value}(u:Upd T W s s')(h:s.heap.PlainList D vs)(hw:¬W D):s'.heap.PlainList D vs:=by
 obtain⟨m,e⟩:=h;exact⟨m,u.keep2 D _ hw e rfl⟩
theorem Zjx{W:Addr->Prop}{s':Shared}{D:Addr}{vs:Array Value}(u:Zcq T W s s')(h:s.heap.PlainList D vs)(hw:¬W D):s'.heap.PlainList D vs:=by
 obtain⟨m,e⟩:=h;exact⟨m,u.keep2 D _ hw e rfl⟩
theorem Zbj.gone{W:Addr->Prop}{s':Shared}(sl:Zbj env s.heap)(u:Zcq T W s s')(h1:¬W env.locals)(h2:∀n c,(n,c)∈env.cells->¬W c):Zbj env s'.heap:=by
 refine⟨?_,λn c hm=>?_,sl.apart⟩
 ·obtain⟨m,o,es,ep,e,d,r⟩:=sl.ns;exact⟨m,o,es,ep,u.keep2 _ o h1 e (Za0 (by rw[d];rfl)),d,r⟩
 ·obtain⟨v,o,e,d⟩:=sl.cells n c hm;exact⟨v,o,u.keep2 _ o (h2 n c hm) e (Za0 (by rw[d];rfl)),d⟩
theorem Zcq.fits{W:Addr->Prop}{s':Shared}(x:Zcq T W s s')(h:∀a,W a->N a):Zdk N N s.heap s'.heap:=λa o n e c=>⟨n,x.keep2 a o (λq=>n (h a q)) e c⟩
theorem Zam.gone{W:Addr->Prop}{s':Shared}{x:Str}{v:Value}(u:Zcq T W s s')(h:Zam env s.heap x v)(h1:¬W env.locals)(h2:∀n c,(n,c)∈env.cells->¬W c):Zam env s'.heap x v:=by
 rcases h with⟨h3,m,⟨o,es,ep,e,d,r⟩,h5⟩|⟨h3,h4,c,h5,⟨o,e,d⟩⟩
 ·exact .inl ⟨h3,m,⟨o,es,ep,u.keep2 _ o h1 e (Za0 (by rw[d];rfl)),d,r⟩,h5⟩
 ·exact .inr ⟨h3,h4,c,h5,o,u.keep2 _ o (h2 _ _ (mem_of_lookup h5)) e (Za0 (by rw[d];rfl)),d⟩
theorem Zbs.gone{W:Addr->Prop}{s':Shared}(h:Zbs σ nm N env s.heap ρ)(u:Zcq T W s s')(hw:∀a,W a->N a)(h1:¬W env.locals)(h2:∀n c,(n,c)∈env.cells->¬W c):Zbs σ nm N env s'.heap ρ:=by
 intro y e hl hk;obtain⟨v,h3,h4⟩:=h y e hl hk;exact⟨v,h3.gone u h1 h2,h4.mono (u.fits hw)⟩
theorem Rel.gone{W:Addr->Prop}{s':Shared}(h:Rel σ nm N N2 env s.heap ρ ρ2)(u:Zcq T W s s')(hw:∀a,W a->N2 a)(hs2:∀a,N2 a->N a)(h1:¬W env.locals)(h2:∀n c,(n,c)∈env.cells->¬W c):Rel σ nm N N2 env s'.heap ρ ρ2:=
 ⟨h.one.gone u (λa q=>hs2 a (hw a q)) h1 h2,h.two.gone u hw h1 h2,h.sl.gone u h1 h2⟩
inductive LL(σ:Sg)(N:Addr->Prop)(L:Addr)(h:Heap)(ds:List D):Prop
 |mk (vs:List Value) (p:h.PlainList L vs.toArray) (r:RdL σ N h vs ds)
theorem LL.upd{W:Addr->Prop}{s':Shared}{L:Addr}{ds:List D}(x:LL σ N L s.heap ds)(u:Upd T W s s')(hL:¬W L)(hw:∀a,W a->N a):LL σ N L s'.heap ds:=
 let⟨vs,p,r⟩:=x
 ⟨vs,Za8 u p hL,r.mono (u.fits hw)⟩
theorem LL.gone{W:Addr->Prop}{s':Shared}{L:Addr}{ds:List D}(x:LL σ N L s.heap ds)(u:Zcq T W s s')(hL:¬W L)(hw:∀a,W a->N a):LL σ N L s'.heap ds:=
 let⟨vs,p,r⟩:=x
 ⟨vs,Zjx u p hL,r.mono (u.fits hw)⟩
theorem LL.ext{s':Shared}{L:Addr}{ds:List D}(x:LL σ N L s.heap ds)(e:Ext T s s'):LL σ N L s'.heap ds:=
 let⟨vs,p,r⟩:=x
 ⟨vs,Za8 (W:=λ_=>False) e.upd p λh=>h,r.mono e.fits⟩
structure Zox(T:Addr->Prop)(σ:Sg)(nm:Nat->Str)(N N2 W own:Addr->Prop)(env:Env)(L:Addr)(ρ ρ2:List (Nat×D))(ds:List D)(s s':Shared):Prop where
 upd:E12 (λmid=>Upd T (λa=>W a\/own a) s mid) λmid=>Zcq T own mid s'
 acc:LL σ N L s'.heap ds
 rel:Rel σ nm N N2 env s'.heap ρ ρ2
theorem Zfu{us:List Nat}(ts:List Nat):Za6 (ts++us)=true->Za6 us=true/\∀x∈ts,x∉us:=by
 induction ts with
 |nil=>exact λh=>⟨h,λ_ h=>nomatch h⟩
 |cons t ts ih=>
  intro h;have h:=Zaa (show(!((ts++us).any λy=>Nat.beq t y)&&Za6 (ts++us))=true from h)
  obtain⟨h1,h2⟩:=ih h.2;refine⟨h1,λx hx hu=>?_⟩
  rcases jC hx with e|hx
  ·rw[e]at hu;exact List.any_eq_false.mp (Hcb ..▸h.1) t (List.mem_append_right _ hu) (Hcm _)
  ·exact h2 x hx hu
noncomputable def Zzb(prog:Program)(w:World)(A:Around)(T:Addr->Prop)(σ:Sg)(mg mb:Str->Option Value)(s0:Shared)(nm:Nat->Str)(C:Nat->List D->Option D)(n:Nat)(elt:Expr)(e:M)(gens:List Comprehension)(scope:Scope)(pos:Pos)
  (env:Env)(ρ2:List (Nat×D))(L:Addr)(W:Addr->Prop)(cs:List Cl)(depth:Nat):Prop:=
 ∀(N N2:Addr->Prop) (ρ':List (Nat×D)) (s:Shared) (dn b1:List D) (E:Value->Shared->Prop) (Q:Shared->Prop),
  (∀x∈Zal cs,lk x (ρ'++ρ2)=none)->(∀a,W a->N2 a)->(∀a,N2 a->N a)->Zwh (λρ'=>ev C n ρ' ρ2) e cs ρ'=some b1->(dn++b1).length<=1000000->Bs T mg mb s0 s->Rel σ nm N N2 env s.heap ρ' ρ2->
  (∀a,N a->Occ s.heap a)->LL σ N L s.heap dn->
  (∀s',Upd T W s s'->LL σ N L s'.heap (dn++b1)->Rel σ nm N N2 env s'.heap ρ' ρ2->Q s')->
  (match gens[depth+1]? with
   |none=>wpAny (model prog w) A (eval elt env) (λx s'5=>wpAny (model prog w) A (call (.builtin "list.append") [.ref L,x]) (λ_ s6=>Q s6) E s'5) E s
   |some g=>wpAny (model prog w) A (eval g.iter env) (λx s'5=>wpAny (model prog w) A (pyIter x) (λit' s6=>
     wpAny (model prog w) A (runOwn (.compStart (.ListComp elt gens scope pos) (depth+1) it' (.ref L) env) env) (λ_ s7=>Q s7) E s6) E s'5) E s)
theorem Zhl{α:Type}{l:List α}{n:Nat}{a:α}{r:List α}(h:l.drop n=a::r):l[n]?=some a/\l.drop (n+1)=r:=by
 refine⟨?_,?_⟩
 ·have:(l.drop n)[0]?=some a:=by rw[h];rfl
  rwa [List.getElem?_drop,Nat.add_zero]at this
 ·have:(l.drop n).drop 1=r:=by rw[h];rfl
  rwa [List.drop_drop]at this
theorem Zeo{α:Type}{l:List α}{i:Nat}{a:α}(h:l[i]?=some a):i<l.length:=by
 rcases Nat.lt_or_ge i l.length with q|q
 ·exact q
 ·exact nS ((List.getElem?_eq_none q).symm.trans h)
theorem Zfd{α:Type}{l:List α}{i:Nat}{a:α}(h:l[i]?=some a):l.drop i=a::l.drop (i+1):=by
 rw[Hcv (Zeo h),sI ((Hcc (Zeo h)).symm.trans h)]
inductive Yej(T:Addr->Prop)(σ:Sg)(nm:Nat->Str)(N N2 X:Addr->Prop)(env:Env)(L:Addr)(ρ ρ2:List (Nat×D))(St:Nat->Heap->Prop)(f:D->Option (List D))(items all:List D)(s:Shared)(m:Nat)(s':Shared):Prop
 |mk (i:Nat) (dn out:List D) (em:m=items.length-i) (hi:i<=items.length) (u:Upd T X s s') (st:St i s'.heap) (ho:Zjc f (items.drop i)=some out) (ha:all=dn++out) (l:LL σ N L s'.heap dn) (r:Rel σ nm N N2 env s'.heap ρ ρ2)
theorem Yat{i l:Nat}(h:i<l):l-(i+1)<l-i:=Nat.sub_lt_sub_left h (Hbj i)
theorem Yes{dn b r:List D}(h:(dn++(b++r)).length<=1000000):(dn++b).length<=1000000:=by
 rw[←Hcz,Hct]at h;exact Hag (Hal _ _) h
theorem Zjn(hT:Zbg prog w T σ mg mb s0 nm fn C k n)(hnm:Zb6 nm){elt:Expr}{e:M}{gens:List Comprehension}{scope:Scope}{pos:Pos}{L:Addr}{W:Addr->Prop}
  (ha:AOk k A)(ok:Zcg env sc)(hW0:∀a,W a->s0.heap.get? a=none)(hWL:W L)
  {cs:List Cl}{gs:List Comprehension}{tg it0:Expr}{ifs:List Expr}{t:List Nat}{uni:Bool}{mifs:List M}{depth:Nat}(hB:Zzb prog w A T σ mg mb s0 nm C n elt e gens scope pos env ρ2 L W cs depth)
  (hgens:gens.drop depth=⟨tg,it0,ifs,0⟩::gs)(hn2:∀g,gens[depth+1]?=some g->g.is_async=0/\∀x,foldedSetIterable g.iter env x=pure x)
  (htg:Zbc nm sc tg t uni=true)(hifs:okL (okE nm fn fo sc) ifs mifs=true)(hdist:Za6 (t++Zal cs)=true){N N2 own:Addr->Prop}{St:Nat->Heap->Prop}{it:Value}{items:List D}{ρ:List (Nat×D)}{s:Shared}{i:Nat}
  {all dn out:List D}{R:Result->Shared->Prop}
  (hfree:∀x∈t++Zal cs,lk x (ρ++ρ2)=none)(hstore:∀x∈t,Zlt env (λa=>W a/\a≠L) T (nm x))(hWN:∀a,W a->N2 a/\¬own a)(hown:∀a,own a->N2 a/\s0.heap.get? a=none)(hs2:∀a,N2 a->N a)
  (hol:¬own env.locals)(hoc:∀n c,(n,c)∈env.cells->¬own c)(hIt:It prog w A T σ N tg it own items St)(hst:St i s.heap)(hi:i<=items.length)
  (hout:Zjc (Zlm (λρ'=>ev C n ρ' ρ2) (Zwh (λρ'=>ev C n ρ' ρ2) e cs) t uni mifs ρ) (items.drop i)=some out)(hall:all=dn++out)(hlen:all.length<=1000000)(bs:Bs T mg mb s0 s)(rel:Rel σ nm N N2 env s.heap ρ ρ2)
  (occ:∀a,N a->Occ s.heap a)(hl:LL σ N L s.heap dn)(q:∀s',Zox T σ nm N N2 W own env L ρ ρ2 all s s'->R (.ok .next) s'):
  codeAny (model prog w) A (.compLoop (.ListComp elt gens scope pos) depth it (.ref L) env) R s:=by
 have hX0:∀a,(W a\/own a)->s0.heap.get? a=none:=λa h=>h.elim (hW0 a) λh=>(hown a h).2
 have hoN:∀a,own a->N a:=λa h=>hs2 a (hown a h).1
 have hWn:∀a,W a->N a:=λa h=>hs2 a (hWN a h).1
 have hoL:¬own L:=(hWN L hWL).2;refine codeAny_loop rfl (Yej T σ nm N N2 (λa=>W a\/own a) env L ρ ρ2 St _ items all s) ?_ (items.length-i) ⟨i,dn,out,rfl,hi,.refl,hst,hout,hall,hl,rel⟩
 clear hst hi hout hall rel hl
 rintro m s'1 ⟨i,dn',out',em,hi,u'1,hst,hout,heq,hl,rel⟩
 refine wpAny_noted (m:=compTurn (.ListComp elt gens scope pos) depth it (.ref L) env) ?_
 have bs1:=bs.upd u'1 hX0;refine Zjj (Zhl hgens).1 hn2 ?_
 refine Ha4 (hIt.next i s'1 _ hst hi) (λr s'2 h'2=>?_) λ_ _ e=>e
 cases r with
 |none=>
  obtain⟨hi',g⟩:=h'2;rw[hi',List.drop_length]at hout;rw[←sI hout,Hcw]at heq;exact q s'2 ⟨⟨s'1,u'1,g⟩,heq▸hl.gone g hoL hoN,rel.gone g (λa h=>(hown a h).1) hs2 hol hoc⟩
 |some v=>
  refine Ha4 h'2 (λ_ s3 h'3=>?_) λ_ _ e=>e
  obtain⟨d,hd,u'3,hst3,hr'3⟩:=h'3;have hlt:=Zeo hd;rw[Zfd hd]at hout;obtain⟨b1,hb1,hout⟩:=obS hout;obtain⟨rest,hrest,hout⟩:=obS hout;obtain⟨ρ',hρ',hb1⟩:=obS hb1;obtain⟨tb,hts,hb1⟩:=obS hb1;rw[←sI hout]at heq;rw[em];have u13:Upd T (λa=>W a\/own a) s s3:=u'1.trans (u'3.mono λa h=>.inr h)
  refine Zr7 ha.handled ok hnm.inj (rel.sl.upd u'3 hol hoc) hstore (rel.upd u'3 (λa h=>(hown a h).1) hs2 hol hoc) (λa h=>(hWN a h.1).1) hs2 hr'3 htg hρ' λs4 u'4 sl4 rel4=>?_
  have u14:=u13.trans (u'4.mono λa h=>Or.inl h.1)
  have bs4:=bs.upd u14 hX0;have occ4:∀a,N a->Occ s4.heap a:=λa h=>u14.occ a (occ a h)
  have hl4:=(hl.upd u'3 hoL hoN).upd u'4 (λh=>h.2 rfl) λa h=>hWn a h.1
  have fin:∀(s':Shared),Upd T W s4 s'->LL σ N L s'.heap (dn'++b1)->Rel σ nm N N2 env s'.heap ρ' ρ2->
    ∃m,m<items.length-i/\Yej T σ nm N N2 (λa=>W a\/own a) env L ρ ρ2 St (Zlm (λρ'=>ev C n ρ' ρ2) (Zwh (λρ'=>ev C n ρ' ρ2) e cs) t uni mifs ρ) items all s m s':=λs' u' hl' rel'=>
   ⟨_,Yat hlt,i+1,dn'++b1,rest,rfl,hlt,u14.trans (u'.mono λa h=>.inl h),hIt.frame _ _ _ W hst3 ((u'4.mono λa h=>h.1).trans u') λa h=>⟨hWn a h,(hWN a h).2⟩,hrest,
    heq.trans (Hcz ..).symm,hl',rel'.less hρ' λx hx=>hfree x (List.mem_append_left _ hx)⟩
  cases tb with
  |false=>
   refine Zqd hT ifs ⟨ha,ok,bs4,rel4,hs2,occ4⟩ hifs hts λs'5 x5=>?_
   rw[if_neg Hca];rw[←sI hb1,Hcw]at fin;exact⟨rfl,fin s'5 x5.upd (hl4.ext x5) (rel4.ext x5)⟩
  |true=>
   refine Zqd hT ifs ⟨ha,ok,bs4,rel4,hs2,occ4⟩ hifs hts λs'5 x5=>?_
   rw[if_pos rfl];have hfree':∀x∈Zal cs,lk x (ρ'++ρ2)=none:=λx hx=>by
    have h1:=hfree x (List.mem_append_right _ hx);rw[Zf0]at h1 ⊢;rw[Zke hρ' λht=>(Zfu _ hdist).2 x ht hx]
    exact h1
   exact hB N N2 ρ' s'5 dn' b1 _ _ hfree' (λa h=>(hWN a h).1) hs2 hb1 (Yes (heq▸hlen)) (bs4.step x5) (rel4.ext x5) (λa h=>(occ4 a h).ext x5)
    (hl4.ext x5) λs' u' l' rel'=>⟨rfl,fin s' (x5.upd.trans u') l' rel'⟩
theorem Zkj(hS:Zaq prog w T σ mg mb s0 nm fn C k n){elt:Expr}{e:M}{gens:List Comprehension}{scope:Scope}{pos:Pos}{L:Addr}{W:Addr->Prop}
  (ha:AOk k A)(ok:Zcg env sc)(helt:okE nm fn fo sc elt e=true)(hWL:W L)(hTL:¬T L)(hLl:L≠env.locals)(hLc:∀n c,(n,c)∈env.cells->c≠L){depth:Nat}(hg:gens[depth+1]?=none):
  Zzb prog w A T σ mg mb s0 nm C n elt e gens scope pos env ρ2 L W [] depth:=by
 intro N N2 ρ' s dn b1 E Q hfree hWN hs2 hev hlen bs rel occ hl q;rw[hg];obtain⟨d,hd,hev⟩:=Ziq hev;rw[←hev]at q hlen;refine hS ⟨ha,ok,bs,rel,hs2,occ⟩ helt hd λv s'1 x'1 r'1=>?_
 obtain⟨vs,hpl1,hrd⟩:=hl.ext x'1;have rel1:=rel.ext x'1;refine wpAny_list_append_plain (hsz:=?_) hpl1 λh' hp' hsb=>?_
 ·have u:Upd T (·=L) s'1 {s'1 with heap:=h'}:=.of_but (tk:=s'1.toks) hsb (let⟨_,e⟩:=hp';⟨_,e,rfl⟩) hTL (.lst hpl1)
  exact q _ (x'1.upd.trans (u.mono λa e=>e▸hWL)) ⟨vs++[v],(List.push_toArray vs v)▸hp',(hrd.append (.cons r'1 .nil)).mono (u.fits λa e=>e▸hs2 _ (hWN _ hWL))⟩
   (rel1.upd u (λa e=>e▸hWN _ hWL) hs2 (λe=>hLl e.symm) λn c hm e=>hLc n c hm e)
 ·rw[Hb8,hrd.length];rw[Hct]at hlen;exact Hag (Hag (Hal _ _) hlen) (by decide)
theorem Bs.free(bs:Bs T mg mb s0 s){a:Addr}(h:s.heap.get? a=none):s0.heap.get? a=none:=by
 cases e:s0.heap.get? a with
 |none=>rfl
 |some o=>
  by_cases ht:T a
  ·obtain⟨_,e',_⟩:=bs.ext.tab a ht (bs.tabs a ht);exact nS (h.symm.trans e')
  ·exact nS (h.symm.trans (bs.ext.keep a o ht e))
theorem Zho{N:Addr->Prop}{I:Addr}{s'1 s'2:Shared}(x'2:Ext T s'1 s'2)(hI:s'1.heap.get? I=none):Zdk N (λa=>N a\/a=I) s'1.heap s'2.heap:=
 λa o hn e c=>⟨λh=>h.elim hn λh=>nS (hI.symm.trans (h▸e)),x'2.keep2 a o e c⟩
theorem Zie{N:Addr->Prop}{I:Addr}{h:Heap}:Zdk (λa=>N a\/a=I) N h h:=λ_ _ hn e _=>⟨λh=>hn (.inl h),e⟩
theorem Rel.fits{N' N2':Addr->Prop}{h h':Heap}(r:Rel σ nm N N2 env h ρ ρ2)(f:Zdk N N' h h')(f'2:Zdk N2 N2' h h')(v:∀{x v},Zam env h x v->Zam env h' x v)(sl:Zbj env h'):Rel σ nm N' N2' env h' ρ ρ2:=
 ⟨λy d hl hk=>let⟨u,h1,h2⟩:=r.one y d hl hk;⟨u,v h1,h2.mono f⟩,λy d hl hk=>let⟨u,h1,h2⟩:=r.two y d hl hk;⟨u,v h1,h2.mono f'2⟩,sl⟩
theorem Zsq(hS:Zaq prog w T σ mg mb s0 nm fn C k n)(hT:Zbg prog w T σ mg mb s0 nm fn C k n)(hnm:Zb6 nm){elt:Expr}{e:M}{gens:List Comprehension}{scope:Scope}{pos:Pos}{L:Addr}{W:Addr->Prop}
  (ha:AOk k A)(ok:Zcg env sc)(helt:okE nm fn fo sc elt e=true)(hW0:∀a,W a->s0.heap.get? a=none)(hWL:W L)(hTL:¬T L)(hLl:L≠env.locals)(hLc:∀n c,(n,c)∈env.cells->c≠L)(cs:List Cl):
  ∀{gs:List Comprehension} {tg it0:Expr} {ifs:List Expr} {t:List Nat} {uni:Bool} {mifs:List M} {depth:Nat} {N N2 own:Addr->Prop} {St:Nat->Heap->Prop} {it:Value} {items:List D} {ρ:List (Nat×D)} {s:Shared}
   {dn out:List D} {R:Result->Shared->Prop},
  gens.drop depth=⟨tg,it0,ifs,0⟩::gs->Zbc nm sc tg t uni=true->okL (okE nm fn fo sc) ifs mifs=true->Ya3 (okE nm fn fo) nm sc gs cs=true->Za6 (t++Zal cs)=true->
  (∀x∈t++Zal cs,lk x (ρ++ρ2)=none)->(∀x∈t++Zal cs,Zlt env (λa=>W a/\a≠L) T (nm x))->(∀a,W a->N2 a/\¬own a)->(∀a,own a->N2 a/\s0.heap.get? a=none)->(∀a,N2 a->N a)->
  ¬own env.locals->(∀n c,(n,c)∈env.cells->¬own c)->It prog w A T σ N tg it own items St->St 0 s.heap->
  Zjc (Zlm (λρ'=>ev C n ρ' ρ2) (Zwh (λρ'=>ev C n ρ' ρ2) e cs) t uni mifs ρ) items=some out->(dn++out).length<=1000000->Bs T mg mb s0 s->Rel σ nm N N2 env s.heap ρ ρ2->(∀a,N a->Occ s.heap a)->
  LL σ N L s.heap dn->(∀s',Zox T σ nm N N2 W own env L ρ ρ2 (dn++out) s s'->R (.ok .next) s')->
  codeAny (model prog w) A (.compLoop (.ListComp elt gens scope pos) depth it (.ref L) env) R s:=by
 induction cs with
 |nil=>
  intro gs tg it0 ifs t uni mifs depth N N2 own St it items ρ s dn out R hgens htg hifs hcls hdist hfree hstore hWN hown hs2 hol hoc hIt hst hout hlen bs rel occ hl q;rw[Zdc hcls]at hgens;have hnone:gens[depth+1]?=none:=List.getElem?_eq_none (List.drop_eq_nil_iff.mp (Zhl hgens).2);exact Zjn hT hnm ha ok hW0 hWL (Zkj hS ha ok helt hWL hTL hLl hLc hnone) hgens (λg hg=>nS (hnone.symm.trans hg)) htg hifs hdist
   hfree (λx hx=>hstore x (List.mem_append_left _ hx)) hWN hown hs2 hol hoc hIt hst (Hap _) hout rfl hlen bs rel occ hl q
 |cons c' cs' ih=>
  intro gs tg it0 ifs t uni mifs depth N N2 own St it items ρ s dn out R hgens htg hifs hcls hdist hfree hstore hWN hown hs2 hol hoc hIt hst hout hlen bs rel occ hl q;obtain⟨g',gs',hgs,hc,hcls2⟩:=Zcz hcls;obtain⟨t'2,uni2,kk'2,ms2,mifs2⟩:=c';obtain⟨tg2,it2,ifs2,as2⟩:=g';obtain⟨has,hc⟩:=Zaa hc;obtain⟨hct,hc⟩:=Zaa hc;obtain⟨hci,hcf⟩:=Zaa hc;rw[hgs,show as2=0 from Hb5 has]at hgens;have hgens':=(Zhl hgens).2;have hg':=(Zhl hgens').1;have hdist':=(Zfu _ hdist).1;refine Zjn hT hnm ha ok hW0 hWL ?_ hgens (λg hg=>by
   rw[←sI (hg'.symm.trans hg)];exact⟨rfl,Zn4 hci env⟩) htg hifs hdist
   hfree (λx hx=>hstore x (List.mem_append_left _ hx)) hWN hown hs2 hol hoc hIt hst (Hap _) hout rfl hlen bs rel occ hl q
  clear hst hout hlen rel hl q occ bs hfree hWN hown hol hoc hIt hs2 R N N2 own St it items ρ s dn out
  intro N N2 ρ' s dn b1 E Q hfree' hWN' hs2' hev hlen bs rel occ hl q;rw[hg'];obtain⟨ds2,hms,hev⟩:=obS hev;obtain⟨items2,hitems,hev⟩:=obS hev;refine Znw hS ⟨ha,ok,bs,rel,hs2',occ⟩ hci hms hitems λx s'1 x'1 hit=>?_
  refine hit A E _ ha.handled λit' s'2 I x'2 hI hoccI hmk=>?_
  have bs1:=bs.step x'1;have rel1:=rel.ext x'1;have Ine:∀{a},Occ s'1.heap a->a≠I:=λ⟨o,e,_⟩ q=>nS (hI.symm.trans (q▸e))
  have NI:∀a,N a->a≠I:=λa h=>Ine ((occ a h).ext x'1)
  obtain⟨St'2,hIt2,hst2⟩:=hmk A tg2 (λa=>N a\/a=I) ha.handled (λa h=>.inl h) (.inr rfl) (Zho x'2 hI)
  have locI:env.locals≠I:=let⟨_,hm⟩:=rel1.sl.ns;Ine (Zju hm)
  have celI:∀n c,(n,c)∈env.cells->c≠I:=λn c hm=>let⟨_,hv⟩:=rel1.sl.cells n c hm;Ine (Zfr hv)
  have loop:codeAny (model prog w) A (.compLoop (.ListComp elt gens scope pos) (depth+1) it' (.ref L) env) (λr s'=>match r with| .ok f=>Q s'| .error e=>cameBackBy (model prog w) A env E e s') s'2:=by
   refine ih (N:=λa=>N a\/a=I) (N2:=λa=>N2 a\/a=I) (own:=(·=I)) hgens' hct hcf hcls2 hdist' hfree' (λx hx=>hstore x (List.mem_append_right _ hx))
    (λa h=>⟨.inl (hWN' a h),NI a (hs2' a (hWN' a h))⟩) (λa h=>⟨.inr h,h▸bs1.free hI⟩) (λa h=>h.elim (λh=>.inl (hs2' a h)) .inr) locI celI hIt2 hst2 hev hlen (bs1.step x'2)
    (rel1.fits (Zho x'2 hI) (Zho x'2 hI) (·.ext x'2) (rel1.sl.ext x'2))
    (λa h=>h.elim (λh=>((occ a h).ext x'1).ext x'2) λh=>h▸hoccI) (let⟨vs,p,r⟩:=hl.ext x'1;⟨vs,Za8 (W:=λ_=>False) x'2.upd p λh=>h,r.mono (Zho x'2 hI)⟩) λs' hd=>?_
   obtain⟨⟨mid,um,gm⟩,⟨vs',hp',hr'⟩,rel'⟩:=hd;exact q s' (x'1.upd.trans (Zwb x'2 um gm hI)) ⟨vs',hp',hr'.mono Zie⟩ (rel'.fits Zie Zie (λh=>h) rel'.sl)
  exact wpAny_runOwn (Zco hg' rfl loop (hIt2.self 0 s'2 _ _ hst2 loop))
theorem Bs.low(bs:Bs T mg mb s0 s){a:Addr}(h:s.heap.objs.size<=a):s0.heap.get? a=none:=bs.free (Zae h)
theorem Zcq.of_but{a:Addr}{h':Heap}(hs:Heap.SameBut a s.heap h')(ht:¬T a)(hc:Za9 s.heap a):Zcq T (·=a) s {s with heap:=h'}:=
 ⟨λb o _ n e=>(hs.2 b n).trans e,λb o n e _=>(hs.2 b n).trans e,λb tb t=>t.keep (λc o co e=>(hs.2 c (λq=>(q▸hc).absurd co e)).trans e) (λo e=>(hs.2 b (λq=>ht (q▸tb))).trans e),λe=>e,rfl⟩
structure Zls(nm fn:Nat->Str)(fo:Nat)(sc:List (Str×NameKind))(elt:Expr)(gens:List Comprehension)(scope:Scope)(e:M)(c:Cl)(cs:List Cl):Prop where
 kind:scope.kind= .function
 names:Zeq sc scope.names=true
 dist:Za6 (Zal (c::cs))=true
 tgs:((Zal (c::cs)).all λx=>(scope.names.lookup (nm x)==some .local||scope.names.lookup (nm x)==some .cell))=true
 own:(scope.names.all λp=>!(p.2==.local||p.2==.cell)||p.1==(".0":Str)||(Zal (c::cs)).any λx=>nm x==p.1)=true
 elt:okE nm fn fo (Ze5 sc scope.names) elt e=true
 cls:∃g gs,gens=g::gs/\Yji (okE nm fn fo) nm sc (Ze5 sc scope.names) g c=true/\Ya3 (okE nm fn fo) nm (Ze5 sc scope.names) gs cs=true
theorem Zlz{elt:Expr}{gens:List Comprehension}{scope:Scope}{e:M}{cs:List Cl}(h:okCp (okE nm fn fo) nm sc e cs elt gens scope=true):∃c r,cs=c::r/\Zls nm fn fo sc elt gens scope e c r:=by
 cases cs with
 |nil=>exact bF h
 |cons c r=>
  cases gens with
  |nil=>exact bF h
  |cons g gs=>
   obtain⟨h1,h⟩:=Zaa h;obtain⟨h2,h⟩:=Zaa h;obtain⟨h3,h⟩:=Zaa h;obtain⟨h4,h⟩:=Zaa h;obtain⟨h5,h⟩:=Zaa h;obtain⟨h6,h⟩:=Zaa h;exact⟨c,r,rfl,Hb5 h1,h2,h3,(Zaa h).1,(Zaa h).2,h6,g,gs,rfl,h4,h5⟩
theorem Zls.sync{elt:Expr}{gens:List Comprehension}{scope:Scope}{e:M}{c:Cl}{cs:List Cl}(co:Zls nm fn fo sc elt gens scope e c cs):firstAsync gens=false:=by
 obtain⟨⟨g1,g2,g3,g4⟩,gs,he,hc,_⟩:=co.cls;obtain⟨t,uni,k,it,ifs⟩:=c;rw[he];show(g4 != 0)=false;rw[show g4=0 from Hb5 (Zaa hc).1];rfl
theorem Ext.free{s':Shared}(x:Ext T s s')(ht:∀a,T a->∃o,s'.heap.get? a=some o){a:Addr}(h:s'.heap.get? a=none):s.heap.get? a=none:=by
 cases e:s.heap.get? a with
 |none=>rfl
 |some o=>
  by_cases t:T a
  ·obtain⟨_,e'⟩:=ht a t;exact nS (h.symm.trans e')
  ·exact nS (h.symm.trans (x.keep a o t e))
structure NewC(σ:Sg)(nm:Nat->Str)(T:Addr->Prop)(N N2:Addr->Prop)(ts:List Nat)(names:List (Str×NameKind))(ρ ρ2:List (Nat×D))(L I:Addr)(cenv:Env)(sc:List (Str×NameKind))(s'2 s4:Shared):Prop where
 ext:Ext T s'2 s4
 ok:Zcg cenv (Ze5 sc names)
 loc:cenv.locals=L+1
 lz:L+1<s4.heap.objs.size
 cel:∀n c,(n,c)∈cenv.cells->c≠L/\c≠I
 lst:s4.heap.get? L=some (Za3 #[] 0)
 rel:Rel σ nm (λa=>N a\/a=I\/(L<=a/\a<s4.heap.objs.size)) (λa=>N2 a\/a=I\/(L<=a/\a<s4.heap.objs.size)) cenv s4.heap (Zak ts ρ) (Zak ts ρ2)
 st:∀x∈ts,∃a,Zcw cenv (nm x) a/\L<a/\a<s4.heap.objs.size
 occ:∀a,L<=a->a<s4.heap.objs.size->Occ s4.heap a
theorem Zif{N:Addr->Prop}{I L z:Addr}{s'1 s'2:Shared}(x'2:Ext T s'1 s'2)(hI:s'1.heap.get? I=none)(hL:s'2.heap.objs.size<=L):Zdk N (λa=>N a\/a=I\/(L<=a/\a<z)) s'1.heap s'2.heap:=λa o hn e c=>
 have e':=x'2.keep2 a o e c
 ⟨λh=>h.elim hn λh=>h.elim (λh=>nS (hI.symm.trans (h▸e))) λh=>absurd (Haj e') (Nat.not_lt.mpr (Hag hL h.1)),e'⟩
structure Made(T:Addr->Prop)(σ:Sg)(N N':Addr->Prop)(s s':Shared)(L:Addr)(out:List D):Prop where
 ext:Ext T s s'
 free:s.heap.get? L=none
 tab:¬T L
 lst:LL σ N' L s'.heap out
 notN:¬N L
structure Yd9(T:Addr->Prop)(s s':Shared)(L Cl:Addr):Prop where
 ne:L≠Cl
 ns:∃m,s'.heap.Ns Cl m
 free:s.heap.get? Cl=none
 tab:¬T Cl
theorem Ycv(hnm:Zb6 nm)(ok:Zcg env sc){elt:Expr}{gens:List Comprehension}{scope:Scope}{e:M}{c:Cl}{cs:List Cl}(co:Zls nm fn fo sc elt gens scope e c cs){s'1 s'2 s3:Shared}{I:Addr}
  (rel:Rel σ nm N N2 env s'1.heap ρ ρ2)(x'2:Ext T s'1 s'2)(hI:s'1.heap.get? I=none)(hIs:I<s'2.heap.objs.size)(hs3:({s'2 with heap:=s'2.heap.push (Za3 #[] 0)}:Shared)=s3):
  NewC σ nm T N N2 (Zal (c::cs)) scope.names ρ ρ2 s'2.heap.objs.size I (Zc8 scope (Za2 env scope.names []) s3.heap.objs.size env) sc s'2 {s3 with heap:=pushCells (s3.heap.push {cls:=.type "dict",data:=.dict #[]}) scope.names}:=by
 have x3:Ext T s'2 s3:=by rw[←hs3];exact .push (tk:=s'2.toks)
 have hsz3:s3.heap.objs.size=s'2.heap.objs.size+1:=by rw[←hs3];exact Hcx ..
 have hL:s3.heap.get? s'2.heap.objs.size=some (Za3 #[] 0):=by rw[←hs3];exact Hb7 _ rfl
 obtain⟨_,_,okc,slc,stc,relc⟩:=Zo3 (σ:=σ) (s:=s3) ok ((rel.sl.ext x'2).ext x3) co.kind co.names co.tgs co.own hnm.inj hnm.dot;have keepP:∀b o,(s3.heap.push {cls:=.type "dict",data:=.dict #[]}).get? b=some o->(pushCells (s3.heap.push {cls:=.type "dict",data:=.dict #[]}) scope.names).get? b=some o:=pushCells_keeps _ _;have hfr:=keepP _ _ (Hb7 _ rfl);have hocc:=Zd3 scope.names (s3.heap.push {cls:=.type "dict",data:=.dict #[]});rw[Hcx]at hocc
 generalize pushCells (s3.heap.push {cls:=.type "dict",data:=.dict #[]}) scope.names=h'4 at slc stc relc keepP hfr hocc ⊢
 have x4:Ext T s3 {s3 with heap:=h'4}:=.of_keeps (tk:=s3.toks) λb o e=>keepP _ _ (Hai _ e)
 have hL4:h'4.get? s'2.heap.objs.size=some (Za3 #[] 0):=x4.keep2 _ _ hL rfl;have hle:s'2.heap.objs.size<=s3.heap.objs.size:=Hag (Haw _) (Han hsz3.symm);refine⟨x3.trans x4,okc,hsz3,hsz3▸Haj hfr,λn c hm=>⟨λq=>?_,λq=>?_⟩,hL4,⟨?_,?_,slc⟩,λy hy=>?_,λa h1 h2=>?_⟩
 ·obtain⟨v,o,e,d⟩:=slc.cells n c hm;rw[sI (e.symm.trans (q▸hL4))]at d;exact nomatch d
 ·rcases Zdt _ _ _ _ _ hm with h|⟨_,h⟩
  ·rcases Zew _ _ _ _ h with h|⟨_,h⟩
   ·exact nomatch h
   ·obtain⟨v,hv⟩:=rel.sl.cells n c (mem_of_lookup h);obtain⟨o,e,t⟩:=Zfr hv;exact nS (hI.symm.trans (q▸e))
  ·exact Hao _ (Har hIs (Hag hle (Hba (q▸h))))
 ·refine relc ρ _ _ (λy d hl hk=>?_) x4.fits
  obtain⟨v,h1,h2⟩:=rel.one y d hl hk;exact⟨v,(h1.ext x'2).ext x3,(h2.mono (Zif x'2 hI (Hac _))).mono x3.fits⟩
 ·rw[←Zc9];refine relc (ρ++ρ2) _ _ (λy d hl hk=>?_) x4.fits
  obtain⟨v,h1,h2⟩:=rel.two y d hl hk;exact⟨v,(h1.ext x'2).ext x3,(h2.mono (Zif x'2 hI (Hac _))).mono x3.fits⟩
 ·obtain⟨a,h1,h2,h3⟩:=stc y hy;exact⟨a,h1,Har (Nat.lt_of_lt_of_eq (Hbj _) hsz3.symm) h2,h3⟩
 ·rcases Nat.lt_or_ge s3.heap.objs.size a with q|q
  ·exact hocc a q h2
  ·rcases Nat.eq_or_lt_of_le q with q|q
   ·exact⟨_,q▸hfr,rfl⟩
   ·rw[hsz3]at q;exact⟨_,Ham h1 (Nat.le_of_lt_succ q)▸hL4,rfl⟩
theorem Zni(hS:Zaq prog w T σ mg mb s0 nm fn C k n)(hT:Zbg prog w T σ mg mb s0 nm fn C k n)(hnm:Zb6 nm)(cx:Cx T σ mg mb s0 nm k A env sc ρ ρ2 N N2 s)
  {elt:Expr}{gens:List Comprehension}{scope:Scope}{pos pos':Pos}{e:M}{c:Cl}{cs:List Cl}{d:D}{use:Option (Value->Sem Unit)}{Q:Value->Shared->Prop}(co:Zls nm fn fo sc elt gens scope e c cs)
  (hev:ev C (n+1) ρ ρ2 (.comp e (c::cs))=some d)(qn:use=none->∀L out s',d= .lst out->Made T σ N (λa=>N a\/a=L) s s' L out->Q (.ref L) s')
  (qs:∀u,use=some u->∀L out s' Cl,d= .lst out->Made T σ N (λa=>(N a\/a=L)\/a=Cl) s s' L out->Yd9 T s s' L Cl->
   wpAny (model prog w) A (u (.ref L)) (λ_ s''=>∃m,s''.heap.Ns Cl m/\∀h',Heap.SameBut Cl s''.heap h'->Q .none {s'' with heap:=h'}) E s'):
  wpAny (model prog w) A (comprehension (.ListComp elt gens scope pos) scope env pos' (newList []) false (firstIter gens env) use) Q E s:=by
 obtain⟨g,gs,hgs,hcl,hcls⟩:=co.cls;rw[hgs]at co ⊢;obtain⟨t,uni,kk,ms,mifs⟩:=c;obtain⟨tg,it0,ifs,as⟩:=g;obtain⟨ha,ok,bs,rel,hs2,occ⟩:=cx;obtain⟨has,hcl⟩:=Zaa hcl;rw[show as=0 from Hb5 has]at co ⊢;obtain⟨hct,hcl⟩:=Zaa hcl;obtain⟨hci,hcf⟩:=Zaa hcl;obtain⟨ds,hds,hev⟩:=obS hev;obtain⟨items,hitems,hev⟩:=obS hev;obtain⟨out,hout,hev⟩:=obS hev;obtain⟨hsmall,hev⟩:=Zaj hev;have hd:=(sI hev).symm;obtain⟨hclos,hnames,_⟩:=Zo3 (σ:=σ) (s:=s) ok rel.sl co.kind co.names co.tgs co.own hnm.inj hnm.dot;refine wpAny_comprehension_free (g:=⟨tg,it0,ifs,0⟩) (gs:=gs) rfl (Zn4 hci env) hclos co.kind hnames ?_
 refine Znw hS ⟨ha,ok,bs,rel,hs2,occ⟩ hci hds hitems λx s'1 x'1 hit=>?_
 have bs1:=bs.step x'1;refine hit A E _ ha.handled λit s'2 I x'2 hI hoccI hmk=>?_
 have bs2:=bs1.step x'2;refine Hbk (Zc2 ?_)
 have nc:=Ycv hnm ok co (rel.ext x'1) x'2 hI hoccI.lt rfl;have free:∀{a},s'2.heap.objs.size<=a->s.heap.get? a=none:=λh=>(x'1.trans x'2).free (λa ht=>let⟨_,e,_⟩:=bs2.ext.tab a ht (bs2.tabs a ht);⟨_,e⟩) (Zae h)
 have free0:∀{a},s'2.heap.objs.size<=a->s0.heap.get? a=none:=λh=>bs2.low h
 have nT:∀{a},s'2.heap.objs.size<=a->¬T a:=λh q=>absurd (bs2.lt _ q) (Nat.not_lt.mpr h)
 have IS:s.heap.get? I=none:=x'1.free (λa ht=>let⟨_,e,_⟩:=bs1.ext.tab a ht (bs1.tabs a ht);⟨_,e⟩) hI
 have fit:=Zif (N:=N) (z:=(pushCells ((s'2.heap.push (Za3 #[] 0)).push {cls:=.type "dict",data:=.dict #[]}) scope.names).objs.size) x'2 hI (Hac _);show codeAny (model prog w) A (.compStart _ 0 it _ (Zc8 scope (Za2 env scope.names []) (s'2.heap.push (Za3 #[] 0)).objs.size env)) (compPost (model prog w) A E use Q _ (s'2.heap.push (Za3 #[] 0)).objs.size) {s'2 with heap:=pushCells ((s'2.heap.push (Za3 #[] 0)).push {cls:=.type "dict",data:=.dict #[]}) scope.names}
 have hloc0:=nc.loc
 generalize Zc8 scope (Za2 env scope.names []) (s'2.heap.push (Za3 #[] 0)).objs.size env=cenv at nc hloc0 ⊢
 rw[show(s'2.heap.push (Za3 #[] 0)).objs.size=s'2.heap.objs.size+1 from Hcx ..]
 generalize hs4:({s'2 with heap:=pushCells ((s'2.heap.push (Za3 #[] 0)).push {cls:=.type "dict",data:=.dict #[]}) scope.names}:Shared)=s4
 have nc:NewC σ nm T N N2 (Zal (.mk t uni kk ms mifs::cs)) scope.names ρ ρ2 s'2.heap.objs.size I cenv sc s'2 s4:=hs4▸nc;have fit:Zdk N (λa=>N a\/a=I\/(s'2.heap.objs.size<=a/\a<s4.heap.objs.size)) s'1.heap s'2.heap:=hs4▸fit
 clear hs4
 obtain⟨St,hIt,hst⟩:=hmk A tg (λa=>N a\/a=I\/(s'2.heap.objs.size<=a/\a<s4.heap.objs.size)) ha.handled (λa h=>.inl h) (.inr (.inl rfl)) fit
 have hst4:St 0 s4.heap:=hIt.frame 0 _ _ (λ_=>False) hst nc.ext.upd λ_ h=>h.elim
 have Ilt:I<s'2.heap.objs.size:=hoccI.lt;have nI:∀{a},s'2.heap.objs.size<=a->¬a=I:=λh q=>Hao _ (Har Ilt (q▸h))
 have hlz:s'2.heap.objs.size<s4.heap.objs.size:=Nat.lt_of_succ_lt nc.lz;have loop:codeAny (model prog w) A (.compLoop (.ListComp elt (⟨tg,it0,ifs,0⟩::gs) scope pos) 0 it (.ref s'2.heap.objs.size) cenv) (compPost (model prog w) A E use Q (.ref s'2.heap.objs.size) (s'2.heap.objs.size+1)) s4:=by
  refine Zsq hS hT hnm ha nc.ok co.elt (W:=λa=>s'2.heap.objs.size<=a/\a<s4.heap.objs.size) (λa h=>free0 h.1) ⟨Hac _,hlz⟩ (nT (Hac _)) (by rw[hloc0];exact Ha9 (Hbj _)) (λn c hm=>(nc.cel n c hm).1) cs
   rfl hct hcf hcls co.dist (λx hx=>by rw[←Zc9];exact Zk3 hx) (λx hx=>?_) (λa h=>⟨.inr (.inr h),nI h.1⟩) (own:=(·=I)) (λa h=>⟨.inr (.inl h),h▸bs1.free hI⟩) (λa h=>h.elim (λh=>.inl (hs2 a h)) .inr)
   (λq=>nI (Haw _) (hloc0.symm.trans q)) (λn c hm=>(nc.cel n c hm).2) hIt hst4 hout (dn:=[]) (bLe hsmall) (bs2.step nc.ext) nc.rel (λa h=>?_) ⟨[],⟨0,nc.lst⟩,.nil⟩ λs' hdn=>?_
  ·obtain⟨a,h1,h2,h3⟩:=nc.st x hx;exact⟨a,h1,⟨⟨Haz h2,h3⟩,Ha3 h2⟩,nT (Haz h2)⟩
  ·rcases h with h|h|h
   ·exact(((occ a h).ext x'1).ext x'2).ext nc.ext
   ·exact h▸hoccI.ext nc.ext
   ·exact nc.occ a h.1 h.2
  ·obtain⟨⟨mid,um,gm⟩,⟨vs,hp',hr'⟩,rel'⟩:=hdn;have xs:Ext T s s':=Zcq.ext2 ((x'1.trans x'2).trans nc.ext) (um.gone.trans (gm.mono λa h=>.inr h)) λa h=>h.elim (λh=>free h.1) λh=>h▸IS
   have nsC:∃m,s'.heap.Ns (s'2.heap.objs.size+1) m:=hloc0▸rel'.sl.ns;have hNL:¬N s'2.heap.objs.size:=λh=>Hao _ (((occ _ h).ext x'1).ext x'2).lt
   have hCw:s'2.heap.objs.size<=s'2.heap.objs.size+1:=Haw _;have hrd:RdL σ (λa=>(N a\/a=s'2.heap.objs.size)\/a=s'2.heap.objs.size+1) s'.heap vs out:=
    hr'.mono λa o hn e _=>⟨λh=>h.elim (λh=>h.elim (λh=>hn (.inl h)) λh=>hn (.inr (.inr ⟨Han h.symm,Hak (Han h) hlz⟩))) λh=>hn (.inr (.inr ⟨Hag hCw (Han h.symm),Hak (Han h) nc.lz⟩)),e⟩
   cases use with
   |none=>
    obtain⟨m,nsC⟩:=nsC;obtain⟨nn,hp'⟩:=hp';refine⟨m,nsC,λh' hsb=>?_⟩
    have g2:Zcq T (·=s'2.heap.objs.size+1) s' {s' with heap:=h'}:=Zcq.of_but hsb (nT hCw) (.ns nsC)
    exact qn rfl _ out _ hd ⟨Zcq.ext2 xs g2 λa h=>h▸free hCw,free (Hac _),nT (Hac _),⟨vs,⟨nn,(hsb.2 _ (Ha9 (Hbj _))).trans hp'⟩,hrd.mono λa o hn e _=>⟨λh=>hn (.inl h),(hsb.2 a (λq=>hn (.inr q))).trans e⟩⟩,hNL⟩
   |some u=>exact qs u rfl _ out _ _ hd ⟨xs,free (Hac _),nT (Hac _),⟨vs,hp',hrd⟩,hNL⟩ ⟨Ha9 (Hbj _),nsC,free hCw,nT hCw⟩
 exact Zco (g:=⟨tg,it0,ifs,0⟩) rfl rfl loop (hIt.self 0 s4 _ _ hst4 loop)
open Builtin.Str
theorem Zpv{e:Expr}{m:M}{fo:Nat}(h:okE nm fn fo sc e m=true)(a b c:Option Expr)(p:Pos):e≠.Slice a b c p:=λq=>Zgq h q rfl
theorem Ycy{e:Expr}{m:M}{fo:Nat}(h:okE nm fn fo sc e m=true)(op:CmpOp):behindInMarks op e=false:=by
 cases e with
 |Set a b c=>exact Zgq h rfl rfl
 |_=>rfl
theorem Zfg{α β:Type}{f:α->Option β}{l:List α}:∀{r:List β},Zd8 f l=some r->r.length=l.length:=by
 induction l with
 |nil=>exact λh=>by rw[←sI h];rfl
 |cons a l ih=>
  intro r h;obtain⟨y,ys,_,h,e⟩:=Zf2 h;rw[e];exact Hb6 Nat.succ (ih h)
theorem getT{a:Value}{x:D}(h:(∃l,x= .lst l)\/(∃l,x= .tup l)\/∃l,x= .str l)(ha:Rd σ N s.heap a x):∃T id,s.TypeIs a T/\typeLookup (.type T) "__getitem__"=pure (some (.builtin id)):=by
 rcases h with⟨l,e⟩|⟨l,e⟩|⟨l,e⟩
 ·obtain⟨_,_,_,hv,_,g,_⟩:=ha.inv' e;rw[hv];exact⟨_,_,⟨_,g,rfl⟩,slot_list_getitem.lookup⟩
 ·obtain⟨_,_,_,hv,_,g,_⟩:=ha.inv' e;rw[hv];exact⟨_,_,⟨_,g,rfl⟩,slot_tuple_getitem.lookup⟩
 ·obtain⟨_,_,hv,_⟩:=ha.inv' e;rw[hv];exact⟨_,_,typeIs_str _ _ _,F.slot_str_getitem.lookup⟩
theorem Zx0{x y z:D}(h:Yf0 x y=some z):(∃l,x= .lst l)\/(∃l,x= .tup l)\/∃l,x= .str l:=by
 obtain⟨_,_,h⟩:=Zgr h;cases x<;>first|exact nS h|exact .inl ⟨_,rfl⟩|exact .inr (.inl ⟨_,rfl⟩)|exact .inr (.inr ⟨_,rfl⟩)
theorem Ydg{x z:D}{a b:Option D}(h:slD x a b=some z):(∃l,x= .lst l)\/(∃l,x= .tup l)\/∃l,x= .str l:=by
 obtain⟨_,_,h⟩:=obS h;cases x<;>first|exact nS h|exact .inl ⟨_,rfl⟩|exact .inr (.inr ⟨_,rfl⟩)
theorem Zy5{v sl:Expr}{va vi:Value}{x:D}{Q:Value->Shared->Prop}(hk:(∃l,x= .lst l)\/(∃l,x= .tup l)\/∃l,x= .str l)(r:Rd σ N s.heap va x)(h:wpAny (model prog w) A (getItem va vi) Q E s)(hs:∀a b c p,sl≠.Slice a b c p):wpAny (model prog w) A (subscriptTail v sl va vi) Q E s:=by
 obtain⟨T',id,hT,hl⟩:=getT hk r;refine tail_any (ops:=[va,vi]) hT hl h ?_
 cases sl with
 |Slice a b c p=>exact absurd rfl (hs a b c p)
 |_=>rfl
theorem Yb6{v sl:Expr}{pos:Pos}{a i:M}{d:D}{Q:Value->Shared->Prop}(hS:Zaq prog w T σ mg mb s0 nm fn C k n)(c:Cx T σ mg mb s0 nm k A env sc ρ ρ2 N N2 s)
  (h1:okE nm fn fo sc v a=true)(h2:okE nm fn fo sc sl i=true)(hev:ev C (n+1) ρ ρ2 (.idx a i)=some d)(q:Zd9 T σ N s d Q):wpAny (model prog w) A (eval (.Subscript v sl pos) env) Q E s:=by
 obtain⟨x,hx,hev⟩:=obS hev;obtain⟨y,hy,hev⟩:=obS hev;refine Subscript_ (hS c h1 hx λva s'1 x'1 r'1=>hS (c.ext x'1) h2 hy λvi s'2 x'2 r'2=>?_)
 have r1':=r'1.mono x'2.fits;exact Zy5 (Zx0 hev) r1' (Yf1 (T:=T) hev r1' r'2 λv s' x' r'=>q v s' ((x'1.trans x'2).trans x') r') (Zpv h2)
theorem Zy6{α:Type}(l:List α)(x y:Nat):(l.drop (min x l.length)).take (min y l.length-min x l.length)=(l.drop x).take (y-x):=by
 rcases Nat.le_total x l.length with h|h
 ·rw[Nat.min_eq_left h];rcases Nat.le_total y l.length with h'|h'
  ·rw[Nat.min_eq_left h']
  ·rw[Nat.min_eq_right h',Hc2 (Han List.length_drop),Hc2 (by rw[List.length_drop];exact Nat.sub_le_sub_right h' x)]
 ·rw[Nat.min_eq_right h,Hc3 (Hac _),Hc3 h,List.take_nil,List.take_nil]
noncomputable def Zgv(o:Option D)(v:Value):Prop:=match o with
 |none=>v= .none
 |some d=>∀i,d= .int (.k i)->∃t,v= .int i t
theorem Zpy{e:Option Expr}{m:Option M}{o:Option D}{Q:Value->Shared->Prop}(hS:Zaq prog w T σ mg mb s0 nm fn C k n)(c:Cx T σ mg mb s0 nm k A env sc ρ ρ2 N N2 s)
  (h:okO (okE nm fn fo sc) e m=true)(hev:Yj6 (ev C n ρ ρ2) m=some o)(q:∀v s',Ext T s s'->Zgv o v->Q v s'):wpAny (model prog w) A (evalPart e env) Q E s:=by
 cases e with
 |none=>
  cases m with
  |none=>rw[←sI hev]at q;exact Hau (q _ _ .refl rfl)
  |some _=>exact bF h
 |some e=>
  cases m with
  |none=>exact bF h
  |some m=>
   obtain⟨d,hd,e⟩:=Ziq hev;rw[←e]at q;exact hS c h hd λv s' x r=>q v s' x λi hi=>r.inv' hi
theorem Zpz{o:Option D}{v:Value}{dn x:Nat}(p:Zgv o v)(h:Zuo o dn=some x):(o=none/\v= .none/\x=dn)\/((∃d,o=some d)/\∃t,v= .int (x:Int) t):=by
 cases o with
 |none=>exact .inl ⟨rfl,p,(sI h).symm⟩
 |some d=>
  obtain⟨i,hi,h⟩:=Zgr h;obtain⟨n,hn,h⟩:=Yd4 h;obtain⟨t,ht⟩:=p i hi;exact .inr ⟨⟨d,rfl⟩,t,by rw[ht,hn,sI h]⟩
theorem Zup{o:Option D}{v:Value}{dn x n:Nat}(p:Zgv o v)(h:Zuo o dn=some x)(hd:min dn n=dn):∃lo:Option Int,IsPart v lo/\lo.elim dn (clipAt n)=min x n:=by
 rcases Zpz p h with⟨_,e,e2⟩|⟨_,t,e⟩
 ·exact⟨none,e▸.none,by rw[e2,hd];rfl⟩
 ·exact⟨some _,e▸.int _ _,clipAt_nat _ _⟩
theorem Zm1{X:Str}{t:Tok}{l u:Option (Int×Tok)}{xl yl:Nat}{cs:List Nat}{s s3:Shared}{Q:Value->Shared->Prop}(ex:X.cps.toList=cs)(hcs:cs.length<=1000000)(hxy:xl<=yl)(hyl:yl<=X.length)(hp:slicePicked X l u none=strSliceIndices (some (xl:Int)) (some (yl:Int)) 1 X.length)
  (xs:Ext T s s3)(q:Zd9 T σ N s (.str (slN cs xl yl)) Q):(sliceMade X t l u none).post Q s3:=by
 have hlen:(strSliceIndices (some (xl:Int)) (some (yl:Int)) 1 X.length).length=yl-xl:=by
  rw[StrLaws.strSliceIndices_plain hxy hyl];simp
 have hX:X.cps.toList.length=X.length:=rfl;unfold sliceMade;rw[hp];split
 ·rename_i h;have h:=Hb5 (Zaa h).2;rw[hlen]at h;refine q _ _ xs (.str ?_)
  have hx0:xl=0:=(Ham (ln4 (.v 0) (.k 0) [(1,.v 1,.v 2),(1,.v 2,.v 3),(1,.a (.v 3) (.v 0),.v 1)] rfl hyl (Han h.symm) (Han (Hb3 hxy))) (ln1 (.k 0) (.v 0) [] rfl));unfold slN;rw[←ex,hx0,List.drop_zero,Hc2 (by rw[hX];exact(ln4 (.v 0) (.v 2) [(1,.v 0,.v 1),(1,.v 1,.v 3),(1,.v 3,.a (.v 2) (.k 0))] rfl (Han h.symm) (Hbl _ _) Zcu))]
 ·refine⟨?_,q _ _ (xs.trans .toks) (.str ?_)⟩
  ·show((strSliceIndices (some (xl:Int)) (some (yl:Int)) 1 X.length).filterMap (X.cps[·]?)).toArray.size<=_;rw[Hb8];refine Hag (List.length_filterMap_le ..) ?_
   rw[hlen];exact Hag (Hag (Hbl _ _) (Hag hyl (by rw[←Zm6 ex]at hcs;exact hcs))) (by decide)
  rw[StrLaws.sliced_plain X hxy hyl];show(X.cps.toList.drop xl).take (yl-xl)=_;rw[ex];rfl
theorem Zvu{o:Option D}{v:Value}{x n:Nat}{u:Option Int}(p:Zgv o v)(h:Zuo o 0=some x):∃l:Option (Int×Tok),v=partValue l/\strSliceIndices (l.map (·.1)) u 1 n=strSliceIndices (some (x:Int)) u 1 n:=by
 rcases Zpz p h with⟨_,e,e2⟩|⟨_,t,e⟩
 ·exact⟨none,e,by rw[e2];exact StrLaws.sliceIdx_none_lo _ _⟩
 ·exact⟨some (_,t),e,rfl⟩
theorem Ykd{x d:D}{ol ou:Option D}{va vl vu:Value}{S:Addr}{Q:Value->Shared->Prop}(hsl:s.heap.IsSliceOf S vl vu .none)(p2:Zgv ol vl)(p3:Zgv ou vu)(hev:slD x ol ou=some d)(r:Rd σ N s.heap va x)(occ:∀a,N a->Occ s.heap a)(q:Zd9 T σ N s d Q):
  wpAny (model prog w) A (getItem va (.ref S)) Q E s:=by
 obtain⟨xl,hxl,hev⟩:=obS hev;have r:=r.inv;cases x with
 |lst ds=>
  obtain⟨xu,hxu,hev⟩:=obS hev;obtain⟨hsm,hev⟩:=Zaj hev;obtain⟨ad,vs,nn,hv,hn,g,rs⟩:=r;have hsize:vs.toArray.size=ds.length:=rs.length;obtain⟨lo',pl,el⟩:=Zup (n:=ds.length) p2 hxl (Nat.zero_min _);obtain⟨hi',pu,eu⟩:=Zup (n:=ds.length) p3 hxu (Nat.min_self _);rw[hv];refine wpAny_getItem_list_slice (items:=vs.toArray) ⟨_,g,rfl,nn,rfl⟩ hsl pl pu .none (by simp) (q _ _ (.push (tk:=s.toks)) (sI hev▸ ?_)) (by rw[hsize];exact Hag (Zay hsm) (by decide))
  rw[slicePick_plain,hsize,el,eu,←rs.length];refine .lst (n:=0) (noN occ) (Hb7 _ rfl) ?_
  have:RdL σ N s.heap (slN vs xl xu) (slN ds xl xu):=(rs.drop xl).take _;rw[show(vs.toArray.toList.drop (min xl vs.length)).take (min xu vs.length-min xl vs.length)=slN vs xl xu from Zy6 vs xl xu];exact this.mono λa o n e _=>⟨n,Hai _ e⟩
 |str cs=>
  obtain⟨X,t,hv,ex⟩:=r;have hX:=Zm6 ex;obtain⟨oo,h1,h2,h3⟩:=hsl;rw[hv];cases ou with
  |none=>
   obtain⟨hsm,hev⟩:=Zaj hev;have hle:xl<=X.length:=by rw[hX];exact bLe (Zaa hsm).2
   obtain⟨l',el,hl'⟩:=Zvu (n:=X.length) (u:=none) p2 hxl;rw[el]at h3;rw[show vu= .none from p3]at h3;refine wpAny_getItem_str_slice (l:=l') (u:=none) (st:=none) ⟨oo,h1,h2,h3⟩ rfl (Zm1 ex (Zay (Zaa hsm).1) hle (Hac _) (hl'.trans (StrLaws.sliceIdx_none_hi _ _)) (.refl (T:=T)) (σ:=σ) (N:=N) ?_)
   rw[show slN cs xl X.length=cs.drop xl from Hc2 (by rw[List.length_drop,hX];exact Hac _),sI hev]
   exact q
  |some h=>
   obtain⟨i,hi,hev⟩:=Zgr hev;obtain⟨yl,hyl,hev⟩:=Yd4 hev;obtain⟨hsm,hev⟩:=Zaj hev;obtain⟨ty,hvu⟩:=p3 i hi;obtain⟨l',el,hl'⟩:=Zvu (n:=X.length) (u:=some (yl:Int)) p2 hxl;rw[el]at h3;rw[hvu,hyl]at h3;exact wpAny_getItem_str_slice (l:=l') (u:=some ((yl:Int),ty)) (st:=none) ⟨oo,h1,h2,h3⟩ rfl (Zm1 ex (Zay (Zaa hsm).1) (bLe (Zaa (Zaa hsm).2).1) (by rw[hX];exact bLe (Zaa (Zaa hsm).2).2) hl' .refl (sI hev▸q))
 |_=>exact nS hev
theorem Yg7{v:Expr}{lo hi:Option Expr}{p pos:Pos}{a:M}{l u:Option M}{d:D}{Q:Value->Shared->Prop}(hS:Zaq prog w T σ mg mb s0 nm fn C k n)(c:Cx T σ mg mb s0 nm k A env sc ρ ρ2 N N2 s)
  (h1:okE nm fn fo sc v a=true)(h2:okO (okE nm fn fo sc) lo l=true)(h3:okO (okE nm fn fo sc) hi u=true)(hev:ev C (n+1) ρ ρ2 (.sl a l u)=some d)(q:Zd9 T σ N s d Q):wpAny (model prog w) A (eval (.Subscript v (.Slice lo hi none p) pos) env) Q E s:=by
 obtain⟨x,hx,hev⟩:=obS hev;obtain⟨ol,hol,hev⟩:=obS hev;obtain⟨ou,hou,hev⟩:=obS hev;refine Subscript_ (hS c h1 hx λva s'1 x'1 r'1=>wpAny_Slice (Zpy hS (c.ext x'1) h2 hol λvl s'2 x'2 p'2=>Zpy hS ((c.ext x'1).ext x'2) h3 hou λvu s3 x3 p'3=>Hau ?_))
 have x4:Ext T s3 {s3 with heap:=s3.heap.push {cls:=.type "slice",data:=.fields #[vl,vu,.none]}}:=.push (tk:=s3.toks)
 have c'4:=(((c.ext x'1).ext x'2).ext x3).ext x4;have r'4:=((r'1.mono x'2.fits).mono x3.fits).mono x4.fits;obtain⟨T',id,hT,hl⟩:=getT (Ydg hev) r'4;exact tail_any (ops:=[.ref s3.heap.objs.size,va]) hT hl (Ykd (T:=T) (Heap.IsSliceOf.new ..) p'2 p'3 hev r'4 c'4.occ λv s' x' r'=>q v s' ((((x'1.trans x'2).trans x3).trans x4).trans x') r') rfl
theorem Zc6{o:Expr}{name:Str}{apos pos:Pos}{args:List Expr}{Q:Value->Shared->Prop}
  (hbase:attributeBase o name env (eval o env)=eval o env)
  (hfew:methodCallForm (args.length+([]:List Keyword).length) (backTo pos (starEach args env)) (backToKw pos (keywordEach [] env))=true)
  (hline:(apos.endLine==pos.line)=true)
  (h:wpAny (model prog w) A (eval o env) (λov s'1=>∀pl,wpAny (model prog w) A (getMethod ov name pl) (λp s'2=>wpAny (model prog w) A (callWith pos p.1 p.2 (backTo pos (starEach args env)) []) Q E s'2) E s'1) E s):
  wpAny (model prog w) A (eval (.Call (.Attribute o name apos) args [] pos) env) Q E s:=by
 rw[arm_eval_Call,hbase];refine Ha6 (Ha4 h (λov s'1 h'1=>Ha6 (Ha8 ?_)) λ_ _ e=>e)
 have hpos:methodCallPos true o env apos pos=pure pos:=by unfold methodCallPos;rw[hline];rfl
 unfold methodCall;rw[hfew];exact Ha6 (Ha7 (Ha4 (h'1 _) (λp s'2 h'2=>Ha6 (wpAny_of_eq hpos h'2)) λ_ _ e=>e))
theorem Zww{f:Nat}{p pos:Pos}{xs:List Expr}{as:List M}{d:D}{Q:Value->Shared->Prop}(hS:Zaq prog w T σ mg mb s0 nm fn C k n)(hC:Za1 prog w T σ mg mb s0 fn C k)(c:Cx T σ mg mb s0 nm k A env sc ρ ρ2 N N2 s)
  (h0:Nat.blt f 900=true)(h2:sc.lookup (fn f)=some .globalImplicit)(h3:(fn f==("__debug__":Str))=false)(h4:okL (okE nm fn fo sc) xs as=true)(hev:ev C (n+1) ρ ρ2 (.call f as)=some d)(q:Zd9 T σ N s d Q):
  wpAny (model prog w) A (eval (.Call (.Name (fn f) p) xs [] pos) env) Q E s:=by
 obtain⟨ds,hds,hev⟩:=obS hev;obtain⟨a,⟨hmg,o,fd,ho,hd,ht⟩,hcall⟩:=hC.1 f ds d h0 hev;exact Hbi (Hbg c.ok.kind ((c.ok.kindOf _).trans h2) (Hbm (c.ok.glob▸c.bs.ng) hmg (Hbn (o:=o) (fd:=fd) (Zbk h4 (Zee hS xs c h4 hds λvs s'1 x'1 r'1=>
  ⟨⟨x'1.keep2 a o (c.bs.ext.keep2 a o ho ht) ht,hd⟩,hcall A E N s'1 vs Q c.ha (c.bs.step x'1) (c.ext x'1).occ r'1 λv s' x' r'=>q v s' (x'1.trans x') r'⟩)))) h3)
theorem Ye1{b:Nat}{p pos:Pos}{xs:List Expr}{as:List M}{d:D}{Q:Value->Shared->Prop}(hS:Zaq prog w T σ mg mb s0 nm fn C k n)(c:Cx T σ mg mb s0 nm k A env sc ρ ρ2 N N2 s)
  (hb:(Nat.blt b 5||(Nat.beq b 7||Nat.beq b 8))=true)(h2:sc.lookup (Zeg b)=some .globalImplicit)(h4:okL (okE nm fn fo sc) xs as=true)(hev:ev C (n+1) ρ ρ2 (.bi b as)=some d)(q:Zd9 T σ N s d Q):
  wpAny (model prog w) A (eval (.Call (.Name (Zeg b) p) xs [] pos) env) Q E s:=by
 obtain⟨ds,hds,hev⟩:=obS hev;have fin:wpAny (model prog w) A (spliced (backTo pos (starEach xs env))) (λvs s'=>wpAny (model prog w) A (call (Zqu b) vs) Q E s') E s:=
  Zee hS xs c h4 hds λvs s'1 x'1 r'1=>Yjd (T:=T) c.ha.handled (c.ext x'1).occ hev r'1 λv s' x' r'=>q v s' (x'1.trans x') r'
 rcases b with _|_|_|_|_|_|_|_|_|b
 ·exact Hbi (Zdf (b:=0) c (by decide) h2 (by decide) (Hbo (Zbl xs as h4) (Zbk h4 fin)))
 ·exact Hbi (Zdf (b:=1) c (by decide) h2 (by decide) (Hbo (Zbl xs as h4) (Zbk h4 fin)))
 ·exact Hbi (Zdf (b:=2) c (by decide) h2 (by decide) (PySem.callWith_type (Zbl xs as h4) (Zbk h4 fin)))
 ·exact Hbi (Zdf (b:=3) c (by decide) h2 (by decide) (PySem.callWith_type (Zbl xs as h4) (Zbk h4 fin)))
 ·exact Hbi (Zdf (b:=4) c (by decide) h2 (by decide) (Hbo (Zbl xs as h4) (Zbk h4 fin)))
 ·exact bF hb
 ·exact bF hb
 ·exact Hbi (Zdf (b:=7) c (by decide) h2 (by decide) (Hbo (Zbl xs as h4) (Zbk h4 fin)))
 ·exact Hbi (Zdf (b:=8) c (by decide) h2 (by decide) (Hbo (Zbl xs as h4) (Zbk h4 fin)))
 ·exact bF hb
theorem Zat{v:Expr}{name:Str}{whole:Sem Value}(h:Zb1 v=true):attributeBase v name env whole=whole:=by
 cases v with
 |Call f xs kws p=>
  cases f with
  |Name id q=>cases xs<;>cases kws<;>first|rfl|exact bF h
  |_=>rfl
 |_=>rfl
theorem Yb2{m:Nat}{v:Expr}{xs:List Expr}{ap p:Pos}{o:M}{as:List M}{es ds:List D}{d:D}{Q:Value->Shared->Prop}(hS:Zaq prog w T σ mg mb s0 nm fn C k n)(hC:Za1 prog w T σ mg mb s0 fn C k)(c:Cx T σ mg mb s0 nm k A env sc ρ ρ2 N N2 s)
  (h2:(ap.endLine==p.line)=true)(h3:okE nm fn fo sc v o=true)(h4:Zb1 v=true)(h5:okL (okE nm fn fo sc) xs as=true)
  (hfew:methodCallForm (xs.length+([]:List Keyword).length) (backTo p (starEach xs env)) (backToKw p (keywordEach [] env))=true)(hx:ev C n ρ ρ2 o=some (.hdr es))(hds:Zd8 (ev C n ρ ρ2) as=some ds)(hc:C (1000+m) (.hdr es::ds)=some d)(q:Zd9 T σ N s d Q):
  wpAny (model prog w) A (eval (.Call (.Attribute v (Zf3 m) ap) xs [] p) env) Q E s:=by
 obtain⟨f,⟨⟨fo',fd,hfo,hfd,hft⟩,hget⟩,hcall⟩:=hC.2.2 m es ds d hc;refine Zc6 (Zat h4) hfew h2 (hS c h3 hx λov s'1 x'1 r'1 pl=>?_)
 obtain⟨x,_,_,_,_,_,_,hv,n1,n2,n3,e1,e2,ho,e3,rs⟩:=r'1.inv;rw[hv]at r'1 ⊢;have c'1:=c.ext x'1;refine hget A E s'1 _ _ _ pl _ c'1.bs.ext ⟨_,_,e1,e2,ho⟩ (Hbn (o:=fo') (fd:=fd) (Zbk h5 (Zee hS xs c'1 h5 hds λvs s'2 x'2 r'2=>?_)))
 have c'2:=c'1.ext x'2;exact⟨⟨c'2.bs.ext.keep2 f fo' hfo hft,hfd⟩,hcall A E N s'2 _ vs Q c.ha c'2.bs c'2.occ (r'1.mono x'2.fits) r'2 λv s' x' r'=>q v s' ((x'1.trans x'2).trans x') r'⟩
theorem Zwr{v:Expr}{pos:Pos}{a:M}{y d:D}{Q:Value->Shared->Prop}(hS:Zaq prog w T σ mg mb s0 nm fn C k n)(c:Cx T σ mg mb s0 nm k A env sc ρ ρ2 N N2 s)
  (h3:okE nm fn fo sc v a=true)(h4:Zb1 v=true)(hy:ev C n ρ ρ2 a=some y)(hX:Zwm prog w T σ mg mb s0 k 900 [y] d)(q:Zd9 T σ N s d Q):
  wpAny (model prog w) A (eval (.Attribute v "_headers" pos) env) Q E s:=by
 obtain⟨es,he,hd,hA⟩:=hX
 injection he with he
 rw[arm_eval_Attribute,Zat h4];refine Ha6 (hS c h3 hy λov s'1 x'1 r'1=>Ha6 (Ha8 (Ha6 (Ha7 ?_))))
 obtain⟨x,_,_,_,_,_,_,hv,n1,n2,n3,e1,e2,ho,e3,rs⟩:=r'1.inv' he;rw[hv];exact hA A E s'1 _ _ _ _ (c.ext x'1).bs.ext ⟨_,_,e1,e2,ho⟩ λs'2 x'2=>Ha6 (wpAny_letTemporaryGo (Hau (q _ s'2 (x'1.trans x'2) (hd▸(Rd.lst n3 e3 rs).mono x'2.fits))))
theorem Ya8{v e:Expr}{ap p p3 p4:Pos}{kk:Nat}{bb:Bool}{a b:M}{y z d:D}{Q:Value->Shared->Prop}(hS:Zaq prog w T σ mg mb s0 nm fn C k n)(c:Cx T σ mg mb s0 nm k A env sc ρ ρ2 N N2 s)
  (hline:(ap.endLine==p.line)=true)(h3:okE nm fn fo sc v a=true)(h5:okE nm fn fo sc e b=true)(h4:Zb1 v=true)(hy:ev C n ρ ρ2 a=some y)(hz:ev C n ρ ρ2 b=some z)
  (hX:∃es t,[y,z]=[.hdr es,.str t]/\d= .str t/\Zdq t=true/\Zqk prog w T σ mg mb s0 k)(q:Zd9 T σ N s d Q):
  wpAny (model prog w) A (eval (.Call (.Attribute v "_convert_string_type" ap) [e] [⟨some "name",.Constant (.bool bb) kk p3,p4⟩] p) env) Q E s:=by
 obtain⟨es,t,he,hd,hpl,g,⟨⟨fo',fd,hfo,hfd,hft⟩,hget⟩,hcall⟩:=hX
 injection he with hey hez
 injection hez with hez
 have hstar:backTo p (starEach [e] env)=[(false,PySem.eval e env)]:=by rw[Zad (Zbh h5)];rfl
 have hkw:backToKw p (keywordEach [⟨some "name",.Constant (.bool bb) kk p3,p4⟩] env)=[(some ("name":Str),(do let v ←PySem.eval (.Constant (.bool bb) kk p3) env;standAt p;pure v))]:=rfl
 rw[arm_eval_Call,Zat h4];refine Ha6 (hS c h3 hy λov s'1 x'1 r'1=>Ha6 (Ha8 ?_))
 obtain⟨x,_,_,_,_,_,_,hv,n1,n2,n3,e1,e2,ho,e3,rs⟩:=r'1.inv' hey;rw[hv];have hpos:methodCallPos true v env ap p=pure p:=by unfold methodCallPos;rw[hline];rfl
 unfold methodCall;rw[hstar,hkw,show methodCallForm (([e]:List Expr).length+([⟨some "name",.Constant (.bool bb) kk p3,p4⟩]:List Keyword).length) [(false,PySem.eval e env)] [(some ("name":Str),(do let v ←PySem.eval (.Constant (.bool bb) kk p3) env;standAt p;pure v))]=true from rfl]
 have c'1:=c.ext x'1;refine Ha6 (Ha7 (hget A _ s'1 _ _ _ _ _ c'1.bs.ext ⟨_,_,e1,e2,ho⟩ (Ha6 (wpAny_of_eq hpos (PySem.callWith_function_kw (o:=fo') (fd:=fd) (PySem.evalArgs_kw rfl (Hbf (hS c'1 h5 hz λv'2 s'2 x'2 r'2=>Hbe ?_))))))))
 obtain⟨X,t',hv2,et⟩:=r'2.inv' hez;have c'2:=c'1.ext x'2;have hsz:X.cps.size=t.length:=Hb6 List.length et;have hlt:X.cps.size<2^63:=by rw[hsz];exact Nat.lt_trans (bLe (Zaa hpl).2) (by decide)
 rw[hv2];exact PySem.wpAny_evalAll_cons (Ha6 (Hbp (Ha6 (Ha8 (Hau (PySem.wpAny_evalAll_nil
  ⟨⟨c'2.bs.ext.keep2 g fo' hfo hft,hfd⟩,hcall A E N s'2 _ _ _ bb Q c.ha c'2.bs c'2.occ (by rw[et];exact hpl) hlt λs3 x3=>q _ s3 ((x'1.trans x'2).trans x3) (hd▸.str et)⟩))))))
theorem Ygi{m:Nat}{v:Expr}{xs:List Expr}{ap p:Pos}{o:M}{as:List M}{d:D}{Q:Value->Shared->Prop}(hS:Zaq prog w T σ mg mb s0 nm fn C k n)(hC:Za1 prog w T σ mg mb s0 fn C k)(hk:k<=100)(c:Cx T σ mg mb s0 nm k A env sc ρ ρ2 N N2 s)
  (h2:(ap.endLine==p.line)=true)(h4:Zb1 v=true)(h0:as.length<=1)(h3:okE nm fn fo sc v o=true)(h5:okL (okE nm fn fo sc) xs as=true)(hev:ev C (n+1) ρ ρ2 (.me m o as)=some d)(q:Zd9 T σ N s d Q):
  wpAny (model prog w) A (eval (.Call (.Attribute v (Zf3 m) ap) xs [] p) env) Q E s:=by
 obtain⟨x,hx,hev⟩:=obS hev;obtain⟨ds,hds,hev⟩:=obS hev;have hform:methodCallForm (xs.length+([]:List Keyword).length) (backTo p (starEach xs env)) (backToKw p (keywordEach [] env))=true:=by
  cases as with
  |nil=>rw[Zdc h5];rfl
  |cons a r=>
   obtain⟨e,es,e1,h6,h7⟩:=Zcz h5;cases r with
   |nil=>rw[e1,Zdc h7,Zad (Zbh h6)];rfl
   |cons _ _=>exact absurd h0 (Hat (Nat.succ_lt_succ (Nat.succ_pos _)))
 have hh:∀es,x= .hdr es->wpAny (model prog w) A (eval (.Call (.Attribute v (Zf3 m) ap) xs [] p) env) Q E s:=λes e=>by
  rw[e]at hx hev;exact Yb2 hS hC c h2 h3 h4 h5 hform hx hds hev q
 have hm:∀{z},meD m x ds=some z->z=d->wpAny (model prog w) A (eval (.Call (.Attribute v (Zf3 m) ap) xs [] p) env) Q E s:=λ{z} hmm e=>by
  rw[e]at hmm;refine Hbq (Zat h4) hform h2 (hS c h3 hx λov s'1 x'1 r'1=>?_)
  cases as with
  |nil=>
   rw[Zdc h5];rw[←sI hds]at hmm;exact Ygg (T:=T) hmm r'1 λv s' x' r'=>q v s' (x'1.trans x') r'
  |cons a r=>
   obtain⟨e,es,e1,h6,h7⟩:=Zcz h5;cases r with
   |nil=>
    obtain⟨y,hy,e2⟩:=Zdb hds;rw[e2]at hmm;rw[e1,Zdc h7,Zad (Zbh h6)];have c'1:=c.ext x'1;exact Ygh (T:=T) c'1.occ (c.ha.line hk) (hS c'1 h6 hy λv s' x' r'=>⟨x',r'⟩) hmm r'1 λv s' x' r'=>q v s' (x'1.trans x') r'
   |cons _ _=>exact absurd h0 (Hat (Nat.succ_lt_succ (Nat.succ_pos _)))
 cases x with
 |hdr es=>exact hh es rfl
 |_=>exact hm hev rfl
theorem Ycl{xs:List Expr}{pos:Pos}{as:List M}{d:D}{Q:Value->Shared->Prop}(hS:Zaq prog w T σ mg mb s0 nm fn C k n)(c:Cx T σ mg mb s0 nm k A env sc ρ ρ2 N N2 s)
  (h4:okL (okE nm fn fo sc) xs as=true)(hlen:as.length<=1000)(hev:ev C (n+1) ρ ρ2 (.lst as)=some d)(q:Zd9 T σ N s d Q):wpAny (model prog w) A (eval (.List xs pos) env) Q E s:=by
 obtain⟨ds,hds,e⟩:=Ziq hev;refine List_ (Zee hS xs c h4 hds λvs s'1 x'1 r'1=>Hbk (q _ _ (x'1.trans (.push (tk:=s'1.toks))) (e▸.lst (n:=0) (noN (c.ext x'1).occ) (Hb7 _ rfl) (r'1.mono (Ext.fits (T:=T) .push)))) ?_)
 show vs.toArray.size<=sizeLine;rw[Hb8,r'1.length,Zfg hds];exact Hag hlen (by decide)
theorem Ydu{xs:List Expr}{kk:Nat}{pos:Pos}{as:List M}{d:D}{Q:Value->Shared->Prop}(hS:Zaq prog w T σ mg mb s0 nm fn C k n)(c:Cx T σ mg mb s0 nm k A env sc ρ ρ2 N N2 s)
  (h4:okL (okE nm fn fo sc) xs as=true)(hlen:as.length<=1000)(hev:ev C (n+1) ρ ρ2 (.tup as)=some d)(q:Zd9 T σ N s d Q):wpAny (model prog w) A (eval (.Tuple xs kk pos) env) Q E s:=by
 obtain⟨ds,hds,e⟩:=Ziq hev;refine Tuple_ (Zee hS xs c h4 hds λvs s'1 x'1 r'1=>Hbk (q _ _ (x'1.trans (.push (tk:=s'1.toks))) (e▸.tup (n:=0) (noN (c.ext x'1).occ) (Hb7 _ rfl) (r'1.mono (Ext.fits (T:=T) .push)))) ?_)
 show vs.toArray.size<=sizeLine;rw[Hb8,r'1.length,Zfg hds];exact Hag hlen (by decide)
theorem Zg7(ms:List (CmpOp×M)):∀{ops:List CmpOp} {es:List Expr},Ycz (okE nm fn fo sc) ops es ms=true->lastMarks ops es=false:=by
 induction ms with
 |nil=>exact λh=>by rw[(Ze2 h).1,(Ze2 h).2];rfl
 |cons m r ih=>
  intro ops es h;obtain⟨ops',e,es',h1,h2,h3,h4⟩:=Zip h;rw[h1,h2];cases r with
  |nil=>rw[(Ze2 h4).1,(Ze2 h4).2];exact Ycy h3 _
  |cons m' r'=>
   have:=ih h4;obtain⟨ops2,e2,es2,h5,h6,_⟩:=Zip h4;rw[h5,h6]at this ⊢;exact this
theorem Zo1(hS:Zaq prog w T σ mg mb s0 nm fn C k n)(hk:k<=100){pos:Pos}(ms:List (CmpOp×M)):∀{ops:List CmpOp} {rs:List Expr} {a:Value} {x:D} {s:Shared} {d:D},Cx T σ mg mb s0 nm k A env sc ρ ρ2 N N2 s->
  Ycz (okE nm fn fo sc) ops rs ms=true->cmpO (ev C n ρ ρ2) x ms=some d->Rd σ N s.heap a x->
  (∀Q,(∀b s',d= .bool b->Ext T s s'->Q (.bool b) s')->wpAny (model prog w) A (compareChain pos a ops (evalEach rs env)) Q E s)∧
  (∀Q,(∀b s',d= .bool b->Ext T s s'->Q b s')->wpAny (model prog w) A (testChain pos a ops (evalEach rs env)) Q E s):=by
 cases ms with
 |nil=>exact λ_ _ hm=>nS hm
 |cons m r=>
  intro ops rs a x s d c hok hm ra;obtain⟨ops',e,rs',h1,h2,h3,h4⟩:=Zip hok;obtain⟨y,hy,hm⟩:=obS hm;obtain⟨t,ht,hm⟩:=obS hm;rw[h1,h2];have hl:=c.ha.line hk;cases r with
  |nil=>
   rw[(Ze2 h4).1,(Ze2 h4).2];have hm:=(sI hm).symm;exact⟨λQ q=>chain_last (hS c h3 hy λb s'1 x'1 r'1=>Zso hl ht (ra.mono x'1.fits) r'1 (q t s'1 hm x'1)),
    λQ q=>test_last (hS c h3 hy λb s'1 x'1 r'1=>Zso hl ht (ra.mono x'1.fits) r'1 (Hav (q t s'1 hm x'1)))⟩
  |cons m' r'=>exact nS hm
noncomputable def Zt2:BoolOp->Bool
 | .And=>true
 | .Or=>false
theorem Zzi(hS:Zaq prog w T σ mg mb s0 nm fn C k n)(hT:Zbg prog w T σ mg mb s0 nm fn C k n){pos:Pos}{op:BoolOp}(ms:List M):∀{xs:List Expr} {s:Shared} {d:D},Cx T σ mg mb s0 nm k A env sc ρ ρ2 N N2 s->
  okL (okE nm fn fo sc) xs ms=true->Yhr (ev C n ρ ρ2) (Zt2 op) ms=some d->
  (∀Q,Zd9 T σ N s d Q->wpAny (model prog w) A (eval (.BoolOp op xs pos) env) Q E s)∧
  (∀Q t,Zeu d=some t->(∀s',Ext T s s'->Q t s')->wpAny (model prog w) A (allTrue op xs env) Q E s):=by
 induction ms with
 |nil=>exact λ_ _ hm=>nS hm
 |cons m r ih=>
  intro xs s d c hok hm;obtain⟨x,xs',h1,h2,h3⟩:=Zcz hok;rw[h1];cases r with
  |nil=>
   rw[Zdc h3];refine⟨λQ q=>BoolOp_one (hS c h2 hm q),λQ t ht q=>?_⟩
   show wpAny (model prog w) A (do match op,←isTrue x env (eval x env)with| .And,false=>pure false| .Or,true=>pure true|_,_=>allTrue op [] env) Q E s
   refine Ha6 (hT c h2 hm ht λs' x'=>?_)
   cases op<;>cases t<;>exact Hau (q s' x')
  |cons m' r'=>
   obtain⟨y,hy,hm⟩:=obS hm;obtain⟨t,ht,hm⟩:=obS hm;obtain⟨x',xs2,h4,_⟩:=Zcz h3;rw[h4]at h3 ⊢
   constructor
   ·intro Q q;cases op with
    |And=>
     refine BoolOp_and (hS c h2 hy λv s'1 x'1 r'1=>Zll ht r'1 λtk=>?_)
     have x'2:Ext T s {s'1 with toks:=tk}:=x'1.trans .toks
     cases t with
     |true=>exact(ih (c.ext x'2) h3 hm).1 Q λv s' x' r'=>q v s' (x'2.trans x') r'
     |false=>exact q _ _ x'2 (sI hm▸r'1.mono (Ext.fits (T:=T) .toks))
    |Or=>
     refine BoolOp_or (hS c h2 hy λv s'1 x'1 r'1=>Zll ht r'1 λtk=>?_)
     have x'2:Ext T s {s'1 with toks:=tk}:=x'1.trans .toks
     cases t with
     |false=>exact(ih (c.ext x'2) h3 hm).1 Q λv s' x' r'=>q v s' (x'2.trans x') r'
     |true=>exact q _ _ x'2 (sI hm▸r'1.mono (Ext.fits (T:=T) .toks))
   ·intro Q t' ht' q;show wpAny (model prog w) A (do match op,←isTrue x env (eval x env)with| .And,false=>pure false| .Or,true=>pure true|_,_=>allTrue op (x'::xs2) env) Q E s
    refine Ha6 (hT c h2 hy ht λs'1 x'1=>?_)
    cases op with
    |And=>
     cases t with
     |true=>exact(ih (c.ext x'1) h3 hm).2 Q t' ht' λs' x'=>q s' (x'1.trans x')
     |false=>rw[←sI hm,ht]at ht';exact Hau (sI ht'▸q s'1 x'1)
    |Or=>
     cases t with
     |false=>exact(ih (c.ext x'1) h3 hm).2 Q t' ht' λs' x'=>q s' (x'1.trans x')
     |true=>rw[←sI hm,ht]at ht';exact Hau (sI ht'▸q s'1 x'1)
noncomputable def Arm(prog:Program)(w:World)(T:Addr->Prop)(σ:Sg)(mg mb:Str->Option Value)(s0:Shared)(nm fn:Nat->Str)(C:Nat->List D->Option D)(k n fo:Nat)(m:M):Prop:=∀{A:Around} {E:Value->Shared->Prop} {env:Env} {sc:List (Str×NameKind)} {ρ ρ2:List (Nat×D)} {N N2:Addr->Prop} {s:Shared} {e:Expr} {d:D} {Q:Value->Shared->Prop},
 Cx T σ mg mb s0 nm k A env sc ρ ρ2 N N2 s->okE nm fn (fo+1) sc e m=true->ev C (n+1) ρ ρ2 m=some d->Zd9 T σ N s d Q->wpAny (model prog w) A (eval e env) Q E s
theorem Zsw{d'0:D}:Arm prog w T σ mg mb s0 nm fn C k n fo (.c d'0):=by
 intro A E env sc ρ ρ2 N N2 s e d Q c hok hev q;obtain⟨cc,kk,p,he,hok⟩:=Zpd (Zaa hok).2;rw[he];rw[←sI hev]at q;cases cc with
 |int j=>
  cases d'0 with
  |int pp=>
   cases pp with
   |k i=>exact Hbr (q _ _ .toks (.int (Zdh.mp hok)))
   |_=>exact bF hok
  |_=>exact bF hok
 |str x=>
  cases d'0 with
  |str l=>exact wpAny_Constant_str (q _ _ .toks (.str (Zdw.mp hok)))
  |_=>exact bF hok
 |bool b=>
  cases d'0 with
  |bool b'=>exact Hbp (q _ _ .refl (Hb5 hok▸.bool _))
  |_=>exact bF hok
 |none=>
  cases d'0 with
  |none=>exact wpAny_Constant_none (q _ _ .refl .none)
  |_=>exact bF hok
 |_=>exact bF hok
theorem Zyf{x:Nat}:Arm prog w T σ mg mb s0 nm fn C k n fo (.n x):=by
 intro A E env sc ρ ρ2 N N2 s e d Q c hok hev q;obtain⟨id,p,he,hok⟩:=Zbf (Zaa hok).2;have hid:=Hb5 (Zaa hok).1;have hok:=Zaa (Zaa hok).2;rw[hid]at hok;obtain⟨v,h4,h5⟩:=c.rel.one x d hev (by rw[c.ok.kindOf];exact hok.1)
 rw[he,hid];exact h4.load c.ok.kind (by have:=hok.2;rw[bne,Hcb]at this;exact this) (q v s .refl h5)
theorem Yav(hσ:∀n,(σ.v n).natAbs<=2^1000)(hS:Zaq prog w T σ mg mb s0 nm fn C k n){o:Operator}{a b:M}:Arm prog w T σ mg mb s0 nm fn C k n fo (.bin o a b):=by
 intro A E env sc ρ ρ2 N N2 s e d Q c hok hev q;obtain⟨l,o',r,p,he,hok⟩:=Zpb (Zaa hok).2;obtain⟨x,hx,hev⟩:=obS hev;obtain⟨y,hy,hev⟩:=obS hev;obtain⟨h1,h2,h3⟩:=And.imp_right Zaa (Zaa hok);rw[he,←Hb5 h1];refine Hbs (hS c h2 hx λva s'1 x'1 r'1=>hS (c.ext x'1) h3 hy λvb s'2 x'2 r'2=>?_)
 exact Zzg (T:=T) hσ ((c.ext x'1).ext x'2).occ hev (r'1.mono x'2.fits) r'2 λv s' x' r'=>q v s' ((x'1.trans x'2).trans x') r'
theorem Ycu(hS:Zaq prog w T σ mg mb s0 nm fn C k n){a:M}:Arm prog w T σ mg mb s0 nm fn C k n fo (.neg a):=by
 intro A E env sc ρ ρ2 N N2 s e d Q c hok hev q;obtain⟨u,x,p,he,hok⟩:=Yfo (Zaa hok).2;obtain⟨y,hx,hev⟩:=obS hev;obtain⟨pp,hp,hev⟩:=Zk8 hev;rw[he];cases u with
 |USub=>
  refine UnaryOp_ (hS c (Zaa hok).2 hx λva s'1 x'1 r'1=>?_)
  obtain⟨t,hv⟩:=r'1.inv' hp;rw[hv];exact neg_int (q _ _ (x'1.trans .toks) (sI hev▸.int (Zod _ _)))
 |_=>exact bF hok
theorem Ya4(hk:k<=100)(hS:Zaq prog w T σ mg mb s0 nm fn C k n){a:M}{os:List (CmpOp×M)}:Arm prog w T σ mg mb s0 nm fn C k n fo (.cmp a os):=by
 intro A E env sc ρ ρ2 N N2 s e d Q c hok hev q;obtain⟨l,ops,rs,p,he,hok⟩:=Ztc (Zaa hok).2;obtain⟨x,hx,hev⟩:=obS hev;rw[he];show wpAny _ _ (do compareChain p (←eval l env) ops (markedEach ops rs (evalEach rs env))) Q E s
 rw[markedEach_of_false _ _ _ (Zg7 os (Zaa hok).2)];exact Ha6 (hS c (Zaa hok).1 hx λva s'1 x'1 r'1=>(Zo1 hS hk os (c.ext x'1) (Zaa hok).2 hev r'1).1 Q λb s' hb x'=>q _ _ (x'1.trans x') (hb▸.bool b))
theorem Zzh{o:BoolOp}{es:List M}{d:D}(h:ev C (n+1) ρ ρ2 (.bop o es)=some d):Yhr (ev C n ρ ρ2) (Zt2 o) es=some d:=by cases o<;>exact h
theorem Yaz(hS:Zaq prog w T σ mg mb s0 nm fn C k n)(hT:Zbg prog w T σ mg mb s0 nm fn C k n){o:BoolOp}{es:List M}:Arm prog w T σ mg mb s0 nm fn C k n fo (.bop o es):=by
 intro A E env sc ρ ρ2 N N2 s e d Q c hok hev q;obtain⟨o',xs,p,he,hok⟩:=Zta (Zaa hok).2;rw[he,←Hb5 (Zaa hok).1];exact(Zzi hS hT es c (Zaa hok).2 (Zzh hev)).1 Q q
theorem Yce(hS:Zaq prog w T σ mg mb s0 nm fn C k n)(hT:Zbg prog w T σ mg mb s0 nm fn C k n){t a b:M}:Arm prog w T σ mg mb s0 nm fn C k n fo (.ite t a b):=by
 intro A E env sc ρ ρ2 N N2 s e d Q c hok hev q;obtain⟨t',a',b',p,he,hok⟩:=Yfn (Zaa hok).2;obtain⟨x,hx,hev⟩:=obS hev;obtain⟨r,hr,hev⟩:=obS hev;obtain⟨h1,h2,h3⟩:=And.imp_right Zaa (Zaa hok);rw[he];refine IfExp_ (hT c h1 hx hr λs'1 x'1=>?_)
 cases r with
 |true=>exact hS (c.ext x'1) h2 hev λv s' x' r'=>q v s' (x'1.trans x') r'
 |false=>exact hS (c.ext x'1) h3 hev λv s' x' r'=>q v s' (x'1.trans x') r'
theorem Zw4(hnm:Zb6 nm)(hS:Zaq prog w T σ mg mb s0 nm fn C k n)(hT:Zbg prog w T σ mg mb s0 nm fn C k n){e':M}{cs:List Cl}:Arm prog w T σ mg mb s0 nm fn C k n fo (.comp e' cs):=by
 intro A E env sc ρ ρ2 N N2 s e d Q c hok hev q;obtain⟨elt,gens,scope,p,he,hok⟩:=Zte (Zaa hok).2;obtain⟨cl,r,h1,co⟩:=Zlz hok;rw[h1]at hev;rw[he,eval_ListComp,co.sync];refine Zni hS hT hnm c co hev (λ_ L out s' hd ⟨x,_,_,⟨vs,⟨nn,hp⟩,hr⟩,hn⟩=>?_) λu hu=>nomatch hu
 exact q _ _ x (hd▸.lst hn hp (hr.mono λa o hn e _=>⟨λh=>hn (.inl h),e⟩))
theorem Ykj(hS:Zaq prog w T σ mg mb s0 nm fn C k n)(hC:Za1 prog w T σ mg mb s0 fn C k){f:Nat}{as:List M}{e:Expr}{d:D}{Q:Value->Shared->Prop}(c:Cx T σ mg mb s0 nm k A env sc ρ ρ2 N N2 s)(hf:Nat.blt f 900=false)(hok:okX (okE nm fn fo sc) sc f as e=true)(hev:ev C (n+1) ρ ρ2 (.call f as)=some d)(q:Zd9 T σ N s d Q):wpAny (model prog w) A (eval e env) Q E s:=by
 obtain⟨ds,hds,hev⟩:=obS hev;have hX:=λh=>hC.2.1 f ds d h hev
 unfold okX at hok;cases h0:Nat.beq f 900 with
 |true=>
  rw[h0]at hok;rw[Hb4 h0]at hX;obtain⟨a,ha,hok⟩:=Zmo hok;obtain⟨v,name,p,he,hok⟩:=Zs8 hok;rw[ha]at hds;obtain⟨y,hy,hd⟩:=Zdb hds;rw[hd]at hX;rw[he,Hb5 (Zaa hok).1];exact Zwr hS c (Zaa (Zaa hok).2).2 (Zaa (Zaa hok).2).1 hy (hX rfl) q
 |false=>
 cases h1:Nat.beq f 903 with
 |true=>
  rw[h0,h1]at hok;rw[Hb4 h1]at hX;obtain⟨a,b,ha,hok⟩:=Zz1 hok;obtain⟨l,o,r,p,he,hok⟩:=Zpb hok;rw[ha]at hds;obtain⟨y,z,hy,hz,hd⟩:=Zk4 hds;rw[hd]at hX;obtain⟨p1,p2,p3,e1,e2,hq0,hr0⟩:=hX rfl
  injection e1 with e1 e3
  injection e3 with e3
  rw[he,Hb5 (Zaa hok).1];refine Hbs (hS c (Zaa (Zaa hok).2).1 hy λva s'1 x'1 r'1=>hS (c.ext x'1) (Zaa (Zaa hok).2).2 hz λvb s'2 x'2 r'2=>?_)
  obtain⟨t,hv⟩:=r'1.inv' e1;obtain⟨u,hv2⟩:=r'2.inv' e3;rw[hv,hv2];exact PyProof.Rows.mod_int' hq0 (q _ _ ((x'1.trans x'2).trans .toks) (e2▸.int hr0))
 |false=>
 cases h2:Nat.beq f 904 with
 |true=>
  rw[h0,h1,h2]at hok;rw[Hb4 h2]at hX;obtain⟨a,ha,hok⟩:=Zmo hok;obtain⟨u,x,p,he,hok⟩:=Yfo hok;rw[ha]at hds;obtain⟨y,hy,hd⟩:=Zdb hds;rw[hd]at hX;obtain⟨p1,p2,e1,e2,hr0⟩:=hX rfl
  injection e1 with e1
  rw[he];cases u with
  |Invert=>
   refine UnaryOp_ (hS c (Zaa hok).2 hy λva s'1 x'1 r'1=>?_)
   obtain⟨t,hv⟩:=r'1.inv' e1;rw[hv];exact PyProof.Rows.invert_int (q _ _ (x'1.trans .toks) (e2▸.int hr0))
  |_=>exact bF (Zaa hok).1
 |false=>
 cases h3:Nat.beq f 905 with
 |true=>
  rw[h0,h1,h2,h3]at hok;rw[Hb4 h3]at hX;obtain⟨a,ha,hok⟩:=Zmo hok;obtain⟨v,name,ap,xs,p,he,hl,hp,hok⟩:=Zhm hok;rw[ha]at hds;obtain⟨y,hy,hd⟩:=Zdb hds;rw[hd]at hX;obtain⟨p1,p2,e1,e2,hr0⟩:=hX rfl
  injection e1 with e1
  rw[he,Hb5 (Zaa hok).1,jE (Zaa (Zaa hok).2).1];refine Zc6 (args:=[]) (Zat hp) rfl hl (hS c (Zaa (Zaa hok).2).2 hy λva s'1 x'1 r'1 pl=>?_)
  obtain⟨t,hv⟩:=r'1.inv' e1;rw[hv];exact PyProof.Rows.getMethod_int_bit_length (callWith_builtin_kwB rfl rfl (Zbk (es:=[]) (ms:=[]) (nm:=nm) (fn:=fn) (fo:=fo) (sc:=sc) rfl (Hbe (PyProof.Rows.call_int_bit_length (q _ _ (x'1.trans .toks) (e2▸.int hr0))))))
 |false=>
 cases h4:Nat.beq f 906 with
 |true=>
  rw[h0,h1,h2,h3,h4]at hok;rw[Hb4 h4]at hX;obtain⟨a,b,ha,hok⟩:=Zz1 hok;obtain⟨l,o,r,p,he,hok⟩:=Zpb hok;rw[ha]at hds;obtain⟨y,z,hy,hz,hd⟩:=Zk4 hds;rw[hd]at hX;obtain⟨p1,p2,p3,e1,e2,hq0,hq1,hr0⟩:=hX rfl
  injection e1 with e1 e3
  injection e3 with e3
  rw[he,Hb5 (Zaa hok).1];refine Hbs (hS c (Zaa (Zaa hok).2).1 hy λva s'1 x'1 r'1=>hS (c.ext x'1) (Zaa (Zaa hok).2).2 hz λvb s'2 x'2 r'2=>?_)
  obtain⟨t,hv⟩:=r'1.inv' e1;obtain⟨u,hv2⟩:=r'2.inv' e3;rw[hv,hv2];exact PyProof.Rows.lshift_int hq0 hq1 (q _ _ ((x'1.trans x'2).trans .toks) (e2▸.int hr0))
 |false=>
 cases h5:Nat.beq f 908 with
 |true=>
  rw[h0,h1,h2,h3,h4,h5]at hok;rw[Hb4 h5]at hX;obtain⟨id,p,he,hok⟩:=Zbf (Zaa hok).2;obtain⟨r',i,t,_,e2,hg,hr0⟩:=hX rfl;have hid:=Hb5 (Zaa hok).1;rw[he,hid];exact Hbg c.ok.kind ((c.ok.kindOf _).trans (hid▸Hb5 (Zaa hok).2)) (Hbm (c.ok.glob▸c.bs.ng) hg (q _ _ .refl (e2▸.int hr0))) (by decide)
 |false=>
  rw[h0,h1,h2,h3,h4,h5]at hok;obtain⟨a,b,ha,hok⟩:=Zz1 hok;obtain⟨v,name,ap,xs,kws,p,he,hl,hp,hok⟩:=Zth hok;have hn:=Hb5 (Zaa hok).1;have hok:=Zaa (Zaa hok).2;obtain⟨x,hx,h6⟩:=Zmo (Zaa hok.2).1;obtain⟨⟨kn,kv,kp⟩,hkw,h7⟩:=Zmo (Zaa hok.2).2;obtain⟨cc,kk,p3,hkv,h8⟩:=Zpd (Zaa h7).2;have hkn:kn=some ("name":Str):=Hb5 (Zaa h7).1;have hkv:kv= .Constant cc kk p3:=hkv;rw[ha]at hds;obtain⟨y,z,hy,hz,hd⟩:=Zk4 hds;rw[hd]at hX;rw[he,hn,hx,hkw,hkn,hkv];cases cc with
  |bool bb=>
   have hf:=Hb4 h8;rw[hf]at hX;exact Ya8 hS c hl hok.1 h6 hp hy hz (by cases bb<;>exact hX rfl) q
  |_=>exact bF h8
theorem Zsf(hS:Zaq prog w T σ mg mb s0 nm fn C k n)(hC:Za1 prog w T σ mg mb s0 fn C k){f:Nat}{as:List M}:Arm prog w T σ mg mb s0 nm fn C k n fo (.call f as):=by
 intro A E env sc ρ ρ2 N N2 s e d Q c hok hev q;have hok:=(Zaa hok).2;dsimp only at hok;cases hf:Nat.blt f 900 with
 |true=>
  rw[hf]at hok;obtain⟨id,q',xs,p,he,hok⟩:=Zey hok;have hid:=Hb5 (Zaa hok).1;have hok:=Zaa (Zaa hok).2;rw[hid]at hok;rw[he,hid];exact Zww hS hC c hf (Hb5 hok.1) (by have:=(Zaa hok.2).1;rw[bne,Hcb]at this;exact this) (Zaa hok.2).2 hev q
 |false=>rw[hf]at hok;exact Ykj hS hC c hf hok hev q
theorem Zvo(hk:k<=100)(hnm:Zb6 nm)(hσ:∀n,(σ.v n).natAbs<=2^1000)(hC:Za1 prog w T σ mg mb s0 fn C k)(hS:Zaq prog w T σ mg mb s0 nm fn C k n)(hT:Zbg prog w T σ mg mb s0 nm fn C k n):Zaq prog w T σ mg mb s0 nm fn C k (n+1):=by
 intro A E env sc ρ ρ2 N N2 s e m d fo Q c hok hev q;cases fo with
 |zero=>exact bF hok
 |succ fo=>
 cases m with
 |c d'0=>exact Zsw c hok hev q
 |n x=>exact Zyf c hok hev q
 |lst es=>
  obtain⟨xs,p,he,hok⟩:=Znp (Zaa hok).2;rw[he];exact Ycl hS c (Zaa hok).2 (bLe (Zaa hok).1) hev q
 |tup es=>
  obtain⟨xs,kk,p,he,hok⟩:=Zdx (Zaa hok).2;rw[he];exact Ydu hS c (Zaa hok).2 (bLe (Zaa hok).1) hev q
 |bin o a b=>exact Yav hσ hS c hok hev q
 |neg a=>exact Ycu hS c hok hev q
 |cmp a os=>exact Ya4 hk hS c hok hev q
 |bop o es=>exact Yaz hS hT c hok hev q
 |ite t a b=>exact Yce hS hT c hok hev q
 |idx a i=>
  obtain⟨v,sl,p,he,hok⟩:=Ztj (Zaa hok).2;rw[he];exact Yb6 hS c (Zaa hok).1 (Zaa hok).2 hev q
 |sl a lo hi=>
  obtain⟨v,sl,p,he,hok⟩:=Ztj (Zaa hok).2;obtain⟨l,h,st,p',he',h2⟩:=Zxn (Zaa hok).2;rw[he,he',Option.isNone_iff_eq_none.mp (Zaa h2).1];exact Yg7 hS c (Zaa hok).1 (Zaa (Zaa h2).2).1 (Zaa (Zaa h2).2).2 hev q
 |call f as=>exact Zsf hS hC c hok hev q
 |bi b as=>
  have hok:=Zaa (Zaa hok).2;obtain⟨q',xs,p,he,hsc,h⟩:=Zhz hok.2;rw[he];exact Ye1 hS c hok.1 hsc h hev q
 |me m o as=>
  obtain⟨v,name,ap,xs,p,he,hl,hp,hok⟩:=Zhm (Zaa hok).2;have h2:=Zaa (Zaa hok).2;rw[he,Hb5 (Zaa hok).1];exact Ygi hS hC hk c hl hp (bLe h2.1) (Zaa h2.2).1 (Zaa h2.2).2 hev q
 |comp e' cs=>exact Zw4 hnm hS hT c hok hev q
 |bor a=>
  obtain⟨d',hd',hev⟩:=obS hev;obtain⟨hsc,hev⟩:=Zaj hev;exact hS ⟨c.ha,c.ok,c.bs,⟨c.rel.two,by rw[Hcw];exact c.rel.two,c.rel.sl⟩,λ_ h=>h,λa h=>c.occ a (c.hs2 a h)⟩ (Zaa hok).2 hd' λv s' x' r'=>q v s' x' (sI hev▸r'.scalar hsc)
theorem Zyo{m:M}{e:Expr}(hm:Zut m=true)(h:okE nm fn (fo+1) sc e m=true):Zus e=true:=by
 have h:=(Zaa (Zaa h).1).2;rw[hm]at h;exact h
theorem Zow{e:Expr}(h:Zus e=true):isTrue e env (eval e env)=(do let v ←eval e env;standAt e.pos;holding [v] (truthy v)):=by
 cases e with
 |UnaryOp u x p=>cases u<;>first|exact bF h|rfl
 |_=>first|exact bF h|rfl
theorem Zor(hk:k<=100)(hS1:Zaq prog w T σ mg mb s0 nm fn C k (n+1))(hS:Zaq prog w T σ mg mb s0 nm fn C k n)(hT:Zbg prog w T σ mg mb s0 nm fn C k n):Zbg prog w T σ mg mb s0 nm fn C k (n+1):=by
 intro A E env sc ρ ρ2 N N2 s e m d t fo Q c hok hev htr q;cases fo with
 |zero=>exact bF hok
 |succ fo=>
 have plain:Zut m=true->wpAny (model prog w) A (isTrue e env (eval e env)) Q E s:=λhm=>
  wpAny_isTrue_value (hS1 c hok hev λv s'1 x'1 r'1=>Zll htr r'1 λtk=>q _ (x'1.trans .toks)) (Zow (Zyo hm hok))
 cases m with
 |cmp a os=>
  obtain⟨l,ops,rs,p,he,hok⟩:=Ztc (Zaa hok).2;obtain⟨x,hx,hev⟩:=obS hev;rw[he];show wpAny _ _ (do testChain p (←eval l env) ops (markedEach ops rs (evalEach rs env))) Q E s
  rw[markedEach_of_false _ _ _ (Zg7 os (Zaa hok).2)];refine Ha6 (hS c (Zaa hok).1 hx λva s'1 x'1 r'1=>(Zo1 hS hk os (c.ext x'1) (Zaa hok).2 hev r'1).2 Q λb s' hb x'=>?_)
  rw[hb]at htr;exact sI htr▸q _ (x'1.trans x')
 |bop o es=>
  obtain⟨o',xs,p,he,hok⟩:=Zta (Zaa hok).2;rw[he,←Hb5 (Zaa hok).1];exact wpAny_isTrue_BoolOp ((Zzi hS hT (pos:=p) es c (Zaa hok).2 (Zzh hev)).2 Q t htr q)
 |ite t'1 a b=>
  obtain⟨t',a',b',p,he,hok⟩:=Yfn (Zaa hok).2;obtain⟨x,hx,hev⟩:=obS hev;obtain⟨r,hr,hev⟩:=obS hev;obtain⟨h1,h2,h3⟩:=And.imp_right Zaa (Zaa hok);rw[he];refine isTrue_IfExp (hT c h1 hx hr λs'1 x'1=>?_)
  cases r with
  |true=>exact hT (c.ext x'1) h2 hev htr λs' x'=>q s' (x'1.trans x')
  |false=>exact hT (c.ext x'1) h3 hev htr λs' x'=>q s' (x'1.trans x')
 |bor a=>
  obtain⟨d',hd',hev⟩:=obS hev;obtain⟨hsc,hev⟩:=Zaj hev;rw[←sI hev]at htr;exact hT ⟨c.ha,c.ok,c.bs,⟨c.rel.two,by rw[Hcw];exact c.rel.two,c.rel.sl⟩,λ_ h=>h,λa h=>c.occ a (c.hs2 a h)⟩ (Zaa hok).2 hd' htr q
 |_=>exact plain rfl
theorem Zvn(hk:k<=100)(hnm:Zb6 nm)(hσ:∀n,(σ.v n).natAbs<=2^1000)(hC:Za1 prog w T σ mg mb s0 fn C k)(n:Nat):Zaq prog w T σ mg mb s0 nm fn C k n/\Zbg prog w T σ mg mb s0 nm fn C k n:=by
 induction n with
 |zero=>exact⟨λ_ _ hev=>nS hev,λ_ _ hev=>nS hev⟩
 |succ n ih=>
  have hS1:Zaq prog w T σ mg mb s0 nm fn C k (n+1):=Zvo hk hnm hσ hC ih.1 ih.2;exact⟨hS1,Zor hk hS1 ih.1 ih.2⟩
structure Yag(T:Addr->Prop)(σ:Sg)(N:Addr->Prop)(s s':Shared)(L:Addr)(out:List D):Prop where
 new:s.heap.get? L=none
 tab:¬T L
 notN:¬N L
 items:∃vs:List Value,s'.heap.PlainList L vs.toArray/\RdL σ (λa=>N a\/a=L) s'.heap vs out
structure Zg2(T:Addr->Prop)(env:Env)(s s':Shared)(x:Str)(a:Addr)(v:Value):Prop where
 upd:Upd T (·=a) s s'
 slots:Zbj env s'.heap
 var:Zam env s'.heap x v
 others:∀y u,y≠x->Zam env s.heap y u->Zam env s'.heap y u
noncomputable def Zg6(m:M):Bool:=Nat.beq m.ctorIdx (M.lst []).ctorIdx||Nat.beq m.ctorIdx (M.comp (.n 0) []).ctorIdx
theorem Zin{e:Expr}{m:M}{fo:Nat}(h:okE nm fn fo sc e m=true):(∀a b c d,e≠.SetComp a b c d)/\∀a b c d f,e≠.DictComp a b c d f:=⟨λ_ _ _ _ q=>Zgq h q rfl,λ_ _ _ _ _ q=>Zgq h q rfl⟩
theorem Ycm{es:List M}{value:Expr}{fo:Nat}(h:okE nm fn (fo+1) sc value (.lst es)=true):E22 (λxs p=>value= .List xs p) λxs _=>es.length<=1000/\okL (okE nm fn fo sc) xs es=true:=by
 obtain⟨xs,p,he,h⟩:=Znp (Zaa h).2;exact⟨xs,p,he,bLe (Zaa h).1,(Zaa h).2⟩
theorem stored{x:Str}{v:Value}{a:Addr}{s'1:Shared}{Q:Unit->Shared->Prop}(ok:Zcg env sc)(sl:Zbj env s'1.heap)(x'1:Ext T s s'1)(st:Zcw env x a)(ht:¬T a)
  (q:∀s',Upd T (·=a) s'1 s'->Zg2 T env s s' x a v->Q () s'):wpAny (model prog w) A (storeName env x v) Q E s'1:=
 Zlh ok.kind sl st ht λs' u sl' hv ho=>q s' u ⟨x'1.upd.trans u,sl',hv,λy u' hy h=>ho y u' hy (h.ext x'1)⟩
theorem Upd.gone_new{W:Addr->Prop}{s' s'':Shared}{Cl:Addr}(u:Upd T W s s')(g:Zcq T (·=Cl) s' s'')(h7:s.heap.get? Cl=none):Upd T W s s'':=by
 have new:∀{b o},s.heap.get? b=some o->¬b=Cl:=λe q=>nS (h7.symm.trans (q▸e))
 refine⟨λb o hbT hba e=>g.keep b o hbT (new e) (u.keep b o hbT hba e),λb o hba e t=>g.keep2 b o (new e) (u.keep2 b o hba e t) t,λb hb=>?_,λb tb e=>g.tab b tb (u.tab b tb e),λe=>g.gens (u.gens e),g.os.trans u.os⟩
 have hb':=hb;obtain⟨o,e,t⟩:=hb';obtain⟨o',e',t'⟩:=u.occ b hb;exact⟨o',g.keep2 b o' (new e) e' t',t'⟩
theorem Zlu(hS:Zaq prog w T σ mg mb s0 nm fn C k n)(hT:Zbg prog w T σ mg mb s0 nm fn C k n)(hnm:Zb6 nm)(c:Cx T σ mg mb s0 nm k A env sc ρ ρ2 N N2 s)
  {x:Str}{p pos:Pos}{value:Expr}{m:M}{d:D}{a:Addr}{Q:Flow->Shared->Prop}(hok:okE nm fn fo sc value m=true)(hf:Zg6 m=true)(hev:ev C (n+1) ρ ρ2 m=some d)(st:Zcw env x a)(ht:¬T a)(hNa:N a)
  (q:∀L out s',d= .lst out->Zg2 T env s s' x a (.ref L)->Yag T σ N s s' L out->Q .next s'):wpAny (model prog w) A (exec (.Assign [.Name x p] value pos) env) Q E s:=by
 have fin:∀(s'1:Shared) (L:Addr) (vs:List Value) (out:List D) (N':Addr->Prop) (Q':Unit->Shared->Prop),d= .lst out->Ext T s s'1->s.heap.get? L=none->¬T L->¬N L->s'1.heap.PlainList L vs.toArray->RdL σ N' s'1.heap vs out->N' a->
   (∀s',Upd T (·=a) s'1 s'->Zg2 T env s s' x a (.ref L)->s'.heap.PlainList L vs.toArray->RdL σ N' s'.heap vs out->Q' () s')->wpAny (model prog w) A (storeName env x (.ref L)) Q' E s'1:=by
  intro s'1 L vs out N' Q' hd x'1 h1 h2 h3 h4 h5 hNa' q';exact stored c.ok (c.rel.sl.ext x'1) x'1 st ht λs' u hst=>q' s' u hst (Za8 u h4 λe=>h3 (e▸hNa)) (h5.mono (u.fits λb e=>e▸hNa'))
 cases fo with
 |zero=>exact bF hok
 |succ fo=>
 cases m with
 |lst es=>
  obtain⟨xs,vp,he,hlen,hok⟩:=Ycm hok;obtain⟨ds,hds,e⟩:=Ziq hev;rw[he];refine Hbt (List_ (Zee hS xs c hok hds λvs s'1 x'1 r'1=>?_)) rfl
  have c'1:=c.ext x'1;have x'2:Ext T s'1 {s'1 with heap:=s'1.heap.push {cls:=.type "list",data:=.seq vs.toArray}}:=.push (tk:=s'1.toks)
  have hLT:¬T s'1.heap.objs.size:=λh=>Hao _ (c'1.bs.lt _ h)
  have hfree:s.heap.get? s'1.heap.objs.size=none:=by
   cases e:s.heap.get? s'1.heap.objs.size with
   |none=>rfl
   |some o=>exact absurd (Haj (x'1.keep _ o hLT e)) (Hao _)
  have hNL:¬N s'1.heap.objs.size:=noN c'1.occ;refine Hbk (fin _ _ vs ds (λa=>N a\/a=s'1.heap.objs.size) _ e.symm (x'1.trans x'2) hfree hLT hNL ⟨0,Hb7 _ rfl⟩ (r'1.mono λb o hn e c=>⟨λh=>h.elim hn λh=>absurd (Haj e) (by rw[h];exact Hao _),x'2.keep2 b o e c⟩) (.inl hNa) λs' _ hst hp hr=>
   q _ ds s' e.symm hst ⟨hfree,hLT,hNL,vs,hp,hr⟩) ?_
  show vs.toArray.size<=sizeLine;rw[Hb8,r'1.length,Zfg hds];exact Hag hlen (by decide)
 |comp e cs=>
  obtain⟨elt,gens,scope,vp,he,hok⟩:=Zte (Zaa hok).2;obtain⟨cl,r,h1,co⟩:=Zlz hok;rw[h1]at hev;rw[he];have hsw:swapsWith (.ListComp elt gens scope vp) (some (.Name x p)) pos.line env=pure (env.blockKind==.function&&env.kindOf x==some .local&&p.line==(Expr.ListComp elt gens scope vp).pos.line
    && !(scope.names.any λ(n,k)=>n==x&&(k==.local||k==.cell))):=rfl
  generalize (env.blockKind==.function&&env.kindOf x==some .local&&p.line==(Expr.ListComp elt gens scope vp).pos.line
    && !(scope.names.any λ(n,k)=>n==x&&(k==.local||k==.cell)))=b at hsw
  cases b with
  |false=>
   refine Hbt ?_ hsw
   rw[eval_ListComp,co.sync];exact Zni hS hT hnm c co hev (λ_ L out s'1 hd ⟨x'1,h1,h2,⟨vs,h3,h4⟩,h5⟩=>fin s'1 L vs out (λa=>N a\/a=L) _ hd x'1 h1 h2 h5 h3 h4 (.inl hNa) λs' _ hst hp hr=>q L out s' hd hst ⟨h1,h2,h5,vs,hp,hr⟩) λu hu=>nomatch hu
  |true=>
   rw[exec_Assign_Name_used _ _ _ _ hsw];refine Ha6 (Ha8 (Ha6 ?_))
   rw[arm_evalThenUse_ListComp,co.sync];refine Ha6 (Ha4 (Zni (use:=some (assign (.Name x p) env)) (Q:=λ_ s'=>Q .next s') hS hT hnm c co hev (λhu=>nomatch hu) λu hu L out s'1 Cl hd ⟨x'1,h1,h2,⟨vs,h3,h4⟩,h5⟩ ⟨h6,⟨m,hns⟩,h7,h8⟩=>?_)
    (λ_ s' hq=>Hau (Hau hq)) λ_ _ e=>e)
   rw[←sI hu];refine Ha6 (Ha8 (Ha5 ?_))
   have hCa:Cl≠a:=λe=>by
    obtain⟨o,e',_⟩:=c.occ a hNa;exact nS (h7.symm.trans (e▸e'))
   refine fin s'1 L vs out (λb=>(N b\/b=L)\/b=Cl) _ hd x'1 h1 h2 h5 h3 h4 (.inl (.inl hNa)) λs' u hst hp hr=>⟨m,u.ns hns hCa,λh' hsb=>?_⟩
   have g:Zcq T (·=Cl) s' {s' with heap:=h'}:=Zcq.of_but hsb h8 (.ns (u.ns hns hCa))
   have new:∀{b},Occ s.heap b->¬b=Cl:=λ⟨o,e',_⟩ e=>nS (h7.symm.trans (e▸e'))
   have hCl:¬env.locals=Cl:=by
    obtain⟨m',hm'⟩:=c.rel.sl.ns;exact new (Zju hm')
   have hCc:∀n c,(n,c)∈env.cells->¬c=Cl:=λn c' hm=>by
    obtain⟨v,hv⟩:=c.rel.sl.cells n c' hm;exact new (Zfr hv)
   exact q L out _ hd ⟨hst.upd.gone_new g h7,hst.slots.gone g hCl hCc,hst.var.gone g hCl hCc,λy u' hy h=>(hst.others y u' hy h).gone g hCl hCc⟩ ⟨h1,h2,h5,vs,Zjx g hp h6,hr.mono λb o hn e t=>⟨λh=>hn (.inl h),g.keep2 b o (λq=>hn (.inr q)) e t⟩⟩
 |_=>exact bF hf
inductive O where
 |lst (ds:List D)
 |hdr (ds:List D)
 |dict (kvs:List (List Nat×List D))
noncomputable def O.d:O->D
 | .dict _=>.opq
 | .lst ds=>.lst ds
 | .hdr ds=>.hdr ds
inductive S where
 |asg (t:List Nat) (uni:Bool) (e:M)
 |anew (x:Nat) (e:M)
 |aug (x:Nat) (o:Operator) (e:M)
 |app (x:Nat) (e:M)
 |set (x:Nat) (i e:M)
 |hnew (x:Nat)
 |hadd (x:Nat) (a b:M)
 |ite (c:M) (a b:List S)
 |loop (t:List Nat) (uni:Bool) (k:Nat) (it:List M) (body:List S)
 |ret (e:M)
 |frz (x:Nat)
 |bad
 |rev (x:Nat)
 |saug (x:Nat) (i:M) (o:Operator) (e:M)
 |knew (x y:Nat)
 |kput (x y:Nat) (e:M)
 |kne (e:M) (x y:Nat) (m:M)
 |kloop (t x:Nat) (body:List S)
 |sw (x y:Nat) (a b:M)
inductive Out where
 |next (ρ:List (Nat×D)) (ow:List (Nat×O))
 |ret (d:D)
noncomputable def owD:List (Nat×O)->List (Nat×D)
 |[]=>[]
 |(x,o)::r=>(x,o.d)::owD r
noncomputable def Zfv(x:Nat):List (Nat×O)->List (Nat×O)
 |[]=>[]
 |(y,o)::r=>match Nat.beq x y with
  |true=>Zfv x r
  |false=>(y,o)::Zfv x r
noncomputable def Zhu(x:Nat)(o:O):List (Nat×O)->List (Nat×O)
 |[]=>[]
 |(y,p)::r=>match Nat.beq x y with
  |true=>(y,o)::r
  |false=>(y,p)::Zhu x o r
noncomputable def Zar(t:List Nat)(ow:List (Nat×O)):Bool:=t.all λx=>match lk x ow with|some _=>false|none=>true
noncomputable def Yd6{α:Type}:List α->Nat->α->List α
 |[],_,_=>[]
 |_::r,0,a=>a::r
 |b::r,n+1,a=>b::Yd6 r n a
noncomputable def lkS(k:List Nat):List (List Nat×List D)->Option (List D)
 |[]=>none
 |(l,d)::r=>match eqN l k with
  |true=>some d
  |false=>lkS k r
noncomputable def Zz4(k:List Nat)(d:List D):List (List Nat×List D)->List (List Nat×List D)
 |[]=>[(k,d)]
 |(l,e)::r=>match eqN l k with
  |true=>(l,d)::r
  |false=>(l,e)::Zz4 k d r
noncomputable def Zhf:Bool->Nat->List Nat->List (Nat×List Nat)
 |e,p,[]=>(match e with|true=>[(p-1,[92])]|false=>[])
 |true,p,c::r=>(p,[92,c])::Zhf false (p+1) r
 |false,p,c::r=>(match Nat.beq c 92 with|true=>Zhf true (p+1) r|false=>(p,[c])::Zhf false (p+1) r)
noncomputable def Znk(its:List (Nat×List Nat)):List D:=its.map λp=>.tup [.int (.k (.ofNat p.1)),.str p.2]
noncomputable def Ykm(ds:List D):Option (List D):=match ds with
 |[]=>none
 |a::r=>onL a λx=>Zac (Zff r) λb=>onL b λy=>Zas (small x&&small y) (some (Zza x y))
noncomputable def Zjd(k:Nat)(ds:List D):Option (List D):=match Nat.beq k 2 with
 |true=>Ykm ds
 |false=>(match Nat.beq k 3 with
  |true=>Zac (Zff ds) λd=>onS d λs=>Zas (Zc4 s) (some (Znk (Zhf false 0 s)))
  |false=>(match Nat.beq k 4 with
   |true=>Zac (Zff ds) λd=>onL d λl=>Zas (small l) (some l.reverse)
   |false=>Zmc k ds))
noncomputable def Zc5(f:D->List (Nat×D)->List (Nat×O)->Option Out):List D->List (Nat×D)->List (Nat×O)->Option Out
 |[],ρ,ow=>some (.next ρ ow)
 |d::r,ρ,ow=>Zac (f d ρ ow) λo=>match o with
  | .next ρ' ow'=>Zc5 f r ρ' ow'
  | .ret e=>some (.ret e)
noncomputable def Zbu(o:Option Out)(f:List (Nat×D)->List (Nat×O)->Option Out):Option Out:=match o with
 |some (.next ρ ow)=>f ρ ow
 |o=>o
noncomputable def Zwg(o:Operator)(a b:D):Option D:=onI a λp=>onI b λq=>match o with
 | .Add=>some (.int (Zoa p q))
 | .Sub=>some (.int (Zoa p (Zyp q)))
 | .Mult=>Zas (fits p&&fits q) (some (.int (Zlb p q)))
 |_=>none
noncomputable def Ygw{α:Type}(o:Option O)(f:List D->Option α):Option α:=Zac o λp=>match p with
 | .lst ds=>f ds
 |_=>none
noncomputable def onOH{α:Type}(o:Option O)(f:List D->Option α):Option α:=Zac o λp=>match p with
 | .hdr ds=>f ds
 |_=>none
noncomputable def Yh0{α:Type}(o:Option O)(f:List (List Nat×List D)->Option α):Option α:=Zac o λp=>match p with
 | .dict ds=>f ds
 |_=>none
variable {α:Type} {o:Option O} {r:α}
theorem Zyn{f:List D->Option α}(h:Ygw o f=some r):E12 (λp=>o=some (.lst p)) λp=>f p=some r:=by
 obtain⟨p,h1,h⟩:=obS h;cases p<;>first|exact nS h|exact⟨_,h1,h⟩
theorem Yj4{f:List D->Option α}(h:onOH o f=some r):E12 (λp=>o=some (.hdr p)) λp=>f p=some r:=by
 obtain⟨p,h1,h⟩:=obS h;cases p<;>first|exact nS h|exact⟨_,h1,h⟩
theorem Yc0{f:List (List Nat×List D)->Option α}(h:Yh0 o f=some r):E12 (λp=>o=some (.dict p)) λp=>f p=some r:=by
 obtain⟨p,h1,h⟩:=obS h;cases p<;>first|exact nS h|exact⟨_,h1,h⟩
noncomputable def onJ{α:Type}(d:D)(f:Nat->Option α):Option α:=onK d λi=>onN i f
theorem Ygv{α:Type}{d:D}{r:α}{f:Nat->Option α}(h:onJ d f=some r):E12 (λj:Nat=>d= .int (.k (.ofNat j))) λj=>f j=some r:=by
 obtain⟨i,h1,h⟩:=Zgr h;obtain⟨j,h2,h⟩:=Yd4 h;exact⟨j,by rw[h1,h2];rfl,h⟩
noncomputable def Zbq(s:List Nat):Bool:=(s.all λc=>Nat.ble 32 c&&Nat.blt c 127)&&Nat.blt s.length 1000000
noncomputable def Zd5(run:List (Nat×D)->List (Nat×O)->Option Out)(t:List Nat)(uni:Bool)(d:D)(ρ:List (Nat×D))(ow:List (Nat×O)):Option Out:=Zas (Zar t ow) (Zac (Zhb t uni d (Zak t ρ)) λρ'=>run ρ' ow)
noncomputable def run(C:Nat->List D->Option D):Nat->List S->List (Nat×D)->List (Nat×O)->Option Out
 |0,_,_,_=>none
 |n+1,ss,ρ,ow=>match ss with
  |[]=>some (.next ρ ow)
  |s::r=>(match s with
  | .asg t uni e=>Zac (ev C n ρ (owD ow) e) λd=>Zas (Zar t ow) (Zac (Zhb t uni d (Zak t ρ)) λρ'=>run C n r ρ' ow)
  | .anew x e=>Zac (ev C n ρ (owD ow) e) λd=>onL d λds=>Zas (Zar [x] ow&&Zg6 e) (run C n r (Zak [x] ρ) ((x,.lst ds)::ow))
  | .aug x o e=>Zac (lk x ρ) λa=>Zac (ev C n ρ (owD ow) e) λb=>Zac (Zwg o a b) λd=>Zas (Zar [x] ow) (run C n r ((x,d)::Zak [x] ρ) ow)
  | .app x e=>Zac (ev C n ρ (owD ow) e) λd=>Ygw (lk x ow) λds=>Zas (small ds) (run C n r ρ (Zhu x (.lst (ds++[d])) ow))
  | .set x i e=>Zac (ev C n ρ (owD ow) e) λd=>Zac (ev C n ρ (owD ow) i) λdi=>onJ di λj=>Ygw (lk x ow) λds=>Zas (Nat.blt j ds.length&&small ds) (run C n r ρ (Zhu x (.lst (Yd6 ds j d)) ow))
  | .hnew x=>Zas (Zar [x] ow) (run C n r (Zak [x] ρ) ((x,.hdr [])::ow))
  | .hadd x a b=>Zac (ev C n ρ (owD ow) a) λda=>onS da λk=>Zac (ev C n ρ (owD ow) b) λdb=>onS db λv=>onOH (lk x ow) λds=>
   Zas (small ds&&(Zbq k&&Zbq v)) (run C n r ρ (Zhu x (.hdr (ds++[.tup [.str k,.str v]])) ow))
  | .ite c a b=>Zac (ev C n ρ (owD ow) c) λx=>Zac (Zeu x) λt=>match t with
   |true=>Zbu (run C n a ρ ow) (run C n r)
   |false=>Zbu (run C n b ρ ow) (run C n r)
  | .loop t uni k it body=>Zac (Zd8 (ev C n ρ (owD ow)) it) λds=>Zac (Zjd k ds) λitems=>Zbu (Zc5 (Zd5 (run C n body) t uni) items ρ ow) (run C n r)
  | .ret e=>Zac (ev C n ρ (owD ow) e) λd=>some (.ret d)
  | .frz x=>(match lk x ow with
   |some o=>run C n r ((x,o.d)::Zak [x] ρ) (Zfv x ow)
   |none=>run C n r ρ ow)
  | .bad=>none
  | .rev x=>Ygw (lk x ow) λds=>Zas (small ds) (run C n r ρ (Zhu x (.lst ds.reverse) ow))
  | .saug x i o e=>Zac (ev C n ρ (owD ow) i) λdi=>onJ di λj=>Ygw (lk x ow) λds=>Zac (Zts ds j) λa=>Zac (ev C n ρ (owD ow) e) λb=>Zac (Zwg o a b) λd=>
   Zas (small ds) (run C n r ρ (Zhu x (.lst (Yd6 ds j d)) ow))
  | .knew x y=>Zas (Zar [x,y] ow&& !Nat.beq x y) (run C n r (Zak [x,y] ρ) ((x,.dict [])::(y,.lst [])::ow))
  | .kput x y e=>Yh0 (lk x ow) λkvs=>Zac (lk y ρ) λdk=>onS dk λk=>Zac (ev C n ρ (owD ow) e) λd=>onL d λes=>
   Zas (small kvs&&(small es&&small ((lkS k kvs).getD []))) (run C n r ρ (Zhu x (.dict (Zz4 k ((lkS k kvs).getD []++es) kvs)) ow))
  | .kne e x y m=>Zac (ev C n ρ (owD ow) e) λd=>Yh0 (lk x ow) λkvs=>Zac (lk y ρ) λdk=>onS dk λk=>Zac (lkS k kvs) λds=>Zac (eqD d (.lst ds)) λt=>Zas t (Zac (ev C n ρ (owD ow) m) λdm=>Zac (Zeu dm) λu=>
   Zas (!u) (run C n r ρ ow))
  | .kloop t x body=>Yh0 (lk x ow) λkvs=>Zas (Nat.blt kvs.length 64) (Zbu (Zc5 (Zd5 (run C n body) [t] true) ((Zlg (kvs.map (·.1))).map .str) ρ ow) (run C n r))
  | .sw x y a b=>Zac (ev C n ρ (owD ow) a) λda=>Zac (ev C n ρ (owD ow) b) λdb=>Zas (Zar [x,y] ow&& !Nat.beq x y) (run C n r ((x,da)::(y,db)::Zak [x,y] ρ) ow))
inductive KvL(σ:Sg)(N:Addr->Prop)(h:Heap):List (Str×Value)->List (List Nat×List D)->Prop
 |nil:KvL σ N h [] []
 |cons {k:Str} {v:Value} {l:List Nat} {ds:List D} {r:List (Str×Value)} {r':List (List Nat×List D)}:k.cps.toList=l->Rd σ N h v (.lst ds)->KvL σ N h r r'->KvL σ N h ((k,v)::r) ((l,ds)::r')
theorem KvL.mono{σ:Sg}{N N':Addr->Prop}{h h':Heap}(f:Zdk N N' h h'){r:List (Str×Value)}{r':List (List Nat×List D)}(x:KvL σ N h r r'):KvL σ N' h' r r':=by
 induction x with
 |nil=>exact .nil
 |cons e x _ ih=>exact .cons e (x.mono f) ih
theorem Zkm{prog:Program}{w:World}{h:Heap}{a:Addr}{kvs:List (Str×Value)}(x:h.DictOf (PySem.strKind prog w) a kvs):Occ h a:=by
 obtain⟨o,es,ep,ho,_,d,_⟩:=x;exact⟨o,ho,Za0 (by rw[d];rfl)⟩
theorem Ybb{prog:Program}{w:World}{h h':Heap}{a:Addr}{kvs:List (Str×Value)}(x:h.DictOf (PySem.strKind prog w) a kvs)(e:h'.get? a=h.get? a):h'.DictOf (PySem.strKind prog w) a kvs:=by
 obtain⟨o,es,ep,ho,r⟩:=x;exact⟨o,es,ep,e.trans ho,r⟩
inductive Zc3(σ:Sg)(N:Addr->Prop)(h:Heap):Value->O->List Addr->Prop
 |lst {a:Addr} {vs:List Value} {ds:List D}:h.PlainList a vs.toArray->RdL σ N h vs ds->Zc3 σ N h (.ref a) (.lst ds) [a]
 |hdr {x dx b:Addr} {o od:Obj} {vs:List Value} {ds:List D}:h.get? x=some o->h.get? dx=some od->Zeb (σ.v 999).toNat o od x dx b->h.PlainList b vs.toArray->RdL σ N h vs ds->Zc3 σ N h (.ref x) (.hdr ds) [x,dx,b]
 |dict {a:Addr} {kvs:List (Str×Value)} {kds:List (List Nat×List D)}:h.DictOf (PySem.strKind σ.prog σ.w) a kvs->KvL σ N h kvs kds->Zc3 σ N h (.ref a) (.dict kds) [a]
theorem Zc3.mono{v:Value}{o:O}{as:List Addr}(f:Zdk N N2 h h')(k:∀b,Occ h b->b∈as->h'.get? b=h.get? b)(x:Zc3 σ N h v o as):Zc3 σ N2 h' v o as:=by
 induction x with
 |lst hp r=>
  obtain⟨n,e⟩:=hp;exact .lst ⟨n,(k _ ⟨_,e,rfl⟩ (.head _)).trans e⟩ (r.mono f)
 |hdr e1 e2 ho hp r=>
  obtain⟨n,e⟩:=hp;exact .hdr ((k _ ⟨_,e1,ho.tab.1⟩ (.head _)).trans e1) ((k _ ⟨_,e2,ho.tab.2⟩ (.tail _ (.head _))).trans e2) ho ⟨n,(k _ ⟨_,e,rfl⟩ (.tail _ (.tail _ (.head _)))).trans e⟩ (r.mono f)
 |dict hd r=>exact .dict (Ybb hd (k _ (Zkm hd) (.head _))) (r.mono f)
theorem Zc3.rd{v:Value}{o:O}{as:List Addr}(hN:∀a,N2 a->N a)(hb:∀b∈as,¬N2 b)(x:Zc3 σ N h v o as):Rd σ N2 h v o.d:=by
 have weak:Zdk N N2 h h:=λa o hn e _=>⟨λq=>hn (hN a q),e⟩
 induction x with
 |lst hp r=>
  obtain⟨n,e⟩:=hp;exact .lst (hb _ (.head _)) e (r.mono weak)
 |hdr e1 e2 ho hp r=>
  obtain⟨n,e⟩:=hp;exact .hdr (hb _ (.head _)) (hb _ (.tail _ (.head _))) (hb _ (.tail _ (.tail _ (.head _)))) e1 e2 ho e (r.mono weak)
 |dict hd r=>exact .opq
theorem Zc3.occ{v:Value}{o:O}{as:List Addr}(x:Zc3 σ N h v o as):∀a∈as,Occ h a:=by
 have one:∀{p:Addr->Prop} {a:Addr} {r:List Addr},p a->(∀b∈r,p b)->∀b∈a::r,p b:=λh1 h2 b hb=>(jC hb).elim (λq=>q▸h1) (h2 b)
 have nil:∀{p:Addr->Prop},∀b∈([]:List Addr),p b:=λ_ hb=>nomatch hb
 induction x with
 |lst hp r=>
  obtain⟨n,e⟩:=hp;exact one ⟨_,e,rfl⟩ nil
 |hdr e1 e2 ho hp r=>
  obtain⟨n,e⟩:=hp;exact one ⟨_,e1,ho.tab.1⟩ (one ⟨_,e2,ho.tab.2⟩ (one ⟨_,e,rfl⟩ nil))
 |dict hd r=>exact one (Zkm hd) nil
inductive Yih(σ:Sg)(N:Addr->Prop)(h:Heap)(v:Value)(ds:List D)(as:List Addr):Prop
 |mk (a:Addr) (vs:List Value) (hv:v= .ref a) (ha:as=[a]) (hp:h.PlainList a vs.toArray) (r:RdL σ N h vs ds)
inductive Yig(σ:Sg)(N:Addr->Prop)(h:Heap)(v:Value)(ds:List D)(as:List Addr):Prop
 |mk (x dx b:Addr) (o od:Obj) (vs:List Value) (hv:v= .ref x) (ha:as=[x,dx,b]) (e1:h.get? x=some o) (e2:h.get? dx=some od) (ho:Zeb (σ.v 999).toNat o od x dx b) (hp:h.PlainList b vs.toArray) (r:RdL σ N h vs ds)
inductive Yef(σ:Sg)(N:Addr->Prop)(h:Heap)(v:Value)(kds:List (List Nat×List D))(as:List Addr):Prop
 |mk (a:Addr) (kvs:List (Str×Value)) (hv:v= .ref a) (ha:as=[a]) (hd:h.DictOf (PySem.strKind σ.prog σ.w) a kvs) (r:KvL σ N h kvs kds)
noncomputable def OwI(σ:Sg)(N:Addr->Prop)(h:Heap)(v:Value)(o:O)(as:List Addr):Prop:=match o with
 | .lst ds=>Yih σ N h v ds as
 | .hdr ds=>Yig σ N h v ds as
 | .dict kds=>Yef σ N h v kds as
theorem Zc3.inv{v:Value}{o:O}{as:List Addr}(x:Zc3 σ N h v o as):OwI σ N h v o as:=by
 induction x with
 |lst hp r=>exact⟨_,_,rfl,rfl,hp,r⟩
 |hdr e1 e2 ho hp r=>exact⟨_,_,_,_,_,_,rfl,rfl,e1,e2,ho,hp,r⟩
 |dict hd r=>exact⟨_,_,rfl,rfl,hd,r⟩
noncomputable def Nof(N2:Addr->Prop)(OA:List (List Addr)):Addr->Prop:=λa=>N2 a\/a∈OA.flatten
inductive Ze4(σ:Sg)(nm:Nat->Str)(N:Addr->Prop)(env:Env)(h:Heap):List (Nat×O)->List (List Addr)->Prop
 |nil:Ze4 σ nm N env h [] []
 |cons {x:Nat} {o:O} {as:List Addr} {v:Value} {r:List (Nat×O)} {r':List (List Addr)}:Zam env h (nm x) v->Zc3 σ N h v o as->Ze4 σ nm N env h r r'->Ze4 σ nm N env h ((x,o)::r) (as::r')
structure Zb3(T:Addr->Prop)(σ:Sg)(nm:Nat->Str)(N2:Addr->Prop)(env:Env)(h:Heap)(ρ:List (Nat×D))(ow:List (Nat×O))(OA:List (List Addr)):Prop where
 one:Zbs σ nm (Nof N2 OA) env h ρ
 own:Ze4 σ nm (Nof N2 OA) env h ow OA
 nodup:OA.flatten.Nodup
 apart:∀a∈OA.flatten,¬N2 a/\¬T a
 sl:Zbj env h
variable {ow:List (Nat×O)} {OA:List (List Addr)}
theorem Zcd(x y:Nat)(o:O)(r:List (Nat×O)):lk x ((y,o)::r)=if x=y then some o else lk x r:=by
 show(match Nat.beq x y with|true=>some o|false=>lk x r)=_
 by_cases h:x=y
 ·rw[if_pos h,h,Hcm]
 ·rw[if_neg h,Zfq h]
inductive Yai(σ:Sg)(nm:Nat->Str)(N:Addr->Prop)(env:Env)(h:Heap)(ow:List (Nat×O))(OA:List (List Addr))(x:Nat)(d:D):Prop
 |mk (o:O) (as:List Addr) (v:Value) (h1:lk x ow=some o) (h2:d=o.d) (h3:Zam env h (nm x) v) (h4:Zc3 σ N h v o as) (h5:as∈OA)
theorem Ze4.look{ow:List (Nat×O)}{OA:List (List Addr)}{x:Nat}{d:D}(t:Ze4 σ nm N env h ow OA):lk x (owD ow)=some d->Yai σ nm N env h ow OA x d:=by
 induction t with
 |nil=>exact λh=>nS h
 | @cons y o as v r r' hv ho t ih=>
  intro h;have h:lk x ((y,o.d)::owD r)=some d:=h;rw[Zav]at h;by_cases q:x=y
  ·rw[if_pos q]at h;exact⟨o,as,v,by rw[Zcd,if_pos q],(sI h).symm,q▸hv,ho,.head _⟩
  ·rw[if_neg q]at h;obtain⟨o',as',v,h1,h2,h3,h4,h5⟩:=ih h;exact⟨o',as',v,by rw[Zcd,if_neg q,h1],h2,h3,h4,.tail _ h5⟩
theorem Ze4.occ{ow:List (Nat×O)}{OA:List (List Addr)}(t:Ze4 σ nm N env h ow OA):∀a∈OA.flatten,Occ h a:=by
 induction t with
 |nil=>exact λ_ ha=>nomatch ha
 |cons _ ho t ih=>
  intro a ha;rw[Hcf,List.mem_append]at ha;exact ha.elim (ho.occ a) (ih a)
theorem Zb3.rel(r:Zb3 T σ nm N2 env h ρ ow OA):Rel σ nm (Nof N2 OA) N2 env h ρ (owD ow):=by
 refine⟨r.one,λx d hl hk=>?_,r.sl⟩
 have weak:Zdk (Nof N2 OA) N2 h h:=λa o hn e _=>⟨λq=>hn (.inl q),e⟩
 rw[Zf0]at hl;cases q:lk x ρ with
 |some d'=>
  rw[q]at hl;obtain⟨v,h1,h2⟩:=r.one x d (q.trans hl) hk;exact⟨v,h1,h2.mono weak⟩
 |none=>
  rw[q]at hl;obtain⟨o,as,v,_,h2,h3,h4,h5⟩:=r.own.look (x:=x) (d:=d) hl;rw[h2];exact⟨v,h3,h4.rd (N:=Nof N2 OA) (λa h=>.inl h) λb hb=>(r.apart b (List.mem_flatten.mpr ⟨as,h5,hb⟩)).1⟩
theorem Zb3.occ(r:Zb3 T σ nm N2 env h ρ ow OA)(h2:∀a,N2 a->Occ h a):∀a,Nof N2 OA a->Occ h a:=λa ha=>ha.elim (h2 a) (r.own.occ a)
theorem Zmh{b:Addr}{as:List Addr}{r:List (List Addr)}(h:b∈as):b∈(as::r).flatten:=by rw[Hcf];exact List.mem_append_left _ h
theorem Zil{b:Addr}{as:List Addr}{r:List (List Addr)}(h:b∈r.flatten):b∈(as::r).flatten:=by rw[Hcf];exact List.mem_append_right _ h
theorem Ze4.mono{N':Addr->Prop}{h':Heap}(f:Zdk N N' h h')(kv:∀x v,Zam env h (nm x) v->Zam env h' (nm x) v){ow:List (Nat×O)}{OA:List (List Addr)}(k:∀b,Occ h b->b∈OA.flatten->h'.get? b=h.get? b)(t:Ze4 σ nm N env h ow OA):Ze4 σ nm N' env h' ow OA:=by
 induction t with
 |nil=>exact .nil
 |cons hv ho t ih=>exact .cons (kv _ _ hv) (ho.mono f λb hb hm=>k b hb (Zmh hm)) (ih λb hb hm=>k b hb (Zil hm))
theorem Zb3.ext(r:Zb3 T σ nm N2 env s.heap ρ ow OA)(x:Ext T s s'):Zb3 T σ nm N2 env s'.heap ρ ow OA:=
 ⟨r.one.ext x,r.own.mono x.fits (λ_ _ h=>h.ext x) (λb ⟨o,e,t⟩ _=>(x.keep2 b o e t).trans e.symm),r.nodup,r.apart,r.sl.ext x⟩
theorem Ze4.other{N':Addr->Prop}{h':Heap}{x:Nat}(hi:Inj nm)(f:Zdk N N' h h')(kv:∀y v,y≠nm x->Zam env h y v->Zam env h' y v){ow:List (Nat×O)}{OA:List (List Addr)}(hx:lk x ow=none)(k:∀b,Occ h b->b∈OA.flatten->h'.get? b=h.get? b)
  (t:Ze4 σ nm N env h ow OA):Ze4 σ nm N' env h' ow OA:=by
 induction t with
 |nil=>exact .nil
 |cons hv ho t ih=>
  rw[Zcd]at hx;split at hx
  ·exact nS hx.symm
  ·rename_i q;exact .cons (kv _ _ (λe=>q (hi _ _ e).symm) hv) (ho.mono f λb hb hm=>k b hb (Zmh hm)) (ih hx λb hb hm=>k b hb (Zil hm))
theorem Zb3.store{x:Nat}{a:Addr}{v:Value}{d:D}(hnm:Zb6 nm)(r:Zb3 T σ nm N2 env s.heap ρ ow OA)(h2:N2 a)(hx:lk x ow=none)(st:Zg2 T env s s' (nm x) a v)(hr:Rd σ (Nof N2 OA) s'.heap v d):Zb3 T σ nm N2 env s'.heap ((x,d)::ρ) ow OA:=by
 have f1:Zdk (Nof N2 OA) (Nof N2 OA) s.heap s'.heap:=st.upd.fits λb e=>e▸.inl h2
 refine⟨r.one.store hnm.inj f1 st.var hr st.others,r.own.other hnm.inj f1 st.others hx (λb ⟨o,e,t⟩ hb=>?_),r.nodup,r.apart,st.slots⟩
 exact(st.upd.keep2 b o (λq=>(r.apart b hb).1 (q▸h2)) e t).trans e.symm
theorem Zvc(x y:Nat)(o p:O)(r:List (Nat×O)):Zhu x o ((y,p)::r)=if x=y then(y,o)::r else(y,p)::Zhu x o r:=by
 show(match Nat.beq x y with|true=>(y,o)::r|false=>(y,p)::Zhu x o r)=_
 by_cases h:x=y
 ·rw[if_pos h,h,Hcm]
 ·rw[if_neg h,Zfq h]
theorem Zt7{x:Nat}{o:O}{r:List (Nat×O)}(h:lk x r=some o):lk x (owD r)=some o.d:=by
 induction r with
 |nil=>exact nS h
 |cons p r ih=>
  show lk x ((p.1,p.2.d)::owD r)=_;have h:lk x ((p.1,p.2)::r)=some o:=h;rw[Zcd]at h;rw[Zav];split
  ·rename_i q;rw[if_pos q]at h;rw[sI h]
  ·rename_i q;rw[if_neg q]at h;exact ih h
theorem Ze4.set{h':Heap}{x:Nat}{o':O}(f:Zdk N N h h')(kv:∀y v,Zam env h y v->Zam env h' y v){ow:List (Nat×O)}{OA:List (List Addr)}{o:O}(hn:OA.flatten.Nodup)(hl:lk x ow=some o)(t:Ze4 σ nm N env h ow OA)
  (k:∀v as,as∈OA->Zam env h (nm x) v->Zc3 σ N h v o as->Zc3 σ N h' v o' as/\∀b,Occ h b->b∈OA.flatten->b∉as->h'.get? b=h.get? b):Ze4 σ nm N env h' (Zhu x o' ow) OA:=by
 induction t with
 |nil=>exact nS hl
 | @cons y p as v r r' hv ho t ih=>
  rw[Zcd]at hl;rw[Hcf]at hn;obtain⟨n1,n2,n3⟩:=List.nodup_append.mp hn;rw[Zvc];by_cases q:x=y
  ·rw[if_pos q]at hl ⊢;obtain⟨k1,k2⟩:=k _ as (.head _) (q▸hv) (sI hl▸ho);exact .cons (kv _ _ hv) k1 (t.mono f (λy v h=>kv _ v h) λb hb hm=>k2 b hb (Zil hm) λha=>n3 b ha b hm rfl)
  ·rw[if_neg q]at hl ⊢;obtain⟨o'2,as2,v'2,e1,_,hv'2,ho'2,hm'2⟩:=t.look (Zt7 hl);rw[hl]at e1;obtain⟨_,k2⟩:=k v'2 as2 (.tail _ hm'2) hv'2 (sI e1▸ho'2);refine .cons (kv _ _ hv) (ho.mono f λb hb hm=>k2 b hb (Zmh hm) λha=>n3 b hm b (List.mem_flatten.mpr ⟨as2,hm'2,ha⟩) rfl) (ih n2 hl λv as' ha' hv' ho'=>?_)
   obtain⟨k3,k4⟩:=k v as' (.tail _ ha') hv' ho';exact⟨k3,λb hb hm hn'=>k4 b hb (Zil hm) hn'⟩
theorem Zhy{a:Addr}{pos:Pos}{t:Sem Value}{Q:Value->Shared->Prop}{vs:Array Value}(hl:s.heap.PlainList a vs)
  (h:wpAny (model prog w) A t (λv s'1=>s'1.heap.PlainList a vs/\∀h',h'.PlainList a (vs.push v)->Heap.SameBut a s'1.heap h'->Q .none {s'1 with heap:=h'}) E s)(hsz:vs.size<=sizeLine):
  MethodOnS prog w A E "append" (.ref a) pos [(false,t)] Q s:=by
 obtain⟨n,e⟩:=hl;refine⟨"list",_,PySem.F.plainAttrs_list,slot_list_append,PySem.F.type_list_append,⟨_,e,rfl⟩,(λb q=>by cases q;exact⟨_,e,rfl⟩),?_⟩
 refine Hbo rfl (Calls.evalArgs_plain (Hbf (Ha4 h (λv s'1 h'1=>Hbe ?_) λ_ _ e=>e)))
 exact wpAny_list_append_plain (hsz:=hsz) h'1.1 h'1.2
structure Zwf(N2:Addr->Prop)(env:Env):Prop where
 loc:N2 env.locals
 cel:∀n c,(n,c)∈env.cells->N2 c
theorem Zb3.mutate{x:Nat}{o o':O}(hm:Zwf N2 env)(r:Zb3 T σ nm N2 env s.heap ρ ow OA)(hl:lk x ow=some o)(u:Upd T (λa=>a∈OA.flatten) s s')
  (k:∀v as,as∈OA->Zam env s.heap (nm x) v->Zc3 σ (Nof N2 OA) s.heap v o as->Zc3 σ (Nof N2 OA) s'.heap v o' as/\∀b,Occ s.heap b->b∈OA.flatten->b∉as->s'.heap.get? b=s.heap.get? b):Zb3 T σ nm N2 env s'.heap ρ (Zhu x o' ow) OA:=by
 have h1:¬env.locals∈OA.flatten:=λh=>(r.apart _ h).1 hm.loc
 have h2:∀n c,(n,c)∈env.cells->¬c∈OA.flatten:=λn c hc h=>(r.apart _ h).1 (hm.cel n c hc)
 have f:Zdk (Nof N2 OA) (Nof N2 OA) s.heap s'.heap:=u.fits λa h=>.inr h
 exact⟨r.one.upd u (λa h=>.inr h) h1 h2,Ze4.set f (λy v h=>h.upd u h1 h2) r.nodup hl r.own k,r.nodup,r.apart,r.sl.upd u h1 h2⟩
theorem Ygc{ow:List (Nat×O)}{x:Nat}{o:O}(h:lk x ow=some o):lk x (owD ow)=some o.d:=Zt7 h
inductive Yii(σ:Sg)(nm:Nat->Str)(N:Addr->Prop)(env:Env)(h:Heap)(OA:List (List Addr))(x:Nat)(o:O):Prop
 |mk (as:List Addr) (v:Value) (h1:as∈OA) (h2:Zam env h (nm x) v) (h3:Zc3 σ N h v o as)
theorem Zb3.owned{x:Nat}{o:O}(r:Zb3 T σ nm N2 env s.heap ρ ow OA)(hl:lk x ow=some o):Yii σ nm (Nof N2 OA) env s.heap OA x o:=by
 obtain⟨o',as,v,h1,_,h3,h4,h5⟩:=r.own.look (Ygc hl);rw[hl]at h1;exact⟨as,v,h5,h3,sI h1▸h4⟩
inductive Yei(σ:Sg)(nm:Nat->Str)(N:Addr->Prop)(env:Env)(h:Heap)(OA:List (List Addr))(x:Nat)(ds:List D):Prop
 |mk (a:Addr) (vs:List Value) (haO:a∈OA.flatten) (hv:Zam env h (nm x) (.ref a)) (hp:h.PlainList a vs.toArray) (hr:RdL σ N h vs ds)
theorem Zb3.ownedL{x:Nat}{ds:List D}(r:Zb3 T σ nm N2 env s.heap ρ ow OA)(hl:lk x ow=some (.lst ds)):Yei σ nm (Nof N2 OA) env s.heap OA x ds:=by
 obtain⟨as,v,has,hv,ho⟩:=r.owned hl;obtain⟨a,vs,e1,e2,hp,hr⟩:=ho.inv;exact⟨a,vs,List.mem_flatten.mpr ⟨_,has,e2▸.head _⟩,e1▸hv,hp,hr⟩
theorem Zam.unique{x:Str}{v v':Value}{h:Heap}(a:Zam env h x v)(b:Zam env h x v'):v=v':=by
 have no:∀{k:Option NameKind},k=some .local->(k=some .cell\/k=some .free)->v=v':=λh1 h2=>by
  rw[h1]at h2;exact h2.elim (λh=>nomatch h) λh=>nomatch h
 rcases a with⟨a1,m,a2,a3⟩|⟨a1,_,c,a2,a3⟩
 ·rcases b with⟨b1,m',b2,b3⟩|⟨b1,_⟩
  ·rw[Zmm a2 b2,b3]at a3;exact(sI a3).symm
  ·exact no a1 b1
 ·rcases b with⟨b1,_⟩|⟨b1,_,c',b2,b3⟩
  ·exact no b1 a1
  ·obtain⟨o,e,d⟩:=a3;obtain⟨o',e',d'⟩:=b3;rw[sI (a2.symm.trans b2)]at e;rw[sI (e.symm.trans e')]at d;have:=d.symm.trans d'
   injection this with this
   exact sI this
theorem Zbi(ok:Zcg env sc):interactive env=false:=by unfold interactive;rw[ok.kind];rfl
theorem Zb3.lstChange{x:Nat}{ds ds':List D}{a:Addr}{vs':List Value}{h':Heap}(hm:Zwf N2 env)(r:Zb3 T σ nm N2 env s.heap ρ ow OA)(hl:lk x ow=some (.lst ds))(hv:Zam env s.heap (nm x) (.ref a))(haO:a∈OA.flatten)
  (hp:h'.PlainList a vs'.toArray)(hsb:Heap.SameBut a s.heap h')(hr:RdL σ (Nof N2 OA) s.heap vs' ds'):Upd T (λb=>b∈OA.flatten) s {s with heap:=h'}/\Zb3 T σ nm N2 env h' ρ (Zhu x (.lst ds') ow) OA:=by
 have hT:¬T a:=(r.apart a haO).2;have hnc:Za9 s.heap a:=by
  obtain⟨b,vs,_,hv',hp0,_⟩:=r.ownedL hl;exact Zca (hv.unique hv')▸.lst hp0
 have u:Upd T (·=a) s {s with heap:=h'}:=.of_but (tk:=s.toks) hsb (by obtain⟨m,e⟩:=hp;exact⟨_,e,rfl⟩) hT hnc
 have u':Upd T (λb=>b∈OA.flatten) s {s with heap:=h'}:=u.mono λb e=>e▸haO
 refine⟨u',r.mutate (s':={s with heap:=h'}) hm hl u' λv as has hv' ho=>?_⟩
 obtain⟨b,vs,e1,e2,_,_⟩:=ho.inv;rw[←hv.unique hv',e2,show b=a from(Zca ((hv.unique hv').trans e1)).symm];exact⟨.lst hp (hr.mono (u'.fits λb e=>.inr e)),λb _ _ hb=>hsb.2 b λe=>hb (e▸.head _)⟩
theorem Zwp(hS:Zaq prog w T σ mg mb s0 nm fn C k n)(ha:AOk k A)(ok:Zcg env sc)(hm:Zwf N2 env)(bs:Bs T mg mb s0 s)(r:Zb3 T σ nm N2 env s.heap ρ ow OA)(occ:∀a,N2 a->Occ s.heap a)
  {x:Nat}{np ap p pos:Pos}{e:Expr}{m:M}{d:D}{ds:List D}{Q:Flow->Shared->Prop}(hk:Zi4 (sc.lookup (nm x))=true)(hd:(nm x==("__debug__":Str))=false)(hline:(ap.endLine==p.line)=true)(hok:okE nm fn fo sc e m=true)
  (hev:ev C n ρ (owD ow) m=some d)(hl:lk x ow=some (.lst ds))(hsm:small ds=true)(q:∀s',Upd T (λb=>b∈OA.flatten) s s'->Zb3 T σ nm N2 env s'.heap ρ (Zhu x (.lst (ds++[d])) ow) OA->Q .next s'):
  wpAny (model prog w) A (exec (.Expr (.Call (.Attribute (.Name (nm x) np) "append" ap) [e] [] p) pos) env) Q E s:=by
 obtain⟨a,vs,haO,hv,hp,hr⟩:=r.ownedL hl;have hstar:backTo p (starEach [e] env)=[(false,eval e env)]:=by rw[Zad (Zbh hok)];rfl
 refine wpAny_Expr ?_ (Zbi ok) rfl
 refine Hbq (Zat rfl) (by rw[hstar];rfl) hline ?_
 rw[hstar];refine hv.load ok.kind hd (Zhy hp ?_ (by rw[Hb8,hr.length];exact Hag (Zay hsm) (by decide)))
 refine hS ⟨ha,ok,bs,r.rel,(λa h=>.inl h),(r.occ occ)⟩ hok hev λv s'1 x'1 r'1=>?_
 refine⟨Za8 (W:=λ_=>False) x'1.upd hp λh=>h,λh' hp' hsb=>?_⟩
 have r'2:=r.ext x'1;obtain⟨u,r'3⟩:=r'2.lstChange (ds':=ds++[d]) (vs':=vs++[v]) hm hl (hv.ext x'1) haO (by simpa using hp') hsb ((hr.mono x'1.fits).append (.cons r'1 .nil))
 exact q _ (x'1.upd.trans u) r'3
theorem Zfk{l:Addr}{items:Array Value}{k:Int}{t:Tok}{v:Value}{Q:Unit->Shared->Prop}(hl:s.heap.PlainList l items)(h0:0<=k)(hfit:k<2^63)(hn:k<items.size)
  (hQ:∀h',h'.PlainList l (items.setIfInBounds k.toNat v)->Heap.SameBut l s.heap h'->Q () {s with heap:=h'}):wpAny (model prog w) A (setItem (.ref l) (.int k t) v) Q E s:=by
 obtain⟨m,e⟩:=hl;refine ki_setAt e h0 hfit hn (hQ _ ?_ (Heap.SameBut.update ..))
 have:∀o:Obj,o={cls:=.type "list",dict:=none,data:=.seq items m,slots:=#[]}->∃k',Obj.mapSeq (·.setIfInBounds k.toNat v) o={cls:=.type "list",data:=.seq (items.setIfInBounds k.toNat v) k'}:=by
  rintro o rfl
  unfold Obj.mapSeq;exact⟨_,rfl⟩
 obtain⟨k',hk⟩:=this _ rfl;refine⟨k',?_⟩
 rw[Heap.get?_update_self _ e (by rw[hk];rfl),hk]
theorem Zvb{α:Type}(l:List α):∀(n:Nat) (a:α),Yd6 l n a=l.set n a:=by
 induction l with
 |nil=>exact λ_ _=>rfl
 |cons b r ih=>exact λn a=>match n with
  |0=>rfl
  |n+1=>Hb6 (b::·) (ih n a)
theorem RdL.set{h:Heap}{N:Addr->Prop}{vs:List Value}{ds:List D}(n:Nat){v:Value}{d:D}(r:RdL σ N h vs ds)(x:Rd σ N h v d):RdL σ N h (vs.set n v) (ds.set n d):=
 r.ind (P:=λvs ds=>∀n,RdL σ N h (vs.set n v) (ds.set n d)) (λ_=>.nil) (λ_ _ _ _ y r ih n=>match n with
  |0=>.cons x r
  |n+1=>.cons y (ih n)) n
theorem Zv4(value o i:Expr)(p:Pos)(line:Nat){m:M}(hok:okE nm fn fo sc value m=true):swapsWith value (some (.Subscript o i p)) line env=pure false:=by
 have:=Zin hok;cases value with
 |SetComp a b c d=>exact absurd rfl (this.1 a b c d)
 |DictComp a b c d f=>exact absurd rfl (this.2 a b c d f)
 |_=>rfl
theorem Zzf{j l m:Nat}(hj:j<l)(hs:l<=1000000)(e:m=l):(0:Int)<=(j:Int)/\(j:Int)<2^63/\(j:Int)<(m:Int):=⟨(li [] [_] (.k 0) (.u (.v 0)) [] rfl),⟨(li [] [_,_] (.a (.u (.v 0)) (.k 1)) (.k (2^63)) [(1,.u (.a (.v 0) (.k 1)),.u (.v 1)),(1,.u (.v 1),.u (.k 1000000))] rfl (jO hj) (jO hs)),(li [] [_,_,_] (.a (.u (.v 0)) (.k 1)) (.u (.v 2)) [(1,.u (.a (.v 0) (.k 1)),.u (.v 1)),(1,.u (.v 1),.u (.v 2))] rfl (jO hj) (jO (Han e.symm)))⟩⟩
theorem Zyz(hS:Zaq prog w T σ mg mb s0 nm fn C k n)(ha:AOk k A)(ok:Zcg env sc)(hm:Zwf N2 env)(bs:Bs T mg mb s0 s)(r:Zb3 T σ nm N2 env s.heap ρ ow OA)(occ:∀a,N2 a->Occ s.heap a)
  {x:Nat}{np sp pos:Pos}{e i:Expr}{m mi:M}{d:D}{j:Nat}{ds:List D}{Q:Flow->Shared->Prop}(hd:(nm x==("__debug__":Str))=false)(hok:okE nm fn fo sc e m=true)(hoki:okE nm fn fo sc i mi=true)
  (hev:ev C n ρ (owD ow) m=some d)(hevi:ev C n ρ (owD ow) mi=some (Zsd j))(hl:lk x ow=some (.lst ds))(hsm:ds.length<=1000000)(hj:j<ds.length)
  (q:∀s',Upd T (λb=>b∈OA.flatten) s s'->Zb3 T σ nm N2 env s'.heap ρ (Zhu x (.lst (ds.set j d)) ow) OA->Q .next s'):
  wpAny (model prog w) A (exec (.Assign [.Subscript (.Name (nm x) np) i sp] e pos) env) Q E s:=by
 obtain⟨a,vs,haO,hv,hp,hr⟩:=r.ownedL hl;refine wpAny_Assign_Subscript ?_ (Zv4 e _ _ _ _ hok)
 have occN:=r.occ occ;refine hS ⟨ha,ok,bs,r.rel,(λa h=>.inl h),occN⟩ hok hev λv s'1 x'1 r'1=>?_
 refine(hv.ext x'1).load ok.kind hd ?_
 refine hS ⟨ha,ok,(bs.step x'1),(r.rel.ext x'1),(λa h=>.inl h),(λa h=>(occN a h).ext x'1)⟩ hoki hevi λvi s'2 x'2 r'2=>?_
 obtain⟨t,rfl⟩:=r'2.int';have hp'2:=Za8 (W:=λ_=>False) (x'1.trans x'2).upd hp λh=>h
 obtain⟨ha1,ha2,ha3⟩:=Zzf hj hsm hr.length;refine Zfk hp'2 ha1 ha2 (by rw[Hb8];exact ha3) λh' hp' hsb=>?_
 have r'3:=r.ext (x'1.trans x'2);obtain⟨u,r'4⟩:=r'3.lstChange (ds':=ds.set j d) (vs':=vs.set j v) hm hl ((hv.ext x'1).ext x'2) haO (by simpa using hp') hsb ((hr.mono (x'1.trans x'2).fits).set j (r'1.mono x'2.fits))
 exact q _ ((x'1.trans x'2).upd.trans u) r'4
theorem Zb3.fresh{x:Nat}{a L:Addr}{out:List D}(hnm:Zb6 nm)(r:Zb3 T σ nm N2 env s.heap ρ ow OA)(occ:∀a,N2 a->Occ s.heap a)(h2:N2 a)(hx:lk x ow=none)(st:Zg2 T env s s' (nm x) a (.ref L))(f:Yag T σ (Nof N2 OA) s s' L out):
  Zb3 T σ nm N2 env s'.heap (Zak [x] ρ) ((x,.lst out)::ow) ([L]::OA):=by
 have occN:=r.occ occ;have noL:∀b o,s.heap.get? b=some o->b≠L:=λb o e q=>by rw[q,f.new]at e;cases e
 have hin:∀b,Nof N2 ([L]::OA) b->Nof N2 OA b\/b=L:=by
  rintro b (h|h)
  ·exact .inl (.inl h)
  ·rw[Hcf,List.singleton_append,List.mem_cons]at h;rcases h with h|h
   ·exact .inr h
   ·exact .inl (.inr h)
 have fit:Zdk (Nof N2 OA) (Nof N2 ([L]::OA)) s.heap s'.heap:=λb o hn e t=>
  ⟨λh=>(hin b h).elim hn (noL b o e),st.upd.keep2 b o (λq=>hn (q▸.inl h2)) e t⟩
 have kOA:∀b,Occ s.heap b->b∈OA.flatten->s'.heap.get? b=s.heap.get? b:=λb ⟨o,e,t⟩ hb=>(st.upd.keep2 b o (λq=>(r.apart b hb).1 (q▸h2)) e t).trans e.symm
 obtain⟨vs,hp,hr⟩:=f.items;refine⟨λy d hl hk=>?_,.cons st.var (.lst hp (hr.mono λb o hn e _=>⟨λh=>hn (hin b h),e⟩)) (r.own.other hnm.inj fit st.others hx kOA),?_,?_,st.slots⟩
 ·obtain⟨hy,hl'⟩:=Zdz hl;obtain⟨v,h1,h3⟩:=r.one y d hl' hk;exact⟨v,st.others _ _ (λq=>hy (List.mem_singleton.mpr (hnm.inj _ _ q))) h1,h3.mono fit⟩
 ·rw[Hcf,List.singleton_append,List.nodup_cons];exact⟨λh=>f.notN (.inr h),r.nodup⟩
 ·intro b hb;rw[Hcf,List.singleton_append,List.mem_cons]at hb;rcases hb with rfl|hb
  ·exact⟨λh=>f.notN (.inl h),f.tab⟩
  ·exact r.apart b hb
variable {ρ':List (Nat×D)} {ow':List (Nat×O)} {OA':List (List Addr)} {N2':Addr->Prop}
noncomputable def Frm(env:Env)(a:Addr):Prop:=a=env.locals\/∃n,(n,a)∈env.cells
theorem Zwf.frm(h:Zwf N2 env){a:Addr}(f:Frm env a):N2 a:=by
 rcases f with rfl|⟨n,hm⟩
 ·exact h.loc
 ·exact h.cel n a hm
theorem Zcw.frm{x:Str}{a:Addr}(st:Zcw env x a):Frm env a:=by
 rcases st with⟨_,e⟩|⟨_,_,e⟩
 ·exact .inl e
 ·exact .inr ⟨_,mem_of_lookup e⟩
theorem Zbj.frm_occ(sl:Zbj env s.heap){a:Addr}(f:Frm env a):Occ s.heap a:=by
 rcases f with rfl|⟨n,hm⟩
 ·obtain⟨m,h⟩:=sl.ns;exact Zju h
 ·obtain⟨v,h⟩:=sl.cells n a hm;exact Zfr h
theorem Upd.seq(x:Upd T W s s')(y:Upd T W' s' s'')(h:∀a,W' a->W a\/s.heap.get? a=none):Upd T W s s'':=by
 have ne:∀b o,¬W b->s.heap.get? b=some o->¬W' b:=λb o hw e q=>(h b q).elim hw λq=>by rw[q]at e;cases e
 exact⟨λb o t w e=>y.keep b o t (ne b o w e) (x.keep b o t w e),λb o w e t=>y.keep2 b o (ne b o w e) (x.keep2 b o w e t) t,λb e=>y.occ b (x.occ b e),λb t e=>y.tab b t (x.tab b t e),λe=>y.gens (x.gens e),y.os.trans x.os⟩
structure Zbw(T:Addr->Prop)(σ:Sg)(nm:Nat->Str)(N2:Addr->Prop)(env:Env)(OA:List (List Addr))(s s':Shared)(ρ':List (Nat×D))(ow':List (Nat×O))(OA':List (List Addr)):Prop where
 rel:Zb3 T σ nm N2 env s'.heap ρ' ow' OA'
 new:∀a∈OA'.flatten,a∈OA.flatten\/s.heap.get? a=none
 upd:Upd T (λa=>Frm env a\/a∈OA.flatten) s s'
theorem Zbw.refl(r:Zb3 T σ nm N2 env s.heap ρ ow OA):Zbw T σ nm N2 env OA s s ρ ow OA:=⟨r,λ_ h=>.inl h,.refl⟩
theorem Upd.free_back(ht:∀b,T b->Zfb s.heap b)(u:Upd T W s s')(hW:∀a,W a->Occ s.heap a){a:Addr}(h:s'.heap.get? a=none):s.heap.get? a=none:=by
 cases e:s.heap.get? a with
 |none=>rfl
 |some o=>
  exfalso
  cases t:Zb0 o with
  |false=>
   obtain⟨o',e',_⟩:=u.occ a ⟨o,e,t⟩;rw[h]at e';cases e'
  |true=>
   by_cases tt:T a
   ·obtain⟨ps,e',_⟩:=u.tab a tt (ht a tt);rw[h]at e';cases e'
   ·have:=u.keep a o tt (λhw=>by
     obtain⟨o',e',t'⟩:=hW a hw;rw[e]at e';cases e';rw[t]at t';cases t') e
    rw[h]at this;cases this
theorem Zb3.w_occ(r:Zb3 T σ nm N2 env s.heap ρ ow OA):∀a,(Frm env a\/a∈OA.flatten)->Occ s.heap a:=λa h=>h.elim r.sl.frm_occ (r.own.occ a)
theorem Bs.tabs_ok(b:Bs T mg mb s0 s):∀a,T a->Zfb s.heap a:=λa h=>b.ext.tab a h (b.tabs a h)
theorem Zbw.trans{OA'':List (List Addr)}{ρ'':List (Nat×D)}{ow'':List (Nat×O)}(bs:Bs T mg mb s0 s)(r:Zb3 T σ nm N2 env s.heap ρ ow OA)(x:Zbw T σ nm N2 env OA s s' ρ' ow' OA')(y:Zbw T σ nm N2 env OA' s' s'' ρ'' ow'' OA''):Zbw T σ nm N2 env OA s s'' ρ'' ow'' OA'':=by
 have back:∀a,s'.heap.get? a=none->s.heap.get? a=none:=λa=>x.upd.free_back bs.tabs_ok r.w_occ
 refine⟨y.rel,λa h=>?_,x.upd.seq y.upd λa h=>?_⟩
 ·rcases y.new a h with h|h
  ·exact x.new a h
  ·exact .inr (back a h)
 ·rcases h with h|h
  ·exact .inl (.inl h)
  ·exact(x.new a h).elim (λh=>.inl (.inr h)) .inr
structure Zwn(s0:Shared)(env:Env)(OA:List (List Addr)):Prop where
 frm:∀a,Frm env a->s0.heap.get? a=none
 own:∀a∈OA.flatten,s0.heap.get? a=none
theorem Zbw.young(bs:Bs T mg mb s0 s)(x:Zbw T σ nm N2 env OA s s' ρ' ow' OA')(y:Zwn s0 env OA):Zwn s0 env OA':=
 ⟨y.frm,λa h=>(x.new a h).elim (y.own a) bs.free⟩
theorem Zbw.bs(bs:Bs T mg mb s0 s)(x:Zbw T σ nm N2 env OA s s' ρ' ow' OA')(y:Zwn s0 env OA):Bs T mg mb s0 s':=
 bs.upd x.upd λa h=>h.elim (y.frm a) (y.own a)
theorem Zbw.occ(x:Zbw T σ nm N2 env OA s s' ρ' ow' OA')(occ:∀a,N2 a->Occ s.heap a):∀a,N2 a->Occ s'.heap a:=λa h=>x.upd.occ a (occ a h)
theorem Zbw.store{x:Nat}{a:Addr}{v:Value}{d:D}(hnm:Zb6 nm)(hm:Zwf N2 env)(r:Zb3 T σ nm N2 env s.heap ρ ow OA)(hx:lk x ow=none)(sa:Zcw env (nm x) a)(st:Zg2 T env s s' (nm x) a v)(hr:Rd σ (Nof N2 OA) s'.heap v d):
  Zbw T σ nm N2 env OA s s' ((x,d)::ρ) ow OA:=
 ⟨r.store hnm (hm.frm sa.frm) hx st hr,λ_ h=>.inl h,st.upd.mono λb e=>e▸.inl sa.frm⟩
theorem Zbw.fresh{x:Nat}{a L:Addr}{out:List D}(hnm:Zb6 nm)(hm:Zwf N2 env)(r:Zb3 T σ nm N2 env s.heap ρ ow OA)(occ:∀a,N2 a->Occ s.heap a)(hx:lk x ow=none)(sa:Zcw env (nm x) a)(st:Zg2 T env s s' (nm x) a (.ref L))(f:Yag T σ (Nof N2 OA) s s' L out):
  Zbw T σ nm N2 env OA s s' (Zak [x] ρ) ((x,.lst out)::ow) ([L]::OA):=by
 refine⟨r.fresh hnm occ (hm.frm sa.frm) hx st f,λb h=>?_,st.upd.mono λb e=>e▸.inl sa.frm⟩
 rw[Hcf,List.singleton_append,List.mem_cons]at h;rcases h with rfl|h
 ·exact .inr f.new
 ·exact .inl h
theorem Zbw.change{OA:List (List Addr)}(r:Zb3 T σ nm N2 env s'.heap ρ ow' OA)(u:Upd T (λb=>b∈OA.flatten) s s'):Zbw T σ nm N2 env OA s s' ρ ow' OA:=⟨r,λ_ h=>.inl h,u.mono λ_ h=>.inr h⟩
theorem Zgi(x z:Nat)(o:O)(r:List (Nat×O)):Zfv x ((z,o)::r)=if x=z then Zfv x r else(z,o)::Zfv x r:=by
 show(match Nat.beq x z with|true=>Zfv x r|false=>(z,o)::Zfv x r)=_
 by_cases h:x=z
 ·rw[if_pos h,h,Hcm]
 ·rw[if_neg h,Zfq h]
inductive Zec(σ:Sg)(nm:Nat->Str)(N:Addr->Prop)(env:Env)(h:Heap)(ow:List (Nat×O))(OA:List (List Addr))(P:List (List Addr)->Prop):Prop
 |mk (OA':List (List Addr)) (h1:Ze4 σ nm N env h ow OA') (h2:OA'.flatten.Nodup) (h3:∀a∈OA'.flatten,a∈OA.flatten) (h4:P OA')
theorem Zec.cons{h:Heap}{N:Addr->Prop}{ow:List (Nat×O)}{OA:List (List Addr)}{P Q:List (List Addr)->Prop}{z:Nat}{o:O}{as:List Addr}{v:Value}(hv:Zam env h (nm z) v)(ho:Zc3 σ N h v o as)(hn:(as::OA).flatten.Nodup)(pq:∀OA',P OA'->Q (as::OA'))
  (x:Zec σ nm N env h ow OA P):Zec σ nm N env h ((z,o)::ow) (as::OA) Q:=by
 rw[Hcf]at hn;obtain⟨n1,n2,n3⟩:=List.nodup_append.mp hn;obtain⟨OA',h1,h2,h3,h4⟩:=x;refine⟨as::OA',.cons hv ho h1,?_,λa ha=>?_,pq _ h4⟩
 ·rw[Hcf];exact List.nodup_append.mpr ⟨n1,h2,λa ha b hb=>n3 a ha b (h3 b hb)⟩
 ·rw[Hcf,List.mem_append]at ha ⊢;exact ha.imp id (h3 a)
theorem Zec.skip{h:Heap}{N:Addr->Prop}{ow:List (Nat×O)}{OA:List (List Addr)}{P Q:List (List Addr)->Prop}{as:List Addr}(pq:∀OA',(∀a∈OA'.flatten,a∈OA.flatten)->P OA'->Q OA')(x:Zec σ nm N env h ow OA P):Zec σ nm N env h ow (as::OA) Q:=by
 obtain⟨OA',h1,h2,h3,h4⟩:=x;exact⟨OA',h1,h2,λa ha=>Zil (h3 a ha),pq _ h3 h4⟩
theorem Ze4.less{h:Heap}{N:Addr->Prop}(x:Nat){ow:List (Nat×O)}{OA:List (List Addr)}(hn:OA.flatten.Nodup)(t:Ze4 σ nm N env h ow OA):Zec σ nm N env h (Zfv x ow) OA λ_=>True:=by
 induction t with
 |nil=>exact⟨[],.nil,.nil,λ_ h=>h,trivial⟩
 | @cons z o as v r r' hv ho t ih=>
  have hn2:=hn;rw[Hcf]at hn2;have:=ih (List.nodup_append.mp hn2).2.1;rw[Zgi];split
  ·exact this.skip λ_ _ h=>h
  ·exact this.cons hv ho hn λ_ h=>h
inductive Yeg(σ:Sg)(nm:Nat->Str)(N:Addr->Prop)(env:Env)(h:Heap)(ow:List (Nat×O))(OA:List (List Addr))(x:Nat)(o:O):Prop
 |mk (as:List Addr) (v:Value) (hv:Zam env h (nm x) v) (ho:Zc3 σ N h v o as) (ha:∀a∈as,a∈OA.flatten) (l:Zec σ nm N env h (Zfv x ow) OA λOA'=>∀a∈as,a∉OA'.flatten)
theorem Ze4.frz{h:Heap}{N:Addr->Prop}{ow:List (Nat×O)}{OA:List (List Addr)}(x:Nat){o:O}(hn:OA.flatten.Nodup)(hl:lk x ow=some o)(t:Ze4 σ nm N env h ow OA):Yeg σ nm N env h ow OA x o:=by
 induction t with
 |nil=>exact nS hl
 | @cons y p as v r r' hv ho t ih=>
  have hn2:=hn;rw[Hcf]at hn2;obtain⟨n1,n2,n3⟩:=List.nodup_append.mp hn2;rw[Zcd]at hl;by_cases q:x=y
  ·rw[if_pos q]at hl;exact⟨as,v,q▸hv,sI hl▸ho,λ_=>Zmh,by rw[Zgi,if_pos q];exact(t.less x n2).skip λ_ h3 _ a ha hb=>n3 a ha a (h3 a hb) rfl⟩
  ·rw[if_neg q]at hl;obtain⟨as',v',h1,h2,h3,l⟩:=ih n2 hl;exact⟨as',v',h1,h2,λa ha=>Zil (h3 a ha),by
    rw[Zgi,if_neg q];exact l.cons hv ho hn λ_ h a ha hb=>by
     rw[Hcf,List.mem_append]at hb;exact hb.elim (λhb=>n3 a hb a (h3 a ha) rfl) (h a ha)⟩
theorem Zbw.frz{x:Nat}{o:O}(r:Zb3 T σ nm N2 env s.heap ρ ow OA)(hl:lk x ow=some o):∃OA',Zbw T σ nm N2 env OA s s ((x,o.d)::ρ) (Zfv x ow) OA':=by
 obtain⟨as,v,hv,ho,h5,OA',h1,h2,h3,h4⟩:=r.own.frz x r.nodup hl;have weak:Zdk (Nof N2 OA) (Nof N2 OA') s.heap s.heap:=λa o hn e _=>⟨λq=>hn (q.imp id (h3 a)),e⟩
 refine⟨OA',⟨λy d hl hk=>?_,h1.mono weak (λ_ _ h=>h) (λ_ _ _=>rfl),h2,λa h=>r.apart a (h3 a h),r.sl⟩,λa h=>.inl (h3 a h),.refl⟩
 rw[Zav]at hl;by_cases q:y=x
 ·rw[if_pos q]at hl;cases hl;subst q;refine⟨v,hv,ho.rd (N:=Nof N2 OA) (λa=>(·.imp id (h3 a))) λb hb q=>?_⟩
  exact q.elim (r.apart b (h5 b hb)).1 (h4 b hb)
 ·rw[if_neg q]at hl;obtain⟨v,h6,h7⟩:=r.one y d hl hk;exact⟨v,h6,h7.mono weak⟩
noncomputable def Zai(sc:List (Str×NameKind))(id:Str):Bool:=(sc.lookup id==some .local||sc.lookup id==some .cell)&&id != ("__classdict__":Str)
theorem Zb2{id:Str}(ok:Zcg env sc)(h:Zai sc id=true):∃a,Zcw env id a:=by
 obtain⟨h,h2⟩:=Zaa h;rcases(Hb9 _ _).mp h with q|q
 ·exact⟨_,.inl ⟨(ok.kindOf id).trans (Hb5 q),rfl⟩⟩
 ·obtain⟨c,hc⟩:=ok.cells id (.inl (Hb5 q));exact⟨c,.inr ⟨(ok.kindOf id).trans (Hb5 q),by rw[bne,Hcb]at h2;exact h2,hc⟩⟩
theorem Zbm(bs:Bs T mg mb s0 s)(sl:Zbj env s.heap){a:Addr}(f:Frm env a):¬T a:=λt=>by
 obtain⟨ps,e,_⟩:=bs.tabs_ok a t;obtain⟨o,e',q⟩:=sl.frm_occ f;rw[←sI (e.symm.trans e')]at q;exact bT q
structure At(T:Addr->Prop)(σ:Sg)(mg mb:Str->Option Value)(s0:Shared)(nm:Nat->Str)(sc:List (Str×NameKind))(k:Nat)(A:Around)(N2:Addr->Prop)(env:Env)(s:Shared)(ρ:List (Nat×D))(ow:List (Nat×O))(OA:List (List Addr)):Prop where
 ha:AOk k A
 ok:Zcg env sc
 hm:Zwf N2 env
 bs:Bs T mg mb s0 s
 rel:Zb3 T σ nm N2 env s.heap ρ ow OA
 occ:∀a,N2 a->Occ s.heap a
 young:Zwn s0 env OA
theorem At.post(x:At T σ mg mb s0 nm sc k A N2 env s ρ ow OA)(p:Zbw T σ nm N2 env OA s s' ρ' ow' OA'):At T σ mg mb s0 nm sc k A N2 env s' ρ' ow' OA':=
 ⟨x.ha,x.ok,x.hm,p.bs x.bs x.young,p.rel,p.occ x.occ,p.young x.bs x.young⟩
theorem At.ext(x:At T σ mg mb s0 nm sc k A N2 env s ρ ow OA)(e:Ext T s s'):At T σ mg mb s0 nm sc k A N2 env s' ρ ow OA:=
 ⟨x.ha,x.ok,x.hm,x.bs.step e,x.rel.ext e,λa h=>(x.occ a h).ext e,x.young⟩
theorem At.occN(x:At T σ mg mb s0 nm sc k A N2 env s ρ ow OA):∀a,Nof N2 OA a->Occ s.heap a:=x.rel.occ x.occ
theorem Zb3.less(r:Zb3 T σ nm N2 env s.heap ρ ow OA)(h:∀x d,lk x ρ'=some d->lk x ρ=some d):Zb3 T σ nm N2 env s.heap ρ' ow OA:=⟨r.one.less h,r.own,r.nodup,r.apart,r.sl⟩
theorem At.less(x:At T σ mg mb s0 nm sc k A N2 env s ρ ow OA)(h:∀x d,lk x ρ'=some d->lk x ρ=some d):At T σ mg mb s0 nm sc k A N2 env s ρ' ow OA:=⟨x.ha,x.ok,x.hm,x.bs,x.rel.less h,x.occ,x.young⟩
theorem Zbw.less{ρ'':List (Nat×D)}(p:Zbw T σ nm N2 env OA s s' ρ' ow' OA')(h:∀x d,lk x ρ''=some d->lk x ρ'=some d):Zbw T σ nm N2 env OA s s' ρ'' ow' OA':=⟨p.rel.less h,p.new,p.upd⟩
theorem Zdo{t:List Nat}{x:Nat}{d:D}(h:lk x (Zak t ρ)=some d):lk x ρ=some d:=(Zdz h).2
theorem Zdn{ρ ρ':List (Nat×D)}{x:Nat}{d:D}(hs:∀x d,lk x ρ'=some d->lk x ρ=some d):∀y e,lk y ((x,d)::ρ')=some e->lk y ((x,d)::ρ)=some e:=by
 intro y e hy;rw[Zav]at hy ⊢;split
 ·rename_i q;rw[if_pos q]at hy;exact hy
 ·rename_i q;rw[if_neg q]at hy;exact hs y e hy
theorem Zqw(xs:List Nat):∀(ds:List D) (ρ ρ' ρ1:List (Nat×D)),(∀x d,lk x ρ'=some d->lk x ρ=some d)->bindL xs ds ρ'=some ρ1->E12 (λρ2=>bindL xs ds ρ=some ρ2) λρ2=>∀x d,lk x ρ1=some d->lk x ρ2=some d:=by
 induction xs with
 |nil=>
  intro ds ρ ρ' ρ1 hs h;obtain⟨h1,h2⟩:=Zeh h;rw[h1,←h2];exact⟨ρ,rfl,hs⟩
 |cons x xs ih=>
  intro ds ρ ρ' ρ1 hs h;obtain⟨d,r,e,h⟩:=Zdl h;rw[e];exact ih r _ _ ρ1 (Zdn hs) h
theorem Zqv{t:List Nat}{uni:Bool}{d:D}{ρ1:List (Nat×D)}(h:Zhb t uni d (Zak t ρ)=some ρ1):E12 (λρ2=>Zhb t uni d ρ=some ρ2) λρ2=>∀x d,lk x ρ1=some d->lk x ρ2=some d:=by
 have hd:∀x d,lk x (Zak t ρ)=some d->lk x ρ=some d:=λy e hy=>Zdo hy
 cases uni with
 |true=>
  cases t with
  |nil=>exact nS h
  |cons x r=>cases r with
   |nil=>exact⟨_,rfl,sI h▸Zdn hd⟩
   |cons _ _=>exact nS h
 |false=>cases d<;>first|exact nS h|exact Zqw _ _ _ _ _ hd h
theorem At.cx(x:At T σ mg mb s0 nm sc k A N2 env s ρ ow OA):Cx T σ mg mb s0 nm k A env sc ρ (owD ow) (Nof N2 OA) N2 s:=⟨x.ha,x.ok,x.bs,x.rel.rel,λ_ h=>.inl h,x.occN⟩
theorem At.eval(x:At T σ mg mb s0 nm sc k A N2 env s ρ ow OA)(hS:Zaq prog w T σ mg mb s0 nm fn C k n){e:Expr}{m:M}{d:D}{Q:Value->Shared->Prop}(hok:okE nm fn fo sc e m=true)(hev:ev C n ρ (owD ow) m=some d)(q:Zd9 T σ (Nof N2 OA) s d Q):
  wpAny (model prog w) A (PySem.eval e env) Q E s:=
 hS x.cx hok hev q
theorem Zbw.of_ext(x:Zb3 T σ nm N2 env s.heap ρ ow OA)(e:Ext T s s'):Zbw T σ nm N2 env OA s s' ρ ow OA:=⟨x.ext e,λ_ h=>.inl h,e.upd⟩
theorem At.put(x:At T σ mg mb s0 nm sc k A N2 env s ρ ow OA)(hnm:Zb6 nm){y:Nat}{v:Value}{d:D}{Q:Unit->Shared->Prop}(hf:Zai sc (nm y)=true)(hy:lk y ow=none)(hr:Rd σ (Nof N2 OA) s.heap v d)
  (q:∀s',Zbw T σ nm N2 env OA s s' ((y,d)::ρ) ow OA->Q () s'):wpAny (model prog w) A (storeName env (nm y) v) Q E s:=by
 obtain⟨a,st⟩:=Zb2 x.ok hf;refine stored x.ok x.rel.sl .refl st (Zbm x.bs x.rel.sl st.frm) λs' u hst=>q s' (.store hnm x.hm x.rel hy st hst ?_)
 exact hr.mono (u.fits λb e=>e▸.inl (x.hm.frm st.frm))
noncomputable def Znz(v:Expr)(m:M):Bool:=!Ztd v λ_ _ _=>!Zg6 m
theorem At.asg(x:At T σ mg mb s0 nm sc k A N2 env s ρ ow OA)(hS:Zaq prog w T σ mg mb s0 nm fn C k n)(hT:Zbg prog w T σ mg mb s0 nm fn C k n)(hS1:Zaq prog w T σ mg mb s0 nm fn C k (n+1))(hnm:Zb6 nm){y:Nat}{p pos:Pos}{value:Expr}{m:M}{d:D}{Q:Flow->Shared->Prop}
  (hok:okE nm fn fo sc value m=true)(hf:Zai sc (nm y)=true)(hfr:Znz value m=true)(hev:ev C (n+1) ρ (owD ow) m=some d)(hy:lk y ow=none)
  (q:∀s',Zbw T σ nm N2 env OA s s' ((y,d)::ρ) ow OA->Q .next s'):wpAny (model prog w) A (exec (.Assign [.Name (nm y) p] value pos) env) Q E s:=by
 obtain⟨a,st⟩:=Zb2 x.ok hf;have ht:=Zbm x.bs x.rel.sl st.frm;have hN:=x.hm.frm st.frm;cases hfm:Zg6 m with
 |true=>
  refine Zlu hS hT hnm x.cx hok hfm hev st ht (.inl hN) λL out s' hd hst hfr=>?_
  obtain⟨vs,⟨nn,hp⟩,hr⟩:=hfr.items;exact q s' (.store hnm x.hm x.rel hy st hst (hd▸.lst hfr.notN hp (hr.mono λa o hn e _=>⟨λh=>hn (.inl h),e⟩)))
 |false=>
  have hsw:swapsWith value (some (.Name (nm y) p)) pos.line env=pure false:=by
   have:=Zin hok;cases value with
   |ListComp _ _ _ _=>exact bF (hfm.symm.trans ((Bool.not_not _).symm.trans hfr))
   |SetComp a b c d=>exact absurd rfl (this.1 a b c d)
   |DictComp a b c d f=>exact absurd rfl (this.2 a b c d f)
   |_=>rfl
  exact Hbt (x.eval hS1 hok hev λv s'1 x'1 r'1=>(x.ext x'1).put hnm hf hy r'1 λs' p=>q s' ((Zbw.of_ext x.rel x'1).trans x.bs x.rel p)) hsw
theorem At.anew(x:At T σ mg mb s0 nm sc k A N2 env s ρ ow OA)(hS:Zaq prog w T σ mg mb s0 nm fn C k n)(hT:Zbg prog w T σ mg mb s0 nm fn C k n)(hnm:Zb6 nm){y:Nat}{p pos:Pos}{value:Expr}{m:M}{out:List D}{Q:Flow->Shared->Prop}
  (hok:okE nm fn fo sc value m=true)(hf:Zai sc (nm y)=true)(hfm:Zg6 m=true)(hev:ev C (n+1) ρ (owD ow) m=some (.lst out))(hy:lk y ow=none)
  (q:∀L s',Zbw T σ nm N2 env OA s s' (Zak [y] ρ) ((y,.lst out)::ow) ([L]::OA)->Q .next s'):wpAny (model prog w) A (exec (.Assign [.Name (nm y) p] value pos) env) Q E s:=by
 obtain⟨a,st⟩:=Zb2 x.ok hf;exact Zlu hS hT hnm x.cx hok hfm hev st (Zbm x.bs x.rel.sl st.frm) (.inl (x.hm.frm st.frm)) λL out' s' hd hst hfr=>q L s' (.fresh hnm x.hm x.rel x.occ hy st hst (D.lst.inj hd▸hfr))
theorem At.puts(hnm:Zb6 nm)(es:List Expr):∀(ys:List Nat) (vs:List Value) (ds:List D) (ρ ρ':List (Nat×D)) (s:Shared) (Q:Unit->Shared->Prop),At T σ mg mb s0 nm sc k A N2 env s ρ ow OA->
  okL (λe x=>Zbt e λid=>tOk nm sc id x) es ys=true->(∀y∈ys,Zai sc (nm y)=true/\lk y ow=none)->
  bindL ys ds ρ=some ρ'->RdL σ (Nof N2 OA) s.heap vs ds->(∀s',Zbw T σ nm N2 env OA s s' ρ' ow OA->Q () s')->wpAny (model prog w) A (assignInOrder ((assignEach es env).map (·.2)) vs) Q E s:=by
 induction es with
 |nil=>
  intro ys vs ds ρ ρ' s Q x hok _ hb rs q;rw[Zio hok]at hb;obtain⟨h1,h2⟩:=Zeh hb;rw[h1]at rs;rw[show vs=[]from rs.inv];exact Hau (q s (h2▸.refl x.rel))
 |cons e es ih=>
  intro ys vs ds ρ ρ' s Q x hok hst hb rs q;obtain⟨y,ys,e1,h1,h2⟩:=Zd2 hok;rw[e1]at hb hst;obtain⟨d,ds,e2,hb⟩:=Zdl hb;rw[e2]at rs;obtain⟨v,vs,e3,hr,rs⟩:=rs.inv;obtain⟨id,pos,e4,h1⟩:=Zbf h1;obtain⟨h3,h4⟩:=hst y (.head _);rw[e3,e4,Hb5 (Zaa h1).1];show wpAny _ A (assignInOrder (assign (.Name (nm y) pos) env::(assignEach es env).map (·.2)) (_::_)) Q E s;exact Zrz (Ha7 (Ha6 (Ha8 (Ha5 (x.put hnm h3 h4 hr λs' p=>
   ih ys _ ds _ ρ' s' Q (x.post p) h2 (λy hy=>hst y (.tail _ hy)) hb (rs.mono (p.upd.fits λa h=>h.elim (λf=>.inl (x.hm.frm f)) .inr)) λs'' p'=>q s'' (p.trans x.bs x.rel p'))))))
theorem At.assign(x:At T σ mg mb s0 nm sc k A N2 env s ρ ow OA)(hnm:Zb6 nm){t:Expr}{ys:List Nat}{uni:Bool}{d:D}{v:Value}{Q:Unit->Shared->Prop}(hst:∀y∈ys,Zai sc (nm y)=true/\lk y ow=none)(hr:Rd σ (Nof N2 OA) s.heap v d)
  (ht:Zbc nm sc t ys uni=true)(hb:Zhb ys uni d ρ=some ρ')(q:∀s',Zbw T σ nm N2 env OA s s' ρ' ow OA->Q () s'):wpAny (model prog w) A (PySem.assign t env v) Q E s:=by
 cases uni with
 |true=>
  obtain⟨id,pos,e1,ht⟩:=Zbf ht;obtain⟨y,e2,ht⟩:=Zmo ht;rw[e2]at hb hst;obtain⟨h1,h2⟩:=hst y (.head _);rw[e1,Hb5 (Zaa ht).1];exact Ha6 (Ha8 (Ha5 (x.put hnm h1 h2 hr (sI hb▸q))))
 |false=>
  obtain⟨es,kk,pos,e1,ht⟩:=Zdx ht;obtain⟨h1,h2⟩:=Zjt (env:=env) es ys ht;have fin:∀{vs:List Value} {ds:List D} {h':Heap},RdL σ (Nof N2 OA) s.heap vs ds->bindL ys ds ρ=some ρ'->Heap.ExtBut s.heap.objs.size s.heap h'->wpAny (model prog w) A (assignInOrder ((assignEach es env).map (·.2)) vs) Q E {s with heap:=h'}:=λ{vs ds h'} rs hb hx=>by
   have e:Ext T s {s with heap:=h'}:=.of_keeps (tk:=s.toks) λb o e=>hx b o (Ha9 (Haj e)) e
   exact At.puts hnm es ys _ ds ρ ρ' _ Q (x.ext e) ht hst hb (rs.mono e.fits) λs' p=>q s' ((Zbw.of_ext x.rel e).trans x.bs x.rel p)
  have hr:=hr.inv;rw[e1];cases d with
  |tup ds=>
   obtain⟨_,vs,_,hv,hn,g,rs⟩:=hr;rw[hv];exact Ha6 (Ha8 (wpAny_unpack_tuple x.ha.handled ⟨_,g,rfl,_,rfl⟩ (by rw[h1,Zc7 hb,Hb8,rs.length]) h2 λh' hx=>fin rs hb hx))
  |lst ds=>
   obtain⟨_,vs,_,hv,hn,g,rs⟩:=hr;rw[hv];exact Ha6 (Ha8 (Zi3 x.ha.handled ⟨_,g,rfl,_,rfl⟩ (by rw[h1,Zc7 hb,Hb8,rs.length]) h2 λh' hx=>fin rs hb hx))
  |_=>exact nS hb
noncomputable def Zui(sc:List (Str×NameKind))(elts:List Expr)(value:Expr):Bool:=!Zdg value λ_=>!elts.any λe=>!Zbt e λid=>!(sc.lookup id==some .cell)
theorem Zib{α β:Type}{f:α->Option β}{l:List α}(h:E12 (λa=>a∈l) λa=>f a=none):(l.filterMap f).length<l.length:=by
 induction l with
 |nil=>obtain⟨_,h,_⟩:=h;exact nomatch h
 |cons a r ih=>
  obtain⟨b,hb,hn⟩:=h;rw[List.filterMap_cons];cases q:f a with
  |none=>exact Nat.lt_succ_of_le (List.length_filterMap_le f r)
  |some c=>
   rcases jC hb with e|hb
   ·rw[e,q]at hn;exact nS hn.symm
   ·exact Nat.succ_lt_succ (ih ⟨b,hb,hn⟩)
theorem iteS{α:Type}{c:Prop}[Decidable c]{x y:α}(h:y=x):(if c then x else y)=x:=by rw[h,ite_self]
theorem Zuj{elts:List Expr}{kx}{tp:Pos}{value:Expr}(ok:Zcg env sc)(h:Zui sc elts value=true):swappedStores [.Tuple elts kx tp] value env=pure none:=by
 cases value with
 |Tuple vs k' p'=>
  obtain⟨e,he,hc⟩:=List.any_eq_true.mp ((Bool.not_not _).symm.trans h);refine iteS (iteS (if_pos ?_))
  rw[Hb9,bne_iff_ne];refine .inl (Ha9 (Zib ⟨e,he,?_⟩))
  cases e with
  |Name id pos=>
   dsimp only;rw[ok.kindOf,Hb5 ((Bool.not_not _).symm.trans hc)]
   rfl
  |_=>rfl
 |_=>rfl
theorem Zam.loadN{M:Model}{A:Around}{E:Value->Shared->Prop}{s:Shared}{env:Env}{x:Str}{v:Value}{Q:Value->Shared->Prop}(hk:env.scope.kind= .function)
  (h:Zam env s.heap x v)(q:Q v s):wpAny M A (loadName env x) Q E s:=by
 rcases h with⟨h1,m,h2,h3⟩|⟨h1|h1,h2,c,h3,h4⟩
 ·exact wpAny_loadName_local hk h1 h2 h3 q
 ·exact wpAny_loadName_cell hk h1 h3 h4 q
 ·exact wpAny_loadName_free hk h1 h3 h4 q h2
theorem At.asgT(x:At T σ mg mb s0 nm sc k A N2 env s ρ ow OA)(hS:Zaq prog w T σ mg mb s0 nm fn C k n)(hnm:Zb6 nm){elts:List Expr}{kx}{tp pos:Pos}{ys:List Nat}{value:Expr}{m:M}{d:D}{Q:Flow->Shared->Prop}
  (hok:okE nm fn fo sc value m=true)(hst:∀y∈ys,Zai sc (nm y)=true/\lk y ow=none)(ht:Zbc nm sc (.Tuple elts kx tp) ys false=true)(hsw:Zui sc elts value=true)(hev:ev C n ρ (owD ow) m=some d)(hb:Zhb ys false d ρ=some ρ')
  (q:∀s',Zbw T σ nm N2 env OA s s' ρ' ow OA->Q .next s'):wpAny (model prog w) A (exec (.Assign [.Tuple elts kx tp] value pos) env) Q E s:=by
 refine Assign_Tuple ?_ (by cases value<;>rfl) (Zuj x.ok hsw)
 refine x.eval hS hok hev λv s'1 x'1 r'1=>?_
 exact(x.ext x'1).assign hnm hst r'1 ht hb λs' p=>q s' ((Zbw.of_ext x.rel x'1).trans x.bs x.rel p)
theorem At.ret(x:At T σ mg mb s0 nm sc k A N2 env s ρ ow OA)(hS:Zaq prog w T σ mg mb s0 nm fn C k n){pos:Pos}{value:Expr}{m:M}{d:D}{Q:Flow->Shared->Prop}
  (hok:okE nm fn fo sc value m=true)(hev:ev C n ρ (owD ow) m=some d)(q:∀v s',Ext T s s'->Rd σ (Nof N2 OA) s'.heap v d->Q (.ret v) s'):wpAny (model prog w) A (exec (.Return (some value) pos) env) Q E s:=
 Hbu (x.eval hS hok hev q)
theorem At.iff(x:At T σ mg mb s0 nm sc k A N2 env s ρ ow OA)(hT:Zbg prog w T σ mg mb s0 nm fn C k n){pos:Pos}{test:Expr}{m:M}{d:D}{t:Bool}{body orelse:List Stmt}{Q:Flow->Shared->Prop}
  (hok:okE nm fn fo sc test m=true)(hev:ev C n ρ (owD ow) m=some d)(ht:Zeu d=some t)(q:∀s',Ext T s s'->wpAny (model prog w) A (execs (if t then body else orelse) env) Q E s'):wpAny (model prog w) A (exec (.If test body orelse pos) env) Q E s:=by
 refine wpAny_If (hT ⟨x.ha,x.ok,x.bs,x.rel.rel,(λ_ h=>.inl h),x.occN⟩ hok hev ht λs' x'=>?_)
 have:=q s' x';cases t<;>exact this
theorem Zr8{d:D}{a b:D}{va vb:Value}{o:Operator}(hσ:∀n,(σ.v n).natAbs<=2^1000){N:Addr->Prop}{h:Heap}(ra:Rd σ N h va a)(rb:Rd σ N h vb b)(hd:Zwg o a b=some d)
  {P:Prop}(q1:∀{i j:Int} {t u:Tok} {p:PX},va= .int i t->vb= .int j u->d= .int p->(o= .Add/\p.ev σ=i+j)\/(o= .Sub/\p.ev σ=i-j)\/(o= .Mult/\p.ev σ=i*j/\IntMulOk i j)->P):P:=by
 obtain⟨p,hp,hd⟩:=Zk8 hd;obtain⟨r,hr,hd⟩:=Zk8 hd;obtain⟨t,e1⟩:=ra.inv' hp;obtain⟨u,e2⟩:=rb.inv' hr;cases o with
 |Add=>exact q1 e1 e2 (sI hd).symm (.inl ⟨rfl,Zis ..⟩)
 |Sub=>exact q1 e1 e2 (sI hd).symm (.inr (.inl ⟨rfl,by rw[Zis,Zod,Int.sub_eq_add_neg]⟩))
 |Mult=>
  obtain⟨hf,hd⟩:=Zaj hd;exact q1 e1 e2 (sI hd).symm (.inr (.inr ⟨rfl,Zoc ..,Zpi hσ (Zaa hf).1 (Zaa hf).2⟩))
 |_=>exact nS hd
theorem Zqg{y:Str}(ok:Zcg env sc)(hf:Zai sc y=true):Zi4 (env.kindOf y)=true:=by
 rw[ok.kindOf];rcases(Hb9 _ _).mp (Zaa hf).1 with q|q<;>(rw[Hb5 q];rfl)
theorem At.aug(x:At T σ mg mb s0 nm sc k A N2 env s ρ ow OA)(hσ:∀n,(σ.v n).natAbs<=2^1000)(hS:Zaq prog w T σ mg mb s0 nm fn C k n)(hnm:Zb6 nm){np pos:Pos}{y:Nat}{o:Operator}{value:Expr}{m:M}{a b d:D}{Q:Flow->Shared->Prop}
  (hok:okE nm fn fo sc value m=true)(hf:Zai sc (nm y)=true)(hy:lk y ow=none)(hl:lk y ρ=some a)(hev:ev C n ρ (owD ow) m=some b)(hd:Zwg o a b=some d)
  (q:∀s',Zbw T σ nm N2 env OA s s' ((y,d)::ρ) ow OA->Q .next s'):wpAny (model prog w) A (exec (.AugAssign (.Name (nm y) np) o value pos) env) Q E s:=by
 obtain⟨va,h1,h2⟩:=x.rel.one y a hl (Zqg x.ok hf);refine wpAny_AugAssign_Name (h1.loadN x.ok.kind (x.eval hS hok hev λvb s'1 x'1 r'1=>?_))
 have fin:∀{i:Int} {p:PX},d= .int p->p.ev σ=i->wpAny (model prog w) A (storeName env (nm y) (.int i s'1.toks)) (λ_=>Q .next) E {s'1 with toks:=s'1.toks+1}:=λe hp=>by
  have x'2:Ext T s {s'1 with toks:=s'1.toks+1}:=x'1.trans .toks
  exact(x.ext x'2).put hnm hf hy (e▸.int hp) λs' p=>q s' ((Zbw.of_ext x.rel x'2).trans x.bs x.rel p)
 refine Zr8 hσ (h2.mono x'1.fits) r'1 hd λ{i j t u p} e1 e2 hd h=>?_
 rw[e1,e2];rcases h with⟨ho,hp⟩|⟨ho,hp⟩|⟨ho,hp,hm⟩
 ·rw[ho];exact PySem.AutoIntOps.iadd_0 (fin hd hp)
 ·rw[ho];exact PySem.AutoIntOps.isub_0 (fin hd hp)
 ·rw[ho];exact PySem.AutoIntOps.imul_0 (fin hd hp) hm
noncomputable def Yeb(σ:Sg)(N:Addr->Prop)(s s':Shared)(v:Value)(d:D):Prop:=Rd σ N s'.heap v d∨
 ∃a vs ds n,v= .ref a/\d= .tup ds/\s.heap.get? a=none/\s'.heap.get? a=some (Zcv (List.toArray vs) n)/\RdL σ N s'.heap vs ds
structure ItS(prog:Program)(w:World)(A:Around)(T:Addr->Prop)(σ:Sg)(N:Addr->Prop)(tgt:Expr)(it:Value)(own:Addr->Prop)(ds:List D)(St:Nat->Heap->Prop):Prop where
 mine:∀a,own a->N a
 frame:∀i (s s':Shared) (W:Addr->Prop),St i s.heap->Upd T W s s'->(∀a,W a->N a/\¬own a)->St i s'.heap
 next:∀i (s:Shared) (E:Value->Shared->Prop),St i s.heap->i<=ds.length->wpAny (model prog w) A (pyNext it) (λr s'1=>match r with
  |none=>i=ds.length/\Zcq T own s s'1
  |some v=>wpAny (model prog w) A (letOwnedTupleGo tgt it v) (λ_ s'2=>∃d,ds[i]?=some d/\Upd T own s s'2/\St (i+1) s'2.heap/\Yeb σ N s s'2 v d) E s'1) E s
theorem It.toS{tgt:Expr}{it:Value}{own:Addr->Prop}{ds:List D}{St:Nat->Heap->Prop}(x:It prog w A T σ N tgt it own ds St):ItS prog w A T σ N tgt it own ds St where
 mine:=x.mine
 frame:=x.frame
 next:=λi s E st hi=>Ha4 (x.next i s E st hi) (λr s'1 h=>by
  cases r with
  |none=>exact h
  |some v=>exact Ha4 h (λ_ s'2 ⟨d,h1,h2,h3,h4⟩=>⟨d,h1,h2,h3,.inl h4⟩) λ_ _ e=>e) λ_ _ e=>e
noncomputable def Zqo(prog:Program)(w:World)(T:Addr->Prop)(σ:Sg)(N:Addr->Prop)(tgt:Expr)(x:Value)(ds:List D)(s s'1:Shared):Prop:=
 ∀(A:Around) (E:Value->Shared->Prop) (Q:Value->Shared->Prop),A.handled=none->
  (∀it s'2 (own:Addr->Prop),Ext T s'1 s'2->(∀a,own a->s.heap.get? a=none/\Occ s'2.heap a)->
   (∀(A':Around) (N':Addr->Prop),A'.handled=none->(∀a,N' a↔N a\/own a\/s'2.heap.get? a=none)->∃St,ItS prog w A' T σ N' tgt it own ds St/\St 0 s'2.heap)->Q it s'2)->
  wpAny (model prog w) A (pyIter x) Q E s'1
theorem Zqo.of{tgt:Expr}{x:Value}{ds:List D}{s'1:Shared}(hb:∀a,s'1.heap.get? a=none->s.heap.get? a=none)(h:Zcr prog w T σ N x ds s'1):Zqo prog w T σ N tgt x ds s s'1:=by
 intro A E Q hA q;refine h A E Q hA λit s'2 I x'2 hI ho hm=>q it s'2 (·=I) x'2 (λa e=>e▸⟨hb _ hI,ho⟩) λA' N' hA' hN=>?_
 obtain⟨St,h1,h2⟩:=hm A' tgt N' hA' (λa h=>(hN a).mpr (.inl h)) ((hN I).mpr (.inr (.inl rfl))) λa o hn e t=>⟨λq=>(by
  rcases(hN a).mp q with q|q|q
  ·exact hn q
  ·rw[q,hI]at e;cases e
  ·rw[x'2.keep2 a o e t]at q;cases q),x'2.keep2 a o e t⟩
 exact⟨St,h1.toS,h2⟩
theorem Zqj:∀{xs ys:List D} {i:Nat} {x y:D},xs[i]?=some x->ys[i]?=some y->(Zza xs ys)[i]?=some (.tup [x,y])
 |_::_,_::_,0,_,_,h1,h2=>by cases h1;cases h2;rfl
 |_::r,_::s,i+1,x,y,h1,h2=>(Zqj (xs:=r) (ys:=s) (i:=i) h1 h2:(Zza r s)[i]?=some (.tup [x,y]))
 |[],_,_,_,_,h1,_=>nS h1
 |_::_,[],_,_,_,_,h2=>nS h2
theorem Zfm:∀{xs ys:List D},(Zza xs ys).length=min xs.length ys.length
 |[],_=>(Nat.zero_min _).symm
 |_::_,[]=>(Nat.min_zero _).symm
 |_::xs,_::ys=>by
  rw[show(Zza (_::xs) (_::ys)).length=(Zza xs ys).length+1 from rfl,Hci,Hci,Zfm];exact(Nat.add_min_add_right _ _ _).symm
theorem ItS.zip{elts:List Expr}{kx:Nat}{tp:Pos}{z TI TO i1 i2 l1 l2:Addr}{own:Addr->Prop}{vs ws:List Value}{ds es:List D}{n1 n2:Nat}(hA:A.handled=none)(D:ZipApart z TI TO i1 i2 l1 l2)(ho:∀a,own a↔a=z\/a=TO\/a=i1\/a=i2)
  (hoT:∀a,own a->¬T a)(hN:∀a,own a->N a)(hTI:¬N TI)(hl1:¬N l1)(hl2:¬N l2):
  ItS prog w A T σ N (.Tuple elts kx tp) (.ref z) own (Zza ds es) (λi h=>(IsZip h z TI TO .none/\IsPair h TI (.ref i1) (.ref i2)/\(∃a b,IsPair h TO a b)/\h.IsListIter i1 l1 i/\h.IsListIter i2 l2 i)∧
   (h.get? l1=some (Za3 vs.toArray n1)/\h.get? l2=some (Za3 ws.toArray n2)/\RdL σ N h vs ds/\RdL σ N h ws es)) where
 mine:=hN
 frame:=by
  rintro i s s' W ⟨⟨hz,hI,⟨a,b,hO⟩,h1,h2⟩,⟨g1,g2,r1,r2⟩⟩ u hW
  have f:Zdk N N s.heap s'.heap:=u.fits λa wa=>(hW a wa).1
  have kp:∀a o,s.heap.get? a=some o->Zb0 o=false->(own a\/¬N a)->s'.heap.get? a=some o:=λa o e t h=>u.keep2 a o (λwa=>h.elim (hW a wa).2 λh=>h (hW a wa).1) e t
  refine⟨⟨kp _ _ hz rfl (.inl ((ho _).mpr (by simp))),kp _ _ hI rfl (.inr hTI),⟨a,b,kp _ _ hO rfl (.inl ((ho _).mpr (by simp)))⟩,?_,?_⟩,⟨kp _ _ g1 rfl (.inr hl1),kp _ _ g2 rfl (.inr hl2),r1.mono f,r2.mono f⟩⟩
  ·obtain⟨o,e,hc,hd⟩:=h1;exact⟨o,kp _ _ e (Zag ⟨_,hc⟩) (.inl ((ho _).mpr (by simp))),hc,hd⟩
  ·obtain⟨o,e,hc,hd⟩:=h2;exact⟨o,kp _ _ e (Zag ⟨_,hc⟩) (.inl ((ho _).mpr (by simp))),hc,hd⟩
 next:=by
  rintro i s E ⟨⟨hz,hI,⟨a,b,hO⟩,h1,h2⟩,⟨g1,g2,r1,r2⟩⟩ hi
  have L1:s.heap.IsList l1 vs.toArray:=⟨_,g1,rfl,n1,rfl⟩;have L2:s.heap.IsList l2 ws.toArray:=⟨_,g2,rfl,n2,rfl⟩;have notO:∀c,¬own c->c≠z/\c≠TO/\c≠i1/\c≠i2:=λc h=>⟨λe=>h ((ho c).mpr (by simp[e])),λe=>h ((ho c).mpr (by simp[e])),λe=>h ((ho c).mpr (by simp[e])),λe=>h ((ho c).mpr (by simp[e]))⟩
  have noC:∀c,own c->Za9 s.heap c:=λc h=>by
   rcases(ho c).mp h with rfl|rfl|rfl|rfl
   ·exact .of hz rfl
   ·exact .of hO rfl
   ·obtain⟨o,e,_,hd⟩:=h1;exact .of e (Zci (by rw[hd];rfl))
   ·obtain⟨o,e,_,hd⟩:=h2;exact .of e (Zci (by rw[hd];rfl))
  rw[Zfm]at hi;by_cases hlt:i<min ds.length es.length
  ·have q1:i<vs.length:=by rw[r1.length];exact(ln3 (.a (.v 0) (.k 1)) (.v 2) [(1,.a (.v 0) (.k 1),.v 1),(1,.v 1,.v 2)] rfl hlt (Nat.min_le_left _ _))
   have q2:i<ws.length:=by rw[r2.length];exact(ln3 (.a (.v 0) (.k 1)) (.v 2) [(1,.a (.v 0) (.k 1),.v 1),(1,.v 1,.v 2)] rfl hlt (Nat.min_le_right _ _))
   have hx:vs.toArray[i]?=some vs[i]:=by simp[q1]
   have hy:ws.toArray[i]?=some ws[i]:=by simp[q2]
   refine wpAny_pyNext_zip_item D hz hI hO h1 h2 L1 L2 hx hy λh' a1 a2 a3 a4 a5 a6 hk=>?_
   refine wpAny_letOwnedTupleGo_zip a1 λh'' b1 b2=>?_
   obtain⟨dx,e1,rx⟩:=r1.getV (i:=i) (v:=vs[i]) (by simp[q1])
   obtain⟨dy,e2,ry⟩:=r2.getV (i:=i) (v:=ws[i]) (by simp[q2])
   have kp:∀c o,¬own c->s.heap.get? c=some o->h''.get? c=some o:=λc o h e=>by
    obtain⟨n1,n2,n3,n4⟩:=notO c h;exact(b2.2 c n1).trans (hk c o n1 n2 n3 n4 e)
   have sz:∀{c o},s.heap.get? c=some o->c≠s.heap.objs.size:=λe=>Ha9 (Haj e)
   have oTO:=(b2.2 _ D.TOz).trans a2;have g5:=(b2.2 _ (λq=>sz hz q.symm)).trans a5
   have u:Upd T own s {s with heap:=h''}:=by
    refine⟨λc o _ hw e=>kp c o hw e,λc o hw e _=>kp c o hw e,λc ⟨o,e,t⟩=>?_,λc tc t=>t.keep (λd o co e=>kp d o (λh=>(noC d h).absurd co e) e) (λo e=>kp c _ (λh=>hoT c h tc) e),λe=>e,rfl⟩
    by_cases q:own c
    ·rcases(ho c).mp q with rfl|rfl|rfl|rfl
     ·exact⟨_,b1,rfl⟩
     ·exact⟨_,oTO,rfl⟩
     ·obtain⟨o,e,hc,_⟩:=a3;exact⟨o,(b2.2 _ D.i1z).trans e,Zag ⟨_,hc⟩⟩
     ·obtain⟨o,e,hc,_⟩:=a4;exact⟨o,(b2.2 _ D.i2z).trans e,Zag ⟨_,hc⟩⟩
    ·exact⟨o,kp c o q e,t⟩
   have f:Zdk N N s.heap h'':=u.fits hN;refine⟨.tup [dx,dy],Zqj e1 e2,u,⟨⟨b1,kp _ _ (λh=>hTI (hN _ h)) hI,⟨_,_,oTO⟩,?_,?_⟩,⟨kp _ _ (λh=>hl1 (hN _ h)) g1,kp _ _ (λh=>hl2 (hN _ h)) g2,r1.mono f,r2.mono f⟩⟩,?_⟩
   ·obtain⟨o,e,hc,hd⟩:=a3;exact⟨o,(b2.2 _ D.i1z).trans e,hc,hd⟩
   ·obtain⟨o,e,hc,hd⟩:=a4;exact⟨o,(b2.2 _ D.i2z).trans e,hc,hd⟩
   ·exact .inr ⟨_,[vs[i],ws[i]],_,0,rfl,rfl,Zae (Hac _),g5,.cons (rx.mono f) (.cons (ry.mono f) .nil)⟩
  ·have hend:vs.toArray[i]?=none\/ws.toArray[i]?=none:=by
    rcases Nat.le_total ds.length es.length with h|h
    ·left;rw[Hc6];exact List.getElem?_eq_none (by rw[r1.length];exact(ln3 (.v 2) (.v 0) [(1,.v 1,.v 0),(1,.v 2,.v 1)] rfl (Hah hlt) (Han (Nat.min_eq_left h).symm)))
    ·right;rw[Hc6];exact List.getElem?_eq_none (by rw[r2.length];exact(ln3 (.v 2) (.v 0) [(1,.v 1,.v 0),(1,.v 2,.v 1)] rfl (Hah hlt) (Han (Nat.min_eq_right h).symm)))
   refine wpAny_pyNext_zip_end hA D hz hI hO h1 h2 L1 L2 hend λh' hk=>⟨by rw[Zfm];exact(Ham hi (Hah hlt)),?_⟩
   have kp:∀c o,¬own c->s.heap.get? c=some o->h'.get? c=some o:=λc o h e=>by
    obtain⟨n1,n2,n3,n4⟩:=notO c h;exact hk c o n1 n2 n3 n4 e
   exact⟨λc o _ hw e=>kp c o hw e,λc o hw e _=>kp c o hw e,λc tc t=>t.keep (λd o co e=>kp d o (λh=>(noC d h).absurd co e) e) (λo e=>kp c _ (λh=>hoT c h tc) e),λe=>e,rfl⟩
theorem ItS.rev{tgt:Expr}{I l:Addr}{vs:List Value}{n:Nat}{ds:List D}(hh:A.handled=none)(hne:l≠I)(hIN:N I)(hIT:¬T I)(hlN:¬N l):
  ItS prog w A T σ N tgt (.ref I) (·=I) ds.reverse (λi h=>h.IsRevIter I l ((ds.length:Int)-1-i)/\h.get? l=some (Za3 vs.toArray n)/\RdL σ N h vs ds) where
 mine:=λa h=>h▸hIN
 frame:=λi s s' W st u hw=>by
  obtain⟨⟨o,e1,e2,e3⟩,g,r⟩:=st;refine⟨⟨o,u.keep2 I o (λq=>(hw I q).2 rfl) e1 (Zag ⟨_,e2⟩),e2,e3⟩,u.keep2 l _ (λq=>hlN (hw l q).1) g rfl,r.mono (u.fits λa h=>(hw a h).1)⟩
 next:=λi s E st hi=>by
  obtain⟨hit,g,r⟩:=st;have noC:Za9 s.heap I:=by obtain⟨o,e,_,hd⟩:=hit;exact .of e (Zci (by rw[hd];rfl))
  rw[Hc4]at hi;have hlist:s.heap.IsList l vs.toArray:=⟨_,g,rfl,n,rfl⟩;have hlen:=r.length;have updOf:∀h',Heap.ExtBut I s.heap h'->Occ h' I->Upd T (·=I) s {s with heap:=h'}:=λh' hx ho=>
   ⟨λb o _ hb e=>hx b o hb e,λb o hb e _=>hx b o hb e,λb ⟨o,e,t⟩=>(by
    by_cases q:b=I
    ·rw[q];exact ho
    ·exact⟨o,hx b o q e,t⟩),λb tb t=>t.keep (λc o co e=>hx c o (λq=>(q▸noC).absurd co e) e) (λo e=>hx b _ (λq=>hIT (q▸tb)) e),λe=>e,rfl⟩
  rcases Nat.lt_or_ge i ds.length with hlt|hge
  ·have hj:ds.length-1-i<vs.length:=(ln4 (.a (.v 2) (.k 1)) (.v 0) [(1,.v 1,.v 0),(1,.v 2,.v 3),(1,.a (.v 3) (.k 1),.v 1)] rfl (Han hlen.symm) (Hbl _ _) (Han (Hb3 (ln2 (.k 1) (.v 0) [(1,.a (.v 1) (.k 1),.v 0)] rfl hlt))));have hint:((ds.length:Int)-1-i)=((ds.length-1-i:Nat):Int):=by omega
   rw[hint]at hit;refine wpAny_pyNext_rev_item hit hlist (x:=vs[ds.length-1-i]) (by simp[hj]) λh' hit' hs'=>?_
   obtain⟨o,e1,e2,e3⟩:=id hit';refine Zez e1 e2 rfl ?_
   have u:=updOf h' hs'.extBut ⟨o,e1,Zag ⟨_,e2⟩⟩;have hd:ds[ds.length-1-i]?=some (ds[ds.length-1-i]'(ln3 (.a (.v 2) (.k 1)) (.v 1) [(1,.v 0,.v 1),(1,.a (.v 2) (.k 1),.v 0)] rfl (Han hlen) hj)):=Hcc _;obtain⟨v,hv,hr⟩:=r.get hd;have hvv:v=vs[ds.length-1-i]:=by rw[Hcc hj]at hv;exact(Hcu hv).symm
   subst hvv;have fit:Zdk N N s.heap h':=u.fits λa h=>h▸hIN
   refine⟨_,?_,u,⟨⟨o,e1,e2,?_⟩,u.keep2 l _ (λq=>hne q) g rfl,r.mono fit⟩,.inl (hr.mono fit)⟩
   ·rw[List.getElem?_reverse hlt];exact hd
   ·have:((ds.length-1-i:Nat):Int)-1=(ds.length:Int)-1-((i+1:Nat):Int):=(Haf (li [] [_,_,_] (.s (.u (.v 2)) (.k 1)) (.s (.s (.u (.v 0)) (.k 1)) (.u (.a (.v 1) (.k 1)))) [(1,.u (.v 2),.s (.s (.u (.v 0)) (.k 1)) (.u (.v 1)))] rfl (Hab hint.symm)) (li [] [_,_,_] (.s (.s (.u (.v 0)) (.k 1)) (.u (.a (.v 1) (.k 1)))) (.s (.u (.v 2)) (.k 1)) [(1,.s (.s (.u (.v 0)) (.k 1)) (.u (.v 1)),.u (.v 2))] rfl (Hab hint)));rw[e3,this]
  ·have hi':i=ds.length:=Ham hi hge;have hint:((ds.length:Int)-1-i)= -1:=(Haf (li [] [_,_] (.s (.s (.u (.v 1)) (.k 1)) (.u (.v 0))) (.k (-1)) [(1,.u (.v 1),.u (.v 0))] rfl (jO hge)) (li [] [_,_] (.k (-1)) (.s (.s (.u (.v 1)) (.k 1)) (.u (.v 0))) [(1,.u (.v 0),.u (.v 1))] rfl (jO hi)));rw[hint]at hit;refine wpAny_pyNext_rev_end hh hit λh' hx=>⟨by rw[Hc4];exact hi',?_⟩
   exact⟨λb o _ hb e=>hx b o hb e,λb o hb e _=>hx b o hb e,λb tb t=>t.keep (λc o co e=>hx c o (λq=>(q▸noC).absurd co e) e) (λo e=>hx b _ (λq=>hIT (q▸tb)) e),λe=>e,rfl⟩
noncomputable def Zrc(okE:Expr->M->Bool)(sc:List (Str×NameKind))(tgt:Expr)(kk:Nat)(ms:List M)(e:Expr):Bool:=match Nat.beq kk 2 with
 |true=>Zef okE sc "zip" e ms&&Zdg tgt λ_=>true
 |false=>(match Nat.beq kk 4 with
  |true=>Zef okE sc "reversed" e ms&&Nat.beq ms.length 1
  |false=>Zmd okE sc kk ms e)
noncomputable def forG(okE:Expr->M->Bool)(sc:List (Str×NameKind))(kk:Nat)(ms:List M)(e:Expr):Bool:=Nat.beq kk 3&&(Zef okE sc "_iter_escaped_chars" e ms&&Nat.beq ms.length 1)
theorem Zt6{α:Type}{l:List α}(h:Nat.beq l.length 1=true):∃a,l=[a]:=by
 cases l with
 |nil=>exact bF h
 |cons a r=>cases r with
  |nil=>exact⟨a,rfl⟩
  |cons _ _=>exact bF h
theorem Bs.free_at(bs:Bs T mg mb s0 s)(x:Ext T s s'):∀a,s'.heap.get? a=none->s.heap.get? a=none:=λ_=>(x.upd (W:=λ_=>False)).free_back bs.tabs_ok (λ_ h=>h.elim)
theorem ne4(n:Nat):¬(n+2=n+4\/n+2=n+3\/n+2=n\/n+2=n+1):=(not_or.mpr ⟨(Ha9 (ln1 (.a (.a (.v 0) (.k 2)) (.k 1)) (.a (.v 0) (.k 4)) [] rfl)),(not_or.mpr ⟨(Ha9 (ln1 (.a (.a (.v 0) (.k 2)) (.k 1)) (.a (.v 0) (.k 3)) [] rfl)),(not_or.mpr ⟨(Ha3 (ln1 (.a (.v 0) (.k 1)) (.a (.v 0) (.k 2)) [] rfl)),(Ha3 (ln1 (.a (.a (.v 0) (.k 1)) (.k 1)) (.a (.v 0) (.k 2)) [] rfl))⟩)⟩)⟩)
theorem lt4{n a:Nat}(h:a<n):¬(a=n+4\/a=n+3\/a=n\/a=n+1):=(not_or.mpr ⟨(Ha9 (ln2 (.a (.v 0) (.k 1)) (.a (.v 1) (.k 4)) [(1,.a (.v 0) (.k 1),.v 1)] rfl h)),(not_or.mpr ⟨(Ha9 (ln2 (.a (.v 0) (.k 1)) (.a (.v 1) (.k 3)) [(1,.a (.v 0) (.k 1),.v 1)] rfl h)),(not_or.mpr ⟨(Ha9 h),(Ha9 (ln2 (.a (.v 0) (.k 1)) (.a (.v 1) (.k 1)) [(1,.a (.v 0) (.k 1),.v 1)] rfl h))⟩)⟩)⟩)
theorem Ykn{ds items:List D}(h:Ykm ds=some items):E22 (λa b=>ds=[.lst a,.lst b]) λa b=>items=Zza a b:=by
 cases ds with
 |nil=>exact nS h
 |cons a r=>
  obtain⟨x,e1,h⟩:=Zn8 h;obtain⟨b,hb,h⟩:=obS h;obtain⟨y,e2,h⟩:=Zn8 h;exact⟨x,y,by rw[e1,Ztv hb,e2],(sI (Zaj h).2).symm⟩
theorem Zun{own:Addr->Prop}{N' N:Addr->Prop}{h h':Heap}(hN:∀a,N' a↔N a\/own a\/h'.get? a=none)(hk:∀a o,h.get? a=some o->h'.get? a=some o)(ho:∀a o,h.get? a=some o->¬own a)(a:Addr)(o:Obj)(hn:¬N a)(e:h.get? a=some o):¬N' a:=λq=>
 ((hN a).mp q).elim hn λq=>q.elim (ho a o e) λq=>nS (q.symm.trans (hk a o e))
theorem At.forZip(x:At T σ mg mb s0 nm sc k A N2 env s ρ ow OA)(hS:Zaq prog w T σ mg mb s0 nm fn C k n){tgt e:Expr}{ms:List M}{ds items:List D}{Q:Value->Shared->Prop}
  (h:Zef (okE nm fn fo sc) sc "zip" e ms=true)(ht:Zdg tgt (λ_=>true)=true)(hm:Zd8 (ev C n ρ (owD ow)) ms=some ds)(hi:Ykm ds=some items)
  (q:∀v s'1,Ext T s s'1->Zqo prog w T σ (Nof N2 OA) tgt v items s s'1->Q v s'1):wpAny (model prog w) A (PySem.eval e env) Q E s:=by
 obtain⟨p,as,pos,he,hsc,h⟩:=Zhz h;obtain⟨elts,kx,tp,htg,_⟩:=Zdx ht;obtain⟨da,db,e1,e2⟩:=Ykn hi;rw[e1]at hm;rw[he];refine Hbi (Zdf (b:=6) x.cx (by decide) hsc (by decide) (PySem.callWith_type (Zbl as ms h) (Zbk h (Zee hS as x.cx h hm λvs s'1 x'1 r'1=>?_))))
 obtain⟨va,vb,hv,ra,rb⟩:=r'1.two;obtain⟨l1,xs,n1,hva,na,ga,qa⟩:=ra.inv;obtain⟨l2,ys,n2,hvb,nb,gb,qb⟩:=rb.inv;have at1:=x.ext x'1;rw[hv,hva,hvb];refine call_zip_2 ⟨_,ga,rfl,n1,rfl⟩ ⟨_,gb,rfl,n2,rfl⟩ λh' hz hTI hTO hi1 hi2 hsz hk=>q _ _ (x'1.trans (.of_keeps (tk:=s'1.toks) hk)) ?_
 rw[e2,htg];intro A' E' Q' hA' q';have l1s:=Haj ga;have l2s:=Haj gb;have big:∀a,(a=s'1.heap.objs.size+4\/a=s'1.heap.objs.size+3\/a=s'1.heap.objs.size\/a=s'1.heap.objs.size+1)->s'1.heap.objs.size<=a:=λa h=>by
  rcases h with h|h|h|h<;>(rw[h];first|exact Hal _ _|exact Hac _)
 have new:∀a,s'1.heap.objs.size<=a->s.heap.get? a=none:=λa h=>x.bs.free_at x'1 a (Zae h)
 have noN:∀a,s'1.heap.objs.size<=a->¬Nof N2 OA a:=λa h q=>Hao _ (Hak h ((x.occN a q).ext x'1).lt)
 have noT:∀a,s'1.heap.objs.size<=a->¬T a:=λa h q=>Hao _ (Hak h (at1.bs.lt a q))
 refine wpAny_pyIter_zip hz (q' _ {s'1 with heap:=h'} (λa=>a=s'1.heap.objs.size+4\/a=s'1.heap.objs.size+3\/a=s'1.heap.objs.size\/a=s'1.heap.objs.size+1) .refl (λa h=>⟨new a (big a h),?_⟩) λA'' N' hA'' hN=>?_)
 ·rcases h with e|e|e|e<;>rw[e]
  ·exact⟨_,hz,rfl⟩
  ·exact⟨_,hTO,rfl⟩
  ·obtain⟨o,e,hc,_⟩:=hi1;exact⟨o,e,Zag ⟨_,hc⟩⟩
  ·obtain⟨o,e,hc,_⟩:=hi2;exact⟨o,e,Zag ⟨_,hc⟩⟩
 ·have out:=Zun hN hk λa o e h=>lt4 (Haj e) h
  refine⟨_,ItS.zip (n1:=n1) (n2:=n2) (vs:=xs) (ws:=ys) (TI:=s'1.heap.objs.size+2) (l1:=l1) (l2:=l2) hA'' (zipApart_new l1s l2s) (λa=>Iff.rfl) (λa h=>noT a (big a h)) (λa h=>(hN a).mpr (.inr (.inl h))) (λh=>?_) (out _ _ na ga) (out _ _ nb gb),⟨hz,hTI,⟨_,_,hTO⟩,hi1,hi2⟩,⟨hk _ _ ga,hk _ _ gb,qa.mono λa o hn e t=>⟨out a o hn e,hk a o e⟩,qb.mono λa o hn e t=>⟨out a o hn e,hk a o e⟩⟩⟩
  exact((hN _).mp h).elim (noN _ (Hal _ 2)) λh=>h.elim (ne4 _) λh=>nS (h.symm.trans (show h'.get? (s'1.heap.objs.size+2)=_ from hTI))
theorem At.forRev(x:At T σ mg mb s0 nm sc k A N2 env s ρ ow OA)(hS:Zaq prog w T σ mg mb s0 nm fn C k n){tgt e:Expr}{m:M}{d:D}{items:List D}{Q:Value->Shared->Prop}
  (h:Zef (okE nm fn fo sc) sc "reversed" e [m]=true)(hd:ev C n ρ (owD ow) m=some d)(hi:(onL d λl=>Zas (small l) (some l.reverse))=some items)
  (q:∀v s'1,Ext T s s'1->Zqo prog w T σ (Nof N2 OA) tgt v items s s'1->Q v s'1):wpAny (model prog w) A (PySem.eval e env) Q E s:=by
 obtain⟨p,as,pos,he,hsc,h⟩:=Zhz h;obtain⟨a,r,e1,h3,h4⟩:=Zcz h;obtain⟨l,hl,hi⟩:=Zn8 hi;obtain⟨_,hi⟩:=Zaj hi;rw[he,e1,Zdc h4];refine Hbi (Zdf (b:=9) x.cx (by decide) hsc (by decide) ?_)
 rw[show backTo pos (starEach [a] env)=[(false,PySem.eval a env)]by rw[Zad (Zbh h3)];rfl]
 refine callWith_type1 (x.eval hS h3 hd λv s'1 x'1 r'1=>?_)
 obtain⟨ad,vs,nn,hv,hn,g,rs⟩:=r'1.inv' hl;have x'2:Ext T s'1 {s'1 with heap:=s'1.heap.push (revObj ad ((vs.toArray.size:Int)-1))}:=.push (tk:=s'1.toks)
 have hI:(s'1.heap.push (revObj ad ((vs.toArray.size:Int)-1))).get? s'1.heap.objs.size=some (revObj ad ((vs.toArray.size:Int)-1)):=Hb7 _ rfl;rw[hv];refine call_reversed_list ⟨_,g,rfl,nn,rfl⟩ (q _ _ (x'1.trans x'2) ?_)
 rw[←sI hi];intro A' E' Q' hA' q';refine wpAny_pyIter_revIter ⟨_,hI,rfl,rfl⟩ (q' _ _ (·=s'1.heap.objs.size) .refl (λb hb=>hb▸⟨x.bs.free_at x'1 _ (Zae (Hac _)),⟨_,hI,rfl⟩⟩) λA'' N' hA'' hN=>?_)
 have out:=Zun hN (λb o e=>Hai (revObj ad ((vs.toArray.size:Int)-1)) e) λa o e h=>absurd (Haj e) (by rw[show a=_ from h];exact Hao _)
 refine⟨_,ItS.rev (I:=s'1.heap.objs.size) (l:=ad) (vs:=vs) (n:=nn) hA'' (Ha9 (Haj g)) ((hN _).mpr (.inr (.inl rfl))) (λh=>Hao _ ((x.ext x'1).bs.lt _ h)) (out _ _ hn g),⟨⟨_,hI,rfl,?_⟩,Hai _ g,rs.mono λb o hn e t=>⟨out b o hn e,Hai _ e⟩⟩⟩
 show Data.fields #[.ref ad,rawInt ((vs.toArray.size:Int)-1)]=_;rw[Hb8,rs.length];simp
theorem At.forIter(x:At T σ mg mb s0 nm sc k A N2 env s ρ ow OA)(hS:Zaq prog w T σ mg mb s0 nm fn C k n){tgt e:Expr}{kk:Nat}{ms:List M}{ds items:List D}{Q:Value->Shared->Prop}
  (h:Zrc (okE nm fn fo sc) sc tgt kk ms e=true)(hm:Zd8 (ev C n ρ (owD ow)) ms=some ds)(hi:Zjd kk ds=some items)
  (q:∀v s'1,Ext T s s'1->Zqo prog w T σ (Nof N2 OA) tgt v items s s'1->Q v s'1):wpAny (model prog w) A (PySem.eval e env) Q E s:=by
 unfold Zrc at h;unfold Zjd at hi;cases h2:Nat.beq kk 2 with
 |true=>
  rw[h2]at h hi;exact x.forZip hS (Zaa h).1 (Zaa h).2 hm hi q
 |false=>
  rw[h2]at h hi;cases h4:Nat.beq kk 4 with
  |true=>
   rw[h4]at h;rw[Hb4 h4]at hi;obtain⟨m,e1⟩:=Zt6 (Zaa h).2;rw[e1]at h hm;obtain⟨d,hd,e2⟩:=Zdb hm;rw[e2]at hi;exact x.forRev hS (Zaa h).1 hd hi q
  |false=>
   rw[h4]at h hi;cases h3:Nat.beq kk 3 with
   |true=>rw[Hb4 h3]at h;exact bF h
   |false=>rw[h3]at hi;exact Znw hS x.cx h hm hi λv s'1 x'1 it=>q v s'1 x'1 (.of (x.bs.free_at x'1) it)
variable {own:Addr->Prop}
noncomputable def Zbv(T:Addr->Prop)(σ:Sg)(nm:Nat->Str)(N2:Addr->Prop)(env:Env)(OA:List (List Addr))(s:Shared)(out:Out)(f:Flow)(s':Shared):Prop:=match out with
 | .next ρ' ow'=>f= .next/\∃OA',Zbw T σ nm N2 env OA s s' ρ' ow' OA'
 | .ret d=>∃v,f= .ret v/\Rd σ N2 s'.heap v d/\Upd T (λa=>Frm env a\/a∈OA.flatten) s s'
theorem Zb3.widen(r:Zb3 T σ nm N2 env s.heap ρ ow OA)(hown:∀a,own a->s.heap.get? a=none)(x:Ext T s s'):Zb3 T σ nm (λa=>N2 a\/own a) env s'.heap ρ ow OA:=by
 have fit:Zdk (Nof N2 OA) (Nof (λa=>N2 a\/own a) OA) s.heap s'.heap:=λa o hn e t=>⟨λh=>by
  rcases h with(h|h)|h
  ·exact hn (.inl h)
  ·exact nS ((hown a h).symm.trans e)
  ·exact hn (.inr h),x.keep2 a o e t⟩
 refine⟨λy d hl hk=>?_,r.own.mono fit (λ_ _ h=>h.ext x) (λb ⟨o,e,t⟩ _=>(x.keep2 b o e t).trans e.symm),r.nodup,λa ha=>⟨λh=>?_,(r.apart a ha).2⟩,r.sl.ext x⟩
 ·obtain⟨v,h1,h2⟩:=r.one y d hl hk;exact⟨v,h1.ext x,h2.mono fit⟩
 ·rcases h with h|h
  ·exact(r.apart a ha).1 h
  ·obtain⟨o,e,_⟩:=r.own.occ a ha;exact nS ((hown a h).symm.trans e)
theorem Zb3.narrow(r:Zb3 T σ nm (λa=>N2 a\/own a) env s.heap ρ ow OA)(g:Zcq T own s s')(hf:∀a,Frm env a->¬own a):Zb3 T σ nm N2 env s'.heap ρ ow OA:=by
 have fit:Zdk (Nof (λa=>N2 a\/own a) OA) (Nof N2 OA) s.heap s'.heap:=λa o hn e t=>⟨λh=>hn (h.imp .inl id),g.keep2 a o (λq=>hn (.inl (.inr q))) e t⟩
 have h1:¬own env.locals:=hf _ (.inl rfl);have h2:∀n c,(n,c)∈env.cells->¬own c:=λn c hm=>hf _ (.inr ⟨n,hm⟩)
 refine⟨λy d hl hk=>?_,r.own.mono fit (λ_ _ h=>h.gone g h1 h2) (λb ⟨o,e,t⟩ hb=>(g.keep2 b o (λq=>(r.apart b hb).1 (.inr q)) e t).trans e.symm),r.nodup,λa ha=>⟨λh=>(r.apart a ha).1 (.inl h),(r.apart a ha).2⟩,r.sl.gone g h1 h2⟩
 obtain⟨v,h3,h4⟩:=r.one y d hl hk;exact⟨v,h3.gone g h1 h2,h4.mono fit⟩
theorem Zcq.refl:Zcq T own s s:=⟨λ_ _ _ _ e=>e,λ_ _ _ e _=>e,λ_ _ e=>e,λe=>e,rfl⟩
theorem Zj7{s'1 mid s':Shared}(x:Ext T s s'1)(u:Upd T (λa=>W a\/own a) s'1 mid)(g:Zcq T own mid s')(hI:∀a,own a->s.heap.get? a=none):Upd T W s s':=by
 have ne:∀b o,s.heap.get? b=some o->¬own b:=λb o e q=>by exact nS ((hI b q).symm.trans e)
 refine⟨λb o ht hw e=>?_,λb o hw e t=>?_,λb ho=>?_,λb t e=>g.tab b t (u.tab b t (x.tab b t e)),λe=>g.gens (u.gens (x.gens e)),g.os.trans (u.os.trans x.os)⟩
 ·exact g.keep b o ht (ne b o e) (u.keep b o ht (λq=>q.elim hw (ne b o e)) (x.keep b o ht e))
 ·exact g.keep2 b o (ne b o e) (u.keep2 b o (λq=>q.elim hw (ne b o e)) (x.keep2 b o e t) t) t
 ·obtain⟨o'1,e'1,t'1⟩:=id ho;obtain⟨o,e,t⟩:=u.occ b (ho.ext x);exact⟨o,g.keep2 b o (ne b _ e'1) e t,t⟩
theorem Zbe{t:List Nat}(h:Zar t ow=true):∀y∈t,lk y ow=none:=λy hy=>by
 have:=bAll h y hy;cases e:lk y ow with
 |none=>rfl
 |some o=>rw[e]at this;exact bF this
theorem Zjs{f:D->List (Nat×D)->List (Nat×O)->Option Out}{d:D}{r:List D}{out:Out}(h:Zc5 f (d::r) ρ ow=some out):E12 (λo=>f d ρ ow=some o) λo=>match o with
  | .next ρ' ow'=>Zc5 f r ρ' ow'=some out
  | .ret e=>Out.ret e=out:=by
 obtain⟨o,e,h⟩:=obS h;refine⟨o,e,?_⟩
 cases o with
 |next ρ' ow'=>exact h
 |ret e=>exact sI h
theorem Yab{g:List (Nat×D)->List (Nat×O)->Option Out}{t:List Nat}{uni:Bool}{d:D}{o:Out}(h:Zd5 g t uni d ρ ow=some o):Zar t ow=true/\E12 (λρ'=>Zhb t uni d (Zak t ρ)=some ρ') λρ'=>g ρ' ow=some o:=by
 obtain⟨h1,h⟩:=Zaj h;exact⟨h1,obS h⟩
structure Yec(T:Addr->Prop)(σ:Sg)(mg mb:Str->Option Value)(s0:Shared)(nm:Nat->Str)(sc:List (Str×NameKind))(k:Nat)(A:Around)(N2 own:Addr->Prop)(env:Env)(OA:List (List Addr))(St:Nat->Heap->Prop)(items:List D)
  (f:D->List (Nat×D)->List (Nat×O)->Option Out)(out:Out)(s'2:Shared)(m:Nat)(s':Shared)(i:Nat)(ρ':List (Nat×D))(ow':List (Nat×O))(OA':List (List Addr)):Prop where
 num:m=items.length-i
 le:i<=items.length
 st:St i s'.heap
 rest:Zc5 f (items.drop i) ρ' ow'=some out
 at':At T σ mg mb s0 nm sc k A (λa=>N2 a\/own a) env s' ρ' ow' OA'
 new:∀a∈OA'.flatten,a∈OA.flatten\/s'2.heap.get? a=none
 upd:Upd T (λa=>(Frm env a\/a∈OA.flatten)\/own a) s'2 s'
theorem At.loopI(x:At T σ mg mb s0 nm sc k A N2 env s ρ ow OA)(hnm:Zb6 nm){tgt iterE:Expr}{pos:Pos}{stmts:List Stmt}{t:List Nat}{uni:Bool}{items:List D}{out:Out}
  {g:List (Nat×D)->List (Nat×O)->Option Out}
  (hiter:∀(E':Value->Shared->Prop) (Q':Value->Shared->Prop),(∀v s'1,Ext T s s'1->Zqo prog w T σ (Nof N2 OA) tgt v items s s'1->Q' v s'1)->wpAny (model prog w) A (PySem.eval iterE env) Q' E' s)(htg:Zbc nm sc tgt t uni=true)(hst:∀y∈t,Zai sc (nm y)=true)(hset:∀v,foldedSetIterable iterE env v=pure v)
  (hbody:∀(N2':Addr->Prop) (s':Shared) (ρ':List (Nat×D)) (ow':List (Nat×O)) (OA':List (List Addr)) (out':Out) (E':Value->Shared->Prop),At T σ mg mb s0 nm sc k A N2' env s' ρ' ow' OA'->g ρ' ow'=some out'->
   wpAny (model prog w) A (execs stmts env) (Zbv T σ nm N2' env OA' s' out') E' s')
  (hrun:Zc5 (Zd5 g t uni) items ρ ow=some out):wpAny (model prog w) A (exec (.For tgt iterE stmts [] pos) env) (Zbv T σ nm N2 env OA s out) E s:=by
 refine wpAny_For ?_ hset
 refine hiter _ _ λv s'1 x'1 it=>?_
 refine it A _ _ x.ha.handled λitv s'2 own x'2 hown mk=>?_
 have x12:=x'1.trans x'2;obtain⟨St,hIt,hst0⟩:=mk A (λa=>Nof N2 OA a\/own a\/s'2.heap.get? a=none) x.ha.handled (λa=>Iff.rfl)
 have ownFree:∀a,own a->s.heap.get? a=none:=λa h=>(hown a h).1
 have frmNo:∀a,Frm env a->¬own a:=λa f q=>by
  obtain⟨o,e,_⟩:=x.rel.sl.frm_occ f;exact nS ((ownFree a q).symm.trans e)
 have at2:At T σ mg mb s0 nm sc k A (λa=>N2 a\/own a) env s'2 ρ ow OA:=
  ⟨x.ha,x.ok,⟨.inl x.hm.loc,λn c h=>.inl (x.hm.cel n c h)⟩,x.bs.step x12,x.rel.widen ownFree x12,λa h=>h.elim (λh=>(x.occ a h).ext x12) λh=>(hown a h).2,x.young⟩
 have fin:∀(s' s3:Shared) (i:Nat) (ρ':List (Nat×D)) (ow':List (Nat×O)) (OA':List (List Addr)),At T σ mg mb s0 nm sc k A (λa=>N2 a\/own a) env s' ρ' ow' OA'->(∀a∈OA'.flatten,a∈OA.flatten\/s'2.heap.get? a=none)->
   Upd T (λa=>(Frm env a\/a∈OA.flatten)\/own a) s'2 s'->Zcq T own s' s3->Zbw T σ nm N2 env OA s s3 ρ' ow' OA':=λs' s3 i ρ' ow' OA' ha hn hu hg=>
  ⟨ha.rel.narrow hg frmNo,λa h=>(hn a h).imp id (x.bs.free_at x12 a),Zj7 x12 hu hg ownFree⟩
 refine codeAny_forLoop_any (λm s'=>∃i ρ' ow' OA',Yec T σ mg mb s0 nm sc k A N2 own env OA St items _ out s'2 m s' i ρ' ow' OA') (λm s'=>?_) items.length
  ⟨0,ρ,ow,OA,⟨rfl,Hap _,hst0,by rw[List.drop_zero];exact hrun,at2,λ_ h=>.inl h,.refl⟩⟩
 rintro⟨i,ρ',ow',OA',L⟩
 refine Ha4 (hIt.next i s' _ L.st L.le) (λr s3 hr=>?_) λ_ _ e=>e
 cases r with
 |none=>
  obtain⟨hlen,g⟩:=hr;have hrest:=L.rest;rw[hlen,List.drop_length]at hrest;rw[←sI hrest];exact Hbv ⟨rfl,OA',fin s' s3 i ρ' ow' OA' L.at' L.new L.upd g⟩
 |some v=>
  refine Ha4 hr (λ_ s4 ⟨d,hd,u,st',hit⟩=>?_) λ_ _ e=>e
  have u':Upd T (λa=>(Frm env a\/a∈OA.flatten)\/own a) s'2 s4:=L.upd.trans (u.mono λa h=>.inr h)
  have rel4:Zb3 T σ nm (λa=>N2 a\/own a) env s4.heap ρ' ow' OA':=by
   have f:Zdk (Nof (λa=>N2 a\/own a) OA') (Nof (λa=>N2 a\/own a) OA') s'.heap s4.heap:=u.fits λa h=>.inl (.inr h)
   have h1:¬own env.locals:=frmNo _ (.inl rfl);have h2:∀n c,(n,c)∈env.cells->¬own c:=λn c hm=>frmNo _ (.inr ⟨n,hm⟩)
   have r:=L.at'.rel;exact⟨r.one.upd u (λa h=>.inl (.inr h)) h1 h2,r.own.mono f (λ_ _ h=>h.upd u h1 h2) (λb ⟨o,e,t⟩ hb=>(u.keep2 b o (λq=>(r.apart b hb).1 (.inr q)) e t).trans e.symm),r.nodup,r.apart,r.sl.upd u h1 h2⟩
  have at'4:At T σ mg mb s0 nm sc k A (λa=>N2 a\/own a) env s4 ρ' ow' OA':=
   ⟨x.ha,x.ok,L.at'.hm,L.at'.bs.upd u λa h=>x.bs.free (ownFree a h),rel4,λa h=>u.occ a (L.at'.occ a h),L.at'.young⟩
  have sub:∀a,Nof (λa=>N2 a\/own a) OA' a->(Nof N2 OA a\/own a\/s'2.heap.get? a=none):=λa h=>by
   rcases h with(h|h)|h
   ·exact .inl (.inl h)
   ·exact .inr (.inl h)
   ·exact(L.new a h).elim (λh=>.inl (.inr h)) λh=>.inr (.inr h)
  have weak:Zdk (λa=>Nof N2 OA a\/own a\/s'2.heap.get? a=none) (Nof (λa=>N2 a\/own a) OA') s4.heap s4.heap:=λa o hn e _=>⟨λh=>hn (sub a h),e⟩
  have rv:Rd σ (Nof (λa=>N2 a\/own a) OA') s4.heap v d:=by
   rcases hit with h|⟨a,vs,ds',nn,e1,e2,h1,h2,h3⟩
   ·exact h.mono weak
   ·rw[e1,e2];refine .tup (λh=>?_) h2 (h3.mono weak)
    obtain⟨o,e,_⟩:=L.at'.occN a h;exact nS (h1.symm.trans e)
  have hlt:=Zeo hd;have hrest:=L.rest;rw[Zfd hd]at hrest;obtain⟨out',hturn,hrest⟩:=Zjs hrest;obtain⟨hno,ρ1,hb,hg⟩:=Yab hturn;have at'4:=at'4.less (ρ':=Zak t ρ') λ_ _ h=>Zdo h
  refine at'4.assign hnm (λy hy=>⟨hst y hy,Zbe hno y hy⟩) rv htg hb λs'5 p'5=>?_
  refine Ha4 (hbody _ s'5 ρ1 ow' OA' out' _ (at'4.post p'5) hg) (λf s6 hf=>?_) λ_ _ e=>e
  have wide:∀a,(Frm env a\/a∈OA'.flatten)->((Frm env a\/a∈OA.flatten)\/own a)\/s'2.heap.get? a=none:=λa h=>by
   rcases h with h|h
   ·exact .inl (.inl (.inl h))
   ·exact(L.new a h).elim (λh=>.inl (.inl (.inr h))) .inr
  cases out' with
  |next ρ2 ow2=>
   obtain⟨rfl,OA2,p6⟩:=hf;have p:=p'5.trans at'4.bs at'4.rel p6;refine⟨items.length-(i+1),?_,i+1,ρ2,ow2,OA2,⟨rfl,?_,hIt.frame (i+1) s4 s6 _ st' p.upd λa h=>?_,hrest,at'4.post p,λa h=>?_,u'.seq p.upd wide⟩⟩
   ·rw[L.num];exact Nat.sub_succ_lt_self _ _ hlt
   ·exact hlt
   ·refine⟨sub a (h.elim (λh=>.inl (at'4.hm.frm h)) .inr),λq=>?_⟩
    rcases h with h|h
    ·exact frmNo a h q
    ·exact(rel4.apart a h).1 (.inr q)
   ·rcases p.new a h with h|h
    ·exact L.new a h
    ·exact .inr (u'.free_back at2.bs.tabs_ok (λa h=>h.elim (at2.rel.w_occ a) λh=>(hown a h).2) h)
  |ret dr=>
   rw[←show Out.ret dr=out from hrest];obtain⟨vr,hv,hr,ur⟩:=hf;subst hv;refine⟨vr,rfl,hr.mono λa o hn e _=>⟨λh=>hn (.inl h),e⟩,?_⟩
   have all:=(u'.seq p'5.upd wide).seq ur wide;exact Zj7 x12 all .refl ownFree
theorem At.loop(x:At T σ mg mb s0 nm sc k A N2 env s ρ ow OA)(hS:Zaq prog w T σ mg mb s0 nm fn C k n)(hnm:Zb6 nm){tgt iterE:Expr}{pos:Pos}{stmts:List Stmt}{t:List Nat}{uni:Bool}{kk:Nat}{ms:List M}{ds items:List D}{out:Out}
  {g:List (Nat×D)->List (Nat×O)->Option Out}
  (hfor:Zrc (okE nm fn fo sc) sc tgt kk ms iterE=true)(htg:Zbc nm sc tgt t uni=true)(hst:∀y∈t,Zai sc (nm y)=true)(hset:∀v,foldedSetIterable iterE env v=pure v)(hm:Zd8 (ev C n ρ (owD ow)) ms=some ds)(hi:Zjd kk ds=some items)
  (hbody:∀(N2':Addr->Prop) (s':Shared) (ρ':List (Nat×D)) (ow':List (Nat×O)) (OA':List (List Addr)) (out':Out) (E':Value->Shared->Prop),At T σ mg mb s0 nm sc k A N2' env s' ρ' ow' OA'->g ρ' ow'=some out'->
   wpAny (model prog w) A (execs stmts env) (Zbv T σ nm N2' env OA' s' out') E' s')
  (hrun:Zc5 (Zd5 g t uni) items ρ ow=some out):wpAny (model prog w) A (exec (.For tgt iterE stmts [] pos) env) (Zbv T σ nm N2 env OA s out) E s:=by
 exact x.loopI hnm (λE' Q' q=>x.forIter hS hfor hm hi q) htg hst hset hbody hrun
theorem Ze4.app{h:Heap}{ow:List (Nat×O)}{OA:List (List Addr)}(r:Ze4 σ nm N env h ow OA){ow1:List (Nat×O)}{OA1:List (List Addr)}(x:Ze4 σ nm N env h ow1 OA1):Ze4 σ nm N env h (ow1++ow) (OA1++OA):=by
 induction x with
 |nil=>exact r
 |cons hv ho _ ih=>exact .cons hv ho ih
theorem Ze4.others{N':Addr->Prop}{h h':Heap}{t:List Nat}(f:Zdk N N' h h')(kv:∀y v,y∉t->Zam env h (nm y) v->Zam env h' (nm y) v){ow:List (Nat×O)}{OA:List (List Addr)}(ht:∀y∈t,lk y ow=none)(k:∀b,Occ h b->b∈OA.flatten->h'.get? b=h.get? b)
  (x:Ze4 σ nm N env h ow OA):Ze4 σ nm N' env h' ow OA:=by
 induction x with
 |nil=>exact .nil
 | @cons y o as v r r' hv ho _ ih=>
  have hne:y∉t:=λhy=>by
   have q:=ht y hy;rw[Zcd,if_pos rfl]at q;exact nS q.symm
  refine .cons (kv _ _ hne hv) (ho.mono f λb hb hm=>k b hb (Zmh hm)) (ih (λy' hy'=>?_) λb hb hm=>k b hb (Zil hm))
  have q:=ht y' hy'
  rwa [Zcd,if_neg λe:y'=y=>hne (e▸hy')]at q
theorem At.adds(x:At T σ mg mb s0 nm sc k A N2 env s ρ ow OA){t:List Nat}{ow1:List (Nat×O)}{OA1:List (List Addr)}(ht:∀y∈t,lk y ow=none)(u:Upd T (Frm env) s s')(sl:Zbj env s'.heap)(kv:∀y v,y∉t->Zam env s.heap (nm y) v->Zam env s'.heap (nm y) v)
  (new:∀b∈OA1.flatten,s.heap.get? b=none)(nd:OA1.flatten.Nodup)(ho:Ze4 σ nm (Nof N2 (OA1++OA)) env s'.heap ow1 OA1):Zbw T σ nm N2 env OA s s' (Zak t ρ) (ow1++ow) (OA1++OA):=by
 have hfl:(OA1++OA).flatten=OA1.flatten++OA.flatten:=List.flatten_append;have noNew:∀b∈OA1.flatten,¬Nof N2 OA b:=λb hb h=>by
  obtain⟨o,e,_⟩:=x.occN b h;exact nS ((new b hb).symm.trans e)
 have fit:Zdk (Nof N2 OA) (Nof N2 (OA1++OA)) s.heap s'.heap:=λb o hn e t=>⟨λh=>by
  rcases h with h|h
  ·exact hn (.inl h)
  ·rw[hfl,List.mem_append]at h;exact h.elim (λh=>nS ((new b h).symm.trans e)) λh=>hn (.inr h),u.keep2 b o (λq=>hn (.inl (x.hm.frm q))) e t⟩
 refine⟨⟨λy' d hl hk=>?_,.app (x.rel.own.others fit kv ht λb ⟨o,e,t⟩ hb=>(u.keep2 b o (λq=>(x.rel.apart b hb).1 (x.hm.frm q)) e t).trans e.symm) ho,?_,λb hb=>?_,sl⟩,λb hb=>?_,u.mono λb e=>.inl e⟩
 ·obtain⟨hy',hl'⟩:=Zdz hl;obtain⟨v,h1,h3⟩:=x.rel.one y' d hl' hk;exact⟨v,kv _ _ hy' h1,h3.mono fit⟩
 ·rw[hfl];exact List.nodup_append.mpr ⟨nd,x.rel.nodup,λa ha b hb e=>noNew a ha (.inr (e▸hb))⟩
 ·rw[hfl,List.mem_append]at hb;refine hb.elim (λhb=>⟨λh=>noNew b hb (.inl h),λh=>?_⟩) (x.rel.apart b)
  obtain⟨ps,e,_⟩:=x.bs.tabs_ok b h;exact nS ((new b hb).symm.trans e)
 ·rw[hfl,List.mem_append]at hb;exact hb.elim (λh=>.inr (new b h)) .inl
theorem fl1{as:List Addr}:[as].flatten=as:=Hcw as
theorem At.add(x:At T σ mg mb s0 nm sc k A N2 env s ρ ow OA)(hnm:Zb6 nm){y:Nat}{a:Addr}{as:List Addr}{v:Value}{o:O}(hy:lk y ow=none)(fr:Frm env a)(st:Zg2 T env s s' (nm y) a v)(new:∀b∈as,s.heap.get? b=none)(nd:as.Nodup)
  (ho:Zc3 σ (Nof N2 (as::OA)) s'.heap v o as):Zbw T σ nm N2 env OA s s' (Zak [y] ρ) ((y,o)::ow) (as::OA):=
 x.adds (ow1:=[(y,o)]) (OA1:=[as]) (λ_ h=>List.mem_singleton.mp h▸hy) (st.upd.mono λb e=>e▸fr) st.slots (λ_ v h=>st.others _ v λe=>h (List.mem_singleton.mpr (hnm.inj _ _ e))) (by rw[fl1];exact new) (by rw[fl1];exact nd) (.cons st.var ho .nil)
theorem Nd3{a b c:Addr}(h1:a≠b)(h2:a≠c)(h3:b≠c):[a,b,c].Nodup:=by
 simp only[List.nodup_cons,List.mem_cons,Hch,or_false,not_or,not_false_eq_true,List.nodup_nil,and_true];exact⟨⟨h1,h2⟩,h3⟩
theorem Zkg{c cn:Addr}{mN:Str->Option Value}{pos:Pos}{args:List (Bool×Sem Value)}{Q:Value->Shared->Prop}
  (hst:(args.any (λx=>x.fst)||([]:List (Option Str×Sem Value)).any λx=>x.fst.isNone)=false)
  (h:wpAny (model prog w) A (evalArgs (.ref c) true args []) (λas s'1=>ClsAt s'1.heap c cn mN/\wpAny (model prog w) A (call (.ref c) as.pos as.kw) Q E s'1) E s):
  wpAny (model prog w) A (callWith pos (.ref c) [] args []) Q E s:=by
 unfold callWith;refine Ha6 (Ha7 (Ha4 h (λas s'1 h'1=>?_) λ_ _ x=>x))
 obtain⟨X,hc⟩:=h'1;obtain⟨hh,g,d,t,os⟩:=s'1;obtain⟨nm,q,bs,sn,sub,col,dd,k0,k1,k2,k3,k5,hC⟩:=X.obj;have f1:=tc_lookup;have hT:(⟨hh,g,d,t,os⟩:Shared).TypeIs (.ref c) "type":=⟨_,hC,rfl⟩;refine Ha6 (Ha8 ?_)
 show wpAny _ _ (keeperOf (.ref c) >>= _) _ _ _;unfold keeperOf specialOf
 repeat (any_goals(first|assumption|with_reducible refine wpAny_loadPart_at hC ?_|with_reducible refine wpAny_load' hC ?_|wp_step))
 rw[if_pos (by rfl),hst]
 show wpAny _ _ (call (.ref c) as.pos as.kw >>= λr=>do holding [r] point;pure r) _ _ _
 exact Ha6 (Ha4 hc (λr s' hr=>Ha6 (Ha7 (wpAny_point (Hau hr)))) λ_ _ x=>x)
noncomputable def Zr1(prog:Program)(w:World)(T:Addr->Prop)(σ:Sg)(mg mb:Str->Option Value)(s0:Shared)(k:Nat):Prop:=
 ∀(A:Around) (E:Value->Shared->Prop) (nm:Nat->Str) (env:Env) (sc:List (Str×NameKind)) (N2:Addr->Prop) (s:Shared) (ρ:List (Nat×D)) (ow:List (Nat×O)) (OA:List (List Addr)) (tgt:Expr) (np cp pos:Pos) (e:Expr) (stmts:List Stmt)
  (t:List Nat) (uni:Bool) (str:List Nat) (out:Out) (g:List (Nat×D)->List (Nat×O)->Option Out),At T σ mg mb s0 nm sc k A N2 env s ρ ow OA->Zb6 nm->sc.lookup ("_iter_escaped_chars":Str)=some .globalImplicit->(∀v p,e≠.Starred v p)->
  (∀(E':Value->Shared->Prop) (Q:Value->Shared->Prop),(∀x tk s',Ext T s s'->x.cps.toList=str->Q (.str x tk) s')->wpAny (model prog w) A (PySem.eval e env) Q E' s)->Zc4 str=true->Zbc nm sc tgt t uni=true->(∀y∈t,Zai sc (nm y)=true)->
  (∀(N2':Addr->Prop) (s':Shared) (ρ':List (Nat×D)) (ow':List (Nat×O)) (OA':List (List Addr)) (out':Out) (E':Value->Shared->Prop),At T σ mg mb s0 nm sc k A N2' env s' ρ' ow' OA'->g ρ' ow'=some out'->
   wpAny (model prog w) A (execs stmts env) (Zbv T σ nm N2' env OA' s' out') E' s')->
  Zc5 (Zd5 g t uni) (Znk (Zhf false 0 str)) ρ ow=some out->wpAny (model prog w) A (exec (.For tgt (.Call (.Name ("_iter_escaped_chars":Str) np) [e] [] cp) stmts [] pos) env) (Zbv T σ nm N2 env OA s out) E s
structure Zfo(prog:Program)(w:World)(T:Addr->Prop)(σ:Sg)(mg mb:Str->Option Value)(s0:Shared)(k:Nat):Prop where
 gen:Zr1 prog w T σ mg mb s0 k
 sig:σ.prog=prog/\σ.w=w
 sysm:∃o,s0.heap.get? sysModules=some o
 cls:∃cn mN,mg "Headers"=some (.ref (σ.v 999).toNat)/\∀s,Ext T s0 s->ClsAt s.heap (σ.v 999).toNat cn mN
 new:∀(A:Around) (E:Value->Shared->Prop) (s:Shared) (L:Addr) (Q:Value->Shared->Prop),AOk k A->Bs T mg mb s0 s->s.heap.PlainList L #[]->¬T L->
  (∀x dx s',Ext T s s'->s.heap.get? x=none->s.heap.get? dx=none->Zd7 σ s'.heap x dx L->Q (.ref x) s')->wpAny (model prog w) A (call (.ref (σ.v 999).toNat) [.ref L]) Q E s
 add:∃f,Ydz prog w T σ s0 "add_header" f/\∀(A:Around) (E:Value->Shared->Prop) (s:Shared) (x dx b:Addr) (vs:List Value) (kx vx:Str) (kt vt:Tok) (Q:Value->Shared->Prop),AOk k A->Bs T mg mb s0 s->Zd7 σ s.heap x dx b->
  s.heap.PlainList b vs.toArray->¬T b->vs.length<=lim->Zbq kx.cps.toList=true->Zbq vx.cps.toList=true->
  (∀t ks vs' kt' vt' n s',Upd T (·=b) s s'->s.heap.get? t=none->s'.heap.get? t=some (Zcv #[.str ks kt',.str vs' vt'] n)->ks.cps=kx.cps->vs'.cps=vx.cps->s'.heap.PlainList b (vs++[Value.ref t]).toArray->Q .none s')->
  wpAny (model prog w) A (call (.ref f) [.ref x,.str kx kt,.str vx vt]) Q E s
theorem At.hnew(x:At T σ mg mb s0 nm sc k A N2 env s ρ ow OA)(hH:Zfo prog w T σ mg mb s0 k)(hnm:Zb6 nm){y:Nat}{np fp lp cp pos:Pos}{id:Str}{Q:Flow->Shared->Prop}(hid:(id==("Headers":Str))=true)(hkind:(sc.lookup id==some .globalImplicit)=true)
  (hf:Zai sc (nm y)=true)(hy:lk y ow=none)
  (q:∀s' OA',Zbw T σ nm N2 env OA s s' (Zak [y] ρ) ((y,.hdr [])::ow) OA'->Q .next s'):wpAny (model prog w) A (exec (.Assign [.Name (nm y) np] (.Call (.Name id fp) [.List [] lp] [] cp) pos) env) Q E s:=by
 have hid:=Hb5 hid;subst hid;obtain⟨cn,mN,hmg,hcls⟩:=hH.cls;have hk:env.kindOf ("Headers":Str)=some .globalImplicit:=by rw[x.ok.kindOf,←Hb5 hid];exact Hb5 hkind
 rw[Hb5 hid];refine Hbt ?_ rfl
 refine Hbi (Hbg x.ok.kind hk (Hbm (x.ok.glob▸x.bs.ng) hmg ?_) (by decide))
 refine Zkg (cn:=cn) (mN:=mN) rfl ?_
 refine Zch (λv p h=>by exact nomatch h) ?_
 show wpAny _ _ (spliced [(false,PySem.eval (.List [] lp) env)]) _ _ _;refine Hbf ?_
 refine List_ (Hbe ?_)
 refine Hbk ?_ (Hap _)
 refine Hbe ?_
 have x'1:Ext T s {s with heap:=s.heap.push {cls:=.type "list",data:=.seq #[]}}:=.push (tk:=s.toks)
 have hL:({s with heap:=s.heap.push {cls:=.type "list",data:=.seq #[]}}:Shared).heap.PlainList s.heap.objs.size #[]:=⟨0,Hb7 _ rfl⟩
 have fL:s.heap.get? s.heap.objs.size=none:=Zae (Hac _);have noT:¬T s.heap.objs.size:=λh=>Hao _ (x.bs.lt _ h)
 show _/\_
 generalize ({s with heap:=s.heap.push {cls:=.type "list",data:=.seq #[]}}:Shared)=s'1 at x'1 hL ⊢
 refine⟨hcls _ (x.bs.ext.trans x'1),?_⟩
 refine hH.new A E _ _ _ x.ha (x.bs.step x'1) hL noT λhx dx s'2 x'2 f1 f2 hat=>?_
 have xx:Ext T s s'2:=x'1.trans x'2;obtain⟨a,st⟩:=Zb2 x.ok hf;refine stored x.ok (x.rel.sl.ext xx) xx st (Zbm x.bs x.rel.sl st.frm) λs3 u hst=>?_
 have neA:∀{b},s.heap.get? b=none->b≠a:=λh e=>by
  obtain⟨o,e',_⟩:=x.rel.sl.frm_occ st.frm;exact nS (h.symm.trans (e▸e'))
 have n1:=x.bs.free_at x'1 hx f1;have n2:=x.bs.free_at x'1 dx f2;obtain⟨m,hl⟩:=hL;obtain⟨o,od,h1,h2,h3⟩:=hat.it;refine q s3 _ (x.add hnm hy st.frm hst (λb hb=>?_) (Nd3 h3.apart.symm (λe=>nS (f1.symm.trans (e▸hl))) (λe=>nS (f2.symm.trans (e▸hl)))) (.hdr (u.keep2 _ _ (neA n1) h1 h3.tab.1) (u.keep2 _ _ (neA n2) h2 h3.tab.2) h3 ⟨m,u.keep2 _ _ (neA fL) (x'2.keep2 _ _ hl rfl) rfl⟩ .nil))
 rcases jC hb with e|hb
 ·exact e▸n1
 ·rcases jC hb with e|hb
  ·exact e▸n2
  ·exact List.mem_singleton.mp hb▸fL
theorem Zeb.unique{c:Addr}{o od od':Obj}{x dx dx' b b':Addr}{h:Heap}(e:h.get? dx=some od)(e':h.get? dx'=some od')(a:Zeb c o od x dx b)(a':Zeb c o od' x dx' b'):dx=dx'/\b=b':=by
 have q:=sI (a.dict.symm.trans a'.dict);rw[←q]at e';have e2:=sI (e.symm.trans e');obtain⟨es,ep,h1,_,_,h2⟩:=a.names;obtain⟨es',ep',h1',_,_,h2'⟩:=a'.names;rw[←e2,h1]at h1'
 injection h1' with h1' _
 have q2:=h2 "_headers";rw[h1',h2' "_headers",if_pos rfl,if_pos rfl]at q2;exact⟨q,Zca (sI q2.symm)⟩
theorem Yhf{e1 e2:Expr}{m1 m2:M}{p:Pos}(h1:okE nm fn fo sc e1 m1=true)(h2:okE nm fn fo sc e2 m2=true):backTo p (starEach [e1,e2] env)=[(false,PySem.eval e1 env),(false,PySem.eval e2 env)]:=by
 rw[Zad (Zbh h1),Zad (Zbh h2)];rfl
theorem Zxy{h:Heap}{c:Addr}{o od:Obj}{x dx b:Addr}{vs:Array Value}(g1:h.get? x=some o)(g2:h.get? dx=some od)(ho:Zeb c o od x dx b)(hp:h.PlainList b vs):x≠b/\dx≠b:=by
 obtain⟨m,e⟩:=hp;refine⟨λq=>?_,λq=>?_⟩
 ·have q1:=sI ((q▸g1).symm.trans e);exact nomatch (Hb6 Obj.cls q1).symm.trans ho.cls
 ·have q1:=sI ((q▸g2).symm.trans e);exact absurd ((Hb6 Obj.cls q1).symm.trans ho.dcls) (by simp)
theorem At.hadd(x:At T σ mg mb s0 nm sc k A N2 env s ρ ow OA)(hS:Zaq prog w T σ mg mb s0 nm fn C k n)(hH:Zfo prog w T σ mg mb s0 k){y:Nat}{np ap p pos:Pos}{e1 e2:Expr}{m1 m2:M}{kk vv:List Nat}{ds:List D}{Q:Flow->Shared->Prop}
  (hd:(nm y==("__debug__":Str))=false)(hline:(ap.endLine==p.line)=true)(hok1:okE nm fn fo sc e1 m1=true)(hok2:okE nm fn fo sc e2 m2=true)
  (hev1:ev C n ρ (owD ow) m1=some (.str kk))(hev2:ev C n ρ (owD ow) m2=some (.str vv))(hl:lk y ow=some (.hdr ds))(hsm:small ds=true)(hp1:Zbq kk=true)(hp2:Zbq vv=true)
  (q:∀s',Zbw T σ nm N2 env OA s s' ρ (Zhu y (.hdr (ds++[.tup [.str kk,.str vv]])) ow) OA->Q .next s'):
  wpAny (model prog w) A (exec (.Expr (.Call (.Attribute (.Name (nm y) np) "add_header" ap) [e1,e2] [] p) pos) env) Q E s:=by
 obtain⟨as,v,has,hv,ho⟩:=x.rel.owned hl;obtain⟨hx,dx,b,o,od,vs,hv1,ha1,g1,g2,ho,hp,hr⟩:=ho.inv;rw[hv1]at hv;rw[ha1]at has;have hb:b∈OA.flatten:=List.mem_flatten.mpr ⟨_,has,.tail _ (.tail _ (.head _))⟩;obtain⟨f,⟨⟨fo',fd,hfo,hfd,hft⟩,hget⟩,hcall⟩:=hH.add;have hat:Zd7 σ s.heap hx dx b:=⟨o,od,g1,g2,ho⟩;refine wpAny_Expr ?_ (Zbi x.ok) rfl
 refine Zc6 (Zat rfl) (by rw[Yhf hok1 hok2];rfl) hline ?_
 rw[Yhf hok1 hok2];refine hv.load x.ok.kind hd λpl=>?_
 refine hget A _ s hx dx b pl _ x.bs.ext hat ?_
 refine Hbn (o:=fo') (fd:=fd) (Calls.evalArgs_plain (Hbf ?_))
 refine x.eval hS hok1 hev1 λv1 s'1 x'1 r'1=>?_
 refine Hbf ?_
 refine(x.ext x'1).eval hS hok2 hev2 λv2 s'2 x'2 r'2=>Hbe ?_
 have xx:=x'1.trans x'2;have at2:=x.ext xx;refine⟨⟨at2.bs.ext.keep2 f fo' hfo hft,hfd⟩,?_⟩
 obtain⟨kx,kt,w1,ek⟩:=r'1.inv;obtain⟨vx,vt,w2,ev'⟩:=r'2.inv;rw[w1,w2];have hp'2:=Za8 (W:=λ_=>False) xx.upd hp λh=>h
 refine hcall A E s'2 hx dx b vs kx vx kt vt _ x.ha at2.bs (hat.ext xx) hp'2 (x.rel.apart b hb).2 (by rw[hr.length];exact Zay hsm) (by rw[ek];exact hp1) (by rw[ev'];exact hp2) λt ks vs' kt' vt' nn s3 u ft gt e1 e2 hp3=>?_
 have ubig:Upd T (λa=>a∈OA.flatten) s'2 s3:=u.mono λa e=>e▸hb
 have notb:hx≠b/\dx≠b:=Zxy g1 g2 ho hp;have notN:¬Nof N2 OA t:=λh=>by
  obtain⟨o',e',_⟩:=at2.occN t h;exact nS (ft.symm.trans e')
 have r'3:Zb3 T σ nm N2 env s3.heap ρ (Zhu y (.hdr (ds++[.tup [.str kk,.str vv]])) ow) OA:=by
  refine at2.rel.mutate x.hm hl ubig λv as' has' hv' ho'=>?_
  obtain⟨hx',dx',b',o',od',ws,e1',e2',g1',g2',ho',hp',hr'⟩:=ho'.inv;have e3:hx'=hx:=Zca (e1'.symm.trans (hv'.unique (hv.ext xx)));have q1:=xx.keep2 _ _ g1 ho.tab.1;have q2:=xx.keep2 _ _ g2 ho.tab.2;rw[e3]at g1';rw[e3,←sI (q1.symm.trans g1')]at ho';obtain⟨e4,e5⟩:=ho.unique q2 g2' ho';rw[e1',e2',e3,←e4,←e5];refine⟨.hdr (u.keep2 _ _ notb.1 q1 ho.tab.1) (u.keep2 _ _ notb.2 q2 ho.tab.2) ho hp3 (((hr.mono xx.fits).mono (ubig.fits λa h=>.inr h)).append (.cons (.tup (n:=nn) (vs:=[.str ks kt',.str vs' vt']) (λh=>notN h) gt (.cons (.str (by rw[e1];exact ek)) (.cons (.str (by rw[e2];exact ev')) .nil))) .nil)),λc ⟨oc,ec,tc⟩ _ hn=>?_⟩
  exact(u.keep2 c oc (λq=>hn (q▸.tail _ (.tail _ (.head _)))) ec tc).trans ec.symm
 exact q s3 ((Zbw.of_ext x.rel xx).trans x.bs x.rel (.change r'3 ubig))
theorem Zli(vs:List Value):∀ks:List Str,vs.length=ks.length->(∀(j:Nat) (v:Value),vs[j]?=some v->E21 λk t=>ks[j]?=some k/\v= .str k t)->StrsAre vs ks:=by
 induction vs with
 |nil=>exact λks hl _=>by cases ks with
  |nil=>exact .nil
  |cons _ _=>exact nomatch hl
 |cons v vs ih=>exact λks hl h=>by cases ks with
  |nil=>exact nomatch hl
  |cons k ks=>
   obtain⟨k',t,h1,h2⟩:=h 0 v rfl;rw[h2,←sI h1];exact .cons k t (ih ks (Nat.succ.inj hl) λj u hu=>h (j+1) u hu)
theorem Zoq{d:Addr}{kvs:List (Str×Value)}{Q:Value->Shared->Prop}(hh:A.handled=none)(lo:(d==sysModules)=false)(hd:s.heap.DictOf (PySem.strKind prog w) d kvs)(h64:kvs.length<64)
  (h:∀(h':Heap) (tk:Nat) (L:Addr) (out:Array Value) (e:Nat) (ss:List Str),(∀b o,s.heap.get? b=some o->h'.get? b=some o)->s.heap.get? L=none->h'.get? L=some (seqObj "list" out e)->StrsAre out.toList ss->ss.Perm (kvs.map (·.1))->sortedS ss=true->
   Q (.ref L) {s with heap:=h',toks:=tk}):wpAny (model prog w) A (call (.builtin "sorted") [.ref d]) Q E s:=by
 obtain⟨ep,hat⟩:=hd.dictAt;refine Calls.call_function_entry kind_sorted plain_sorted entry_sorted (args_sorted1 _) ?_
 unfold Builtin.«sorted»;refine Ha6 (m:=checkCount "sorted" 1 1 _) (Hau ?_)
 refine Ha6 (kdu_collect (A:=A.in1) (kdl_dict (knd:=PySem.strKind prog w) (kvs:=kvs) (ep:=ep) lo) hh hat (by rw[sizeLine_eq];exact(ln1 (.v 0) (.k 16777216) [(1,.a (.v 0) (.k 1),.k 64)] rfl h64)) λh' tk acc hk hacc=>?_)
 have hlen:acc.toList.length=kvs.length:=by rw[Hce];exact hacc.1
 have hS:StrsAre acc.toList (kvs.map (·.1)):=Zli _ _ (by rw[hlen,Hcp]) λj v hv=>by
  obtain⟨k,x,hx,hv'⟩:=hacc.2 j v (by rw[←Array.getElem?_toList];exact hv)
  obtain⟨t,e⟩:=Value.isStrOf_shape hv';exact⟨k,t,by rw[List.getElem?_map,hx];rfl,e⟩
 refine Ha6 (wpAny_newList ?_ (by rw[hlen,sizeLine_eq];exact(ln1 (.v 0) (.k 16777216) [(1,.a (.v 0) (.k 1),.k 64)] rfl h64)))
 have hoL:(h'.push (seqObj "list" acc.toList.toArray 0)).get? h'.objs.size=some (seqObj "list" acc.toList.toArray 0):=Hb7 _ rfl;refine Ha6 (Ha7 (wpAny_call_entry slot_list_sort ⟨_,hoL,rfl⟩ entry_list_sort (list_sort_treeK strKind_oneLt hoL hS.keysOf (λv'1 v'2 rest e=>keyKind_strs (by rw[←e];exact hS)) (by rw[hlen];exact h64) λst' a1 a2=>⟨_,rfl,?_⟩) (args_list_sort _)))
 obtain⟨ss',b1,b2,b3⟩:=sorted_out_str hS a1 a2;obtain⟨e,he⟩:=sortedHeap_at (out:=(arrOf st').map (·.2)) hoL;refine Hau ⟨_,rfl,h _ tk h'.objs.size _ e ss' (λb o eb=>?_) ?_ he b1 b2 b3⟩
 ·have hb:=hk b o eb;have hlt:=Haj hb;rw[sortedHeap_old (Ha9 hlt) (by rw[Hcx];exact Nat.lt_succ_of_lt hlt)]
  exact Hai _ hb
 ·cases eo:s.heap.get? h'.objs.size with
  |none=>rfl
  |some o=>exact absurd (Haj (hk _ o eo)) (Hao _)
theorem RdL.reverse{N:Addr->Prop}{h:Heap}{vs:List Value}{ds:List D}(r:RdL σ N h vs ds):RdL σ N h vs.reverse ds.reverse:=
 r.ind (P:=λvs ds=>RdL σ N h vs.reverse ds.reverse) .nil λ_ _ _ _ x _ q=>by rw[List.reverse_cons,List.reverse_cons];exact q.append (.cons x .nil)
theorem Zu6{a:Addr}{vs:List Value}{m:Nat}(e:s.heap.get? a=some (Za3 vs.toArray m)):(s.heap.update a (Obj.mapSeq λx=>x.reverse)).PlainList a vs.reverse.toArray:=by
 have:∀o:Obj,o={cls:=.type "list",dict:=none,data:=.seq vs.toArray m,slots:=#[]}->∃k',Obj.mapSeq (λx=>x.reverse) o={cls:=.type "list",data:=.seq vs.toArray.reverse k'}:=by
  rintro o rfl
  unfold Obj.mapSeq;exact⟨_,rfl⟩
 obtain⟨k',hk⟩:=this _ rfl;refine⟨k',?_⟩
 rw[Heap.get?_update_self _ e (by rw[hk];rfl),hk,List.reverse_toArray]
theorem At.rev(x:At T σ mg mb s0 nm sc k A N2 env s ρ ow OA){y:Nat}{np ap p pos:Pos}{ds:List D}{Q:Flow->Shared->Prop}(hd:(nm y==("__debug__":Str))=false)(hline:(ap.endLine==p.line)=true)
  (hl:lk y ow=some (.lst ds))(hsm:small ds=true)(q:∀s',Zbw T σ nm N2 env OA s s' ρ (Zhu y (.lst ds.reverse) ow) OA->Q .next s'):
  wpAny (model prog w) A (exec (.Expr (.Call (.Attribute (.Name (nm y) np) "reverse" ap) [] [] p) pos) env) Q E s:=by
 obtain⟨a,vs,haO,hv,hp,hr⟩:=x.rel.ownedL hl;refine wpAny_Expr ?_ (Zbi x.ok) rfl
 refine Hbq (Zat rfl) rfl hline ?_
 refine hv.load x.ok.kind hd ?_
 obtain⟨m,e⟩:=hp;refine⟨"list",_,PySem.F.plainAttrs_list,PySem.F.slot_list_reverse,PySem.F.type_list_reverse,⟨_,e,rfl⟩,(λb q=>⟨_,Zca q▸e,rfl⟩),?_⟩
 have hsz:vs.toArray.size<=sizeLine:=by rw[Hb8,hr.length];exact Hag (Zay hsm) (by decide)
 refine method0_meets PySem.F.slot_list_reverse PySem.F.entry_list_reverse ⟨_,e,rfl⟩ (PySem.F.args_list_reverse_1 _) (PySem.AutoListH.list_reverse_list_0 a vs.toArray m hsz) ⟨e,?_⟩
 obtain⟨u,r'4⟩:=x.rel.lstChange (ds':=ds.reverse) (vs':=vs.reverse) x.hm hl hv haO (Zu6 e) (Heap.SameBut.update ..) hr.reverse;exact q _ (.change r'4 u)
theorem At.saug(x:At T σ mg mb s0 nm sc k A N2 env s ρ ow OA)(hσ:∀n,(σ.v n).natAbs<=2^1000)(hS:Zaq prog w T σ mg mb s0 nm fn C k n){y:Nat}{o:Operator}{np sp pos:Pos}{e i:Expr}{m mi:M}{a b d:D}{j:Nat}{ds:List D}{Q:Flow->Shared->Prop}(hd:(nm y==("__debug__":Str))=false)
  (hok:okE nm fn fo sc e m=true)(hoki:okE nm fn fo sc i mi=true)(hev:ev C n ρ (owD ow) m=some b)(hevi:ev C n ρ (owD ow) mi=some (Zsd j))(hl:lk y ow=some (.lst ds))(hsm:small ds=true)(hj:ds[j]?=some a)(haug:Zwg o a b=some d)
  (q:∀s',Zbw T σ nm N2 env OA s s' ρ (Zhu y (.lst (ds.set j d)) ow) OA->Q .next s'):
  wpAny (model prog w) A (exec (.AugAssign (.Subscript (.Name (nm y) np) i sp) o e pos) env) Q E s:=by
 obtain⟨l,vs,haO,hv,hp,hr⟩:=x.rel.ownedL hl;have har:=Zzf (Zeo hj) (Zay hsm) hr.length;rw[arm_exec_AugAssign_3];refine Ha6 (Ha8 ?_)
 refine Ha6 (hv.load x.ok.kind hd ?_)
 refine Ha6 (Ha7 (x.eval hS hoki hevi λvi s'1 x'1 r'1=>?_))
 obtain⟨t'1,hv2⟩:=r'1.inv;rw[hv2];have at1:=x.ext x'1;refine Ha6 (Ha7 ?_)
 refine Ha6 (Ha8 ?_)
 obtain⟨va,hva,hra⟩:=hr.get hj;have hp'1:=Za8 (W:=λ_=>False) x'1.upd hp λh=>h
 obtain⟨m'1,e'1⟩:=hp'1;refine Ha6 (wpAny_getItem_list (x:=va) ⟨_,e'1,rfl,_,rfl⟩ har.1 har.2.1 (show vs.toArray[j]?=some va by rw[Hc6];exact hva) ?_)
 refine Ha6 (Ha7 (at1.eval hS hok hev λvb s'2 x'2 r'2=>?_))
 refine Ha6 (Ha8 ?_)
 have xx:=x'1.trans x'2;have at2:=x.ext xx;refine Zr8 hσ (hra.mono xx.fits) r'2 haug λ{iv jv t u p} e1 e2 hd h=>?_
 have fin:∀{iv:Int},p.ev σ=iv->wpAny (model prog w) A (do standAt sp;augStore i (.ref l) (.int j t'1) (.int iv s'2.toks)) Q E {s'2 with toks:=s'2.toks+1}:=λ{iv} hp0=>by
  refine Ha6 (Ha8 ?_)
  have x3:Ext T s {s'2 with toks:=s'2.toks+1}:=xx.trans .toks
  have at3:=x.ext x3;have hp3:=Za8 (W:=λ_=>False) x3.upd hp λh=>h
  have hns:=Zpv hoki;have store:wpAny (model prog w) A (do holding [.int iv s'2.toks,.ref l,.int j t'1] (setItem (.ref l) (.int j t'1) (.int iv s'2.toks));release [.int iv s'2.toks,.ref l,.int j t'1] [];pure .next) Q E {s'2 with toks:=s'2.toks+1}:=by
   refine Ha6 (Ha7 ?_)
   refine Zfk hp3 har.1 har.2.1 (show(j:Int)<(vs.toArray.size:Int)by rw[Hb8];exact har.2.2) λh' hp' hsb=>?_
   obtain⟨u,r'4⟩:=at3.rel.lstChange (ds':=ds.set j d) (vs':=vs.set j (.int iv s'2.toks)) at3.hm hl (hv.ext x3) haO (by simpa using hp') hsb (RdL.set j (hr.mono x3.fits) (hd▸.int hp0))
   exact Ha6 (wpAny_release (Hau (q _ ((Zbw.of_ext x.rel x3).trans x.bs x.rel (.change r'4 u)))))
  cases i with
  |Slice a b c p=>exact absurd rfl (hns a b c p)
  |_=>exact store
 rw[e1,e2];rcases h with⟨ho,hp⟩|⟨ho,hp⟩|⟨ho,hp,hm⟩
 ·rw[ho];exact wpAny_operate' (PySem.AutoIntOps.iadd_0 (fin hp))
 ·rw[ho];exact wpAny_operate' (PySem.AutoIntOps.isub_0 (fin hp))
 ·rw[ho];exact wpAny_operate' (PySem.AutoIntOps.imul_0 (fin hp) hm)
theorem Zvs{x y:Str}(h:x.cps.toList=y.cps.toList):x=y:=by
 cases x;cases y
 congr
 exact Array.toList_inj.mp h
theorem Zm4(kv:Str×Value)(r:List (Str×Value))(k:Str):valueAt (kv::r) k=if kv.1=k then some kv.2 else valueAt r k:=by
 unfold valueAt;rw[List.find?_cons];by_cases q:kv.1=k
 ·rw[if_pos q,decide_eq_true q];rfl
 ·rw[if_neg q,decide_eq_false q]
theorem Zl7{a b:List Nat}(h:a≠b):eqN a b=false:=by
 cases e:eqN a b with
 |false=>rfl
 |true=>exact absurd (Zdw.mp e) h
theorem Zyb(k l:List Nat)(ds:List D)(r:List (List Nat×List D)):lkS k ((l,ds)::r)=if l=k then some ds else lkS k r:=by
 show(match eqN l k with|true=>some ds|false=>lkS k r)=_
 by_cases q:l=k
 ·rw[if_pos q,Zdw.mpr q]
 ·rw[if_neg q,Zl7 q]
theorem Zuy(k l:List Nat)(d ds:List D)(r:List (List Nat×List D)):Zz4 k d ((l,ds)::r)=if l=k then(l,d)::r else(l,ds)::Zz4 k d r:=by
 show(match eqN l k with|true=>(l,d)::r|false=>(l,ds)::Zz4 k d r)=_
 by_cases q:l=k
 ·rw[if_pos q,Zdw.mpr q]
 ·rw[if_neg q,Zl7 q]
noncomputable def KvAt(σ:Sg)(N:Addr->Prop)(h:Heap)(v:Option Value)(d:Option (List D)):Prop:=match d with
 |none=>v=none
 |some ds=>E12 (λu=>v=some u) λu=>Rd σ N h u (.lst ds)
theorem KvL.find(k:Str){kvs:List (Str×Value)}{kds:List (List Nat×List D)}(x:KvL σ N h kvs kds):KvAt σ N h (valueAt kvs k) (lkS k.cps.toList kds):=by
 induction x with
 |nil=>exact rfl
 | @cons k'1 v'1 l ds1 r r' e x t ih=>
  rw[Zm4,Zyb];by_cases q:k'1=k
  ·rw[if_pos q,if_pos (e.symm.trans (Hb6 (λs:Str=>s.cps.toList) q))]
   exact⟨_,rfl,x⟩
  ·rw[if_neg q,if_neg λe'=>q (Zvs (e.trans e'))]
   exact ih
theorem Zos(kv:Str×Value)(r:List (Str×Value))(k:Str)(v:Value)(hn:((kv::r).map (·.1)).Nodup):PySem.stored (kv::r) k v=if kv.1=k then(kv.1,v)::r else kv::PySem.stored r k v:=by
 rw[Hcr,List.nodup_cons]at hn;unfold PySem.stored;by_cases q:kv.1=k
 ·rw[if_pos q,if_pos (by rw[List.any_cons,decide_eq_true q,Bool.true_or]),Hcr,if_pos q]
  congr 1
  have:∀p∈r,(if p.1=k then(p.1,v)else p)=p:=λp hp=>if_neg λe=>hn.1 (by rw[q,←e];exact List.mem_map.mpr ⟨p,hp,rfl⟩)
  exact(List.map_congr_left this).trans (List.map_id' r)
 ·rw[if_neg q,List.any_cons,decide_eq_false q,Bool.false_or];split
  ·rw[Hcr,if_neg q]
  ·rfl
theorem KvL.put{k:Str}{v:Value}{ds:List D}(hv:Rd σ N h v (.lst ds)){kvs:List (Str×Value)}{kds:List (List Nat×List D)}(x:KvL σ N h kvs kds):(kvs.map (·.1)).Nodup->KvL σ N h (PySem.stored kvs k v) (Zz4 k.cps.toList ds kds):=by
 induction x with
 |nil=>exact λ_=>.cons rfl hv .nil
 | @cons k'1 v'1 l ds1 r r' e x t ih=>
  intro hn;rw[Zos _ _ _ _ hn,Zuy];by_cases q:k'1=k
  ·rw[if_pos q,if_pos (e.symm.trans (Hb6 (λs:Str=>s.cps.toList) q))]
   exact .cons e hv t
  ·rw[if_neg q,if_neg λe'=>q (Zvs (e.trans e'))]
   exact .cons e x (ih (List.nodup_cons.mp hn).2)
theorem KvL.keys{kvs:List (Str×Value)}{kds:List (List Nat×List D)}(x:KvL σ N h kvs kds):(kvs.map (·.1)).map (·.cps.toList)=kds.map (·.1):=by
 induction x with
 |nil=>rfl
 |cons e x t ih=>rw[Hcr,Hcr,Hcr,ih,e]
theorem KvL.length{kvs:List (Str×Value)}{kds:List (List Nat×List D)}(x:KvL σ N h kvs kds):kvs.length=kds.length:=by
 induction x with
 |nil=>rfl
 |cons e x t ih=>exact Hb6 Nat.succ ih
theorem fm2{f:Expr->Option Str}{a b:Expr}{x y:Str}(h1:f a=some x)(h2:f b=some y):[a,b].filterMap f=[x,y]:=by rw[List.filterMap_cons_some h1,List.filterMap_cons_some h2];rfl
theorem any2{f:Expr->Bool}{a b:Expr}(h:∀e,(∀v p,e≠.Starred v p)->f e=false)(ha:∀v p,a≠.Starred v p)(hb:∀v p,b≠.Starred v p):[a,b].any f=false:=by
 show(f a||(f b||false))=false
 rw[h a ha,h b hb];rfl
theorem Zi2{env:Env}{id1 id2:Str}{p1 p2 tp vp:Pos}{kx k2:Nat}{e1 e2:Expr}(hk:env.scope.kind= .function)(k1:env.kindOf id1=some .local)(k3:env.kindOf id2=some .local)(hl:(p1.line==p2.line)=true)(hne:id1≠id2)
  (s1:∀v p,e1≠.Starred v p)(s2:∀v p,e2≠.Starred v p)(hf:(foldedForSure 8 e1&&foldedForSure 8 e2)=false)(hc:(constantsAlone 8 e1&&constantsAlone 8 e2)=false):
  swappedStores [.Tuple [.Name id1 p1,.Name id2 p2] kx tp] (.Tuple [e1,e2] k2 vp) env=pure (some [id1,id2]):=by
 have hb:env.blockKind= .function:=by unfold Env.blockKind;rw[hk];rfl
 have he:([id1,id2]:List Str).eraseDups=[id1,id2]:=by simp[List.eraseDups_cons,hne.symm]
 have hff:([e1,e2].all (foldedForSure 8))=false:=by rw[←hf];exact Hb6 _ (Bool.and_true _)
 have hcc:([e1,e2].all (constantsAlone 8))=false:=by rw[←hc];exact Hb6 _ (Bool.and_true _)
 delta swappedStores
 dsimp only;rw[hb,hff,hcc,fm2 (a:=.Name id1 p1) (b:=.Name id2 p2) (x:=id1) (y:=id2),he,any2 (a:=e1) (b:=e2) ?_ s1 s2]
 ·rfl
 ·intro e h;cases e with
  |Starred v p=>exact absurd rfl (h v p)
  |_=>rfl
 ·show(if(env.kindOf id1==some .local&&p1.line==p1.line)=true then some id1 else none)=_
  rw[k1,Hcl,Hcl];rfl
 ·show(if(env.kindOf id2==some .local&&p2.line==p1.line)=true then some id2 else none)=_
  rw[k3,Hcl,Hb5 hl,Hcl];rfl
theorem Yc4{a b c:Obj}{h h':Heap}(hx:∀x o,x≠(((h.push a).push b).push c).objs.size->(((h.push a).push b).push c).get? x=some o->h'.get? x=some o){x:Addr}{o:Obj}(e:((h.push a).push b).get? x=some o):h'.get? x=some o:=
 hx x o (Ha9 (Haj (Hai _ e))) (Hai _ e)
theorem Upd.dict{W:Addr->Prop}{a:Addr}{kvs:List (Str×Value)}(u:Upd T W s s')(hd:s.heap.DictOf (PySem.strKind prog w) a kvs)(hw:¬W a):s'.heap.DictOf (PySem.strKind prog w) a kvs:=by
 obtain⟨o,es,ep,ho,he,hdt,r⟩:=hd;exact⟨o,es,ep,u.keep2 a o hw ho (Za0 (by rw[hdt];rfl)),he,hdt,r⟩
theorem Nd2{a b:Addr}(h1:a≠b):[a,b].Nodup:=List.nodup_cons.mpr ⟨λh=>h1 (List.mem_singleton.mp h),List.nodup_cons.mpr ⟨λh=>(nomatch h),.nil⟩⟩
theorem At.knew(x:At T σ mg mb s0 nm sc k A N2 env s ρ ow OA)(hsp:σ.prog=prog)(hsw:σ.w=w)(hnm:Zb6 nm){y z:Nat}{p1 p2 tp dp lp vp pos:Pos}{kx k2:Nat}{Q:Flow->Shared->Prop}
  (l1:(sc.lookup (nm y)==some .local)=true)(l2:(sc.lookup (nm z)==some .local)=true)(hf1:Zai sc (nm y)=true)(hf2:Zai sc (nm z)=true)(hline:(p1.line==p2.line)=true)(hne:y≠z)(hy:lk y ow=none)(hz:lk z ow=none)
  (q:∀s' OA',Zbw T σ nm N2 env OA s s' (Zak [y,z] ρ) ((y,.dict [])::(z,.lst [])::ow) OA'->Q .next s'):
  wpAny (model prog w) A (exec (.Assign [.Tuple [.Name (nm y) p1,.Name (nm z) p2] kx tp] (.Tuple [.Dict [] [] dp,.List [] lp] k2 vp) pos) env) Q E s:=by
 rw[←hsp,←hsw];have hnn:nm y≠nm z:=λe=>hne (hnm.inj _ _ e)
 have hw:=Zi2 (e1:=.Dict [] [] dp) (e2:=.List [] lp) (tp:=tp) (vp:=vp) (kx:=kx) (k2:=k2) x.ok.kind (by rw[x.ok.kindOf];exact Hb5 l1) (by rw[x.ok.kindOf];exact Hb5 l2) hline hnn (λ_ _ h=>nomatch h) (λ_ _ h=>nomatch h) rfl rfl
 refine Assign_Tuple_swapped (names:=[nm y,nm z]) ?_ rfl hw
 have noT:∀b,s.heap.objs.size<=b->¬T b:=λb hb h=>Hao _ (Hak hb (x.bs.lt _ h))
 refine Tuple_ (k:=k2) (pos:=vp) ?_
 rw[Zad (by intro v p h;exact nomatch h),Zad (by intro v p h;exact nomatch h)]
 refine Hbf (wpAny_Dict_empty ?_)
 refine Hbf (List_ (Hbe ?_))
 refine Hbk ?_ (Hap _)
 refine Hbe ?_
 refine wpAny_newTuple ?_ (by rw[sizeLine_eq];simp)
 refine wpAny_unpackItems_tuple (items:=#[.ref s.heap.objs.size,.ref (s.heap.push {cls:=.type "dict",data:=.dict #[]}).objs.size]) x.ha.handled ⟨_,Hb7 _ rfl,rfl,_,rfl⟩ λh' hx=>?_
 have sz1:(s.heap.push {cls:=.type "dict",data:=.dict #[]}).objs.size=s.heap.objs.size+1:=Hcx ..;have x3:Ext T s {s with heap:=h'}:=.of_keeps (tk:=s.toks) λb o e=>Yc4 (λx o=>hx x o) (Hai _ (Hai _ e))
 have hdict:h'.DictOf (PySem.strKind σ.prog σ.w) s.heap.objs.size []:=by
  obtain⟨o,es,ep,ho,r⟩:=(Heap.DictOf.new s.heap:(s.heap.push {cls:=.type "dict",data:=.dict #[]}).DictOf (PySem.strKind σ.prog σ.w) s.heap.objs.size []);exact⟨o,es,ep,Yc4 (λx o=>hx x o) (Hai _ ho),r⟩
 have hlist:h'.PlainList (s.heap.push {cls:=.type "dict",data:=.dict #[]}).objs.size #[]:=⟨0,Yc4 (λx o=>hx x o) (Hb7 _ rfl)⟩
 rw[sz1]at hlist ⊢;show wpAny _ A (assignInOrder [bindName env (nm z),bindName env (nm y)] [.ref (s.heap.objs.size+1),.ref s.heap.objs.size]) _ E {s with heap:=h'}
 have hdict:({s with heap:=h'}:Shared).heap.DictOf (PySem.strKind σ.prog σ.w) s.heap.objs.size []:=hdict
 have hlist:({s with heap:=h'}:Shared).heap.PlainList (s.heap.objs.size+1) #[]:=hlist
 generalize ({s with heap:=h'}:Shared)=s3 at x3 hdict hlist ⊢
 have at3:=x.ext x3;have new:∀b∈[s.heap.objs.size,s.heap.objs.size+1],s.heap.get? b=none:=λb hb=>Zae (by
  rcases jC hb with hb|hb
  ·exact hb▸Hac _
  ·exact List.mem_singleton.mp hb▸Haw _)
 obtain⟨ay,sty⟩:=Zb2 x.ok hf1;obtain⟨az,stz⟩:=Zb2 x.ok hf2;have neA:∀{b},b∈[s.heap.objs.size,s.heap.objs.size+1]->∀{a},Frm env a->b≠a:=λh a f e=>by
  obtain⟨o,e',_⟩:=x.rel.sl.frm_occ f;exact nS ((new _ h).symm.trans (e▸e'))
 refine Zrz (Ha7 (Ha5 ?_))
 refine stored x.ok at3.rel.sl .refl stz (Zbm x.bs x.rel.sl stz.frm) λs4 u'4 hst4=>?_
 refine Zrz (Ha7 (Ha5 ?_))
 refine stored x.ok hst4.slots .refl sty (Zbm x.bs x.rel.sl sty.frm) λs'5 u5 hst5=>?_
 refine Hau ?_
 have m1:s.heap.objs.size∈[s.heap.objs.size,s.heap.objs.size+1]:=.head _;have m2:s.heap.objs.size+1∈[s.heap.objs.size,s.heap.objs.size+1]:=.tail _ (.head _);have hd5:=(u5.dict (u'4.dict hdict (neA m1 stz.frm)) (neA m1 sty.frm));have hl5:=Za8 u5 (Za8 u'4 hlist (neA m2 stz.frm)) (neA m2 sty.frm);refine q s'5 _ (x.adds (ow1:=[(y,.dict []),(z,.lst [])]) (OA1:=[[s.heap.objs.size],[s.heap.objs.size+1]]) (λy' h=>?_) (x3.upd.trans ((u'4.mono λb e=>e▸stz.frm).trans (u5.mono λb e=>e▸sty.frm))) hst5.slots (λy' v h1 h=>?_) new (Nd2 (Ha9 (Hbj _)))
  (.cons hst5.var (.dict hd5 .nil) (.cons (hst5.others _ _ hnn.symm hst4.var) (.lst hl5 .nil) .nil)))
 ·rcases jC h with h|h
  ·exact h▸hy
  ·exact List.mem_singleton.mp h▸hz
 ·exact hst5.others _ v (λe=>h1 (hnm.inj _ _ e▸.head _)) (hst4.others _ v (λe=>h1 (hnm.inj _ _ e▸.tail _ (.head _))) (h.ext x3))
theorem Zb3.dictChange{x tk:Nat}{kds kds':List (List Nat×List D)}{a:Addr}{kvs':List (Str×Value)}{h':Heap}(hm:Zwf N2 env)(r:Zb3 T σ nm N2 env s.heap ρ ow OA)(hl:lk x ow=some (.dict kds))(hv:Zam env s.heap (nm x) (.ref a))(haO:a∈OA.flatten)
  (hp:h'.DictOf (PySem.strKind σ.prog σ.w) a kvs')(hsb:Heap.SameBut a s.heap h')(hr:KvL σ (Nof N2 OA) s.heap kvs' kds'):Upd T (λb=>b∈OA.flatten) s {s with heap:=h',toks:=tk}/\Zb3 T σ nm N2 env h' ρ (Zhu x (.dict kds') ow) OA:=by
 have hT:¬T a:=(r.apart a haO).2;have hnc:Za9 s.heap a:=by
  obtain⟨as,v,has,hv',ho⟩:=r.owned hl;obtain⟨a',kvs,e1,_,hp0,_⟩:=ho.inv;obtain⟨o,es,ep,e,_,hd,_⟩:=hp0;rw[←Zca ((hv.unique hv').trans e1)]at e;exact .of e (Zci (by rw[hd];rfl))
 have u:Upd T (·=a) s {s with heap:=h',toks:=tk}:=.of_but (tk:=tk) hsb (Zkm hp) hT hnc
 have u':Upd T (λb=>b∈OA.flatten) s {s with heap:=h',toks:=tk}:=u.mono λb e=>e▸haO
 refine⟨u',r.mutate (s':={s with heap:=h',toks:=tk}) hm hl u' λv as has hv' ho=>?_⟩
 obtain⟨a',kvs,e1,e2,_,_⟩:=ho.inv;rw[←hv.unique hv',e2,←Zca ((hv.unique hv').trans e1)];exact⟨.dict hp (hr.mono (u'.fits λb e=>.inr e)),λb _ _ hb=>hsb.2 b λe=>hb (e▸.head _)⟩
inductive Yeh(σ:Sg)(nm:Nat->Str)(N:Addr->Prop)(env:Env)(h:Heap)(OA:List (List Addr))(x:Nat)(kds:List (List Nat×List D)):Prop
 |mk (a:Addr) (kvs:List (Str×Value)) (haO:a∈OA.flatten) (hv:Zam env h (nm x) (.ref a)) (hp:h.DictOf (PySem.strKind σ.prog σ.w) a kvs) (hr:KvL σ N h kvs kds)
theorem Zb3.ownedD{x:Nat}{kds:List (List Nat×List D)}(r:Zb3 T σ nm N2 env s.heap ρ ow OA)(hl:lk x ow=some (.dict kds)):Yeh σ nm (Nof N2 OA) env s.heap OA x kds:=by
 obtain⟨as,v,has,hv,ho⟩:=r.owned hl;obtain⟨a,kvs,e1,e2,hp,hr⟩:=ho.inv;exact⟨a,kvs,List.mem_flatten.mpr ⟨_,has,e2▸.head _⟩,e1▸hv,hp,hr⟩
theorem At.notSys(x:At T σ mg mb s0 nm sc k A N2 env s ρ ow OA)(hsys:∃o,s0.heap.get? sysModules=some o){d:Addr}(haO:d∈OA.flatten):(d==sysModules)=false:=by
 obtain⟨o,ho⟩:=hsys;cases e:d==sysModules with
 |false=>rfl
 |true=>exact nS ((x.young.own d haO).symm.trans (Hb5 e▸ho))
theorem At.str(x:At T σ mg mb s0 nm sc k A N2 env s ρ ow OA){z:Nat}{key:List Nat}(hl:lk z ρ=some (.str key))(hk:Zi4 (sc.lookup (nm z))=true):E22 (λks t=>Zam env s.heap (nm z) (.str ks t)) λks _=>ks.cps.toList=key:=by
 obtain⟨v,h1,h2⟩:=x.rel.one z _ hl (by rw[x.ok.kindOf];exact hk)
 obtain⟨ks,t,e,h⟩:=h2.inv;exact⟨ks,t,e▸h1,h⟩
theorem At.kput(x:At T σ mg mb s0 nm sc k A N2 env s ρ ow OA)(hsp:σ.prog=prog)(hsw:σ.w=w)(hsys:∃o,s0.heap.get? sysModules=some o)(hσ:∀n,(σ.v n).natAbs<=2^1000)(hS:Zaq prog w T σ mg mb s0 nm fn C k n){y z:Nat}{np yp sp np2 ap yp2 lp cp bp pos:Pos}{e:Expr}{m:M}{kds:List (List Nat×List D)}{key:List Nat}{es:List D}{Q:Flow->Shared->Prop}
  (hd:(nm y==("__debug__":Str))=false)(hdz:(nm z==("__debug__":Str))=false)(hkz:Zi4 (sc.lookup (nm z))=true)(hline:(ap.endLine==cp.line)=true)(hok:okE nm fn fo sc e m=true)(hev:ev C n ρ (owD ow) m=some (.lst es))(hl:lk y ow=some (.dict kds))(hlz:lk z ρ=some (.str key))
  (hsm:small kds=true)(hs1:small es=true)(hs2:small ((lkS key kds).getD [])=true)
  (q:∀s',Zbw T σ nm N2 env OA s s' ρ (Zhu y (.dict (Zz4 key ((lkS key kds).getD []++es) kds)) ow) OA->Q .next s'):
  wpAny (model prog w) A (exec (.Assign [.Subscript (.Name (nm y) np) (.Name (nm z) yp) sp] (.BinOp (.Call (.Attribute (.Name (nm y) np2) "get" ap) [.Name (nm z) yp2,.List [] lp] [] cp) .Add e bp) pos) env) Q E s:=by
 obtain⟨d,kvs,haO,hv,hp,hr⟩:=x.rel.ownedD hl;rw[hsp,hsw]at hp;have hdS:=x.notSys hsys haO;obtain⟨ks,t,hvz,hks⟩:=x.str hlz hkz;have e1:backTo cp (starEach [.Name (nm z) yp2,.List [] lp] env)=[(false,PySem.eval (.Name (nm z) yp2) env),(false,PySem.eval (.List [] lp) env)]:=rfl;refine wpAny_Assign_Subscript ?_ rfl
 refine Hbs ?_
 refine Hbq (Zat rfl) rfl hline ?_
 rw[e1];refine hv.load x.ok.kind hd ?_
 refine⟨"dict","dict.get",PySem.F.plainAttrs_dict,PySem.F.slot_dict_get,PySem.F.type_dict_get,hp.typeIs,hp.mapOf.noDict,?_⟩
 refine wpAny_dict_get2 (knd:=PySem.strKind prog w) hdS ?_
 refine hvz.load x.ok.kind hdz ?_
 refine List_ (Hbe (Hbk ?_ (Hap _)))
 have x'1:Ext T s {s with heap:=s.heap.push {cls:=.type "list",data:=.seq #[]},toks:=s.toks+1}:=.push
 have hL:(s.heap.push {cls:=.type "list",data:=.seq #[]}).get? s.heap.objs.size=some (Za3 ([]:List Value).toArray 0):=Hb7 _ rfl;have noN:¬Nof N2 OA s.heap.objs.size:=λh=>absurd (x.occN _ h).lt (Hao _)
 refine⟨ks,valueAt kvs,strKind_is _ _ _ _,(x'1.upd (W:=λ_=>False)).dict hp (λh=>h) |>.mapOf,?_⟩
 have at1:=x.ext x'1;have hr'1:KvL σ (Nof N2 OA) (s.heap.push {cls:=.type "list",data:=.seq #[]}) kvs kds:=hr.mono x'1.fits;have f1:=hr'1.find ks;rw[hks]at f1;have hgot:Rd σ (Nof N2 OA) (s.heap.push {cls:=.type "list",data:=.seq #[]}) ((valueAt kvs ks).getD (.ref s.heap.objs.size)) (.lst ((lkS key kds).getD [])):=by
  cases e:lkS key kds with
  |none=>rw[e]at f1;rw[show valueAt kvs ks=none from f1];exact .lst noN hL .nil
  |some ds=>
   rw[e]at f1;obtain⟨v,g1,g2⟩:=f1;rw[g1];exact g2
 refine at1.eval hS hok hev λv2 s'2 x'2 r'2=>?_
 have occ2:=(at1.ext x'2).occN;refine Zzg (T:=T) hσ occ2 (x:=.lst ((lkS key kds).getD [])) (y:=.lst es) (z:=.lst ((lkS key kds).getD []++es)) (by show Zas (small _&&small _) _=_;rw[hs1,hs2];rfl) (hgot.mono x'2.fits) r'2 λv3 s3 x3 r'3=>?_
 have xx:=(x'1.trans x'2).trans x3;have at3:=x.ext xx;refine(hv.ext xx).load x.ok.kind hd ?_
 refine(hvz.ext xx).load x.ok.kind hdz ?_
 have hp3:=(xx.upd (W:=λ_=>False)).dict hp λh=>h
 refine wpAny_setItem_pairs (knd:=PySem.strKind prog w) (k:=ks) (kvs:=kvs) (strKind_is _ _ _ _) hp3 (λh' hp' hsb=>?_) (by rw[hr.length];exact Hag (Zay hsm) (by decide))
 obtain⟨_,_,_,_,_,_,_,_,hnd⟩:=hp;have hput:KvL σ (Nof N2 OA) s3.heap (PySem.stored kvs ks v3) (Zz4 key ((lkS key kds).getD []++es) kds):=by
  have:=KvL.put (k:=ks) r'3 (hr.mono xx.fits) hnd;rw[hks]at this;exact this
 obtain⟨u,r'4⟩:=at3.rel.dictChange (tk:=s3.toks+1) at3.hm hl (hv.ext xx) haO (by rw[hsp,hsw];exact hp') hsb hput
 exact q _ ((Zbw.of_ext x.rel xx).trans x.bs x.rel (.change r'4 u))
theorem At.kne(x:At T σ mg mb s0 nm sc k A N2 env s ρ ow OA)(hk:k<=100)(hsp:σ.prog=prog)(hsw:σ.w=w)(hS:Zaq prog w T σ mg mb s0 nm fn C k n)(hT:Zbg prog w T σ mg mb s0 nm fn C k n){y z:Nat}{np yp sp cp bp pos:Pos}{e mE:Expr}{m m':M}{kds:List (List Nat×List D)}{key:List Nat}{ds:List D}{d dm:D}{body:List Stmt}{Q:Flow->Shared->Prop}
  (hd:(nm y==("__debug__":Str))=false)(hdz:(nm z==("__debug__":Str))=false)(hkz:Zi4 (sc.lookup (nm z))=true)(hok:okE nm fn fo sc e m=true)(hok':okE nm fn fo sc mE m'=true)(hev:ev C n ρ (owD ow) m=some d)(hev':ev C n ρ (owD ow) m'=some dm)(htr:Zeu dm=some false)
  (hl:lk y ow=some (.dict kds))(hlz:lk z ρ=some (.str key))(hlk:lkS key kds=some ds)(heq:eqD d (.lst ds)=some true)
  (q:∀s',Ext T s s'->Q .next s'):
  wpAny (model prog w) A (exec (.If (.BoolOp .Or [.Compare e [.NotEq] [.Subscript (.Name (nm y) np) (.Name (nm z) yp) sp] cp,mE] bp) body [] pos) env) Q E s:=by
 obtain⟨dd,kvs,_,hv,hp,hr⟩:=x.rel.ownedD hl;rw[hsp,hsw]at hp;obtain⟨ks,t,hvz,hks⟩:=x.str hlz hkz;have hu:=x.ha.line hk;refine wpAny_If (isTrue_or (Hbw (x.eval hS hok hev λva s'1 x'1 r'1=>?_)))
 have hp'1:=(x'1.upd (W:=λ_=>False)).dict hp λh=>h
 refine wpAny_Subscript_Name_late ((hv.ext x'1).load x.ok.kind hd ((hvz.ext x'1).load x.ok.kind hdz ?_))
 have hf:=(hr.mono x'1.fits).find ks;rw[hks,hlk]at hf;obtain⟨vb,g1,g2⟩:=hf;refine⟨"dict",_,slot_dict_getitem.lookup,hp'1.typeIs,wpAny_getItem_of (knd:=PySem.strKind prog w) (k:=ks) (strKind_is _ _ _ _) hp'1.mapOf g1 ?_⟩
 refine Zso hu (x:=d) (y:=.lst ds) (r:=false) (by show(eqD d (.lst ds)).map (!·)=_;rw[heq];rfl) (r'1.mono (Ext.toks (tk:=s'1.toks+1) (T:=T)).fits) (g2.mono (Ext.toks (tk:=s'1.toks+1) (T:=T)).fits) ?_
 refine Hav ?_
 rw[if_neg Hca];have x'2:Ext T s {s'1 with toks:=s'1.toks+1}:=x'1.trans .toks
 have at2:=x.ext x'2;refine isTrue_or ?_
 refine hT at2.cx hok' hev' htr λs3 x3=>?_
 rw[if_neg Hca];refine isTrue_or_nil ?_
 exact Hbv (q s3 (x'2.trans x3))
theorem At.kloop(x:At T σ mg mb s0 nm sc k A N2 env s ρ ow OA)(hsp:σ.prog=prog)(hsw:σ.w=w)(hsys:∃o,s0.heap.get? sysModules=some o)(hnm:Zb6 nm){t y:Nat}{tp fp np cp pos:Pos}{kds:List (List Nat×List D)}{stmts:List Stmt}{out:Out}{g:List (Nat×D)->List (Nat×O)->Option Out}
  (hd:(nm y==("__debug__":Str))=false)(hsc:(sc.lookup ("sorted":Str)==some .globalImplicit)=true)(hl:lk y ow=some (.dict kds))(h64:kds.length<64)(htg:Zbc nm sc (.Name (nm t) tp) [t] true=true)(hft:Zai sc (nm t)=true)
  (hbody:∀(N2':Addr->Prop) (s':Shared) (ρ':List (Nat×D)) (ow':List (Nat×O)) (OA':List (List Addr)) (out':Out) (E':Value->Shared->Prop),At T σ mg mb s0 nm sc k A N2' env s' ρ' ow' OA'->g ρ' ow'=some out'->
   wpAny (model prog w) A (execs stmts env) (Zbv T σ nm N2' env OA' s' out') E' s')
  (hrun:Zc5 (Zd5 g [t] true) ((Zlg (kds.map (·.1))).map .str) ρ ow=some out):
  wpAny (model prog w) A (exec (.For (.Name (nm t) tp) (.Call (.Name ("sorted":Str) fp) [.Name (nm y) np] [] cp) stmts [] pos) env) (Zbv T σ nm N2 env OA s out) E s:=by
 refine x.loopI hnm (λE' Q' q=>?_) htg (λz hz=>List.mem_singleton.mp hz▸hft) (λv=>rfl) hbody hrun
 obtain⟨d,kvs,haO,hv,hp,hr⟩:=x.rel.ownedD hl;rw[hsp,hsw]at hp;have hdS:=x.notSys hsys haO;have hkind:env.kindOf ("sorted":Str)=some .globalImplicit:=by rw[x.ok.kindOf];exact Hb5 hsc
 refine Hbi (Hbg x.ok.kind hkind (Hbh (x.ok.glob▸x.bs.ng) (x.bs.gl.free 7 (by decide)) (x.ok.bui▸x.bs.nb) (x.bs.gl.val 7 (by decide)) ?_) (by decide))
 refine Hbo rfl (Zch (λv p h=>by exact nomatch h) ?_)
 rw[Zad (by intro v p h;exact nomatch h)]
 refine Hbf (hv.load x.ok.kind hd (Hbe ?_))
 refine Zoq x.ha.handled hdS hp (by rw[hr.length];exact h64) λh' tk L out' e ss hk hL hat hss hperm hsorted=>?_
 have x'1:Ext T s {s with heap:=h',toks:=tk}:=.of_keeps hk
 have noN:¬Nof N2 OA L:=λh=>by
  obtain⟨o,e,_⟩:=x.occN _ h;exact nS (hL.symm.trans e)
 have hrd:=Zj0 (σ:=σ) (N:=Nof N2 OA) (h:=h') hss;rw[Zmz hperm hsorted,hr.keys]at hrd;exact q (.ref L) _ x'1 (.of (x.bs.free_at x'1) (Zfz (λa ha=>(x.bs.step x'1).lt a ha) noN hat hrd))
theorem At.sw(x:At T σ mg mb s0 nm sc k A N2 env s ρ ow OA)(hS:Zaq prog w T σ mg mb s0 nm fn C k n)(hnm:Zb6 nm){y z:Nat}{p1 p2 tp vp pos:Pos}{kx k2:Nat}{e1 e2:Expr}{a b:M}{da db:D}{Q:Flow->Shared->Prop}
  (l1:(sc.lookup (nm y)==some .local)=true)(l2:(sc.lookup (nm z)==some .local)=true)(hf1:Zai sc (nm y)=true)(hf2:Zai sc (nm z)=true)(hline:(p1.line==p2.line)=true)(hne:y≠z)(hy:lk y ow=none)(hz:lk z ow=none)
  (ok1:okE nm fn fo sc e1 a=true)(ok2:okE nm fn fo sc e2 b=true)(hf:(foldedForSure 8 e1&&foldedForSure 8 e2)=false)(hc:(constantsAlone 8 e1&&constantsAlone 8 e2)=false)(v1:ev C n ρ (owD ow) a=some da)(v2:ev C n ρ (owD ow) b=some db)
  (q:∀s',Zbw T σ nm N2 env OA s s' ((y,da)::(z,db)::ρ) ow OA->Q .next s'):
  wpAny (model prog w) A (exec (.Assign [.Tuple [.Name (nm y) p1,.Name (nm z) p2] kx tp] (.Tuple [e1,e2] k2 vp) pos) env) Q E s:=by
 have hnn:nm y≠nm z:=λe=>hne (hnm.inj _ _ e)
 have hw:=Zi2 (tp:=tp) (vp:=vp) (kx:=kx) (k2:=k2) x.ok.kind (by rw[x.ok.kindOf];exact Hb5 l1) (by rw[x.ok.kindOf];exact Hb5 l2) hline hnn (Zbh ok1) (Zbh ok2) hf hc
 refine Assign_Tuple_swapped (names:=[nm y,nm z]) ?_ rfl hw
 refine Tuple_ (k:=k2) (pos:=vp) ?_
 rw[Zad (Zbh ok1),Zad (Zbh ok2)];refine Hbf (x.eval hS ok1 v1 λva s'1 x'1 r'1=>?_)
 refine Hbf ((x.ext x'1).eval hS ok2 v2 λvb s'2 x'2 r'2=>Hbe ?_)
 refine wpAny_newTuple ?_ (by rw[sizeLine_eq];simp)
 refine wpAny_unpackItems_tuple (items:=#[va,vb]) x.ha.handled ⟨_,Hb7 _ rfl,rfl,_,rfl⟩ λh' hx=>?_
 have keep:∀b o,s'2.heap.get? b=some o->h'.get? b=some o:=λb o e=>hx b o (Ha9 (Haj (Hai _ e))) (Hai _ e)
 have x3:Ext T s'2 {s'2 with heap:=h'}:=.of_keeps (tk:=s'2.toks) keep
 have x13:=x'1.trans (x'2.trans x3);have at3:=x.ext x13;have ra:Rd σ (Nof N2 OA) h' va da:=r'1.mono (x'2.trans x3).fits;have rb:Rd σ (Nof N2 OA) h' vb db:=r'2.mono x3.fits;show wpAny _ A (assignInOrder [bindName env (nm z),bindName env (nm y)] [vb,va]) _ E {s'2 with heap:=h'}
 refine Zrz (Ha7 (Ha5 ?_))
 obtain⟨az,stz⟩:=Zb2 x.ok hf2;refine stored at3.ok at3.rel.sl .refl stz (Zbm at3.bs at3.rel.sl stz.frm) λs4 u'4 hst4=>?_
 have fz:Zdk (Nof N2 OA) (Nof N2 OA) h' s4.heap:=u'4.fits λb e=>e▸.inl (x.hm.frm stz.frm)
 have p'4:Zbw T σ nm N2 env OA {s'2 with heap:=h'} s4 ((z,db)::ρ) ow OA:=.store hnm at3.hm at3.rel hz stz hst4 (rb.mono fz)
 have at'4:=at3.post p'4;refine Zrz (Ha7 (Ha5 ?_))
 refine at'4.put hnm hf1 hy (ra.mono fz) λs'5 p'5=>?_
 refine Hau (q s'5 ?_)
 exact(Zbw.of_ext x.rel x13).trans x.bs x.rel (p'4.trans at3.bs at3.rel p'5)
noncomputable def stE(st:Stmt)(fa:List Expr->Expr->Bool)(fg:Expr->Operator->Expr->Bool)(fe:Expr->Bool)(fi:Expr->List Stmt->List Stmt->Bool)(ff:Expr->Expr->List Stmt->List Stmt->Bool)(fr:Option Expr->Bool):Bool:=stX false st fa fg fe fi ff fr F2
theorem Zgz{st:Stmt}{fa:List Expr->Expr->Bool}{fg:Expr->Operator->Expr->Bool}{fe:Expr->Bool}{fi:Expr->List Stmt->List Stmt->Bool}{ff:Expr->Expr->List Stmt->List Stmt->Bool}{fr:Option Expr->Bool}{P:Prop}(h:stE st fa fg fe fi ff fr=true)
  (h1:∀ts v p,st= .Assign ts v p->fa ts v=true->P)(h2:∀t o v p,st= .AugAssign t o v p->fg t o v=true->P)(h3:∀v p,st= .Expr v p->fe v=true->P)(h4:∀c a b p,st= .If c a b p->fi c a b=true->P)
  (h5:∀t i b e p,st= .For t i b e p->ff t i b e=true->P)(h6:∀v p,st= .Return v p->fr v=true->P):P:=by
 refine(λs'=>?_:∀s',st=s'->stE s' fa fg fe fi ff fr=true->P) st rfl h
 cases s' with
 |Assign ts v p=>exact h1 ts v p
 |AugAssign t o v p=>exact h2 t o v p
 |Expr v p=>exact h3 v p
 |If c a b p=>exact h4 c a b p
 |For t i b e p=>exact h5 t i b e p
 |Return v p=>exact h6 v p
 |_=>exact λ_=>bF
variable {st:Stmt}
noncomputable def Yd0(st:Stmt)(f:Expr->Expr->Bool):Bool:=stE st (λts v=>on1 ts λt=>f t v) F3 F1 F3 F4 F1
theorem Zr6{f:Expr->Expr->Bool}(h:Yd0 st f=true):E32 (λt v p=>st= .Assign [t] v p) λt v _=>f t v=true:=
 Zgz h (λts v p e h=>let⟨t,h1,h2⟩:=Zmo h;⟨t,v,p,by rw[e,h1],h2⟩) b5 b3 b5 b6 b3
noncomputable def Ydh(st:Stmt)(f:Expr->Operator->Expr->Bool):Bool:=stE st F2 f F1 F3 F4 F1
theorem Zz7{f:Expr->Operator->Expr->Bool}(h:Ydh st f=true):E42 (λt o v p=>st= .AugAssign t o v p) λt o v _=>f t o v=true:=
 Zgz h b4 (λt o v p e h=>⟨t,o,v,p,e,h⟩) b3 b5 b6 b3
noncomputable def stEx(st:Stmt)(f:Expr->Bool):Bool:=stE st F2 F3 f F3 F4 F1
theorem Ykf{f:Expr->Bool}(h:stEx st f=true):E22 (λv p=>st= .Expr v p) λv _=>f v=true:=
 Zgz h b4 b5 (λv p e h=>⟨v,p,e,h⟩) b5 b6 b3
noncomputable def Ykg(st:Stmt)(f:Expr->List Stmt->List Stmt->Bool):Bool:=stE st F2 F3 F1 f F4 F1
theorem Yg9{f:Expr->List Stmt->List Stmt->Bool}(h:Ykg st f=true):E42 (λc a b p=>st= .If c a b p) λc a b _=>f c a b=true:=
 Zgz h b4 b5 b3 (λc a b p e h=>⟨c,a,b,p,e,h⟩) b6 b3
noncomputable def Ydi(st:Stmt)(f:Expr->Expr->List Stmt->Bool):Bool:=stE st F2 F3 F1 F3 (λt i b e=>e.isEmpty&&f t i b) F1
theorem Zz8{f:Expr->Expr->List Stmt->Bool}(h:Ydi st f=true):E42 (λt i b p=>st= .For t i b [] p) λt i b _=>f t i b=true:=
 Zgz h b4 b5 b3 b5 (λt i b e p q h=>⟨t,i,b,p,by rw[q,jE (Zaa h).1],(Zaa h).2⟩) b3
noncomputable def onO{α:Type}(o:Option α)(f:α->Bool):Bool:=match o with
 |none=>false
 |some a=>f a
noncomputable def Yhb(st:Stmt)(f:Expr->Bool):Bool:=stE st F2 F3 F1 F3 F4 λv=>onO v f
theorem Yhc{f:Expr->Bool}(h:Yhb st f=true):E22 (λv p=>st= .Return (some v) p) λv _=>f v=true:=
 Zgz h b4 b5 b3 b5 b6 λv p e h=>by
  cases v with
  |none=>exact bF h
  |some v=>exact⟨v,p,e,h⟩
noncomputable def Znq(e:Expr)(f:Str->Pos->Bool):Bool:=exE e f F3 F2 F3 F4 F3 F4 F3 F4 F3 F4 F4 F3 F4
theorem Zpe{f:Str->Pos->Bool}(h:Znq e f=true):E22 (λx y=>e= .Name x y) λx y=>f x y=true:=Zbr h (λx y q h=>⟨x,y,q,h⟩) b4 b3 b4 b5 b4 b5 b4 b5 b4 b5 b5 b4 b5
noncomputable def Yhy(e:Expr):Bool:=Ztf e List.isEmpty
theorem Ycw(h:Yhy e=true):∃p,e= .List [] p:=by
 obtain⟨xs,p,e,h⟩:=Znp h;exact⟨p,by rw[e,jE h]⟩
noncomputable def nilD(e:Expr):Bool:=Expr.casesOn (motive_1:=λ_=>Bool) e F3 F3 F4 F3 F4 F4 (λks vs _=>ks.isEmpty&&vs.isEmpty) F3 F4 F4 (λ_=>F4) F4 F2 F2 F2 F4 F4 F4 F2 F3 F3 F3 F2 F2 F2 F3 F4
theorem Yj1(h:nilD e=true):∃p,e= .Dict [] [] p:=by
 cases e with
 |Dict ks vs p=>exact⟨p,by rw[jE (Zaa h).1,jE (Zaa h).2]⟩
 |_=>exact bF h
noncomputable def Zzz(nm:Nat->Str)(sc:List (Str×NameKind))(id:Str)(x:Nat):Bool:=id==nm x&&(Zai sc id&&id != ("__debug__":Str))
noncomputable def Yka(nm:Nat->Str)(sc:List (Str×NameKind))(id:Str)(x:Nat):Bool:=id==nm x&&(Zi4 (sc.lookup id)&&id != ("__debug__":Str))
noncomputable def Yha(nm:Nat->Str)(sc:List (Str×NameKind))(st:Stmt)(x:Nat)(f:Expr->Bool):Bool:=Yd0 st λt v=>Zbt t λid=>Zzz nm sc id x&&f v
noncomputable def Yh3(nm:Nat->Str)(sc:List (Str×NameKind))(st:Stmt)(x:Nat)(name:Str)(f:List Expr->Bool):Bool:=stEx st λc=>Zia c λb me as=>me==name&&(Zbt b (λid=>Zzz nm sc id x)&&f as)
noncomputable def Zv1(nm:Nat->Str)(sc:List (Str×NameKind))(e:Expr)(x:Nat)(f:Expr->Bool):Bool:=Zxo e λb i=>Zbt b (λid=>Zzz nm sc id x)&&f i
noncomputable def st2(nm:Nat->Str)(sc:List (Str×NameKind))(st:Stmt)(x y:Nat)(f:Expr->Expr->Bool):Bool:=Yd0 st λt v=>Zdg t (λes=>on2 es λa b=>Znq a λid1 p1=>Znq b λid2 p2=>
 (Zzz nm sc id1 x&&Zzz nm sc id2 y)&&((sc.lookup id1==some .local&&sc.lookup id2==some .local)&&p1.line==p2.line))&&Zdg v λvs=>on2 vs f
noncomputable def okS(nm fn:Nat->Str)(fo:Nat)(sc:List (Str×NameKind))(ok:List Stmt->List S->Bool)(st:Stmt)(s:S):Bool:=match s with
 | .asg t uni e=>(match uni with
  |true=>on1 t λx=>Yha nm sc st x λv=>okE nm fn fo sc v e&&Znz v e
  |false=>Yd0 st λtgt v=>Zdg tgt λelts=>Zbc nm sc tgt t false&&((t.all λx=>Zai sc (nm x))&&(Zui sc elts v&&okE nm fn fo sc v e)))
 | .anew x e=>Yha nm sc st x λv=>okE nm fn fo sc v e&&Zg6 e
 | .aug x o e=>Ydh st λt o' v=>Zbt t λid=>Zzz nm sc id x&&(o==o'&&okE nm fn fo sc v e)
 | .app x e=>Yh3 nm sc st x "append" λas=>on1 as λv=>okE nm fn fo sc v e
 | .set x i e=>Yd0 st λt v=>Zv1 nm sc t x λiE=>okE nm fn fo sc v e&&okE nm fn fo sc iE i
 | .hnew x=>Yha nm sc st x λv=>Zh9 v λhid as=>(hid==("Headers":Str)&&sc.lookup hid==some .globalImplicit)&&on1 as Yhy
 | .hadd x a b=>Yh3 nm sc st x "add_header" λas=>on2 as λv u=>okE nm fn fo sc v a&&okE nm fn fo sc u b
 | .ite c a b=>Ykg st λtest body orelse=>okE nm fn fo sc test c&&(ok body a&&ok orelse b)
 | .loop t uni k it body=>Ydi st λtgt iter b=>(Zrc (okE nm fn fo sc) sc tgt k it iter||forG (okE nm fn fo sc) sc k it iter)&&(Zbc nm sc tgt t uni&&((t.all λx=>Zai sc (nm x))&&ok b body))
 | .ret e=>Yhb st λv=>okE nm fn fo sc v e
 | .rev x=>Yh3 nm sc st x "reverse" λas=>as.isEmpty
 | .saug x i o e=>Ydh st λt o' v=>Zv1 nm sc t x λiE=>o==o'&&(okE nm fn fo sc v e&&okE nm fn fo sc iE i)
 | .knew x y=>st2 nm sc st x y λd l=>nilD d&&Yhy l
 | .kput x y e=>Yd0 st λt v=>Zv1 nm sc t x (λi=>Zbt i λid=>Yka nm sc id y)&&Zs9 v λc o v=>o==.Add&&(okE nm fn fo sc v e&&Zia c λb me as=>me==("get":Str)&&(Zbt b (λid=>id==nm x)&&on2 as λa l=>Yhy l&&Zbt a λid=>id==nm y))
 | .kne e x y m=>Ykg st λtest _ els=>els.isEmpty&&Ybk test λop es=>op==.Or&&on2 es λc mE=>okE nm fn fo sc mE m&&Ybl c λv ops rs=>on1 ops (λo=>o==.NotEq)&&(okE nm fn fo sc v e&&on1 rs λs=>Zv1 nm sc s x λi=>Zbt i λid=>Yka nm sc id y)
 | .kloop t x body=>Ydi st λtgt it b=>Zbc nm sc tgt [t] true&&(Zai sc (nm t)&&(ok b body&&Zh9 it λfid as=>(fid==("sorted":Str)&&sc.lookup fid==some .globalImplicit)&&on1 as λa=>Zbt a λid=>Zzz nm sc id x))
 | .sw x y a b=>st2 nm sc st x y λe1 e2=>(okE nm fn fo sc e1 a&&okE nm fn fo sc e2 b)&&(!(foldedForSure 8 e1&&foldedForSure 8 e2)&& !(constantsAlone 8 e1&&constantsAlone 8 e2))
 | .frz _=>false
 | .bad=>false
noncomputable def Yf6(s:S):Bool:=Nat.beq s.ctorIdx (S.frz 0).ctorIdx
noncomputable def Yf5(s:S):Bool:=Nat.beq s.ctorIdx S.bad.ctorIdx
noncomputable def sel(b x y:Bool):Bool:=match b with
 |true=>x
 |false=>y
theorem selF{b x y:Bool}(hb:b=false)(h:sel b x y=true):y=true:=by rw[hb]at h;exact h
noncomputable def onC{α:Type}(l:List α)(f:α->List α->Bool):Bool:=match l with
 |[]=>false
 |a::r=>f a r
noncomputable def okB(nm fn:Nat->Str)(fo:Nat)(sc:List (Str×NameKind))(ok:List Stmt->List S->Bool)(sts:List Stmt)(ss:List S):Bool:=match ss with
 |[]=>sts.isEmpty
 |s::r=>sel (Yf6 s) (ok sts r) (sel (Yf5 s) r.isEmpty (onC sts λst sts=>okS nm fn fo sc ok st s&&ok sts r))
noncomputable def Zm7(nm fn:Nat->Str)(fo:Nat)(sc:List (Str×NameKind)):Nat->List Stmt->List S->Bool
 |0=>λ_ _=>false
 |f+1=>okB nm fn fo sc (Zm7 nm fn fo sc f)
theorem Zcx{id:Str}{x:Nat}(h:Zzz nm sc id x=true):id=nm x/\Zai sc (nm x)=true/\(nm x==("__debug__":Str))=false:=by
 have e:=Hb5 (Zaa h).1;rw[←e];exact⟨rfl,(Zaa (Zaa h).2).1,(Hcb _).mp (Zaa (Zaa h).2).2⟩
theorem Zmv{id:Str}{x:Nat}(h:Yka nm sc id x=true):id=nm x/\Zi4 (sc.lookup (nm x))=true/\(nm x==("__debug__":Str))=false:=by
 have e:=Hb5 (Zaa h).1;rw[←e];exact⟨rfl,(Zaa (Zaa h).2).1,(Hcb _).mp (Zaa (Zaa h).2).2⟩
inductive StNm(nm:Nat->Str)(sc:List (Str×NameKind))(st:Stmt)(x:Nat)(f:Expr->Bool):Prop
 |mk (np:Pos) (v:Expr) (pos:Pos) (e:st= .Assign [.Name (nm x) np] v pos) (hf:Zai sc (nm x)=true) (h:f v=true)
theorem Zy2{st:Stmt}{x:Nat}{f:Expr->Bool}(h:Yha nm sc st x f=true):StNm nm sc st x f:=by
 obtain⟨t,v,p,e,h⟩:=Zr6 h;obtain⟨id,np,e1,h⟩:=Zbf h;obtain⟨e2,hf,_⟩:=Zcx (Zaa h).1;exact⟨np,v,p,by rw[e,e1,e2],hf,(Zaa h).2⟩
inductive StMe(nm:Nat->Str)(sc:List (Str×NameKind))(st:Stmt)(x:Nat)(name:Str)(f:List Expr->Bool):Prop
 |mk (np ap:Pos) (as:List Expr) (p pos:Pos) (e:st= .Expr (.Call (.Attribute (.Name (nm x) np) name ap) as [] p) pos) (hf:Zai sc (nm x)=true) (hd:(nm x==("__debug__":Str))=false) (hl:(ap.endLine==p.line)=true) (h:f as=true)
theorem Ydj{st:Stmt}{x:Nat}{name:Str}{f:List Expr->Bool}(h:Yh3 nm sc st x name f=true):StMe nm sc st x name f:=by
 obtain⟨c,pos,e,h⟩:=Ykf h;obtain⟨b,me,ap,as,p,e1,hl,_,h⟩:=Zhm h;obtain⟨id,np,e2,h2⟩:=Zbf (Zaa (Zaa h).2).1;obtain⟨e3,hf,hd⟩:=Zcx h2;exact⟨np,ap,as,p,pos,by rw[e,e1,e2,e3,Hb5 (Zaa h).1],hf,hd,hl,(Zaa (Zaa h).2).2⟩
inductive Yij(nm:Nat->Str)(sc:List (Str×NameKind))(e:Expr)(x:Nat)(f:Expr->Bool):Prop
 |mk (np:Pos) (i:Expr) (p:Pos) (e1:e= .Subscript (.Name (nm x) np) i p) (hd:(nm x==("__debug__":Str))=false) (h:f i=true)
theorem Zqb{e:Expr}{x:Nat}{f:Expr->Bool}(h:Zv1 nm sc e x f=true):Yij nm sc e x f:=by
 obtain⟨b,i,p,e,h⟩:=Ztj h;obtain⟨id,np,e2,h2⟩:=Zbf (Zaa h).1;obtain⟨e3,_,hd⟩:=Zcx h2;exact⟨np,i,p,by rw[e,e2,e3],hd,(Zaa h).2⟩
inductive St2(nm:Nat->Str)(sc:List (Str×NameKind))(st:Stmt)(x y:Nat)(f:Expr->Expr->Bool):Prop
 |mk (p1 p2:Pos) (kx:Nat) (tp:Pos) (a b:Expr) (k2:Nat) (vp pos:Pos) (e:st= .Assign [.Tuple [.Name (nm x) p1,.Name (nm y) p2] kx tp] (.Tuple [a,b] k2 vp) pos) (hx:Zai sc (nm x)=true) (hy:Zai sc (nm y)=true)
  (lx:(sc.lookup (nm x)==some .local)=true) (ly:(sc.lookup (nm y)==some .local)=true) (hl:(p1.line==p2.line)=true) (h:f a b=true)
theorem st2S{st:Stmt}{x y:Nat}{f:Expr->Expr->Bool}(h:st2 nm sc st x y f=true):St2 nm sc st x y f:=by
 obtain⟨t,v,pos,e,h⟩:=Zr6 h;obtain⟨es,kx,tp,e1,h1⟩:=Zdx (Zaa h).1;obtain⟨vs,k2,vp,e2,h2⟩:=Zdx (Zaa h).2;obtain⟨a,b,e3,h3⟩:=Zz1 h2;obtain⟨u,w,e4,h4⟩:=Zz1 h1;obtain⟨id1,p1,e5,h5⟩:=Zpe h4;obtain⟨id2,p2,e6,h6⟩:=Zpe h5;obtain⟨e7,hx,_⟩:=Zcx (Zaa (Zaa h6).1).1;obtain⟨e8,hy,_⟩:=Zcx (Zaa (Zaa h6).1).2;have hl:=Zaa (Zaa h6).2;rw[e7,e8]at hl;exact⟨p1,p2,kx,tp,a,b,k2,vp,pos,by rw[e,e1,e2,e3,e4,e5,e6,e7,e8],hx,hy,(Zaa hl.1).1,(Zaa hl.1).2,hl.2,h3⟩
theorem Zbv.trans{out:Out}{f:Flow}(bs:Bs T mg mb s0 s)(r:Zb3 T σ nm N2 env s.heap ρ ow OA)(p:Zbw T σ nm N2 env OA s s' ρ' ow' OA')(h:Zbv T σ nm N2 env OA' s' out f s''):Zbv T σ nm N2 env OA s out f s'':=by
 cases out with
 |next ρ1 ow1=>
  obtain⟨e,OA1,q⟩:=h;exact⟨e,OA1,p.trans bs r q⟩
 |ret d=>
  obtain⟨v,e,hr,u⟩:=h;exact⟨v,e,hr,p.upd.seq u λa h=>h.elim (λh=>.inl (.inl h)) λh=>(p.new a h).elim (λh=>.inl (.inr h)) .inr⟩
theorem Zrm{f:Expr}{xs:List Expr}{kws:List Keyword}{p:Pos}(v:Value):foldedSetIterable (.Call f xs kws p) env v=pure v:=rfl
theorem Zuk{iter:Expr}{ms:List M}{name:Str}(h:Zef (okE nm fn fo sc) sc name iter ms=true)(v:Value):foldedSetIterable iter env v=pure v:=by
 obtain⟨id,q,xs,p,e,_⟩:=Zey h;rw[e];exact Zrm v
theorem Zul{tgt iter:Expr}{kk:Nat}{ms:List M}(h:Zrc (okE nm fn fo sc) sc tgt kk ms iter=true):∀v,foldedSetIterable iter env v=pure v:=by
 have h:(match Nat.beq kk 2 with
  |true=>Zef (okE nm fn fo sc) sc "zip" iter ms&&Zdg tgt λ_=>true
  |false=>(match Nat.beq kk 4 with
   |true=>Zef (okE nm fn fo sc) sc "reversed" iter ms&&Nat.beq ms.length 1
   |false=>Zmd (okE nm fn fo sc) sc kk ms iter))=true:=h
 cases q:Nat.beq kk 2 with
 |true=>rw[q]at h;exact Zuk (Zaa h).1
 |false=>
  rw[q]at h;cases q:Nat.beq kk 4 with
  |true=>rw[q]at h;exact Zuk (Zaa h).1
  |false=>rw[q]at h;exact Zn4 h env
noncomputable def Zqp(prog:Program)(w:World)(T:Addr->Prop)(σ:Sg)(mg mb:Str->Option Value)(s0:Shared)(nm fn:Nat->Str)(C:Nat->List D->Option D)(k n:Nat):Prop:=
 ∀(A:Around) (E:Value->Shared->Prop) (env:Env) (sc:List (Str×NameKind)) (N2:Addr->Prop) (s:Shared) (ρ:List (Nat×D)) (ow:List (Nat×O)) (OA:List (List Addr)) (fo f:Nat) (stmts:List Stmt) (ss:List S) (out:Out),
  At T σ mg mb s0 nm sc k A N2 env s ρ ow OA->Zm7 nm fn fo sc f stmts ss=true->run C n ss ρ ow=some out->wpAny (model prog w) A (execs stmts env) (Zbv T σ nm N2 env OA s out) E s
noncomputable def Goes(prog:Program)(w:World)(A:Around)(E:Value->Shared->Prop)(T:Addr->Prop)(σ:Sg)(nm:Nat->Str)(C:Nat->List D->Option D)(n:Nat)(N2:Addr->Prop)(env:Env)(OA:List (List Addr))(s:Shared)(rest:List Stmt)(r:List S)(out:Out):Prop:=
 ∀s' ρ' ow' OA',Zbw T σ nm N2 env OA s s' ρ' ow' OA'->run C n r ρ' ow'=some out->wpAny (model prog w) A (execs rest env) (Zbv T σ nm N2 env OA s out) E s'
theorem At.go{rest:List Stmt}{r:List S}{out:Out}(go:Goes prog w A E T σ nm C n N2 env OA s rest r out){st:Stmt}(h:∀Q:Flow->Shared->Prop,(∀s' OA',Zbw T σ nm N2 env OA s s' ρ' ow' OA'->Q .next s')->wpAny (model prog w) A (exec st env) Q E s)(hr:run C n r ρ' ow'=some out):
  wpAny (model prog w) A (execs (st::rest) env) (Zbv T σ nm N2 env OA s out) E s:=Hbx (h _ λs' OA' p=>go s' ρ' ow' OA' p hr)
noncomputable def Yik(o:Option Out)(g:List (Nat×D)->List (Nat×O)->Option Out)(out:Out):Prop:=match o with
 |none=>False
 |some (.next ρ ow)=>g ρ ow=some out
 |some (.ret d)=>out= .ret d
theorem Yhl{o:Option Out}{g:List (Nat×D)->List (Nat×O)->Option Out}{out:Out}(h:Zbu o g=some out):Yik o g out:=by
 cases o with
 |none=>exact nS h
 |some o=>
  cases o with
  |next ρ ow=>exact h
  |ret d=>exact(sI h).symm
theorem At.then_(x:At T σ mg mb s0 nm sc k A N2 env s ρ ow OA){rest:List Stmt}{r:List S}{out:Out}(go:Goes prog w A E T σ nm C n N2 env OA s rest r out){st:Stmt}{o:Option Out}(h:Zbu o (run C n r)=some out)
  (hs:∀out',o=some out'->wpAny (model prog w) A (exec st env) (Zbv T σ nm N2 env OA s out') E s):wpAny (model prog w) A (execs (st::rest) env) (Zbv T σ nm N2 env OA s out) E s:=by
 refine Hbx ?_
 have h:=Yhl h;cases o with
 |none=>exact h.elim
 |some o=>
  refine Ha4 (hs _ rfl) (λfl s' ho=>?_) λ_ _ e=>e
  cases o with
  |next ρ' ow'=>
   obtain⟨e,OA',p⟩:=ho;rw[e];exact go s' ρ' ow' OA' p h
  |ret d=>
   obtain⟨v,e,hh⟩:=ho;rw[e,show out= .ret d from h];exact⟨v,rfl,hh⟩
theorem At.execs_If(x:At T σ mg mb s0 nm sc k A N2 env s ρ ow OA)(hT:Zbg prog w T σ mg mb s0 nm fn C k n)(hR:Zqp prog w T σ mg mb s0 nm fn C k n){pos:Pos}{test:Expr}{m:M}{d:D}{t:Bool}{body orelse:List Stmt}{a b:List S}{fo f:Nat}{out:Out}
  (hok:okE nm fn fo sc test m=true)(hev:ev C n ρ (owD ow) m=some d)(ht:Zeu d=some t)(h1:Zm7 nm fn fo sc f body a=true)(h2:Zm7 nm fn fo sc f orelse b=true)(hr:run C n (if t then a else b) ρ ow=some out):
  wpAny (model prog w) A (exec (.If test body orelse pos) env) (Zbv T σ nm N2 env OA s out) E s:=by
 refine x.iff hT hok hev ht λs' x'=>?_
 have x'1:=x.ext x';refine Ha4 (hR A E env sc N2 s' ρ ow OA fo f _ _ out x'1 (by cases t;exact h2;exact h1) hr) (λfl s'' ho=>ho.trans x.bs x.rel (.of_ext x.rel x')) λ_ _ e=>e
theorem Zct{x:Nat}(h:Zar [x] ow=true):lk x ow=none:=Zbe h x (.head _)
theorem Zf5{x y:Nat}(h:(Zar [x,y] ow&& !Nat.beq x y)=true):lk x ow=none/\lk y ow=none/\x≠y:=by
 refine⟨Zbe (Zaa h).1 x (.head _),Zbe (Zaa h).1 y (.tail _ (.head _)),λe=>?_⟩
 have:=(Zaa h).2;rw[e,Hcm]at this;exact bF this
inductive OkSs(nm fn:Nat->Str)(fo:Nat)(sc:List (Str×NameKind))(stmts:List Stmt)(x:S)(r:List S):Prop
 |mk (f:Nat) (st:Stmt) (rest:List Stmt) (e:stmts=st::rest) (h:okS nm fn fo sc (Zm7 nm fn fo sc f) st x=true) (hr:Zm7 nm fn fo sc f rest r=true)
theorem Zdj{f:Nat}{stmts:List Stmt}{x:S}{r:List S}(h1:Yf6 x=false)(h2:Yf5 x=false)(h:Zm7 nm fn fo sc f stmts (x::r)=true):OkSs nm fn fo sc stmts x r:=by
 cases f with
 |zero=>exact bF h
 |succ f=>
  have h:=selF h2 (selF h1 h);cases stmts with
  |nil=>exact bF h
  |cons st rest=>exact⟨f,st,rest,rfl,(Zaa h).1,(Zaa h).2⟩
theorem Zym{f:Nat}{stmts:List Stmt}(h:Zm7 nm fn fo sc f stmts []=true):stmts=[]:=by
 cases f with
 |zero=>exact bF h
 |succ f=>exact jE h
theorem Zyl{f y:Nat}{stmts:List Stmt}{r:List S}(h:Zm7 nm fn fo sc f stmts (.frz y::r)=true):∃f,Zm7 nm fn fo sc f stmts r=true:=by
 cases f with
 |zero=>exact bF h
 |succ f=>exact⟨f,h⟩
theorem Zh6{y:Nat}{d:D}:∀z e,lk z ((y,d)::Zak [y] ρ)=some e->lk z ((y,d)::ρ)=some e:=Zdn λ_ _ h=>Zdo h
theorem nilI:Zjd 3=λds=>Zac (Zff ds) λd=>onS d λs=>Zas (Zc4 s) (some (Znk (Zhf false 0 s))):=rfl
section
variable {st:Stmt} {rest:List Stmt} {r:List S} {out:Out} (x:At T σ mg mb s0 nm sc k A N2 env s ρ ow OA) (go:Goes prog w A E T σ nm C n N2 env OA s rest r out)
include x go
theorem Yhd{t:List Nat}{uni:Bool}{e:M}(hnm:Zb6 nm)(hSn:∀m,Zaq prog w T σ mg mb s0 nm fn C k m/\Zbg prog w T σ mg mb s0 nm fn C k m){ok:List Stmt->List S->Bool}(h:okS nm fn fo sc ok st (.asg t uni e)=true)(hrun:run C (n+1) (.asg t uni e::r) ρ ow=some out):
  wpAny (model prog w) A (execs (st::rest) env) (Zbv T σ nm N2 env OA s out) E s:=by
 obtain⟨d,hev,r1⟩:=obS hrun;obtain⟨hno,r2⟩:=Zaj r1;obtain⟨ρ1,hb,r3⟩:=obS r2;cases uni with
 |true=>
  obtain⟨y,ht,h⟩:=Zmo h;obtain⟨np,v,pos,e1,hf,h⟩:=Zy2 h;rw[ht]at hno hb;rw[←sI hb]at r3;rw[e1];cases n with
  |zero=>exact nS hev
  |succ n=>exact At.go go (λQ q=>x.asg (hSn n).1 (hSn n).2 (hSn (n+1)).1 hnm (Zaa h).1 hf (Zaa h).2 hev (Zct hno) λs' p=>q s' OA (p.less Zh6)) r3
 |false=>
  obtain⟨tgt,v,pos,e1,h⟩:=Zr6 h;obtain⟨elts,kx,tp,e2,h⟩:=Zdx h;obtain⟨h1,h⟩:=Zaa h;obtain⟨h2,h⟩:=Zaa h;obtain⟨ρ2,hb2,hsub⟩:=Zqv hb;rw[e2]at h1;rw[e1,e2];exact At.go go (λQ q=>x.asgT (hSn n).1 hnm (Zaa h).2 (λy hy=>⟨bAll h2 y hy,Zbe hno y hy⟩) h1 (Zaa h).1 hev hb2 λs' p=>q s' OA (p.less hsub)) r3
theorem Ydk{y:Nat}{e:M}(hnm:Zb6 nm)(hSn:∀m,Zaq prog w T σ mg mb s0 nm fn C k m/\Zbg prog w T σ mg mb s0 nm fn C k m){ok:List Stmt->List S->Bool}(h:okS nm fn fo sc ok st (.anew y e)=true)(hrun:run C (n+1) (.anew y e::r) ρ ow=some out):
  wpAny (model prog w) A (execs (st::rest) env) (Zbv T σ nm N2 env OA s out) E s:=by
 obtain⟨d,hev,hrun⟩:=obS hrun;obtain⟨ds,hd,hrun⟩:=Zn8 hrun;obtain⟨hno,hrun⟩:=Zaj hrun;obtain⟨np,v,pos,e1,hf,h⟩:=Zy2 h;rw[hd]at hev;rw[e1];cases n with
 |zero=>exact nS hev
 |succ n=>exact At.go go (λQ q=>x.anew (hSn n).1 (hSn n).2 hnm (Zaa h).1 hf (Zaa h).2 hev (Zct (Zaa hno).1) λL s' p=>q s' _ p) hrun
theorem Ydm{t:List Nat}{uni:Bool}{kk:Nat}{it:List M}{body:List S}(hnm:Zb6 nm)(hS:Zaq prog w T σ mg mb s0 nm fn C k n)(hH:Zfo prog w T σ mg mb s0 k)(hR:Zqp prog w T σ mg mb s0 nm fn C k n){f:Nat}(h:okS nm fn fo sc (Zm7 nm fn fo sc f) st (.loop t uni kk it body)=true)
  (hrun:run C (n+1) (.loop t uni kk it body::r) ρ ow=some out):wpAny (model prog w) A (execs (st::rest) env) (Zbv T σ nm N2 env OA s out) E s:=by
 obtain⟨ds,hds,hrun⟩:=obS hrun;obtain⟨items,hitems,hrun⟩:=obS hrun;obtain⟨tgt,iter,b,pos,e1,h⟩:=Zz8 h;obtain⟨h1,h⟩:=Zaa h;obtain⟨h2,h⟩:=Zaa h;obtain⟨h3,h4⟩:=Zaa h;have hst:=λy hy=>bAll h3 y hy
 have hbody:∀(N2':Addr->Prop) (s':Shared) (ρ':List (Nat×D)) (ow':List (Nat×O)) (OA':List (List Addr)) (out':Out) (E':Value->Shared->Prop),At T σ mg mb s0 nm sc k A N2' env s' ρ' ow' OA'->run C n body ρ' ow'=some out'->
   wpAny (model prog w) A (execs b env) (Zbv T σ nm N2' env OA' s' out') E' s':=λN2' s' ρ' ow' OA' out' E' x' hr=>hR A E' env sc N2' s' ρ' ow' OA' fo f b body out' x' h4 hr
 rw[e1];refine x.then_ go hrun λout' ho=>?_
 rcases(Hb9 _ _).mp h1 with h1|h1
 ·exact x.loop hS hnm h1 h2 hst (Zul h1) hds hitems hbody ho
 ·obtain⟨g1,g2⟩:=Zaa h1;obtain⟨id,np,as,cp,e2,h1⟩:=Zey (Zaa g2).1;obtain⟨hid,h1⟩:=Zaa h1;obtain⟨hl,h1⟩:=Zaa h1;obtain⟨m,e3⟩:=Zt6 (Zaa g2).2;rw[e3]at h1 hds;obtain⟨a,as',e4,h5,h6⟩:=Zcz h1;rw[show kk=3 from Hb4 g1,nilI]at hitems;obtain⟨d,hd,e5⟩:=Zdb hds;rw[e5]at hitems;obtain⟨str,e6,hitems⟩:=Zgb hitems;obtain⟨hasc,hitems⟩:=Zaj hitems;rw[←sI hitems]at ho;rw[Hb5 hid]at e2 hl;rw[e6]at hd;rw[e2,e4,Zdc h6];exact hH.gen A E nm env sc N2 s ρ ow OA tgt np cp pos a b t uni str out' (run C n body) x hnm (Hb5 hl) (Zbh h5) (λE' Q q=>x.eval hS h5 hd λv s' x' r'=>by
   obtain⟨xs,tk,e7,e8⟩:=r'.inv;rw[e7];exact q _ _ s' x' e8) hasc h2 hst hbody ho
theorem Ydl{y z:Nat}{e:M}(hσ:∀n,(σ.v n).natAbs<=2^1000)(hS:Zaq prog w T σ mg mb s0 nm fn C k n)(hH:Zfo prog w T σ mg mb s0 k){ok:List Stmt->List S->Bool}(h:okS nm fn fo sc ok st (.kput y z e)=true)(hrun:run C (n+1) (.kput y z e::r) ρ ow=some out):
  wpAny (model prog w) A (execs (st::rest) env) (Zbv T σ nm N2 env OA s out) E s:=by
 obtain⟨kds,hl,hrun⟩:=Yc0 hrun;obtain⟨dk,hlz,hrun⟩:=obS hrun;obtain⟨key,ek,hrun⟩:=Zgb hrun;obtain⟨d,hev,hrun⟩:=obS hrun;obtain⟨es,ed,hrun⟩:=Zn8 hrun;obtain⟨hsm,hrun⟩:=Zaj hrun;rw[ek]at hlz;rw[ed]at hev;obtain⟨t,v,pos,e1,h⟩:=Zr6 h;obtain⟨h1,h⟩:=Zaa h;obtain⟨np,i,sp,e2,hd,h1⟩:=Zqb h1;obtain⟨id,yp,e3,h1⟩:=Zbf h1;obtain⟨e4,hk,hdz⟩:=Zmv h1;obtain⟨c,o,v2,bp,e5,h⟩:=Zpb h;obtain⟨ho,h⟩:=Zaa h;obtain⟨hok,h⟩:=Zaa h;obtain⟨b,me,ap,as,cp,e6,hline,_,h⟩:=Zhm h;obtain⟨hme,h⟩:=Zaa h;obtain⟨hb,h⟩:=Zaa h;obtain⟨id3,np2,e7,hb⟩:=Zbf hb;obtain⟨a,l,e8,h⟩:=Zz1 h;obtain⟨lp,e9⟩:=Ycw (Zaa h).1;obtain⟨id4,yp2,e10,h4⟩:=Zbf (Zaa h).2;have e:st= .Assign [.Subscript (.Name (nm y) np) (.Name (nm z) yp) sp] (.BinOp (.Call (.Attribute (.Name (nm y) np2) "get" ap) [.Name (nm z) yp2,.List [] lp] [] cp) .Add v2 bp) pos:=by rw[e1,e2,e3,e4,e5,e6,e7,e8,e9,e10,Hb5 ho,Hb5 hme,Hb5 hb,Hb5 h4]
 rw[e];exact At.go go (λQ q=>x.kput hH.sig.1 hH.sig.2 hH.sysm hσ hS hd hdz hk hline hok hev hl hlz (Zaa hsm).1 (Zaa (Zaa hsm).2).1 (Zaa (Zaa hsm).2).2 λs' p=>q s' OA p) hrun
theorem Yhe{y z:Nat}{e m:M}(hk:k<=100)(hS:Zaq prog w T σ mg mb s0 nm fn C k n)(hT:Zbg prog w T σ mg mb s0 nm fn C k n)(hH:Zfo prog w T σ mg mb s0 k){ok:List Stmt->List S->Bool}(h:okS nm fn fo sc ok st (.kne e y z m)=true)(hrun:run C (n+1) (.kne e y z m::r) ρ ow=some out):
  wpAny (model prog w) A (execs (st::rest) env) (Zbv T σ nm N2 env OA s out) E s:=by
 obtain⟨d,hev,hrun⟩:=obS hrun;obtain⟨kds,hl,hrun⟩:=Yc0 hrun;obtain⟨dk,hlz,hrun⟩:=obS hrun;obtain⟨key,ek,hrun⟩:=Zgb hrun;obtain⟨ds,hlk,hrun⟩:=obS hrun;obtain⟨t,heq,hrun⟩:=obS hrun;obtain⟨ht,hrun⟩:=Zaj hrun;obtain⟨dm,hev',hrun⟩:=obS hrun;obtain⟨u,htr,hrun⟩:=obS hrun;obtain⟨hu,hrun⟩:=Zaj hrun;rw[ht]at heq;rw[(Hcb _).mp hu]at htr;rw[ek]at hlz;obtain⟨test,body,els,pos,e1,h⟩:=Yg9 h;obtain⟨hels,h⟩:=Zaa h;obtain⟨op,es,bp,e2,h⟩:=Zta h;obtain⟨hop,h⟩:=Zaa h;obtain⟨c,mE,e3,h⟩:=Zz1 h;obtain⟨hok',h⟩:=Zaa h;obtain⟨v,ops,rs,cp,e4,h⟩:=Ztc h;obtain⟨h1,h⟩:=Zaa h;obtain⟨o,e5,ho⟩:=Zmo h1;obtain⟨hok,h⟩:=Zaa h;obtain⟨sb,e6,h⟩:=Zmo h;obtain⟨np,i,sp,e7,hd,h⟩:=Zqb h;obtain⟨id,yp,e8,h⟩:=Zbf h;obtain⟨e9,hkz,hdz⟩:=Zmv h;have e:st= .If (.BoolOp .Or [.Compare v [.NotEq] [.Subscript (.Name (nm y) np) (.Name (nm z) yp) sp] cp,mE] bp) body [] pos:=by rw[e1,e2,e3,e4,e5,e6,e7,e8,e9,Hb5 hop,Hb5 ho,jE hels]
 rw[e];exact At.go go (λQ q=>x.kne hk hH.sig.1 hH.sig.2 hS hT hd hdz hkz hok hok' hev hev' htr hl hlz hlk heq λs' x'=>q s' OA (.of_ext x.rel x')) hrun
theorem Zy3{t y:Nat}{body:List S}(hnm:Zb6 nm)(hH:Zfo prog w T σ mg mb s0 k)(hR:Zqp prog w T σ mg mb s0 nm fn C k n){f:Nat}(h:okS nm fn fo sc (Zm7 nm fn fo sc f) st (.kloop t y body)=true)(hrun:run C (n+1) (.kloop t y body::r) ρ ow=some out):
  wpAny (model prog w) A (execs (st::rest) env) (Zbv T σ nm N2 env OA s out) E s:=by
 obtain⟨kds,hl,hrun⟩:=Yc0 hrun;obtain⟨h64,hrun⟩:=Zaj hrun;obtain⟨tgt,iter,b,pos,e1,h⟩:=Zz8 h;obtain⟨htg,h⟩:=Zaa h;obtain⟨hf,h⟩:=Zaa h;obtain⟨h6,h⟩:=Zaa h;obtain⟨idt,tp,e2,h2⟩:=Zbf htg;obtain⟨fid,fp,as,cp,e3,h⟩:=Zey h;obtain⟨g,h⟩:=Zaa h;obtain⟨a,e4,h⟩:=Zmo h;obtain⟨id,np,e5,h⟩:=Zbf h;obtain⟨e6,_,hd⟩:=Zcx h;have hid:idt=nm t:=Hb5 (Zaa h2).1;rw[e2,hid]at htg;have hsc:=(Zaa g).2;rw[Hb5 (Zaa g).1]at hsc;have e:st= .For (.Name (nm t) tp) (.Call (.Name ("sorted":Str) fp) [.Name (nm y) np] [] cp) b [] pos:=by rw[e1,e2,hid,e3,e4,e5,e6,Hb5 (Zaa g).1]
 rw[e];exact x.then_ go hrun λout' ho=>x.kloop hH.sig.1 hH.sig.2 hH.sysm hnm hd hsc hl (bLe h64) htg hf (λN2' s' ρ' ow' OA' out' E' x' hr=>hR A E' env sc N2' s' ρ' ow' OA' fo f b body out' x' h6 hr) ho
end
theorem Zy4(x:At T σ mg mb s0 nm sc k A N2 env s ρ ow OA)(hS:Zaq prog w T σ mg mb s0 nm fn C k n)(hH:Zfo prog w T σ mg mb s0 k)(hσ:∀n,(σ.v n).natAbs<=2^1000)(hnm:Zb6 nm){st:Stmt}{rest:List Stmt}{st0:S}{r:List S}{out:Out}(go:Goes prog w A E T σ nm C n N2 env OA s rest r out)
  {ok:List Stmt->List S->Bool}(h:okS nm fn fo sc ok st st0=true)(hrun:run C (n+1) (st0::r) ρ ow=some out)(other:(match st0 with
   | .aug _ _ _| .app _ _| .set _ _ _| .hnew _| .hadd _ _ _| .rev _| .saug _ _ _ _| .knew _ _| .sw _ _ _ _=>true
   |_=>false)=true):wpAny (model prog w) A (execs (st::rest) env) (Zbv T σ nm N2 env OA s out) E s:=by
 cases st0 with
 |aug y o e=>
  obtain⟨a,hl,hrun⟩:=obS hrun;obtain⟨b,hev,hrun⟩:=obS hrun;obtain⟨d,hdd,hrun⟩:=obS hrun;obtain⟨hno,hrun⟩:=Zaj hrun;obtain⟨t,o',v,pos,e1,h⟩:=Zz7 h;obtain⟨id,np,e2,h⟩:=Zbf h;obtain⟨e3,hf,_⟩:=Zcx (Zaa h).1;obtain⟨ho,h⟩:=Zaa (Zaa h).2;rw[e1,e2,e3,←Hb5 ho];exact At.go go (λQ q=>x.aug hσ hS hnm h hf (Zct hno) hl hev hdd λs' p=>q s' OA (p.less Zh6)) hrun
 |app y e=>
  obtain⟨d,hev,hrun⟩:=obS hrun;obtain⟨ds,hl,hrun⟩:=Zyn hrun;obtain⟨hsm,hrun⟩:=Zaj hrun;obtain⟨np,ap,as,p,pos,e1,hf,hd,hline,h⟩:=Ydj h;obtain⟨v,e2,h⟩:=Zmo h;rw[e1,e2];exact At.go go (λQ q=>Zwp hS x.ha x.ok x.hm x.bs x.rel x.occ (by rw[←x.ok.kindOf];exact Zqg x.ok hf) hd hline h hev hl hsm λs' u r'=>q s' OA (.change r' u)) hrun
 |set y i e=>
  obtain⟨d,hev,hrun⟩:=obS hrun;obtain⟨di,hevi,hrun⟩:=obS hrun;obtain⟨j,ej,hrun⟩:=Ygv hrun;obtain⟨ds,hl,hrun⟩:=Zyn hrun;obtain⟨hb,hrun⟩:=Zaj hrun;obtain⟨t,v,pos,e1,h⟩:=Zr6 h;obtain⟨np,iE,sp,e2,hd,h⟩:=Zqb h;rw[ej]at hevi;rw[Zvb]at hrun;rw[e1,e2];exact At.go go (λQ q=>Zyz hS x.ha x.ok x.hm x.bs x.rel x.occ hd (Zaa h).1 (Zaa h).2 hev hevi hl (Zay (Zaa hb).2) (bLe (Zaa hb).1) λs' u r'=>q s' OA (.change r' u)) hrun
 |hnew y=>
  obtain⟨hno,hrun⟩:=Zaj hrun;obtain⟨np,v,pos,e1,hf,h⟩:=Zy2 h;obtain⟨hid,fp,as,cp,e2,h⟩:=Zey h;obtain⟨a,e3,h1⟩:=Zmo (Zaa h).2;obtain⟨lp,e4⟩:=Ycw h1;rw[e1,e2,e3,e4];exact At.go go (λQ q=>x.hnew hH hnm (Zaa (Zaa h).1).1 (Zaa (Zaa h).1).2 hf (Zct hno) λs' OA' p=>q s' OA' p) hrun
 |hadd y a b=>
  obtain⟨da,hev1,hrun⟩:=obS hrun;obtain⟨kk,ek,hrun⟩:=Zgb hrun;obtain⟨db,hev2,hrun⟩:=obS hrun;obtain⟨vv,ev',hrun⟩:=Zgb hrun;obtain⟨ds,hl,hrun⟩:=Yj4 hrun;obtain⟨hb,hrun⟩:=Zaj hrun;obtain⟨np,ap,as,p,pos,e1,hf,hd,hline,h⟩:=Ydj h;obtain⟨v,u,e2,h⟩:=Zz1 h;rw[ek]at hev1;rw[ev']at hev2;rw[e1,e2];exact At.go go (λQ q=>x.hadd hS hH hd hline (Zaa h).1 (Zaa h).2 hev1 hev2 hl (Zaa hb).1 (Zaa (Zaa hb).2).1 (Zaa (Zaa hb).2).2 λs' p=>q s' OA p) hrun
 |rev y=>
  obtain⟨ds,hl,hrun⟩:=Zyn hrun;obtain⟨hsm,hrun⟩:=Zaj hrun;obtain⟨np,ap,as,p,pos,e1,hf,hd,hline,h⟩:=Ydj h;rw[e1,jE h];exact At.go go (λQ q=>x.rev hd hline hl hsm λs' p=>q s' OA p) hrun
 |saug y i o e=>
  obtain⟨di,hevi,hrun⟩:=obS hrun;obtain⟨j,ej,hrun⟩:=Ygv hrun;obtain⟨ds,hl,hrun⟩:=Zyn hrun;obtain⟨a,hj,hrun⟩:=obS hrun;obtain⟨b,hev,hrun⟩:=obS hrun;obtain⟨d,haug,hrun⟩:=obS hrun;obtain⟨hsm,hrun⟩:=Zaj hrun;obtain⟨t,o',v,pos,e1,h⟩:=Zz7 h;obtain⟨np,iE,sp,e2,hd,h⟩:=Zqb h;obtain⟨ho,h⟩:=Zaa h;rw[ej]at hevi;rw[Zig]at hj;rw[Zvb]at hrun;rw[e1,e2,←Hb5 ho];exact At.go go (λQ q=>x.saug hσ hS hd (Zaa h).1 (Zaa h).2 hev hevi hl hsm hj haug λs' p=>q s' OA p) hrun
 |knew y z=>
  obtain⟨hno,hrun⟩:=Zaj hrun;obtain⟨g1,g2,g3⟩:=Zf5 hno;obtain⟨p1,p2,kx,tp,a,b,k2,vp,pos,e1,hx,hy,lx,ly,hl,h⟩:=st2S h;obtain⟨dp,e2⟩:=Yj1 (Zaa h).1;obtain⟨lp,e3⟩:=Ycw (Zaa h).2;rw[e1,e2,e3];exact At.go go (λQ q=>x.knew hH.sig.1 hH.sig.2 hnm lx ly hx hy hl g3 g1 g2 λs' OA' p=>q s' OA' p) hrun
 |sw y z a b=>
  obtain⟨da,v1,hrun⟩:=obS hrun;obtain⟨db,v2,hrun⟩:=obS hrun;obtain⟨hno,hrun⟩:=Zaj hrun;obtain⟨g1,g2,g3⟩:=Zf5 hno;obtain⟨p1,p2,kx,tp,a,b,k2,vp,pos,e1,hx,hy,lx,ly,hl,h⟩:=st2S h;rw[e1];exact At.go go (λQ q=>x.sw hS hnm lx ly hx hy hl g3 g1 g2 (Zaa (Zaa h).1).1 (Zaa (Zaa h).1).2 ((Hcb _).mp (Zaa (Zaa h).2).1) ((Hcb _).mp (Zaa (Zaa h).2).2) v1 v2 λs' p=>q s' OA (p.less (Zdn (Zdn λ_ _ h=>Zdo h)))) hrun
 |_=>exact bF other
theorem Zyu(hk:k<=100)(hnm:Zb6 nm)(hσ:∀n,(σ.v n).natAbs<=2^1000)(hC:Za1 prog w T σ mg mb s0 fn C k)(hH:Zfo prog w T σ mg mb s0 k)(hR:Zqp prog w T σ mg mb s0 nm fn C k n):Zqp prog w T σ mg mb s0 nm fn C k (n+1):=by
 intro A E env sc N2 s ρ ow OA fo f stmts ss out x hok hrun;have hSn:=Zvn hk hnm hσ hC;have Go:∀{f' rest r},Zm7 nm fn fo sc f' rest r=true->Goes prog w A E T σ nm C n N2 env OA s rest r out:=λ{f' rest r} okr s' ρ' ow' OA' p hr=>
  Ha4 (hR A E env sc N2 s' ρ' ow' OA' fo f' rest r out (x.post p) okr hr) (λfl s'' ho=>ho.trans x.bs x.rel p) λ_ _ e=>e
 cases ss with
 |nil=>
  rw[Zym hok,←sI hrun];exact Hbv ⟨rfl,OA,.refl x.rel⟩
 |cons st0 r=>
 cases st0 with
 |bad=>exact nS hrun
 |frz y=>
  obtain⟨f',hok'⟩:=Zyl hok;have hrun:(match lk y ow with
   |some o=>run C n r ((y,o.d)::Zak [y] ρ) (Zfv y ow)
   |none=>run C n r ρ ow)=some out:=hrun
  cases hl:lk y ow with
  |none=>
   rw[hl]at hrun;exact hR A E env sc N2 s ρ ow OA fo f' stmts r out x hok' hrun
  |some o=>
   rw[hl]at hrun;obtain⟨OA',p⟩:=Zbw.frz x.rel hl;exact Go hok' s _ _ OA' (p.less Zh6) hrun
 |asg t uni e=>
  obtain⟨f',st,rest,e0,h,okr⟩:=Zdj rfl rfl hok;rw[e0];exact Yhd x (Go okr) hnm hSn h hrun
 |anew y e=>
  obtain⟨f',st,rest,e0,h,okr⟩:=Zdj rfl rfl hok;rw[e0];exact Ydk x (Go okr) hnm hSn h hrun
 |ite c a b=>
  obtain⟨f',st,rest,e0,h,okr⟩:=Zdj rfl rfl hok;obtain⟨test,body,orelse,pos,e1,h⟩:=Yg9 h;obtain⟨d,hev,hrun⟩:=obS hrun;obtain⟨t,ht,hrun⟩:=obS hrun;rw[e0,e1];cases t with
  |true=>exact x.then_ (Go okr) hrun λout' ho=>x.execs_If (hSn n).2 hR (Zaa h).1 hev ht (Zaa (Zaa h).2).1 (Zaa (Zaa h).2).2 ho
  |false=>exact x.then_ (Go okr) hrun λout' ho=>x.execs_If (hSn n).2 hR (Zaa h).1 hev ht (Zaa (Zaa h).2).1 (Zaa (Zaa h).2).2 ho
 |loop t uni kk it body=>
  obtain⟨f',st,rest,e0,h,okr⟩:=Zdj rfl rfl hok;rw[e0];exact Ydm x (Go okr) hnm (hSn n).1 hH hR h hrun
 |ret e=>
  obtain⟨f',st,rest,e0,h,okr⟩:=Zdj rfl rfl hok;obtain⟨v,pos,e1,h⟩:=Yhc h;obtain⟨d,hev,hrun⟩:=obS hrun;rw[e0,e1,←sI hrun];exact Hbx (x.ret (hSn n).1 h hev λv s' x' r'=>⟨v,rfl,r'.mono λa o hn e _=>⟨λh=>hn (.inl h),e⟩,x'.upd⟩)
 |kput y z e=>
  obtain⟨f',st,rest,e0,h,okr⟩:=Zdj rfl rfl hok;rw[e0];exact Ydl x (Go okr) hσ (hSn n).1 hH h hrun
 |kne e y z m=>
  obtain⟨f',st,rest,e0,h,okr⟩:=Zdj rfl rfl hok;rw[e0];exact Yhe x (Go okr) hk (hSn n).1 (hSn n).2 hH h hrun
 |kloop t y body=>
  obtain⟨f',st,rest,e0,h,okr⟩:=Zdj rfl rfl hok;rw[e0];exact Zy3 x (Go okr) hnm hH hR h hrun
 |_=>
  obtain⟨f',st,rest,e0,h,okr⟩:=Zdj rfl rfl hok;rw[e0];exact Zy4 x (hSn n).1 hH hσ hnm (Go okr) h hrun rfl
theorem Zz6(hk:k<=100)(hnm:Zb6 nm)(hσ:∀n,(σ.v n).natAbs<=2^1000)(hC:Za1 prog w T σ mg mb s0 fn C k)(hH:Zfo prog w T σ mg mb s0 k)(n:Nat):Zqp prog w T σ mg mb s0 nm fn C k n:=by
 induction n with
 |zero=>exact λ_ _ _ _ _ _ _ _ _ _ _ _ _ _ _ _ h=>nS h
 |succ n ih=>exact Zyu hk hnm hσ hC hH ih
theorem Zi9(m:Str)(kd:NameKind)(r:List (Str×NameKind))(k:Nat)(acc:List (Str×Addr)):cellsFrom k ((m,kd)::r) acc=cellsFrom (k+1) r ((m,k)::acc)\/cellsFrom k ((m,kd)::r) acc=cellsFrom k r acc:=by
 show(if kd==.cell then cellsFrom (k+1) r ((m,k)::acc)else cellsFrom k r acc)=_\/(if kd==.cell then cellsFrom (k+1) r ((m,k)::acc)else cellsFrom k r acc)=_
 by_cases q:(kd==.cell)=true
 ·rw[if_pos q];exact .inl rfl
 ·rw[if_neg q];exact .inr rfl
theorem Zja(names:List (Str×NameKind)):∀(k:Nat) (acc:List (Str×Addr)),names.Pairwise (λp q=>p.1≠q.1)->(∀p∈names,∀q∈acc,p.1≠q.1)->(∀n c,(n,c)∈acc->acc.lookup n=some c)->
  ∀n c,(n,c)∈cellsFrom k names acc->(cellsFrom k names acc).lookup n=some c:=by
 induction names with
 |nil=>exact λk acc _ _ h=>h
 |cons p r ih=>
  intro k acc hp hd h;obtain⟨m,kd⟩:=p;obtain⟨p1,p2⟩:=List.pairwise_cons.mp hp;rcases Zi9 m kd r k acc with e|e
  ·rw[e];refine ih (k+1) ((m,k)::acc) p2 (λp hp q hq=>?_) λn c hm=>?_
   ·rcases jC hq with e|hq
    ·rw[e];exact(p1 p hp).symm
    ·exact hd p (.tail _ hp) q hq
   ·rw[Hcq];rcases jC hm with e|hm
    ·injection e with e1 e2
     rw[e1,e2,Hcl]
    ·rw[beq_false_of_ne λe=>hd (m,kd) (.head _) (n,c) hm e.symm]
     exact h n c hm
  ·rw[e];exact ih k acc p2 (λp hp q hq=>hd p (.tail _ hp) q hq) h
theorem Zne{kindOf:Str->Option NameKind}{y:Str}(binds:List (Str×Value)):∀{m:Str->Option Value},(∀b∈binds,b.1≠y)->PySem.bindL kindOf binds m y=m y:=by
 induction binds with
 |nil=>exact λ_=>rfl
 |cons b r ih=>
  intro m h;show PySem.bindL kindOf r (if kindOf b.1=some .local then λx=>if x=b.1 then some b.2 else m x else m) y=_
  rw[ih λb hb=>h b (.tail _ hb)]
  split
  ·exact if_neg λe=>h b (.head _) e.symm
  ·rfl
theorem Znd{kindOf:Str->Option NameKind}{y:Str}(binds:List (Str×Value)):∀{m:Str->Option Value},(∀b∈binds,b.1≠y)->bindC kindOf binds m y=m y:=by
 induction binds with
 |nil=>exact λ_=>rfl
 |cons b r ih=>
  intro m h;show bindC kindOf r (if kindOf b.1=some .local then m else λx=>if x=b.1 then some b.2 else m x) y=_
  rw[ih λb hb=>h b (.tail _ hb)]
  split
  ·rfl
  ·exact if_neg λe=>h b (.head _) e.symm
inductive Yh5(σ:Sg)(N:Addr->Prop)(h:Heap)(kindOf:Str->Option NameKind)(binds:List (Str×Value))(m cm:Str->Option Value)(y:Str)(d:D):Prop
 |mk (v:Value) (hr:Rd σ N h v d) (h1:kindOf y=some .local->PySem.bindL kindOf binds m y=some v) (h2:kindOf y=some .cell->bindC kindOf binds cm y=some v)
theorem Zqx(hi:Inj nm){kindOf:Str->Option NameKind}(xs:List Nat):∀{vs:List Value} {ds:List D} {m cm:Str->Option Value},Za6 xs=true->RdL σ N h vs ds->∀x d,lk x (xs.zip ds)=some d->Yh5 σ N h kindOf ((xs.map nm).zip vs) m cm (nm x) d:=by
 induction xs with
 |nil=>exact λ_ _ _ _ h=>nS h
 |cons y xs ih=>
  intro vs ds m cm hd r x d hl;cases ds with
  |nil=>exact nS hl
  |cons d' ds=>
  obtain⟨v,ws,e,hr,rs⟩:=r.inv;obtain⟨h1,h2⟩:=Zaa (show(!(xs.any λz=>Nat.beq y z)&&Za6 xs)=true from hd)
  have hl:lk x ((y,d')::xs.zip ds)=some d:=hl;rw[Zav]at hl;rw[e];by_cases q:x=y
  ·rw[if_pos q]at hl;have hne:∀b∈(xs.map nm).zip ws,b.1≠nm x:=λb hb e=>by
    have hb:=(List.of_mem_zip (a:=b.1) (b:=b.2) hb).1;obtain⟨z,hz,he⟩:=List.mem_map.mp hb;have hb:=List.any_eq_false.mp ((Hcb _).mp h1) z hz;rw[←hi _ _ (e.symm.trans he.symm),q]at hb;exact hb (Hcm _)
   refine⟨v,sI hl▸hr,λhk=>?_,λhk=>?_⟩
   ·show PySem.bindL kindOf ((xs.map nm).zip ws) (if kindOf (nm y)=some .local then λz=>if z=nm y then some v else m z else m) (nm x)=_
    rw[Zne _ hne,if_pos (q▸hk),if_pos (Hb6 nm q)]
   ·show bindC kindOf ((xs.map nm).zip ws) (if kindOf (nm y)=some .local then cm else λz=>if z=nm y then some v else cm z) (nm x)=_
    rw[Znd _ hne,if_neg (by rw[←q,hk];exact λh=>nomatch h),if_pos (Hb6 nm q)]
  ·rw[if_neg q]at hl;obtain⟨v',h1,h2,h3⟩:=ih (m:=if kindOf (nm y)=some .local then λz=>if z=nm y then some v else m z else m) (cm:=if kindOf (nm y)=some .local then cm else λz=>if z=nm y then some v else cm z) h2 rs x d hl
   exact⟨v',h1,h2,h3⟩
noncomputable def strV(v:Value):Bool:=match v with
 | .str _ _=>true
 |_=>false
theorem Zov{l:List Value}(h:TriplesOk l):∀v,l[1]?=some v->strV v=false:=by
 cases l with
 |nil=>exact λ_=>nS
 |cons v1 r1=>cases r1 with
  |nil=>exact λ_=>nS
  |cons v2 r2=>
   intro v e;rw[←sI e];cases v2 with
   |str _ _=>cases v1<;>cases r2<;>exact h.elim
   |_=>rfl
theorem Zdm(bs:Bs T mg mb s0 s){cd:Value}{q:Str}(h:s0.heap.CodeRec cd q):s.heap.CodeRec cd q:=by
 obtain⟨c,o,vs,t,e,g,d,r⟩:=h;refine⟨c,o,vs,t,e,bs.ext.keep c o (λht=>?_) g,d,r⟩
 obtain⟨ps,e',tr,_⟩:=bs.tabs c ht;have d':=d.symm.trans (Hb6 Obj.data (sI (g.symm.trans e')));have d':vs=ps:=by injection d'
 rw[←Array.getElem?_toList,d']at r;exact bT (Zov tr _ r)
structure Zna(s0:Shared)(a:Addr)(fd:FuncData)(body:List Stmt):Prop where
 at':∃o,s0.heap.get? a=some o/\o.data= .func fd
 lim:s0.heap.NoLimit
 rec':s0.heap.CodeRec fd.code fd.qualname
 body:fd.body= .stmts body
 clo:fd.closure=[]
 glob:fd.globals=mainGlobals
 bui:fd.builtins=builtinsNs
 co:fd.scope.isCoroutine=false
 gen:fd.scope.isGenerator=false
 kind:fd.scope.kind= .function
 names:Zeq [] fd.scope.names=true
noncomputable def Zgc(nm:Nat->Str)(fd:FuncData)(xs:List Nat):Prop:=∀vs:List Value,vs.length=xs.length->bindArgs fd ⟨vs,[]⟩=pure ((xs.map nm).zip vs)
theorem Yew{u k:Nat}(h:u<=10*k+20):u+3<=10*(k+1)+20:=(ln2 (.a (.v 0) (.k 3)) (.a (.m 10 (.a (.v 1) (.k 1))) (.k 20)) [(1,.v 0,.a (.m 10 (.v 1)) (.k 20))] rfl h)
theorem Ygd{y:Nat}{d:D}{xs:List Nat}:∀{ds:List D},lk y (xs.zip ds)=some d->y∈xs:=by
 induction xs with
 |nil=>exact nS
 |cons z xs ih=>
  intro ds h;cases ds with
  |nil=>exact nS h
  |cons d' ds=>
   have h:lk y ((z,d')::xs.zip ds)=some d:=h;rw[Zav]at h;by_cases q:y=z
   ·rw[q];exact .head _
   ·rw[if_neg q]at h;exact .tail _ (ih h)
theorem Zph{y:Str}{sc:List (Str×NameKind)}(h:Zai sc y=true):sc.lookup y=some .local\/sc.lookup y=some .cell:=((Hb9 _ _).mp (Zaa h).1).imp Hb5 Hb5
theorem Zkr(hnm:Zb6 nm){a:Addr}{fd:FuncData}{body:List Stmt}(F:Zna s0 a fd body){xs:List Nat}(hxs:Za6 xs=true)(hfit:(xs.all λx=>Zai fd.scope.names (nm x))=true){vs:List Value}{ds:List D}
  (ha:AOk k A)(bs:Bs T mg mb s0 s)(occ:∀a,N a->Occ s.heap a)(rs:RdL σ N s.heap vs ds){env:Env}(henv:env=callEnvC fd s.heap.objs.size a){s'1:Shared}
  (x:InCallC s env.locals (PySem.bindL env.kindOf ((xs.map nm).zip vs) λ_=>none) env.cells (bindC env.kindOf ((xs.map nm).zip vs) λ_=>none) s'1):
  At T σ mg mb s0 nm fd.scope.names (k+1) (A.deeper env) (λb=>N b\/Frm env b) env s'1 (xs.zip ds) [] []/\Ext T s s'1/\∀b,Frm env b->s.heap.get? b=none:=by
 obtain⟨nk,np⟩:=Zba F.names;have hloc:env.locals=s.heap.objs.size:=by rw[henv];rfl
 have hcel:env.cells=cellsFrom (s.heap.objs.size+1) fd.scope.names []:=by rw[henv];rfl
 have hnam:env.scope=fd.scope:=by rw[henv];rfl
 have hfunc:=Zja fd.scope.names (s.heap.objs.size+1) [] np (λ_ _ _ h=>nomatch h) (λ_ _ h=>nomatch h)
 have ext:Ext T s s'1:=by
  obtain⟨h1,tk,e⟩:=x.toInCall.same;have hk:=x.toInCall.keep;rw[e]at hk ⊢;exact .of_keeps hk
 have frmF:∀b,Frm env b->s.heap.objs.size<=b:=λb h=>by
  rcases h with e|⟨n,hm⟩
  ·exact e▸x.toInCall.fresh
  ·exact Haz (hloc▸x.above n b hm)
 have frmN:∀b,Frm env b->s.heap.get? b=none:=λb h=>Zae (frmF b h)
 have sl:Zbj env s'1.heap:=⟨⟨_,x.toInCall.ns⟩,λn c hm=>⟨_,x.cell n c (by rw[hcel]at hm ⊢;exact hfunc n c hm)⟩,x.apart⟩
 have ok:Zcg env fd.scope.names:=by
  refine⟨by rw[hnam];exact F.kind,by rw[hnam],by rw[henv];exact F.glob,by rw[henv];exact F.bui,λy hy=>?_⟩
  rcases hy with hy|hy
  ·obtain⟨c,hc,_⟩:=Zap fd.scope.names (s.heap.objs.size+1) [] np (mem_of_lookup hy);exact⟨c,by rw[hcel];exact hc⟩
  ·have:=(nk y .free (mem_of_lookup hy)).1 rfl;exact this.elim (λh=>nomatch h) λh=>nomatch h
 have fit:Zdk N (Nof (λb=>N b\/Frm env b) []) s.heap s'1.heap:=λb o hn e t=>⟨λh=>by
  rcases h with(h|h)|h
  ·exact hn h
  ·exact nS ((frmN b h).symm.trans e)
  ·exact(nomatch h),x.toInCall.keep b o e⟩
 refine⟨⟨⟨ha.handled,Hax ha.depth,?_⟩,ok,⟨.inr (.inl rfl),λn c hm=>.inr (.inr ⟨n,hm⟩)⟩,bs.step ext,⟨λy d hl hk=>?_,.nil,.nil,λb hb=>(nomatch hb),sl⟩,λb h=>?_,⟨λb h=>bs.free (frmN b h),λb hb=>(nomatch hb)⟩⟩,ext,frmN⟩
 ·exact Yew ha.units
 ·obtain⟨v,h1,h2,h3⟩:=Zqx hnm.inj (kindOf:=env.kindOf) xs (m:=λ_=>none) (cm:=λ_=>none) hxs rs y d hl
  refine⟨v,?_,h1.mono fit⟩
  have hy:y∈xs:=Ygd hl;have hf:=bAll hfit y hy;rcases Zph hf with q'|q'
  ·have q:env.kindOf (nm y)=some .local:=by rw[ok.kindOf];exact q'
   exact .inl ⟨q,_,x.toInCall.ns,h2 q⟩
  ·have q:env.kindOf (nm y)=some .cell:=by rw[ok.kindOf];exact q'
   obtain⟨c,hc⟩:=ok.cells (nm y) (.inl q');refine .inr ⟨.inl q,(Hcb _).mp (Zaa hf).2,c,hc,?_⟩
   rw[←h3 q];exact x.cell (nm y) c hc
 ·rcases h with h|h
  ·exact(occ b h).ext ext
  ·exact sl.frm_occ h
theorem Ybr(hk:k+1<=100)(hnm:Zb6 nm)(hσ:∀n,(σ.v n).natAbs<=2^1000)(hC:Za1 prog w T σ mg mb s0 fn C (k+1))(hH:Zfo prog w T σ mg mb s0 (k+1)){a:Addr}{fd:FuncData}{body:List Stmt}(F:Zna s0 a fd body){xs:List Nat}{ds:List D}{d:D}{ss:List S}{f:Nat}
  (hbind:Zgc nm fd xs)(hxs:Za6 xs=true)(hfit:(xs.all λx=>Zai fd.scope.names (nm x))=true)(hlen:xs.length=ds.length)(hok:Zm7 nm fn fo fd.scope.names f body ss=true)(hrun:run C n ss (xs.zip ds) []=some (.ret d)):
  ∀(A:Around) (E:Value->Shared->Prop) (N:Addr->Prop) (s:Shared) (vs:List Value) (Q:Value->Shared->Prop),AOk k A->Bs T mg mb s0 s->(∀a,N a->Occ s.heap a)->RdL σ N s.heap vs ds->Zd9 T σ N s d Q->wpAny (model prog w) A (call (.ref a) vs) Q E s:=by
 intro A E N s vs Q ha bs occ rs q;obtain⟨o,ho,hd⟩:=F.at';obtain⟨nk,np⟩:=Zba F.names;have hfit':=λy hy=>bAll hfit y hy
 refine wpAny_call (codeAny_call_cells (fd:=fd) (body:=body) (binds:=(xs.map nm).zip vs) (ha.room (Hba hk)) (bs.ext.keep2 a o ho (Za0 (by rw[hd];rfl))) hd (bs.ext.nolimit F.lim) (Zdm bs F.rec')
  F.body (hbind vs (by rw[hlen,rs.length])) F.clo (λy hy=>?_) (λs'1 x=>?_) F.co F.gen F.kind)
 ·have:=(List.of_mem_zip (a:=y.1) (b:=y.2) hy).1;obtain⟨z,hz,he⟩:=List.mem_map.mp this;have hf:=hfit' z hz;rw[he]at hf;rcases Zph hf with q|q
  ·exact .inl q
  ·obtain⟨c,hc,_⟩:=Zap fd.scope.names (s.heap.objs.size+1) [] np (mem_of_lookup q);exact .inr ⟨q,by rw[hc];rfl⟩
 ·obtain⟨at1,ext,frmN⟩:=Zkr hnm F hxs hfit ha bs occ rs rfl x;refine Ha4 (Zz6 hk hnm hσ hC hH n _ _ _ _ _ s'1 _ _ _ fo f body ss _ at1 hok hrun) (λfl s' ho=>?_) λ_ _ e=>e
  obtain⟨v,ev,hr,u⟩:=ho;rw[ev];refine q v s' ?_ (hr.mono λb o hn e _=>⟨λh=>hn (.inl h),e⟩)
  exact Zcq.ext2 ext u.gone λb h=>h.elim (frmN b) λh=>nomatch h
noncomputable def Zb9:Bool->List Nat->List Nat
 |_,[]=>[]
 |b,c::r=>bI (Nat.beq c 10) (bI b (Zb9 false r) (13::10::Zb9 false r)) (bI (Nat.beq c 13) (13::10::Zb9 true r) (c::Zb9 false r))
noncomputable def Zkn:Bool->List Nat->List Nat
 |_,[]=>[]
 |b,c::r=>bI (b&&Nat.beq c 46) [46,46] [c]++Zkn (Nat.beq c 10) r
noncomputable def Zg8(t:List Nat):List Nat:=Zkn true (Zb9 false t)
noncomputable def onG{α:Type}(d:D)(f:List D->Option α):Option α:=match d with
 | .hdr l=>f l
 |_=>none
theorem Yhz{α:Type}{d:D}{r:α}{f:List D->Option α}(h:onG d f=some r):E12 (λp=>d= .hdr p) λp=>f p=some r:=by cases d<;>first|exact nS h|exact⟨_,rfl,h⟩
noncomputable def one{α:Type}(l:List D)(f:D->Option α):Option α:=match l with
 |[]=>none
 |a::r=>(match r with
  |[]=>f a
  |_::_=>none)
theorem Zz2{α:Type}{l:List D}{r:α}{f:D->Option α}(h:one l f=some r):E12 (λp=>l=[p]) λp=>f p=some r:=by
 cases l with
 |nil=>exact nS h
 |cons a l=>cases l with
  |nil=>exact⟨a,rfl,h⟩
  |cons _ _=>exact nS h
noncomputable def two{α:Type}(l:List D)(f:D->D->Option α):Option α:=match l with
 |[]=>none
 |a::r=>one r (f a)
theorem Zy8{α:Type}{l:List D}{r:α}{f:D->D->Option α}(h:two l f=some r):E22 (λa b=>l=[a,b]) λa b=>f a b=some r:=by
 cases l with
 |nil=>exact nS h
 |cons a l=>
  obtain⟨b,e,h⟩:=Zz2 h;exact⟨a,b,by rw[e],h⟩
noncomputable def Zdy(name:List Nat):List D->Option (List D)
 |[]=>some []
 |d::r=>onT d λl=>two l λk v=>onS k λk=>Zac (Zdy name r) λl=>some (match eqN (k.map loC) (name.map loC)with|true=>v::l|false=>l)
noncomputable def Zk1:List D->Option (List D)
 |[]=>some []
 |d::r=>onT d λl=>two l λk _=>Zac (Zk1 r) λl=>some (k::l)
namespace RF
theorem slot_search:Slot "re.Pattern" "search" "re.Pattern.search":=
 .of (owner:="re.Pattern") (n:="search") (by rw[Hc5,Hcj];kernel_rfl) (by decide+kernel) (by decide+kernel) (by decide+kernel)
  (by first|exact .inl (by decide+kernel)|exact .inr (by decide+kernel)) (by rw[isSubtype_type];kernel_rfl)
theorem type_search:typeOf (.builtin "re.Pattern.search")=pure (.type "method_descriptor"):=by show builtinType _=_;rw[builtinType_eq_fast];kernel_rfl
theorem entry_search:entryFor table "re.Pattern.search"=some Builtin.«re.Pattern.search»:=entryFor_of_tree (by kernel_rfl)
theorem slot_sub:Slot "re.Pattern" "sub" "re.Pattern.sub":=
 .of (owner:="re.Pattern") (n:="sub") (by rw[Hc5,Hcj];kernel_rfl) (by decide+kernel) (by decide+kernel) (by decide+kernel)
  (by first|exact .inl (by decide+kernel)|exact .inr (by decide+kernel)) (by rw[isSubtype_type];kernel_rfl)
theorem type_sub:typeOf (.builtin "re.Pattern.sub")=pure (.type "method_descriptor"):=by show builtinType _=_;rw[builtinType_eq_fast];kernel_rfl
theorem entry_sub:entryFor table "re.Pattern.sub"=some Builtin.«re.Pattern.sub»:=entryFor_of_tree (by kernel_rfl)
theorem entry_sub_loop:entryFor table "re.Pattern.sub.loop"=some Builtin.«re.Pattern.sub.loop»:=entryFor_of_tree (by kernel_rfl)
theorem plainAttrs:PlainAttrs "re.Pattern":=⟨⟨"object.__getattribute__",by rw[Hc5,Hcj];kernel_rfl,by decide+kernel⟩,by rw[Hc5,Hcj];kernel_rfl⟩
theorem owner_re:Manifest.owners.lookup (String.ofList ['n', 'r', 'e', 't', 't', 'a', 'P', '.', 'e', 'r'].reverse)=some Manifest.sig_re_Pattern:=by kernel_rfl
theorem args_search(a b:Value):argsOk "re.Pattern.search" ⟨[a,b],[]⟩:=by
 unfold argsOk;rw[signature?_of (id:="re.Pattern.search") (n:=['h', 'c', 'r', 'a', 'e', 's']) (o:=['n', 'r', 'e', 't', 't', 'a', 'P', '.', 'e', 'r']) (by kernel_rfl) owner_re];kernel_rfl
theorem args_sub(a b c:Value):argsOk "re.Pattern.sub" ⟨[a,b,c],[]⟩:=by
 unfold argsOk;rw[signature?_of (id:="re.Pattern.sub") (n:=['b', 'u', 's']) (o:=['n', 'r', 'e', 't', 't', 'a', 'P', '.', 'e', 'r']) (by kernel_rfl) owner_re];kernel_rfl
end RF
theorem Zrg(c:Nat)(seen:Sre.Seen)(h1:32<=c)(h2:c<127):∃seen',Sre.inSet Zbx c Zbx.size 5 true seen= .ok (false,seen'):=by
 have e:Sre.inSet Zbx c Zbx.size 5 true seen=(if(0<=c&&c<=31)=true then .ok (true,seen.add 22)else if(c==127)=true then .ok (true,(seen.add 22).add 16)else .ok (!true,((seen.add 22).add 16).add 0)):=rfl
 rw[e,if_neg (by simp;exact(by exact(ln1 (.a (.k 31) (.k 1)) (.v 0) [(1,.k 32,.v 0)] rfl h1))),if_neg (by simp;exact(Ha9 h2))]
 exact⟨_,rfl⟩
theorem Zwu:∀c,32<=c->c<127->(c<256&&(Zby.getD (5+(1+c/32)) 0).testBit (c%32))=false:=by
 intro c h1 h2;have:∀c,c<127->32<=c->(c<256&&(Zby.getD (5+(1+c/32)) 0).testBit (c%32))=false:=by decide
 exact this c h2 h1
theorem Ztz(c:Nat)(seen:Sre.Seen)(h1:32<=c)(h2:c<127):∃seen',Sre.inSet Zby c Zby.size 5 true seen= .ok (false,seen'):=by
 have e:Sre.inSet Zby c Zby.size 5 true seen=(if(c<256&&(Zby.getD (5+(1+c/32)) 0).testBit (c%32))=true then .ok (true,seen.add 9)else .ok (!true,(seen.add 9).add 0)):=rfl
 rw[e,if_neg (by rw[Zwu c h1 h2];decide)]
 exact⟨_,rfl⟩
noncomputable def Zoy(x:Array Nat):Prop:=∀i,i<x.size->32<=x.getD i 0/\x.getD i 0<127
theorem Zzc{m:Sre.M}{f s:Nat}{seen:Sre.Seen}(h:s≥m.lim):m.admitted (f+1) s seen= .ok (none,seen):=if_pos h
theorem Zzd{m:Sre.M}{f s:Nat}{seen seen':Sre.Seen}{b:Bool}(h:s<m.lim)(e:Sre.inSet m.code (m.text.getD s 0) m.code.size 5 true seen= .ok (b,seen')):m.admitted (f+1) s seen=bI b (.ok (some s,seen')) (m.admitted f (s+1) seen'):=
 (if_neg (Hat h)).trans (by rw[e];cases b<;>rfl)
theorem Zfp(m:Sre.M)(hp:Zoy m.text)(hl:m.lim<=m.text.size)(hs:∀c seen,32<=c->c<127->∃seen',Sre.inSet m.code c m.code.size 5 true seen= .ok (false,seen')):
  ∀(fuel s:Nat) (seen:Sre.Seen),∃seen',Sre.M.admitted m fuel s seen= .ok (none,seen')
 |0,s,seen=>⟨seen,rfl⟩
 |fuel+1,s,seen=>by
  rcases Nat.lt_or_ge s m.lim with h|h
  ·obtain⟨c1,c2⟩:=hp s (Har h hl);obtain⟨seen',e⟩:=hs (m.text.getD s 0) seen c1 c2;rw[Zzd h e];exact Zfp m hp hl hs fuel (s+1) seen'
  ·exact⟨seen,Zzc h⟩
theorem Zce(m:Sre.M)(hf:m.frames=[])(ho:m.outcome=none):((m.say false).runFor 4).outcome=some .failed:=by
 obtain⟨code,text,lim,start,ls,wt,ma,pc,pos,handed,om,marks,lm,li,loops,inner,frames,weight,answer,seen,outcome⟩:=m;cases hf;cases ho
 rfl
theorem Zmx(code:Array Nat)(hc:code=Zbx\/code=Zby)(x:Array Nat)(hp:Zoy x):((Sre.forSearch code x 0 0 x.size false).runFor 4).outcome=some .failed:=by
 have main:∀(m:Sre.M),m.code=code->m.text=x->m.lim=x.size->m.frames=[]->m.outcome=none->((m.attemptFrom 0 true).runFor 4).outcome=some .failed:=by
  intro m h1 h2 h3 h4 h5;have hfs:m.hasFirstSet=true:=by
   unfold Sre.M.hasFirstSet;rw[h1];rcases hc with rfl|rfl<;>rfl
  unfold Sre.M.attemptFrom;rw[hfs];simp only[Bool.not_true,Bool.false_eq_true,if_false];obtain⟨seen',e⟩:=Zfp m (h2▸hp) (by rw[h3,h2];exact Hac _) (λc seen a b=>by
   rw[h1];rcases hc with rfl|rfl
   ·exact Zrg c seen a b
   ·exact Ztz c seen a b) (m.lim+1-0) 0 m.seen
  rw[e];exact Zce _ h4 h5
 have form:∃m m':Sre.M,Sre.forSearch code x 0 0 x.size false=(if(decide (0>x.size)||decide (x.size-0<1))=true then m.say false else m'.attemptFrom 0 true)/\m.frames=[]/\m.outcome=none/\m'.code=code/\m'.text=x/\m'.lim=x.size/\m'.frames=[]/\m'.outcome=none:=by
  rcases hc with rfl|rfl
  ·exact⟨_,_,rfl,rfl,rfl,rfl,rfl,rfl,rfl,rfl⟩
  ·exact⟨_,_,rfl,rfl,rfl,rfl,rfl,rfl,rfl,rfl⟩
 obtain⟨m,m',e,a1,a2,h1,h2,h3,h4,h5⟩:=form;rw[e];by_cases hz:x.size=0
 ·rw[if_pos (by rw[hz];decide)]
  exact Zce m a1 a2
 ·have hn:∀n:Nat,n≠0->¬(decide (0>n)||decide (n-0<1))=true:=by intro n h;simp;exact(Ha3 (Nat.pos_of_ne_zero h))
  rw[if_neg (hn _ hz)];exact main m' h1 h2 h3 h4 h5
structure Zcs(h:Heap)(a:Addr)(code:Array Nat):Prop where
 it:∃pv fl g t6 ct,h.get? a=some {cls:=.type "re.Pattern",data:=.fields #[pv,fl,.int 0 g,.none,.none,.ref ct,.int 0 t6]}/\h.get? ct=some (Zcv (code.map λ(n:Nat)=>rawInt (n:Int)) 0)
theorem Zj2{l:List Nat}{f:Nat->PUnit->Sem (ForInStep PUnit)}(hf:∀i r (s:Shared) (Q:ForInStep PUnit->Shared->Prop),Q (.yield ⟨⟩) s->wpAny (model prog w) A (f i r) Q E s){Q:PUnit->Shared->Prop}(q:Q ⟨⟩ s):wpAny (model prog w) A (forIn l ⟨⟩ f) Q E s:=by
 induction l with
 |nil=>exact Hau q
 |cons i l ih=>
  rw[List.forIn_cons];exact Ha6 (hf i ⟨⟩ s _ ih)
theorem Zjo{n:Nat}{m:Sre.M}(h:(m.runFor Builtin.Re.reTurnSteps).outcome.isSome=true):Builtin.Re.reDrive (n+1) m=pure (m.runFor Builtin.Re.reTurnSteps):=if_pos h
theorem Yae{M:Model}{α:Type}{c:Prop}[Decidable c]{x y:Sem α}{Q:α->Shared->Prop}(h1:wpAny M A x Q E s)(h2:wpAny M A y Q E s):wpAny M A (if c then x else y) Q E s:=by
 by_cases h:c
 ·rw[if_pos h];exact h1
 ·rw[if_neg h];exact h2
theorem Zlc{m:Sre.M}(h:(m.runFor 4).outcome=some .failed){Q:Option Sre.M->Shared->Prop}(q:Q none s):wpAny (model prog w) A (Builtin.Re.reRunToEnd m) Q E s:=by
 unfold Builtin.Re.reRunToEnd;refine Ha6 ?_
 have e:(2^64:Nat)=(2^64-1)+1:=by decide
 have ho:(m.runFor Builtin.Re.reTurnSteps).outcome=some .failed:=h;rw[e,Zjo (by rw[ho];rfl)]
 refine Hau ?_
 refine Ha6 (Zj2 (λi r s Q q=>?_) ?_)
 ·exact Yae (Ha6 (wpAny_rule (Hau q))) (Ha6 (Hau (Hau q)))
 ·rw[ho];exact Hau q
theorem Ygm{v:Value}:Builtin.Re.reNamed "re.Pattern.search" "search" ["string","pos","endpos"] 1 [v] []=pure [some v,none,none]:=by rfl
theorem Zp4(code:Array Nat):((code.map λ(n:Nat)=>rawInt (n:Int)).map Builtin.Re.reRawOf).map (·.toNat)=code:=by
 rw[Array.map_map,Array.map_map];have:(((λx:Int=>x.toNat) ∘ Builtin.Re.reRawOf) ∘ λ(n:Nat)=>rawInt (n:Int))=id:=by
  funext n
  show(n:Int).toNat=n;exact Hc0 n
 rw[this,Array.map_id]
theorem Zix{ct:Addr}{code:Array Nat}(h:s.heap.get? ct=some (Zcv (code.map λ(n:Nat)=>rawInt (n:Int)) 0)){Q:Array Int->Shared->Prop}(q:Q ((code.map λ(n:Nat)=>rawInt (n:Int)).map Builtin.Re.reRawOf) s):
  wpAny (model prog w) A (Builtin.Re.reRawItems (.ref ct)) Q E s:=by
 unfold Builtin.Re.reRawItems;exact Ha6 (wpAny_seqItems h rfl (Hau q))
theorem Zv5{a:Addr}{code:Array Nat}(hp:Zcs s.heap a code){x:Str}{t:Tok}(hsz:x.cps.size<2^63){Q:Builtin.Re.ReTarget->Shared->Prop}(q:Q ⟨.ref a,.str x t,code,x.cps,0,0,0,x.cps.size⟩ s):
  wpAny (model prog w) A (Builtin.Re.reTarget "re.Pattern.search" "search" ⟨[.ref a,.str x t],[]⟩) Q E s:=by
 obtain⟨pv,fl,g,t6,ct,h1,h2⟩:=hp.it;unfold Builtin.Re.reTarget;dsimp only;rw[Ygm];refine Ha6 (Hau ?_)
 dsimp only;refine Ha6 (Hau ?_)
 refine Ha6 (Hau ?_)
 refine Ha6 (wpAny_fieldsOf h1 rfl ?_)
 have ht:Builtin.Re.reTextOf (.str x t)=pure (x.cps,0):=rfl;rw[ht];refine Ha6 (Hau ?_)
 dsimp only;show wpAny _ _ (if(false=true)then _ else _) _ _ _
 rw[if_neg Hca];show wpAny _ _ (if(false=true)then _ else _) _ _ _
 rw[if_neg Hca];have hn:Builtin.Re.reNoCollectionInside (.str x t) 0=pure ():=rfl;rw[hn];refine Ha6 (Hau ?_)
 refine Ha6 (Zix h2 ?_)
 refine Hau ?_
 rw[Zp4];have e1:min (0:Int).toNat x.cps.size=0:=Nat.zero_min _;have e2:min ((2^63-1:Int)).toNat x.cps.size=x.cps.size:=Nat.min_eq_right (by
  have:((2^63-1:Int)).toNat=2^63-1:=by decide
  exact(ln2 (.v 0) (.v 1) [(1,.a (.v 0) (.k 1),.k (2^63)),(1,.k ((2^63)-1),.v 1)] rfl hsz (Han this.symm)))
 rw[e1,e2];exact q
theorem Zu8{a:Addr}{code:Array Nat}(hp:Zcs s.heap a code)(hc:code=Zbx\/code=Zby){x:Str}{t:Tok}(hx:Zoy x.cps)(hsz:x.cps.size<2^63){Q:Value->Shared->Prop}(q:Q .none s):
  wpAny (model prog w) A (call (.builtin "re.Pattern.search") [.ref a,.str x t]) Q E s:=by
 obtain⟨pv,fl,g,t6,ct,h1,h2⟩:=hp.it;refine wpAny_call_entry RF.slot_search ⟨_,h1,rfl⟩ RF.entry_search ?_ (RF.args_search _ _)
 refine Ha6 (Zv5 hp hsz ?_)
 unfold Builtin.Re.reAnswer;refine Ha6 (Zlc (Zmx code hc x.cps hx) ?_)
 exact Hau ⟨.none,rfl,q⟩
noncomputable abbrev mk(code x:Array Nat)(lim st ls pc p hd:Nat)(om:Bool)(fr:List Sre.Frame)(w:Nat)(an:Option Bool)(sn:Sre.Seen):Sre.M:=
 {code,text:=x,lim,start:=st,lastStart:=ls,pc,pos:=p,handed:=hd,outermost:=om,marks:=#[],frames:=fr,weight:=w,answer:=an,seen:=sn}
noncomputable abbrev fB(a p:Nat):Sre.Frame:={wait:=.nextBranch,pc:=a,pos:=p,outermost:=true}
noncomputable abbrev fK(p:Nat):Sre.Frame:={wait:=.lookNot,pc:=26,pos:=p,outermost:=true}
noncomputable abbrev fS(pc p:Nat)(om:Bool):Sre.Frame:={wait:=.nextStart,pc,pos:=p,outermost:=om}
section
variable {x:Array Nat} {lim st ls p q hd w:Nat} {om:Bool} {fr:List Sre.Frame} {sn:Sre.Seen}
theorem Zab{m:Sre.M}(n:Nat)(h:m.outcome=none):m.runFor (n+1)=m.step.runFor n:=by
 show(if m.outcome.isSome=true then m else m.step.runFor n)=_
 rw[h];rfl
theorem Zbb{m:Sre.M}(n:Nat)(h:m.outcome.isSome=true):m.runFor n=m:=by
 cases n with
 |zero=>rfl
 |succ n=>
  show(if m.outcome.isSome=true then m else m.step.runFor n)=_
  rw[if_pos h]
theorem Zdr(a b:Nat):∀m:Sre.M,m.runFor (a+b)=(m.runFor a).runFor b:=by
 induction a with
 |zero=>intro m;rw[Nat.zero_add];rfl
 |succ a ih=>
  intro m;by_cases h:m.outcome.isSome=true
  ·rw[Zbb _ h,Zbb _ h,Zbb _ h]
  ·have h':m.outcome=none:=by cases e:m.outcome with|none=>rfl|some _=>rw[e]at h;exact absurd rfl h
   rw[Nat.add_right_comm,Zab _ h',ih,Zab _ h']
theorem Zgo{code:Array Nat}{pc c:Nat}(hpc:pc<code.size)(h0:code.getD pc 0=16)(h1:code.getD (pc+1) 0=c)(hp:p<lim)(hc:x.getD p 0=c):
  (mk code x lim st ls pc p hd om fr w none sn).step=mk code x lim st ls (pc+2) (p+1) hd om fr w none (sn.add 16):=by
 unfold Sre.M.step;show(if pc<code.size then(mk code x lim st ls pc p hd om fr w none sn).exec else _)=_
 rw[if_pos hpc];unfold Sre.M.exec;have hw:(mk code x lim st ls pc p hd om fr w none sn).word 0=16:=h0;rw[hw];show(if p≥lim then _ else match Sre.accepts code pc (x.getD p 0) (sn.add 16)with| .error why=>_| .ok (false,seen)=>_| .ok (true,seen)=>_)=_
 rw[if_neg (Nat.not_le.mpr hp)];have ha:Sre.accepts code pc (x.getD p 0) (sn.add 16)= .ok (true,sn.add 16):=by
  unfold Sre.accepts;rw[h0,h1,hc];show Except.ok (c==c,_)=_;rw[Hcl]
 rw[ha];have hwid:Sre.itemWidth code pc=2:=by unfold Sre.itemWidth;rw[h0];rfl
 show({mk code x lim st ls pc p hd om fr w none sn with seen:=sn.add 16,pc:=pc+Sre.itemWidth code pc,pos:=p+1}:Sre.M)=_
 rw[hwid]
theorem Zmf{code:Array Nat}{pc c:Nat}(hpc:pc<code.size)(h0:code.getD pc 0=16)(h1:code.getD (pc+1) 0=c)(hc:lim<=p\/x.getD p 0≠c):
  (mk code x lim st ls pc p hd om fr w none sn).step=mk code x lim st ls pc p hd om fr w (some false) (sn.add 16):=by
 unfold Sre.M.step;show(if pc<code.size then(mk code x lim st ls pc p hd om fr w none sn).exec else _)=_
 rw[if_pos hpc];unfold Sre.M.exec;have hw:(mk code x lim st ls pc p hd om fr w none sn).word 0=16:=h0;rw[hw];show(if p≥lim then _ else match Sre.accepts code pc (x.getD p 0) (sn.add 16)with| .error why=>_| .ok (false,seen)=>_| .ok (true,seen)=>_)=_
 by_cases hp:p≥lim
 ·rw[if_pos hp];rfl
 ·rw[if_neg hp];have hc:=hc.resolve_left hp;have ha:Sre.accepts code pc (x.getD p 0) (sn.add 16)= .ok (false,sn.add 16):=by
   unfold Sre.accepts;rw[h0,h1];show Except.ok (x.getD p 0==c,_)=_;rw[beq_false_of_ne hc]
  rw[ha]
  rfl
theorem e10:(mk Zaf x lim st ls 10 p p true [fS 10 p true] 1 none sn).step=mk Zaf x lim st ls 12 p p true [fB 11 p,fS 10 p true] 2 none (sn.add 7):=rfl
theorem e16:(mk Zaf x lim st ls 16 p hd true fr w none sn).step=mk Zaf x lim st ls 35 p hd true fr w none (sn.add 15):=rfl
theorem e21:(mk Zaf x lim st ls 21 p hd true fr w none sn).step=mk Zaf x lim st ls 35 p hd true fr w none (sn.add 15):=rfl
theorem e32:(mk Zaf x lim st ls 32 p hd true fr w none sn).step=mk Zaf x lim st ls 35 p hd true fr w none (sn.add 15):=rfl
theorem e35:(mk Zaf x lim st ls 35 p hd true fr w none sn).step=mk Zaf x lim st ls 35 p p true fr w (some true) (sn.add 1):=rfl
theorem e26:(mk Zaf x lim st ls 26 p hd true [fB 23 q,fS 10 q true] 2 none sn).step=mk Zaf x lim st ls 29 p p false [fK p,fB 23 q,fS 10 q true] 3 none (sn.add 5):=rfl
theorem Ykk{pc a:Nat}{om:Bool}:(mk Zaf x lim st ls pc p hd om [fB a q,fS 10 q true] 2 (some true) sn).step=mk Zaf x lim st ls a q hd true [fS 10 q true] 1 (some true) sn:=rfl
theorem Yho{code:Array Nat}{pc pc':Nat}{om om':Bool}:(mk code x lim st ls pc p hd om [fS pc' q om'] 1 (some true) sn).step=mk code x lim st ls pc' q hd om' [] 0 (some true) sn:=rfl
theorem Ygt{pc:Nat}{om:Bool}:(mk Zaf x lim st ls pc p hd om [fB 11 q,fS 10 q true] 2 (some false) sn).step=mk Zaf x lim st ls 19 q q true [fB 18 q,fS 10 q true] 2 none sn:=rfl
theorem Yj2{pc:Nat}{om:Bool}:(mk Zaf x lim st ls pc p hd om [fB 18 q,fS 10 q true] 2 (some false) sn).step=mk Zaf x lim st ls 24 q q true [fB 23 q,fS 10 q true] 2 none sn:=rfl
theorem noK{pc q':Nat}{om:Bool}:(mk Zaf x lim st ls pc p hd om [fK q,fB 23 q',fS 10 q' true] 3 (some false) sn).step=mk Zaf x lim st ls 32 q hd true [fB 23 q',fS 10 q' true] 2 none sn:=rfl
theorem Yd2{code:Array Nat}{pc:Nat}{om b:Bool}:(mk code x lim st ls pc p hd om [] w (some b) sn).step={mk code x lim st ls pc p hd om [] w (some b) sn with outcome:=some (if b then .matched else .failed)}:=rfl
structure Zi7(m:Sre.M)(b e:Nat):Prop where
 outcome:m.outcome=some .matched
 start:m.start=b
 handed:m.handed=e
theorem Yfj(hp:p<lim)(hc:x.getD p 0=10):Zi7 ((mk Zaf x lim p ls 10 p p true [fS 10 p true] 1 none sn).runFor 16) p (p+1):=by
 rw[Zab _ rfl,e10,Zab _ rfl,Zmf (c:=13) (by decide) rfl rfl (.inr (by rw[hc];decide)),Zab _ rfl,Ygt,Zab _ rfl,Zgo (c:=10) (by decide) rfl rfl hp hc,Zab _ rfl,e21,
   Zab _ rfl,e35,Zab _ rfl,Ykk,Zab _ rfl,Yho,Zab _ rfl,Yd2,Zbb _ rfl]
 exact⟨rfl,rfl,rfl⟩
theorem Zs2(hp:p<lim)(hc:x.getD p 0=13)(hp2:p+1<lim)(hc2:x.getD (p+1) 0=10):Zi7 ((mk Zaf x lim p ls 10 p p true [fS 10 p true] 1 none sn).runFor 16) p (p+2):=by
 rw[Zab _ rfl,e10,Zab _ rfl,Zgo (c:=13) (by decide) rfl rfl hp hc,Zab _ rfl,Zgo (c:=10) (by decide) rfl rfl hp2 hc2,Zab _ rfl,e16,
   Zab _ rfl,e35,Zab _ rfl,Ykk,Zab _ rfl,Yho,Zab _ rfl,Yd2,Zbb _ rfl]
 exact⟨rfl,rfl,rfl⟩
theorem Yfk(hp:p<lim)(hc:x.getD p 0=13)(hc2:lim<=p+1\/x.getD (p+1) 0≠10):Zi7 ((mk Zaf x lim p ls 10 p p true [fS 10 p true] 1 none sn).runFor 16) p (p+1):=by
 rw[Zab _ rfl,e10,Zab _ rfl,Zgo (c:=13) (by decide) rfl rfl hp hc,Zab _ rfl,Zmf (c:=10) (by decide) rfl rfl hc2,Zab _ rfl,Ygt,
   Zab _ rfl,Zmf (c:=10) (by decide) rfl rfl (.inr (by rw[hc];decide)),Zab _ rfl,Yj2,Zab _ rfl,Zgo (c:=13) (by decide) rfl rfl hp hc,Zab _ rfl,e26,
   Zab _ rfl,Zmf (c:=10) (by decide) rfl rfl hc2,Zab _ rfl,noK,Zab _ rfl,e32,
   Zab _ rfl,e35,Zab _ rfl,Ykk,Zab _ rfl,Yho,Zab _ rfl,Yd2,Zbb _ rfl]
 exact⟨rfl,rfl,rfl⟩
end
theorem Yez{a b:Nat}(h:a≠b):Nat.beq a b=false:=by
 cases q:Nat.beq a b with
 |false=>rfl
 |true=>exact absurd (Hb4 q) h
noncomputable def nxt(P:Nat->Bool)(lim:Nat):Nat->Nat->Option Nat
 |0,_=>none
 |f+1,s=>bI (Nat.ble lim s) none (bI (P s) (some s) (nxt P lim f (s+1)))
theorem Zjv{P:Nat->Bool}{lim f s:Nat}(h:lim<=s):nxt P lim (f+1) s=none:=biT (Ha0 h)
theorem Zmn{P:Nat->Bool}{lim f s:Nat}(h:s<lim):nxt P lim (f+1) s=bI (P s) (some s) (nxt P lim f (s+1)):=biF (bleF h)
theorem Ze1{P:Nat->Bool}{lim:Nat}:∀{f s b:Nat},nxt P lim f s=some b->s<=b/\b<lim/\P b=true
 |0,_,_,h=>nS h
 |f+1,s,b,h=>by
  rcases Nat.lt_or_ge s lim with hl|hl
  ·rw[Zmn hl]at h;cases hp:P s with
   |true=>
    rw[hp]at h;have e:s=b:=sI h;exact⟨Han e,e▸hl,e▸hp⟩
   |false=>
    rw[hp]at h;obtain⟨a,b,c⟩:=Ze1 (f:=f) h;exact⟨(ln2 (.v 0) (.v 1) [(1,.a (.v 0) (.k 1),.v 1)] rfl a),b,c⟩
  ·rw[Zjv hl]at h;exact nS h
noncomputable def Zlq(x:Array Nat)(i:Nat):Bool:=Nat.beq (x.getD i 0) 10||Nat.beq (x.getD i 0) 13
noncomputable def Zq7(x:Array Nat)(i:Nat):Bool:=(Nat.beq i 0||Nat.beq (x.getD (i-1) 0) 10)&&Nat.beq (x.getD i 0) 46
noncomputable def Zhe(x:Array Nat)(b:Nat):Nat:=if x.getD b 0=13/\b+1<x.size/\x.getD (b+1) 0=10 then b+2 else b+1
theorem Zty(c:Nat)(seen:Sre.Seen):∃seen',Sre.inSet Zaf c Zaf.size 5 true seen= .ok (Nat.beq c 10||Nat.beq c 13,seen'):=by
 have e:Sre.inSet Zaf c Zaf.size 5 true seen=(if(c==10)=true then .ok (true,seen.add 16)else if(c==13)=true then .ok (true,(seen.add 16).add 16)else .ok (!true,((seen.add 16).add 16).add 0)):=rfl
 rw[e];by_cases h1:c=10
 ·subst h1;exact⟨_,rfl⟩
 ·rw[if_neg (by simpa using h1)]
  by_cases h2:c=13
  ·subst h2;exact⟨_,rfl⟩
  ·rw[if_neg (by simpa using h2)]
   have q1:Nat.beq c 10=false:=Yez h1;have q2:Nat.beq c 13=false:=Yez h2;rw[q1,q2];exact⟨_,rfl⟩
theorem Zed(m:Sre.M)(hc:m.code=Zaf):∀(f s:Nat) (seen:Sre.Seen),∃seen',m.admitted f s seen= .ok (nxt (Zlq m.text) m.lim f s,seen')
 |0,s,seen=>⟨seen,rfl⟩
 |f+1,s,seen=>by
  rcases Nat.lt_or_ge s m.lim with hl|hl
  ·obtain⟨seen',e⟩:=Zty (m.text.getD s 0) seen;rw[Zmn hl,Zzd hl (by rw[hc];exact e)]
   show∃s2,bI (Zlq m.text s) _ _=Except.ok (bI (Zlq m.text s) _ _,s2);cases Zlq m.text s with
   |true=>exact⟨seen',rfl⟩
   |false=>exact Zed m hc f (s+1) seen'
  ·rw[Zjv hl];exact⟨seen,Zzc hl⟩
theorem Zrr(x:Array Nat)(start:Nat)(hs:start<=x.size):match nxt (Zlq x) x.size (x.size+1-start) start with
  |none=>((Sre.forSearch Zaf x 0 start x.size false).runFor 16).outcome=some .failed
  |some b=>Zi7 ((Sre.forSearch Zaf x 0 start x.size false).runFor 16) b (Zhe x b):=by
 have form:∃m:Sre.M,∃ls sn,Sre.forSearch Zaf x 0 start x.size false=(if(decide (start>x.size)||decide (x.size-start<1))=true then m.say false else(mk Zaf x x.size start ls 10 start start true [] 0 none sn).attemptFrom start true)/\m.frames=[]/\m.outcome=none:=⟨_,_,_,rfl,rfl,rfl⟩
 obtain⟨m,ls,sn,e,h1,h2⟩:=form;have fail4:∀m:Sre.M,m.frames=[]->m.outcome=none->((m.say false).runFor 16).outcome=some .failed:=λm a b=>by
  have:=Zce m a b;rw[show(16:Nat)=4+12 from rfl,Zdr,Zbb _ (by rw[this];rfl)]
  exact this
 by_cases hz:x.size-start<1
 ·rw[e,if_pos (by simp[hz])]
  have:nxt (Zlq x) x.size (x.size+1-start) start=none:=by
   have:x.size+1-start=0+1:=(Ham (ln4 (.v 3) (.k (0+1)) [(1,.a (.v 2) (.k 1),.k 1),(1,.v 1,.a (.v 2) (.v 0)),(1,.a (.v 3) (.v 0),.a (.v 1) (.k 1))] rfl hz Zcu (Han (Hb3 (ln2 (.v 0) (.a (.v 1) (.k 1)) [(1,.v 0,.v 1)] rfl hs)))) (ln3 (.k (0+1)) (.v 2) [(1,.v 0,.v 1),(1,.a (.v 1) (.k 1),.a (.v 2) (.v 0))] rfl hs Zcu));rw[this];exact Zjv (ln3 (.v 1) (.v 2) [(1,.v 0,.k (0+1)),(1,.a (.v 1) (.k 1),.a (.v 0) (.v 2))] rfl (Han this) Zcu)
  rw[this];exact fail4 m h1 h2
 ·have hn:¬(decide (start>x.size)||decide (x.size-start<1))=true:=by
   intro h;rcases(Hb9 _ _).mp h with h|h
   ·exact absurd (Hcy h) (Ha1 hs)
   ·exact hz (Hcy h)
  rw[e,if_neg hn];unfold Sre.M.attemptFrom;show match nxt (Zlq x) x.size (x.size+1-start) start with
   |none=>(((match Sre.M.admitted (mk Zaf x x.size start ls 10 start start true [] 0 none sn) (x.size+1-start) start sn with
     | .ok (some s,seen)=>({mk Zaf x x.size start ls 10 start start true [] 0 none sn with mustAdvance:=false,seen}:Sre.M).attemptAt s true
     | .ok (none,seen)=>({mk Zaf x x.size start ls 10 start start true [] 0 none sn with seen}:Sre.M).say false
     | .error why=>Sre.M.stick _ why):Sre.M).runFor 16).outcome=some .failed
   |some b=>Zi7 ((match Sre.M.admitted (mk Zaf x x.size start ls 10 start start true [] 0 none sn) (x.size+1-start) start sn with
     | .ok (some s,seen)=>({mk Zaf x x.size start ls 10 start start true [] 0 none sn with mustAdvance:=false,seen}:Sre.M).attemptAt s true
     | .ok (none,seen)=>({mk Zaf x x.size start ls 10 start start true [] 0 none sn with seen}:Sre.M).say false
     | .error why=>Sre.M.stick _ why:Sre.M).runFor 16) b (Zhe x b)
  obtain⟨seen',ea⟩:=Zed (mk Zaf x x.size start ls 10 start start true [] 0 none sn) rfl (x.size+1-start) start sn;rw[ea];show match nxt (Zlq x) x.size (x.size+1-start) start with|none=>_|some b=>_
  cases hb:nxt (Zlq x) x.size (x.size+1-start) start with
  |none=>
   dsimp only;exact fail4 _ rfl rfl
  |some b=>
   dsimp only;obtain⟨g1,g2,g3⟩:=Ze1 hb;show Zi7 ((mk Zaf x x.size b ls 10 b b true [fS 10 b true] 1 none seen').runFor 16) b (Zhe x b);unfold Zlq at g3;unfold Zhe;by_cases q13:x.getD b 0=13
   ·by_cases q10:b+1<x.size/\x.getD (b+1) 0=10
    ·rw[if_pos ⟨q13,q10⟩];exact Zs2 g2 q13 q10.1 q10.2
    ·rw[if_neg λh=>q10 h.2]
     refine Yfk g2 q13 ?_
     by_cases h:b+1<x.size
     ·exact .inr λe=>q10 ⟨h,e⟩
     ·exact .inl (Hah h)
   ·rw[if_neg λh=>q13 h.1]
    rcases(Hb9 _ _).mp g3 with g|g
    ·exact Yfj g2 (Hb4 g)
    ·exact absurd (Hb4 g) q13
section
variable {x:Array Nat} {lim st ls p q hd w:Nat} {om:Bool} {fr:List Sre.Frame} {sn:Sre.Seen}
theorem d5:(mk Zau x lim st ls 5 p hd om fr w none sn).step=(if(p==0||x.getD (p-1) 0==10)=true then mk Zau x lim st ls 7 p hd om fr w none ((sn.add 6).add 44)else mk Zau x lim st ls 5 p hd om fr w (some false) ((sn.add 6).add 44)):=rfl
theorem d9:(mk Zau x lim st ls 9 p hd true fr w none sn).step=mk Zau x lim st ls 9 p p true fr w (some true) (sn.add 1):=rfl
theorem d9':(mk Zau x lim st ls 9 p hd false fr w none sn).step=mk Zau x lim st ls 9 p p false fr w (some true) (sn.add 1):=rfl
theorem dno{pc:Nat}:(mk Zau x lim st ls pc p hd om [fS 5 q om] 1 (some false) sn).step=(if q<ls then mk Zau x lim (q+1) ls 5 (q+1) (q+1) false [fS 5 (q+1) false] 1 none sn else mk Zau x lim st ls 5 q hd om [] 0 (some false) sn):=rfl
theorem Ybf(hb:p=0\/x.getD (p-1) 0=10)(hp:p<lim)(hc:x.getD p 0=46):Zi7 ((mk Zau x lim p ls 5 p p om [fS 5 p om] 1 none sn).runFor 5) p (p+1):=by
 have hb':(p==0||x.getD (p-1) 0==10)=true:=by
  rcases hb with h|h
  ·subst h;rfl
  ·rw[h];simp
 rw[Zab _ rfl,d5,if_pos hb',Zab _ rfl,Zgo (c:=46) (by exact(by decide)) rfl rfl hp hc]
 cases om with
 |true=>
  rw[Zab _ rfl,d9,Zab _ rfl,Yho,Zab _ rfl,Yd2];exact⟨rfl,rfl,rfl⟩
 |false=>
  rw[Zab _ rfl,d9',Zab _ rfl,Yho,Zab _ rfl,Yd2];exact⟨rfl,rfl,rfl⟩
theorem Zzl(hn:¬((p=0\/x.getD (p-1) 0=10)/\p<lim/\x.getD p 0=46)):∃n m,n<=3/\m=(mk Zau x lim p ls 5 p p om [fS 5 p om] 1 none sn).runFor n∧
  ∃sn',m=(if p<ls then mk Zau x lim (p+1) ls 5 (p+1) (p+1) false [fS 5 (p+1) false] 1 none sn' else mk Zau x lim p ls 5 p p om [] 0 (some false) sn'):=by
 by_cases hb:(p==0||x.getD (p-1) 0==10)=true
 ·have hb2:p=0\/x.getD (p-1) 0=10:=by
   rcases(Hb9 _ _).mp hb with h|h
   ·exact .inl (Hb5 h)
   ·exact .inr (Hb5 h)
  refine⟨3,_,Hac _,rfl,((sn.add 6).add 44).add 16,?_⟩
  rw[Zab _ rfl,d5,if_pos hb,Zab _ rfl,Zmf (c:=46) (by exact(by decide)) rfl rfl,Zab _ rfl,dno]
  ·rfl
  ·by_cases h:lim<=p
   ·exact .inl h
   ·exact .inr λe=>hn ⟨hb2,(Nat.lt_of_not_le h),e⟩
 ·refine⟨2,_,(by decide),rfl,(sn.add 6).add 44,?_⟩
  rw[Zab _ rfl,d5,if_neg hb,Zab _ rfl,dno]
  rfl
end
theorem Ybe(x:Array Nat):∀(k p:Nat) (om:Bool) (sn:Sre.Seen),x.size-p=k->p<=x.size->∃n,n<=4*k+12/\match nxt (Zq7 x) x.size (x.size+1-p) p with
  |none=>((mk Zau x x.size p x.size 5 p p om [fS 5 p om] 1 none sn).runFor n).outcome=some .failed
  |some b=>Zi7 ((mk Zau x x.size p x.size 5 p p om [fS 5 p om] 1 none sn).runFor n) b (b+1):=by
 intro k
 induction k with
 |zero=>
  intro p om sn hk hp;have hpe:p=x.size:=(Ham hp (ln3 (.v 2) (.v 1) [(1,.v 0,.k 0),(1,.v 2,.a (.v 0) (.v 1))] rfl (Han hk) Zcu));have:nxt (Zq7 x) x.size (x.size+1-p) p=none:=by
   have e:x.size+1-p=0+1:=(Ham (ln3 (.v 2) (.k (0+1)) [(1,.v 1,.v 0),(1,.a (.v 2) (.v 0),.a (.v 1) (.k 1))] rfl (Han hpe.symm) (Han (Hb3 (ln2 (.v 0) (.a (.v 1) (.k 1)) [(1,.v 0,.v 1)] rfl (Han hpe))))) (ln3 (.k (0+1)) (.v 2) [(1,.v 0,.v 1),(1,.a (.v 1) (.k 1),.a (.v 2) (.v 0))] rfl (Han hpe) Zcu));rw[e];exact Zjv (Han hpe.symm)
  rw[this];obtain⟨n,m,hn,hm,sn',e⟩:=Zzl (x:=x) (lim:=x.size) (ls:=x.size) (p:=p) (om:=om) (sn:=sn) (by rintro⟨_,h,_⟩;exact(Nat.not_succ_le_zero 0 (ln2 (.k 1) (.k 0) [(1,.v 1,.v 0),(1,.a (.v 0) (.k 1),.v 1)] rfl (Han hpe.symm) h)))
  rw[if_neg (by exact(Ha1 (by exact(Han hpe.symm))))]at e
  refine⟨n+1,(ln1 (.a (.v 0) (.k 1)) (.k ((4*0)+12)) [(1,.v 0,.k 3)] rfl hn),?_⟩
  dsimp only;rw[Zdr,←hm,e,Zab _ rfl,Yd2]
  rfl
 |succ k ih=>
  intro p om sn hk hp;have hlt:p<x.size:=(ln4 (.a (.v 2) (.k 1)) (.v 3) [(1,.a (.v 1) (.k 1),.v 0),(1,.a (.v 0) (.v 2),.v 3)] rfl (Han hk.symm) (Han (Hb3 hp)));have e1:x.size+1-p=(x.size+1-(p+1))+1:=(Ham (ln4 (.v 2) (.a (.v 3) (.k 1)) [(1,.a (.v 1) (.k 1),.a (.v 3) (.a (.v 0) (.k 1))),(1,.a (.v 2) (.v 0),.a (.v 1) (.k 1))] rfl Zcu (Han (Hb3 (ln2 (.v 0) (.a (.v 1) (.k 1)) [(1,.a (.v 0) (.k 1),.v 1)] rfl hlt)))) (ln4 (.a (.v 3) (.k 1)) (.v 2) [(1,.a (.v 1) (.k 1),.a (.v 2) (.v 0)),(1,.a (.v 3) (.a (.v 0) (.k 1)),.a (.v 1) (.k 1))] rfl Zcu (Han (Hb3 (ln2 (.a (.v 0) (.k 1)) (.a (.v 1) (.k 1)) [(1,.a (.v 0) (.k 1),.v 1)] rfl hlt)))));rw[e1];rw[Zmn hlt];by_cases hd:Zq7 x p=true
  ·rw[hd];unfold Zq7 at hd;have hd:=Zaa hd;refine⟨5,(ln1 (.k 5) (.a (.m 4 (.a (.v 0) (.k 1))) (.k 12)) [] rfl),Ybf ?_ hlt (Hb4 hd.2)⟩
   rcases(Hb9 _ _).mp hd.1 with h|h
   ·exact .inl (Hb4 h)
   ·exact .inr (Hb4 h)
  ·rw[Bool.eq_false_iff.mpr hd];have hn:¬((p=0\/x.getD (p-1) 0=10)/\p<x.size/\x.getD p 0=46):=by
    rintro⟨h1,_,h3⟩
    apply hd
    unfold Zq7;rw[h3];rcases h1 with h|h
    ·subst h;rfl
    ·rw[h];simp
   obtain⟨n,m,hn3,hm,sn',e⟩:=Zzl (ls:=x.size) (om:=om) (sn:=sn) hn;rw[if_pos hlt]at e;obtain⟨n2,hn2,h2⟩:=ih (p+1) false sn' (Ham (ln5 (.v 4) (.v 1) [(1,.v 0,.a (.v 1) (.k 1)),(1,.v 3,.a (.v 0) (.v 2)),(1,.a (.v 4) (.a (.v 2) (.k 1)),.v 3)] rfl (Han hk) Zcu (Han (Hb3 hlt))) (ln5 (.v 1) (.v 4) [(1,.a (.v 1) (.k 1),.v 0),(1,.v 3,.a (.v 4) (.a (.v 2) (.k 1))),(1,.a (.v 0) (.v 2),.v 3)] rfl (Han hk.symm) Zcu (Han (Hb3 (ln2 (.v 0) (.v 1) [(1,.a (.v 0) (.k 1),.v 1)] rfl hlt))))) hlt;refine⟨n+n2,(ln3 (.a (.v 0) (.v 1)) (.a (.m 4 (.a (.v 2) (.k 1))) (.k 12)) [(1,.v 0,.k 3),(1,.v 1,.a (.m 4 (.v 2)) (.k 12))] rfl hn3 hn2),?_⟩
   rw[Zdr,←hm,e];exact h2
theorem Zrq(x:Array Nat)(start:Nat)(hs:start<=x.size):∃n,n<=4*x.size+16/\match nxt (Zq7 x) x.size (x.size+1-start) start with
  |none=>((Sre.forSearch Zau x 0 start x.size false).runFor n).outcome=some .failed
  |some b=>Zi7 ((Sre.forSearch Zau x 0 start x.size false).runFor n) b (b+1):=by
 have form:∃m:Sre.M,∃sn,Sre.forSearch Zau x 0 start x.size false=(if(decide (start>x.size)||decide (x.size-start<1))=true then m.say false else mk Zau x x.size start x.size 5 start start true [fS 5 start true] 1 none sn)/\m.frames=[]/\m.outcome=none:=⟨_,_,rfl,rfl,rfl⟩
 obtain⟨m,sn,e,h1,h2⟩:=form;by_cases hz:x.size-start<1
 ·rw[e,if_pos (by simp[hz])]
  have:nxt (Zq7 x) x.size (x.size+1-start) start=none:=by
   have:x.size+1-start=0+1:=(Ham (ln4 (.v 3) (.k (0+1)) [(1,.a (.v 2) (.k 1),.k 1),(1,.v 1,.a (.v 2) (.v 0)),(1,.a (.v 3) (.v 0),.a (.v 1) (.k 1))] rfl hz Zcu (Han (Hb3 (ln2 (.v 0) (.a (.v 1) (.k 1)) [(1,.v 0,.v 1)] rfl hs)))) (ln3 (.k (0+1)) (.v 2) [(1,.v 0,.v 1),(1,.a (.v 1) (.k 1),.a (.v 2) (.v 0))] rfl hs Zcu));rw[this];exact Zjv (ln3 (.v 1) (.v 2) [(1,.v 0,.k (0+1)),(1,.a (.v 1) (.k 1),.a (.v 0) (.v 2))] rfl (Han this) Zcu)
  rw[this];exact⟨4,(ln1 (.k 4) (.a (.m 4 (.v 0)) (.k 16)) [] rfl),Zce m h1 h2⟩
 ·have hn:¬(decide (start>x.size)||decide (x.size-start<1))=true:=by
   intro h;rcases(Hb9 _ _).mp h with h|h
   ·exact absurd (Hcy h) (Ha1 hs)
   ·exact hz (Hcy h)
  rw[e,if_neg hn];obtain⟨n,hn,h⟩:=Ybe x (x.size-start) start true sn rfl hs;exact⟨n,(ln3 (.v 1) (.a (.m 4 (.v 0)) (.k 16)) [(1,.v 1,.a (.m 4 (.v 2)) (.k 12)),(4,.v 2,.v 0)] rfl hn (Hbl _ _)),h⟩
theorem Zo6:∀(T:Nat) (m:Sre.M) {Q:Sre.M->Shared->Prop} {s:Shared},m.outcome=none->(m.runFor (4*T)).outcome.isSome=true->Q (m.runFor (4*T)) s->wpAny (model prog w) A (Builtin.Re.reDrive T m) Q E s
 |0,m,Q,s,h0,h,_=>by
  have:(m.runFor (4*0))=m:=rfl;rw[this,h0]at h;cases h
 |T+1,m,Q,s,h0,h,q=>by
  have e:4*(T+1)=Builtin.Re.reTurnSteps+4*T:=by show 4*(T+1)=4+4*T;exact(Ham (ln1 (.m 4 (.a (.v 0) (.k 1))) (.a (.k 4) (.m 4 (.v 0))) [] rfl) (ln1 (.a (.k 4) (.m 4 (.v 0))) (.m 4 (.a (.v 0) (.k 1))) [] rfl))
  rw[e,Zdr]at h q;by_cases ho:(m.runFor Builtin.Re.reTurnSteps).outcome.isSome=true
  ·rw[Zjo ho];rw[Zbb _ ho]at q;exact Hau q
  ·rw[show Builtin.Re.reDrive (T+1) m=(rule "sre.turn" >>= λ_=>Builtin.Re.reDrive T (m.runFor Builtin.Re.reTurnSteps))from if_neg ho]
   have h1:(m.runFor Builtin.Re.reTurnSteps).outcome=none:=by
    cases e:(m.runFor Builtin.Re.reTurnSteps).outcome with
    |none=>rfl
    |some _=>rw[e]at ho;exact absurd rfl ho
   exact Ha6 (wpAny_rule (Zo6 T _ h1 h q))
theorem Zol{m:Sre.M}{n:Nat}(h0:m.outcome=none)(hn:n<=4*2^64){Q:Option Sre.M->Shared->Prop}
  (h:((m.runFor n).outcome=some .failed/\Q none s)\/((m.runFor n).outcome=some .matched/\Q (some (m.runFor n)) s)):wpAny (model prog w) A (Builtin.Re.reRunToEnd m) Q E s:=by
 have hs:(m.runFor n).outcome.isSome=true:=by rcases h with⟨h,_⟩|⟨h,_⟩<;>rw[h]<;>rfl
 have e:m.runFor (4*2^64)=m.runFor n:=by
  have:4*2^64=n+(4*2^64-n):=(Ham (ln2 (.k (4*(2^64))) (.a (.v 0) (.v 1)) [(1,.k (4*(2^64)),.a (.v 1) (.v 0))] rfl Zcu) (ln2 (.a (.v 0) (.v 1)) (.k (4*(2^64))) [(1,.a (.v 1) (.v 0),.k (4*(2^64)))] rfl (Han (Hb3 hn))));rw[this,Zdr,Zbb _ hs]
 unfold Builtin.Re.reRunToEnd;refine Ha6 (Zo6 (2^64) m h0 (by rw[e];exact hs) ?_)
 rw[e];refine Ha6 (Zj2 (λi r s Q q=>?_) ?_)
 ·exact Yae (Ha6 (wpAny_rule (Hau q))) (Ha6 (Hau (Hau q)))
 ·rcases h with⟨h,q⟩|⟨h,q⟩
  ·rw[h];exact Hau q
  ·rw[h];exact Hau q
theorem Zqi{a:Addr}{code:Array Nat}(hp:Zcs s.heap a code){x:Str}{t:Tok}{Q:Builtin.Re.ReTarget->Shared->Prop}(q:Q ⟨.ref a,.str x t,code,x.cps,0,0,0,x.cps.size⟩ s):
  wpAny (model prog w) A (Builtin.Re.reWholeTarget (.ref a) (.str x t)) Q E s:=by
 obtain⟨pv,fl,g,t6,ct,h1,h2⟩:=hp.it;unfold Builtin.Re.reWholeTarget;refine Ha6 (wpAny_fieldsOf h1 rfl ?_)
 have ht:Builtin.Re.reTextOf (.str x t)=pure (x.cps,0):=rfl;rw[ht];refine Ha6 (Hau ?_)
 dsimp only;show wpAny _ _ (if(false=true)then _ else _) _ _ _
 rw[if_neg Hca];show wpAny _ _ (if(false=true)then _ else _) _ _ _
 rw[if_neg Hca];have hn:Builtin.Re.reNoCollectionInside (.str x t) 0=pure ():=rfl;rw[hn];refine Ha6 (Hau ?_)
 refine Ha6 (Zix h2 ?_)
 refine Hau ?_
 rw[Zp4];exact q
structure Zqm(code:Array Nat)(x:Array Nat)(nx:Nat->Option (Nat×Nat)):Prop where
 run:∀st,st<=x.size->∃n,n<=4*2^64/\match nx st with
  |none=>((Sre.forSearch code x 0 st x.size false).runFor n).outcome=some .failed
  |some (b,e)=>Zi7 ((Sre.forSearch code x 0 st x.size false).runFor n) b e
 fresh:∀st,(Sre.forSearch code x 0 st x.size false).outcome=none
 span:∀st b e,nx st=some (b,e)->st<=b/\b<e/\e<=x.size
noncomputable def Zjh(nx:Nat->Option (Nat×Nat))(r:List Nat)(x:Array Nat):Nat->Nat->List Nat
 |0,st=>(x.extract st x.size).toList
 |f+1,st=>oE (nx st) (x.extract st x.size).toList λp=>(x.extract st p.1).toList++(r++Zjh nx r x f p.2)
theorem Zes{nx:Nat->Option (Nat×Nat)}{r:List Nat}{x:Array Nat}{f st:Nat}(h:nx st=none):Zjh nx r x (f+1) st=(x.extract st x.size).toList:=by
 show oE _ _ _=_;rw[h];rfl
theorem Zet{nx:Nat->Option (Nat×Nat)}{r:List Nat}{x:Array Nat}{f st b e:Nat}(h:nx st=some (b,e)):Zjh nx r x (f+1) st=(x.extract st b).toList++(r++Zjh nx r x f e):=by
 show oE _ _ _=_;rw[h];rfl
theorem Zh7(x:Array Nat)(b:Nat):b<Zhe x b/\(b<x.size->Zhe x b<=x.size):=by
 unfold Zhe;by_cases q:x.getD b 0=13/\b+1<x.size/\x.getD (b+1) 0=10
 ·rw[if_pos q];exact⟨(ln1 (.a (.v 0) (.k 1)) (.a (.v 0) (.k 2)) [] rfl),λ_=>(ln2 (.a (.v 0) (.k 2)) (.v 1) [(1,.a (.a (.v 0) (.k 1)) (.k 1),.v 1)] rfl q.2.1)⟩
 ·rw[if_neg q];exact⟨(ln1 (.a (.v 0) (.k 1)) (.a (.v 0) (.k 1)) [] rfl),λ_=>‹_›⟩
theorem Ztq(x:Array Nat):Zqm Zaf x λst=>(nxt (Zlq x) x.size (x.size+1-st) st).map λb=>(b,Zhe x b) where
 run:=λst hs=>⟨16,by decide,by
  have:=Zrr x st hs;cases h:nxt (Zlq x) x.size (x.size+1-st) st with
  |none=>rw[h]at this;exact this
  |some b=>rw[h]at this;exact this⟩
 fresh:=λst=>by
  have form:∃m:Sre.M,∃ls sn,Sre.forSearch Zaf x 0 st x.size false=(if(decide (st>x.size)||decide (x.size-st<1))=true then m.say false else(mk Zaf x x.size st ls 10 st st true [] 0 none sn).attemptFrom st true)/\m.frames=[]/\m.outcome=none:=⟨_,_,_,rfl,rfl,rfl⟩
  obtain⟨m,ls,sn,e,_,h2⟩:=form;rw[e];split
  ·exact h2
  ·unfold Sre.M.attemptFrom;obtain⟨seen',ea⟩:=Zed (mk Zaf x x.size st ls 10 st st true [] 0 none sn) rfl (x.size+1-st) st sn;show((match Sre.M.admitted (mk Zaf x x.size st ls 10 st st true [] 0 none sn) (x.size+1-st) st sn with
     | .ok (some s,seen)=>({mk Zaf x x.size st ls 10 st st true [] 0 none sn with mustAdvance:=false,seen}:Sre.M).attemptAt s true
     | .ok (none,seen)=>({mk Zaf x x.size st ls 10 st st true [] 0 none sn with seen}:Sre.M).say false
     | .error why=>Sre.M.stick _ why):Sre.M).outcome=none
   rw[ea];cases nxt (Zlq x) x.size (x.size+1-st) st with
   |none=>rfl
   |some b=>rfl
 span:=λst b e h=>by
  obtain⟨c,hc,he⟩:=Option.map_eq_some_iff.mp h;cases he;obtain⟨h1,h2,_⟩:=Ze1 hc;obtain⟨g1,g2⟩:=Zh7 x b;exact⟨h1,g1,g2 h2⟩
theorem Ztp(x:Array Nat)(hx:x.size<=2^60):Zqm Zau x λst=>(nxt (Zq7 x) x.size (x.size+1-st) st).map λb=>(b,b+1) where
 run:=λst hs=>by
  obtain⟨n,hn,h⟩:=Zrq x st hs;refine⟨n,(ln2 (.v 1) (.k (4*(2^64))) [(4,.v 0,.k (2^60)),(1,.v 1,.a (.m 4 (.v 0)) (.k 16))] rfl hx hn),?_⟩
  cases e:nxt (Zq7 x) x.size (x.size+1-st) st with
  |none=>rw[e]at h;exact h
  |some b=>rw[e]at h;exact h
 fresh:=λst=>by
  have form:∃m:Sre.M,∃sn,Sre.forSearch Zau x 0 st x.size false=(if(decide (st>x.size)||decide (x.size-st<1))=true then m.say false else mk Zau x x.size st x.size 5 st st true [fS 5 st true] 1 none sn)/\m.frames=[]/\m.outcome=none:=⟨_,_,rfl,rfl,rfl⟩
  obtain⟨m,sn,e,_,h2⟩:=form;rw[e];split
  ·exact h2
  ·rfl
 span:=λst b e h=>by
  obtain⟨c,hc,he⟩:=Option.map_eq_some_iff.mp h;cases he;obtain⟨h1,h2,_⟩:=Ze1 hc;exact⟨h1,(ln1 (.a (.v 0) (.k 1)) (.a (.v 0) (.k 1)) [] rfl),h2⟩
namespace RF
theorem plain_loop:plainId "re.Pattern.sub.loop"=true:=by decide+kernel
end RF
noncomputable def Zlp(l:List (Str×Tok)):List Nat:=(l.map λp=>p.1.cps.toList).flatten
theorem Zfc(l l':List (Str×Tok)):Zlp (l++l')=Zlp l++Zlp l':=by simp[Zlp]
theorem Zlf{x:Array Nat}{b e:Nat}{Q:Value->Shared->Prop}(hx:x.size<=sizeLine)(q:Q (.str ⟨x.extract b e⟩ s.toks) {s with toks:=s.toks+1}):wpAny (model prog w) A (Builtin.Re.reSlice x 0 b e) Q E s:=by
 show wpAny (model prog w) A (mkStr ⟨x.extract b e⟩) Q E s;exact wpAny_mkStr q (Hag (by show(x.extract b e).size<=x.size;rw[Array.size_extract];exact(ln3 (.v 0) (.v 1) [(1,.v 0,.v 2),(1,.v 2,.v 1)] rfl (Hbl _ _) (Nat.min_le_right _ _))) hx)
theorem Zoh{L:Addr}{l:List (Str×Tok)}{y:Str}{u:Tok}{Q:Unit->Shared->Prop}(hl:s.heap.PlainList L (strValues l).toArray)(hn:l.length+1<=sizeLine)
  (q:∀h',h'.PlainList L (strValues (l++[(y,u)])).toArray->Heap.SameBut L s.heap h'->Q () {s with heap:=h'}):wpAny (model prog w) A (updateSeq L (·.push (.str y u))) Q E s:=by
 obtain⟨m,e⟩:=hl;have hlen:(strValues l).toArray.size=l.length:=by simp[strValues]
 refine wpAny_updateSeq e rfl (q _ ?_ (Heap.SameBut.update ..)) (by rw[hlen];omega) (by rw[Array.size_push,hlen];omega)
 have:∀o:Obj,o={cls:=.type "list",dict:=none,data:=.seq (strValues l).toArray m,slots:=#[]}->∃k',Obj.mapSeq (·.push (.str y u)) o={cls:=.type "list",data:=.seq ((strValues l).toArray.push (.str y u)) k'}:=by
  rintro o rfl
  unfold Obj.mapSeq;exact⟨_,rfl⟩
 obtain⟨k',hk⟩:=this _ rfl;refine⟨k',?_⟩
 rw[Heap.get?_update_self _ e (by rw[hk];rfl),hk]
 simp[strValues]
theorem Zcs.but{h h':Heap}{a L:Addr}{code:Array Nat}(hp:Zcs h a code)(hl:∃vs,h.PlainList L vs)(hs:Heap.SameBut L h h'):Zcs h' a code:=by
 obtain⟨pv,fl,g,t6,ct,h1,h2⟩:=hp.it;obtain⟨vs,m,e⟩:=hl;refine⟨pv,fl,g,t6,ct,(hs.2 a λq=>?_).trans h1,(hs.2 ct λq=>?_).trans h2⟩
 ·rw[q,e]at h1;exact absurd (Hb6 (λo=>o.map Obj.cls) h1) (by simp)
 ·rw[q,e]at h2;exact absurd (Hb6 (λo=>o.map Obj.cls) h2) (by simp)
theorem Zv0{nx:Nat->Option (Nat×Nat)}{r:List Nat}{x:Array Nat}(hs:∀st b e,nx st=some (b,e)->st<=b/\b<e/\e<=x.size):∀(f g st:Nat),x.size-st<f->x.size-st<g->Zjh nx r x f st=Zjh nx r x g st:=by
 intro f
 induction f with
 |zero=>intro g st h;exact(Nat.not_succ_le_zero 0 (ln1 (.k 1) (.k 0) [(1,.a (.v 0) (.k 1),.k 0)] rfl h)).elim
 |succ f ih=>
  intro g st h hg;cases g with
  |zero=>exact(Nat.not_lt_zero _ hg).elim
  |succ g=>
   cases e:nx st with
   |none=>rw[Zes e,Zes e]
   |some p=>
    obtain⟨b,e'⟩:=p;obtain⟨h1,h2,h3⟩:=hs st b e' e;rw[Zet e,Zet e,ih g e' (by exact(ln7 (.a (.v 6) (.k 1)) (.v 1) [(1,.a (.v 0) (.k 1),.a (.v 1) (.k 1)),(1,.v 2,.v 3),(1,.a (.v 3) (.k 1),.v 4),(1,.v 5,.a (.v 0) (.v 2)),(1,.a (.v 6) (.v 4),.v 5)] rfl h h1 h2 Zcu (Han (Hb3 h3)))) (ln7 (.a (.v 6) (.k 1)) (.v 1) [(1,.a (.v 0) (.k 1),.a (.v 1) (.k 1)),(1,.v 2,.v 3),(1,.a (.v 3) (.k 1),.v 4),(1,.v 5,.a (.v 0) (.v 2)),(1,.a (.v 6) (.v 4),.v 5)] rfl hg h1 h2 Zcu (Han (Hb3 h3)))]
theorem Yck{a L:Addr}{code:Array Nat}{x r:Str}{t tr:Tok}{nx:Nat->Option (Nat×Nat)}(F:Zqm code x.cps nx)(hx:x.cps.size<=1000000){R:Result->Shared->Prop}:
  ∀(k st:Nat) (n:Int) (s:Shared) (l:List (Str×Tok)) (sl:Nat),x.cps.size-st=k->st<=x.cps.size->Zcs s.heap a code->s.heap.PlainList L (strValues l).toArray->l.length<=2*st->(Zlp l++Zjh nx r.cps.toList x.cps (k+1) st).length<=4000000->
   (∀s' v t',(∀b o,b≠L->s.heap.get? b=some o->s'.heap.get? b=some o)->s'.gens=s.gens->s'.os=s.os->v.cps.toList=Zlp l++Zjh nx r.cps.toList x.cps (k+1) st->R (.ok (.ret (.str v t'))) s')->
   codeAny (model prog w) A (.builtin "re.Pattern.sub.loop" ⟨[.ref a,.str x t,.str r tr,rawInt 0,rawInt 0,rawInt n,rawInt (st:Int),rawInt (st:Int),.bool false,.ref L,.bool false],[]⟩) R s:=by
 intro k
 induction k using Nat.strongRecOn with
 |ind k ih=>
  intro st n s l sl hk hst hp hl hn hlen hR;have szl:(4000000:Nat)<=sizeLine:=by decide
  refine codeAny_builtin RF.entry_sub_loop ?_
  rw[Around.under_plainId RF.plain_loop _];unfold Builtin.«re.Pattern.sub.loop»;show wpAny _ A.in1 (Builtin.Re.reWholeTarget (.ref a) (.str x t) >>= _) _ _ s;refine Ha6 (Zqi hp ?_)
  show wpAny _ A.in1 (Builtin.Re.reLiteralCannotBeTurned (.str r tr) >>= _) _ _ s;have hlit:Builtin.Re.reLiteralCannotBeTurned (.str r tr)=pure ():=rfl;rw[hlit];refine Ha6 (Hau ?_)
  show wpAny _ A.in1 (Builtin.Re.reNextFound {pattern:=.ref a,string:=.str x t,code:=code,text:=x.cps,kind:=0,groups:=0,pos:=0,lim:=x.cps.size} (st:Int).toNat false >>= _) _ _ s;rw[Hc0];obtain⟨nn,hnn,hfind⟩:=F.run st hst;refine Ha6 (Zol (F.fresh st) hnn ?_)
  cases hnx:nx st with
  |none=>
   rw[hnx]at hfind;refine .inl ⟨hfind,?_⟩
   have hsub:Zjh nx r.cps.toList x.cps (k+1) st=(x.cps.extract st x.cps.size).toList:=by
    exact Zes hnx
   rw[hsub]at hlen hR;have fin:∀(s'1:Shared) (l'1:List (Str×Tok)),s'1.heap.PlainList L (strValues l'1).toArray->Zlp l'1=Zlp l++(x.cps.extract st x.cps.size).toList->l'1.length<=2*st+1->(∀b o,b≠L->s.heap.get? b=some o->s'1.heap.get? b=some o)->s'1.gens=s.gens->s'1.os=s.os->
     wpAny (model prog w) A.in1 (do
      let joiner ←Builtin.Re.reSlice x.cps 0 0 0
      let xs ←seqItems? (.ref L)
      if(xs.getD #[]).isEmpty=true then(do let text ←pure joiner;ret text)else(do let text ←call (.builtin "str.join") [joiner,.ref L];ret text)) (λfin s'=>match fin with| .done f=>R (.ok f) s'| .again c'=>c'.quiet=true/\codeAny (model prog w) A c' R s') (λe s'=>R (.error e) s') s'1:=by
    intro s'1 l'1 hl'1 hcat hn'1 hk'1 hg1 ho1;refine Ha6 (Zlf (Hag hx (Hag (by decide) szl)) ?_)
    obtain⟨m,e⟩:=hl'1;refine Ha6 (wpAny_seqItems (items:=(strValues l'1).toArray) e rfl ?_)
    have hemp:(⟨x.cps.extract 0 0⟩:Str).cps.toList=[]:=by simp
    show wpAny _ _ (if(strValues l'1).toArray.isEmpty=true then _ else _) _ _ _
    cases hl1:l'1 with
    |nil=>
     rw[if_pos (by rfl)]
     refine Ha6 (Hau (Hau ?_))
     refine hR _ _ _ hk'1 hg1 ho1 ?_
     rw[hemp,←hcat,hl1];rfl
    |cons p l'2=>
     rw[if_neg (by simp[strValues])]
     refine Ha6 (SC.join (s:={s'1 with toks:=s'1.toks+1}) (l:=l'1) ⟨_,e,rfl,_,rfl⟩ rfl ?_ λt' tk=>Hau ?_)
     ·unfold JoinOk;rw[StrLaws.joinTotal];have h1:((l'1.map (·.1)).map (·.length)).sum=(Zlp l'1).length:=by
       simp[Zlp,Str.length,Function.comp_def,List.length_flatten]
      have h2:(⟨x.cps.extract 0 0⟩:Str).length=0:=by
       show(x.cps.extract 0 0).size=0;simp
      rw[h1,h2,Nat.mul_zero,Nat.add_zero,hcat];unfold Builtin.Str.tooLong;rw[Hcb,Hck];omega
     ·refine hR _ _ _ hk'1 hg1 ho1 ?_
      rw[←hcat,Zk0,hemp];have:∀ls:List (List Nat),Zem [] ls=ls.flatten:=by
       intro ls
       induction ls with
       |nil=>rfl
       |cons y ls ih=>
        cases ls with
        |nil=>exact(Hcw y).symm
        |cons z ls=>exact Hb6 (y++·) ih
      rw[this];simp[Zlp,Function.comp_def]
   show wpAny _ A.in1 (if st<x.cps.size then _ else _) _ _ s
   by_cases hlt:st<x.cps.size
   ·rw[if_pos hlt];refine Ha6 (Zlf (Hag hx (Hag (by decide) szl)) ?_)
    refine Ha6 (Zoh (s:={s with toks:=s.toks+1}) hl (by omega) λh' hl' hsb=>?_)
    exact fin {s with heap:=h',toks:=s.toks+1} _ hl' (by rw[Zfc];simp[Zlp]) (by rw[Hct];simp;exact hn) (λb o hb e=>(hsb.2 b hb).trans e) rfl rfl
   ·rw[if_neg hlt];exact fin s l hl (by
     have:x.cps.extract st x.cps.size= #[]:=by apply Array.eq_empty_of_size_eq_zero;rw[Array.size_extract];exact(Ham (Han (Nat.sub_eq_zero_of_le (ln3 (.v 2) (.v 0) [(1,.v 1,.v 0),(1,.v 2,.v 1)] rfl (Hah hlt) (Nat.min_le_left _ _)))) (ln1 (.k 0) (.v 0) [] rfl))
     rw[this];simp) (ln2 (.v 0) (.a (.m 2 (.v 1)) (.k 1)) [(1,.v 0,.m 2 (.v 1))] rfl hn) (λb o _ e=>e) rfl rfl
  |some be=>
   obtain⟨b,e⟩:=be;rw[hnx]at hfind;obtain⟨f1,f2,f3⟩:=hfind;obtain⟨b1,b2,b3⟩:=F.span st b e hnx;refine .inr ⟨f1,?_⟩
   dsimp only
   generalize hm:(Sre.forSearch code x.cps 0 st x.cps.size false).runFor nn=m at f1 f2 f3 ⊢
   have hsub:Zjh nx r.cps.toList x.cps (k+1) st=(x.cps.extract st b).toList++(r.cps.toList++Zjh nx r.cps.toList x.cps k e):=Zet hnx;have hfu:Zjh nx r.cps.toList x.cps k e=Zjh nx r.cps.toList x.cps (x.cps.size-e+1) e:=Zv0 F.span _ _ _ (ln7 (.a (.v 6) (.k 1)) (.v 1) [(1,.v 0,.v 1),(1,.v 2,.v 4),(1,.a (.v 4) (.k 1),.v 5),(1,.v 3,.a (.v 0) (.v 2)),(1,.a (.v 6) (.v 5),.v 3)] rfl (Han hk) b1 b2 Zcu (Han (Hb3 b3))) (ln1 (.a (.v 0) (.k 1)) (.a (.v 0) (.k 1)) [] rfl);rw[hfu]at hsub;rw[hsub]at hlen hR;have go:∀(s'1:Shared) (l'1:List (Str×Tok)),s'1.heap.PlainList L (strValues l'1).toArray->Zcs s'1.heap a code->Zlp l'1=Zlp l++(x.cps.extract st b).toList->l'1.length<=2*st+1->(∀b o,b≠L->s.heap.get? b=some o->s'1.heap.get? b=some o)->s'1.gens=s.gens->s'1.os=s.os->
     wpAny (model prog w) A.in1 (do
      updateSeq L (·.push (.str r tr))
      again (.builtin "re.Pattern.sub.loop" ⟨[.ref a,.str x t,.str r tr,rawInt 0,rawInt 0,rawInt (n+1),rawInt (m.handed:Int),rawInt (m.handed:Int),.bool (m.handed==m.start),.ref L,.bool false],[]⟩)) (λfin s'=>match fin with| .done f=>R (.ok f) s'| .again c'=>c'.quiet=true/\codeAny (model prog w) A c' R s') (λe s'=>R (.error e) s') s'1:=by
    intro s'1 l'1 hl'1 hp'1 hcat hn'1 hk'1 hg1 ho1;refine Ha6 (Zoh hl'1 (by omega) λh' hl' hsb=>?_)
    refine Hau ⟨plainId_quiet RF.plain_loop _,?_⟩
    have hne:(m.handed==m.start)=false:=by rw[f2,f3];exact beq_false_of_ne (Ha3 b2)
    rw[hne,f3];have hc2:Zlp (l'1++[(r,tr)])=Zlp l++(x.cps.extract st b).toList++r.cps.toList:=by rw[Zfc,hcat];simp[Zlp]
    refine ih (x.cps.size-e) (ln7 (.a (.v 6) (.k 1)) (.v 1) [(1,.v 0,.v 1),(1,.v 2,.v 4),(1,.a (.v 4) (.k 1),.v 5),(1,.v 3,.a (.v 0) (.v 2)),(1,.a (.v 6) (.v 5),.v 3)] rfl (Han hk) b1 b2 Zcu (Han (Hb3 b3))) e (n+1) {s'1 with heap:=h'} (l'1++[(r,tr)]) 0 rfl b3 (hp'1.but ⟨_,hl'1⟩ hsb) hl' (by rw[Hct];simp;exact(ln4 (.a (.v 3) (.k 1)) (.m 2 (.v 2)) [(2,.v 0,.v 1),(2,.a (.v 1) (.k 1),.v 2),(1,.v 3,.a (.m 2 (.v 0)) (.k 1))] rfl b1 b2 hn'1)) ?_ λs' v t' h1 h2 h3 h4=>?_
    ·rw[hc2,Hcz,Hcz];exact hlen
    ·refine hR s' v t' (λc o hc e=>h1 c o hc ((hsb.2 c hc).trans (hk'1 c o hc e))) (h2.trans hg1) (h3.trans ho1) ?_
     rw[h4,hc2,Hcz,Hcz]
   show wpAny _ A.in1 (if st<m.start then _ else _) _ _ s
   by_cases hlt:st<m.start
   ·rw[if_pos hlt];refine Ha6 (Zlf (Hag hx (Hag (by decide) szl)) ?_)
    refine Ha6 (Zoh (s:={s with toks:=s.toks+1}) hl (by omega) λh' hl' hsb=>?_)
    exact go {s with heap:=h',toks:=s.toks+1} _ hl' (Zcs.but hp ⟨_,hl⟩ hsb) (by rw[Zfc,f2];simp[Zlp]) (by rw[Hct];simp;exact hn) (λb o hb e=>(hsb.2 b hb).trans e) rfl rfl
   ·rw[if_neg hlt];exact go s l hl hp (by
     have:x.cps.extract st b= #[]:=by apply Array.eq_empty_of_size_eq_zero;rw[Array.size_extract];exact(Ham (Han (Nat.sub_eq_zero_of_le (ln4 (.v 3) (.v 0) [(1,.v 1,.v 2),(1,.v 2,.v 0),(1,.v 3,.v 1)] rfl (Han f2.symm) (Hah hlt) (Nat.min_le_left _ _)))) (ln1 (.k 0) (.v 0) [] rfl))
     rw[this];simp) (ln2 (.v 0) (.a (.m 2 (.v 1)) (.k 1)) [(1,.v 0,.m 2 (.v 1))] rfl hn) (λb o _ e=>e) rfl rfl
namespace RF
theorem str_call:typeLookup (.type "str") "__call__"=pure none:=by rw[Hc5,Hcj];kernel_rfl
theorem named_sub(r x:Value):Builtin.Re.reNamed "re.Pattern.sub" "sub" ["repl","string","count"] 2 [r,x] []=pure [some r,some x,none]:=by rfl
end RF
theorem Yaa{a:Addr}{code:Array Nat}{x r:Str}{t tr:Tok}{nx:Nat->Option (Nat×Nat)}(F:Zqm code x.cps nx)(hx:x.cps.size<=1000000)(hr:r.cps.contains 92=false)(hp:Zcs s.heap a code)(hlen:(Zjh nx r.cps.toList x.cps (x.cps.size+1) 0).length<=4000000){Q:Value->Shared->Prop}
  (q:∀s' v t',(∀b o,s.heap.get? b=some o->s'.heap.get? b=some o)->s'.gens=s.gens->s'.os=s.os->v.cps.toList=Zjh nx r.cps.toList x.cps (x.cps.size+1) 0->Q (.str v t') s'):
  wpAny (model prog w) A (call (.builtin "re.Pattern.sub") [.ref a,.str r tr,.str x t]) Q E s:=by
 obtain⟨pv,fl,g,t6,ct,h1,h2⟩:=hp.it;refine wpAny_call (codeAny_call_builtin RF.slot_sub.plain RF.entry_sub (RF.slot_sub.check _ _ _ _ _ _ _ _ ⟨_,h1,rfl⟩ (RF.args_sub _ _ _) ?_))
 unfold Builtin.«re.Pattern.sub» Builtin.Re.reSubstitute;dsimp only;rw[RF.named_sub];refine Ha6 (Hau ?_)
 dsimp only;refine Ha6 (Hau ?_)
 refine Ha6 (wpAny_specialOf (typeIs_str _ _ _) RF.str_call ?_)
 have hs:asStr? (.str r tr)=pure (some r):=rfl;show wpAny _ _ (asStr? (.str r tr) >>= _) _ _ _;rw[hs];refine Ha6 (Hau ?_)
 dsimp only;rw[hr];refine Ha6 (Hau ?_)
 rw[if_neg (by decide),if_pos (by rfl)]
 refine Ha6 (Hau ?_)
 refine Ha6 (Ha7 (Zqi hp ?_))
 show wpAny _ _ (if((0:Nat)==1)=true then _ else _) _ _ _
 rw[if_neg (by decide)]
 refine Ha6 (Hbk ?_ (Hap _))
 have hL:(s.heap.push {cls:=.type "list",data:=.seq ([]:List Value).toArray}).PlainList s.heap.objs.size (strValues []).toArray:=⟨0,Hb7 _ rfl⟩;have keep:∀b o,s.heap.get? b=some o->(s.heap.push {cls:=.type "list",data:=.seq ([]:List Value).toArray}).get? b=some o:=λb o e=>Hai _ e
 refine Hau ⟨plainId_quiet RF.plain_loop _,?_⟩
 refine Yck F hx x.cps.size 0 0 {s with heap:=s.heap.push {cls:=.type "list",data:=.seq ([]:List Value).toArray}} [] 0 (Ham (Hbl _ _) (ln2 (.v 0) (.v 1) [(1,.v 0,.a (.v 1) (.k 0))] rfl Zcu)) (Hap _) ⟨pv,fl,g,t6,ct,keep _ _ h1,keep _ _ h2⟩ hL (by simp) hlen λs' v t' h3 h4 h5 h6=>?_
 exact q s' v t' (λb o e=>h3 b o (Ha9 (Haj e)) (keep b o e)) h4 h5 h6
theorem Zk7{P:Nat->Bool}{lim:Nat}:∀{f s:Nat},nxt P lim f s=none->lim<s+f->∀i,s<=i->i<lim->P i=false
 |0,s,_,hl,i,h1,h2=>(Hat hl (Hag h1 (Haz h2))).elim
 |f+1,s,h,hl,i,h1,h2=>by
  rw[Zmn (Hak h1 h2)]at h;cases hp:P s with
  |true=>rw[hp]at h;exact nS (show some s=none from h).symm
  |false=>
   rw[hp]at h;by_cases q:i=s
   ·rw[q];exact hp
   ·exact Zk7 (f:=f) h (ln3 (.a (.v 0) (.k 1)) (.a (.a (.v 1) (.k 1)) (.v 2)) [(1,.a (.v 0) (.k 1),.a (.v 1) (.a (.v 2) (.k 1)))] rfl hl) i (Hbb h1 (Ne.symm q)) h2
theorem Zn7{P:Nat->Bool}{lim:Nat}:∀{f s b:Nat},nxt P lim f s=some b->∀i,s<=i->i<b->P i=false
 |0,s,b,h,i,h1,h2=>nS h
 |f+1,s,b,h,i,h1,h2=>by
  rcases Nat.lt_or_ge s lim with hl|hl
  ·rw[Zmn hl]at h;cases hp:P s with
   |true=>rw[hp]at h;exact((sI h:s=b)▸Hat h2) h1 |>.elim
   |false=>
    rw[hp]at h;by_cases q:i=s
    ·rw[q];exact hp
    ·exact Zn7 (f:=f) h i (Hbb h1 (Ne.symm q)) h2
  ·rw[Zjv hl]at h;exact nS h
theorem Zcf(x:Array Nat)(i:Nat):x.getD i 0=x.toList.getD i 0:=by
 rw[Array.getD_eq_getD_getElem?,Hcs,Array.getElem?_toList]
theorem Zh5{l:List Nat}{s:Nat}(h:s<l.length):l.drop s=l.getD s 0::l.drop (s+1):=by
 rw[Hcv h,Hcs,Hcc h];rfl
theorem Zpg(x:Array Nat)(s b:Nat):(x.extract s b).toList=(x.toList.take b).drop s:=by
 rw[Array.toList_extract,List.extract_eq_take_drop,List.drop_take]
theorem Zpf{x:Array Nat}{s b:Nat}(h:s<b)(hb:b<=x.size):(x.extract s b).toList=x.toList.getD s 0::(x.extract (s+1) b).toList:=by
 rw[Zpg,Zpg];have hl:s<(x.toList.take b).length:=by rw[List.length_take,Hce];exact(ln3 (.a (.v 0) (.k 1)) (.v 2) [(1,.a (.v 0) (.k 1),.v 1),(1,.v 1,.v 2)] rfl h (Han (Nat.min_eq_left hb).symm))
 rw[Hcv hl,List.getElem_take,Hcs,Hcc (by rw[Hce];exact(ln3 (.a (.v 0) (.k 1)) (.v 2) [(1,.a (.v 0) (.k 1),.v 1),(1,.v 1,.v 2)] rfl h hb))]
 rfl
theorem Ztk(x:Array Nat)(s:Nat):(x.extract s s).toList=[]:=by
 have:x.extract s s= #[]:=by apply Array.eq_empty_of_size_eq_zero;rw[Array.size_extract];exact(Ham (Han (Nat.sub_eq_zero_of_le (Nat.min_le_left _ _))) (ln1 (.k 0) (.v 0) [] rfl))
 rw[this]
theorem Zq4{b:Bool}{c:Nat}{r:List Nat}(h1:c≠10)(h2:c≠13):Zb9 b (c::r)=c::Zb9 false r:=by
 show bI (Nat.beq c 10) _ _=_;rw[Yez h1];show bI (Nat.beq c 13) _ _=_;rw[Yez h2];rfl
theorem Zq3{b:Bool}{r:List Nat}(h:r.getD 0 0≠10):Zb9 b r=Zb9 false r:=by
 cases r with
 |nil=>cases b<;>rfl
 |cons c r=>
  have h:c≠10:=h;show bI (Nat.beq c 10) _ _=bI (Nat.beq c 10) _ _;rw[Yez h];rfl
theorem Zh1{x:Array Nat}:∀(k s b:Nat),b-s=k->s<=b->b<=x.size->(∀i,s<=i->i<b->Zlq x i=false)->Zb9 false (x.toList.drop s)=(x.extract s b).toList++Zb9 false (x.toList.drop b)
 |0,s,b,hk,hs,hb,h=>by
  have:s=b:=(Ham hs (ln3 (.v 2) (.v 1) [(1,.v 0,.k 0),(1,.v 2,.a (.v 0) (.v 1))] rfl (Han hk) Zcu));subst this;rw[Ztk];rfl
 |k+1,s,b,hk,hs,hb,h=>by
  have hlt:s<x.toList.length:=by rw[Hce];exact(ln5 (.a (.v 2) (.k 1)) (.v 4) [(1,.a (.v 1) (.k 1),.v 0),(1,.v 3,.v 4),(1,.a (.v 0) (.v 2),.v 3)] rfl (Han hk.symm) hb (Han (Hb3 hs)))
  have hp:=h s (Hac _) (ln4 (.a (.v 2) (.k 1)) (.v 3) [(1,.a (.v 1) (.k 1),.v 0),(1,.a (.v 0) (.v 2),.v 3)] rfl (Han hk.symm) (Han (Hb3 hs)));unfold Zlq at hp;rw[Zcf]at hp;have hp:=(Bool.or_eq_false_iff).mp hp;rw[Zpf (by exact(ln4 (.a (.v 2) (.k 1)) (.v 3) [(1,.a (.v 1) (.k 1),.v 0),(1,.a (.v 0) (.v 2),.v 3)] rfl (Han hk.symm) (Han (Hb3 hs)))) hb,Zh5 hlt,Zq4 (λe=>by rw[e]at hp;cases hp.1) (λe=>by rw[e]at hp;cases hp.2),Zh1 k (s+1) b (Ham (ln5 (.v 4) (.v 1) [(1,.v 0,.a (.v 1) (.k 1)),(1,.v 3,.a (.v 0) (.v 2)),(1,.a (.v 4) (.a (.v 2) (.k 1)),.v 3)] rfl (Han hk) Zcu (Han (Hb3 (ln4 (.a (.v 2) (.k 1)) (.v 3) [(1,.a (.v 1) (.k 1),.v 0),(1,.a (.v 0) (.v 2),.v 3)] rfl (Han hk.symm) (Han (Hb3 hs)))))) (ln5 (.v 1) (.v 4) [(1,.a (.v 1) (.k 1),.v 0),(1,.v 3,.a (.v 4) (.a (.v 2) (.k 1))),(1,.a (.v 0) (.v 2),.v 3)] rfl (Han hk.symm) Zcu (Han (Hb3 hs)))) (ln4 (.a (.v 2) (.k 1)) (.v 3) [(1,.a (.v 1) (.k 1),.v 0),(1,.a (.v 0) (.v 2),.v 3)] rfl (Han hk.symm) (Han (Hb3 hs))) hb λi a c=>h i (ln2 (.v 0) (.v 1) [(1,.a (.v 0) (.k 1),.v 1)] rfl a) c]
  rfl
noncomputable abbrev Zn6(x:Array Nat):Nat->Option (Nat×Nat):=λst=>(nxt (Zlq x) x.size (x.size+1-st) st).map λb=>(b,Zhe x b)
noncomputable abbrev Zn5(x:Array Nat):Nat->Option (Nat×Nat):=λst=>(nxt (Zq7 x) x.size (x.size+1-st) st).map λb=>(b,b+1)
theorem Zv3(x:Array Nat):∀(f st:Nat),x.size-st<f->st<=x.size->Zjh (Zn6 x) [13,10] x f st=Zb9 false (x.toList.drop st)
 |0,st,h,_=>(Nat.not_lt_zero _ h).elim
 |f+1,st,h,hs=>by
  cases hn:nxt (Zlq x) x.size (x.size+1-st) st with
  |none=>
   have hnone:Zn6 x st=none:=by unfold Zn6;rw[hn];rfl
   rw[Zes hnone,Zh1 (x.size-st) st x.size rfl hs (Hac _) λi a c=>Zk7 hn (by exact(ln3 (.a (.v 1) (.k 1)) (.a (.v 0) (.v 2)) [(1,.a (.v 1) (.k 1),.a (.v 2) (.v 0))] rfl Zcu)) i a c,Hc3 (by rw[Hce];exact Hac _)]
   show _=_++[];rw[Hcw]
  |some b=>
   have hsome:Zn6 x st=some (b,Zhe x b):=by unfold Zn6;rw[hn];rfl
   rw[Zet hsome];obtain⟨h1,h2,h3⟩:=Ze1 hn;obtain⟨g1,g2⟩:=Zh7 x b;have g2:=g2 h2;rw[Zh1 (b-st) st b rfl h1 (by exact(ln2 (.v 0) (.v 1) [(1,.a (.v 0) (.k 1),.v 1)] rfl h2)) λi a c=>Zn7 hn i a c,Zv3 x f (Zhe x b) (ln7 (.a (.v 6) (.k 1)) (.v 1) [(1,.a (.v 0) (.k 1),.a (.v 1) (.k 1)),(1,.v 2,.v 4),(1,.a (.v 4) (.k 1),.v 5),(1,.v 3,.a (.v 0) (.v 2)),(1,.a (.v 6) (.v 5),.v 3)] rfl h h1 g1 Zcu (Han (Hb3 g2))) g2]
   congr 1
   have hlt:b<x.toList.length:=by rw[Hce];exact h2
   rw[Zh5 hlt,←Zcf];unfold Zlq at h3;unfold Zhe;by_cases q13:x.getD b 0=13
   ·rw[q13];have e1:Zb9 false (13::x.toList.drop (b+1))=13::10::Zb9 true (x.toList.drop (b+1)):=rfl;rw[e1];by_cases q10:b+1<x.size/\x.getD (b+1) 0=10
    ·rw[if_pos ⟨rfl,q10⟩];have hlt2:b+1<x.toList.length:=by rw[Hce];exact q10.1
     rw[Zh5 hlt2,←Zcf,q10.2]
     rfl
    ·rw[if_neg λq=>q10 q.2]
     rw[Zq3 (b:=true)]
     ·rfl
     ·intro e;rw[Hcs,List.getElem?_drop,Nat.add_zero,←Hcs,←Zcf]at e;by_cases hl:b+1<x.size
      ·exact q10 ⟨hl,e⟩
      ·rw[Zcf,Hcs,List.getElem?_eq_none (by rw[Hce];exact(Hah hl))]at e
       cases e
   ·rw[if_neg λq=>q13 q.1]
    rcases(Hb9 _ _).mp h3 with g|g
    ·rw[Hb4 g];rfl
    ·exact absurd (Hb4 g) q13
noncomputable def Zsc(x:Array Nat)(i:Nat):Bool:=Nat.beq i 0||Nat.beq (x.getD (i-1) 0) 10
theorem Zh4{x:Array Nat}:∀(k s b:Nat),b-s=k->s<=b->b<=x.size->(∀i,s<=i->i<b->Zq7 x i=false)->Zkn (Zsc x s) (x.toList.drop s)=(x.extract s b).toList++Zkn (Zsc x b) (x.toList.drop b)
 |0,s,b,hk,hs,hb,h=>by
  have:s=b:=(Ham hs (ln3 (.v 2) (.v 1) [(1,.v 0,.k 0),(1,.v 2,.a (.v 0) (.v 1))] rfl (Han hk) Zcu));subst this;rw[Ztk];rfl
 |k+1,s,b,hk,hs,hb,h=>by
  have hlt:s<x.toList.length:=by rw[Hce];exact(ln5 (.a (.v 2) (.k 1)) (.v 4) [(1,.a (.v 1) (.k 1),.v 0),(1,.v 3,.v 4),(1,.a (.v 0) (.v 2),.v 3)] rfl (Han hk.symm) hb (Han (Hb3 hs)))
  have hp:=h s (Hac _) (ln4 (.a (.v 2) (.k 1)) (.v 3) [(1,.a (.v 1) (.k 1),.v 0),(1,.a (.v 0) (.v 2),.v 3)] rfl (Han hk.symm) (Han (Hb3 hs)));unfold Zq7 at hp;have hp:(Zsc x s&&Nat.beq (x.getD s 0) 46)=false:=hp;rw[Zpf (by exact(ln4 (.a (.v 2) (.k 1)) (.v 3) [(1,.a (.v 1) (.k 1),.v 0),(1,.a (.v 0) (.v 2),.v 3)] rfl (Han hk.symm) (Han (Hb3 hs)))) hb,Zh5 hlt,←Zcf]
  show bI (Zsc x s&&Nat.beq (x.getD s 0) 46) [46,46] [x.getD s 0]++Zkn (Nat.beq (x.getD s 0) 10) (x.toList.drop (s+1))=_;rw[hp];have hb1:Zsc x (s+1)=Nat.beq (x.getD s 0) 10:=by
   unfold Zsc;show(false||Nat.beq (x.getD s 0) 10)=_
   rw[Bool.false_or]
  rw[←hb1,Zh4 k (s+1) b (by exact(Ham (ln5 (.v 4) (.v 1) [(1,.v 0,.a (.v 1) (.k 1)),(1,.v 3,.a (.v 0) (.v 2)),(1,.a (.v 4) (.a (.v 2) (.k 1)),.v 3)] rfl (Han hk) Zcu (Han (Hb3 (ln4 (.a (.v 2) (.k 1)) (.v 3) [(1,.a (.v 1) (.k 1),.v 0),(1,.a (.v 0) (.v 2),.v 3)] rfl (Han hk.symm) (Han (Hb3 hs)))))) (ln5 (.v 1) (.v 4) [(1,.a (.v 1) (.k 1),.v 0),(1,.v 3,.a (.v 4) (.a (.v 2) (.k 1))),(1,.a (.v 0) (.v 2),.v 3)] rfl (Han hk.symm) Zcu (Han (Hb3 hs))))) (ln4 (.a (.v 2) (.k 1)) (.v 3) [(1,.a (.v 1) (.k 1),.v 0),(1,.a (.v 0) (.v 2),.v 3)] rfl (Han hk.symm) (Han (Hb3 hs))) hb λi a c=>h i (ln2 (.v 0) (.v 1) [(1,.a (.v 0) (.k 1),.v 1)] rfl a) c]
  rfl
theorem Zv2(x:Array Nat):∀(f st:Nat),x.size-st<f->st<=x.size->Zjh (Zn5 x) [46,46] x f st=Zkn (Zsc x st) (x.toList.drop st)
 |0,st,h,_=>(Nat.not_lt_zero _ h).elim
 |f+1,st,h,hs=>by
  cases hn:nxt (Zq7 x) x.size (x.size+1-st) st with
  |none=>
   have hnone:Zn5 x st=none:=by unfold Zn5;rw[hn];rfl
   rw[Zes hnone,Zh4 (x.size-st) st x.size rfl hs (Hac _) λi a c=>Zk7 hn (by exact(ln3 (.a (.v 1) (.k 1)) (.a (.v 0) (.v 2)) [(1,.a (.v 1) (.k 1),.a (.v 2) (.v 0))] rfl Zcu)) i a c,Hc3 (by rw[Hce];exact Hac _)]
   show _=_++[];rw[Hcw]
  |some b=>
   have hsome:Zn5 x st=some (b,b+1):=by unfold Zn5;rw[hn];rfl
   rw[Zet hsome];obtain⟨h1,h2,h3⟩:=Ze1 hn;rw[Zh4 (b-st) st b rfl h1 (by exact(ln2 (.v 0) (.v 1) [(1,.a (.v 0) (.k 1),.v 1)] rfl h2)) λi a c=>Zn7 hn i a c,Zv2 x f (b+1) (ln6 (.a (.v 5) (.k 1)) (.v 1) [(1,.a (.v 0) (.k 1),.a (.v 1) (.k 1)),(1,.v 2,.v 4),(1,.v 3,.a (.v 0) (.v 2)),(1,.a (.v 5) (.a (.v 4) (.k 1)),.v 3)] rfl h h1 Zcu (Han (Hb3 h2))) h2]
   congr 1
   have hlt:b<x.toList.length:=by rw[Hce];exact h2
   rw[Zh5 hlt,←Zcf];show _=bI (Zsc x b&&Nat.beq (x.getD b 0) 46) [46,46] [x.getD b 0]++Zkn (Nat.beq (x.getD b 0) 10) (x.toList.drop (b+1));have h3:(Zsc x b&&Nat.beq (x.getD b 0) 46)=true:=h3;have hb1:Zsc x (b+1)=Nat.beq (x.getD b 0) 10:=by
    unfold Zsc;show(false||Nat.beq (x.getD b 0) 10)=_
    rw[Bool.false_or]
   rw[h3,hb1];rfl
theorem Zdv:∀(b:Bool) (l:List Nat),(Zb9 b l).length<=2*l.length
 |b,[]=>by cases b<;>exact Hap _
 |b,c::r=>by
  have h1:=Zdv false r;have h2:=Zdv true r;show(bI (Nat.beq c 10) (bI b (Zb9 false r) (13::10::Zb9 false r)) (bI (Nat.beq c 13) (13::10::Zb9 true r) (c::Zb9 false r))).length<=2*(r.length+1);cases Nat.beq c 10 with
  |true=>
   cases b with
   |true=>show(Zb9 false r).length<=_;exact(ln2 (.v 0) (.m 2 (.a (.v 1) (.k 1))) [(1,.v 0,.m 2 (.v 1))] rfl h1)
   |false=>show(Zb9 false r).length+1+1<=_;exact(ln2 (.a (.a (.v 0) (.k 1)) (.k 1)) (.m 2 (.a (.v 1) (.k 1))) [(1,.v 0,.m 2 (.v 1))] rfl h1)
  |false=>
   cases Nat.beq c 13 with
   |true=>show(Zb9 true r).length+1+1<=_;exact(ln2 (.a (.a (.v 0) (.k 1)) (.k 1)) (.m 2 (.a (.v 1) (.k 1))) [(1,.v 0,.m 2 (.v 1))] rfl h2)
   |false=>show(Zb9 false r).length+1<=_;exact(ln2 (.a (.v 0) (.k 1)) (.m 2 (.a (.v 1) (.k 1))) [(1,.v 0,.m 2 (.v 1))] rfl h1)
theorem Zh3:∀(b:Bool) (l:List Nat),(Zkn b l).length<=2*l.length
 |b,[]=>by cases b<;>exact Hap _
 |b,c::r=>by
  have h1:=Zh3 (Nat.beq c 10) r;show(bI (b&&Nat.beq c 46) [46,46] [c]++Zkn (Nat.beq c 10) r).length<=_;rw[Hct,Hci];cases b&&Nat.beq c 46 with
  |true=>show 2+_<=_;exact(ln2 (.a (.k 2) (.v 0)) (.m 2 (.a (.v 1) (.k 1))) [(1,.v 0,.m 2 (.v 1))] rfl h1)
  |false=>show 1+_<=_;exact(ln2 (.a (.k 1) (.v 0)) (.m 2 (.a (.v 1) (.k 1))) [(1,.v 0,.m 2 (.v 1))] rfl h1)
theorem Zcs.ext{a:Addr}{code:Array Nat}(hp:Zcs s.heap a code)(x:Ext T s s'):Zcs s'.heap a code:=by
 obtain⟨pv,fl,g,t6,ct,h1,h2⟩:=hp.it;exact⟨pv,fl,g,t6,ct,x.keep2 _ _ h1 rfl,x.keep2 _ _ h2 rfl⟩
theorem Ztr(hk:k+1<=100)(hnm:Zb6 nm){a:Addr}{fd:FuncData}{body:List Stmt}(F:Zna s0 a fd body){xs:List Nat}{ds:List D}{d:D}
  (hbind:Zgc nm fd xs)(hxs:Za6 xs=true)(hfit:(xs.all λx=>Zai fd.scope.names (nm x))=true)(hlen:xs.length=ds.length)
  (hbody:∀(A':Around) (E':Value->Shared->Prop) (N2:Addr->Prop) (env:Env) (s'1:Shared),At T σ mg mb s0 nm fd.scope.names (k+1) A' N2 env s'1 (xs.zip ds) [] []->
   wpAny (model prog w) A' (execs body env) (λfl s'=>∃v,fl= .ret v/\Rd σ N2 s'.heap v d/\Upd T (Frm env) s'1 s') E' s'1):
  ∀(A:Around) (E:Value->Shared->Prop) (N:Addr->Prop) (s:Shared) (vs:List Value) (Q:Value->Shared->Prop),AOk k A->Bs T mg mb s0 s->(∀a,N a->Occ s.heap a)->RdL σ N s.heap vs ds->Zd9 T σ N s d Q->wpAny (model prog w) A (call (.ref a) vs) Q E s:=by
 intro A E N s vs Q ha bs occ rs q;obtain⟨o,ho,hd⟩:=F.at';obtain⟨nk,np⟩:=Zba F.names;have hfit':=λy hy=>bAll hfit y hy
 refine wpAny_call (codeAny_call_cells (fd:=fd) (body:=body) (binds:=(xs.map nm).zip vs) (ha.room (Hba hk)) (bs.ext.keep2 a o ho (Za0 (by rw[hd];rfl))) hd (bs.ext.nolimit F.lim) (Zdm bs F.rec')
  F.body (hbind vs (by rw[hlen,rs.length])) F.clo (λy hy=>?_) (λs'1 x=>?_) F.co F.gen F.kind)
 ·have:=(List.of_mem_zip (a:=y.1) (b:=y.2) hy).1;obtain⟨z,hz,he⟩:=List.mem_map.mp this;have hf:=hfit' z hz;unfold Zai at hf;have hf:=Zaa hf;rw[he]at hf;rcases(Hb9 _ _).mp hf.1 with q|q
  ·exact .inl (Hb5 q)
  ·have q:=Hb5 q;obtain⟨c,hc,_⟩:=Zap fd.scope.names (s.heap.objs.size+1) [] np (mem_of_lookup q);exact .inr ⟨q,by rw[hc];rfl⟩
 ·obtain⟨at1,ext,frmN⟩:=Zkr hnm F hxs hfit ha bs occ rs rfl x;refine Ha4 (hbody _ _ _ _ s'1 at1) (λfl s' ho=>?_) λ_ _ e=>e
  obtain⟨v,rfl,hr,u⟩:=ho;refine q v s' ?_ (hr.mono λb o hn e _=>⟨λh=>hn (.inl h),e⟩)
  exact Zcq.ext2 ext u.gone frmN
theorem Zmt(t:List Nat):(Zg8 t).length<=4*t.length:=by
 have h1:=Zdv false t;have h2:=Zh3 true (Zb9 false t);unfold Zg8;exact(ln3 (.v 2) (.m 4 (.v 1)) [(2,.v 0,.m 2 (.v 1)),(1,.v 2,.m 2 (.v 0))] rfl h1 h2)
theorem Zqc{env:Env}{sc:List (Str×NameKind)}{id:Str}{p1 p2 p9:Pos}{e1 e2:Expr}{ra:Addr}{code:Array Nat}{Q:Value->Shared->Prop}(ok:Zcg env sc)(bs:Bs T mg mb s0 s)(hmg:mg id=some (.ref ra))(hid:(id==("__debug__":Str))=false)
  (hkind:sc.lookup id=some .globalImplicit)(hre:Zcs s0.heap ra code)(hline:(p2.endLine==p9.line)=true)(h1:∀v p,e1≠.Starred v p)(h2:∀v p,e2≠.Starred v p)
  (q:wpAny (model prog w) A (PySem.eval e1 env) (λv1 s'1=>wpAny (model prog w) A (PySem.eval e2 env) (λv2 s'2=>wpAny (model prog w) A (call (.builtin "re.Pattern.sub") [.ref ra,v1,v2]) Q E s'2) E s'1) E s):
  wpAny (model prog w) A (PySem.eval (.Call (.Attribute (.Name id p1) "sub" p2) [e1,e2] [] p9) env) Q E s:=by
 have hstar:backTo p9 (starEach [e1,e2] env)=[(false,PySem.eval e1 env),(false,PySem.eval e2 env)]:=by rw[Zad h1,Zad h2];rfl
 refine Hbq (Zat rfl) (by rw[hstar];rfl) hline ?_
 rw[hstar];have hk:env.kindOf id=some .globalImplicit:=by rw[ok.kindOf];exact hkind
 obtain⟨pv,fl,g,t6,ct,g1,g2⟩:=(hre.ext bs.ext).it;refine Hbg ok.kind hk (Hbm (ok.glob▸bs.ng) hmg ?_) hid
 refine⟨"re.Pattern","re.Pattern.sub",RF.plainAttrs,RF.slot_sub,RF.type_sub,⟨_,g1,rfl⟩,(λb e=>by cases e;exact⟨_,g1,rfl⟩),?_⟩
 refine Hbo rfl (Calls.evalArgs_plain (Hbf ?_))
 refine Ha4 q (λv1 s'1 h1=>Hbf ?_) λ_ _ e=>e
 refine Ha4 h1 (λv2 s'2 h2=>Hbe h2) λ_ _ e=>e
set_option tactic.hygienic true in
theorem Zmu(hk:k+1<=100)(hnm:Zb6 nm){a r1 r2:Addr}{fd:FuncData}{x:Nat}{tc:Tok}
  (F:Zna s0 a fd [.Return (some (.Call (.Attribute (.Name "_twin_re_1" (Zp2 0)) "sub" (Zp2 1)) [.Constant (.str "..") 0 (Zp2 2),.Call (.Attribute (.Name "_twin_re_2" (Zp2 3)) "sub" (Zp2 4)) [.Name "CRLF" (Zp2 5),.Name (nm x) (Zp2 6)] [] (Zp2 7)] [] (Zp2 8))) (Zp2 9)])
  (hbind:Zgc nm fd [x])(hfit:Zai fd.scope.names (nm x)=true)(hdb:(nm x==("__debug__":Str))=false)(l1:((Zp2 1).endLine==(Zp2 8).line)=true)(l2:((Zp2 4).endLine==(Zp2 7).line)=true)(n1:fd.scope.names.lookup ("_twin_re_1":Str)=some .globalImplicit)(n2:fd.scope.names.lookup ("_twin_re_2":Str)=some .globalImplicit)(n3:fd.scope.names.lookup ("CRLF":Str)=some .globalImplicit)
  (g1:mg "_twin_re_1"=some (.ref r1))(g2:mg "_twin_re_2"=some (.ref r2))(g3:mg "CRLF"=some (.str ⟨#[13,10]⟩ tc))(R1:Zcs s0.heap r1 Zau)(R2:Zcs s0.heap r2 Zaf){t:List Nat}(ht:t.length<=400000):
  ∀(A:Around) (E:Value->Shared->Prop) (N:Addr->Prop) (s:Shared) (vs:List Value) (Q:Value->Shared->Prop),AOk k A->Bs T mg mb s0 s->(∀a,N a->Occ s.heap a)->RdL σ N s.heap vs [.str t]->Zd9 T σ N s (.str (Zg8 t)) Q->wpAny (model prog w) A (call (.ref a) vs) Q E s:=by
 refine Ztr (d:=.str (Zg8 t)) hk hnm F hbind rfl (by simpa using hfit) rfl λA' E' N2 env s'1 x'1=>?_
 refine Hbx (Hbu ?_)
 have hv:Zi4 (env.kindOf (nm x))=true:=by
  unfold Zai at hfit;have hf:=Zaa hfit;rw[x'1.ok.kindOf];rcases(Hb9 _ _).mp hf.1 with q|q
  ·rw[Hb5 q];rfl
  ·rw[Hb5 q];rfl
 obtain⟨v,hvar,hrd⟩:=x'1.rel.one x (.str t) (by show lk x [(x,D.str t)]=_;rw[Zav,if_pos rfl]) hv
 obtain⟨_,_,rfl,et⟩:=hrd.inv;rename_i xs tx;refine Zqc x'1.ok x'1.bs g1 (by decide) n1 R1 l1 (λ_ _ h=>by cases h) (λ_ _ h=>by cases h) ?_
 refine wpAny_Constant_str ?_
 have e'1:Ext T s'1 {s'1 with toks:=s'1.toks+1}:=.toks
 have x'2:=x'1.ext e'1;refine Zqc x'2.ok x'2.bs g2 (by decide) n2 R2 l2 (λ_ _ h=>by cases h) (λ_ _ h=>by cases h) ?_
 have hkc:env.kindOf ("CRLF":Str)=some .globalImplicit:=by rw[x'2.ok.kindOf];exact n3
 refine Hbg x'2.ok.kind hkc (Hbm (x'2.ok.glob▸x'2.bs.ng) g3 ?_) (by decide)
 refine(hvar.ext e'1).load x'2.ok.kind hdb ?_
 have hsz:xs.cps.size=t.length:=by rw[←et,Hce]
 have F2:Zqm Zaf xs.cps (Zn6 xs.cps):=Ztq xs.cps;have out2:Zjh (Zn6 xs.cps) [13,10] xs.cps (xs.cps.size+1) 0=Zb9 false t:=by
  rw[Zv3 xs.cps _ 0 (by exact(ln2 (.a (.v 1) (.k 1)) (.a (.v 0) (.k 1)) [(1,.v 1,.v 0)] rfl (Hbl _ _))) (Hap _),List.drop_zero,et]
 have len2:=Zdv false t;refine Yaa (r:=⟨#[13,10]⟩) F2 (ln2 (.v 1) (.k 1000000) [(1,.v 0,.k 400000),(1,.v 1,.v 0)] rfl ht (Han hsz)) (by decide+kernel) (R2.ext x'2.bs.ext) (by show(Zjh _ [13,10] _ _ _).length<=_;rw[out2];exact(ln2 (.v 1) (.k 4000000) [(2,.v 0,.k 400000),(1,.v 1,.m 2 (.v 0))] rfl ht len2)) λs'2 v2 t2 h1 h2 h3 h4=>?_
 have h4:v2.cps.toList=Zb9 false t:=h4.trans out2;have e'2:Ext T {s'1 with toks:=s'1.toks+1} s'2:=⟨λb o _ e=>h1 b o e,λb o e _=>h1 b o e,λb _ t=>t.keep (λc o _ e=>h1 c o e) (λo e=>h1 _ o e),λe=>by rw[h2];exact e,h3⟩
 have x3:=x'2.ext e'2;have hsz2:v2.cps.size=(Zb9 false t).length:=by rw[←h4,Hce]
 have F1:Zqm Zau v2.cps (Zn5 v2.cps):=Ztp v2.cps (ln3 (.v 2) (.k (2^60)) [(2,.v 0,.k 400000),(1,.v 1,.m 2 (.v 0)),(1,.v 2,.v 1)] rfl ht len2 (Han hsz2));have out1:Zjh (Zn5 v2.cps) [46,46] v2.cps (v2.cps.size+1) 0=Zg8 t:=by
  rw[Zv2 v2.cps _ 0 (by exact(ln2 (.a (.v 1) (.k 1)) (.a (.v 0) (.k 1)) [(1,.v 1,.v 0)] rfl (Hbl _ _))) (Hap _),List.drop_zero,h4];rfl
 have len1:=Zmt t;refine Yaa (r:="..") F1 (ln3 (.v 2) (.k 1000000) [(2,.v 0,.k 400000),(1,.v 1,.m 2 (.v 0)),(1,.v 2,.v 1)] rfl ht len2 (Han hsz2)) (by decide+kernel) (R1.ext x3.bs.ext) (by show(Zjh _ [46,46] _ _ _).length<=_;rw[out1];exact(ln2 (.v 1) (.k 4000000) [(4,.v 0,.k 400000),(1,.v 1,.m 4 (.v 0))] rfl ht len1)) λs3 v3 t3 h5 h6 h7 h8=>?_
 have e'3:Ext T s'2 s3:=⟨λb o _ e=>h5 b o e,λb o e _=>h5 b o e,λb _ t=>t.keep (λc o _ e=>h5 c o e) (λo e=>h5 _ o e),λe=>by rw[h6];exact e,h7⟩
 exact⟨_,rfl,.str (h8.trans out1),((e'1.trans e'2).trans e'3).upd⟩
theorem At.see(x:At T σ mg mb s0 nm sc k A N2 env s ρ ow OA){y:Nat}{v:Value}{d:D}(hv:Zam env s.heap (nm y) v)(hr:Rd σ (Nof N2 OA) s.heap v d):At T σ mg mb s0 nm sc k A N2 env s ((y,d)::ρ) ow OA:=by
 refine⟨x.ha,x.ok,x.hm,x.bs,⟨λz e hl hk=>?_,x.rel.own,x.rel.nodup,x.rel.apart,x.rel.sl⟩,x.occ,x.young⟩
 rw[Zav]at hl;by_cases q:z=y
 ·rw[if_pos q]at hl;rw[q];exact⟨v,hv,sI hl▸hr⟩
 ·rw[if_neg q]at hl;exact x.rel.one z e hl hk
theorem Yfq{a:Addr}{fd:FuncData}{body:List Stmt}(F:Zna s0 a fd body)(hcell:∀x∈fd.scope.names,x.2≠.cell)(ha:AOk k A)(bs:Bs T mg mb s0 s)(occ:∀a,N a->Occ s.heap a){env:Env}(henv:env=callEnv fd s.heap.objs.size a){m:Str->Option Value}{h'0:Heap}{tk:Nat}
  (hns:h'0.Ns s.heap.objs.size m)(hk:∀b o,s.heap.get? b=some o->h'0.get? b=some o):
  At T σ mg mb s0 nm fd.scope.names (k+1) (A.deeper env) (λb=>N b\/Frm env b) env {s with heap:=h'0,toks:=tk} [] [] []/\Ext T s {s with heap:=h'0,toks:=tk}/\(∀b,Frm env b->s.heap.get? b=none)∧
   ∀x v,fd.scope.names.lookup x=some .local->m x=some v->Zam env h'0 x v:=by
 obtain⟨nk,np⟩:=Zba F.names;have hloc:env.locals=s.heap.objs.size:=by rw[henv];rfl
 have hcel:env.cells=[]:=by rw[henv];exact F.clo
 have hnam:env.scope=fd.scope:=by rw[henv];rfl
 have ext:Ext T s {s with heap:=h'0,toks:=tk}:=.of_keeps hk
 have frmN:∀b,Frm env b->s.heap.get? b=none:=λb h=>by
  rcases h with e|⟨n,hm⟩
  ·rw[e,hloc];exact Zae (Hac _)
  ·rw[hcel]at hm;exact nomatch hm
 have sl:Zbj env h'0:=⟨⟨m,hloc▸hns⟩,λn c hm=>(by rw[hcel]at hm;exact nomatch hm),by rw[hcel];exact .nil⟩
 have ok:Zcg env fd.scope.names:=by
  refine⟨by rw[hnam];exact F.kind,by rw[hnam],by rw[henv];exact F.glob,by rw[henv];exact F.bui,λy hy=>?_⟩
  rcases hy with hy|hy
  ·exact absurd rfl (hcell _ (mem_of_lookup hy))
  ·have:=(nk y .free (mem_of_lookup hy)).1 rfl;exact this.elim (λh=>nomatch h) λh=>nomatch h
 refine⟨⟨⟨ha.handled,Hax ha.depth,?_⟩,ok,⟨.inr (.inl rfl),λn c hm=>.inr (.inr ⟨n,hm⟩)⟩,bs.step ext,⟨λy d hl hk=>nS hl,.nil,.nil,λb hb=>(nomatch hb),sl⟩,λb h=>?_,⟨λb h=>bs.free (frmN b h),λb hb=>(nomatch hb)⟩⟩,ext,frmN,λx v hx hm=>?_⟩
 ·exact Yew ha.units
 ·rcases h with h|h
  ·exact(occ b h).ext ext
  ·exact sl.frm_occ (s:={s with heap:=h'0,toks:=tk}) h
 ·exact .inl ⟨by rw[ok.kindOf];exact hx,m,hloc▸hns,hm⟩
theorem Zse(hk:k+1<=100){a:Addr}{fd:FuncData}{body:List Stmt}(F:Zna s0 a fd body)(hcell:∀x∈fd.scope.names,x.2≠.cell)(ha:AOk k A)(bs:Bs T mg mb s0 s)(occ:∀a,N a->Occ s.heap a){vals:List Value}{kws:List (Str×Value)}{Q:Value->Shared->Prop}
  {B:List (Str×Value)->Shared->Prop}(hbind:∀(A':Around) (E':Value->Shared->Prop),wpAny (model prog w) A' (bindArgs fd ⟨vals,kws⟩) B E' s)(hB:∀binds s'1,B binds s'1->Ext T s s'1/\(∀x∈binds,fd.scope.names.lookup x.1=some .local)∧
   ∀(env:Env) (s'2:Shared) (E':Value->Shared->Prop),At T σ mg mb s0 nm fd.scope.names (k+1) (A.deeper env) (λb=>N b\/Frm env b) env s'2 [] [] []->Ext T s'1 s'2->(∀b,Frm env b->s'1.heap.get? b=none)->(∀x v,fd.scope.names.lookup x=some .local->binds.reverse.lookup x=some v->Zam env s'2.heap x v)->
    wpAny (model prog w) (A.deeper env) (execs body env) (λf s'=>Q (match f with| .ret v=>v|_=>.none) s') E' s'2):wpAny (model prog w) A (call (.ref a) vals kws) Q E s:=by
 obtain⟨o,ho,hd⟩:=F.at';refine wpAny_call (codeAny_call_function (ha.room (Hba hk)) (bs.ext.keep2 a o ho (Za0 (by rw[hd];rfl))) hd F.co F.gen F.body (Zdm bs F.rec') ?_)
 refine Ha4 (hbind _ _) (λbinds s'1 hb=>?_) λ_ _ e=>e
 obtain⟨x'1,hloc,hbody⟩:=hB binds s'1 hb;have bs1:=bs.step x'1;refine wpAny_newFunctionEnv hcell hloc (λh'0 hns0 hsb0=>?_) F.kind
 have keep:∀b o,s'1.heap.get? b=some o->h'0.get? b=some o:=λb o e=>hsb0.extBut b o (Ha9 (Haj e)) (Hai _ e)
 refine⟨((bs1.ext.nolimit F.lim).keeps keep),codeAny_func ?_⟩
 obtain⟨at2,x'2,frmN,vars⟩:=Yfq (σ:=σ) (nm:=nm) (N:=N) F hcell ha bs1 (λb h=>(occ b h).ext x'1) rfl (tk:=s'1.toks+binds.length) hns0 keep
 exact hbody _ _ _ at2 x'2 frmN vars
structure Yhp(s0:Shared)(mg mb:Str->Option Value):Prop where
 freeType:mg "type"=none
 valType:mb "type"=some (.type "type")
 freeList:mg "list"=none
 valList:mb "list"=some (.type "list")
 name:∃a,mg "_name_disallowed_re"=some (.ref a)/\Zcs s0.heap a Zbx
 value:∃a,mg "_value_disallowed_re"=some (.ref a)/\Zcs s0.heap a Zby
theorem At.name(x:At T σ mg mb s0 nm sc k A N2 env s ρ ow OA){y:Str}{v:Value}{pos:Pos}{Q:Value->Shared->Prop}(hv:Zam env s.heap y v)(hd:(y==("__debug__":Str))=false)(q:Q v s):wpAny (model prog w) A (PySem.eval (.Name y pos) env) Q E s:=
 hv.load x.ok.kind hd q
theorem At.builtin(x:At T σ mg mb s0 nm sc k A N2 env s ρ ow OA){y:Str}{v:Value}{pos:Pos}{Q:Value->Shared->Prop}(hk:sc.lookup y=some .globalImplicit)(hd:(y==("__debug__":Str))=false)(h1:mg y=none)(h2:mb y=some v)(q:Q v s):wpAny (model prog w) A (PySem.eval (.Name y pos) env) Q E s:=
 Hbg x.ok.kind (by rw[x.ok.kindOf];exact hk) (Hbh (x.ok.glob▸x.bs.ng) h1 (x.ok.bui▸x.bs.nb) h2 q) hd
theorem At.global(x:At T σ mg mb s0 nm sc k A N2 env s ρ ow OA){y:Str}{v:Value}{pos:Pos}{Q:Value->Shared->Prop}(hk:sc.lookup y=some .globalImplicit)(hd:(y==("__debug__":Str))=false)(h1:mg y=some v)(q:Q v s):wpAny (model prog w) A (PySem.eval (.Name y pos) env) Q E s:=
 Hbg x.ok.kind (by rw[x.ok.kindOf];exact hk) (Hbm (x.ok.glob▸x.bs.ng) h1 q) hd
theorem At.save(x:At T σ mg mb s0 nm sc k A N2 env s [] ow OA){y:Str}{v:Value}{Q:Unit->Shared->Prop}(hf:Zai sc y=true)(hy:∀z o,lk z ow=some o->nm z≠y)
  (q:∀s',At T σ mg mb s0 nm sc k A N2 env s' [] ow OA->Upd T (Frm env) s s'->Zam env s'.heap y v->(∀z u,z≠y->Zam env s.heap z u->Zam env s'.heap z u)->Q () s'):wpAny (model prog w) A (storeName env y v) Q E s:=by
 obtain⟨a,st⟩:=Zb2 x.ok hf;refine Zlh x.ok.kind x.rel.sl st (Zbm x.bs x.rel.sl st.frm) λs' u sl' hv ho=>?_
 have u':Upd T (Frm env) s s':=u.mono λb e=>e▸st.frm
 have fit:Zdk (Nof N2 OA) (Nof N2 OA) s.heap s'.heap:=u.fits λb e=>e▸.inl (x.hm.frm st.frm)
 refine q s' ⟨x.ha,x.ok,x.hm,x.bs.upd u' x.young.frm,⟨λz d hl hk=>(by cases hl),?_,x.rel.nodup,x.rel.apart,sl'⟩,λb h=>u.occ b (x.occ b h),x.young⟩ u' hv ho
 have own:∀(ow:List (Nat×O)) (OA':List (List Addr)),(∀z o,lk z ow=some o->nm z≠y)->(∀b∈OA'.flatten,¬N2 b)->Ze4 σ nm (Nof N2 OA) env s.heap ow OA'->Ze4 σ nm (Nof N2 OA) env s'.heap ow OA':=by
  intro ow OA' hz hap ho'
  induction ho' with
  |nil=>exact .nil
  | @cons z o as v r r' hv' hat t ih=>
   have hz1:nm z≠y:=hz z o (by rw[Zcd,if_pos rfl])
   refine .cons (ho _ _ hz1 hv') (hat.mono fit λb hb hm=>?_) (ih (λz' o' hl=>?_) λb hb=>hap b (by rw[Hcf];exact List.mem_append_right _ hb))
   ·obtain⟨ob,eb,tb⟩:=hb;exact(u.keep2 b ob (λq=>hap b (by rw[Hcf];exact List.mem_append_left _ hm) (q▸x.hm.frm st.frm)) eb tb).trans eb.symm
   ·by_cases q:z'=z
    ·rw[q];exact hz1
    ·exact hz z' o' (by rw[Zcd,if_neg q];exact hl)
 exact own ow OA hy (λb hb=>(x.rel.apart b hb).1) x.rel.own
theorem Zg0{M:Model}{A:Around}{E:Value->Shared->Prop}{s:Shared}{Q:Bool->Shared->Prop}(h:Q false s):wpAny M A (truthy .none) Q E s:=λ_ _ _=>h
noncomputable def Zkk(v1 v2 v3:Value):List (Str×Value):=[(("self":Str),v1),(("value":Str),v2),(("name":Str),v3)]
theorem Zq2(hk:k+1<=100)(H:Yhp s0 mg mb){a:Addr}{fd:FuncData}{rest:List Stmt}{bad:List Stmt}
  (F:Zna s0 a fd (.If (.Compare (.Call (.Name "type" (Zhc 0)) [.Name "value" (Zhc 1)] [] (Zhc 2)) [.Is] [.Name "str" (Zhc 3)] (Zhc 4))
   [.Assign [.Name "regex" (Zhc 5)] (.IfExp (.Name "name" (Zhc 6)) (.Name "_name_disallowed_re" (Zhc 7)) (.Name "_value_disallowed_re" (Zhc 8)) (Zhc 9)) (Zhc 10),
    .If (.Call (.Attribute (.Name "regex" (Zhc 11)) "search" (Zhc 12)) [.Name "value" (Zhc 13)] [] (Zhc 14)) bad [] (Zhc 15),.Return (some (.Name "value" (Zhc 16))) (Zhc 17)] [] (Zhc 18)::rest))
  (hcell:∀x∈fd.scope.names,x.2≠.cell)(hline:((Zhc 12).endLine==(Zhc 14).line)=true)
  (hbind:∀v1 v2 v3,bindArgs fd ⟨[v1,v2],[(("name":Str),v3)]⟩=pure (Zkk v1 v2 v3))(hnames:(["self","value","name","regex"]:List Str).all (λy=>fd.scope.names.lookup y==some .local)=true)
  (hglob:(["type","str","_name_disallowed_re","_value_disallowed_re"]:List Str).all (λy=>fd.scope.names.lookup y==some .globalImplicit)=true):
  ∀(A:Around) (E:Value->Shared->Prop) (N:Addr->Prop) (s:Shared) (sv:Value) (x:Str) (t:Tok) (b:Bool) (Q:Value->Shared->Prop),AOk k A->Bs T mg mb s0 s->(∀a,N a->Occ s.heap a)->Zbq x.cps.toList=true->x.cps.size<2^63->
   (∀s',Ext T s s'->Q (.str x t) s')->wpAny (model prog w) A (call (.ref a) [sv,.str x t] [(("name":Str),.bool b)]) Q E s:=by
 intro A E N s sv x t b Q ha bs occ hpl hsz q;have hn:∀y∈(["self","value","name","regex"]:List Str),fd.scope.names.lookup y=some .local:=λy hy=>Hb5 (bAll hnames y hy)
 have hg:∀y∈(["type","str","_name_disallowed_re","_value_disallowed_re"]:List Str),fd.scope.names.lookup y=some .globalImplicit:=λy hy=>Hb5 (bAll hglob y hy)
 refine Zse (σ:=⟨λ_=>0,λ_=>[],λ_=>⟨rfl,by decide⟩,prog,w⟩) (nm:=λn=>⟨#[n]⟩) hk F hcell ha bs occ (B:=λbinds s'1=>binds=Zkk sv (.str x t) (.bool b)/\s'1=s) (λA' E'=>by rw[hbind];exact Hau ⟨rfl,rfl⟩) ?_
 rintro binds s'1 ⟨rfl,rfl⟩
 refine⟨.refl,λy hy=>?_,λenv s'2 E' at2 x'2 frmN vars=>?_⟩
 ·simp only[Zkk,List.mem_cons,Hch,or_false]at hy;rcases hy with rfl|rfl|rfl
  ·exact hn _ (by simp)
  ·exact hn _ (by simp)
  ·exact hn _ (by simp)
 have vval:=vars "value" (.str x t) (hn _ (iL rfl)) (by kernel_rfl)
 have vname:=vars "name" (.bool b) (hn _ (iL rfl)) (by kernel_rfl)
 refine Hbx (wpAny_If (Hbw ?_))
 refine Hbi (at2.builtin (hg _ (iL rfl)) (by decide) H.freeType H.valType ?_)
 refine callWith_type1 ?_ rfl
 refine Hbf (at2.name vval (by decide) (Hbe ?_))
 refine call_type_of (Tx:="str") (typeIs_str _ _ _) (by decide) ?_
 refine at2.builtin (hg _ (iL rfl)) (by decide) (at2.bs.gl.free 2 (by decide)) (at2.bs.gl.val 2 (by decide)) ?_
 refine wpAny_is_self (by rfl) (Hav ?_)
 rw[if_pos rfl];have hre:∃ra code,(b=true->ra=H.name.choose/\code=Zbx)/\(b=false->ra=H.value.choose/\code=Zby)/\Zcs s0.heap ra code/\(code=Zbx\/code=Zby):=by
  cases b with
  |true=>exact⟨_,_,λ_=>⟨rfl,rfl⟩,λh=>(by cases h),H.name.choose_spec.2,.inl rfl⟩
  |false=>exact⟨_,_,λh=>(by cases h),λ_=>⟨rfl,rfl⟩,H.value.choose_spec.2,.inr rfl⟩
 obtain⟨ra,code,hra1,hra2,hre,hcode⟩:=hre;refine Hbx (Hbt ?_ rfl)
 have hsel:wpAny (model prog w) (A.deeper env) (eval (.IfExp (.Name "name" (Zhc 6)) (.Name "_name_disallowed_re" (Zhc 7)) (.Name "_value_disallowed_re" (Zhc 8)) (Zhc 9)) env) (λv s3=>v= .ref ra/\s3=s'2) E' s'2:=by
  refine IfExp_ (wpAny_isTrue_value (at2.name vname (by decide) (Hav ?_)) rfl)
  cases b with
  |true=>
   rw[if_pos rfl];refine at2.global (hg _ (iL rfl)) (by decide) H.name.choose_spec.1 ⟨by rw[(hra1 rfl).1],rfl⟩
  |false=>
   rw[if_neg Hca];refine at2.global (hg _ (iL rfl)) (by decide) H.value.choose_spec.1 ⟨by rw[(hra2 rfl).1],rfl⟩
 refine Ha4 hsel (λv s3 ⟨hv,hs⟩=>?_) λ_ _ e=>e
 subst hv;subst hs;refine at2.save (y:="regex") (by unfold Zai;rw[hn "regex" (by simp)];decide) (λz o h=>by cases h) λs4 at'4 u'4 vreg oth=>?_
 have vval4:=oth _ _ (by decide) vval
 have re4:=hre.ext at'4.bs.ext;obtain⟨pv,fl,g,t6,ct,g1,g2⟩:=id re4.it;refine Hbx (wpAny_If (wpAny_isTrue_value ?_ rfl))
 refine Hbq (Zat rfl) rfl hline ?_
 refine at'4.name vreg (by decide) ⟨"re.Pattern","re.Pattern.search",RF.plainAttrs,RF.slot_search,RF.type_search,⟨_,g1,rfl⟩,(λb e=>by cases e;exact⟨_,g1,rfl⟩),?_⟩
 refine Hbo rfl (Calls.evalArgs_plain (Hbf (at'4.name vval4 (by decide) (Hbe ?_))))
 have hplain:Zoy x.cps:=by
  intro i hi;have:=bAll (Zaa hpl).1 (x.cps.getD i 0) (by
   rw[Zcf,Hcs,Hcc (by rw[Hce];exact hi)]
   exact List.getElem_mem _)
  have:=Zaa this;exact⟨bLe this.1,bLe this.2⟩
 refine Zu8 re4 hcode hplain hsz ?_
 refine Zg0 ?_
 rw[if_neg Hca];refine Hbv (Hbx (Hbu (at'4.name vval4 (by decide) ?_)))
 exact q s4 (Zcq.ext2 x'2 u'4.gone frmN)
theorem Zo5(x:At T σ mg mb s0 nm sc k A N2 env s ρ ow OA)(hC:Zqk prog w T σ mg mb s0 k){sf:Str}{p1 p2 p3 p4 p5:Pos}{kk:Nat}{e:Expr}{b:Bool}{hx dx bl:Addr}{Q:Value->Shared->Prop}(hself:Zam env s.heap sf (.ref hx))(hdb:(sf==("__debug__":Str))=false)(hat:Zd7 σ s.heap hx dx bl)
  (hline:(p2.endLine==p5.line)=true)(hst:∀v p,e≠.Starred v p)
  (he:wpAny (model prog w) A (PySem.eval e env) (λv s'1=>∃y t,v= .str y t/\Ext T s s'1/\Zbq y.cps.toList=true/\y.cps.size<2^63/\∀s'2,Ext T s'1 s'2->Q (.str y t) s'2) E s):
  wpAny (model prog w) A (PySem.eval (.Call (.Attribute (.Name sf p1) "_convert_string_type" p2) [e] [⟨some "name",.Constant (.bool b) kk p3,p4⟩] p5) env) Q E s:=by
 obtain⟨f,⟨⟨fo',fd,hfo,hfd,hft⟩,hget⟩,hcall⟩:=hC;have hstar:backTo p5 (starEach [e] env)=[(false,PySem.eval e env)]:=by rw[Zad hst];rfl
 have hkw:backToKw p5 (keywordEach [⟨some "name",.Constant (.bool b) kk p3,p4⟩] env)=[(some ("name":Str),(do let v ←PySem.eval (.Constant (.bool b) kk p3) env;standAt p5;pure v))]:=rfl
 rw[arm_eval_Call,Zat (v:=.Name sf p1) rfl];refine Ha6 (x.name hself hdb ?_)
 refine Ha6 (Ha8 ?_)
 have hpos:methodCallPos true (.Name sf p1) env p2 p5=pure p5:=by unfold methodCallPos;simp[hline]
 unfold methodCall;rw[hstar,hkw];have hfew:methodCallForm (([e]:List Expr).length+([⟨some "name",.Constant (.bool b) kk p3,p4⟩]:List Keyword).length) [(false,PySem.eval e env)] [(some ("name":Str),(do let v ←PySem.eval (.Constant (.bool b) kk p3) env;standAt p5;pure v))]=true:=rfl
 rw[hfew];refine Ha6 (Ha7 ?_)
 refine hget A _ s hx dx bl _ _ x.bs.ext hat ?_
 refine Ha6 (wpAny_of_eq hpos ?_)
 refine PySem.callWith_function_kw (o:=fo') (fd:=fd) (PySem.evalArgs_kw rfl (Hbf (Ha4 he (λv s'1 h'1=>Hbe ?_) λ_ _ e=>e)))
 obtain⟨y,t,rfl,x'1,hp,hsz,q⟩:=h'1;refine PySem.wpAny_evalAll_cons (Ha6 (Hbp (Ha6 (Ha8 (Hau (PySem.wpAny_evalAll_nil ?_))))))
 have at1:=x.ext x'1;refine⟨⟨at1.bs.ext.keep2 f fo' hfo hft,hfd⟩,?_⟩
 exact hcall A E (Nof N2 OA) s'1 (.ref hx) y t b Q x.ha at1.bs at1.occN hp hsz q
structure Yah(σ:Sg)(s0:Shared)(mg mN:Str->Option Value)(cn:Addr):Prop where
 glob:mg "Headers"=some (.ref (σ.v 999).toNat)
 cls:ClsAt s0.heap (σ.v 999).toNat cn mN
 ga:mN "__getattribute__"=none
 gat:mN "__getattr__"=none
 sa:mN "__setattr__"=none
 hd:mN "_headers"=none
theorem Zek{c cn:Addr}{mN:Str->Option Value}(X:ClsAt s.heap c cn mN)(x:Ext T s s'):ClsAt s'.heap c cn mN:=by
 obtain⟨nm,q,bs,sn,sub,col,dd,k0,k1,k2,k3,k5,e⟩:=X.obj;exact⟨⟨nm,q,bs,sn,sub,col,dd,k0,k1,k2,k3,k5,x.keep2 _ _ e rfl⟩,x.ns X.ns⟩
theorem Zd7.inst{h:Heap}{x dx b:Addr}(hat:Zd7 σ h x dx b):h.InstFk x (σ.v 999).toNat λname=>if name=("_headers":Str)then some (.ref b)else none:=by
 obtain⟨o,od,h1,h2,ho⟩:=hat.it;obtain⟨es,ep,e1,e2,e3,e4⟩:=ho.names;exact⟨o,h1,ho.cls,ho.data,.inr ⟨dx,ho.dict,ho.apart,⟨od,es,ep,h2,e1,e2,e3,e4⟩,⟨od,h2,ho.dcls,ho.ddict⟩⟩⟩
namespace HF
theorem obj_headers:typeLookup (.type "object") "_headers"=pure none:=by rw[Hc5,Hcj];kernel_rfl
theorem obj_cvt:typeLookup (.type "object") "_convert_string_type"=pure none:=by rw[Hc5,Hcj];kernel_rfl
theorem obj_add:typeLookup (.type "object") "add_header"=pure none:=by rw[Hc5,Hcj];kernel_rfl
theorem obj_getall:typeLookup (.type "object") "get_all"=pure none:=by rw[Hc5,Hcj];kernel_rfl
theorem obj_keys:typeLookup (.type "object") "keys"=pure none:=by rw[Hc5,Hcj];kernel_rfl
end HF
theorem Zg4{mN:Str->Option Value}{cn x dx b:Addr}(H:Yah σ s0 mg mN cn)(e:Ext T s0 s)(hat:Zd7 σ s.heap x dx b){expr:Bool}{Q:Value->Shared->Prop}(q:∀s',Ext T s s'->Q (.ref b) s'):wpAny (model prog w) A (getAttr (.ref x) "_headers" expr) Q E s:=by
 obtain⟨hh,g,d,t,os⟩:=s;have X:=Zek H.cls e;obtain⟨nm,q',bs,sn,sub,col,dd,k0,k1,k2,k3,k5,hC⟩:=X.obj;exact load_attrFk hC X.ns H.ga H.hd HF.obj_headers hat.inst (by rw[if_pos rfl]) rfl (q _ (.toks (s:=⟨hh,g,d,t,os⟩)))
theorem Zkt{mN:Str->Option Value}{cn f:Addr}{name:Str}{y:Option Value}(H:Yah σ s0 mg mN cn)(hf:mN name=some (.ref f)){of:Obj}{fd:FuncData}(hfo:s0.heap.get? f=some of)(hfc:of.cls= .type "function")(hfd:of.data= .func fd)
  (hB:typeLookup (.type "object") name=pure y)(hne:name≠("_headers":Str)):Ydz prog w T σ s0 name f:=by
 have ht:Zb0 of=false:=Za0 (by rw[hfd];rfl)
 refine⟨⟨of,fd,hfo,hfd,ht⟩,λA E s x dx b pl Q e hat q=>?_⟩
 obtain⟨hh,g,d,t,os⟩:=s;have X:=Zek H.cls e;obtain⟨nm,q',bs,sn,sub,col,dd,k0,k1,k2,k3,k5,hC⟩:=X.obj;exact method_ofFk hC X.ns H.ga H.gat hf (e.keep2 f of hfo ht) hfc hB hat.inst (by rw[if_neg hne]) q
noncomputable def Za4(l:List Str)(n:Nat):Str:=match l[n]? with
 |some x=>x
 |none=>⟨Array.replicate (n+40) 64⟩
theorem Zdi{l:List Str}(hd:l.Nodup)(hl:∀x∈l,x.cps.size<40)(h0:(".0":Str)∉l):Zb6 (Za4 l):=by
 have big:∀n,l[n]?=none->(Za4 l n).cps.size=n+40:=λn h=>by unfold Za4;rw[h];simp
 have sm:∀n x,l[n]?=some x->Za4 l n=x:=λn x h=>by unfold Za4;rw[h]
 refine⟨λa b h=>?_,λn h=>?_⟩
 ·cases ha:l[a]? with
  |none=>
   cases hb:l[b]? with
   |none=>
    have e:=big a ha;rw[h,big b hb]at e;exact(Ham (ln2 (.v 1) (.v 0) [(1,.a (.v 1) (.k 40),.a (.v 0) (.k 40))] rfl (Han e.symm)) (ln2 (.v 0) (.v 1) [(1,.a (.v 0) (.k 40),.a (.v 1) (.k 40))] rfl (Han e)))
   |some y=>
    have e:=big a ha;rw[h,sm b y hb]at e;exact(Ha1 (Hag (Nat.le_add_left 40 a) (Han e.symm)) (hl y (Has hb))).elim
  |some x=>
   cases hb:l[b]? with
   |none=>
    have e:=big b hb;rw[←h,sm a x ha]at e;exact(Ha1 (Hag (Nat.le_add_left 40 b) (Han e.symm)) (hl x (Has ha))).elim
   |some y=>
    rw[sm a x ha,sm b y hb]at h;subst h;exact(List.getElem?_inj (List.getElem?_eq_some_iff.mp ha).1 hd).mp (ha.trans hb.symm)
 ·cases hn:l[n]? with
  |none=>
   have e:=big n hn;rw[h]at e;have:(".0":Str).cps.size=2:=by decide+kernel
   exact(Nat.not_succ_le_zero 0 (ln2 (.k 1) (.k 0) [(1,.a (.v 1) (.k 40),.v 0),(1,.v 0,.k 2)] rfl (Han e.symm) (Han this)))
  |some x=>rw[sm n x hn]at h;exact h0 (h▸Has hn)
theorem At.upd0(x:At T σ mg mb s0 nm sc k A N2 env s [] [] [])(u:Upd T W s s')(hW:∀a,W a->s0.heap.get? a=none)(hF:∀a,W a->¬Frm env a):At T σ mg mb s0 nm sc k A N2 env s' [] [] []:=
 ⟨x.ha,x.ok,x.hm,x.bs.upd u hW,⟨λy d hl hk=>(by cases hl),.nil,x.rel.nodup,x.rel.apart,x.rel.sl.upd u (λh=>hF _ h (.inl rfl)) λn c hm h=>hF _ h (.inr ⟨n,hm⟩)⟩,λa h=>u.occ a (x.occ a h),x.young⟩
theorem Zr4{c:Code}(ha:AOk k A)(h1:c.weight<=1)(h2:c.cUnits<=10):AOk (k+1) (A.under c):=by
 refine⟨ha.handled,?_,?_⟩
 ·show A.depth+c.weight<=400+(k+1);have:=ha.depth;exact(ln3 (.a (.v 1) (.v 0)) (.a (.k 400) (.a (.v 2) (.k 1))) [(1,.v 0,.k 1),(1,.v 1,.a (.k 400) (.v 2))] rfl h1 this)
 ·show A.units+c.cUnits<=10*(k+1)+20;have:=ha.units;exact(ln3 (.a (.v 1) (.v 0)) (.a (.m 10 (.a (.v 2) (.k 1))) (.k 20)) [(1,.v 0,.k 10),(1,.v 1,.a (.m 10 (.v 2)) (.k 20))] rfl h2 this)
noncomputable def Zcm:List Str:=["headers","k","v"]
theorem Zjq:Zb6 (Za4 Zcm):=Zdi (by decide+kernel) (by decide+kernel) (by decide+kernel)
noncomputable def Zih(v1 v2:Value):List (Str×Value):=[((("self":Str)),v1),((("headers":Str)),v2)]
theorem Zl9{h h':Heap}{x dx c:Addr}{mA:Str->Option Value}(I:h.InstFk x c λ_=>none)(hd:∀o,h.get? x=some o->o.dict=some dx)(I':h'.InstFk x c mA)
  (hsame:∀o'0,h.get? x=some o'0->∃o'1,h'.get? x=some o'1/\o'1.cls=o'0.cls/\o'1.data=o'0.data/\o'1.slots=o'0.slots/\∀dx,o'0.dict=some dx->o'1.dict=some dx):
  ∃o od es ep,h'.get? x=some o/\o.cls= .ref c/\(∀c,o.data≠.cls c)/\o.dict=some dx/\dx≠x/\h'.get? dx=some od/\od.cls= .type "dict"/\od.dict=none/\od.data= .dict es ep/\StrKeys es/\UniqKeys es/\∀name,nsFind es name=mA name:=by
 obtain⟨o'0,h0,_⟩:=id I;obtain⟨o'1,h1,_,_,_,hdd⟩:=hsame o'0 h0;have hd1:=hdd dx (hd o'0 h0);obtain⟨o,g1,g2,g3,g4⟩:=I';rw[h1]at g1;cases g1;rcases g4 with⟨q,_⟩|⟨d',q,hne,⟨od,es,ep,e1,e2,e3,e4,e5⟩,⟨od',e6,e7,e8⟩⟩
 ·rw[hd1]at q;cases q
 ·rw[hd1]at q;cases q;rw[e1]at e6;cases e6;exact⟨o'1,od,es,ep,h1,g2,g3,hd1,hne,e1,e7,e8,e2,e3,e4,e5⟩
theorem Ygq(hk:k+3<=100)(hσ:∀n,(σ.v n).natAbs<=2^1000)(H:Yhp s0 mg mb){mN:Str->Option Value}{cn:Addr}(HC:Yah σ s0 mg mN cn){a:Addr}{fd:FuncData}{of:Obj}(hof:s0.heap.get? a=some of)(hofc:of.cls= .type "function")
  {bad:List Stmt}{fbody:List Stmt}
  (F:Zna s0 a fd [
   .Assign [.Name "headers" (Zbp 0)] (.IfExp (.Compare (.Name "headers" (Zbp 1)) [.IsNot] [.Constant .none 0 (Zbp 2)] (Zbp 3)) (.Name "headers" (Zbp 4)) (.List [] (Zbp 5)) (Zbp 6)) (Zbp 7),
   .If (.Compare (.Call (.Name "type" (Zbp 8)) [.Name "headers" (Zbp 9)] [] (Zbp 10)) [.IsNot] [.Name "list" (Zbp 11)] (Zbp 12)) bad [] (Zbp 13),
   .Assign [.Attribute (.Name "self" (Zbp 14)) "_headers" (Zbp 15)] (.Name "headers" (Zbp 16)) (Zbp 17),
   .If (.Constant (.bool true) 0 (Zbp 18)) [.For (.Tuple [.Name "k" (Zbp 19),.Name "v" (Zbp 20)] 0 (Zbp 21)) (.Name "headers" (Zbp 22)) fbody [] (Zbp 23)] [] (Zbp 24)])
  (hinit:mN "__init__"=some (.ref a))(hcell:∀x∈fd.scope.names,x.2≠.cell)
  (hbind:∀v1 v2 s,Ext T s0 s->BindsTo s fd ⟨[v1,v2],[]⟩ (Zih v1 v2))(hnames:(["self","headers","k","v"]:List Str).all (λy=>fd.scope.names.lookup y==some .local)=true)
  (hglob:(["type","list"]:List Str).all (λy=>fd.scope.names.lookup y==some .globalImplicit)=true):
  ∀(A:Around) (E:Value->Shared->Prop) (s:Shared) (L:Addr) (Q:Value->Shared->Prop),AOk k A->Bs T mg mb s0 s->s.heap.PlainList L #[]->¬T L->
  (∀x dx s',Ext T s s'->s.heap.get? x=none->s.heap.get? dx=none->Zd7 σ s'.heap x dx L->Q (.ref x) s')->wpAny (model prog w) A (call (.ref (σ.v 999).toNat) [.ref L]) Q E s:=by
 intro A E s L Q ha bs hL hTL q;have hn:∀y∈(["self","headers","k","v"]:List Str),fd.scope.names.lookup y=some .local:=λy hy=>Hb5 (bAll hnames y hy)
 have hg:∀y∈(["type","list"]:List Str),fd.scope.names.lookup y=some .globalImplicit:=λy hy=>Hb5 (bAll hglob y hy)
 obtain⟨hh,g,d,t,os⟩:=s;have X:=Zek HC.cls bs.ext;obtain⟨nm',q',bs',sn,sub,col,dd,k0,k1',k2',k3',k5',hC⟩:=X.obj;have htab:Zb0 of=false:=by obtain⟨o,ho,hd⟩:=F.at';rw[hof]at ho;cases ho;exact Za0 (by rw[hd];rfl)
 refine wpAny_call_obj_initFk PySem.F.objNew hC X.ns hinit (bs.ext.keep2 _ _ hof htab) hofc λh' x dx Mk=>?_
 have x'1:Ext T ⟨hh,g,d,t,os⟩ ⟨h',g,d,t,os⟩:=.of_keeps (s:=⟨hh,g,d,t,os⟩) (tk:=t) Mk.keeps;have bs1:=bs.step x'1;have ha'1:AOk (k+1) (A.under (.builtin "type.__call__" ⟨[.ref (σ.v 999).toNat,.ref L],[]⟩)):=Zr4 ha (by
  first
   |exact Han (by kernel_rfl:(Code.builtin "type.__call__" ⟨[.ref (σ.v 999).toNat,.ref L],[]⟩).weight=1)
   |exact Hag (Han (by kernel_rfl:(Code.builtin "type.__call__" ⟨[.ref (σ.v 999).toNat,.ref L],[]⟩).weight=0)) (Hap _)) (Hag (Han (by kernel_rfl:(Code.builtin "type.__call__" ⟨[.ref (σ.v 999).toNat,.ref L],[]⟩).cUnits=1)) (by decide))
 refine Zse (σ:=σ) (nm:=Za4 Zcm) (N:=λ_=>False) (ln1 (.a (.a (.v 0) (.k 1)) (.k 1)) (.k 100) [(1,.a (.v 0) (.k 3),.k 100)] rfl hk) F hcell ha'1 bs1 (λ_ h=>h.elim) (B:=λbinds s'2=>binds=Zih (.ref x) (.ref L)/\s'2=⟨h',g,d,t,os⟩) (λA' E'=>hbind _ _ _ bs1.ext _ _ _ _ ⟨rfl,rfl⟩) ?_
 rintro binds s'2 ⟨rfl,rfl⟩
 refine⟨.refl,λy hy=>?_,λenv s'2 E' at2 x'2 frmN vars=>?_⟩
 ·simp only[Zih,List.mem_cons,Hch,or_false]at hy;rcases hy with rfl|rfl
  ·exact hn _ (by simp)
  ·exact hn _ (by simp)
 have vself:=vars "self" (.ref x) (hn _ (iL rfl)) (by kernel_rfl)
 have vhd:=vars "headers" (.ref L) (hn _ (iL rfl)) (by kernel_rfl)
 refine Hbx (Hbt ?_ rfl)
 refine IfExp_ (Hbw (at2.name vhd (by decide) (wpAny_Constant_none (wpAny_isNot_other rfl (by intro h;cases h) (Hav ?_)))))
 rw[if_pos rfl];refine at2.name vhd (by decide) ?_
 refine at2.save (y:="headers") (by unfold Zai;rw[hn "headers" (by simp)];decide) (λz o h=>nS h) λs3 at3 u'3 vhd3 oth=>?_
 have vself3:=oth _ _ (by decide) vself
 have e'3:Ext T ⟨h',g,d,t,os⟩ s3:=Zcq.ext2 x'2 u'3.gone frmN;have hL3:s3.heap.PlainList L #[]:=by
  obtain⟨m,e⟩:=hL;exact⟨m,e'3.keep2 _ _ (Mk.keeps _ _ e) rfl⟩
 obtain⟨mL,eL⟩:=id hL3;refine Hbx (wpAny_If (Hbw ?_))
 refine Hbi (at3.builtin (hg _ (iL rfl)) (by decide) H.freeType H.valType ?_)
 refine callWith_type1 ?_ rfl
 refine Hbf (at3.name vhd3 (by decide) (Hbe ?_))
 refine call_type_of (Tx:="list") ⟨_,eL,rfl⟩ (by decide) ?_
 refine at3.builtin (hg _ (iL rfl)) (by decide) H.freeList H.valList ?_
 refine isnot_type_same (Hav ?_)
 rw[if_neg Hca];refine Hbv ?_
 refine Hbx (plainObj_wpAny_Assign_Attribute (at3.name vhd3 (by decide) (at3.name vself3 (by decide) ?_)) rfl)
 obtain⟨h3,g3,d3,t3,os3⟩:=s3;have X3:=Zek X (x'1.trans e'3);obtain⟨nm3,q'3,bs3,sn3,sub3,col3,dd3,kk0,kk1,kk2,kk3,kk5,hC3⟩:=X3.obj;have hxC:x≠(σ.v 999).toNat:=λe=>by have:=Mk.newX;rw[e,hC]at this;cases this
 have hobj:∃ox,h'.get? x=some ox/\ox.dict=some dx:=by
  obtain⟨ox,h1,_⟩:=Mk.inst;exact⟨ox,h1,Mk.dict ox h1⟩
 obtain⟨ox,hox,hoxd⟩:=hobj;have hoxt:Zb0 ox=false:=by
  obtain⟨o,h1,h2,_⟩:=Mk.inst;rw[hox]at h1;cases h1;rw[Zb0,h2];rfl
 have hox3:h3.get? x=some ox:=e'3.keep2 _ _ hox hoxt;have hI3:h3.InstFk x (σ.v 999).toNat λ_=>none:=by
  obtain⟨o,h1,h2,hnc,h4⟩:=Mk.inst;rw[hox]at h1;cases h1;rcases h4 with⟨q,_⟩|⟨d',q,hne,⟨od,es,ep,e1,e2,e3,e4,e5⟩,⟨od',e6,e7,e8⟩⟩
  ·rw[hoxd]at q;cases q
  ·rw[hoxd]at q;cases q;have g1:=e'3.keep2 _ _ e1 (Zag ⟨_,by rw[e1]at e6;cases e6;exact e7⟩)
   exact⟨_,hox3,h2,hnc,.inr ⟨dx,hoxd,hne,⟨od,es,ep,g1,e2,e3,e4,e5⟩,⟨od,g1,by rw[e1]at e6;cases e6;exact e7,by rw[e1]at e6;cases e6;exact e8⟩⟩⟩
 refine store_attrFk PySem.F.store_object hC3 X3.ns HC.sa HC.hd HF.obj_headers hxC hI3 (λh4 t4 I4 hkeep hsame=>?_) (ns:=[]) (by intro y hy;exact absurd rfl hy) (by decide)
 obtain⟨o4,od4,es4,ep4,b1,b2,b3,b4,b5,b6,b7,b8,b9,b10,b11,b12⟩:=Zl9 hI3 (λo ho=>by rw[hox3]at ho;cases ho;exact hoxd) I4 hsame
 have keep4:∀b o,b≠x->b≠dx->h3.get? b=some o->h4.get? b=some o:=λb o h1 h2 e=>hkeep b o h1 (λo'0 d' e1 e2=>by rw[hox3]at e1;cases e1;rw[hoxd]at e2;cases e2;exact h2) e
 have hat4:Zd7 σ h4 x dx L:=⟨o4,od4,b1,b6,⟨b2,b3,b4,b5,b7,b8,⟨es4,ep4,b9,b10,b11,λname=>by rw[b12 name]⟩⟩⟩
 have freeX:(⟨hh,g,d,t,os⟩:Shared).heap.get? x=none:=Mk.newX;have freeD:(⟨hh,g,d,t,os⟩:Shared).heap.get? dx=none:=Mk.newD;have ncX:Za9 h3 x:=by
  obtain⟨o,h1,h2,_⟩:=hI3;exact .of h1 (by unfold Zjb;rw[h2];exact Bool.and_false _)
 have ncD:Za9 h3 dx:=by
  obtain⟨o,h1,_,_,h4⟩:=hI3;rw[hox3]at h1;cases h1;rcases h4 with⟨q,_⟩|⟨d',q,_,⟨od,es,ep,e1,e2,_⟩,_⟩
  ·rw[hoxd]at q;cases q
  ·rw[hoxd]at q;cases q;exact .of e1 (Zci (by rw[e2];rfl))
 have u4:Upd T (λa=>a=x\/a=dx) ⟨h3,g3,d3,t3,os3⟩ ⟨h4,g3,d3,t4,os3⟩:=by
  have ht:∀b,T b->b≠x/\b≠dx:=λb tb=>by
   obtain⟨ps,e,_⟩:=bs.tabs_ok b tb;exact⟨λq=>(by rw[q,freeX]at e;cases e),λq=>(by rw[q,freeD]at e;cases e)⟩
  refine⟨λb o _ hw e=>keep4 b o (λq=>hw (.inl q)) (λq=>hw (.inr q)) e,λb o hw e _=>keep4 b o (λq=>hw (.inl q)) (λq=>hw (.inr q)) e,λb ⟨o,e,tt⟩=>?_,λb tb t=>t.keep (λc o co e=>keep4 c o (λq=>(q▸ncX).absurd co e) (λq=>(q▸ncD).absurd co e) e) (λo e=>keep4 b _ (ht b tb).1 (ht b tb).2 e),λe=>e,rfl⟩
  by_cases q1:b=x
  ·rw[q1];exact⟨o4,b1,by rw[Zb0,b2];rfl⟩
  ·by_cases q2:b=dx
   ·rw[q2];exact⟨od4,b6,Zag ⟨_,b7⟩⟩
   ·exact⟨o,keep4 b o q1 q2 e,tt⟩
 have occX:∀b,(b=x\/b=dx)->Occ h' b:=λb hb=>by
  rcases hb with rfl|rfl
  ·exact⟨ox,hox,hoxt⟩
  ·obtain⟨o,h1,h2,_,h4⟩:=Mk.inst;rw[hox]at h1;cases h1;rcases h4 with⟨q,_⟩|⟨d',q,_,_,⟨od',e6,e7,_⟩⟩
   ·rw[hoxd]at q;cases q
   ·rw[hoxd]at q;cases q;exact⟨od',e6,Zag ⟨_,e7⟩⟩
 have at4:=at3.upd0 u4 (λb hb=>bs.free (hb.elim (λq=>q▸freeX) λq=>q▸freeD)) (λb hb hf=>by
  obtain⟨o,e,_⟩:=occX b hb;rw[frmN b hf]at e;cases e)
 have vhd4:Zam env h4 "headers" (.ref L):=vhd3.upd u4 (λh=>by
   obtain⟨o,e,_⟩:=occX _ h;rw[frmN _ (.inl rfl)]at e;cases e) λn c hm h=>by
   obtain⟨o,e,_⟩:=occX _ h;rw[frmN _ (.inr ⟨n,hm⟩)]at e;cases e
 have hLx:L≠x/\L≠dx:=by
  obtain⟨m,e⟩:=hL;exact⟨λq=>(by rw[q,freeX]at e;cases e),λq=>(by rw[q,freeD]at e;cases e)⟩
 have eL4:h4.get? L=some (Za3 #[] mL):=keep4 _ _ hLx.1 hLx.2 eL;refine Hbx (wpAny_If (wpAny_isTrue_value (Hbp (Hav ?_)) rfl))
 rw[if_pos rfl];have hLN:¬Nof (λb=>False\/Frm env b) [] L:=λh=>by
  rcases h with(h|h)|h
  ·exact h
  ·have e:=frmN L h;obtain⟨m,e'⟩:=hL;rw[Mk.keeps _ _ e']at e;cases e
  ·simp at h
 have at5:=at4.see (y:=0) (d:=.lst []) (show Zam env h4 (Za4 Zcm 0) (.ref L)from vhd4) (.lst (vs:=[]) (n:=mL) hLN eL4 .nil);have hS:∀n,Zaq prog w T σ mg mb s0 (Za4 Zcm) (λ_=>"?") (λ_ _=>none) (k+1+1) n:=λn=>(Zvn (prog:=prog) (w:=w) (T:=T) (σ:=σ) (mg:=mg) (mb:=mb) (s0:=s0) (nm:=Za4 Zcm) (fn:=λ_=>"?") (C:=λ_ _=>none) (k:=k+1+1) (ln1 (.a (.a (.v 0) (.k 1)) (.k 1)) (.k 100) [(1,.a (.v 0) (.k 3),.k 100)] rfl hk) Zjq hσ ⟨λf ds d _ h=>nS h,λf ds d _ h=>nS h,λm es ds d h=>nS h⟩ n).1
 have ksc:∀y,y∈(["self","headers","k","v"]:List Str)->(fd.scope.names.lookup y==some NameKind.local)=true:=λy hy=>bAll hnames y hy
 have hfor:Zrc (okE (Za4 Zcm) (λ_=>"?") 1 fd.scope.names) fd.scope.names (.Tuple [.Name "k" (Zbp 19),.Name "v" (Zbp 20)] 0 (Zbp 21)) 0 [.n 0] (.Name "headers" (Zbp 22))=true:=by
  show(("headers":Str)==Za4 Zcm 0&&Zi4 (fd.scope.names.lookup ("headers":Str))&&("headers":Str) != ("__debug__":Str))=true;rw[hn "headers" (by simp)]
  decide+kernel
 have htg:Zbc (Za4 Zcm) fd.scope.names (.Tuple [.Name "k" (Zbp 19),.Name "v" (Zbp 20)] 0 (Zbp 21)) [1,2] false=true:=by
  show((("k":Str)==Za4 Zcm 1&&(fd.scope.names.lookup ("k":Str)==some .local||fd.scope.names.lookup ("k":Str)==some .cell))&&((("v":Str)==Za4 Zcm 2&&(fd.scope.names.lookup ("v":Str)==some .local||fd.scope.names.lookup ("v":Str)==some .cell))&&true))=true
  rw[hn "k" (by simp),hn "v" (by simp)]
  decide+kernel
 have hst:∀y∈[1,2],Zai fd.scope.names (Za4 Zcm y)=true:=by
  intro y hy;simp only[List.mem_cons,Hch,or_false]at hy;rcases hy with rfl|rfl
  ·show(((fd.scope.names.lookup ("k":Str)==some .local)||(fd.scope.names.lookup ("k":Str)==some .cell))&&("k":Str) != ("__classdict__":Str))=true
   rw[hn "k" (by simp)];decide+kernel
  ·show(((fd.scope.names.lookup ("v":Str)==some .local)||(fd.scope.names.lookup ("v":Str)==some .cell))&&("v":Str) != ("__classdict__":Str))=true
   rw[hn "v" (by simp)];decide+kernel
 refine Hbx ?_
 refine Ha4 (at5.loop (fn:=λ_=>"?") (C:=λ_ _=>none) (n:=1) (fo:=1) (g:=λ_ _=>none) (out:=.next [(0,.lst [])] []) (stmts:=fbody) (pos:=(Zbp 23)) (hS 1) Zjq hfor htg hst (λ_=>rfl) (ds:=[.lst []]) (items:=[]) rfl rfl (λ_ _ _ _ _ _ _ _ h=>nS h) rfl) (λf s5 hf=>?_) λ_ _ e=>e
 obtain⟨rfl,OA',p⟩:=hf;refine Hbv (Hbv ⟨rfl,?_⟩)
 have freeF:∀b,Frm env b->(⟨hh,g,d,t,os⟩:Shared).heap.get? b=none:=λb hb=>bs.free_at x'1 b (frmN b hb)
 have E3:Ext T ⟨hh,g,d,t,os⟩ ⟨h3,g3,d3,t3,os3⟩:=x'1.trans e'3;have E4:Ext T ⟨hh,g,d,t,os⟩ ⟨h4,g3,d3,t4,os3⟩:=Zcq.ext2 E3 u4.gone λb hb=>hb.elim (λq=>q▸freeX) λq=>q▸freeD
 have E5:Ext T ⟨hh,g,d,t,os⟩ s5:=Zcq.ext2 E4 p.upd.gone λb hb=>hb.elim (freeF b) λh=>by simp at h
 refine q x dx s5 E5 freeX freeD ⟨o4,od4,p.upd.keep2 _ _ (λh=>?_) b1 (by rw[Zb0,b2];rfl),p.upd.keep2 _ _ (λh=>?_) b6 (Zag ⟨_,b7⟩),⟨b2,b3,b4,b5,b7,b8,⟨es4,ep4,b9,b10,b11,λname=>by rw[b12 name]⟩⟩⟩
 ·rcases h with h|h
  ·obtain⟨o,e,_⟩:=occX x (.inl rfl);rw[frmN x h]at e;cases e
  ·simp at h
 ·rcases h with h|h
  ·obtain⟨o,e,_⟩:=occX dx (.inr rfl);rw[frmN dx h]at e;cases e
  ·simp at h
theorem At.frmD(x:At T σ mg mb s0 nm sc k A N2 env s [] [] [])(u:Upd T (Frm env) s s')(sl:Zbj env s'.heap):At T σ mg mb s0 nm sc k A N2 env s' [] [] []:=
 ⟨x.ha,x.ok,x.hm,x.bs.upd u x.young.frm,⟨λy d hl hk=>(by cases hl),.nil,x.rel.nodup,x.rel.apart,sl⟩,λa h=>u.occ a (x.occ a h),x.young⟩
theorem Zrf{mN:Str->Option Value}{cn x dx b:Addr}(H:Yah σ s0 mg mN cn)(x0:At T σ mg mb s0 nm sc k A N2 env s ρ ow OA)(hat:Zd7 σ s.heap x dx b){sf:Str}{p1 p2:Pos}(hs:Zam env s.heap sf (.ref x))(hdb:(sf==("__debug__":Str))=false){Q:Value->Shared->Prop}
  (q:∀s',Ext T s s'->Q (.ref b) s'):wpAny (model prog w) A (PySem.eval (.Attribute (.Name sf p1) "_headers" p2) env) Q E s:=by
 rw[arm_eval_Attribute,Zat (v:=.Name sf p1) rfl];refine Ha6 (x0.name hs hdb ?_)
 refine Ha6 (Ha8 ?_)
 refine Ha6 (Ha7 ?_)
 refine Zg4 H x0.bs.ext hat λs' e=>?_
 exact Ha6 (wpAny_letTemporaryGo (Hau (q s' e)))
noncomputable def Zhi(v1 v2 v3 v4:Value):List (Str×Value):=[((("self":Str)),v1),((("_name":Str)),v2),((("_value":Str)),v3),((("_params":Str)),v4)]
noncomputable def Zbz:Obj:={cls:=.type "dict",data:=.dict #[]}
theorem Zl2(sep y:Str):(Txt.join sep [y]).cps=y.cps:=by
 have h:=Zk0 sep [y];have:(Zem sep.cps.toList ([y].map (·.cps.toList)))=y.cps.toList:=by simp[Zem]
 rw[this]at h;exact Array.ext' h
theorem Yek(hk:k+3<=100)(H:Yhp s0 mg mb){mN:Str->Option Value}{cn:Addr}(HC:Yah σ s0 mg mN cn)(hC:Zqk prog w T σ mg mb s0 (k+1)){a:Addr}{fd:FuncData}
  {fbody:List Stmt}
  (F:Zna s0 a fd [
   .Assign [.Name "parts" (Zb4 0)] (.List [] (Zb4 1)) (Zb4 2),
   .If (.Compare (.Name "_value" (Zb4 3)) [.IsNot] [.Constant .none 0 (Zb4 4)] (Zb4 5)) [
    .Assign [.Name "_value" (Zb4 6)] (.Call (.Attribute (.Name "self" (Zb4 7)) "_convert_string_type" (Zb4 8)) [.Name "_value" (Zb4 9)] [⟨some "name",.Constant (.bool false) 0 (Zb4 10),(Zb4 11)⟩] (Zb4 12)) (Zb4 13),
    .Expr (.Call (.Attribute (.Name "parts" (Zb4 14)) "append" (Zb4 15)) [.Name "_value" (Zb4 16)] [] (Zb4 17)) (Zb4 18)] [] (Zb4 19),
   .For (.Tuple [.Name "k" (Zb4 20),.Name "v" (Zb4 21)] 0 (Zb4 22)) (.Call (.Attribute (.Name "_params" (Zb4 23)) "items" (Zb4 24)) [] [] (Zb4 25)) fbody [] (Zb4 26),
   .Expr (.Call (.Attribute (.Attribute (.Name "self" (Zb4 27)) "_headers" (Zb4 28)) "append" (Zb4 29)) [.Tuple [
    .Call (.Attribute (.Name "self" (Zb4 30)) "_convert_string_type" (Zb4 31)) [.Name "_name" (Zb4 32)] [⟨some "name",.Constant (.bool true) 0 (Zb4 33),(Zb4 34)⟩] (Zb4 35),
    .Call (.Attribute (.Constant (.str "; ") 0 (Zb4 36)) "join" (Zb4 37)) [.Name "parts" (Zb4 38)] [] (Zb4 39)] 0 (Zb4 40)] [] (Zb4 41)) (Zb4 42)])
  (hcell:∀x∈fd.scope.names,x.2≠.cell)(l1:((Zb4 8).endLine==(Zb4 12).line)=true)(l2:((Zb4 15).endLine==(Zb4 17).line)=true)(l3:((Zb4 24).endLine==(Zb4 25).line)=true)(l4:((Zb4 29).endLine==(Zb4 41).line)=true)(l5:((Zb4 31).endLine==(Zb4 35).line)=true)(l6:((Zb4 37).endLine==(Zb4 39).line)=true)
  (hbind:∀(A':Around) (E':Value->Shared->Prop) (s:Shared) (v1 v2 v3:Value) (B:List (Str×Value)->Shared->Prop),B (Zhi v1 v2 v3 (.ref s.heap.objs.size)) {s with heap:=s.heap.push Zbz}->wpAny (model prog w) A' (bindArgs fd ⟨[v1,v2,v3],[]⟩) B E' s)
  (hnames:(["self","_name","_value","_params","parts","k","v"]:List Str).all (λy=>fd.scope.names.lookup y==some .local)=true):
  ∀(A:Around) (E:Value->Shared->Prop) (s:Shared) (x dx b:Addr) (vs:List Value) (kx vx:Str) (kt vt:Tok) (Q:Value->Shared->Prop),AOk k A->Bs T mg mb s0 s->Zd7 σ s.heap x dx b->
  s.heap.PlainList b vs.toArray->¬T b->vs.length<=lim->Zbq kx.cps.toList=true->Zbq vx.cps.toList=true->
  (∀t ks vs' kt' vt' n s',Upd T (·=b) s s'->s.heap.get? t=none->s'.heap.get? t=some (Zcv #[.str ks kt',.str vs' vt'] n)->ks.cps=kx.cps->vs'.cps=vx.cps->s'.heap.PlainList b (vs++[Value.ref t]).toArray->Q .none s')->
  wpAny (model prog w) A (call (.ref a) [.ref x,.str kx kt,.str vx vt]) Q E s:=by
 intro A E s x dx b vs kx vx kt vt Q ha bs hat hb hTb hvl hpk hpv q;have szk:kx.cps.size<1000000:=by
  have:=bLe (Zaa hpk).2;rw[Hce]at this;exact this
 have szv:vx.cps.size<1000000:=by
  have:=bLe (Zaa hpv).2;rw[Hce]at this;exact this
 have hn:∀y∈(["self","_name","_value","_params","parts","k","v"]:List Str),fd.scope.names.lookup y=some .local:=λy hy=>Hb5 (bAll hnames y hy)
 have hfit:∀y∈(["self","_name","_value","_params","parts","k","v"]:List Str),Zai fd.scope.names y=true:=λy hy=>by
  unfold Zai;rw[hn y hy];simp only[List.mem_cons,Hch,or_false]at hy;rcases hy with rfl|rfl|rfl|rfl|rfl|rfl|rfl<;>decide
 have fD:s.heap.get? s.heap.objs.size=none:=Zae (Hac _);refine Zse (σ:=σ) (nm:=Za4 Zcm) (N:=λ_=>False) (ln1 (.a (.v 0) (.k 1)) (.k 100) [(1,.a (.v 0) (.k 3),.k 100)] rfl hk) F hcell ha bs (λ_ h=>h.elim) (B:=λbinds s'1=>binds=Zhi (.ref x) (.str kx kt) (.str vx vt) (.ref s.heap.objs.size)/\s'1={s with heap:=s.heap.push Zbz}) (λA' E'=>hbind _ _ _ _ _ _ _ ⟨rfl,rfl⟩) ?_
 rintro binds s'1 ⟨rfl,rfl⟩
 have x'1:Ext T s {s with heap:=s.heap.push Zbz}:=.push (tk:=s.toks)
 refine⟨x'1,λy hy=>?_,λenv s'2 E' at2 x'2 frmN1 vars=>?_⟩
 ·simp only[Zhi,List.mem_cons,Hch,or_false]at hy;rcases hy with rfl|rfl|rfl|rfl
  ·exact hn _ (by simp)
  ·exact hn _ (by simp)
  ·exact hn _ (by simp)
  ·exact hn _ (by simp)
 have frmN:∀c,Frm env c->s.heap.get? c=none:=λc hc=>bs.free_at x'1 c (frmN1 c hc)
 have v1:=vars "self" (.ref x) (hn _ (iL rfl)) (by kernel_rfl)
 have v2:=vars "_name" (.str kx kt) (hn _ (iL rfl)) (by kernel_rfl)
 have v3:=vars "_value" (.str vx vt) (hn _ (iL rfl)) (by kernel_rfl)
 have v4:=vars "_params" (.ref s.heap.objs.size) (hn _ (iL rfl)) (by kernel_rfl)
 have hD:(s.heap.push Zbz).get? s.heap.objs.size=some Zbz:=Hb7 _ rfl;have X2:Ext T s s'2:=x'1.trans x'2;have hD2:s'2.heap.get? s.heap.objs.size=some Zbz:=x'2.keep2 _ _ hD rfl;refine Hbx (Hbt (List_ (Hbe (Hbk ?_ (Hap _)))) rfl)
 have x3:Ext T s'2 {s'2 with heap:=s'2.heap.push {cls:=.type "list",data:=.seq #[]}}:=.push (tk:=s'2.toks)
 have hP3:(s'2.heap.push {cls:=.type "list",data:=.seq #[]}).PlainList s'2.heap.objs.size #[]:=⟨0,Hb7 _ rfl⟩;have fP:s'2.heap.get? s'2.heap.objs.size=none:=Zae (Hac _);have fP0:s.heap.get? s'2.heap.objs.size=none:=bs.free_at X2 _ fP;have PnF:¬Frm env s'2.heap.objs.size:=λh=>by
  obtain⟨o,e,_⟩:=at2.rel.sl.frm_occ h;rw[fP]at e;cases e
 have TP:¬T s'2.heap.objs.size:=λh=>Hao _ (at2.bs.lt _ h)
 have at3:=at2.ext x3;refine at3.save (y:="parts") (hfit _ (by simp)) (λz o h=>nS h) λs4 at'4 u'4 vp4 oth4=>?_
 have X4:Ext T s s4:=Zcq.ext2 (X2.trans x3) u'4.gone frmN;have hP4:s4.heap.PlainList s'2.heap.objs.size #[]:=by
  obtain⟨m,e⟩:=hP3;exact⟨m,u'4.keep2 _ _ PnF e rfl⟩
 have w1:=oth4 _ _ (by decide) (v1.ext x3)
 have w2:=oth4 _ _ (by decide) (v2.ext x3)
 have w3:=oth4 _ _ (by decide) (v3.ext x3)
 have w4:=oth4 _ _ (by decide) (v4.ext x3)
 refine Hbx (wpAny_If (Hbw (at'4.name w3 (by decide) (wpAny_Constant_none (wpAny_isNot_other rfl (by intro h;cases h) (Hav ?_))))))
 rw[if_pos rfl];refine Hbx (Hbt ?_ rfl)
 refine Zo5 at'4 hC w1 (by decide) (hat.ext X4) l1 (λ_ _ h=>by cases h) (at'4.name w3 (by decide) ⟨vx,vt,rfl,.refl,hpv,(ln1 (.a (.v 0) (.k 1)) (.k (2^63)) [(1,.a (.v 0) (.k 1),.k 1000000)] rfl szv),λs'5 x5=>?_⟩)
 have at'5:=at'4.ext x5;refine at'5.save (y:="_value") (hfit _ (by simp)) (λz o h=>nS h) λs6 at6 u6 vv6 oth6=>?_
 have X6:Ext T s s6:=Zcq.ext2 (X4.trans x5) u6.gone frmN;have hP6:s6.heap.PlainList s'2.heap.objs.size #[]:=by
  obtain⟨m,e⟩:=hP4;exact⟨m,u6.keep2 _ _ PnF (x5.keep2 _ _ e rfl) rfl⟩
 have a1:=oth6 _ _ (by decide) (w1.ext x5)
 have a2:=oth6 _ _ (by decide) (w2.ext x5)
 have a4:=oth6 _ _ (by decide) (w4.ext x5)
 have ap:=oth6 _ _ (by decide) (vp4.ext x5)
 refine Hbx (wpAny_Expr ?_ (Zbi at6.ok) rfl)
 refine Hbq (Zat rfl) (by rw[Zad (λ_ _ h=>by cases h)];rfl) l2 ?_
 rw[Zad (λ_ _ h=>by cases h)]
 refine at6.name ap (by decide) ?_
 refine Zhy hP6 (at6.name vv6 (by decide) ⟨hP6,λh'7 hP7 sb7=>?_⟩) (Hap _)
 have u7:Upd T (·=s'2.heap.objs.size) s6 {s6 with heap:=h'7}:=.of_but (tk:=s6.toks) sb7 (by obtain⟨m,e⟩:=hP7;exact⟨_,e,rfl⟩) TP (.lst hP6)
 have at7:=at6.upd0 u7 (λc hc=>by rw[hc];exact bs.free fP0) (λc hc=>by rw[hc];exact PnF)
 have X7:Ext T s {s6 with heap:=h'7}:=Zcq.ext2 X6 u7.gone λc hc=>by rw[hc];exact fP0
 have nF:∀c,Frm env c->c≠s'2.heap.objs.size:=λc hc e=>PnF (e▸hc)
 have up7:∀y v,Zam env s6.heap y v->Zam env h'7 y v:=λy v h=>h.upd u7 (nF _ (.inl rfl)) λn c hm=>nF _ (.inr ⟨n,hm⟩)
 have b1:=up7 _ _ a1;have b2:=up7 _ _ a2;have b4:=up7 _ _ a4;have bp:=up7 _ _ ap;refine Hbv ?_
 have hD7:h'7.get? s.heap.objs.size=some Zbz:=by
  have nD:∀c,Frm env c->c≠s.heap.objs.size:=λc hc e=>by
   have:=frmN1 c hc;rw[e,hD]at this;cases this
  have e4:=u'4.keep2 _ _ (λh=>nD _ h rfl) (x3.keep2 _ _ hD2 rfl) rfl
  have e6:=u6.keep2 _ _ (λh=>nD _ h rfl) (x5.keep2 _ _ e4 rfl) rfl
  exact u7.keep2 _ _ (λh=>by
   have h:s.heap.objs.size=s'2.heap.objs.size:=h;rw[h,fP]at hD2;cases hD2) e6 rfl
 obtain⟨m7,hns7⟩:=at7.rel.sl.ns;have kindL:∀y∈(["self","_name","_value","_params","parts","k","v"]:List Str),env.kindOf y=some .local:=λy hy=>by rw[at7.ok.kindOf];exact hn y hy
 have nLD:s.heap.objs.size≠env.locals:=λe=>by
  have:=frmN1 env.locals (.inl rfl);rw[←e,hD]at this;cases this
 have nsys:(s.heap.objs.size==sysModules)=false:=by
  rw[beq_eq_false_iff_ne];intro e;have:=Heap.Ns.lt bs.ng;have h1:sysModules<s.heap.objs.size:=Hak (by decide) this
  rw[←e]at h1;exact Hao _ h1
 refine Hbx (Ha4 (E:=λ_ _=>False) (wpAny_For_items_locals (knd:=strKind prog w) (d:=s.heap.objs.size) (kvs:=[]) (ep:=0) (m:=m7) at7.ha.handled (kindL _ (by simp)) (kindL _ (by simp)) (by rw[at7.ok.kind];rfl) nLD nsys
  ⟨Zbz,#[],hD7,by first|exact⟨rfl,rfl⟩|exact⟨rfl,rfl,rfl⟩|rfl,rfl,λ_ h=>by simp at h,by first|exact .nil|exact trivial|rfl,List.nodup_nil⟩ hns7 (Zat rfl) l3 (λQ' q'=>at7.name b4 (by decide) q') (λ_ m=>m=m7) rfl (λi k v key m'1 s'1 h=>by cases h) (λh'8 t8 m8 hn8 hm8 keep8=>?_)) (λ_ _ h=>h) λ_ _ h=>h.elim)
 have T_D:¬T s.heap.objs.size:=λh=>Hao _ (bs.lt _ h)
 have nTL:¬T env.locals:=Zbm (s:={s6 with heap:=h'7}) at7.bs at7.rel.sl (a:=env.locals) (.inl rfl)
 have u8:Upd T (Frm env) {s6 with heap:=h'7} {s6 with heap:=h'8,toks:=t8}:=by
  refine⟨λc o _ hw e=>keep8 c o (λq=>hw (.inl q)) e,λc o hw e _=>keep8 c o (λq=>hw (.inl q)) e,λc ⟨o,e,tt⟩=>?_,λc tc t=>t.keep (λd o co e=>keep8 d o (λq=>(q▸Za9.ns hns7).absurd co e) e) (λo e=>keep8 c _ (λq=>nTL (q▸tc)) e),λe=>e,rfl⟩
  by_cases q:c=env.locals
  ·rw[q];exact Zju hn8
  ·exact⟨o,keep8 c o q e,tt⟩
 have cellsKeep:∀c v,h'7.IsCell c v->h'8.IsCell c v:=λc v ⟨o,e,dd⟩=>by
  refine⟨o,keep8 c o (λq=>?_) e,dd⟩
  obtain⟨o',es,ep,e',d',_⟩:=hns7;rw[←q]at e';rw[e]at e';cases e';rw[dd]at d';cases d'
 have sl8:Zbj env h'8:=⟨⟨m8,hn8⟩,λn c hm=>let⟨v,hc⟩:=at7.rel.sl.cells n c hm;⟨v,cellsKeep c v hc⟩,at7.rel.sl.apart⟩
 have at8:=at7.frmD u8 sl8;have up8:∀y v,Zam env h'7 y v->Zam env h'8 y v:=λy v h=>by
  rcases h with⟨h1,m,h2,h3⟩|⟨h1,h2,c,h3,h4⟩
  ·refine .inl ⟨h1,m8,hn8,?_⟩
   rw[hm8,←h3];obtain⟨o,es,ep,e,d,_,f⟩:=hns7;obtain⟨o',es',ep',e',d',_,f'⟩:=h2;rw[e]at e';cases e';rw[d]at d';cases d';rw[←f,←f']
  ·exact .inr ⟨h1,h2,c,h3,cellsKeep c _ h4⟩
 have X8:Ext T s {s6 with heap:=h'8,toks:=t8}:=Zcq.ext2 X7 u8.gone frmN
 have c1:=up8 _ _ b1;have c2:=up8 _ _ b2;have cp:=up8 _ _ bp;have hP8:h'8.PlainList s'2.heap.objs.size #[.str vx vt]:=by
  obtain⟨m,e⟩:=hP7;exact⟨m,u8.keep2 _ _ PnF e rfl⟩
 refine Hbx (wpAny_Expr ?_ (Zbi at8.ok) rfl)
 refine Hbq (Zat rfl) (by rw[Zad (λ_ _ h=>by cases h)];rfl) l4 ?_
 rw[Zad (λ_ _ h=>by cases h)]
 refine Zrf HC at8 (hat.ext X8) c1 (by decide) λs9 x9=>?_
 have at9:=at8.ext x9;have X9:=X8.trans x9;have hb9:∀s',Ext T s s'->s'.heap.PlainList b vs.toArray:=λs' e=>by
  obtain⟨m,e'⟩:=hb;exact⟨m,e.keep2 _ _ e' rfl⟩
 refine Zhy (hb9 _ X9) ?_ (by rw[Hb8,sizeLine_eq];exact Hag hvl (by decide))
 refine Tuple_ (k:=0) (pos:=(Zb4 40)) ?_
 rw[Zad (λ_ _ h=>by cases h),Zad (λ_ _ h=>by cases h)]
 refine Hbf ?_
 refine Zo5 at9 hC (c1.ext x9) (by decide) (hat.ext X9) l5 (λ_ _ h=>by cases h) (at9.name (c2.ext x9) (by decide) ⟨kx,kt,rfl,.refl,hpk,(ln1 (.a (.v 0) (.k 1)) (.k (2^63)) [(1,.a (.v 0) (.k 1),.k 1000000)] rfl szk),λs10 x10=>?_⟩)
 have at10:=at9.ext x10;have X10:=X9.trans x10;refine Hbf ?_
 refine Hbq (Zat rfl) (by rw[Zad (λ_ _ h=>by cases h)];rfl) l6 ?_
 rw[Zad (λ_ _ h=>by cases h)]
 refine wpAny_Constant_str ?_
 have x11:Ext T s10 {s10 with toks:=s10.toks+1}:=.toks
 have at11:=at10.ext x11;refine PySem.SB.join ?_
 refine at11.name (((cp.ext x9).ext x10).ext x11) (by decide) ⟨_,[(vx,vt)],rfl,?_,[vx],rfl,?_,λt' k'=>?_⟩
 ·obtain⟨m,e⟩:=hP8;exact⟨_,x11.keep2 _ _ (x10.keep2 _ _ (x9.keep2 _ _ e rfl) rfl) rfl,rfl,_,rfl⟩
 ·unfold JoinOk;rw[StrLaws.joinTotal];unfold Builtin.Str.tooLong;rw[Hcb,Hck,sizeLine_eq];have:vx.length=vx.cps.size:=rfl;have h2:(("; ":Str)).length=2:=by decide+kernel
  simp only[Hcr,List.map_nil,List.sum_cons,List.sum_nil,Hci,List.length_nil,this,h2];exact(Ha1 (ln1 (.a (.a (.v 0) (.k 0)) (.k ((0+1)*2))) (.k 16777216) [(1,.a (.v 0) (.k 1),.k 1000000)] rfl szv))
 refine Hbe ?_
 refine wpAny_newTuple ?_ (by rw[sizeLine_eq];simp)
 have x12:Ext T {s10 with toks:=s10.toks+1} {s10 with toks:=k'}:=.of_keeps λ_ _ e=>e
 have X12:Ext T s {s10 with toks:=k'}:=X10.trans (Ext.of_keeps λ_ _ e=>e)
 have X13:Ext T s {s10 with heap:=s10.heap.push {cls:=.type "tuple",data:=.seq #[.str kx kt,.str (Txt.join "; " [vx]) t']},toks:=k'}:=X12.trans (.push (s:={s10 with toks:=k'}) (tk:=k'))
 refine⟨hb9 _ X13,λh' hp' sb'=>?_⟩
 have ftp:s.heap.get? s10.heap.objs.size=none:=bs.free_at X10 _ (Zae (Hac _));refine Hbv ?_
 have ntb:s10.heap.objs.size≠b:=λe=>by
  obtain⟨m,e'⟩:=hb;rw[e,e']at ftp;cases ftp
 refine q s10.heap.objs.size kx (Txt.join "; " [vx]) kt t' 0 _ (X13.upd.trans (.of_but (tk:=k') sb' (by obtain⟨m,e⟩:=hp';exact⟨_,e,rfl⟩) hTb (.lst (hb9 _ X13)))) ftp ?_ rfl (Zl2 _ _) ?_
 ·exact(sb'.2 _ ntb).trans (Hb7 _ rfl)
 ·rw[List.push_toArray]at hp';exact hp'
noncomputable def Yb4:List Str:=["self","name","kv","k","v"]
theorem Zjr:Zb6 (Za4 Yb4):=Zdi (by decide+kernel) (by decide+kernel) (by decide+kernel)
noncomputable def Zw3:List S:=[.ret (.comp (.n 3) [.mk [3,4] false 0 [.call 900 [.n 0]] []])]
noncomputable def Zq1:List S:=[.asg [1] true (.call 901 [.n 0,.me 3 (.n 1) []]),
 .ret (.comp (.idx (.n 2) (.c (.int (.k 1)))) [.mk [2] true 0 [.call 900 [.n 0]] [.cmp (.me 3 (.idx (.n 2) (.c (.int (.k 0)))) []) [(.Eq,.n 1)]]])]
noncomputable def keyB(d:D):Bool:=(onT d λl=>two l λk _=>onS k λk=>Zas (Zc4 k&&small k) (some k)).isSome
noncomputable def Zre:List D->Bool
 |[]=>true
 |d::r=>keyB d&&Zre r
noncomputable def Chx(f:Nat)(ds:List D):Option D:=match ds with
 |[]=>none
 |x::r=>onG x λes=>(match Nat.beq f 900 with
  |true=>(match r with
   |[]=>some (.lst es)
   |_::_=>none)
  |false=>Zas (Nat.beq f 901||Nat.beq f 902) (one r λt=>onS t λt=>Zas (Zdq t) (some (.str t))))
theorem Zp9{α β:Type}{l:List α}{m:List β}(h:l.length<=m.length)(hm:small m=true):small l=true:=Ha0 (Hag h (bLe hm))
inductive KeyI(d:D)(r l:List D):Prop
 |mk (a b:D) (l':List D) (hd:d= .tup [a,b]) (h:Zk1 r=some l') (e:a::l'=l)
theorem Ygb{d:D}{r l:List D}(h:Zk1 (d::r)=some l):KeyI d r l:=by
 obtain⟨x,h1,h⟩:=Yd5 h;obtain⟨a,b,h2,h⟩:=Zy8 h;obtain⟨l',h3,h⟩:=obS h;exact⟨a,b,l',by rw[h1,h2],h3,sI h⟩
theorem Zt4{n:Nat}{ρ:List (Nat×D)}(es:List D):∀l,Zk1 es=some l->Zjc (Zlm (λρ'=>ev Chx (n+1) ρ' []) (Zwh (λρ'=>ev Chx (n+1) ρ' []) (.n 3) []) [3,4] false [] ρ) es=some l:=by
 induction es with
 |nil=>exact λ_ h=>h
 |cons d r ih=>
  intro l h;obtain⟨a,b,l',hd,h,e⟩:=Ygb h;rw[hd,←e];exact(Zd1 (x:=[a]) rfl).trans (Zd1 (ih l' h))
theorem Znx(es:List D):∀l,Zk1 es=some l->l.length=es.length:=by
 induction es with
 |nil=>exact λl h=>sI h▸rfl
 |cons d r ih=>
  intro l h;obtain⟨a,b,l',hd,h,e⟩:=Ygb h;rw[←e,Hci,Hci,ih l' h]
theorem Zs5{C:Nat->List D->Option D}{n:Nat}{ρ ρ2:List (Nat×D)}{e:M}{t:List Nat}{uni:Bool}{k:Nat}{it ifs:List M}{r:List Cl}{ds items out:List D}(h1:Zd8 (ev C n ρ ρ2) it=some ds)(h2:Zmc k ds=some items)
  (h3:Zjc (Zlm (λρ'=>ev C n ρ' (Zak (t++Zal r) ρ2)) (Zwh (λρ'=>ev C n ρ' (Zak (t++Zal r) ρ2)) e r) t uni ifs (Zak (t++Zal r) ρ)) items=some out)(h4:small out=true):ev C (n+1) ρ ρ2 (.comp e (.mk t uni k it ifs::r))=some (.lst out):=by
 show Zac (Zd8 (ev C n ρ ρ2) it) _=_;rw[h1];show Zac (Zmc k ds) _=_;rw[h2];show Zac (Zjc _ items) _=_;rw[h3];show Zas (small out) _=_;rw[h4];rfl
theorem Yf7{es:List D}(hs:small es=true):Zmc 0 [.lst es]=some es:=by
 show Zas (small es) (some es)=_;rw[hs];rfl
theorem Zx2{es l:List D}(hs:small es=true)(h:Zk1 es=some l):run Chx 9 Zw3 [(0,.hdr es)] []=some (.ret (.lst l)):=by
 exact Zd1 (Zs5 (n:=7) (ds:=[.lst es]) rfl (Yf7 hs) (Zt4 (n:=6) (ρ:=[(0,.hdr es)]) es l h) (Zp9 (Han (Znx es l h)) hs))
inductive GetI(name:List Nat)(d:D)(r l:List D):Prop
 |mk (k:List Nat) (v:D) (l':List D) (hd:d= .tup [.str k,v]) (h:Zdy name r=some l') (e:(match eqN (k.map loC) (name.map loC)with|true=>v::l'|false=>l')=l)
theorem getI{name:List Nat}{d:D}{r l:List D}(h:Zdy name (d::r)=some l):GetI name d r l:=by
 obtain⟨x,h1,h⟩:=Yd5 h;obtain⟨a,b,h2,h⟩:=Zy8 h;obtain⟨k,h3,h⟩:=Zgb h;obtain⟨l',h4,h⟩:=obS h;exact⟨k,b,l',by rw[h1,h2,h3],h4,sI h⟩
theorem Yga{k:List Nat}{v:D}(h:keyB (.tup [.str k,v])=true):(Zc4 k&&small k)=true:=by
 have h:(Zas (Zc4 k&&small k) (some k)).isSome=true:=h;cases q:Zc4 k&&small k with
 |true=>rfl
 |false=>rw[q]at h;exact bF h
theorem me3{k:List Nat}(h:(Zc4 k&&small k)=true):meD 3 (.str k) []=some (.str (k.map loC)):=by
 show Zas (Zc4 k&&small k) _=_;rw[h];rfl
theorem Zns{n:Nat}{name k:List Nat}{v d0:D}(h:(Zc4 k&&small k)=true):
  Zlm (λρ'=>ev Chx (n+4) ρ' []) (Zwh (λρ'=>ev Chx (n+4) ρ' []) (.idx (.n 2) (.c (.int (.k 1)))) []) [2] true [.cmp (.me 3 (.idx (.n 2) (.c (.int (.k 0)))) []) [(.Eq,.n 1)]] [(1,.str (name.map loC)),(0,d0)] (.tup [.str k,v])=
   some (match eqN (k.map loC) (name.map loC)with|true=>[v]|false=>[]):=by
 have h2:ev Chx (n+4) [(2,.tup [.str k,v]),(1,.str (name.map loC)),(0,d0)] [] (.cmp (.me 3 (.idx (.n 2) (.c (.int (.k 0)))) []) [(.Eq,.n 1)])=some (.bool (eqN (k.map loC) (name.map loC))):=(Zd1 (me3 h)).trans rfl;refine(Zd1 (x:=eqN (k.map loC) (name.map loC)) ((Zd1 h2).trans ?_)).trans ?_
 ·show(match eqN (k.map loC) (name.map loC)with|true=>some true|false=>some false)=_
  cases eqN (k.map loC) (name.map loC)<;>rfl
 ·cases eqN (k.map loC) (name.map loC)<;>rfl
theorem Znr{n:Nat}{name:List Nat}{d0:D}(es:List D):∀l,Zre es=true->Zdy name es=some l->
  Zjc (Zlm (λρ'=>ev Chx (n+4) ρ' []) (Zwh (λρ'=>ev Chx (n+4) ρ' []) (.idx (.n 2) (.c (.int (.k 1)))) []) [2] true [.cmp (.me 3 (.idx (.n 2) (.c (.int (.k 0)))) []) [(.Eq,.n 1)]] [(1,.str (name.map loC)),(0,d0)]) es=some l:=by
 induction es with
 |nil=>exact λ_ _ h=>h
 |cons d r ih=>
  intro l ho h;obtain⟨k,v,l',hd,h,e⟩:=getI h;rw[hd]at ho;rw[hd,←e];refine(Zd1 (Zns (Yga (Zaa ho).1))).trans ((Zd1 (ih l' (Zaa ho).2 h)).trans ?_)
  cases eqN (k.map loC) (name.map loC)<;>rfl
theorem Zks{name:List Nat}(es:List D):∀l,Zdy name es=some l->l.length<=es.length:=by
 induction es with
 |nil=>exact λl h=>sI h▸Hac _
 |cons d r ih=>
  intro l h;obtain⟨k,v,l',hd,h,e⟩:=getI h;rw[←e];cases eqN (k.map loC) (name.map loC)with
  |true=>exact Hax (ih l' h)
  |false=>exact Hag (ih l' h) (Haw _)
theorem Zt8{c:Nat}(h1:32<=c)(h2:c<127):32<=loC c/\loC c<127:=by
 unfold loC;split
 ·rename_i q;have q1:=bLe (Zaa q).1;have q2:=bLe (Zaa q).2;exact⟨(ln1 (.k 32) (.a (.v 0) (.k 32)) [] rfl),(ln1 (.a (.a (.v 0) (.k 32)) (.k 1)) (.k 127) [(1,.v 0,.k 90)] rfl q2)⟩
 ·exact⟨h1,h2⟩
theorem Zjw{name:List Nat}(hn:Zdq name=true){c:Nat}(hc:c∈name):32<=c/\c<127:=by
 have:=Zaa (bAll (Zaa hn).1 c hc);exact⟨bLe this.1,bLe this.2⟩
theorem Zuu{name:List Nat}(hn:Zdq name=true):Zdq (name.map loC)=true:=by
 show((name.map loC).all _&&Nat.blt (name.map loC).length _)=true;rw[Hcp,(Zaa hn).2,Bool.and_true,List.all_map];refine List.all_eq_true.mpr λc hc=>?_
 obtain⟨h1,h2⟩:=Zjw hn hc;obtain⟨h3,h4⟩:=Zt8 h1 h2;exact(Hcd _ _).mpr ⟨Ha0 h3,Ha0 h4⟩
theorem Zuv{name:List Nat}(hn:Zdq name=true):(Zc4 name&&small name)=true:=
 (Hcd _ _).mpr ⟨List.all_eq_true.mpr λc hc=>Ha0 (Nat.le_succ_of_le (Zjw hn hc).2),Ha0 (Haz (bLe (Zaa hn).2))⟩
theorem Zrd{es l:List D}{name:List Nat}(hs:small es=true)(ho:Zre es=true)(hn:Zdq name=true)(h:Zdy name es=some l):run Chx 9 Zq1 [(0,.hdr es),(1,.str name)] []=some (.ret (.lst l)):=by
 have h1:Zd8 (ev Chx 7 [(0,.hdr es),(1,.str name)] []) [.n 0,.me 3 (.n 1) []]=some [.hdr es,.str (name.map loC)]:=by
  have h3:ev Chx 7 [(0,.hdr es),(1,.str name)] [] (.me 3 (.n 1) [])=some (.str (name.map loC)):=me3 (Zuv hn);exact(Zd1 (x:=D.hdr es) rfl).trans (Zd1 ((Zd1 h3).trans rfl))
 have e1:ev Chx 8 [(0,.hdr es),(1,.str name)] [] (.call 901 [.n 0,.me 3 (.n 1) []])=some (.str (name.map loC)):=by
  refine(Zd1 h1).trans ?_
  show Zas (Zdq (name.map loC)) _=_;rw[Zuu hn];rfl
 refine(Zd1 e1).trans ?_
 exact Zd1 (Zs5 (n:=6) (ds:=[.lst es]) rfl (Yf7 hs) (Znr (d0:=.hdr es) (n:=2) es l ho h) (Zp9 (Zks es l h) hs))
variable {mN:Str->Option Value} {cn:Addr}
theorem Zlv(HC:Yah σ s0 mg mN cn)(hC:Zqk prog w T σ mg mb s0 k):Za1 prog w T σ mg mb s0 fn Chx k:=by
 have low:∀f ds d,(f<900\/1000<=f)->Chx f ds=some d->False:=λf ds d hf h=>by
  cases ds with
  |nil=>exact nS h
  |cons x r=>
   obtain⟨es,_,h⟩:=Yhz h;rw[Zfq (λe=>absurd hf (by rw[e];decide)),Zfq (b:=901) (λe=>absurd hf (by rw[e];decide)),Zfq (b:=902) (λe=>absurd hf (by rw[e];decide))]at h
   exact nS h
 refine⟨λf ds d hf h=>(low f ds d (.inl (bLe hf)) h).elim,λf ds d hf h=>?_,λm es ds d h=>(low _ _ _ (.inr (Hal _ _)) h).elim⟩
 cases ds with
 |nil=>exact nS h
 |cons x r=>
  obtain⟨es,hx,h⟩:=Yhz h;cases q:Nat.beq f 900 with
  |true=>
   rw[q]at h;cases r with
   |cons _ _=>exact nS h
   |nil=>
    rw[hx,Hb4 q,←sI h];exact⟨_,rfl,rfl,λA E s x dx b Q e hat q=>Zg4 HC e hat q⟩
  |false=>
   rw[q]at h;obtain⟨hf2,h⟩:=Zaj h;obtain⟨t,h1,h⟩:=Zz2 h;obtain⟨u,h2,h⟩:=Zgb h;obtain⟨hp,h⟩:=Zaj h;rw[hx,h1,h2,←sI h];rcases(Hb9 _ _).mp hf2 with q|q
   ·rw[Hb4 q];exact⟨_,_,rfl,rfl,hp,hC⟩
   ·rw[Hb4 q];exact⟨_,_,rfl,rfl,hp,hC⟩
section
variable {M:Model} {A:Around} {R:GenEnd} {Y:Protocol} {n:Nat} {s0:Shared} {c:Code} {fs:List Frame} {s:Shared} {env:Env} {K:Flow->Sem Fin} {H:Value->Sem Fin} {gd:Bool->Bool} {lv:List Value->List Value}
noncomputable abbrev NoE:Value->Shared->Prop:=λ_ _=>False
theorem Zf8{st:Stmt}(h:wpAny M (A.over c fs) (exec st env) (λf s'=>Seg M A R Y n s0 c (K f) fs s') NoE s):Seg M A R Y n s0 c ((exec st env).wrap K H gd lv) fs s:=
 seg_wrap (Ha4 h (λ_ _ e=>e) λ_ _ e=>e.elim)
theorem Zu9{test:Expr}{body orelse:List Stmt}{pos:Pos}(h:wpAny M (A.over c fs) (isTrue test env (eval test env)) (λb s'=>if b=true then Seg M A R Y n s0 c ((execs body env).wrap K H gd lv) fs s' else Seg M A R Y n s0 c ((execs orelse env).wrap K H gd lv) fs s') NoE s):
  Seg M A R Y n s0 c ((exec (.If test body orelse pos) env).wrap K H gd lv) fs s:=by
 rw[arm_exec_If];refine Hby (Ha8 ?_)
 refine Hby (Ha4 h (λb s' hb=>?_) λ_ _ e=>e.elim)
 cases b with
 |true=>simpa using hb
 |false=>simpa using hb
noncomputable def Zen(env:Env)(K:Flow->Sem Fin)(H:Value->Sem Fin)(gd:Bool->Bool)(lv:List Value->List Value)(c:Code)(p:Pos):Frame:=
 .ret (λr=>((match r with| .ok f=>(.pure f:Sem Flow)| .error e=>.raise e).onRaise λ(x:Value)=>do
    if(←field x 1)==Value.none then unsupported "frame.own-activation:exception-without-traceback"
    setFlight x env.frame).wrap K H gd lv) none (gd false) (lv []) c p []
theorem Ydb{target iter:Expr}{body orelse:List Stmt}{pos:Pos}
  (h:wpAny M (A.over c fs) (eval iter env) (λx s'1=>wpAny M (A.over c fs) (pyIter x) (λit s'2=>∀p,Seg M A R Y n s0 (.forLoop target it body orelse env) (M.den (.forLoop target it body orelse env)) (Zen env K H gd lv c p::fs) s'2) NoE s'1) NoE s)
  (hs:∀x,foldedSetIterable iter env x=pure x):Seg M A R Y n s0 c ((exec (.For target iter body orelse pos) env).wrap K H gd lv) fs s:=by
 rw[arm_exec_For];refine Hby (Ha8 ?_)
 refine Hby (Ha4 h (λx s'1 h'1=>?_) λ_ _ e=>e.elim)
 refine Hby (wpAny_of_eq (hs x) ?_)
 refine Hby (Ha8 ?_)
 refine Hby (Ha7 (Ha4 h'1 (λit s'2 h'2=>?_) λ_ _ e=>e.elim))
 exact seg_call h'2
theorem Zmg{f:Flow}{c':Code}{p:Pos}(h:Seg M A R Y n s0 c (K f) fs s):Seg M A R Y n s0 c' (leafOf (.ok f)) (Zen env K H gd lv c p::fs) s:=
 seg_leaf (.ok f) h
end
variable {R:GenEnd} {Y:Protocol} {fs:List Frame}
noncomputable def Zy7(target:Expr)(it:Value)(body:List Stmt)(env:Env):Flow->Sem Fin:=λf=>match f with
 | .next=>.pure (.again (.forLoop target it body [] env))
 | .cont=>.pure (.again (.forLoop target it body [] env))
 | .brk=>.pure (.done .next)
 | .ret v=>.pure (.done (.ret v))
noncomputable def Ydv(env:Env):Value->Sem Fin:=λe=>(do noteFrame e env;theTreesLotGoes e:Sem Unit).wrap (λ_=>.raise e) .raise id id
theorem Ziz{target:Expr}{it:Value}{body:List Stmt}
  (h:wpAny (model prog w) (A.over (.forLoop target it body [] env) fs) (pyNext it) (λr s'1=>match r with
   |none=>Seg (model prog w) A R Y n s0 (.block [] env) (leafOf (.ok .next)) fs s'1
   |some v=>wpAny (model prog w) (A.over (.forLoop target it body [] env) fs) (letOwnedTupleGo target it v) (λ_ s'2=>wpAny (model prog w) (A.over (.forLoop target it body [] env) fs) (assign target env v) (λ_ s3=>
     Seg (model prog w) A R Y n s0 (.forLoop target it body [] env) ((execs body env).wrap (Zy7 target it body env) (Ydv env) id id) fs s3) NoE s'2) NoE s'1) NoE s):
  Seg (model prog w) A R Y n s0 (.forLoop target it body [] env) ((model prog w).den (.forLoop target it body [] env)) fs s:=by
 show Seg _ A R Y n s0 _ ((forTurn target it body [] env).onRaise (λx=>do noteFrame x env;theTreesLotGoes x)) fs s
 unfold forTurn;rw[Sem.onRaise_eq_wrap];refine Hby (Ha8 ?_)
 refine Hby (wpAny_onRaise (Ha4 h (λr s'1 h'1=>?_) λ_ _ e=>e.elim))
 cases r with
 |none=>
  refine seg_again rfl ?_
  exact h'1
 |some v=>
  refine Hby (Ha4 h'1 (λ_ s'2 h'2=>?_) λ_ _ e=>e.elim)
  refine Hby (Ha4 h'2 (λ_ s3 h'3=>?_) λ_ _ e=>e.elim)
  rw[Sem.bind_eq_wrap',Sem.wrap_wrap];rw[Sem.wrap_congr (execs body env) _ _ (K':=Zy7 target it body env) (H':=Ydv env)
    (λf=>by cases f<;>rfl)
    (λe=>by first|exact Sem.bind_eq_wrap _ _|(show(do noteFrame e env;theTreesLotGoes e:Sem Unit).bind (λ_=>.raise e)=_;rw[Sem.bind_eq_wrap];rfl))]
  exact h'3
theorem Zmy{target:Expr}{it:Value}{body:List Stmt}{c:Code}(h:Seg (model prog w) A R Y n s0 (.forLoop target it body [] env) ((model prog w).den (.forLoop target it body [] env)) fs s):
  Seg (model prog w) A R Y n s0 c (Zy7 target it body env .next) fs s:=seg_again rfl h
theorem Zp3{M:Model}{α:Type}{Q:α->Shared->Prop}{a:Addr}(hh:A.handled=none)(h:E (.ref a) s):wpAny M A (raiseNew (α:=α) (.ref a)) Q E s:=by
 delta raiseNew
 refine Ha6 (wpAny_handled ?_)
 rw[hh];exact Ha6 (Hau (wpAny_throw h))
theorem Zyh{a:Addr}{g n:Nat}{gs:GenState}{P:Nat->Shared->Shared->Prop}{Y:Protocol}{Q:Option Value->Shared->Prop}(hh:A.handled=none)
  (hl:s.heap.NoLimit)(hroom:A.depth<recursionLimit)(hg:s.heap.IsGen a g)(hgs:s.gens[g]?=some gs)
  (hgo:gs.Goes (model prog w) A.in1 (λn s0 r s'1=>r= .ok (.ret .none)/\P n s0 s'1) Y n (.send .none) (s.setGen g .running))
  (hY:∀v s'1 gs',gs'.bare=true->Y (n-1) (s.setGen g .running) v s'1 (λr' s''=>match n with
    |0=>False
    |m+1=>gs'.Goes (model prog w) A.in1 (λn s0 r s'1=>r= .ok (.ret .none)/\P n s0 s'1) Y m r' s'')->Q (some v) (s'1.setGen g gs'))
  (hP:∀s'1,P n (s.setGen g .running) s'1->∀h',(∀b o,s'1.heap.get? b=some o->h'.get? b=some o)->Q none {s'1.setGen g .finished with heap:=h'}):
  wpAny (model prog w) A (pyNext (.ref a)) Q E s:=by
 unfold pyNext;refine Ha6 (wpAny_attempt (wpAny_callSpecial?_slot (name:=Str.ofString "__next__") hg.typeIs slot_gen_next (wpAny_call_entry slot_gen_next hg.typeIs entry_gen_next ?_ (args_gen_next _))))
 show wpAny _ A.in1 (Builtin.Generator.genWake (.ref a) (.send .none)) _ _ s;unfold Builtin.Generator.genWake;refine Ha6 (Ha7 (wpAny_genNumber hg (Ha6 (wpAny_genState hgs ?_))))
 cases gs with
 |running=>exact hgo.elim
 |finished=>exact hgo.elim
 |_=>
  refine Ha6 (wpAny_roomToWake hl hroom ?_)
  show wpAny _ A.in1 (.resume g (.send .none) [] _) _ _ s;refine wpAny_resumeQ hgs hgo (λx s'1 hx=>?_) (λv s'1 gs' hb hv=>Hau ⟨v,rfl,Hau (hY v s'1 gs' hb hv)⟩)
  obtain⟨rfl,hp⟩:=hx;show wpAny _ A.in1 (newExc (.type "StopIteration") [] >>= _) _ _ _;refine Ha6 ?_
  simp only[newExc,newTuple];refine Ha6 (Hbk ?_ (by size_fits))
  refine Ha6 (m:=firstArgMember _ _) (wpAny_of_eq (a:=Value.none) (by first|rfl|(simp only[firstArgMember];rfl)) ?_)
  refine Hbk ?_ (by size_fits)
  refine Ha6 (Zp3 hh ?_)
  refine Ha6 (wpAny_isInstance (T:="StopIteration") (b:=true) ⟨_,Hb7 _ rfl,rfl⟩ isSubtype_stop ?_)
  exact Hau (hP s'1 hp _ λb o hb=>Hai _ (Hai _ hb))
theorem Yan(ha:AOk k A):AOk (k+1) A.in1:=⟨ha.handled,Hag (by first|exact Hac _|exact Haw _) (Hax ha.depth),by
 have:=ha.units;have e:A.in1.units<=A.units+9:=by first|exact Hac _|(show A.units+_<=_;exact(ln1 (.a (.v 0) (.k 1)) (.a (.v 0) (.k 9)) [] rfl))
 exact(ln3 (.v 2) (.a (.m 10 (.a (.v 1) (.k 1))) (.k 20)) [(1,.v 0,.a (.m 10 (.v 1)) (.k 20)),(1,.v 2,.a (.v 0) (.k 9))] rfl this e)⟩
theorem Zhj(ha:AOk k A){body:List Stmt}{env:Env}:AOk (k+1) (A.over (.func body env) []):=by
 refine⟨ha.handled,?_,?_⟩
 ·have e:(A.over (.func body env) []).depth=A.depth+1:=rfl;rw[e];exact Hax ha.depth
 ·have e:(A.over (.func body env) []).units=A.units+3:=rfl;have:=ha.units;rw[e];exact(ln2 (.a (.v 0) (.k 3)) (.a (.m 10 (.a (.v 1) (.k 1))) (.k 20)) [(1,.v 0,.a (.m 10 (.v 1)) (.k 20))] rfl this)
theorem Zwo(ha:AOk k A){body body':List Stmt}{env env':Env}{t:Expr}{it:Value}{K H gd lv p}:AOk (k+1) (A.over (.forLoop t it body' [] env') [Zen env K H gd lv (.func body env) p]):=by
 refine⟨ha.handled,?_,?_⟩
 ·have e:(A.over (.forLoop t it body' [] env') [Zen env K H gd lv (.func body env) p]).depth=A.depth+1:=rfl;rw[e];exact Hax ha.depth
 ·have e:(A.over (.forLoop t it body' [] env') [Zen env K H gd lv (.func body env) p]).units=A.units+3:=rfl;have:=ha.units;rw[e];exact(ln2 (.a (.v 0) (.k 3)) (.a (.m 10 (.a (.v 1) (.k 1))) (.k 20)) [(1,.v 0,.a (.m 10 (.v 1)) (.k 20))] rfl this)
theorem At.toA{A':Around}{ow:List (Nat×O)}{OA:List (List Addr)}(x:At T σ mg mb s0 nm sc k A N2 env s ρ ow OA)(ha:AOk k A'):At T σ mg mb s0 nm sc k A' N2 env s ρ ow OA:=⟨ha,x.ok,x.hm,x.bs,x.rel,x.occ,x.young⟩
theorem At.agree(x:At T σ mg mb s0 nm sc k A N2 env s ρ [] [])(hsc:∀y d,lk y ρ=some d->scalar d=true)(bs:Bs T mg mb s0 s'')(hk:∀a o,N2 a->s.heap.get? a=some o->s''.heap.get? a=some o):At T σ mg mb s0 nm sc k A N2 env s'' ρ [] []:=by
 have cell:∀n c v,(n,c)∈env.cells->s.heap.IsCell c v->s''.heap.IsCell c v:=λn c v hm ⟨o,e,d⟩=>⟨o,hk c o (x.hm.cel n c hm) e,d⟩
 have ns:∀m,s.heap.Ns env.locals m->s''.heap.Ns env.locals m:=λm ⟨o,es,ep,e,r⟩=>⟨o,es,ep,hk _ o x.hm.loc e,r⟩
 refine⟨x.ha,x.ok,x.hm,bs,⟨λy d hl hv=>?_,.nil,x.rel.nodup,x.rel.apart,⟨let⟨m,h⟩:=x.rel.sl.ns;⟨m,ns m h⟩,λn c hm=>let⟨v,h⟩:=x.rel.sl.cells n c hm;⟨v,cell n c v hm h⟩,x.rel.sl.apart⟩⟩,λa h=>let⟨o,e,t⟩:=x.occ a h;⟨o,hk a o h e,t⟩,x.young⟩
 obtain⟨v,h1,h2⟩:=x.rel.one y d hl hv;refine⟨v,?_,h2.scalar (hsc y d hl)⟩
 rcases h1 with⟨h1,m,h3,h4⟩|⟨h1,h3,c,h4,h5⟩
 ·exact .inl ⟨h1,m,ns m h3,h4⟩
 ·refine .inr ⟨h1,h3,c,h4,cell (nm y) c _ ?_ h5⟩
  exact mem_of_lookup h4
theorem At.updW(x:At T σ mg mb s0 nm sc k A N2 env s ρ [] [])(u:Upd T W s s')(hW:∀a,W a->s0.heap.get? a=none)(hF:∀a,W a->¬Frm env a)(hN:∀a,W a->N2 a):At T σ mg mb s0 nm sc k A N2 env s' ρ [] []:=
 ⟨x.ha,x.ok,x.hm,x.bs.upd u hW,⟨x.rel.one.upd u (λa h=>.inl (hN a h)) (λh=>hF _ h (.inl rfl)) (λn c hm h=>hF _ h (.inr ⟨n,hm⟩)),.nil,x.rel.nodup,x.rel.apart,x.rel.sl.upd u (λh=>hF _ h (.inl rfl)) λn c hm h=>hF _ h (.inr ⟨n,hm⟩)⟩,λa h=>u.occ a (x.occ a h),x.young⟩
theorem At.pair(x:At T σ mg mb s0 nm sc k A N2 env s ρ [] [])(hS:Zaq prog w T σ mg mb s0 nm fn C k n){e1 e2:Expr}{m1 m2:M}{kx:Nat}{pos:Pos}{p:Nat}{c:List Nat}{Q:Value->Shared->Prop}
  (h1:okE nm fn fo sc e1 m1=true)(h2:okE nm fn fo sc e2 m2=true)(v1:ev C n ρ [] m1=some (.int (.k (.ofNat p))))(v2:ev C n ρ [] m2=some (.str c))
  (q:∀t y tk tk' s',Ext T s s'->s.heap.get? t=none->s'.heap.get? t=some (Zcv #[.int (Int.ofNat p) tk,.str y tk'] 0)->y.cps.toList=c->Q (.ref t) s'):wpAny (model prog w) A (PySem.eval (.Tuple [e1,e2] kx pos) env) Q E s:=by
 refine Tuple_ (k:=kx) (pos:=pos) ?_
 rw[Zad (Zbh h1),Zad (Zbh h2)];refine Hbf (x.eval hS h1 v1 λa s'1 x'1 r'1=>?_)
 refine Hbf ((x.ext x'1).eval hS h2 v2 λb s'2 x'2 r'2=>Hbe ?_)
 obtain⟨_,_,rfl,e1⟩:=r'1.intE;obtain⟨_,_,rfl,e2⟩:=r'2.inv;have e1':Int.ofNat p=_:=e1;subst e1';refine wpAny_newTuple ?_ (by rw[sizeLine_eq];simp)
 refine q _ _ _ _ _ ((x'1.trans x'2).trans (.push (tk:=s'2.toks))) (x.bs.free_at (x'1.trans x'2) _ (Zae (Hac _))) (Hb7 _ rfl) e2
noncomputable def Zah:List Str:=["addr","pos","escape","ch"]
theorem Zgl:Zb6 (Za4 Zah):=Zdi (by decide+kernel) (by decide+kernel) (by decide+kernel)
noncomputable def Zcc(T:Addr->Prop)(mg mb:Str->Option Value)(s0:Shared)(own:Addr->Prop)(its:List (Nat×List Nat)):Protocol:=λm s'1 v s kap=>
 (∃t p c y tk tk',v= .ref t/\its[its.length-1-m]?=some (p,c)/\s'1.heap.get? t=none/\¬own t/\s.heap.get? t=some (Zcv #[.int (Int.ofNat p) tk,.str y tk'] 0)/\y.cps.toList=c)/\Upd T own s'1 s/\(∀a,own a->Occ s.heap a)∧
 ∀s'',Bs T mg mb s0 s''->(∀a o,own a->s.heap.get? a=some o->s''.heap.get? a=some o)->kap (.send .none) s''
noncomputable def Zfw(T own:Addr->Prop):GenEnd:=λn s'1 r s=>r= .ok (.ret .none)/\(n=0/\Upd T own s'1 s)
structure GI(T:Addr->Prop)(σ:Sg)(mg mb:Str->Option Value)(s0:Shared)(sc:List (Str×NameKind))(k:Nat)(A:Around)(env:Env)(e it:Addr)(x:Str)(t:Tok)(i:Nat)(ρ:List (Nat×D))(s:Shared):Prop where
 at':At T σ mg mb s0 (Za4 Zah) sc k A (λa=>a=env.locals\/a=e\/a=it) env s ρ [] []
 en:∃old,IsEnum s.heap e it i old
 si:s.heap.IsStrIter it (strIterType x) x t i
 sca:∀y d,lk y ρ=some d->scalar d=true
theorem Zrk{it:Addr}{x:Str}{t:Tok}{i:Nat}{Q:Value->Shared->Prop}(hh:A.handled=none)(hit:s.heap.IsStrIter it "str_ascii_iterator" x t i)(hx:x.cps[i]?=none)
  (hE:∀h' e,Heap.ExtBut it s.heap h'->Occ h' it->(∃o,h'.get? e=some o/\o.cls= .type "StopIteration")->E (.ref e) {s with heap:=h'}):wpAny (model prog w) A (Builtin.SmallTypes.nextOf (.ref it)) Q E s:=by
 obtain⟨o,ho,hc,hd⟩:=id hit;unfold Builtin.SmallTypes.nextOf;refine Ha6 (wpAny_callSpecial?_slot (name:=Str.ofString "__next__") hit.typeIs PySem.F.slot_str_ascii_iterator_next (wpAny_call_entry PySem.F.slot_str_ascii_iterator_next hit.typeIs PySem.F.entry_str_ascii_iterator_next ?_ (PySem.F.args_str_ascii_iterator_next_1 _)))
 show wpAny _ _ (field (.ref it) 0 >>= _) _ _ s;refine Ha6 (wpAny_field ho hd (x:=.str x t) rfl ?_)
 show wpAny _ _ (field (.ref it) 1 >>= _) _ _ s;refine Ha6 (wpAny_field ho hd (x:=.int i 0) rfl ?_)
 simp only[Hc0,hx];refine Ha6 (wpAny_rule (Ha6 (wpAny_setField ho hd (by simp) (Ha6 (wpAny_letGo ?_)))))
 show wpAny _ _ (newExc (.type "StopIteration") [] >>= _) _ _ _;refine Ha6 ?_
 simp only[newExc,newTuple];refine Ha6 (Hbk ?_ (by size_fits))
 refine Ha6 (m:=firstArgMember _ _) (wpAny_of_eq (a:=Value.none) (by first|rfl|(simp only[firstArgMember];rfl)) ?_)
 refine Hbk ?_ (by size_fits)
 refine Zp3 hh ?_
 refine hE _ _ (((Heap.SameBut.update ..).extBut.push _).push _) ⟨_,Hai _ (Hai _ (Heap.get?_update_self _ ho (Obj.isFreed_of_fields (Obj.data_mapFields hd _)))),?_⟩ ⟨_,Hb7 _ rfl,rfl⟩
 exact Zag ⟨_,(Obj.cls_mapFields ..).trans hc⟩
theorem Zxh{e it:Addr}{x:Str}{t:Tok}{i:Nat}{j:Int}{old:Value}{Q:Option Value->Shared->Prop}(hh:A.handled=none)(he:IsEnum s.heap e it j old)(hit:s.heap.IsStrIter it "str_ascii_iterator" x t i)(hx:x.cps[i]?=none)
  (hQ:∀h',Heap.ExtBut it s.heap h'->Occ h' it->Q none {s with heap:=h'}):wpAny (model prog w) A (pyNext (.ref e)) Q E s:=by
 have hT:s.TypeIs (.ref e) "enumerate":=⟨_,he,rfl⟩;unfold pyNext;refine Ha6 (wpAny_attempt (wpAny_callSpecial?_slot (name:=Str.ofString "__next__") hT PySem.F.slot_enumerate_next (wpAny_call_entry PySem.F.slot_enumerate_next hT PySem.F.entry_enumerate_next ?_ (PySem.F.args_enumerate_next_1 _))))
 show wpAny _ _ (field (.ref e) 2 >>= _) _ _ _;refine Ha6 (wpAny_field he rfl (x:=.ref it) rfl ?_)
 refine Ha6 (Zrk hh hit hx λh' y he' ho' hx'=>?_)
 obtain⟨o,ho,hc⟩:=hx';refine Ha6 (wpAny_isInstance (T:="StopIteration") (b:=true) ⟨o,ho,hc⟩ isSubtype_stop ?_)
 exact Hau (hQ _ he' ho')
theorem Zd4{x:Str}(h:x.cps.all (· <128)=true):strIterType x="str_ascii_iterator":=by unfold strIterType;rw[if_pos h]
section
variable {prog:Program} {w:World} {A:Around} {E:Value->Shared->Prop} {T:Addr->Prop} {σ:Sg} {mg mb:Str->Option Value} {s0 s s' s'':Shared} {k n fo:Nat} {env:Env} {sc:List (Str×NameKind)} {ρ ρ' ρ2:List (Nat×D)} {e it:Addr} {x:Str} {t:Tok} {i:Nat}
theorem GI.move(g:GI T σ mg mb s0 sc k A env e it x t i ρ s)(at':At T σ mg mb s0 (Za4 Zah) sc k A (λa=>a=env.locals\/a=e\/a=it) env s' ρ' [] [])(hk:∀b o,(b=e\/b=it)->s.heap.get? b=some o->Zb0 o=false->s'.heap.get? b=some o)
  (hs:∀y d,lk y ρ'=some d->scalar d=true):GI T σ mg mb s0 sc k A env e it x t i ρ' s':=by
 refine⟨at',?_,?_,hs⟩
 ·obtain⟨old,h⟩:=g.en;exact⟨old,hk _ _ (.inl rfl) h rfl⟩
 ·obtain⟨o,h1,h2,h3⟩:=g.si;exact⟨o,hk _ _ (.inr rfl) h1 (Zag ⟨_,h2⟩),h2,h3⟩
theorem GI.ext(g:GI T σ mg mb s0 sc k A env e it x t i ρ s)(y:Ext T s s'):GI T σ mg mb s0 sc k A env e it x t i ρ s':=g.move (g.at'.ext y) (λb o _ h ht=>y.keep2 b o h ht) g.sca
theorem GI.frm(g:GI T σ mg mb s0 sc k A env e it x t i ρ s)(hne:e≠env.locals/\it≠env.locals)(hc:env.cells=[])(p:Zbw T σ (Za4 Zah) (λa=>a=env.locals\/a=e\/a=it) env [] s s' ρ' [] [])(hs:∀y d,lk y ρ'=some d->scalar d=true):
  GI T σ mg mb s0 sc k A env e it x t i ρ' s':=by
 refine g.move (g.at'.post p) (λb o hb h ht=>p.upd.keep2 b o (λq=>?_) h ht) hs
 rcases q with(q|⟨n,q⟩)|q
 ·rcases hb with rfl|rfl
  ·exact hne.1 q
  ·exact hne.2 q
 ·rw[hc]at q;cases q
 ·simp at q
theorem GI.agree(g:GI T σ mg mb s0 sc k A env e it x t i ρ s)(bs:Bs T mg mb s0 s'')(hk:∀a o,(a=env.locals\/a=e\/a=it)->s.heap.get? a=some o->s''.heap.get? a=some o):GI T σ mg mb s0 sc k A env e it x t i ρ s'':=
 g.move (g.at'.agree g.sca bs hk) (λb o hb h _=>hk b o (.inr hb) h) g.sca
theorem GI.occ(g:GI T σ mg mb s0 sc k A env e it x t i ρ s):∀a,(a=env.locals\/a=e\/a=it)->Occ s.heap a:=g.at'.occ
theorem AOk.mono{k':Nat}(ha:AOk k A)(h:k<=k'):AOk k' A:=⟨ha.handled,Hag ha.depth (Hay h 400),by have:=ha.units;exact(ln3 (.v 2) (.a (.m 10 (.v 1)) (.k 20)) [(10,.v 0,.v 1),(1,.v 2,.a (.m 10 (.v 0)) (.k 20))] rfl h this)⟩
theorem Zxl(hnm:Zb6 (Za4 Zah)){A':Around}(ha':AOk k A')(g:GI T σ mg mb s0 sc k A env e it x t i ρ s)(hasc:x.cps.all (· <128)=true)(hne:e≠env.locals/\it≠env.locals/\e≠it)(hcl:env.cells=[])(hfree:∀a,(a=e\/a=it)->s0.heap.get? a=none/\¬T a)
  (hn:∀y∈Zah,sc.lookup y=some .local){c:Nat}(hc:x.cps[i]?=some c){p1 p2 p3:Pos}{kx:Nat}{Q:Unit->Shared->Prop}
  (q:∀s',GI T σ mg mb s0 sc k A env e it x t (i+1) ((3,.str [c])::(1,.int (.k (.ofNat i)))::ρ) s'->Upd T (λa=>a=env.locals\/a=e\/a=it) s s'->Q () s'):
  wpAny (model prog w) A' (pyNext (.ref e)) (λr s'1=>match r with
   |none=>False
   |some v=>wpAny (model prog w) A' (letOwnedTupleGo (.Tuple [.Name "pos" p1,.Name "ch" p2] kx p3) (.ref e) v) (λ_ s'2=>wpAny (model prog w) A' (assign (.Tuple [.Name "pos" p1,.Name "ch" p2] kx p3) env v) Q NoE s'2) NoE s'1) NoE s:=by
 obtain⟨old,he⟩:=g.en;have hlt:i<x.cps.size:=(Array.getElem?_eq_some_iff.mp hc).1;have hst:s.heap.IsStrIter it "str_ascii_iterator" x t i:=by have:=g.si;rwa [Zd4 hasc]at this
 have DD:=Draws.strAscii (prog:=prog) (w:=w) (A:=A'.in1) ha'.handled it x t;refine wpAny_pyNext_enum_itemD DD he hst hlt hne.2.2 (by simpa using hne.2.2) λxv h' tk hP ho hs' hT hsz hk=>?_
 obtain⟨c',u,hc',rfl⟩:=hP;rw[hc]at hc';cases hc';refine wpAny_letOwnedTupleGo_enum ho λh'' he'' hs''=>?_
 have nT:s.heap.objs.size≠e:=Ha3 (Haj he);have keep:∀b o,b≠e->b≠it->s.heap.get? b=some o->h''.get? b=some o:=λb o h1 h2 e'=>(hs''.2 b h1).trans (hk b o h1 h2 e')
 have si'':h''.IsStrIter it "str_ascii_iterator" x t (i+1):=by
  obtain⟨o,e1,r⟩:=hs';exact⟨o,(hs''.2 it hne.2.2.symm).trans e1,r⟩
 have ncE:Za9 s.heap e:=.of he rfl;have ncI:Za9 s.heap it:=by obtain⟨o,e1,_,hd⟩:=hst;exact .of e1 (Zci (by rw[hd];rfl))
 have occE:Occ h'' e:=⟨_,he'',rfl⟩;have occI:Occ h'' it:=by obtain⟨o,e1,h2,_⟩:=si'';exact⟨o,e1,Zag ⟨_,h2⟩⟩
 have u'1:Upd T (λa=>a=e\/a=it) s {s with heap:=h'',toks:=tk+1}:=by
  refine⟨λb o _ hw e'=>keep b o (λq=>hw (.inl q)) (λq=>hw (.inr q)) e',λb o hw e' _=>keep b o (λq=>hw (.inl q)) (λq=>hw (.inr q)) e',λb ⟨o,e',tt⟩=>?_,λb tb t=>t.keep (λc o co e'=>keep c o (λq=>(q▸ncE).absurd co e') (λq=>(q▸ncI).absurd co e') e') (λo e'=>keep b _ (λq=>(hfree e (.inl rfl)).2 (q▸tb)) (λq=>(hfree it (.inr rfl)).2 (q▸tb)) e'),λe=>e,rfl⟩
  by_cases q1:b=e
  ·rw[q1];exact occE
  ·by_cases q2:b=it
   ·rw[q2];exact occI
   ·exact⟨o,keep b o q1 q2 e',tt⟩
 have at1:=(g.at'.toA ha').updW u'1 (λa h=>(hfree a h).1) (λa h f=>by
  rcases f with f|⟨n,f⟩
  ·rcases h with rfl|rfl
   ·exact hne.1 f
   ·exact hne.2.1 f
  ·rw[hcl]at f;cases f) λa h=>.inr h
 have hT'':h''.get? s.heap.objs.size=some (Zcv #[.int i tk,.str ⟨#[c]⟩ u] 0):=(hs''.2 _ nT).trans hT;have notN:¬Nof (λa=>a=env.locals\/a=e\/a=it) [] s.heap.objs.size:=λh=>by
  rcases h with h|h
  ·obtain⟨o,e',_⟩:=g.at'.occ _ h;rw[Zae (Hac _)]at e';cases e'
  ·simp at h
 have rv:Rd σ (Nof (λa=>a=env.locals\/a=e\/a=it) []) h'' (.ref s.heap.objs.size) (.tup [.int (.k (.ofNat i)),.str [c]]):=
  .tup (vs:=[.int i tk,.str ⟨#[c]⟩ u]) (n:=0) notN hT'' (.cons (.int rfl) (.cons (.str rfl) .nil))
 refine at1.assign hnm (ys:=[1,3]) (uni:=false) (λy hy=>⟨?_,rfl⟩) rv ?_ rfl λs'2 p'2=>?_
 ·simp only[List.mem_cons,Hch,or_false]at hy;rcases hy with rfl|rfl
  ·show(((sc.lookup ("pos":Str)==some .local)||(sc.lookup ("pos":Str)==some .cell))&&("pos":Str) != ("__classdict__":Str))=true
   rw[hn "pos" (iL rfl)];decide+kernel
  ·show(((sc.lookup ("ch":Str)==some .local)||(sc.lookup ("ch":Str)==some .cell))&&("ch":Str) != ("__classdict__":Str))=true
   rw[hn "ch" (iL rfl)];decide+kernel
 ·show((("pos":Str)==Za4 Zah 1&&(sc.lookup ("pos":Str)==some .local||sc.lookup ("pos":Str)==some .cell))&&((("ch":Str)==Za4 Zah 3&&(sc.lookup ("ch":Str)==some .local||sc.lookup ("ch":Str)==some .cell))&&true))=true
  rw[hn "pos" (iL rfl),hn "ch" (iL rfl)]
  decide+kernel
 ·have hsca:∀y d,lk y ((3,D.str [c])::(1,.int (.k (.ofNat i)))::ρ)=some d->scalar d=true:=λy d hl=>by
   rw[Zav]at hl;split at hl
   ·cases hl;rfl
   ·rw[Zav]at hl;split at hl
    ·cases hl;rfl
    ·exact g.sca y d hl
  have notF:∀b,(b=e\/b=it)->¬(Frm env b\/b∈([]:List (List Addr)).flatten):=λb hb qq=>by
   rcases qq with(qq|⟨n,qq⟩)|qq
   ·rcases hb with rfl|rfl
    ·exact hne.1 qq
    ·exact hne.2.1 qq
   ·rw[hcl]at qq;cases qq
   ·simp at qq
  refine q s'2 ⟨(at1.post p'2).toA g.at'.ha,⟨_,p'2.upd.keep2 _ _ (notF _ (.inl rfl)) he'' rfl⟩,?_,hsca⟩ ((u'1.mono λa h=>.inr h).trans (p'2.upd.mono λa h=>?_))
  ·obtain⟨o,e1,e2,e3⟩:=si'';rw[Zd4 hasc];exact⟨o,p'2.upd.keep2 _ _ (notF _ (.inr rfl)) e1 (Zag ⟨_,e2⟩),e2,e3⟩
  ·rcases h with(h|⟨n,h⟩)|h
   ·exact .inl h
   ·rw[hcl]at h;cases h
   ·simp at h
end
noncomputable abbrev Znl:List Stmt:=[
 .If (.Name "escape" (Zbn 12)) [
  .Expr (.Yield (some (.Tuple [.Name "pos" (Zbn 13),.BinOp (.Constant (.str "\\") 0 (Zbn 14)) .Add (.Name "ch" (Zbn 15)) (Zbn 16)] 0 (Zbn 17))) (Zbn 18)) (Zbn 19),
  .Assign [.Name "escape" (Zbn 20)] (.Constant (.bool false) 0 (Zbn 21)) (Zbn 22)]
  [.If (.Compare (.Name "ch" (Zbn 23)) [.Eq] [.Constant (.str "\\") 0 (Zbn 24)] (Zbn 25)) [.Assign [.Name "escape" (Zbn 26)] (.Constant (.bool true) 0 (Zbn 27)) (Zbn 28)] [
   .Expr (.Yield (some (.Tuple [.Name "pos" (Zbn 29),.Name "ch" (Zbn 30)] 0 (Zbn 31))) (Zbn 32)) (Zbn 33)] (Zbn 34)] (Zbn 35)]
section
variable {prog:Program} {w:World} {A:Around} {E:Value->Shared->Prop} {T:Addr->Prop} {σ:Sg} {mg mb:Str->Option Value} {s0 s s' s'' s'1:Shared} {k n fo:Nat} {env:Env} {sc:List (Str×NameKind)} {ρ ρ' ρ2:List (Nat×D)} {e it:Addr} {x:Str} {t:Tok} {i:Nat} {R:GenEnd} {c:Code} {fs:List Frame} {K:Flow->Sem Fin} {H:Value->Sem Fin}
theorem Zs4(hnm:Zb6 (Za4 Zah))(g:GI T σ mg mb s0 sc k A env e it x t i ρ s)(hne:e≠env.locals/\it≠env.locals)(hcl:env.cells=[])(hn:∀y∈Zah,sc.lookup y=some .local){A':Around}(ha':AOk k A'){b:Bool}{p1 p2 p3:Pos}{kx:Nat}{Q:Flow->Shared->Prop}
  (q:∀s',GI T σ mg mb s0 sc k A env e it x t i ((2,.bool b)::ρ) s'->Upd T (λa=>a=env.locals\/a=e\/a=it) s s'->Q .next s'):wpAny (model prog w) A' (exec (.Assign [.Name "escape" p1] (.Constant (.bool b) kx p2) p3) env) Q NoE s:=by
 refine Hbt (Hbp ?_) rfl
 refine(g.at'.toA ha').put hnm (y:=2) (d:=.bool b) ?_ rfl (.bool b) λs' p=>?_
 ·show(((sc.lookup ("escape":Str)==some .local)||(sc.lookup ("escape":Str)==some .cell))&&("escape":Str) != ("__classdict__":Str))=true
  rw[hn "escape" (iL rfl)];decide+kernel
 ·refine q s' (g.frm hne hcl p λy d hl=>?_) (p.upd.mono λa h=>?_)
  ·rw[Zav]at hl;split at hl
   ·cases hl;rfl
   ·exact g.sca y d hl
  ·rcases h with(h|⟨n,h⟩)|h
   ·exact .inl h
   ·rw[hcl]at h;cases h
   ·simp at h
theorem Zh8{own:Addr->Prop}(at':At T σ mg mb s0 (Za4 Zah) sc k A own env s ρ [] [])(hsc:∀y d,lk y ρ=some d->scalar d=true){n':Nat}(hS:Zaq prog w T σ mg mb s0 (Za4 Zah) fn (λ_ _=>none) k n')(ha':AOk k (A.over c fs)){its r:List (Nat×List Nat)}{p:Nat}{l:List Nat}{pre:List (Nat×List Nat)}(hits:its=pre++(p,l)::r)
  {e1 e2:Expr}{m1 m2:M}{kx:Nat}{yp ep tp:Pos}(h1:okE (Za4 Zah) fn fo sc e1 m1=true)(h2:okE (Za4 Zah) fn fo sc e2 m2=true)(v1:ev (λ_ _=>none) n' ρ [] m1=some (.int (.k (.ofNat p))))(v2:ev (λ_ _=>none) n' ρ [] m2=some (.str l))
  (u:Upd T own s'1 s)(hb:∀a,s.heap.get? a=none->s'1.heap.get? a=none)(hfs:splitAtGen fs=none)(hfg:fs.any Frame.guarded=false)(hco:env.scope.isCoroutine=false)(hi:interactive env=false)
  (q:∀s' s'',Ext T s s'->Bs T mg mb s0 s''->(∀a o,own a->s'.heap.get? a=some o->s''.heap.get? a=some o)->At T σ mg mb s0 (Za4 Zah) sc k A own env s'' ρ [] []->Seg (model prog w) A (Zfw T own) (Zcc T mg mb s0 own its) r.length s'' c (K .next) fs s''):
  Seg (model prog w) A (Zfw T own) (Zcc T mg mb s0 own its) ((p,l)::r).length s'1 c ((exec (.Expr (.Yield (some (.Tuple [e1,e2] kx tp)) yp) ep) env).wrap K H id id) fs s:=by
 refine seg_Expr_Yield hfs rfl hfg ?_ hco hi
 refine(at'.toA ha').pair hS h1 h2 v1 v2 λt' y tk tk' s' x' f1 f2 f3=>?_
 intro kap hkap;have at'':=at'.ext x';refine⟨⟨t',p,l,y,tk,tk',rfl,?_,hb _ f1,(λh=>by obtain⟨o,e,_⟩:=at'.occ _ h;rw[f1]at e;cases e),f2,f3⟩,u.trans x'.upd,at''.occ,λs'' bs hk=>hkap .none s'' (q s' s'' x' bs hk (at''.agree hsc bs hk))⟩
 rw[hits,Hct,Hci];have:pre.length+(r.length+1)-1-r.length=pre.length:=Nat.add_sub_cancel pre.length r.length;rw[this,List.getElem?_append_right (Hac _),Nat.sub_self];rfl
theorem Ydc(hnm:Zb6 (Za4 Zah))(hS:∀n,Zaq prog w T σ mg mb s0 (Za4 Zah) fn (λ_ _=>none) k n)(hT:∀n,Zbg prog w T σ mg mb s0 (Za4 Zah) fn (λ_ _=>none) k n)(hco:env.scope.isCoroutine=false)(hint:interactive env=false)
  (hasc:x.cps.all (· <128)=true)(hne:e≠env.locals/\it≠env.locals/\e≠it)(hcl:env.cells=[])(hfree:∀a,(a=e\/a=it)->s0.heap.get? a=none/\¬T a)(hn:∀y∈Zah,sc.lookup y=some .local)
  {p'0:Pos}{its:List (Nat×List Nat)}{fbody:List Stmt}
  (hAf:AOk k (A.over (.func fbody env) []))(hAl:∀(t:Expr) (it:Value) (bd:List Stmt),AOk k (A.over (.forLoop t it bd [] env) [Zen env K H id id (.func fbody env) p'0]))
  (hafter:∀(b:Bool) (ρ:List (Nat×D)) (s'1 s:Shared) (pre:List (Nat×List Nat)),At T σ mg mb s0 (Za4 Zah) sc k A (λa=>a=env.locals\/a=e\/a=it) env s ρ [] []->(∀y d,lk y ρ=some d->scalar d=true)->lk 2 ρ=some (.bool b)->
   (b=true->lk 1 ρ=some (.int (.k (.ofNat (x.cps.toList.length-1)))))->its=pre++Zhf b x.cps.toList.length []->Upd T (λa=>a=env.locals\/a=e\/a=it) s'1 s->(∀a,s.heap.get? a=none->s'1.heap.get? a=none)->
   Seg (model prog w) A (Zfw T λa=>a=env.locals\/a=e\/a=it) (Zcc T mg mb s0 (λa=>a=env.locals\/a=e\/a=it) its) (Zhf b x.cps.toList.length []).length s'1 (.func fbody env) (K .next) [] s):
  ∀(r:List Nat) (i:Nat) (b:Bool) (ρ:List (Nat×D)) (s'1 s:Shared) (pre:List (Nat×List Nat)),x.cps.toList.drop i=r->i<=x.cps.toList.length->GI T σ mg mb s0 sc k A env e it x t i ρ s->lk 2 ρ=some (.bool b)->(b=true->lk 1 ρ=some (.int (.k (.ofNat (i-1)))))->
   its=pre++Zhf b i r->Upd T (λa=>a=env.locals\/a=e\/a=it) s'1 s->(∀a,s.heap.get? a=none->s'1.heap.get? a=none)->
   Seg (model prog w) A (Zfw T λa=>a=env.locals\/a=e\/a=it) (Zcc T mg mb s0 (λa=>a=env.locals\/a=e\/a=it) its) (Zhf b i r).length s'1
    (.forLoop (.Tuple [.Name "pos" (Zbn 6),.Name "ch" (Zbn 7)] 0 (Zbn 8)) (.ref e) (Znl) [] env)
    ((model prog w).den (.forLoop (.Tuple [.Name "pos" (Zbn 6),.Name "ch" (Zbn 7)] 0 (Zbn 8)) (.ref e) (Znl) [] env))
    [Zen env K H id id (.func fbody env) p'0] s:=by
 intro r
 induction r with
 |nil=>
  intro i b ρ s'1 s pre hdr hle g h2 h1 hits u hb;have hi:i=x.cps.toList.length:=by
   have:=Hb6 List.length hdr;rw[List.length_drop,List.length_nil]at this;exact(Ham hle (ln3 (.v 1) (.v 0) [(1,.v 2,.k 0),(1,.v 1,.a (.v 2) (.v 0))] rfl (Han this) Zcu))
  subst hi;obtain⟨old,he⟩:=g.en;have hst:s.heap.IsStrIter it "str_ascii_iterator" x t x.cps.toList.length:=by have:=g.si;rwa [Zd4 hasc]at this
  refine Ziz (Zxh (hAl _ _ _).handled he hst (by simp) λh' hx ho=>?_)
  have ncI:Za9 s.heap it:=by obtain⟨o,e1,_,hd⟩:=hst;exact .of e1 (Zci (by rw[hd];rfl))
  have u':Upd T (λa=>a=it) s {s with heap:=h'}:=by
   refine⟨λb o _ hw e'=>hx b o hw e',λb o hw e' _=>hx b o hw e',λb ⟨o,e',tt⟩=>?_,λb tb t=>t.keep (λc o co e'=>hx c o (λq=>(q▸ncI).absurd co e') e') (λo e'=>hx b _ (λq=>(hfree it (.inr rfl)).2 (q▸tb)) e'),λe=>e,rfl⟩
   by_cases q:b=it
   ·rw[q];exact ho
   ·exact⟨o,hx b o q e',tt⟩
  have at':=g.at'.updW u' (λa h=>(hfree a (.inr h)).1) (λa h f=>by
   rcases f with f|⟨n,f⟩
   ·exact hne.2.1 (h▸f)
   ·rw[hcl]at f;cases f) λa h=>.inr (.inr h)
  refine Zmg (hafter b ρ s'1 {s with heap:=h'} pre at' g.sca h2 h1 hits (u.trans (u'.mono λa h=>.inr (.inr h))) λa h=>hb a (u'.free_back g.at'.bs.tabs_ok (λb hb=>g.occ b (.inr (.inr hb))) h))
 |cons c r ih=>
  intro i b ρ s'1 s pre hdr hle g h2 h1 hits u hb;have hlt:i<x.cps.toList.length:=by
   have:=Hb6 List.length hdr;rw[List.length_drop,Hci]at this;exact(ln4 (.a (.v 0) (.k 1)) (.v 1) [(1,.a (.v 3) (.k 1),.v 2),(1,.a (.v 2) (.v 0),.v 1)] rfl (Han this.symm) (Han (Hb3 hle)))
  have hdr':=Hcv hlt;rw[hdr]at hdr'
  injection hdr' with hc hr
  have hxc:x.cps[i]?=some c:=by
   have:i<x.cps.size:=by rwa [Hce]at hlt
   rw[Hcg this,hc];simp
  have okpos:∀a,okE (Za4 Zah) fn 2 sc (.Name "pos" a) (.n 1)=true:=λa=>by
   show(("pos":Str)==Za4 Zah 1&&Zi4 (sc.lookup ("pos":Str))&&("pos":Str) != ("__debug__":Str))=true;rw[hn "pos" (iL rfl)];decide+kernel
  have okch:∀a,okE (Za4 Zah) fn 2 sc (.Name "ch" a) (.n 3)=true:=λa=>by
   show(("ch":Str)==Za4 Zah 3&&Zi4 (sc.lookup ("ch":Str))&&("ch":Str) != ("__debug__":Str))=true;rw[hn "ch" (iL rfl)];decide+kernel
  have okesc:∀a,okE (Za4 Zah) fn 1 sc (.Name "escape" a) (.n 2)=true:=λa=>by
   show(("escape":Str)==Za4 Zah 2&&Zi4 (sc.lookup ("escape":Str))&&("escape":Str) != ("__debug__":Str))=true;rw[hn "escape" (iL rfl)];decide+kernel
  have okadd:okE (Za4 Zah) fn 2 sc (.BinOp (.Constant (.str "\\") 0 (Zbn 14)) .Add (.Name "ch" (Zbn 15)) (Zbn 16)) (.bin .Add (.c (.str [92])) (.n 3))=true:=by
   show(Operator.Add==Operator.Add&&eqN ("\\":Str).cps.toList [92]&&(("ch":Str)==Za4 Zah 3&&Zi4 (sc.lookup ("ch":Str))&&("ch":Str) != ("__debug__":Str)))=true;rw[hn "ch" (iL rfl)];decide+kernel
  have okcmp:okE (Za4 Zah) fn 2 sc (.Compare (.Name "ch" (Zbn 23)) [.Eq] [.Constant (.str "\\") 0 (Zbn 24)] (Zbn 25)) (.cmp (.n 3) [(.Eq,.c (.str [92]))])=true:=by
   show((("ch":Str)==Za4 Zah 3&&Zi4 (sc.lookup ("ch":Str))&&("ch":Str) != ("__debug__":Str))&&(CmpOp.Eq==CmpOp.Eq&&eqN ("\\":Str).cps.toList [92]&&true))=true;rw[hn "ch" (iL rfl)];decide+kernel
  refine Ziz (Ha4 (Zxl (p1:=(Zbn 6)) (p2:=(Zbn 7)) (p3:=(Zbn 8)) (kx:=0) (Q:=(λ_ s3=>Seg (model prog w) A (Zfw T λa=>a=env.locals\/a=e\/a=it) (Zcc T mg mb s0 (λa=>a=env.locals\/a=e\/a=it) its) (Zhf b i (c::r)).length s'1 (.forLoop (.Tuple [.Name "pos" (Zbn 6),.Name "ch" (Zbn 7)] 0 (Zbn 8)) (.ref e) (Znl) [] env) ((execs (Znl) env).wrap (Zy7 (.Tuple [.Name "pos" (Zbn 6),.Name "ch" (Zbn 7)] 0 (Zbn 8)) (.ref e) (Znl) env) (Ydv env) id id) [Zen env K H id id (.func fbody env) p'0] s3)) hnm (hAl _ _ _) g hasc hne hcl hfree hn hxc λs'2 g'2 u'2=>?_) (λr s'2 h=>?_) λ_ _ e=>e)
  rotate_left
  ·cases r with
   |none=>exact h.elim
   |some v=>exact h
  have hb'2:∀a,s'2.heap.get? a=none->s'1.heap.get? a=none:=λa h=>hb a (u'2.free_back g.at'.bs.tabs_ok g.occ h)
  have U2:=u.trans u'2;have l2:lk 2 ((3,D.str [c])::(1,.int (.k (.ofNat i)))::ρ)=some (.bool b):=by rw[Zav,if_neg (by decide),Zav,if_neg (by decide)];exact h2
  have back:∀(s3:Shared) (ρ3:List (Nat×D)) (b'3:Bool) (s4:Shared) (pre3:List (Nat×List Nat)),GI T σ mg mb s0 sc k A env e it x t (i+1) ρ3 s3->lk 2 ρ3=some (.bool b'3)->(b'3=true->lk 1 ρ3=some (.int (.k (.ofNat i))))->its=pre3++Zhf b'3 (i+1) r->Upd T (λa=>a=env.locals\/a=e\/a=it) s4 s3->(∀a,s3.heap.get? a=none->s4.heap.get? a=none)->_:=
   λs3 ρ3 b'3 s4 pre3 g'3 q1 q2 q3 q4 q5=>Zmy (c:=.forLoop (.Tuple [.Name "pos" (Zbn 6),.Name "ch" (Zbn 7)] 0 (Zbn 8)) (.ref e) (Znl) [] env) (ih (i+1) b'3 ρ3 s4 s3 pre3 hr.symm hlt g'3 q1 q2 q3 q4 q5)
  refine Hbz (Zu9 ?_)
  refine hT 1 ⟨hAl _ _ _,g'2.at'.ok,g'2.at'.bs,g'2.at'.rel.rel,(λ_ h=>.inl h),g'2.at'.occN⟩ (okesc _) l2 rfl λs3 x3=>?_
  have g'3:=g'2.ext x3;have U3:=U2.trans (x3.upd (W:=λa=>a=env.locals\/a=e\/a=it))
  have hb3:∀a,s3.heap.get? a=none->s'1.heap.get? a=none:=λa h=>hb'2 a (g'2.at'.bs.free_at x3 a h)
  cases b with
  |true=>
   rw[if_pos rfl];have ee:Zhf true i (c::r)=(i,[92,c])::Zhf false (i+1) r:=rfl;rw[ee]at hits ⊢;refine Hbz ?_
   refine Zh8 g'3.at' g'3.sca (hS 2) (hAl _ _ _) hits (okpos _) okadd rfl rfl U3 hb3 rfl rfl hco hint λs' s'' x' bs hk at''=>?_
   have g'5:=(g'3.ext x').agree bs hk;refine Hbz (Zf8 (Zs4 hnm g'5 ⟨hne.1,hne.2.1⟩ hcl hn (hAl _ _ _) λs6 g'6 u6=>?_))
   refine Hb0 (Hb0 ?_)
   exact back s6 _ false s'' (pre++[(i,[92,c])]) g'6 rfl (λh=>by cases h) (by rw[hits];simp) u6 λa h=>u6.free_back g'5.at'.bs.tabs_ok g'5.occ h
  |false=>
   rw[if_neg Hca];refine Hbz (Zu9 ?_)
   have hq:eqN [c] [92]=Nat.beq c 92:=Bool.and_true _;refine hT 2 (d:=.bool (Nat.beq c 92)) ⟨hAl _ _ _,g'3.at'.ok,g'3.at'.bs,g'3.at'.rel.rel,(λ_ h=>.inl h),g'3.at'.occN⟩ okcmp (by rw[←hq];rfl) rfl λs4 x4=>?_
   have g'4:=g'3.ext x4;have U4:=U3.trans (x4.upd (W:=λa=>a=env.locals\/a=e\/a=it))
   have hb4:∀a,s4.heap.get? a=none->s'1.heap.get? a=none:=λa h=>hb3 a (g'3.at'.bs.free_at x4 a h)
   have ee:Zhf false i (c::r)=(match Nat.beq c 92 with|true=>Zhf true (i+1) r|false=>(i,[c])::Zhf false (i+1) r):=rfl
   rw[ee]at hits ⊢;cases hcq:Nat.beq c 92 with
   |true=>
    rw[hcq]at hits;rw[if_pos rfl];refine Hbz (Zf8 (Zs4 hnm g'4 ⟨hne.1,hne.2.1⟩ hcl hn (hAl _ _ _) λs6 g'6 u6=>?_))
    refine Hb0 (Hb0 (Hb0 ?_))
    exact back s6 _ true s'1 pre g'6 rfl (λ_=>rfl) hits (U4.trans u6) λa h=>hb4 a (u6.free_back g'4.at'.bs.tabs_ok g'4.occ h)
   |false=>
    rw[hcq]at hits;rw[if_neg Hca];refine Hbz ?_
    refine Zh8 g'4.at' g'4.sca (hS 2) (hAl _ _ _) hits (okpos _) (okch _) rfl rfl U4 hb4 rfl rfl hco hint λs' s'' x' bs hk at''=>?_
    have g'5:=(g'4.ext x').agree bs hk;refine Hb0 (Hb0 (Hb0 ?_))
    exact back s'' _ false s'' (pre++[(i,[c])]) g'5 l2 (λh=>by cases h) (by rw[hits];simp) .refl λa h=>h
end
section
variable {prog:Program} {w:World} {A:Around} {E:Value->Shared->Prop} {T:Addr->Prop} {σ:Sg} {mg mb:Str->Option Value} {s0 s s' s'' s'1:Shared} {k n fo:Nat} {g:Nat} {st:GenState} {W own:Addr->Prop}
theorem Zr9(m:Nat):Zj8 (λG=>∀(i:Nat) (x:GenState),m<=i->G[i]?=some x->x.bare=true):=⟨λG G' h hk hb i x hi e=>by
 by_cases q:i<G.size
 ·have:=hk i G[i] (Hcg q);rw[this]at e;cases e;exact h i _ hi (Hcg q)
 ·exact hb i x (Hah q) e⟩
structure Zbd(G G':Array GenState):Prop where
 keep:∀(i:Nat) (x:GenState),G[i]?=some x->G'[i]?=some x
 bare:∀(i:Nat) (x:GenState),G.size<=i->G'[i]?=some x->x.bare=true
theorem Zbd.good{G G':Array GenState}(h:Zbd G G'){P:Array GenState->Prop}[i:Zj8 P](p:P G):P G':=i.keep G G' p h.keep h.bare
theorem Zbd.of{G G':Array GenState}(h:∀{P:Array GenState->Prop} [Zj8 P],P G->P G'):Zbd G G':=
 ⟨λi x e=>h (P:=λG=>G[i]?=some x) e,by
  have:=Zr9 G.size;exact h (P:=λG'=>∀(i:Nat) (x:GenState),G.size<=i->G'[i]?=some x->x.bare=true) λi x hi e=>by
   rw[Array.getElem?_eq_none hi]at e;cases e⟩
theorem Zbd.set{G G':Array GenState}(h:Zbd G G')(hg:G.size<=g)(hb:st.bare=true):Zbd G (G'.setIfInBounds g st):=by
 refine⟨λi x e=>?_,λi x hi e=>?_⟩
 ·have hi:i<G.size:=by
   rcases Nat.lt_or_ge i G.size with q|q
   ·exact q
   ·rw[Array.getElem?_eq_none q]at e;cases e
  rw[Array.getElem?_setIfInBounds_ne (by exact(Ha3 (ln3 (.a (.v 2) (.k 1)) (.v 1) [(1,.v 0,.v 1),(1,.a (.v 2) (.k 1),.v 0)] rfl hg hi)))]
  exact h.keep i x e
 ·by_cases q:g=i
  ·subst q;rw[Array.getElem?_setIfInBounds]at e;simp at e;rw[←e.2];exact hb
  ·rw[Array.getElem?_setIfInBounds_ne q]at e;exact h.bare i x hi e
theorem Zbd.push{G G':Array GenState}(h:Zbd G G')(hb:st.bare=true):Zbd G (G'.push st):=by
 refine⟨λi x e=>?_,λi x hi e=>?_⟩
 ·have:=h.keep i x e;rw[Array.getElem?_push];have hi:i<G'.size:=(Array.getElem?_eq_some_iff.mp this).1;rw[if_neg (by exact(Ha9 hi))];exact this
 ·rw[Array.getElem?_push]at e;split at e
  ·cases e;exact hb
  ·exact h.bare i x hi e
theorem Zbd.size{G G':Array GenState}(h:Zbd G G'):G.size<=G'.size:=by
 rcases Nat.eq_zero_or_pos G.size with q|q
 ·exact(ln2 (.v 0) (.v 1) [(1,.v 0,.k 0)] rfl (Han q))
 ·have:=h.keep (G.size-1) G[G.size-1] (Hcg (Han (Hb3 (ln1 (.k 1) (.v 0) [(1,.a (.k 0) (.k 1),.v 0)] rfl q))));have:=(Array.getElem?_eq_some_iff.mp this).1;exact(ln3 (.v 0) (.v 2) [(1,.a (.v 1) (.k 1),.v 2),(1,.v 0,.a (.v 1) (.k 1))] rfl this Zcu)
theorem Ext.setGen(x:Ext T s s')(hg:s.gens.size<=g)(hb:st.bare=true):Ext T s (s'.setGen g st):=
 ⟨x.keep,x.keep2,x.tab,λp=>((Zbd.of x.gens).set hg hb).good p,x.os⟩
theorem Bs.setGen(b:Bs T mg mb s0 s)(hg:s0.gens.size<=g)(hb:st.bare=true):Bs T mg mb s0 (s.setGen g st):=⟨b.ext.setGen hg hb,b.tabs,b.gl⟩
end
variable {s'1:Shared} {x:Str} {t:Tok} {i:Nat}
theorem At.store(at':At T σ mg mb s0 nm sc k A N2 env s [] [] []){y:Str}{v:Value}{m:Str->Option Value}{Q:Unit->Shared->Prop}(hy:sc.lookup y=some .local)(hns:s.heap.Ns env.locals m)(hcl:env.cells=[])
  (q:∀s',At T σ mg mb s0 nm sc k A N2 env s' [] [] []->s'.heap.Ns env.locals (λz=>if z=y then some v else m z)->s'.heap.objs.size=s.heap.objs.size->Upd T (Frm env) s s'->Q () s'):wpAny (model prog w) A (storeName env y v) Q E s:=by
 refine wpAny_storeName_local (by rw[at'.ok.kindOf];exact hy) hns (λh' hn' hs'=>?_) (by rw[at'.ok.kind];rfl)
 have nT:¬T env.locals:=Zbm at'.bs at'.rel.sl (.inl rfl);have u'0:Upd T (·=env.locals) s {s with heap:=h',toks:=s.toks+1}:=.of_but (tk:=s.toks+1) hs' (Zju hn') nT (.ns hns)
 have u:Upd T (Frm env) s {s with heap:=h',toks:=s.toks+1}:=u'0.mono λa h=>.inl h
 refine q _ (at'.frmD u ⟨⟨_,hn'⟩,λn c hm=>(by rw[hcl]at hm;cases hm),by rw[hcl];exact .nil⟩) hn' hs'.1 u
noncomputable abbrev Zgk:List Stmt:=[
 .Assign [.Name "pos" (Zbn 0)] (.Constant (.int 0) 0 (Zbn 1)) (Zbn 2),
 .Assign [.Name "escape" (Zbn 3)] (.Constant (.bool false) 0 (Zbn 4)) (Zbn 5),
 .For (.Tuple [.Name "pos" (Zbn 6),.Name "ch" (Zbn 7)] 0 (Zbn 8)) (.Call (.Name "enumerate" (Zbn 9)) [.Name "addr" (Zbn 10)] [] (Zbn 11)) Znl [] (Zbn 36),
 .If (.Name "escape" (Zbn 37)) [.Expr (.Yield (some (.Tuple [.Name "pos" (Zbn 38),.Constant (.str "\\") 0 (Zbn 39)] 0 (Zbn 40))) (Zbn 41)) (Zbn 42)] [] (Zbn 43)]
variable {m:Str->Option Value}
theorem Ydd(hA0:AOk k A)(hS:∀n,Zaq prog w T σ mg mb s0 (Za4 Zah) fn (λ_ _=>none) (k+1) n)(hT:∀n,Zbg prog w T σ mg mb s0 (Za4 Zah) fn (λ_ _=>none) (k+1) n)
  (at':At T σ mg mb s0 (Za4 Zah) sc (k+1) A (λa=>a=env.locals) env s [] [] [])(hns:s.heap.Ns env.locals m)(hm:m "addr"=some (.str x t))(hco:env.scope.isCoroutine=false)(hint:interactive env=false)
  (hasc:x.cps.all (· <128)=true)(hcl:env.cells=[])(hn:∀y∈Zah,sc.lookup y=some .local)(hen:sc.lookup ("enumerate":Str)=some .globalImplicit)(g1:mg "enumerate"=none)(g2:mb "enumerate"=some (.type "enumerate"))
  :
  Seg (model prog w) A (Zfw T λa=>a=env.locals\/a=s.heap.objs.size+1\/a=s.heap.objs.size) (Zcc T mg mb s0 (λa=>a=env.locals\/a=s.heap.objs.size+1\/a=s.heap.objs.size) (Zhf false 0 x.cps.toList)) (Zhf false 0 x.cps.toList).length s
   (.func Zgk env)
   ((model prog w).den (.func Zgk env)) [] s:=by
 have kl:∀y∈Zah,env.kindOf y=some .local:=λy hy=>by rw[at'.ok.kindOf];exact hn y hy
 refine seg_func ?_
 refine Hbz (Zf8 (Hbt (Hbr ?_) rfl))
 have e'1:Ext T s {s with toks:=s.toks+1}:=.toks
 have at1:=(at'.ext e'1).toA (Zhj (body:=Zgk) (env:=env) hA0);refine at1.store (y:="pos") (hn _ (iL rfl)) hns hcl λs'2 at2 hns2 hz'2 u'2=>?_
 refine Hbz (Zf8 (Hbt (Hbp ?_) rfl))
 refine at2.store (y:="escape") (hn _ (iL rfl)) hns2 hcl λs3 at3 hns3 hz3 u'3=>?_
 have hz:s3.heap.objs.size=s.heap.objs.size:=hz3.trans hz'2;refine Hbz (Ydb ?_ (λ_=>rfl))
 have va:Zam env s3.heap "addr" (.str x t):=.inl ⟨kl _ (iL rfl),_,hns3,by rw[if_neg (by decide),if_neg (by decide)];exact hm⟩
 refine Hbi (at3.builtin hen (by decide) g1 g2 ?_)
 refine callWith_type1 ?_ rfl
 refine Hbf (at3.name va (by decide) (Hbe ?_))
 refine call_enumerate_str λh' he hit hz' hk=>?_
 refine wpAny_pyIter_enum he λp=>?_
 rw[hz]at he hit ⊢;have x4:Ext T s3 {s3 with heap:=h'}:=.of_keeps (tk:=s3.toks) hk
 have at'4:=(at3.ext x4).toA at'.ha;have new3:∀a,(a=s.heap.objs.size+1\/a=s.heap.objs.size)->s3.heap.get? a=none:=λa h=>Zae (by rw[hz];exact(h.elim (λz2=>(ln2 (.v 0) (.v 1) [(1,.a (.v 0) (.k 1),.v 1)] rfl (Han z2.symm))) (λz2=>(Han z2.symm))))
 have ge:∀a,(a=s.heap.objs.size+1\/a=s.heap.objs.size)->s3.heap.objs.size<=a:=λa h=>by rw[hz];exact(h.elim (λz2=>(ln2 (.v 0) (.v 1) [(1,.a (.v 0) (.k 1),.v 1)] rfl (Han z2.symm))) (λz2=>(Han z2.symm)))
 have noL:∀a,(a=s.heap.objs.size+1\/a=s.heap.objs.size)->a≠env.locals:=λa h q=>by
  obtain⟨o,e,_⟩:=at3.rel.sl.frm_occ (a:=env.locals) (.inl rfl);rw[←q,new3 a h]at e;cases e
 have occ4:∀a,(a=env.locals\/a=s.heap.objs.size+1\/a=s.heap.objs.size)->Occ h' a:=λa h=>by
  rcases h with h|h|h
  ·exact at'4.occ a h
  ·rw[h];exact⟨_,he,rfl⟩
  ·obtain⟨o,e1,e2,_⟩:=hit;rw[h];exact⟨o,e1,Zag ⟨_,e2⟩⟩
 have base:At T σ mg mb s0 (Za4 Zah) sc (k+1) A (λa=>a=env.locals\/a=s.heap.objs.size+1\/a=s.heap.objs.size) env {s3 with heap:=h'} [] [] []:=
  ⟨at'.ha,at'4.ok,⟨.inl rfl,λn c h=>by rw[hcl]at h;cases h⟩,at'4.bs,⟨λy d hl hk=>(by cases hl),.nil,at'4.rel.nodup,λb hb=>(by simp at hb),at'4.rel.sl⟩,occ4,at'4.young⟩
 have ns4:h'.Ns env.locals _:=let⟨o,es,ep,e1,r⟩:=hns3;⟨o,es,ep,hk _ _ e1,r⟩
 have full:=((base.see (y:=0) (d:=.str x.cps.toList) (v:=.str x t) (.inl ⟨kl "addr" (iL rfl),_,ns4,by show(if("addr":Str)="escape" then _ else _)=_;rw[if_neg (by decide),if_neg (by decide)];exact hm⟩) (.str rfl)).see (y:=1) (d:=.int (.k 0)) (v:=.int 0 s.toks) (.inl ⟨kl "pos" (iL rfl),_,ns4,by show(if("pos":Str)="escape" then _ else _)=_;rw[if_neg (by decide),if_pos (by decide)]⟩) (.int rfl)).see (y:=2) (d:=.bool false) (.inl ⟨kl "escape" (iL rfl),_,ns4,by show(if("escape":Str)="escape" then _ else _)=_;rw[if_pos (by decide)]⟩) (.bool false)
 have gi:GI T σ mg mb s0 sc (k+1) A env (s.heap.objs.size+1) s.heap.objs.size x t 0 [(2,.bool false),(1,.int (.k 0)),(0,.str x.cps.toList)] {s3 with heap:=h'}:=⟨full,⟨_,he⟩,hit,λy d hl=>by
  rw[Zav]at hl;split at hl
  ·cases hl;rfl
  ·rw[Zav]at hl;split at hl
   ·cases hl;rfl
   ·rw[Zav]at hl;split at hl
    ·cases hl;rfl
    ·cases hl⟩
 have fL:∀a,Frm env a->a=env.locals:=λa h=>by
  rcases h with h|⟨n,h⟩
  ·exact h
  ·rw[hcl]at h;cases h
 have U:Upd T (λa=>a=env.locals\/a=s.heap.objs.size+1\/a=s.heap.objs.size) s {s3 with heap:=h'}:=
  (e'1.upd.trans ((u'2.mono λa h=>.inl (fL a h)).trans (u'3.mono λa h=>.inl (fL a h)))).trans x4.upd
 have back:∀a,h'.get? a=none->s.heap.get? a=none:=λa h=>by
  have h3:=at3.bs.free_at x4 a h;have h2:=u'3.free_back at2.bs.tabs_ok (λb hb=>at2.occ b (fL b hb)) h3
  exact u'2.free_back at1.bs.tabs_ok (λb hb=>at1.occ b (fL b hb)) h2
 refine Ydc Zgl hS hT hco hint hasc ⟨noL _ (.inl rfl),noL _ (.inr rfl),Nat.succ_ne_self _⟩ hcl (λa h=>⟨at3.bs.free (new3 a h),λq=>Hao _ (Hak (ge a h) (at3.bs.lt a q))⟩) hn (its:=Zhf false 0 x.cps.toList) (Zhj hA0) (λt it bd=>Zwo hA0) ?_ x.cps.toList 0 false _ s _ [] rfl (Hap _) gi rfl (λh=>by cases h) rfl U back
 intro b ρ1 s'1 s'5 pre at'5 sca5 l2 l1 hits u5 hb5;have okpos:∀a,okE (Za4 Zah) fn 2 sc (.Name "pos" a) (.n 1)=true:=λa=>by
  show(("pos":Str)==Za4 Zah 1&&Zi4 (sc.lookup ("pos":Str))&&("pos":Str) != ("__debug__":Str))=true;rw[hn "pos" (iL rfl)];decide+kernel
 have okbs:∀a kk,okE (Za4 Zah) fn 2 sc (.Constant (.str "\\") kk a) (.c (.str [92]))=true:=λa kk=>by
  show eqN ("\\":Str).cps.toList [92]=true
  decide+kernel
 have okesc:∀a,okE (Za4 Zah) fn 1 sc (.Name "escape" a) (.n 2)=true:=λa=>by
  show(("escape":Str)==Za4 Zah 2&&Zi4 (sc.lookup ("escape":Str))&&("escape":Str) != ("__debug__":Str))=true;rw[hn "escape" (iL rfl)];decide+kernel
 refine Hbz (Zu9 ?_)
 refine hT 1 ⟨Zhj hA0,at'5.ok,at'5.bs,at'5.rel.rel,(λ_ h=>.inl h),at'5.occN⟩ (okesc _) l2 rfl λs6 x6=>?_
 have at6:=at'5.ext x6;have U6:=u5.trans (x6.upd (W:=λa=>a=env.locals\/a=s.heap.objs.size+1\/a=s.heap.objs.size))
 have hb6:∀a,s6.heap.get? a=none->s'1.heap.get? a=none:=λa h=>hb5 a (at'5.bs.free_at x6 a h)
 cases b with
 |true=>
  rw[if_pos rfl];refine Hbz ?_
  refine Zh8 at6 sca5 (hS 2) (Zhj hA0) hits (okpos _) (okbs _ _) (l1 rfl) rfl U6 hb6 rfl rfl hco hint λs' s'' x' bs hk' at''=>?_
  exact Hb0 (Hb0 (seg_end (.ok (.ret .none)) (And.intro rfl (And.intro rfl .refl))))
 |false=>
  rw[if_neg Hca];exact Hb0 (Hb0 (seg_end (.ok (.ret .none)) (And.intro rfl (And.intro rfl U6))))
structure Yea(s0:Shared)(a:Addr)(fd:FuncData)(body:List Stmt):Prop where
 at':∃o,s0.heap.get? a=some o/\o.data= .func fd
 lim:s0.heap.NoLimit
 rec':s0.heap.CodeRec fd.code fd.qualname
 body:fd.body= .stmts body
 clo:fd.closure=[]
 glob:fd.globals=mainGlobals
 bui:fd.builtins=builtinsNs
 co:fd.scope.isCoroutine=false
 gen:fd.scope.isGenerator=true
 kind:fd.scope.kind= .function
 names:Zeq [] fd.scope.names=true
theorem Zxv{a:Addr}{fd:FuncData}{body:List Stmt}(hk:k+1<=100)(F:Yea s0 a fd body)(hcell:∀x∈fd.scope.names,x.2≠.cell)(ha:AOk k A)(bs:Bs T mg mb s0 s){y:Str}{v:Value}(hbind:bindArgs fd ⟨[v],[]⟩=pure [(y,v)])(hy:fd.scope.names.lookup y=some .local){Q:Value->Shared->Prop}
  (q:∀(s':Shared) (env:Env) (o:Addr) (m:Str->Option Value),s'.heap.IsGen o s.gens.size->s'.gens=s.gens.push (.fresh (.func body env))->(∀k' A',AOk k' A'->At T σ mg mb s0 nm fd.scope.names k' A' (λa=>a=env.locals) env s' [] [] [])->s'.heap.Ns env.locals m->m y=some v->
   env.scope=fd.scope->env.cells=[]->env.locals=s.heap.objs.size->s.heap.objs.size<=o->Ext T s s'->Q (.ref o) s'):
  wpAny (model prog w) A (call (.ref a) [v]) Q E s:=by
 obtain⟨o,ho,hd⟩:=F.at';obtain⟨nk,np⟩:=Zba F.names;refine wpAny_call (codeAny_call_generator (ha.room (Hba hk)) (bs.ext.keep2 a o ho (Za0 (by rw[hd];rfl))) hd F.co F.gen F.body (Zdm bs F.rec') ?_)
 rw[hbind];refine Hau ?_
 refine wpAny_newFunctionEnv hcell (λz hz=>?_) (λh'0 hns0 hsb0=>?_) F.kind
 ·simp only[List.mem_cons,Hch,or_false]at hz;rw[hz];exact hy
 have keep:∀b o,s.heap.get? b=some o->h'0.get? b=some o:=λb o e=>hsb0.extBut b o (Ha9 (Haj e)) (Hai _ e)
 refine⟨(bs.ext.nolimit F.lim).keeps keep,?_⟩
 have keep':∀(b:Addr) (o:Obj) (o':Obj),s.heap.get? b=some o->(h'0.push o').get? b=some o:=λb o o' e=>Hai _ (keep b o e)
 have ext:∀(o':Obj) (tk:Nat),Ext T s {s with heap:=h'0.push o',gens:=s.gens.push (.fresh (.func body (callEnv fd s.heap.objs.size a))),toks:=tk}:=λo' tk=>
  ⟨λb o _ e=>keep' b o o' e,λb o e _=>keep' b o o' e,λb _ t=>t.keep (λc o _ e=>keep' c o o' e) (λo e=>keep' _ o o' e),λp=>(Zbd.push (G':=s.gens) ⟨λ_ _ e=>e,λi x hi e=>(by rw[Array.getElem?_eq_none hi]at e;cases e)⟩ rfl).good p,rfl⟩
 refine q _ (callEnv fd s.heap.objs.size a) _ _ ⟨_,_,_,Hb7 _ rfl,rfl,rfl,rfl⟩ rfl (λk' A' ha'=>?_) (hns0.push _) ?_ rfl F.clo rfl (by show _<=h'0.objs.size;rw[hsb0.1,Hcx];exact Haw _) (ext _ _)
 ·have sl:∀o',Zbj (callEnv fd s.heap.objs.size a) (h'0.push o'):=λo'=>⟨⟨_,hns0.push _⟩,λn c hm=>(by rw[show(callEnv fd s.heap.objs.size a).cells=[]from F.clo]at hm;cases hm),by rw[show(callEnv fd s.heap.objs.size a).cells=[]from F.clo];exact .nil⟩
  refine⟨ha',⟨F.kind,rfl,F.glob,F.bui,λz hz=>?_⟩,⟨rfl,λn c hm=>(by rw[show(callEnv fd s.heap.objs.size a).cells=[]from F.clo]at hm;cases hm)⟩,bs.step (ext _ _),⟨λz d hl hk=>(by cases hl),.nil,by simp,λb hb=>(by simp at hb),sl _⟩,λb h=>?_,⟨λb h=>?_,λb hb=>(by simp at hb)⟩⟩
  ·rcases hz with hz|hz
   ·exact absurd rfl (hcell _ (mem_of_lookup hz))
   ·have:=(nk z .free (mem_of_lookup hz)).1 rfl;rcases this with h|h<;>cases h
  ·exact(sl _).frm_occ (s:={s with heap:=h'0.push _}) (.inl h)
  ·rcases h with h|⟨n,h⟩
   ·rw[h];exact bs.free (Zae (Hac _))
   ·rw[show(callEnv fd s.heap.objs.size a).cells=[]from F.clo]at h;cases h
 ·show([(y,v)]:List (Str×Value)).reverse.lookup y=some v;simp[List.lookup]
section
variable {prog:Program} {w:World} {A:Around} {E:Value->Shared->Prop} {T:Addr->Prop} {σ:Sg} {mg mb:Str->Option Value} {s0 s s' s'' s'1 s'2 s3:Shared} {k n fo g:Nat} {nm fn:Nat->Str} {st:GenState} {env:Env} {sc:List (Str×NameKind)} {ρ ρ':List (Nat×D)} {ow ow':List (Nat×O)} {OA OA':List (List Addr)} {N2:Addr->Prop} {own:Addr->Prop}
theorem At.setGen(x:At T σ mg mb s0 nm sc k A N2 env s ρ ow OA)(hg:s0.gens.size<=g)(hb:st.bare=true):At T σ mg mb s0 nm sc k A N2 env (s.setGen g st) ρ ow OA:=⟨x.ha,x.ok,x.hm,x.bs.setGen hg hb,x.rel,x.occ,x.young⟩
noncomputable def Zqn(prog:Program)(w:World)(A:Around)(T:Addr->Prop)(mg mb:Str->Option Value)(s0:Shared)(own:Addr->Prop)(its:List (Nat×List Nat))(g r:Nat)(s':Shared):Prop:=
 ∃gs,s'.gens[g]?=some gs/\∀s'',Bs T mg mb s0 s''->(∀a o,own a->s'.heap.get? a=some o->s''.heap.get? a=some o)->gs.Goes (model prog w) A.in1 (Zfw T own) (Zcc T mg mb s0 own its) r (.send .none) s''
theorem Zqn.keep{its:List (Nat×List Nat)}{r:Nat}{W:Addr->Prop}(h:Zqn prog w A T mg mb s0 own its g r s)(u:Upd T W s s')(hW:∀a,own a->¬W a)(hocc:∀a,own a->Occ s.heap a):Zqn prog w A T mg mb s0 own its g r s':=by
 obtain⟨gs,e,h⟩:=h;refine⟨gs,u.gens (P:=λG=>G[g]?=some gs) e,λs'' bs hk=>h s'' bs λa o ho e'=>hk a o ho ?_⟩
 obtain⟨o',e2,t⟩:=hocc a ho;rw[e']at e2;cases e2;exact u.keep2 a o (hW a ho) e' t
theorem Zbd.trans{G0 G G':Array GenState}(h1:Zbd G0 G)(h2:Zbd G G'):Zbd G0 G':=by
 refine⟨λi x e=>h2.keep i x (h1.keep i x e),λi x hi e=>?_⟩
 by_cases q:i<G.size
 ·have:=h2.keep i G[i] (Hcg q);rw[e]at this;cases this;exact h1.bare i _ hi (Hcg q)
 ·exact h2.bare i x (Hah q) e
structure Zi8(T own:Addr->Prop)(g:Nat)(s s':Shared):Prop where
 keep:∀b o,¬T b->¬own b->s.heap.get? b=some o->s'.heap.get? b=some o
 keep2:∀b o,¬own b->s.heap.get? b=some o->Zb0 o=false->s'.heap.get? b=some o
 occ:∀b,Occ s.heap b->Occ s'.heap b
 tab:∀b,T b->Zfb s.heap b->Zfb s'.heap b
 gens:∀G0,Zbd G0 s.gens->G0.size<=g->Zbd G0 s'.gens
 os:s'.os=s.os
theorem Zi8.upd{W:Addr->Prop}(y:Zi8 T own g s' s'')(x:Upd T W s s')(hf:∀a,own a->s.heap.get? a=none)(hg:s.gens.size<=g):Upd T W s s'':=by
 have ne:∀b o,s.heap.get? b=some o->¬own b:=λb o e q=>by rw[hf b q]at e;cases e
 exact⟨λb o n w e=>y.keep b o n (ne b o e) (x.keep b o n w e),λb o w e t=>y.keep2 b o (ne b o e) (x.keep2 b o w e t) t,λb h=>y.occ b (x.occ b h),λb tb h=>y.tab b tb (x.tab b tb h),λp=>(y.gens _ (Zbd.of x.gens) hg).good p,y.os.trans x.os⟩
theorem Zi8.bs(y:Zi8 T own g s s')(b:Bs T mg mb s0 s)(hf:∀a,own a->s0.heap.get? a=none)(hg:s0.gens.size<=g):Bs T mg mb s0 s':=by
 have u:=y.upd (b.ext.upd (W:=λ_=>False)) hf hg
 exact⟨u.ext λa h=>h.elim,b.tabs,b.gl⟩
theorem Zpa{its:List (Nat×List Nat)}{r:Nat}{o:Addr}{gs:GenState}{Q:Option Value->Shared->Prop}(bs:Bs T mg mb s0 s)(hf:∀a,own a->s0.heap.get? a=none)(hg0:s0.gens.size<=g)(hh:A.handled=none)(hl:s.heap.NoLimit)(hroom:A.depth<recursionLimit)(hg:s.heap.IsGen o g)(e:s.gens[g]?=some gs)
  (hgo:gs.Goes (model prog w) A.in1 (Zfw T own) (Zcc T mg mb s0 own its) r (.send .none) (s.setGen g .running))
  (hQ0:∀s',r=0->Zi8 T own g s s'->Q none s')
  (hQ1:∀s' t p c y tk tk',0<r->its[its.length-r]?=some (p,c)->s.heap.get? t=none->¬own t->s'.heap.get? t=some (Zcv #[.int (Int.ofNat p) tk,.str y tk'] 0)->y.cps.toList=c->Zi8 T own g s s'->(∀a,own a->Occ s'.heap a)->Zqn prog w A T mg mb s0 own its g (r-1) s'->Q (some (.ref t)) s'):
  wpAny (model prog w) A (pyNext (.ref o)) Q E s:=by
 have step:∀(s'1:Shared) (st:GenState) (h':Heap),Upd T own (s.setGen g .running) s'1->st.bare=true->(∀b o,s'1.heap.get? b=some o->h'.get? b=some o)->Zi8 T own g s {s'1.setGen g st with heap:=h'}:=λs'1 st h' u hb hk=>
  ⟨λb o n w e=>hk b o (u.keep b o n w e),λb o w e t=>hk b o (u.keep2 b o w e t),λb h=>let⟨o,e,t⟩:=u.occ b h;⟨o,hk b o e,t⟩,λb tb h=>(u.tab b tb h).keep (λc o _ e=>hk c o e) (λo e=>hk _ o e),
   λG0 h hg=>((h.set (st:=.running) hg rfl).trans (Zbd.of u.gens)).set hg hb,u.os⟩
 refine Zyh (P:=λn s'1 s=>n=0/\Upd T own s'1 s) (Y:=Zcc T mg mb s0 own its) hh hl hroom hg e hgo (λv s'1 gs' hb hv=>?_) (λs'1 hp h' hk=>hQ0 _ hp.1 (step s'1 .finished h' hp.2 rfl hk))
 obtain⟨⟨t,p,c,y,tk,tk',rfl,h1,h2,h2',h3,h4⟩,u,ho,hkap⟩:=hv;have hpos:0<r:=by
  cases r with
  |zero=>exact(hkap s'1 ((bs.setGen hg0 rfl).upd u hf) λ_ _ _ e=>e).elim
  |succ r=>exact Nat.succ_pos r
 have hidx:its.length-1-(r-1)=its.length-r:=by rw[Nat.sub_sub,Nat.add_comm 1,Hb3 hpos]
 rw[hidx]at h1;have S:=step s'1 gs' s'1.heap u hb λ_ _ e=>e
 refine hQ1 _ t p c y tk tk' hpos h1 h2 h2' h3 h4 S ho ⟨gs',?_,λs'' bs hk=>?_⟩
 ·have hlt:g<s.gens.size:=(Array.getElem?_eq_some_iff.mp e).1;have h1:(s.setGen g .running).gens[g]?=some .running:=by
   show(s.gens.setIfInBounds g .running)[g]?=_;rw[Array.getElem?_setIfInBounds_self_of_lt hlt]
  have h2:=u.gens (P:=λG=>G[g]?=some .running) h1
  have hlt2:g<s'1.gens.size:=(Array.getElem?_eq_some_iff.mp h2).1;show(s'1.gens.setIfInBounds g gs')[g]?=_;rw[Array.getElem?_setIfInBounds_self_of_lt hlt2]
 ·have:=hkap s'' bs hk;cases r with
  |zero=>exact(Hao _ hpos).elim
  |succ r=>exact this
end
section
variable {prog:Program} {w:World} {A:Around} {E:Value->Shared->Prop} {T:Addr->Prop} {σ:Sg} {mg mb:Str->Option Value} {s0 s s' s'' s'1 s'2 s3:Shared} {k n fo g:Nat} {nm fn:Nat->Str} {st:GenState} {env:Env} {sc:List (Str×NameKind)} {ρ ρ':List (Nat×D)} {ow ow':List (Nat×O)} {OA OA':List (List Addr)} {N2:Addr->Prop} {own:Addr->Prop} {W:Addr->Prop}
theorem Zi8.updH(y:Zi8 T own g s s'):Upd T own s {s' with gens:=s.gens}:=⟨y.keep,y.keep2,y.occ,y.tab,λp=>p,y.os⟩
theorem Zgn{o:Addr}(h:s.heap.IsGen o g)(hk:∀b x,¬own b->s.heap.get? b=some x->Zb0 x=false->s'.heap.get? b=some x)(ho:¬own o):s'.heap.IsGen o g:=by
 obtain⟨x,a,b,e,c,r⟩:=h;exact⟨x,a,b,hk _ _ ho e (Zag ⟨_,c⟩),c,r⟩
structure Zwl(prog:Program)(w:World)(A:Around)(T:Addr->Prop)(mg mb:Str->Option Value)(s0:Shared)(its:List (Nat×List Nat))(s s'1:Shared)(o g:Nat)(own:Addr->Prop)(gs:GenState):Prop where
 isg:s'1.heap.IsGen o g
 new:s.gens.size<=g
 at':s'1.gens[g]?=some gs
 free:∀a,own a->s.heap.get? a=none
 apart:¬own o
 ofree:s.heap.get? o=none
 ext:Ext T s s'1
 goes:gs.Goes (model prog w) A.in1 (Zfw T own) (Zcc T mg mb s0 own its) its.length (.send .none) (s'1.setGen g .running)
structure Yed(prog:Program)(w:World)(T:Addr->Prop)(σ:Sg)(mg mb:Str->Option Value)(s0:Shared)(nm:Nat->Str)(sc:List (Str×NameKind))(k:Nat)(A:Around)(N2 own:Addr->Prop)(env:Env)(OA:List (List Addr))(its:List (Nat×List Nat))
  (f:D->List (Nat×D)->List (Nat×O)->Option Out)(out:Out)(s:Shared)(o g:Nat)(m:Nat)(s':Shared)(ρ':List (Nat×D))(ow':List (Nat×O))(OA':List (List Addr)):Prop where
 le:m<=its.length
 rest:Zc5 f ((Znk its).drop (its.length-m)) ρ' ow'=some out
 isg:s'.heap.IsGen o g
 gen:Zqn prog w A T mg mb s0 own its g m s'
 at':At T σ mg mb s0 nm sc k A (λa=>N2 a\/own a\/a=o) env s' ρ' ow' OA'
 new:∀a∈OA'.flatten,a∈OA.flatten\/s.heap.get? a=none
 upd:Upd T (λa=>Frm env a\/a∈OA.flatten) s s'
theorem Zxk{its:List (Nat×List Nat)}{i p:Nat}{c:List Nat}(h:its[i]?=some (p,c)):(Znk its)[i]?=some (.tup [.int (.k (.ofNat p)),.str c]):=by
 unfold Znk;rw[List.getElem?_map,h];rfl
theorem Yi3{m l:Nat}(h:0<m)(h2:m<=l):m-1<m/\m-1<=l/\l-(m-1)=l-m+1:=match m,h with
 |m+1,_=>⟨Hbj m,Hba h2,(Nat.succ_pred_eq_of_pos (Nat.sub_pos_of_lt h2)).symm⟩
theorem At.loopG(x:At T σ mg mb s0 nm sc k A N2 env s ρ ow OA)(hk:k<=100)(hlim:s0.heap.NoLimit)(hnm:Zb6 nm){tgt iterE:Expr}{pos:Pos}{stmts:List Stmt}{t:List Nat}{uni:Bool}{its:List (Nat×List Nat)}{out:Out}
  {gg:List (Nat×D)->List (Nat×O)->Option Out}(htg:Zbc nm sc tgt t uni=true)(hst:∀y∈t,Zai sc (nm y)=true)(hset:∀v,foldedSetIterable iterE env v=pure v)
  (hiter:∀(E':Value->Shared->Prop) (Q':Value->Shared->Prop),(∀o g own gs s'1,Zwl prog w A T mg mb s0 its s s'1 o g own gs->Q' (.ref o) s'1)->wpAny (model prog w) A (PySem.eval iterE env) Q' E' s)
  (hbody:∀(N2':Addr->Prop) (s':Shared) (ρ':List (Nat×D)) (ow':List (Nat×O)) (OA':List (List Addr)) (out':Out) (E':Value->Shared->Prop),At T σ mg mb s0 nm sc k A N2' env s' ρ' ow' OA'->gg ρ' ow'=some out'->
   wpAny (model prog w) A (execs stmts env) (Zbv T σ nm N2' env OA' s' out') E' s')
  (hrun:Zc5 (Zd5 gg t uni) (Znk its) ρ ow=some out):wpAny (model prog w) A (exec (.For tgt iterE stmts [] pos) env) (Zbv T σ nm N2 env OA s out) E s:=by
 have hlen:(Znk its).length=its.length:=by unfold Znk;rw[Hcp]
 have hroom:A.depth<recursionLimit:=x.ha.room hk;refine wpAny_For (hiter _ _ λo g own gs s'1 G=>?_) hset
 refine wpAny_pyIter_gen G.isg ?_
 have hg0:s0.gens.size<=g:=Hag (Zbd.of x.bs.ext.gens).size G.new;have own0:∀a,own a->s0.heap.get? a=none:=λa h=>x.bs.free (G.free a h)
 have free':∀a,(own a\/a=o)->s.heap.get? a=none:=λa h=>h.elim (G.free a) λh=>h▸G.ofree
 have frmNo:∀a,Frm env a->¬(own a\/a=o):=λa f q=>by
  obtain⟨o,e,_⟩:=x.rel.sl.frm_occ f;exact nS ((free' a q).symm.trans e)
 have fin:∀(s' s3:Shared) (ρ':List (Nat×D)) (ow':List (Nat×O)) (OA':List (List Addr)),Zb3 T σ nm (λa=>N2 a\/own a\/a=o) env s'.heap ρ' ow' OA'->(∀a∈OA'.flatten,a∈OA.flatten\/s.heap.get? a=none)->
   Upd T (λa=>Frm env a\/a∈OA.flatten) s s'->Zi8 T own g s' s3->Zbw T σ nm N2 env OA s s3 ρ' ow' OA':=λs' s3 ρ' ow' OA' hr hn hu hg=>by
  have r:=hr.narrow (hg.updH.gone.mono λ_ h=>.inl h) frmNo
  exact⟨r,hn,hg.upd hu G.free G.new⟩
 have turn:∀(s3:Shared) (m:Nat) (ρ':List (Nat×D)) (ow':List (Nat×O)) (OA':List (List Addr)) (tt p:Nat) (c:List Nat) (y:Str) (tk tk':Tok) (E':Value->Shared->Prop),0<m->m<=its.length->Zc5 (Zd5 gg t uni) ((Znk its).drop (its.length-m)) ρ' ow'=some out->its[its.length-m]?=some (p,c)->
   ¬Nof (λa=>N2 a\/own a\/a=o) OA' tt->s3.heap.get? tt=some (Zcv #[.int (Int.ofNat p) tk,.str y tk'] 0)->y.cps.toList=c->s3.heap.IsGen o g->Zqn prog w A T mg mb s0 own its g (m-1) s3->
   At T σ mg mb s0 nm sc k A (λa=>N2 a\/own a\/a=o) env s3 ρ' ow' OA'->(∀a∈OA'.flatten,a∈OA.flatten\/s.heap.get? a=none)->Upd T (λa=>Frm env a\/a∈OA.flatten) s s3->
   wpAny (model prog w) A (letOwnedTupleGo tgt (.ref o) (.ref tt)) (λ_ s4=>wpAny (model prog w) A (PySem.assign tgt env (.ref tt)) (λ_ s'5=>wpAny (model prog w) A (execs stmts env) (λfl s6=>match fl with
      | .next| .cont=>∃m',m'<m/\((m'=its.length/\s6=s'1)\/∃ρ' ow' OA',Yed prog w T σ mg mb s0 nm sc k A N2 own env OA its (Zd5 gg t uni) out s o g m' s6 ρ' ow' OA')
      | .brk=>Zbv T σ nm N2 env OA s out .next s6
      | .ret v=>Zbv T σ nm N2 env OA s out (.ret v) s6) E' s'5) E' s4) E' s3:=by
  intro s3 m ρ' ow' OA' tt p c y tk tk' E' hm hle hrest hit hN hT hy isg gen at3 hnew hupd;obtain⟨og,_,_,e1,e2,_⟩:=id isg;refine Zez e1 e2 rfl ?_
  have rv:Rd σ (Nof (λa=>N2 a\/own a\/a=o) OA') s3.heap (.ref tt) (.tup [.int (.k (.ofNat p)),.str c]):=.tup (vs:=[.int (Int.ofNat p) tk,.str y tk']) (n:=0) hN hT (.cons (.int rfl) (.cons (.str hy) .nil))
  have hd:=Zxk hit;rw[Zfd hd]at hrest;obtain⟨out',hturn,hrest⟩:=Zjs hrest;obtain⟨hno,ρ1,hb,hg⟩:=Yab hturn;have at3':=at3.less (ρ':=Zak t ρ') λ_ _ h=>Zdo h
  refine at3'.assign hnm (λy hy=>⟨hst y hy,Zbe hno y hy⟩) rv htg hb λs'5 p'5=>?_
  refine Ha4 (hbody _ s'5 ρ1 ow' OA' out' _ (at3'.post p'5) hg) (λfl s6 hfl=>?_) λ_ _ e=>e
  have wide:∀a,(Frm env a\/a∈OA'.flatten)->(Frm env a\/a∈OA.flatten)\/s.heap.get? a=none:=λa h=>by
   rcases h with h|h
   ·exact .inl (.inl h)
   ·exact(hnew a h).elim (λh=>.inl (.inr h)) .inr
  cases out' with
  |next ρ2 ow2=>
   obtain⟨rfl,OA2,p6⟩:=hfl;have P:=p'5.trans at3'.bs at3'.rel p6;have noOwn:∀a,own a->¬(Frm env a\/a∈OA'.flatten):=λa ho h=>by
    rcases h with h|h
    ·exact frmNo a h (.inl ho)
    ·exact(at3.rel.apart a h).1 (.inr (.inl ho))
   refine⟨m-1,(Yi3 hm hle).1,.inr ⟨ρ2,ow2,OA2,(Yi3 hm hle).2.1,?_,?_,gen.keep P.upd noOwn λa h=>at3.occ a (.inr (.inl h)),at3'.post P,λa h=>?_,hupd.seq P.upd wide⟩⟩
   ·rw[(Yi3 hm hle).2.2];exact hrest
   ·refine Zgn isg (λb x hb e tb=>P.upd.keep2 b x hb e tb) λq=>?_
    rcases q with q|q
    ·exact frmNo o q (.inr rfl)
    ·exact(at3.rel.apart o q).1 (.inr (.inr rfl))
   ·rcases P.new a h with h|h
    ·exact hnew a h
    ·exact .inr (hupd.free_back x.bs.tabs_ok x.rel.w_occ h)
  |ret dr=>
   rw[←show Out.ret dr=out from hrest];obtain⟨vr,hv,hr,ur⟩:=hfl;subst hv;exact⟨vr,rfl,hr.mono λa o hn e _=>⟨λh=>hn (.inl h),e⟩,(hupd.seq p'5.upd wide).seq ur wide⟩
 refine codeAny_forLoop_any (λm s'=>(m=its.length/\s'=s'1)\/∃ρ' ow' OA',Yed prog w T σ mg mb s0 nm sc k A N2 own env OA its (Zd5 gg t uni) out s o g m s' ρ' ow' OA') (λm s'=>?_) its.length (.inl ⟨rfl,rfl⟩)
 rintro(⟨rfl,rfl⟩|⟨ρ',ow',OA',L⟩)
 ·
  have bs1:=x.bs.step G.ext;refine Zpa bs1 own0 hg0 x.ha.handled (bs1.ext.nolimit hlim) hroom G.isg G.at' G.goes (λs3 h0 S=>?_) λs3 tt p c y tk tk' hpos hit hfr hno hT hy S hocc gen=>?_
  ·have u:Upd T (λ_=>False) s s3:=S.upd (G.ext.upd (W:=λ_=>False)) G.free G.new
   have e:Ext T s s3:=u.ext λa h=>h.elim
   have:Znk its=[]:=by
    have:its=[]:=List.eq_nil_of_length_eq_zero h0;rw[this];rfl
   rw[this]at hrun;rw[←sI hrun];exact Hbv ⟨rfl,OA,⟨x.rel.ext e,λa h=>.inl h,e.upd⟩⟩
  ·have u:Upd T (λ_=>False) s s3:=S.upd (G.ext.upd (W:=λ_=>False)) G.free G.new
   have e:Ext T s s3:=u.ext λa h=>h.elim
   have isg3:=Zgn G.isg S.keep2 G.apart;have occ3:∀a,(N2 a\/own a\/a=o)->Occ s3.heap a:=λa h=>by
    rcases h with h|h|h
    ·exact(x.occ a h).ext e
    ·exact hocc a h
    ·obtain⟨b,_,_,e1,e2,_⟩:=isg3;rw[h];exact⟨b,e1,Zag ⟨_,e2⟩⟩
   have at3:At T σ mg mb s0 nm sc k A (λa=>N2 a\/own a\/a=o) env s3 ρ ow OA:=
    ⟨x.ha,x.ok,⟨.inl x.hm.loc,λn c h=>.inl (x.hm.cel n c h)⟩,x.bs.step e,x.rel.widen free' e,occ3,x.young⟩
   refine turn s3 its.length ρ ow OA tt p c y tk tk' _ hpos (Hac _) (by rw[Nat.sub_self,List.drop_zero];exact hrun) hit ?_ hT hy isg3 gen at3 (λa h=>.inl h) e.upd
   intro h;have old:∀a,Occ s.heap a->a≠tt:=λa h q=>by
    obtain⟨o',e1,t1⟩:=h;have:=G.ext.keep2 a o' e1 t1;rw[q,hfr]at this;cases this
   rcases h with(h|h|h)|h
   ·exact old _ (x.occ _ h) rfl
   ·exact hno h
   ·obtain⟨b,_,_,e1,_⟩:=G.isg;rw[h,e1]at hfr;cases hfr
   ·exact old _ (x.rel.own.occ _ h) rfl
 ·obtain⟨gs',e',hgo'⟩:=L.gen;refine Zpa L.at'.bs own0 hg0 x.ha.handled (L.at'.bs.ext.nolimit hlim) hroom L.isg e' (hgo' _ (L.at'.bs.setGen hg0 rfl) λ_ _ _ e=>e) (λs3 h0 S=>?_) λs3 tt p c y tk tk' hpos hit hfr hno hT hy S hocc gen=>?_
  ·have hrest:=L.rest;rw[h0,Nat.sub_zero,←hlen,List.drop_length]at hrest;rw[←sI hrest];exact Hbv ⟨rfl,OA',fin s' s3 ρ' ow' OA' L.at'.rel L.new L.upd S⟩
  ·have hocc':∀a,(N2 a\/own a\/a=o)->Occ s3.heap a:=λa h=>S.occ a (L.at'.occ a h)
   have isg3:=Zgn L.isg S.keep2 G.apart;have rel3:Zb3 T σ nm (λa=>N2 a\/own a\/a=o) env s3.heap ρ' ow' OA':=by
    have u:=S.updH;have f:Zdk (Nof (λa=>N2 a\/own a\/a=o) OA') (Nof (λa=>N2 a\/own a\/a=o) OA') s'.heap s3.heap:=u.fits (N:=Nof (λa=>N2 a\/own a\/a=o) OA') λa h=>.inl (.inr (.inl h))
    have h1:¬own env.locals:=λq=>frmNo _ (.inl rfl) (.inl q)
    have h2:∀n c,(n,c)∈env.cells->¬own c:=λn c hm q=>frmNo _ (.inr ⟨n,hm⟩) (.inl q)
    have r:=L.at'.rel;show Zb3 T σ nm (λa=>N2 a\/own a\/a=o) env ({s3 with gens:=s'.gens}:Shared).heap ρ' ow' OA'
    exact⟨r.one.upd u (λa h=>.inl (.inr (.inl h))) h1 h2,r.own.mono f (λ_ _ h=>Zam.upd (s':={s3 with gens:=s'.gens}) u h h1 h2) (λb ⟨o,e,t⟩ hb=>(u.keep2 b o (λq=>(r.apart b hb).1 (.inr (.inl q))) e t).trans e.symm),r.nodup,r.apart,Zbj.upd (s':={s3 with gens:=s'.gens}) r.sl u h1 h2⟩
   have at3:At T σ mg mb s0 nm sc k A (λa=>N2 a\/own a\/a=o) env s3 ρ' ow' OA':=
    ⟨x.ha,x.ok,L.at'.hm,S.bs L.at'.bs own0 hg0,rel3,hocc',L.at'.young⟩
   refine turn s3 m ρ' ow' OA' tt p c y tk tk' _ hpos L.le L.rest hit ?_ hT hy isg3 gen at3 L.new (S.upd L.upd G.free G.new)
   intro h;obtain⟨o',e1,_⟩:=L.at'.occN _ h;exact nS (hfr.symm.trans e1)
end
variable {s'2 s3:Shared} {g:Nat}
theorem Zjl:Za1 prog w T σ mg mb s0 fn (λ_ _=>none) k:=⟨λ_ _ _ _ h=>(by cases h),λ_ _ _ h=>(by intro q;cases q),λ_ _ _ _ h=>(by cases h)⟩
theorem Zr5{x:Str}{str:List Nat}(e:x.cps.toList=str)(h:Zc4 str=true):x.cps.all (· <128)=true:=by
 rw[Array.all_eq_true_iff_forall_mem];intro c hc;have:=Zkd h c (by rw[←e];exact Array.mem_toList_iff.mpr hc)
 simpa using this
theorem Zxw(hk:k+3<=100)(hσ:∀n,(σ.v n).natAbs<=2^1000){a:Addr}{fd:FuncData}(hmg:mg "_iter_escaped_chars"=some (.ref a))
  (F:Yea s0 a fd Zgk)
  (hcell:∀x∈fd.scope.names,x.2≠.cell)(hbind:∀v,bindArgs fd ⟨[v],[]⟩=pure [(("addr":Str),v)])(hn:∀y∈Zah,fd.scope.names.lookup y=some .local)
  (hen:fd.scope.names.lookup ("enumerate":Str)=some .globalImplicit)(g1:mg "enumerate"=none)(g2:mb "enumerate"=some (.type "enumerate")):Zr1 prog w T σ mg mb s0 k:=by
 intro A E nm env sc N2 s ρ ow OA tgt np cp pos e stmts t uni str out gg x hnm hsc hstar hev hasc htg hst hbody hrun;refine x.loopG (ln1 (.v 0) (.k 100) [(1,.a (.v 0) (.k 3),.k 100)] rfl hk) F.lim hnm htg hst (λv=>rfl) (λE' Q' q=>?_) hbody hrun
 obtain⟨of,hof,hofd⟩:=F.at';have tof:Zb0 of=false:=Za0 (by rw[hofd];rfl)
 have hkind:env.kindOf ("_iter_escaped_chars":Str)=some .globalImplicit:=by rw[x.ok.kindOf];exact hsc
 refine Hbi (Hbg x.ok.kind hkind (Hbm (x.ok.glob▸x.bs.ng) hmg ?_) (by decide))
 refine Hbn (o:=of) (fd:=fd) (Zch hstar ?_)
 rw[Zad hstar];refine Hbf (hev _ _ λxs tk s'1 x'1 hxs=>Hbe ?_)
 have bs1:=x.bs.step x'1;refine⟨⟨x'1.keep2 a of (x.bs.ext.keep2 a of hof tof) tof,hofd⟩,?_⟩
 refine Zxv (σ:=σ) (nm:=Za4 Zah) (ln1 (.a (.v 0) (.k 1)) (.k 100) [(1,.a (.v 0) (.k 3),.k 100)] rfl hk) F hcell x.ha bs1 (hbind _) (hn _ (iL rfl)) λs' env' o m hisg hgens hat hns hm henv hcl hloc hoz x'=>?_
 have xx:Ext T s s':=x'1.trans x';have hz:∀b,Occ s'.heap b->b<s'.heap.objs.size:=λb h=>h.lt
 have free1:∀b,s'.heap.get? b=none->s.heap.get? b=none:=x.bs.free_at xx;have hS:∀n,Zaq prog w T σ mg mb s0 (Za4 Zah) (λ_=>"?") (λ_ _=>none) (k+2) n:=λn=>(Zvn (fn:=λ_=>"?") (k:=k+2) (ln1 (.a (.v 0) (.k 2)) (.k 100) [(1,.a (.v 0) (.k 3),.k 100)] rfl hk) Zgl hσ (Zjl (prog:=prog) (w:=w) (T:=T) (mg:=mg) (mb:=mb) (s0:=s0)) n).1
 have hT:∀n,Zbg prog w T σ mg mb s0 (Za4 Zah) (λ_=>"?") (λ_ _=>none) (k+2) n:=λn=>(Zvn (fn:=λ_=>"?") (k:=k+2) (ln1 (.a (.v 0) (.k 2)) (.k 100) [(1,.a (.v 0) (.k 3),.k 100)] rfl hk) Zgl hσ (Zjl (prog:=prog) (w:=w) (T:=T) (mg:=mg) (mb:=mb) (s0:=s0)) n).2
 have hA1:AOk (k+1) A.in1:=Yan x.ha;have hsz:s'1.gens.size<s'.gens.size:=by rw[hgens];simp
 have seg:=Ydd (fn:=λ_=>"?") (s:=s'.setGen s'1.gens.size .running) hA1 hS hT ((hat (k+2) A.in1 (hA1.mono (ln1 (.a (.v 0) (.k 1)) (.a (.v 0) (.k 2)) [] rfl))).setGen (Zbd.of bs1.ext.gens).size rfl) hns hm (by rw[henv];exact F.co) (by unfold interactive;rw[henv,F.kind];rfl) (Zr5 hxs hasc) hcl hn hen g1 g2
 have e1:(s'.setGen s'1.gens.size .running).heap=s'.heap:=rfl;rw[hxs,e1]at seg;obtain⟨og,_,_,i1,i2,i3,_⟩:=id hisg;refine q o s'1.gens.size (λa=>a=env'.locals\/a=s'.heap.objs.size+1\/a=s'.heap.objs.size) (.fresh (.func Zgk env')) s' ⟨hisg,(Zbd.of x'1.gens).size,?_,λb hb=>?_,λhb=>?_,?_,xx,⟨rfl,seg⟩⟩
 ·rw[hgens];simp
 ·rcases hb with hb|hb|hb
  ·rw[hb,hloc];exact x.bs.free_at x'1 _ (Zae (Hac _))
  ·exact free1 _ (Zae (by rw[hb];exact Haw _))
  ·exact free1 _ (Zae (Han hb.symm))
 ·rcases hb with hb|hb|hb
  ·obtain⟨ob,es,ep,eb,d,_⟩:=hns;rw[←hb,i1]at eb;cases eb;rw[i3]at d;cases d
  ·exact absurd (Haj i1) (by rw[hb];exact Nat.not_lt.mpr (Haw _))
  ·exact absurd (Haj i1) (by rw[hb];exact Hao _)
 ·exact x.bs.free_at x'1 _ (Zae hoz)
section
variable {C:Nat->List D->Option D} {n:Nat} {ρ:List (Nat×D)} {ow:List (Nat×O)} {r:List S}
theorem Zgx{x:Nat}{e:M}{d:D}(h:ev C n ρ (owD ow) e=some d)(hno:Zar [x] ow=true):run C (n+1) (.asg [x] true e::r) ρ ow=run C n r ((x,d)::Zak [x] ρ) ow:=by
 show Zac (ev C n ρ (owD ow) e) _=_;rw[h];show Zas (Zar [x] ow) _=_;rw[hno];rfl
noncomputable def pick(t:Bool)(a b:List S):List S:=match t with
 |true=>a
 |false=>b
theorem Zc0{c:M}{a b:List S}{t:Bool}(h:ev C n ρ (owD ow) c=some (.bool t)):run C (n+1) (.ite c a b::r) ρ ow=Zbu (run C n (pick t a b) ρ ow) (run C n r):=by
 show Zac (ev C n ρ (owD ow) c) _=_;rw[h];cases t<;>rfl
theorem Zom{x:Nat}{e:M}{d:D}{ds:List D}(h:ev C n ρ (owD ow) e=some d)(hl:lk x ow=some (.lst ds))(hs:small ds=true):run C (n+1) (.app x e::r) ρ ow=run C n r ρ (Zhu x (.lst (ds++[d])) ow):=by
 show Zac (ev C n ρ (owD ow) e) _=_;rw[h];show Zac (lk x ow) _=_;rw[hl];show Zas (small ds) _=_;rw[hs];rfl
theorem Zht{t:List Nat}{uni:Bool}{k:Nat}{it:List M}{body:List S}{ds items:List D}{o:Option Out}(h:Zd8 (ev C n ρ (owD ow)) it=some ds)(hi:Zjd k ds=some items)(ho:Zc5 (Zd5 (run C n body) t uni) items ρ ow=o):
  run C (n+1) (.loop t uni k it body::r) ρ ow=Zbu o (run C n r):=by
 show Zac (Zd8 (ev C n ρ (owD ow)) it) _=_;rw[h];show Zac (Zjd k ds) _=_;rw[hi,←ho];rfl
theorem Zfi{e:M}{d:D}(h:ev C n ρ (owD ow) e=some d):run C (n+1) (.ret e::r) ρ ow=some (.ret d):=by
 show Zac (ev C n ρ (owD ow) e) _=_;rw[h];rfl
theorem Ze0{f:D->List (Nat×D)->List (Nat×O)->Option Out}{d:D}{l:List D}{ρ':List (Nat×D)}{ow':List (Nat×O)}(h:f d ρ ow=some (.next ρ' ow')):Zc5 f (d::l) ρ ow=Zc5 f l ρ' ow':=by
 show Zac (f d ρ ow) _=_;rw[h];rfl
theorem Zt9{f:D->List (Nat×D)->List (Nat×O)->Option Out}{d e:D}{l:List D}(h:f d ρ ow=some (.ret e)):Zc5 f (d::l) ρ ow=some (.ret e):=by
 show Zac (f d ρ ow) _=_;rw[h];rfl
theorem Yf8{t:List Nat}(h:Zc4 t=true):Zjd 3 [.str t]=some (Znk (Zhf false 0 t)):=by
 show Zas (Zc4 t) _=_;rw[h];rfl
end
theorem Ygz(a b:Nat):peq (.k (.ofNat a)) (.k (.ofNat b))=some (Nat.beq a b):=by
 show(match Nat.beq a b with|true=>some true|false=>some (Nat.beq a b))=_
 cases Nat.beq a b<;>rfl
theorem Yfm(a b:Nat):Yhs .Eq (.int (.k (.ofNat a))) (.int (.k (.ofNat b)))=some (Nat.beq a b):=Ygz a b
theorem Ygp(a b:Nat):Yhs .NotEq (.int (.k (.ofNat a))) (.int (.k (.ofNat b)))=some (!Nat.beq a b):=Hb6 (Option.map (!·)) (Ygz a b)
theorem Zao{x:Nat}{ts:List Nat}(h:Zri x ts=false){ρ:List (Nat×D)}:lk x (Zak ts ρ)=lk x ρ:=by
 induction ρ with
 |nil=>rfl
 |cons p r ih=>
  show lk x (match Zri p.1 ts with|true=>Zak ts r|false=>(p.1,p.2)::Zak ts r)=_
  cases hm:Zri p.1 ts with
  |true=>
   rw[show lk x (p::r)=lk x ((p.1,p.2)::r)from rfl,Zav,if_neg λe=>(by rw[←e,h]at hm;exact bT hm.symm)]
   exact ih
  |false=>
   show lk x ((p.1,p.2)::Zak ts r)=lk x ((p.1,p.2)::r);rw[Zav,Zav,ih]
noncomputable def Zyw:List S:=[.ite (.cmp (.n 5) [(.Eq,.c (.str [34]))]) [.ite (.cmp (.n 2) [(.Is,.c .none)]) [.asg [2] true (.n 4)]
 [.ite (.cmp (.n 1) [(.NotEq,.n 2)]) [.app 3 (.sl (.n 0) (some (.n 1)) (some (.n 2)))] [],.asg [1] true (.bin .Add (.n 4) (.c (.int (.k 1)))),.asg [2] true (.c .none)]] []]
noncomputable def Zly:List S:=[.ite (.cmp (.c (.str [34])) [(.NotIn,.n 0)]) [.ret (.n 0)] [],.asg [1] true (.c (.int (.k 0))),.asg [2] true (.c .none),.anew 3 (.lst []),
 .loop [4,5] false 3 [.n 0] Zyw,.ite (.cmp (.n 1) [(.Lt,.bi 0 [.n 0])]) [.app 3 (.sl (.n 0) (some (.n 1)) none)] [],.frz 3,.ret (.me 0 (.c (.str [])) [.n 3])]
structure SI where
 s:Nat
 o:Option Nat
 a:List (List Nat)
noncomputable def Zvw(t:List Nat)(p:Nat)(x:SI)(q:Nat):Option SI:=match Nat.beq x.s q with
 |true=>some ⟨p+1,none,x.a⟩
 |false=>Zas (small x.a&&(small t&&(Nat.ble x.s q&&Nat.ble q t.length))) (some ⟨p+1,none,x.a++[slN t x.s q]⟩)
noncomputable def Yhh(t:List Nat)(p:Nat)(x:SI)(o:Option Nat):Option SI:=match o with
 |none=>some ⟨x.s,some p,x.a⟩
 |some q=>Zvw t p x q
noncomputable def Zvx(t:List Nat)(p:Nat)(c:List Nat)(x:SI):Option SI:=match eqN c [34]with
 |false=>some x
 |true=>Yhh t p x x.o
noncomputable def Zvv(t:List Nat):List (Nat×List Nat)->SI->Option SI
 |[],x=>some x
 |pc::r,x=>Zac (Zvx t pc.1 pc.2 x) (Zvv t r)
noncomputable def Zz9(t:List Nat)(x:SI):Option (List (List Nat)):=match Nat.blt x.s t.length with
 |true=>Zas (small x.a&&(small t&&Nat.ble x.s t.length)) (some (x.a++[t.drop x.s]))
 |false=>some x.a
noncomputable def Zm2(t:List Nat):Option (List Nat):=Zas (small t&&Zc4 t) (match Zwi 34 t with
  |false=>some t
  |true=>Zac (Zvv t (Zhf false 0 t) ⟨0,none,[]⟩) λx=>Zac (Zz9 t x) λacc=>Zas (small acc&&Nat.ble (Zem [] acc).length lim) (some (Zem [] acc)))
noncomputable def oD(o:Option Nat):D:=match o with
 |none=>.none
 |some q=>.int (.k (.ofNat q))
structure Zka(t:List Nat)(x:SI)(ρ:List (Nat×D)):Prop where
 a:lk 0 ρ=some (.str t)
 b:lk 1 ρ=some (.int (.k (.ofNat x.s)))
 c:lk 2 ρ=some (oD x.o)
theorem Zi0{α β:Type}{f:α->β}{l:List α}(h:small l=true):small (l.map f)=true:=by
 show Nat.ble (l.map f).length lim=true;rw[Hcp];exact h
theorem Zqq(l:List (List Nat)):Zg3 (l.map .str)=some l:=by
 induction l with
 |nil=>rfl
 |cons a r ih=>
  show Zac (Zg3 (r.map .str)) _=_;rw[ih];rfl
noncomputable abbrev acO(x:SI):List (Nat×O):=[(3,.lst (x.a.map .str))]
section
variable {C:Nat->List D->Option D} {t:List Nat} {p:Nat} {c:List Nat} {ρ:List (Nat×D)}
theorem Zj6{a:List D}(l0:lk 0 ρ=some (.str t)):E12 (λρ'=>run C 17 [.asg [1] true (.bin .Add (.n 4) (.c (.int (.k 1)))),.asg [2] true (.c .none)] ((5,.str c)::(4,.int (.k (.ofNat p)))::ρ) [(3,.lst a)]=some (.next ρ' [(3,.lst a)])) λρ'=>∀b,Zka t ⟨p+1,none,b⟩ ρ':=by
 refine⟨_,rfl,λ_=>⟨?_,?_,rfl⟩⟩
 ·show lk 0 (Zak [2] ((1,D.int (.k (.ofNat (p+1))))::Zak [1] ((5,.str c)::(4,.int (.k (.ofNat p)))::ρ)))=_;rw[Zao rfl];show lk 0 (Zak [1] ((5,.str c)::(4,.int (.k (.ofNat p)))::ρ))=_;rw[Zao rfl];exact l0
 ·show lk 1 (Zak [2] ((1,D.int (.k (.ofNat (p+1))))::Zak [1] ((5,.str c)::(4,.int (.k (.ofNat p)))::ρ)))=_;rw[Zao rfl];rfl
theorem Zv7{o:Option Out}{ρ':List (Nat×D)}{ow':List (Nat×O)}{f g:List (Nat×D)->List (Nat×O)->Option Out}(ho:o=some (.next ρ' ow'))(hf:∀ρ ow,f ρ ow=some (.next ρ ow))(hg:∀ρ ow,g ρ ow=some (.next ρ ow)):Zbu (Zbu o f) g=some (.next ρ' ow'):=by
 rw[ho];show Zbu (f ρ' ow') g=_;rw[hf];exact hg _ _
theorem Ykc{a b:Nat}(h:(small t&&(Nat.ble a b&&Nat.ble b t.length))=true):slD (.str t) (some (.int (.k (.ofNat a)))) (some (.int (.k (.ofNat b))))=some (.str (slN t a b)):=by
 show Zas (small t&&(Nat.ble a b&&Nat.ble b t.length)) _=_;rw[h];rfl
theorem Ykb{a:Nat}(h:(small t&&Nat.ble a t.length)=true):slD (.str t) (some (.int (.k (.ofNat a)))) none=some (.str (t.drop a)):=by
 show Zas (small t&&Nat.ble a t.length) _=_;rw[h];rfl
theorem Zru{x y:SI}(l0:lk 0 ρ=some (.str t))(l1:lk 1 ρ=some (.int (.k (.ofNat x.s))))(l2:lk 2 ρ=some (oD x.o))(hs:Zvx t p c x=some y):
  E12 (λρ'=>run C 20 Zyw ((5,.str c)::(4,.int (.k (.ofNat p)))::ρ) (acO x)=some (.next ρ' (acO y))) λρ'=>Zka t y ρ':=by
 obtain⟨xs,xo,xa⟩:=x;have h1:ev C 19 ((5,.str c)::(4,.int (.k (.ofNat p)))::ρ) (owD (acO ⟨xs,xo,xa⟩)) (.cmp (.n 5) [(.Eq,.c (.str [34]))])=some (.bool (eqN c [34])):=rfl;show E12 (λρ'=>run C (19+1) (.ite _ _ _::_) _ _=_) _
 rw[Zc0 h1];unfold Zvx at hs;cases he:eqN c [34]with
 |false=>
  rw[he]at hs;rw[←sI hs];exact⟨_,rfl,l0,l1,l2⟩
 |true=>
  rw[he]at hs;cases xo with
  |none=>
   have h2:ev C 18 ((5,.str c)::(4,.int (.k (.ofNat p)))::ρ) (owD (acO ⟨xs,none,xa⟩)) (.cmp (.n 2) [(.Is,.c .none)])=some (.bool true):=(Zd1 l2).trans rfl;rw[←sI hs];show E12 (λρ'=>Zbu (run C (18+1) (.ite _ _ _::_) _ _) _=_) _
   rw[Zc0 h2];refine⟨_,rfl,?_,?_,rfl⟩
   ·show lk 0 (Zak [2] ((5,.str c)::(4,.int (.k (.ofNat p)))::ρ))=_;rw[Zao rfl];exact l0
   ·show lk 1 (Zak [2] ((5,.str c)::(4,.int (.k (.ofNat p)))::ρ))=_;rw[Zao rfl];exact l1
  |some q=>
   have h2:ev C 18 ((5,.str c)::(4,.int (.k (.ofNat p)))::ρ) (owD (acO ⟨xs,some q,xa⟩)) (.cmp (.n 2) [(.Is,.c .none)])=some (.bool false):=(Zd1 l2).trans rfl;have h3:ev C 17 ((5,.str c)::(4,.int (.k (.ofNat p)))::ρ) (owD (acO ⟨xs,some q,xa⟩)) (.cmp (.n 1) [(.NotEq,.n 2)])=some (.bool (!Nat.beq xs q)):=by
    show Zac (lk 1 ρ) _=_;rw[l1];show Zac (lk 2 ρ) _=_;rw[l2];exact Zd1 (Ygp xs q)
   have hs:Zvw t p ⟨xs,some q,xa⟩ q=some y:=hs;unfold Zvw at hs;show E12 (λρ'=>Zbu (run C (18+1) (.ite _ _ _::_) _ _) _=_) _
   rw[Zc0 h2];show E12 (λρ'=>Zbu (Zbu (run C (17+1) (.ite _ _ _::_) _ _) _) _=_) _
   rw[Zc0 h3];cases hq:Nat.beq xs q with
   |true=>
    rw[hq]at hs;rw[←sI hs];obtain⟨ρ',hr,st⟩:=Zj6 (C:=C) (t:=t) (p:=p) (c:=c) (a:=xa.map .str) l0;exact⟨ρ',Zv7 hr (λ_ _=>rfl) λ_ _=>rfl,st _⟩
   |false=>
    rw[hq]at hs;obtain⟨hsm,hs⟩:=Zaj hs;rw[←sI hs];have hsl:ev C 16 ((5,.str c)::(4,.int (.k (.ofNat p)))::ρ) (owD (acO ⟨xs,some q,xa⟩)) (.sl (.n 0) (some (.n 1)) (some (.n 2)))=some (.str (slN t xs q)):=by
     show Zac (lk 0 ρ) _=_;rw[l0];show Zac ((lk 1 ρ).map some) _=_;rw[l1];show Zac ((lk 2 ρ).map some) _=_;rw[l2];exact Ykc (Zaa hsm).2
    obtain⟨ρ',hr,st⟩:=Zj6 (C:=C) (t:=t) (p:=p) (c:=c) (a:=xa.map .str++[.str (slN t xs q)]) l0;refine⟨ρ',?_,st _⟩
    show Zbu (Zbu (Zbu (run C (16+1) [.app 3 _] _ _) _) _) _=_;rw[Zom hsl rfl (Zi0 (Zaa hsm).1)];refine(Zv7 hr (λ_ _=>rfl) λ_ _=>rfl).trans ?_
    show some (Out.next ρ' [(3,.lst (xa.map .str++[.str (slN t xs q)]))])=some (.next ρ' [(3,.lst ((xa++[slN t xs q]).map .str))]);rw[List.map_append];rfl
theorem Zrt(r:List (Nat×List Nat)):∀(x y:SI) (ρ:List (Nat×D)),Zka t x ρ->Zvv t r x=some y->
  E12 (λρ'=>Zc5 (Zd5 (run C 20 Zyw) [4,5] false) (Znk r) ρ (acO x)=some (.next ρ' (acO y))) λρ'=>Zka t y ρ':=by
 induction r with
 |nil=>exact λx y ρ st h=>sI h▸⟨ρ,rfl,st⟩
 |cons pc r ih=>
  intro x y ρ st h;obtain⟨z,h1,h2⟩:=obS h;obtain⟨ρ',hr,st'⟩:=Zru (C:=C) (ρ:=Zak [4,5] ρ) ((Zao rfl).trans st.a) ((Zao rfl).trans st.b) ((Zao rfl).trans st.c) h1;obtain⟨ρ'',hl,st''⟩:=ih z y ρ' st' h2;exact⟨ρ'',(Ze0 hr).trans hl,st''⟩
theorem Zm3{a:List (List Nat)}(h1:small a=true)(h2:Nat.ble (Zem [] a).length lim=true):run C 19 [.frz 3,.ret (.me 0 (.c (.str [])) [.n 3])] ρ [(3,.lst (a.map .str))]=some (.ret (.str (Zem [] a))):=by
 have e:ev C 17 ((3,.lst (a.map .str))::Zak [3] ρ) [] (.me 0 (.c (.str [])) [.n 3])=some (.str (Zem [] a)):=by
  show Zac (Zg3 (a.map .str)) _=_;rw[Zqq];show Zas (small (a.map D.str)&&(small ([]:List Nat)&&Nat.ble (Zem [] a).length lim)) _=_;rw[Zi0 h1,h2];rfl
 exact Zfi (n:=17) (ow:=[]) (r:=[]) e
theorem Zvy{l:List Nat}(h:Zm2 t=some l):run C 25 Zly [(0,.str t)] []=some (.ret (.str l)):=by
 obtain⟨hsm,h⟩:=Zaj h;obtain⟨hs,hasc⟩:=Zaa hsm;have hc1:ev C 24 [(0,.str t)] (owD []) (.cmp (.c (.str [34])) [(.NotIn,.n 0)])=some (.bool (!Zwi 34 t)):=rfl;refine(Zc0 hc1).trans ?_
 cases hh:Zwi 34 t with
 |false=>rw[hh]at h;rw[sI h];rfl
 |true=>
  rw[hh]at h;obtain⟨x,hp,h⟩:=obS h;obtain⟨acc,hE,h⟩:=obS h;obtain⟨hj,h⟩:=Zaj h;rw[←sI h];obtain⟨ρ',hl,sa,sb,_⟩:=Zrt (C:=C) _ ⟨0,none,[]⟩ x [(2,.none),(1,.int (.k 0)),(0,.str t)] ⟨rfl,rfl,rfl⟩ hp;have hit:Zd8 (ev C 20 [(2,.none),(1,.int (.k 0)),(0,.str t)] (owD [(3,.lst [])])) [.n 0]=some [.str t]:=rfl;show run C (20+1) [.loop [4,5] false 3 [.n 0] Zyw,.ite (.cmp (.n 1) [(.Lt,.bi 0 [.n 0])]) [.app 3 (.sl (.n 0) (some (.n 1)) none)] [],.frz 3,.ret (.me 0 (.c (.str [])) [.n 3])] [(2,.none),(1,.int (.k 0)),(0,.str t)] [(3,.lst [])]=_;refine(Zht hit (Yf8 hasc) hl).trans ?_
  show run C (19+1) [.ite (.cmp (.n 1) [(.Lt,.bi 0 [.n 0])]) [.app 3 (.sl (.n 0) (some (.n 1)) none)] [],.frz 3,.ret (.me 0 (.c (.str [])) [.n 3])] ρ' (acO x)=_;have hb:ev C 18 ρ' (owD (acO x)) (.bi 0 [.n 0])=some (.int (.k (.ofNat t.length))):=by
   show Zac (Zac (lk 0 ρ') _) _=_;rw[sa];show Zas (small t) _=_;rw[hs];rfl
  have hc2:ev C 19 ρ' (owD (acO x)) (.cmp (.n 1) [(.Lt,.bi 0 [.n 0])])=some (.bool (Nat.blt x.s t.length)):=by
   show Zac (lk 1 ρ') _=_;rw[sb];show Zac (ev C 18 ρ' (owD (acO x)) (.bi 0 [.n 0])) _=_;rw[hb];rfl
  rw[Zc0 hc2];unfold Zz9 at hE;cases hlt:Nat.blt x.s t.length with
  |true=>
   rw[hlt]at hE;obtain⟨hsm2,hE⟩:=Zaj hE;have hsl:ev C 18 ρ' (owD (acO x)) (.sl (.n 0) (some (.n 1)) none)=some (.str (t.drop x.s)):=by
    show Zac (lk 0 ρ') _=_;rw[sa];show Zac ((lk 1 ρ').map some) _=_;rw[sb];exact Ykb (Zaa hsm2).2
   show Zbu (run C (18+1) [.app 3 _] _ _) _=_;rw[Zom hsl rfl (Zi0 (Zaa hsm2).1)];show run C 19 [.frz 3,.ret (.me 0 (.c (.str [])) [.n 3])] ρ' [(3,.lst (x.a.map .str++[.str (t.drop x.s)]))]=_;rw[show x.a.map D.str++[.str (t.drop x.s)]=acc.map .str by rw[←sI hE,List.map_append];rfl]
   exact Zm3 (Zaa hj).1 (Zaa hj).2
  |false=>
   rw[hlt]at hE;show run C 19 [.frz 3,.ret (.me 0 (.c (.str [])) [.n 3])] ρ' [(3,.lst (x.a.map .str))]=_;rw[sI hE];exact Zm3 (Zaa hj).1 (Zaa hj).2
end
noncomputable def Zwx:List S:=[.ite (.cmp (.n 3) [(.Eq,.c (.str [40]))]) [.aug 1 .Add (.c (.int (.k 1)))] [.ite (.cmp (.n 3) [(.Eq,.c (.str [41]))]) [.aug 1 .Sub (.c (.int (.k 1))),.ite (.cmp (.n 1) [(.Lt,.c (.int (.k 0)))]) [.ret (.c (.bool false))] []] []]]
noncomputable def Zlw:List S:=[.asg [0] true (.call 20 [.n 0]),.asg [1] true (.c (.int (.k 0))),.loop [2,3] false 3 [.n 0] Zwx,.ret (.cmp (.n 1) [(.Eq,.c (.int (.k 0)))])]
noncomputable def Yjy(n:Nat):Option Nat:=match n with
 |0=>none
 |n+1=>some n
noncomputable def Zmq(c:List Nat)(n:Nat):Option Nat:=match eqN c [40]with
 |true=>some (n+1)
 |false=>(match eqN c [41]with
  |true=>Yjy n
  |false=>some n)
noncomputable def Zmp:List (Nat×List Nat)->Nat->Option Nat
 |[],n=>some n
 |pc::r,n=>Zac (Zmq pc.2 n) (Zmp r)
noncomputable def Ykl(o:Option Nat):Bool:=match o with
 |none=>false
 |some m=>Nat.beq m 0
noncomputable def Zsl(t:List Nat):Option Bool:=Zac (Zm2 t) λu=>Zas (Zc4 u) (some (Ykl (Zmp (Zhf false 0 u) 0)))
variable {p:Nat} {c:List Nat}
theorem Zon{o:Operator}{e:M}{x:Nat}{a b d:D}{r:List S}{ow:List (Nat×O)}(ha:lk x ρ=some a)(hb:ev C n ρ (owD ow) e=some b)(hd:Zwg o a b=some d)(hno:Zar [x] ow=true):run C (n+1) (.aug x o e::r) ρ ow=run C n r ((x,d)::Zak [x] ρ) ow:=by
 show Zac (lk x ρ) _=_;rw[ha];show Zac (ev C n ρ (owD ow) e) _=_;rw[hb];show Zac (Zwg o a b) _=_;rw[hd];show Zas (Zar [x] ow) _=_;rw[hno];rfl
theorem Ydp(n:Nat):Zwg .Sub (.int (.k (.ofNat (n+1)))) (.int (.k 1))=some (.int (.k (.ofNat n))):=by
 show some (D.int (.k (Int.ofNat (n+1)+ -1)))=_;rw[show Int.ofNat (n+1)+ -1=Int.ofNat n from Int.add_neg_cancel_right (n:Int) 1]
noncomputable def Zg1(o:Option Out)(m:Option Nat):Prop:=match m with
 |none=>o=some (.ret (.bool false))
 |some m=>E12 (λρ'=>o=some (.next ρ' [])) λρ'=>lk 1 ρ'=some (.int (.k (.ofNat m)))
theorem Zqz(l1:lk 1 ρ=some (.int (.k (.ofNat n)))):Zg1 (run C 20 Zwx ((3,.str c)::(2,.int (.k (.ofNat p)))::ρ) []) (Zmq c n):=by
 have h1:ev C 19 ((3,.str c)::(2,.int (.k (.ofNat p)))::ρ) (owD []) (.cmp (.n 3) [(.Eq,.c (.str [40]))])=some (.bool (eqN c [40])):=rfl;have h2:ev C 18 ((3,.str c)::(2,.int (.k (.ofNat p)))::ρ) (owD []) (.cmp (.n 3) [(.Eq,.c (.str [41]))])=some (.bool (eqN c [41])):=rfl;have l1':lk 1 ((3,D.str c)::(2,.int (.k (.ofNat p)))::ρ)=some (.int (.k (.ofNat n))):=l1;show Zg1 (run C (19+1) (.ite _ _ _::_) _ _) _;rw[Zc0 h1];unfold Zmq;cases eqN c [40]with
 |true=>
  show Zg1 (Zbu (run C (18+1) (.aug _ _ _::_) _ _) _) _;rw[Zon (b:=.int (.k 1)) (d:=.int (.k (.ofNat (n+1)))) l1' rfl rfl rfl];exact⟨_,rfl,rfl⟩
 |false=>
  show Zg1 (Zbu (run C (18+1) (.ite _ _ _::_) _ _) _) _;rw[Zc0 h2];cases eqN c [41]with
  |false=>exact⟨_,rfl,l1⟩
  |true=>
   cases n with
   |zero=>
    show Zg1 (Zbu (Zbu (run C (17+1) (.aug _ _ _::_) _ _) _) _) _;rw[Zon (b:=.int (.k 1)) (d:=.int (.k (-1))) l1' rfl rfl rfl];exact rfl
   |succ n=>
    show Zg1 (Zbu (Zbu (run C (17+1) (.aug _ _ _::_) _ _) _) _) _;rw[Zon (b:=.int (.k 1)) l1' rfl (Ydp n) rfl];exact⟨_,rfl,rfl⟩
theorem Zqy(r:List (Nat×List Nat)):∀(n:Nat) (ρ:List (Nat×D)),lk 1 ρ=some (.int (.k (.ofNat n)))->Zg1 (Zc5 (Zd5 (run C 20 Zwx) [2,3] false) (Znk r) ρ []) (Zmp r n):=by
 induction r with
 |nil=>exact λn ρ h=>⟨ρ,rfl,h⟩
 |cons pc r ih=>
  intro n ρ h;have turn:=Zqz (C:=C) (p:=pc.1) (c:=pc.2) (ρ:=Zak [2,3] ρ) ((Zao rfl).trans h);show Zg1 (Zc5 _ (_::Znk r) _ _) (Zac (Zmq pc.2 n) (Zmp r));cases hs:Zmq pc.2 n with
  |none=>
   rw[hs]at turn;exact Zt9 turn
  |some m=>
   rw[hs]at turn;obtain⟨ρ',hr,l⟩:=turn;have:=ih m ρ' l
   rwa [←Ze0 (f:=Zd5 (run C 20 Zwx) [2,3] false) (d:=.tup [.int (.k (.ofNat pc.1)),.str pc.2]) (ρ:=ρ) (ow:=[]) hr]at this
theorem Zsm{t:List Nat}{b:Bool}(hC:∀t,C 20 [.str t]=(Zm2 t).map .str)(h:Zsl t=some b):run C 23 Zlw [(0,.str t)] []=some (.ret (.bool b)):=by
 obtain⟨u,hu,h⟩:=obS h;obtain⟨hasc,h⟩:=Zaj h;have e0:ev C 22 [(0,.str t)] (owD []) (.call 20 [.n 0])=some (.str u):=(hC t).trans (by rw[hu];rfl)
 have hit:Zd8 (ev C 20 [(1,.int (.k 0)),(0,.str u)] (owD [])) [.n 0]=some [.str u]:=rfl;have hl:=Zqy (C:=C) (Zhf false 0 u) 0 [(1,.int (.k 0)),(0,.str u)] rfl;refine(Zgx e0 rfl).trans ?_
 refine(Zgx (n:=21) (d:=.int (.k 0)) rfl rfl).trans ?_
 refine(Zht (n:=20) hit (Yf8 hasc) rfl).trans ?_
 rw[←sI h];cases hp:Zmp (Zhf false 0 u) 0 with
 |none=>
  rw[hp]at hl;exact Hb6 (λz=>Zbu z (run C 20 [.ret (.cmp (.n 1) [(.Eq,.c (.int (.k 0)))])])) hl
 |some m=>
  rw[hp]at hl;obtain⟨ρ',hl,l1⟩:=hl;refine(Hb6 (λz=>Zbu z (run C 20 [.ret (.cmp (.n 1) [(.Eq,.c (.int (.k 0)))])])) hl).trans ?_
  refine Zfi (n:=19) (r:=[]) ?_
  show Zac (lk 1 ρ') _=_;rw[l1];exact Zd1 (Yfm m 0)
structure InF(s0:Shared)(D Lc:Addr)(vs:Array Value)(m:Str->Option Value)(s:Shared):Prop where
 ns:s.heap.Ns Lc m
 lst:s.heap.PlainList D vs
 keep:∀b o,b≠D->s0.heap.get? b=some o->s.heap.get? b=some o
 gens:s.gens=s0.gens
 os:s.os=s0.os
section
variable {prog:Program} {w:World} {A:Around} {E:Value->Shared->Prop} {s0 s:Shared} {D Lc:Addr} {vs:Array Value} {m:Str->Option Value} {env:Env}
theorem InF.tok{tk:Nat}(F:InF s0 D Lc vs m s):InF s0 D Lc vs m {s with toks:=tk}:=⟨F.ns,F.lst,F.keep,F.gens,F.os⟩
theorem InF.cell{c:Addr}{v:Option Value}(F:InF s0 D Lc vs m s)(h:s0.heap.IsCell c v)(hc:c≠D):s.heap.IsCell c v:=by
 obtain⟨o,e,d⟩:=h;exact⟨o,F.keep c o hc e,d⟩
theorem Zaz{x:Str}{v:Value}{p:Pos}{Q:Value->Shared->Prop}(F:InF s0 D env.locals vs m s)(hk:env.scope.kind= .function)(hx:env.kindOf x=some .local)(hm:m x=some v)(hd:(x==("__debug__":Str))=false)(q:Q v s):wpAny (model prog w) A (eval (.Name x p) env) Q E s:=
 wpAny_Name (wpAny_loadName_local hk hx F.ns hm q) hd
theorem Zk2{x:Str}{v:Value}{p:Pos}{c:Addr}{Q:Value->Shared->Prop}(F:InF s0 D env.locals vs m s)(hk:env.scope.kind= .function)(hx:env.kindOf x=some .free)(hl:env.cells.lookup x=some c)(hc:s0.heap.IsCell c (some v))(hne:c≠D)(hd:(x==("__debug__":Str))=false)(hcd:(x==("__classdict__":Str))=false)
  (q:Q v s):wpAny (model prog w) A (eval (.Name x p) env) Q E s:=
 wpAny_Name (wpAny_loadName_free hk hx hl (F.cell hc hne) q hcd) hd
theorem Zhv{x:Str}{v:Value}{Q:Unit->Shared->Prop}(F:InF s0 D env.locals vs m s)(hk:env.scope.kind= .function)(hx:env.kindOf x=some .local)(hnew:s0.heap.get? env.locals=none)
  (q:∀s' m',InF s0 D env.locals vs m' s'->m' x=some v->(∀y,y≠x->m' y=m y)->Q () s'):wpAny (model prog w) A (storeName env x v) Q E s:=by
 have hDL:D≠env.locals:=λe=>by
  obtain⟨n,e1⟩:=F.lst;obtain⟨o,es,ep,e2,d,_⟩:=F.ns;rw[e,e2]at e1;cases e1;cases d
 refine wpAny_storeName_local hx F.ns (λh' hn' hs'=>?_) (by rw[hk];rfl)
 refine q _ _ ⟨hn',?_,λb o hb e=>(hs'.2 b (λq=>by rw[q,hnew]at e;cases e)).trans (F.keep b o hb e),F.gens,F.os⟩ (if_pos rfl) λy hy=>if_neg hy
 obtain⟨n,e1⟩:=F.lst;exact⟨n,(hs'.2 D hDL).trans e1⟩
end
noncomputable def dg(n x j:Nat):Nat:=x/2^(n*j)%2^n
structure Zql(n x L R:Nat)(vs vs':List Value):Prop where
 len:vs'.length=vs.length
 inn:∀i,L<=i->i<R->∃t,vs'[i]?=some (.int (dg n x (i-L):Int) t)
 out:∀i,i<L\/R<=i->vs'[i]?=vs[i]?
theorem Zwd(X s:Nat):Builtin.bitXor (X:Int) (((X:Int).fdiv (2^s))*2^s)=((X%2^s:Nat):Int):=by
 have e:((X:Int).fdiv (2^s))*2^s=((X/2^s*2^s:Nat):Int):=by
  have:((X:Int).fdiv (2^s))=((X/2^s:Nat):Int):=by
   rw[Hc1 _ (by exact Int.le_of_lt (Int.pow_pos (by decide)))]
   rfl
  rw[this];rfl
 rw[e];have hor:(X|||(X/2^s*2^s))=X:=by
  apply Nat.eq_of_testBit_eq
  intro i;rw[Nat.testBit_or,Nat.testBit_mul_two_pow,Nat.testBit_div_two_pow];by_cases h:s<=i
  ·simp[h,Hb3 h]
  ·simp[h]
 have hand:(X&&& (X/2^s*2^s))=X/2^s*2^s:=by
  apply Nat.eq_of_testBit_eq
  intro i;rw[Nat.testBit_and,Nat.testBit_mul_two_pow,Nat.testBit_div_two_pow];by_cases h:s<=i
  ·simp[h,Hb3 h]
  ·simp[h]
 have hand2:∀a b:Nat,Builtin.bitAnd (a:Int) (b:Int)=((a&&& b:Nat):Int):=λa b=>by
  unfold Builtin.bitAnd;rw[decide_eq_true (Haa a),decide_eq_true (Haa b)]
  rfl
 have nn:∀z:Int,Builtin.bitNot (Builtin.bitNot z)=z:=λz=>by unfold Builtin.bitNot;exact(Haf (li [_] [] (.s (.g (.s (.g (.v 0)) (.k 1))) (.k 1)) (.v 0) [] rfl) (li [_] [] (.v 0) (.s (.g (.s (.g (.v 0)) (.k 1))) (.k 1)) [] rfl))
 have hneg:∀a:Nat,decide (0<=Builtin.bitNot (a:Int))=false:=λa=>by
  apply decide_eq_false;unfold Builtin.bitNot;exact(Int.not_le.mpr (li [] [_] (.a (.s (.g (.u (.v 0))) (.k 1)) (.k 1)) (.k 0) [] rfl))
 have hor2:∀a b:Nat,Builtin.bitOr (a:Int) (b:Int)=((a|||b:Nat):Int):=λa b=>by
  unfold Builtin.bitOr Builtin.bitAnd;rw[hneg a,hneg b];dsimp only;rw[nn,nn,nn]
  rfl
 unfold Builtin.bitXor;rw[hor2,hand2,hor,hand];have:=Nat.div_add_mod X (2^s);rw[Hco]at this;exact(Haf (li [] [_,_,_] (.s (.u (.v 2)) (.u (.v 0))) (.u (.v 1)) [(1,.u (.v 2),.u (.a (.v 0) (.v 1)))] rfl (jO (Han this.symm))) (li [] [_,_,_] (.u (.v 1)) (.s (.u (.v 2)) (.u (.v 0))) [(1,.u (.a (.v 0) (.v 1)),.u (.v 2))] rfl (jO (Han this))))
theorem Yfd{n X h j:Nat}(hj:j<h):dg n (X%2^(h*n)) j=dg n X j:=by
 unfold dg;have e:h*n=n*j+(n+(h-j-1)*n):=by
  have:h=j+1+(h-j-1):=by rw[Nat.sub_sub];exact(Nat.add_sub_of_le hj).symm
  rw[this,Nat.add_mul,Nat.add_mul,Nat.one_mul,Hco j n,Nat.add_assoc]
  congr 3
  exact Hb6 (λz=>z-j-1) this
 rw[e,Nat.pow_add,Nat.mod_mul_right_div_self,Nat.pow_add,Nat.mod_mul_right_mod]
theorem Yba{n X h j:Nat}:dg n (X/2^(h*n)) j=dg n X (h+j):=by
 unfold dg;rw[Nat.div_div_eq_div_mul,←Nat.pow_add,Nat.mul_add,Hco h n]
theorem Yfe{n X L:Nat}{vs:List Value}{t:Tok}(hX:X<2^n)(hL:L<vs.length):Zql n X L (L+1) vs (vs.set L (.int (X:Int) t)):=by
 refine⟨List.length_set ..,λi h1 h2=>⟨t,?_⟩,λi hi=>?_⟩
 ·have:i=L:=(Ham (ln2 (.v 1) (.v 0) [(1,.a (.v 1) (.k 1),.a (.v 0) (.k 1))] rfl h2) h1);subst this;rw[List.getElem?_set_self hL];unfold dg;rw[Nat.sub_self,Nat.mul_zero,Nat.pow_zero,Nat.div_one,Nat.mod_eq_of_lt hX]
 ·rw[List.getElem?_set_ne (by exact(hi.elim (λz0=>(Ha3 z0)) (λz0=>(Ha9 z0))))]
theorem Ybc{n X L h R:Nat}{vs v1 v2:List Value}(hm:L+h<=R)(h1:Zql n (X%2^(h*n)) L (L+h) vs v1)(h2:Zql n (X/2^(h*n)) (L+h) R v1 v2):Zql n X L R vs v2:=by
 refine⟨h2.len.trans h1.len,λi hi1 hi2=>?_,λi hi=>?_⟩
 ·by_cases q:i<L+h
  ·obtain⟨t,e⟩:=h1.inn i hi1 q;refine⟨t,?_⟩
   rw[h2.out i (.inl q),e,Yfd (by exact(ln4 (.a (.v 3) (.k 1)) (.v 2) [(1,.a (.v 1) (.k 1),.a (.v 0) (.v 2)),(1,.a (.v 3) (.v 0),.v 1)] rfl q (Han (Hb3 hi1))))]
  ·obtain⟨t,e⟩:=h2.inn i (Hah q) hi2;refine⟨t,?_⟩
   rw[e,Yba]
   congr 4
   exact(Ham (ln5 (.a (.v 2) (.v 3)) (.v 4) [(1,.v 1,.a (.v 4) (.v 0)),(1,.a (.v 3) (.a (.v 0) (.v 2)),.v 1)] rfl Zcu (Han (Hb3 (Hah q)))) (ln5 (.v 4) (.a (.v 2) (.v 3)) [(1,.v 1,.a (.v 3) (.a (.v 0) (.v 2))),(1,.a (.v 4) (.v 0),.v 1)] rfl Zcu (Han (Hb3 hi1))))
 ·rw[h2.out i (by exact(hi.elim (λz0=>(Or.inl (ln3 (.a (.v 0) (.k 1)) (.a (.v 1) (.v 2)) [(1,.a (.v 0) (.k 1),.v 1)] rfl z0))) (λz0=>(Or.inr z0)))),h1.out i (hi.elim (λz1=>(Or.inl z1)) (λz1=>(Or.inr (ln4 (.a (.v 0) (.v 1)) (.v 3) [(1,.a (.v 0) (.v 1),.v 2),(1,.v 2,.v 3)] rfl hm z1))))]
theorem Ygk{L R:Nat}(h:L<R):L<=(L+R)/2:=(Nat.le_div_iff_mul_le (by decide)).mpr (ln2 (.l (.v 0) 2) (.a (.v 0) (.v 1)) [(1,.a (.v 0) (.k 1),.v 1)] rfl h)
theorem Zzx{L R:Nat}(h:L<R):(L+R)/2<R:=Nat.div_lt_of_lt_mul (ln2 (.a (.a (.v 0) (.v 1)) (.k 1)) (.m 2 (.v 1)) [(1,.a (.v 0) (.k 1),.v 1)] rfl h)
theorem Zpu{L R:Nat}(h:L<R):L+((L+R)/2-L)=(L+R)/2:=Nat.add_sub_of_le (Ygk h)
theorem Zue{L R:Nat}(h:L<R)(n:¬L+1=R):1<=(L+R)/2-L:=
 Nat.le_sub_of_add_le ((Nat.le_div_iff_mul_le (by decide)).mpr (ln2 (.l (.a (.k 1) (.v 0)) 2) (.a (.v 0) (.v 1)) [(1,.a (.a (.v 0) (.k 1)) (.k 1),.v 1)] rfl (Hbb h n)))
theorem Ygj(L R:Nat):((L:Int)+(R:Int))/2=(((L+R)/2:Nat):Int):=(Int.natCast_ediv (L+R) 2).symm
theorem ne_Z{L R:Nat}(h:¬L+1=R):(L:Int)+1≠(R:Int):=λe=>h (Int.ofNat.inj e)
noncomputable abbrev Zkw:List Stmt:=[
 .If (.Compare (.BinOp (.Name "L" (Zcp 0)) .Add (.Constant (.int 1) 0 (Zcp 1)) (Zcp 2)) [.Eq] [.Name "R" (Zcp 3)] (Zcp 4)) [
  .Assign [.Subscript (.Name "a_digits" (Zcp 5)) (.Name "L" (Zcp 6)) (Zcp 7)] (.Name "x" (Zcp 8)) (Zcp 9),.Return none (Zcp 10)] [] (Zcp 11),
 .Assign [.Name "mid" (Zcp 12)] (.BinOp (.BinOp (.Name "L" (Zcp 13)) .Add (.Name "R" (Zcp 14)) (Zcp 15)) .RShift (.Constant (.int 1) 0 (Zcp 16)) (Zcp 17)) (Zcp 18),
 .Assign [.Name "shift" (Zcp 19)] (.BinOp (.BinOp (.Name "mid" (Zcp 20)) .Sub (.Name "L" (Zcp 21)) (Zcp 22)) .Mult (.Name "n" (Zcp 23)) (Zcp 24)) (Zcp 25),
 .Assign [.Name "upper" (Zcp 26)] (.BinOp (.Name "x" (Zcp 27)) .RShift (.Name "shift" (Zcp 28)) (Zcp 29)) (Zcp 30),
 .Assign [.Name "lower" (Zcp 31)] (.BinOp (.Name "x" (Zcp 32)) .BitXor (.BinOp (.Name "upper" (Zcp 33)) .LShift (.Name "shift" (Zcp 34)) (Zcp 35)) (Zcp 36)) (Zcp 37),
 .Expr (.Call (.Name "inner" (Zcp 38)) [.Name "lower" (Zcp 39),.Name "L" (Zcp 40),.Name "mid" (Zcp 41)] [] (Zcp 42)) (Zcp 43),
 .Expr (.Call (.Name "inner" (Zcp 44)) [.Name "upper" (Zcp 45),.Name "mid" (Zcp 46),.Name "R" (Zcp 47)] [] (Zcp 48)) (Zcp 49)]
noncomputable def Zfy:List Str:=["x","L","R","mid","shift","upper","lower"]
structure Zds(h:Heap)(f c1 c2 c3:Addr)(fd:FuncData)(fname:Str)(v1 v2:Value):Prop where
 fn:∃o,h.get? f=some o/\o.data= .func fd
 rec':h.CodeRec fd.code fd.qualname
 cell1:h.IsCell c1 (some v1)
 cell2:h.IsCell c2 (some v2)
 cell3:h.IsCell c3 (some (.ref f))
 l1:fd.closure.lookup fname=some c1
 l2:fd.closure.lookup ("n":Str)=some c2
 l3:fd.closure.lookup ("inner":Str)=some c3
 k1:fd.scope.names.lookup fname=some .free
 k2:fd.scope.names.lookup ("n":Str)=some .free
 k3:fd.scope.names.lookup ("inner":Str)=some .free
 kind:fd.scope.kind= .function
 co:fd.scope.isCoroutine=false
 gen:fd.scope.isGenerator=false
 nocell:∀x∈fd.scope.names,x.2≠.cell
theorem Zds.keep{h h':Heap}{f c1 c2 c3:Addr}{fd:FuncData}{fname:Str}{v1 v2:Value}(x:Zds h f c1 c2 c3 fd fname v1 v2)(k:∀b o,b=f\/(∃q,h.CodeRec (.ref b) q)\/b=c1\/b=c2\/b=c3->h.get? b=some o->h'.get? b=some o):Zds h' f c1 c2 c3 fd fname v1 v2:=by
 have kc:∀{c v},h.IsCell c v->(c=c1\/c=c2\/c=c3)->h'.IsCell c v:=λ⟨o,e,d⟩ hc=>⟨o,k _ o (.inr (.inr hc)) e,d⟩
 refine⟨let⟨o,e,d⟩:=x.fn;⟨o,k f o (.inl rfl) e,d⟩,?_,kc x.cell1 (.inl rfl),kc x.cell2 (.inr (.inl rfl)),kc x.cell3 (.inr (.inr rfl)),x.l1,x.l2,x.l3,x.k1,x.k2,x.k3,x.kind,x.co,x.gen,x.nocell⟩
 obtain⟨c,oc,vs,t,e1,ec,dc,vc⟩:=x.rec';exact⟨c,oc,vs,t,e1,k c oc (.inr (.inl ⟨_,c,oc,vs,t,rfl,ec,dc,vc⟩)) ec,dc,vc⟩
section
variable {prog:Program} {w:World} {A:Around} {E:Value->Shared->Prop} {s0 s:Shared} {D:Addr} {m:Str->Option Value} {env:Env}
theorem Zgf{x:Int}{k:Nat}(h:x.natAbs<2^k):Builtin.Int.intBits x<=k:=by
 unfold Builtin.Int.intBits;by_cases h0:x.natAbs=0
 ·have:x=0:=Int.natAbs_eq_zero.mp h0;subst this;simp
 ·have h1:=(Nat.log2_lt h0).mpr h;split
  ·exact Hap _
  ·exact h1
theorem Znh{h:Heap}{b D:Addr}{q:Str}{vs:Array Value}(x:h.CodeRec (.ref b) q)(y:h.PlainList D vs):b≠D:=by
 rintro rfl
 obtain⟨c,o,ws,t,e1,e2,d,_⟩:=x;cases e1;obtain⟨n,e3⟩:=y;rw[e3]at e2;cases e2;cases d
theorem Ztw{f c1 c2 c3:Addr}{fd:FuncData}{n:Nat}{tn:Tok}(hn1:1<=n)(hbody:fd.body= .stmts Zkw)(hloc:∀x∈Zfy,fd.scope.names.lookup x=some .local)
  (hbind:∀a b c,bindArgs fd ⟨[a,b,c],[]⟩=pure [(("x":Str),a),("L",b),("R",c)])(hne:f≠D/\c1≠D/\c2≠D/\c3≠D):
  ∀(d:Nat) (A:Around) (E:Value->Shared->Prop) (s:Shared) (vs:List Value) (X L R:Nat) (t1 t2 t3:Tok) (Q:Value->Shared->Prop),A.handled=none->A.depth+d<recursionLimit->s.heap.NoLimit->Zds s.heap f c1 c2 c3 fd "a_digits" (.ref D) (.int (n:Int) tn)->
   s.heap.PlainList D vs.toArray->L<R->R-L<=2^d->R<=vs.length->vs.length<=1000000->n*(R-L)<=10000000->X<2^(n*(R-L))->
   (∀s' vs',(∀b o,b≠D->s.heap.get? b=some o->s'.heap.get? b=some o)->s'.gens=s.gens->s'.os=s.os->s'.heap.PlainList D vs'.toArray->Zql n X L R vs vs'->Q .none s')->
   wpAny (model prog w) A (call (.ref f) [.int (X:Int) t1,.int (L:Int) t2,.int (R:Int) t3]) Q E s:=by
  intro d
  induction d using Nat.strongRecOn with|ind d ih=>
  intro A E s vs X L R t1 t2 t3 Q hh hdep hlim I hp hLR hsz hRlen hlen hbits hX q;obtain⟨o,ho,hd⟩:=I.fn;have hDs:D<s.heap.objs.size:=by obtain⟨k,e⟩:=hp;exact Haj e
  have Lnew:s.heap.get? s.heap.objs.size=none:=Zae (Hac _);refine wpAny_call (codeAny_call_def (Hak (Hal _ _) hdep) ho hd hlim I.rec' hbody (.of_eq (hbind _ _ _)) I.nocell (λx hx=>?_) (λh'0 hns hk=>?_) I.co I.gen I.kind)
  ·simp only[List.mem_cons,Hch,or_false]at hx;rcases hx with rfl|rfl|rfl<;>exact hloc _ (iL rfl)
  ·generalize henv:callEnv fd s.heap.objs.size f=env
   have hEL:env.locals=s.heap.objs.size:=by rw[←henv];rfl
   have hEC:env.cells=fd.closure:=by rw[←henv];rfl
   have hES:env.scope=fd.scope:=by rw[←henv];rfl
   have hk1:env.scope.kind= .function:=by rw[hES];exact I.kind
   have kL:∀x∈Zfy,env.kindOf x=some .local:=λx hx=>by unfold Env.kindOf;rw[hES];exact hloc x hx
   have kF:∀x,fd.scope.names.lookup x=some .free->env.kindOf x=some .free:=λx hx=>by unfold Env.kindOf;rw[hES];exact hx
   have Lnew':s.heap.get? env.locals=none:=by rw[hEL];exact Lnew
   have hA:(A.deeper env).handled=none:=hh;have hdp:(A.deeper env).depth=A.depth+1:=rfl;obtain⟨np,ep⟩:=hp;have F0:InF s D env.locals vs.toArray (λx=>([(("x":Str),Value.int (X:Int) t1),("L",.int (L:Int) t2),("R",.int (R:Int) t3)]:List (Str×Value)).reverse.lookup x) {s with heap:=h'0,toks:=s.toks+3}:=
    ⟨by rw[hEL];exact hns,⟨np,hk _ _ ep⟩,λb o _ e=>hk b o e,rfl,rfl⟩
   show wpAny _ (A.deeper env) (execs Zkw env) _ _ {s with heap:=h'0,toks:=s.toks+3}
   refine Hbx (wpAny_If (Hbw (Hbs ?_)))
   refine Zaz F0 hk1 (kL _ (iL rfl)) (v:=.int (L:Int) t2) rfl (by decide) ?_
   refine Hbr ?_
   refine PySem.P.add_int ?_
   refine Zaz (F0.tok.tok) hk1 (kL _ (iL rfl)) (v:=.int (R:Int) t3) rfl (by decide) ?_
   refine PySem.P.eq_int (Hav ?_)
   by_cases hone:L+1=R
   ·have e1:(((L:Int)+1)==(R:Int))=true:=by rw[beq_iff_eq];exact(Haf (li [] [_,_] (.a (.u (.v 0)) (.k 1)) (.u (.v 1)) [(1,.u (.a (.v 0) (.k 1)),.u (.v 1))] rfl (jO (Han hone))) (li [] [_,_] (.u (.v 1)) (.a (.u (.v 0)) (.k 1)) [(1,.u (.v 1),.u (.a (.v 0) (.k 1)))] rfl (jO (Han hone.symm))))
    rw[e1,if_pos rfl];refine Hbx (wpAny_Assign_Subscript ?_ rfl)
    refine Zaz (F0.tok.tok) hk1 (kL _ (iL rfl)) (v:=.int (X:Int) t1) rfl (by decide) ?_
    refine Zk2 (F0.tok.tok) hk1 (kF _ I.k1) (by rw[hEC];exact I.l1) I.cell1 hne.2.1 (by decide) (by decide) ?_
    refine Zaz (F0.tok.tok) hk1 (kL _ (iL rfl)) (v:=.int (L:Int) t2) rfl (by decide) ?_
    refine Zfk (F0.tok.tok).lst (Haa _) (li [] [_,_,_] (.a (.u (.v 2)) (.k 1)) (.k (2^63)) [(1,.u (.v 0),.u (.v 1)),(1,.u (.v 1),.u (.k 1000000)),(1,.u (.a (.v 2) (.k 1)),.u (.v 0))] rfl (jO hRlen) (jO hlen) (jO (Han hone))) (by rw[Hb8];exact(li [] [_,_,_] (.a (.u (.v 2)) (.k 1)) (.u (.v 1)) [(1,.u (.v 0),.u (.v 1)),(1,.u (.a (.v 2) (.k 1)),.u (.v 0))] rfl (jO hRlen) (jO (Han hone)))) λh' hp' hsb=>?_
    refine Hbx (wpAny_Return_none ?_)
    subst hone;have hX':X<2^n:=by
     have:n*(L+1-L)=n:=by rw[Nat.add_sub_cancel_left,Nat.mul_one]
     rwa [this]at hX
    refine q _ (vs.set L (.int (X:Int) t1)) (λb o hb e=>(hsb.2 b hb).trans (hk b o e)) rfl rfl ?_ (Yfe hX' hRlen)
    simpa using hp'
   ·have e1:(((L:Int)+1)==(R:Int))=false:=by rw[beq_eq_false_iff_ne];exact ne_Z hone
    rw[e1,if_neg Hca];refine Hbv ?_
    cases d with
    |zero=>rw[Nat.pow_zero]at hsz;exact absurd hsz (Hat (ln3 (.a (.k 1) (.k 1)) (.v 2) [(1,.v 1,.a (.v 2) (.v 0)),(1,.a (.a (.v 0) (.k 1)) (.k 1),.v 1)] rfl Zcu (Hbb hLR hone)))
    |succ d=>
    have kk:∀x,x∈Zfy->env.kindOf x=some .local:=kL;have F'1:=F0.tok (tk:=s.toks+3+1+1)
    let h:=(L+R)/2-L
    have hh1:1<=h:=Zue hLR hone;have hh2:L+h<R:=Hak (Han (Zpu hLR)) (Zzx hLR);have hmid:L+h=(L+R)/2:=Zpu hLR;have hpow:2^(d+1)=2*2^d:=by rw[Nat.pow_succ,Hco]
    have hs1:L+h-L<=2^d:=by rw[hmid];exact(lg 1 [_,_,_,_,_,_,_] (.v 4) (.v 6) [(1,.v 2,.v 3),(2,.a (.v 0) (.v 4),.v 5),(1,.v 1,.a (.v 2) (.v 0)),(1,.v 3,.l (.v 6) 2),(1,.l (.v 5) 2,.a (.v 0) (.v 1))] rfl hsz (Han hmid) Zcu (Han (Nat.pow_succ _ _)) (Nat.div_mul_le_self _ _))
    have hs2:R-(L+h)<=2^d:=by rw[hmid];exact(lg 1 [_,_,_,_,_,_,_] (.v 5) (.v 6) [(1,.v 2,.v 3),(1,.v 1,.a (.v 2) (.v 0)),(1,.v 3,.l (.v 6) 2),(1,.a (.a (.v 0) (.v 1)) (.k 1),.a (.l (.v 4) 2) (.k 2)),(2,.a (.v 5) (.v 4),.v 1)] rfl hsz Zcu (Han (Nat.pow_succ _ _)) (Nat.lt_div_mul_add (by decide)) (Han (Hb3 (ln4 (.v 3) (.v 1) [(1,.a (.a (.v 0) (.v 2)) (.k 1),.v 1),(1,.v 3,.a (.v 0) (.v 2))] rfl hh2 (Han hmid.symm)))))
    refine Hbx (Hbt (Hbs (Hbs ?_)) rfl)
    refine Zaz F'1 hk1 (kL _ (iL rfl)) (v:=.int (L:Int) t2) rfl (by decide) ?_
    refine Zaz F'1 hk1 (kL _ (iL rfl)) (v:=.int (R:Int) t3) rfl (by decide) ?_
    refine PySem.P.add_int (Hbr (PyProof.Rows.rshift_int (by decide) ?_))
    have em:((L:Int)+(R:Int)).fdiv (2^(1:Int).toNat)=((L+h:Nat):Int):=by
     rw[hmid,Hc1 _ (by decide)]
     exact Ygj L R
    rw[em];refine Zhv (F'1.tok) hk1 (kL _ (iL rfl)) Lnew' λs'2 m'2 F'2 g'2 o'2=>?_
    refine Hbx (Hbt (Hbs (Hbs ?_)) rfl)
    refine Zaz F'2 hk1 (kL _ (iL rfl)) g'2 (by decide) ?_
    refine Zaz F'2 hk1 (kL _ (iL rfl)) (v:=.int (L:Int) t2) ((o'2 _ (by decide)).trans rfl) (by decide) ?_
    refine PyProof.Rows.sub_int ?_
    refine Zk2 (F'2.tok) hk1 (kF _ I.k2) (by rw[hEC];exact I.l2) I.cell2 hne.2.2.1 (by decide) (by decide) ?_
    refine PySem.P.mul_int ?_ ?_
    ·have e:((L+h:Nat):Int)-(L:Int)=(h:Int):=(Haf (li [] [_,_] (.s (.u (.a (.v 0) (.v 1))) (.u (.v 0))) (.u (.v 1)) [] rfl) (li [] [_,_] (.u (.v 1)) (.s (.u (.a (.v 0) (.v 1))) (.u (.v 0))) [] rfl));have eh:((h:Int)*(n:Int))=((h*n:Nat):Int):=by rw[Int.natCast_mul]
     rw[e,eh];refine Zhv (F'2.tok.tok) hk1 (kL _ (iL rfl)) Lnew' λs3 m'3 F'3 g'3 o3=>?_
     have hhn:h*n<=n*(R-L):=by rw[Hco];exact Hbd n (ln4 (.v 2) (.v 3) [(1,.a (.a (.v 0) (.v 2)) (.k 1),.v 1),(1,.v 1,.a (.v 3) (.v 0))] rfl hh2 Zcu)
     refine Hbx (Hbt (Hbs ?_) rfl)
     refine Zaz F'3 hk1 (kL _ (iL rfl)) (v:=.int (X:Int) t1) ((o3 _ (by decide)).trans ((o'2 _ (by decide)).trans rfl)) (by decide) ?_
     refine Zaz F'3 hk1 (kL _ (iL rfl)) g'3 (by decide) ?_
     refine PyProof.Rows.rshift_int (Haa _) ?_
     rw[Hc0];have eU:(X:Int).fdiv (2^(h*n))=((X/2^(h*n):Nat):Int):=by
      rw[Hc1 _ (by exact Int.le_of_lt (Int.pow_pos (by decide)))]
      rfl
     refine Zhv (F'3.tok) hk1 (kL _ (iL rfl)) Lnew' λs4 m'4 F'4 g'4 o'4=>?_
     refine Hbx (Hbt (Hbs ?_) rfl)
     refine Zaz F'4 hk1 (kL _ (iL rfl)) (v:=.int (X:Int) t1) ((o'4 _ (by decide)).trans ((o3 _ (by decide)).trans ((o'2 _ (by decide)).trans rfl))) (by decide) ?_
     refine Hbs ?_
     refine Zaz F'4 hk1 (kL _ (iL rfl)) g'4 (by decide) ?_
     refine Zaz F'4 hk1 (kL _ (iL rfl)) ((o'4 _ (by decide)).trans g'3) (by decide) ?_
     refine PyProof.Rows.lshift_int (Haa _) ?_ ?_
     ·have hU:((X:Int).fdiv (2^(h*n))).natAbs<2^(n*(R-L)):=by
       rw[eU,Hcn];exact Hak (Nat.div_le_self _ _) hX
      have:=Zgf hU;exact(li [] [_,_,_] (.a (.u (.v 2)) (.u (.v 1))) (.k (2^27)) [(2,.u (.v 0),.u (.k 10000000)),(1,.u (.v 1),.u (.v 0)),(1,.u (.v 2),.u (.v 0))] rfl (jO hbits) (jO hhn) (jO this))
     ·rw[Hc0];refine PyProof.Rows.xor_int ?_
      rw[Zwd];refine Zhv (F'4.tok.tok) hk1 (kL _ (iL rfl)) Lnew' λs'5 m5 F5 g'5 o5=>?_
      rw[eU]at g'4;have mL:m5 "L"=some (.int (L:Int) t2):=(o5 _ (by decide)).trans ((o'4 _ (by decide)).trans ((o3 _ (by decide)).trans ((o'2 _ (by decide)).trans rfl)))
      have mR:m5 "R"=some (.int (R:Int) t3):=(o5 _ (by decide)).trans ((o'4 _ (by decide)).trans ((o3 _ (by decide)).trans ((o'2 _ (by decide)).trans rfl)))
      have mM:=(o5 _ (by decide)).trans ((o'4 _ (by decide)).trans ((o3 _ (by decide)).trans g'2))
      have mU:=(o5 _ (by decide)).trans g'4
      have hint:interactive env=false:=by unfold interactive;rw[hk1];rfl
      have ik:∀{ws:Array Value} {s'},InF s D env.locals ws m5 s'->Zds s'.heap f c1 c2 c3 fd "a_digits" (.ref D) (.int (n:Int) tn):=λF=>I.keep λb o hb e=>F.keep b o (by
       rcases hb with rfl|⟨q,hq⟩|rfl|rfl|rfl
       ·exact hne.1
       ·exact Znh hq ⟨np,ep⟩
       ·exact hne.2.1
       ·exact hne.2.2.1
       ·exact hne.2.2.2) e
      have lim':∀{ws:Array Value} {s'},InF s D env.locals ws m5 s'->s'.heap.NoLimit:=λ{ws s'} F=>by
       obtain⟨mc,a,r⟩:=hlim;refine⟨mc,?_,r⟩
       obtain⟨o,es,e2,e,dd,r⟩:=a;exact⟨o,es,e2,F.keep _ o (λq=>by rw[q,ep]at e;cases e;cases dd) e,dd,r⟩
      have hlow:X%2^(h*n)<2^(n*(L+h-L)):=by
       have:n*(L+h-L)=h*n:=by rw[Nat.add_sub_cancel_left,Hco]
       rw[this];exact Nat.mod_lt _ (Nat.two_pow_pos _)
      have hup:X/2^(h*n)<2^(n*(R-(L+h))):=by
       rw[Nat.div_lt_iff_lt_mul (Nat.two_pow_pos _),←Nat.pow_add];have:n*(R-(L+h))+h*n=n*(R-L):=by
        rw[Hco h n,←Nat.mul_add]
        congr 1
        exact(Ham (ln5 (.a (.v 3) (.v 2)) (.v 4) [(1,.v 1,.a (.v 4) (.v 0)),(1,.a (.v 3) (.a (.v 0) (.v 2)),.v 1)] rfl Zcu (Han (Hb3 (ln3 (.a (.v 0) (.v 2)) (.v 1) [(1,.a (.a (.v 0) (.v 2)) (.k 1),.v 1)] rfl hh2)))) (ln5 (.v 4) (.a (.v 3) (.v 2)) [(1,.v 1,.a (.v 3) (.a (.v 0) (.v 2))),(1,.a (.v 4) (.v 0),.v 1)] rfl Zcu (Han (Hb3 (ln2 (.v 0) (.v 1) [(1,.a (.v 0) (.k 1),.v 1)] rfl hLR)))))
       rw[this];exact hX
      have hb1:n*(L+h-L)<=10000000:=Hag (Hbd n (ln5 (.v 3) (.v 4) [(1,.a (.a (.v 0) (.v 2)) (.k 1),.v 1),(1,.v 1,.a (.v 4) (.v 0)),(1,.a (.v 3) (.v 0),.a (.v 0) (.v 2))] rfl hh2 Zcu (Han (Hb3 (ln2 (.v 0) (.a (.v 0) (.v 1)) [] rfl))))) hbits;have hb2:n*(R-(L+h))<=10000000:=Hag (Hbd n (ln5 (.v 3) (.v 4) [(1,.v 1,.a (.v 4) (.v 0)),(1,.a (.v 3) (.a (.v 0) (.v 2)),.v 1)] rfl Zcu (Han (Hb3 (ln3 (.a (.v 0) (.v 2)) (.v 1) [(1,.a (.a (.v 0) (.v 2)) (.k 1),.v 1)] rfl hh2))))) hbits;refine Hbx (wpAny_Expr ?_ hint rfl)
      refine Hbi ?_
      refine Zk2 F5 hk1 (kF _ I.k3) (by rw[hEC];exact I.l3) I.cell3 hne.2.2.2 (by decide) (by decide) ?_
      refine Hbn (o:=o) (fd:=fd) (Zch (λv p h=>by cases h) ?_)
      rw[Zad (λv p h=>by cases h),Zad (λv p h=>by cases h),Zad (λv p h=>by cases h)]
      refine Hbf (Zaz F5 hk1 (kL _ (iL rfl)) g'5 (by decide) ?_)
      refine Hbf (Zaz F5 hk1 (kL _ (iL rfl)) mL (by decide) ?_)
      refine Hbf (Zaz F5 hk1 (kL _ (iL rfl)) mM (by decide) (Hbe ?_))
      refine⟨⟨F5.keep f o hne.1 ho,hd⟩,?_⟩
      refine ih d (Hbj d) (A.deeper env) _ s'5 vs _ L (L+h) _ _ _ _ hA (by rw[hdp];exact(ln3 (.a (.a (.a (.v 0) (.k 1)) (.v 1)) (.k 1)) (.v 2) [(1,.a (.a (.v 0) (.a (.v 1) (.k 1))) (.k 1),.v 2)] rfl hdep)) (lim' F5) (ik F5) F5.lst (ln2 (.a (.v 1) (.k 1)) (.a (.v 1) (.v 0)) [(1,.k 1,.v 0)] rfl hh1) hs1 (ln4 (.a (.v 2) (.v 3)) (.v 1) [(1,.v 0,.v 1),(1,.a (.a (.v 2) (.v 3)) (.k 1),.v 0)] rfl hRlen hh2) hlen hb1 hlow λs6 v1 k'6 gg6 os6 p6 d6=>?_
      have hDL:env.locals≠D:=λe=>by
       obtain⟨o',es,e2,e3,dd,_⟩:=F5.ns;obtain⟨n',e4⟩:=F5.lst;rw[e,e4]at e3;cases e3;cases dd
      have F6:InF s D env.locals v1.toArray m5 s6:=by
       refine⟨?_,p6,λb o hb e=>k'6 b o hb (F5.keep b o hb e),gg6.trans F5.gens,os6.trans F5.os⟩
       obtain⟨o',es,e2,e3,r⟩:=F5.ns;exact⟨o',es,e2,k'6 _ _ hDL e3,r⟩
      refine Hbx (wpAny_Expr ?_ hint rfl)
      refine Hbi ?_
      refine Zk2 F6 hk1 (kF _ I.k3) (by rw[hEC];exact I.l3) I.cell3 hne.2.2.2 (by decide) (by decide) ?_
      refine Hbn (o:=o) (fd:=fd) (Zch (λv p h=>by cases h) ?_)
      rw[Zad (λv p h=>by cases h),Zad (λv p h=>by cases h),Zad (λv p h=>by cases h)]
      refine Hbf (Zaz F6 hk1 (kL _ (iL rfl)) mU (by decide) ?_)
      refine Hbf (Zaz F6 hk1 (kL _ (iL rfl)) mM (by decide) ?_)
      refine Hbf (Zaz F6 hk1 (kL _ (iL rfl)) mR (by decide) (Hbe ?_))
      refine⟨⟨F6.keep f o hne.1 ho,hd⟩,?_⟩
      refine ih d (Hbj d) (A.deeper env) _ s6 v1 _ (L+h) R _ _ _ _ hA (by rw[hdp];exact(ln3 (.a (.a (.a (.v 0) (.k 1)) (.v 1)) (.k 1)) (.v 2) [(1,.a (.a (.v 0) (.a (.v 1) (.k 1))) (.k 1),.v 2)] rfl hdep)) (lim' F6) (ik F6) F6.lst hh2 hs2 (by rw[d6.len];exact hRlen) (by rw[d6.len];exact hlen) hb2 hup λs7 v2 k7 gg7 os7 p7 d7=>?_
      refine Hbv ?_
      exact q s7 v2 (λb o hb e=>k7 b o hb (F6.keep b o hb e)) (gg7.trans F6.gens) (os7.trans F6.os) p7 (Ybc (ln3 (.a (.v 0) (.v 1)) (.v 2) [(1,.a (.a (.v 0) (.v 1)) (.k 1),.v 2)] rfl hh2) d6 d7)
    ·refine IntMulOk.of_left (PyProof.Rows.intBits_le ?_)
     have e:((L+h:Nat):Int)-(L:Int)=(h:Int):=(Haf (li [] [_,_] (.s (.u (.a (.v 0) (.v 1))) (.u (.v 0))) (.u (.v 1)) [] rfl) (li [] [_,_] (.u (.v 1)) (.s (.u (.a (.v 0) (.v 1))) (.u (.v 0))) [] rfl));rw[e,Hcn];exact(ln5 (.a (.v 3) (.k 1)) (.k (2^64)) [(1,.v 0,.v 1),(1,.v 1,.k 1000000),(1,.a (.v 2) (.v 3),.v 4),(1,.l (.v 4) 2,.a (.v 2) (.v 0))] rfl hRlen hlen (Han hmid) (Nat.div_mul_le_self _ _))
end
noncomputable def Zfl(n:Nat):List Nat->Nat
 |[]=>0
 |q::r=>q+2^n*Zfl n r
theorem Zc1(n:Nat):∀(a b:List Nat),Zfl n (a++b)=Zfl n a+2^(n*a.length)*Zfl n b
 |[],b=>by show Zfl n b=0+2^(n*0)*Zfl n b;rw[Nat.mul_zero,Nat.pow_zero,Nat.one_mul,Nat.zero_add]
 |q::r,b=>by
  show q+2^n*Zfl n (r++b)=q+2^n*Zfl n r+2^(n*(r.length+1))*Zfl n b;rw[Zc1 n r b,Nat.mul_add,Nat.mul_add n,Nat.mul_one,Nat.pow_add,Hco (2^(n*r.length)) (2^n),Nat.mul_assoc,Nat.add_assoc]
theorem Zwc(n:Nat):∀(a:List Nat),(∀q∈a,q<2^n)->Zfl n a<2^(n*a.length)
 |[],_=>Nat.two_pow_pos _
 |q::r,h=>by
  have h1:=h q (.head _);have h2:=Zwc n r λx hx=>h x (.tail _ hx)
  show q+2^n*Zfl n r<2^(n*(r.length+1));rw[Nat.mul_add n,Nat.mul_one,Nat.pow_add,Hco (2^(n*r.length))];have:2^n*(Zfl n r+1)<=2^n*2^(n*r.length):=Hbd _ h2;rw[Nat.mul_add,Nat.mul_one]at this;exact(ln4 (.a (.a (.v 0) (.v 2)) (.k 1)) (.v 3) [(1,.a (.v 0) (.k 1),.v 1),(1,.a (.v 2) (.v 1),.v 3)] rfl h1 this)
noncomputable def Zl3(qs:List Nat)(L R:Nat):List Nat:=(qs.drop L).take (R-L)
theorem Zo4{qs:List Nat}{L R:Nat}(h:R<=qs.length):(Zl3 qs L R).length=R-L:=by
 unfold Zl3;rw[List.length_take,List.length_drop];exact Nat.min_eq_left (Nat.sub_le_sub_right h L)
theorem Zxd{qs:List Nat}{L M R:Nat}(h1:L<=M)(h2:M<=R):Zl3 qs L R=Zl3 qs L M++Zl3 qs M R:=by
 unfold Zl3;have e:R-L=(M-L)+(R-M):=by rw[Nat.add_comm];exact(Nat.sub_add_sub_cancel h2 h1).symm
 rw[e,List.take_add,List.drop_drop]
 congr 3
 exact(Ham (ln3 (.a (.v 0) (.v 2)) (.v 1) [(1,.a (.v 2) (.v 0),.v 1)] rfl (Han (Hb3 h1))) (ln3 (.v 1) (.a (.v 0) (.v 2)) [(1,.v 1,.a (.v 2) (.v 0))] rfl Zcu))
theorem Zxc{qs:List Nat}{L q:Nat}(h:qs[L]?=some q):Zl3 qs L (L+1)=[q]:=by
 unfold Zl3;have hl:L<qs.length:=(List.getElem?_eq_some_iff.mp h).1;rw[Nat.add_sub_cancel_left,Hcv hl];rw[Hcc hl]at h;rw[Hcu h];rfl
theorem Zxb{qs:List Nat}{L R x:Nat}(h:x∈Zl3 qs L R):x∈qs:=List.mem_of_mem_drop (List.mem_of_mem_take h)
noncomputable abbrev Zkl:List Stmt:=[
 .If (.Compare (.BinOp (.Name "L" (Zea 0)) .Add (.Constant (.int 1) 0 (Zea 1)) (Zea 2)) [.Eq] [.Name "R" (Zea 3)] (Zea 4)) [
  .Return (some (.Subscript (.Name "digits" (Zea 5)) (.Name "L" (Zea 6)) (Zea 7))) (Zea 8)] [] (Zea 9),
 .Assign [.Name "mid" (Zea 10)] (.BinOp (.BinOp (.Name "L" (Zea 11)) .Add (.Name "R" (Zea 12)) (Zea 13)) .RShift (.Constant (.int 1) 0 (Zea 14)) (Zea 15)) (Zea 16),
 .Assign [.Name "shift" (Zea 17)] (.BinOp (.BinOp (.Name "mid" (Zea 18)) .Sub (.Name "L" (Zea 19)) (Zea 20)) .Mult (.Name "n" (Zea 21)) (Zea 22)) (Zea 23),
 .Return (some (.BinOp (.BinOp (.Call (.Name "inner" (Zea 24)) [.Name "mid" (Zea 25),.Name "R" (Zea 26)] [] (Zea 27)) .LShift (.Name "shift" (Zea 28)) (Zea 29)) .Add
  (.Call (.Name "inner" (Zea 30)) [.Name "L" (Zea 31),.Name "mid" (Zea 32)] [] (Zea 33)) (Zea 34))) (Zea 35)]
noncomputable def Zh2:List Str:=["L","R","mid","shift"]
structure InG(s0:Shared)(Lc:Addr)(m:Str->Option Value)(s:Shared):Prop where
 ns:s.heap.Ns Lc m
 keep:∀b o,s0.heap.get? b=some o->s.heap.get? b=some o
 gens:s.gens=s0.gens
 os:s.os=s0.os
variable {Lc:Addr}
theorem InG.tok{tk:Nat}(F:InG s0 Lc m s):InG s0 Lc m {s with toks:=tk}:=⟨F.ns,F.keep,F.gens,F.os⟩
theorem InG.cell{c:Addr}{v:Option Value}(F:InG s0 Lc m s)(h:s0.heap.IsCell c v):s.heap.IsCell c v:=by
 obtain⟨o,e,d⟩:=h;exact⟨o,F.keep c o e,d⟩
theorem ldG{x:Str}{v:Value}{p:Pos}{Q:Value->Shared->Prop}(F:InG s0 env.locals m s)(hk:env.scope.kind= .function)(hx:env.kindOf x=some .local)(hm:m x=some v)(hd:(x==("__debug__":Str))=false)(q:Q v s):wpAny (model prog w) A (eval (.Name x p) env) Q E s:=
 wpAny_Name (wpAny_loadName_local hk hx F.ns hm q) hd
theorem lfG{x:Str}{v:Value}{p:Pos}{c:Addr}{Q:Value->Shared->Prop}(F:InG s0 env.locals m s)(hk:env.scope.kind= .function)(hx:env.kindOf x=some .free)(hl:env.cells.lookup x=some c)(hc:s0.heap.IsCell c (some v))(hd:(x==("__debug__":Str))=false)(hcd:(x==("__classdict__":Str))=false)
  (q:Q v s):wpAny (model prog w) A (eval (.Name x p) env) Q E s:=
 wpAny_Name (wpAny_loadName_free hk hx hl (F.cell hc) q hcd) hd
theorem stG{x:Str}{v:Value}{Q:Unit->Shared->Prop}(F:InG s0 env.locals m s)(hk:env.scope.kind= .function)(hx:env.kindOf x=some .local)(hnew:s0.heap.get? env.locals=none)
  (q:∀s' m',InG s0 env.locals m' s'->m' x=some v->(∀y,y≠x->m' y=m y)->Q () s'):wpAny (model prog w) A (storeName env x v) Q E s:=by
 refine wpAny_storeName_local hx F.ns (λh' hn' hs'=>?_) (by rw[hk];rfl)
 exact q _ _ ⟨hn',λb o e=>(hs'.2 b (λq=>by rw[q,hnew]at e;cases e)).trans (F.keep b o e),F.gens,F.os⟩ (if_pos rfl) λy hy=>if_neg hy
section
variable {prog:Program} {w:World} {A:Around} {E:Value->Shared->Prop} {s0 s:Shared} {D:Addr} {m:Str->Option Value} {env:Env}
theorem Zsx{f c1 c2 c3:Addr}{fd:FuncData}{n:Nat}{tn:Tok}{vs:List Value}{qs:List Nat}(hqv:qs.length=vs.length)(hvs:∀(i q:Nat),qs[i]?=some q->∃t,vs[i]?=some (Value.int (q:Int) t))(hlt:∀q∈qs,q<2^n)(hlen:vs.length<=1000000)(hbits:n*vs.length<=10000000)
  (hbody:fd.body= .stmts Zkl)(hloc:∀x∈Zh2,fd.scope.names.lookup x=some .local)
  (hbind:∀a b,bindArgs fd ⟨[a,b],[]⟩=pure [(("L":Str),a),("R",b)]):
  ∀(d:Nat) (A:Around) (E:Value->Shared->Prop) (s:Shared) (L R:Nat) (t2 t3:Tok) (Q:Value->Shared->Prop),A.handled=none->A.depth+d<recursionLimit->s.heap.NoLimit->Zds s.heap f c1 c2 c3 fd "digits" (.ref D) (.int (n:Int) tn)->
   s.heap.PlainList D vs.toArray->L<R->R-L<=2^d->R<=vs.length->
   (∀s' t,(∀b o,s.heap.get? b=some o->s'.heap.get? b=some o)->s'.gens=s.gens->s'.os=s.os->Q (.int (Zfl n (Zl3 qs L R):Int) t) s')->
   wpAny (model prog w) A (call (.ref f) [.int (L:Int) t2,.int (R:Int) t3]) Q E s:=by
  intro d
  induction d using Nat.strongRecOn with|ind d ih=>
  intro A E s L R t2 t3 Q hh hdep hlim I hp hLR hsz hRlen q;obtain⟨o,ho,hd⟩:=I.fn;have hDs:D<s.heap.objs.size:=by obtain⟨k,e⟩:=hp;exact Haj e
  have Lnew:s.heap.get? s.heap.objs.size=none:=Zae (Hac _);refine wpAny_call (codeAny_call_def (Hak (Hal _ _) hdep) ho hd hlim I.rec' hbody (.of_eq (hbind _ _)) I.nocell (λx hx=>?_) (λh'0 hns hk=>?_) I.co I.gen I.kind)
  ·simp only[List.mem_cons,Hch,or_false]at hx;rcases hx with rfl|rfl<;>exact hloc _ (iL rfl)
  ·generalize henv:callEnv fd s.heap.objs.size f=env
   have hEL:env.locals=s.heap.objs.size:=by rw[←henv];rfl
   have hEC:env.cells=fd.closure:=by rw[←henv];rfl
   have hES:env.scope=fd.scope:=by rw[←henv];rfl
   have hk1:env.scope.kind= .function:=by rw[hES];exact I.kind
   have kL:∀x∈Zh2,env.kindOf x=some .local:=λx hx=>by unfold Env.kindOf;rw[hES];exact hloc x hx
   have kF:∀x,fd.scope.names.lookup x=some .free->env.kindOf x=some .free:=λx hx=>by unfold Env.kindOf;rw[hES];exact hx
   have Lnew':s.heap.get? env.locals=none:=by rw[hEL];exact Lnew
   have hA:(A.deeper env).handled=none:=hh;have hdp:(A.deeper env).depth=A.depth+1:=rfl;obtain⟨np,ep⟩:=hp;have F0:InG s env.locals (λx=>([(("L":Str),Value.int (L:Int) t2),("R",.int (R:Int) t3)]:List (Str×Value)).reverse.lookup x) {s with heap:=h'0,toks:=s.toks+2}:=
    ⟨by rw[hEL];exact hns,λb o e=>hk b o e,rfl,rfl⟩
   show wpAny _ (A.deeper env) (execs Zkl env) _ _ {s with heap:=h'0,toks:=s.toks+2}
   refine Hbx (wpAny_If (Hbw (Hbs ?_)))
   refine ldG F0 hk1 (kL _ (iL rfl)) (v:=.int (L:Int) t2) rfl (by decide) ?_
   refine Hbr ?_
   refine PySem.P.add_int ?_
   refine ldG (F0.tok.tok) hk1 (kL _ (iL rfl)) (v:=.int (R:Int) t3) rfl (by decide) ?_
   refine PySem.P.eq_int (Hav ?_)
   have F'1:=F0.tok (tk:=s.toks+2+1+1);by_cases hone:L+1=R
   ·have e1:(((L:Int)+1)==(R:Int))=true:=by rw[beq_iff_eq];exact(Haf (li [] [_,_] (.a (.u (.v 0)) (.k 1)) (.u (.v 1)) [(1,.u (.a (.v 0) (.k 1)),.u (.v 1))] rfl (jO (Han hone))) (li [] [_,_] (.u (.v 1)) (.a (.u (.v 0)) (.k 1)) [(1,.u (.v 1),.u (.a (.v 0) (.k 1)))] rfl (jO (Han hone.symm))))
    rw[e1,if_pos rfl];have hq:∃q0,qs[L]?=some q0:=⟨_,Hcc (ln4 (.a (.v 3) (.k 1)) (.v 0) [(1,.v 1,.v 0),(1,.v 2,.v 1),(1,.a (.v 3) (.k 1),.v 2)] rfl (Han hqv.symm) hRlen (Han hone))⟩;obtain⟨q0,hq0⟩:=hq;obtain⟨t,hv⟩:=hvs L q0 hq0;refine Hbx (Hbu (Subscript_ ?_))
    refine lfG F'1 hk1 (kF _ I.k1) (by rw[hEC];exact I.l1) I.cell1 (by decide) (by decide) ?_
    refine ldG F'1 hk1 (kL _ (iL rfl)) (v:=.int (L:Int) t2) rfl (by decide) ?_
    have e1:=F'1.keep _ _ ep;refine tail_any (ops:=[.ref D,.int (L:Int) t2]) ⟨_,e1,rfl⟩ slot_list_getitem.lookup (wpAny_getItem_list (x:=.int (q0:Int) t) ⟨_,e1,rfl,_,rfl⟩ (Haa _) (li [] [_,_,_] (.a (.u (.v 2)) (.k 1)) (.k (2^63)) [(1,.u (.v 0),.u (.k 1000000)),(1,.u (.v 1),.u (.v 0)),(1,.u (.a (.v 2) (.k 1)),.u (.v 1))] rfl (jO hlen) (jO hRlen) (jO (Han hone))) (by rw[Hc0,Hc6];exact hv) ?_) rfl
    subst hone;have:=q _ t (λb o e=>F'1.keep b o e) F'1.gens F'1.os
    rw[Zxc hq0]at this;have ev:Zfl n [q0]=q0:=by show q0+2^n*0=q0;rw[Nat.mul_zero];rfl
    rw[ev]at this;exact this
   ·have e1:(((L:Int)+1)==(R:Int))=false:=by rw[beq_eq_false_iff_ne];exact ne_Z hone
    rw[e1,if_neg Hca];refine Hbv ?_
    cases d with
    |zero=>rw[Nat.pow_zero]at hsz;exact absurd hsz (Hat (ln3 (.a (.k 1) (.k 1)) (.v 2) [(1,.v 1,.a (.v 2) (.v 0)),(1,.a (.a (.v 0) (.k 1)) (.k 1),.v 1)] rfl Zcu (Hbb hLR hone)))
    |succ d=>
    let h:=(L+R)/2-L
    have hh1:1<=h:=Zue hLR hone;have hh2:L+h<R:=Hak (Han (Zpu hLR)) (Zzx hLR);have hmid:L+h=(L+R)/2:=Zpu hLR;have hpow:2^(d+1)=2*2^d:=by rw[Nat.pow_succ,Hco]
    have hs1:L+h-L<=2^d:=by rw[hmid];exact(lg 1 [_,_,_,_,_,_,_] (.v 4) (.v 6) [(1,.v 2,.v 3),(2,.a (.v 0) (.v 4),.v 5),(1,.v 1,.a (.v 2) (.v 0)),(1,.v 3,.l (.v 6) 2),(1,.l (.v 5) 2,.a (.v 0) (.v 1))] rfl hsz (Han hmid) Zcu (Han (Nat.pow_succ _ _)) (Nat.div_mul_le_self _ _))
    have hs2:R-(L+h)<=2^d:=by rw[hmid];exact(lg 1 [_,_,_,_,_,_,_] (.v 6) (.v 5) [(1,.v 2,.v 3),(1,.v 1,.a (.v 2) (.v 0)),(1,.v 3,.l (.v 5) 2),(1,.a (.a (.v 0) (.v 1)) (.k 1),.a (.l (.v 4) 2) (.k 2)),(2,.a (.v 6) (.v 4),.v 1)] rfl hsz Zcu (Han (Nat.pow_succ _ _)) (Nat.lt_div_mul_add (by decide)) (Han (Hb3 (ln4 (.v 3) (.v 1) [(1,.a (.a (.v 0) (.v 2)) (.k 1),.v 1),(1,.v 3,.a (.v 0) (.v 2))] rfl hh2 (Han hmid.symm)))))
    refine Hbx (Hbt (Hbs (Hbs ?_)) rfl)
    refine ldG F'1 hk1 (kL _ (iL rfl)) (v:=.int (L:Int) t2) rfl (by decide) ?_
    refine ldG F'1 hk1 (kL _ (iL rfl)) (v:=.int (R:Int) t3) rfl (by decide) ?_
    refine PySem.P.add_int (Hbr (PyProof.Rows.rshift_int (by decide) ?_))
    have em:((L:Int)+(R:Int)).fdiv (2^(1:Int).toNat)=((L+h:Nat):Int):=by
     rw[hmid,Hc1 _ (by decide)]
     exact Ygj L R
    rw[em];refine stG (F'1.tok) hk1 (kL _ (iL rfl)) Lnew' λs'2 m'2 F'2 g'2 o'2=>?_
    refine Hbx (Hbt (Hbs (Hbs ?_)) rfl)
    refine ldG F'2 hk1 (kL _ (iL rfl)) g'2 (by decide) ?_
    refine ldG F'2 hk1 (kL _ (iL rfl)) (v:=.int (L:Int) t2) ((o'2 _ (by decide)).trans rfl) (by decide) ?_
    refine PyProof.Rows.sub_int ?_
    refine lfG (F'2.tok) hk1 (kF _ I.k2) (by rw[hEC];exact I.l2) I.cell2 (by decide) (by decide) ?_
    refine PySem.P.mul_int ?_ ?_
    ·have e:((L+h:Nat):Int)-(L:Int)=(h:Int):=(Haf (li [] [_,_] (.s (.u (.a (.v 0) (.v 1))) (.u (.v 0))) (.u (.v 1)) [] rfl) (li [] [_,_] (.u (.v 1)) (.s (.u (.a (.v 0) (.v 1))) (.u (.v 0))) [] rfl));have eh:((h:Int)*(n:Int))=((h*n:Nat):Int):=by rw[Int.natCast_mul]
     rw[e,eh];refine stG (F'2.tok.tok) hk1 (kL _ (iL rfl)) Lnew' λs'5 m5 F5 g'5 o5=>?_
     have mL:m5 "L"=some (.int (L:Int) t2):=(o5 _ (by decide)).trans ((o'2 _ (by decide)).trans rfl)
     have mR:m5 "R"=some (.int (R:Int) t3):=(o5 _ (by decide)).trans ((o'2 _ (by decide)).trans rfl)
     have mM:=(o5 _ (by decide)).trans g'2
     have ik:∀{s'},InG s env.locals m5 s'->Zds s'.heap f c1 c2 c3 fd "digits" (.ref D) (.int (n:Int) tn):=λF=>I.keep λb o _ e=>F.keep b o e
     have lim':∀{s'},InG s env.locals m5 s'->s'.heap.NoLimit:=λF=>hlim.keeps F.keep
     refine Hbx (Hbu (Hbs (Hbs ?_)))
     refine Hbi ?_
     refine lfG F5 hk1 (kF _ I.k3) (by rw[hEC];exact I.l3) I.cell3 (by decide) (by decide) ?_
     refine Hbn (o:=o) (fd:=fd) (Zch (λv p h=>by cases h) ?_)
     rw[Zad (λv p h=>by cases h),Zad (λv p h=>by cases h)]
     refine Hbf (ldG F5 hk1 (kL _ (iL rfl)) mM (by decide) ?_)
     refine Hbf (ldG F5 hk1 (kL _ (iL rfl)) mR (by decide) (Hbe ?_))
     refine⟨⟨F5.keep f o ho,hd⟩,?_⟩
     refine ih d (Hbj d) (A.deeper env) _ s'5 (L+h) R _ _ _ hA (by rw[hdp];exact(ln3 (.a (.a (.a (.v 0) (.k 1)) (.v 1)) (.k 1)) (.v 2) [(1,.a (.a (.v 0) (.a (.v 1) (.k 1))) (.k 1),.v 2)] rfl hdep)) (lim' F5) (ik F5) ⟨np,F5.keep _ _ ep⟩ hh2 hs2 hRlen λs6 t'6 k'6 gg6 os6=>?_
     have F6:InG s env.locals m5 s6:=by
      refine⟨?_,λb o e=>k'6 b o (F5.keep b o e),gg6.trans F5.gens,os6.trans F5.os⟩
      obtain⟨o',es,e2,e3,r⟩:=F5.ns;exact⟨o',es,e2,k'6 _ _ e3,r⟩
     refine ldG F6 hk1 (kL _ (iL rfl)) g'5 (by decide) ?_
     have hhn:h*n<=10000000:=Hag (by rw[Hco];exact Hbd n (ln5 (.v 2) (.v 1) [(1,.v 0,.v 1),(1,.a (.v 3) (.v 2),.v 4),(1,.l (.v 4) 2,.a (.v 3) (.v 0))] rfl hRlen (Han hmid) (Nat.div_mul_le_self _ _))) hbits
     refine PyProof.Rows.lshift_int (Haa _) ?_ ?_
     ·have h1:=Zwc n (Zl3 qs (L+h) R) λx hx=>hlt x (Zxb hx)
      rw[Zo4 (by exact(ln3 (.v 2) (.v 0) [(1,.v 1,.v 0),(1,.v 2,.v 1)] rfl (Han hqv.symm) hRlen))]at h1
      have h2:=Zgf (x:=((Zfl n (Zl3 qs (L+h) R):Nat):Int)) (by rw[Hcn];exact h1)
      have h3:n*(R-(L+h))<=10000000:=Hag (Hbd n (ln3 (.v 2) (.v 1) [(1,.v 0,.v 1),(1,.v 2,.v 0)] rfl hRlen (Hbl _ _))) hbits;exact(li [] [_,_,_] (.a (.u (.v 1)) (.u (.v 0))) (.k (2^27)) [(1,.u (.v 0),.u (.k 10000000)),(1,.u (.v 1),.u (.v 2)),(1,.u (.v 2),.u (.k 10000000))] rfl (jO hhn) (jO h2) (jO h3))
     ·rw[Hc0];have F7:=F6.tok (tk:=s6.toks+1);refine Hbi ?_
      refine lfG F7 hk1 (kF _ I.k3) (by rw[hEC];exact I.l3) I.cell3 (by decide) (by decide) ?_
      refine Hbn (o:=o) (fd:=fd) (Zch (λv p h=>by cases h) ?_)
      rw[Zad (λv p h=>by cases h),Zad (λv p h=>by cases h)]
      refine Hbf (ldG F7 hk1 (kL _ (iL rfl)) mL (by decide) ?_)
      refine Hbf (ldG F7 hk1 (kL _ (iL rfl)) mM (by decide) (Hbe ?_))
      refine⟨⟨F7.keep f o ho,hd⟩,?_⟩
      refine ih d (Hbj d) (A.deeper env) _ _ L (L+h) _ _ _ hA (by rw[hdp];exact(ln3 (.a (.a (.a (.v 0) (.k 1)) (.v 1)) (.k 1)) (.v 2) [(1,.a (.a (.v 0) (.a (.v 1) (.k 1))) (.k 1),.v 2)] rfl hdep)) (lim' F7) (ik F7) ⟨np,F7.keep _ _ ep⟩ (ln2 (.a (.v 1) (.k 1)) (.a (.v 1) (.v 0)) [(1,.k 1,.v 0)] rfl hh1) hs1 (ln4 (.a (.v 2) (.v 3)) (.v 1) [(1,.v 0,.v 1),(1,.a (.a (.v 2) (.v 3)) (.k 1),.v 0)] rfl hRlen hh2) λs8 t8 k8 gg8 os8=>?_
      refine PySem.P.add_int ?_
      have ev:((Zfl n (Zl3 qs (L+h) R):Nat):Int)*2^(h*n)+((Zfl n (Zl3 qs L (L+h)):Nat):Int)=((Zfl n (Zl3 qs L R):Nat):Int):=by
       rw[Zxd (L:=L) (M:=L+h) (R:=R) (by exact(ln2 (.v 1) (.a (.v 1) (.v 0)) [] rfl)) (ln3 (.a (.v 0) (.v 1)) (.v 2) [(1,.a (.a (.v 0) (.v 1)) (.k 1),.v 2)] rfl hh2),Zc1,Zo4 (by exact(ln5 (.a (.v 3) (.v 4)) (.v 0) [(1,.v 1,.v 0),(1,.v 2,.v 1),(1,.a (.a (.v 3) (.v 4)) (.k 1),.v 2)] rfl (Han hqv.symm) hRlen hh2))]
       have:n*(L+h-L)=h*n:=by rw[Nat.add_sub_cancel_left,Hco]
       rw[this,Int.natCast_add,Int.natCast_mul,Int.add_comm,Int.mul_comm]
       rfl
      rw[ev];exact q _ _ (λb o e=>k8 b o (F7.keep b o e)) (gg8.trans F7.gens) (os8.trans F7.os)
    ·refine IntMulOk.of_left (PyProof.Rows.intBits_le ?_)
     have e:((L+h:Nat):Int)-(L:Int)=(h:Int):=(Haf (li [] [_,_] (.s (.u (.a (.v 0) (.v 1))) (.u (.v 0))) (.u (.v 1)) [] rfl) (li [] [_,_] (.u (.v 1)) (.s (.u (.a (.v 0) (.v 1))) (.u (.v 0))) [] rfl));rw[e,Hcn];exact(ln5 (.a (.v 3) (.k 1)) (.k (2^64)) [(1,.v 0,.k 1000000),(1,.v 1,.v 0),(1,.a (.v 2) (.v 3),.v 4),(1,.l (.v 4) 2,.a (.v 2) (.v 1))] rfl hlen hRlen (Han hmid) (Nat.div_mul_le_self _ _))
end
theorem Zqr{pos' pos:Pos}{c cv:Value}:∀(l:List Value),TriplesOk l->codeAmong pos' (l++[rawInt pos.line,rawInt pos.col,c])=some cv->codeAmong pos' l=some cv\/(pos'.line=pos.line/\cv=c):=by
 intro l h
 fun_induction TriplesOk l with
 |case1=>
  intro e;simp only[List.nil_append,rawInt,codeAmong]at e;split at e
  ·rename_i hc;rw[Hcd,beq_iff_eq]at hc;cases e;exact .inr ⟨by have:=hc.1;exact(Ham (Int.ofNat_le.mp (li [] [_,_] (.u (.v 1)) (.u (.v 0)) [(1,.u (.v 1),.u (.v 0))] rfl (Hab hc.1.symm))) (Int.ofNat_le.mp (li [] [_,_] (.u (.v 0)) (.u (.v 1)) [(1,.u (.v 0),.u (.v 1))] rfl (Hab hc.1)))),rfl⟩
  ·cases e
 |case2 a t b u x rest ih=>
  intro e;simp only[List.cons_append,codeAmong]at e ⊢;split at e
  ·rename_i hc;rw[if_pos hc];exact .inl e
  ·rename_i hc;rw[if_neg hc];exact ih h e
 |case3 l h1 h2=>exact h.elim
theorem Ybm{P:Addr}{ps:Array Value}{h':Heap}{tk:Nat}{pos:Pos}{c':Addr}(hT:T P)(hx:Heap.ExtBut P s.heap h')(hP:s.heap.get? P=some (tabObj ps))(hP':h'.get? P=some (tabObj (ps++ #[rawInt pos.line,rawInt pos.col,.ref c'])))
  (hr:Zi6 h' (.ref c') (Zms pos.line)):Ext T s {s with heap:=h',toks:=tk}:=by
 have keep2:∀b o,s.heap.get? b=some o->Zb0 o=false->h'.get? b=some o:=λb o e t=>hx b o (λq=>by rw[q,hP]at e;cases e;cases t) e
 refine⟨λb o n e=>hx b o (λq=>n (q▸hT)) e,keep2,λb tb t=>?_,λe=>e,rfl⟩
 have kc:∀c o,Zjb o=true->s.heap.get? c=some o->h'.get? c=some o:=λc o co e=>hx c o (λq=>by rw[q,hP]at e;cases e;exact bF ((Bool.and_false _).symm.trans co)) e
 by_cases q:b=P
 ·subst q;obtain⟨ps',e,r,hq⟩:=t;rw[hP]at e;cases e;refine⟨_,hP',?_,λpos' cv hc=>?_⟩
  ·have:(ps++ #[rawInt pos.line,rawInt pos.col,Value.ref c']).toList=ps.toList++[rawInt pos.line,rawInt pos.col,.ref c']:=by simp
   rw[this];exact TriplesOk_snoc _ _ _ _ r
  ·have:(ps++ #[rawInt pos.line,rawInt pos.col,Value.ref c']).toList=ps.toList++[rawInt pos.line,rawInt pos.col,.ref c']:=by simp
   rw[this]at hc;rcases Zqr _ r hc with hc|⟨hl,rfl⟩
   ·obtain⟨c,o,vs,t,e1,e2,cc,d,v⟩:=hq pos' cv hc;exact⟨c,o,vs,t,e1,kc c o (Zki d cc v) e2,cc,d,v⟩
   ·rw[hl];exact hr
 ·exact t.keep kc (λo e=>hx b o q e)
section
variable {prog:Program} {w:World} {A:Around} {E:Value->Shared->Prop} {s:Shared} {name qual:Str} {params:Arguments} {body:List Stmt} {scope:Scope} {env:Env} {c P:Addr} {ps:Array Value} {pos:Pos} {firstLine:Nat} {mg:Str->Option Value} {clos:List (Str×Addr)} {Q:Value->Shared->Prop}
theorem Zrh(hcl:closureFor scope env=pure clos)(hge0:env.globals=mainGlobals)(hg:s.heap.Ns mainGlobals mg)(hcode:env.code= .ref c)(C:CodeHd s.heap c P)(hP:s.heap.get? P=some (tabObj ps))(ht:TriplesOk ps.toList)
  (hnf:codeAmong pos ps.toList=none)(hgP:mainGlobals≠P)(hb:s.heap.BuiltinsAt mg P)
  (h:∀c' ctv doc h' tk,Heap.ExtBut P s.heap h'->s.heap.objs.size<=h'.objs.size->Zi6 h' (.ref c') qual->h'.get? P=some (tabObj (ps++ #[rawInt pos.line,rawInt pos.col,.ref c']))->
   Q (.ref h'.objs.size) {s with heap:=h'.push (fnMade name qual params body scope clos doc ((mg "__name__").getD .none) c' ctv),toks:=tk}):
  wpAny (model prog w) A (makeTail name qual params (.stmts body) scope env .none .none none pos firstLine) Q E s:=by
 have cr:∀{h':Heap} {c' P':Addr} {qs},h'.CodeRec (.ref c') qual->h'.TableAt c' P' qs->Zi6 h' (.ref c') qual:=λ{h' c' P' qs} hr ht=>by
  obtain⟨c'2,o,vs,t,e,e1,d,v⟩:=hr;cases e;obtain⟨⟨o',vs',e1',cc,_,_⟩,_⟩:=ht;rw[e1]at e1';cases e1';exact⟨_,o,vs,t,rfl,e1,by rw[cc];rfl,d,v⟩
 obtain⟨bm,ob,hbm,hne0,_,hneP,hbo,hcls,hdict,hdata⟩:=hb;unfold makeTail;rw[hcl,hge0];refine Ha6 (Hau ?_)
 cases clos with
 |nil=>
  simp only[List.isEmpty_nil,if_true];refine Ha6 (Hau ?_)
  refine Ha6 (wpAny_functionCodeX hcode (C.code hP ht) (C.tab hP) hnf λc' h' tk hx hge hlt _ hrec htb hnew=>?_)
  obtain⟨P',_,_,htc⟩:=hnew;have hg':=hg.extBut hx hgP;refine Ha6 (wpAny_builtinsFor hg' hbm hne0 (hx _ _ hneP hbo) hcls hdict hdata ?_)
  refine Ha6 (wpAny_nsGet hg' ?_)
  have hsz:=Hag hge (Haz hlt);cases hdoc:docOf body with
  |none=>exact Ha6 (Hau (Hbk (h c' .none .none h' tk hx hsz (cr hrec htc) htb.2) (by size_fits)))
  |some t=>exact Ha6 (wpAny_mkText (Hbk (h c' .none _ h' _ hx hsz (cr hrec htc) htb.2) (by size_fits)))
 |cons q r=>
  simp only[List.isEmpty_cons,Bool.false_eq_true,if_false];refine Ha6 (wpAny_newTextTuple ?_)
  refine Ha6 (wpAny_functionCodeX hcode ((C.keeps λb o e=>Hai _ e).code (Hai _ hP) ht) ((C.keeps λb o e=>Hai _ e).tab (Hai _ hP)) hnf λc' h' tk hx hge hlt _ hrec htb hnew=>?_)
  obtain⟨P',_,_,htc⟩:=hnew;have hg':=(hg.push _).extBut hx hgP;have hx':Heap.ExtBut P s.heap h':=λb o hb' e=>hx b o hb' (Hai _ e)
  have hsz:s.heap.objs.size<=h'.objs.size:=Hag (by rw[Hcx];exact(ln1 (.v 0) (.a (.v 0) (.k 1)) [] rfl)) (Hag hge (Haz hlt))
  refine Ha6 (wpAny_builtinsFor hg' hbm hne0 (hx' _ _ hneP hbo) hcls hdict hdata ?_)
  refine Ha6 (wpAny_nsGet hg' ?_)
  cases hdoc:docOf body with
  |none=>exact Ha6 (Hau (Hbk (h c' _ .none h' tk hx' hsz (cr hrec htc) htb.2) (by size_fits)))
  |some t=>exact Ha6 (wpAny_mkText (Hbk (h c' _ _ h' _ hx' hsz (cr hrec htc) htb.2) (by size_fits)))
end
section
variable {prog:Program} {w:World} {A:Around} {E:Value->Shared->Prop} {T:Addr->Prop} {σ:Sg} {mg mb:Str->Option Value} {s0 s:Shared} {k n fo:Nat} {nm fn:Nat->Str} {env:Env} {sc:List (Str×NameKind)} {name:Str} {params:Arguments} {body:List Stmt} {scope:Scope} {c P:Addr} {pos:Pos}
theorem Zlx(bs:Bs T mg mb s0 s)(C:CodeHd s0.heap c P):CodeHd s.heap c P:=by
 obtain⟨o,vs,file,tf,flags,tg,inF,text,tt,e,hc,r⟩:=C;exact⟨o,vs,file,tf,flags,tg,inF,text,tt,bs.ext.keep2 _ _ e (Zag ⟨_,hc⟩),hc,r⟩
theorem Zl5(bs:Bs T mg mb s0 s)(ok:Zcg env sc)(hcode:env.code= .ref c)(C:CodeHd s0.heap c P)(hT:T P)(hb:s0.heap.BuiltinsAt mg P)(hd0:params.defaults=[])(hk0:params.kw_defaults=[])(ha:annTrees params none env=[])
  (hq:qualnameIn env name name=Zms pos.line)(hcl:∀n k,(n,k)∈scope.names->k= .free->∃c,env.cells.lookup n=some c){Q:Flow->Shared->Prop}
  (q:∀(f:Addr) (fd:FuncData) (o:Obj) s',Ext T s s'->s.heap.get? f=none->s'.heap.get? f=some o->o.data= .func fd->Zi6 s'.heap fd.code fd.qualname->fd.params=params->fd.body= .stmts body->fd.scope=scope->fd.closure=Za2 env scope.names []->fd.defaults= .none->fd.kwdefaults= .none->
   wpAny (model prog w) A (storeName env name (.ref f)) (λ_ s''=>Q .next s'') E s'):
  wpAny (model prog w) A (exec (.FunctionDef name params body [] none [] scope none name pos) env) Q E s:=by
 refine nestDef_K hd0 hk0 ha ?_
 rw[makeFunction_eq];simp only[List.zip_nil_right,List.filterMap_nil,List.isEmpty_nil,if_true,pure_bind];obtain⟨ps,hP,ht,hcs⟩:=bs.ext.tab P hT (bs.tabs P hT);have hg:=bs.ng;have hgP:mainGlobals≠P:=λe=>by
  obtain⟨o,es,ep,e1,hd,_⟩:=hg;rw[e,hP]at e1;cases e1;cases hd
 have hb':s.heap.BuiltinsAt mg P:=by
  obtain⟨bm,o,h1,h2,h3,h4,h5,h6,h7,h8⟩:=hb;exact⟨bm,o,h1,h2,h3,h4,bs.ext.keep2 _ _ h5 (Zag ⟨_,h6⟩),h6,h7,h8⟩
 have hcf:=Zfs (env:=env) hcl;cases hf:codeAmong pos ps.toList with
 |none=>
  refine Zrh hcf ok.glob hg hcode (Zlx bs C) hP ht hf hgP hb' λc' ctv doc h' tk hx hsz hr hP'=>?_
  rw[hq]at hr;have x'1:Ext T s {s with heap:=h',toks:=tk}:=Ybm hT hx hP hP' hr
  refine q _ _ _ _ (x'1.trans (.push (tk:=tk))) (Zae hsz) (Hb7 _ rfl) rfl ?_ rfl rfl rfl rfl rfl rfl
  obtain⟨c'2,o,vs,t,e1,e2,cc,d,v⟩:=hr;refine⟨c'2,o,vs,t,e1,Hai _ e2,cc,d,?_⟩
  rw[v];rw[hq]
 |some cv=>
  have hr:=hcs pos cv hf;refine makeTail_hit hcf ok.glob hg hcode (Zlx bs C) hP ht hf hb' λctv doc h' tk hk hsz=>?_
  refine q _ _ _ _ ((Ext.of_keeps (tk:=tk) hk).trans (.push (tk:=tk))) (Zae hsz) (Hb7 _ rfl) rfl ?_ rfl rfl rfl rfl rfl rfl
  obtain⟨c'2,o,vs,t,e1,e2,cc,d,v⟩:=hr;refine⟨c'2,o,vs,t,e1,Hai _ (hk _ _ e2),cc,d,?_⟩
  rw[v];rw[hq]
end
theorem Zyd{l:Addr}{vs:Array Value}{nn:Nat}{x:Int}{u:Tok}{Q:Value->Shared->Prop}(ho:s.heap.get? l=some (Za3 vs nn))(hv:vs.size=1)(h0:0<=x)(hx:x<=1000000)
  (h:Q (.ref s.heap.objs.size) {s with heap:=s.heap.push (Za3 (List.replicate x.toNat vs.toList).flatten.toArray 0)}):wpAny (model prog w) A (binaryOp .Mult (.ref l) (.int x u)) Q E s:=by
 refine wpAny_binaryOp_repeat_ref (T:="list") (U:="int") (by decide) ⟨_,ho,rfl⟩ (λs'=>typeIs_int s' x u) noFill_list_mul F.fills_int_mul F.slot_int_rmul repeat_list F.slot_int_index.lookup
  (call_meets F.slot_int_rmul (typeIs_int s x u) F.entry_int_rmul (F.args_int_rmul_2 _ _) (lm_int_rmul_list_any x u l vs nn none #[])
   ⟨ho,rfl,⟨_,ho,rfl⟩,call_meets F.slot_list_mul ⟨_,ho,rfl⟩ F.entry_list_mul (F.args_list_mul_2 _ _)
    (lm_list_mul_any l vs nn none #[] x u (by simp[Builtin.List.listFitsIndex];exact⟨(li [_] [] (.k (-9223372036854775808)) (.v 0) [(1,.k 0,.v 0)] rfl h0),(li [_] [] (.a (.v 0) (.k 1)) (.k 9223372036854775808) [(1,.v 0,.k 1000000)] rfl hx)⟩) (by rw[hv];omega) (by simp[Builtin.List.listTooLong,sizeLine,hv];exact(li [_] [] (.v 0) (.k 16777216) [(1,.v 0,.k 1000000)] rfl hx)))
    ⟨ho,?_⟩⟩)
 rw[listMul_foldl_if];exact h
theorem mul_one{l:Addr}{v:Value}{nn x:Nat}{u:Tok}{Q:Value->Shared->Prop}(ho:s.heap.get? l=some (Za3 #[v] nn))(hx:x<=1000000)
  (h:Q (.ref s.heap.objs.size) {s with heap:=s.heap.push (Za3 (List.replicate x v).toArray 0)}):wpAny (model prog w) A (binaryOp .Mult (.ref l) (.int (x:Int) u)) Q E s:=by
 refine Zyd ho rfl (Haa _) (li [] [_] (.u (.v 0)) (.k 1000000) [(1,.u (.v 0),.u (.k 1000000))] rfl (jO hx)) ?_
 have e:∀x:Nat,(List.replicate x [v]).flatten=List.replicate x v:=λx=>by
  induction x with
  |zero=>rfl
  |succ x ih=>rw[List.replicate_succ,Hcf,ih,List.replicate_succ];rfl
 rw[Hc0,e];exact h
theorem Zpj(hk:k+1<=100)(hnm:Zb6 nm){a:Addr}{fd:FuncData}{body:List Stmt}(F:Zna s0 a fd body){xs:List Nat}{ds:List D}{d:D}
  (hbind:Zgc nm fd xs)(hxs:Za6 xs=true)(hfit:(xs.all λx=>Zai fd.scope.names (nm x))=true)(hlen:xs.length=ds.length)
  (hbody:∀(A':Around) (E':Value->Shared->Prop) (N2:Addr->Prop) (env:Env) (L:Addr) (s'1:Shared),env=callEnvC fd L a->At T σ mg mb s0 nm fd.scope.names (k+1) A' N2 env s'1 (xs.zip ds) [] []->
   wpAny (model prog w) A' (execs body env) (λfl s'=>∃v,fl= .ret v/\Rd σ N2 s'.heap v d/\Upd T (Frm env) s'1 s') E' s'1):
  ∀(A:Around) (E:Value->Shared->Prop) (N:Addr->Prop) (s:Shared) (vs:List Value) (Q:Value->Shared->Prop),AOk k A->Bs T mg mb s0 s->(∀a,N a->Occ s.heap a)->RdL σ N s.heap vs ds->Zd9 T σ N s d Q->wpAny (model prog w) A (call (.ref a) vs) Q E s:=by
 intro A E N s vs Q ha bs occ rs q;obtain⟨o,ho,hd⟩:=F.at';obtain⟨nk,np⟩:=Zba F.names;have hfit':=λy hy=>bAll hfit y hy
 refine wpAny_call (codeAny_call_cells (fd:=fd) (body:=body) (binds:=(xs.map nm).zip vs) (ha.room (Hba hk)) (bs.ext.keep2 a o ho (Za0 (by rw[hd];rfl))) hd (bs.ext.nolimit F.lim) (Zdm bs F.rec')
  F.body (hbind vs (by rw[hlen,rs.length])) F.clo (λy hy=>?_) (λs'1 x=>?_) F.co F.gen F.kind)
 ·have:=(List.of_mem_zip (a:=y.1) (b:=y.2) hy).1;obtain⟨z,hz,he⟩:=List.mem_map.mp this;have hf:=hfit' z hz;unfold Zai at hf;have hf:=Zaa hf;rw[he]at hf;rcases(Hb9 _ _).mp hf.1 with q|q
  ·exact .inl (Hb5 q)
  ·have q:=Hb5 q;obtain⟨c,hc,_⟩:=Zap fd.scope.names (s.heap.objs.size+1) [] np (mem_of_lookup q);exact .inr ⟨q,by rw[hc];rfl⟩
 ·obtain⟨at1,ext,frmN⟩:=Zkr hnm F hxs hfit ha bs occ rs rfl x;refine Ha4 (hbody _ _ _ _ _ s'1 rfl at1) (λfl s' ho=>?_) λ_ _ e=>e
  obtain⟨v,rfl,hr,u⟩:=ho;refine q v s' ?_ (hr.mono λb o hn e _=>⟨λh=>hn (.inl h),e⟩)
  exact Zcq.ext2 ext u.gone frmN
theorem Zma{a b:Nat}{t u:Tok}{Q:Value->Shared->Prop}(hb:1<=b)(hl:b<=1000000)(q:∀tk t',Q (.int ((a/b:Nat):Int) t') {s with toks:=tk}):wpAny (model prog w) A (binaryOp .FloorDiv (.int (a:Int) t) (.int (b:Int) u)) Q E s:=by
 have e:((a:Int)).fdiv (b:Int)=((a/b:Nat):Int):=by rw[Hc1 _ (by exact(li [] [_] (.k 0) (.u (.v 0)) [] rfl))];rfl
 refine PyProof.Rows.floordiv_int (Haq (li [] [_] (.a (.k 0) (.k 1)) (.u (.v 0)) [(1,.u (.k 1),.u (.v 0))] rfl (jO hb))) ?_ (.inl (PyProof.noPylong_small (absS (li [] [_] (.a (.u (.v 0)) (.k 1)) (.u (.k 1073741824)) [(1,.u (.v 0),.u (.k 1000000))] rfl (jO hl)) (li [] [_] (.a (.g (.u (.v 0))) (.k 1)) (.u (.k 1073741824)) [] rfl))))
 rw[e];exact q _ _
theorem Zyr{h:Heap}:∀{l:List Nat} {vs:List Value},vs.length=l.length->(∀(i q:Nat),l[i]?=some q->∃t,vs[i]?=some (Value.int (q:Int) t))->RdL σ N h vs (l.map λ(q:Nat)=>D.int (.k (q:Int))):=by
 intro l
 induction l with
 |nil=>exact λhl _=>List.eq_nil_of_length_eq_zero hl▸.nil
 |cons q l ih=>
  intro vs hl h;cases vs with
  |nil=>exact nomatch hl
  |cons v vs=>
   obtain⟨t,e⟩:=h 0 q rfl;rw[sI e];exact .cons (.int rfl) (ih (Nat.succ.inj hl) λi q' e=>h (i+1) q' e)
theorem Zy9{D:Addr}{vs vs':Array Value}(h1:s.heap.PlainList D vs)(h2:s'.heap.PlainList D vs')(k:∀b o,b≠D->s.heap.get? b=some o->s'.heap.get? b=some o)(hg:s'.gens=s.gens)(ho:s'.os=s.os):Upd T (·=D) s s':=by
 obtain⟨n1,e1⟩:=h1;obtain⟨n2,e2⟩:=h2;refine⟨λb o _ hw e=>k b o hw e,λb o hw e _=>k b o hw e,λb ⟨o,e,t⟩=>?_,λb tb t=>?_,λp=>hg▸p,ho⟩
 ·by_cases q:b=D
  ·rw[q];exact⟨_,e2,rfl⟩
  ·exact⟨o,k b o q e,t⟩
 ·have hb:b≠D:=λq=>by
   obtain⟨ps,e,_⟩:=t;rw[q,e1]at e;cases e
  exact t.keep (λc o co e=>k c o (λq=>by rw[q,e1]at e;cases e;cases co) e) (λo e=>k b o hb e)
theorem Zam.cellAt{h:Heap}{x:Str}{v:Value}(y:Zam env h x v)(hk:env.kindOf x=some .cell):∃c,env.cells.lookup x=some c/\h.IsCell c (some v):=by
 rcases y with⟨h1,_⟩|⟨_,_,c,h3,h4⟩
 ·rw[hk]at h1;cases h1
 ·exact⟨c,h3,h4⟩
theorem Zi6.upd{W:Addr->Prop}{cd:Value}{q:Str}(x:Zi6 s.heap cd q)(u:Upd T W s s')(hW:∀a,W a->Za9 s.heap a):Zi6 s'.heap cd q:=by
 obtain⟨c,o,vs,t,e,e1,cc,d,v⟩:=x;refine⟨c,o,vs,t,e,u.keep2 c o (λhw=>(hW c hw).absurd (Zki d cc v) e1) e1 ?_,cc,d,v⟩
 cases hc:o.cls with
 |none=>rw[hc]at cc;exact bF cc
 |_=>rw[Zb0,hc];rfl
theorem Upd.keepF{W:Addr->Prop}{f:Addr}{o:Obj}{fd:FuncData}(u:Upd T W s s')(e:s.heap.get? f=some o)(d:o.data= .func fd)(hw:¬W f):s'.heap.get? f=some o:=
 u.keep2 f o hw e (Za0 (by rw[d];rfl))
section
variable {env:Env} {r:List (Str×NameKind)} {acc:List (Str×Addr)} {n:Str}
theorem Zb7{c:Addr}(h:env.cells.lookup n=some c):Za2 env ((n,.free)::r) acc=Za2 env r ((n,c)::acc):=by rw[Zev,h];rfl
theorem Zaw:Za2 env ((n,.local)::r) acc=Za2 env r acc:=rfl
theorem Zn2{x y:Str}{c:Addr}{r:List (Str×Addr)}(h:(x==y)=false):List.lookup x ((y,c)::r)=List.lookup x r:=by rw[Hcq,h]
theorem Zn1{x:Str}{c:Addr}{r:List (Str×Addr)}:List.lookup x ((x,c)::r)=some c:=by rw[Hcq,Hcl]
theorem Ygf{x y z:Str}{a b c:Addr}(h1:(x==y)=false)(h2:(x==z)=false)(h3:(y==z)=false):([(x,a),(y,b),(z,c)]:List (Str×Addr)).lookup x=some a/\([(x,a),(y,b),(z,c)]:List (Str×Addr)).lookup y=some b/\([(x,a),(y,b),(z,c)]:List (Str×Addr)).lookup z=some c:=by
 have s:∀{u v:Str},(u==v)=false->(v==u)=false:=λh=>by
  rw[beq_eq_false_iff_ne]at h ⊢;exact h.symm
 exact⟨Zn1,by rw[Zn2 (s h1),Zn1],by rw[Zn2 (s h2),Zn2 (s h3),Zn1]⟩
end
noncomputable abbrev Yb5(params:Arguments)(isc:Scope):List Stmt:=[
 .Assign [.Name "a_digits" (Zel 0)] (.BinOp (.List [.Constant (.int 0) 0 (Zel 1)] (Zel 2)) .Mult (.BinOp (.BinOp (.BinOp (.Call (.Attribute (.Name "a" (Zel 3)) "bit_length" (Zel 4)) [] [] (Zel 5)) .Add (.Name "n" (Zel 6)) (Zel 7)) .Sub (.Constant (.int 1) 0 (Zel 8)) (Zel 9)) .FloorDiv (.Name "n" (Zel 10)) (Zel 11)) (Zel 12)) (Zel 13),
 .FunctionDef "inner" params Zkw [] none [] isc none "inner" (Zel 14),
 .If (.Name "a" (Zel 15)) [.Expr (.Call (.Name "inner" (Zel 16)) [.Name "a" (Zel 17),.Constant (.int 0) 0 (Zel 18),.Call (.Name "len" (Zel 19)) [.Name "a_digits" (Zel 20)] [] (Zel 21)] [] (Zel 22)) (Zel 23)] [] (Zel 24),
 .Return (some (.Name "a_digits" (Zel 25))) (Zel 26)]
noncomputable abbrev Zxz:List (Str×NameKind):=[("x",.local),("L",.local),("R",.local),("mid",.local),("shift",.local),("upper",.local),("lower",.local),("a_digits",.free),("inner",.free),("n",.free)]
noncomputable abbrev Yfx:List (Str×NameKind):=[("a",.local),("n",.cell),("a_digits",.cell),("inner",.cell),("len",.globalImplicit)]
noncomputable def Zkc:List Str:=["a","n"]
theorem Zqs:Zb6 (Za4 Zkc):=Zdi (by decide+kernel) (by decide+kernel) (by decide+kernel)
theorem Zw1{env:Env}{c1 c2 c3:Addr}(l1:env.cells.lookup ("a_digits":Str)=some c1)(l2:env.cells.lookup ("n":Str)=some c2)(l3:env.cells.lookup ("inner":Str)=some c3):Za2 env Zxz []=([("n",c2),("inner",c3),("a_digits",c1)]:List (Str×Addr)):=by
 unfold Zxz;rw[Zaw,Zaw,Zaw,Zaw,Zaw,Zaw,Zaw,Zb7 l1,Zb7 l3,Zb7 l2]
 rfl
noncomputable def Zep(n X:Nat):Nat:=((Builtin.Int.intBits (X:Int))+n-1)/n
theorem Zkf(X:Nat):X<2^Builtin.Int.intBits (X:Int):=by
 unfold Builtin.Int.intBits;rw[Hcn];by_cases h:X=0
 ·subst h;simp
 ·split
  ·rename_i h2;simp at h2;exact(ln1 (.a (.v 0) (.k 1)) (.k (2^0)) [(1,.v 0,.k 0)] rfl (Han h2))
  ·exact Nat.lt_log2_self
theorem Zim{n X:Nat}(hn:1<=n):Builtin.Int.intBits (X:Int)<=n*Zep n X:=by
 unfold Zep
 generalize Builtin.Int.intBits (X:Int)=b
 have:=Nat.div_add_mod (b+n-1) n;have h2:=Nat.mod_lt (b+n-1) (show n>0 from(ln1 (.a (.k 0) (.k 1)) (.v 0) [(1,.k 1,.v 0)] rfl hn))
 generalize n*((b+n-1)/n)=z at*
 exact(ln5 (.v 4) (.v 2) [(1,.a (.v 0) (.k 1),.v 1),(1,.v 3,.a (.v 2) (.v 0)),(1,.a (.v 4) (.v 1),.a (.v 3) (.k 1))] rfl h2 (Han this.symm) Zcu)
theorem Zye{n X:Nat}(hn:1<=n)(hX:X≠0):1<=Zep n X:=by
 have h1:=Zim (X:=X) hn;have h2:=Zkf X;cases h:Zep n X with
 |zero=>
  rw[h,Nat.mul_zero]at h1;have:Builtin.Int.intBits (X:Int)=0:=(Ham h1 (ln1 (.k 0) (.v 0) [] rfl));rw[this]at h2;exact(ln1 (.k 1) (.k 0) [(1,.a (.v 0) (.k 1),.k 0)] rfl (Hbb (ln1 (.v 0) (.k 0) [(1,.a (.v 0) (.k 1),.k (2^0))] rfl h2) hX))
 |succ m=>exact(ln1 (.k 1) (.a (.v 0) (.k 1)) [] rfl)
theorem Zuf{n X:Nat}(hn:1<=n):Zep n X<=Builtin.Int.intBits (X:Int):=by
 unfold Zep
 generalize Builtin.Int.intBits (X:Int)=b
 cases b with
 |zero=>simp;exact(Or.inr (Han (Hb3 hn)))
 |succ b=>
  rw[Nat.div_le_iff_le_mul_add_pred (by exact(ln1 (.a (.k 0) (.k 1)) (.v 0) [(1,.k 1,.v 0)] rfl hn))]
  have:b+1<=n*(b+1):=Nat.le_mul_of_pos_left _ (ln1 (.a (.k 0) (.k 1)) (.v 0) [(1,.k 1,.v 0)] rfl hn);exact(ln5 (.v 3) (.a (.v 2) (.v 4)) [(1,.a (.v 1) (.k 1),.v 2),(1,.v 0,.a (.v 4) (.k 1)),(1,.a (.v 3) (.k 1),.a (.a (.v 1) (.k 1)) (.v 0))] rfl this Zcu (Han (Hb3 (ln2 (.k 1) (.a (.a (.v 1) (.k 1)) (.v 0)) [] rfl))))
set_option tactic.hygienic true in
theorem Yfy(hk:k+1<=100){a c P:Addr}{fd:FuncData}{params:Arguments}{isc:Scope}(F:Zna s0 a fd (Yb5 params isc))(hbind:Zgc (Za4 Zkc) fd [0,1])(hsc:fd.scope.names=Yfx)(hcode:fd.code= .ref c)(hqual:fd.qualname="_int2digits")
  (C:CodeHd s0.heap c P)(hT:T P)(hb:s0.heap.BuiltinsAt mg P)(hd0:params.defaults=[])(hk0:params.kw_defaults=[])(ha:∀env,annTrees params none env=[])(hline:Zms (Zel 14).line="_int2digits.<locals>.inner")(hl:((Zel 4).endLine==(Zel 5).line)=true)
  (hin:isc.names=Zxz)(hikind:isc.kind= .function)(hico:isc.isCoroutine=false)(higen:isc.isGenerator=false)
  (hbindI:∀fd':FuncData,fd'.params=params->fd'.defaults= .none->fd'.kwdefaults= .none->∀a b c,bindArgs fd' ⟨[a,b,c],[]⟩=pure [(("x":Str),a),("L",b),("R",c)])
  {n X:Nat}{pX pn:PX}(eX:pX.ev σ=(X:Int))(en:pn.ev σ=(n:Int))(hn1:1<=n)(hn2:n<=100000)(hX:X<2^100000):
  ∀(A:Around) (E:Value->Shared->Prop) (N:Addr->Prop) (s:Shared) (vs:List Value) (Q:Value->Shared->Prop),AOk k A->Bs T mg mb s0 s->(∀a,N a->Occ s.heap a)->RdL σ N s.heap vs [.int pX,.int pn]->
   Zd9 T σ N s (.lst ((List.range (Zep n X)).map λ(j:Nat)=>Internal.D.int (.k ((dg n X j:Nat):Int)))) Q->wpAny (model prog w) A (call (.ref a) vs) Q E s:=by
 have hbits:Builtin.Int.intBits (X:Int)<=100000:=Zgf (by rw[Hcn];exact hX)
 have hm:=Zuf (X:=X) hn1;refine Zpj hk Zqs F hbind rfl (by rw[hsc];decide+kernel) rfl λA' E' N2 env L s'1 henv x'1=>?_
 have hco:env.code= .ref c:=by rw[henv];exact hcode
 have hqu:env.qual="_int2digits.<locals>.":=by rw[henv];show fd.qualname++_=_;rw[hqual];decide+kernel
 have K:∀y kd,fd.scope.names.lookup y=some kd->env.kindOf y=some kd:=λy kd h=>by rw[x'1.ok.kindOf];exact h
 have ka:env.kindOf ("a":Str)=some .local:=K _ _ (by rw[hsc];decide+kernel)
 have kn:env.kindOf ("n":Str)=some .cell:=K _ _ (by rw[hsc];decide+kernel)
 have kd:env.kindOf ("a_digits":Str)=some .cell:=K _ _ (by rw[hsc];decide+kernel)
 have ki:env.kindOf ("inner":Str)=some .cell:=K _ _ (by rw[hsc];decide+kernel)
 have klen:env.kindOf ("len":Str)=some .globalImplicit:=K _ _ (by rw[hsc];decide+kernel)
 obtain⟨va,Va,ra⟩:=x'1.rel.one 0 (.int pX) rfl (by show Zi4 (env.kindOf "a")=true;rw[ka];rfl)
 obtain⟨vn,Vn,rn⟩:=x'1.rel.one 1 (.int pn) rfl (by show Zi4 (env.kindOf "n")=true;rw[kn];rfl)
 cases ra with|int e1=>
 cases rn with|int e2=>
 rename_i iX tX iN tN;have e1:(X:Int)=iX:=by rw[←e1,eX]
 have e2:(n:Int)=iN:=by rw[←e2,en]
 subst e1 e2;have Va:Zam env s'1.heap "a" (.int (X:Int) tX):=Va;have Vn:Zam env s'1.heap "n" (.int (n:Int) tN):=Vn;have kk:=x'1.ok.kind;refine Hbx (Hbt (Hbs (List_ ?_)) rfl)
 rw[Zad (λv p h=>by cases h)]
 refine Hbf (Hbr (k:=0) (pos:=Zel 1) (Hbe ?_))
 refine Hbk ?_ (by show _<=sizeLine;rw[sizeLine_eq];simp)
 have X1:Ext T s'1 {s'1 with heap:=s'1.heap.push (Za3 [Value.int 0 s'1.toks].toArray 0),toks:=s'1.toks+1}:=.push
 refine Hbs (Hbs (Hbs (Zc6 (args:=[]) (Zat rfl) rfl hl ?_)))
 refine(Va.ext X1).load kk (by decide) λpl=>?_
 refine PyProof.Rows.getMethod_int_bit_length ?_
 refine callWith_builtin_kwB rfl rfl (Zbk (es:=[]) (ms:=[]) (nm:=Za4 Zkc) (fn:=Za4 Zkc) (fo:=0) (sc:=[]) rfl (Hbe ?_))
 refine PyProof.Rows.call_int_bit_length ?_
 refine(Vn.ext (X1.trans (.toks (tk:=_)))).load kk (by decide) ?_
 refine PySem.P.add_int (Hbr (k:=0) (pos:=Zel 8) (PyProof.Rows.sub_int ?_))
 refine(Vn.ext ((X1.trans (.toks (tk:=_))).trans (.toks (tk:=_)))).load kk (by decide) ?_
 have eS:((Builtin.Int.intBits (X:Int):Nat):Int)+(n:Int)-1=((Builtin.Int.intBits (X:Int)+n-1:Nat):Int):=(Haf (li [] [_,_,_] (.s (.a (.u (.v 1)) (.u (.v 0))) (.k 1)) (.u (.v 2)) [(1,.u (.a (.v 1) (.v 0)),.u (.a (.v 2) (.k 1)))] rfl (jO Zcu)) (li [] [_,_,_] (.u (.v 2)) (.s (.a (.u (.v 1)) (.u (.v 0))) (.k 1)) [(1,.u (.a (.v 2) (.k 1)),.u (.a (.v 1) (.v 0)))] rfl (jO (Han (Hb3 (ln2 (.k 1) (.a (.v 1) (.v 0)) [(1,.k 1,.v 0)] rfl hn1))))));rw[eS];refine Zma hn1 (ln1 (.v 0) (.k 1000000) [(1,.v 0,.k 100000)] rfl hn2) λtk t'=>?_
 refine mul_one (Hb7 _ rfl) (by show Zep n X<=_;exact(ln2 (.v 1) (.k 1000000) [(1,.v 0,.k 100000),(1,.v 1,.v 0)] rfl hbits hm)) ?_
 show wpAny _ _ (storeName env "a_digits" (.ref (s'1.heap.push (Za3 [Value.int 0 s'1.toks].toArray 0)).objs.size)) _ _ {s'1 with heap:=(s'1.heap.push (Za3 [Value.int 0 s'1.toks].toArray 0)).push (Za3 (List.replicate (Zep n X) (Value.int 0 s'1.toks)).toArray 0),toks:=tk}
 generalize hH:s'1.heap.push (Za3 [Value.int 0 s'1.toks].toArray 0)=H
 have hHk:∀b o,s'1.heap.get? b=some o->H.get? b=some o:=λb o e=>hH▸Hai _ e
 have hHs:s'1.heap.objs.size<=H.objs.size:=by rw[←hH,Hcx];exact(ln1 (.v 0) (.a (.v 0) (.k 1)) [] rfl)
 generalize hR:(List.replicate (Zep n X) (Value.int 0 s'1.toks))=R0
 have hRl:R0.length=Zep n X:=by rw[←hR,List.length_replicate]
 have hD1:s'1.heap.get? H.objs.size=none:=Zae hHs
 generalize hDD:H.objs.size=D at hD1
 have pD:(H.push (Za3 R0.toArray 0)).PlainList D R0.toArray:=⟨0,hDD▸Hb7 _ rfl⟩;have X2:Ext T s'1 {s'1 with heap:=H.push (Za3 R0.toArray 0),toks:=tk}:=.of_keeps λb o e=>Hai _ (hHk b o e)
 obtain⟨cd,Sd⟩:=Zb2 x'1.ok (id:="a_digits") (by rw[hsc];decide+kernel)
 refine stored x'1.ok (x'1.rel.sl.ext X2) X2 Sd (Zbm x'1.bs x'1.rel.sl Sd.frm) λs3 u'3 st3=>?_
 have hDd:D≠cd:=λe=>by
  obtain⟨o,e2,_⟩:=x'1.rel.sl.frm_occ Sd.frm;rw[←e,hD1]at e2;cases e2
 have pD3:s3.heap.PlainList D R0.toArray:=Za8 u'3 pD hDd;have bs3:Bs T mg mb s0 s3:=x'1.bs.upd st3.upd λb e=>e▸x'1.young.frm _ Sd.frm
 have Va3:=st3.others _ _ (by decide) Va
 have Vn3:=st3.others _ _ (by decide) Vn
 refine Hbx (Zl5 bs3 x'1.ok hco C hT hb hd0 hk0 (ha env) ?_ (λy kd hy hkd=>?_) λf fd' o s4 X4 hf0 hf1 hfd hrec hp hbody hscope hclos hdv hkw=>?_)
 ·unfold qualnameIn;rw[ki,hqu,hline]
  decide+kernel
 ·rw[hin]at hy;subst hkd;have:y="a_digits"\/y="inner"\/y="n":=by
   simp only[Zxz,List.mem_cons,Prod.mk.injEq,Hch,or_false,reduceCtorEq,and_false,and_true,false_or]at hy;exact hy
  refine x'1.ok.cells y (.inl ?_)
  rcases this with rfl|rfl|rfl<;>(rw[hsc];decide+kernel)
 obtain⟨ci,Si⟩:=Zb2 x'1.ok (id:="inner") (by rw[hsc];decide+kernel)
 refine stored x'1.ok (st3.slots.ext X4) X4 Si (Zbm bs3 st3.slots Si.frm) λs'5 u5 st5=>?_
 have fi:f≠ci:=λe=>by
  obtain⟨o,e2,_⟩:=st3.slots.frm_occ (s:=s3) Si.frm;rw[←e,hf0]at e2;cases e2
 have hDi:D≠ci:=λe=>by
  obtain⟨o,e2,_⟩:=x'1.rel.sl.frm_occ Si.frm;rw[←e,hD1]at e2;cases e2
 have pD5:s'5.heap.PlainList D R0.toArray:=Za8 st5.upd pD3 hDi;have bs5:Bs T mg mb s0 s'5:=bs3.upd st5.upd λb e=>e▸x'1.young.frm _ Si.frm
 have Va5:=st5.others _ _ (by decide) Va3
 have Vn5:=st5.others _ _ (by decide) Vn3
 have Vd5:=st5.others _ _ (by decide) st3.var
 have Vi5:=st5.var;obtain⟨c1,l1,h1⟩:=Vd5.cellAt kd;obtain⟨c2,l2,h2⟩:=Vn5.cellAt kn;obtain⟨c3,l3,h3⟩:=Vi5.cellAt ki;have nocode:∀a,a=ci->Za9 s4.heap a:=λa e=>by
  subst e;obtain⟨v,hv⟩:∃v,s4.heap.IsCell a v:=by
   rcases Si with⟨h,_⟩|⟨_,_,h⟩
   ·rw[ki]at h;cases h
   ·exact(st3.slots.ext X4).cells _ _ (mem_of_lookup h)
  exact .cell hv
 have I:Zds s'5.heap f c1 c2 c3 fd' "a_digits" (.ref D) (.int (n:Int) tN):=by
  have ec:fd'.closure=([("n",c2),("inner",c3),("a_digits",c1)]:List (Str×Addr)):=by rw[hclos,hin,Zw1 l1 l2 l3]
  obtain⟨k2,k3,k1⟩:=Ygf (x:="n") (y:="inner") (z:="a_digits") (a:=c2) (b:=c3) (c:=c1) (by decide) (by decide) (by decide)
  refine⟨⟨o,u5.keepF hf1 hfd fi,hfd⟩,(hrec.upd u5 nocode).rec',h1,h2,h3,?_,?_,?_,?_,?_,?_,by rw[hscope];exact hikind,by rw[hscope];exact hico,by rw[hscope];exact higen,?_⟩
  ·rw[ec];exact k1
  ·rw[ec];exact k2
  ·rw[ec];exact k3
  ·rw[hscope,hin];decide+kernel
  ·rw[hscope,hin];decide+kernel
  ·rw[hscope,hin];decide+kernel
  ·rw[hscope,hin];decide+kernel
 have hint:interactive env=false:=by unfold interactive;rw[kk];rfl
 have fin:∀(s6:Shared) (vs':List Value),Upd T (·=D) s'5 s6->s6.heap.PlainList D vs'.toArray->Zql n X 0 (Zep n X) R0 vs'->
   wpAny (model prog w) A' (execs [.Return (some (.Name "a_digits" (Zel 25))) (Zel 26)] env) (λfl s'=>∃v,fl= .ret v/\Rd σ N2 s'.heap v (.lst ((List.range (Zep n X)).map λ(j:Nat)=>Internal.D.int (.k ((dg n X j:Nat):Int))))/\Upd T (Frm env) s'1 s') E' s6:=λs6 vs' u6 p6 d6=>by
  refine Hbx (Hbu ?_)
  have c1D:c1≠D:=λe=>by
   obtain⟨o,e2,_⟩:=x'1.rel.sl.frm_occ (.inr ⟨_,mem_of_lookup l1⟩);rw[e,hD1]at e2;cases e2
  have Vd6:Zam env s6.heap "a_digits" (.ref D):=.inr ⟨.inl kd,by decide,c1,l1,u6.cell h1 c1D⟩
  refine Vd6.load kk (by decide) ?_
  have hDl:∀o,s'1.heap.get? D≠some o:=λo e=>by rw[hD1]at e;cases e
  have U:Upd T (λb=>Frm env b\/b=D) s'1 s6:=((st3.upd.mono λb e=>e▸.inl Sd.frm).trans (st5.upd.mono λb e=>e▸.inl Si.frm)).trans (u6.mono λb e=>.inr e)
  refine⟨_,rfl,?_,⟨λb o t hw e=>U.keep b o t (λq=>q.elim hw λq=>hDl o (q▸e)) e,λb o hw e t=>U.keep2 b o (λq=>q.elim hw λq=>hDl o (q▸e)) e t,U.occ,U.tab,U.gens,U.os⟩⟩
  obtain⟨nn,e⟩:=p6;refine .lst (λh=>?_) e ?_
  ·obtain⟨o,e2,_⟩:=x'1.occ D h;exact hDl o e2
  ·have:=Zyr (σ:=σ) (N:=N2) (h:=s6.heap) (l:=(List.range (Zep n X)).map (dg n X)) (vs:=vs') (by rw[d6.len,hRl];simp) λi q hq=>by
    rw[List.getElem?_map]at hq;by_cases hi:i<Zep n X
    ·rw[List.getElem?_range hi]at hq;cases hq;obtain⟨t,e⟩:=d6.inn i (Hap _) hi;exact⟨t,e⟩
    ·rw[List.getElem?_eq_none (by simpa using hi)]at hq
     cases hq
   rw[List.map_map]at this;exact this
 refine Hbx (wpAny_If (wpAny_isTrue_value (Va5.load kk (by decide) (PySem.P.truthy_int ?_))))
 by_cases hX0:X=0
 ·subst hX0;rw[if_neg (by decide)]
  refine Hbv ?_
  have hz:Zep n 0=0:=by
   unfold Zep;exact Nat.div_eq_of_lt (by show 0+n-1<n;exact(ln2 (.a (.v 1) (.k 1)) (.v 0) [(1,.a (.v 1) (.k 1),.a (.k 0) (.v 0))] rfl (Han (Hb3 (ln1 (.k 1) (.a (.k 0) (.v 0)) [(1,.k 1,.v 0)] rfl hn1)))))
  refine fin s'5 R0 .refl pD5 ⟨rfl,λi _ h=>by rw[hz]at h;exact(Nat.not_succ_le_zero 0 (ln1 (.k 1) (.k 0) [(1,.a (.v 0) (.k 1),.k 0)] rfl h)).elim,λ_ _=>rfl⟩
 ·rw[if_pos (by simpa using hX0)]
  have hpos:=Zye hn1 hX0;refine Hbx (wpAny_Expr ?_ hint rfl)
  refine Hbi (Vi5.load kk (by decide) ?_)
  have ofn:=I.fn;obtain⟨o',hf5,hfd'⟩:=ofn;refine Hbn (o:=o') (fd:=fd') (Zch (λv p h=>by cases h) ?_)
  rw[Zad (λv p h=>by cases h),Zad (λv p h=>by cases h),Zad (λv p h=>by cases h)]
  refine Hbf (Va5.load kk (by decide) ?_)
  refine Hbf (Hbr (k:=0) (pos:=Zel 18) (Hbf ?_))
  refine Hbi (Hbg kk klen (Hbh (x'1.ok.glob▸(bs5.step .toks).ng) (bs5.gl.free 0 (by decide)) (x'1.ok.bui▸(bs5.step .toks).nb) (bs5.gl.val 0 (by decide)) ?_) (by decide))
  refine Hbo rfl (Zch (λv p h=>by cases h) ?_)
  rw[Zad (λv p h=>by cases h)]
  have Y6:Ext T s'5 {s'5 with toks:=s'5.toks+1}:=.toks
  refine Hbf ((Vd5.ext Y6).load kk (by decide) (Hbe ?_))
  obtain⟨n5,eD5⟩:=pD5;refine PyProof.Rows.len_list ⟨_,eD5,rfl,_,rfl⟩ (by rw[Hb8,hRl];exact(li [] [_,_] (.a (.u (.v 1)) (.k 1)) (.k (2^63)) [(1,.u (.v 0),.u (.k 100000)),(1,.u (.v 1),.u (.v 0))] rfl (jO hbits) (jO hm))) (Hbe ⟨⟨hf5,hfd'⟩,?_⟩)
  rw[Hb8,hRl];have hd20:Zep n X<=2^17:=(ln2 (.v 1) (.k (2^17)) [(1,.v 0,.k 100000),(1,.v 1,.v 0)] rfl hbits hm);have hbb:=Zim (X:=X) hn1;have hXX:X<2^(n*(Zep n X-0)):=Har (Zkf X) (Ha2 (by decide) (by rw[Nat.sub_zero];exact hbb))
  have hnm:n*(Zep n X-0)<=10000000:=by
   rw[Nat.sub_zero];have h1:n*Zep n X<=Builtin.Int.intBits (X:Int)+n-1:=by unfold Zep;exact Nat.mul_div_le _ _
   exact(ln4 (.v 3) (.k 10000000) [(1,.v 0,.k 100000),(1,.v 1,.k 100000),(1,.v 3,.v 2),(1,.v 2,.a (.v 1) (.v 0))] rfl hn2 hbits h1 (Hbl _ _))
  have hdep:=x'1.ha.depth;refine Ztw (f:=f) (c1:=c1) (c2:=c2) (c3:=c3) (fd:=fd') (tn:=tN) hn1 hbody ?_ (hbindI fd' hp hdv hkw) ?_ 17 A' _ _ R0 X 0 (Zep n X) _ _ _ _ x'1.ha.handled ?_ ?_ ?_ ⟨n5,eD5⟩ hpos hd20 (by rw[hRl];exact Hac _) (by rw[hRl];exact(ln1 (.v 0) (.k 1000000) [(1,.v 0,.k (2^17))] rfl hd20)) hnm hXX λs6 vs' k'6 g'6 o6 p6 d6=>?_
  ·intro y hy;rw[hscope,hin];simp only[Zfy,List.mem_cons,Hch,or_false]at hy;rcases hy with rfl|rfl|rfl|rfl|rfl|rfl|rfl<;>decide+kernel
  ·have ne:∀c v,s'5.heap.IsCell c v->c≠D:=λc v ⟨o,e1,e2⟩ e=>by rw[e,eD5]at e1;cases e1;cases e2
   exact⟨λe=>(by rw[e,eD5]at hf5;cases hf5;cases hfd'),ne _ _ h1,ne _ _ h2,ne _ _ h3⟩
  ·have:recursionLimit=1000:=rfl;exact(ln3 (.a (.a (.v 1) (.k 17)) (.k 1)) (.v 2) [(1,.a (.v 0) (.k 1),.k 100),(1,.v 1,.a (.k 400) (.a (.v 0) (.k 1))),(1,.k 1000,.v 2)] rfl hk hdep (Han this.symm))
  ·exact bs5.ext.nolimit F.lim
  ·exact I
  ·refine Hbv ?_
   exact fin s6 vs' (Zy9 ⟨n5,eD5⟩ p6 (λb o hb e=>k'6 b o hb e) g'6 o6) p6 d6
noncomputable abbrev Ya9(params:Arguments)(isc:Scope):List Stmt:=[
 .FunctionDef "inner" params Zkl [] none [] isc none "inner" (Zq5 0),
 .Return (some (.IfExp (.Name "digits" (Zq5 1)) (.Call (.Name "inner" (Zq5 2)) [.Constant (.int 0) 0 (Zq5 3),.Call (.Name "len" (Zq5 4)) [.Name "digits" (Zq5 5)] [] (Zq5 6)] [] (Zq5 7)) (.Constant (.int 0) 0 (Zq5 8)) (Zq5 9))) (Zq5 10)]
noncomputable abbrev Zxe:List (Str×NameKind):=[("L",.local),("R",.local),("mid",.local),("shift",.local),("digits",.free),("inner",.free),("n",.free)]
noncomputable abbrev Yfb:List (Str×NameKind):=[("digits",.cell),("n",.cell),("inner",.cell),("len",.globalImplicit)]
noncomputable def Zsz:List Str:=["digits","n"]
theorem Zq6:Zb6 (Za4 Zsz):=Zdi (by decide+kernel) (by decide+kernel) (by decide+kernel)
theorem Zw0{env:Env}{c1 c2 c3:Addr}(l1:env.cells.lookup ("digits":Str)=some c1)(l2:env.cells.lookup ("n":Str)=some c2)(l3:env.cells.lookup ("inner":Str)=some c3):Za2 env Zxe []=([("n",c2),("inner",c3),("digits",c1)]:List (Str×Addr)):=by
 unfold Zxe;rw[Zaw,Zaw,Zaw,Zaw,Zb7 l1,Zb7 l3,Zb7 l2]
 rfl
set_option tactic.hygienic true in
theorem Yfc(hk:k+1<=100){a c P:Addr}{fd:FuncData}{params:Arguments}{isc:Scope}(F:Zna s0 a fd (Ya9 params isc))(hbind:Zgc (Za4 Zsz) fd [0,1])(hsc:fd.scope.names=Yfb)(hcode:fd.code= .ref c)(hqual:fd.qualname="_digits2int")
  (C:CodeHd s0.heap c P)(hT:T P)(hb:s0.heap.BuiltinsAt mg P)(hd0:params.defaults=[])(hk0:params.kw_defaults=[])(ha:∀env,annTrees params none env=[])(hline:Zms (Zq5 0).line="_digits2int.<locals>.inner")
  (hin:isc.names=Zxe)(hikind:isc.kind= .function)(hico:isc.isCoroutine=false)(higen:isc.isGenerator=false)
  (hbindI:∀fd':FuncData,fd'.params=params->fd'.defaults= .none->fd'.kwdefaults= .none->∀a b,bindArgs fd' ⟨[a,b],[]⟩=pure [(("L":Str),a),("R",b)])
  {n:Nat}{qs:List Nat}{pn:PX}(en:pn.ev σ=(n:Int))(hlt:∀q∈qs,q<2^n)(hlen:qs.length<=100000)(hbits:n*qs.length<=10000000):
  ∀(A:Around) (E:Value->Shared->Prop) (N:Addr->Prop) (s:Shared) (vs:List Value) (Q:Value->Shared->Prop),AOk k A->Bs T mg mb s0 s->(∀a,N a->Occ s.heap a)->RdL σ N s.heap vs [.lst (qs.map λ(q:Nat)=>Internal.D.int (.k (q:Int))),.int pn]->
   Zd9 T σ N s (.int (.k ((Zfl n qs:Nat):Int))) Q->wpAny (model prog w) A (call (.ref a) vs) Q E s:=by
 refine Zpj hk Zq6 F hbind rfl (by rw[hsc];decide+kernel) rfl λA' E' N2 env L s'1 henv x'1=>?_
 have hco:env.code= .ref c:=by rw[henv];exact hcode
 have hqu:env.qual="_digits2int.<locals>.":=by rw[henv];show fd.qualname++_=_;rw[hqual];decide+kernel
 have K:∀y kd,fd.scope.names.lookup y=some kd->env.kindOf y=some kd:=λy kd h=>by rw[x'1.ok.kindOf];exact h
 have kn:env.kindOf ("n":Str)=some .cell:=K _ _ (by rw[hsc];decide+kernel)
 have kd:env.kindOf ("digits":Str)=some .cell:=K _ _ (by rw[hsc];decide+kernel)
 have ki:env.kindOf ("inner":Str)=some .cell:=K _ _ (by rw[hsc];decide+kernel)
 have klen:env.kindOf ("len":Str)=some .globalImplicit:=K _ _ (by rw[hsc];decide+kernel)
 obtain⟨va,Va,ra⟩:=x'1.rel.one 0 _ rfl (by show Zi4 (env.kindOf "digits")=true;rw[kd];rfl)
 obtain⟨vn,Vn,rn⟩:=x'1.rel.one 1 (.int pn) rfl (by show Zi4 (env.kindOf "n")=true;rw[kn];rfl)
 cases ra with|lst hN eD rD=>
 cases rn with|int e2=>
 rename_i D vs nD iN tN;have e2:(n:Int)=iN:=by rw[←e2,en]
 subst e2;have Vd:Zam env s'1.heap "digits" (.ref D):=Va;have Vn:Zam env s'1.heap "n" (.int (n:Int) tN):=Vn;have kk:=x'1.ok.kind;have hqv:qs.length=vs.length:=by have:=rD.length;simpa using this.symm
 have hvs:∀(i q:Nat),qs[i]?=some q->∃t,vs[i]?=some (Value.int (q:Int) t):=λi q e=>by
  obtain⟨v,h1,h2⟩:=rD.get (i:=i) (d:=Internal.D.int (.k (q:Int))) (by rw[List.getElem?_map,e];rfl)
  cases h2 with|int e=>
  rename_i z t;have e:(q:Int)=z:=e;subst e;exact⟨t,h1⟩
 refine Hbx (Zl5 x'1.bs x'1.ok hco C hT hb hd0 hk0 (ha env) ?_ (λy kd hy hkd=>?_) λf fd' o s4 X4 hf0 hf1 hfd hrec hp hbody hscope hclos hdv hkw=>?_)
 ·unfold qualnameIn;rw[ki,hqu,hline]
  decide+kernel
 ·rw[hin]at hy;subst hkd;have:y="digits"\/y="inner"\/y="n":=by
   simp only[Zxe,List.mem_cons,Prod.mk.injEq,Hch,or_false,reduceCtorEq,and_false,and_true,false_or]at hy;exact hy
  refine x'1.ok.cells y (.inl ?_)
  rcases this with rfl|rfl|rfl<;>(rw[hsc];decide+kernel)
 obtain⟨ci,Si⟩:=Zb2 x'1.ok (id:="inner") (by rw[hsc];decide+kernel)
 refine stored x'1.ok (x'1.rel.sl.ext X4) X4 Si (Zbm x'1.bs x'1.rel.sl Si.frm) λs'5 u5 st5=>?_
 have fi:f≠ci:=λe=>by
  obtain⟨o,e2,_⟩:=x'1.rel.sl.frm_occ Si.frm;rw[←e,hf0]at e2;cases e2
 have hDi:D≠ci:=λe=>hN (.inl (x'1.hm.frm (e▸Si.frm)))
 have eD'5:s'5.heap.get? D=some (Za3 vs.toArray nD):=st5.upd.keep2 D _ hDi eD rfl;have bs5:Bs T mg mb s0 s'5:=x'1.bs.upd st5.upd λb e=>e▸x'1.young.frm _ Si.frm
 have Vd5:=st5.others _ _ (by decide) Vd
 have Vn5:=st5.others _ _ (by decide) Vn
 have Vi5:=st5.var;obtain⟨c1,l1,h1⟩:=Vd5.cellAt kd;obtain⟨c2,l2,h2⟩:=Vn5.cellAt kn;obtain⟨c3,l3,h3⟩:=Vi5.cellAt ki;have nocode:∀a,a=ci->Za9 s4.heap a:=λa e=>by
  subst e;obtain⟨v,hv⟩:∃v,s4.heap.IsCell a v:=by
   rcases Si with⟨h,_⟩|⟨_,_,h⟩
   ·rw[ki]at h;cases h
   ·exact(x'1.rel.sl.ext X4).cells _ _ (mem_of_lookup h)
  exact .cell hv
 have I:Zds s'5.heap f c1 c2 c3 fd' "digits" (.ref D) (.int (n:Int) tN):=by
  have ec:fd'.closure=([("n",c2),("inner",c3),("digits",c1)]:List (Str×Addr)):=by rw[hclos,hin,Zw0 l1 l2 l3]
  obtain⟨k2,k3,k1⟩:=Ygf (x:="n") (y:="inner") (z:="digits") (a:=c2) (b:=c3) (c:=c1) (by decide) (by decide) (by decide)
  refine⟨⟨o,u5.keepF hf1 hfd fi,hfd⟩,(hrec.upd u5 nocode).rec',h1,h2,h3,?_,?_,?_,?_,?_,?_,by rw[hscope];exact hikind,by rw[hscope];exact hico,by rw[hscope];exact higen,?_⟩
  ·rw[ec];exact k1
  ·rw[ec];exact k2
  ·rw[ec];exact k3
  ·rw[hscope,hin];decide+kernel
  ·rw[hscope,hin];decide+kernel
  ·rw[hscope,hin];decide+kernel
  ·rw[hscope,hin];decide+kernel
 refine Hbx (Hbu (IfExp_ (wpAny_isTrue_value (Vd5.load kk (by decide) (wpAny_truthy_list ⟨_,eD'5,rfl,_,rfl⟩ ?_ ?_)))))
 ·rw[Hb8];exact(li [] [_,_] (.a (.u (.v 1)) (.k 1)) (.k (2^63)) [(1,.u (.v 0),.u (.k 100000)),(1,.u (.v 1),.u (.v 0))] rfl (jO hlen) (jO (Han hqv.symm)))
 have U5:Upd T (Frm env) s'1 s'5:=st5.upd.mono λb e=>e▸Si.frm
 cases hq:qs with
 |nil=>
  rw[hq]at hqv;have hv0:vs=[]:=List.eq_nil_of_length_eq_zero hqv.symm;subst hv0;rw[show(!(([]:List Value).toArray.isEmpty))=false from rfl,if_neg Hca];refine Hbr ?_
  exact⟨_,rfl,.int rfl,U5.trans (Ext.toks.upd)⟩
 |cons q0 qr=>
  have hv1:vs≠[]:=λe=>by rw[e,hq]at hqv;cases hqv
  rw[show(!(vs.toArray.isEmpty))=true by cases vs with|nil=>exact absurd rfl hv1|cons _ _=>rfl,if_pos rfl]
  have Y1:Ext T s'5 {s'5 with toks:=s'5.toks+1+1}:=.toks
  refine Hbi ((Vi5.ext Y1).load kk (by decide) ?_)
  have ofn:=I.fn;obtain⟨o',hf5,hfd'⟩:=ofn;refine Hbn (o:=o') (fd:=fd') (Zch (λv p h=>by cases h) ?_)
  rw[Zad (λv p h=>by cases h),Zad (λv p h=>by cases h)]
  refine Hbf (Hbr (k:=0) (pos:=Zq5 3) (Hbf ?_))
  refine Hbi (Hbg kk klen (Hbh (x'1.ok.glob▸(bs5.step .toks).ng) (bs5.gl.free 0 (by decide)) (x'1.ok.bui▸(bs5.step .toks).nb) (bs5.gl.val 0 (by decide)) ?_) (by decide))
  refine Hbo rfl (Zch (λv p h=>by cases h) ?_)
  rw[Zad (λv p h=>by cases h)]
  have Y6:Ext T s'5 {s'5 with toks:=s'5.toks+1+1+1}:=.toks
  refine Hbf ((Vd5.ext Y6).load kk (by decide) (Hbe ?_))
  refine PyProof.Rows.len_list ⟨_,eD'5,rfl,_,rfl⟩ (by rw[Hb8];exact(li [] [_,_] (.a (.u (.v 1)) (.k 1)) (.k (2^63)) [(1,.u (.v 0),.u (.k 100000)),(1,.u (.v 1),.u (.v 0))] rfl (jO hlen) (jO (Han hqv.symm)))) (Hbe ⟨⟨hf5,hfd'⟩,?_⟩)
  rw[Hb8];have hd20:vs.length-0<=2^17:=(ln3 (.v 2) (.k (2^17)) [(1,.v 0,.k 100000),(1,.v 1,.v 0),(1,.v 2,.v 1)] rfl hlen (Han hqv.symm) (Hbl _ _));have hdep:=x'1.ha.depth;refine Zsx (f:=f) (c1:=c1) (c2:=c2) (c3:=c3) (fd:=fd') (tn:=tN) hqv hvs hlt (ln2 (.v 1) (.k 1000000) [(1,.v 0,.k 100000),(1,.v 1,.v 0)] rfl hlen (Han hqv.symm)) (by rw[←hqv];exact hbits) hbody ?_ (hbindI fd' hp hdv hkw) 17 A' _ _ 0 vs.length _ _ _ x'1.ha.handled ?_ ?_ I ⟨nD,eD'5⟩ ?_ hd20 (Hac _) λs6 t k'6 g'6 o6=>?_
  ·intro y hy;rw[hscope,hin];simp only[Zh2,List.mem_cons,Hch,or_false]at hy;rcases hy with rfl|rfl|rfl|rfl<;>decide+kernel
  ·have:recursionLimit=1000:=rfl;exact(ln3 (.a (.a (.v 1) (.k 17)) (.k 1)) (.v 2) [(1,.a (.v 0) (.k 1),.k 100),(1,.v 1,.a (.k 400) (.a (.v 0) (.k 1))),(1,.k 1000,.v 2)] rfl hk hdep (Han this.symm))
  ·exact bs5.ext.nolimit F.lim
  ·cases vs with
   |nil=>exact absurd rfl hv1
   |cons _ _=>simp
  ·have ecut:Zl3 qs 0 vs.length=qs:=by
    unfold Zl3;rw[List.drop_zero,Nat.sub_zero,←hqv,List.take_length]
   rw[ecut,hq];refine⟨_,rfl,.int rfl,U5.trans (Ext.upd ⟨λb o _ e=>k'6 b o e,λb o e _=>k'6 b o e,λb _ t=>t.keep (λc o _ e=>k'6 c o e) (λo e=>k'6 _ o e),λp=>g'6▸p,o6⟩)⟩
section
variable (prog:Program) (w:World) (T:Addr->Prop) (σ:Sg) (mg mb:Str->Option Value) (s0:Shared) (fn:Nat->Str)
noncomputable def Con(k:Nat)(f:Nat)(ds:List D)(d:D):Prop:=∃a,Zr2 s0 mg (fn f) a/\∀(A:Around) (E:Value->Shared->Prop) (N:Addr->Prop) (s:Shared) (vs:List Value) (Q:Value->Shared->Prop),AOk k A->Bs T mg mb s0 s->(∀a,N a->Occ s.heap a)->
 RdL σ N s.heap vs ds->Zd9 T σ N s d Q->wpAny (model prog w) A (call (.ref a) vs) Q E s
end
noncomputable def ib(i:Int):Int:=(Builtin.Int.intBits i:Int)
noncomputable abbrev nI(q:Nat):D:=.int (.k (q:Int))
noncomputable abbrev iI(q:Int):D:=.int (.k q)
noncomputable def onF(f k:Nat)(o r:Option D):Option D:=match Nat.beq f k with
 |true=>o
 |false=>r
theorem Zhq{f k:Nat}{o r:Option D}{d:D}(h:onF f k o r=some d):(f=k/\o=some d)\/r=some d:=by
 unfold onF at h;cases e:Nat.beq f k with
 |true=>rw[e]at h;exact .inl ⟨Hb4 e,h⟩
 |false=>rw[e]at h;exact .inr h
noncomputable def ifO(c:Prop)[Decidable c](d:D):Option D:=match decide c with
 |true=>some d
 |false=>none
theorem Yb8{c:Prop}{i:Decidable c}{d e:D}(h: @ifO c i d=some e):c/\d=e:=by
 unfold ifO at h;cases q:decide c with
 |true=>rw[q]at h;exact⟨Hcy q,sI h⟩
 |false=>rw[q]at h;exact nS h
theorem Zmb{c:Prop}{i:Decidable c}{d:D}(h:c): @ifO c i d=some d:=by
 unfold ifO;rw[decide_eq_true h]
noncomputable def Ygr(l:List D)(d:D):Option D:=match l with
 |[]=>some d
 |_::_=>none
theorem Ygs{l:List D}{d e:D}(h:Ygr l d=some e):l=[]/\d=e:=by
 cases l with
 |nil=>exact⟨rfl,sI h⟩
 |cons _ _=>exact nS h
noncomputable def Zry{α:Type}(l:List D)(f:D->D->D->Option α):Option α:=match l with
 |[]=>none
 |a::r=>two r (f a)
theorem Zqe{α:Type}{l:List D}{r:α}{f:D->D->D->Option α}(h:Zry l f=some r):E32 (λa b c=>l=[a,b,c]) λa b c=>f a b c=some r:=by
 cases l with
 |nil=>exact nS h
 |cons a l=>
  obtain⟨b,c,e,h⟩:=Zy8 h;exact⟨a,b,c,by rw[e],h⟩
noncomputable def Yhv(l:List D)(f:Int->Option D):Option D:=one l λx=>onK x f
noncomputable def Yf4(l:List D)(f:Int->Int->Option D):Option D:=two l λx y=>onK x λi=>onK y (f i)
theorem Ycb{l:List D}{d:D}{f:Int->Option D}(h:Yhv l f=some d):E12 (λi=>l=[iI i]) λi=>f i=some d:=by
 obtain⟨x,e,h⟩:=Zz2 h;obtain⟨i,e2,h⟩:=Zgr h;exact⟨i,by rw[e,e2],h⟩
theorem Zx1{l:List D}{d:D}{f:Int->Int->Option D}(h:Yf4 l f=some d):E22 (λi j=>l=[iI i,iI j]) λi j=>f i j=some d:=by
 obtain⟨x,y,e,h⟩:=Zy8 h;obtain⟨i,e2,h⟩:=Zgr h;obtain⟨j,e3,h⟩:=Zgr h;exact⟨i,j,by rw[e,e2,e3],h⟩
noncomputable def cB(f:Nat)(ds:List D):Option D:=onF f 905 (Yhv ds λi=>some (iI (ib i))) (onF f 908 (Ygr ds (iI 4000)) none)
noncomputable def Zo2:List S:=[.ite (.cmp (.bin .Sub (.call 905 [.n 0]) (.n 2)) [(.LtE,.call 908 [])]) [.ret (.bi 8 [.n 0,.n 1])] [],.bad]
theorem Zzs{a b:Int}(h:a<b):ilt a b=true:=Zkx.mpr h
theorem Znu{a b:Int}(h:¬a<b):ilt a b=false:=by
 cases e:ilt a b with
 |false=>rfl
 |true=>exact absurd (Zkx.mp e) h
theorem Ztx{a b:Int}(h:a≠b):ieq a b=false:=by
 cases e:ieq a b with
 |false=>rfl
 |true=>exact absurd (Zdh.mp e) h
theorem Yi1{i m:Int}(h:i-m<=4000):¬4000<i+ -m:=(Int.not_lt.mpr (li [_,_] [] (.a (.v 0) (.g (.v 1))) (.k 4000) [(1,.s (.v 0) (.v 1),.k 4000)] rfl h))
theorem Zxg{a b m:Int}(hb:b≠0)(hb2:b.natAbs<2^8000)(hm:ib a-m<=4000):run cB 20 Zo2 [(0,iI a),(1,iI b),(2,iI m)] []=some (.ret (.tup [iI (a.fdiv b),iI (a.fmod b)])):=by
 have e0:ev cB 19 [(0,iI a),(1,iI b),(2,iI m)] (owD []) (.cmp (.bin .Sub (.call 905 [.n 0]) (.n 2)) [(.LtE,.call 908 [])])=some (.bool (!ilt 4000 (ib a+ -m))):=rfl;rw[Znu (Yi1 hm)]at e0;have e2:ev cB 18 [(0,iI a),(1,iI b),(2,iI m)] (owD []) (.bi 8 [.n 0,.n 1])=some (.tup [iI (a.fdiv b),iI (a.fmod b)]):=by
  show Zas (!ieq b 0&&Nat.blt b.natAbs (2^8000)) _=_;rw[Ztx hb,show Nat.blt b.natAbs (2^8000)=true from Ha0 hb2];rfl
 refine(Zc0 e0).trans ?_
 exact Hb6 (λz=>Zbu z (run cB 19 [.bad])) (Zfi (n:=18) e2)
noncomputable def Zmk:List D->Option (List Nat)
 |[]=>some []
 |d::r=>onK d λi=>onN i λq=>Zac (Zmk r) λqs=>some (q::qs)
noncomputable def digD(n x:Nat):D:=.lst ((List.range (Zep n x)).map λ(j:Nat)=>iI ((dg n x j:Nat):Int))
noncomputable def cP(f:Nat)(ds:List D):Option D:=onF f 905 (Yhv ds λi=>some (iI (ib i)))
 (onF f 906 (Yf4 ds λi j=>ifO (0<=j/\ib i+j<=2^27) (iI (i*2^j.toNat)))
 (onF f 15 (Yf4 ds λx n=>ifO (0<=x/\1<=n/\n<=100000/\x<2^100000) (digD n.toNat x.toNat))
 (onF f 19 (Zry ds λx y z=>onK x λa=>onK y λb=>onK z λm=>ifO (b≠0/\b.natAbs<2^8000/\ib a-m<=4000) (.tup [iI (a.fdiv b),iI (a.fmod b)]))
 (onF f 16 (two ds λx y=>onL x λds=>onK y λn=>Zac (Zmk ds) λqs=>ifO (0<=n/\(∀q∈qs,q<2^n.toNat)/\qs.length<=100000/\n.toNat*qs.length<=10000000) (iI ((Zfl n.toNat qs:Nat):Int))) none))))
theorem Zrj(qs:List Nat):Zmk (qs.map nI)=some qs:=by
 induction qs with
 |nil=>rfl
 |cons q r ih=>
  show Zac (Zmk (r.map nI)) _=_;rw[ih];rfl
theorem Zuh{ds:List D}:∀{qs:List Nat},Zmk ds=some qs->ds=qs.map nI:=by
 induction ds with
 |nil=>exact λh=>sI h▸rfl
 |cons d r ih=>
  intro qs h;obtain⟨i,e1,h⟩:=Zgr h;obtain⟨q,e2,h⟩:=Yd4 h;obtain⟨qs',h2,h⟩:=obS h;rw[←sI h,e1,e2,ih h2];rfl
noncomputable def goP(n b:Nat):List Nat->Nat->List Nat×Nat
 |[],r=>([],r)
 |d::l,r=>((r*2^n+d)/b::(goP n b l ((r*2^n+d)%b)).1,(goP n b l ((r*2^n+d)%b)).2)
theorem Ztt(n b:Nat)(l:List Nat):∀r:Nat,(goP n b l r).1.length=l.length:=by
 induction l with
 |nil=>exact λ_=>rfl
 |cons d l ih=>exact λr=>Hb6 Nat.succ (ih _)
theorem Yiv{r n k v d:Nat}:r*(n*k)+(v+k*d)=(r*n+d)*k+v:=by
 rw[Nat.add_mul,Nat.mul_assoc,Hco k d,Nat.add_assoc,Nat.add_comm v]
theorem Yiw{b q z k v x:Nat}(e:b*q+z=x):x*k+v=b*(q*k)+(z*k+v):=by
 rw[←e,Nat.add_mul,Nat.mul_assoc,Nat.add_assoc]
theorem Yeq{r p d b:Nat}(hr:r<b)(hd:d<p):r*p+d<p*b:=by
 have h:r*p+d<(r+1)*p:=by rw[Nat.add_mul,Nat.one_mul];exact Nat.add_lt_add_left hd _
 exact Har h (by rw[Hco p];exact Nat.mul_le_mul_right _ hr)
theorem Zlo(n d:Nat):Zfl n [d]=d:=by
 show d+2^n*0=d;rw[Nat.mul_zero,Nat.add_zero]
theorem Zxx(n b:Nat)(hb:0<b)(l:List Nat):∀r:Nat,r<b->(∀d∈l,d<2^n)->
  Zfl n (goP n b l r).1.reverse=(r*2^(n*l.length)+Zfl n l.reverse)/b/\(goP n b l r).2=(r*2^(n*l.length)+Zfl n l.reverse)%b/\∀q∈(goP n b l r).1,q<2^n:=by
 induction l with
 |nil=>
  intro r hr _;have e:r*2^(n*0)+0=r:=by rw[Nat.mul_zero,Nat.pow_zero,Nat.mul_one,Nat.add_zero]
  refine⟨?_,?_,λq h=>nomatch h⟩
  ·show 0=(r*2^(n*0)+0)/b;rw[e,Nat.div_eq_of_lt hr]
  ·show r=(r*2^(n*0)+0)%b;rw[e,Nat.mod_eq_of_lt hr]
 |cons d l ih=>
  intro r hr hl;have hd:=hl d (.head _);obtain⟨h1,h2,h3⟩:=ih ((r*2^n+d)%b) (Nat.mod_lt _ hb) λx hx=>hl x (.tail _ hx)
  have hpow:2^(n*(l.length+1))=2^n*2^(n*l.length):=by rw[Nat.mul_add,Nat.mul_one,Nat.pow_add,Hco]
  have eV:r*2^(n*(d::l).length)+Zfl n (d::l).reverse=b*((r*2^n+d)/b*2^(n*l.length))+((r*2^n+d)%b*2^(n*l.length)+Zfl n l.reverse):=by
   rw[Hci,hpow,List.reverse_cons,Zc1,Hc4,Zlo,Yiv];exact Yiw (Nat.div_add_mod _ _)
  rw[eV,Nat.mul_add_div hb,←h1,Nat.mul_add_mod];refine⟨?_,h2,λq hq=>?_⟩
  ·show Zfl n ((r*2^n+d)/b::(goP n b l ((r*2^n+d)%b)).1).reverse=_;rw[List.reverse_cons,Zc1,Hc4,Ztt,Zlo,Nat.add_comm,Hco (2^(n*l.length))]
  ·rcases jC hq with e|hq
   ·rw[e,Nat.div_lt_iff_lt_mul hb];exact Yeq hr hd
   ·exact h3 q hq
theorem Ydw(n X m:Nat):Zfl n ((List.range m).map (dg n X))=X%2^(n*m):=by
 induction m with
 |zero=>
  show 0=X%2^(n*0);rw[Nat.mul_zero,Nat.pow_zero,Nat.mod_one]
 |succ m ih=>
  rw[List.range_succ,List.map_append,Zc1,ih,Hcp,List.length_range];show _+2^(n*m)*Zfl n [dg n X m]=_;rw[Zlo,Nat.mul_add,Nat.mul_one,Nat.pow_add,Nat.mod_mul]
  rfl
noncomputable def Yax:List S:=[.asg [7,4] false (.call 19 [.bin .Add (.call 906 [.n 4,.n 2]) (.n 6),.n 1,.n 2]),.app 5 (.n 7)]
noncomputable def Zsp:List S:=[.asg [2] true (.call 905 [.n 1]),.asg [3] true (.call 15 [.n 0,.n 2]),.asg [4] true (.c (.int (.k 0))),.anew 5 (.lst []),.loop [6] true 4 [.n 3] Yax,.rev 5,.frz 5,.asg [8] true (.call 16 [.n 5,.n 2]),.ret (.tup [.n 8,.n 4])]
theorem Zik{α β:Type}{f:α->Option β}{a:α}{b:β}{r:List α}{bs:List β}(h1:f a=some b)(h2:Zd8 f r=some bs):Zd8 f (a::r)=some (b::bs):=by
 show Zac (f a) _=_;rw[h1];show Zac (Zd8 f r) _=_;rw[h2];rfl
theorem Zf1{α β:Type}{f:α->Option β}{a:α}{b:β}(h1:f a=some b):Zd8 f [a]=some [b]:=Zik h1 rfl
theorem Ze6{α β:Type}{f:α->Option β}{a a':α}{b b':β}(h1:f a=some b)(h2:f a'=some b'):Zd8 f [a,a']=some [b,b']:=Zik h1 (Zf1 h2)
theorem Zf9{C:Nat->List D->Option D}{n x:Nat}{ρ ρ2:List (Nat×D)}{d:D}(h:lk x ρ=some d):ev C (n+1) ρ ρ2 (.n x)=some d:=h
theorem Zcl{C:Nat->List D->Option D}{n f:Nat}{as:List M}{ds:List D}{d:D}{ρ ρ2:List (Nat×D)}(h:Zd8 (ev C n ρ ρ2) as=some ds)(hc:C f ds=some d):ev C (n+1) ρ ρ2 (.call f as)=some d:=by
 show Zac (Zd8 (ev C n ρ ρ2) as) _=_;rw[h];exact hc
theorem Zg5{C:Nat->List D->Option D}{n:Nat}{o:Operator}{a b:M}{x y d:D}{ρ ρ2:List (Nat×D)}(h1:ev C n ρ ρ2 a=some x)(h2:ev C n ρ ρ2 b=some y)(h:Yhq o x y=some d):ev C (n+1) ρ ρ2 (.bin o a b)=some d:=by
 show Zac (ev C n ρ ρ2 a) _=_;rw[h1];show Zac (ev C n ρ ρ2 b) _=_;rw[h2];exact h
theorem Zs6{C:Nat->List D->Option D}{n:Nat}{es:List M}{ds:List D}{ρ ρ2:List (Nat×D)}(h:Zd8 (ev C n ρ ρ2) es=some ds):ev C (n+1) ρ ρ2 (.tup es)=some (.tup ds):=by
 show(Zd8 (ev C n ρ ρ2) es).map D.tup=_;rw[h];rfl
theorem Zoo{C:Nat->List D->Option D}{n x y:Nat}{e:M}{d d':D}{r:List S}{ρ:List (Nat×D)}{ow:List (Nat×O)}(h:ev C n ρ (owD ow) e=some (.tup [d,d']))(ho:Zar [x,y] ow=true):run C (n+1) (.asg [x,y] false e::r) ρ ow=run C n r ((y,d')::(x,d)::Zak [x,y] ρ) ow:=by
 show Zac (ev C n ρ (owD ow) e) _=_;rw[h];show Zas (Zar [x,y] ow) _=_;rw[ho];rfl
theorem Yda{C:Nat->List D->Option D}{n x:Nat}{ds:List D}{r:List S}{ρ:List (Nat×D)}{ow:List (Nat×O)}(hl:lk x ow=some (.lst ds))(hs:small ds=true):run C (n+1) (.rev x::r) ρ ow=run C n r ρ (Zhu x (.lst ds.reverse) ow):=by
 show Zac (lk x ow) _=_;rw[hl];show Zas (small ds) _=_;rw[hs];rfl
theorem Zyt{C:Nat->List D->Option D}{n x:Nat}{e:M}{ds:List D}{r:List S}{ρ:List (Nat×D)}{ow:List (Nat×O)}(h:ev C n ρ (owD ow) e=some (.lst ds))(hc:(Zar [x] ow&&Zg6 e)=true):run C (n+1) (.anew x e::r) ρ ow=run C n r (Zak [x] ρ) ((x,.lst ds)::ow):=by
 show Zac (ev C n ρ (owD ow) e) _=_;rw[h];show Zas (Zar [x] ow&&Zg6 e) _=_;rw[hc];rfl
theorem Yc9{C:Nat->List D->Option D}{n x:Nat}{o:O}{r:List S}{ρ:List (Nat×D)}{ow:List (Nat×O)}(h:lk x ow=some o):run C (n+1) (.frz x::r) ρ ow=run C n r ((x,o.d)::Zak [x] ρ) (Zfv x ow):=by
 show(match lk x ow with|some o=>run C n r ((x,o.d)::Zak [x] ρ) (Zfv x ow)|none=>run C n r ρ ow)=_
 rw[h]
theorem Yfz{x k:Nat}(h:x<2^k):ib (x:Int)<=k:=jO (Zgf (x:=(x:Int)) (k:=k) (by rw[Hcn];exact h))
theorem Yel{n:Nat}{i:Int}(h:i<=n)(hn:n<=4000):0<=(n:Int)/\i+(n:Int)<=2^27:=⟨(li [] [_] (.k 0) (.u (.v 0)) [] rfl),(li [_] [_] (.a (.v 0) (.u (.v 0))) (.k (2^27)) [(1,.v 0,.u (.v 0)),(2,.u (.v 0),.u (.k 4000))] rfl h (jO hn))⟩
theorem Yil{n:Nat}{i:Int}(h:i<=((n+n:Nat):Int))(hn:n<=4000):i-(n:Int)<=4000:=(li [_] [_] (.s (.v 0) (.u (.v 0))) (.k 4000) [(1,.v 0,.u (.a (.v 0) (.v 0))),(1,.u (.v 0),.u (.k 4000))] rfl h (jO hn))
theorem Ygn(x:Nat){b:Nat}:((x:Int).fdiv b,(x:Int).fmod b)=(((x/b:Nat):Int),((x%b:Nat):Int)):=by
 rw[Hc1 _ (Haa _),Int.fmod_eq_emod_of_nonneg _ (Haa _)];rfl
theorem Zug(x b:Nat):D.tup [iI ((x:Int).fdiv b),iI ((x:Int).fmod b)]= .tup [nI (x/b),nI (x%b)]:=Hb6 (λp:Int×Int=>D.tup [iI p.1,iI p.2]) (Ygn x)
theorem Ya1(r n d:Nat):(r:Int)*2^((n:Int)).toNat+(d:Int)=((r*2^n+d:Nat):Int):=by
 rw[Hc0,Int.natCast_add,Int.natCast_mul,Int.natCast_pow];rfl
theorem Ygy{n b r d:Nat}{acc:List Nat}{ρ:List (Nat×D)}(hb:0<b)(hbn:b<2^n)(hn:n<=4000)(hr:r<b)(hd:d<2^n)(hacc:acc.length<=100000)
  (l1:lk 1 ρ=some (nI b))(l2:lk 2 ρ=some (nI n))(l4:lk 4 ρ=some (nI r)):
  Zd5 (run cP 30 Yax) [6] true (nI d) ρ [(5,.lst (acc.map nI))]=some (.next ((4,nI ((r*2^n+d)%b))::(7,nI ((r*2^n+d)/b))::Zak [7,4] ((6,nI d)::Zak [6] ρ)) [(5,.lst ((acc++[(r*2^n+d)/b]).map nI))]):=by
 have d1:lk 1 ((6,nI d)::Zak [6] ρ)=some (nI b):=(Zao rfl).trans l1;have d2:lk 2 ((6,nI d)::Zak [6] ρ)=some (nI n):=(Zao rfl).trans l2;have d4:lk 4 ((6,nI d)::Zak [6] ρ)=some (nI r):=(Zao rfl).trans l4;have hn2:r*2^n+d<2^(n+n):=by
  rw[Nat.pow_add];exact Har (Yeq hr hd) (Hbd _ (Haz hbn))
 have c906:cP 906 [nI r,nI n]=some (iI ((r:Int)*2^((n:Int)).toNat)):=Zmb (Yel (Yfz (Nat.lt_trans hr hbn)) hn);have c19:cP 19 [nI (r*2^n+d),nI b,nI n]=some (.tup [nI ((r*2^n+d)/b),nI ((r*2^n+d)%b)]):=
  (Zmb ⟨Int.natCast_ne_zero.mpr (Ha3 hb),Har hbn (Ha2 (by decide) (Hag hn (by decide))),Yil (Yfz hn2) hn⟩).trans (Hb6 some (Zug _ _))
 have eA:ev cP 28 ((6,nI d)::Zak [6] ρ) (owD [(5,.lst (acc.map nI))]) (.bin .Add (.call 906 [.n 4,.n 2]) (.n 6))=some (nI (r*2^n+d)):=
  Zg5 (Zcl (Ze6 (Zf9 d4) (Zf9 d2)) c906) (Zf9 (d:=nI d) rfl) (Hb6 (λz=>some (iI z)) (Ya1 r n d))
 have e19:=Zcl (Zik eA (Ze6 (Zf9 d1) (Zf9 d2))) c19;refine(Zoo (n:=29) (x:=7) (y:=4) e19 rfl).trans ?_
 refine(Zom (n:=28) (r:=[]) (ds:=acc.map nI) (Zf9 (d:=nI ((r*2^n+d)/b)) rfl) rfl (Ha0 (by rw[Hcp];exact Hag hacc (by decide)))).trans ?_
 rw[List.map_append];rfl
inductive PEnd(n b:Nat)(l:List Nat)(r:Nat)(acc:List Nat)(ρ:List (Nat×D)):Prop
 |mk (ρ':List (Nat×D)) (h:Zc5 (Zd5 (run cP 30 Yax) [6] true) (l.map nI) ρ [(5,.lst (acc.map nI))]=some (.next ρ' [(5,.lst ((acc++(goP n b l r).1).map nI))])) (l2:lk 2 ρ'=some (nI n)) (l4:lk 4 ρ'=some (nI (goP n b l r).2))
theorem Ycj{x y:Nat}{d:D}{ρ:List (Nat×D)}(h:Nat.beq x y=false):lk x ((y,d)::ρ)=lk x ρ:=by
 rw[Zav,if_neg λe=>by rw[e,Hcm]at h;exact bT h]
theorem Yar{a l:Nat}(h:a+(l+1)<=100000):a<=100000/\a+1+l<=100000:=⟨(ln2 (.v 0) (.k 100000) [(1,.a (.v 0) (.a (.v 1) (.k 1)),.k 100000)] rfl h),(ln2 (.a (.a (.v 0) (.k 1)) (.v 1)) (.k 100000) [(1,.a (.v 0) (.a (.v 1) (.k 1)),.k 100000)] rfl h)⟩
theorem Ygx{n b:Nat}(hb:0<b)(hbn:b<2^n)(hn:n<=4000)(l:List Nat):∀(r:Nat) (acc:List Nat) (ρ:List (Nat×D)),r<b->(∀d∈l,d<2^n)->acc.length+l.length<=100000->lk 1 ρ=some (nI b)->lk 2 ρ=some (nI n)->lk 4 ρ=some (nI r)->PEnd n b l r acc ρ:=by
 induction l with
 |nil=>exact λr acc ρ _ _ _ _ l2 l4=>⟨ρ,by show some (Out.next ρ [(5,.lst (acc.map nI))])=some (.next ρ [(5,.lst ((acc++[]).map nI))]);rw[Hcw],l2,l4⟩
 |cons d l ih=>
  intro r acc ρ hr hl ha l1 l2 l4;have ha':=Yar ha;have turn:=Ygy hb hbn hn hr (hl d (.head _)) (acc:=acc) ha'.1 l1 l2 l4;have dd:∀{y},Nat.beq y 7=false->Nat.beq y 4=false->Nat.beq y 6=false->lk y ((4,nI ((r*2^n+d)%b))::(7,nI ((r*2^n+d)/b))::Zak [7,4] ((6,nI d)::Zak [6] ρ))=lk y ρ:=λ{y} h7 h4 h6=>by
   rw[Ycj h4,Ycj h7,Zao (by show(Nat.beq y 7||(Nat.beq y 4||false))=false;rw[h7,h4];rfl),Ycj h6,Zao (by show(Nat.beq y 6||false)=false;rw[h6];rfl)]
  obtain⟨ρ',h1,h2,h3⟩:=ih ((r*2^n+d)%b) (acc++[(r*2^n+d)/b]) _ (Nat.mod_lt _ hb) (λx hx=>hl x (.tail _ hx)) (by rw[Hct];exact ha'.2) ((dd rfl rfl rfl).trans l1) ((dd rfl rfl rfl).trans l2) rfl
  refine⟨ρ',?_,h2,h3⟩
  refine(Ze0 turn).trans (h1.trans ?_)
  rw[Hcz];rfl
theorem Yi9{n d i:Nat}(h1:n*d<=i+n-1)(h2:i<=100000)(h3:n<=4000):n*d<=10000000:=(ln4 (.v 0) (.k 10000000) [(1,.v 0,.v 1),(1,.v 2,.k 100000),(1,.v 3,.k 4000),(1,.v 1,.a (.v 2) (.v 3))] rfl h1 h2 h3 (Hbl _ _))
theorem Ybd{X b:Nat}(hb:0<b)(hb2:b<2^4000)(hX:X<2^100000):run cP 35 Zsp [(0,nI X),(1,nI b)] []=some (.ret (.tup [nI (X/b),nI (X%b)])):=by
 have hn4:Builtin.Int.intBits (b:Int)<=4000:=Zgf (by rw[Hcn];exact hb2)
 have hXn:Builtin.Int.intBits (X:Int)<=100000:=Zgf (by rw[Hcn];exact hX)
 have hbn:=Zkf b;have c905:cP 905 [nI b]=some (nI (Builtin.Int.intBits (b:Int))):=rfl
 generalize Builtin.Int.intBits (b:Int)=n at*
 have hn1:1<=n:=by
  cases n with
  |zero=>exact absurd hb (Nat.not_lt.mpr (Nat.le_of_lt_succ hbn))
  |succ n=>exact Hax (Hap n)
 have c15:cP 15 [nI X,nI n]=some (.lst (((List.range (Zep n X)).map (dg n X)).map nI)):=by
  refine(Zmb ⟨Haa _,jO hn1,jO (Hag hn4 (by decide)),by exact_mod_cast hX⟩).trans ?_
  show some (D.lst _)=_;rw[List.map_map];rfl
 have hm:Zep n X<=100000:=Hag (Zuf hn1) hXn;have hnd:n*Zep n X<=10000000:=Yi9 (by unfold Zep;exact Nat.mul_div_le _ _) hXn hn4
 have hval:=Ydw n X (Zep n X);rw[Nat.mod_eq_of_lt (Har (Zkf X) (Ha2 (by decide) (Zim hn1)))]at hval
 have hds:∀d∈(List.range (Zep n X)).map (dg n X),d<2^n:=λd hd=>by
  obtain⟨j,_,e⟩:=List.mem_map.mp hd;exact e▸Nat.mod_lt _ (Nat.two_pow_pos _)
 have hlen:((List.range (Zep n X)).map (dg n X)).length=Zep n X:=by rw[Hcp,List.length_range]
 generalize (List.range (Zep n X)).map (dg n X)=ds at*
 obtain⟨ρ',h1,h2,h3⟩:=Ygx hb hbn hn4 ds.reverse 0 [] [(4,nI 0),(3,.lst (ds.map nI)),(2,nI n),(0,nI X),(1,nI b)] hb (λd hd=>hds d (List.mem_reverse.mp hd)) (by rw[Hc4,hlen];exact(Nat.zero_add _).symm▸hm) rfl rfl rfl
 obtain⟨g1,g2,g3⟩:=Zxx n b hb ds.reverse 0 hb λd hd=>hds d (List.mem_reverse.mp hd)
 rw[Nat.zero_mul,Nat.zero_add,List.reverse_reverse,hval]at g1 g2;have hgl:=Ztt n b ds.reverse 0;rw[Hc4,hlen]at hgl;rw[List.nil_append]at h1;rw[g2]at h3
 generalize (goP n b ds.reverse 0).1=qs at*
 have sm:∀{l:List Nat},l.length<=100000->small (l.map nI)=true:=λh=>Ha0 (by rw[Hcp];exact Hag h (by decide))
 have hit:Zjd 4 [.lst (ds.map nI)]=some (ds.reverse.map nI):=by
  show Zas (small (ds.map nI)) _=_;rw[sm (hlen▸hm),List.map_reverse];rfl
 have c16:cP 16 [.lst (qs.reverse.map nI),nI n]=some (nI (X/b)):=by
  refine(Zd1 (Zrj qs.reverse)).trans ?_
  refine(Zmb ⟨Haa _,λq hq=>g3 q (List.mem_reverse.mp hq),by rw[Hc4,hgl];exact hm,by rw[Hc4,hgl];exact hnd⟩).trans ?_
  exact Hb6 (λv:Nat=>some (nI v)) g1
 refine(Zgx (n:=34) (Zcl (Zf1 (Zf9 rfl)) c905) rfl).trans ?_
 refine(Zgx (n:=33) (Zcl (Ze6 (Zf9 rfl) (Zf9 rfl)) c15) rfl).trans ?_
 refine(Zgx (n:=32) (d:=nI 0) rfl rfl).trans ?_
 refine(Zyt (n:=31) (ds:=[]) rfl rfl).trans ?_
 refine(Zht (n:=30) (ds:=[.lst (ds.map nI)]) (Zf1 (Zf9 rfl)) hit h1).trans ?_
 refine(Yda (n:=29) (ds:=qs.map nI) rfl (sm (hgl▸hm))).trans ?_
 rw[←List.map_reverse];refine(Yc9 (n:=28) rfl).trans ?_
 have l2':lk 2 ((5,D.lst (qs.reverse.map nI))::Zak [5] ρ')=some (nI n):=(Zao (ts:=[5]) rfl).trans h2;refine(Zgx (n:=27) (x:=8) (ow:=[]) (Zcl (Ze6 (Zf9 (d:=.lst (qs.reverse.map nI)) rfl) (Zf9 l2')) c16) rfl).trans ?_
 refine Zfi (n:=26) (Zs6 (n:=25) (Ze6 (Zf9 rfl) (Zf9 (d:=nI (X%b)) ?_)))
 exact(Zao (ts:=[8]) rfl).trans ((Zao (ts:=[5]) rfl).trans h3)
noncomputable def Zzj:List S:=[.ite (.cmp (.n 1) [(.Eq,.c (.int (.k 0)))]) [.bad] [.ite (.cmp (.n 1) [(.Lt,.c (.int (.k 0)))]) [.asg [8,4] false (.call 5 [.neg (.n 0),.neg (.n 1)]),.ret (.tup [.n 8,.neg (.n 4)])] [.ite (.cmp (.n 0) [(.Lt,.c (.int (.k 0)))]) [.asg [8,4] false (.call 5 [.call 904 [.n 0],.n 1]),.ret (.tup [.call 904 [.n 8],.bin .Add (.n 1) (.call 904 [.n 4])])] [.ret (.call 18 [.n 0,.n 1])]]]]
noncomputable def dvD(a b:Int):D:=.tup [iI (a.fdiv b),iI (a.fmod b)]
noncomputable def Lvl(n:Nat)(a b:Int):Prop:=match n with
 |0=>0<=a/\0<b
 |1=>0<b
 |_=>b≠0
noncomputable def SzA(a:Int):Prop:=a.natAbs<2^90000
noncomputable def SzB(b:Int):Prop:=b.natAbs<2^3900
theorem SzA.neg{a:Int}(h:SzA a):SzA (-a):=by unfold SzA at*;rw[Int.natAbs_neg];exact h
theorem SzB.neg{a:Int}(h:SzB a):SzB (-a):=by unfold SzB at*;rw[Int.natAbs_neg];exact h
theorem Yi8{a:Int}(hn:a<0):(-a-1).natAbs<=a.natAbs:=(Yak (li [_] [_] (.s (.g (.v 0)) (.k 1)) (.u (.v 0)) [(1,.g (.v 0),.u (.v 0))] rfl Zd0) (li [_] [_] (.g (.s (.g (.v 0)) (.k 1))) (.u (.v 0)) [(1,.a (.v 0) (.k 1),.k 0)] rfl hn))
theorem SzA.inv{a:Int}(h:SzA a)(hn:a<0):SzA (-a-1):=Hak (Yi8 hn) h
noncomputable def Yex(n:Nat)(f:Nat->D->Option D)(d:D):Option D:=match n with
 |0=>none
 |n+1=>f n d
open Classical in
noncomputable def cD(n:Nat)(f:Nat)(ds:List D):Option D:=onF f 904 (Yhv ds λi=>some (iI (-i-1)))
 (onF f 5 (Yf4 ds λa b=>Yex n (λn d=>ifO (Lvl n a b/\SzA a/\SzB b) d) (dvD a b))
 (onF f 18 (Yf4 ds λa b=>ifO (0<=a/\0<b/\SzA a/\SzB b) (dvD a b)) none))
theorem Yiu{p x y a:Int}(h2: -p+x= -a)(h3:p+y=a):x= -y:=(Haf (li [_,_,_,_] [] (.v 1) (.g (.v 3)) [(1,.a (.g (.v 0)) (.v 1),.g (.v 2)),(1,.a (.v 0) (.v 3),.v 2)] rfl (Hab h2) (Hab h3)) (li [_,_,_,_] [] (.g (.v 3)) (.v 1) [(1,.g (.v 2),.a (.g (.v 0)) (.v 1)),(1,.v 2,.a (.v 0) (.v 3))] rfl (Hab h2.symm) (Hab h3.symm)))
theorem Zl8(a b:Int):dvD (-a) (-b)= .tup [iI (a.fdiv b),iI (-(a.fmod b))]:=by
 have h1:(-a).fdiv (-b)=a.fdiv b:=Int.neg_fdiv_neg a b;have h2:=Hae (-a) (-b);rw[h1,Int.neg_mul]at h2;have h3:=Hae a b;unfold dvD;rw[h1,show(-a).fmod (-b)= -(a.fmod b)from Yiu h2 h3]
theorem Yix{b q z a u v:Int}(h1:b*q+u=a)(h2:b*z+v= -a-1):b*(q+z+1)=b+(-v-1)-u:=by rw[Int.mul_add,Int.mul_add,Int.mul_one];exact(Haf (li [_,_,_,_,_,_] [] (.a (.a (.v 0) (.v 3)) (.v 5)) (.s (.a (.v 5) (.s (.g (.v 4)) (.k 1))) (.v 1)) [(1,.a (.v 0) (.v 1),.v 2),(1,.a (.v 3) (.v 4),.s (.g (.v 2)) (.k 1))] rfl (Hab h1) (Hab h2)) (li [_,_,_,_,_,_] [] (.s (.a (.v 5) (.s (.g (.v 4)) (.k 1))) (.v 1)) (.a (.a (.v 0) (.v 3)) (.v 5)) [(1,.v 2,.a (.v 0) (.v 1)),(1,.s (.g (.v 2)) (.k 1),.a (.v 3) (.v 4))] rfl (Hab h1.symm) (Hab h2.symm)))
theorem Yiy{b u v t:Int}(e:t=b+(-v-1)-u)(m1:0<=u)(m2:u<b)(m3:0<=v)(m4:v<b): -b<t/\t<b:=⟨(li [_,_,_,_] [] (.a (.g (.v 1)) (.k 1)) (.v 0) [(1,.s (.a (.v 1) (.s (.g (.v 2)) (.k 1))) (.v 3),.v 0),(1,.a (.v 3) (.k 1),.v 1),(1,.a (.v 2) (.k 1),.v 1)] rfl (Hab e.symm) m2 m4),(li [_,_,_,_] [] (.a (.v 0) (.k 1)) (.v 1) [(1,.v 0,.s (.a (.v 1) (.s (.g (.v 2)) (.k 1))) (.v 3)),(1,.k 0,.v 3),(1,.k 0,.v 2)] rfl (Hab e) m1 m3)⟩
theorem Yiz{q z:Int}(h:q+z+1=0): -z-1=q:=(Haf (li [_,_] [] (.s (.g (.v 1)) (.k 1)) (.v 0) [(1,.k 0,.a (.a (.v 0) (.v 1)) (.k 1))] rfl (Hab h.symm)) (li [_,_] [] (.v 0) (.s (.g (.v 1)) (.k 1)) [(1,.a (.a (.v 0) (.v 1)) (.k 1),.k 0)] rfl (Hab h)))
theorem Yi0{b u v:Int}(h:0=b+(-v-1)-u):b+(-v-1)=u:=(Haf (li [_,_,_] [] (.a (.v 0) (.s (.g (.v 1)) (.k 1))) (.v 2) [(1,.s (.a (.v 0) (.s (.g (.v 1)) (.k 1))) (.v 2),.k 0)] rfl (Hab h.symm)) (li [_,_,_] [] (.v 2) (.a (.v 0) (.s (.g (.v 1)) (.k 1))) [(1,.k 0,.s (.a (.v 0) (.s (.g (.v 1)) (.k 1))) (.v 2))] rfl (Hab h)))
theorem Yi7{b t:Int}(hb:0<b)(h1: -b<b*t)(h2:b*t<b):t=0:=by
 have a1:t<1:=Int.lt_of_mul_lt_mul_left (a:=b) (by rw[Int.mul_one];exact h2) (Int.le_of_lt hb)
 have a2: -1<t:=Int.lt_of_mul_lt_mul_left (a:=b) (by rw[Int.mul_neg,Int.mul_one];exact h1) (Int.le_of_lt hb)
 exact(Haf (li [_] [] (.v 0) (.k 0) [(1,.a (.v 0) (.k 1),.k 1)] rfl a1) (li [_] [] (.k 0) (.v 0) [(1,.a (.k (-1)) (.k 1),.v 0)] rfl a2))
theorem Zxp(a b:Int)(hb:0<b): -((-a-1).fdiv b)-1=a.fdiv b/\b+(-((-a-1).fmod b)-1)=a.fmod b:=by
 have e:=Yix (Hae a b) (Hae (-a-1) b);have m:=Yiy e (Hb1 a hb) (Hb2 a hb) (Hb1 (-a-1) hb) (Hb2 (-a-1) hb);have hz:=Yi7 hb m.1 m.2;rw[hz,Int.mul_zero]at e;exact⟨Yiz hz,Yi0 e⟩
section
variable {C:Nat->List D->Option D} {n:Nat} {c:M} {a b r:List S} {ρ:List (Nat×D)} {ow:List (Nat×O)} {d:D}
theorem Zp5(h:ev C n ρ (owD ow) c=some (.bool true))(h2:run C n a ρ ow=some (.ret d)):run C (n+1) (.ite c a b::r) ρ ow=some (.ret d):=(Zc0 h).trans (Hb6 (λz=>Zbu z (run C n r)) h2)
theorem Zld(h:ev C n ρ (owD ow) c=some (.bool false))(h2:run C n b ρ ow=some (.ret d)):run C (n+1) (.ite c a b::r) ρ ow=some (.ret d):=(Zc0 h).trans (Hb6 (λz=>Zbu z (run C n r)) h2)
end
theorem Yfg{n:Nat}{a b:Int}(c5:cD n 5 [iI (-a),iI (-b)]=some (dvD (-a) (-b))):run (cD n) 18 [.asg [8,4] false (.call 5 [.neg (.n 0),.neg (.n 1)]),.ret (.tup [.n 8,.neg (.n 4)])] [(0,iI a),(1,iI b)] []=some (.ret (dvD a b)):=by
 rw[Zl8]at c5;refine(Zoo (n:=17) (Zcl (Ze6 (b:=iI (-a)) (b':=iI (-b)) rfl rfl) c5) rfl).trans ?_
 refine Zfi (n:=16) ((Zs6 (n:=15) (Ze6 (b:=iI (a.fdiv b)) (b':=iI (-(-(a.fmod b)))) rfl rfl)).trans ?_)
 rw[Int.neg_neg];rfl
theorem Yff{n:Nat}{a b:Int}(hb:0<b)(c5:cD n 5 [iI (-a-1),iI b]=some (dvD (-a-1) b)):run (cD n) 17 [.asg [8,4] false (.call 5 [.call 904 [.n 0],.n 1]),.ret (.tup [.call 904 [.n 8],.bin .Add (.n 1) (.call 904 [.n 4])])] [(0,iI a),(1,iI b)] []=some (.ret (dvD a b)):=by
 obtain⟨f1,f2⟩:=Zxp a b hb;have c4:∀i,cD n 904 [iI i]=some (iI (-i-1)):=λi=>rfl
 refine(Zoo (n:=16) (Zcl (Ze6 (Zcl (Zf1 (Zf9 (d:=iI a) rfl)) (c4 a)) (Zf9 (d:=iI b) rfl)) c5) rfl).trans ?_
 refine Zfi (n:=15) ((Zs6 (n:=14) (Ze6 (Zcl (n:=13) (Zf1 (Zf9 (d:=iI ((-a-1).fdiv b)) rfl)) (c4 _)) (Zg5 (n:=13) (Zf9 (n:=12) (d:=iI b) rfl) (Zcl (n:=12) (Zf1 (Zf9 (n:=11) (d:=iI ((-a-1).fmod b)) rfl)) (c4 _)) rfl))).trans ?_)
 show some (D.tup [iI (-((-a-1).fdiv b)-1),iI (b+(-((-a-1).fmod b)-1))])=_;rw[f1,f2];rfl
theorem Lvl.ne{n:Nat}{a b:Int}(h:Lvl n a b):b≠0:=match n,h with
 |0,h=>Haq h.2
 |1,h=>Haq h
 |_+2,h=>h
theorem Lvl.neg{n:Nat}{a b:Int}(h:Lvl n a b)(hb:b<0):∃m,n=m+1/\Lvl m (-a) (-b):=match n,h with
 |0,h=>absurd h.2 (Int.lt_asymm hb)
 |1,h=>absurd h (Int.lt_asymm hb)
 |2,_=>⟨1,rfl,Int.neg_pos_of_neg hb⟩
 |n+3,_=>⟨n+2,rfl,Haq (Int.neg_pos_of_neg hb)⟩
theorem Yeu{a:Int}(h:a<0):0<=-a-1:=(li [_] [] (.k 0) (.s (.g (.v 0)) (.k 1)) [(1,.a (.v 0) (.k 1),.k 0)] rfl h)
theorem Lvl.inv{n:Nat}{a b:Int}(h:Lvl n a b)(hb:0<b)(ha:a<0):∃m,n=m+1/\Lvl m (-a-1) b:=match n,h with
 |0,h=>absurd ha (Int.not_lt.mpr h.1)
 |1,_=>⟨0,rfl,Yeu ha,hb⟩
 |2,_=>⟨1,rfl,hb⟩
 |n+3,_=>⟨n+2,rfl,Haq hb⟩
theorem Yfh{n:Nat}{a b:Int}(hl:Lvl n a b)(ha:SzA a)(hb:SzB b):run (cD n) 20 Zzj [(0,iI a),(1,iI b)] []=some (.ret (dvD a b)):=by
 have hb0:=hl.ne;have c1:ev (cD n) 19 [(0,iI a),(1,iI b)] (owD []) (.cmp (.n 1) [(.Eq,.c (.int (.k 0)))])=some (.bool false):=by
  show Zac (peq (.k b) (.k 0)) _=_;rw[show peq (.k b) (.k 0)=some (ieq b 0)by show(match ieq b 0 with|true=>some true|false=>some (ieq b 0))=_;cases ieq b 0<;>rfl,Ztx hb0];rfl
 have c2:ev (cD n) 18 [(0,iI a),(1,iI b)] (owD []) (.cmp (.n 1) [(.Lt,.c (.int (.k 0)))])=some (.bool (ilt b 0)):=rfl;refine Zld (n:=19) c1 ?_
 by_cases hneg:b<0
 ·rw[Zzs hneg]at c2;refine Zp5 (n:=18) c2 (Yfg ?_)
  obtain⟨m,e,h⟩:=hl.neg hneg;rw[e];exact Zmb ⟨h,ha.neg,hb.neg⟩
 ·rw[Znu hneg]at c2;have hb1:0<b:=Int.lt_iff_le_and_ne.mpr ⟨Int.not_lt.mp hneg,Ne.symm hb0⟩;have c3:ev (cD n) 17 [(0,iI a),(1,iI b)] (owD []) (.cmp (.n 0) [(.Lt,.c (.int (.k 0)))])=some (.bool (ilt a 0)):=rfl;refine Zld (n:=18) c2 ?_
  by_cases hna:a<0
  ·rw[Zzs hna]at c3;refine Zp5 (n:=17) c3 (Yff hb1 ?_)
   obtain⟨m,e,h⟩:=hl.inv hb1 hna;rw[e];exact Zmb ⟨h,ha.inv hna,hb⟩
  ·rw[Znu hna]at c3;exact Zld (n:=17) c3 (Zfi (n:=16) (Zcl (n:=15) (Ze6 (Zf9 (d:=iI a) rfl) (Zf9 (d:=iI b) rfl)) (Zmb ⟨Int.not_lt.mp hna,hb1,ha,hb⟩)))
theorem Zpr{k a b c d:Nat}(h:k+b<=c)(h1:a<=b)(h2:c<=d):k+a<=d:=Hag (Hay h1 k) (Hag h h2)
noncomputable def Ze3(s0:Shared)(mg:Str->Option Value)(nm fn:Nat->Str)(f:Nat)(xs:List Nat)(code:List S):Prop:=∃(a:Addr) (fd:FuncData) (body:List Stmt) (fo fu:Nat),Zr2 s0 mg (fn f) a/\Zna s0 a fd body/\Zgc nm fd xs/\Za6 xs=true∧
 (xs.all λx=>Zai fd.scope.names (nm x))=true/\Zm7 nm fn fo fd.scope.names fu body code=true
theorem Zcj(hk:k+1<=100)(hnm:Zb6 nm)(hσ:∀n,(σ.v n).natAbs<=2^1000)(hC:Za1 prog w T σ mg mb s0 fn C (k+1))(hH:Zfo prog w T σ mg mb s0 (k+1)){f:Nat}{xs:List Nat}{code:List S}{ds:List D}{d:D}
  (h:Ze3 s0 mg nm fn f xs code)(hlen:xs.length=ds.length)(hrun:run C n code (xs.zip ds) []=some (.ret d)):Con prog w T σ mg mb s0 fn k f ds d:=by
 obtain⟨a,fd,body,fo,fu,G,F,hb,hx,hf,hok⟩:=h;exact⟨a,G,Ybr hk hnm hσ hC hH F hb hx hf hlen hok hrun⟩
theorem Zcb(h:∀f ds d,C f ds=some d->(f<900/\Con prog w T σ mg mb s0 fn k f ds d)\/(900<=f/\f<1000/\Zwm prog w T σ mg mb s0 k f ds d)):Za1 prog w T σ mg mb s0 fn C k:=by
 refine⟨λf ds d hf hc=>?_,λf ds d hf hc=>?_,λm es ds d hc=>?_⟩
 ·exact(h f ds d hc).elim (λx=>x.2) λx=>absurd (Har (bLe hf) x.1) (Hao _)
 ·exact(h f ds d hc).elim (λx=>absurd (Har x.1 (bLe (Zaa hf).1)) (Hao _)) λx=>x.2.2
 ·exact(h _ _ d hc).elim (λx=>absurd (Hak (Hal 1000 m) x.1) (by decide)) λx=>absurd (Hak (Hal 1000 m) x.2.1) (Hao _)
noncomputable def Zko:List Str:=["a","b","n","a_digits","r","q_digits","a_digit","q_digit","q"]
theorem Zgj:Zb6 (Za4 Zko):=Zdi (by decide+kernel) (by decide+kernel) (by decide+kernel)
structure Ydy(prog:Program)(w:World)(T:Addr->Prop)(σ:Sg)(mg mb:Str->Option Value)(s0:Shared)(fn:Nat->Str):Prop where
 hσ:∀n,(σ.v n).natAbs<=2^1000
 hH:∀k,k+3<=100->Zfo prog w T σ mg mb s0 k
 lim:∃t,mg "_DIV_LIMIT"=some (.int 4000 t)
 f5:Ze3 s0 mg (Za4 Zko) fn 5 [0,1] Zzj
 f18:Ze3 s0 mg (Za4 Zko) fn 18 [0,1] Zsp
 f19:Ze3 s0 mg (Za4 Zko) fn 19 [0,1,2] Zo2
 c15:∀k n X,k+1<=100->1<=n->n<=100000->X<2^100000->Con prog w T σ mg mb s0 fn k 15 [nI X,nI n] (.lst ((List.range (Zep n X)).map λ(j:Nat)=>nI (dg n X j)))
 c16:∀k n qs,k+1<=100->(∀q∈qs,q<2^n)->qs.length<=100000->n*qs.length<=10000000->Con prog w T σ mg mb s0 fn k 16 [.lst (qs.map nI),nI n] (nI (Zfl n qs))
theorem Zw5(P:Ydy prog w T σ mg mb s0 fn)(hk:k+1<=97){a b m:Int}(hb:b≠0)(hb2:b.natAbs<2^8000)(hm:ib a-m<=4000):Con prog w T σ mg mb s0 fn k 19 [iI a,iI b,iI m] (.tup [iI (a.fdiv b),iI (a.fmod b)]):=by
 refine Zcj (Hag hk (by decide)) Zgj P.hσ (Zcb (C:=cB) λf ds d h=>?_) (P.hH _ (Hbc hk 3)) P.f19 rfl (Zxg hb hb2 hm)
 rcases Zhq h with⟨e,h⟩|h
 ·obtain⟨i,e1,h⟩:=Ycb h;rw[e,e1,←sI h];exact .inr ⟨by decide,by decide,_,_,rfl,rfl,rfl⟩
 ·rcases Zhq h with⟨e,h⟩|h
  ·obtain⟨e1,h⟩:=Ygs h;obtain⟨t,ht⟩:=P.lim;rw[e,e1,←h];exact .inr ⟨by decide,by decide,_,_,t,rfl,rfl,ht,rfl⟩
  ·exact nS h
theorem Zcy{x:Int}(h:0<=x):((x.toNat:Nat):Int)=x:=Int.toNat_of_nonneg h
theorem Ya5(P:Ydy prog w T σ mg mb s0 fn)(hk:k+2<=97){X b:Nat}(hb:0<b)(hb2:b<2^4000)(hX:X<2^100000):Con prog w T σ mg mb s0 fn k 18 [nI X,nI b] (.tup [nI (X/b),nI (X%b)]):=by
 have hk1:k+1<=97:=Hba hk;refine Zcj (Hag hk1 (by decide)) Zgj P.hσ (Zcb (C:=cP) λf ds d h=>?_) (P.hH _ (Hbc hk1 3)) P.f18 rfl (Ybd hb hb2 hX)
 rcases Zhq h with⟨e,h⟩|h
 ·obtain⟨i,e1,h⟩:=Ycb h;rw[e,e1,←sI h];exact .inr ⟨by decide,by decide,_,_,rfl,rfl,rfl⟩
 rcases Zhq h with⟨e,h⟩|h
 ·obtain⟨i,j,e1,h⟩:=Zx1 h;obtain⟨hc,h⟩:=Yb8 h;rw[e,e1,←h];exact .inr ⟨by decide,by decide,_,_,_,rfl,rfl,hc.1,hc.2,rfl⟩
 rcases Zhq h with⟨e,h⟩|h
 ·obtain⟨i,j,e1,h⟩:=Zx1 h;obtain⟨⟨h1,h2,h3,h4⟩,h⟩:=Yb8 h;have hj:=Zcy (Int.le_trans (by decide) h2)
  have hi:=Zcy h1;rw[e,e1,←h];refine .inl ⟨by decide,?_⟩
  have:=P.c15 (k+1) j.toNat i.toNat (Hag hk (by decide)) (Int.ofNat_le.mp (hj.symm▸h2)) (Int.ofNat_le.mp (hj.symm▸h3)) (by rw[←hi]at h4;exact_mod_cast h4)
  rwa [show nI i.toNat=iI i from Hb6 iI hi,show nI j.toNat=iI j from Hb6 iI hj]at this
 rcases Zhq h with⟨e,h⟩|h
 ·obtain⟨x,y,z,e1,h⟩:=Zqe h;obtain⟨a',e2,h⟩:=Zgr h;obtain⟨b',e3,h⟩:=Zgr h;obtain⟨m',e4,h⟩:=Zgr h;obtain⟨⟨h1,h2,h3⟩,h⟩:=Yb8 h;rw[e,e1,e2,e3,e4,←h];exact .inl ⟨by decide,Zw5 P hk h1 h2 h3⟩
 rcases Zhq h with⟨e,h⟩|h
 ·obtain⟨x,y,e1,h⟩:=Zy8 h;obtain⟨l,e2,h⟩:=Zn8 h;obtain⟨j,e3,h⟩:=Zgr h;obtain⟨qs,hq,h⟩:=obS h;obtain⟨⟨h1,h2,h3,h4⟩,h⟩:=Yb8 h;rw[e,e1,e2,e3,←h,Zuh hq];refine .inl ⟨by decide,?_⟩
  have:=P.c16 (k+1) j.toNat qs (Hag hk (by decide)) h2 h3 h4
  rwa [show nI j.toNat=iI j from Hb6 iI (Zcy h1)]at this
 ·exact nS h
theorem Yeo{k n:Nat}(h:k+(n+1)+3<=97):k+1+n+3<=97:=Nat.add_right_comm k 1 n▸h
theorem Yep{k n:Nat}(h:k+n+3<=97):k+1<=97/\k+1+2<=97:=
 have h:k+3<=97:=Hag (Hbc (Hal k n) 3) h
 ⟨Zpr h (by decide) (by decide),h⟩
theorem Yey{n:Nat}{f:Nat->D->Option D}{d e:D}(h:Yex n f d=some e):E12 (λm=>n=m+1) λm=>f m d=some e:=by
 cases n with
 |zero=>exact nS h
 |succ n=>exact⟨n,rfl,h⟩
theorem Zst(P:Ydy prog w T σ mg mb s0 fn)(n:Nat)(ih:∀m,n=m+1->∀k:Nat,k+m+3<=97->∀(a b:Int),Lvl m a b->SzA a->SzB b->Con prog w T σ mg mb s0 fn k 5 [iI a,iI b] (dvD a b))(k:Nat)(hk:k+n+3<=97)(a b:Int)(hl:Lvl n a b)(ha:SzA a)(hb:SzB b):Con prog w T σ mg mb s0 fn k 5 [iI a,iI b] (dvD a b):=by
  have hk2:=Yep hk;refine Zcj (Hag hk2.1 (by decide)) Zgj P.hσ (Zcb (C:=cD _) λf ds d h=>?_) (P.hH _ (Hbc hk2.1 3)) P.f5 rfl (Yfh hl ha hb)
  rcases Zhq h with⟨e,h⟩|h
  ·obtain⟨i,e1,h⟩:=Ycb h;rw[e,e1,←sI h];exact .inr ⟨by decide,by decide,_,_,rfl,rfl,rfl⟩
  rcases Zhq h with⟨e,h⟩|h
  ·obtain⟨i,j,e1,h⟩:=Zx1 h;obtain⟨m,em,h⟩:=Yey h;obtain⟨⟨h1,h2,h3⟩,h⟩:=Yb8 h;rw[e,e1,←h];exact .inl ⟨by decide,ih m em (k+1) (Yeo (em▸hk)) i j h1 h2 h3⟩
  rcases Zhq h with⟨e,h⟩|h
  ·obtain⟨i,j,e1,h⟩:=Zx1 h;obtain⟨⟨h1,h2,h3,h4⟩,h⟩:=Yb8 h;have hi:=Zcy h1;have hj:=Zcy (Int.le_of_lt h2);rw[e,e1,←h];refine .inl ⟨by decide,?_⟩
   have h3':i.toNat<2^90000:=by unfold SzA at h3;rw[←hi,Hcn]at h3;exact h3
   have h4':j.toNat<2^3900:=by unfold SzB at h4;rw[←hj,Hcn]at h4;exact h4
   have:=Ya5 P (k:=k+1) hk2.2 (X:=i.toNat) (b:=j.toNat) (Int.ofNat_lt.mp (hj.symm▸h2)) (Har h4' (Ha2 (by decide) (by decide))) (Har h3' (Ha2 (by decide) (by decide)))
   rw[←Zug]at this;unfold dvD
   rwa [show nI i.toNat=iI i from Hb6 iI hi,show nI j.toNat=iI j from Hb6 iI hj,hi,hj]at this
  ·exact nS h
theorem Ye9(P:Ydy prog w T σ mg mb s0 fn)(n:Nat):∀k:Nat,k+n+3<=97->∀(a b:Int),Lvl n a b->SzA a->SzB b->Con prog w T σ mg mb s0 fn k 5 [iI a,iI b] (dvD a b):=by
 induction n with
 |zero=>exact Zst P 0 λm e=>nomatch e
 |succ n ih=>exact Zst P (n+1) λm e=>Nat.succ.inj e▸ih
noncomputable abbrev Mo:=Nat×Nat×Nat
noncomputable abbrev Zhh:=List (Mo×Int)
noncomputable def eqM(m n:Mo):Bool:=Nat.beq m.1 n.1&&(Nat.beq m.2.1 n.2.1&&Nat.beq m.2.2 n.2.2)
theorem Zo7{m n:Mo}(h:eqM m n=true):m=n:=
 Prod.ext (Hb4 (Zaa h).1) (Prod.ext (Hb4 (Zaa (Zaa h).2).1) (Hb4 (Zaa (Zaa h).2).2))
noncomputable def nz(m:Mo)(c:Int)(r:Zhh):Zhh:=match ieq c 0 with
 |true=>r
 |false=>(m,c)::r
noncomputable def Yca(m:Mo)(c:Int):Zhh->Zhh
 |[]=>nz m c []
 |p::r=>match eqM m p.1 with
  |true=>nz m (c+p.2) r
  |false=>p::Yca m c r
noncomputable def adQ:Zhh->Zhh->Zhh
 |[],q=>q
 |p::r,q=>Yca p.1 p.2 (adQ r q)
noncomputable def Ygl(m n:Mo):Mo:=(m.1+n.1,m.2.1+n.2.1,m.2.2+n.2.2)
noncomputable def Yhw(m:Mo)(c:Int):Zhh->Zhh->Zhh
 |[],acc=>acc
 |p::r,acc=>Yca (Ygl m p.1) (c*p.2) (Yhw m c r acc)
noncomputable def Yhx:Zhh->Zhh->Zhh
 |[],_=>[]
 |p::r,q=>Yhw p.1 p.2 q (Yhx r q)
noncomputable def Yki(n:Nat):Option Zhh:=match Nat.beq n 2 with
 |true=>some [((1,0,0),1)]
 |false=>(match Nat.beq n 3 with
  |true=>some [((0,1,0),1)]
  |false=>(match Nat.beq n 4 with
   |true=>some [((0,0,1),1)]
   |false=>none))
noncomputable def Zn3:PX->Option Zhh
 | .k i=>some (Yca (0,0,0) i [])
 | .v n=>Yki n
 | .add a b=>Zac (Zn3 a) λp=>Zac (Zn3 b) λq=>some (adQ p q)
 | .mul a b=>Zac (Zn3 a) λp=>Zac (Zn3 b) λq=>some (Yhx p q)
section
variable (x y z:Int)
noncomputable def moV(m:Mo):Int:=x^m.1*(y^m.2.1*z^m.2.2)
noncomputable def evQ:Zhh->Int
 |[]=>0
 |p::r=>p.2*moV x y z p.1+evQ r
theorem Zzo(m:Mo)(c:Int)(r:Zhh):evQ x y z (nz m c r)=c*moV x y z m+evQ x y z r:=by
 unfold nz;cases h:ieq c 0 with
 |true=>rw[Zdh.mp h,Int.zero_mul,Int.zero_add]
 |false=>rfl
theorem Znm(m:Mo)(c:Int)(p:Zhh):evQ x y z (Yca m c p)=c*moV x y z m+evQ x y z p:=by
 induction p with
 |nil=>exact Zzo x y z m c []
 |cons p r ih=>
  show evQ x y z (match eqM m p.1 with|true=>nz m (c+p.2) r|false=>p::Yca m c r)=c*moV x y z m+(p.2*moV x y z p.1+evQ x y z r)
  cases h:eqM m p.1 with
  |true=>
   refine(Zzo x y z m (c+p.2) r).trans ?_
   rw[Zo7 h,Int.add_mul,Int.add_assoc]
  |false=>
   show p.2*moV x y z p.1+evQ x y z (Yca m c r)=_;rw[ih,Int.add_left_comm]
theorem Ybi(p q:Zhh):evQ x y z (adQ p q)=evQ x y z p+evQ x y z q:=by
 induction p with
 |nil=>exact(Int.zero_add _).symm
 |cons p r ih=>
  refine(Znm x y z p.1 p.2 (adQ r q)).trans ?_
  rw[ih,←Int.add_assoc];rfl
theorem Yi5(a b c d e f:Int):a*b*(c*d*(e*f))=a*(c*e)*(b*(d*f)):=by ac_rfl
theorem Ycp(m n:Mo):moV x y z (Ygl m n)=moV x y z m*moV x y z n:=by
 show x^(m.1+n.1)*(y^(m.2.1+n.2.1)*z^(m.2.2+n.2.2))=x^m.1*(y^m.2.1*z^m.2.2)*(x^n.1*(y^n.2.1*z^n.2.2));rw[Int.pow_add,Int.pow_add,Int.pow_add];exact Yi5 _ _ _ _ _ _
theorem Yi6(a b c d:Int):a*c*(b*d)=a*b*(c*d):=by ac_rfl
theorem Zxm(m:Mo)(c:Int)(q acc:Zhh):evQ x y z (Yhw m c q acc)=c*moV x y z m*evQ x y z q+evQ x y z acc:=by
 induction q with
 |nil=>
  show evQ x y z acc=c*moV x y z m*0+_;rw[Int.mul_zero,Int.zero_add]
 |cons p r ih=>
  refine(Znm x y z _ _ (Yhw m c r acc)).trans ?_
  show _=c*moV x y z m*(p.2*moV x y z p.1+evQ x y z r)+evQ x y z acc;rw[ih,Ycp,Int.mul_add,←Int.add_assoc,Yi6 c (moV x y z m) p.2 (moV x y z p.1)]
theorem Ybj(p q:Zhh):evQ x y z (Yhx p q)=evQ x y z p*evQ x y z q:=by
 induction p with
 |nil=>exact(Int.zero_mul _).symm
 |cons p r ih=>
  refine(Zxm x y z p.1 p.2 q (Yhx r q)).trans ?_
  show _=(p.2*moV x y z p.1+evQ x y z r)*evQ x y z q;rw[ih,Int.add_mul]
theorem mo_0:moV x y z (0,0,0)=1:=by
 show x^0*(y^0*z^0)=1;rw[Hc7,Hc7,Hc7];rfl
theorem mo_1:moV x y z (1,0,0)=x:=by
 show x^1*(y^0*z^0)=x;rw[Hc7,Hc7,Int.pow_succ,Hc7,Int.one_mul,Int.mul_one];exact Int.mul_one x
theorem mo_2:moV x y z (0,1,0)=y:=by
 show x^0*(y^1*z^0)=y;rw[Hc7,Hc7,Int.pow_succ,Hc7,Int.one_mul,Int.mul_one,Int.one_mul]
theorem mo_3:moV x y z (0,0,1)=z:=by
 show x^0*(y^0*z^1)=z;rw[Hc7,Hc7,Int.pow_succ,Hc7,Int.one_mul,Int.one_mul,Int.one_mul]
theorem Znn(m:Mo):evQ x y z [(m,1)]=moV x y z m:=by
 show 1*moV x y z m+0=_;rw[Int.one_mul,Int.add_zero]
end
theorem Ydx(σ:Sg){n:Nat}{a:Zhh}(h:Yki n=some a):σ.v n=evQ (σ.v 2) (σ.v 3) (σ.v 4) a:=by
 unfold Yki at h;cases q2:Nat.beq n 2 with
 |true=>rw[q2]at h;rw[←sI h,Hb4 q2,Znn,mo_1]
 |false=>
  rw[q2]at h;cases q3:Nat.beq n 3 with
  |true=>rw[q3]at h;rw[←sI h,Hb4 q3,Znn,mo_2]
  |false=>
   rw[q3]at h;cases q4:Nat.beq n 4 with
   |true=>rw[q4]at h;rw[←sI h,Hb4 q4,Znn,mo_3]
   |false=>rw[q4]at h;exact nS h
theorem Zyi(σ:Sg)(p:PX):∀a:Zhh,Zn3 p=some a->p.ev σ=evQ (σ.v 2) (σ.v 3) (σ.v 4) a:=by
 induction p with
 |k i=>
  intro a h;rw[←sI h,Znm,mo_0,Int.mul_one];exact(Int.add_zero i).symm
 |v n=>exact λa h=>Ydx σ h
 |add p q ihp ihq=>
  intro a h;obtain⟨u,hu,h⟩:=obS h;obtain⟨w,hw,h⟩:=obS h;rw[←sI h,Ybi,←ihp u hu,←ihq w hw];rfl
 |mul p q ihp ihq=>
  intro a h;obtain⟨u,hu,h⟩:=obS h;obtain⟨w,hw,h⟩:=obS h;rw[←sI h,Ybj,←ihp u hu,←ihq w hw];rfl
noncomputable def nilQ(o:Option Zhh):Bool:=match o with
 |none=>false
 |some l=>l.isEmpty
noncomputable def Zjy(p q:PX):Bool:=nilQ (Zn3 (.add p (.mul (.k (-1)) q)))
theorem Yja{a b:Int}(e:a+ -1*b=0):a=b:=(Haf (li [_,_] [] (.v 0) (.v 1) [(1,.a (.v 0) (.m (-1) (.v 1)),.k 0)] rfl (Hab e)) (li [_,_] [] (.v 1) (.v 0) [(1,.k 0,.a (.v 0) (.m (-1) (.v 1)))] rfl (Hab e.symm)))
theorem Zit{p q:PX}(h:Zjy p q=true)(σ:Sg):p.ev σ=q.ev σ:=by
 unfold Zjy at h;cases hn:Zn3 (.add p (.mul (.k (-1)) q))with
 |none=>rw[hn]at h;exact bF h
 |some l=>
  rw[hn]at h;have e:=Zyi σ _ _ hn;rw[jE h]at e;exact Yja e
noncomputable def ptP:Nat->PX
 |0=>.v 2
 |1=>.v 3
 |_=>.v 4
noncomputable def Yj9(w:List Nat):PX:=w.foldl (λa r=>Zlb a (ptP r)) (.k 1)
noncomputable def Zrx(ws:List (List Nat)):PX:=ws.foldl (λa w=>Zoa a (Yj9 w)) (.k 0)
noncomputable def Zoe(a b:PX):PX:=Zoa a (Zyp b)
noncomputable def Yhn(a b c:Nat):PX:=
 let o0:=Zm8 (.v 2) (a+2);let o1:=Zm8 (.v 2) (b+1);let o2:=Zm8 (.v 2) c
 let t0:=Zm8 (.v 3) (a+2);let t1:=Zm8 (.v 3) (b+1);let t2:=Zm8 (.v 3) c
 let h0:=Zm8 (.v 4) (a+2);let h1:=Zm8 (.v 4) (b+1);let h2:=Zm8 (.v 4) c
 Zoa (Zoe (Zlb o0 (Zoe (Zlb t1 h2) (Zlb t2 h1))) (Zlb o1 (Zoe (Zlb t0 h2) (Zlb t2 h0)))) (Zlb o2 (Zoe (Zlb t0 h1) (Zlb t1 h0)))
noncomputable def Zbo:PX:=Zlb (Zlb (Zoe (.v 2) (.v 3)) (Zoe (.v 2) (.v 4))) (Zoe (.v 3) (.v 4))
noncomputable def upN(a:Nat):Nat->List Nat
 |0=>[]
 |n+1=>a::upN (a+1) n
noncomputable def gtP(a b c:Nat):PX:=
 (upN b (a+1-b)).foldl (λs m1=>(upN c (b+1-c)).foldl (λs m2=>(upN m2 (m1+1-m2)).foldl (λs n1=>
  Zoa s (Zlb (Zm8 (.v 2) n1) (Zlb (Zm8 (.v 3) (m1+m2-n1)) (Zm8 (.v 4) (a+b+c-m1-m2))))) s) s) (.k 0)
noncomputable def Zan:Nat->Nat×Nat×Nat
 |0=>(1,0,0)
 |1=>(1,1,0)
 |2=>(2,0,0)
 |3=>(2,1,0)
 |4=>(1,1,1)
 |5=>(3,0,0)
 |_=>(2,2,0)
noncomputable def Zfx:Nat->List (List Nat)
 |0=>[[0],[1],[2]]
 |1=>[[0,1],[0,2],[1,2]]
 |2=>[[0,0],[1,0],[1,1],[2,0],[2,1],[2,2]]
 |3=>[[0,0,1],[0,0,2],[1,0,1],[1,0,2],[1,1,2],[2,0,1],[2,0,2],[2,1,2]]
 |4=>[[0,1,2]]
 |5=>[[0,0,0],[1,0,0],[1,1,0],[1,1,1],[2,0,0],[2,1,0],[2,1,1],[2,2,0],[2,2,1],[2,2,2]]
 |_=>[[0,1,0,1],[0,2,0,1],[0,2,0,2],[1,2,0,1],[1,2,0,2],[1,2,1,2]]
noncomputable def Zi5(s:Nat×Nat×Nat):PX:=Yhn s.1 s.2.1 s.2.2
noncomputable def Zr3(s:Nat×Nat×Nat):Nat->Nat×Nat×Nat
 |0=>(s.1+1,s.2.1,s.2.2)
 |1=>(s.1,s.2.1+1,s.2.2)
 |_=>(s.1,s.2.1,s.2.2+1)
noncomputable def Yfw(s:Nat×Nat×Nat):List Nat->Option (Nat×Nat×Nat)
 |[]=>some s
 |r::w=>let t:=Zr3 s r
  match Nat.ble t.2.1 t.1&&Nat.ble t.2.2 t.2.1 with
  |true=>Yfw t w
  |false=>none
noncomputable def Zq8(i j:Nat):List (Nat×Nat×Nat):=(Zfx j).filterMap (Yfw (Zan i))
theorem Yco:(List.range 7).all (λi=>Zjy (.mul Zbo (Zrx (Zfx i))) (Zi5 (Zan i)))=true:=by decide+kernel
noncomputable def Zm9(τ:Nat->PX):PX->PX
 | .k i=>.k i
 | .v n=>τ n
 | .add a b=>.add (Zm9 τ a) (Zm9 τ b)
 | .mul a b=>.mul (Zm9 τ a) (Zm9 τ b)
mutual
noncomputable def Zhd(τ:Nat->PX)(ts:Nat->List Nat):D->D
 | .none=>.none
 | .bool b=>.bool b
 | .int p=>.int (Zm9 τ p)
 | .str s=>.str s
 | .tup ds=>.tup (Zfe τ ts ds)
 | .lst ds=>.lst (Zfe τ ts ds)
 | .hdr ds=>.hdr (Zfe τ ts ds)
 | .opq=>.opq
 | .sym n=>.str (ts n)
noncomputable def Zfe(τ:Nat->PX)(ts:Nat->List Nat):List D->List D
 |[]=>[]
 |d::r=>Zhd τ ts d::Zfe τ ts r
end
structure Zkb(σ σ':Sg)(τ:Nat->PX)(ts:Nat->List Nat):Prop where
 v:∀n,σ'.v n=(τ n).ev σ
 t:∀n,σ'.t n=ts n
 h:σ'.v 999=σ.v 999
theorem Zof{σ σ':Sg}{τ:Nat->PX}{ts:Nat->List Nat}(h:Zkb σ σ' τ ts)(p:PX):(Zm9 τ p).ev σ=p.ev σ':=by
 induction p with
 |k _=>rfl
 |v n=>exact(h.v n).symm
 |add a b iha ihb=>show _+_=_+_;rw[iha,ihb]
 |mul a b iha ihb=>show _*_=_*_;rw[iha,ihb]
section
variable {σ σ':Sg} {τ:Nat->PX} {ts:Nat->List Nat} {N:Addr->Prop} {hp:Heap}
theorem Yg6(h:Zkb σ σ' τ ts){v:Value}{d:D}(r:Rd σ' N hp v d):Rd σ N hp v (Zhd τ ts d):=
 Rd.rec (motive_1:=λv d _=>Rd σ N hp v (Zhd τ ts d)) (motive_2:=λvs ds _=>RdL σ N hp vs (Zfe τ ts ds)) .opq (λe=>.str (e.trans (h.t _))) .none .bool (λe=>.int ((Zof h _).trans e)) .str (λn e _ r=>.tup n e r) (λn e _ r=>.lst n e r)
  (λn1 n2 n3 e1 e2 ho e3 _ r=>.hdr n1 n2 n3 e1 e2 (h.h▸ho) e3 r) .nil (λ_ _ x r=>.cons x r) r
structure Bus(σ σ':Sg)(τ:Nat->PX)(ts:Nat->List Nat)(N:Addr->Prop)(hp:Heap)(d:D):Prop where
 one:∀v,Rd σ N hp v (Zhd τ ts d)->Rd σ' N hp v d
theorem Zwv{ds:List D}(ih:∀d∈ds,Bus σ σ' τ ts N hp d):∀vs,RdL σ N hp vs (Zfe τ ts ds)->RdL σ' N hp vs ds:=by
 induction ds with
 |nil=>exact λvs r=>(show vs=[]from r.inv)▸.nil
 |cons d ds ih2=>
  intro vs r;obtain⟨v,ws,e,x,r⟩:=r.inv;rw[e];exact .cons ((ih d (.head _)).one v x) (ih2 (λd hd=>ih d (.tail _ hd)) ws r)
theorem Yg4(h:Zkb σ σ' τ ts)(d:D):Bus σ σ' τ ts N hp d:=
 D.rec (motive_1:=Bus σ σ' τ ts N hp) (motive_2:=λds=>∀d∈ds,Bus σ σ' τ ts N hp d) ⟨λv r=>(show v= .none from r.inv)▸.none⟩ (λb=>⟨λv r=>(show v= .bool b from r.inv)▸.bool b⟩)
  (λp=>⟨λv r=>let⟨_,_,e,q⟩:=Rd.intE r;e▸.int ((Zof h p).symm.trans q)⟩) (λs=>⟨λv r=>let⟨_,_,e,q⟩:=r.inv;e▸.str q⟩)
  (λds ih=>⟨λv r=>let⟨_,vs,_,e,n,g,rs⟩:=r.inv;e▸.tup n g (Zwv ih vs rs)⟩) (λds ih=>⟨λv r=>let⟨_,vs,_,e,n,g,rs⟩:=r.inv;e▸.lst n g (Zwv ih vs rs)⟩)
  (λds ih=>⟨λv r=>let⟨_,_,_,_,_,vs,_,e,n1,n2,n3,e1,e2,ho,e3,rs⟩:=r.inv;e▸.hdr n1 n2 n3 e1 e2 (h.h.symm▸ho) e3 (Zwv ih vs rs)⟩)
  ⟨λ_ _=>.opq⟩ (λn=>⟨λv r=>let⟨_,_,e,q⟩:=r.inv;e▸.sym (q.trans (h.t n).symm)⟩) (λ_ h=>nomatch h) (λd ds hd hds e he=>by
   rcases jC he with q|q
   ·exact q▸hd
   ·exact hds e q) d
theorem Yc6(h:Zkb σ σ' τ ts)(ds:List D){vs:List Value}(r:RdL σ N hp vs (Zfe τ ts ds)):RdL σ' N hp vs ds:=Zwv (λd _=>Yg4 h d) vs r
end
noncomputable def Ycd(d:D):Bool:=match d with| .none=>true|_=>false
noncomputable def boB(d:D)(f:Bool->Bool):Bool:=match d with| .bool b=>f b|_=>false
noncomputable def inB(d:D)(f:PX->Bool):Bool:=match d with| .int b=>f b|_=>false
noncomputable def stB(d:D)(f:List Nat->Bool):Bool:=match d with| .str b=>f b|_=>false
noncomputable def tuB(d:D)(f:List D->Bool):Bool:=match d with| .tup b=>f b|_=>false
noncomputable def lsB(d:D)(f:List D->Bool):Bool:=match d with| .lst b=>f b|_=>false
noncomputable def syB(d:D)(f:Nat->Bool):Bool:=match d with| .sym b=>f b|_=>false
mutual
noncomputable def dsm:D->D->Bool
 | .none=>Ycd
 | .bool a=>λd=>boB d λb=>a==b
 | .int p=>λd=>inB d (Ziu p)
 | .str a=>λd=>stB d (eqN a)
 | .tup a=>λd=>tuB d (Ybg a)
 | .lst a=>λd=>lsB d (Ybg a)
 | .sym a=>λd=>syB d (Nat.beq a)
 | .hdr _=>λ_=>false
 | .opq=>λ_=>false
noncomputable def Ybg:List D->List D->Bool
 |[]=>λl=>l.isEmpty
 |a::r=>λl=>match l with
  |[]=>false
  |b::s=>dsm a b&&Ybg r s
end
structure DEq(a:D):Prop where
 one:∀b,dsm a b=true->a=b
structure DEqL(a:List D):Prop where
 all:∀b,Ybg a b=true->a=b
theorem Yjk(a:D):DEq a:=
 D.rec (motive_1:=DEq) (motive_2:=DEqL) ⟨λb h=>by cases b<;>first|rfl|exact bF h⟩ (λx=>⟨λb h=>by cases b<;>first|exact Hb6 _ (Hb5 h)|exact bF h⟩)
  (λx=>⟨λb h=>by cases b<;>first|exact Hb6 _ (Zf6 h)|exact bF h⟩) (λx=>⟨λb h=>by cases b<;>first|exact Hb6 _ (Zdw.mp h)|exact bF h⟩)
  (λx ih=>⟨λb h=>by cases b<;>first|exact Hb6 _ (ih.all _ h)|exact bF h⟩) (λx ih=>⟨λb h=>by cases b<;>first|exact Hb6 _ (ih.all _ h)|exact bF h⟩)
  (λ_ _=>⟨λ_ h=>bF h⟩) ⟨λ_ h=>bF h⟩ (λx=>⟨λb h=>by cases b<;>first|exact Hb6 _ (Hb4 h)|exact bF h⟩)
  ⟨λb h=>(jE h).symm⟩ (λx r hx hr=>⟨λb h=>by
   cases b with
   |nil=>exact bF h
   |cons y s=>rw[hx.one y (Zaa h).1,hr.all s (Zaa h).2]⟩) a
theorem Zb5{a b:D}(h:dsm a b=true):a=b:=(Yjk a).one b h
theorem Zs1{a b:List D}(h:Ybg a b=true):a=b:=by
 induction a generalizing b with
 |nil=>exact(jE h).symm
 |cons x r ih=>
  cases b with
  |nil=>exact bF h
  |cons y s=>rw[Zb5 (Zaa h).1,ih (Zaa h).2]
noncomputable def Yc8(o:Option Out)(d:D):Bool:=match o with
 |none=>false
 |some o=>(match o with
  | .ret e=>dsm e d
  | .next _ _=>false)
theorem Zgw{o:Option Out}{d:D}(h:Yc8 o d=true):o=some (.ret d):=by
 cases o with
 |none=>exact bF h
 |some o=>
  cases o with
  |ret e=>rw[Zb5 h]
  |next _ _=>exact bF h
section
variable {prog:Program} {w:World} {T:Addr->Prop} {σ σ':Sg} {mg mb:Str->Option Value} {s0:Shared} {fn:Nat->Str} {k f:Nat} {τ:Nat->PX} {ts:Nat->List Nat}
theorem Zgh(h:Zkb σ σ' τ ts){ds:List D}{d:D}(c:Con prog w T σ' mg mb s0 fn k f ds d):Con prog w T σ mg mb s0 fn k f (Zfe τ ts ds) (Zhd τ ts d):=by
 obtain⟨a,g,c⟩:=c;refine⟨a,g,λA E N s vs Q ha bs occ rs q=>c A E N s vs Q ha bs occ (Yc6 h ds rs) λv s' x r=>q v s' x (Yg6 h r)⟩
theorem Zex{ds ds':List D}{d d':D}(c:Con prog w T σ mg mb s0 fn k f ds d)(h1:∀(N:Addr->Prop) (hp:Heap) (vs:List Value),RdL σ N hp vs ds'->RdL σ N hp vs ds)(h2:∀(N:Addr->Prop) (hp:Heap) (v:Value),Rd σ N hp v d->Rd σ N hp v d'):Con prog w T σ mg mb s0 fn k f ds' d':=by
 obtain⟨a,g,c⟩:=c;exact⟨a,g,λA E N s vs Q ha bs occ rs q=>c A E N s vs Q ha bs occ (h1 _ _ _ rs) λv s' x r=>q v s' x (h2 _ _ _ r)⟩
end
noncomputable def Zfj:List S:=[.anew 1 (.lst [.c (.int (.k 24)),.c (.int (.k 15)),.c (.int (.k 10)),.c (.int (.k 1)),.c (.int (.k 4))]),.loop [2] true 1 [.bi 0 [.sl (.n 0) none (some (.c (.int (.k 60))))]] [.saug 1 (.bin .Mod (.n 2) (.c (.int (.k 5)))) .Add (.bin .Mod (.idx (.n 0) (.n 2)) (.c (.int (.k 1000000)))),.saug 1 (.bin .Mod (.bin .Add (.n 2) (.c (.int (.k 3)))) (.c (.int (.k 5)))) .Add (.bin .Mod (.bin .FloorDiv (.idx (.n 0) (.n 2)) (.c (.int (.k 1000000)))) (.c (.int (.k 1000000))))],.frz 1,.ret (.n 1)]
noncomputable def Ze9:List S:=[.asg [6] true (.comp (.tup [.n 4,.n 5]) [.mk [5] true 1 [.bin .Sub (.idx (.n 3) (.c (.int (.k 0)))) (.c (.int (.k 1))),.neg (.c (.int (.k 1))),.neg (.c (.int (.k 1)))] [],.mk [4] true 1 [.c (.int (.k 3))] [.cmp (.n 5) [(.Lt,.idx (.n 3) (.n 4))]]]),.asg [7] true (.lst [.tup []]),.loop [8] true 0 [.n 6] [.asg [7] true (.comp (.bin .Add (.n 9) (.tup [.n 10])) [.mk [9] true 0 [.n 7] [],.mk [10] true 1 [.c (.int (.k 3))] []])],.asg [11] true (.comp (.tup [.me 4 (.n 6) [.tup [.n 4,.bin .Sub (.n 5) (.c (.int (.k 1)))]],.me 4 (.n 6) [.tup [.n 4,.n 5]]]) [.mk [4,5] false 0 [.n 6] [.cmp (.n 5) [(.Gt,.c (.int (.k 0)))]]]),.asg [12] true (.comp (.tup [.me 4 (.n 6) [.tup [.bin .Sub (.n 4) (.c (.int (.k 1))),.n 5]],.me 4 (.n 6) [.tup [.n 4,.n 5]]]) [.mk [4,5] false 0 [.n 6] [.cmp (.n 4) [(.Gt,.c (.int (.k 0)))]]]),.asg [7] true (.comp (.n 9) [.mk [9] true 0 [.n 7] [.cmp (.comp (.n 13) [.mk [13] true 0 [.n 11] [.cmp (.idx (.n 9) (.idx (.n 13) (.c (.int (.k 0))))) [(.Gt,.idx (.n 9) (.idx (.n 13) (.c (.int (.k 1)))))]]]) [(.Eq,.lst [])]]]),.ret (.comp (.n 9) [.mk [9] true 0 [.n 7] [.cmp (.comp (.n 13) [.mk [13] true 0 [.n 12] [.cmp (.idx (.n 9) (.idx (.n 13) (.c (.int (.k 0))))) [(.GtE,.idx (.n 9) (.idx (.n 13) (.c (.int (.k 1)))))]]]) [(.Eq,.lst [])]]])]
noncomputable def Ziy:List S:=[.anew 16 (.comp (.bin .Mult (.c (.str [46])) (.bin .Add (.c (.int (.k 1))) (.n 15))) [.mk [9] true 0 [.n 7] [],.mk [15] true 0 [.n 3] []]),.asg [17] true (.comp (.lst [.c (.bool true),.c (.bool true)]) [.mk [9] true 0 [.n 7] []]),.loop [18] true 1 [.bi 0 [.idx (.n 7) (.c (.int (.k 0)))]] [.asg [19] true (.comp (.bin .Add (.bin .Mult (.c (.int (.k 3))) (.n 2)) (.idx (.idx (.n 7) (.n 2)) (.n 18))) [.mk [2] true 1 [.bi 0 [.n 7]] []]),.asg [20] true (.me 0 (.c (.str [])) [.comp (.bin .Add (.bor (.idx (.n 16) (.n 8))) (.idx (.lst [.c (.str [10]),.c (.str [13]),.c (.str [13,10])]) (.bin .Mod (.bin .Add (.bin .Add (.n 8) (.n 18)) (.n 14)) (.c (.int (.k 3)))))) [.mk [8] true 0 [.n 19] []]]),.asg [21] true (.me 1 (.call 0 [.bin .Add (.n 20) (.c (.str [13,10,45,46,10,46,120,10,46]))]) [.c (.str [13,10])]),.ite (.cmp (.sl (.n 21) (some (.bi 0 [.n 19])) none) [(.NotEq,.lst [.c (.str []),.c (.str [45,46]),.c (.str [46,46,120]),.c (.str [46,46])])]) [.ret (.tup [.lst [],.lst []])] [],.loop [8,4] false 2 [.n 19,.n 21] [.set 16 (.n 8) (.n 4)],.asg [17] true (.comp (.comp (.bop .And [.idx (.idx (.n 17) (.n 2)) (.n 22),.cmp (.bor (.bi 0 [.idx (.n 16) (.bin .Add (.bin .Mult (.c (.int (.k 3))) (.n 2)) (.n 22))])) [(.GtE,.bor (.bi 0 [.idx (.n 16) (.bin .Add (.bin .Add (.bin .Mult (.c (.int (.k 3))) (.n 2)) (.n 22)) (.c (.int (.k 1))))]))]]) [.mk [22] true 1 [.c (.int (.k 2))] []]) [.mk [2] true 1 [.bi 0 [.n 7]] []])],.frz 16,.ite (.cmp (.n 16) [(.NotEq,.comp (.bin .Mult (.c (.str [46])) (.bi 0 [.n 4])) [.mk [4] true 0 [.n 16] []])]) [.ret (.tup [.lst [],.lst []])] [],.ret (.tup [.comp (.comp (.bin .Sub (.bi 0 [.n 4]) (.c (.int (.k 1)))) [.mk [4] true 0 [.sl (.n 16) (some (.bin .Mult (.c (.int (.k 3))) (.n 2))) (some (.bin .Add (.bin .Mult (.c (.int (.k 3))) (.n 2)) (.c (.int (.k 3)))))] []]) [.mk [2] true 1 [.bi 0 [.n 7]] []],.n 17])]
noncomputable def Zj3:List S:=[.anew 25 (.lst []),.loop [2] true 1 [.c (.int (.k 2))] [.asg [26] true (.comp (.ite (.cmp (.n 4) [(.Eq,.n 2)]) (.c (.str [40])) (.ite (.cmp (.n 4) [(.Eq,.bin .Add (.n 2) (.c (.int (.k 1))))]) (.c (.str [41])) (.n 24))) [.mk [4] true 0 [.n 9] []]),.app 25 (.bin .Add (.bin .Add (.bin .Mult (.c (.str [40])) (.bin .Sub (.idx (.n 3) (.n 2)) (.idx (.n 3) (.bin .Add (.n 2) (.c (.int (.k 1))))))) (.me 0 (.c (.str [])) [.n 26])) (.bin .Mult (.c (.str [41])) (.bin .Sub (.idx (.n 23) (.n 2)) (.idx (.n 23) (.bin .Add (.n 2) (.c (.int (.k 1))))))))],.frz 25,.asg [28] true (.comp (.call 1 [.n 27]) [.mk [27] true 0 [.n 25] []]),.ite (.cmp (.n 28) [(.Eq,.lst [.c (.bool true),.c (.bool true)])]) [.loop [27] true 0 [.lst [.bin .Add (.c (.str [40])) (.idx (.n 25) (.c (.int (.k 0)))),.bin .Add (.idx (.n 25) (.c (.int (.k 1)))) (.c (.str [34,41]))]] [.ite (.cmp (.call 1 [.n 27]) [(.IsNot,.c (.bool false))]) [.ret (.lst [.c .none,.c .none])] []]] [],.ret (.n 28)]
noncomputable def Zmw:List S:=[.asg [30] true (.c (.int (.k 0))),.loop [9] true 0 [.n 7] [.asg [31] true (.c (.int (.k 1))),.loop [4] true 0 [.n 9] [.aug 31 .Mult (.idx (.n 29) (.n 4))],.aug 30 .Add (.n 31)],.ret (.n 30)]
noncomputable def Zha:List S:=[.asg [33,34,35] false (.comp (.comp (.bin .Pow (.n 36) (.bin .Sub (.bin .Add (.idx (.n 3) (.n 2)) (.c (.int (.k 2)))) (.n 2))) [.mk [2] true 1 [.c (.int (.k 3))] []]) [.mk [36] true 0 [.n 29] []]),.asg [37] true (.bin .Sub (.bin .Mult (.idx (.n 33) (.c (.int (.k 0)))) (.bin .Sub (.bin .Mult (.idx (.n 34) (.c (.int (.k 1)))) (.idx (.n 35) (.c (.int (.k 2))))) (.bin .Mult (.idx (.n 34) (.c (.int (.k 2)))) (.idx (.n 35) (.c (.int (.k 1))))))) (.bin .Mult (.idx (.n 33) (.c (.int (.k 1)))) (.bin .Sub (.bin .Mult (.idx (.n 34) (.c (.int (.k 0)))) (.idx (.n 35) (.c (.int (.k 2))))) (.bin .Mult (.idx (.n 34) (.c (.int (.k 2)))) (.idx (.n 35) (.c (.int (.k 0)))))))),.aug 37 .Add (.bin .Mult (.idx (.n 33) (.c (.int (.k 2)))) (.bin .Sub (.bin .Mult (.idx (.n 34) (.c (.int (.k 0)))) (.idx (.n 35) (.c (.int (.k 1))))) (.bin .Mult (.idx (.n 34) (.c (.int (.k 1)))) (.idx (.n 35) (.c (.int (.k 0))))))),.asg [38] true (.bin .Mult (.bin .Mult (.bin .Sub (.idx (.n 29) (.c (.int (.k 0)))) (.idx (.n 29) (.c (.int (.k 1))))) (.bin .Sub (.idx (.n 29) (.c (.int (.k 0)))) (.idx (.n 29) (.c (.int (.k 2)))))) (.bin .Sub (.idx (.n 29) (.c (.int (.k 1)))) (.idx (.n 29) (.c (.int (.k 2)))))),.asg [28] true (.call 5 [.bin .Add (.n 37) (.call 903 [.n 32,.n 38]),.n 38]),.ret (.ite (.cmp (.n 28) [(.Eq,.tup [.idx (.n 28) (.c (.int (.k 0))),.call 903 [.n 32,.n 38]])]) (.idx (.n 28) (.c (.int (.k 0)))) (.c .none))]
noncomputable def Zj4:List S:=[.asg [39,17] false (.call 9 [.n 3,.n 7,.n 32]),.ite (.cmp (.bi 0 [.n 39]) [(.NotEq,.bi 0 [.n 7])]) [.ret (.c .none)] [],.hnew 40,.knew 41 42,.loop [2] true 1 [.bi 0 [.n 7]] [.asg [28] true (.call 10 [.n 3,.idx (.n 39) (.n 2),.idx (.n 7) (.n 2),.n 24]),.ite (.bop .Or [.cmp (.idx (.n 28) (.c (.int (.k 0)))) [(.IsNot,.idx (.idx (.n 17) (.n 2)) (.c (.int (.k 0))))],.cmp (.idx (.n 28) (.c (.int (.k 1)))) [(.IsNot,.idx (.idx (.n 17) (.n 2)) (.c (.int (.k 1))))]]) [.ret (.c .none)] [],.ite (.cmp (.idx (.n 17) (.n 2)) [(.Eq,.lst [.c (.bool true),.c (.bool true)])]) [.asg [43] true (.me 0 (.c (.str [])) [.comp (.idx (.c (.str [97,98,99,100,101,102,103,104,105])) (.n 15)) [.mk [15] true 0 [.idx (.n 39) (.n 2)] []]]),.app 42 (.ite (.cmp (.bin .Mod (.bin .Add (.n 2) (.n 32)) (.c (.int (.k 2)))) [(.Eq,.c (.int (.k 1)))]) (.me 2 (.n 43) []) (.n 43)),.hadd 40 (.bor (.idx (.n 42) (.neg (.c (.int (.k 1)))))) (.me 0 (.c (.str [])) [.comp (.bi 2 [.n 4]) [.mk [4] true 0 [.idx (.n 7) (.n 2)] []]]),.kput 41 43 (.lst [.me 0 (.c (.str [])) [.comp (.bi 2 [.n 4]) [.mk [4] true 0 [.idx (.n 7) (.n 2)] []]]])] []],.frz 40,.frz 42,.asg [30] true (.c (.int (.k 0))),.kloop 43 41 [.asg [44] true (.call 11 [.comp (.me 5 (.c (.str [97,98,99,100,101,102,103,104,105])) [.n 10]) [.mk [10] true 0 [.n 43] []],.n 29,.n 32]),.kne (.me 6 (.n 40) [.n 43]) 41 43 (.cmp (.n 44) [(.Is,.c .none)]),.aug 30 .Add (.bin .Mult (.n 44) (.bi 0 [.me 6 (.n 40) [.me 2 (.n 43) []]]))],.ret (.ite (.cmp (.me 7 (.n 40) []) [(.Eq,.n 42)]) (.tup [.bi 7 [.comp (.me 3 (.n 43) []) [.mk [43] true 0 [.me 7 (.n 40) []] []]],.n 30]) (.c .none))]
noncomputable def Yke:List S:=[.asg [1] true (.call 13 [.n 0]),.asg [45] true (.lst [.tup [.c (.int (.k 1)),.c (.int (.k 0)),.c (.int (.k 0))],.tup [.c (.int (.k 1)),.c (.int (.k 1)),.c (.int (.k 0))],.tup [.c (.int (.k 2)),.c (.int (.k 0)),.c (.int (.k 0))],.tup [.c (.int (.k 2)),.c (.int (.k 1)),.c (.int (.k 0))],.tup [.c (.int (.k 1)),.c (.int (.k 1)),.c (.int (.k 1))],.tup [.c (.int (.k 3)),.c (.int (.k 0)),.c (.int (.k 0))],.tup [.c (.int (.k 2)),.c (.int (.k 2)),.c (.int (.k 0))]]),.asg [46] true (.lst [.idx (.n 45) (.bin .Mod (.idx (.n 1) (.c (.int (.k 0)))) (.c (.int (.k 7)))),.idx (.n 45) (.bin .Mod (.idx (.n 1) (.c (.int (.k 1)))) (.c (.int (.k 7))))]),.sw 47 48 (.bin .Sub (.c (.int (.k 13))) (.idx (.n 1) (.c (.int (.k 2))))) (.bin .Add (.bin .Sub (.c (.int (.k 14))) (.idx (.n 1) (.c (.int (.k 2))))) (.idx (.n 1) (.c (.int (.k 3))))),.asg [29] true (.bin .Add (.ite (.cmp (.bin .Mod (.bin .FloorDiv (.idx (.n 1) (.c (.int (.k 1)))) (.c (.int (.k 7)))) (.c (.int (.k 2)))) [(.Eq,.c (.int (.k 0)))]) (.lst [.n 47,.n 48]) (.lst [.n 48,.n 47])) (.lst [.bin .Sub (.bin .Sub (.n 47) (.c (.int (.k 1)))) (.idx (.n 1) (.c (.int (.k 4))))])),.asg [24] true (.idx (.lst [.c (.str []),.c (.str [92,40]),.c (.str [92,41]),.c (.str [34,40,34]),.c (.str [34,92,34,41,34]),.c (.str [92,92])]) (.bin .Mod (.bin .FloorDiv (.idx (.n 1) (.c (.int (.k 0)))) (.c (.int (.k 7)))) (.c (.int (.k 6))))),.asg [7] true (.comp (.call 8 [.n 3]) [.mk [3] true 0 [.n 46] []]),.asg [49] true (.comp (.call 11 [.n 3,.n 29,.idx (.n 1) (.c (.int (.k 0)))]) [.mk [3] true 0 [.n 46] []]),.ite (.cmp (.n 49) [(.NotEq,.comp (.call 12 [.n 33,.n 29]) [.mk [33] true 0 [.n 7] []])]) [.ret (.c (.bool false))] [],.asg [50] true (.lst [.call 17 [.idx (.n 46) (.c (.int (.k 0))),.idx (.n 7) (.c (.int (.k 1))),.n 29,.n 24,.idx (.n 1) (.c (.int (.k 0)))],.call 17 [.idx (.n 46) (.c (.int (.k 1))),.idx (.n 7) (.c (.int (.k 0))),.n 29,.n 24,.idx (.n 1) (.c (.int (.k 1)))]]),.ret (.bop .And [.cmp (.c .none) [(.NotIn,.n 50)],.cmp (.idx (.n 50) (.c (.int (.k 0)))) [(.Eq,.idx (.n 50) (.c (.int (.k 1))))],.cmp (.idx (.idx (.n 50) (.c (.int (.k 0)))) (.c (.int (.k 1)))) [(.Eq,.bin .Mult (.idx (.n 49) (.c (.int (.k 0)))) (.idx (.n 49) (.c (.int (.k 1)))))]])]
noncomputable def Zcn:List Str:=(["script","cells","k","shape","row","column","order","words","place","word","letter","along","below","pair","turn"]:List Str)++(["dots","rows","stays","step","sent","mail","back","j","grown","same","texts","steps","text","told","points"]:List Str)++(["total","product","cell","one","two","three","point","whole","under","ends","table","kept","names","name","number"]:List Str)++(["menu","shapes","lower","upper","numbers","sides"]:List Str)
theorem Za7:Zb6 (Za4 Zcn):=Zdi (by decide+kernel) (by decide+kernel) (by decide+kernel)
noncomputable def Zfn(prog:Program)(w:World)(hd:Int)(σ:Sg):Prop:=σ.v 999=hd/\σ.prog=prog/\σ.w=w/\∀n,(σ.v n).natAbs<=2^1000
noncomputable def Yee(prog:Program)(w:World)(T:Addr->Prop)(σ:Sg)(mg mb:Str->Option Value)(s0:Shared)(k m:Nat)(es ds:List D)(d:D):Prop:=∃f,Ydz prog w T σ s0 (Zf3 m) f/\∀(A:Around) (E:Value->Shared->Prop) (N:Addr->Prop) (s:Shared) (x:Addr) (vs:List Value) (Q:Value->Shared->Prop),AOk k A->Bs T mg mb s0 s->(∀a,N a->Occ s.heap a)->
  Rd σ N s.heap (.ref x) (.hdr es)->RdL σ N s.heap vs ds->Zd9 T σ N s d Q->wpAny (model prog w) A (call (.ref f) (.ref x::vs)) Q E s
noncomputable def Zsn:List Str:=["addr","opens","pos","ch"]
theorem Zq0:Zb6 (Za4 Zsn):=Zdi (by decide+kernel) (by decide+kernel) (by decide+kernel)
noncomputable def Zvr:List Str:=["addr","start","open_pos","result","pos","ch"]
theorem Zrs:Zb6 (Za4 Zvr):=Zdi (by decide+kernel) (by decide+kernel) (by decide+kernel)
structure Pk(prog:Program)(w:World)(T:Addr->Prop)(mg mb:Str->Option Value)(s0:Shared)(fn:Nat->Str)(hd:Int):Prop where
 hH:∀σ,Zfn prog w hd σ->∀k,k+3<=100->Zfo prog w T σ mg mb s0 k
 dv:∀σ,Zfn prog w hd σ->Ydy prog w T σ mg mb s0 fn
 f0:∀σ,Zfn prog w hd σ->∀k t,k+1<=100->t.length<=400000->Con prog w T σ mg mb s0 fn k 0 [.str t] (.str (Zg8 t))
 f1:Ze3 s0 mg (Za4 Zsn) fn 1 [0] Zlw
 f20:Ze3 s0 mg (Za4 Zvr) fn 20 [0] Zly
 mkeys:∀σ,Zfn prog w hd σ->∀k es l,k+4<=100->small es=true->Zk1 es=some l->Yee prog w T σ mg mb s0 k 7 es [] (.lst l)
 mget:∀σ,Zfn prog w hd σ->∀k es l name,k+4<=100->small es=true->Zre es=true->Zdq name=true->Zdy name es=some l->Yee prog w T σ mg mb s0 k 6 es [.str name] (.lst l)
 f8:Ze3 s0 mg (Za4 Zcn) fn 8 [3] Ze9
 f9:Ze3 s0 mg (Za4 Zcn) fn 9 [3,7,14] Ziy
 f10:Ze3 s0 mg (Za4 Zcn) fn 10 [3,23,9,24] Zj3
 f11:Ze3 s0 mg (Za4 Zcn) fn 11 [3,29,32] Zha
 f12:Ze3 s0 mg (Za4 Zcn) fn 12 [7,29] Zmw
 f13:Ze3 s0 mg (Za4 Zcn) fn 13 [0] Zfj
 f17:Ze3 s0 mg (Za4 Zcn) fn 17 [3,7,29,24,32] Zj4
noncomputable def Sg.wv(σ:Sg)(f:Nat->Int):Sg:={σ with v:=f}
noncomputable def Zgs:PX->Bool
 | .k _=>true
 | .v n=>Nat.beq n 2||(Nat.beq n 3||Nat.beq n 4)
 | .add a b=>Zgs a&&Zgs b
 | .mul a b=>Zgs a&&Zgs b
theorem Yc2{n:Nat}(h:Zgs (.v n)=true):n=2\/n=3\/n=4:=
 ((Hb9 _ _).mp (show(Nat.beq n 2||(Nat.beq n 3||Nat.beq n 4))=true from h)).imp Hb4 λh=>((Hb9 _ _).mp h).imp Hb4 Hb4
theorem Zpw{P:Nat->Prop}(h2:P 2)(h3:P 3)(h4:P 4){n:Nat}(h:Zgs (.v n)=true):P n:=(Yc2 h).elim (λe=>e▸h2) λh=>h.elim (λe=>e▸h3) λe=>e▸h4
theorem Zhr{σ σ':Sg}(h2:σ.v 2=σ'.v 2)(h3:σ.v 3=σ'.v 3)(h4:σ.v 4=σ'.v 4){p:PX}:Zgs p=true->p.ev σ=p.ev σ':=by
 induction p with
 |k _=>exact λ_=>rfl
 |v n=>exact Zpw (P:=λn=>σ.v n=σ'.v n) h2 h3 h4
 |add a b iha ihb=>
  intro h;show _+_=_+_;rw[iha (Zaa h).1,ihb (Zaa h).2]
 |mul a b iha ihb=>
  intro h;show _*_=_*_;rw[iha (Zaa h).1,ihb (Zaa h).2]
theorem Zir{σ:Sg}{B:Nat}(h2:(σ.v 2).natAbs<=B)(h3:(σ.v 3).natAbs<=B)(h4:(σ.v 4).natAbs<=B){p:PX}:Zgs p=true->(p.ev σ).natAbs<=Zp0 B p:=by
 induction p with
 |k _=>exact λ_=>Hac _
 |v n=>exact Zpw (P:=λn=>(σ.v n).natAbs<=B) h2 h3 h4
 |add a b iha ihb=>exact λh=>Hag (Int.natAbs_add_le _ _) (Nat.add_le_add (iha (Zaa h).1) (ihb (Zaa h).2))
 |mul a b iha ihb=>
  intro h;show(a.ev σ*b.ev σ).natAbs<=_;rw[Int.natAbs_mul];exact Nat.mul_le_mul (iha (Zaa h).1) (ihb (Zaa h).2)
structure DGr(τ:Nat->PX)(ts:Nat->List Nat)(d:D):Prop where
 one:gr d=true->Zhd τ ts d=d
structure DGrL(τ:Nat->PX)(ts:Nat->List Nat)(ds:List D):Prop where
 all:grL ds=true->Zfe τ ts ds=ds
theorem Yfi{τ:Nat->PX}{ts:Nat->List Nat}(d:D):DGr τ ts d:=
 D.rec (motive_1:=DGr τ ts) (motive_2:=DGrL τ ts) ⟨λ_=>rfl⟩ (λ_=>⟨λ_=>rfl⟩) (λp=>⟨λh=>by cases p<;>first|rfl|exact bF h⟩) (λ_=>⟨λ_=>rfl⟩) (λds ih=>⟨λh=>Hb6 D.tup (ih.all h)⟩) (λds ih=>⟨λh=>Hb6 D.lst (ih.all h)⟩)
  (λ_ _=>⟨λh=>bF h⟩) ⟨λh=>bF h⟩ (λ_=>⟨λh=>bF h⟩) ⟨λ_=>rfl⟩ (λd ds hd hds=>⟨λh=>by
   show _::_=_;rw[hd.one (Zaa h).1,hds.all (Zaa h).2]⟩) d
theorem Zck{τ:Nat->PX}{ts:Nat->List Nat}{d:D}(h:gr d=true):Zhd τ ts d=d:=(Yfi d).one h
theorem Yg3{σ:Sg}{N:Addr->Prop}{hp:Heap}{v:Value}{i:Int}{p:PX}(r:Rd σ N hp v (.int (.k i)))(h:p.ev σ=i):Rd σ N hp v (.int p):=by
 obtain⟨_,e⟩:=r.inv;rw[e];exact .int h
theorem Yg5{σ:Sg}{N:Addr->Prop}{hp:Heap}{v:Value}{p:PX}(r:Rd σ N hp v (.int p)):Rd σ N hp v (.int (.k (p.ev σ))):=by
 obtain⟨_,e⟩:=r.inv;rw[e];exact .int rfl
noncomputable abbrev vD(n:Nat):D:=.int (.v n)
noncomputable def Zlr:D:=.lst [vD 2,vD 3,vD 4]
noncomputable def shT(s:Nat×Nat×Nat):D:=.tup [nI s.1,nI s.2.1,nI s.2.2]
noncomputable def shL(s:Nat×Nat×Nat):D:=.lst [nI s.1,nI s.2.1,nI s.2.2]
noncomputable def pp2(l:List D)(a b:PX)(d:D):Option D:=two l λx y=>onI x λp=>onI y λq=>Zas (Ziu p a&&Ziu q b) (some d)
theorem pp2S{l:List D}{a b:PX}{d e:D}(h:pp2 l a b d=some e):l=[.int a,.int b]/\d=e:=by
 obtain⟨x,y,e1,h⟩:=Zy8 h;obtain⟨p,e2,h⟩:=Zk8 h;obtain⟨q,e3,h⟩:=Zk8 h;obtain⟨hc,h⟩:=Zaj h;exact⟨by rw[e1,e2,e3,Zf6 (Zaa hc).1,Zf6 (Zaa hc).2],sI h⟩
noncomputable def cNum(a b:PX)(f:Nat)(ds:List D):Option D:=onF f 903 (pp2 ds (.v 60) b (vD 50)) (onF f 5 (pp2 ds a b (.tup [vD 51,vD 50])) none)
noncomputable def Zz0(s:Nat×Nat×Nat):PX:=Zoa (Zi5 s) (.v 50)
noncomputable def Zyj(sh:D)(s:Nat×Nat×Nat):Bool:=Yc8 (run (cNum (Zz0 s) Zbo) 60 Zha [(3,sh),(29,Zlr),(32,vD 60)] []) (vD 51)&&(Nat.blt (Zp0 (2^1000) (Zz0 s)) (2^90000)&&(Zgs (Zi5 s)&&gr sh))
theorem Zln:(Nat.blt (Zp0 (2^1000) Zbo) (2^3900)&&Zgs Zbo)=true:=by decide+kernel
theorem Yi2{k:Nat}(h:k+6<=97):k+1+2+3<=97:=h
theorem Yer{k:Nat}(h:k+6<=97):k+1<=100/\k+1+3<=100:=⟨Zpr h (by decide) (by decide),Zpr (a:=4) h (by decide) (by decide)⟩
theorem Ztl{w u c g:Int}(hu:u≠0)(h:u*g=w):(w+c.fmod u).fdiv u=g/\(w+c.fmod u).fmod u=c.fmod u:=by
 have h1:(w+c.fmod u).fmod u=c.fmod u:=by
  rw[←h,Int.add_comm,Int.add_mul_fmod_self_left,Int.fmod_fmod]
 refine⟨?_,h1⟩
 have h2:=Hae (w+c.fmod u) u;rw[h1]at h2;exact Int.eq_of_mul_eq_mul_left hu (((Int.add_left_inj _).mp h2).trans h.symm)
theorem Zxt(c:Int){u:Int}(hu:u≠0):(c.fmod u).natAbs<=u.natAbs:=by
 rcases Int.lt_or_gt_of_ne hu with h|h
 ·have e:(-c).fmod (-u)= -(c.fmod u):=by
   have:=Zl8 c u
   injection this with this
   injection this with _ this
   injection this with this _
   injection this with this
   injection this
  have hu':0< -u:=Int.neg_pos_of_neg h;have hx:(-(c.fmod u)).natAbs<(-u).natAbs:=Int.natAbs_lt_natAbs_of_nonneg_of_lt (e▸Hb1 (-c) hu') (e▸Hb2 (-c) hu');rw[Int.natAbs_neg,Int.natAbs_neg]at hx;exact Haz hx
 ·exact Haz (Int.natAbs_lt_natAbs_of_nonneg_of_lt (Hb1 c h) (Hb2 c h))
variable {hd:Int}
theorem Zsu(P:Pk prog w T mg mb s0 fn hd)(hg:Zfn prog w hd σ)(hk:k+6<=97){sh:D}{s:Nat×Nat×Nat}(hn:Zyj sh s=true){c G:PX}(hu:Zbo.ev σ≠0)(hub:(Zbo.ev σ).natAbs<=2^1000)(hG:Zbo.ev σ*G.ev σ=(Zi5 s).ev σ)(hGb:(G.ev σ).natAbs<=2^1000)(hc:(c.ev σ).natAbs<=2^1000):
  Con prog w T σ mg mb s0 fn k 11 [sh,Zlr,.int c] (.int G):=by
 obtain⟨hrun,hn⟩:=Zaa hn;obtain⟨hsz,hn⟩:=Zaa hn;obtain⟨hon,hgr⟩:=Zaa hn;obtain⟨husz,huon⟩:=Zaa Zln
 let τ:Nat->PX:=λn=>if n=50 then .k ((c.ev σ).fmod (Zbo.ev σ))else if n=51 then G else if n=60 then c else .v n
 have hsub:Zkb σ (σ.wv λn=>(τ n).ev σ) τ σ.t:=⟨λ_=>rfl,λ_=>rfl,rfl⟩
 have hg':Zfn prog w hd (σ.wv λn=>(τ n).ev σ):=by
  refine⟨hg.1,hg.2.1,hg.2.2.1,λn=>?_⟩
  show((τ n).ev σ).natAbs<=_;show((if n=50 then PX.k ((c.ev σ).fmod (Zbo.ev σ))else if n=51 then G else if n=60 then c else .v n).ev σ).natAbs<=_
  split
  ·exact Hag (Zxt _ hu) hub
  ·split
   ·exact hGb
   ·split
    ·exact hc
    ·exact hg.2.2.2 n
 generalize hσ':(σ.wv λn=>(τ n).ev σ)=σ' at*
 have v2:σ.v 2=σ'.v 2:=by rw[←hσ'];rfl
 have v3:σ.v 3=σ'.v 3:=by rw[←hσ'];rfl
 have v4:σ.v 4=σ'.v 4:=by rw[←hσ'];rfl
 have v50:σ'.v 50=(c.ev σ).fmod (Zbo.ev σ):=by rw[←hσ'];rfl
 have v51:σ'.v 51=G.ev σ:=by rw[←hσ'];rfl
 have v60:σ'.v 60=c.ev σ:=by rw[←hσ'];rfl
 have eu:=Zhr v2 v3 v4 huon;have ew:=Zhr v2 v3 v4 hon;obtain⟨f1,f2⟩:=Ztl (c:=c.ev σ) hu hG;have eA:(Zz0 s).ev σ'=(Zi5 s).ev σ+(c.ev σ).fmod (Zbo.ev σ):=by
  unfold Zz0;rw[Zis,←ew];show _+σ'.v 50=_;rw[v50]
 have hcalls:Za1 prog w T σ' mg mb s0 fn (cNum (Zz0 s) Zbo) (k+1):=by
  refine Zcb λf ds d h=>?_
  rcases Zhq h with⟨e,h⟩|h
  ·obtain⟨e1,h⟩:=pp2S h;rw[e,e1,←h];refine .inr ⟨by decide,by decide,_,_,_,rfl,rfl,by rw[←eu];exact hu,?_⟩
   show σ'.v 50=(σ'.v 60).fmod _;rw[v50,v60,←eu]
  rcases Zhq h with⟨e,h⟩|h
  ·obtain⟨e1,h⟩:=pp2S h;rw[e,e1,←h];have sz1:SzA ((Zz0 s).ev σ'):=Hak (Zfh σ' _ hg'.2.2.2 _) (bLe hsz);have sz2:SzB (Zbo.ev σ'):=Hak (Zfh σ' _ hg'.2.2.2 _) (bLe husz);refine .inl ⟨by decide,Zex (Ye9 (P.dv σ' hg') 2 (k+1) (Yi2 hk) _ _ (show Zbo.ev σ'≠0 from eu▸hu) sz1 sz2) (λN hp vs r=>?_) λN hp v r=>?_⟩
   ·obtain⟨v,u,e8,r1,r2⟩:=r.two;rw[e8];exact .cons (Yg5 r1) (.cons (Yg5 r2) .nil)
   ·obtain⟨a,vs,n,ea,hn,g,rs⟩:=r.inv;obtain⟨v,u,e8,r1,r2⟩:=rs.two;rw[e8]at g;rw[ea];refine .tup (vs:=[_,_]) hn g (.cons (Yg3 r1 ?_) (.cons (Yg3 r2 ?_) .nil))
    ·show σ'.v 51=((Zz0 s).ev σ').fdiv (Zbo.ev σ');rw[v51,eA,←eu,f1]
    ·show σ'.v 50=((Zz0 s).ev σ').fmod (Zbo.ev σ');rw[v50,eA,←eu,f2]
  ·exact nS h
 have c1:=Zcj (n:=60) (ds:=[sh,Zlr,vD 60]) (d:=vD 51) (Yer hk).1 Za7 hg'.2.2.2 hcalls (P.hH _ hg' _ (Yer hk).2) P.f11 rfl (Zgw hrun);have c2:=Zgh hsub c1;have e:Zfe τ σ.t [sh,Zlr,vD 60]=[sh,Zlr,.int c]:=by
  show Zhd τ σ.t sh::_=_;rw[Zck hgr]
  rfl
 rw[e]at c2;exact c2
noncomputable def wD(w:List Nat):D:=.tup (w.map nI)
noncomputable def Zga(j:Nat):D:=.lst ((Zfx j).map wD)
noncomputable def cNo(_:Nat)(_:List D):Option D:=none
noncomputable def Ztn(i:Nat):Bool:=Yc8 (run cNo 60 Ze9 [(3,shT (Zan i))] []) (Zga i)
noncomputable def Ydq(i:Nat):Bool:=Yc8 (run cNo 60 Zmw [(7,Zga i),(29,Zlr)] []) (.int (Zrx (Zfx i)))
noncomputable def cQ(f:Nat)(ds:List D):Option D:=onF f 0 (one ds λx=>onS x λt=>Zas (Nat.ble t.length 400000) (some (.str (Zg8 t)))) none
noncomputable def Zzm(s:Nat×Nat×Nat)(w:List Nat):Nat×Nat×Nat:=w.foldl Zr3 s
noncomputable def Ydn(s:Nat×Nat×Nat):List Nat->Bool×Bool
 |[]=>(true,true)
 |r::w=>let t:=Zr3 s r
  let b:=Ydn t w
  (Nat.ble t.2.1 t.1&&b.1,Nat.ble t.2.2 t.2.1&&b.2)
noncomputable def Zm0(s:Nat×Nat×Nat)(w:List Nat):D:=.lst [.bool (Ydn s w).1,.bool (Ydn s w).2]
noncomputable def grD(i j:Nat):D:=.tup [.lst ((Zfx j).map λw=>shL (Zzm (Zan i) w)),.lst ((Zfx j).map (Zm0 (Zan i)))]
noncomputable def c3(r:Nat):PX:=.add (.mul (.k 3) (.v 60)) (.k (r:Int))
noncomputable def Zpm(i j r:Nat):Bool:=Yc8 (run cQ 60 Ziy [(3,shT (Zan i)),(7,Zga j),(14,.int (c3 r))] []) (grD i j)
theorem Zxq:(List.range 7).all Ztn=true:=by decide+kernel
theorem Ydr:(List.range 7).all Ydq=true:=by decide+kernel
noncomputable def Zer:List (List Nat):=[[],[92,40],[92,41],[34,40,34],[34,92,34,41,34],[92,92]]
noncomputable def cR(f:Nat)(ds:List D):Option D:=onF f 1 (one ds λx=>onS x λt=>Zac (Zsl t) λb=>some (.bool b)) none
noncomputable def Zdd(i:Nat)(w sm:List Nat):Bool:=Yc8 (run cR 60 Zj3 [(3,shT (Zan i)),(23,shL (Zzm (Zan i) w)),(9,wD w),(24,.str sm)] []) (Zm0 (Zan i) w)
noncomputable def c2(r:Nat):PX:=.add (.mul (.k 2) (.v 60)) (.k (r:Int))
noncomputable def Zkh(s:Nat×Nat×Nat):Nat:=100+(s.1*64+(s.2.1*8+s.2.2))
noncomputable def Zzk(n:Nat):Nat×Nat×Nat:=((n-100)/64,(n-100)/8%8,(n-100)%8)
noncomputable def inE(s:Nat×Nat×Nat):List (Nat×Nat×Nat)->Bool
 |[]=>false
 |t::r=>eqM s t||inE s r
noncomputable def Zxs(i:Nat)(e w:D):List (List Nat)->Option D
 |[]=>none
 |u::r=>match dsm w (wD u)&&dsm e (shL (Zzm (Zan i) u))with
  |true=>some (Zm0 (Zan i) u)
  |false=>Zxs i e w r
noncomputable def Ygo(d:D):Option (Nat×Nat×Nat):=onL d λl=>Zry l λx y z=>onJ x λa=>onJ y λb=>onJ z λc=>some (a,b,c)
noncomputable def Yjr{α:Type}(l:List D)(f:D->D->D->D->Option α):Option α:=match l with
 |[]=>none
 |a::r=>Zry r (f a)
noncomputable def cGet(ds:List D):Option D:=two ds λh n=>onG h λes=>onS n λname=>Zas (small es&&(Zre es&&Zdq name)) (Zac (Zdy name es) λl=>some (.lst l))
noncomputable def Yjf(ds:List D):Option D:=one ds λh=>onG h λes=>Zas (small es) (Zac (Zk1 es) λl=>some (.lst l))
noncomputable def Yjh(i j:Nat)(ds:List D):Option D:=Yjr ds λsh e w z=>onY z λn=>Zas (Nat.beq n 0&&dsm sh (shT (Zan i))) (Zxs i e w (Zfx j))
noncomputable def Yjg(i j r:Nat)(ds:List D):Option D:=Zry ds λnu pts c=>onI c λc=>Zac (Ygo nu) λs=>Zas (inE s (Zq8 i j)&&(dsm pts Zlr&&Ziu c (c2 r))) (some (vD (Zkh s)))
noncomputable def cS(i j r:Nat)(f:Nat)(ds:List D):Option D:=onF f 9 (Zas (Ybg ds [shT (Zan i),Zga j,.int (c2 r)]) (some (grD i j))) (onF f 10 (Yjh i j ds) (onF f 11 (Yjg i j r ds) (onF f 1006 (cGet ds) (onF f 1007 (Yjf ds) none))))
noncomputable def ltr(n:Nat):Nat:=97+n
noncomputable def Ze7(i j:Nat):List (List Nat):=Zlg ((Zq8 i j).map λs=>[ltr s.1,ltr s.2.1,ltr s.2.2])
noncomputable def gtT(n:Nat):PX:=let s:=Zzk n;gtP s.1 s.2.1 s.2.2
noncomputable def Zle(i j r:Nat):Option Out:=run (cS i j r) 60 Zj4 [(3,shT (Zan i)),(7,Zga j),(29,Zlr),(24,.sym 0),(32,.int (c2 r))] []
noncomputable def Zro(f:Nat->PX):PX->PX
 | .k i=>.k i
 | .v n=>f n
 | .add a b=>.add (Zro f a) (Zro f b)
 | .mul a b=>.mul (Zro f a) (Zro f b)
noncomputable def Zrn(l:List (Nat×Nat×Nat)):PX->Bool
 | .k _=>true
 | .v n=>inE (Zzk n) l&&Nat.ble 100 n
 | .add a b=>Zrn l a&&Zrn l b
 | .mul a b=>Zrn l a&&Zrn l b
noncomputable def Yh2(o:Option Out):Option D:=Zac o λo=>match o with
 | .ret d=>some d
 | .next _ _=>none
noncomputable def Yde(i j:Nat)(d:D):Option D:=onT d λl=>two l λa b=>onL a λns=>onI b λt=>Zas (Ybg ns ((Ze7 (min i j) (max i j)).map .str)&&(Zrn (Zq8 i j) t&&Zjy (Zro gtT t) (.mul (Zrx (Zfx i)) (Zrx (Zfx j))))) (some d)
noncomputable def Zd6(i j r:Nat):Bool:=(Zac (Yh2 (Zle i j r)) (Yde i j)).isSome
noncomputable def Zgd:List (Nat×Nat×Nat):=[(2,0,0),(1,1,0),(2,1,0),(1,1,1),(3,0,0),(3,1,0),(2,2,0),(2,1,1),(4,0,0),(3,2,0),
 (2,2,1),(3,1,1),(4,1,0),(3,3,0),(3,2,1),(5,0,0),(4,2,0),(2,2,2),(4,1,1),(5,1,0),
 (4,3,0),(4,2,1),(3,3,1),(3,2,2),(6,0,0),(5,2,0),(4,4,0),(4,3,1),(4,2,2)]
noncomputable def gtS(s:Nat×Nat×Nat):PX:=gtP s.1 s.2.1 s.2.2
noncomputable def eOk(s:Nat×Nat×Nat):Bool:=Zyj (shL s) s&&(Zjy (.mul Zbo (gtS s)) (Zi5 s)&&(Zgs (gtS s)&&(Nat.ble (Zp0 (2^30) (gtS s)) (2^1000)&&eqM (Zzk (Zkh s)) s)))
noncomputable def mOk(i:Nat):Bool:=Zyj (shT (Zan i)) (Zan i)&&(Zgs (Zrx (Zfx i))&&Nat.ble (Zp0 (2^30) (Zrx (Zfx i))) (2^400))
theorem Zgm{α:Type}{f:α->D}(h:∀x,gr (f x)=true)(l:List α):grL (l.map f)=true:=by
 induction l with
 |nil=>rfl
 |cons x r ih=>exact(Hcd _ _).mpr ⟨h x,ih⟩
theorem Yjt(w:List Nat):gr (wD w)=true:=Zgm (λ_=>rfl) w
theorem Zku(j:Nat):gr (Zga j)=true:=Zgm Yjt _
theorem Zpn(s:Nat×Nat×Nat):gr (shT s)=true:=rfl
theorem Yfu(s:Nat×Nat×Nat):gr (shL s)=true:=rfl
theorem Ybu(s:Nat×Nat×Nat)(w:List Nat):gr (Zm0 s w)=true:=rfl
theorem Yft(i j:Nat):gr (grD i j)=true:=(Hcd _ _).mpr ⟨Zgm (λw=>Yfu _) _,(Hcd _ _).mpr ⟨Zgm (λw=>Ybu _ w) _,rfl⟩⟩
theorem Zhk:Za1 prog w T σ mg mb s0 fn cNo k:=Zcb λ_ _ _ h=>nS h
theorem Zm5{k:Nat}(h:k+1<=97):k+1<=100/\k+1+3<=100:=⟨Hag h (by decide),Hbc h 3⟩
theorem Zw6(P:Pk prog w T mg mb s0 fn hd)(hg:Zfn prog w hd σ)(hk:k+1<=97){i:Nat}(h:Ztn i=true):Con prog w T σ mg mb s0 fn k 8 [shT (Zan i)] (Zga i):=
 Zcj (n:=60) (ds:=[shT (Zan i)]) (Zm5 hk).1 Za7 hg.2.2.2 Zhk (P.hH _ hg _ (Zm5 hk).2) P.f8 rfl (Zgw h)
theorem Ya7(P:Pk prog w T mg mb s0 fn hd)(hg:Zfn prog w hd σ)(hk:k+1<=97){i:Nat}(h:Ydq i=true):Con prog w T σ mg mb s0 fn k 12 [Zga i,Zlr] (.int (Zrx (Zfx i))):=
 Zcj (n:=60) (ds:=[Zga i,Zlr]) (Zm5 hk).1 Za7 hg.2.2.2 Zhk (P.hH _ hg _ (Zm5 hk).2) P.f12 rfl (Zgw h)
noncomputable def Sg.w60(σ:Sg)(z:Int):Sg:=σ.wv λn=>if n=60 then z else σ.v n
noncomputable def t60(z:Int)(n:Nat):PX:=if n=60 then .k z else .v n
theorem Ykh(z:Int):Zkb σ (σ.w60 z) (t60 z) σ.t:=⟨λn=>by
 show(if n=60 then z else σ.v n)=(t60 z n).ev σ
 unfold t60;split<;>rfl,λ_=>rfl,rfl⟩
theorem Yfs(hg:Zfn prog w hd σ){z:Int}(hz:z.natAbs<=2^1000):Zfn prog w hd (σ.w60 z):=⟨hg.1,hg.2.1,hg.2.2.1,λn=>by
 show(if n=60 then z else σ.v n).natAbs<=_
 split
 ·exact hz
 ·exact hg.2.2.2 n⟩
theorem Zhn{z c:Int}(_:0<c)(B:Nat)(hz:z.natAbs<=B):(z.fdiv c).natAbs<=B:=Hag (Int.natAbs_fdiv_le_natAbs z c) hz
theorem Yfa(P:Pk prog w T mg mb s0 fn hd)(hg:Zfn prog w hd σ)(hk:k+2<=97){i j:Nat}(h:∀r,r<3->Zpm i j r=true){c:PX}(hc:(c.ev σ).natAbs<=2^1000):Con prog w T σ mg mb s0 fn k 9 [shT (Zan i),Zga j,.int c] (grD i j):=by
 have hm:=Hae (c.ev σ) 3;have h1:=Hb1 (c.ev σ) (b:=3) (by decide)
 have h2:=Hb2 (c.ev σ) (b:=3) (by decide)
 obtain⟨r,hr⟩:=Int.eq_ofNat_of_zero_le h1;have hr3:r<3:=Int.ofNat_lt.mp (hr▸h2);have hz:=Zhn (c:=3) (by decide) _ hc
 have hgz:=Yfs hg hz;have hk1:k+1<=97:=Hba hk;have hcalls:Za1 prog w T (σ.w60 ((c.ev σ).fdiv 3)) mg mb s0 fn cQ (k+1):=by
  refine Zcb λf ds d h=>?_
  rcases Zhq h with⟨e,h⟩|h
  ·obtain⟨x,e1,h⟩:=Zz2 h;obtain⟨t,e2,h⟩:=Zgb h;obtain⟨hl,h⟩:=Zaj h;rw[e,e1,e2,←sI h];exact .inl ⟨by decide,P.f0 _ hgz _ _ (Hag hk (by decide)) (bLe hl)⟩
  ·exact nS h
 have c1:=Zcj (n:=60) (ds:=[shT (Zan i),Zga j,.int (c3 r)]) (d:=grD i j) (Zm5 hk1).1 Za7 hgz.2.2.2 hcalls (P.hH _ hgz _ (Zm5 hk1).2) P.f9 rfl (Zgw (h r hr3));have c2:=Zgh (Ykh _) c1;rw[Zck (Yft i j)]at c2;have e:Zfe (t60 ((c.ev σ).fdiv 3)) σ.t [shT (Zan i),Zga j,.int (c3 r)]=[shT (Zan i),Zga j,.int (.add (.mul (.k 3) (.k ((c.ev σ).fdiv 3))) (.k (r:Int)))]:=by
  show[Zhd _ _ _,Zhd _ _ _,_]=_;rw[Zck (Zpn _),Zck (Zku _)]
  rfl
 rw[e]at c2;refine Zex c2 (λN hp vs rr=>?_) λ_ _ _ rr=>rr
 obtain⟨v1,vs1,q1,r1,rr⟩:=rr.inv;obtain⟨v2,v3,q2,r2,r3⟩:=rr.two;obtain⟨_,e3⟩:=r3.inv;rw[q1,q2,e3];refine .cons r1 (.cons r2 (.cons (.int ?_) .nil))
 show 3*(c.ev σ).fdiv 3+(r:Int)=c.ev σ;rw[←hr];exact hm
theorem Zsv(P:Pk prog w T mg mb s0 fn hd)(hg:Zfn prog w hd σ)(hk:k+1<=97){t l:List Nat}(h:Zm2 t=some l):Con prog w T σ mg mb s0 fn k 20 [.str t] (.str l):=
 Zcj (n:=25) (ds:=[.str t]) (Zm5 hk).1 Zrs hg.2.2.2 Zhk (P.hH _ hg _ (Zm5 hk).2) P.f20 rfl (Zvy h)
noncomputable def cCk(f:Nat)(ds:List D):Option D:=onF f 20 (one ds λx=>onS x λt=>(Zm2 t).map .str) none
theorem Zss(P:Pk prog w T mg mb s0 fn hd)(hg:Zfn prog w hd σ)(hk:k+2<=97){t:List Nat}{b:Bool}(h:Zsl t=some b):Con prog w T σ mg mb s0 fn k 1 [.str t] (.bool b):=by
 have hk1:k+1<=97:=Hba hk;refine Zcj (n:=23) (ds:=[.str t]) (Zm5 hk1).1 Zq0 hg.2.2.2 (Zcb (C:=cCk) λf ds d h=>?_) (P.hH _ hg _ (Zm5 hk1).2) P.f1 rfl (Zsm (λ_=>rfl) h)
 rcases Zhq h with⟨e,h⟩|h
 ·obtain⟨x,e1,h⟩:=Zz2 h;obtain⟨t,e2,h⟩:=Zgb h;obtain⟨l,hl,h⟩:=Ziq h;rw[e,e1,e2,←h];exact .inl ⟨by decide,Zsv P hg hk hl⟩
 ·exact nS h
theorem Zw8(P:Pk prog w T mg mb s0 fn hd)(hg:Zfn prog w hd σ)(hk:k+3<=97){i:Nat}{u:List Nat}(h:Zdd i u (σ.t 0)=true):Con prog w T σ mg mb s0 fn k 10 [shT (Zan i),shL (Zzm (Zan i) u),wD u,.sym 0] (Zm0 (Zan i) u):=by
 have hcalls:Za1 prog w T σ mg mb s0 fn cR (k+1):=by
  refine Zcb λf ds d h=>?_
  rcases Zhq h with⟨e,h⟩|h
  ·obtain⟨x,e1,h⟩:=Zz2 h;obtain⟨t,e2,h⟩:=Zgb h;obtain⟨b,hb,h⟩:=obS h;rw[e,e1,e2,←sI h];exact .inl ⟨by decide,Zss P hg hk hb⟩
  ·exact nS h
 have c1:=Zcj (n:=60) (ds:=[shT (Zan i),shL (Zzm (Zan i) u),wD u,.str (σ.t 0)]) (d:=Zm0 (Zan i) u) (Zm5 (Hba (Hba hk))).1 Za7 hg.2.2.2 hcalls (P.hH _ hg _ (Zm5 (Hba (Hba hk))).2) P.f10 rfl (Zgw h);refine Zex c1 (λN hp vs rr=>?_) λ_ _ _ rr=>rr
 obtain⟨v1,vs1,q1,r1,rr⟩:=rr.inv;obtain⟨v2,vs2,q2,r2,rr⟩:=rr.inv;obtain⟨v3,v4,q3,r3,r4⟩:=rr.two;obtain⟨_,_,q4,e⟩:=r4.inv;rw[q1,q2,q3,q4];exact .cons r1 (.cons r2 (.cons r3 (.cons (.str e) .nil)))
theorem Zky{s:Nat×Nat×Nat}{l:List (Nat×Nat×Nat)}:inE s l=true->s∈l:=by
 induction l with
 |nil=>exact bF
 |cons t r ih=>exact λh=>((Hb9 _ _).mp (show(eqM s t||inE s r)=true from h)).elim (λh=>Zo7 h▸.head _) λh=>.tail _ (ih h)
theorem Zxi(s:Nat×Nat×Nat):eqM s s=true:=(Hcd _ _).mpr ⟨Hcm _,(Hcd _ _).mpr ⟨Hcm _,Hcm _⟩⟩
theorem Zud{s:Nat×Nat×Nat}{l:List (Nat×Nat×Nat)}(h:s∈l):inE s l=true:=by
 induction h with
 |head r=>exact(Hb9 _ _).mpr (.inl (Zxi s))
 |tail t _ ih=>exact(Hb9 _ _).mpr (.inr ih)
inductive Yia(i:Nat)(e w d:D)(l:List (List Nat)):Prop
 |mk (u:List Nat) (hu:u∈l) (hw:w=wD u) (he:e=shL (Zzm (Zan i) u)) (hd:Zm0 (Zan i) u=d)
theorem Zto{i:Nat}{e w d:D}{l:List (List Nat)}:Zxs i e w l=some d->Yia i e w d l:=by
 induction l with
 |nil=>exact nS
 |cons u r ih=>
  intro h;have h:(match dsm w (wD u)&&dsm e (shL (Zzm (Zan i) u))with|true=>some (Zm0 (Zan i) u)|false=>Zxs i e w r)=some d:=h
  cases hc:dsm w (wD u)&&dsm e (shL (Zzm (Zan i) u))with
  |true=>
   rw[hc]at h;exact⟨u,.head _,Zb5 (Zaa hc).1,Zb5 (Zaa hc).2,sI h⟩
  |false=>
   rw[hc]at h;obtain⟨u',h1,h2,h3,h4⟩:=ih h;exact⟨u',.tail _ h1,h2,h3,h4⟩
theorem Zyg{d:D}{s:Nat×Nat×Nat}(h:Ygo d=some s):d=shL s:=by
 obtain⟨l,e,h⟩:=Zn8 h;cases l with
 |nil=>exact nS h
 |cons x l=>cases l with
  |nil=>exact nS h
  |cons y l=>cases l with
   |nil=>exact nS h
   |cons z l=>cases l with
    |cons _ _=>exact nS h
    |nil=>
     obtain⟨a,e1,h⟩:=Ygv h;obtain⟨b,e2,h⟩:=Ygv h;obtain⟨c,e3,h⟩:=Ygv h;rw[e,e1,e2,e3,←sI h];rfl
inductive Yie{α:Type}(l:List D)(r:α)(f:D->D->D->D->Option α):Prop
 |mk (a b c d:D) (e:l=[a,b,c,d]) (h:f a b c d=some r)
theorem Yfp{α:Type}{l:List D}{r:α}{f:D->D->D->D->Option α}(h:Yjr l f=some r):Yie l r f:=by
 cases l with
 |nil=>exact nS h
 |cons a l=>
  obtain⟨b,c,d,e,h⟩:=Zqe h;exact⟨a,b,c,d,by rw[e],h⟩
theorem Zsg(h:∀f ds d,C f ds=some d->(f<900/\Con prog w T σ mg mb s0 fn k f ds d)\/(900<=f/\f<1000/\Zwm prog w T σ mg mb s0 k f ds d)\/(1000<=f/\∀m es es',f=1000+m->ds= .hdr es::es'->Yee prog w T σ mg mb s0 k m es es' d)):Za1 prog w T σ mg mb s0 fn C k:=by
 refine⟨λf ds d hf hc=>?_,λf ds d hf hc=>?_,λm es ds d hc=>?_⟩
 ·have hf:=bLe hf;rcases h f ds d hc with x|x|x
  ·exact x.2
  ·exact absurd (Har hf x.1) (Hao _)
  ·exact absurd (Har hf (Hag (by decide) x.1)) (Hao _)
 ·have h1:=bLe (Zaa hf).1;have h2:=bLe (Zaa hf).2;rcases h f ds d hc with x|x|x
  ·exact absurd (Har x.1 h1) (Hao _)
  ·exact x.2.2
  ·exact absurd (Har h2 x.1) (Hao _)
 ·rcases h _ _ d hc with x|x|x
  ·exact absurd (Hak (Hal 1000 m) x.1) (by decide)
  ·exact absurd (Hak (Hal 1000 m) x.2.1) (Hao _)
  ·exact x.2 m es ds rfl rfl
noncomputable def tE(z:Int)(n:Nat):PX:=if n=60 then .k z else if Nat.ble 100 n&&(Nat.blt n 900&&inE (Zzk n) Zgd)then gtT n else .v n
structure Pts(σ:Sg):Prop where
 b2:(σ.v 2).natAbs<=2^30
 b3:(σ.v 3).natAbs<=2^30
 b4:(σ.v 4).natAbs<=2^30
 hu:Zbo.ev σ≠0
theorem Pts.ub{σ:Sg}(p:Pts σ):(Zbo.ev σ).natAbs<=2^1000:=by
 have h:=Zir p.b2 p.b3 p.b4 (Zaa Zln).2;have h2:Nat.ble (Zp0 (2^30) Zbo) (2^1000)=true:=by decide+kernel
 exact Hag h (bLe h2)
theorem Zvm:Zgd.all (λs=>Nat.blt (Zkh s) 900&&Nat.ble s.1 6)=true:=by decide+kernel
theorem Yiq{x a:Nat}(h:x=100+a):x≠60/\100<=x:=⟨(Ha3 (ln2 (.a (.k 60) (.k 1)) (.v 0) [(1,.a (.k 100) (.v 1),.v 0)] rfl (Han h.symm))),(ln2 (.k 100) (.v 0) [(1,.a (.k 100) (.v 1),.v 0)] rfl (Han h.symm))⟩
theorem Yhj{z:Int}{n:Nat}(h1:n≠60)(h2:(Nat.ble 100 n&&(Nat.blt n 900&&inE (Zzk n) Zgd))=true):tE z n=gtT n:=by
 unfold tE;rw[if_neg h1,if_pos h2]
theorem Yds{z:Int}{s:Nat×Nat×Nat}(h:s∈Zgd)(hd:eqM (Zzk (Zkh s)) s=true):tE z (Zkh s)=gtS s:=by
 have h1:=Zaa (bAll Zvm s h);have h2:=Yiq (x:=Zkh s) rfl;rw[Yhj h2.1 ((Hcd _ _).mpr ⟨Ha0 h2.2,(Hcd _ _).mpr ⟨h1.1,Zud ((Zo7 hd).symm▸h)⟩⟩)];exact Hb6 gtS (Zo7 hd)
theorem Yit{n:Nat}(h1:(n-100)/64<=6)(h2:100<=n):n<900/\n≠60:=⟨(ln3 (.a (.v 1) (.k 1)) (.k 900) [(64,.v 0,.k 6),(1,.a (.v 2) (.k 1),.a (.l (.v 0) 64) (.k 64)),(1,.v 1,.a (.v 2) (.k 100))] rfl h1 (Nat.lt_div_mul_add (by decide)) Zcu),(Ha3 (ln1 (.a (.k 60) (.k 1)) (.v 0) [(1,.k 100,.v 0)] rfl h2))⟩
theorem Yg1{z:Int}{l:List (Nat×Nat×Nat)}(hl:∀s∈l,s∈Zgd){p:PX}:Zrn l p=true->Zm9 (tE z) p=Zro gtT p:=by
 induction p with
 |k _=>exact λ_=>rfl
 |v n=>
  intro h;obtain⟨h,h2⟩:=Zaa (show(inE (Zzk n) l&&Nat.ble 100 n)=true from h);have hm:=hl _ (Zky h);have h3:=Yit (bLe (Zaa (bAll Zvm _ hm)).2) (bLe h2);exact Yhj h3.2 ((Hcd _ _).mpr ⟨h2,(Hcd _ _).mpr ⟨Ha0 h3.1,Zud hm⟩⟩)
 |add a b iha ihb=>
  intro h;show PX.add _ _=PX.add _ _;rw[iha (Zaa h).1,ihb (Zaa h).2]
 |mul a b iha ihb=>
  intro h;show PX.mul _ _=PX.mul _ _;rw[iha (Zaa h).1,ihb (Zaa h).2]
structure EOk(s:Nat×Nat×Nat):Prop where
 num:Zyj (shL s) s=true
 poly:Zjy (.mul Zbo (gtS s)) (Zi5 s)=true
 only:Zgs (gtS s)=true
 bnd:Zp0 (2^30) (gtS s)<=2^1000
 dec:eqM (Zzk (Zkh s)) s=true
theorem Yjl{s:Nat×Nat×Nat}(h:eOk s=true):EOk s:=
 have h1:=Zaa h;have h2:=Zaa h1.2;have h3:=Zaa h2.2;have h4:=Zaa h3.2
 ⟨h1.1,h2.1,h3.1,bLe h4.1,h4.2⟩
theorem Yhi(hg:Zfn prog w hd σ)(p:Pts σ)(heok:∀s∈Zgd,eOk s=true){z:Int}(hz:z.natAbs<=2^1000)(n:Nat):((tE z n).ev σ).natAbs<=2^1000:=by
 unfold tE;split
 ·exact hz
 ·split
  ·rename_i hn;have hq:=Yjl (heok _ (Zky (Zaa (Zaa hn).2).2));exact Hag (Zir p.b2 p.b3 p.b4 hq.only) hq.bnd
  ·exact hg.2.2.2 n
theorem Yas{k:Nat}(h:k+9<=97):k+1<=97/\k+1+2<=97/\k+1+3<=97/\k+1+6<=97/\k+1+4<=100:=
 ⟨Zpr h (by decide) (by decide),Zpr (a:=3) h (by decide) (by decide),Zpr (a:=4) h (by decide) (by decide),Zpr (a:=7) h (by decide) (by decide),Zpr (a:=5) h (by decide) (by decide)⟩
theorem retS{o:Out}{d:D}(h:(match o with| .ret d=>some d| .next _ _=>none)=some d):o= .ret d:=by
 cases o with
 |ret e=>exact Hb6 Out.ret (sI h)
 |next _ _=>exact nS h
theorem Zg9{N:Addr->Prop}{hp:Heap}{v:Value}{p q:PX}(r:Rd σ N hp v (.int p))(h:q.ev σ=p.ev σ):Rd σ N hp v (.int q):=by
 obtain⟨_,e⟩:=r.inv;rw[e];exact .int h
theorem Zw9(P:Pk prog w T mg mb s0 fn hd)(hg:Zfn prog w hd σ)(hk:k+9<=97){i j:Nat}(hs:∀r,r<2->Zd6 i j r=true)(he:∀s∈Zq8 i j,s∈Zgd)(heok:∀s∈Zgd,eOk s=true)(hgr:∀r,r<3->Zpm i j r=true)
  (hrd:∀u∈Zfx j,Zdd i u (σ.t 0)=true)(p:Pts σ){c:PX}(hc:(c.ev σ).natAbs<=2^1000):
  Con prog w T σ mg mb s0 fn k 17 [shT (Zan i),Zga j,Zlr,.str (σ.t 0),.int c] (.tup [.lst ((Ze7 (min i j) (max i j)).map .str),.int (.mul (Zrx (Zfx i)) (Zrx (Zfx j)))]):=by
 have hm:=Hae (c.ev σ) 2;have h1:=Hb1 (c.ev σ) (b:=2) (by decide)
 have h2:=Hb2 (c.ev σ) (b:=2) (by decide)
 obtain⟨r,hr⟩:=Int.eq_ofNat_of_zero_le h1;have hr2:r<2:=Int.ofNat_lt.mp (hr▸h2);have hz:=Zhn (c:=2) (by decide) _ hc
 have hside:=hs r hr2;rw[hr]at hm
 generalize (c.ev σ).fdiv 2=z at*
 have hsub:Zkb σ (σ.wv λn=>(tE z n).ev σ) (tE z) σ.t:=⟨λ_=>rfl,λ_=>rfl,rfl⟩
 have hg':Zfn prog w hd (σ.wv λn=>(tE z n).ev σ):=⟨hg.1,hg.2.1,hg.2.2.1,Yhi hg p heok hz⟩
 have ht':(σ.wv λn=>(tE z n).ev σ).t=σ.t:=rfl
 have vc:∀s∈Zgd,(σ.wv λn=>(tE z n).ev σ).v (Zkh s)=(gtS s).ev σ:=λs hm=>Hb6 (PX.ev σ) (Yds hm (Yjl (heok s hm)).dec)
 have v60:(σ.wv λn=>(tE z n).ev σ).v 60=z:=rfl
 generalize hσ':(σ.wv λn=>(tE z n).ev σ)=σ' at*
 have v2:σ.v 2=σ'.v 2:=by rw[←hσ'];rfl
 have v3:σ.v 3=σ'.v 3:=by rw[←hσ'];rfl
 have v4:σ.v 4=σ'.v 4:=by rw[←hσ'];rfl
 have eu:=Zhr v2 v3 v4 (Zaa Zln).2;have ec:(c2 r).ev σ'=c.ev σ:=by
  show 2*σ'.v 60+(r:Int)=_;rw[v60];exact hm
 have hc':((c2 r).ev σ').natAbs<=2^1000:=by rw[ec];exact hc
 have hcalls:Za1 prog w T σ' mg mb s0 fn (cS i j r) (k+1):=by
  refine Zsg λf ds d h=>?_
  rcases Zhq h with⟨e,h⟩|h
  ·obtain⟨hq,h⟩:=Zaj h;rw[e,Zs1 hq,←sI h];exact .inl ⟨by decide,Yfa P hg' (Yas hk).2.1 hgr hc'⟩
  rcases Zhq h with⟨e,h⟩|h
  ·obtain⟨sh,e',w',z',e1,h⟩:=Yfp h;obtain⟨n,e2,h⟩:=Yj5 h;obtain⟨hq,h⟩:=Zaj h;obtain⟨u,hu,ew,ee,ed⟩:=Zto h;rw[e,e1,e2,Zb5 (Zaa hq).2,Hb4 (Zaa hq).1,ew,ee,←ed];exact .inl ⟨by decide,Zw8 P hg' (Yas hk).2.2.1 (by rw[ht'];exact hrd u hu)⟩
  rcases Zhq h with⟨e,h⟩|h
  ·obtain⟨nu,pts,c',e1,h⟩:=Zqe h;obtain⟨q,e2,h⟩:=Zk8 h;obtain⟨s,hns,h⟩:=obS h;obtain⟨hq,h⟩:=Zaj h;have hsm:=he s (Zky (Zaa hq).1);have hE:=Yjl (heok s hsm);rw[e,e1,e2,Zyg hns,Zb5 (Zaa (Zaa hq).2).1,Zf6 (Zaa (Zaa hq).2).2,←sI h];refine .inl ⟨by decide,Zsu P hg' (Yas hk).2.2.2.1 hE.num (by rw[←eu];exact p.hu) (by rw[←eu];exact p.ub) ?_ (hg'.2.2.2 _) hc'⟩
   show Zbo.ev σ'*σ'.v (Zkh s)=_;rw[vc s hsm,←eu,←Zhr v2 v3 v4 (Zaa (Zaa (Zaa hE.num).2).2).1];exact Zit hE.poly σ
  rcases Zhq h with⟨e,h⟩|h
  ·obtain⟨x,y,e1,h⟩:=Zy8 h;obtain⟨es,e2,h⟩:=Yhz h;obtain⟨name,e3,h⟩:=Zgb h;obtain⟨hq,h⟩:=Zaj h;obtain⟨l,hl,h⟩:=obS h;rw[e,e1,e2,e3,←sI h];refine .inr (.inr ⟨by decide,λm es1 es2 em el=>?_⟩)
   injection el with q1 q2
   injection q1 with q1
   rw[←q1,←q2,show m=6 from(Nat.add_left_cancel em).symm];exact P.mget _ hg' _ _ _ _ (Yas hk).2.2.2.2 (Zaa hq).1 (Zaa (Zaa hq).2).1 (Zaa (Zaa hq).2).2 hl
  rcases Zhq h with⟨e,h⟩|h
  ·obtain⟨x,e1,h⟩:=Zz2 h;obtain⟨es,e2,h⟩:=Yhz h;obtain⟨hq,h⟩:=Zaj h;obtain⟨l,hl,h⟩:=obS h;rw[e,e1,e2,←sI h];refine .inr (.inr ⟨by decide,λm es1 es2 em el=>?_⟩)
   injection el with q1 q2
   injection q1 with q1
   rw[←q1,←q2,show m=7 from(Nat.add_left_cancel em).symm];exact P.mkeys _ hg' _ _ _ (Yas hk).2.2.2.2 hq hl
  ·exact nS h
 cases ho:Yh2 (Zle i j r)with
 |none=>
  have hside:(Zac (Yh2 (Zle i j r)) (Yde i j)).isSome=true:=hside;rw[ho]at hside;exact bF hside
 |some d=>
  have hside:(Zac (Yh2 (Zle i j r)) (Yde i j)).isSome=true:=hside;rw[ho]at hside;obtain⟨d',hd'⟩:=Option.isSome_iff_exists.mp hside;obtain⟨l,e1,h⟩:=Yd5 hd';obtain⟨a,b,e2,h⟩:=Zy8 h;obtain⟨ns,e3,h⟩:=Zn8 h;obtain⟨t,e4,h⟩:=Zk8 h;obtain⟨hq,_⟩:=Zaj h;obtain⟨q1,q2⟩:=Zaa hq;rw[e1,e2,e3,e4,Zs1 q1]at ho;obtain⟨o,hrun,ho⟩:=obS ho;have c1:=Zcj (n:=60) (ds:=[shT (Zan i),Zga j,Zlr,.sym 0,.int (c2 r)]) (Zm5 (Yas hk).1).1 Za7 hg'.2.2.2 hcalls (P.hH _ hg' _ (Zm5 (Yas hk).1).2) P.f17 rfl (hrun.trans (Hb6 some (retS ho)));have c3:=Zgh hsub c1;have ea:Zfe (tE z) σ.t [shT (Zan i),Zga j,Zlr,.sym 0,.int (c2 r)]=[shT (Zan i),Zga j,Zlr,.str (σ.t 0),.int (Zm9 (tE z) (c2 r))]:=by
   show[Zhd _ _ _,Zhd _ _ _,Zhd _ _ _,_,_]=_;rw[Zck (Zpn _),Zck (Zku _)]
   rfl
  have er:Zhd (tE z) σ.t (.tup [.lst ((Ze7 (min i j) (max i j)).map .str),.int t])= .tup [.lst ((Ze7 (min i j) (max i j)).map .str),.int (Zm9 (tE z) t)]:=by
   show D.tup [Zhd _ _ _,_]=_;rw[Zck (d:=.lst ((Ze7 (min i j) (max i j)).map .str)) (Zgm (λ_=>rfl) _)]
   rfl
  rw[ea,er]at c3;refine Zex c3 (λN hp vs rr=>?_) λN hp v rr=>?_
  ·obtain⟨v1,vs1,w1,r1,rr⟩:=rr.inv;obtain⟨v2,vs2,w2,r2,rr⟩:=rr.inv;obtain⟨v3,vs3,w3,r3,rr⟩:=rr.inv;obtain⟨v4,v5,w4,r4,r5⟩:=rr.two;rw[w1,w2,w3,w4];exact .cons r1 (.cons r2 (.cons r3 (.cons r4 (.cons (Zg9 r5 (by rw[Zof hsub,ec])) .nil))))
  ·obtain⟨a',vs,n,w1,hn,g,rs⟩:=rr.inv;obtain⟨u1,u2,w2,r1,r2⟩:=rs.two;rw[w2]at g;rw[w1];refine .tup (vs:=[u1,u2]) hn g (.cons r1 (.cons (Zg9 r2 ?_) .nil))
   rw[Yg1 he (Zaa q2).1];exact(Zit (Zaa q2).2 σ).symm
noncomputable def Yaw:List S:=[.saug 1 (.bin .Mod (.n 2) (.c (.int (.k 5)))) .Add (.bin .Mod (.idx (.n 0) (.n 2)) (.c (.int (.k 1000000)))),.saug 1 (.bin .Mod (.bin .Add (.n 2) (.c (.int (.k 3)))) (.c (.int (.k 5)))) .Add (.bin .Mod (.bin .FloorDiv (.idx (.n 0) (.n 2)) (.c (.int (.k 1000000)))) (.c (.int (.k 1000000))))]
theorem Zp6{C:Nat->List D->Option D}{n x j:Nat}{i e:M}{o:Operator}{a b d:D}{ds:List D}{r:List S}{ρ:List (Nat×D)}{ow:List (Nat×O)}(h1:ev C n ρ (owD ow) i=some (.int (.k (.ofNat j))))(h2:lk x ow=some (.lst ds))(h3:Zts ds j=some a)(h4:ev C n ρ (owD ow) e=some b)(h5:Zwg o a b=some d)(h6:small ds=true):
  run C (n+1) (.saug x i o e::r) ρ ow=run C n r ρ (Zhu x (.lst (Yd6 ds j d)) ow):=by
 show Zac (ev C n ρ (owD ow) i) _=_;rw[h1];show Zac (lk x ow) _=_;rw[h2];show Zac (Zts ds j) _=_;rw[h3];show Zac (ev C n ρ (owD ow) e) _=_;rw[h4];show Zac (Zwg o a b) _=_;rw[h5];show Zas (small ds) _=_;rw[h6];rfl
theorem Yd1{C:Nat->List D->Option D}{n:Nat}{d:D}{ρ ρ2:List (Nat×D)}:ev C (n+1) ρ ρ2 (.c d)=some d:=rfl
theorem Zzp{C:Nat->List D->Option D}{n:Nat}{a b:M}{x y d:D}{ρ ρ2:List (Nat×D)}(h1:ev C n ρ ρ2 a=some x)(h2:ev C n ρ ρ2 b=some y)(h3:Yf0 x y=some d):ev C (n+1) ρ ρ2 (.idx a b)=some d:=by
 show Zac (ev C n ρ ρ2 a) _=_;rw[h1];show Zac (ev C n ρ ρ2 b) _=_;rw[h2];exact h3
theorem Yjn{C:Nat->List D->Option D}{n k:Nat}{a:M}{x d:D}{ρ ρ2:List (Nat×D)}(h1:ev C n ρ ρ2 a=some x)(h3:biD k [x]=some d):ev C (n+1) ρ ρ2 (.bi k [a])=some d:=by
 show Zac (Zd8 (ev C n ρ ρ2) [a]) _=_;rw[Zf1 h1];exact h3
theorem Zpl{f:Int->D}(l:List Int):∀j:Nat,Zts (l.map f) j=(l[j]?).map f:=by
 induction l with
 |nil=>exact λ_=>rfl
 |cons a r ih=>exact λj=>match j with
  |0=>rfl
  |j+1=>ih j
theorem Zp8{f:Int->D}(l:List Int):∀(j:Nat) (v:Int),Yd6 (l.map f) j (f v)=(l.set j v).map f:=by
 induction l with
 |nil=>exact λ_ _=>rfl
 |cons a r ih=>exact λj v=>match j with
  |0=>rfl
  |j+1=>Hb6 (f a::·) (ih j v)
structure Zr0(L:List Int)(B:Int):Prop where
 len:L.length=5
 bnd:∀c∈L,0<=c/\c<=B
inductive Yid(L:List Int)(B:Int)(j:Nat)(v:Int):Prop
 |mk (a:Int) (h:Zts (L.map iI) j=some (iI a)) (f:Zr0 (L.set j (a+v)) (B+1000000))
theorem ar_5{a v B:Int}(h:0<=a/\a<=B)(h0:0<=v)(h1:v<1000000):0<=a+v/\a+v<=B+1000000:=⟨(li [_,_] [] (.k 0) (.a (.v 0) (.v 1)) [(1,.k 0,.v 0),(1,.k 0,.v 1)] rfl h.1 h0),(li [_,_,_] [] (.a (.v 0) (.v 2)) (.a (.v 1) (.k 1000000)) [(1,.v 0,.v 1),(1,.a (.v 2) (.k 1),.k 1000000)] rfl h.2 h1)⟩
theorem Yim{c B:Int}(h:0<=c/\c<=B):0<=c/\c<=B+1000000:=⟨h.1,(li [_,_] [] (.v 0) (.a (.v 1) (.k 1000000)) [(1,.v 0,.v 1)] rfl h.2)⟩
theorem Zr0.step{L:List Int}{B:Int}(x:Zr0 L B){j:Nat}{v:Int}(hj:j<5)(h0:0<=v)(h1:v<1000000):Yid L B j v:=by
 have hj:j<L.length:=x.len.symm▸hj;have ha:L[j]?=some L[j]:=Hcc hj;refine⟨L[j],by rw[Zpl,ha];rfl,by rw[List.length_set,x.len],λc hc=>?_⟩
 rcases List.mem_or_eq_of_mem_set hc with h|h
 ·exact Yim (x.bnd c h)
 ·exact h▸ar_5 (x.bnd _ (List.getElem_mem _)) h0 h1
theorem Zr0.sm{L:List Int}{B:Int}(x:Zr0 L B):small (L.map iI)=true:=Ha0 (by rw[Hcp,x.len];decide)
theorem mod5(z:Nat):Yhq .Mod (nI z) (.int (.k 5))=some (.int (.k (.ofNat (z%5)))):=by
 show some (D.int (.k ((z:Int).fmod 5)))=_;rw[Int.fmod_eq_emod_of_nonneg _ (by decide)]
 rfl
inductive Yh8(k:Nat)(L:List Int)(B:Int)(ρ:List (Nat×D)):Prop
 |mk (L':List Int) (h:Zd5 (run cNo 28 Yaw) [2] true (nI k) ρ [(1,.lst (L.map iI))]=some (.next ((2,nI k)::Zak [2] ρ) [(1,.lst (L'.map iI))])) (f:Zr0 L' (B+1000000+1000000))
theorem Yjb{k n:Nat}(h:k<n)(h2:n<=63):n<=1000000:=(ln1 (.v 0) (.k 1000000) [(1,.v 0,.k 63)] rfl h2)
theorem Zsj{k:Nat}{L xs:List Int}{ρ:List (Nat×D)}{B:Int}(hL:Zr0 L B)(hk:k<xs.length)(hxs:xs.length<=63)(l0:lk 0 ρ=some (.lst (xs.map iI))):Yh8 k L B ρ:=by
 have hx:xs[k]?=some xs[k]:=Hcc hk
 generalize xs[k]=x at hx
 have d0:lk 0 ((2,nI k)::Zak [2] ρ)=some (.lst (xs.map iI)):=(Zao (ts:=[2]) rfl).trans l0;have d2:lk 2 ((2,nI k)::Zak [2] ρ)=some (nI k):=rfl;have hi:Yf0 (.lst (xs.map iI)) (nI k)=some (iI x):=by
  show Zac (Zas (Nat.blt k (xs.map iI).length&&Nat.ble (xs.map iI).length 1000000) (some k)) _=_;rw[show Nat.blt k (xs.map iI).length=true from Ha0 (by rw[Hcp];exact hk),show Nat.ble (xs.map iI).length 1000000=true from Ha0 (by rw[Hcp];exact Yjb hk hxs)]
  show Zts (xs.map iI) k=_;rw[Zpl,hx];rfl
 obtain⟨a,ga,f1⟩:=hL.step (j:=k%5) (Nat.mod_lt _ (by decide)) (Hb1 x (b:=1000000) (by decide)) (Hb2 x (b:=1000000) (by decide))
 obtain⟨a2,ga2,f2⟩:=f1.step (j:=(k+3)%5) (Nat.mod_lt _ (by decide)) (Hb1 (x.fdiv 1000000) (b:=1000000) (by decide)) (Hb2 (x.fdiv 1000000) (b:=1000000) (by decide))
 refine⟨_,?_,f2⟩
 refine(Zp6 (C:=cNo) (n:=27) (j:=k%5) (Zg5 (n:=26) (Zf9 (n:=25) d2) Yd1 (mod5 k)) rfl ga (Zg5 (n:=26) (Zzp (n:=25) (Zf9 (n:=24) d0) (Zf9 d2) hi) Yd1 rfl) (d:=iI (a+x.fmod 1000000)) rfl hL.sm).trans ?_
 rw[Zp8];refine(Zp6 (C:=cNo) (n:=26) (j:=(k+3)%5) (Zg5 (n:=25) (Zg5 (n:=24) (x:=nI k) (Zf9 (n:=23) d2) Yd1 (d:=nI (k+3)) rfl) Yd1 (mod5 (k+3))) rfl ga2 (Zg5 (n:=25) (Zg5 (n:=24) (Zzp (n:=23) (Zf9 (n:=22) d0) (Zf9 d2) hi) Yd1 (d:=iI (x.fdiv 1000000)) rfl) Yd1 rfl) (d:=iI (a2+(x.fdiv 1000000).fmod 1000000)) rfl f1.sm).trans ?_
 rw[Zp8]
 rfl
inductive Yh6(n a:Nat)(L:List Int)(B:Int)(ρ:List (Nat×D)):Prop
 |mk (L':List Int) (ρ':List (Nat×D)) (h:Zc5 (Zd5 (run cNo 28 Yaw) [2] true) (Ze8 (a:Int) 1 n) ρ [(1,.lst (L.map iI))]=some (.next ρ' [(1,.lst (L'.map iI))])) (f:Zr0 L' (B+n*2000000))
theorem Yir{B:Int}{n:Nat}:B+1000000+1000000+n*2000000=B+((n+1:Nat):Int)*2000000:=(Haf (li [_] [_] (.a (.a (.a (.v 0) (.k 1000000)) (.k 1000000)) (.l (.u (.v 0)) 2000000)) (.a (.v 0) (.l (.u (.a (.v 0) (.k 1))) 2000000)) [] rfl) (li [_] [_] (.a (.v 0) (.l (.u (.a (.v 0) (.k 1))) 2000000)) (.a (.a (.a (.v 0) (.k 1000000)) (.k 1000000)) (.l (.u (.v 0)) 2000000)) [] rfl))
theorem Yen{a n x:Nat}(h:a+(n+1)<=x):a<x/\a+1+n<=x:=⟨(ln3 (.a (.v 0) (.k 1)) (.v 2) [(1,.a (.v 0) (.a (.v 1) (.k 1)),.v 2)] rfl h),(ln3 (.a (.a (.v 0) (.k 1)) (.v 1)) (.v 2) [(1,.a (.v 0) (.a (.v 1) (.k 1)),.v 2)] rfl h)⟩
theorem Zsi{xs:List Int}(hxs:xs.length<=63)(n:Nat):∀(a:Nat) (L:List Int) (ρ:List (Nat×D)) (B:Int),a+n<=xs.length->Zr0 L B->lk 0 ρ=some (.lst (xs.map iI))->Yh6 n a L B ρ:=by
 induction n with
 |zero=>exact λa L ρ B _ hL _=>⟨L,ρ,rfl,by rw[show B+((0:Nat):Int)*2000000=B from Int.add_zero B];exact hL⟩
 |succ n ih=>
  intro a L ρ B ha hL l0;obtain⟨L'1,t1,t2⟩:=Zsj hL (Yen ha).1 hxs l0;obtain⟨L',ρ',r1,r2⟩:=ih (a+1) L'1 ((2,nI a)::Zak [2] ρ) _ (Yen ha).2 t2 ((Zao (ts:=[2]) rfl).trans l0);exact⟨L',ρ',(Ze0 t1).trans r1,Yir▸r2⟩
noncomputable def Zws:List Int:=[24,15,10,1,4]
theorem Yjc:Zr0 Zws 24:=⟨rfl,by decide⟩
theorem Yi4{x:Nat}(h:x<=63):x<=1000000/\min 60 x<=60/\0+min 60 x<=x:=⟨(ln1 (.v 0) (.k 1000000) [(1,.v 0,.k 63)] rfl h),⟨(Nat.min_le_left _ _),(ln2 (.a (.k 0) (.v 1)) (.v 0) [(1,.v 1,.v 0)] rfl (Nat.min_le_right _ _))⟩⟩
theorem ar_b{n:Nat}{c:Int}(h:n<=60)(hc:0<=c/\c<=24+n*2000000):0<=c/\c<=2^27:=⟨hc.1,(li [_] [_] (.v 0) (.k (2^27)) [(2000000,.u (.v 0),.u (.k 60)),(1,.v 0,.a (.k 24) (.l (.u (.v 0)) 2000000))] rfl (jO h) hc.2)⟩
inductive Yh7(xs:List Int):Prop
 |mk (L:List Int) (h:run cNo 30 Zfj [(0,.lst (xs.map iI))] []=some (.ret (.lst (L.map iI)))) (f:Zr0 L (2^27))
theorem Zsk{xs:List Int}(hxs:xs.length<=63):Yh7 xs:=by
 have hm:=Yi4 hxs;obtain⟨L',ρ',r1,r2⟩:=Zsi hxs (min 60 xs.length) 0 Zws [(0,.lst (xs.map iI))] 24 hm.2.2 Yjc rfl;refine⟨L',?_,r2.len,λc hc=>ar_b hm.2.1 (r2.bnd c hc)⟩
 have hlen:(((xs.map iI).drop 0).take (60-0)).length=min 60 xs.length:=by rw[List.drop_zero,List.length_take,Hcp]
 have hsl:slD (.lst (xs.map iI)) none (some (.int (.k 60)))=some (.lst (((xs.map iI).drop 0).take (60-0))):=by
  show Zas (small (xs.map iI)) _=_;rw[show small (xs.map iI)=true from Ha0 (by rw[Hcp];exact hm.1)];rfl
 have hbi:biD 0 [.lst (((xs.map iI).drop 0).take (60-0))]=some (nI (min 60 xs.length)):=by
  show Zas (small (((xs.map iI).drop 0).take (60-0))) _=_;rw[show small (((xs.map iI).drop 0).take (60-0))=true from Ha0 (hlen.symm▸Hag hm.2.1 (by decide)),←hlen];rfl
 have hit:Zjd 1 [nI (min 60 xs.length)]=some (Ze8 ((0:Nat):Int) 1 (min 60 xs.length)):=by
  generalize min 60 xs.length=n at hm
  have h1:Nat.blt n 1000000=true:=Ha0 (Hak hm.2.1 (by decide))
  have h2:Nat.ble n 1000=true:=Ha0 (Hag hm.2.1 (by decide))
  show Zac (Zas (Nat.blt n 1000000) _) _=_;rw[h1];show Zas (Nat.ble n 1000&&true) _=_;rw[h2];rfl
 have ebi:ev cNo 28 [(0,.lst (xs.map iI))] (owD [(1,.lst (Zws.map iI))]) (.bi 0 [.sl (.n 0) none (some (.c (.int (.k 60))))])=some (nI (min 60 xs.length)):=Yjn (n:=27) hsl hbi;show run cNo (28+1) [.loop [2] true 1 [.bi 0 [.sl (.n 0) none (some (.c (.int (.k 60))))]] Yaw,.frz 1,.ret (.n 1)] [(0,.lst (xs.map iI))] [(1,.lst (Zws.map iI))]=_;refine(Zht (Zf1 ebi) hit r1).trans ?_
 rfl
noncomputable def Zyc:PX:=Zoa (.k 13) (Zyp (.v 2))
noncomputable def Yad:PX:=Zoa (Zoa (.k 14) (Zyp (.v 2))) (.v 3)
noncomputable def thiX:PX:=Zoa (Zoa Zyc (Zyp (.k 1))) (Zyp (.v 4))
noncomputable def Zk9(b:Bool)(p q:PX):PX:=match b with
 |true=>p
 |false=>q
noncomputable def ptX(r1:Nat)(n:Nat):PX:=Zk9 (Nat.beq n 4) thiX (Zk9 (Nat.beq n 2) (Zk9 (Nat.beq (r1/7) 0) Zyc Yad) (Zk9 (Nat.beq n 3) (Zk9 (Nat.beq (r1/7) 0) Yad Zyc) (.v n)))
noncomputable def Zwk(r1:Nat):D:=.lst [.int (ptX r1 2),.int (ptX r1 3),.int (ptX r1 4)]
noncomputable def Znf(r0:Nat):PX:=.add (.mul (.k 42) (.v 0)) (.k (r0:Int))
noncomputable def cell1(r1:Nat):PX:=.add (.mul (.k 14) (.v 1)) (.k (r1:Int))
noncomputable def Zjm(r0 r1:Nat):D:=.lst [.int (Znf r0),.int (cell1 r1),vD 2,vD 3,vD 4]
noncomputable def Zwj(r1 i:Nat):PX:=Zm9 (ptX r1) (Zrx (Zfx i))
noncomputable def Zop(r0:Nat):List Nat:=(Zer[r0/7]?).getD []
noncomputable def Ydf(r1 a b:Nat):D:=.tup [.lst ((Ze7 (min a b) (max a b)).map .str),.int (.mul (Zwj r1 a) (Zwj r1 b))]
noncomputable def Zrb(d:D)(f:Nat->D)(g:Nat->D):List Nat->Option D
 |[]=>none
 |i::r=>match dsm d (f i)with
  |true=>some (g i)
  |false=>Zrb d f g r
noncomputable def five{α:Type}(l:List D)(f:D->D->D->D->D->Option α):Option α:=match l with
 |[]=>none
 |a::r=>Yjr r (f a)
noncomputable def Yj8(b:Bool)(p q:Option D):Option D:=match b with
 |true=>p
 |false=>q
noncomputable def Ye7(r0 r1:Nat)(sh ws c:D):Option D:=Yj8 (dsm sh (shT (Zan (r0%7)))&&(dsm ws (Zga (r1%7))&&dsm c (.int (Znf r0)))) (some (Ydf r1 (r0%7) (r1%7)))
 (Zas (dsm sh (shT (Zan (r1%7)))&&(dsm ws (Zga (r0%7))&&dsm c (.int (cell1 r1)))) (some (Ydf r1 (r0%7) (r1%7))))
noncomputable def cL(r0 r1:Nat)(f:Nat)(ds:List D):Option D:=onF f 8 (one ds λsh=>Zrb sh (λi=>shT (Zan i)) Zga [r0%7,r1%7])
 (onF f 11 (Zry ds λsh pts c=>Zas (dsm pts (Zwk r1)&&dsm c (.int (Znf r0))) (Zrb sh (λi=>shT (Zan i)) (λi=>.int (Zwj r1 i)) [r0%7,r1%7]))
 (onF f 12 (two ds λws pts=>Zas (dsm pts (Zwk r1)) (Zrb ws Zga (λi=>.int (Zwj r1 i)) [r0%7,r1%7]))
 (onF f 17 (five ds λsh ws pts sm c=>Zas (dsm pts (Zwk r1)&&dsm sm (.str (Zop r0))) (Ye7 r0 r1 sh ws c)) none)))
noncomputable def Zny:List S:=Yke.tail
noncomputable def Zjg(r0 r1:Nat):Bool:=Yc8 (run (cL r0 r1) 60 Zny [(1,Zjm r0 r1)] []) (.bool true)
structure Yaj:Prop where
 fill:∀i,i<7->Ztn i=true
 sum:∀i,i<7->Ydq i=true
 gr:∀i j r,i<7->j<7->r<3->Zpm i j r=true
 read:∀i j w sm,i<7->j<7->w∈Zfx j->sm∈Zer->Zdd i w sm=true
 e:∀s∈Zgd,eOk s=true
 m:∀i,i<7->mOk i=true
 ins:∀i j,i<7->j<7->∀s∈Zq8 i j,s∈Zgd
 side:∀i j r,i<7->j<7->r<2->Zd6 i j r=true
 law:∀r0 r1,r0<42->r1<14->Zjg r0 r1=true
theorem Zsr(P:Pk prog w T mg mb s0 fn hd)(hg:Zfn prog w hd σ)(hk:k+1<=97){xs L:List Int}(h:run cNo 30 Zfj [(0,.lst (xs.map iI))] []=some (.ret (.lst (L.map iI)))):Con prog w T σ mg mb s0 fn k 13 [.lst (xs.map iI)] (.lst (L.map iI)):=
 Zcj (n:=30) (ds:=[.lst (xs.map iI)]) (Zm5 hk).1 Za7 hg.2.2.2 Zhk (P.hH _ hg _ (Zm5 hk).2) P.f13 rfl h
inductive Yh9(d e:D)(f g:Nat->D)(l:List Nat):Prop
 |mk (i:Nat) (hi:i∈l) (hd:d=f i) (he:g i=e)
theorem Zic{d e:D}{f g:Nat->D}{l:List Nat}:Zrb d f g l=some e->Yh9 d e f g l:=by
 induction l with
 |nil=>exact nS
 |cons i r ih=>
  intro h;have h:(match dsm d (f i)with|true=>some (g i)|false=>Zrb d f g r)=some e:=h
  cases hq:dsm d (f i)with
  |true=>
   rw[hq]at h;exact⟨i,.head _,Zb5 hq,sI h⟩
  |false=>
   rw[hq]at h;obtain⟨j,h1,h2,h3⟩:=ih h;exact⟨j,.tail _ h1,h2,h3⟩
inductive Yic{α:Type}(l:List D)(r:α)(f:D->D->D->D->D->Option α):Prop
 |mk (a b c d e:D) (el:l=[a,b,c,d,e]) (h:f a b c d e=some r)
theorem Yjq{α:Type}{l:List D}{r:α}{f:D->D->D->D->D->Option α}(h:five l f=some r):Yic l r f:=by
 cases l with
 |nil=>exact nS h
 |cons a l=>
  obtain⟨b,c,d,e,el,h⟩:=Yfp h;exact⟨a,b,c,d,e,by rw[el],h⟩
noncomputable def Sg.wp(σ:Sg)(r1:Nat):Sg:=σ.wv λn=>(ptX r1 n).ev σ
theorem Zmr{r1 n:Nat}(h:n≠2/\n≠3/\n≠4):ptX r1 n= .v n:=by
 unfold ptX;rw[Zfq h.2.2,Zfq h.1,Zfq h.2.1];rfl
theorem Yh4(r1:Nat):Zkb σ (σ.wp r1) (ptX r1) σ.t:=⟨λ_=>rfl,λ_=>rfl,by show(ptX r1 999).ev σ=_;rw[Zmr (by decide)];rfl⟩
structure Zde(σ:Sg):Prop where
 c0:(σ.v 0).natAbs<=2^27
 c1:(σ.v 1).natAbs<=2^27
 c2:0<=σ.v 2/\σ.v 2<=2^27
 c3:0<=σ.v 3/\σ.v 3<=2^27
 c4:0<=σ.v 4/\σ.v 4<=2^27
theorem ar_p{a b c:Int}(h2:0<=a/\a<=2^27)(h3:0<=b/\b<=2^27)(h4:0<=c/\c<=2^27):(13+ -1*a).natAbs<=2^30/\(14+ -1*a+b).natAbs<=2^30/\(13+ -1*a+ -1+ -1*c).natAbs<=2^30/\13+ -1*a≠14+ -1*a+b/\13+ -1*a≠13+ -1*a+ -1+ -1*c/\14+ -1*a+b≠13+ -1*a+ -1+ -1*c:=⟨(Yak (li [_] [] (.a (.k 13) (.m (-1) (.v 0))) (.u (.k (2^30))) [(1,.k 0,.v 0)] rfl h2.1) (li [_] [] (.g (.a (.k 13) (.m (-1) (.v 0)))) (.u (.k (2^30))) [(1,.v 0,.k (2^27))] rfl h2.2)),⟨(Yak (li [_,_] [] (.a (.a (.k 14) (.m (-1) (.v 0))) (.v 1)) (.u (.k (2^30))) [(1,.k 0,.v 0),(1,.v 1,.k (2^27))] rfl h2.1 h3.2) (li [_,_] [] (.g (.a (.a (.k 14) (.m (-1) (.v 0))) (.v 1))) (.u (.k (2^30))) [(1,.v 0,.k (2^27)),(1,.k 0,.v 1)] rfl h2.2 h3.1)),⟨(Yak (li [_,_] [] (.a (.a (.a (.k 13) (.m (-1) (.v 0))) (.k (-1))) (.m (-1) (.v 1))) (.u (.k (2^30))) [(1,.k 0,.v 0),(1,.k 0,.v 1)] rfl h2.1 h4.1) (li [_,_] [] (.g (.a (.a (.a (.k 13) (.m (-1) (.v 0))) (.k (-1))) (.m (-1) (.v 1)))) (.u (.k (2^30))) [(1,.v 0,.k (2^27)),(1,.v 1,.k (2^27))] rfl h2.2 h4.2)),⟨(Int.ne_of_lt (li [_,_] [] (.a (.a (.k 13) (.m (-1) (.v 0))) (.k 1)) (.a (.a (.k 14) (.m (-1) (.v 0))) (.v 1)) [(1,.k 0,.v 1)] rfl h3.1)),⟨(Haq (li [_,_] [] (.a (.a (.a (.a (.k 13) (.m (-1) (.v 0))) (.k (-1))) (.m (-1) (.v 1))) (.k 1)) (.a (.k 13) (.m (-1) (.v 0))) [(1,.k 0,.v 1)] rfl h4.1)),(Haq (li [_,_,_] [] (.a (.a (.a (.a (.k 13) (.m (-1) (.v 0))) (.k (-1))) (.m (-1) (.v 2))) (.k 1)) (.a (.a (.k 14) (.m (-1) (.v 0))) (.v 1)) [(1,.k 0,.v 1),(1,.k 0,.v 2)] rfl h3.1 h4.1))⟩⟩⟩⟩⟩
theorem Yis{a b:Int}(h:a≠b):a+ -1*b≠0:=λe=>h (Haf (li [_,_] [] (.v 0) (.v 1) [(1,.a (.v 0) (.m (-1) (.v 1)),.k 0)] rfl (Hab e)) (li [_,_] [] (.v 1) (.v 0) [(1,.k 0,.a (.v 0) (.m (-1) (.v 1)))] rfl (Hab e.symm)))
theorem Zqf{a b c:Int}(h1:a≠b)(h2:a≠c)(h3:b≠c):(a+ -1*b)*(a+ -1*c)*(b+ -1*c)≠0:=Int.mul_ne_zero (Int.mul_ne_zero (Yis h1) (Yis h2)) (Yis h3)
theorem Zux(h:Zde σ)(r1:Nat):Pts (σ.wp r1):=by
 obtain⟨k1,k2,k3,k4,k5,k6⟩:=ar_p h.c2 h.c3 h.c4;cases q:Nat.beq (r1/7) 0 with
 |true=>
  have e2:(σ.wp r1).v 2=Zyc.ev σ:=Hb6 (λb=>(Zk9 b Zyc Yad).ev σ) q
  have e3:(σ.wp r1).v 3=Yad.ev σ:=Hb6 (λb=>(Zk9 b Yad Zyc).ev σ) q
  refine⟨e2▸k1,e3▸k2,k3,?_⟩
  show((σ.wp r1).v 2+ -1*(σ.wp r1).v 3)*((σ.wp r1).v 2+ -1*(σ.wp r1).v 4)*((σ.wp r1).v 3+ -1*(σ.wp r1).v 4)≠0;rw[e2,e3];exact Zqf k4 k5 k6
 |false=>
  have e2:(σ.wp r1).v 2=Yad.ev σ:=Hb6 (λb=>(Zk9 b Zyc Yad).ev σ) q
  have e3:(σ.wp r1).v 3=Zyc.ev σ:=Hb6 (λb=>(Zk9 b Yad Zyc).ev σ) q
  refine⟨e2▸k2,e3▸k1,k3,?_⟩
  show((σ.wp r1).v 2+ -1*(σ.wp r1).v 3)*((σ.wp r1).v 2+ -1*(σ.wp r1).v 4)*((σ.wp r1).v 3+ -1*(σ.wp r1).v 4)≠0;rw[e2,e3];exact Zqf (Ne.symm k4) k6 k5
theorem Znt(hg:Zfn prog w hd σ)(h:Zde σ)(r1:Nat):Zfn prog w hd (σ.wp r1):=by
 have p:=Zux h r1;refine⟨?_,hg.2.1,hg.2.2.1,λn=>?_⟩
 ·rw[(Yh4 r1).h];exact hg.1
 ·by_cases hn:n≠2/\n≠3/\n≠4
  ·show((ptX r1 n).ev σ).natAbs<=_;rw[Zmr hn];exact hg.2.2.2 n
  ·have big:(2:Nat)^30<=2^1000:=Ha2 (by decide) (by decide)
   by_cases q2:n=2
   ·rw[q2];exact Hag p.b2 big
   ·by_cases q3:n=3
    ·rw[q3];exact Hag p.b3 big
    ·by_cases q4:n=4
     ·rw[q4];exact Hag p.b4 big
     ·exact absurd ⟨q2,q3,q4⟩ hn
theorem Zog(r1:Nat)(ts:Nat->List Nat):Zhd (ptX r1) ts Zlr=Zwk r1:=rfl
theorem Zw7(tb:Yaj)(P:Pk prog w T mg mb s0 fn hd)(hg:Zfn prog w hd σ)(hc:Zde σ)(hk:k+6<=97){r1 i:Nat}(hi:i<7){c:PX}(hcv:Zm9 (ptX r1) c=c)(hcb:(c.ev (σ.wp r1)).natAbs<=2^1000):Con prog w T σ mg mb s0 fn k 11 [shT (Zan i),Zwk r1,.int c] (.int (Zwj r1 i)):=by
 have p:=Zux hc r1;have hgp:=Znt hg hc r1;have hm:=tb.m i hi;obtain⟨hm1,hm⟩:=Zaa hm;obtain⟨hm2,hm3⟩:=Zaa hm;have hid:=Zit (bAll Yco i (jR hi)) (σ.wp r1);have hb:=Zir p.b2 p.b3 p.b4 hm2;have c1:=Zsu P hgp hk hm1 (c:=c) (G:=Zrx (Zfx i)) p.hu p.ub hid (Hag (Hag hb (bLe hm3)) (Ha2 (by decide) (by decide))) hcb
 have c2:=Zgh (Yh4 r1) c1;have e:Zfe (ptX r1) σ.t [shT (Zan i),Zlr,.int c]=[shT (Zan i),Zwk r1,.int c]:=by
  show[Zhd _ _ _,Zhd _ _ _,D.int (Zm9 (ptX r1) c)]=_;rw[Zck (Zpn _),Zog,hcv]
 rw[e]at c2;exact c2
theorem Zxa(tb:Yaj)(P:Pk prog w T mg mb s0 fn hd)(hg:Zfn prog w hd σ)(hc:Zde σ)(hk:k+1<=97){r1 i:Nat}(hi:i<7):Con prog w T σ mg mb s0 fn k 12 [Zga i,Zwk r1] (.int (Zwj r1 i)):=by
 have c2:=Zgh (Yh4 r1) (Ya7 P (Znt hg hc r1) hk (tb.sum i hi));have e:Zfe (ptX r1) σ.t [Zga i,Zlr]=[Zga i,Zwk r1]:=by
  show[Zhd _ _ _,Zhd _ _ _]=_;rw[Zck (Zku _),Zog]
 rw[e]at c2;exact c2
theorem Zl0(tb:Yaj)(P:Pk prog w T mg mb s0 fn hd)(hg:Zfn prog w hd σ)(hc:Zde σ)(hk:k+9<=97){r1 i j:Nat}(hi:i<7)(hj:j<7)(hs:σ.t 0∈Zer){c:PX}(hcv:Zm9 (ptX r1) c=c)(hcb:(c.ev (σ.wp r1)).natAbs<=2^1000):
  Con prog w T σ mg mb s0 fn k 17 [shT (Zan i),Zga j,Zwk r1,.str (σ.t 0),.int c] (.tup [.lst ((Ze7 (min i j) (max i j)).map .str),.int (.mul (Zwj r1 i) (Zwj r1 j))]):=by
 have c1:=Zw9 P (Znt hg hc r1) hk (λr hr=>tb.side i j r hi hj hr) (tb.ins i j hi hj) tb.e (λr hr=>tb.gr i j r hi hj hr) (λu hu=>tb.read i j u _ hi hj hu hs) (Zux hc r1) hcb
 have c2:=Zgh (Yh4 r1) c1;have e:Zfe (ptX r1) σ.t [shT (Zan i),Zga j,Zlr,.str ((σ.wp r1).t 0),.int c]=[shT (Zan i),Zga j,Zwk r1,.str (σ.t 0),.int c]:=by
  show[Zhd _ _ _,Zhd _ _ _,Zhd _ _ _,D.str (σ.t 0),D.int (Zm9 (ptX r1) c)]=_;rw[Zck (Zpn _),Zck (Zku _),Zog,hcv]
 have er:Zhd (ptX r1) σ.t (.tup [.lst ((Ze7 (min i j) (max i j)).map .str),.int (.mul (Zrx (Zfx i)) (Zrx (Zfx j)))])= .tup [.lst ((Ze7 (min i j) (max i j)).map .str),.int (.mul (Zwj r1 i) (Zwj r1 j))]:=by
  show D.tup [Zhd _ _ _,_]=_;rw[Zck (d:=.lst ((Ze7 (min i j) (max i j)).map .str)) (Zgm (λ_=>rfl) _)]
  rfl
 rw[e,er]at c2;exact c2
theorem Yio{v:Int}{r:Nat}(h:v.natAbs<=2^27)(hr:r<42):(42*v+(r:Int)).natAbs<=2^40:=(Yak (li [_] [_,_] (.a (.m 42 (.v 0)) (.u (.v 1))) (.u (.k (2^40))) [(42,.u (.v 0),.u (.k (2^27))),(1,.u (.a (.v 1) (.k 1)),.u (.k 42)),(42,.v 0,.u (.v 0))] rfl (jO h) (jO hr) Had) (li [_] [_,_] (.g (.a (.m 42 (.v 0)) (.u (.v 1)))) (.u (.k (2^40))) [(42,.u (.v 0),.u (.k (2^27))),(42,.g (.v 0),.u (.v 0))] rfl (jO h) Zd0))
theorem Yip{v:Int}{r:Nat}(h:v.natAbs<=2^27)(hr:r<14):(14*v+(r:Int)).natAbs<=2^40:=(Yak (li [_] [_,_] (.a (.m 14 (.v 0)) (.u (.v 1))) (.u (.k (2^40))) [(14,.u (.v 0),.u (.k (2^27))),(1,.u (.a (.v 1) (.k 1)),.u (.k 14)),(14,.v 0,.u (.v 0))] rfl (jO h) (jO hr) Had) (li [_] [_,_] (.g (.a (.m 14 (.v 0)) (.u (.v 1)))) (.u (.k (2^40))) [(14,.u (.v 0),.u (.k (2^27))),(14,.g (.v 0),.u (.v 0))] rfl (jO h) Zd0))
theorem Ye2{n:Nat}(h:n<=2^40):n<=2^1000:=Hag h (Ha2 (by decide) (by decide))
theorem Zwy(hc:Zde σ)(r0 r1:Nat)(h:r0<42):Zm9 (ptX r1) (Znf r0)=Znf r0/\((Znf r0).ev (σ.wp r1)).natAbs<=2^1000:=⟨rfl,Ye2 (Yio hc.c0 h)⟩
theorem Zwz(hc:Zde σ)(r1:Nat)(h:r1<14):Zm9 (ptX r1) (cell1 r1)=cell1 r1/\((cell1 r1).ev (σ.wp r1)).natAbs<=2^1000:=⟨rfl,Ye2 (Yip hc.c1 h)⟩
theorem Yaq{k:Nat}(h:k+9<=97):k+1<=97/\k+6<=97:=⟨Zpr h (by decide) (by decide),Zpr h (by decide) (by decide)⟩
theorem Ya0(tb:Yaj)(P:Pk prog w T mg mb s0 fn hd)(hg:Zfn prog w hd σ)(hc:Zde σ)(hk:k+9<=97){r0 r1:Nat}(h0:r0<42)(h1:r1<14)(ht:σ.t 0=Zop r0)(hs:σ.t 0∈Zer):Za1 prog w T σ mg mb s0 fn (cL r0 r1) k:=by
 have i0:r0%7<7:=Nat.mod_lt _ (by decide)
 have i1:r1%7<7:=Nat.mod_lt _ (by decide)
 have mem:∀{i},i∈[r0%7,r1%7]->i<7:=λh=>by
  rcases jC h with e|h
  ·exact e▸i0
  ·exact List.mem_singleton.mp h▸i1
 have k0:=Zwy hc r0 r1 h0;have k1:=Zwz hc r1 h1;refine Zcb λf ds d h=>?_
 rcases Zhq h with⟨e,h⟩|h
 ·obtain⟨sh,e1,h⟩:=Zz2 h;obtain⟨i,hi,e2,e3⟩:=Zic h;rw[e,e1,e2,←e3];exact .inl ⟨by decide,Zw6 P hg (Yaq hk).1 (tb.fill i (mem hi))⟩
 rcases Zhq h with⟨e,h⟩|h
 ·obtain⟨sh,pts,c,e1,h⟩:=Zqe h;obtain⟨hq,h⟩:=Zaj h;obtain⟨i,hi,e2,e3⟩:=Zic h;rw[e,e1,e2,←e3,Zb5 (Zaa hq).1,Zb5 (Zaa hq).2];exact .inl ⟨by decide,Zw7 tb P hg hc (Yaq hk).2 (mem hi) k0.1 k0.2⟩
 rcases Zhq h with⟨e,h⟩|h
 ·obtain⟨ws,pts,e1,h⟩:=Zy8 h;obtain⟨hq,h⟩:=Zaj h;obtain⟨i,hi,e2,e3⟩:=Zic h;rw[e,e1,e2,←e3,Zb5 hq];exact .inl ⟨by decide,Zxa tb P hg hc (Yaq hk).1 (mem hi)⟩
 rcases Zhq h with⟨e,h⟩|h
 ·obtain⟨sh,ws,pts,sm,c,e1,h⟩:=Yjq h;obtain⟨hq,h⟩:=Zaj h;rw[e,e1,Zb5 (Zaa hq).1,Zb5 (Zaa hq).2,←ht];refine .inl ⟨by decide,?_⟩
  unfold Ye7 at h;cases hb:dsm sh (shT (Zan (r0%7)))&&(dsm ws (Zga (r1%7))&&dsm c (.int (Znf r0)))with
  |true=>
   rw[hb]at h;rw[Zb5 (Zaa hb).1,Zb5 (Zaa (Zaa hb).2).1,Zb5 (Zaa (Zaa hb).2).2,←sI h];exact Zl0 tb P hg hc hk i0 i1 hs k0.1 k0.2
  |false=>
   rw[hb]at h;obtain⟨hb,h⟩:=Zaj h;rw[Zb5 (Zaa hb).1,Zb5 (Zaa (Zaa hb).2).1,Zb5 (Zaa (Zaa hb).2).2,←sI h];refine Zex (Zl0 tb P hg hc hk i1 i0 hs k1.1 k1.2) (λ_ _ _ rr=>rr) λN hp v rr=>?_
   unfold Ydf;rw[Nat.min_comm,Nat.max_comm];obtain⟨a,vs,n,w1,hn,g,rs⟩:=rr.inv;obtain⟨u1,u2,w2,r1,r2⟩:=rs.two;rw[w2]at g;rw[w1];exact .tup (vs:=[u1,u2]) hn g (.cons r1 (.cons (Zg9 r2 (Int.mul_comm _ _)) .nil))
 ·exact nS h
theorem Zyv:Zer.all (λt=>(t.all λc=>Nat.ble 32 c&&Nat.blt c 127)&&Nat.blt t.length 1000000)=true:=by decide+kernel
theorem Zu7{r0:Nat}(h:r0<42):Zop r0∈Zer:=by
 have:(List.range 42).all (λr=>Zer.any λt=>eqN (Zop r) t)=true:=by decide+kernel
 have:=bAll this r0 (jR h);obtain⟨t,h1,h2⟩:=List.any_eq_true.mp this;rw[Zdw.mp h2];exact h1
noncomputable def Ya2(hd l0 l1 l2 l3 l4:Int)(n:Nat):Int:=if n=0 then l0.fdiv 42 else if n=1 then l1.fdiv 14 else if n=2 then l2 else if n=3 then l3 else if n=4 then l4 else if n=999 then hd else 0
theorem Zsh{hd l0 l1 l2 l3 l4:Int}{B:Nat}(h0:(l0.fdiv 42).natAbs<=B)(h1:(l1.fdiv 14).natAbs<=B)(h2:l2.natAbs<=B)(h3:l3.natAbs<=B)(h4:l4.natAbs<=B)(h9:hd.natAbs<=B)(n:Nat):(Ya2 hd l0 l1 l2 l3 l4 n).natAbs<=B:=by
 have ite':∀{c:Prop} [Decidable c] {a b:Int},a.natAbs<=B->b.natAbs<=B->(if c then a else b).natAbs<=B:=λha hb=>by
  split
  ·exact ha
  ·exact hb
 exact ite' h0 (ite' h1 (ite' h2 (ite' h3 (ite' h4 (ite' h9 (Hap _))))))
open Classical in
noncomputable def cC(sd cd:D)(f:Nat)(ds:List D):Option D:=ifO (f=13/\ds=[sd]) cd
inductive Yib(L:List Int):Prop
 |mk (a b c d e:Int) (h:L=[a,b,c,d,e])
theorem Zax{α:Type}{l:List α}{n:Nat}(h:l.length=n+1):E12 (λp:α×List α=>l=p.1::p.2) λp=>p.2.length=n:=by
 cases l with
 |nil=>exact nomatch h
 |cons a r=>exact⟨(a,r),rfl,Nat.succ.inj h⟩
theorem Yjp{L:List Int}(h:L.length=5):Yib L:=by
 obtain⟨⟨a,r1⟩,e1,h⟩:=Zax h;obtain⟨⟨b,r2⟩,e2,h⟩:=Zax h;obtain⟨⟨c,r3⟩,e3,h⟩:=Zax h;obtain⟨⟨d,r4⟩,e4,h⟩:=Zax h;obtain⟨⟨e,r5⟩,e5,h⟩:=Zax h;exact⟨a,b,c,d,e,by rw[e1,e2,e3,e4,e5,List.eq_nil_of_length_eq_zero h]⟩
theorem Yao{c:Int}(h:0<=c/\c<=2^27):c.natAbs<=2^27:=(Yak (li [_] [] (.v 0) (.u (.k (2^27))) [(1,.v 0,.k (2^27))] rfl h.2) (li [_] [] (.g (.v 0)) (.u (.k (2^27))) [(1,.k 0,.v 0)] rfl h.1))
theorem Zqt{k:Nat}(h:k+12<=97):k+1<=100/\k+1+1<=97/\k+1+9<=97/\k+1+3<=100:=
 ⟨Zpr h (by decide) (by decide),Zpr (a:=2) h (by decide) (by decide),Zpr (a:=10) h (by decide) (by decide),Zpr (a:=4) h (by decide) (by decide)⟩
inductive LawG(prog:Program)(w:World)(T:Addr->Prop)(mg mb:Str->Option Value)(s0:Shared)(fn:Nat->Str)(k:Nat)(hd:Int)(xs:List Int):Prop
 |mk (σ:Sg) (hg:Zfn prog w hd σ) (h:Con prog w T σ mg mb s0 fn k 14 [.lst (xs.map iI)] (.bool true))
theorem Zsy{l:Int}{m:Int}(hm:0<m):E12 (λr:Nat=>(r:Int)<m) λr=>m*l.fdiv m+(r:Int)=l:=by
 have h1:=Hae l m;obtain⟨r,hr⟩:=Int.eq_ofNat_of_zero_le (Hb1 l hm);exact⟨r,hr▸Hb2 l hm,by rw[hr]at h1;exact h1⟩
theorem Ycg(tb:Yaj)(P:Pk prog w T mg mb s0 fn hd){σ:Sg}(hg:Zfn prog w hd σ)(hc:Zde σ)(hk:k+12<=97){sd:D}{r0 r1:Nat}(h0:r0<42)(h1:r1<14)(ht:σ.t 0=Zop r0)(hs:σ.t 0∈Zer)(hcells:Con prog w T σ mg mb s0 fn (k+1) 13 [sd] (Zjm r0 r1))
  (h:Ze3 s0 mg (Za4 Zcn) fn 14 [0] Yke):Con prog w T σ mg mb s0 fn k 14 [sd] (.bool true):=by
 obtain⟨a,fd,body,fo,fu,G,F,hbd,hx,hf,hok⟩:=h;refine⟨a,G,Ztr (Zqt hk).1 Za7 F hbd hx hf rfl λA' E' N2 env s'1 x'1=>?_⟩
 have hCc:Za1 prog w T σ mg mb s0 fn (cC sd (Zjm r0 r1)) (k+1):=by
  refine Zcb λf ds d h=>?_
  obtain⟨hq,h⟩:=Yb8 h;rw[hq.1,hq.2,←h];exact .inl ⟨by decide,hcells⟩
 have hS:=λn=>Zvn (fn:=fn) (k:=k+1) (Zqt hk).1 Za7 hg.2.2.2 hCc n
 obtain⟨f,st,rest,e0,h,okr⟩:=Zdj (x:=.asg [1] true (.call 13 [.n 0])) (r:=Zny) rfl rfl hok;have h:Yha (Za4 Zcn) fd.scope.names st 1 (λv=>okE (Za4 Zcn) fn fo fd.scope.names v (.call 13 [.n 0])&&Znz v (.call 13 [.n 0]))=true:=h
 obtain⟨np,v,pos,e1,hf1,h⟩:=Zy2 h;have hev:ev (cC sd (Zjm r0 r1)) 6 [(0,sd)] (owD []) (.call 13 [.n 0])=some (Zjm r0 r1):=Zcl (Zf1 (Zf9 rfl)) (Zmb ⟨rfl,rfl⟩);rw[e0,e1];refine Hbx (x'1.asg (hS 5).1 (hS 5).2 (hS 6).1 Za7 (Zaa h).1 hf1 (Zaa h).2 hev rfl λs' p=>?_)
 have x'2:=(x'1.post p).less (ρ':=[(1,Zjm r0 r1)]) (Zdn λ_ _ h=>nS h)
 have R:=Zz6 (Zqt hk).1 Za7 hg.2.2.2 (Ya0 tb P hg hc (Zqt hk).2.2.1 h0 h1 ht hs) (P.hH _ hg _ (Zqt hk).2.2.2) 60;refine Ha4 (R A' E' env _ N2 s' _ _ _ fo _ rest Zny _ x'2 okr (Zgw (tb.law r0 r1 h0 h1))) (λfl s'' ho=>?_) λ_ _ e=>e
 obtain⟨v',ev',hr',u⟩:=ho;exact⟨v',ev',hr',(p.upd.mono λb hb=>hb.elim id λhb=>nomatch hb).trans (u.mono λb hb=>hb.elim id λhb=>nomatch hb)⟩
theorem Ya6(tb:Yaj)(P:Pk prog w T mg mb s0 fn hd)(hdb:hd.natAbs<=2^1000)(hk:k+12<=97){xs:List Int}(hxs:xs.length<=63)(h:Ze3 s0 mg (Za4 Zcn) fn 14 [0] Yke):LawG prog w T mg mb s0 fn k hd xs:=by
 obtain⟨L,hrun,f5⟩:=Zsk hxs;obtain⟨l0,l1,l2,l3,l4,hL⟩:=Yjp f5.len;rw[hL]at hrun f5;have b0:=f5.bnd l0 (.head _);have b1:=f5.bnd l1 (.tail _ (.head _));have b2:=f5.bnd l2 (.tail _ (.tail _ (.head _)));have b3:=f5.bnd l3 (.tail _ (.tail _ (.tail _ (.head _))));have b4:=f5.bnd l4 (.tail _ (.tail _ (.tail _ (.tail _ (.head _)))));obtain⟨r0,n0,m0⟩:=Zsy (l:=l0) (m:=42) (by decide)
 obtain⟨r1,n1,m1⟩:=Zsy (l:=l1) (m:=14) (by decide)
 have h0:r0<42:=Int.ofNat_lt.mp n0;have h1:r1<14:=Int.ofNat_lt.mp n1;have hsm:=Zu7 h0;have hpl:=Zaa (bAll Zyv _ hsm);have q0:=Zhn (z:=l0) (c:=42) (by decide) (2^27) (Yao b0)
 have q1:=Zhn (z:=l1) (c:=14) (by decide) (2^27) (Yao b1)
 have big:(2:Nat)^27<=2^1000:=Ha2 (by decide) (by decide)
 have B:∀{c:Int},0<=c/\c<=2^27->c.natAbs<=2^1000:=λh=>Hag (Yao h) big
 have hg:Zfn prog w hd ⟨Ya2 hd l0 l1 l2 l3 l4,λ_=>Zop r0,λ_=>⟨hpl.1,bLe hpl.2⟩,prog,w⟩:=⟨rfl,rfl,rfl,Zsh (Hag q0 big) (Hag q1 big) (B b2) (B b3) (B b4) hdb⟩
 have hc:Zde ⟨Ya2 hd l0 l1 l2 l3 l4,λ_=>Zop r0,λ_=>⟨hpl.1,bLe hpl.2⟩,prog,w⟩:=⟨q0,q1,b2,b3,b4⟩
 refine⟨_,hg,Ycg tb P hg hc hk h0 h1 rfl hsm (Zex (Zsr P hg (Zqt hk).2.1 hrun) (λ_ _ _ rr=>rr) λN hp v rr=>?_) h⟩
 obtain⟨a,vs,n,w1,hn,g,rs⟩:=rr.inv;obtain⟨u0,vs1,w2,t0,rs⟩:=rs.inv;obtain⟨u1,vs2,w3,t1,rs⟩:=rs.inv;obtain⟨u2,vs3,w4,t2,rs⟩:=rs.inv;obtain⟨u3,u4,w5,t3,t4⟩:=rs.two;rw[w2,w3,w4,w5]at g;rw[w1];exact .lst (vs:=[u0,u1,u2,u3,u4]) hn g (.cons (Zg9 t0 m0) (.cons (Zg9 t1 m1) (.cons (Zg9 t2 rfl) (.cons (Zg9 t3 rfl) (.cons (Zg9 t4 rfl) .nil)))))
open Calls
noncomputable def rec2(i:Nat):DefRec:=((recsOf q2)[i]?).getD ⟨"",default,[],default,default⟩
theorem mem_at{α:Type}{l:List α}{i:Nat}{d:α}(h:(l[i]?).isSome=true):(l[i]?).getD d∈l:=by
 cases e:l[i]? with
 |none=>rw[e]at h;exact bF h
 |some x=>exact Has e
noncomputable def cls2:ClsRec:=((dclssOf q2 loose2)[0]?).getD ⟨"",none,[],[],0,[]⟩
noncomputable def Zmi(i:Nat):MethRec:=(cls2.meths[i]?).getD ⟨"",default,[],default⟩
noncomputable def fn2:Nat->Str:=λf=>(([(0,"quotedata"),(1,"_check_parenthesis"),(5,"int_divmod"),(8,"_law_fillings"),(9,"_law_grown"),(10,"_law_read"),(11,"_law_number"),(12,"_law_sum"),(13,"_law_cells"),(14,"law"),
 (15,"_int2digits"),(16,"_digits2int"),(17,"_law_side"),(18,"_divmod_pos"),(19,"_div2n1n"),(20,"_strip_quoted_realnames")]:List (Nat×Str)).lookup f).getD "?"
theorem Zij{α:Type}{l:List α}(h:l.length=0):l=[]:=List.eq_nil_of_length_eq_zero h
section
variable {nm:Nat->Str} {fd:FuncData} {x y z u t:Nat}
theorem Zh0(h:∀a,bindArgs fd ⟨[a],[]⟩=pure [(nm x,a)]):Zgc nm fd [x]:=λvs hv=>by
 obtain⟨⟨a,r⟩,e1,h1⟩:=Zax hv;rw[e1,Zij h1];exact h a
theorem Zjk(h:∀a b,bindArgs fd ⟨[a,b],[]⟩=pure [(nm x,a),(nm y,b)]):Zgc nm fd [x,y]:=λvs hv=>by
 obtain⟨⟨a,r⟩,e1,h1⟩:=Zax hv;obtain⟨⟨b,r1⟩,e2,h2⟩:=Zax h1;rw[e1,e2,Zij h2];exact h a b
theorem Zsa(h:∀a b c,bindArgs fd ⟨[a,b,c],[]⟩=pure [(nm x,a),(nm y,b),(nm z,c)]):Zgc nm fd [x,y,z]:=λvs hv=>by
 obtain⟨⟨a,r⟩,e1,h1⟩:=Zax hv;obtain⟨⟨b,r1⟩,e2,h2⟩:=Zax h1;obtain⟨⟨c,r2⟩,e3,h3⟩:=Zax h2;rw[e1,e2,e3,Zij h3];exact h a b c
theorem Ye4(h:∀a b c d,bindArgs fd ⟨[a,b,c,d],[]⟩=pure [(nm x,a),(nm y,b),(nm z,c),(nm u,d)]):Zgc nm fd [x,y,z,u]:=λvs hv=>by
 obtain⟨⟨a,r⟩,e1,h1⟩:=Zax hv;obtain⟨⟨b,r1⟩,e2,h2⟩:=Zax h1;obtain⟨⟨c,r2⟩,e3,h3⟩:=Zax h2;obtain⟨⟨d,r3⟩,e4,h4⟩:=Zax h3;rw[e1,e2,e3,e4,Zij h4];exact h a b c d
theorem Ye5(h:∀a b c d e,bindArgs fd ⟨[a,b,c,d,e],[]⟩=pure [(nm x,a),(nm y,b),(nm z,c),(nm u,d),(nm t,e)]):Zgc nm fd [x,y,z,u,t]:=λvs hv=>by
 obtain⟨⟨a,r⟩,e1,h1⟩:=Zax hv;obtain⟨⟨b,r1⟩,e2,h2⟩:=Zax h1;obtain⟨⟨c,r2⟩,e3,h3⟩:=Zax h2;obtain⟨⟨d,r3⟩,e4,h4⟩:=Zax h3;obtain⟨⟨e,r4⟩,e5,h5⟩:=Zax h4;rw[e1,e2,e3,e4,e5,Zij h5];exact h a b c d e
end
noncomputable def Zla(gen:Bool)(s:Scope):Bool:=!s.isCoroutine&&(s.isGenerator==gen&&(s.kind==.function&&Zeq [] s.names))
variable {mean:ExcName->Option Value} {TT:Addr->Prop}
inductive FnAt(mg:Str->Option Value)(s0:Shared)(d:DefRec):Prop
 |mk (a:Addr) (o:Obj) (pm cd doc:Value) (hm:mg d.name=some (.ref a)) (ho:s0.heap.get? a=some o) (hd:o.data= .func (docDef d.name d.params d.body d.scope pm cd doc)) (hr:s0.heap.CodeRec cd d.name)
theorem Ybq(T:Top q2 (looseW q2 loose2) mean mg mb s0.heap){i:Nat}(h:((recsOf q2)[i]?).isSome=true):FnAt mg s0 (rec2 i):=
 (T.fn (rec2 i) (mem_at h)).elim λa h=>h.elim λo h=>h.elim λpm h=>h.elim λcd h=>h.elim λdoc h=>⟨a,o,pm,cd,doc,h.1,h.2.1,h.2.2.1,h.2.2.2⟩
theorem Zkq{d:DefRec}{a:Addr}{o:Obj}{pm cd doc:Value}{body:List Stmt}(hl:s0.heap.NoLimit)(ho:s0.heap.get? a=some o)(hd:o.data= .func (docDef d.name d.params d.body d.scope pm cd doc))(hr:s0.heap.CodeRec cd d.name)
  (hs:Zla false d.scope=true)(hb:d.body=body):Zna s0 a (docDef d.name d.params d.body d.scope pm cd doc) body:=
 have h:=Zaa hs;have h2:=Zaa h.2;have h3:=Zaa h2.2
 ⟨⟨o,ho,hd⟩,hl,hr,hb▸rfl,rfl,rfl,rfl,(Hcb _).mp h.1,Hb5 h2.1,Hb5 h3.1,h3.2⟩
theorem Zdp(T:Top q2 (looseW q2 loose2) mean mg mb s0.heap){nm:Nat->Str}{f:Nat}{xs:List Nat}{code:List S}(i:Nat)(hi:((recsOf q2)[i]?).isSome=true)(hn:(rec2 i).name=fn2 f)(hs:Zla false (rec2 i).scope=true)
  (hb:∀pm cd doc,Zgc nm (docDef (rec2 i).name (rec2 i).params (rec2 i).body (rec2 i).scope pm cd doc) xs)(hx:Za6 xs=true)(hf:(xs.all λx=>Zai (rec2 i).scope.names (nm x))=true)
  (hok:Zm7 nm fn2 60 (rec2 i).scope.names 60 (rec2 i).body code=true):Ze3 s0 mg nm fn2 f xs code:=by
 obtain⟨a,o,pm,cd,doc,h1,h2,h3,h4⟩:=Ybq T hi;exact⟨a,_,_,60,60,⟨hn▸h1,o,_,h2,h3,Zhw h3⟩,Zkq T.nolimit h2 h3 h4 hs rfl,hb pm cd doc,hx,hf,hok⟩
structure Res(mg:Str->Option Value)(h:Heap):Prop where
 r1:mg "_twin_re_1"=some (.ref 106)
 p1:Zcs h 106 Zau
 r2:mg "_twin_re_2"=some (.ref 111)
 p2:Zcs h 111 Zaf
 r3:mg "_name_disallowed_re"=some (.ref 128)
 p3:Zcs h 128 Zbx
 r4:mg "_value_disallowed_re"=some (.ref 133)
 p4:Zcs h 133 Zby
theorem Zhs{h:Heap}{a ct:Addr}{src:Str}{t u:Nat}{fl:Int}{code:Array Nat}(h1:h.get? a=some (reO src t fl u ct))(h2:h.get? ct=some (ctO code)):Zcs h a code:=⟨_,_,_,_,_,h1,h2⟩
theorem res_of{w:World}{s0:Shared}{h:Heap}(y:reYf s0=reYa w)(cls:∀c a,classAt s0.heap c=some a↔mg c=some (.ref a))(kp:∀b o,s0.heap.get? b=some o->h.get? b=some o):Res mg h:=by
 unfold reYf reYa at y;rw[Hcr,Hcr,Hcr,Hcr]at y;obtain⟨y1,y⟩:=List.cons.inj y;obtain⟨y2,y⟩:=List.cons.inj y;obtain⟨y3,y⟩:=List.cons.inj y;obtain⟨y4,_⟩:=List.cons.inj y;have z1:=Hb6 Prod.snd y1;have z2:=Hb6 Prod.snd y2;have z3:=Hb6 Prod.snd y3;have z4:=Hb6 Prod.snd y4;exact⟨(cls _ _).mp (Hb6 Prod.fst y1),Zhs (kp _ _ (Hb6 Prod.fst z1)) (kp _ _ (Hb6 Prod.snd z1)),(cls _ _).mp (Hb6 Prod.fst y2),Zhs (kp _ _ (Hb6 Prod.fst z2)) (kp _ _ (Hb6 Prod.snd z2)),
  (cls _ _).mp (Hb6 Prod.fst y3),Zhs (kp _ _ (Hb6 Prod.fst z3)) (kp _ _ (Hb6 Prod.snd z3)),(cls _ _).mp (Hb6 Prod.fst y4),Zhs (kp _ _ (Hb6 Prod.fst z4)) (kp _ _ (Hb6 Prod.snd z4))⟩
noncomputable def Yfr(x:Str):Bool:=!startupNames.contains x&&(!(looseW q2 loose2).contains x&&(!((recsOf q2).map (·.name)).contains x&&(!((litsOf q2).map (·.1)).contains x&& !((clssOf q2 (looseW q2 loose2)).map (·.name)).contains x)))
theorem Zml{l:List Str}{x:Str}(h:(!l.contains x)=true):x∉l:=λm=>by
 rw[List.contains_iff_mem.mpr m]at h;exact bF h
theorem Zxu(T:Top q2 (looseW q2 loose2) mean mg mb s0.heap){x:Str}(h:Yfr x=true):mg x=none:=
 have h1:=Zaa h;have h2:=Zaa h1.2;have h3:=Zaa h2.2;have h4:=Zaa h3.2
 T.free x (Zml h1.1) (Zml h2.1) (Zml h3.1) (Zml h4.1) (Zml h4.2)
theorem Zze{p:Nat->Bool}{n:Nat}(h:(List.range n).all p=true){b:Nat}(hb:b<n):p b=true:=bAll h b (jR hb)
theorem gl2(T:Top q2 (looseW q2 loose2) mean mg mb s0.heap):Gl s0.heap mg mb:=
 ⟨T.g,T.b,λ_ hb=>Zxu T (Zze (p:=λb=>Yfr (Zeg b)) (n:=10) (by kernel_rfl) hb),
  λb hb=>(T.builtins _ (by have:=Zze (p:=λb=>!(Zeg b==("__name__":Str))) (n:=10) (by kernel_rfl) hb;exact ne_of_beq_false ((Hcb _).mp this))).trans (Ye0 b hb)⟩
theorem Yay(T:Top q2 (looseW q2 loose2) mean mg mb s0.heap){x:Str}{v:Option Value}(h1:(x==("__name__":Str))=false)(h2:bootBuiltins x=v):mb x=v:=(T.builtins x (ne_of_beq_false h1)).trans h2
theorem Yb3(T:Top q2 (looseW q2 loose2) mean mg mb s0.heap)(R:Res mg s0.heap):Yhp s0 mg mb:=
 ⟨Zxu T (by kernel_rfl),Yay T (by kernel_rfl) (by kernel_rfl),Zxu T (by kernel_rfl),Yay T (by kernel_rfl) (by kernel_rfl),⟨_,R.r3,R.p3⟩,⟨_,R.r4,R.p4⟩⟩
inductive Zwe(mg:Str->Option Value)(h:Heap)(C:Addr)(mN:Str->Option Value)(N:Addr):Prop
 |mk (hm:mg "Headers"=some (.ref C)) (P:PlainAtD h cls2 C N mN)
theorem Zwe.cls{C N:Addr}{mN:Str->Option Value}(H:Zwe mg s0.heap C mN N)(h9:(σ.v 999).toNat=C):Yah σ s0 mg mN N:=
 have q:∀{x:Str},cls2.quiet.contains x=true->mN x=none:=λh=>H.2.quiet _ (List.contains_iff_mem.mp h)
 ⟨h9▸H.1,h9▸H.2.cls,q (by kernel_rfl),q (by kernel_rfl),q (by kernel_rfl),q (by kernel_rfl)⟩
inductive Yif(mN:Str->Option Value)(s0:Shared)(m:MethRec):Prop
 |mk (f:Addr) (o:Obj) (pm cd doc dV:Value) (hn:mN m.name=some (.ref f)) (ho:s0.heap.get? f=some o) (hc:o.cls= .type "function") (hd:o.data= .func (methDefD m.name (cls2.name++"."++m.name) m.params m.body m.scope pm cd doc dV))
  (hr:s0.heap.CodeRec cd (cls2.name++"."++m.name)) (hdf:DefaultsOk 0 s0.heap m.params dV)
theorem Zmj{C N:Addr}{mN:Str->Option Value}(H:Zwe mg s0.heap C mN N)(i:Nat)(h:(cls2.meths[i]?).isSome=true):Yif mN s0 (Zmi i):=
 (H.2.meths (Zmi i) (mem_at h)).elim λf h=>h.elim λo h=>h.elim λpm h=>h.elim λcd h=>h.elim λdoc h=>h.elim λdV h=>⟨f,o,pm,cd,doc,dV,h.1,h.2.1,h.2.2.1,h.2.2.2.1,h.2.2.2.2.1,h.2.2.2.2.2⟩
theorem Zf4{m:MethRec}{f:Addr}{o:Obj}{pm cd doc dV:Value}{q:Str}{body:List Stmt}(hl:s0.heap.NoLimit)(ho:s0.heap.get? f=some o)(hd:o.data= .func (methDefD m.name q m.params m.body m.scope pm cd doc dV))(hr:s0.heap.CodeRec cd q)
  (hs:Zla false m.scope=true)(hb:m.body=body):Zna s0 f (methDefD m.name q m.params m.body m.scope pm cd doc dV) body:=
 have h:=Zaa hs;have h2:=Zaa h.2;have h3:=Zaa h2.2
 ⟨⟨o,ho,hd⟩,hl,hr,hb▸rfl,rfl,rfl,rfl,(Hcb _).mp h.1,Hb5 h2.1,Hb5 h3.1,h3.2⟩
noncomputable def Zrw(l:List Stmt)(i:Nat):List Stmt:=stAt l i
theorem Zk6{l:List (Str×NameKind)}(h:(l.all λx=>!(x.2==.cell))=true):∀x∈l,x.2≠.cell:=λx hx e=>by
 have:=bAll h x hx;rw[e]at this;exact bF this
theorem Yjj(T:Top q2 (looseW q2 loose2) mean mg mb s0.heap)(R:Res mg s0.heap){C N:Addr}{mN:Str->Option Value}(H:Zwe mg s0.heap C mN N)(h9:(σ.v 999).toNat=C)(hk:k+1<=100):Zqk prog w TT σ mg mb s0 k:=by
 obtain⟨f,o,pm,cd,doc,dV,hn,ho,hc,hd,hr,hdf⟩:=Zmj H 1 (by kernel_rfl)
 have e:=hdf.none_of (show(Zmi 1).params.defaults=[]by kernel_rfl)
 rw[e]at hd;refine⟨f,Zkt (H.cls h9) hn ho hc hd HF.obj_cvt (by decide+kernel),?_⟩
 exact Zq2 hk (Yb3 T R) (bad:=Zrw (Zrw (Zmi 1).body 0) 1) (rest:=(Zmi 1).body.tail) (Zf4 T.nolimit ho hd hr (by kernel_rfl) (by kernel_rfl)) (Zk6 (by kernel_rfl)) (by kernel_rfl) (λ_ _ _=>by kernel_rfl) (by kernel_rfl) (by kernel_rfl)
noncomputable def Yje(fd:FuncData)(vs:List Value):{k:Option (Array Value)->Sem (List (Str×Value)) // bindArgs fd ⟨vs,[]⟩=seqItems? fd.defaults >>= k}:=⟨_,rfl⟩
theorem new2(T:Top q2 (looseW q2 loose2) mean mg mb s0.heap)(R:Res mg s0.heap){C N:Addr}{mN:Str->Option Value}(H:Zwe mg s0.heap C mN N)(h9:(σ.v 999).toNat=C)(hk:k+3<=100)(hσ:∀n,(σ.v n).natAbs<=2^1000):
  ∀(A:Around) (E:Value->Shared->Prop) (s:Shared) (L:Addr) (Q:Value->Shared->Prop),AOk k A->Bs TT mg mb s0 s->s.heap.PlainList L #[]->¬TT L->
  (∀x dx s',Ext TT s s'->s.heap.get? x=none->s.heap.get? dx=none->Zd7 σ s'.heap x dx L->Q (.ref x) s')->wpAny (model prog w) A (call (.ref (σ.v 999).toNat) [.ref L]) Q E s:=by
 obtain⟨f,o,pm,cd,doc,dV,hn,ho,hc,hd,hr,hdf⟩:=Zmj H 0 (by kernel_rfl)
 obtain⟨D,od,m,v1,e,hD,hDd,_⟩:=hdf.take1 (show litsOf? (Zmi 0).params.defaults=some [.none]by kernel_rfl)
 refine Ygq hk hσ (Yb3 T R) (H.cls h9) ho hc (bad:=Zrw (Zmi 0).body 1) (fbody:=Zrw (Zrw (Zmi 0).body 3) 0) (Zf4 T.nolimit ho hd hr (by kernel_rfl) (by kernel_rfl)) hn (Zk6 (by kernel_rfl)) (λa b s x=>?_) (by kernel_rfl) (by kernel_rfl)
 rw[e];exact BindsTo.of_defaults rfl (x.keep2 _ _ hD (Za0 (by rw[hDd];rfl))) hDd (Yje _ _).2 (by kernel_rfl)
theorem add2(T:Top q2 (looseW q2 loose2) mean mg mb s0.heap)(R:Res mg s0.heap){C N:Addr}{mN:Str->Option Value}(H:Zwe mg s0.heap C mN N)(h9:(σ.v 999).toNat=C)(hk:k+3<=100):E12 (λf=>Ydz prog w TT σ s0 "add_header" f) λf=>
  ∀(A:Around) (E:Value->Shared->Prop) (s:Shared) (x dx b:Addr) (vs:List Value) (kx vx:Str) (kt vt:Tok) (Q:Value->Shared->Prop),AOk k A->Bs TT mg mb s0 s->Zd7 σ s.heap x dx b->
  s.heap.PlainList b vs.toArray->¬TT b->vs.length<=lim->Zbq kx.cps.toList=true->Zbq vx.cps.toList=true->
  (∀t ks vs' kt' vt' n s',Upd TT (·=b) s s'->s.heap.get? t=none->s'.heap.get? t=some (Zcv #[.str ks kt',.str vs' vt'] n)->ks.cps=kx.cps->vs'.cps=vx.cps->s'.heap.PlainList b (vs++[Value.ref t]).toArray->Q .none s')->
  wpAny (model prog w) A (call (.ref f) [.ref x,.str kx kt,.str vx vt]) Q E s:=by
 obtain⟨f,o,pm,cd,doc,dV,hn,ho,hc,hd,hr,hdf⟩:=Zmj H 16 (by kernel_rfl)
 have e:=hdf.none_of (show(Zmi 16).params.defaults=[]by kernel_rfl)
 rw[e]at hd;refine⟨f,Zkt (H.cls h9) hn ho hc hd HF.obj_add (by decide+kernel),?_⟩
 refine Yek (fbody:=Zrw (Zmi 16).body 2) hk (Yb3 T R) (H.cls h9) (Yjj T R H h9 (Hag (Haw _) hk)) (Zf4 T.nolimit ho hd hr (by kernel_rfl) (by kernel_rfl)) (Zk6 (by kernel_rfl)) (by kernel_rfl) (by kernel_rfl) (by kernel_rfl) (by kernel_rfl) (by kernel_rfl) (by kernel_rfl) (λA' E' s v1 v2 v3 B q=>?_) (by kernel_rfl)
 have hb:∀v1 v2 v3,bindArgs (methDefD (Zmi 16).name (cls2.name++"."++(Zmi 16).name) (Zmi 16).params (Zmi 16).body (Zmi 16).scope pm cd doc .none) ⟨[v1,v2,v3],[]⟩=(alloc Zbz >>= λd=>pure (Zhi v1 v2 v3 (.ref d))):=λ_ _ _=>by kernel_rfl
 rw[hb];exact Ha6 (wpAny_alloc (Hau q))
theorem Yhu(T:Top q2 (looseW q2 loose2) mean mg mb s0.heap)(R:Res mg s0.heap){C N:Addr}{mN:Str->Option Value}(H:Zwe mg s0.heap C mN N)(h9:(σ.v 999).toNat=C)(hs:σ.prog=prog/\σ.w=w)(hσ:∀n,(σ.v n).natAbs<=2^1000)(hm:∃o,s0.heap.get? sysModules=some o)(hk:k+3<=100):Zfo prog w TT σ mg mb s0 k:=by
 refine⟨?_,hs,hm,⟨N,mN,(H.cls h9).glob,λs e=>Zek (H.cls h9).cls e⟩,new2 T R H h9 hk hσ,let⟨f,h1,h2⟩:=add2 T R H h9 hk;⟨f,h1,h2⟩⟩
 obtain⟨a,o,pm,cd,doc,h1,h2,h3,h4⟩:=Ybq T (i:=7) (by kernel_rfl)
 have hmg:mg "_iter_escaped_chars"=some (.ref a):=(show(rec2 7).name=("_iter_escaped_chars":Str)by kernel_rfl)▸h1
 have hsc:Zla true (rec2 7).scope=true:=by kernel_rfl
 have g:=Zaa hsc;have g2:=Zaa g.2;have g3:=Zaa g2.2;exact Zxw hk hσ hmg ⟨⟨o,h2,h3⟩,T.nolimit,h4,(show FuncBody.stmts (rec2 7).body= .stmts Zgk by kernel_rfl),rfl,rfl,rfl,(Hcb _).mp g.1,Hb5 g2.1,Hb5 g3.1,g3.2⟩ (Zk6 (by kernel_rfl)) (λ_=>by kernel_rfl)
  (λy hy=>Hb5 (bAll (show(Zah.all λy=>(rec2 7).scope.names.lookup y==some .local)=true by kernel_rfl) y hy)) (by kernel_rfl) (Zxu T (by kernel_rfl)) (Yay T (by kernel_rfl) (by kernel_rfl))
theorem Yjx(T:Top q2 (looseW q2 loose2) mean mg mb s0.heap)(R:Res mg s0.heap){C N:Addr}{mN:Str->Option Value}(H:Zwe mg s0.heap C mN N)(h9:(σ.v 999).toNat=C)(hs:σ.prog=prog/\σ.w=w)(hσ:∀n,(σ.v n).natAbs<=2^1000)(hm:∃o,s0.heap.get? sysModules=some o)(hk:k+4<=100){es l:List D}(hsm:small es=true)(h:Zk1 es=some l):
  Yee prog w TT σ mg mb s0 k 7 es [] (.lst l):=by
 obtain⟨f,o,pm,cd,doc,dV,hn,ho,hc,hd,hr,hdf⟩:=Zmj H 9 (by kernel_rfl)
 have e:=hdf.none_of (show(Zmi 9).params.defaults=[]by kernel_rfl)
 rw[e]at hd;refine⟨f,Zkt (H.cls h9) hn ho hc hd HF.obj_keys (by decide+kernel),λA E N s x vs Q ha bs occ r1 rs q=>?_⟩
 exact Ybr (fn:=fn2) (C:=Chx) (Hag (Hay (by decide) _) hk) Zjr hσ (Zlv (H.cls h9) (Yjj T R H h9 (ln1 (.a (.a (.v 0) (.k 1)) (.k 1)) (.k 100) [(1,.a (.v 0) (.k 4),.k 100)] rfl hk))) (Yhu T R H h9 hs hσ hm hk) (Zf4 T.nolimit ho hd hr (by kernel_rfl) rfl) (Zh0 λ_=>by kernel_rfl) (xs:=[0]) rfl (fo:=60) (f:=60) (by kernel_rfl) rfl (by kernel_rfl) (Zx2 hsm h) A E N s (.ref x::vs) Q ha bs occ (.cons r1 rs) q
theorem Ybt(T:Top q2 (looseW q2 loose2) mean mg mb s0.heap)(R:Res mg s0.heap){C N:Addr}{mN:Str->Option Value}(H:Zwe mg s0.heap C mN N)(h9:(σ.v 999).toNat=C)(hs:σ.prog=prog/\σ.w=w)(hσ:∀n,(σ.v n).natAbs<=2^1000)(hm:∃o,s0.heap.get? sysModules=some o)(hk:k+4<=100){es l:List D}{name:List Nat}(hsm:small es=true)
  (hho:Zre es=true)(hp:Zdq name=true)(h:Zdy name es=some l):Yee prog w TT σ mg mb s0 k 6 es [.str name] (.lst l):=by
 obtain⟨f,o,pm,cd,doc,dV,hn,ho,hc,hd,hr,hdf⟩:=Zmj H 7 (by kernel_rfl)
 have e:=hdf.none_of (show(Zmi 7).params.defaults=[]by kernel_rfl)
 rw[e]at hd;refine⟨f,Zkt (H.cls h9) hn ho hc hd HF.obj_getall (by decide+kernel),λA E N s x vs Q ha bs occ r1 rs q=>?_⟩
 exact Ybr (fn:=fn2) (C:=Chx) (Hag (Hay (by decide) _) hk) Zjr hσ (Zlv (H.cls h9) (Yjj T R H h9 (ln1 (.a (.a (.v 0) (.k 1)) (.k 1)) (.k 100) [(1,.a (.v 0) (.k 4),.k 100)] rfl hk))) (Yhu T R H h9 hs hσ hm hk) (Zf4 T.nolimit ho hd hr (by kernel_rfl) rfl) (Zjk λ_ _=>by kernel_rfl) (xs:=[0,1]) rfl (fo:=60) (f:=60) (by kernel_rfl) rfl (by kernel_rfl) (Zrd hsm hho hp h) A E N s (.ref x::vs) Q ha bs occ (.cons r1 rs) q
theorem Zl4:Zb6 (Za4 ["data"]):=Zdi (by decide+kernel) (by decide+kernel) (by decide+kernel)
theorem Yg2(T:Top q2 (looseW q2 loose2) mean mg mb s0.heap)(R:Res mg s0.heap)(hk:k+1<=100){t:List Nat}(ht:t.length<=400000):Con prog w TT σ mg mb s0 fn2 k 0 [.str t] (.str (Zg8 t)):=by
 obtain⟨a,o,pm,cd,doc,h1,h2,h3,h4⟩:=Ybq T (i:=10) (by kernel_rfl)
 have hn:(rec2 10).name=fn2 0:=by kernel_rfl
 obtain⟨v,hv,hrd⟩:=T.const "CRLF" (.str ⟨#[13,10]⟩) (by kernel_rfl)
 obtain⟨tc,hv'⟩:∃tc,v= .str ⟨#[13,10]⟩ tc:=by
  have:=hrd s0.heap;cases this with|str _ t=>exact⟨t,rfl⟩
 refine⟨a,⟨hn▸h1,o,_,h2,h3,Zhw h3⟩,?_⟩
 exact Zmu (nm:=Za4 ["data"]) (x:=0) hk Zl4 (Zkq T.nolimit h2 h3 h4 (by kernel_rfl) (by kernel_rfl)) (Zh0 λ_=>by kernel_rfl) (by kernel_rfl) (by kernel_rfl) (by kernel_rfl) (by kernel_rfl) (by kernel_rfl) (by kernel_rfl) (by kernel_rfl) R.r1 R.r2 (hv'▸hv) R.p1 R.p2 ht
theorem Ybv:(List.range 7).all (λj=>(List.range 3).all (Zpm 0 j))=true:=by decide+kernel
theorem Ybw:(List.range 7).all (λj=>(List.range 3).all (Zpm 1 j))=true:=by decide+kernel
theorem Ybx:(List.range 7).all (λj=>(List.range 3).all (Zpm 2 j))=true:=by decide+kernel
theorem Yby:(List.range 7).all (λj=>(List.range 3).all (Zpm 3 j))=true:=by decide+kernel
theorem Ybz:(List.range 7).all (λj=>(List.range 3).all (Zpm 4 j))=true:=by decide+kernel
theorem Yb0:(List.range 7).all (λj=>(List.range 3).all (Zpm 5 j))=true:=by decide+kernel
theorem Yb1:(List.range 7).all (λj=>(List.range 3).all (Zpm 6 j))=true:=by decide+kernel
theorem Zuz:(List.range 7).all (λj=>(Zfx j).all λw=>Zer.all (Zdd 0 w))=true:=by decide+kernel
theorem Zu0:(List.range 7).all (λj=>(Zfx j).all λw=>Zer.all (Zdd 1 w))=true:=by decide+kernel
theorem Zu1:(List.range 7).all (λj=>(Zfx j).all λw=>Zer.all (Zdd 2 w))=true:=by decide+kernel
theorem Zu2:(List.range 7).all (λj=>(Zfx j).all λw=>Zer.all (Zdd 3 w))=true:=by decide+kernel
theorem Zu3:(List.range 7).all (λj=>(Zfx j).all λw=>Zer.all (Zdd 4 w))=true:=by decide+kernel
theorem Zu4:(List.range 7).all (λj=>(Zfx j).all λw=>Zer.all (Zdd 5 w))=true:=by decide+kernel
theorem Zu5:(List.range 7).all (λj=>(Zfx j).all λw=>Zer.all (Zdd 6 w))=true:=by decide+kernel
theorem Zpt{p:Nat->Prop}{n:Nat}(h:∀i,i<n->p i)(e:p n):∀i,i<n+1->p i:=λi hi=>(Nat.lt_or_eq_of_le (Nat.le_of_lt_succ hi)).elim (h i) λq=>q▸e
theorem lt_Z{p:Nat->Prop}:∀i,i<0->p i:=λi hi=>absurd hi (Nat.not_lt_zero i)
theorem Yfv{i j r:Nat}(hi:i<7)(hj:j<7)(hr:r<3):Zpm i j r=true:=
 have h:∀{i},(List.range 7).all (λj=>(List.range 3).all (Zpm i j))=true->Zpm i j r=true:=λh=>
  bAll (bAll h j (jR hj)) r (jR hr)
 Zpt (p:=λi=>Zpm i j r=true) (Zpt (Zpt (Zpt (Zpt (Zpt (Zpt lt_Z (h Ybv)) (h Ybw)) (h Ybx)) (h Yby)) (h Ybz)) (h Yb0)) (h Yb1) i hi
theorem Zys{i j:Nat}{w sm:List Nat}(hi:i<7)(hj:j<7)(hw:w∈Zfx j)(hs:sm∈Zer):Zdd i w sm=true:=
 have h:∀{i},(List.range 7).all (λj=>(Zfx j).all λw=>Zer.all (Zdd i w))=true->Zdd i w sm=true:=λh=>
  bAll (bAll (bAll h j (jR hj)) w hw) sm hs
 Zpt (p:=λi=>Zdd i w sm=true) (Zpt (Zpt (Zpt (Zpt (Zpt (Zpt lt_Z (h Zuz)) (h Zu0)) (h Zu1)) (h Zu2)) (h Zu3)) (h Zu4)) (h Zu5) i hi
theorem Yjm:Zgd.all eOk=true:=by decide+kernel
theorem Yjz:(List.range 7).all mOk=true:=by decide+kernel
theorem Yf3:(List.range 7).all (λi=>(List.range 7).all λj=>(Zq8 i j).all λs=>inE s Zgd)=true:=by decide+kernel
theorem Zve:(List.range 7).all (λj=>(List.range 2).all (Zd6 0 j))=true:=by decide+kernel
theorem Zvf:(List.range 7).all (λj=>(List.range 2).all (Zd6 1 j))=true:=by decide+kernel
theorem Zvg:(List.range 7).all (λj=>(List.range 2).all (Zd6 2 j))=true:=by decide+kernel
theorem Zvh:(List.range 7).all (λj=>(List.range 2).all (Zd6 3 j))=true:=by decide+kernel
theorem Zvi:(List.range 7).all (λj=>(List.range 2).all (Zd6 4 j))=true:=by decide+kernel
theorem Zvj:(List.range 7).all (λj=>(List.range 2).all (Zd6 5 j))=true:=by decide+kernel
theorem Zvk:(List.range 7).all (λj=>(List.range 2).all (Zd6 6 j))=true:=by decide+kernel
theorem Zy0{i j r:Nat}(hi:i<7)(hj:j<7)(hr:r<2):Zd6 i j r=true:=by
 have h:∀{i},(List.range 7).all (λj=>(List.range 2).all (Zd6 i j))=true->Zd6 i j r=true:=λh=>
  bAll (bAll h j (jR hj)) r (jR hr)
 match i,hi with
 |0,_=>exact h Zve
 |1,_=>exact h Zvf
 |2,_=>exact h Zvg
 |3,_=>exact h Zvh
 |4,_=>exact h Zvi
 |5,_=>exact h Zvj
 |6,_=>exact h Zvk
theorem Zx5:(List.range 7).all (λr0=>(List.range 14).all (Zjg r0))=true:=by decide+kernel
theorem Zx6:(List.range 7).all (λr0=>(List.range 14).all (Zjg (7+r0)))=true:=by decide+kernel
theorem Zx7:(List.range 7).all (λr0=>(List.range 14).all (Zjg (14+r0)))=true:=by decide+kernel
theorem Zx8:(List.range 7).all (λr0=>(List.range 14).all (Zjg (21+r0)))=true:=by decide+kernel
theorem Zx9:(List.range 7).all (λr0=>(List.range 14).all (Zjg (28+r0)))=true:=by decide+kernel
theorem Zya:(List.range 7).all (λr0=>(List.range 14).all (Zjg (35+r0)))=true:=by decide+kernel
theorem Ych{r0 r1:Nat}(h0:r0<42)(h1:r1<14):Zjg r0 r1=true:=by
 have g:∀{b:Nat},(List.range 7).all (λr0=>(List.range 14).all (Zjg (b+r0)))=true->b<=r0->r0<b+7->Zjg r0 r1=true:=λ{b} h l u=>by
  have:=bAll (bAll h (r0-b) (jR (ln3 (.a (.v 2) (.k 1)) (.k 7) [(1,.a (.v 1) (.k 1),.a (.v 0) (.k 7)),(1,.a (.v 2) (.v 0),.v 1)] rfl u (Han (Hb3 l))))) r1 (jR h1)
  rwa [Nat.add_sub_cancel' l]at this
 by_cases q0:r0<7
 ·exact bAll (bAll Zx5 r0 (jR q0)) r1 (jR h1)
 by_cases q1:r0<14
 ·exact g Zx6 (Hah q0) (ln1 (.a (.v 0) (.k 1)) (.k (7+7)) [(1,.a (.v 0) (.k 1),.k 14)] rfl q1)
 by_cases q2:r0<21
 ·exact g Zx7 (Hah q1) (ln1 (.a (.v 0) (.k 1)) (.k (14+7)) [(1,.a (.v 0) (.k 1),.k 21)] rfl q2)
 by_cases q3:r0<28
 ·exact g Zx8 (Hah q2) (ln1 (.a (.v 0) (.k 1)) (.k (21+7)) [(1,.a (.v 0) (.k 1),.k 28)] rfl q3)
 by_cases q4:r0<35
 ·exact g Zx9 (Hah q3) (ln1 (.a (.v 0) (.k 1)) (.k (28+7)) [(1,.a (.v 0) (.k 1),.k 35)] rfl q4)
 exact g Zya (Hah q4) (ln1 (.a (.v 0) (.k 1)) (.k (35+7)) [(1,.a (.v 0) (.k 1),.k 42)] rfl h0)
theorem tabs:Yaj:={
 fill:=λi h=>bAll Zxq i (jR h)
 sum:=λi h=>bAll Ydr i (jR h)
 gr:=λi j r hi hj hr=>Yfv hi hj hr
 read:=λi j w sm hi hj hw hs=>Zys hi hj hw hs
 e:=λs h=>bAll Yjm s h
 m:=λi h=>bAll Yjz i (jR h)
 ins:=λi j hi hj s hs=>Zky (bAll (bAll (bAll Yf3 i (jR hi)) j (jR hj)) s hs)
 side:=λi j r hi hj hr=>Zy0 hi hj hr
 law:=λr0 r1 h0 h1=>Ych h0 h1}
inductive Znb(mg:Str->Option Value)(s0:Shared)(d:DefRec)(P:Addr):Prop
 |mk (a:Addr) (o:Obj) (pm c doc:Value) (c':Addr) (hm:mg d.name=some (.ref a)) (ho:s0.heap.get? a=some o) (hd:o.data= .func (docDef d.name d.params d.body d.scope pm c doc)) (hr:s0.heap.CodeRec c d.name) (hc:c= .ref c') (C:CodeHd s0.heap c' P) (e:s0.heap.get? P=some (tabObj #[]))
theorem tab_at(T:Top q2 (looseW q2 loose2) mean mg mb s0.heap){i:Nat}(h:((recsOf q2)[i]?).isSome=true):∃P,Znb mg s0 (rec2 i) P:=by
 obtain⟨a,o,pm,cd,doc,h1,h2,h3,h4⟩:=T.fn (rec2 i) (mem_at h);obtain⟨a',o',fd,c,P,g1,g2,g3,g4,g5,g6⟩:=T.tab (rec2 i) (mem_at h);rw[h1]at g1;rw[←Value.ref.inj (Hcu g1),h2]at g2;rw[←Hcu g2,h3]at g3;have e:=Data.func.inj g3;rw[←e]at g4;exact⟨P,a,o,pm,cd,doc,c,h1,h2,h3,h4,g4,.of g5 g6,g6.2⟩
noncomputable def Zji(P1 P2:Addr):Addr->Prop:=λa=>a=P1\/a=P2
structure Hd(mean:ExcName->Option Value)(mg mb:Str->Option Value)(s0:Shared)(C N:Addr)(mN:Str->Option Value)(P1 P2:Addr):Prop where
 T:Top q2 (looseW q2 loose2) mean mg mb s0.heap
 R:Res mg s0.heap
 H:Zwe mg s0.heap C mN N
 m:∃o,s0.heap.get? sysModules=some o
 t1:Znb mg s0 (rec2 3) P1
 t2:Znb mg s0 (rec2 4) P2
theorem Zot{h:Heap}{b:Addr}(e:h.get? b=some (tabObj #[])):Zfb h b:=⟨#[],e,trivial,λpos cv hcv=>nS hcv⟩
variable {C N P1 P2:Addr} {mN:Str->Option Value}
theorem Hd.biAt(X:Hd mean mg mb s0 C N mN P1 P2){P:Addr}(e:s0.heap.get? P=some (tabObj #[])):s0.heap.BuiltinsAt mg P:=by
 obtain⟨bm,ob,h1,h2,h3,h4,h5,h6⟩:=X.T.bmain;refine⟨bm,ob,h1,h2,λq=>?_,λq=>?_,h3,h4,h5,h6⟩
 ·obtain⟨o,es,ep,e1,e2,_⟩:=X.T.g;rw[←q,h3]at e1;rw[←Hcu e1,h6]at e2;exact nomatch e2
 ·rw[←q,h3]at e;rw[Hcu e]at h6;exact nomatch h6
noncomputable abbrev iArg:Arguments×Scope:=(Zzr ((rec2 3).body[1]?)).getD default
noncomputable abbrev dArg:Arguments×Scope:=(Zzr ((rec2 4).body[0]?)).getD default
theorem c15(X:Hd mean mg mb s0 C N mN P1 P2){n x:Nat}(hk:k+1<=100)(h1:1<=n)(h2:n<=100000)(hX:x<2^100000):Con prog w (Zji P1 P2) σ mg mb s0 fn2 k 15 [nI x,nI n] (.lst ((List.range (Zep n x)).map λ(j:Nat)=>nI (dg n x j))):=by
 obtain⟨a,o,pm,cd,doc,c,hm,ho,hd,hr,hc,CH,e⟩:=X.t1;have hn:(rec2 3).name=fn2 15:=by kernel_rfl
 refine⟨a,⟨hn▸hm,o,_,ho,hd,Zhw hd⟩,?_⟩
 refine Yfy (params:=iArg.1) (isc:=iArg.2) hk (Zkq X.T.nolimit ho hd hr (by kernel_rfl) (by kernel_rfl)) (Zjk λ_ _=>by kernel_rfl) (by kernel_rfl) hc (by kernel_rfl) CH (.inl rfl) (X.biAt e) (by kernel_rfl) (by kernel_rfl) (λ_=>by kernel_rfl) (by kernel_rfl) (by kernel_rfl) (by kernel_rfl) (by kernel_rfl) (by kernel_rfl) (by kernel_rfl) (λfd' e1 e2 e3 a b c=>?_) rfl rfl h1 h2 hX
 obtain⟨n,q,par,body,sc,g,cl,df,kd,doc,pm,an,co,ct,bu⟩:=fd';dsimp only at e1 e2 e3;rw[e1,e2,e3]
 kernel_rfl
theorem c16(X:Hd mean mg mb s0 C N mN P1 P2){n:Nat}{qs:List Nat}(hk:k+1<=100)(hq:∀q∈qs,q<2^n)(hl:qs.length<=100000)(hb:n*qs.length<=10000000):Con prog w (Zji P1 P2) σ mg mb s0 fn2 k 16 [.lst (qs.map nI),nI n] (nI (Zfl n qs)):=by
 obtain⟨a,o,pm,cd,doc,c,hm,ho,hd,hr,hc,CH,e⟩:=X.t2;have hn:(rec2 4).name=fn2 16:=by kernel_rfl
 refine⟨a,⟨hn▸hm,o,_,ho,hd,Zhw hd⟩,?_⟩
 refine Yfc (params:=dArg.1) (isc:=dArg.2) hk (Zkq X.T.nolimit ho hd hr (by kernel_rfl) (by kernel_rfl)) (Zjk λ_ _=>by kernel_rfl) (by kernel_rfl) hc (by kernel_rfl) CH (.inr rfl) (X.biAt e) (by kernel_rfl) (by kernel_rfl) (λ_=>by kernel_rfl) (by kernel_rfl) (by kernel_rfl) (by kernel_rfl) (by kernel_rfl) (by kernel_rfl) (λfd' e1 e2 e3 a b=>?_) rfl hq hl hb
 obtain⟨n,q,par,body,sc,g,cl,df,kd,doc,pm,an,co,ct,bu⟩:=fd';dsimp only at e1 e2 e3;rw[e1,e2,e3]
 kernel_rfl
theorem Hd.dv(X:Hd mean mg mb s0 C N mN P1 P2)(h9:(σ.v 999).toNat=C)(hs:σ.prog=prog/\σ.w=w)(hσ:∀n,(σ.v n).natAbs<=2^1000):Ydy prog w (Zji P1 P2) σ mg mb s0 fn2:=by
 refine⟨hσ,λk hk=>Yhu X.T X.R X.H h9 hs hσ X.m hk,?_,Zdp X.T 6 (by kernel_rfl) (by kernel_rfl) (by kernel_rfl) (λ_ _ _=>Zjk λ_ _=>by kernel_rfl) rfl (by kernel_rfl) (by kernel_rfl),Zdp X.T 5 (by kernel_rfl) (by kernel_rfl) (by kernel_rfl) (λ_ _ _=>Zjk λ_ _=>by kernel_rfl) rfl (by kernel_rfl) (by kernel_rfl),
  Zdp X.T 1 (by kernel_rfl) (by kernel_rfl) (by kernel_rfl) (λ_ _ _=>Zsa λ_ _ _=>by kernel_rfl) rfl (by kernel_rfl) (by kernel_rfl),λk n x hk h1 h2 hX=>c15 X hk h1 h2 hX,λk n qs hk hq hl hb=>c16 X hk hq hl hb⟩
 obtain⟨v,hv,hrd⟩:=X.T.const "_DIV_LIMIT" (.int 4000) (by kernel_rfl)
 cases hrd s0.heap with|int _ t=>exact⟨t,hv⟩
theorem Hd.pk(X:Hd mean mg mb s0 C N mN P1 P2):Pk prog w (Zji P1 P2) mg mb s0 fn2 ((C:Nat):Int):=by
 have h9:∀{σ:Sg},Zfn prog w ((C:Nat):Int) σ->(σ.v 999).toNat=C:=λh=>by rw[h.1];exact Hc0 _
 exact⟨λσ h k hk=>Yhu X.T X.R X.H (h9 h) ⟨h.2.1,h.2.2.1⟩ h.2.2.2 X.m hk,λσ h=>X.dv (h9 h) ⟨h.2.1,h.2.2.1⟩ h.2.2.2,λσ h k t hk ht=>Yg2 X.T X.R hk ht,
  Zdp X.T 9 (by kernel_rfl) (by kernel_rfl) (by kernel_rfl) (λ_ _ _=>Zh0 λ_=>by kernel_rfl) rfl (by kernel_rfl) (by kernel_rfl),Zdp X.T 8 (by kernel_rfl) (by kernel_rfl) (by kernel_rfl) (λ_ _ _=>Zh0 λ_=>by kernel_rfl) rfl (by kernel_rfl) (by kernel_rfl),
  λσ h k es l hk h1 h2=>Yjx X.T X.R X.H (h9 h) ⟨h.2.1,h.2.2.1⟩ h.2.2.2 X.m hk h1 h2,λσ h k es l name hk h1 h2 h3 h4=>Ybt X.T X.R X.H (h9 h) ⟨h.2.1,h.2.2.1⟩ h.2.2.2 X.m hk h1 h2 h3 h4,
  Zdp X.T 12 (by kernel_rfl) (by kernel_rfl) (by kernel_rfl) (λ_ _ _=>Zh0 λ_=>by kernel_rfl) rfl (by kernel_rfl) (by kernel_rfl),Zdp X.T 13 (by kernel_rfl) (by kernel_rfl) (by kernel_rfl) (λ_ _ _=>Zsa λ_ _ _=>by kernel_rfl) rfl (by kernel_rfl) (by kernel_rfl),
  Zdp X.T 14 (by kernel_rfl) (by kernel_rfl) (by kernel_rfl) (λ_ _ _=>Ye4 λ_ _ _ _=>by kernel_rfl) rfl (by kernel_rfl) (by kernel_rfl),Zdp X.T 15 (by kernel_rfl) (by kernel_rfl) (by kernel_rfl) (λ_ _ _=>Zsa λ_ _ _=>by kernel_rfl) rfl (by kernel_rfl) (by kernel_rfl),
  Zdp X.T 16 (by kernel_rfl) (by kernel_rfl) (by kernel_rfl) (λ_ _ _=>Zjk λ_ _=>by kernel_rfl) rfl (by kernel_rfl) (by kernel_rfl),Zdp X.T 11 (by kernel_rfl) (by kernel_rfl) (by kernel_rfl) (λ_ _ _=>Zh0 λ_=>by kernel_rfl) rfl (by kernel_rfl) (by kernel_rfl),
  Zdp X.T 17 (by kernel_rfl) (by kernel_rfl) (by kernel_rfl) (λ_ _ _=>Ye5 λ_ _ _ _ _=>by kernel_rfl) rfl (by kernel_rfl) (by kernel_rfl)⟩
section
variable {mean:ExcName->Option Value} {mg mb:Str->Option Value} {s0:Shared} {prog:Program} {w:World} {C N P1 P2:Addr} {mN:Str->Option Value}
theorem Zok{σ:Sg}{N:Addr->Prop}{h:Heap}{vs:List Value}{xs:List Int}(hI:IntsAre vs xs):RdL σ N h vs (xs.map iI):=by
 induction hI with
 |nil=>exact .nil
 |cons n t _ ih=>exact .cons (.int rfl) ih
theorem Znb.code{d:DefRec}{P:Addr}(x:Znb mg s0 d P):isCodeTable s0.heap P:=by
 obtain⟨a,o,pm,cd,doc,c,hm,ho,hd,hr,hc,CH,e⟩:=x;obtain⟨o,vs,file,tf,flags,tg,inF,text,tt,e,hc,hd,h11,_⟩:=CH;exact⟨c,o,vs,e,hc,hd,h11⟩
theorem Znb.emp{d:DefRec}{P:Addr}(x:Znb mg s0 d P):s0.heap.get? P=some (tabObj #[]):=by
 obtain⟨a,o,pm,cd,doc,c,hm,ho,hd,hr,hc,CH,e⟩:=x;exact e
theorem Hd.tabs(X:Hd mean mg mb s0 C N mN P1 P2){b:Addr}(h:Zji P1 P2 b):isCodeTable s0.heap b/\s0.heap.get? b=some (tabObj #[]):=
 h.elim (λe=>e▸⟨X.t1.code,X.t1.emp⟩) λe=>e▸⟨X.t2.code,X.t2.emp⟩
theorem Yjs(X:Hd mean mg mb s0 C N mN P1 P2){c:ClaimW}{cl:Str->Option Addr}{mean':ExcName->Option Value}{args:List WData}{s':Shared}(bs:Bs (Zji P1 P2) mg mb s0 s')(hr:∀cls,c.raises args cls=false)(hp:c.post args (.bool true) args=true)(hb:AllBare s0.gens):
  GoodWG c cl mean' args s0 (.ok (.ret (.bool true))) s':=by
 have tab:∀{b},Zji P1 P2 b->∃ps,s'.heap.get? b=some (tabObj ps):=λhT=>let⟨ps,e,_,_⟩:=bs.ext.tab _ hT (bs.tabs _ hT);⟨ps,e⟩
 refine⟨.inl ⟨_,_,[],rfl,hr,ReadsW.bool true,hp,λ_=>⟨List.nodup_nil,λ_ hm=>(nomatch hm)⟩⟩,⟨λb o e=>?_,λb o e=>?_⟩,bs.ext.os,bs.ext.gens hb⟩
 ·by_cases hT:Zji P1 P2 b
  ·obtain⟨ps,e'⟩:=tab hT;have e0:=(X.tabs hT).2;rw[e]at e0;rw[Hcu e0];exact .inr (.inl ⟨(X.tabs hT).1,rfl,#[],ps,rfl,e'.trans (by rw[Array.empty_append])⟩)
  ·exact .inl (bs.ext.keep b o hT e)
 ·by_cases hT:Zji P1 P2 b
  ·obtain⟨ps,e'⟩:=tab hT;exact⟨_,e'⟩
  ·exact⟨_,bs.ext.keep b o hT e⟩
theorem law2_end(X:Hd mean mg mb s0 262 N mN P1 P2){fa:Addr}(hfa:mg "law"=some (.ref fa)){xs:List Int}(hxs:xs.length<=63){l:Addr}{vs:List Value}(hl:s0.heap.get? l=some {cls:=.type "list",data:=.seq vs.toArray})(hI:IntsAre vs xs)
  {cc:ClaimW}{cl:Str->Option Addr}{mean':ExcName->Option Value}{args:List WData}(hg:s0.gens= #[])(hr:∀cls,cc.raises args cls=false)(hp:cc.post args (.bool true) args=true){E:Value->Shared->Prop}:
  wpAny (model prog w) callerA (call (.ref fa) [.ref l]) (λv s'=>GoodWG cc cl mean' args s0 (.ok (.ret v)) s') E s0:=by
 obtain⟨σ,hg',a,G,hcall⟩:=Ya6 (k:=0) tabs (X.pk (prog:=prog) (w:=w)) (Hag (by decide:(262:Int).natAbs<=2^9) (Ha2 (by decide) (by decide))) (by decide) hxs
  (Zdp X.T 18 (by kernel_rfl) (by kernel_rfl) (by kernel_rfl) (λ_ _ _=>Zh0 λ_=>by kernel_rfl) rfl (by kernel_rfl) (by kernel_rfl))
 have e:fa=a:=Value.ref.inj (Hcu (hfa.symm.trans (show mg (fn2 14)=some (.ref a)from G.1)));rw[e];have bs:Bs (Zji P1 P2) mg mb s0 s0:=⟨.refl,λb hb=>Zot (X.tabs hb).2,gl2 X.T⟩
 refine hcall callerA E (λ_=>False) s0 [.ref l] _ ⟨rfl,by decide+kernel,by decide+kernel⟩ bs (λ_ h=>h.elim) (.cons (.lst id (n:=0) hl (Zok hI)) .nil) λv s' x r=>?_
 cases r with|bool b=>exact Yjs X (bs.step x) hr hp (by rw[hg];exact .empty)
end
end Mine.Internal
open PySem PySem.W PyProof.Rows
open PySem.W.X PySem.W.ZRun
namespace Mine.Internal
theorem hd_of {w : World} {s₀ s₁ : Shared} {mg mb : Str → Option Value} {R : WRecords} {XP : (Str → Option Value) → Heap → Prop} (G : Ground q2 loose2 R XP w s₀ mg mb s₁.heap) (y : obs2 s₀ = val2 w) (kp : ∀ b o, s₀.heap.get? b = some o → s₁.heap.get? b = some o) :
    ∃ N mN P1 P2, Hd (ExcName.means s₀.heap) mg mb s₁ 262 N mN P1 P2 := by
  have y1 : reYf s₀ = reYa w := congrArg Prod.fst y
  have y2 : (s₀.heap.get? sysModules).isSome = true := congrArg (fun x => x.2.1) y
  have y3 : classAt s₀.heap "Headers" = some 262 := congrArg (fun x => x.2.2) y
  obtain ⟨C, N, mN, hm, P⟩ := G.TD cls2 (mem_at (by kernel_rfl))
  obtain ⟨P1, t1⟩ := tab_at G.T (i := 3) (by kernel_rfl)
  obtain ⟨P2, t2⟩ := tab_at G.T (i := 4) (by kernel_rfl)
  obtain ⟨o, ho⟩ := Option.isSome_iff_exists.mp y2
  have h1 := (G.cls _ _).mp y3
  have hm : mg "Headers" = some (.ref C) := (show cls2.name = ("Headers" : Str) by kernel_rfl) ▸ hm
  rw [h1] at hm
  rw [← Value.ref.inj (Option.some.inj hm)] at P
  exact ⟨N, mN, P1, P2, G.T, res_of y1 G.cls kp, ⟨h1, P⟩, ⟨o, kp _ _ ho⟩, t1, t2⟩
end Mine.Internal
set_option maxRecDepth 100000 in
set_option maxHeartbeats 8000000 in
theorem PySem.Challenge.cw_ta0098_02_holds : PySem.Challenge.rw_ta0098_02.Holds := by
  w_on
  refine holds_law Mine.Internal.said2 fun said => ?_
  refine holds_openX (q := Mine.Internal.q2) (loose := Mine.Internal.loose2) (Xt := fun s => xlAt Mine.Internal.q2 [] s && recOk (RowW.records (PySem.Challenge.rw_ta0098_02.row.toRowW)) s) (XP := XL Mine.Internal.q2 []) (Yf := Mine.Internal.obs2) (Ya := Mine.Internal.val2) (d := Mine.Internal.rec2 18) (kwd := []) (N := 3678) Mine.Internal.left2 (fun s e => xl_of s (Bool.and_eq_true_iff.mp e).1) XL.keeps (by kernel_rfl) (by kernel_rfl) (by kernel_rfl) (fun s e => recFacts_of (Bool.and_eq_true_iff.mp e).2) (by kernel_rfl) (by assumption) (by kernel_rfl) ⟨rfl, rfl, rfl, rfl, rfl, by decide +kernel⟩ ?hw ?hc
  case hw => exact ⟨[ofPy (PyData.list [])], by decide +kernel, by decide +kernel⟩
  case hc =>
    intro w s₀ s₁ mg mb G y fa o pm cd doc dV kV ho hd hcd hD hmg hg args vals as L hpre hlay hrd hwl hlo
    obtain ⟨N, mN, P1, P2, X⟩ := Mine.Internal.hd_of G y L.keeps
    have hfa : mg "law" = some (.ref fa) := (show (Mine.Internal.rec2 18).name = ("law" : Str) by kernel_rfl) ▸ hmg
    clear ho hd hcd hD hmg
    wrow_args hpre hlay hrd hwl hlo
    rename IntsAre _ _ => hI
    rename Heap.IsList _ _ _ => hL
    refine Mine.Internal.law2_end X hfa ?_ (script_obj L hL) hI hg (fun _ => rfl) ?_
    · omega
    · wrow_post
